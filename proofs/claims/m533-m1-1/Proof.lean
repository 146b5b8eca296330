import JvmDerived
import JvmDerived.Pilot.@@N@@Statement
import JvmDerived.Pilot.@@N@@Code
set_option linter.unusedVariables false
set_option linter.unusedSimpArgs false
namespace Jvm.RoadKit
open Sem ClassFile Op Lib Jvm.Stand Jvm.Free Jvm.LawKit
section New
variable {p : Program} {l : Launch} {e : Env} {R : Room} {s : State} {m : MethodId} {args : Array Value} {below : List Frame} {meth : Method} {c : Code} {T : State} {locs : List Loc} {cells slots : Nat}
theorem retI (X : Stand p l e R s m args below meth c T locs cells slots) (hx : p.tables.exec = Jvm.exec) {pc : Nat} {Ls : Array Slot} {z : Int32} {rest : List Value} (hret : meth.sig.returnType = some .int) (hd : decode c.code pc = .ok (.ireturn, 1)) {fs : List Frame}
    (hl : ∀ (f : JFrame) (acts : List Action), f.method = m → f.locked = none → f.entered = [] → (doReturn e (T.setTop f) acts (some (.int z))).1 = T.setFrames fs) : Steps p.tables e below (T.setTop (mkF m pc Ls (.int z :: rest))) (T.setFrames fs) := by
  have hm' : T.vm.method? m = some meth := X.method'
  have hn : narrow .int (.int z) = .int z := rfl
  show Steps p.tables e below (T.setTop { method := m, pc := pc, locals := Ls, stack := _ :: rest, locked := none }) _
  jvm_step X.here [X.here.top, hx, hd, hm', hret, hn]
  first | (intro acts; rw [hl _ acts rfl rfl rfl]) | rw [hl _ _ rfl rfl rfl]
  exact Steps.refl _
theorem retR (X : Stand p l e R s m args below meth c T locs cells slots) (hx : p.tables.exec = Jvm.exec) {pc : Nat} {Ls : Array Slot} {w : Value} {t : FieldType} {rest : List Value} (hret : meth.sig.returnType = some t) (hn : narrow t w = w) (ht : t.isReference = true) (hw : w.isRef = true) (hd : decode c.code pc = .ok (.areturn, 1)) {fs : List Frame}
    (hl : ∀ (f : JFrame) (acts : List Action), f.method = m → f.locked = none → f.entered = [] → (doReturn e (T.setTop f) acts (some w)).1 = T.setFrames fs) : Steps p.tables e below (T.setTop (mkF m pc Ls (w :: rest))) (T.setFrames fs) := by
  have hm' : T.vm.method? m = some meth := X.method'
  show Steps p.tables e below (T.setTop { method := m, pc := pc, locals := Ls, stack := _ :: rest, locked := none }) _
  jvm_step X.here [X.here.top, hx, hd, hm', hret, hn, hw]
  try (refine ⟨ht, ?_⟩)
  first | (intro acts; rw [hl _ acts rfl rfl rfl]) | rw [hl _ _ rfl rfl rfl]
  exact Steps.refl _
end New
end Jvm.RoadKit
/- laws to paste: pair_says, chr8_lo8, narrow_ch, shr0 (cut by pick.py; bodies as the Statement names them) -/
namespace Jvm.Pilot.@@N@@
namespace StrChars
open Jvm Sem ClassFile Op Lib Jvm.Stand Jvm.Free.XT Jvm.Free.ALB Jvm.Free.JM Jvm.Free
open Jvm.Lib.Cold (StaticIs)
/-- the byte that i2b leaves of a char -/
def lo8 (x : Int32) : Int32 := x.toInt8.toInt32
/-- the byte, read back as charAt reads it, is the char -/
theorem lo8_mask {x : Int32} (h0 : ¬ x < 0) (h1 : ¬ 255 < x) : lo8 x &&& 255 = x := by
  have t : ∀ k : Fin 256, lo8 (Int32.ofNat k.val) &&& 255 = Int32.ofNat k.val := by decide +kernel
  rw [Int32.lt_iff_toInt_lt] at h0 h1
  have e0 : (0 : Int32).toInt = 0 := rfl
  have e1 : (255 : Int32).toInt = 255 := rfl
  obtain ⟨k, hk⟩ : ∃ k : Nat, x.toInt = k := ⟨x.toInt.toNat, by omega⟩
  have hx : x = Int32.ofNat k := Int32.toInt_inj.mp (by rw [hk, Int32.toInt_ofNat_small (by omega)])
  rw [hx]
  exact t ⟨k, by omega⟩
end StrChars
namespace StrChars
open Jvm Sem ClassFile Op Lib Jvm.Stand Jvm.Free.XT Jvm.Free.ALB Jvm.Free.JM Jvm.Free
open Jvm.Lib.Cold (StaticIs)
def hi8 (x : Int32) : Int32 := lo8 (x >>> ((8 : Int32) &&& 31))
/-- what StringUTF16.getChar makes of two bytes -/
def pairCh (u v : Int32) : Int32 := (((u &&& 255) <<< ((0 : Int32) &&& 31)) ||| ((v &&& 255) <<< ((8 : Int32) &&& 31))).toUInt32.toUInt16.toUInt32.toInt32
theorem shr0 (c : Int32) : c >>> ((0 : Int32) &&& 31) = c := by
  have e : ((0 : Int32) &&& 31) = 0 := by decide
  rw [e]
  apply Int32.toBitVec_inj.mp
  rw [Int32.toBitVec_shiftRight]
  have e1 : ((0 : Int32).toBitVec.smod 32) = 0#32 := by decide
  rw [e1, BitVec.sshiftRight_eq']
  exact BitVec.sshiftRight_zero
theorem lo8_and (x : Int32) : (lo8 x &&& 255).toBitVec.toNat = x.toBitVec.toNat % 256 := by
  have h : (lo8 x).toBitVec = (x.toBitVec.signExtend 8).signExtend 32 := by rw [lo8, Int8.toBitVec_toInt32, Int32.toBitVec_toInt8]
  rw [Int32.toBitVec_and, BitVec.toNat_and, h]
  have e : ((x.toBitVec.signExtend 8).signExtend 32).toNat % 256 = x.toBitVec.toNat % 256 := by
    rw [BitVec.toNat_signExtend]
    have hlt := x.toBitVec.isLt
    simp only [BitVec.toNat_setWidth, BitVec.toNat_signExtend]
    split <;> split <;> omega
  rw [← e]
  exact Nat.and_two_pow_sub_one_eq_mod _ 8
theorem pair_says {c : Int32} (h0 : ¬ c < 0) (h1 : ¬ 65535 < c) : pairCh (lo8 c) (hi8 c) = c := by
  rw [Int32.lt_iff_toInt_lt] at h0 h1
  have e0 : (0 : Int32).toInt = 0 := rfl
  have e1 : (65535 : Int32).toInt = 65535 := rfl
  have hc : c.toInt = c.toBitVec.toNat := by
    have := c.toBitVec.isLt
    have e : c.toInt = c.toBitVec.toInt := rfl
    rw [e] at h0 h1
    rw [e]
    rw [BitVec.toInt_eq_toNat_cond] at h0 h1 ⊢
    split at h0 <;> split <;> omega
  have hn : c.toBitVec.toNat < 65536 := by omega
  have a1 := lo8_and c
  have a2 : (hi8 c &&& 255).toBitVec.toNat = c.toBitVec.toNat / 256 := by
    rw [hi8, lo8_and]
    have e : ((8 : Int32) &&& 31) = 8 := by decide
    rw [e, Int32.toBitVec_shiftRight]
    have e2 : ((8 : Int32).toBitVec.smod 32) = 8#32 := by decide
    rw [e2, BitVec.sshiftRight_eq', BitVec.toNat_sshiftRight_of_msb_false (by rw [BitVec.msb_eq_false_iff_two_mul_lt]; omega)]
    show c.toBitVec.toNat >>> 8 % 256 = _
    rw [Nat.shiftRight_eq_div_pow]
    omega
  unfold pairCh
  apply Int32.toBitVec_inj.mp
  apply BitVec.eq_of_toNat_eq
  have f0 : ((0 : Int32) &&& 31) = 0 := by decide
  have f8 : ((8 : Int32) &&& 31) = 8 := by decide
  rw [f0, f8]
  have g : (((lo8 c &&& 255) <<< (0 : Int32)) ||| ((hi8 c &&& 255) <<< (8 : Int32))).toBitVec.toNat = c.toBitVec.toNat := by
    rw [Int32.toBitVec_or, Int32.toBitVec_shiftLeft, Int32.toBitVec_shiftLeft]
    have s0 : ((0 : Int32).toBitVec.smod 32) = 0#32 := by decide
    have s8 : ((8 : Int32).toBitVec.smod 32) = 8#32 := by decide
    rw [s0, s8, BitVec.toNat_or]
    simp only [BitVec.shiftLeft_eq', BitVec.toNat_shiftLeft, a1, a2]
    show (c.toBitVec.toNat % 256) <<< 0 % 2 ^ 32 ||| (c.toBitVec.toNat / 256) <<< 8 % 2 ^ 32 = _
    rw [Nat.shiftLeft_zero, Nat.mod_eq_of_lt (show c.toBitVec.toNat % 256 < 2 ^ 32 by omega), Nat.mod_eq_of_lt (show (c.toBitVec.toNat / 256) <<< 8 < 2 ^ 32 by rw [Nat.shiftLeft_eq]; omega), Nat.or_comm, ← Nat.shiftLeft_add_eq_or_of_lt (by omega), Nat.shiftLeft_eq]
    omega
  show BitVec.toNat (((((lo8 c &&& 255) <<< (0 : Int32)) ||| ((hi8 c &&& 255) <<< (8 : Int32))).toBitVec.setWidth 16).setWidth 32) = _
  rw [BitVec.toNat_setWidth, BitVec.toNat_setWidth, g]
  omega
end StrChars
namespace StrChars
open Jvm Sem ClassFile Op Lib Jvm.Stand Jvm.Free.XT Jvm.Free.ALB Jvm.Free.JM Jvm.Free
open Jvm.Lib.Cold (StaticIs)
/-- charAt's cast of a byte read back -/
def chr8 (u : Int32) : Int32 := (u &&& 255).toUInt32.toUInt16.toUInt32.toInt32
theorem chr8_lo8 {c : Int32} (h0 : ¬ c < 0) (h1 : ¬ 255 < c) : chr8 (lo8 c) = c := by
  have t : ∀ k : Fin 256, (Int32.ofNat k.val).toUInt32.toUInt16.toUInt32.toInt32 = Int32.ofNat k.val := by decide +kernel
  unfold chr8
  rw [lo8_mask h0 h1]
  rw [Int32.lt_iff_toInt_lt] at h0 h1
  have e0 : (0 : Int32).toInt = 0 := rfl
  have e1 : (255 : Int32).toInt = 255 := rfl
  obtain ⟨k, hk⟩ : ∃ k : Nat, c.toInt = k := ⟨c.toInt.toNat, by omega⟩
  have hx : c = Int32.ofNat k := Int32.toInt_inj.mp (by rw [hk, Int32.toInt_ofNat_small (by omega)])
  rw [hx]
  exact t ⟨k, by omega⟩
theorem narrow_ch {c : Int32} (h0 : ¬ c < 0) (h1 : ¬ 65535 < c) : narrow .char (.int c) = .int c := by
  have q : narrow .char (.int (pairCh (lo8 c) (hi8 c))) = .int (pairCh (lo8 c) (hi8 c)) := narrow_c _
  rwa [pair_says h0 h1] at q
end StrChars
end Jvm.Pilot.@@N@@

namespace Jvm.Pilot.@@N@@
open Jvm Jvm.ClassFile Sem Op Lib Jvm.Free Jvm.Stand Jvm.LawKit Jvm.RoadKit Bundle Jvm.Pilot.@@N@@.Jvm.D
theorem own_lt {a b : Nat} (h : a < b) : @LT.lt Addr _ a b := h
theorem own_ne {a b : Nat} (h : a < b ∨ b < a) : (a : Addr) ≠ b := fun e => by have e' : (a : Nat) = b := e; omega
abbrev SS (p : Program) (e : Env) (below : List Frame) (B T : State) (m : MethodId) (pc : Nat) (ls : Array Slot) (st : List Value) : Prop := Steps p.tables e below B (T.setTop (mkF m pc ls st))
theorem W {Z : State} {a0 : Array Value} (hw : ∀ d ∈ tables_1, d.before a0 Z = true) (k : Nat) {d : Jvm.Cond} (h : tables_1[k]? = some d := by rfl) : d.before a0 Z = true := hw _ (List.mem_of_getElem? h)
theorem own_safe_null {Z : State} {EL : List (String × Nat)} {vm : Vm} {h : Heap} {x : Addr} (hal : Z.vm.Alike vm) (E : Exa Z h x "java/lang/String") (V : Fld Z h x "java/lang/String" "value" "[B" .null) : Safe Z EL vm h x := fun B => by
  obtain ⟨p, -, u, a, -, q, -, F, rfl | rfl⟩ := B
  · obtain ⟨cS, ⟨⟨s1, s2, s3, ⟨cv, kv, iv, s4, s4'⟩, s5, s6, s7, s8, -⟩, -⟩, -⟩ := F
    obtain ⟨cell, cf, k, i, f, h1, h2, h3, -, -, -, h7⟩ := V
    obtain ⟨kv', z4⟩ := ff_back (U := Wst Z vm h) hal s4
    cases h2.symm.trans z4
    cases h1.symm.trans s1
    rw [s8] at h7
    cases h7
  · obtain ⟨cell, k, e1, e2, e3, -, -⟩ := E
    cases (show h[q.sd]? = some q.SA from F.hd).symm.trans e1
    obtain ⟨cS, -, -, f, -⟩ := F
    have f' : vm.findClass "[B" = some q.SA.cls := f
    rw [hal.findClass] at f'
    obtain ⟨k1, q1, q2⟩ := Vm.findClass_spec f'
    obtain ⟨k2, q3, q4⟩ := Vm.findClass_spec e2
    cases q1.symm.trans q3
    exact absurd (q2.symm.trans q4) (by decide)
theorem and255_chars (x : Int32) : ¬ nar .char ((x &&& (255 : Int32)).toUInt32.toUInt16.toUInt32.toInt32) < 0 ∧ ¬ (255 : Int32) < nar .char ((x &&& (255 : Int32)).toUInt32.toUInt16.toUInt32.toInt32) := by
  have t : ∀ k : Fin 256, ¬ nar .char ((Int32.ofNat k.val).toUInt32.toUInt16.toUInt32.toInt32) < 0 ∧ ¬ (255 : Int32) < nar .char ((Int32.ofNat k.val).toUInt32.toUInt16.toUInt32.toInt32) := by decide +kernel
  have h : (x &&& 255).toBitVec.toNat < 256 := by
    simp only [Int32.toBitVec_and, BitVec.toNat_and]
    exact Nat.lt_succ_of_le Nat.and_le_right
  have e : (x &&& 255) = Int32.ofNat (x &&& 255).toBitVec.toNat := by
    apply Int32.toBitVec_inj.mp
    show _ = BitVec.ofNat 32 _
    rw [BitVec.ofNat_toNat]; simp
  rw [e]
  exact t ⟨_, h⟩
theorem and255_i2c (x : Int32) : ¬ (255 : Int32) < (x &&& (255 : Int32)).toUInt32.toUInt16.toUInt32.toInt32 := by
  rw [i2c_mask, Int32.lt_iff_toInt_lt]
  have h := c_and x 255 (by decide)
  have e : (255 : Int32).toInt = 255 := by decide
  omega
theorem own_utf {c : Int32} (h0 : ¬ c < 0) (h1 : ¬ (65535 : Int32) < c) : nar .char (((((nar .byte ((c >>> ((0 : Int32) &&& 31)).toInt8.toInt32)) &&& (255 : Int32)) <<< ((0 : Int32) &&& 31)) ||| (((nar .byte ((c >>> ((8 : Int32) &&& 31)).toInt8.toInt32)) &&& (255 : Int32)) <<< ((8 : Int32) &&& 31))).toUInt32.toUInt16.toUInt32.toInt32) = c := by
  have b : ∀ y : Int32, nar .byte (y.toInt8.toInt32) = y.toInt8.toInt32 := fun y => by simp [nar]
  have k : ∀ y : Int32, nar .char (y.toUInt32.toUInt16.toUInt32.toInt32) = y.toUInt32.toUInt16.toUInt32.toInt32 := fun y => by simp only [nar, UInt32.toUInt32_toInt32, UInt16.toUInt16_toUInt32]
  rw [k, b, b, StrChars.shr0]
  exact StrChars.pair_says h0 h1
theorem own_lat {c : Int32} (h0 : ¬ c < 0) (h1 : ¬ (255 : Int32) < c) : nar .char (((nar .byte (c.toInt8.toInt32)) &&& (255 : Int32)).toUInt32.toUInt16.toUInt32.toInt32) = c := by
  have b : ∀ y : Int32, nar .byte (y.toInt8.toInt32) = y.toInt8.toInt32 := fun y => by simp [nar]
  have k : ∀ y : Int32, nar .char (y.toUInt32.toUInt16.toUInt32.toInt32) = y.toUInt32.toUInt16.toUInt32.toInt32 := fun y => by simp only [nar, UInt32.toUInt32_toInt32, UInt16.toUInt16_toUInt32]
  rw [k, b]
  exact StrChars.chr8_lo8 h0 h1
theorem own_nar {c : Int32} (h0 : ¬ c < 0) (h1 : ¬ (65535 : Int32) < c) : nar .char c = c := by
  have q := StrChars.narrow_ch h0 h1
  simpa [narrow, nar] using q
theorem own_and3 (x : Int32) : x &&& (3 : Int32) = 0 ∨ x &&& (3 : Int32) = 1 ∨ x &&& (3 : Int32) = 2 ∨ x &&& (3 : Int32) = 3 := by
  have h := c_and x 3 (by decide)
  have e : (3 : Int32).toInt = 3 := by decide
  rw [e] at h
  have k : (x &&& (3 : Int32)).toInt = 0 ∨ (x &&& (3 : Int32)).toInt = 1 ∨ (x &&& (3 : Int32)).toInt = 2 ∨ (x &&& (3 : Int32)).toInt = 3 := by omega
  rcases k with k | k | k | k
  · exact Or.inl (Int32.toInt_inj.mp (k.trans (by decide)))
  · exact Or.inr (Or.inl (Int32.toInt_inj.mp (k.trans (by decide))))
  · exact Or.inr (Or.inr (Or.inl (Int32.toInt_inj.mp (k.trans (by decide)))))
  · exact Or.inr (Or.inr (Or.inr (Int32.toInt_inj.mp (k.trans (by decide)))))
theorem own_char (x : Int32) : ¬ nar .char x < 0 ∧ ¬ (65535 : Int32) < nar .char x := rng_char (fits_nar_char x)
theorem ef_RRIIN_6 (m : MethodId) (x0 : Addr) (x1 : Addr) (x2 : Int32) (x3 : Int32) : entryFrame m #[(.ref x0), (.ref x1), (.int x2), (.int x3), .null] 6 = mkF m 0 #[.val (.ref x0), .val (.ref x1), .val (.int x2), .val (.int x3), .val .null, .unset] [] := by first | (simp [entryFrame, mkF, argsToLocals, Value.category, maxLocals]; done) | rfl
theorem pn_java_lang_String : plainName "java/lang/String" = true := by first | (simp [plainName, overriddenIn]; done) | decide +kernel
theorem d0_0 : decode jdk_42_method_149_code 0 = .ok (.aload_n 0, 1) := by decide +kernel
theorem d0_1 : decode jdk_42_method_149_code 1 = .ok (.invokespecial 1, 3) := by decide +kernel
theorem d0_4 : decode jdk_42_method_149_code 4 = .ok (.iload_n 3, 1) := by decide +kernel
theorem d0_5 : decode jdk_42_method_149_code 5 = .ok (.ifCond .ne 22, 3) := by decide +kernel
theorem d0_8 : decode jdk_42_method_149_code 8 = .ok (.aload_n 0, 1) := by decide +kernel
theorem d0_9 : decode jdk_42_method_149_code 9 = .ok (.ldc 7, 2) := by decide +kernel
theorem d0_11 : decode jdk_42_method_149_code 11 = .ok (.getfield 9, 3) := by decide +kernel
theorem d0_14 : decode jdk_42_method_149_code 14 = .ok (.putfield 9, 3) := by decide +kernel
theorem d0_17 : decode jdk_42_method_149_code 17 = .ok (.aload_n 0, 1) := by decide +kernel
theorem d0_18 : decode jdk_42_method_149_code 18 = .ok (.ldc 7, 2) := by decide +kernel
theorem d0_20 : decode jdk_42_method_149_code 20 = .ok (.getfield 15, 3) := by decide +kernel
theorem d0_23 : decode jdk_42_method_149_code 23 = .ok (.putfield 15, 3) := by decide +kernel
theorem d0_26 : decode jdk_42_method_149_code 26 = .ok (.return_, 1) := by decide +kernel
theorem ef_RR_2 (m : MethodId) (x0 : Addr) (x1 : Addr) : entryFrame m #[(.ref x0), (.ref x1)] 2 = mkF m 0 #[.val (.ref x0), .val (.ref x1)] [] := by first | (simp [entryFrame, mkF, argsToLocals, Value.category, maxLocals]; done) | rfl
theorem d1_0 : decode jdk_42_method_3_code 0 = .ok (.aload_n 0, 1) := by decide +kernel
theorem d1_1 : decode jdk_42_method_3_code 1 = .ok (.aload_n 1, 1) := by decide +kernel
theorem d1_2 : decode jdk_42_method_3_code 2 = .ok (.iconst 0, 1) := by decide +kernel
theorem d1_3 : decode jdk_42_method_3_code 3 = .ok (.aload_n 1, 1) := by decide +kernel
theorem d1_4 : decode jdk_42_method_3_code 4 = .ok (.arraylength, 1) := by decide +kernel
theorem d1_5 : decode jdk_42_method_3_code 5 = .ok (.aconst_null, 1) := by decide +kernel
theorem d1_6 : decode jdk_42_method_3_code 6 = .ok (.invokespecial 27, 3) := by decide +kernel
theorem pd___CIILjava_lang_Void__V : parseMethodDescriptor "([CIILjava/lang/Void;)V" = some ⟨[(.array .char), .int, .int, (.object "java/lang/Void")], none⟩ := by decide +kernel
theorem d1_9 : decode jdk_42_method_3_code 9 = .ok (.return_, 1) := by decide +kernel
theorem ef_I_1 (m : MethodId) (x0 : Int32) : entryFrame m #[(.int x0)] 1 = mkF m 0 #[.val (.int x0)] [] := by first | (simp [entryFrame, mkF, argsToLocals, Value.category, maxLocals]; done) | rfl
theorem pn_java_lang_StringLatin1 : plainName "java/lang/StringLatin1" = true := by first | (simp [plainName, overriddenIn]; done) | decide +kernel
theorem d2_0 : decode jdk_43_method_3_code 0 = .ok (.iload_n 0, 1) := by decide +kernel
theorem d2_1 : decode jdk_43_method_3_code 1 = .ok (.sipush 255, 3) := by decide +kernel
theorem d2_4 : decode jdk_43_method_3_code 4 = .ok (.if_icmp .gt 7, 3) := by decide +kernel
theorem d2_7 : decode jdk_43_method_3_code 7 = .ok (.iconst 1, 1) := by decide +kernel
theorem d2_8 : decode jdk_43_method_3_code 8 = .ok (.goto 4, 3) := by decide +kernel
theorem d2_12 : decode jdk_43_method_3_code 12 = .ok (.ireturn, 1) := by decide +kernel
theorem d3_0 : decode jdk_43_method_46_code 0 = .ok (.iconst 1, 1) := by decide +kernel
theorem d3_1 : decode jdk_43_method_46_code 1 = .ok (.newarray .byte, 2) := by decide +kernel
theorem d3_3 : decode jdk_43_method_46_code 3 = .ok (.dup, 1) := by decide +kernel
theorem d3_4 : decode jdk_43_method_46_code 4 = .ok (.iconst 0, 1) := by decide +kernel
theorem d3_5 : decode jdk_43_method_46_code 5 = .ok (.iload_n 0, 1) := by decide +kernel
theorem d3_6 : decode jdk_43_method_46_code 6 = .ok (.i2b, 1) := by decide +kernel
theorem d3_7 : decode jdk_43_method_46_code 7 = .ok (.bastore, 1) := by decide +kernel
theorem d3_8 : decode jdk_43_method_46_code 8 = .ok (.areturn, 1) := by decide +kernel
theorem ef_RRI_3 (m : MethodId) (x0 : Addr) (x1 : Addr) (x2 : Int32) : entryFrame m #[(.ref x0), (.ref x1), (.int x2)] 3 = mkF m 0 #[.val (.ref x0), .val (.ref x1), .val (.int x2)] [] := by first | (simp [entryFrame, mkF, argsToLocals, Value.category, maxLocals]; done) | rfl
theorem d4_0 : decode jdk_42_method_151_code 0 = .ok (.aload_n 0, 1) := by decide +kernel
theorem d4_1 : decode jdk_42_method_151_code 1 = .ok (.invokespecial 1, 3) := by decide +kernel
theorem d4_4 : decode jdk_42_method_151_code 4 = .ok (.aload_n 0, 1) := by decide +kernel
theorem d4_5 : decode jdk_42_method_151_code 5 = .ok (.aload_n 1, 1) := by decide +kernel
theorem d4_6 : decode jdk_42_method_151_code 6 = .ok (.putfield 9, 3) := by decide +kernel
theorem d4_9 : decode jdk_42_method_151_code 9 = .ok (.aload_n 0, 1) := by decide +kernel
theorem d4_10 : decode jdk_42_method_151_code 10 = .ok (.iload_n 2, 1) := by decide +kernel
theorem d4_11 : decode jdk_42_method_151_code 11 = .ok (.putfield 15, 3) := by decide +kernel
theorem d4_14 : decode jdk_42_method_151_code 14 = .ok (.return_, 1) := by decide +kernel
theorem d5_0 : decode jdk_42_method_139_code 0 = .ok (.getstatic 38, 3) := by decide +kernel
theorem d5_3 : decode jdk_42_method_139_code 3 = .ok (.ifCond .eq 23, 3) := by decide +kernel
theorem d5_6 : decode jdk_42_method_139_code 6 = .ok (.iload_n 0, 1) := by decide +kernel
theorem d5_7 : decode jdk_42_method_139_code 7 = .ok (.invokestatic 1015, 3) := by decide +kernel
theorem pd__C_Z : parseMethodDescriptor "(C)Z" = some ⟨[.char], some .boolean⟩ := by decide +kernel
theorem d5_10 : decode jdk_42_method_139_code 10 = .ok (.ifCond .eq 16, 3) := by decide +kernel
theorem d5_13 : decode jdk_42_method_139_code 13 = .ok (.new 10, 3) := by decide +kernel
theorem d5_16 : decode jdk_42_method_139_code 16 = .ok (.dup, 1) := by decide +kernel
theorem d5_17 : decode jdk_42_method_139_code 17 = .ok (.iload_n 0, 1) := by decide +kernel
theorem d5_18 : decode jdk_42_method_139_code 18 = .ok (.invokestatic 1018, 3) := by decide +kernel
theorem pd__C__B : parseMethodDescriptor "(C)[B" = some ⟨[.char], some (.array .byte)⟩ := by decide +kernel
theorem d5_21 : decode jdk_42_method_139_code 21 = .ok (.iconst 0, 1) := by decide +kernel
theorem d5_22 : decode jdk_42_method_139_code 22 = .ok (.invokespecial 209, 3) := by decide +kernel
theorem pd___BB_V : parseMethodDescriptor "([BB)V" = some ⟨[(.array .byte), .byte], none⟩ := by decide +kernel
theorem d5_25 : decode jdk_42_method_139_code 25 = .ok (.areturn, 1) := by decide +kernel
theorem pn_java_lang_StringUTF16 : plainName "java/lang/StringUTF16" = true := by first | (simp [plainName, overriddenIn]; done) | decide +kernel
theorem d6_0 : decode jdk_52_method_3_code 0 = .ok (.iload_n 0, 1) := by decide +kernel
theorem d6_1 : decode jdk_52_method_3_code 1 = .ok (.ifCond .ge 11, 3) := by decide +kernel
theorem d6_12 : decode jdk_52_method_3_code 12 = .ok (.iload_n 0, 1) := by decide +kernel
theorem d6_13 : decode jdk_52_method_3_code 13 = .ok (.ldc 20, 2) := by decide +kernel
theorem d6_15 : decode jdk_52_method_3_code 15 = .ok (.if_icmp .lt 40, 3) := by decide +kernel
theorem d6_55 : decode jdk_52_method_3_code 55 = .ok (.iload_n 0, 1) := by decide +kernel
theorem d6_56 : decode jdk_52_method_3_code 56 = .ok (.iconst 1, 1) := by decide +kernel
theorem d6_57 : decode jdk_52_method_3_code 57 = .ok (.ishl, 1) := by decide +kernel
theorem d6_58 : decode jdk_52_method_3_code 58 = .ok (.ireturn, 1) := by decide +kernel
theorem d7_0 : decode jdk_52_method_2_code 0 = .ok (.iload_n 0, 1) := by decide +kernel
theorem d7_1 : decode jdk_52_method_2_code 1 = .ok (.invokestatic 11, 3) := by decide +kernel
theorem pd__I_I : parseMethodDescriptor "(I)I" = some ⟨[.int], some .int⟩ := by decide +kernel
theorem d7_4 : decode jdk_52_method_2_code 4 = .ok (.newarray .byte, 2) := by decide +kernel
theorem d7_6 : decode jdk_52_method_2_code 6 = .ok (.areturn, 1) := by decide +kernel
theorem ef_RII_3 (m : MethodId) (x0 : Addr) (x1 : Int32) (x2 : Int32) : entryFrame m #[(.ref x0), (.int x1), (.int x2)] 3 = mkF m 0 #[.val (.ref x0), .val (.int x1), .val (.int x2)] [] := by first | (simp [entryFrame, mkF, argsToLocals, Value.category, maxLocals]; done) | rfl
theorem d8_0 : decode jdk_52_method_4_code 0 = .ok (.getstatic 44, 3) := by decide +kernel
theorem d8_3 : decode jdk_52_method_4_code 3 = .ok (.ifCond .ne 25, 3) := by decide +kernel
theorem d8_28 : decode jdk_52_method_4_code 28 = .ok (.iload_n 1, 1) := by decide +kernel
theorem d8_29 : decode jdk_52_method_4_code 29 = .ok (.iconst 1, 1) := by decide +kernel
theorem d8_30 : decode jdk_52_method_4_code 30 = .ok (.ishl, 1) := by decide +kernel
theorem d8_31 : decode jdk_52_method_4_code 31 = .ok (.istore_n 1, 1) := by decide +kernel
theorem d8_32 : decode jdk_52_method_4_code 32 = .ok (.aload_n 0, 1) := by decide +kernel
theorem d8_33 : decode jdk_52_method_4_code 33 = .ok (.iload_n 1, 1) := by decide +kernel
theorem d8_34 : decode jdk_52_method_4_code 34 = .ok (.iinc 1 1, 3) := by decide +kernel
theorem d8_37 : decode jdk_52_method_4_code 37 = .ok (.iload_n 2, 1) := by decide +kernel
theorem d8_38 : decode jdk_52_method_4_code 38 = .ok (.getstatic 59, 3) := by decide +kernel
theorem d8_41 : decode jdk_52_method_4_code 41 = .ok (.ishr, 1) := by decide +kernel
theorem d8_42 : decode jdk_52_method_4_code 42 = .ok (.i2b, 1) := by decide +kernel
theorem d8_43 : decode jdk_52_method_4_code 43 = .ok (.bastore, 1) := by decide +kernel
theorem d8_44 : decode jdk_52_method_4_code 44 = .ok (.aload_n 0, 1) := by decide +kernel
theorem d8_45 : decode jdk_52_method_4_code 45 = .ok (.iload_n 1, 1) := by decide +kernel
theorem d8_46 : decode jdk_52_method_4_code 46 = .ok (.iload_n 2, 1) := by decide +kernel
theorem d8_47 : decode jdk_52_method_4_code 47 = .ok (.getstatic 63, 3) := by decide +kernel
theorem d8_50 : decode jdk_52_method_4_code 50 = .ok (.ishr, 1) := by decide +kernel
theorem d8_51 : decode jdk_52_method_4_code 51 = .ok (.i2b, 1) := by decide +kernel
theorem d8_52 : decode jdk_52_method_4_code 52 = .ok (.bastore, 1) := by decide +kernel
theorem d8_53 : decode jdk_52_method_4_code 53 = .ok (.return_, 1) := by decide +kernel
theorem ef_RII_5 (m : MethodId) (x0 : Addr) (x1 : Int32) (x2 : Int32) : entryFrame m #[(.ref x0), (.int x1), (.int x2)] 5 = mkF m 0 #[.val (.ref x0), .val (.int x1), .val (.int x2), .unset, .unset] [] := by first | (simp [entryFrame, mkF, argsToLocals, Value.category, maxLocals]; done) | rfl
theorem d9_0 : decode jdk_52_method_14_code 0 = .ok (.iload_n 2, 1) := by decide +kernel
theorem d9_1 : decode jdk_52_method_14_code 1 = .ok (.invokestatic 107, 3) := by decide +kernel
theorem pd__I__B : parseMethodDescriptor "(I)[B" = some ⟨[.int], some (.array .byte)⟩ := by decide +kernel
theorem d9_4 : decode jdk_52_method_14_code 4 = .ok (.astore_n 3, 1) := by decide +kernel
theorem d9_5 : decode jdk_52_method_14_code 5 = .ok (.iconst 0, 1) := by decide +kernel
theorem d9_6 : decode jdk_52_method_14_code 6 = .ok (.istore 4, 2) := by decide +kernel
theorem d9_8 : decode jdk_52_method_14_code 8 = .ok (.iload 4, 2) := by decide +kernel
theorem d9_10 : decode jdk_52_method_14_code 10 = .ok (.iload_n 2, 1) := by decide +kernel
theorem d9_11 : decode jdk_52_method_14_code 11 = .ok (.if_icmp .ge 21, 3) := by decide +kernel
theorem d9_14 : decode jdk_52_method_14_code 14 = .ok (.aload_n 3, 1) := by decide +kernel
theorem d9_15 : decode jdk_52_method_14_code 15 = .ok (.iload 4, 2) := by decide +kernel
theorem d9_17 : decode jdk_52_method_14_code 17 = .ok (.aload_n 0, 1) := by decide +kernel
theorem d9_18 : decode jdk_52_method_14_code 18 = .ok (.iload_n 1, 1) := by decide +kernel
theorem d9_19 : decode jdk_52_method_14_code 19 = .ok (.caload, 1) := by decide +kernel
theorem d9_20 : decode jdk_52_method_14_code 20 = .ok (.invokestatic 111, 3) := by decide +kernel
theorem pd___BII_V : parseMethodDescriptor "([BII)V" = some ⟨[(.array .byte), .int, .int], none⟩ := by decide +kernel
theorem d9_23 : decode jdk_52_method_14_code 23 = .ok (.iinc 1 1, 3) := by decide +kernel
theorem d9_26 : decode jdk_52_method_14_code 26 = .ok (.iinc 4 1, 3) := by decide +kernel
theorem d9_29 : decode jdk_52_method_14_code 29 = .ok (.goto (-21), 3) := by decide +kernel
theorem d9_32 : decode jdk_52_method_14_code 32 = .ok (.aload_n 3, 1) := by decide +kernel
theorem d9_33 : decode jdk_52_method_14_code 33 = .ok (.areturn, 1) := by decide +kernel
theorem ef_RI_2 (m : MethodId) (x0 : Addr) (x1 : Int32) : entryFrame m #[(.ref x0), (.int x1)] 2 = mkF m 0 #[.val (.ref x0), .val (.int x1)] [] := by first | (simp [entryFrame, mkF, argsToLocals, Value.category, maxLocals]; done) | rfl
theorem d10_0 : decode jdk_52_method_5_code 0 = .ok (.getstatic 44, 3) := by decide +kernel
theorem d10_3 : decode jdk_52_method_5_code 3 = .ok (.ifCond .ne 25, 3) := by decide +kernel
theorem d10_28 : decode jdk_52_method_5_code 28 = .ok (.iload_n 1, 1) := by decide +kernel
theorem d10_29 : decode jdk_52_method_5_code 29 = .ok (.iconst 1, 1) := by decide +kernel
theorem d10_30 : decode jdk_52_method_5_code 30 = .ok (.ishl, 1) := by decide +kernel
theorem d10_31 : decode jdk_52_method_5_code 31 = .ok (.istore_n 1, 1) := by decide +kernel
theorem d10_32 : decode jdk_52_method_5_code 32 = .ok (.aload_n 0, 1) := by decide +kernel
theorem d10_33 : decode jdk_52_method_5_code 33 = .ok (.iload_n 1, 1) := by decide +kernel
theorem d10_34 : decode jdk_52_method_5_code 34 = .ok (.iinc 1 1, 3) := by decide +kernel
theorem d10_37 : decode jdk_52_method_5_code 37 = .ok (.baload, 1) := by decide +kernel
theorem d10_38 : decode jdk_52_method_5_code 38 = .ok (.sipush 255, 3) := by decide +kernel
theorem d10_41 : decode jdk_52_method_5_code 41 = .ok (.iand, 1) := by decide +kernel
theorem d10_42 : decode jdk_52_method_5_code 42 = .ok (.getstatic 59, 3) := by decide +kernel
theorem d10_45 : decode jdk_52_method_5_code 45 = .ok (.ishl, 1) := by decide +kernel
theorem d10_46 : decode jdk_52_method_5_code 46 = .ok (.aload_n 0, 1) := by decide +kernel
theorem d10_47 : decode jdk_52_method_5_code 47 = .ok (.iload_n 1, 1) := by decide +kernel
theorem d10_48 : decode jdk_52_method_5_code 48 = .ok (.baload, 1) := by decide +kernel
theorem d10_49 : decode jdk_52_method_5_code 49 = .ok (.sipush 255, 3) := by decide +kernel
theorem d10_52 : decode jdk_52_method_5_code 52 = .ok (.iand, 1) := by decide +kernel
theorem d10_53 : decode jdk_52_method_5_code 53 = .ok (.getstatic 63, 3) := by decide +kernel
theorem d10_56 : decode jdk_52_method_5_code 56 = .ok (.ishl, 1) := by decide +kernel
theorem d10_57 : decode jdk_52_method_5_code 57 = .ok (.ior, 1) := by decide +kernel
theorem d10_58 : decode jdk_52_method_5_code 58 = .ok (.i2c, 1) := by decide +kernel
theorem d10_59 : decode jdk_52_method_5_code 59 = .ok (.ireturn, 1) := by decide +kernel
theorem ef_RIRII_7 (m : MethodId) (x0 : Addr) (x1 : Int32) (x2 : Addr) (x3 : Int32) (x4 : Int32) : entryFrame m #[(.ref x0), (.int x1), (.ref x2), (.int x3), (.int x4)] 7 = mkF m 0 #[.val (.ref x0), .val (.int x1), .val (.ref x2), .val (.int x3), .val (.int x4), .unset, .unset] [] := by first | (simp [entryFrame, mkF, argsToLocals, Value.category, maxLocals]; done) | rfl
theorem d11_0 : decode jdk_52_method_21_code 0 = .ok (.iconst 0, 1) := by decide +kernel
theorem d11_1 : decode jdk_52_method_21_code 1 = .ok (.istore 5, 2) := by decide +kernel
theorem d11_3 : decode jdk_52_method_21_code 3 = .ok (.iload 5, 2) := by decide +kernel
theorem d11_5 : decode jdk_52_method_21_code 5 = .ok (.iload 4, 2) := by decide +kernel
theorem d11_7 : decode jdk_52_method_21_code 7 = .ok (.if_icmp .ge 37, 3) := by decide +kernel
theorem d11_10 : decode jdk_52_method_21_code 10 = .ok (.aload_n 0, 1) := by decide +kernel
theorem d11_11 : decode jdk_52_method_21_code 11 = .ok (.iload_n 1, 1) := by decide +kernel
theorem d11_12 : decode jdk_52_method_21_code 12 = .ok (.caload, 1) := by decide +kernel
theorem d11_13 : decode jdk_52_method_21_code 13 = .ok (.istore 6, 2) := by decide +kernel
theorem d11_15 : decode jdk_52_method_21_code 15 = .ok (.iload 6, 2) := by decide +kernel
theorem d11_17 : decode jdk_52_method_21_code 17 = .ok (.sipush 255, 3) := by decide +kernel
theorem d11_20 : decode jdk_52_method_21_code 20 = .ok (.if_icmp .le 6, 3) := by decide +kernel
theorem d11_23 : decode jdk_52_method_21_code 23 = .ok (.iload 5, 2) := by decide +kernel
theorem d11_25 : decode jdk_52_method_21_code 25 = .ok (.ireturn, 1) := by decide +kernel
theorem d11_26 : decode jdk_52_method_21_code 26 = .ok (.aload_n 2, 1) := by decide +kernel
theorem d11_27 : decode jdk_52_method_21_code 27 = .ok (.iload_n 3, 1) := by decide +kernel
theorem d11_28 : decode jdk_52_method_21_code 28 = .ok (.iload 6, 2) := by decide +kernel
theorem d11_30 : decode jdk_52_method_21_code 30 = .ok (.i2b, 1) := by decide +kernel
theorem d11_31 : decode jdk_52_method_21_code 31 = .ok (.bastore, 1) := by decide +kernel
theorem d11_32 : decode jdk_52_method_21_code 32 = .ok (.iinc 1 1, 3) := by decide +kernel
theorem d11_35 : decode jdk_52_method_21_code 35 = .ok (.iinc 3 1, 3) := by decide +kernel
theorem d11_38 : decode jdk_52_method_21_code 38 = .ok (.iinc 5 1, 3) := by decide +kernel
theorem d11_41 : decode jdk_52_method_21_code 41 = .ok (.goto (-38), 3) := by decide +kernel
theorem d11_44 : decode jdk_52_method_21_code 44 = .ok (.iload 4, 2) := by decide +kernel
theorem d11_46 : decode jdk_52_method_21_code 46 = .ok (.ireturn, 1) := by decide +kernel
theorem ef_RII_6 (m : MethodId) (x0 : Addr) (x1 : Int32) (x2 : Int32) : entryFrame m #[(.ref x0), (.int x1), (.int x2)] 6 = mkF m 0 #[.val (.ref x0), .val (.int x1), .val (.int x2), .unset, .unset, .unset] [] := by first | (simp [entryFrame, mkF, argsToLocals, Value.category, maxLocals]; done) | rfl
theorem d12_0 : decode jdk_52_method_16_code 0 = .ok (.iload_n 2, 1) := by decide +kernel
theorem d12_1 : decode jdk_52_method_16_code 1 = .ok (.newarray .byte, 2) := by decide +kernel
theorem d12_3 : decode jdk_52_method_16_code 3 = .ok (.astore_n 3, 1) := by decide +kernel
theorem d12_4 : decode jdk_52_method_16_code 4 = .ok (.aload_n 0, 1) := by decide +kernel
theorem d12_5 : decode jdk_52_method_16_code 5 = .ok (.iload_n 1, 1) := by decide +kernel
theorem d12_6 : decode jdk_52_method_16_code 6 = .ok (.aload_n 3, 1) := by decide +kernel
theorem d12_7 : decode jdk_52_method_16_code 7 = .ok (.iconst 0, 1) := by decide +kernel
theorem d12_8 : decode jdk_52_method_16_code 8 = .ok (.iload_n 2, 1) := by decide +kernel
theorem d12_9 : decode jdk_52_method_16_code 9 = .ok (.invokestatic 115, 3) := by decide +kernel
theorem pd___CI_BII_I : parseMethodDescriptor "([CI[BII)I" = some ⟨[(.array .char), .int, (.array .byte), .int, .int], some .int⟩ := by decide +kernel
theorem d12_12 : decode jdk_52_method_16_code 12 = .ok (.istore 4, 2) := by decide +kernel
theorem d12_14 : decode jdk_52_method_16_code 14 = .ok (.iload 4, 2) := by decide +kernel
theorem d12_16 : decode jdk_52_method_16_code 16 = .ok (.iload_n 2, 1) := by decide +kernel
theorem d12_17 : decode jdk_52_method_16_code 17 = .ok (.if_icmp .eq 40, 3) := by decide +kernel
theorem d12_20 : decode jdk_52_method_16_code 20 = .ok (.aload_n 0, 1) := by decide +kernel
theorem d12_21 : decode jdk_52_method_16_code 21 = .ok (.iload_n 1, 1) := by decide +kernel
theorem d12_22 : decode jdk_52_method_16_code 22 = .ok (.iload_n 2, 1) := by decide +kernel
theorem d12_23 : decode jdk_52_method_16_code 23 = .ok (.invokestatic 119, 3) := by decide +kernel
theorem pd___CII__B : parseMethodDescriptor "([CII)[B" = some ⟨[(.array .char), .int, .int], some (.array .byte)⟩ := by decide +kernel
theorem d12_26 : decode jdk_52_method_16_code 26 = .ok (.astore 5, 2) := by decide +kernel
theorem d12_28 : decode jdk_52_method_16_code 28 = .ok (.aload 5, 2) := by decide +kernel
theorem d12_30 : decode jdk_52_method_16_code 30 = .ok (.iload 4, 2) := by decide +kernel
theorem d12_32 : decode jdk_52_method_16_code 32 = .ok (.invokestatic 71, 3) := by decide +kernel
theorem pd___BI_C : parseMethodDescriptor "([BI)C" = some ⟨[(.array .byte), .int], some .char⟩ := by decide +kernel
theorem d12_35 : decode jdk_52_method_16_code 35 = .ok (.sipush 255, 3) := by decide +kernel
theorem d12_38 : decode jdk_52_method_16_code 38 = .ok (.if_icmp .gt 16, 3) := by decide +kernel
theorem d12_54 : decode jdk_52_method_16_code 54 = .ok (.aload 5, 2) := by decide +kernel
theorem d12_56 : decode jdk_52_method_16_code 56 = .ok (.areturn, 1) := by decide +kernel
theorem d12_57 : decode jdk_52_method_16_code 57 = .ok (.aload_n 3, 1) := by decide +kernel
theorem d12_58 : decode jdk_52_method_16_code 58 = .ok (.areturn, 1) := by decide +kernel
theorem d13_0 : decode jdk_52_method_15_code 0 = .ok (.iload_n 1, 1) := by decide +kernel
theorem d13_1 : decode jdk_52_method_15_code 1 = .ok (.aload_n 0, 1) := by decide +kernel
theorem d13_2 : decode jdk_52_method_15_code 2 = .ok (.arraylength, 1) := by decide +kernel
theorem d13_3 : decode jdk_52_method_15_code 3 = .ok (.isub, 1) := by decide +kernel
theorem d13_4 : decode jdk_52_method_15_code 4 = .ok (.bipush 31, 2) := by decide +kernel
theorem d13_6 : decode jdk_52_method_15_code 6 = .ok (.iushr, 1) := by decide +kernel
theorem d13_7 : decode jdk_52_method_15_code 7 = .ok (.i2b, 1) := by decide +kernel
theorem d13_8 : decode jdk_52_method_15_code 8 = .ok (.ireturn, 1) := by decide +kernel
theorem d0_27 : decode jdk_42_method_149_code 27 = .ok (.getstatic 38, 3) := by decide +kernel
theorem d0_30 : decode jdk_42_method_149_code 30 = .ok (.ifCond .eq 28, 3) := by decide +kernel
theorem d0_33 : decode jdk_42_method_149_code 33 = .ok (.aload_n 1, 1) := by decide +kernel
theorem d0_34 : decode jdk_42_method_149_code 34 = .ok (.iload_n 2, 1) := by decide +kernel
theorem d0_35 : decode jdk_42_method_149_code 35 = .ok (.iload_n 3, 1) := by decide +kernel
theorem d0_36 : decode jdk_42_method_149_code 36 = .ok (.invokestatic 177, 3) := by decide +kernel
theorem d0_39 : decode jdk_42_method_149_code 39 = .ok (.astore 5, 2) := by decide +kernel
theorem d0_41 : decode jdk_42_method_149_code 41 = .ok (.aload_n 0, 1) := by decide +kernel
theorem d0_42 : decode jdk_42_method_149_code 42 = .ok (.aload 5, 2) := by decide +kernel
theorem d0_44 : decode jdk_42_method_149_code 44 = .ok (.iload_n 3, 1) := by decide +kernel
theorem d0_45 : decode jdk_42_method_149_code 45 = .ok (.invokestatic 47, 3) := by decide +kernel
theorem pd___BI_B : parseMethodDescriptor "([BI)B" = some ⟨[(.array .byte), .int], some .byte⟩ := by decide +kernel
theorem d0_48 : decode jdk_42_method_149_code 48 = .ok (.putfield 15, 3) := by decide +kernel
theorem d0_51 : decode jdk_42_method_149_code 51 = .ok (.aload_n 0, 1) := by decide +kernel
theorem d0_52 : decode jdk_42_method_149_code 52 = .ok (.aload 5, 2) := by decide +kernel
theorem d0_54 : decode jdk_42_method_149_code 54 = .ok (.putfield 9, 3) := by decide +kernel
theorem d0_57 : decode jdk_42_method_149_code 57 = .ok (.return_, 1) := by decide +kernel
theorem ef_IIN_3 (m : MethodId) (x0 : Int32) (x1 : Int32) : entryFrame m #[(.int x0), (.int x1), .null] 3 = mkF m 0 #[.val (.int x0), .val (.int x1), .val .null] [] := by first | (simp [entryFrame, mkF, argsToLocals, Value.category, maxLocals]; done) | rfl
theorem pn_jdk_internal_util_Preconditions : plainName "jdk/internal/util/Preconditions" = true := by first | (simp [plainName, overriddenIn]; done) | decide +kernel
theorem d14_0 : decode jdk_41_method_11_code 0 = .ok (.iload_n 0, 1) := by decide +kernel
theorem d14_1 : decode jdk_41_method_11_code 1 = .ok (.ifCond .lt 8, 3) := by decide +kernel
theorem d14_4 : decode jdk_41_method_11_code 4 = .ok (.iload_n 0, 1) := by decide +kernel
theorem d14_5 : decode jdk_41_method_11_code 5 = .ok (.iload_n 1, 1) := by decide +kernel
theorem d14_6 : decode jdk_41_method_11_code 6 = .ok (.if_icmp .lt 10, 3) := by decide +kernel
theorem d14_16 : decode jdk_41_method_11_code 16 = .ok (.iload_n 0, 1) := by decide +kernel
theorem d14_17 : decode jdk_41_method_11_code 17 = .ok (.ireturn, 1) := by decide +kernel
theorem ef_IIR_3 (m : MethodId) (x0 : Int32) (x1 : Int32) (x2 : Addr) : entryFrame m #[(.int x0), (.int x1), (.ref x2)] 3 = mkF m 0 #[.val (.int x0), .val (.int x1), .val (.ref x2)] [] := by first | (simp [entryFrame, mkF, argsToLocals, Value.category, maxLocals]; done) | rfl
theorem ef_II_2 (m : MethodId) (x0 : Int32) (x1 : Int32) : entryFrame m #[(.int x0), (.int x1)] 2 = mkF m 0 #[.val (.int x0), .val (.int x1)] [] := by first | (simp [entryFrame, mkF, argsToLocals, Value.category, maxLocals]; done) | rfl
theorem d15_0 : decode jdk_42_method_155_code 0 = .ok (.iload_n 0, 1) := by decide +kernel
theorem d15_1 : decode jdk_42_method_155_code 1 = .ok (.iload_n 1, 1) := by decide +kernel
theorem d15_2 : decode jdk_42_method_155_code 2 = .ok (.getstatic 1053, 3) := by decide +kernel
theorem d15_5 : decode jdk_42_method_155_code 5 = .ok (.invokestatic 1059, 3) := by decide +kernel
theorem pd__IILjava_util_function_BiFunction__I : parseMethodDescriptor "(IILjava/util/function/BiFunction;)I" = some ⟨[.int, .int, (.object "java/util/function/BiFunction")], some .int⟩ := by decide +kernel
theorem d15_8 : decode jdk_42_method_155_code 8 = .ok (.pop, 1) := by decide +kernel
theorem d15_9 : decode jdk_42_method_155_code 9 = .ok (.return_, 1) := by decide +kernel
theorem ef_R_1 (m : MethodId) (x0 : Addr) : entryFrame m #[(.ref x0)] 1 = mkF m 0 #[.val (.ref x0)] [] := by first | (simp [entryFrame, mkF, argsToLocals, Value.category, maxLocals]; done) | rfl
theorem d16_0 : decode jdk_42_method_152_code 0 = .ok (.getstatic 38, 3) := by decide +kernel
theorem d16_3 : decode jdk_42_method_152_code 3 = .ok (.ifCond .eq 10, 3) := by decide +kernel
theorem d16_6 : decode jdk_42_method_152_code 6 = .ok (.aload_n 0, 1) := by decide +kernel
theorem d16_7 : decode jdk_42_method_152_code 7 = .ok (.getfield 15, 3) := by decide +kernel
theorem d16_10 : decode jdk_42_method_152_code 10 = .ok (.goto 4, 3) := by decide +kernel
theorem d16_14 : decode jdk_42_method_152_code 14 = .ok (.ireturn, 1) := by decide +kernel
theorem d17_0 : decode jdk_42_method_154_code 0 = .ok (.getstatic 38, 3) := by decide +kernel
theorem d17_3 : decode jdk_42_method_154_code 3 = .ok (.ifCond .eq 14, 3) := by decide +kernel
theorem d17_6 : decode jdk_42_method_154_code 6 = .ok (.aload_n 0, 1) := by decide +kernel
theorem d17_7 : decode jdk_42_method_154_code 7 = .ok (.getfield 15, 3) := by decide +kernel
theorem d17_10 : decode jdk_42_method_154_code 10 = .ok (.ifCond .ne 7, 3) := by decide +kernel
theorem d17_13 : decode jdk_42_method_154_code 13 = .ok (.iconst 1, 1) := by decide +kernel
theorem d17_14 : decode jdk_42_method_154_code 14 = .ok (.goto 4, 3) := by decide +kernel
theorem d17_18 : decode jdk_42_method_154_code 18 = .ok (.ireturn, 1) := by decide +kernel
theorem d17_17 : decode jdk_42_method_154_code 17 = .ok (.iconst 0, 1) := by decide +kernel
theorem d18_0 : decode jdk_42_method_54_code 0 = .ok (.aload_n 0, 1) := by decide +kernel
theorem d18_1 : decode jdk_42_method_54_code 1 = .ok (.getfield 9, 3) := by decide +kernel
theorem d18_4 : decode jdk_42_method_54_code 4 = .ok (.arraylength, 1) := by decide +kernel
theorem d18_5 : decode jdk_42_method_54_code 5 = .ok (.aload_n 0, 1) := by decide +kernel
theorem d18_6 : decode jdk_42_method_54_code 6 = .ok (.invokevirtual 335, 3) := by decide +kernel
theorem pd___B : parseMethodDescriptor "()B" = some ⟨[], some .byte⟩ := by decide +kernel
theorem d18_9 : decode jdk_42_method_54_code 9 = .ok (.ishr, 1) := by decide +kernel
theorem d18_10 : decode jdk_42_method_54_code 10 = .ok (.ireturn, 1) := by decide +kernel
theorem d19_0 : decode jdk_52_method_6_code 0 = .ok (.aload_n 0, 1) := by decide +kernel
theorem d19_1 : decode jdk_52_method_6_code 1 = .ok (.arraylength, 1) := by decide +kernel
theorem d19_2 : decode jdk_52_method_6_code 2 = .ok (.iconst 1, 1) := by decide +kernel
theorem d19_3 : decode jdk_52_method_6_code 3 = .ok (.ishr, 1) := by decide +kernel
theorem d19_4 : decode jdk_52_method_6_code 4 = .ok (.ireturn, 1) := by decide +kernel
theorem ef_IR_2 (m : MethodId) (x0 : Int32) (x1 : Addr) : entryFrame m #[(.int x0), (.ref x1)] 2 = mkF m 0 #[.val (.int x0), .val (.ref x1)] [] := by first | (simp [entryFrame, mkF, argsToLocals, Value.category, maxLocals]; done) | rfl
theorem d20_0 : decode jdk_52_method_91_code 0 = .ok (.iload_n 0, 1) := by decide +kernel
theorem d20_1 : decode jdk_52_method_91_code 1 = .ok (.aload_n 1, 1) := by decide +kernel
theorem d20_2 : decode jdk_52_method_91_code 2 = .ok (.invokestatic 48, 3) := by decide +kernel
theorem pd___B_I : parseMethodDescriptor "([B)I" = some ⟨[(.array .byte)], some .int⟩ := by decide +kernel
theorem d20_5 : decode jdk_52_method_91_code 5 = .ok (.invokestatic 414, 3) := by decide +kernel
theorem pd__II_V : parseMethodDescriptor "(II)V" = some ⟨[.int, .int], none⟩ := by decide +kernel
theorem d20_8 : decode jdk_52_method_91_code 8 = .ok (.return_, 1) := by decide +kernel
theorem d21_0 : decode jdk_43_method_2_code 0 = .ok (.iload_n 1, 1) := by decide +kernel
theorem d21_1 : decode jdk_43_method_2_code 1 = .ok (.aload_n 0, 1) := by decide +kernel
theorem d21_2 : decode jdk_43_method_2_code 2 = .ok (.arraylength, 1) := by decide +kernel
theorem d21_3 : decode jdk_43_method_2_code 3 = .ok (.invokestatic 9, 3) := by decide +kernel
theorem d21_6 : decode jdk_43_method_2_code 6 = .ok (.aload_n 0, 1) := by decide +kernel
theorem d21_7 : decode jdk_43_method_2_code 7 = .ok (.iload_n 1, 1) := by decide +kernel
theorem d21_8 : decode jdk_43_method_2_code 8 = .ok (.baload, 1) := by decide +kernel
theorem d21_9 : decode jdk_43_method_2_code 9 = .ok (.sipush 255, 3) := by decide +kernel
theorem d21_12 : decode jdk_43_method_2_code 12 = .ok (.iand, 1) := by decide +kernel
theorem d21_13 : decode jdk_43_method_2_code 13 = .ok (.i2c, 1) := by decide +kernel
theorem d21_14 : decode jdk_43_method_2_code 14 = .ok (.ireturn, 1) := by decide +kernel
theorem d22_0 : decode jdk_52_method_83_code 0 = .ok (.iload_n 1, 1) := by decide +kernel
theorem d22_1 : decode jdk_52_method_83_code 1 = .ok (.aload_n 0, 1) := by decide +kernel
theorem d22_2 : decode jdk_52_method_83_code 2 = .ok (.invokestatic 67, 3) := by decide +kernel
theorem pd__I_B_V : parseMethodDescriptor "(I[B)V" = some ⟨[.int, (.array .byte)], none⟩ := by decide +kernel
theorem d22_5 : decode jdk_52_method_83_code 5 = .ok (.aload_n 0, 1) := by decide +kernel
theorem d22_6 : decode jdk_52_method_83_code 6 = .ok (.iload_n 1, 1) := by decide +kernel
theorem d22_7 : decode jdk_52_method_83_code 7 = .ok (.invokestatic 71, 3) := by decide +kernel
theorem d22_10 : decode jdk_52_method_83_code 10 = .ok (.ireturn, 1) := by decide +kernel
theorem d23_0 : decode jdk_42_method_56_code 0 = .ok (.aload_n 0, 1) := by decide +kernel
theorem d23_1 : decode jdk_42_method_56_code 1 = .ok (.invokevirtual 492, 3) := by decide +kernel
theorem pd___Z : parseMethodDescriptor "()Z" = some ⟨[], some .boolean⟩ := by decide +kernel
theorem d23_4 : decode jdk_42_method_56_code 4 = .ok (.ifCond .eq 12, 3) := by decide +kernel
theorem d23_7 : decode jdk_42_method_56_code 7 = .ok (.aload_n 0, 1) := by decide +kernel
theorem d23_8 : decode jdk_42_method_56_code 8 = .ok (.getfield 9, 3) := by decide +kernel
theorem d23_11 : decode jdk_42_method_56_code 11 = .ok (.iload_n 1, 1) := by decide +kernel
theorem d23_12 : decode jdk_42_method_56_code 12 = .ok (.invokestatic 495, 3) := by decide +kernel
theorem d23_15 : decode jdk_42_method_56_code 15 = .ok (.ireturn, 1) := by decide +kernel
theorem d23_16 : decode jdk_42_method_56_code 16 = .ok (.aload_n 0, 1) := by decide +kernel
theorem d23_17 : decode jdk_42_method_56_code 17 = .ok (.getfield 9, 3) := by decide +kernel
theorem d23_20 : decode jdk_42_method_56_code 20 = .ok (.iload_n 1, 1) := by decide +kernel
theorem d23_21 : decode jdk_42_method_56_code 21 = .ok (.invokestatic 498, 3) := by decide +kernel
theorem d23_24 : decode jdk_42_method_56_code 24 = .ok (.ireturn, 1) := by decide +kernel
theorem ef_RR_3 (m : MethodId) (x0 : Addr) (x1 : Addr) : entryFrame m #[(.ref x0), (.ref x1)] 3 = mkF m 0 #[.val (.ref x0), .val (.ref x1), .unset] [] := by first | (simp [entryFrame, mkF, argsToLocals, Value.category, maxLocals]; done) | rfl
theorem d24_0 : decode jdk_42_method_66_code 0 = .ok (.aload_n 0, 1) := by decide +kernel
theorem d24_1 : decode jdk_42_method_66_code 1 = .ok (.aload_n 1, 1) := by decide +kernel
theorem d24_2 : decode jdk_42_method_66_code 2 = .ok (.if_acmp .ne 5, 3) := by decide +kernel
theorem d24_5 : decode jdk_42_method_66_code 5 = .ok (.iconst 1, 1) := by decide +kernel
theorem d24_6 : decode jdk_42_method_66_code 6 = .ok (.ireturn, 1) := by decide +kernel
theorem pn_com_example_stowfit_stowfit_Json : plainName "com/example/stowfit/stowfit/Json" = true := by first | (simp [plainName, overriddenIn]; done) | decide +kernel
theorem d25_0 : decode prog_15_method_7_code 0 = .ok (.aload_n 0, 1) := by decide +kernel
theorem d25_1 : decode prog_15_method_7_code 1 = .ok (.instanceof 44, 3) := by decide +kernel
theorem d25_4 : decode prog_15_method_7_code 4 = .ok (.ifCond .eq 11, 3) := by decide +kernel
theorem d25_7 : decode prog_15_method_7_code 7 = .ok (.aload_n 0, 1) := by decide +kernel
theorem d25_8 : decode prog_15_method_7_code 8 = .ok (.checkcast 44, 3) := by decide +kernel
theorem d25_11 : decode prog_15_method_7_code 11 = .ok (.astore_n 2, 1) := by decide +kernel
theorem d25_12 : decode prog_15_method_7_code 12 = .ok (.goto 17, 3) := by decide +kernel
theorem d25_29 : decode prog_15_method_7_code 29 = .ok (.aload_n 2, 1) := by decide +kernel
theorem d25_30 : decode prog_15_method_7_code 30 = .ok (.areturn, 1) := by decide +kernel
theorem ef_IIII_7 (m : MethodId) (x0 : Int32) (x1 : Int32) (x2 : Int32) (x3 : Int32) : entryFrame m #[(.int x0), (.int x1), (.int x2), (.int x3)] 7 = mkF m 0 #[.val (.int x0), .val (.int x1), .val (.int x2), .val (.int x3), .unset, .unset, .unset] [] := by first | (simp [entryFrame, mkF, argsToLocals, Value.category, maxLocals]; done) | rfl
theorem pn_com_example_stowfit_stowfit_JsonStringPinLaw : plainName "com/example/stowfit/stowfit/JsonStringPinLaw" = true := by first | (simp [plainName, overriddenIn]; done) | decide +kernel
theorem d26_0 : decode method_2_code 0 = .ok (.iload_n 0, 1) := by decide +kernel
theorem d26_1 : decode method_2_code 1 = .ok (.ldc 7, 2) := by decide +kernel
theorem d26_3 : decode method_2_code 3 = .ok (.iand, 1) := by decide +kernel
theorem d26_4 : decode method_2_code 4 = .ok (.i2c, 1) := by decide +kernel
theorem d26_5 : decode method_2_code 5 = .ok (.istore 4, 2) := by decide +kernel
theorem d26_7 : decode method_2_code 7 = .ok (.iload_n 1, 1) := by decide +kernel
theorem d26_8 : decode method_2_code 8 = .ok (.ldc 7, 2) := by decide +kernel
theorem d26_10 : decode method_2_code 10 = .ok (.iand, 1) := by decide +kernel
theorem d26_11 : decode method_2_code 11 = .ok (.i2c, 1) := by decide +kernel
theorem d26_12 : decode method_2_code 12 = .ok (.istore 5, 2) := by decide +kernel
theorem d26_14 : decode method_2_code 14 = .ok (.iload_n 2, 1) := by decide +kernel
theorem d26_15 : decode method_2_code 15 = .ok (.ldc 7, 2) := by decide +kernel
theorem d26_17 : decode method_2_code 17 = .ok (.iand, 1) := by decide +kernel
theorem d26_18 : decode method_2_code 18 = .ok (.i2c, 1) := by decide +kernel
theorem d26_19 : decode method_2_code 19 = .ok (.istore 6, 2) := by decide +kernel
theorem d26_21 : decode method_2_code 21 = .ok (.iload_n 3, 1) := by decide +kernel
theorem d26_22 : decode method_2_code 22 = .ok (.ifCond .ne 7, 3) := by decide +kernel
theorem d26_25 : decode method_2_code 25 = .ok (.iconst 0, 1) := by decide +kernel
theorem d26_26 : decode method_2_code 26 = .ok (.newarray .char, 2) := by decide +kernel
theorem d26_28 : decode method_2_code 28 = .ok (.areturn, 1) := by decide +kernel
theorem d26_29 : decode method_2_code 29 = .ok (.iload_n 3, 1) := by decide +kernel
theorem d26_30 : decode method_2_code 30 = .ok (.iconst 1, 1) := by decide +kernel
theorem d26_31 : decode method_2_code 31 = .ok (.if_icmp .ne 12, 3) := by decide +kernel
theorem d26_34 : decode method_2_code 34 = .ok (.iconst 1, 1) := by decide +kernel
theorem d26_35 : decode method_2_code 35 = .ok (.newarray .char, 2) := by decide +kernel
theorem d26_37 : decode method_2_code 37 = .ok (.dup, 1) := by decide +kernel
theorem d26_38 : decode method_2_code 38 = .ok (.iconst 0, 1) := by decide +kernel
theorem d26_39 : decode method_2_code 39 = .ok (.iload 4, 2) := by decide +kernel
theorem d26_41 : decode method_2_code 41 = .ok (.castore, 1) := by decide +kernel
theorem d26_42 : decode method_2_code 42 = .ok (.areturn, 1) := by decide +kernel
theorem d26_43 : decode method_2_code 43 = .ok (.iload_n 3, 1) := by decide +kernel
theorem d26_44 : decode method_2_code 44 = .ok (.iconst 2, 1) := by decide +kernel
theorem d26_45 : decode method_2_code 45 = .ok (.if_icmp .ne 17, 3) := by decide +kernel
theorem d26_48 : decode method_2_code 48 = .ok (.iconst 2, 1) := by decide +kernel
theorem d26_49 : decode method_2_code 49 = .ok (.newarray .char, 2) := by decide +kernel
theorem d26_51 : decode method_2_code 51 = .ok (.dup, 1) := by decide +kernel
theorem d26_52 : decode method_2_code 52 = .ok (.iconst 0, 1) := by decide +kernel
theorem d26_53 : decode method_2_code 53 = .ok (.iload 4, 2) := by decide +kernel
theorem d26_55 : decode method_2_code 55 = .ok (.castore, 1) := by decide +kernel
theorem d26_56 : decode method_2_code 56 = .ok (.dup, 1) := by decide +kernel
theorem d26_57 : decode method_2_code 57 = .ok (.iconst 1, 1) := by decide +kernel
theorem d26_58 : decode method_2_code 58 = .ok (.iload 5, 2) := by decide +kernel
theorem d26_60 : decode method_2_code 60 = .ok (.castore, 1) := by decide +kernel
theorem d26_61 : decode method_2_code 61 = .ok (.areturn, 1) := by decide +kernel
theorem d26_62 : decode method_2_code 62 = .ok (.iconst 3, 1) := by decide +kernel
theorem d26_63 : decode method_2_code 63 = .ok (.newarray .char, 2) := by decide +kernel
theorem d26_65 : decode method_2_code 65 = .ok (.dup, 1) := by decide +kernel
theorem d26_66 : decode method_2_code 66 = .ok (.iconst 0, 1) := by decide +kernel
theorem d26_67 : decode method_2_code 67 = .ok (.iload 4, 2) := by decide +kernel
theorem d26_69 : decode method_2_code 69 = .ok (.castore, 1) := by decide +kernel
theorem d26_70 : decode method_2_code 70 = .ok (.dup, 1) := by decide +kernel
theorem d26_71 : decode method_2_code 71 = .ok (.iconst 1, 1) := by decide +kernel
theorem d26_72 : decode method_2_code 72 = .ok (.iload 5, 2) := by decide +kernel
theorem d26_74 : decode method_2_code 74 = .ok (.castore, 1) := by decide +kernel
theorem d26_75 : decode method_2_code 75 = .ok (.dup, 1) := by decide +kernel
theorem d26_76 : decode method_2_code 76 = .ok (.iconst 2, 1) := by decide +kernel
theorem d26_77 : decode method_2_code 77 = .ok (.iload 6, 2) := by decide +kernel
theorem d26_79 : decode method_2_code 79 = .ok (.castore, 1) := by decide +kernel
theorem d26_80 : decode method_2_code 80 = .ok (.areturn, 1) := by decide +kernel
theorem ef_IIIII_10m (m : MethodId) (x0 : Int32) (x1 : Int32) (x2 : Int32) (x3 : Int32) (x4 : Int32) : entryFrame m #[(.int x0), (.int x1), (.int x2), (.int x3), (.int x4)] maxLocals = mkF m 0 #[.val (.int x0), .val (.int x1), .val (.int x2), .val (.int x3), .val (.int x4), .unset, .unset, .unset, .unset, .unset] [] := by first | (simp [entryFrame, mkF, argsToLocals, Value.category, maxLocals]; done) | rfl
theorem pd__IIII__C : parseMethodDescriptor "(IIII)[C" = some ⟨[.int, .int, .int, .int], some (.array .char)⟩ := by decide +kernel
theorem pd___C_V : parseMethodDescriptor "([C)V" = some ⟨[(.array .char)], none⟩ := by decide +kernel
theorem pd__C_Ljava_lang_String_ : parseMethodDescriptor "(C)Ljava/lang/String;" = some ⟨[.char], some (.object "java/lang/String")⟩ := by decide +kernel
theorem pd__Ljava_lang_Object_Ljava_lang_String__Ljava_lang_String_ : parseMethodDescriptor "(Ljava/lang/Object;Ljava/lang/String;)Ljava/lang/String;" = some ⟨[(.object "java/lang/Object"), (.object "java/lang/String")], some (.object "java/lang/String")⟩ := by decide +kernel
theorem pd___I : parseMethodDescriptor "()I" = some ⟨[], some .int⟩ := by decide +kernel
theorem pd__Ljava_lang_Object__Z : parseMethodDescriptor "(Ljava/lang/Object;)Z" = some ⟨[(.object "java/lang/Object")], some .boolean⟩ := by decide +kernel
theorem pd__I_C : parseMethodDescriptor "(I)C" = some ⟨[.int], some .char⟩ := by decide +kernel
def QE (Z : State) (a1 : Addr) (h0 : Heap) (n0 : Nat) (v : Option Value) (h : Heap) (L : List Loc) : Prop := v = none ∧ Fr n0 L ∧ Keep h0 h [a1] ∧ Fld Z h a1 "java/lang/String" "coder" "B" (.int (0 : Int32)) ∧ ∃ (t : Addr) (k : ClassId), Fld Z h a1 "java/lang/String" "value" "[B" (.ref t) ∧ Arv Z h t k .byte (0 : Int32) [] (.int 0)
set_option maxRecDepth 65536 in
set_option maxHeartbeats 40000000 in
theorem rmE4 (l : Launch) (Z : State) (a0 : Array Value) (hw : ∀ d ∈ tables_1, d.before a0 Z = true) (ws : List Jvm.Cond) (a1 a2 : Addr) (uc : Value) (h0 : Heap) (n0 : Nat) (Z0 : n0 ≤ h0.size) (E_a1 : Exa Z h0 a1 "java/lang/String") (Fv_a1 : Fld Z h0 a1 "java/lang/String" "value" "[B" .null) (Fc_a1 : Fld Z h0 a1 "java/lang/String" "coder" "B" uc) (g_a1 : n0 ≤ a1) (hEL : EW Z a0 consts_1) :
    MetFree l (⟨"java/lang/String", "<init>", "([CIILjava/lang/Void;)V"⟩ : MethodName) (head1 (Jvm.Cond.code (⟨"java/lang/String", "<init>", "([CIILjava/lang/Void;)V"⟩ : MethodName) jdk_42_method_149_code 6 none :: ws) ({ frames := 1, cells := 4, slots := 8, locals := 14 } : Room)) (fun a U => a = #[(.ref a1), (.ref a2), (.int (0 : Int32)), (.int (0 : Int32)), .null] ∧ Z.Warmed39 U.vm ∧ U.heap = h0 ∧ CHv Z consts_1 U.vm h0) (fun _ _ _ _ _ => True) (fun _ U o U' => ∃ v L, o = .returned v ∧ QE Z a1 h0 n0 v U'.heap L ∧ CHr Z consts_1 U.vm U.heap U'.vm U'.heap ∧ ReturnedEndW U o U' L ({ frames := 1, cells := 4, slots := 8, locals := 14 } : Room).cells ({ frames := 1, cells := 4, slots := 8, locals := 14 } : Room).slots) := by
  refine MetFree.of_bodySF (plainFor_of_name pn_java_lang_String) hisR ?_
  intro p e s m args below meth c s₁ Bd hml0 hP hK
  obtain ⟨rfl, hZ, hh, H0⟩ := hP
  have hx := Bd.exec
  have hby := Bd.bytes
  have hml : c.maxLocals = 6 := hml0
  have hown : s.vm.findClass "java/lang/String" = some m.cls := findClass_of_methodNamed Bd.named
  have hnm := (name_of_methodNamed Bd.named Bd.method).1
  have hown : (s.setVm s.vm).vm.findClass "java/lang/String" = some m.cls := hown
  have hZ : Z.Warmed39 (s.setVm s.vm).vm := hZ
  have X0 : Stand p l e ({ frames := 1, cells := 4, slots := 8, locals := 14 } : Room) (s.setVm s.vm) m #[(.ref a1), (.ref a2), (.int (0 : Int32)), (.int (0 : Int32)), .null] below meth c s₁ [] 0 0 := Stand.of_body Bd
  have C0 := CHr.refl H0
  have hS0 : s.Since s.vm h0.size := (State.WarmedH.refl s).since _
  have hk0 : h0.size ≤ h0.size := Nat.le_refl _
  have wS : ∀ a ∈ Bundle.stringAtoms, a.before a0 Z = true := fun d hd => hw d ((by decide +kernel : ∀ d ∈ Bundle.stringAtoms, d ∈ tables_1) d hd)
  have e0 : s₁.heap = h0 := by rw [← hh, Bd.state]; rfl
  have N0 := Fr.nil n0
  obtain ⟨B0, c0, hB0⟩ : ∃ B0, Steps p.tables e below B0 (s₁.setTop (mkF m 0 #[.val (.ref a1), .val (.ref a2), .val (.int (0 : Int32)), .val (.int (0 : Int32)), .val .null, .unset] [])) ∧ B0 = s₁.setTop (entryFrame m #[(.ref a1), (.ref a2), (.int (0 : Int32)), (.int (0 : Int32)), .null] 6) := ⟨_, castTop (ef_RRIIN_6 m a1 a2 (0 : Int32) (0 : Int32)) (Steps.refl _), rfl⟩
  have lt_a1 : (@LT.lt Nat _ a1 h0.size) := E_a1.lt
  have Sf0 : Safe Z consts_1 s.vm h0 a1 := own_safe_null hZ.alike E_a1 Fv_a1
  have c1 : SS p e below B0 s₁ m 1 #[.val (.ref a1), .val (.ref a2), .val (.int (0 : Int32)), .val (.int (0 : Int32)), .val .null, .unset] [(.ref a1)] := Steps.trans c0 (by
      refine XS.aloadN X0.here hx rfl (hb hby d0_0) rfl rfl ?_
      exact Steps.refl _)
  obtain ⟨T2, X2, e2, st2⟩ := initO X0 hx hZ hown (W hw 16) (W hw 17) (W hw 18) e0 (g := (mkF m 1 #[.val (.ref a1), .val (.ref a2), .val (.int (0 : Int32)), .val (.int (0 : Int32)), .val .null, .unset] [(.ref a1)])) rfl (by rw [hml]; rfl) rfl (hb hby d0_1) (by decide) (W := 0) (by show 2 * 0 + _ ≤ _; exact Nat.le_of_eq rfl) (by decide)
  have c3 : SS p e below B0 T2 m 4 #[.val (.ref a1), .val (.ref a2), .val (.int (0 : Int32)), .val (.int (0 : Int32)), .val .null, .unset] [] := Steps.trans c1 (st2 _ (Steps.refl _))
  have c4 : SS p e below B0 T2 m 9 #[.val (.ref a1), .val (.ref a2), .val (.int (0 : Int32)), .val (.int (0 : Int32)), .val .null, .unset] [(.ref a1)] := Steps.trans c3 (by
      refine XS.iloadN X2.here hx rfl (hb hby d0_4) rfl ?_
      refine XS.ifNo X2.here hx rfl (hb hby d0_5) rfl ((if0 _ _).trans (teq (by decide : (0 : Int32) = 0)).2) ?_
      refine XS.aloadN X2.here hx rfl (hb hby d0_8) rfl rfl ?_
      exact Steps.refl _)
  obtain ⟨b1, T5, h5, k1_5, t1, k1, X5, e5, E5, hS5, hk5, hZ5, ho5, A5, fc5, fv5, V5, l5, lb5, ch5, li5, ne5, st5⟩ := ldcCH X2 hx hZ hown (W hw 19) wS e2 hS0 (by omega) hEL (by decide +kernel : ("java/lang/String", 7) ∈ consts_1) H0 (vs := []) (z := (0 : Int32)) ⟨(by decide +kernel), (by first | rfl | decide +kernel)⟩ (by decide) (by decide) (g := (mkF m 9 #[.val (.ref a1), .val (.ref a2), .val (.int (0 : Int32)), .val (.int (0 : Int32)), .val .null, .unset] [(.ref a1)])) rfl (hb hby d0_9) (n := 0) (by decide) (by decide) (by decide) (by decide)
  have z5 : h0.size ≤ h5.size := E5.1
  have lN5 : (@LT.lt Nat _ b1 h5.size) ∧ (@LT.lt Nat _ t1 h5.size) := ⟨l5, lb5⟩
  have H5 : CHv Z consts_1 T5.vm h5 := ch5.1
  have C5 := CHr.trans C0 ch5
  have K5 := (Keep.refl h0 [a1]).ext E5
  have c6 : SS p e below B0 T5 m 11 #[.val (.ref a1), .val (.ref a2), .val (.int (0 : Int32)), .val (.int (0 : Int32)), .val .null, .unset] [(.ref b1), (.ref a1)] := Steps.trans c4 (st5 _ (Steps.refl _))
  have Safe7 := (CHr.safe ch5 (own_lt (by omega)) Sf0)
  have nn5_a1 : (@Ne Nat a1 b1) ∧ (@Ne Nat a1 t1) := ne5 _ Safe7
  obtain ⟨T8, X8, e8, st8⟩ := getF X5 hx hZ5 ho5 (host := "") (Or.inl (W hw 25)) Via.refl e5 fv5 (g := (mkF m 11 #[.val (.ref a1), .val (.ref a2), .val (.int (0 : Int32)), .val (.int (0 : Int32)), .val .null, .unset] [(.ref b1), (.ref a1)])) rfl rfl (hb hby d0_11)
  have c9 : SS p e below B0 T8 m 14 #[.val (.ref a1), .val (.ref a2), .val (.int (0 : Int32)), .val (.int (0 : Int32)), .val .null, .unset] [(.ref t1), (.ref a1)] := Steps.trans c6 (st8 _ (Steps.refl _))
  have Fld11 : Fld Z h5 a1 "java/lang/String" "value" "[B" .null := (Fv_a1.ext E5)
  have Exa12 : Exa Z h5 a1 "java/lang/String" := (E_a1.ext E5)
  obtain ⟨T10, h10, X10, e10, W10, st10⟩ := putF X8 hx hZ5 ho5 (host := "") (Or.inl (W hw 25)) Via.refl e8 Fld11 Exa12 (Or.inr ⟨(W hw 21), rfl, hnm⟩) (W hw 7) (ty := (.array .byte)) (by decide) rfl rfl (g := (mkF m 14 #[.val (.ref a1), .val (.ref a2), .val (.int (0 : Int32)), .val (.int (0 : Int32)), .val .null, .unset] [(.ref t1), (.ref a1)])) rfl rfl (hb hby d0_14)
  have N10 := Fr.snoc X10 N0 (by omega)
  have F10 : Fld Z h10 a1 "java/lang/String" "value" "[B" (.ref t1) := Fld11.same W10
  have z10 : h10.size = h5.size := W10.size
  have K10 := K5.wr W10 (Or.inl (List.mem_of_getElem? (i := 0) rfl))
  have H10 : CHv Z consts_1 T5.vm h10 := CHv.wr W10 Safe7 H5
  have C10 := CHr.trans C5 (CHr.wr W10 Safe7 H5)
  have c13 : SS p e below B0 T10 m 17 #[.val (.ref a1), .val (.ref a2), .val (.int (0 : Int32)), .val (.int (0 : Int32)), .val .null, .unset] [] := Steps.trans c9 (st10 _ (Steps.refl _))
  have c14 : SS p e below B0 T10 m 18 #[.val (.ref a1), .val (.ref a2), .val (.int (0 : Int32)), .val (.int (0 : Int32)), .val .null, .unset] [(.ref a1)] := Steps.trans c13 (by
      refine XS.aloadN X10.here hx rfl (hb hby d0_17) rfl rfl ?_
      exact Steps.refl _)
  obtain ⟨b2, T15, h15, k1_15, t2, k2, X15, e15, E15, hS15, hk15, hZ15, ho15, A15, fc15, fv15, V15, l15, lb15, ch15, li15, ne15, st15⟩ := ldcCH X10 hx hZ5 ho5 (W hw 19) wS e10 hS5 (by omega) hEL (by decide +kernel : ("java/lang/String", 7) ∈ consts_1) H10 (vs := []) (z := (0 : Int32)) ⟨(by decide +kernel), (by first | rfl | decide +kernel)⟩ (by decide) (by decide) (g := (mkF m 18 #[.val (.ref a1), .val (.ref a2), .val (.int (0 : Int32)), .val (.int (0 : Int32)), .val .null, .unset] [(.ref a1)])) rfl (hb hby d0_18) (n := 0) (by decide) (by decide) (by decide) (by decide)
  have z15 : h10.size ≤ h15.size := E15.1
  have lN15 : (@LT.lt Nat _ b2 h15.size) ∧ (@LT.lt Nat _ t2 h15.size) := ⟨l15, lb15⟩
  have H15 : CHv Z consts_1 T15.vm h15 := ch15.1
  have C15 := CHr.trans C10 ch15
  have K15 := K10.ext E15
  have c16 : SS p e below B0 T15 m 20 #[.val (.ref a1), .val (.ref a2), .val (.int (0 : Int32)), .val (.int (0 : Int32)), .val .null, .unset] [(.ref b2), (.ref a1)] := Steps.trans c14 (st15 _ (Steps.refl _))
  have Safe17 := (CHr.safe ch15 (own_lt (by omega)) (Safe.wr W10 Safe7 H5 Safe7))
  have nn15_a1 : (@Ne Nat a1 b2) ∧ (@Ne Nat a1 t2) := ne15 _ Safe17
  obtain ⟨T18, X18, e18, st18⟩ := getF X15 hx hZ15 ho15 (host := "") (Or.inl (W hw 26)) Via.refl e15 fc15 (g := (mkF m 20 #[.val (.ref a1), .val (.ref a2), .val (.int (0 : Int32)), .val (.int (0 : Int32)), .val .null, .unset] [(.ref b2), (.ref a1)])) rfl rfl (hb hby d0_20)
  have c19 : SS p e below B0 T18 m 23 #[.val (.ref a1), .val (.ref a2), .val (.int (0 : Int32)), .val (.int (0 : Int32)), .val .null, .unset] [(.int (0 : Int32)), (.ref a1)] := Steps.trans c16 (st18 _ (Steps.refl _))
  have Fld21 : Fld Z h15 a1 "java/lang/String" "coder" "B" uc := (((Fc_a1.ext E5).other W10 (Or.inr (slot_ne (Or.inr (W hw 22)) (Or.inr (W hw 21)) (by decide) (t := .byte) (t' := (.array .byte)) (by decide) (by decide)))).ext E15)
  have Exa22 : Exa Z h15 a1 "java/lang/String" := ((Exa12.wr W10).ext E15)
  obtain ⟨T20, h20, X20, e20, W20, st20⟩ := putF X18 hx hZ15 ho15 (host := "") (Or.inl (W hw 26)) Via.refl e18 Fld21 Exa22 (Or.inr ⟨(W hw 22), rfl, hnm⟩) (W hw 7) (ty := .byte) (by decide) rfl rfl (g := (mkF m 23 #[.val (.ref a1), .val (.ref a2), .val (.int (0 : Int32)), .val (.int (0 : Int32)), .val .null, .unset] [(.int (0 : Int32)), (.ref a1)])) rfl rfl (hb hby d0_23)
  have N20 := Fr.snoc X20 N10 (by omega)
  have F20 : Fld Z h20 a1 "java/lang/String" "coder" "B" (.int (0 : Int32)) := Fld21.same W20
  have z20 : h20.size = h15.size := W20.size
  have K20 := K15.wr W20 (Or.inl (List.mem_of_getElem? (i := 0) rfl))
  have H20 : CHv Z consts_1 T15.vm h20 := CHv.wr W20 Safe17 H15
  have C20 := CHr.trans C15 (CHr.wr W20 Safe17 H15)
  have c23 : SS p e below B0 T20 m 26 #[.val (.ref a1), .val (.ref a2), .val (.int (0 : Int32)), .val (.int (0 : Int32)), .val .null, .unset] [] := Steps.trans c19 (st20 _ (Steps.refl _))
  have Fld24 : Fld Z h20 a1 "java/lang/String" "value" "[B" (.ref t1) := ((F10.ext E15).other W20 (Or.inr (slot_ne (Or.inr (W hw 21)) (Or.inr (W hw 22)) (by decide) (t := (.array .byte)) (t' := .byte) (by decide) (by decide))))
  have Arv25 : Arv Z h20 t1 k1 .byte (0 : Int32) [] (.int 0) := (((V5.other W10 (own_ne (by omega))).ext E15).other W20 (own_ne (by omega)))
  obtain ⟨fs, hr, hrun, hended, hW⟩ := X20.leaveW hS15 (by rw [e20]; omega) (v := none) (fun _ => rfl)
  have hC : CHr Z consts_1 s.vm s.heap T20.vm T20.heap := by rw [hh, e20]; exact CHr.trans C20 (CHv.at X20 hZ15 hEL H20)
  subst hB0
  refine ⟨_, _, Steps.trans c23 ?_, hrun, hended, _, _, rfl, ?_, hC, hW.1, hW.2.1, hW.2.2.1, hW.2.2.2.mono (by decide) (by decide)⟩
  · exact X20.returnOut hx Bd.returns (hb hby d0_26) hr
  · show QE Z a1 h0 n0 _ T20.heap _
    rw [e20]
    exact ⟨rfl, N20, K20, F20, t1, k1, Fld24, Arv25⟩
set_option maxRecDepth 65536 in
set_option maxHeartbeats 40000000 in
theorem rmE1 (l : Launch) (Z : State) (a0 : Array Value) (hw : ∀ d ∈ tables_1, d.before a0 Z = true) (ws : List Jvm.Cond) (a1 a2 : Addr) (kc : ClassId) (uc : Value) (h0 : Heap) (n0 : Nat) (Z0 : n0 ≤ h0.size) (E_a1 : Exa Z h0 a1 "java/lang/String") (Fv_a1 : Fld Z h0 a1 "java/lang/String" "value" "[B" .null) (Fc_a1 : Fld Z h0 a1 "java/lang/String" "coder" "B" uc) (V2 : Arv Z h0 a2 kc .char (0 : Int32) [] (.int (0 : Int32))) (g_a1 : n0 ≤ a1) (hEL : EW Z a0 consts_1) :
    MetFree l (⟨"java/lang/String", "<init>", "([C)V"⟩ : MethodName) (head1 (Jvm.Cond.code (⟨"java/lang/String", "<init>", "([C)V"⟩ : MethodName) jdk_42_method_3_code 2 none :: ws) ({ frames := 2, cells := 4, slots := 8, locals := 31 } : Room)) (fun a U => a = #[(.ref a1), (.ref a2)] ∧ Z.Warmed39 U.vm ∧ U.heap = h0 ∧ CHv Z consts_1 U.vm h0) (fun _ _ _ _ _ => True) (fun _ U o U' => ∃ v L, o = .returned v ∧ QE Z a1 h0 n0 v U'.heap L ∧ CHr Z consts_1 U.vm U.heap U'.vm U'.heap ∧ ReturnedEndW U o U' L ({ frames := 2, cells := 4, slots := 8, locals := 31 } : Room).cells ({ frames := 2, cells := 4, slots := 8, locals := 31 } : Room).slots) := by
  refine MetFree.of_bodySF (plainFor_of_name pn_java_lang_String) hisR ?_
  intro p e s m args below meth c s₁ Bd hml0 hP hK
  obtain ⟨rfl, hZ, hh, H0⟩ := hP
  have hx := Bd.exec
  have hby := Bd.bytes
  have hml : c.maxLocals = 2 := hml0
  have hown : s.vm.findClass "java/lang/String" = some m.cls := findClass_of_methodNamed Bd.named
  have hnm := (name_of_methodNamed Bd.named Bd.method).1
  have hown : (s.setVm s.vm).vm.findClass "java/lang/String" = some m.cls := hown
  have hZ : Z.Warmed39 (s.setVm s.vm).vm := hZ
  have X0 : Stand p l e ({ frames := 2, cells := 4, slots := 8, locals := 31 } : Room) (s.setVm s.vm) m #[(.ref a1), (.ref a2)] below meth c s₁ [] 0 0 := Stand.of_body Bd
  have C0 := CHr.refl H0
  have hS0 : s.Since s.vm h0.size := (State.WarmedH.refl s).since _
  have hk0 : h0.size ≤ h0.size := Nat.le_refl _
  have wS : ∀ a ∈ Bundle.stringAtoms, a.before a0 Z = true := fun d hd => hw d ((by decide +kernel : ∀ d ∈ Bundle.stringAtoms, d ∈ tables_1) d hd)
  have e0 : s₁.heap = h0 := by rw [← hh, Bd.state]; rfl
  have N0 := Fr.nil n0
  obtain ⟨B0, c0, hB0⟩ : ∃ B0, Steps p.tables e below B0 (s₁.setTop (mkF m 0 #[.val (.ref a1), .val (.ref a2)] [])) ∧ B0 = s₁.setTop (entryFrame m #[(.ref a1), (.ref a2)] 2) := ⟨_, castTop (ef_RR_2 m a1 a2) (Steps.refl _), rfl⟩
  have lt_a1 : (@LT.lt Nat _ a1 h0.size) := E_a1.lt
  have c1 : SS p e below B0 s₁ m 4 #[.val (.ref a1), .val (.ref a2)] [(.ref a2), (.int (0 : Int32)), (.ref a2), (.ref a1)] := Steps.trans c0 (by
      refine XS.aloadN X0.here hx rfl (hb hby d1_0) rfl rfl ?_
      refine XS.aloadN X0.here hx rfl (hb hby d1_1) rfl rfl ?_
      refine XT.iconstV X0.here hx rfl (0 : Int32) (hb hby d1_2) (by decide) ?_
      refine XS.aloadN X0.here hx rfl (hb hby d1_3) rfl rfl ?_
      exact Steps.refl _)
  obtain ⟨cl2, Ar2, q2, Sz2, M2, Hs2, U2⟩ := id V2
  have c3 : SS p e below B0 s₁ m 5 #[.val (.ref a1), .val (.ref a2)] [(.int (0 : Int32)), (.int (0 : Int32)), (.ref a2), (.ref a1)] := Steps.trans c1 (by
      refine X0.arraylength hx (by rw [e0]; exact Ar2.1) (State.isArrayOf_alike hZ.alike Ar2.2.1) (g := (mkF m 4 #[.val (.ref a1), .val (.ref a2)] [(.ref a2), (.int (0 : Int32)), (.ref a2), (.ref a1)])) rfl rfl (hb hby d1_4) _ ?_
      rw [len_of Sz2 M2]
      exact Steps.refl _)
  have c4 : SS p e below B0 s₁ m 6 #[.val (.ref a1), .val (.ref a2)] [.null, (.int (0 : Int32)), (.int (0 : Int32)), (.ref a2), (.ref a1)] := Steps.trans c3 (by
      refine XS.aconstNull X0.here hx rfl (hb hby d1_5) ?_
      exact Steps.refl _)
  obtain ⟨_, _, ⟨T5, Lp5, kp5, np5⟩, -, X5, hs5, hg5, ⟨Lc5, hQ5, lp5, yp5, zp5, ch5⟩, st5⟩ := X0.specialBackS hx (y := (⟨"java/lang/String", "<init>", "([CIILjava/lang/Void;)V"⟩ : MethodName)) rfl hown (mvT hZ (W hw 12)) (mvT hZ (W hw 13)) (mvT hZ (W hw 15)) (by decide) (backOfSH (W := 0) (rmE4 l Z a0 hw [] a1 a2 uc h0 n0 Z0 E_a1 Fv_a1 Fc_a1 g_a1 hEL) hZ (W hw 15) (W hw 8) (by decide) (by decide) hEL H0) (g := (mkF m 6 #[.val (.ref a1), .val (.ref a2)] [.null, (.int (0 : Int32)), (.int (0 : Int32)), (.ref a2), (.ref a1)])) rfl (by rw [hml]; rfl) c4 (a := a1) (argsL := [(.ref a2), (.int (0 : Int32)), (.int (0 : Int32)), .null]) (rest := []) (lenOf pd___CIILjava_lang_Void__V rfl) rfl (by show 2 * 0 + _ ≤ _; exact Nat.le_of_eq rfl) (hb hby d1_6) (fun _ _ => ⟨rfl, e0, (by decide : 0 + 4 ≤ _), (by decide : 0 + 8 ≤ _)⟩)
  dsimp only [Pt.U, Pt.locs, Pt.cells, Pt.slots] at X5 lp5 yp5 zp5 st5 hQ5 hs5 hg5 ch5
  subst lp5 yp5 zp5
  obtain ⟨rfl, Nq5, Kq5, fc5, tt, kk, fv5, av5⟩ := hQ5
  have N5 := Fr.app N0 Nq5
  obtain ⟨X5, hS5, hZ5, ho5⟩ := rebS hS0 (by rw [e0]; omega) X5 hs5 hg5 hZ hown
  obtain ⟨h5, e5⟩ : ∃ z, T5.heap = z := ⟨_, rfl⟩
  rw [e5] at Kq5 fc5 fv5 av5 ch5
  have hk5 : T5.heap.size ≤ h5.size := by rw [e5]; exact Nat.le_refl _
  have z5 : h0.size ≤ h5.size := Kq5.1
  have K5 := (Keep.refl h0 [a1]).trans Kq5 (allS (Or.inl (List.mem_of_getElem? (i := 0) rfl)) all0)
  have H5 : CHv Z consts_1 T5.vm h5 := ch5.1
  have C5 := CHr.trans C0 ch5
  have c6 : SS p e below B0 T5 m 9 #[.val (.ref a1), .val (.ref a2)] [] := st5
  obtain ⟨fs, hr, hrun, hended, hW⟩ := X5.leaveW hS5 (by rw [e5]; omega) (v := none) (fun _ => rfl)
  have hC : CHr Z consts_1 s.vm s.heap T5.vm T5.heap := by rw [hh, e5]; exact CHr.trans C5 (CHv.at X5 hZ5 hEL H5)
  subst hB0
  refine ⟨_, _, Steps.trans c6 ?_, hrun, hended, _, _, rfl, ?_, hC, hW.1, hW.2.1, hW.2.2.1, hW.2.2.2.mono (by decide) (by decide)⟩
  · exact X5.returnOut hx Bd.returns (hb hby d1_9) hr
  · show QE Z a1 h0 n0 _ T5.heap _
    rw [e5]
    exact ⟨rfl, N5, K5, fc5, tt, kk, fv5, av5⟩
def QCe (h0 : Heap) (n0 : Nat) (v : Option Value) (h : Heap) (L : List Loc) : Prop := v = some (.int (1 : Int32)) ∧ Fr n0 L ∧ h = h0
set_option maxRecDepth 65536 in
set_option maxHeartbeats 40000000 in
theorem rmCe (l : Launch) (Z : State) (a0 : Array Value) (hw : ∀ d ∈ tables_1, d.before a0 Z = true) (ws : List Jvm.Cond) (p1 : Int32) (h0 : Heap) (n0 : Nat) (Z0 : n0 ≤ h0.size) (hp : ¬ (255 : Int32) < p1) :
    MetFree l (⟨"java/lang/StringLatin1", "canEncode", "(C)Z"⟩ : MethodName) (head1 (Jvm.Cond.code (⟨"java/lang/StringLatin1", "canEncode", "(C)Z"⟩ : MethodName) jdk_43_method_3_code 1 (some .boolean) :: ws) ({ frames := 0, cells := 0, slots := 0, locals := 0 } : Room)) (fun a U => a = #[(.int p1)] ∧ Z.Warmed39 U.vm ∧ U.heap = h0) (fun _ _ _ _ _ => True) (fun _ U o U' => ∃ v L, o = .returned v ∧ QCe h0 n0 v U'.heap L ∧ FrameEnd U o U' L ({ frames := 0, cells := 0, slots := 0, locals := 0 } : Room).cells ({ frames := 0, cells := 0, slots := 0, locals := 0 } : Room).slots) := by
  refine MetFree.of_bodySF (plainFor_of_name pn_java_lang_StringLatin1) hisR ?_
  intro p e s m args below meth c s₁ Bd hml0 hP hK
  obtain ⟨rfl, hZ, hh⟩ := hP
  have hx := Bd.exec
  have hby := Bd.bytes
  have hml : c.maxLocals = 1 := hml0
  have hown : s.vm.findClass "java/lang/StringLatin1" = some m.cls := findClass_of_methodNamed Bd.named
  have hnm := (name_of_methodNamed Bd.named Bd.method).1
  have X0 : Stand p l e ({ frames := 0, cells := 0, slots := 0, locals := 0 } : Room) s m #[(.int p1)] below meth c s₁ [] 0 0 := Stand.of_body Bd
  have e0 : s₁.heap = h0 := by rw [← hh, Bd.state]; rfl
  have N0 := Fr.nil n0
  obtain ⟨B0, c0, hB0⟩ : ∃ B0, Steps p.tables e below B0 (s₁.setTop (mkF m 0 #[.val (.int p1)] [])) ∧ B0 = s₁.setTop (entryFrame m #[(.int p1)] 1) := ⟨_, castTop (ef_I_1 m p1) (Steps.refl _), rfl⟩
  have c1 : SS p e below B0 s₁ m 12 #[.val (.int p1)] [(.int (1 : Int32))] := Steps.trans c0 (by
      refine XS.iloadN X0.here hx rfl (hb hby d2_0) rfl ?_
      refine XT.sipushV X0.here hx rfl (255 : Int32) (hb hby d2_1) (by decide) ?_
      refine XS.icmpNo X0.here hx rfl (hb hby d2_4) rfl (flt hp).2.2.1 ?_
      refine XT.iconstV X0.here hx rfl (1 : Int32) (hb hby d2_7) (by decide) ?_
      refine XS.goto X0.here hx rfl (pc0 := 8) (pc' := 12) rfl (hb hby d2_8) (by decide) (by decide) ?_
      exact Steps.refl _)
  obtain ⟨fs, hr, hrun, hended, hW, hsame⟩ := X0.leave (v := some (.int (1 : Int32))) (fun h => by rw [Bd.returns] at h; cases h)
  subst hB0
  refine ⟨_, _, Steps.trans c1 ?_, hrun, hended, _, _, rfl, ?_, ⟨_, rfl⟩, hW, hsame.mono (by decide) (by decide)⟩
  · exact retN X0 hx (t := .boolean) Bd.returns (by simp) (hb hby d2_12) hr
  · show QCe h0 n0 _ s₁.heap _
    rw [e0]
    exact ⟨rfl, N0, rfl⟩
def QTb (Z : State) (p1 : Int32) (h0 : Heap) (n0 : Nat) (v : Option Value) (h : Heap) (L : List Loc) : Prop := ∃ (t : Addr) (k : ClassId), v = some (.ref t) ∧ Fr n0 L ∧ Keep h0 h [] ∧ h0.size ≤ t ∧ Arv Z h t k .byte (1 : Int32) [.int (p1.toInt8.toInt32)] (.int (0 : Int32))
set_option maxRecDepth 65536 in
set_option maxHeartbeats 40000000 in
theorem rmTb (l : Launch) (Z : State) (a0 : Array Value) (hw : ∀ d ∈ tables_1, d.before a0 Z = true) (ws : List Jvm.Cond) (p1 : Int32) (h0 : Heap) (n0 : Nat) (Z0 : n0 ≤ h0.size)  :
    MetFree l (⟨"java/lang/StringLatin1", "toBytes", "(C)[B"⟩ : MethodName) (head1 (Jvm.Cond.code (⟨"java/lang/StringLatin1", "toBytes", "(C)[B"⟩ : MethodName) jdk_43_method_46_code 1 (some (.array .byte)) :: ws) ({ frames := 0, cells := 1, slots := 1, locals := 0 } : Room)) (fun a U => a = #[(.int p1)] ∧ Z.Warmed39 U.vm ∧ U.heap = h0) (fun _ _ _ _ _ => True) (fun _ U o U' => ∃ v L, o = .returned v ∧ QTb Z p1 h0 n0 v U'.heap L ∧ FrameEnd U o U' L ({ frames := 0, cells := 1, slots := 1, locals := 0 } : Room).cells ({ frames := 0, cells := 1, slots := 1, locals := 0 } : Room).slots) := by
  refine MetFree.of_bodySF (plainFor_of_name pn_java_lang_StringLatin1) hisR ?_
  intro p e s m args below meth c s₁ Bd hml0 hP hK
  obtain ⟨rfl, hZ, hh⟩ := hP
  have hx := Bd.exec
  have hby := Bd.bytes
  have hml : c.maxLocals = 1 := hml0
  have hown : s.vm.findClass "java/lang/StringLatin1" = some m.cls := findClass_of_methodNamed Bd.named
  have hnm := (name_of_methodNamed Bd.named Bd.method).1
  have X0 : Stand p l e ({ frames := 0, cells := 1, slots := 1, locals := 0 } : Room) s m #[(.int p1)] below meth c s₁ [] 0 0 := Stand.of_body Bd
  have e0 : s₁.heap = h0 := by rw [← hh, Bd.state]; rfl
  have N0 := Fr.nil n0
  obtain ⟨B0, c0, hB0⟩ : ∃ B0, Steps p.tables e below B0 (s₁.setTop (mkF m 0 #[.val (.int p1)] [])) ∧ B0 = s₁.setTop (entryFrame m #[(.int p1)] 1) := ⟨_, castTop (ef_I_1 m p1) (Steps.refl _), rfl⟩
  have c1 : SS p e below B0 s₁ m 1 #[.val (.int p1)] [(.int (1 : Int32))] := Steps.trans c0 (by
      refine XT.iconstV X0.here hx rfl (1 : Int32) (hb hby d3_0) (by decide) ?_
      exact Steps.refl _)
  obtain ⟨T2, h2, k1, X2, e2, E2, A2, st2⟩ := newP X0 hx hZ (W hw 20) e0 (g := (mkF m 1 #[.val (.int p1)] [(.int (1 : Int32))])) rfl (hb hby d3_1) rfl (by decide : ¬ ((1 : Int32) < (0 : Int32))) (cap := 1) (by decide : (1 : Int32).toNatClampNeg ≤ 1) (by decide) (by decide) (by decide)
  obtain ⟨t1, g2⟩ : ∃ z, z = h0.size := ⟨_, rfl⟩
  rw [← g2] at A2 st2
  have z2 : h0.size ≤ h2.size := E2.1
  have l2 : (@LT.lt Nat _ t1 h2.size) := A2.lt
  have K2 := (Keep.refl h0 []).ext E2
  have V2 : Arv Z h2 t1 k1 .byte (1 : Int32) [(.int (0 : Int32))] (.int (0 : Int32)) := (Arv.new A2 (by decide)).pad (pad_rep [] (.int (0 : Int32)) 1)
  have c3 : SS p e below B0 T2 m 3 #[.val (.int p1)] [(.ref t1)] := Steps.trans c1 (st2 _ (Steps.refl _))
  have c4 : SS p e below B0 T2 m 7 #[.val (.int p1)] [(.int (p1.toInt8.toInt32)), (.int (0 : Int32)), (.ref t1), (.ref t1)] := Steps.trans c3 (by
      refine XS.dup X2.here hx rfl (hb hby d3_3) rfl rfl ?_
      refine XT.iconstV X2.here hx rfl (0 : Int32) (hb hby d3_4) (by decide) ?_
      refine XS.iloadN X2.here hx rfl (hb hby d3_5) rfl ?_
      refine XS.i2b X2.here hx rfl (hb hby d3_6) rfl ?_
      exact Steps.refl _)
  obtain ⟨cl5, Ar5, q5, Sz5, M5, Hs5, U5⟩ := id V2
  obtain ⟨T5, h5, X5, e5, W5, st5⟩ := stB X2 hx hZ e2 Ar5 (j := (0 : Int32)) (inb_of Sz5 ⟨(by decide), (by decide)⟩) (g := (mkF m 7 #[.val (.int p1)] [(.int (p1.toInt8.toInt32)), (.int (0 : Int32)), (.ref t1), (.ref t1)])) rfl rfl (hb hby d3_7)
  have N5 := Fr.snoc X5 N0 (by omega)
  have V5 : Arv Z h5 t1 k1 .byte (1 : Int32) [(.int (nar .byte (p1.toInt8.toInt32)))] (.int (0 : Int32)) := Arv.set Ar5 q5 Sz5 M5 Hs5 U5 (fits_nar_byte _) W5 0 rfl (Nat.le_of_ble_eq_true rfl)
  have z5 : h5.size = h2.size := W5.size
  have K5 := K2.wr W5 (Or.inr (by omega))
  have c6 : SS p e below B0 T5 m 8 #[.val (.int p1)] [(.ref t1)] := Steps.trans c4 (st5 _ (Steps.refl _))
  have A9 : Arv Z h5 t1 k1 .byte (1 : Int32) [.int (p1.toInt8.toInt32)] (.int (0 : Int32)) := by have q := V5; rwa [show nar .byte (p1.toInt8.toInt32) = p1.toInt8.toInt32 from by simp [nar]] at q
  obtain ⟨fs, hr, hrun, hended, hW, hsame⟩ := X5.leave (v := some (.ref t1)) (fun h => by rw [Bd.returns] at h; cases h)
  subst hB0
  refine ⟨_, _, Steps.trans c6 ?_, hrun, hended, _, _, rfl, ?_, ⟨_, rfl⟩, hW, hsame.mono (by decide) (by decide)⟩
  · exact retR X5 hx Bd.returns rfl rfl rfl (hb hby d3_8) hr
  · show QTb Z p1 h0 n0 _ T5.heap _
    rw [e5]
    exact ⟨t1, k1, rfl, N5, K5, (by omega), A9⟩
def QBB (Z : State) (a1 a2 : Addr) (h0 : Heap) (n0 : Nat) (v : Option Value) (h : Heap) (L : List Loc) : Prop := v = none ∧ Fr n0 L ∧ Keep h0 h [a1] ∧ Fld Z h a1 "java/lang/String" "value" "[B" (.ref a2) ∧ Fld Z h a1 "java/lang/String" "coder" "B" (.int (0 : Int32))
set_option maxRecDepth 65536 in
set_option maxHeartbeats 40000000 in
theorem rmBB (l : Launch) (Z : State) (a0 : Array Value) (hw : ∀ d ∈ tables_1, d.before a0 Z = true) (ws : List Jvm.Cond) (a1 a2 : Addr) (uv uc : Value) (h0 : Heap) (n0 : Nat) (Z0 : n0 ≤ h0.size) (E_a1 : Exa Z h0 a1 "java/lang/String") (Fv_a1 : Fld Z h0 a1 "java/lang/String" "value" "[B" uv) (Fc_a1 : Fld Z h0 a1 "java/lang/String" "coder" "B" uc) (g_a1 : n0 ≤ a1) :
    MetFree l (⟨"java/lang/String", "<init>", "([BB)V"⟩ : MethodName) (head1 (Jvm.Cond.code (⟨"java/lang/String", "<init>", "([BB)V"⟩ : MethodName) jdk_42_method_151_code 3 none :: ws) ({ frames := 1, cells := 0, slots := 0, locals := 14 } : Room)) (fun a U => a = #[(.ref a1), (.ref a2), (.int (0 : Int32))] ∧ Z.Warmed39 U.vm ∧ U.heap = h0) (fun _ _ _ _ _ => True) (fun _ U o U' => ∃ v L, o = .returned v ∧ QBB Z a1 a2 h0 n0 v U'.heap L ∧ FrameEnd U o U' L ({ frames := 1, cells := 0, slots := 0, locals := 14 } : Room).cells ({ frames := 1, cells := 0, slots := 0, locals := 14 } : Room).slots) := by
  refine MetFree.of_bodySF (plainFor_of_name pn_java_lang_String) hisR ?_
  intro p e s m args below meth c s₁ Bd hml0 hP hK
  obtain ⟨rfl, hZ, hh⟩ := hP
  have hx := Bd.exec
  have hby := Bd.bytes
  have hml : c.maxLocals = 3 := hml0
  have hown : s.vm.findClass "java/lang/String" = some m.cls := findClass_of_methodNamed Bd.named
  have hnm := (name_of_methodNamed Bd.named Bd.method).1
  have X0 : Stand p l e ({ frames := 1, cells := 0, slots := 0, locals := 14 } : Room) s m #[(.ref a1), (.ref a2), (.int (0 : Int32))] below meth c s₁ [] 0 0 := Stand.of_body Bd
  have e0 : s₁.heap = h0 := by rw [← hh, Bd.state]; rfl
  have N0 := Fr.nil n0
  obtain ⟨B0, c0, hB0⟩ : ∃ B0, Steps p.tables e below B0 (s₁.setTop (mkF m 0 #[.val (.ref a1), .val (.ref a2), .val (.int (0 : Int32))] [])) ∧ B0 = s₁.setTop (entryFrame m #[(.ref a1), (.ref a2), (.int (0 : Int32))] 3) := ⟨_, castTop (ef_RRI_3 m a1 a2 (0 : Int32)) (Steps.refl _), rfl⟩
  have lt_a1 : (@LT.lt Nat _ a1 h0.size) := E_a1.lt
  have c1 : SS p e below B0 s₁ m 1 #[.val (.ref a1), .val (.ref a2), .val (.int (0 : Int32))] [(.ref a1)] := Steps.trans c0 (by
      refine XS.aloadN X0.here hx rfl (hb hby d4_0) rfl rfl ?_
      exact Steps.refl _)
  obtain ⟨T2, X2, e2, st2⟩ := initO X0 hx hZ hown (W hw 16) (W hw 17) (W hw 18) e0 (g := (mkF m 1 #[.val (.ref a1), .val (.ref a2), .val (.int (0 : Int32))] [(.ref a1)])) rfl (by rw [hml]; rfl) rfl (hb hby d4_1) (by decide) (W := 0) (by show 2 * 0 + _ ≤ _; exact Nat.le_of_eq rfl) (by decide)
  have c3 : SS p e below B0 T2 m 4 #[.val (.ref a1), .val (.ref a2), .val (.int (0 : Int32))] [] := Steps.trans c1 (st2 _ (Steps.refl _))
  have c4 : SS p e below B0 T2 m 6 #[.val (.ref a1), .val (.ref a2), .val (.int (0 : Int32))] [(.ref a2), (.ref a1)] := Steps.trans c3 (by
      refine XS.aloadN X2.here hx rfl (hb hby d4_4) rfl rfl ?_
      refine XS.aloadN X2.here hx rfl (hb hby d4_5) rfl rfl ?_
      exact Steps.refl _)
  obtain ⟨T5, h5, X5, e5, W5, st5⟩ := putF X2 hx hZ hown (host := "") (Or.inl (W hw 25)) Via.refl e2 Fv_a1 E_a1 (Or.inr ⟨(W hw 21), rfl, hnm⟩) (W hw 7) (ty := (.array .byte)) (by decide) rfl rfl (g := (mkF m 6 #[.val (.ref a1), .val (.ref a2), .val (.int (0 : Int32))] [(.ref a2), (.ref a1)])) rfl rfl (hb hby d4_6)
  have N5 := Fr.snoc X5 N0 (by omega)
  have F5 : Fld Z h5 a1 "java/lang/String" "value" "[B" (.ref a2) := Fv_a1.same W5
  have z5 : h5.size = h0.size := W5.size
  have K5 := (Keep.refl h0 [a1]).wr W5 (Or.inl (List.mem_of_getElem? (i := 0) rfl))
  have c6 : SS p e below B0 T5 m 9 #[.val (.ref a1), .val (.ref a2), .val (.int (0 : Int32))] [] := Steps.trans c4 (st5 _ (Steps.refl _))
  have c7 : SS p e below B0 T5 m 11 #[.val (.ref a1), .val (.ref a2), .val (.int (0 : Int32))] [(.int (0 : Int32)), (.ref a1)] := Steps.trans c6 (by
      refine XS.aloadN X5.here hx rfl (hb hby d4_9) rfl rfl ?_
      refine XS.iloadN X5.here hx rfl (hb hby d4_10) rfl ?_
      exact Steps.refl _)
  have Fld9 : Fld Z h5 a1 "java/lang/String" "coder" "B" uc := (Fc_a1.other W5 (Or.inr (slot_ne (Or.inr (W hw 22)) (Or.inr (W hw 21)) (by decide) (t := .byte) (t' := (.array .byte)) (by decide) (by decide))))
  have Exa10 : Exa Z h5 a1 "java/lang/String" := (E_a1.wr W5)
  obtain ⟨T8, h8, X8, e8, W8, st8⟩ := putF X5 hx hZ hown (host := "") (Or.inl (W hw 26)) Via.refl e5 Fld9 Exa10 (Or.inr ⟨(W hw 22), rfl, hnm⟩) (W hw 7) (ty := .byte) (by decide) rfl rfl (g := (mkF m 11 #[.val (.ref a1), .val (.ref a2), .val (.int (0 : Int32))] [(.int (0 : Int32)), (.ref a1)])) rfl rfl (hb hby d4_11)
  have N8 := Fr.snoc X8 N5 (by omega)
  have F8 : Fld Z h8 a1 "java/lang/String" "coder" "B" (.int (0 : Int32)) := Fld9.same W8
  have z8 : h8.size = h5.size := W8.size
  have K8 := K5.wr W8 (Or.inl (List.mem_of_getElem? (i := 0) rfl))
  have c11 : SS p e below B0 T8 m 14 #[.val (.ref a1), .val (.ref a2), .val (.int (0 : Int32))] [] := Steps.trans c7 (st8 _ (Steps.refl _))
  have Fld12 : Fld Z h8 a1 "java/lang/String" "value" "[B" (.ref a2) := (F5.other W8 (Or.inr (slot_ne (Or.inr (W hw 21)) (Or.inr (W hw 22)) (by decide) (t := (.array .byte)) (t' := .byte) (by decide) (by decide))))
  obtain ⟨fs, hr, hrun, hended, hW, hsame⟩ := X8.leave (v := none) (fun _ => rfl)
  subst hB0
  refine ⟨_, _, Steps.trans c11 ?_, hrun, hended, _, _, rfl, ?_, ⟨_, rfl⟩, hW, hsame.mono (by decide) (by decide)⟩
  · exact X8.returnOut hx Bd.returns (hb hby d4_14) hr
  · show QBB Z a1 a2 h0 n0 _ T8.heap _
    rw [e8]
    exact ⟨rfl, N8, K8, Fld12, F8⟩
def QVo (Z : State) (p1 : Int32) (h0 : Heap) (n0 : Nat) (v : Option Value) (h : Heap) (L : List Loc) : Prop := ∃ (r t : Addr) (k : ClassId), v = some (.ref r) ∧ Fr n0 L ∧ Keep h0 h [] ∧ h0.size ≤ r ∧ (@LT.lt Nat _ r h.size) ∧ Exa Z h r "java/lang/String" ∧ Fld Z h r "java/lang/String" "value" "[B" (.ref t) ∧ Fld Z h r "java/lang/String" "coder" "B" (.int (0 : Int32)) ∧ Arv Z h t k .byte (1 : Int32) [.int (p1.toInt8.toInt32)] (.int (0 : Int32))
set_option maxRecDepth 65536 in
set_option maxHeartbeats 40000000 in
theorem rmVo (l : Launch) (Z : State) (a0 : Array Value) (hw : ∀ d ∈ tables_1, d.before a0 Z = true) (ws : List Jvm.Cond) (p1 : Int32) (G1 : Int32) (h0 : Heap) (n0 : Nat) (Z0 : n0 ≤ h0.size) (hp : ¬ (255 : Int32) < p1) (O2 : Sta Z Z.heap "java/lang/String" "COMPACT_STRINGS" "Z" (.int G1)) (P5 : ¬ (G1 = (0 : Int32))) (X00 : Old Z n0 h0) :
    MetFree l (⟨"java/lang/String", "valueOf", "(C)Ljava/lang/String;"⟩ : MethodName) (head1 (Jvm.Cond.code (⟨"java/lang/String", "valueOf", "(C)Ljava/lang/String;"⟩ : MethodName) jdk_42_method_139_code 1 (some (.object "java/lang/String")) :: ws) ({ frames := 2, cells := 2, slots := 5, locals := 29 } : Room)) (fun a U => a = #[(.int p1)] ∧ Z.Warmed39 U.vm ∧ U.heap = h0) (fun _ _ _ _ _ => True) (fun _ U o U' => ∃ v L, o = .returned v ∧ QVo Z p1 h0 n0 v U'.heap L ∧ FrameEnd U o U' L ({ frames := 2, cells := 2, slots := 5, locals := 29 } : Room).cells ({ frames := 2, cells := 2, slots := 5, locals := 29 } : Room).slots) := by
  refine MetFree.of_bodySF (plainFor_of_name pn_java_lang_String) hisR ?_
  intro p e s m args below meth c s₁ Bd hml0 hP hK
  obtain ⟨rfl, hZ, hh⟩ := hP
  have hx := Bd.exec
  have hby := Bd.bytes
  have hml : c.maxLocals = 1 := hml0
  have hown : s.vm.findClass "java/lang/String" = some m.cls := findClass_of_methodNamed Bd.named
  have hnm := (name_of_methodNamed Bd.named Bd.method).1
  have X0 : Stand p l e ({ frames := 2, cells := 2, slots := 5, locals := 29 } : Room) s m #[(.int p1)] below meth c s₁ [] 0 0 := Stand.of_body Bd
  have e0 : s₁.heap = h0 := by rw [← hh, Bd.state]; rfl
  have N0 := Fr.nil n0
  obtain ⟨B0, c0, hB0⟩ : ∃ B0, Steps p.tables e below B0 (s₁.setTop (mkF m 0 #[.val (.int p1)] [])) ∧ B0 = s₁.setTop (entryFrame m #[(.int p1)] 1) := ⟨_, castTop (ef_I_1 m p1) (Steps.refl _), rfl⟩
  obtain ⟨T1, X1, e1, st1⟩ := getS X0 hx hZ (host := "") hown (W hw 30) Via.refl e0 (O2.ext X00.2) (g := (mkF m 0 #[.val (.int p1)] [])) rfl (hb hby d5_0)
  have c2 : SS p e below B0 T1 m 3 #[.val (.int p1)] [(.int G1)] := Steps.trans c0 (st1 _ (Steps.refl _))
  have c3 : SS p e below B0 T1 m 7 #[.val (.int p1)] [(.int p1)] := Steps.trans c2 (by
      refine XS.ifNo X1.here hx rfl (hb hby d5_3) rfl ((if0 _ _).trans (feq P5).1) ?_
      refine XS.iloadN X1.here hx rfl (hb hby d5_6) rfl ?_
      exact Steps.refl _)
  obtain ⟨_, _, ⟨T4, Lp4, kp4, np4⟩, -, X4, ⟨Lc4, hQ4, lp4, yp4, zp4⟩, st4⟩ := Jvm.LawKit.callS X1 hx (y := (⟨"java/lang/StringLatin1", "canEncode", "(C)Z"⟩ : MethodName)) hown (mvT hZ (W hw 31)) (mvT hZ (W hw 32)) (mvT hZ (W hw 33)) (mvT hZ (W hw 34)) (by decide) (backOf (W := 0) (rmCe l Z a0 hw [] p1 h0 n0 Z0 hp) hZ (W hw 34) (W hw 33) (by decide) (by decide)) (g := (mkF m 7 #[.val (.int p1)] [(.int p1)])) rfl (by rw [hml]; rfl) (argsL := [(.int p1)]) (rest := []) (lenOf pd__C_Z rfl) rfl (by show 2 * 0 + _ ≤ _; exact Nat.le_of_eq rfl) (hb hby d5_7) (fun _ _ => ⟨rfl, e1, (by decide : 0 + 0 ≤ _), (by decide : 0 + 0 ≤ _)⟩)
  dsimp only [Pt.U, Pt.locs, Pt.cells, Pt.slots] at X4 lp4 yp4 zp4 st4 hQ4
  subst lp4 yp4 zp4
  obtain ⟨rfl, Nq4, eq4⟩ := hQ4
  have N4 := Fr.app N0 Nq4
  have c5 : SS p e below B0 T4 m 10 #[.val (.int p1)] [(.int (1 : Int32))] := Steps.trans c3 (st4 _ (Steps.refl _))
  have c6 : SS p e below B0 T4 m 13 #[.val (.int p1)] [] := Steps.trans c5 (by
      refine XS.ifNo X4.here hx rfl (hb hby d5_10) rfl ((if0 _ _).trans (feq (by decide : ¬ (1 : Int32) = 0)).1) ?_
      exact Steps.refl _)
  obtain ⟨T7, h7, X7, e7, E7, A7, D7, -, st7⟩ := newO X4 hx hZ hown (W hw 35) (W hw 7) (W hw 8) eq4 (g := (mkF m 13 #[.val (.int p1)] [])) rfl (hb hby d5_13) (by decide) (by decide)
  obtain ⟨r1, g7⟩ : ∃ z, z = h0.size := ⟨_, rfl⟩
  rw [← g7] at A7 D7 st7
  have z7 : h0.size ≤ h7.size := E7.1
  have l7 : (@LT.lt Nat _ r1 h7.size) := A7.lt
  have K7 := (Keep.refl h0 []).ext E7
  have c8 : SS p e below B0 T7 m 16 #[.val (.int p1)] [(.ref r1)] := Steps.trans c6 (st7 _ (Steps.refl _))
  have c9 : SS p e below B0 T7 m 18 #[.val (.int p1)] [(.int p1), (.ref r1), (.ref r1)] := Steps.trans c8 (by
      refine XS.dup X7.here hx rfl (hb hby d5_16) rfl rfl ?_
      refine XS.iloadN X7.here hx rfl (hb hby d5_17) rfl ?_
      exact Steps.refl _)
  obtain ⟨_, _, ⟨T10, Lp10, kp10, np10⟩, -, X10, ⟨Lc10, hQ10, lp10, yp10, zp10⟩, st10⟩ := Jvm.LawKit.callS X7 hx (y := (⟨"java/lang/StringLatin1", "toBytes", "(C)[B"⟩ : MethodName)) hown (mvT hZ (W hw 36)) (mvT hZ (W hw 37)) (mvT hZ (W hw 33)) (mvT hZ (W hw 38)) (by decide) (backOf (W := 2) (rmTb l Z a0 hw [] p1 h7 n0 (by omega)) hZ (W hw 38) (W hw 33) (by decide) (by decide)) (g := (mkF m 18 #[.val (.int p1)] [(.int p1), (.ref r1), (.ref r1)])) rfl (by rw [hml]; rfl) (argsL := [(.int p1)]) (rest := [(.ref r1), (.ref r1)]) (lenOf pd__C__B rfl) rfl (by show 2 * 0 + _ ≤ _; exact Nat.le_of_eq rfl) (hb hby d5_18) (fun _ _ => ⟨rfl, e7, (by decide : 1 + 1 ≤ _), (by decide : 4 + 1 ≤ _)⟩)
  dsimp only [Pt.U, Pt.locs, Pt.cells, Pt.slots] at X10 lp10 yp10 zp10 st10 hQ10
  subst lp10 yp10 zp10
  obtain ⟨t1, k1, rfl, Nq10, Kq10, lt10, av10⟩ := hQ10
  have N10 := Fr.app N4 Nq10
  obtain ⟨h10, e10⟩ : ∃ z, T10.heap = z := ⟨_, rfl⟩
  rw [e10] at Kq10 av10
  have z10 : h7.size ≤ h10.size := Kq10.1
  have K10 := K7.trans Kq10 all0
  have c11 : SS p e below B0 T10 m 21 #[.val (.int p1)] [(.ref t1), (.ref r1), (.ref r1)] := Steps.trans c9 (st10 _ (Steps.refl _))
  have c12 : SS p e below B0 T10 m 22 #[.val (.int p1)] [(.int (0 : Int32)), (.ref t1), (.ref r1), (.ref r1)] := Steps.trans c11 (by
      refine XT.iconstV X10.here hx rfl (0 : Int32) (hb hby d5_21) (by decide) ?_
      exact Steps.refl _)
  have Exa13 : Exa Z h10 r1 "java/lang/String" := (A7.keep Kq10)
  have Fld14 : Fld Z h10 r1 "java/lang/String" "value" "[B" .null := ((D7 (O := "java/lang/String") (nm := "value") (d := "[B") (Or.inr (W hw 21)) (ty := (.array .byte)) (by decide)).keep Kq10 nin0)
  have Fld15 : Fld Z h10 r1 "java/lang/String" "coder" "B" (.int (0 : Int32)) := ((D7 (O := "java/lang/String") (nm := "coder") (d := "B") (Or.inr (W hw 22)) (ty := .byte) (by decide)).keep Kq10 nin0)
  obtain ⟨_, _, ⟨T16, Lp16, kp16, np16⟩, -, X16, ⟨Lc16, hQ16, lp16, yp16, zp16⟩, st16⟩ := X10.specialBack hx (y := (⟨"java/lang/String", "<init>", "([BB)V"⟩ : MethodName)) rfl hown (mvT hZ (W hw 39)) (mvT hZ (W hw 40)) (mvT hZ (W hw 41)) (by decide) (backOf (W := 1) (rmBB l Z a0 hw [] r1 t1 _ _ h10 n0 (by omega) Exa13 Fld14 Fld15 (by omega)) hZ (W hw 41) (W hw 8) (by decide) (by decide)) (g := (mkF m 22 #[.val (.int p1)] [(.int (0 : Int32)), (.ref t1), (.ref r1), (.ref r1)])) rfl (by rw [hml]; rfl) c12 (a := r1) (argsL := [(.ref t1), (.int (0 : Int32))]) (rest := [(.ref r1)]) (lenOf pd___BB_V rfl) rfl (by show 2 * 0 + _ ≤ _; exact Nat.le_of_eq rfl) (hb hby d5_22) (fun _ _ => ⟨rfl, e10, (by decide : 2 + 0 ≤ _), (by decide : 5 + 0 ≤ _)⟩)
  dsimp only [Pt.U, Pt.locs, Pt.cells, Pt.slots] at X16 lp16 yp16 zp16 st16 hQ16
  subst lp16 yp16 zp16
  obtain ⟨rfl, Nq16, Kq16, fv16, fc16⟩ := hQ16
  have N16 := Fr.app N10 Nq16
  obtain ⟨h16, e16⟩ : ∃ z, T16.heap = z := ⟨_, rfl⟩
  rw [e16] at Kq16 fv16 fc16
  have z16 : h10.size ≤ h16.size := Kq16.1
  have K16 := K10.trans Kq16 (allS (Or.inr (by omega)) all0)
  have c17 : SS p e below B0 T16 m 25 #[.val (.int p1)] [(.ref r1)] := st16
  have Exa18 : Exa Z h16 r1 "java/lang/String" := (Exa13.keep Kq16)
  have Arv19 : Arv Z h16 t1 k1 .byte (1 : Int32) [.int (p1.toInt8.toInt32)] (.int (0 : Int32)) := (av10.keep Kq16 (ninS (own_ne (by omega)) nin0))
  obtain ⟨fs, hr, hrun, hended, hW, hsame⟩ := X16.leave (v := some (.ref r1)) (fun h => by rw [Bd.returns] at h; cases h)
  subst hB0
  refine ⟨_, _, Steps.trans c17 ?_, hrun, hended, _, _, rfl, ?_, ⟨_, rfl⟩, hW, hsame.mono (by decide) (by decide)⟩
  · exact retR X16 hx Bd.returns rfl rfl rfl (hb hby d5_25) hr
  · show QVo Z p1 h0 n0 _ T16.heap _
    rw [e16]
    exact ⟨r1, t1, k1, rfl, N16, K16, (by omega), (by omega), Exa18, fv16, fc16, Arv19⟩
def QNl1 (h0 : Heap) (n0 : Nat) (v : Option Value) (h : Heap) (L : List Loc) : Prop := v = some (.int (2 : Int32)) ∧ Fr n0 L ∧ h = h0
set_option maxRecDepth 65536 in
set_option maxHeartbeats 40000000 in
theorem rmNl1 (l : Launch) (Z : State) (a0 : Array Value) (hw : ∀ d ∈ tables_1, d.before a0 Z = true) (ws : List Jvm.Cond)  (h0 : Heap) (n0 : Nat) (Z0 : n0 ≤ h0.size)  :
    MetFree l (⟨"java/lang/StringUTF16", "newBytesLength", "(I)I"⟩ : MethodName) (head1 (Jvm.Cond.code (⟨"java/lang/StringUTF16", "newBytesLength", "(I)I"⟩ : MethodName) jdk_52_method_3_code 1 (some .int) :: ws) ({ frames := 0, cells := 0, slots := 0, locals := 0 } : Room)) (fun a U => a = #[(.int (1 : Int32))] ∧ Z.Warmed39 U.vm ∧ U.heap = h0) (fun _ _ _ _ _ => True) (fun _ U o U' => ∃ v L, o = .returned v ∧ QNl1 h0 n0 v U'.heap L ∧ FrameEnd U o U' L ({ frames := 0, cells := 0, slots := 0, locals := 0 } : Room).cells ({ frames := 0, cells := 0, slots := 0, locals := 0 } : Room).slots) := by
  refine MetFree.of_bodySF (plainFor_of_name pn_java_lang_StringUTF16) hisR ?_
  intro p e s m args below meth c s₁ Bd hml0 hP hK
  obtain ⟨rfl, hZ, hh⟩ := hP
  have hx := Bd.exec
  have hby := Bd.bytes
  have hml : c.maxLocals = 1 := hml0
  have hown : s.vm.findClass "java/lang/StringUTF16" = some m.cls := findClass_of_methodNamed Bd.named
  have hnm := (name_of_methodNamed Bd.named Bd.method).1
  have X0 : Stand p l e ({ frames := 0, cells := 0, slots := 0, locals := 0 } : Room) s m #[(.int (1 : Int32))] below meth c s₁ [] 0 0 := Stand.of_body Bd
  have e0 : s₁.heap = h0 := by rw [← hh, Bd.state]; rfl
  have N0 := Fr.nil n0
  obtain ⟨B0, c0, hB0⟩ : ∃ B0, Steps p.tables e below B0 (s₁.setTop (mkF m 0 #[.val (.int (1 : Int32))] [])) ∧ B0 = s₁.setTop (entryFrame m #[(.int (1 : Int32))] 1) := ⟨_, castTop (ef_I_1 m (1 : Int32)) (Steps.refl _), rfl⟩
  have c1 : SS p e below B0 s₁ m 58 #[.val (.int (1 : Int32))] [(.int (2 : Int32))] := Steps.trans c0 (by
      refine XS.iloadN X0.here hx rfl (hb hby d6_0) rfl ?_
      refine XS.ifYes X0.here hx rfl (pc0 := 1) (pc' := 12) rfl (hb hby d6_1) rfl ((if0 _ _).trans (flt (by decide : ¬ (1 : Int32) < (0 : Int32))).2.1) (by decide) (by decide) ?_
      refine XS.iloadN X0.here hx rfl (hb hby d6_12) rfl ?_
      refine X0.ldcI hx hown (mvT hZ (W hw 102)) rfl (hb hby d6_13) ?_
      refine XS.icmpYes X0.here hx rfl (pc0 := 15) (pc' := 55) rfl (hb hby d6_15) rfl (tlt (by decide : (1 : Int32) < (1073741823 : Int32))).1 (by decide) (by decide) ?_
      refine XS.iloadN X0.here hx rfl (hb hby d6_55) rfl ?_
      refine XT.iconstV X0.here hx rfl (1 : Int32) (hb hby d6_56) (by decide) ?_
      refine XS.ishl X0.here hx rfl (hb hby d6_57) rfl ?_
      exact Steps.refl _)
  obtain ⟨fs, hr, hrun, hended, hW, hsame⟩ := X0.leave (v := some (.int (2 : Int32))) (fun h => by rw [Bd.returns] at h; cases h)
  subst hB0
  refine ⟨_, _, Steps.trans c1 ?_, hrun, hended, _, _, rfl, ?_, ⟨_, rfl⟩, hW, hsame.mono (by decide) (by decide)⟩
  · exact retI X0 hx Bd.returns (hb hby d6_58) hr
  · show QNl1 h0 n0 _ s₁.heap _
    rw [e0]
    exact ⟨rfl, N0, rfl⟩
def QNf1 (Z : State) (h0 : Heap) (n0 : Nat) (v : Option Value) (h : Heap) (L : List Loc) : Prop := ∃ (t : Addr) (k : ClassId), v = some (.ref t) ∧ Fr n0 L ∧ Keep h0 h [] ∧ (@Eq Nat t h0.size) ∧ Arv Z h t k .byte (2 : Int32) [(.int (0 : Int32)), (.int (0 : Int32))] (.int (0 : Int32))
set_option maxRecDepth 65536 in
set_option maxHeartbeats 40000000 in
theorem rmNf1 (l : Launch) (Z : State) (a0 : Array Value) (hw : ∀ d ∈ tables_1, d.before a0 Z = true) (ws : List Jvm.Cond)  (h0 : Heap) (n0 : Nat) (Z0 : n0 ≤ h0.size)  :
    MetFree l (⟨"java/lang/StringUTF16", "newBytesFor", "(I)[B"⟩ : MethodName) (head1 (Jvm.Cond.code (⟨"java/lang/StringUTF16", "newBytesFor", "(I)[B"⟩ : MethodName) jdk_52_method_2_code 1 (some (.array .byte)) :: ws) ({ frames := 1, cells := 1, slots := 2, locals := 12 } : Room)) (fun a U => a = #[(.int (1 : Int32))] ∧ Z.Warmed39 U.vm ∧ U.heap = h0) (fun _ _ _ _ _ => True) (fun _ U o U' => ∃ v L, o = .returned v ∧ QNf1 Z h0 n0 v U'.heap L ∧ FrameEnd U o U' L ({ frames := 1, cells := 1, slots := 2, locals := 12 } : Room).cells ({ frames := 1, cells := 1, slots := 2, locals := 12 } : Room).slots) := by
  refine MetFree.of_bodySF (plainFor_of_name pn_java_lang_StringUTF16) hisR ?_
  intro p e s m args below meth c s₁ Bd hml0 hP hK
  obtain ⟨rfl, hZ, hh⟩ := hP
  have hx := Bd.exec
  have hby := Bd.bytes
  have hml : c.maxLocals = 1 := hml0
  have hown : s.vm.findClass "java/lang/StringUTF16" = some m.cls := findClass_of_methodNamed Bd.named
  have hnm := (name_of_methodNamed Bd.named Bd.method).1
  have X0 : Stand p l e ({ frames := 1, cells := 1, slots := 2, locals := 12 } : Room) s m #[(.int (1 : Int32))] below meth c s₁ [] 0 0 := Stand.of_body Bd
  have e0 : s₁.heap = h0 := by rw [← hh, Bd.state]; rfl
  have N0 := Fr.nil n0
  obtain ⟨B0, c0, hB0⟩ : ∃ B0, Steps p.tables e below B0 (s₁.setTop (mkF m 0 #[.val (.int (1 : Int32))] [])) ∧ B0 = s₁.setTop (entryFrame m #[(.int (1 : Int32))] 1) := ⟨_, castTop (ef_I_1 m (1 : Int32)) (Steps.refl _), rfl⟩
  have c1 : SS p e below B0 s₁ m 1 #[.val (.int (1 : Int32))] [(.int (1 : Int32))] := Steps.trans c0 (by
      refine XS.iloadN X0.here hx rfl (hb hby d7_0) rfl ?_
      exact Steps.refl _)
  obtain ⟨_, _, ⟨T2, Lp2, kp2, np2⟩, -, X2, ⟨Lc2, hQ2, lp2, yp2, zp2⟩, st2⟩ := Jvm.LawKit.callS X0 hx (y := (⟨"java/lang/StringUTF16", "newBytesLength", "(I)I"⟩ : MethodName)) hown (mvT hZ (W hw 99)) (mvT hZ (W hw 100)) (mvT hZ (W hw 64)) (mvT hZ (W hw 101)) (by decide) (backOf (W := 0) (rmNl1 l Z a0 hw [] h0 n0 Z0) hZ (W hw 101) (W hw 64) (by decide) (by decide)) (g := (mkF m 1 #[.val (.int (1 : Int32))] [(.int (1 : Int32))])) rfl (by rw [hml]; rfl) (argsL := [(.int (1 : Int32))]) (rest := []) (lenOf pd__I_I rfl) rfl (by show 2 * 0 + _ ≤ _; exact Nat.le_of_eq rfl) (hb hby d7_1) (fun _ _ => ⟨rfl, e0, (by decide : 0 + 0 ≤ _), (by decide : 0 + 0 ≤ _)⟩)
  dsimp only [Pt.U, Pt.locs, Pt.cells, Pt.slots] at X2 lp2 yp2 zp2 st2 hQ2
  subst lp2 yp2 zp2
  obtain ⟨rfl, Nq2, eq2⟩ := hQ2
  have N2 := Fr.app N0 Nq2
  have c3 : SS p e below B0 T2 m 4 #[.val (.int (1 : Int32))] [(.int (2 : Int32))] := Steps.trans c1 (st2 _ (Steps.refl _))
  obtain ⟨T4, h4, k1, X4, e4, E4, A4, st4⟩ := newP X2 hx hZ (W hw 20) eq2 (g := (mkF m 4 #[.val (.int (1 : Int32))] [(.int (2 : Int32))])) rfl (hb hby d7_4) rfl (by decide : ¬ ((2 : Int32) < (0 : Int32))) (cap := 2) (by decide : (2 : Int32).toNatClampNeg ≤ 2) (by decide) (by decide) (by decide)
  obtain ⟨t1, g4⟩ : ∃ z, z = h0.size := ⟨_, rfl⟩
  rw [← g4] at A4 st4
  have z4 : h0.size ≤ h4.size := E4.1
  have l4 : (@LT.lt Nat _ t1 h4.size) := A4.lt
  have K4 := (Keep.refl h0 []).ext E4
  have V4 : Arv Z h4 t1 k1 .byte (2 : Int32) [(.int (0 : Int32)), (.int (0 : Int32))] (.int (0 : Int32)) := (Arv.new A4 (by decide)).pad (pad_rep [] (.int (0 : Int32)) 2)
  have c5 : SS p e below B0 T4 m 6 #[.val (.int (1 : Int32))] [(.ref t1)] := Steps.trans c3 (st4 _ (Steps.refl _))
  obtain ⟨fs, hr, hrun, hended, hW, hsame⟩ := X4.leave (v := some (.ref t1)) (fun h => by rw [Bd.returns] at h; cases h)
  subst hB0
  refine ⟨_, _, Steps.trans c5 ?_, hrun, hended, _, _, rfl, ?_, ⟨_, rfl⟩, hW, hsame.mono (by decide) (by decide)⟩
  · exact retR X4 hx Bd.returns rfl rfl rfl (hb hby d7_6) hr
  · show QNf1 Z h0 n0 _ T4.heap _
    rw [e4]
    exact ⟨t1, k1, rfl, N2, K4, (by omega), V4⟩
def QPut1_0 (Z : State) (t : Addr) (k : ClassId) (pv : Int32) (u0 u1 : Value) (h0 : Heap) (n0 : Nat) (v : Option Value) (h : Heap) (L : List Loc) : Prop := v = none ∧ Fr n0 L ∧ Keep h0 h [t] ∧ Arv Z h t k .byte (2 : Int32) [(.int (nar .byte ((pv >>> ((0 : Int32) &&& 31)).toInt8.toInt32))), (.int (nar .byte ((pv >>> ((8 : Int32) &&& 31)).toInt8.toInt32)))] (.int (0 : Int32))
set_option maxRecDepth 65536 in
set_option maxHeartbeats 40000000 in
theorem rmPut1_0 (l : Launch) (Z : State) (a0 : Array Value) (hw : ∀ d ∈ tables_1, d.before a0 Z = true) (ws : List Jvm.Cond) (t : Addr) (k : ClassId) (pv : Int32) (u0 u1 : Value) (h0 : Heap) (n0 : Nat) (Z0 : n0 ≤ h0.size) (O7 : Sta Z Z.heap "java/lang/StringUTF16" "$assertionsDisabled" "Z" (.int (1 : Int32))) (O8 : Sta Z Z.heap "java/lang/StringUTF16" "HI_BYTE_SHIFT" "I" (.int (0 : Int32))) (O9 : Sta Z Z.heap "java/lang/StringUTF16" "LO_BYTE_SHIFT" "I" (.int (8 : Int32))) (X00 : Old Z n0 h0) (Vt : Arv Z h0 t k .byte (2 : Int32) [u0, u1] (.int (0 : Int32))) (gt : n0 ≤ t) :
    MetFree l (⟨"java/lang/StringUTF16", "putChar", "([BII)V"⟩ : MethodName) (head1 (Jvm.Cond.code (⟨"java/lang/StringUTF16", "putChar", "([BII)V"⟩ : MethodName) jdk_52_method_4_code 3 none :: ws) ({ frames := 0, cells := 0, slots := 0, locals := 0 } : Room)) (fun a U => a = #[(.ref t), (.int (0 : Int32)), (.int pv)] ∧ Z.Warmed39 U.vm ∧ U.heap = h0) (fun _ _ _ _ _ => True) (fun _ U o U' => ∃ v L, o = .returned v ∧ QPut1_0 Z t k pv u0 u1 h0 n0 v U'.heap L ∧ FrameEnd U o U' L ({ frames := 0, cells := 0, slots := 0, locals := 0 } : Room).cells ({ frames := 0, cells := 0, slots := 0, locals := 0 } : Room).slots) := by
  refine MetFree.of_bodySF (plainFor_of_name pn_java_lang_StringUTF16) hisR ?_
  intro p e s m args below meth c s₁ Bd hml0 hP hK
  obtain ⟨rfl, hZ, hh⟩ := hP
  have hx := Bd.exec
  have hby := Bd.bytes
  have hml : c.maxLocals = 3 := hml0
  have hown : s.vm.findClass "java/lang/StringUTF16" = some m.cls := findClass_of_methodNamed Bd.named
  have hnm := (name_of_methodNamed Bd.named Bd.method).1
  have X0 : Stand p l e ({ frames := 0, cells := 0, slots := 0, locals := 0 } : Room) s m #[(.ref t), (.int (0 : Int32)), (.int pv)] below meth c s₁ [] 0 0 := Stand.of_body Bd
  have e0 : s₁.heap = h0 := by rw [← hh, Bd.state]; rfl
  have N0 := Fr.nil n0
  obtain ⟨B0, c0, hB0⟩ : ∃ B0, Steps p.tables e below B0 (s₁.setTop (mkF m 0 #[.val (.ref t), .val (.int (0 : Int32)), .val (.int pv)] [])) ∧ B0 = s₁.setTop (entryFrame m #[(.ref t), (.int (0 : Int32)), (.int pv)] 3) := ⟨_, castTop (ef_RII_3 m t (0 : Int32) pv) (Steps.refl _), rfl⟩
  have lt_t : (@LT.lt Nat _ t h0.size) := Vt.lt
  obtain ⟨T1, X1, e1, st1⟩ := getS X0 hx hZ (host := "") hown (W hw 106) Via.refl e0 (O7.ext X00.2) (g := (mkF m 0 #[.val (.ref t), .val (.int (0 : Int32)), .val (.int pv)] [])) rfl (hb hby d8_0)
  have c2 : SS p e below B0 T1 m 3 #[.val (.ref t), .val (.int (0 : Int32)), .val (.int pv)] [(.int (1 : Int32))] := Steps.trans c0 (st1 _ (Steps.refl _))
  have c3 : SS p e below B0 T1 m 38 #[.val (.ref t), .val (.int (1 : Int32)), .val (.int pv)] [(.int pv), (.int (0 : Int32)), (.ref t)] := Steps.trans c2 (by
      refine XS.ifYes X1.here hx rfl (pc0 := 3) (pc' := 28) rfl (hb hby d8_3) rfl ((if0 _ _).trans (feq (by decide : ¬ (1 : Int32) = (0 : Int32))).2) (by decide) (by decide) ?_
      refine XS.iloadN X1.here hx rfl (hb hby d8_28) rfl ?_
      refine XT.iconstV X1.here hx rfl (1 : Int32) (hb hby d8_29) (by decide) ?_
      refine XS.ishl X1.here hx rfl (hb hby d8_30) rfl ?_
      refine XS.istoreN X1.here hx rfl (hb hby d8_31) rfl (l' := #[.val (.ref t), .val (.int (0 : Int32)), .val (.int pv)]) rfl ?_
      refine XS.aloadN X1.here hx rfl (hb hby d8_32) rfl rfl ?_
      refine XS.iloadN X1.here hx rfl (hb hby d8_33) rfl ?_
      refine XT.iincV X1.here hx rfl (1 : Int32) (hb hby d8_34) (by decide) rfl (l' := #[.val (.ref t), .val (.int (1 : Int32)), .val (.int pv)]) rfl ?_
      refine XS.iloadN X1.here hx rfl (hb hby d8_37) rfl ?_
      exact Steps.refl _)
  obtain ⟨T4, X4, e4, st4⟩ := getS X1 hx hZ (host := "") hown (W hw 107) Via.refl e1 (O8.ext X00.2) (g := (mkF m 38 #[.val (.ref t), .val (.int (1 : Int32)), .val (.int pv)] [(.int pv), (.int (0 : Int32)), (.ref t)])) rfl (hb hby d8_38)
  have c5 : SS p e below B0 T4 m 41 #[.val (.ref t), .val (.int (1 : Int32)), .val (.int pv)] [(.int (0 : Int32)), (.int pv), (.int (0 : Int32)), (.ref t)] := Steps.trans c3 (st4 _ (Steps.refl _))
  have c6 : SS p e below B0 T4 m 43 #[.val (.ref t), .val (.int (1 : Int32)), .val (.int pv)] [(.int ((pv >>> ((0 : Int32) &&& 31)).toInt8.toInt32)), (.int (0 : Int32)), (.ref t)] := Steps.trans c5 (by
      refine XS.ishr X4.here hx rfl (hb hby d8_41) rfl ?_
      refine XS.i2b X4.here hx rfl (hb hby d8_42) rfl ?_
      exact Steps.refl _)
  obtain ⟨cl7, Ar7, q7, Sz7, M7, Hs7, U7⟩ := id Vt
  obtain ⟨T7, h7, X7, e7, W7, st7⟩ := stB X4 hx hZ e4 Ar7 (j := (0 : Int32)) (inb_of Sz7 ⟨(by decide), (by decide)⟩) (g := (mkF m 43 #[.val (.ref t), .val (.int (1 : Int32)), .val (.int pv)] [(.int ((pv >>> ((0 : Int32) &&& 31)).toInt8.toInt32)), (.int (0 : Int32)), (.ref t)])) rfl rfl (hb hby d8_43)
  have N7 := Fr.snoc X7 N0 (by omega)
  have V7 : Arv Z h7 t k .byte (2 : Int32) [(.int (nar .byte ((pv >>> ((0 : Int32) &&& 31)).toInt8.toInt32))), u1] (.int (0 : Int32)) := Arv.set Ar7 q7 Sz7 M7 Hs7 U7 (fits_nar_byte _) W7 0 rfl (Nat.le_of_ble_eq_true rfl)
  have z7 : h7.size = h0.size := W7.size
  have K7 := (Keep.refl h0 [t]).wr W7 (Or.inl (List.mem_of_getElem? (i := 0) rfl))
  have c8 : SS p e below B0 T7 m 44 #[.val (.ref t), .val (.int (1 : Int32)), .val (.int pv)] [] := Steps.trans c6 (st7 _ (Steps.refl _))
  have Old9 : Old Z n0 h7 := (X00.wr W7 (by omega))
  have c10 : SS p e below B0 T7 m 47 #[.val (.ref t), .val (.int (1 : Int32)), .val (.int pv)] [(.int pv), (.int (1 : Int32)), (.ref t)] := Steps.trans c8 (by
      refine XS.aloadN X7.here hx rfl (hb hby d8_44) rfl rfl ?_
      refine XS.iloadN X7.here hx rfl (hb hby d8_45) rfl ?_
      refine XS.iloadN X7.here hx rfl (hb hby d8_46) rfl ?_
      exact Steps.refl _)
  obtain ⟨T11, X11, e11, st11⟩ := getS X7 hx hZ (host := "") hown (W hw 108) Via.refl e7 (O9.ext Old9.2) (g := (mkF m 47 #[.val (.ref t), .val (.int (1 : Int32)), .val (.int pv)] [(.int pv), (.int (1 : Int32)), (.ref t)])) rfl (hb hby d8_47)
  have c12 : SS p e below B0 T11 m 50 #[.val (.ref t), .val (.int (1 : Int32)), .val (.int pv)] [(.int (8 : Int32)), (.int pv), (.int (1 : Int32)), (.ref t)] := Steps.trans c10 (st11 _ (Steps.refl _))
  have c13 : SS p e below B0 T11 m 52 #[.val (.ref t), .val (.int (1 : Int32)), .val (.int pv)] [(.int ((pv >>> ((8 : Int32) &&& 31)).toInt8.toInt32)), (.int (1 : Int32)), (.ref t)] := Steps.trans c12 (by
      refine XS.ishr X11.here hx rfl (hb hby d8_50) rfl ?_
      refine XS.i2b X11.here hx rfl (hb hby d8_51) rfl ?_
      exact Steps.refl _)
  obtain ⟨cl14, Ar14, q14, Sz14, M14, Hs14, U14⟩ := id V7
  obtain ⟨T14, h14, X14, e14, W14, st14⟩ := stB X11 hx hZ e11 Ar14 (j := (1 : Int32)) (inb_of Sz14 ⟨(by decide), (by decide)⟩) (g := (mkF m 52 #[.val (.ref t), .val (.int (1 : Int32)), .val (.int pv)] [(.int ((pv >>> ((8 : Int32) &&& 31)).toInt8.toInt32)), (.int (1 : Int32)), (.ref t)])) rfl rfl (hb hby d8_52)
  have N14 := Fr.snoc X14 N7 (by omega)
  have V14 : Arv Z h14 t k .byte (2 : Int32) [(.int (nar .byte ((pv >>> ((0 : Int32) &&& 31)).toInt8.toInt32))), (.int (nar .byte ((pv >>> ((8 : Int32) &&& 31)).toInt8.toInt32)))] (.int (0 : Int32)) := Arv.set Ar14 q14 Sz14 M14 Hs14 U14 (fits_nar_byte _) W14 1 rfl (Nat.le_of_ble_eq_true rfl)
  have z14 : h14.size = h7.size := W14.size
  have K14 := K7.wr W14 (Or.inl (List.mem_of_getElem? (i := 0) rfl))
  have c15 : SS p e below B0 T14 m 53 #[.val (.ref t), .val (.int (1 : Int32)), .val (.int pv)] [] := Steps.trans c13 (st14 _ (Steps.refl _))
  obtain ⟨fs, hr, hrun, hended, hW, hsame⟩ := X14.leave (v := none) (fun _ => rfl)
  subst hB0
  refine ⟨_, _, Steps.trans c15 ?_, hrun, hended, _, _, rfl, ?_, ⟨_, rfl⟩, hW, hsame.mono (by decide) (by decide)⟩
  · exact X14.returnOut hx Bd.returns (hb hby d8_53) hr
  · show QPut1_0 Z t k pv u0 u1 h0 n0 _ T14.heap _
    rw [e14]
    exact ⟨rfl, N14, K14, V14⟩
def QTo1 (Z : State) (c0' : Int32) (h0 : Heap) (n0 : Nat) (v : Option Value) (h : Heap) (L : List Loc) : Prop := ∃ (t : Addr) (k : ClassId), v = some (.ref t) ∧ Fr n0 L ∧ Keep h0 h [] ∧ (@Eq Nat t h0.size) ∧ Arv Z h t k .byte (2 : Int32) [(.int (nar .byte ((c0' >>> ((0 : Int32) &&& 31)).toInt8.toInt32))), (.int (nar .byte ((c0' >>> ((8 : Int32) &&& 31)).toInt8.toInt32)))] (.int (0 : Int32))
set_option maxRecDepth 65536 in
set_option maxHeartbeats 40000000 in
theorem rmTo1 (l : Launch) (Z : State) (a0 : Array Value) (hw : ∀ d ∈ tables_1, d.before a0 Z = true) (ws : List Jvm.Cond) (r : Addr) (kc : ClassId) (c0' : Int32) (h0 : Heap) (n0 : Nat) (Z0 : n0 ≤ h0.size) (O7 : Sta Z Z.heap "java/lang/StringUTF16" "$assertionsDisabled" "Z" (.int (1 : Int32))) (O8 : Sta Z Z.heap "java/lang/StringUTF16" "HI_BYTE_SHIFT" "I" (.int (0 : Int32))) (O9 : Sta Z Z.heap "java/lang/StringUTF16" "LO_BYTE_SHIFT" "I" (.int (8 : Int32))) (X00 : Old Z n0 h0) (Vr : Arv Z h0 r kc .char (1 : Int32) [(.int c0')] (.int (0 : Int32))) :
    MetFree l (⟨"java/lang/StringUTF16", "toBytes", "([CII)[B"⟩ : MethodName) (head1 (Jvm.Cond.code (⟨"java/lang/StringUTF16", "toBytes", "([CII)[B"⟩ : MethodName) jdk_52_method_14_code 5 (some (.array .byte)) :: ws) ({ frames := 2, cells := 1, slots := 2, locals := 24 } : Room)) (fun a U => a = #[(.ref r), (.int (0 : Int32)), (.int (1 : Int32))] ∧ Z.Warmed39 U.vm ∧ U.heap = h0) (fun _ _ _ _ _ => True) (fun _ U o U' => ∃ v L, o = .returned v ∧ QTo1 Z c0' h0 n0 v U'.heap L ∧ FrameEnd U o U' L ({ frames := 2, cells := 1, slots := 2, locals := 24 } : Room).cells ({ frames := 2, cells := 1, slots := 2, locals := 24 } : Room).slots) := by
  refine MetFree.of_bodySF (plainFor_of_name pn_java_lang_StringUTF16) hisR ?_
  intro p e s m args below meth c s₁ Bd hml0 hP hK
  obtain ⟨rfl, hZ, hh⟩ := hP
  have hx := Bd.exec
  have hby := Bd.bytes
  have hml : c.maxLocals = 5 := hml0
  have hown : s.vm.findClass "java/lang/StringUTF16" = some m.cls := findClass_of_methodNamed Bd.named
  have hnm := (name_of_methodNamed Bd.named Bd.method).1
  have X0 : Stand p l e ({ frames := 2, cells := 1, slots := 2, locals := 24 } : Room) s m #[(.ref r), (.int (0 : Int32)), (.int (1 : Int32))] below meth c s₁ [] 0 0 := Stand.of_body Bd
  have e0 : s₁.heap = h0 := by rw [← hh, Bd.state]; rfl
  have N0 := Fr.nil n0
  obtain ⟨B0, c0, hB0⟩ : ∃ B0, Steps p.tables e below B0 (s₁.setTop (mkF m 0 #[.val (.ref r), .val (.int (0 : Int32)), .val (.int (1 : Int32)), .unset, .unset] [])) ∧ B0 = s₁.setTop (entryFrame m #[(.ref r), (.int (0 : Int32)), (.int (1 : Int32))] 5) := ⟨_, castTop (ef_RII_5 m r (0 : Int32) (1 : Int32)) (Steps.refl _), rfl⟩
  have lt_r : (@LT.lt Nat _ r h0.size) := Vr.lt
  have c1 : SS p e below B0 s₁ m 1 #[.val (.ref r), .val (.int (0 : Int32)), .val (.int (1 : Int32)), .unset, .unset] [(.int (1 : Int32))] := Steps.trans c0 (by
      refine XS.iloadN X0.here hx rfl (hb hby d9_0) rfl ?_
      exact Steps.refl _)
  obtain ⟨_, _, ⟨T2, Lp2, kp2, np2⟩, -, X2, ⟨Lc2, hQ2, lp2, yp2, zp2⟩, st2⟩ := Jvm.LawKit.callS X0 hx (y := (⟨"java/lang/StringUTF16", "newBytesFor", "(I)[B"⟩ : MethodName)) hown (mvT hZ (W hw 96)) (mvT hZ (W hw 97)) (mvT hZ (W hw 64)) (mvT hZ (W hw 98)) (by decide) (backOf (W := 0) (rmNf1 l Z a0 hw [] h0 n0 Z0) hZ (W hw 98) (W hw 64) (by decide) (by decide)) (g := (mkF m 1 #[.val (.ref r), .val (.int (0 : Int32)), .val (.int (1 : Int32)), .unset, .unset] [(.int (1 : Int32))])) rfl (by rw [hml]; rfl) (argsL := [(.int (1 : Int32))]) (rest := []) (lenOf pd__I__B rfl) rfl (by show 2 * 0 + _ ≤ _; exact Nat.le_of_eq rfl) (hb hby d9_1) (fun _ _ => ⟨rfl, e0, (by decide : 0 + 1 ≤ _), (by decide : 0 + 2 ≤ _)⟩)
  dsimp only [Pt.U, Pt.locs, Pt.cells, Pt.slots] at X2 lp2 yp2 zp2 st2 hQ2
  subst lp2 yp2 zp2
  obtain ⟨t1, k1, rfl, Nq2, Kq2, g2, av2⟩ := hQ2
  have N2 := Fr.app N0 Nq2
  obtain ⟨h2, e2⟩ : ∃ z, T2.heap = z := ⟨_, rfl⟩
  rw [e2] at Kq2 av2
  have z2 : h0.size ≤ h2.size := Kq2.1
  have K2 := (Keep.refl h0 []).trans Kq2 all0
  have c3 : SS p e below B0 T2 m 4 #[.val (.ref r), .val (.int (0 : Int32)), .val (.int (1 : Int32)), .unset, .unset] [(.ref t1)] := Steps.trans c1 (st2 _ (Steps.refl _))
  have lt_t1 : (@LT.lt Nat _ t1 h2.size) := av2.lt
  have c4 : SS p e below B0 T2 m 19 #[.val (.ref r), .val (.int (0 : Int32)), .val (.int (1 : Int32)), .val (.ref t1), .val (.int (0 : Int32))] [(.int (0 : Int32)), (.ref r), (.int (0 : Int32)), (.ref t1)] := Steps.trans c3 (by
      refine XS.astoreN X2.here hx rfl (hb hby d9_4) rfl rfl (l' := #[.val (.ref r), .val (.int (0 : Int32)), .val (.int (1 : Int32)), .val (.ref t1), .unset]) rfl ?_
      refine XT.iconstV X2.here hx rfl (0 : Int32) (hb hby d9_5) (by decide) ?_
      refine XS.istore X2.here hx rfl (hb hby d9_6) rfl (l' := #[.val (.ref r), .val (.int (0 : Int32)), .val (.int (1 : Int32)), .val (.ref t1), .val (.int (0 : Int32))]) rfl ?_
      refine XS.iload X2.here hx rfl (hb hby d9_8) rfl ?_
      refine XS.iloadN X2.here hx rfl (hb hby d9_10) rfl ?_
      refine XS.icmpNo X2.here hx rfl (hb hby d9_11) rfl (tlt (by decide : (0 : Int32) < (1 : Int32))).2.1 ?_
      refine XS.aloadN X2.here hx rfl (hb hby d9_14) rfl rfl ?_
      refine XS.iload X2.here hx rfl (hb hby d9_15) rfl ?_
      refine XS.aloadN X2.here hx rfl (hb hby d9_17) rfl rfl ?_
      refine XS.iloadN X2.here hx rfl (hb hby d9_18) rfl ?_
      exact Steps.refl _)
  have Arv6 : Arv Z h2 r kc .char (1 : Int32) [(.int c0')] (.int (0 : Int32)) := (Vr.keep Kq2 nin0)
  obtain ⟨cl5, Ar5, q5, Sz5, M5, Hs5, U5⟩ := id Arv6
  have in5 := inb_of (j := (0 : Int32)) Sz5 ⟨(by decide), (by decide)⟩
  have c7 : SS p e below B0 T2 m 20 #[.val (.ref r), .val (.int (0 : Int32)), .val (.int (1 : Int32)), .val (.ref t1), .val (.int (0 : Int32))] [(.int (c0')), (.int (0 : Int32)), (.ref t1)] := Steps.trans c4 (by
      refine X2.caload hx (j := (0 : Int32)) (v := (.int (c0'))) (by rw [e2]; exact Ar5.1) (State.isArrayOf_alike hZ.alike Ar5.2.1) Ar5.2.2 in5 (Hs5.at in5 rfl) (g := (mkF m 19 #[.val (.ref r), .val (.int (0 : Int32)), .val (.int (1 : Int32)), .val (.ref t1), .val (.int (0 : Int32))] [(.int (0 : Int32)), (.ref r), (.int (0 : Int32)), (.ref t1)])) rfl rfl (hb hby d9_19) _ ?_
      exact Steps.refl _)
  have Old8 : Old Z n0 h2 := (X00.keep Kq2 all0)
  obtain ⟨_, _, ⟨T9, Lp9, kp9, np9⟩, -, X9, ⟨Lc9, hQ9, lp9, yp9, zp9⟩, st9⟩ := Jvm.LawKit.callS X2 hx (y := (⟨"java/lang/StringUTF16", "putChar", "([BII)V"⟩ : MethodName)) hown (mvT hZ (W hw 103)) (mvT hZ (W hw 104)) (mvT hZ (W hw 64)) (mvT hZ (W hw 105)) (by decide) (backOf (W := 0) (rmPut1_0 l Z a0 hw [] t1 k1 c0' (.int (0 : Int32)) (.int (0 : Int32)) h2 n0 (by omega) O7 O8 O9 Old8 av2 (by omega)) hZ (W hw 105) (W hw 64) (by decide) (by decide)) (g := (mkF m 20 #[.val (.ref r), .val (.int (0 : Int32)), .val (.int (1 : Int32)), .val (.ref t1), .val (.int (0 : Int32))] [(.int (c0')), (.int (0 : Int32)), (.ref t1)])) rfl (by rw [hml]; rfl) (argsL := [(.ref t1), (.int (0 : Int32)), (.int (c0'))]) (rest := []) (lenOf pd___BII_V rfl) rfl (by show 2 * 0 + _ ≤ _; exact Nat.le_of_eq rfl) (hb hby d9_20) (fun _ _ => ⟨rfl, e2, (by decide : 1 + 0 ≤ _), (by decide : 2 + 0 ≤ _)⟩)
  dsimp only [Pt.U, Pt.locs, Pt.cells, Pt.slots] at X9 lp9 yp9 zp9 st9 hQ9
  subst lp9 yp9 zp9
  obtain ⟨rfl, Nq9, Kq9, av9⟩ := hQ9
  have N9 := Fr.app N2 Nq9
  obtain ⟨h9, e9⟩ : ∃ z, T9.heap = z := ⟨_, rfl⟩
  rw [e9] at Kq9 av9
  have z9 : h2.size ≤ h9.size := Kq9.1
  have K9 := K2.trans Kq9 (allS (Or.inr (by omega)) all0)
  have c10 : SS p e below B0 T9 m 23 #[.val (.ref r), .val (.int (0 : Int32)), .val (.int (1 : Int32)), .val (.ref t1), .val (.int (0 : Int32))] [] := Steps.trans c7 (st9 _ (Steps.refl _))
  have c11 : SS p e below B0 T9 m 33 #[.val (.ref r), .val (.int (1 : Int32)), .val (.int (1 : Int32)), .val (.ref t1), .val (.int (1 : Int32))] [(.ref t1)] := Steps.trans c10 (by
      refine XT.iincV X9.here hx rfl (1 : Int32) (hb hby d9_23) (by decide) rfl (l' := #[.val (.ref r), .val (.int (1 : Int32)), .val (.int (1 : Int32)), .val (.ref t1), .val (.int (0 : Int32))]) rfl ?_
      refine XT.iincV X9.here hx rfl (1 : Int32) (hb hby d9_26) (by decide) rfl (l' := #[.val (.ref r), .val (.int (1 : Int32)), .val (.int (1 : Int32)), .val (.ref t1), .val (.int (1 : Int32))]) rfl ?_
      refine XS.goto X9.here hx rfl (pc0 := 29) (pc' := 8) rfl (hb hby d9_29) (by decide) (by decide) ?_
      refine XS.iload X9.here hx rfl (hb hby d9_8) rfl ?_
      refine XS.iloadN X9.here hx rfl (hb hby d9_10) rfl ?_
      refine XS.icmpYes X9.here hx rfl (pc0 := 11) (pc' := 32) rfl (hb hby d9_11) rfl (flt (by decide : ¬ (1 : Int32) < (1 : Int32))).2.1 (by decide) (by decide) ?_
      refine XS.aloadN X9.here hx rfl (hb hby d9_32) rfl rfl ?_
      exact Steps.refl _)
  obtain ⟨fs, hr, hrun, hended, hW, hsame⟩ := X9.leave (v := some (.ref t1)) (fun h => by rw [Bd.returns] at h; cases h)
  subst hB0
  refine ⟨_, _, Steps.trans c11 ?_, hrun, hended, _, _, rfl, ?_, ⟨_, rfl⟩, hW, hsame.mono (by decide) (by decide)⟩
  · exact retR X9 hx Bd.returns rfl rfl rfl (hb hby d9_33) hr
  · show QTo1 Z c0' h0 n0 _ T9.heap _
    rw [e9]
    exact ⟨t1, k1, rfl, N9, K9, (by omega), av9⟩
def QGet1_0 (c0' : Int32) (h0 : Heap) (n0 : Nat) (v : Option Value) (h : Heap) (L : List Loc) : Prop := v = some (.int c0') ∧ Fr n0 L ∧ h = h0
set_option maxRecDepth 65536 in
set_option maxHeartbeats 40000000 in
theorem rmGet1_0 (l : Launch) (Z : State) (a0 : Array Value) (hw : ∀ d ∈ tables_1, d.before a0 Z = true) (ws : List Jvm.Cond) (t : Addr) (k : ClassId) (c0' : Int32) (h0 : Heap) (n0 : Nat) (Z0 : n0 ≤ h0.size) (O7 : Sta Z Z.heap "java/lang/StringUTF16" "$assertionsDisabled" "Z" (.int (1 : Int32))) (O8 : Sta Z Z.heap "java/lang/StringUTF16" "HI_BYTE_SHIFT" "I" (.int (0 : Int32))) (O9 : Sta Z Z.heap "java/lang/StringUTF16" "LO_BYTE_SHIFT" "I" (.int (8 : Int32))) (X00 : Old Z n0 h0) (Vt : Arv Z h0 t k .byte (2 : Int32) [(.int (nar .byte ((c0' >>> ((0 : Int32) &&& 31)).toInt8.toInt32))), (.int (nar .byte ((c0' >>> ((8 : Int32) &&& 31)).toInt8.toInt32)))] (.int (0 : Int32))) (hc : ¬ c0' < 0 ∧ ¬ (65535 : Int32) < c0') :
    MetFree l (⟨"java/lang/StringUTF16", "getChar", "([BI)C"⟩ : MethodName) (head1 (Jvm.Cond.code (⟨"java/lang/StringUTF16", "getChar", "([BI)C"⟩ : MethodName) jdk_52_method_5_code 2 (some .char) :: ws) ({ frames := 0, cells := 0, slots := 0, locals := 0 } : Room)) (fun a U => a = #[(.ref t), (.int (0 : Int32))] ∧ Z.Warmed39 U.vm ∧ U.heap = h0) (fun _ _ _ _ _ => True) (fun _ U o U' => ∃ v L, o = .returned v ∧ QGet1_0 c0' h0 n0 v U'.heap L ∧ FrameEnd U o U' L ({ frames := 0, cells := 0, slots := 0, locals := 0 } : Room).cells ({ frames := 0, cells := 0, slots := 0, locals := 0 } : Room).slots) := by
  refine MetFree.of_bodySF (plainFor_of_name pn_java_lang_StringUTF16) hisR ?_
  intro p e s m args below meth c s₁ Bd hml0 hP hK
  obtain ⟨rfl, hZ, hh⟩ := hP
  have hx := Bd.exec
  have hby := Bd.bytes
  have hml : c.maxLocals = 2 := hml0
  have hown : s.vm.findClass "java/lang/StringUTF16" = some m.cls := findClass_of_methodNamed Bd.named
  have hnm := (name_of_methodNamed Bd.named Bd.method).1
  have X0 : Stand p l e ({ frames := 0, cells := 0, slots := 0, locals := 0 } : Room) s m #[(.ref t), (.int (0 : Int32))] below meth c s₁ [] 0 0 := Stand.of_body Bd
  have e0 : s₁.heap = h0 := by rw [← hh, Bd.state]; rfl
  have N0 := Fr.nil n0
  obtain ⟨B0, c0, hB0⟩ : ∃ B0, Steps p.tables e below B0 (s₁.setTop (mkF m 0 #[.val (.ref t), .val (.int (0 : Int32))] [])) ∧ B0 = s₁.setTop (entryFrame m #[(.ref t), (.int (0 : Int32))] 2) := ⟨_, castTop (ef_RI_2 m t (0 : Int32)) (Steps.refl _), rfl⟩
  obtain ⟨T1, X1, e1, st1⟩ := getS X0 hx hZ (host := "") hown (W hw 106) Via.refl e0 (O7.ext X00.2) (g := (mkF m 0 #[.val (.ref t), .val (.int (0 : Int32))] [])) rfl (hb hby d10_0)
  have c2 : SS p e below B0 T1 m 3 #[.val (.ref t), .val (.int (0 : Int32))] [(.int (1 : Int32))] := Steps.trans c0 (st1 _ (Steps.refl _))
  have c3 : SS p e below B0 T1 m 37 #[.val (.ref t), .val (.int (1 : Int32))] [(.int (0 : Int32)), (.ref t)] := Steps.trans c2 (by
      refine XS.ifYes X1.here hx rfl (pc0 := 3) (pc' := 28) rfl (hb hby d10_3) rfl ((if0 _ _).trans (feq (by decide : ¬ (1 : Int32) = (0 : Int32))).2) (by decide) (by decide) ?_
      refine XS.iloadN X1.here hx rfl (hb hby d10_28) rfl ?_
      refine XT.iconstV X1.here hx rfl (1 : Int32) (hb hby d10_29) (by decide) ?_
      refine XS.ishl X1.here hx rfl (hb hby d10_30) rfl ?_
      refine XS.istoreN X1.here hx rfl (hb hby d10_31) rfl (l' := #[.val (.ref t), .val (.int (0 : Int32))]) rfl ?_
      refine XS.aloadN X1.here hx rfl (hb hby d10_32) rfl rfl ?_
      refine XS.iloadN X1.here hx rfl (hb hby d10_33) rfl ?_
      refine XT.iincV X1.here hx rfl (1 : Int32) (hb hby d10_34) (by decide) rfl (l' := #[.val (.ref t), .val (.int (1 : Int32))]) rfl ?_
      exact Steps.refl _)
  obtain ⟨cl4, Ar4, q4, Sz4, M4, Hs4, U4⟩ := id Vt
  have in4 := inb_of (j := (0 : Int32)) Sz4 ⟨(by decide), (by decide)⟩
  have c5 : SS p e below B0 T1 m 38 #[.val (.ref t), .val (.int (1 : Int32))] [(.int (nar .byte ((c0' >>> ((0 : Int32) &&& 31)).toInt8.toInt32)))] := Steps.trans c3 (by
      refine X1.baloadBytes hx (j := (0 : Int32)) (v := (.int (nar .byte ((c0' >>> ((0 : Int32) &&& 31)).toInt8.toInt32)))) (by rw [e1]; exact Ar4.1) (State.isArrayOf_alike hZ.alike Ar4.2.1) Ar4.2.2 in4 (Hs4.at in4 rfl) (g := (mkF m 37 #[.val (.ref t), .val (.int (1 : Int32))] [(.int (0 : Int32)), (.ref t)])) rfl rfl (hb hby d10_37) _ ?_
      exact Steps.refl _)
  have c6 : SS p e below B0 T1 m 42 #[.val (.ref t), .val (.int (1 : Int32))] [(.int ((nar .byte ((c0' >>> ((0 : Int32) &&& 31)).toInt8.toInt32)) &&& (255 : Int32)))] := Steps.trans c5 (by
      refine XT.sipushV X1.here hx rfl (255 : Int32) (hb hby d10_38) (by decide) ?_
      refine XS.iand X1.here hx rfl (hb hby d10_41) rfl ?_
      exact Steps.refl _)
  obtain ⟨T7, X7, e7, st7⟩ := getS X1 hx hZ (host := "") hown (W hw 107) Via.refl e1 (O8.ext X00.2) (g := (mkF m 42 #[.val (.ref t), .val (.int (1 : Int32))] [(.int ((nar .byte ((c0' >>> ((0 : Int32) &&& 31)).toInt8.toInt32)) &&& (255 : Int32)))])) rfl (hb hby d10_42)
  have c8 : SS p e below B0 T7 m 45 #[.val (.ref t), .val (.int (1 : Int32))] [(.int (0 : Int32)), (.int ((nar .byte ((c0' >>> ((0 : Int32) &&& 31)).toInt8.toInt32)) &&& (255 : Int32)))] := Steps.trans c6 (st7 _ (Steps.refl _))
  have c9 : SS p e below B0 T7 m 48 #[.val (.ref t), .val (.int (1 : Int32))] [(.int (1 : Int32)), (.ref t), (.int (((nar .byte ((c0' >>> ((0 : Int32) &&& 31)).toInt8.toInt32)) &&& (255 : Int32)) <<< ((0 : Int32) &&& 31)))] := Steps.trans c8 (by
      refine XS.ishl X7.here hx rfl (hb hby d10_45) rfl ?_
      refine XS.aloadN X7.here hx rfl (hb hby d10_46) rfl rfl ?_
      refine XS.iloadN X7.here hx rfl (hb hby d10_47) rfl ?_
      exact Steps.refl _)
  obtain ⟨cl10, Ar10, q10, Sz10, M10, Hs10, U10⟩ := id Vt
  have in10 := inb_of (j := (1 : Int32)) Sz10 ⟨(by decide), (by decide)⟩
  have c11 : SS p e below B0 T7 m 49 #[.val (.ref t), .val (.int (1 : Int32))] [(.int (nar .byte ((c0' >>> ((8 : Int32) &&& 31)).toInt8.toInt32))), (.int (((nar .byte ((c0' >>> ((0 : Int32) &&& 31)).toInt8.toInt32)) &&& (255 : Int32)) <<< ((0 : Int32) &&& 31)))] := Steps.trans c9 (by
      refine X7.baloadBytes hx (j := (1 : Int32)) (v := (.int (nar .byte ((c0' >>> ((8 : Int32) &&& 31)).toInt8.toInt32)))) (by rw [e7]; exact Ar10.1) (State.isArrayOf_alike hZ.alike Ar10.2.1) Ar10.2.2 in10 (Hs10.at in10 rfl) (g := (mkF m 48 #[.val (.ref t), .val (.int (1 : Int32))] [(.int (1 : Int32)), (.ref t), (.int (((nar .byte ((c0' >>> ((0 : Int32) &&& 31)).toInt8.toInt32)) &&& (255 : Int32)) <<< ((0 : Int32) &&& 31)))])) rfl rfl (hb hby d10_48) _ ?_
      exact Steps.refl _)
  have c12 : SS p e below B0 T7 m 53 #[.val (.ref t), .val (.int (1 : Int32))] [(.int ((nar .byte ((c0' >>> ((8 : Int32) &&& 31)).toInt8.toInt32)) &&& (255 : Int32))), (.int (((nar .byte ((c0' >>> ((0 : Int32) &&& 31)).toInt8.toInt32)) &&& (255 : Int32)) <<< ((0 : Int32) &&& 31)))] := Steps.trans c11 (by
      refine XT.sipushV X7.here hx rfl (255 : Int32) (hb hby d10_49) (by decide) ?_
      refine XS.iand X7.here hx rfl (hb hby d10_52) rfl ?_
      exact Steps.refl _)
  obtain ⟨T13, X13, e13, st13⟩ := getS X7 hx hZ (host := "") hown (W hw 108) Via.refl e7 (O9.ext X00.2) (g := (mkF m 53 #[.val (.ref t), .val (.int (1 : Int32))] [(.int ((nar .byte ((c0' >>> ((8 : Int32) &&& 31)).toInt8.toInt32)) &&& (255 : Int32))), (.int (((nar .byte ((c0' >>> ((0 : Int32) &&& 31)).toInt8.toInt32)) &&& (255 : Int32)) <<< ((0 : Int32) &&& 31)))])) rfl (hb hby d10_53)
  have c14 : SS p e below B0 T13 m 56 #[.val (.ref t), .val (.int (1 : Int32))] [(.int (8 : Int32)), (.int ((nar .byte ((c0' >>> ((8 : Int32) &&& 31)).toInt8.toInt32)) &&& (255 : Int32))), (.int (((nar .byte ((c0' >>> ((0 : Int32) &&& 31)).toInt8.toInt32)) &&& (255 : Int32)) <<< ((0 : Int32) &&& 31)))] := Steps.trans c12 (st13 _ (Steps.refl _))
  have c15 : SS p e below B0 T13 m 59 #[.val (.ref t), .val (.int (1 : Int32))] [(.int (((((nar .byte ((c0' >>> ((0 : Int32) &&& 31)).toInt8.toInt32)) &&& (255 : Int32)) <<< ((0 : Int32) &&& 31)) ||| (((nar .byte ((c0' >>> ((8 : Int32) &&& 31)).toInt8.toInt32)) &&& (255 : Int32)) <<< ((8 : Int32) &&& 31))).toUInt32.toUInt16.toUInt32.toInt32))] := Steps.trans c14 (by
      refine XS.ishl X13.here hx rfl (hb hby d10_56) rfl ?_
      refine XS.ior X13.here hx rfl (hb hby d10_57) rfl ?_
      refine XS.i2c X13.here hx rfl (hb hby d10_58) rfl ?_
      exact Steps.refl _)
  have hv := own_utf hc.1 hc.2
  obtain ⟨fs, hr, hrun, hended, hW, hsame⟩ := X13.leave (v := some (.int (nar .char (((((nar .byte ((c0' >>> ((0 : Int32) &&& 31)).toInt8.toInt32)) &&& (255 : Int32)) <<< ((0 : Int32) &&& 31)) ||| (((nar .byte ((c0' >>> ((8 : Int32) &&& 31)).toInt8.toInt32)) &&& (255 : Int32)) <<< ((8 : Int32) &&& 31))).toUInt32.toUInt16.toUInt32.toInt32)))) (fun h => by rw [Bd.returns] at h; cases h)
  subst hB0
  refine ⟨_, _, Steps.trans c15 ?_, hrun, hended, _, _, rfl, ?_, ⟨_, rfl⟩, hW, hsame.mono (by decide) (by decide)⟩
  · exact retN X13 hx (t := .char) Bd.returns (by simp) (hb hby d10_59) hr
  · show QGet1_0 c0' h0 n0 _ T13.heap _
    rw [e13]
    exact ⟨congrArg (fun z => some (Value.int z)) hv, N0, rfl⟩
def QC5_1_0 (Z : State) (t : Addr) (kb : ClassId) (c0' : Int32) (h0 : Heap) (n0 : Nat) (v : Option Value) (h : Heap) (L : List Loc) : Prop := v = some (.int (0 : Int32)) ∧ Fr n0 L ∧ Keep h0 h [t]
set_option maxRecDepth 65536 in
set_option maxHeartbeats 40000000 in
theorem rmC5_1_0 (l : Launch) (Z : State) (a0 : Array Value) (hw : ∀ d ∈ tables_1, d.before a0 Z = true) (ws : List Jvm.Cond) (r t : Addr) (kc kb : ClassId) (c0' : Int32) (h0 : Heap) (n0 : Nat) (Z0 : n0 ≤ h0.size) (Vr : Arv Z h0 r kc .char (1 : Int32) [(.int c0')] (.int (0 : Int32))) (Vt : Arv Z h0 t kb .byte (1 : Int32) [(.int (0 : Int32))] (.int (0 : Int32))) (hrt : (@Ne Nat r t)) (gt : n0 ≤ t)  (hk : (255 : Int32) < c0') :
    MetFree l (⟨"java/lang/StringUTF16", "compress", "([CI[BII)I"⟩ : MethodName) (head1 (Jvm.Cond.code (⟨"java/lang/StringUTF16", "compress", "([CI[BII)I"⟩ : MethodName) jdk_52_method_21_code 7 (some .int) :: ws) ({ frames := 0, cells := 0, slots := 0, locals := 0 } : Room)) (fun a U => a = #[(.ref r), (.int (0 : Int32)), (.ref t), (.int (0 : Int32)), (.int (1 : Int32))] ∧ Z.Warmed39 U.vm ∧ U.heap = h0) (fun _ _ _ _ _ => True) (fun _ U o U' => ∃ v L, o = .returned v ∧ QC5_1_0 Z t kb c0' h0 n0 v U'.heap L ∧ FrameEnd U o U' L ({ frames := 0, cells := 0, slots := 0, locals := 0 } : Room).cells ({ frames := 0, cells := 0, slots := 0, locals := 0 } : Room).slots) := by
  refine MetFree.of_bodySF (plainFor_of_name pn_java_lang_StringUTF16) hisR ?_
  intro p e s m args below meth c s₁ Bd hml0 hP hK
  obtain ⟨rfl, hZ, hh⟩ := hP
  have hx := Bd.exec
  have hby := Bd.bytes
  have hml : c.maxLocals = 7 := hml0
  have hown : s.vm.findClass "java/lang/StringUTF16" = some m.cls := findClass_of_methodNamed Bd.named
  have hnm := (name_of_methodNamed Bd.named Bd.method).1
  have X0 : Stand p l e ({ frames := 0, cells := 0, slots := 0, locals := 0 } : Room) s m #[(.ref r), (.int (0 : Int32)), (.ref t), (.int (0 : Int32)), (.int (1 : Int32))] below meth c s₁ [] 0 0 := Stand.of_body Bd
  have e0 : s₁.heap = h0 := by rw [← hh, Bd.state]; rfl
  have N0 := Fr.nil n0
  obtain ⟨B0, c0, hB0⟩ : ∃ B0, Steps p.tables e below B0 (s₁.setTop (mkF m 0 #[.val (.ref r), .val (.int (0 : Int32)), .val (.ref t), .val (.int (0 : Int32)), .val (.int (1 : Int32)), .unset, .unset] [])) ∧ B0 = s₁.setTop (entryFrame m #[(.ref r), (.int (0 : Int32)), (.ref t), (.int (0 : Int32)), (.int (1 : Int32))] 7) := ⟨_, castTop (ef_RIRII_7 m r (0 : Int32) t (0 : Int32) (1 : Int32)) (Steps.refl _), rfl⟩
  have lt_r : (@LT.lt Nat _ r h0.size) := Vr.lt
  have lt_t : (@LT.lt Nat _ t h0.size) := Vt.lt
  have c1 : SS p e below B0 s₁ m 12 #[.val (.ref r), .val (.int (0 : Int32)), .val (.ref t), .val (.int (0 : Int32)), .val (.int (1 : Int32)), .val (.int (0 : Int32)), .unset] [(.int (0 : Int32)), (.ref r)] := Steps.trans c0 (by
      refine XT.iconstV X0.here hx rfl (0 : Int32) (hb hby d11_0) (by decide) ?_
      refine XS.istore X0.here hx rfl (hb hby d11_1) rfl (l' := #[.val (.ref r), .val (.int (0 : Int32)), .val (.ref t), .val (.int (0 : Int32)), .val (.int (1 : Int32)), .val (.int (0 : Int32)), .unset]) rfl ?_
      refine XS.iload X0.here hx rfl (hb hby d11_3) rfl ?_
      refine XS.iload X0.here hx rfl (hb hby d11_5) rfl ?_
      refine XS.icmpNo X0.here hx rfl (hb hby d11_7) rfl (tlt (by decide : (0 : Int32) < (1 : Int32))).2.1 ?_
      refine XS.aloadN X0.here hx rfl (hb hby d11_10) rfl rfl ?_
      refine XS.iloadN X0.here hx rfl (hb hby d11_11) rfl ?_
      exact Steps.refl _)
  obtain ⟨cl2, Ar2, q2, Sz2, M2, Hs2, U2⟩ := id Vr
  have in2 := inb_of (j := (0 : Int32)) Sz2 ⟨(by decide), (by decide)⟩
  have c3 : SS p e below B0 s₁ m 13 #[.val (.ref r), .val (.int (0 : Int32)), .val (.ref t), .val (.int (0 : Int32)), .val (.int (1 : Int32)), .val (.int (0 : Int32)), .unset] [(.int (c0'))] := Steps.trans c1 (by
      refine X0.caload hx (j := (0 : Int32)) (v := (.int (c0'))) (by rw [e0]; exact Ar2.1) (State.isArrayOf_alike hZ.alike Ar2.2.1) Ar2.2.2 in2 (Hs2.at in2 rfl) (g := (mkF m 12 #[.val (.ref r), .val (.int (0 : Int32)), .val (.ref t), .val (.int (0 : Int32)), .val (.int (1 : Int32)), .val (.int (0 : Int32)), .unset] [(.int (0 : Int32)), (.ref r)])) rfl rfl (hb hby d11_12) _ ?_
      exact Steps.refl _)
  have c4 : SS p e below B0 s₁ m 25 #[.val (.ref r), .val (.int (0 : Int32)), .val (.ref t), .val (.int (0 : Int32)), .val (.int (1 : Int32)), .val (.int (0 : Int32)), .val (.int (c0'))] [(.int (0 : Int32))] := Steps.trans c3 (by
      refine XS.istore X0.here hx rfl (hb hby d11_13) rfl (l' := #[.val (.ref r), .val (.int (0 : Int32)), .val (.ref t), .val (.int (0 : Int32)), .val (.int (1 : Int32)), .val (.int (0 : Int32)), .val (.int (c0'))]) rfl ?_
      refine XS.iload X0.here hx rfl (hb hby d11_15) rfl ?_
      refine XT.sipushV X0.here hx rfl (255 : Int32) (hb hby d11_17) (by decide) ?_
      refine XS.icmpNo X0.here hx rfl (hb hby d11_20) rfl (tlt hk).2.2.2 ?_
      refine XS.iload X0.here hx rfl (hb hby d11_23) rfl ?_
      exact Steps.refl _)
  obtain ⟨fs, hr, hrun, hended, hW, hsame⟩ := X0.leave (v := some (.int (0 : Int32))) (fun h => by rw [Bd.returns] at h; cases h)
  subst hB0
  refine ⟨_, _, Steps.trans c4 ?_, hrun, hended, _, _, rfl, ?_, ⟨_, rfl⟩, hW, hsame.mono (by decide) (by decide)⟩
  · exact retI X0 hx Bd.returns (hb hby d11_25) hr
  · show QC5_1_0 Z t kb c0' h0 n0 _ s₁.heap _
    rw [e0]
    exact ⟨rfl, N0, (Keep.refl _ _)⟩
def QC5_1_1 (Z : State) (t : Addr) (kb : ClassId) (c0' : Int32) (h0 : Heap) (n0 : Nat) (v : Option Value) (h : Heap) (L : List Loc) : Prop := v = some (.int (1 : Int32)) ∧ Fr n0 L ∧ Keep h0 h [t] ∧ Arv Z h t kb .byte (1 : Int32) [(.int (nar .byte (c0'.toInt8.toInt32)))] (.int (0 : Int32))
set_option maxRecDepth 65536 in
set_option maxHeartbeats 40000000 in
theorem rmC5_1_1 (l : Launch) (Z : State) (a0 : Array Value) (hw : ∀ d ∈ tables_1, d.before a0 Z = true) (ws : List Jvm.Cond) (r t : Addr) (kc kb : ClassId) (c0' : Int32) (h0 : Heap) (n0 : Nat) (Z0 : n0 ≤ h0.size) (Vr : Arv Z h0 r kc .char (1 : Int32) [(.int c0')] (.int (0 : Int32))) (Vt : Arv Z h0 t kb .byte (1 : Int32) [(.int (0 : Int32))] (.int (0 : Int32))) (hrt : (@Ne Nat r t)) (gt : n0 ≤ t) (hl0 : ¬ (255 : Int32) < c0') :
    MetFree l (⟨"java/lang/StringUTF16", "compress", "([CI[BII)I"⟩ : MethodName) (head1 (Jvm.Cond.code (⟨"java/lang/StringUTF16", "compress", "([CI[BII)I"⟩ : MethodName) jdk_52_method_21_code 7 (some .int) :: ws) ({ frames := 0, cells := 0, slots := 0, locals := 0 } : Room)) (fun a U => a = #[(.ref r), (.int (0 : Int32)), (.ref t), (.int (0 : Int32)), (.int (1 : Int32))] ∧ Z.Warmed39 U.vm ∧ U.heap = h0) (fun _ _ _ _ _ => True) (fun _ U o U' => ∃ v L, o = .returned v ∧ QC5_1_1 Z t kb c0' h0 n0 v U'.heap L ∧ FrameEnd U o U' L ({ frames := 0, cells := 0, slots := 0, locals := 0 } : Room).cells ({ frames := 0, cells := 0, slots := 0, locals := 0 } : Room).slots) := by
  refine MetFree.of_bodySF (plainFor_of_name pn_java_lang_StringUTF16) hisR ?_
  intro p e s m args below meth c s₁ Bd hml0 hP hK
  obtain ⟨rfl, hZ, hh⟩ := hP
  have hx := Bd.exec
  have hby := Bd.bytes
  have hml : c.maxLocals = 7 := hml0
  have hown : s.vm.findClass "java/lang/StringUTF16" = some m.cls := findClass_of_methodNamed Bd.named
  have hnm := (name_of_methodNamed Bd.named Bd.method).1
  have X0 : Stand p l e ({ frames := 0, cells := 0, slots := 0, locals := 0 } : Room) s m #[(.ref r), (.int (0 : Int32)), (.ref t), (.int (0 : Int32)), (.int (1 : Int32))] below meth c s₁ [] 0 0 := Stand.of_body Bd
  have e0 : s₁.heap = h0 := by rw [← hh, Bd.state]; rfl
  have N0 := Fr.nil n0
  obtain ⟨B0, c0, hB0⟩ : ∃ B0, Steps p.tables e below B0 (s₁.setTop (mkF m 0 #[.val (.ref r), .val (.int (0 : Int32)), .val (.ref t), .val (.int (0 : Int32)), .val (.int (1 : Int32)), .unset, .unset] [])) ∧ B0 = s₁.setTop (entryFrame m #[(.ref r), (.int (0 : Int32)), (.ref t), (.int (0 : Int32)), (.int (1 : Int32))] 7) := ⟨_, castTop (ef_RIRII_7 m r (0 : Int32) t (0 : Int32) (1 : Int32)) (Steps.refl _), rfl⟩
  have lt_r : (@LT.lt Nat _ r h0.size) := Vr.lt
  have lt_t : (@LT.lt Nat _ t h0.size) := Vt.lt
  have c1 : SS p e below B0 s₁ m 12 #[.val (.ref r), .val (.int (0 : Int32)), .val (.ref t), .val (.int (0 : Int32)), .val (.int (1 : Int32)), .val (.int (0 : Int32)), .unset] [(.int (0 : Int32)), (.ref r)] := Steps.trans c0 (by
      refine XT.iconstV X0.here hx rfl (0 : Int32) (hb hby d11_0) (by decide) ?_
      refine XS.istore X0.here hx rfl (hb hby d11_1) rfl (l' := #[.val (.ref r), .val (.int (0 : Int32)), .val (.ref t), .val (.int (0 : Int32)), .val (.int (1 : Int32)), .val (.int (0 : Int32)), .unset]) rfl ?_
      refine XS.iload X0.here hx rfl (hb hby d11_3) rfl ?_
      refine XS.iload X0.here hx rfl (hb hby d11_5) rfl ?_
      refine XS.icmpNo X0.here hx rfl (hb hby d11_7) rfl (tlt (by decide : (0 : Int32) < (1 : Int32))).2.1 ?_
      refine XS.aloadN X0.here hx rfl (hb hby d11_10) rfl rfl ?_
      refine XS.iloadN X0.here hx rfl (hb hby d11_11) rfl ?_
      exact Steps.refl _)
  obtain ⟨cl2, Ar2, q2, Sz2, M2, Hs2, U2⟩ := id Vr
  have in2 := inb_of (j := (0 : Int32)) Sz2 ⟨(by decide), (by decide)⟩
  have c3 : SS p e below B0 s₁ m 13 #[.val (.ref r), .val (.int (0 : Int32)), .val (.ref t), .val (.int (0 : Int32)), .val (.int (1 : Int32)), .val (.int (0 : Int32)), .unset] [(.int (c0'))] := Steps.trans c1 (by
      refine X0.caload hx (j := (0 : Int32)) (v := (.int (c0'))) (by rw [e0]; exact Ar2.1) (State.isArrayOf_alike hZ.alike Ar2.2.1) Ar2.2.2 in2 (Hs2.at in2 rfl) (g := (mkF m 12 #[.val (.ref r), .val (.int (0 : Int32)), .val (.ref t), .val (.int (0 : Int32)), .val (.int (1 : Int32)), .val (.int (0 : Int32)), .unset] [(.int (0 : Int32)), (.ref r)])) rfl rfl (hb hby d11_12) _ ?_
      exact Steps.refl _)
  have c4 : SS p e below B0 s₁ m 31 #[.val (.ref r), .val (.int (0 : Int32)), .val (.ref t), .val (.int (0 : Int32)), .val (.int (1 : Int32)), .val (.int (0 : Int32)), .val (.int (c0'))] [(.int ((c0').toInt8.toInt32)), (.int (0 : Int32)), (.ref t)] := Steps.trans c3 (by
      refine XS.istore X0.here hx rfl (hb hby d11_13) rfl (l' := #[.val (.ref r), .val (.int (0 : Int32)), .val (.ref t), .val (.int (0 : Int32)), .val (.int (1 : Int32)), .val (.int (0 : Int32)), .val (.int (c0'))]) rfl ?_
      refine XS.iload X0.here hx rfl (hb hby d11_15) rfl ?_
      refine XT.sipushV X0.here hx rfl (255 : Int32) (hb hby d11_17) (by decide) ?_
      refine XS.icmpYes X0.here hx rfl (pc0 := 20) (pc' := 26) rfl (hb hby d11_20) rfl (flt hl0).2.2.2 (by decide) (by decide) ?_
      refine XS.aloadN X0.here hx rfl (hb hby d11_26) rfl rfl ?_
      refine XS.iloadN X0.here hx rfl (hb hby d11_27) rfl ?_
      refine XS.iload X0.here hx rfl (hb hby d11_28) rfl ?_
      refine XS.i2b X0.here hx rfl (hb hby d11_30) rfl ?_
      exact Steps.refl _)
  obtain ⟨cl5, Ar5, q5, Sz5, M5, Hs5, U5⟩ := id Vt
  obtain ⟨T5, h5, X5, e5, W5, st5⟩ := stB X0 hx hZ e0 Ar5 (j := (0 : Int32)) (inb_of Sz5 ⟨(by decide), (by decide)⟩) (g := (mkF m 31 #[.val (.ref r), .val (.int (0 : Int32)), .val (.ref t), .val (.int (0 : Int32)), .val (.int (1 : Int32)), .val (.int (0 : Int32)), .val (.int (c0'))] [(.int ((c0').toInt8.toInt32)), (.int (0 : Int32)), (.ref t)])) rfl rfl (hb hby d11_31)
  have N5 := Fr.snoc X5 N0 (by omega)
  have V5 : Arv Z h5 t kb .byte (1 : Int32) [(.int (nar .byte ((c0').toInt8.toInt32)))] (.int (0 : Int32)) := Arv.set Ar5 q5 Sz5 M5 Hs5 U5 (fits_nar_byte _) W5 0 rfl (Nat.le_of_ble_eq_true rfl)
  have z5 : h5.size = h0.size := W5.size
  have K5 := (Keep.refl h0 [t]).wr W5 (Or.inl (List.mem_of_getElem? (i := 0) rfl))
  have c6 : SS p e below B0 T5 m 32 #[.val (.ref r), .val (.int (0 : Int32)), .val (.ref t), .val (.int (0 : Int32)), .val (.int (1 : Int32)), .val (.int (0 : Int32)), .val (.int (c0'))] [] := Steps.trans c4 (st5 _ (Steps.refl _))
  have c7 : SS p e below B0 T5 m 46 #[.val (.ref r), .val (.int (1 : Int32)), .val (.ref t), .val (.int (1 : Int32)), .val (.int (1 : Int32)), .val (.int (1 : Int32)), .val (.int (c0'))] [(.int (1 : Int32))] := Steps.trans c6 (by
      refine XT.iincV X5.here hx rfl (1 : Int32) (hb hby d11_32) (by decide) rfl (l' := #[.val (.ref r), .val (.int (1 : Int32)), .val (.ref t), .val (.int (0 : Int32)), .val (.int (1 : Int32)), .val (.int (0 : Int32)), .val (.int (c0'))]) rfl ?_
      refine XT.iincV X5.here hx rfl (1 : Int32) (hb hby d11_35) (by decide) rfl (l' := #[.val (.ref r), .val (.int (1 : Int32)), .val (.ref t), .val (.int (1 : Int32)), .val (.int (1 : Int32)), .val (.int (0 : Int32)), .val (.int (c0'))]) rfl ?_
      refine XT.iincV X5.here hx rfl (1 : Int32) (hb hby d11_38) (by decide) rfl (l' := #[.val (.ref r), .val (.int (1 : Int32)), .val (.ref t), .val (.int (1 : Int32)), .val (.int (1 : Int32)), .val (.int (1 : Int32)), .val (.int (c0'))]) rfl ?_
      refine XS.goto X5.here hx rfl (pc0 := 41) (pc' := 3) rfl (hb hby d11_41) (by decide) (by decide) ?_
      refine XS.iload X5.here hx rfl (hb hby d11_3) rfl ?_
      refine XS.iload X5.here hx rfl (hb hby d11_5) rfl ?_
      refine XS.icmpYes X5.here hx rfl (pc0 := 7) (pc' := 44) rfl (hb hby d11_7) rfl (flt (by decide : ¬ (1 : Int32) < (1 : Int32))).2.1 (by decide) (by decide) ?_
      refine XS.iload X5.here hx rfl (hb hby d11_44) rfl ?_
      exact Steps.refl _)
  obtain ⟨fs, hr, hrun, hended, hW, hsame⟩ := X5.leave (v := some (.int (1 : Int32))) (fun h => by rw [Bd.returns] at h; cases h)
  subst hB0
  refine ⟨_, _, Steps.trans c7 ?_, hrun, hended, _, _, rfl, ?_, ⟨_, rfl⟩, hW, hsame.mono (by decide) (by decide)⟩
  · exact retI X5 hx Bd.returns (hb hby d11_46) hr
  · show QC5_1_1 Z t kb c0' h0 n0 _ T5.heap _
    rw [e5]
    exact ⟨rfl, N5, K5, V5⟩
def Spl1 (c0' cd N : Int32) (vs : List Value) : Prop := ((cd = (0 : Int32) ∧ N = (1 : Int32) ∧ vs = [(.int (nar .byte (c0'.toInt8.toInt32)))] ∧ ¬ (255 : Int32) < c0') ∨ (cd = (1 : Int32) ∧ N = (2 : Int32) ∧ vs = [(.int (nar .byte ((c0' >>> ((0 : Int32) &&& 31)).toInt8.toInt32))), (.int (nar .byte ((c0' >>> ((8 : Int32) &&& 31)).toInt8.toInt32)))]))
def QC3_1 (Z : State) (c0' : Int32) (h0 : Heap) (n0 : Nat) (v : Option Value) (h : Heap) (L : List Loc) : Prop := ∃ (t : Addr) (k : ClassId) (cd N : Int32) (vs : List Value), v = some (.ref t) ∧ Fr n0 L ∧ Keep h0 h [] ∧ h0.size ≤ t ∧ Arv Z h t k .byte N vs (.int (0 : Int32)) ∧ Spl1 c0' cd N vs
set_option maxRecDepth 65536 in
set_option maxHeartbeats 40000000 in
theorem rmC3_1 (l : Launch) (Z : State) (a0 : Array Value) (hw : ∀ d ∈ tables_1, d.before a0 Z = true) (ws : List Jvm.Cond) (r : Addr) (kc : ClassId) (c0' : Int32) (h0 : Heap) (n0 : Nat) (Z0 : n0 ≤ h0.size) (O7 : Sta Z Z.heap "java/lang/StringUTF16" "$assertionsDisabled" "Z" (.int (1 : Int32))) (O8 : Sta Z Z.heap "java/lang/StringUTF16" "HI_BYTE_SHIFT" "I" (.int (0 : Int32))) (O9 : Sta Z Z.heap "java/lang/StringUTF16" "LO_BYTE_SHIFT" "I" (.int (8 : Int32))) (X00 : Old Z n0 h0) (Vr : Arv Z h0 r kc .char (1 : Int32) [(.int c0')] (.int (0 : Int32))) (hc0 : ¬ c0' < 0 ∧ ¬ (65535 : Int32) < c0') :
    MetFree l (⟨"java/lang/StringUTF16", "compress", "([CII)[B"⟩ : MethodName) (head1 (Jvm.Cond.code (⟨"java/lang/StringUTF16", "compress", "([CII)[B"⟩ : MethodName) jdk_52_method_16_code 6 (some (.array .byte)) :: ws) ({ frames := 3, cells := 2, slots := 3, locals := 40 } : Room)) (fun a U => a = #[(.ref r), (.int (0 : Int32)), (.int (1 : Int32))] ∧ Z.Warmed39 U.vm ∧ U.heap = h0) (fun _ _ _ _ _ => True) (fun _ U o U' => ∃ v L, o = .returned v ∧ QC3_1 Z c0' h0 n0 v U'.heap L ∧ FrameEnd U o U' L ({ frames := 3, cells := 2, slots := 3, locals := 40 } : Room).cells ({ frames := 3, cells := 2, slots := 3, locals := 40 } : Room).slots) := by
  refine MetFree.of_bodySF (plainFor_of_name pn_java_lang_StringUTF16) hisR ?_
  intro p e s m args below meth c s₁ Bd hml0 hP hK
  obtain ⟨rfl, hZ, hh⟩ := hP
  have hx := Bd.exec
  have hby := Bd.bytes
  have hml : c.maxLocals = 6 := hml0
  have hown : s.vm.findClass "java/lang/StringUTF16" = some m.cls := findClass_of_methodNamed Bd.named
  have hnm := (name_of_methodNamed Bd.named Bd.method).1
  have X0 : Stand p l e ({ frames := 3, cells := 2, slots := 3, locals := 40 } : Room) s m #[(.ref r), (.int (0 : Int32)), (.int (1 : Int32))] below meth c s₁ [] 0 0 := Stand.of_body Bd
  have e0 : s₁.heap = h0 := by rw [← hh, Bd.state]; rfl
  have N0 := Fr.nil n0
  obtain ⟨B0, c0, hB0⟩ : ∃ B0, Steps p.tables e below B0 (s₁.setTop (mkF m 0 #[.val (.ref r), .val (.int (0 : Int32)), .val (.int (1 : Int32)), .unset, .unset, .unset] [])) ∧ B0 = s₁.setTop (entryFrame m #[(.ref r), (.int (0 : Int32)), (.int (1 : Int32))] 6) := ⟨_, castTop (ef_RII_6 m r (0 : Int32) (1 : Int32)) (Steps.refl _), rfl⟩
  have lt_r : (@LT.lt Nat _ r h0.size) := Vr.lt
  have c1 : SS p e below B0 s₁ m 1 #[.val (.ref r), .val (.int (0 : Int32)), .val (.int (1 : Int32)), .unset, .unset, .unset] [(.int (1 : Int32))] := Steps.trans c0 (by
      refine XS.iloadN X0.here hx rfl (hb hby d12_0) rfl ?_
      exact Steps.refl _)
  obtain ⟨T2, h2, k0, X2, e2, E2, A2, st2⟩ := newP X0 hx hZ (W hw 20) e0 (g := (mkF m 1 #[.val (.ref r), .val (.int (0 : Int32)), .val (.int (1 : Int32)), .unset, .unset, .unset] [(.int (1 : Int32))])) rfl (hb hby d12_1) rfl (by decide : ¬ ((1 : Int32) < (0 : Int32))) (cap := 1) (by decide : (1 : Int32).toNatClampNeg ≤ 1) (by decide) (by decide) (by decide)
  obtain ⟨t0, g2⟩ : ∃ z, z = h0.size := ⟨_, rfl⟩
  rw [← g2] at A2 st2
  have z2 : h0.size ≤ h2.size := E2.1
  have l2 : (@LT.lt Nat _ t0 h2.size) := A2.lt
  have K2 := (Keep.refl h0 []).ext E2
  have V2 : Arv Z h2 t0 k0 .byte (1 : Int32) [(.int (0 : Int32))] (.int (0 : Int32)) := (Arv.new A2 (by decide)).pad (pad_rep [] (.int (0 : Int32)) 1)
  have c3 : SS p e below B0 T2 m 3 #[.val (.ref r), .val (.int (0 : Int32)), .val (.int (1 : Int32)), .unset, .unset, .unset] [(.ref t0)] := Steps.trans c1 (st2 _ (Steps.refl _))
  have c4 : SS p e below B0 T2 m 9 #[.val (.ref r), .val (.int (0 : Int32)), .val (.int (1 : Int32)), .val (.ref t0), .unset, .unset] [(.int (1 : Int32)), (.int (0 : Int32)), (.ref t0), (.int (0 : Int32)), (.ref r)] := Steps.trans c3 (by
      refine XS.astoreN X2.here hx rfl (hb hby d12_3) rfl rfl (l' := #[.val (.ref r), .val (.int (0 : Int32)), .val (.int (1 : Int32)), .val (.ref t0), .unset, .unset]) rfl ?_
      refine XS.aloadN X2.here hx rfl (hb hby d12_4) rfl rfl ?_
      refine XS.iloadN X2.here hx rfl (hb hby d12_5) rfl ?_
      refine XS.aloadN X2.here hx rfl (hb hby d12_6) rfl rfl ?_
      refine XT.iconstV X2.here hx rfl (0 : Int32) (hb hby d12_7) (by decide) ?_
      refine XS.iloadN X2.here hx rfl (hb hby d12_8) rfl ?_
      exact Steps.refl _)
  by_cases h0_ : (255 : Int32) < c0'
  · have hk := h0_
    have Arv5 : Arv Z h2 r kc .char (1 : Int32) [(.int c0')] (.int (0 : Int32)) := (Vr.ext E2)
    obtain ⟨_, _, ⟨T6, Lp6, kp6, np6⟩, -, X6, ⟨Lc6, hQ6, lp6, yp6, zp6⟩, st6⟩ := Jvm.LawKit.callS X2 hx (y := (⟨"java/lang/StringUTF16", "compress", "([CI[BII)I"⟩ : MethodName)) hown (mvT hZ (W hw 66)) (mvT hZ (W hw 67)) (mvT hZ (W hw 64)) (mvT hZ (W hw 68)) (by decide) (backOf (W := 0) (rmC5_1_0 l Z a0 hw [] r t0 kc k0 c0' h2 n0 (by omega) Arv5 V2 (by omega) (by omega)  hk) hZ (W hw 68) (W hw 64) (by decide) (by decide)) (g := (mkF m 9 #[.val (.ref r), .val (.int (0 : Int32)), .val (.int (1 : Int32)), .val (.ref t0), .unset, .unset] [(.int (1 : Int32)), (.int (0 : Int32)), (.ref t0), (.int (0 : Int32)), (.ref r)])) rfl (by rw [hml]; rfl) (argsL := [(.ref r), (.int (0 : Int32)), (.ref t0), (.int (0 : Int32)), (.int (1 : Int32))]) (rest := []) (lenOf pd___CI_BII_I rfl) rfl (by show 2 * 0 + _ ≤ _; exact Nat.le_of_eq rfl) (hb hby d12_9) (fun _ _ => ⟨rfl, e2, (by decide : 1 + 0 ≤ _), (by decide : 1 + 0 ≤ _)⟩)
    dsimp only [Pt.U, Pt.locs, Pt.cells, Pt.slots] at X6 lp6 yp6 zp6 st6 hQ6
    subst lp6 yp6 zp6
    obtain ⟨rfl, Nq6, Kq6⟩ := hQ6
    have N6 := Fr.app N0 Nq6
    obtain ⟨h6, e6⟩ : ∃ z, T6.heap = z := ⟨_, rfl⟩
    rw [e6] at Kq6
    have z6 : h2.size ≤ h6.size := Kq6.1
    have K6 := K2.trans Kq6 (allS (Or.inr (by omega)) all0)
    have c7 : SS p e below B0 T6 m 12 #[.val (.ref r), .val (.int (0 : Int32)), .val (.int (1 : Int32)), .val (.ref t0), .unset, .unset] [(.int (0 : Int32))] := Steps.trans c4 (st6 _ (Steps.refl _))
    have c8 : SS p e below B0 T6 m 23 #[.val (.ref r), .val (.int (0 : Int32)), .val (.int (1 : Int32)), .val (.ref t0), .val (.int (0 : Int32)), .unset] [(.int (1 : Int32)), (.int (0 : Int32)), (.ref r)] := Steps.trans c7 (by
        refine XS.istore X6.here hx rfl (hb hby d12_12) rfl (l' := #[.val (.ref r), .val (.int (0 : Int32)), .val (.int (1 : Int32)), .val (.ref t0), .val (.int (0 : Int32)), .unset]) rfl ?_
        refine XS.iload X6.here hx rfl (hb hby d12_14) rfl ?_
        refine XS.iloadN X6.here hx rfl (hb hby d12_16) rfl ?_
        refine XS.icmpNo X6.here hx rfl (hb hby d12_17) rfl (feq (by decide : ¬ (0 : Int32) = (1 : Int32))).1 ?_
        refine XS.aloadN X6.here hx rfl (hb hby d12_20) rfl rfl ?_
        refine XS.iloadN X6.here hx rfl (hb hby d12_21) rfl ?_
        refine XS.iloadN X6.here hx rfl (hb hby d12_22) rfl ?_
        exact Steps.refl _)
    have Arv9 : Arv Z h6 r kc .char (1 : Int32) [(.int c0')] (.int (0 : Int32)) := (Arv5.keep Kq6 (ninS (own_ne (by omega)) nin0))
    have Old10 : Old Z n0 h6 := ((X00.ext E2).keep Kq6 (allS (by omega) all0))
    obtain ⟨_, _, ⟨T11, Lp11, kp11, np11⟩, -, X11, ⟨Lc11, hQ11, lp11, yp11, zp11⟩, st11⟩ := Jvm.LawKit.callS X6 hx (y := (⟨"java/lang/StringUTF16", "toBytes", "([CII)[B"⟩ : MethodName)) hown (mvT hZ (W hw 93)) (mvT hZ (W hw 94)) (mvT hZ (W hw 64)) (mvT hZ (W hw 95)) (by decide) (backOf (W := 0) (rmTo1 l Z a0 hw [] r kc c0' h6 n0 (by omega) O7 O8 O9 Old10 Arv9) hZ (W hw 95) (W hw 64) (by decide) (by decide)) (g := (mkF m 23 #[.val (.ref r), .val (.int (0 : Int32)), .val (.int (1 : Int32)), .val (.ref t0), .val (.int (0 : Int32)), .unset] [(.int (1 : Int32)), (.int (0 : Int32)), (.ref r)])) rfl (by rw [hml]; rfl) (argsL := [(.ref r), (.int (0 : Int32)), (.int (1 : Int32))]) (rest := []) (lenOf pd___CII__B rfl) rfl (by show 2 * 0 + _ ≤ _; exact Nat.le_of_eq rfl) (hb hby d12_23) (fun _ _ => ⟨rfl, e6, (by decide : 1 + 1 ≤ _), (by decide : 1 + 2 ≤ _)⟩)
    dsimp only [Pt.U, Pt.locs, Pt.cells, Pt.slots] at X11 lp11 yp11 zp11 st11 hQ11
    subst lp11 yp11 zp11
    obtain ⟨t1, k1, rfl, Nq11, Kq11, g11, av11⟩ := hQ11
    have N11 := Fr.app N6 Nq11
    obtain ⟨h11, e11⟩ : ∃ z, T11.heap = z := ⟨_, rfl⟩
    rw [e11] at Kq11 av11
    have z11 : h6.size ≤ h11.size := Kq11.1
    have K11 := K6.trans Kq11 all0
    have c12 : SS p e below B0 T11 m 26 #[.val (.ref r), .val (.int (0 : Int32)), .val (.int (1 : Int32)), .val (.ref t0), .val (.int (0 : Int32)), .unset] [(.ref t1)] := Steps.trans c8 (st11 _ (Steps.refl _))
    have lt_t1 : (@LT.lt Nat _ t1 h11.size) := av11.lt
    have c13 : SS p e below B0 T11 m 32 #[.val (.ref r), .val (.int (0 : Int32)), .val (.int (1 : Int32)), .val (.ref t0), .val (.int (0 : Int32)), .val (.ref t1)] [(.int (0 : Int32)), (.ref t1)] := Steps.trans c12 (by
        refine XS.astore X11.here hx rfl (hb hby d12_26) rfl rfl (l' := #[.val (.ref r), .val (.int (0 : Int32)), .val (.int (1 : Int32)), .val (.ref t0), .val (.int (0 : Int32)), .val (.ref t1)]) rfl ?_
        refine XS.aload X11.here hx rfl (hb hby d12_28) rfl rfl ?_
        refine XS.iload X11.here hx rfl (hb hby d12_30) rfl ?_
        exact Steps.refl _)
    have Old14 : Old Z n0 h11 := (Old10.keep Kq11 all0)
    obtain ⟨_, _, ⟨T15, Lp15, kp15, np15⟩, -, X15, ⟨Lc15, hQ15, lp15, yp15, zp15⟩, st15⟩ := Jvm.LawKit.callS X11 hx (y := (⟨"java/lang/StringUTF16", "getChar", "([BI)C"⟩ : MethodName)) hown (mvT hZ (W hw 109)) (mvT hZ (W hw 110)) (mvT hZ (W hw 64)) (mvT hZ (W hw 111)) (by decide) (backOf (W := 0) (rmGet1_0 l Z a0 hw [] t1 k1 c0' h11 n0 (by omega) O7 O8 O9 Old14 av11 hc0) hZ (W hw 111) (W hw 64) (by decide) (by decide)) (g := (mkF m 32 #[.val (.ref r), .val (.int (0 : Int32)), .val (.int (1 : Int32)), .val (.ref t0), .val (.int (0 : Int32)), .val (.ref t1)] [(.int (0 : Int32)), (.ref t1)])) rfl (by rw [hml]; rfl) (argsL := [(.ref t1), (.int (0 : Int32))]) (rest := []) (lenOf pd___BI_C rfl) rfl (by show 2 * 0 + _ ≤ _; exact Nat.le_of_eq rfl) (hb hby d12_32) (fun _ _ => ⟨rfl, e11, (by decide : 2 + 0 ≤ _), (by decide : 3 + 0 ≤ _)⟩)
    dsimp only [Pt.U, Pt.locs, Pt.cells, Pt.slots] at X15 lp15 yp15 zp15 st15 hQ15
    subst lp15 yp15 zp15
    obtain ⟨rfl, Nq15, eq15⟩ := hQ15
    have N15 := Fr.app N11 Nq15
    have c16 : SS p e below B0 T15 m 35 #[.val (.ref r), .val (.int (0 : Int32)), .val (.int (1 : Int32)), .val (.ref t0), .val (.int (0 : Int32)), .val (.ref t1)] [(.int (c0'))] := Steps.trans c13 (st15 _ (Steps.refl _))
    have c17 : SS p e below B0 T15 m 56 #[.val (.ref r), .val (.int (0 : Int32)), .val (.int (1 : Int32)), .val (.ref t0), .val (.int (0 : Int32)), .val (.ref t1)] [(.ref t1)] := Steps.trans c16 (by
        refine XT.sipushV X15.here hx rfl (255 : Int32) (hb hby d12_35) (by decide) ?_
        refine XS.icmpYes X15.here hx rfl (pc0 := 38) (pc' := 54) rfl (hb hby d12_38) rfl (tlt hk).2.2.1 (by decide) (by decide) ?_
        refine XS.aload X15.here hx rfl (hb hby d12_54) rfl rfl ?_
        exact Steps.refl _)
    obtain ⟨fs, hr, hrun, hended, hW, hsame⟩ := X15.leave (v := some (.ref t1)) (fun h => by rw [Bd.returns] at h; cases h)
    subst hB0
    refine ⟨_, _, Steps.trans c17 ?_, hrun, hended, _, _, rfl, ?_, ⟨_, rfl⟩, hW, hsame.mono (by decide) (by decide)⟩
    · exact retR X15 hx Bd.returns rfl rfl rfl (hb hby d12_56) hr
    · show QC3_1 Z c0' h0 n0 _ T15.heap _
      rw [eq15]
      exact ⟨t1, k1, 1, 2, _, rfl, N15, K11, (by omega), av11, Or.inr ⟨rfl, rfl, rfl⟩⟩
  have hl0 := h0_
  have Arv5 : Arv Z h2 r kc .char (1 : Int32) [(.int c0')] (.int (0 : Int32)) := (Vr.ext E2)
  obtain ⟨_, _, ⟨T6, Lp6, kp6, np6⟩, -, X6, ⟨Lc6, hQ6, lp6, yp6, zp6⟩, st6⟩ := Jvm.LawKit.callS X2 hx (y := (⟨"java/lang/StringUTF16", "compress", "([CI[BII)I"⟩ : MethodName)) hown (mvT hZ (W hw 66)) (mvT hZ (W hw 67)) (mvT hZ (W hw 64)) (mvT hZ (W hw 68)) (by decide) (backOf (W := 0) (rmC5_1_1 l Z a0 hw [] r t0 kc k0 c0' h2 n0 (by omega) Arv5 V2 (by omega) (by omega) hl0) hZ (W hw 68) (W hw 64) (by decide) (by decide)) (g := (mkF m 9 #[.val (.ref r), .val (.int (0 : Int32)), .val (.int (1 : Int32)), .val (.ref t0), .unset, .unset] [(.int (1 : Int32)), (.int (0 : Int32)), (.ref t0), (.int (0 : Int32)), (.ref r)])) rfl (by rw [hml]; rfl) (argsL := [(.ref r), (.int (0 : Int32)), (.ref t0), (.int (0 : Int32)), (.int (1 : Int32))]) (rest := []) (lenOf pd___CI_BII_I rfl) rfl (by show 2 * 0 + _ ≤ _; exact Nat.le_of_eq rfl) (hb hby d12_9) (fun _ _ => ⟨rfl, e2, (by decide : 1 + 0 ≤ _), (by decide : 1 + 0 ≤ _)⟩)
  dsimp only [Pt.U, Pt.locs, Pt.cells, Pt.slots] at X6 lp6 yp6 zp6 st6 hQ6
  subst lp6 yp6 zp6
  obtain ⟨rfl, Nq6, Kq6, av6⟩ := hQ6
  have N6 := Fr.app N0 Nq6
  obtain ⟨h6, e6⟩ : ∃ z, T6.heap = z := ⟨_, rfl⟩
  rw [e6] at Kq6 av6
  have z6 : h2.size ≤ h6.size := Kq6.1
  have K6 := K2.trans Kq6 (allS (Or.inr (by omega)) all0)
  have c7 : SS p e below B0 T6 m 12 #[.val (.ref r), .val (.int (0 : Int32)), .val (.int (1 : Int32)), .val (.ref t0), .unset, .unset] [(.int (1 : Int32))] := Steps.trans c4 (st6 _ (Steps.refl _))
  have c8 : SS p e below B0 T6 m 58 #[.val (.ref r), .val (.int (0 : Int32)), .val (.int (1 : Int32)), .val (.ref t0), .val (.int (1 : Int32)), .unset] [(.ref t0)] := Steps.trans c7 (by
      refine XS.istore X6.here hx rfl (hb hby d12_12) rfl (l' := #[.val (.ref r), .val (.int (0 : Int32)), .val (.int (1 : Int32)), .val (.ref t0), .val (.int (1 : Int32)), .unset]) rfl ?_
      refine XS.iload X6.here hx rfl (hb hby d12_14) rfl ?_
      refine XS.iloadN X6.here hx rfl (hb hby d12_16) rfl ?_
      refine XS.icmpYes X6.here hx rfl (pc0 := 17) (pc' := 57) rfl (hb hby d12_17) rfl (teq (by decide : (1 : Int32) = (1 : Int32))).1 (by decide) (by decide) ?_
      refine XS.aloadN X6.here hx rfl (hb hby d12_57) rfl rfl ?_
      exact Steps.refl _)
  obtain ⟨fs, hr, hrun, hended, hW, hsame⟩ := X6.leave (v := some (.ref t0)) (fun h => by rw [Bd.returns] at h; cases h)
  subst hB0
  refine ⟨_, _, Steps.trans c8 ?_, hrun, hended, _, _, rfl, ?_, ⟨_, rfl⟩, hW, hsame.mono (by decide) (by decide)⟩
  · exact retR X6 hx Bd.returns rfl rfl rfl (hb hby d12_58) hr
  · show QC3_1 Z c0' h0 n0 _ T6.heap _
    rw [e6]
    exact ⟨t0, k0, 0, 1, _, rfl, N6, K6, (by omega), av6, Or.inl ⟨rfl, rfl, rfl, hl0⟩⟩
def QCl1_0 (h0 : Heap) (n0 : Nat) (v : Option Value) (h : Heap) (L : List Loc) : Prop := v = some (.int (0 : Int32)) ∧ Fr n0 L ∧ h = h0
set_option maxRecDepth 65536 in
set_option maxHeartbeats 40000000 in
theorem rmCl1_0 (l : Launch) (Z : State) (a0 : Array Value) (hw : ∀ d ∈ tables_1, d.before a0 Z = true) (ws : List Jvm.Cond) (t : Addr) (k : ClassId) (vs : List Value) (h0 : Heap) (n0 : Nat) (Z0 : n0 ≤ h0.size) (Vt : Arv Z h0 t k .byte (1 : Int32) vs (.int (0 : Int32))) :
    MetFree l (⟨"java/lang/StringUTF16", "coderFromArrayLen", "([BI)B"⟩ : MethodName) (head1 (Jvm.Cond.code (⟨"java/lang/StringUTF16", "coderFromArrayLen", "([BI)B"⟩ : MethodName) jdk_52_method_15_code 2 (some .byte) :: ws) ({ frames := 0, cells := 0, slots := 0, locals := 0 } : Room)) (fun a U => a = #[(.ref t), (.int (1 : Int32))] ∧ Z.Warmed39 U.vm ∧ U.heap = h0) (fun _ _ _ _ _ => True) (fun _ U o U' => ∃ v L, o = .returned v ∧ QCl1_0 h0 n0 v U'.heap L ∧ FrameEnd U o U' L ({ frames := 0, cells := 0, slots := 0, locals := 0 } : Room).cells ({ frames := 0, cells := 0, slots := 0, locals := 0 } : Room).slots) := by
  refine MetFree.of_bodySF (plainFor_of_name pn_java_lang_StringUTF16) hisR ?_
  intro p e s m args below meth c s₁ Bd hml0 hP hK
  obtain ⟨rfl, hZ, hh⟩ := hP
  have hx := Bd.exec
  have hby := Bd.bytes
  have hml : c.maxLocals = 2 := hml0
  have hown : s.vm.findClass "java/lang/StringUTF16" = some m.cls := findClass_of_methodNamed Bd.named
  have hnm := (name_of_methodNamed Bd.named Bd.method).1
  have X0 : Stand p l e ({ frames := 0, cells := 0, slots := 0, locals := 0 } : Room) s m #[(.ref t), (.int (1 : Int32))] below meth c s₁ [] 0 0 := Stand.of_body Bd
  have e0 : s₁.heap = h0 := by rw [← hh, Bd.state]; rfl
  have N0 := Fr.nil n0
  obtain ⟨B0, c0, hB0⟩ : ∃ B0, Steps p.tables e below B0 (s₁.setTop (mkF m 0 #[.val (.ref t), .val (.int (1 : Int32))] [])) ∧ B0 = s₁.setTop (entryFrame m #[(.ref t), (.int (1 : Int32))] 2) := ⟨_, castTop (ef_RI_2 m t (1 : Int32)) (Steps.refl _), rfl⟩
  have c1 : SS p e below B0 s₁ m 2 #[.val (.ref t), .val (.int (1 : Int32))] [(.ref t), (.int (1 : Int32))] := Steps.trans c0 (by
      refine XS.iloadN X0.here hx rfl (hb hby d13_0) rfl ?_
      refine XS.aloadN X0.here hx rfl (hb hby d13_1) rfl rfl ?_
      exact Steps.refl _)
  obtain ⟨cl2, Ar2, q2, Sz2, M2, Hs2, U2⟩ := id Vt
  have c3 : SS p e below B0 s₁ m 3 #[.val (.ref t), .val (.int (1 : Int32))] [(.int (1 : Int32)), (.int (1 : Int32))] := Steps.trans c1 (by
      refine X0.arraylength hx (by rw [e0]; exact Ar2.1) (State.isArrayOf_alike hZ.alike Ar2.2.1) (g := (mkF m 2 #[.val (.ref t), .val (.int (1 : Int32))] [(.ref t), (.int (1 : Int32))])) rfl rfl (hb hby d13_2) _ ?_
      rw [len_of Sz2 M2]
      exact Steps.refl _)
  have c4 : SS p e below B0 s₁ m 8 #[.val (.ref t), .val (.int (1 : Int32))] [(.int (0 : Int32))] := Steps.trans c3 (by
      refine XS.isub X0.here hx rfl (hb hby d13_3) rfl ?_
      refine XT.bipushV X0.here hx rfl (31 : Int32) (hb hby d13_4) (by decide) ?_
      refine XS.iushr X0.here hx rfl (hb hby d13_6) rfl ?_
      refine XS.i2b X0.here hx rfl (hb hby d13_7) rfl ?_
      exact Steps.refl _)
  obtain ⟨fs, hr, hrun, hended, hW, hsame⟩ := X0.leave (v := some (.int (0 : Int32))) (fun h => by rw [Bd.returns] at h; cases h)
  subst hB0
  refine ⟨_, _, Steps.trans c4 ?_, hrun, hended, _, _, rfl, ?_, ⟨_, rfl⟩, hW, hsame.mono (by decide) (by decide)⟩
  · exact retN X0 hx (t := .byte) Bd.returns (by simp) (hb hby d13_8) hr
  · show QCl1_0 h0 n0 _ s₁.heap _
    rw [e0]
    exact ⟨rfl, N0, rfl⟩
def QCl1_1 (h0 : Heap) (n0 : Nat) (v : Option Value) (h : Heap) (L : List Loc) : Prop := v = some (.int (1 : Int32)) ∧ Fr n0 L ∧ h = h0
set_option maxRecDepth 65536 in
set_option maxHeartbeats 40000000 in
theorem rmCl1_1 (l : Launch) (Z : State) (a0 : Array Value) (hw : ∀ d ∈ tables_1, d.before a0 Z = true) (ws : List Jvm.Cond) (t : Addr) (k : ClassId) (vs : List Value) (h0 : Heap) (n0 : Nat) (Z0 : n0 ≤ h0.size) (Vt : Arv Z h0 t k .byte (2 : Int32) vs (.int (0 : Int32))) :
    MetFree l (⟨"java/lang/StringUTF16", "coderFromArrayLen", "([BI)B"⟩ : MethodName) (head1 (Jvm.Cond.code (⟨"java/lang/StringUTF16", "coderFromArrayLen", "([BI)B"⟩ : MethodName) jdk_52_method_15_code 2 (some .byte) :: ws) ({ frames := 0, cells := 0, slots := 0, locals := 0 } : Room)) (fun a U => a = #[(.ref t), (.int (1 : Int32))] ∧ Z.Warmed39 U.vm ∧ U.heap = h0) (fun _ _ _ _ _ => True) (fun _ U o U' => ∃ v L, o = .returned v ∧ QCl1_1 h0 n0 v U'.heap L ∧ FrameEnd U o U' L ({ frames := 0, cells := 0, slots := 0, locals := 0 } : Room).cells ({ frames := 0, cells := 0, slots := 0, locals := 0 } : Room).slots) := by
  refine MetFree.of_bodySF (plainFor_of_name pn_java_lang_StringUTF16) hisR ?_
  intro p e s m args below meth c s₁ Bd hml0 hP hK
  obtain ⟨rfl, hZ, hh⟩ := hP
  have hx := Bd.exec
  have hby := Bd.bytes
  have hml : c.maxLocals = 2 := hml0
  have hown : s.vm.findClass "java/lang/StringUTF16" = some m.cls := findClass_of_methodNamed Bd.named
  have hnm := (name_of_methodNamed Bd.named Bd.method).1
  have X0 : Stand p l e ({ frames := 0, cells := 0, slots := 0, locals := 0 } : Room) s m #[(.ref t), (.int (1 : Int32))] below meth c s₁ [] 0 0 := Stand.of_body Bd
  have e0 : s₁.heap = h0 := by rw [← hh, Bd.state]; rfl
  have N0 := Fr.nil n0
  obtain ⟨B0, c0, hB0⟩ : ∃ B0, Steps p.tables e below B0 (s₁.setTop (mkF m 0 #[.val (.ref t), .val (.int (1 : Int32))] [])) ∧ B0 = s₁.setTop (entryFrame m #[(.ref t), (.int (1 : Int32))] 2) := ⟨_, castTop (ef_RI_2 m t (1 : Int32)) (Steps.refl _), rfl⟩
  have c1 : SS p e below B0 s₁ m 2 #[.val (.ref t), .val (.int (1 : Int32))] [(.ref t), (.int (1 : Int32))] := Steps.trans c0 (by
      refine XS.iloadN X0.here hx rfl (hb hby d13_0) rfl ?_
      refine XS.aloadN X0.here hx rfl (hb hby d13_1) rfl rfl ?_
      exact Steps.refl _)
  obtain ⟨cl2, Ar2, q2, Sz2, M2, Hs2, U2⟩ := id Vt
  have c3 : SS p e below B0 s₁ m 3 #[.val (.ref t), .val (.int (1 : Int32))] [(.int (2 : Int32)), (.int (1 : Int32))] := Steps.trans c1 (by
      refine X0.arraylength hx (by rw [e0]; exact Ar2.1) (State.isArrayOf_alike hZ.alike Ar2.2.1) (g := (mkF m 2 #[.val (.ref t), .val (.int (1 : Int32))] [(.ref t), (.int (1 : Int32))])) rfl rfl (hb hby d13_2) _ ?_
      rw [len_of Sz2 M2]
      exact Steps.refl _)
  have c4 : SS p e below B0 s₁ m 8 #[.val (.ref t), .val (.int (1 : Int32))] [(.int (1 : Int32))] := Steps.trans c3 (by
      refine XS.isub X0.here hx rfl (hb hby d13_3) rfl ?_
      refine XT.bipushV X0.here hx rfl (31 : Int32) (hb hby d13_4) (by decide) ?_
      refine XS.iushr X0.here hx rfl (hb hby d13_6) rfl ?_
      refine XS.i2b X0.here hx rfl (hb hby d13_7) rfl ?_
      exact Steps.refl _)
  obtain ⟨fs, hr, hrun, hended, hW, hsame⟩ := X0.leave (v := some (.int (1 : Int32))) (fun h => by rw [Bd.returns] at h; cases h)
  subst hB0
  refine ⟨_, _, Steps.trans c4 ?_, hrun, hended, _, _, rfl, ?_, ⟨_, rfl⟩, hW, hsame.mono (by decide) (by decide)⟩
  · exact retN X0 hx (t := .byte) Bd.returns (by simp) (hb hby d13_8) hr
  · show QCl1_1 h0 n0 _ s₁.heap _
    rw [e0]
    exact ⟨rfl, N0, rfl⟩
def QS1 (Z : State) (a1 : Addr) (c0' : Int32) (h0 : Heap) (n0 : Nat) (v : Option Value) (h : Heap) (L : List Loc) : Prop := v = none ∧ Fr n0 L ∧ Keep h0 h [a1] ∧ ∃ (t : Addr) (k : ClassId) (cd N : Int32) (vs : List Value), h0.size ≤ t ∧ Fld Z h a1 "java/lang/String" "coder" "B" (.int cd) ∧ Fld Z h a1 "java/lang/String" "value" "[B" (.ref t) ∧ Arv Z h t k .byte N vs (.int (0 : Int32)) ∧ Spl1 c0' cd N vs
set_option maxRecDepth 65536 in
set_option maxHeartbeats 40000000 in
theorem rmS4_1 (l : Launch) (Z : State) (a0 : Array Value) (hw : ∀ d ∈ tables_1, d.before a0 Z = true) (ws : List Jvm.Cond) (a1 r : Addr) (kc : ClassId) (c0' : Int32) (uv uc : Value) (G1 : Int32) (h0 : Heap) (n0 : Nat) (Z0 : n0 ≤ h0.size) (E_a1 : Exa Z h0 a1 "java/lang/String") (Fv_a1 : Fld Z h0 a1 "java/lang/String" "value" "[B" uv) (Fc_a1 : Fld Z h0 a1 "java/lang/String" "coder" "B" uc) (O2 : Sta Z Z.heap "java/lang/String" "COMPACT_STRINGS" "Z" (.int G1)) (P5 : ¬ (G1 = (0 : Int32))) (O7 : Sta Z Z.heap "java/lang/StringUTF16" "$assertionsDisabled" "Z" (.int (1 : Int32))) (O8 : Sta Z Z.heap "java/lang/StringUTF16" "HI_BYTE_SHIFT" "I" (.int (0 : Int32))) (O9 : Sta Z Z.heap "java/lang/StringUTF16" "LO_BYTE_SHIFT" "I" (.int (8 : Int32))) (X00 : Old Z n0 h0) (Vr : Arv Z h0 r kc .char (1 : Int32) [(.int c0')] (.int (0 : Int32))) (hc0 : ¬ c0' < 0 ∧ ¬ (65535 : Int32) < c0') (g_a1 : n0 ≤ a1) :
    MetFree l (⟨"java/lang/String", "<init>", "([CIILjava/lang/Void;)V"⟩ : MethodName) (head1 (Jvm.Cond.code (⟨"java/lang/String", "<init>", "([CIILjava/lang/Void;)V"⟩ : MethodName) jdk_42_method_149_code 6 none :: ws) ({ frames := 4, cells := 2, slots := 3, locals := 60 } : Room)) (fun a U => a = #[(.ref a1), (.ref r), (.int (0 : Int32)), (.int (1 : Int32)), .null] ∧ Z.Warmed39 U.vm ∧ U.heap = h0) (fun _ _ _ _ _ => True) (fun _ U o U' => ∃ v L, o = .returned v ∧ QS1 Z a1 c0' h0 n0 v U'.heap L ∧ FrameEnd U o U' L ({ frames := 4, cells := 2, slots := 3, locals := 60 } : Room).cells ({ frames := 4, cells := 2, slots := 3, locals := 60 } : Room).slots) := by
  refine MetFree.of_bodySF (plainFor_of_name pn_java_lang_String) hisR ?_
  intro p e s m args below meth c s₁ Bd hml0 hP hK
  obtain ⟨rfl, hZ, hh⟩ := hP
  have hx := Bd.exec
  have hby := Bd.bytes
  have hml : c.maxLocals = 6 := hml0
  have hown : s.vm.findClass "java/lang/String" = some m.cls := findClass_of_methodNamed Bd.named
  have hnm := (name_of_methodNamed Bd.named Bd.method).1
  have X0 : Stand p l e ({ frames := 4, cells := 2, slots := 3, locals := 60 } : Room) s m #[(.ref a1), (.ref r), (.int (0 : Int32)), (.int (1 : Int32)), .null] below meth c s₁ [] 0 0 := Stand.of_body Bd
  have e0 : s₁.heap = h0 := by rw [← hh, Bd.state]; rfl
  have N0 := Fr.nil n0
  obtain ⟨B0, c0, hB0⟩ : ∃ B0, Steps p.tables e below B0 (s₁.setTop (mkF m 0 #[.val (.ref a1), .val (.ref r), .val (.int (0 : Int32)), .val (.int (1 : Int32)), .val .null, .unset] [])) ∧ B0 = s₁.setTop (entryFrame m #[(.ref a1), (.ref r), (.int (0 : Int32)), (.int (1 : Int32)), .null] 6) := ⟨_, castTop (ef_RRIIN_6 m a1 r (0 : Int32) (1 : Int32)) (Steps.refl _), rfl⟩
  have lt_a1 : (@LT.lt Nat _ a1 h0.size) := E_a1.lt
  have lt_r : (@LT.lt Nat _ r h0.size) := Vr.lt
  have c1 : SS p e below B0 s₁ m 1 #[.val (.ref a1), .val (.ref r), .val (.int (0 : Int32)), .val (.int (1 : Int32)), .val .null, .unset] [(.ref a1)] := Steps.trans c0 (by
      refine XS.aloadN X0.here hx rfl (hb hby d0_0) rfl rfl ?_
      exact Steps.refl _)
  obtain ⟨T2, X2, e2, st2⟩ := initO X0 hx hZ hown (W hw 16) (W hw 17) (W hw 18) e0 (g := (mkF m 1 #[.val (.ref a1), .val (.ref r), .val (.int (0 : Int32)), .val (.int (1 : Int32)), .val .null, .unset] [(.ref a1)])) rfl (by rw [hml]; rfl) rfl (hb hby d0_1) (by decide) (W := 0) (by show 2 * 0 + _ ≤ _; exact Nat.le_of_eq rfl) (by decide)
  have c3 : SS p e below B0 T2 m 4 #[.val (.ref a1), .val (.ref r), .val (.int (0 : Int32)), .val (.int (1 : Int32)), .val .null, .unset] [] := Steps.trans c1 (st2 _ (Steps.refl _))
  have c4 : SS p e below B0 T2 m 27 #[.val (.ref a1), .val (.ref r), .val (.int (0 : Int32)), .val (.int (1 : Int32)), .val .null, .unset] [] := Steps.trans c3 (by
      refine XS.iloadN X2.here hx rfl (hb hby d0_4) rfl ?_
      refine XS.ifYes X2.here hx rfl (pc0 := 5) (pc' := 27) rfl (hb hby d0_5) rfl ((if0 _ _).trans (feq (by decide : ¬ (1 : Int32) = (0 : Int32))).2) (by decide) (by decide) ?_
      exact Steps.refl _)
  obtain ⟨T5, X5, e5, st5⟩ := getS X2 hx hZ (host := "") hown (W hw 30) Via.refl e2 (O2.ext X00.2) (g := (mkF m 27 #[.val (.ref a1), .val (.ref r), .val (.int (0 : Int32)), .val (.int (1 : Int32)), .val .null, .unset] [])) rfl (hb hby d0_27)
  have c6 : SS p e below B0 T5 m 30 #[.val (.ref a1), .val (.ref r), .val (.int (0 : Int32)), .val (.int (1 : Int32)), .val .null, .unset] [(.int G1)] := Steps.trans c4 (st5 _ (Steps.refl _))
  have c7 : SS p e below B0 T5 m 36 #[.val (.ref a1), .val (.ref r), .val (.int (0 : Int32)), .val (.int (1 : Int32)), .val .null, .unset] [(.int (1 : Int32)), (.int (0 : Int32)), (.ref r)] := Steps.trans c6 (by
      refine XS.ifNo X5.here hx rfl (hb hby d0_30) rfl ((if0 _ _).trans (feq P5).1) ?_
      refine XS.aloadN X5.here hx rfl (hb hby d0_33) rfl rfl ?_
      refine XS.iloadN X5.here hx rfl (hb hby d0_34) rfl ?_
      refine XS.iloadN X5.here hx rfl (hb hby d0_35) rfl ?_
      exact Steps.refl _)
  obtain ⟨_, _, ⟨T8, Lp8, kp8, np8⟩, -, X8, ⟨Lc8, hQ8, lp8, yp8, zp8⟩, st8⟩ := Jvm.LawKit.callS X5 hx (y := (⟨"java/lang/StringUTF16", "compress", "([CII)[B"⟩ : MethodName)) hown (mvT hZ (W hw 62)) (mvT hZ (W hw 63)) (mvT hZ (W hw 64)) (mvT hZ (W hw 65)) (by decide) (backOf (W := 0) (rmC3_1 l Z a0 hw [] r kc c0' h0 n0 (by omega) O7 O8 O9 X00 Vr hc0) hZ (W hw 65) (W hw 64) (by decide) (by decide)) (g := (mkF m 36 #[.val (.ref a1), .val (.ref r), .val (.int (0 : Int32)), .val (.int (1 : Int32)), .val .null, .unset] [(.int (1 : Int32)), (.int (0 : Int32)), (.ref r)])) rfl (by rw [hml]; rfl) (argsL := [(.ref r), (.int (0 : Int32)), (.int (1 : Int32))]) (rest := []) (lenOf pd___CII__B rfl) rfl (by show 2 * 0 + _ ≤ _; exact Nat.le_of_eq rfl) (hb hby d0_36) (fun _ _ => ⟨rfl, e5, (by decide : 0 + 2 ≤ _), (by decide : 0 + 3 ≤ _)⟩)
  dsimp only [Pt.U, Pt.locs, Pt.cells, Pt.slots] at X8 lp8 yp8 zp8 st8 hQ8
  subst lp8 yp8 zp8
  obtain ⟨t1, k1, cd, N_, vs, rfl, Nq8, Kq8, g8, av8, spl⟩ := hQ8
  have N8 := Fr.app N0 Nq8
  obtain ⟨h8, e8⟩ : ∃ z, T8.heap = z := ⟨_, rfl⟩
  rw [e8] at Kq8 av8
  have z8 : h0.size ≤ h8.size := Kq8.1
  have K8 := (Keep.refl h0 [a1]).trans Kq8 all0
  have c9 : SS p e below B0 T8 m 39 #[.val (.ref a1), .val (.ref r), .val (.int (0 : Int32)), .val (.int (1 : Int32)), .val .null, .unset] [(.ref t1)] := Steps.trans c7 (st8 _ (Steps.refl _))
  have lt_t1 : (@LT.lt Nat _ t1 h8.size) := av8.lt
  have hspl := spl
  have c10 : SS p e below B0 T8 m 45 #[.val (.ref a1), .val (.ref r), .val (.int (0 : Int32)), .val (.int (1 : Int32)), .val .null, .val (.ref t1)] [(.int (1 : Int32)), (.ref t1), (.ref a1)] := Steps.trans c9 (by
      refine XS.astore X8.here hx rfl (hb hby d0_39) rfl rfl (l' := #[.val (.ref a1), .val (.ref r), .val (.int (0 : Int32)), .val (.int (1 : Int32)), .val .null, .val (.ref t1)]) rfl ?_
      refine XS.aloadN X8.here hx rfl (hb hby d0_41) rfl rfl ?_
      refine XS.aload X8.here hx rfl (hb hby d0_42) rfl rfl ?_
      refine XS.iloadN X8.here hx rfl (hb hby d0_44) rfl ?_
      exact Steps.refl _)
  rcases spl with ⟨rfl, rfl, rfl, -⟩ | ⟨rfl, rfl, rfl⟩
  · have hdummy := Z0
    obtain ⟨_, _, ⟨T11, Lp11, kp11, np11⟩, -, X11, ⟨Lc11, hQ11, lp11, yp11, zp11⟩, st11⟩ := Jvm.LawKit.callS X8 hx (y := (⟨"java/lang/StringUTF16", "coderFromArrayLen", "([BI)B"⟩ : MethodName)) hown (mvT hZ (W hw 69)) (mvT hZ (W hw 70)) (mvT hZ (W hw 64)) (mvT hZ (W hw 71)) (by decide) (backOf (W := 1) (rmCl1_0 l Z a0 hw [] t1 k1 _ h8 n0 (by omega) av8) hZ (W hw 71) (W hw 64) (by decide) (by decide)) (g := (mkF m 45 #[.val (.ref a1), .val (.ref r), .val (.int (0 : Int32)), .val (.int (1 : Int32)), .val .null, .val (.ref t1)] [(.int (1 : Int32)), (.ref t1), (.ref a1)])) rfl (by rw [hml]; rfl) (argsL := [(.ref t1), (.int (1 : Int32))]) (rest := [(.ref a1)]) (lenOf pd___BI_B rfl) rfl (by show 2 * 0 + _ ≤ _; exact Nat.le_of_eq rfl) (hb hby d0_45) (fun _ _ => ⟨rfl, e8, (by decide : 2 + 0 ≤ _), (by decide : 3 + 0 ≤ _)⟩)
    dsimp only [Pt.U, Pt.locs, Pt.cells, Pt.slots] at X11 lp11 yp11 zp11 st11 hQ11
    subst lp11 yp11 zp11
    obtain ⟨rfl, Nq11, eq11⟩ := hQ11
    have N11 := Fr.app N8 Nq11
    have c12 : SS p e below B0 T11 m 48 #[.val (.ref a1), .val (.ref r), .val (.int (0 : Int32)), .val (.int (1 : Int32)), .val .null, .val (.ref t1)] [(.int (0 : Int32)), (.ref a1)] := Steps.trans c10 (st11 _ (Steps.refl _))
    have Fld14 : Fld Z h8 a1 "java/lang/String" "coder" "B" uc := (Fc_a1.keep Kq8 nin0)
    have Exa15 : Exa Z h8 a1 "java/lang/String" := (E_a1.keep Kq8)
    obtain ⟨T13, h13, X13, e13, W13, st13⟩ := putF X11 hx hZ hown (host := "") (Or.inl (W hw 26)) Via.refl eq11 Fld14 Exa15 (Or.inr ⟨(W hw 22), rfl, hnm⟩) (W hw 7) (ty := .byte) (by decide) rfl rfl (g := (mkF m 48 #[.val (.ref a1), .val (.ref r), .val (.int (0 : Int32)), .val (.int (1 : Int32)), .val .null, .val (.ref t1)] [(.int (0 : Int32)), (.ref a1)])) rfl rfl (hb hby d0_48)
    have N13 := Fr.snoc X13 N11 (by omega)
    have F13 : Fld Z h13 a1 "java/lang/String" "coder" "B" (.int (0 : Int32)) := Fld14.same W13
    have z13 : h13.size = h8.size := W13.size
    have K13 := K8.wr W13 (Or.inl (List.mem_of_getElem? (i := 0) rfl))
    have c16 : SS p e below B0 T13 m 51 #[.val (.ref a1), .val (.ref r), .val (.int (0 : Int32)), .val (.int (1 : Int32)), .val .null, .val (.ref t1)] [] := Steps.trans c12 (st13 _ (Steps.refl _))
    have c17 : SS p e below B0 T13 m 54 #[.val (.ref a1), .val (.ref r), .val (.int (0 : Int32)), .val (.int (1 : Int32)), .val .null, .val (.ref t1)] [(.ref t1), (.ref a1)] := Steps.trans c16 (by
        refine XS.aloadN X13.here hx rfl (hb hby d0_51) rfl rfl ?_
        refine XS.aload X13.here hx rfl (hb hby d0_52) rfl rfl ?_
        exact Steps.refl _)
    have Fld19 : Fld Z h13 a1 "java/lang/String" "value" "[B" uv := ((Fv_a1.keep Kq8 nin0).other W13 (Or.inr (slot_ne (Or.inr (W hw 21)) (Or.inr (W hw 22)) (by decide) (t := (.array .byte)) (t' := .byte) (by decide) (by decide))))
    have Exa20 : Exa Z h13 a1 "java/lang/String" := (Exa15.wr W13)
    obtain ⟨T18, h18, X18, e18, W18, st18⟩ := putF X13 hx hZ hown (host := "") (Or.inl (W hw 25)) Via.refl e13 Fld19 Exa20 (Or.inr ⟨(W hw 21), rfl, hnm⟩) (W hw 7) (ty := (.array .byte)) (by decide) rfl rfl (g := (mkF m 54 #[.val (.ref a1), .val (.ref r), .val (.int (0 : Int32)), .val (.int (1 : Int32)), .val .null, .val (.ref t1)] [(.ref t1), (.ref a1)])) rfl rfl (hb hby d0_54)
    have N18 := Fr.snoc X18 N13 (by omega)
    have F18 : Fld Z h18 a1 "java/lang/String" "value" "[B" (.ref t1) := Fld19.same W18
    have z18 : h18.size = h13.size := W18.size
    have K18 := K13.wr W18 (Or.inl (List.mem_of_getElem? (i := 0) rfl))
    have c21 : SS p e below B0 T18 m 57 #[.val (.ref a1), .val (.ref r), .val (.int (0 : Int32)), .val (.int (1 : Int32)), .val .null, .val (.ref t1)] [] := Steps.trans c17 (st18 _ (Steps.refl _))
    have Fld22 : Fld Z h18 a1 "java/lang/String" "coder" "B" (.int (0 : Int32)) := (F13.other W18 (Or.inr (slot_ne (Or.inr (W hw 22)) (Or.inr (W hw 21)) (by decide) (t := .byte) (t' := (.array .byte)) (by decide) (by decide))))
    have Arv23 : Arv Z h18 t1 k1 .byte (1 : Int32) [(.int (nar .byte (c0'.toInt8.toInt32)))] (.int (0 : Int32)) := ((av8.other W13 (own_ne (by omega))).other W18 (own_ne (by omega)))
    obtain ⟨fs, hr, hrun, hended, hW, hsame⟩ := X18.leave (v := none) (fun _ => rfl)
    subst hB0
    refine ⟨_, _, Steps.trans c21 ?_, hrun, hended, _, _, rfl, ?_, ⟨_, rfl⟩, hW, hsame.mono (by decide) (by decide)⟩
    · exact X18.returnOut hx Bd.returns (hb hby d0_57) hr
    · show QS1 Z a1 c0' h0 n0 _ T18.heap _
      rw [e18]
      exact ⟨rfl, N18, K18, t1, k1, _, _, _, (by omega), Fld22, F18, Arv23, hspl⟩
  · have hdummy := Z0
    obtain ⟨_, _, ⟨T11, Lp11, kp11, np11⟩, -, X11, ⟨Lc11, hQ11, lp11, yp11, zp11⟩, st11⟩ := Jvm.LawKit.callS X8 hx (y := (⟨"java/lang/StringUTF16", "coderFromArrayLen", "([BI)B"⟩ : MethodName)) hown (mvT hZ (W hw 69)) (mvT hZ (W hw 70)) (mvT hZ (W hw 64)) (mvT hZ (W hw 71)) (by decide) (backOf (W := 1) (rmCl1_1 l Z a0 hw [] t1 k1 _ h8 n0 (by omega) av8) hZ (W hw 71) (W hw 64) (by decide) (by decide)) (g := (mkF m 45 #[.val (.ref a1), .val (.ref r), .val (.int (0 : Int32)), .val (.int (1 : Int32)), .val .null, .val (.ref t1)] [(.int (1 : Int32)), (.ref t1), (.ref a1)])) rfl (by rw [hml]; rfl) (argsL := [(.ref t1), (.int (1 : Int32))]) (rest := [(.ref a1)]) (lenOf pd___BI_B rfl) rfl (by show 2 * 0 + _ ≤ _; exact Nat.le_of_eq rfl) (hb hby d0_45) (fun _ _ => ⟨rfl, e8, (by decide : 2 + 0 ≤ _), (by decide : 3 + 0 ≤ _)⟩)
    dsimp only [Pt.U, Pt.locs, Pt.cells, Pt.slots] at X11 lp11 yp11 zp11 st11 hQ11
    subst lp11 yp11 zp11
    obtain ⟨rfl, Nq11, eq11⟩ := hQ11
    have N11 := Fr.app N8 Nq11
    have c12 : SS p e below B0 T11 m 48 #[.val (.ref a1), .val (.ref r), .val (.int (0 : Int32)), .val (.int (1 : Int32)), .val .null, .val (.ref t1)] [(.int (1 : Int32)), (.ref a1)] := Steps.trans c10 (st11 _ (Steps.refl _))
    have Fld14 : Fld Z h8 a1 "java/lang/String" "coder" "B" uc := (Fc_a1.keep Kq8 nin0)
    have Exa15 : Exa Z h8 a1 "java/lang/String" := (E_a1.keep Kq8)
    obtain ⟨T13, h13, X13, e13, W13, st13⟩ := putF X11 hx hZ hown (host := "") (Or.inl (W hw 26)) Via.refl eq11 Fld14 Exa15 (Or.inr ⟨(W hw 22), rfl, hnm⟩) (W hw 7) (ty := .byte) (by decide) rfl rfl (g := (mkF m 48 #[.val (.ref a1), .val (.ref r), .val (.int (0 : Int32)), .val (.int (1 : Int32)), .val .null, .val (.ref t1)] [(.int (1 : Int32)), (.ref a1)])) rfl rfl (hb hby d0_48)
    have N13 := Fr.snoc X13 N11 (by omega)
    have F13 : Fld Z h13 a1 "java/lang/String" "coder" "B" (.int (1 : Int32)) := Fld14.same W13
    have z13 : h13.size = h8.size := W13.size
    have K13 := K8.wr W13 (Or.inl (List.mem_of_getElem? (i := 0) rfl))
    have c16 : SS p e below B0 T13 m 51 #[.val (.ref a1), .val (.ref r), .val (.int (0 : Int32)), .val (.int (1 : Int32)), .val .null, .val (.ref t1)] [] := Steps.trans c12 (st13 _ (Steps.refl _))
    have c17 : SS p e below B0 T13 m 54 #[.val (.ref a1), .val (.ref r), .val (.int (0 : Int32)), .val (.int (1 : Int32)), .val .null, .val (.ref t1)] [(.ref t1), (.ref a1)] := Steps.trans c16 (by
        refine XS.aloadN X13.here hx rfl (hb hby d0_51) rfl rfl ?_
        refine XS.aload X13.here hx rfl (hb hby d0_52) rfl rfl ?_
        exact Steps.refl _)
    have Fld19 : Fld Z h13 a1 "java/lang/String" "value" "[B" uv := ((Fv_a1.keep Kq8 nin0).other W13 (Or.inr (slot_ne (Or.inr (W hw 21)) (Or.inr (W hw 22)) (by decide) (t := (.array .byte)) (t' := .byte) (by decide) (by decide))))
    have Exa20 : Exa Z h13 a1 "java/lang/String" := (Exa15.wr W13)
    obtain ⟨T18, h18, X18, e18, W18, st18⟩ := putF X13 hx hZ hown (host := "") (Or.inl (W hw 25)) Via.refl e13 Fld19 Exa20 (Or.inr ⟨(W hw 21), rfl, hnm⟩) (W hw 7) (ty := (.array .byte)) (by decide) rfl rfl (g := (mkF m 54 #[.val (.ref a1), .val (.ref r), .val (.int (0 : Int32)), .val (.int (1 : Int32)), .val .null, .val (.ref t1)] [(.ref t1), (.ref a1)])) rfl rfl (hb hby d0_54)
    have N18 := Fr.snoc X18 N13 (by omega)
    have F18 : Fld Z h18 a1 "java/lang/String" "value" "[B" (.ref t1) := Fld19.same W18
    have z18 : h18.size = h13.size := W18.size
    have K18 := K13.wr W18 (Or.inl (List.mem_of_getElem? (i := 0) rfl))
    have c21 : SS p e below B0 T18 m 57 #[.val (.ref a1), .val (.ref r), .val (.int (0 : Int32)), .val (.int (1 : Int32)), .val .null, .val (.ref t1)] [] := Steps.trans c17 (st18 _ (Steps.refl _))
    have Fld22 : Fld Z h18 a1 "java/lang/String" "coder" "B" (.int (1 : Int32)) := (F13.other W18 (Or.inr (slot_ne (Or.inr (W hw 22)) (Or.inr (W hw 21)) (by decide) (t := .byte) (t' := (.array .byte)) (by decide) (by decide))))
    have Arv23 : Arv Z h18 t1 k1 .byte (2 : Int32) [(.int (nar .byte ((c0' >>> ((0 : Int32) &&& 31)).toInt8.toInt32))), (.int (nar .byte ((c0' >>> ((8 : Int32) &&& 31)).toInt8.toInt32)))] (.int (0 : Int32)) := ((av8.other W13 (own_ne (by omega))).other W18 (own_ne (by omega)))
    obtain ⟨fs, hr, hrun, hended, hW, hsame⟩ := X18.leave (v := none) (fun _ => rfl)
    subst hB0
    refine ⟨_, _, Steps.trans c21 ?_, hrun, hended, _, _, rfl, ?_, ⟨_, rfl⟩, hW, hsame.mono (by decide) (by decide)⟩
    · exact X18.returnOut hx Bd.returns (hb hby d0_57) hr
    · show QS1 Z a1 c0' h0 n0 _ T18.heap _
      rw [e18]
      exact ⟨rfl, N18, K18, t1, k1, _, _, _, (by omega), Fld22, F18, Arv23, hspl⟩
set_option maxRecDepth 65536 in
set_option maxHeartbeats 40000000 in
theorem rmS1_1 (l : Launch) (Z : State) (a0 : Array Value) (hw : ∀ d ∈ tables_1, d.before a0 Z = true) (ws : List Jvm.Cond) (a1 r : Addr) (kc : ClassId) (c0' : Int32) (uv uc : Value) (G1 : Int32) (h0 : Heap) (n0 : Nat) (Z0 : n0 ≤ h0.size) (E_a1 : Exa Z h0 a1 "java/lang/String") (Fv_a1 : Fld Z h0 a1 "java/lang/String" "value" "[B" uv) (Fc_a1 : Fld Z h0 a1 "java/lang/String" "coder" "B" uc) (O2 : Sta Z Z.heap "java/lang/String" "COMPACT_STRINGS" "Z" (.int G1)) (P5 : ¬ (G1 = (0 : Int32))) (O7 : Sta Z Z.heap "java/lang/StringUTF16" "$assertionsDisabled" "Z" (.int (1 : Int32))) (O8 : Sta Z Z.heap "java/lang/StringUTF16" "HI_BYTE_SHIFT" "I" (.int (0 : Int32))) (O9 : Sta Z Z.heap "java/lang/StringUTF16" "LO_BYTE_SHIFT" "I" (.int (8 : Int32))) (X00 : Old Z n0 h0) (Vr : Arv Z h0 r kc .char (1 : Int32) [(.int c0')] (.int (0 : Int32))) (hc0 : ¬ c0' < 0 ∧ ¬ (65535 : Int32) < c0') (g_a1 : n0 ≤ a1) :
    MetFree l (⟨"java/lang/String", "<init>", "([C)V"⟩ : MethodName) (head1 (Jvm.Cond.code (⟨"java/lang/String", "<init>", "([C)V"⟩ : MethodName) jdk_42_method_3_code 2 none :: ws) ({ frames := 5, cells := 2, slots := 3, locals := 77 } : Room)) (fun a U => a = #[(.ref a1), (.ref r)] ∧ Z.Warmed39 U.vm ∧ U.heap = h0) (fun _ _ _ _ _ => True) (fun _ U o U' => ∃ v L, o = .returned v ∧ QS1 Z a1 c0' h0 n0 v U'.heap L ∧ FrameEnd U o U' L ({ frames := 5, cells := 2, slots := 3, locals := 77 } : Room).cells ({ frames := 5, cells := 2, slots := 3, locals := 77 } : Room).slots) := by
  refine MetFree.of_bodySF (plainFor_of_name pn_java_lang_String) hisR ?_
  intro p e s m args below meth c s₁ Bd hml0 hP hK
  obtain ⟨rfl, hZ, hh⟩ := hP
  have hx := Bd.exec
  have hby := Bd.bytes
  have hml : c.maxLocals = 2 := hml0
  have hown : s.vm.findClass "java/lang/String" = some m.cls := findClass_of_methodNamed Bd.named
  have hnm := (name_of_methodNamed Bd.named Bd.method).1
  have X0 : Stand p l e ({ frames := 5, cells := 2, slots := 3, locals := 77 } : Room) s m #[(.ref a1), (.ref r)] below meth c s₁ [] 0 0 := Stand.of_body Bd
  have e0 : s₁.heap = h0 := by rw [← hh, Bd.state]; rfl
  have N0 := Fr.nil n0
  obtain ⟨B0, c0, hB0⟩ : ∃ B0, Steps p.tables e below B0 (s₁.setTop (mkF m 0 #[.val (.ref a1), .val (.ref r)] [])) ∧ B0 = s₁.setTop (entryFrame m #[(.ref a1), (.ref r)] 2) := ⟨_, castTop (ef_RR_2 m a1 r) (Steps.refl _), rfl⟩
  have lt_a1 : (@LT.lt Nat _ a1 h0.size) := E_a1.lt
  have lt_r : (@LT.lt Nat _ r h0.size) := Vr.lt
  have c1 : SS p e below B0 s₁ m 4 #[.val (.ref a1), .val (.ref r)] [(.ref r), (.int (0 : Int32)), (.ref r), (.ref a1)] := Steps.trans c0 (by
      refine XS.aloadN X0.here hx rfl (hb hby d1_0) rfl rfl ?_
      refine XS.aloadN X0.here hx rfl (hb hby d1_1) rfl rfl ?_
      refine XT.iconstV X0.here hx rfl (0 : Int32) (hb hby d1_2) (by decide) ?_
      refine XS.aloadN X0.here hx rfl (hb hby d1_3) rfl rfl ?_
      exact Steps.refl _)
  obtain ⟨cl2, Ar2, q2, Sz2, M2, Hs2, U2⟩ := id Vr
  have c3 : SS p e below B0 s₁ m 5 #[.val (.ref a1), .val (.ref r)] [(.int (1 : Int32)), (.int (0 : Int32)), (.ref r), (.ref a1)] := Steps.trans c1 (by
      refine X0.arraylength hx (by rw [e0]; exact Ar2.1) (State.isArrayOf_alike hZ.alike Ar2.2.1) (g := (mkF m 4 #[.val (.ref a1), .val (.ref r)] [(.ref r), (.int (0 : Int32)), (.ref r), (.ref a1)])) rfl rfl (hb hby d1_4) _ ?_
      rw [len_of Sz2 M2]
      exact Steps.refl _)
  have c4 : SS p e below B0 s₁ m 6 #[.val (.ref a1), .val (.ref r)] [.null, (.int (1 : Int32)), (.int (0 : Int32)), (.ref r), (.ref a1)] := Steps.trans c3 (by
      refine XS.aconstNull X0.here hx rfl (hb hby d1_5) ?_
      exact Steps.refl _)
  obtain ⟨_, _, ⟨T5, Lp5, kp5, np5⟩, -, X5, ⟨Lc5, hQ5, lp5, yp5, zp5⟩, st5⟩ := X0.specialBack hx (y := (⟨"java/lang/String", "<init>", "([CIILjava/lang/Void;)V"⟩ : MethodName)) rfl hown (mvT hZ (W hw 12)) (mvT hZ (W hw 13)) (mvT hZ (W hw 15)) (by decide) (backOf (W := 0) (rmS4_1 l Z a0 hw [] a1 r kc c0' uv uc G1 h0 n0 Z0 E_a1 Fv_a1 Fc_a1 O2 P5 O7 O8 O9 X00 Vr hc0 g_a1) hZ (W hw 15) (W hw 8) (by decide) (by decide)) (g := (mkF m 6 #[.val (.ref a1), .val (.ref r)] [.null, (.int (1 : Int32)), (.int (0 : Int32)), (.ref r), (.ref a1)])) rfl (by rw [hml]; rfl) c4 (a := a1) (argsL := [(.ref r), (.int (0 : Int32)), (.int (1 : Int32)), .null]) (rest := []) (lenOf pd___CIILjava_lang_Void__V rfl) rfl (by show 2 * 0 + _ ≤ _; exact Nat.le_of_eq rfl) (hb hby d1_6) (fun _ _ => ⟨rfl, e0, (by decide : 0 + 2 ≤ _), (by decide : 0 + 3 ≤ _)⟩)
  dsimp only [Pt.U, Pt.locs, Pt.cells, Pt.slots] at X5 lp5 yp5 zp5 st5 hQ5
  subst lp5 yp5 zp5
  obtain ⟨rfl, Nq5, Kq5, t1, k1, cd, N_, vs, g5, fc5, fv5, av5, hspl⟩ := hQ5
  have N5 := Fr.app N0 Nq5
  obtain ⟨h5, e5⟩ : ∃ z, T5.heap = z := ⟨_, rfl⟩
  rw [e5] at Kq5 fc5 fv5 av5
  have z5 : h0.size ≤ h5.size := Kq5.1
  have K5 := (Keep.refl h0 [a1]).trans Kq5 (allS (Or.inl (List.mem_of_getElem? (i := 0) rfl)) all0)
  have c6 : SS p e below B0 T5 m 9 #[.val (.ref a1), .val (.ref r)] [] := st5
  obtain ⟨fs, hr, hrun, hended, hW, hsame⟩ := X5.leave (v := none) (fun _ => rfl)
  subst hB0
  refine ⟨_, _, Steps.trans c6 ?_, hrun, hended, _, _, rfl, ?_, ⟨_, rfl⟩, hW, hsame.mono (by decide) (by decide)⟩
  · exact X5.returnOut hx Bd.returns (hb hby d1_9) hr
  · show QS1 Z a1 c0' h0 n0 _ T5.heap _
    rw [e5]
    exact ⟨rfl, N5, K5, t1, k1, cd, N_, vs, g5, fc5, fv5, av5, hspl⟩
def QNl2 (h0 : Heap) (n0 : Nat) (v : Option Value) (h : Heap) (L : List Loc) : Prop := v = some (.int (4 : Int32)) ∧ Fr n0 L ∧ h = h0
set_option maxRecDepth 65536 in
set_option maxHeartbeats 40000000 in
theorem rmNl2 (l : Launch) (Z : State) (a0 : Array Value) (hw : ∀ d ∈ tables_1, d.before a0 Z = true) (ws : List Jvm.Cond)  (h0 : Heap) (n0 : Nat) (Z0 : n0 ≤ h0.size)  :
    MetFree l (⟨"java/lang/StringUTF16", "newBytesLength", "(I)I"⟩ : MethodName) (head1 (Jvm.Cond.code (⟨"java/lang/StringUTF16", "newBytesLength", "(I)I"⟩ : MethodName) jdk_52_method_3_code 1 (some .int) :: ws) ({ frames := 0, cells := 0, slots := 0, locals := 0 } : Room)) (fun a U => a = #[(.int (2 : Int32))] ∧ Z.Warmed39 U.vm ∧ U.heap = h0) (fun _ _ _ _ _ => True) (fun _ U o U' => ∃ v L, o = .returned v ∧ QNl2 h0 n0 v U'.heap L ∧ FrameEnd U o U' L ({ frames := 0, cells := 0, slots := 0, locals := 0 } : Room).cells ({ frames := 0, cells := 0, slots := 0, locals := 0 } : Room).slots) := by
  refine MetFree.of_bodySF (plainFor_of_name pn_java_lang_StringUTF16) hisR ?_
  intro p e s m args below meth c s₁ Bd hml0 hP hK
  obtain ⟨rfl, hZ, hh⟩ := hP
  have hx := Bd.exec
  have hby := Bd.bytes
  have hml : c.maxLocals = 1 := hml0
  have hown : s.vm.findClass "java/lang/StringUTF16" = some m.cls := findClass_of_methodNamed Bd.named
  have hnm := (name_of_methodNamed Bd.named Bd.method).1
  have X0 : Stand p l e ({ frames := 0, cells := 0, slots := 0, locals := 0 } : Room) s m #[(.int (2 : Int32))] below meth c s₁ [] 0 0 := Stand.of_body Bd
  have e0 : s₁.heap = h0 := by rw [← hh, Bd.state]; rfl
  have N0 := Fr.nil n0
  obtain ⟨B0, c0, hB0⟩ : ∃ B0, Steps p.tables e below B0 (s₁.setTop (mkF m 0 #[.val (.int (2 : Int32))] [])) ∧ B0 = s₁.setTop (entryFrame m #[(.int (2 : Int32))] 1) := ⟨_, castTop (ef_I_1 m (2 : Int32)) (Steps.refl _), rfl⟩
  have c1 : SS p e below B0 s₁ m 58 #[.val (.int (2 : Int32))] [(.int (4 : Int32))] := Steps.trans c0 (by
      refine XS.iloadN X0.here hx rfl (hb hby d6_0) rfl ?_
      refine XS.ifYes X0.here hx rfl (pc0 := 1) (pc' := 12) rfl (hb hby d6_1) rfl ((if0 _ _).trans (flt (by decide : ¬ (2 : Int32) < (0 : Int32))).2.1) (by decide) (by decide) ?_
      refine XS.iloadN X0.here hx rfl (hb hby d6_12) rfl ?_
      refine X0.ldcI hx hown (mvT hZ (W hw 102)) rfl (hb hby d6_13) ?_
      refine XS.icmpYes X0.here hx rfl (pc0 := 15) (pc' := 55) rfl (hb hby d6_15) rfl (tlt (by decide : (2 : Int32) < (1073741823 : Int32))).1 (by decide) (by decide) ?_
      refine XS.iloadN X0.here hx rfl (hb hby d6_55) rfl ?_
      refine XT.iconstV X0.here hx rfl (1 : Int32) (hb hby d6_56) (by decide) ?_
      refine XS.ishl X0.here hx rfl (hb hby d6_57) rfl ?_
      exact Steps.refl _)
  obtain ⟨fs, hr, hrun, hended, hW, hsame⟩ := X0.leave (v := some (.int (4 : Int32))) (fun h => by rw [Bd.returns] at h; cases h)
  subst hB0
  refine ⟨_, _, Steps.trans c1 ?_, hrun, hended, _, _, rfl, ?_, ⟨_, rfl⟩, hW, hsame.mono (by decide) (by decide)⟩
  · exact retI X0 hx Bd.returns (hb hby d6_58) hr
  · show QNl2 h0 n0 _ s₁.heap _
    rw [e0]
    exact ⟨rfl, N0, rfl⟩
def QNf2 (Z : State) (h0 : Heap) (n0 : Nat) (v : Option Value) (h : Heap) (L : List Loc) : Prop := ∃ (t : Addr) (k : ClassId), v = some (.ref t) ∧ Fr n0 L ∧ Keep h0 h [] ∧ (@Eq Nat t h0.size) ∧ Arv Z h t k .byte (4 : Int32) [(.int (0 : Int32)), (.int (0 : Int32)), (.int (0 : Int32)), (.int (0 : Int32))] (.int (0 : Int32))
set_option maxRecDepth 65536 in
set_option maxHeartbeats 40000000 in
theorem rmNf2 (l : Launch) (Z : State) (a0 : Array Value) (hw : ∀ d ∈ tables_1, d.before a0 Z = true) (ws : List Jvm.Cond)  (h0 : Heap) (n0 : Nat) (Z0 : n0 ≤ h0.size)  :
    MetFree l (⟨"java/lang/StringUTF16", "newBytesFor", "(I)[B"⟩ : MethodName) (head1 (Jvm.Cond.code (⟨"java/lang/StringUTF16", "newBytesFor", "(I)[B"⟩ : MethodName) jdk_52_method_2_code 1 (some (.array .byte)) :: ws) ({ frames := 1, cells := 1, slots := 4, locals := 12 } : Room)) (fun a U => a = #[(.int (2 : Int32))] ∧ Z.Warmed39 U.vm ∧ U.heap = h0) (fun _ _ _ _ _ => True) (fun _ U o U' => ∃ v L, o = .returned v ∧ QNf2 Z h0 n0 v U'.heap L ∧ FrameEnd U o U' L ({ frames := 1, cells := 1, slots := 4, locals := 12 } : Room).cells ({ frames := 1, cells := 1, slots := 4, locals := 12 } : Room).slots) := by
  refine MetFree.of_bodySF (plainFor_of_name pn_java_lang_StringUTF16) hisR ?_
  intro p e s m args below meth c s₁ Bd hml0 hP hK
  obtain ⟨rfl, hZ, hh⟩ := hP
  have hx := Bd.exec
  have hby := Bd.bytes
  have hml : c.maxLocals = 1 := hml0
  have hown : s.vm.findClass "java/lang/StringUTF16" = some m.cls := findClass_of_methodNamed Bd.named
  have hnm := (name_of_methodNamed Bd.named Bd.method).1
  have X0 : Stand p l e ({ frames := 1, cells := 1, slots := 4, locals := 12 } : Room) s m #[(.int (2 : Int32))] below meth c s₁ [] 0 0 := Stand.of_body Bd
  have e0 : s₁.heap = h0 := by rw [← hh, Bd.state]; rfl
  have N0 := Fr.nil n0
  obtain ⟨B0, c0, hB0⟩ : ∃ B0, Steps p.tables e below B0 (s₁.setTop (mkF m 0 #[.val (.int (2 : Int32))] [])) ∧ B0 = s₁.setTop (entryFrame m #[(.int (2 : Int32))] 1) := ⟨_, castTop (ef_I_1 m (2 : Int32)) (Steps.refl _), rfl⟩
  have c1 : SS p e below B0 s₁ m 1 #[.val (.int (2 : Int32))] [(.int (2 : Int32))] := Steps.trans c0 (by
      refine XS.iloadN X0.here hx rfl (hb hby d7_0) rfl ?_
      exact Steps.refl _)
  obtain ⟨_, _, ⟨T2, Lp2, kp2, np2⟩, -, X2, ⟨Lc2, hQ2, lp2, yp2, zp2⟩, st2⟩ := Jvm.LawKit.callS X0 hx (y := (⟨"java/lang/StringUTF16", "newBytesLength", "(I)I"⟩ : MethodName)) hown (mvT hZ (W hw 99)) (mvT hZ (W hw 100)) (mvT hZ (W hw 64)) (mvT hZ (W hw 101)) (by decide) (backOf (W := 0) (rmNl2 l Z a0 hw [] h0 n0 Z0) hZ (W hw 101) (W hw 64) (by decide) (by decide)) (g := (mkF m 1 #[.val (.int (2 : Int32))] [(.int (2 : Int32))])) rfl (by rw [hml]; rfl) (argsL := [(.int (2 : Int32))]) (rest := []) (lenOf pd__I_I rfl) rfl (by show 2 * 0 + _ ≤ _; exact Nat.le_of_eq rfl) (hb hby d7_1) (fun _ _ => ⟨rfl, e0, (by decide : 0 + 0 ≤ _), (by decide : 0 + 0 ≤ _)⟩)
  dsimp only [Pt.U, Pt.locs, Pt.cells, Pt.slots] at X2 lp2 yp2 zp2 st2 hQ2
  subst lp2 yp2 zp2
  obtain ⟨rfl, Nq2, eq2⟩ := hQ2
  have N2 := Fr.app N0 Nq2
  have c3 : SS p e below B0 T2 m 4 #[.val (.int (2 : Int32))] [(.int (4 : Int32))] := Steps.trans c1 (st2 _ (Steps.refl _))
  obtain ⟨T4, h4, k1, X4, e4, E4, A4, st4⟩ := newP X2 hx hZ (W hw 20) eq2 (g := (mkF m 4 #[.val (.int (2 : Int32))] [(.int (4 : Int32))])) rfl (hb hby d7_4) rfl (by decide : ¬ ((4 : Int32) < (0 : Int32))) (cap := 4) (by decide : (4 : Int32).toNatClampNeg ≤ 4) (by decide) (by decide) (by decide)
  obtain ⟨t1, g4⟩ : ∃ z, z = h0.size := ⟨_, rfl⟩
  rw [← g4] at A4 st4
  have z4 : h0.size ≤ h4.size := E4.1
  have l4 : (@LT.lt Nat _ t1 h4.size) := A4.lt
  have K4 := (Keep.refl h0 []).ext E4
  have V4 : Arv Z h4 t1 k1 .byte (4 : Int32) [(.int (0 : Int32)), (.int (0 : Int32)), (.int (0 : Int32)), (.int (0 : Int32))] (.int (0 : Int32)) := (Arv.new A4 (by decide)).pad (pad_rep [] (.int (0 : Int32)) 4)
  have c5 : SS p e below B0 T4 m 6 #[.val (.int (2 : Int32))] [(.ref t1)] := Steps.trans c3 (st4 _ (Steps.refl _))
  obtain ⟨fs, hr, hrun, hended, hW, hsame⟩ := X4.leave (v := some (.ref t1)) (fun h => by rw [Bd.returns] at h; cases h)
  subst hB0
  refine ⟨_, _, Steps.trans c5 ?_, hrun, hended, _, _, rfl, ?_, ⟨_, rfl⟩, hW, hsame.mono (by decide) (by decide)⟩
  · exact retR X4 hx Bd.returns rfl rfl rfl (hb hby d7_6) hr
  · show QNf2 Z h0 n0 _ T4.heap _
    rw [e4]
    exact ⟨t1, k1, rfl, N2, K4, (by omega), V4⟩
def QPut2_0 (Z : State) (t : Addr) (k : ClassId) (pv : Int32) (u0 u1 u2 u3 : Value) (h0 : Heap) (n0 : Nat) (v : Option Value) (h : Heap) (L : List Loc) : Prop := v = none ∧ Fr n0 L ∧ Keep h0 h [t] ∧ Arv Z h t k .byte (4 : Int32) [(.int (nar .byte ((pv >>> ((0 : Int32) &&& 31)).toInt8.toInt32))), (.int (nar .byte ((pv >>> ((8 : Int32) &&& 31)).toInt8.toInt32))), u2, u3] (.int (0 : Int32))
set_option maxRecDepth 65536 in
set_option maxHeartbeats 40000000 in
theorem rmPut2_0 (l : Launch) (Z : State) (a0 : Array Value) (hw : ∀ d ∈ tables_1, d.before a0 Z = true) (ws : List Jvm.Cond) (t : Addr) (k : ClassId) (pv : Int32) (u0 u1 u2 u3 : Value) (h0 : Heap) (n0 : Nat) (Z0 : n0 ≤ h0.size) (O7 : Sta Z Z.heap "java/lang/StringUTF16" "$assertionsDisabled" "Z" (.int (1 : Int32))) (O8 : Sta Z Z.heap "java/lang/StringUTF16" "HI_BYTE_SHIFT" "I" (.int (0 : Int32))) (O9 : Sta Z Z.heap "java/lang/StringUTF16" "LO_BYTE_SHIFT" "I" (.int (8 : Int32))) (X00 : Old Z n0 h0) (Vt : Arv Z h0 t k .byte (4 : Int32) [u0, u1, u2, u3] (.int (0 : Int32))) (gt : n0 ≤ t) :
    MetFree l (⟨"java/lang/StringUTF16", "putChar", "([BII)V"⟩ : MethodName) (head1 (Jvm.Cond.code (⟨"java/lang/StringUTF16", "putChar", "([BII)V"⟩ : MethodName) jdk_52_method_4_code 3 none :: ws) ({ frames := 0, cells := 0, slots := 0, locals := 0 } : Room)) (fun a U => a = #[(.ref t), (.int (0 : Int32)), (.int pv)] ∧ Z.Warmed39 U.vm ∧ U.heap = h0) (fun _ _ _ _ _ => True) (fun _ U o U' => ∃ v L, o = .returned v ∧ QPut2_0 Z t k pv u0 u1 u2 u3 h0 n0 v U'.heap L ∧ FrameEnd U o U' L ({ frames := 0, cells := 0, slots := 0, locals := 0 } : Room).cells ({ frames := 0, cells := 0, slots := 0, locals := 0 } : Room).slots) := by
  refine MetFree.of_bodySF (plainFor_of_name pn_java_lang_StringUTF16) hisR ?_
  intro p e s m args below meth c s₁ Bd hml0 hP hK
  obtain ⟨rfl, hZ, hh⟩ := hP
  have hx := Bd.exec
  have hby := Bd.bytes
  have hml : c.maxLocals = 3 := hml0
  have hown : s.vm.findClass "java/lang/StringUTF16" = some m.cls := findClass_of_methodNamed Bd.named
  have hnm := (name_of_methodNamed Bd.named Bd.method).1
  have X0 : Stand p l e ({ frames := 0, cells := 0, slots := 0, locals := 0 } : Room) s m #[(.ref t), (.int (0 : Int32)), (.int pv)] below meth c s₁ [] 0 0 := Stand.of_body Bd
  have e0 : s₁.heap = h0 := by rw [← hh, Bd.state]; rfl
  have N0 := Fr.nil n0
  obtain ⟨B0, c0, hB0⟩ : ∃ B0, Steps p.tables e below B0 (s₁.setTop (mkF m 0 #[.val (.ref t), .val (.int (0 : Int32)), .val (.int pv)] [])) ∧ B0 = s₁.setTop (entryFrame m #[(.ref t), (.int (0 : Int32)), (.int pv)] 3) := ⟨_, castTop (ef_RII_3 m t (0 : Int32) pv) (Steps.refl _), rfl⟩
  have lt_t : (@LT.lt Nat _ t h0.size) := Vt.lt
  obtain ⟨T1, X1, e1, st1⟩ := getS X0 hx hZ (host := "") hown (W hw 106) Via.refl e0 (O7.ext X00.2) (g := (mkF m 0 #[.val (.ref t), .val (.int (0 : Int32)), .val (.int pv)] [])) rfl (hb hby d8_0)
  have c2 : SS p e below B0 T1 m 3 #[.val (.ref t), .val (.int (0 : Int32)), .val (.int pv)] [(.int (1 : Int32))] := Steps.trans c0 (st1 _ (Steps.refl _))
  have c3 : SS p e below B0 T1 m 38 #[.val (.ref t), .val (.int (1 : Int32)), .val (.int pv)] [(.int pv), (.int (0 : Int32)), (.ref t)] := Steps.trans c2 (by
      refine XS.ifYes X1.here hx rfl (pc0 := 3) (pc' := 28) rfl (hb hby d8_3) rfl ((if0 _ _).trans (feq (by decide : ¬ (1 : Int32) = (0 : Int32))).2) (by decide) (by decide) ?_
      refine XS.iloadN X1.here hx rfl (hb hby d8_28) rfl ?_
      refine XT.iconstV X1.here hx rfl (1 : Int32) (hb hby d8_29) (by decide) ?_
      refine XS.ishl X1.here hx rfl (hb hby d8_30) rfl ?_
      refine XS.istoreN X1.here hx rfl (hb hby d8_31) rfl (l' := #[.val (.ref t), .val (.int (0 : Int32)), .val (.int pv)]) rfl ?_
      refine XS.aloadN X1.here hx rfl (hb hby d8_32) rfl rfl ?_
      refine XS.iloadN X1.here hx rfl (hb hby d8_33) rfl ?_
      refine XT.iincV X1.here hx rfl (1 : Int32) (hb hby d8_34) (by decide) rfl (l' := #[.val (.ref t), .val (.int (1 : Int32)), .val (.int pv)]) rfl ?_
      refine XS.iloadN X1.here hx rfl (hb hby d8_37) rfl ?_
      exact Steps.refl _)
  obtain ⟨T4, X4, e4, st4⟩ := getS X1 hx hZ (host := "") hown (W hw 107) Via.refl e1 (O8.ext X00.2) (g := (mkF m 38 #[.val (.ref t), .val (.int (1 : Int32)), .val (.int pv)] [(.int pv), (.int (0 : Int32)), (.ref t)])) rfl (hb hby d8_38)
  have c5 : SS p e below B0 T4 m 41 #[.val (.ref t), .val (.int (1 : Int32)), .val (.int pv)] [(.int (0 : Int32)), (.int pv), (.int (0 : Int32)), (.ref t)] := Steps.trans c3 (st4 _ (Steps.refl _))
  have c6 : SS p e below B0 T4 m 43 #[.val (.ref t), .val (.int (1 : Int32)), .val (.int pv)] [(.int ((pv >>> ((0 : Int32) &&& 31)).toInt8.toInt32)), (.int (0 : Int32)), (.ref t)] := Steps.trans c5 (by
      refine XS.ishr X4.here hx rfl (hb hby d8_41) rfl ?_
      refine XS.i2b X4.here hx rfl (hb hby d8_42) rfl ?_
      exact Steps.refl _)
  obtain ⟨cl7, Ar7, q7, Sz7, M7, Hs7, U7⟩ := id Vt
  obtain ⟨T7, h7, X7, e7, W7, st7⟩ := stB X4 hx hZ e4 Ar7 (j := (0 : Int32)) (inb_of Sz7 ⟨(by decide), (by decide)⟩) (g := (mkF m 43 #[.val (.ref t), .val (.int (1 : Int32)), .val (.int pv)] [(.int ((pv >>> ((0 : Int32) &&& 31)).toInt8.toInt32)), (.int (0 : Int32)), (.ref t)])) rfl rfl (hb hby d8_43)
  have N7 := Fr.snoc X7 N0 (by omega)
  have V7 : Arv Z h7 t k .byte (4 : Int32) [(.int (nar .byte ((pv >>> ((0 : Int32) &&& 31)).toInt8.toInt32))), u1, u2, u3] (.int (0 : Int32)) := Arv.set Ar7 q7 Sz7 M7 Hs7 U7 (fits_nar_byte _) W7 0 rfl (Nat.le_of_ble_eq_true rfl)
  have z7 : h7.size = h0.size := W7.size
  have K7 := (Keep.refl h0 [t]).wr W7 (Or.inl (List.mem_of_getElem? (i := 0) rfl))
  have c8 : SS p e below B0 T7 m 44 #[.val (.ref t), .val (.int (1 : Int32)), .val (.int pv)] [] := Steps.trans c6 (st7 _ (Steps.refl _))
  have Old9 : Old Z n0 h7 := (X00.wr W7 (by omega))
  have c10 : SS p e below B0 T7 m 47 #[.val (.ref t), .val (.int (1 : Int32)), .val (.int pv)] [(.int pv), (.int (1 : Int32)), (.ref t)] := Steps.trans c8 (by
      refine XS.aloadN X7.here hx rfl (hb hby d8_44) rfl rfl ?_
      refine XS.iloadN X7.here hx rfl (hb hby d8_45) rfl ?_
      refine XS.iloadN X7.here hx rfl (hb hby d8_46) rfl ?_
      exact Steps.refl _)
  obtain ⟨T11, X11, e11, st11⟩ := getS X7 hx hZ (host := "") hown (W hw 108) Via.refl e7 (O9.ext Old9.2) (g := (mkF m 47 #[.val (.ref t), .val (.int (1 : Int32)), .val (.int pv)] [(.int pv), (.int (1 : Int32)), (.ref t)])) rfl (hb hby d8_47)
  have c12 : SS p e below B0 T11 m 50 #[.val (.ref t), .val (.int (1 : Int32)), .val (.int pv)] [(.int (8 : Int32)), (.int pv), (.int (1 : Int32)), (.ref t)] := Steps.trans c10 (st11 _ (Steps.refl _))
  have c13 : SS p e below B0 T11 m 52 #[.val (.ref t), .val (.int (1 : Int32)), .val (.int pv)] [(.int ((pv >>> ((8 : Int32) &&& 31)).toInt8.toInt32)), (.int (1 : Int32)), (.ref t)] := Steps.trans c12 (by
      refine XS.ishr X11.here hx rfl (hb hby d8_50) rfl ?_
      refine XS.i2b X11.here hx rfl (hb hby d8_51) rfl ?_
      exact Steps.refl _)
  obtain ⟨cl14, Ar14, q14, Sz14, M14, Hs14, U14⟩ := id V7
  obtain ⟨T14, h14, X14, e14, W14, st14⟩ := stB X11 hx hZ e11 Ar14 (j := (1 : Int32)) (inb_of Sz14 ⟨(by decide), (by decide)⟩) (g := (mkF m 52 #[.val (.ref t), .val (.int (1 : Int32)), .val (.int pv)] [(.int ((pv >>> ((8 : Int32) &&& 31)).toInt8.toInt32)), (.int (1 : Int32)), (.ref t)])) rfl rfl (hb hby d8_52)
  have N14 := Fr.snoc X14 N7 (by omega)
  have V14 : Arv Z h14 t k .byte (4 : Int32) [(.int (nar .byte ((pv >>> ((0 : Int32) &&& 31)).toInt8.toInt32))), (.int (nar .byte ((pv >>> ((8 : Int32) &&& 31)).toInt8.toInt32))), u2, u3] (.int (0 : Int32)) := Arv.set Ar14 q14 Sz14 M14 Hs14 U14 (fits_nar_byte _) W14 1 rfl (Nat.le_of_ble_eq_true rfl)
  have z14 : h14.size = h7.size := W14.size
  have K14 := K7.wr W14 (Or.inl (List.mem_of_getElem? (i := 0) rfl))
  have c15 : SS p e below B0 T14 m 53 #[.val (.ref t), .val (.int (1 : Int32)), .val (.int pv)] [] := Steps.trans c13 (st14 _ (Steps.refl _))
  obtain ⟨fs, hr, hrun, hended, hW, hsame⟩ := X14.leave (v := none) (fun _ => rfl)
  subst hB0
  refine ⟨_, _, Steps.trans c15 ?_, hrun, hended, _, _, rfl, ?_, ⟨_, rfl⟩, hW, hsame.mono (by decide) (by decide)⟩
  · exact X14.returnOut hx Bd.returns (hb hby d8_53) hr
  · show QPut2_0 Z t k pv u0 u1 u2 u3 h0 n0 _ T14.heap _
    rw [e14]
    exact ⟨rfl, N14, K14, V14⟩
def QPut2_1 (Z : State) (t : Addr) (k : ClassId) (pv : Int32) (u0 u1 u2 u3 : Value) (h0 : Heap) (n0 : Nat) (v : Option Value) (h : Heap) (L : List Loc) : Prop := v = none ∧ Fr n0 L ∧ Keep h0 h [t] ∧ Arv Z h t k .byte (4 : Int32) [u0, u1, (.int (nar .byte ((pv >>> ((0 : Int32) &&& 31)).toInt8.toInt32))), (.int (nar .byte ((pv >>> ((8 : Int32) &&& 31)).toInt8.toInt32)))] (.int (0 : Int32))
set_option maxRecDepth 65536 in
set_option maxHeartbeats 40000000 in
theorem rmPut2_1 (l : Launch) (Z : State) (a0 : Array Value) (hw : ∀ d ∈ tables_1, d.before a0 Z = true) (ws : List Jvm.Cond) (t : Addr) (k : ClassId) (pv : Int32) (u0 u1 u2 u3 : Value) (h0 : Heap) (n0 : Nat) (Z0 : n0 ≤ h0.size) (O7 : Sta Z Z.heap "java/lang/StringUTF16" "$assertionsDisabled" "Z" (.int (1 : Int32))) (O8 : Sta Z Z.heap "java/lang/StringUTF16" "HI_BYTE_SHIFT" "I" (.int (0 : Int32))) (O9 : Sta Z Z.heap "java/lang/StringUTF16" "LO_BYTE_SHIFT" "I" (.int (8 : Int32))) (X00 : Old Z n0 h0) (Vt : Arv Z h0 t k .byte (4 : Int32) [u0, u1, u2, u3] (.int (0 : Int32))) (gt : n0 ≤ t) :
    MetFree l (⟨"java/lang/StringUTF16", "putChar", "([BII)V"⟩ : MethodName) (head1 (Jvm.Cond.code (⟨"java/lang/StringUTF16", "putChar", "([BII)V"⟩ : MethodName) jdk_52_method_4_code 3 none :: ws) ({ frames := 0, cells := 0, slots := 0, locals := 0 } : Room)) (fun a U => a = #[(.ref t), (.int (1 : Int32)), (.int pv)] ∧ Z.Warmed39 U.vm ∧ U.heap = h0) (fun _ _ _ _ _ => True) (fun _ U o U' => ∃ v L, o = .returned v ∧ QPut2_1 Z t k pv u0 u1 u2 u3 h0 n0 v U'.heap L ∧ FrameEnd U o U' L ({ frames := 0, cells := 0, slots := 0, locals := 0 } : Room).cells ({ frames := 0, cells := 0, slots := 0, locals := 0 } : Room).slots) := by
  refine MetFree.of_bodySF (plainFor_of_name pn_java_lang_StringUTF16) hisR ?_
  intro p e s m args below meth c s₁ Bd hml0 hP hK
  obtain ⟨rfl, hZ, hh⟩ := hP
  have hx := Bd.exec
  have hby := Bd.bytes
  have hml : c.maxLocals = 3 := hml0
  have hown : s.vm.findClass "java/lang/StringUTF16" = some m.cls := findClass_of_methodNamed Bd.named
  have hnm := (name_of_methodNamed Bd.named Bd.method).1
  have X0 : Stand p l e ({ frames := 0, cells := 0, slots := 0, locals := 0 } : Room) s m #[(.ref t), (.int (1 : Int32)), (.int pv)] below meth c s₁ [] 0 0 := Stand.of_body Bd
  have e0 : s₁.heap = h0 := by rw [← hh, Bd.state]; rfl
  have N0 := Fr.nil n0
  obtain ⟨B0, c0, hB0⟩ : ∃ B0, Steps p.tables e below B0 (s₁.setTop (mkF m 0 #[.val (.ref t), .val (.int (1 : Int32)), .val (.int pv)] [])) ∧ B0 = s₁.setTop (entryFrame m #[(.ref t), (.int (1 : Int32)), (.int pv)] 3) := ⟨_, castTop (ef_RII_3 m t (1 : Int32) pv) (Steps.refl _), rfl⟩
  have lt_t : (@LT.lt Nat _ t h0.size) := Vt.lt
  obtain ⟨T1, X1, e1, st1⟩ := getS X0 hx hZ (host := "") hown (W hw 106) Via.refl e0 (O7.ext X00.2) (g := (mkF m 0 #[.val (.ref t), .val (.int (1 : Int32)), .val (.int pv)] [])) rfl (hb hby d8_0)
  have c2 : SS p e below B0 T1 m 3 #[.val (.ref t), .val (.int (1 : Int32)), .val (.int pv)] [(.int (1 : Int32))] := Steps.trans c0 (st1 _ (Steps.refl _))
  have c3 : SS p e below B0 T1 m 38 #[.val (.ref t), .val (.int (3 : Int32)), .val (.int pv)] [(.int pv), (.int (2 : Int32)), (.ref t)] := Steps.trans c2 (by
      refine XS.ifYes X1.here hx rfl (pc0 := 3) (pc' := 28) rfl (hb hby d8_3) rfl ((if0 _ _).trans (feq (by decide : ¬ (1 : Int32) = (0 : Int32))).2) (by decide) (by decide) ?_
      refine XS.iloadN X1.here hx rfl (hb hby d8_28) rfl ?_
      refine XT.iconstV X1.here hx rfl (1 : Int32) (hb hby d8_29) (by decide) ?_
      refine XS.ishl X1.here hx rfl (hb hby d8_30) rfl ?_
      refine XS.istoreN X1.here hx rfl (hb hby d8_31) rfl (l' := #[.val (.ref t), .val (.int (2 : Int32)), .val (.int pv)]) rfl ?_
      refine XS.aloadN X1.here hx rfl (hb hby d8_32) rfl rfl ?_
      refine XS.iloadN X1.here hx rfl (hb hby d8_33) rfl ?_
      refine XT.iincV X1.here hx rfl (1 : Int32) (hb hby d8_34) (by decide) rfl (l' := #[.val (.ref t), .val (.int (3 : Int32)), .val (.int pv)]) rfl ?_
      refine XS.iloadN X1.here hx rfl (hb hby d8_37) rfl ?_
      exact Steps.refl _)
  obtain ⟨T4, X4, e4, st4⟩ := getS X1 hx hZ (host := "") hown (W hw 107) Via.refl e1 (O8.ext X00.2) (g := (mkF m 38 #[.val (.ref t), .val (.int (3 : Int32)), .val (.int pv)] [(.int pv), (.int (2 : Int32)), (.ref t)])) rfl (hb hby d8_38)
  have c5 : SS p e below B0 T4 m 41 #[.val (.ref t), .val (.int (3 : Int32)), .val (.int pv)] [(.int (0 : Int32)), (.int pv), (.int (2 : Int32)), (.ref t)] := Steps.trans c3 (st4 _ (Steps.refl _))
  have c6 : SS p e below B0 T4 m 43 #[.val (.ref t), .val (.int (3 : Int32)), .val (.int pv)] [(.int ((pv >>> ((0 : Int32) &&& 31)).toInt8.toInt32)), (.int (2 : Int32)), (.ref t)] := Steps.trans c5 (by
      refine XS.ishr X4.here hx rfl (hb hby d8_41) rfl ?_
      refine XS.i2b X4.here hx rfl (hb hby d8_42) rfl ?_
      exact Steps.refl _)
  obtain ⟨cl7, Ar7, q7, Sz7, M7, Hs7, U7⟩ := id Vt
  obtain ⟨T7, h7, X7, e7, W7, st7⟩ := stB X4 hx hZ e4 Ar7 (j := (2 : Int32)) (inb_of Sz7 ⟨(by decide), (by decide)⟩) (g := (mkF m 43 #[.val (.ref t), .val (.int (3 : Int32)), .val (.int pv)] [(.int ((pv >>> ((0 : Int32) &&& 31)).toInt8.toInt32)), (.int (2 : Int32)), (.ref t)])) rfl rfl (hb hby d8_43)
  have N7 := Fr.snoc X7 N0 (by omega)
  have V7 : Arv Z h7 t k .byte (4 : Int32) [u0, u1, (.int (nar .byte ((pv >>> ((0 : Int32) &&& 31)).toInt8.toInt32))), u3] (.int (0 : Int32)) := Arv.set Ar7 q7 Sz7 M7 Hs7 U7 (fits_nar_byte _) W7 2 rfl (Nat.le_of_ble_eq_true rfl)
  have z7 : h7.size = h0.size := W7.size
  have K7 := (Keep.refl h0 [t]).wr W7 (Or.inl (List.mem_of_getElem? (i := 0) rfl))
  have c8 : SS p e below B0 T7 m 44 #[.val (.ref t), .val (.int (3 : Int32)), .val (.int pv)] [] := Steps.trans c6 (st7 _ (Steps.refl _))
  have Old9 : Old Z n0 h7 := (X00.wr W7 (by omega))
  have c10 : SS p e below B0 T7 m 47 #[.val (.ref t), .val (.int (3 : Int32)), .val (.int pv)] [(.int pv), (.int (3 : Int32)), (.ref t)] := Steps.trans c8 (by
      refine XS.aloadN X7.here hx rfl (hb hby d8_44) rfl rfl ?_
      refine XS.iloadN X7.here hx rfl (hb hby d8_45) rfl ?_
      refine XS.iloadN X7.here hx rfl (hb hby d8_46) rfl ?_
      exact Steps.refl _)
  obtain ⟨T11, X11, e11, st11⟩ := getS X7 hx hZ (host := "") hown (W hw 108) Via.refl e7 (O9.ext Old9.2) (g := (mkF m 47 #[.val (.ref t), .val (.int (3 : Int32)), .val (.int pv)] [(.int pv), (.int (3 : Int32)), (.ref t)])) rfl (hb hby d8_47)
  have c12 : SS p e below B0 T11 m 50 #[.val (.ref t), .val (.int (3 : Int32)), .val (.int pv)] [(.int (8 : Int32)), (.int pv), (.int (3 : Int32)), (.ref t)] := Steps.trans c10 (st11 _ (Steps.refl _))
  have c13 : SS p e below B0 T11 m 52 #[.val (.ref t), .val (.int (3 : Int32)), .val (.int pv)] [(.int ((pv >>> ((8 : Int32) &&& 31)).toInt8.toInt32)), (.int (3 : Int32)), (.ref t)] := Steps.trans c12 (by
      refine XS.ishr X11.here hx rfl (hb hby d8_50) rfl ?_
      refine XS.i2b X11.here hx rfl (hb hby d8_51) rfl ?_
      exact Steps.refl _)
  obtain ⟨cl14, Ar14, q14, Sz14, M14, Hs14, U14⟩ := id V7
  obtain ⟨T14, h14, X14, e14, W14, st14⟩ := stB X11 hx hZ e11 Ar14 (j := (3 : Int32)) (inb_of Sz14 ⟨(by decide), (by decide)⟩) (g := (mkF m 52 #[.val (.ref t), .val (.int (3 : Int32)), .val (.int pv)] [(.int ((pv >>> ((8 : Int32) &&& 31)).toInt8.toInt32)), (.int (3 : Int32)), (.ref t)])) rfl rfl (hb hby d8_52)
  have N14 := Fr.snoc X14 N7 (by omega)
  have V14 : Arv Z h14 t k .byte (4 : Int32) [u0, u1, (.int (nar .byte ((pv >>> ((0 : Int32) &&& 31)).toInt8.toInt32))), (.int (nar .byte ((pv >>> ((8 : Int32) &&& 31)).toInt8.toInt32)))] (.int (0 : Int32)) := Arv.set Ar14 q14 Sz14 M14 Hs14 U14 (fits_nar_byte _) W14 3 rfl (Nat.le_of_ble_eq_true rfl)
  have z14 : h14.size = h7.size := W14.size
  have K14 := K7.wr W14 (Or.inl (List.mem_of_getElem? (i := 0) rfl))
  have c15 : SS p e below B0 T14 m 53 #[.val (.ref t), .val (.int (3 : Int32)), .val (.int pv)] [] := Steps.trans c13 (st14 _ (Steps.refl _))
  obtain ⟨fs, hr, hrun, hended, hW, hsame⟩ := X14.leave (v := none) (fun _ => rfl)
  subst hB0
  refine ⟨_, _, Steps.trans c15 ?_, hrun, hended, _, _, rfl, ?_, ⟨_, rfl⟩, hW, hsame.mono (by decide) (by decide)⟩
  · exact X14.returnOut hx Bd.returns (hb hby d8_53) hr
  · show QPut2_1 Z t k pv u0 u1 u2 u3 h0 n0 _ T14.heap _
    rw [e14]
    exact ⟨rfl, N14, K14, V14⟩
def QTo2 (Z : State) (c0' c1' : Int32) (h0 : Heap) (n0 : Nat) (v : Option Value) (h : Heap) (L : List Loc) : Prop := ∃ (t : Addr) (k : ClassId), v = some (.ref t) ∧ Fr n0 L ∧ Keep h0 h [] ∧ (@Eq Nat t h0.size) ∧ Arv Z h t k .byte (4 : Int32) [(.int (nar .byte ((c0' >>> ((0 : Int32) &&& 31)).toInt8.toInt32))), (.int (nar .byte ((c0' >>> ((8 : Int32) &&& 31)).toInt8.toInt32))), (.int (nar .byte ((c1' >>> ((0 : Int32) &&& 31)).toInt8.toInt32))), (.int (nar .byte ((c1' >>> ((8 : Int32) &&& 31)).toInt8.toInt32)))] (.int (0 : Int32))
set_option maxRecDepth 65536 in
set_option maxHeartbeats 40000000 in
theorem rmTo2 (l : Launch) (Z : State) (a0 : Array Value) (hw : ∀ d ∈ tables_1, d.before a0 Z = true) (ws : List Jvm.Cond) (r : Addr) (kc : ClassId) (c0' c1' : Int32) (h0 : Heap) (n0 : Nat) (Z0 : n0 ≤ h0.size) (O7 : Sta Z Z.heap "java/lang/StringUTF16" "$assertionsDisabled" "Z" (.int (1 : Int32))) (O8 : Sta Z Z.heap "java/lang/StringUTF16" "HI_BYTE_SHIFT" "I" (.int (0 : Int32))) (O9 : Sta Z Z.heap "java/lang/StringUTF16" "LO_BYTE_SHIFT" "I" (.int (8 : Int32))) (X00 : Old Z n0 h0) (Vr : Arv Z h0 r kc .char (2 : Int32) [(.int c0'), (.int c1')] (.int (0 : Int32))) :
    MetFree l (⟨"java/lang/StringUTF16", "toBytes", "([CII)[B"⟩ : MethodName) (head1 (Jvm.Cond.code (⟨"java/lang/StringUTF16", "toBytes", "([CII)[B"⟩ : MethodName) jdk_52_method_14_code 5 (some (.array .byte)) :: ws) ({ frames := 2, cells := 1, slots := 4, locals := 24 } : Room)) (fun a U => a = #[(.ref r), (.int (0 : Int32)), (.int (2 : Int32))] ∧ Z.Warmed39 U.vm ∧ U.heap = h0) (fun _ _ _ _ _ => True) (fun _ U o U' => ∃ v L, o = .returned v ∧ QTo2 Z c0' c1' h0 n0 v U'.heap L ∧ FrameEnd U o U' L ({ frames := 2, cells := 1, slots := 4, locals := 24 } : Room).cells ({ frames := 2, cells := 1, slots := 4, locals := 24 } : Room).slots) := by
  refine MetFree.of_bodySF (plainFor_of_name pn_java_lang_StringUTF16) hisR ?_
  intro p e s m args below meth c s₁ Bd hml0 hP hK
  obtain ⟨rfl, hZ, hh⟩ := hP
  have hx := Bd.exec
  have hby := Bd.bytes
  have hml : c.maxLocals = 5 := hml0
  have hown : s.vm.findClass "java/lang/StringUTF16" = some m.cls := findClass_of_methodNamed Bd.named
  have hnm := (name_of_methodNamed Bd.named Bd.method).1
  have X0 : Stand p l e ({ frames := 2, cells := 1, slots := 4, locals := 24 } : Room) s m #[(.ref r), (.int (0 : Int32)), (.int (2 : Int32))] below meth c s₁ [] 0 0 := Stand.of_body Bd
  have e0 : s₁.heap = h0 := by rw [← hh, Bd.state]; rfl
  have N0 := Fr.nil n0
  obtain ⟨B0, c0, hB0⟩ : ∃ B0, Steps p.tables e below B0 (s₁.setTop (mkF m 0 #[.val (.ref r), .val (.int (0 : Int32)), .val (.int (2 : Int32)), .unset, .unset] [])) ∧ B0 = s₁.setTop (entryFrame m #[(.ref r), (.int (0 : Int32)), (.int (2 : Int32))] 5) := ⟨_, castTop (ef_RII_5 m r (0 : Int32) (2 : Int32)) (Steps.refl _), rfl⟩
  have lt_r : (@LT.lt Nat _ r h0.size) := Vr.lt
  have c1 : SS p e below B0 s₁ m 1 #[.val (.ref r), .val (.int (0 : Int32)), .val (.int (2 : Int32)), .unset, .unset] [(.int (2 : Int32))] := Steps.trans c0 (by
      refine XS.iloadN X0.here hx rfl (hb hby d9_0) rfl ?_
      exact Steps.refl _)
  obtain ⟨_, _, ⟨T2, Lp2, kp2, np2⟩, -, X2, ⟨Lc2, hQ2, lp2, yp2, zp2⟩, st2⟩ := Jvm.LawKit.callS X0 hx (y := (⟨"java/lang/StringUTF16", "newBytesFor", "(I)[B"⟩ : MethodName)) hown (mvT hZ (W hw 96)) (mvT hZ (W hw 97)) (mvT hZ (W hw 64)) (mvT hZ (W hw 98)) (by decide) (backOf (W := 0) (rmNf2 l Z a0 hw [] h0 n0 Z0) hZ (W hw 98) (W hw 64) (by decide) (by decide)) (g := (mkF m 1 #[.val (.ref r), .val (.int (0 : Int32)), .val (.int (2 : Int32)), .unset, .unset] [(.int (2 : Int32))])) rfl (by rw [hml]; rfl) (argsL := [(.int (2 : Int32))]) (rest := []) (lenOf pd__I__B rfl) rfl (by show 2 * 0 + _ ≤ _; exact Nat.le_of_eq rfl) (hb hby d9_1) (fun _ _ => ⟨rfl, e0, (by decide : 0 + 1 ≤ _), (by decide : 0 + 4 ≤ _)⟩)
  dsimp only [Pt.U, Pt.locs, Pt.cells, Pt.slots] at X2 lp2 yp2 zp2 st2 hQ2
  subst lp2 yp2 zp2
  obtain ⟨t1, k1, rfl, Nq2, Kq2, g2, av2⟩ := hQ2
  have N2 := Fr.app N0 Nq2
  obtain ⟨h2, e2⟩ : ∃ z, T2.heap = z := ⟨_, rfl⟩
  rw [e2] at Kq2 av2
  have z2 : h0.size ≤ h2.size := Kq2.1
  have K2 := (Keep.refl h0 []).trans Kq2 all0
  have c3 : SS p e below B0 T2 m 4 #[.val (.ref r), .val (.int (0 : Int32)), .val (.int (2 : Int32)), .unset, .unset] [(.ref t1)] := Steps.trans c1 (st2 _ (Steps.refl _))
  have lt_t1 : (@LT.lt Nat _ t1 h2.size) := av2.lt
  have c4 : SS p e below B0 T2 m 19 #[.val (.ref r), .val (.int (0 : Int32)), .val (.int (2 : Int32)), .val (.ref t1), .val (.int (0 : Int32))] [(.int (0 : Int32)), (.ref r), (.int (0 : Int32)), (.ref t1)] := Steps.trans c3 (by
      refine XS.astoreN X2.here hx rfl (hb hby d9_4) rfl rfl (l' := #[.val (.ref r), .val (.int (0 : Int32)), .val (.int (2 : Int32)), .val (.ref t1), .unset]) rfl ?_
      refine XT.iconstV X2.here hx rfl (0 : Int32) (hb hby d9_5) (by decide) ?_
      refine XS.istore X2.here hx rfl (hb hby d9_6) rfl (l' := #[.val (.ref r), .val (.int (0 : Int32)), .val (.int (2 : Int32)), .val (.ref t1), .val (.int (0 : Int32))]) rfl ?_
      refine XS.iload X2.here hx rfl (hb hby d9_8) rfl ?_
      refine XS.iloadN X2.here hx rfl (hb hby d9_10) rfl ?_
      refine XS.icmpNo X2.here hx rfl (hb hby d9_11) rfl (tlt (by decide : (0 : Int32) < (2 : Int32))).2.1 ?_
      refine XS.aloadN X2.here hx rfl (hb hby d9_14) rfl rfl ?_
      refine XS.iload X2.here hx rfl (hb hby d9_15) rfl ?_
      refine XS.aloadN X2.here hx rfl (hb hby d9_17) rfl rfl ?_
      refine XS.iloadN X2.here hx rfl (hb hby d9_18) rfl ?_
      exact Steps.refl _)
  have Arv6 : Arv Z h2 r kc .char (2 : Int32) [(.int c0'), (.int c1')] (.int (0 : Int32)) := (Vr.keep Kq2 nin0)
  obtain ⟨cl5, Ar5, q5, Sz5, M5, Hs5, U5⟩ := id Arv6
  have in5 := inb_of (j := (0 : Int32)) Sz5 ⟨(by decide), (by decide)⟩
  have c7 : SS p e below B0 T2 m 20 #[.val (.ref r), .val (.int (0 : Int32)), .val (.int (2 : Int32)), .val (.ref t1), .val (.int (0 : Int32))] [(.int (c0')), (.int (0 : Int32)), (.ref t1)] := Steps.trans c4 (by
      refine X2.caload hx (j := (0 : Int32)) (v := (.int (c0'))) (by rw [e2]; exact Ar5.1) (State.isArrayOf_alike hZ.alike Ar5.2.1) Ar5.2.2 in5 (Hs5.at in5 rfl) (g := (mkF m 19 #[.val (.ref r), .val (.int (0 : Int32)), .val (.int (2 : Int32)), .val (.ref t1), .val (.int (0 : Int32))] [(.int (0 : Int32)), (.ref r), (.int (0 : Int32)), (.ref t1)])) rfl rfl (hb hby d9_19) _ ?_
      exact Steps.refl _)
  have Old8 : Old Z n0 h2 := (X00.keep Kq2 all0)
  obtain ⟨_, _, ⟨T9, Lp9, kp9, np9⟩, -, X9, ⟨Lc9, hQ9, lp9, yp9, zp9⟩, st9⟩ := Jvm.LawKit.callS X2 hx (y := (⟨"java/lang/StringUTF16", "putChar", "([BII)V"⟩ : MethodName)) hown (mvT hZ (W hw 103)) (mvT hZ (W hw 104)) (mvT hZ (W hw 64)) (mvT hZ (W hw 105)) (by decide) (backOf (W := 0) (rmPut2_0 l Z a0 hw [] t1 k1 c0' (.int (0 : Int32)) (.int (0 : Int32)) (.int (0 : Int32)) (.int (0 : Int32)) h2 n0 (by omega) O7 O8 O9 Old8 av2 (by omega)) hZ (W hw 105) (W hw 64) (by decide) (by decide)) (g := (mkF m 20 #[.val (.ref r), .val (.int (0 : Int32)), .val (.int (2 : Int32)), .val (.ref t1), .val (.int (0 : Int32))] [(.int (c0')), (.int (0 : Int32)), (.ref t1)])) rfl (by rw [hml]; rfl) (argsL := [(.ref t1), (.int (0 : Int32)), (.int (c0'))]) (rest := []) (lenOf pd___BII_V rfl) rfl (by show 2 * 0 + _ ≤ _; exact Nat.le_of_eq rfl) (hb hby d9_20) (fun _ _ => ⟨rfl, e2, (by decide : 1 + 0 ≤ _), (by decide : 4 + 0 ≤ _)⟩)
  dsimp only [Pt.U, Pt.locs, Pt.cells, Pt.slots] at X9 lp9 yp9 zp9 st9 hQ9
  subst lp9 yp9 zp9
  obtain ⟨rfl, Nq9, Kq9, av9⟩ := hQ9
  have N9 := Fr.app N2 Nq9
  obtain ⟨h9, e9⟩ : ∃ z, T9.heap = z := ⟨_, rfl⟩
  rw [e9] at Kq9 av9
  have z9 : h2.size ≤ h9.size := Kq9.1
  have K9 := K2.trans Kq9 (allS (Or.inr (by omega)) all0)
  have c10 : SS p e below B0 T9 m 23 #[.val (.ref r), .val (.int (0 : Int32)), .val (.int (2 : Int32)), .val (.ref t1), .val (.int (0 : Int32))] [] := Steps.trans c7 (st9 _ (Steps.refl _))
  have c11 : SS p e below B0 T9 m 19 #[.val (.ref r), .val (.int (1 : Int32)), .val (.int (2 : Int32)), .val (.ref t1), .val (.int (1 : Int32))] [(.int (1 : Int32)), (.ref r), (.int (1 : Int32)), (.ref t1)] := Steps.trans c10 (by
      refine XT.iincV X9.here hx rfl (1 : Int32) (hb hby d9_23) (by decide) rfl (l' := #[.val (.ref r), .val (.int (1 : Int32)), .val (.int (2 : Int32)), .val (.ref t1), .val (.int (0 : Int32))]) rfl ?_
      refine XT.iincV X9.here hx rfl (1 : Int32) (hb hby d9_26) (by decide) rfl (l' := #[.val (.ref r), .val (.int (1 : Int32)), .val (.int (2 : Int32)), .val (.ref t1), .val (.int (1 : Int32))]) rfl ?_
      refine XS.goto X9.here hx rfl (pc0 := 29) (pc' := 8) rfl (hb hby d9_29) (by decide) (by decide) ?_
      refine XS.iload X9.here hx rfl (hb hby d9_8) rfl ?_
      refine XS.iloadN X9.here hx rfl (hb hby d9_10) rfl ?_
      refine XS.icmpNo X9.here hx rfl (hb hby d9_11) rfl (tlt (by decide : (1 : Int32) < (2 : Int32))).2.1 ?_
      refine XS.aloadN X9.here hx rfl (hb hby d9_14) rfl rfl ?_
      refine XS.iload X9.here hx rfl (hb hby d9_15) rfl ?_
      refine XS.aloadN X9.here hx rfl (hb hby d9_17) rfl rfl ?_
      refine XS.iloadN X9.here hx rfl (hb hby d9_18) rfl ?_
      exact Steps.refl _)
  have Arv13 : Arv Z h9 r kc .char (2 : Int32) [(.int c0'), (.int c1')] (.int (0 : Int32)) := (Arv6.keep Kq9 (ninS (own_ne (by omega)) nin0))
  obtain ⟨cl12, Ar12, q12, Sz12, M12, Hs12, U12⟩ := id Arv13
  have in12 := inb_of (j := (1 : Int32)) Sz12 ⟨(by decide), (by decide)⟩
  have c14 : SS p e below B0 T9 m 20 #[.val (.ref r), .val (.int (1 : Int32)), .val (.int (2 : Int32)), .val (.ref t1), .val (.int (1 : Int32))] [(.int (c1')), (.int (1 : Int32)), (.ref t1)] := Steps.trans c11 (by
      refine X9.caload hx (j := (1 : Int32)) (v := (.int (c1'))) (by rw [e9]; exact Ar12.1) (State.isArrayOf_alike hZ.alike Ar12.2.1) Ar12.2.2 in12 (Hs12.at in12 rfl) (g := (mkF m 19 #[.val (.ref r), .val (.int (1 : Int32)), .val (.int (2 : Int32)), .val (.ref t1), .val (.int (1 : Int32))] [(.int (1 : Int32)), (.ref r), (.int (1 : Int32)), (.ref t1)])) rfl rfl (hb hby d9_19) _ ?_
      exact Steps.refl _)
  have Old15 : Old Z n0 h9 := (Old8.keep Kq9 (allS (by omega) all0))
  obtain ⟨_, _, ⟨T16, Lp16, kp16, np16⟩, -, X16, ⟨Lc16, hQ16, lp16, yp16, zp16⟩, st16⟩ := Jvm.LawKit.callS X9 hx (y := (⟨"java/lang/StringUTF16", "putChar", "([BII)V"⟩ : MethodName)) hown (mvT hZ (W hw 103)) (mvT hZ (W hw 104)) (mvT hZ (W hw 64)) (mvT hZ (W hw 105)) (by decide) (backOf (W := 0) (rmPut2_1 l Z a0 hw [] t1 k1 c1' (.int (nar .byte ((c0' >>> ((0 : Int32) &&& 31)).toInt8.toInt32))) (.int (nar .byte ((c0' >>> ((8 : Int32) &&& 31)).toInt8.toInt32))) (.int (0 : Int32)) (.int (0 : Int32)) h9 n0 (by omega) O7 O8 O9 Old15 av9 (by omega)) hZ (W hw 105) (W hw 64) (by decide) (by decide)) (g := (mkF m 20 #[.val (.ref r), .val (.int (1 : Int32)), .val (.int (2 : Int32)), .val (.ref t1), .val (.int (1 : Int32))] [(.int (c1')), (.int (1 : Int32)), (.ref t1)])) rfl (by rw [hml]; rfl) (argsL := [(.ref t1), (.int (1 : Int32)), (.int (c1'))]) (rest := []) (lenOf pd___BII_V rfl) rfl (by show 2 * 0 + _ ≤ _; exact Nat.le_of_eq rfl) (hb hby d9_20) (fun _ _ => ⟨rfl, e9, (by decide : 1 + 0 ≤ _), (by decide : 4 + 0 ≤ _)⟩)
  dsimp only [Pt.U, Pt.locs, Pt.cells, Pt.slots] at X16 lp16 yp16 zp16 st16 hQ16
  subst lp16 yp16 zp16
  obtain ⟨rfl, Nq16, Kq16, av16⟩ := hQ16
  have N16 := Fr.app N9 Nq16
  obtain ⟨h16, e16⟩ : ∃ z, T16.heap = z := ⟨_, rfl⟩
  rw [e16] at Kq16 av16
  have z16 : h9.size ≤ h16.size := Kq16.1
  have K16 := K9.trans Kq16 (allS (Or.inr (by omega)) all0)
  have c17 : SS p e below B0 T16 m 23 #[.val (.ref r), .val (.int (1 : Int32)), .val (.int (2 : Int32)), .val (.ref t1), .val (.int (1 : Int32))] [] := Steps.trans c14 (st16 _ (Steps.refl _))
  have c18 : SS p e below B0 T16 m 33 #[.val (.ref r), .val (.int (2 : Int32)), .val (.int (2 : Int32)), .val (.ref t1), .val (.int (2 : Int32))] [(.ref t1)] := Steps.trans c17 (by
      refine XT.iincV X16.here hx rfl (1 : Int32) (hb hby d9_23) (by decide) rfl (l' := #[.val (.ref r), .val (.int (2 : Int32)), .val (.int (2 : Int32)), .val (.ref t1), .val (.int (1 : Int32))]) rfl ?_
      refine XT.iincV X16.here hx rfl (1 : Int32) (hb hby d9_26) (by decide) rfl (l' := #[.val (.ref r), .val (.int (2 : Int32)), .val (.int (2 : Int32)), .val (.ref t1), .val (.int (2 : Int32))]) rfl ?_
      refine XS.goto X16.here hx rfl (pc0 := 29) (pc' := 8) rfl (hb hby d9_29) (by decide) (by decide) ?_
      refine XS.iload X16.here hx rfl (hb hby d9_8) rfl ?_
      refine XS.iloadN X16.here hx rfl (hb hby d9_10) rfl ?_
      refine XS.icmpYes X16.here hx rfl (pc0 := 11) (pc' := 32) rfl (hb hby d9_11) rfl (flt (by decide : ¬ (2 : Int32) < (2 : Int32))).2.1 (by decide) (by decide) ?_
      refine XS.aloadN X16.here hx rfl (hb hby d9_32) rfl rfl ?_
      exact Steps.refl _)
  obtain ⟨fs, hr, hrun, hended, hW, hsame⟩ := X16.leave (v := some (.ref t1)) (fun h => by rw [Bd.returns] at h; cases h)
  subst hB0
  refine ⟨_, _, Steps.trans c18 ?_, hrun, hended, _, _, rfl, ?_, ⟨_, rfl⟩, hW, hsame.mono (by decide) (by decide)⟩
  · exact retR X16 hx Bd.returns rfl rfl rfl (hb hby d9_33) hr
  · show QTo2 Z c0' c1' h0 n0 _ T16.heap _
    rw [e16]
    exact ⟨t1, k1, rfl, N16, K16, (by omega), av16⟩
def QGet2_0 (c0' c1' : Int32) (h0 : Heap) (n0 : Nat) (v : Option Value) (h : Heap) (L : List Loc) : Prop := v = some (.int c0') ∧ Fr n0 L ∧ h = h0
set_option maxRecDepth 65536 in
set_option maxHeartbeats 40000000 in
theorem rmGet2_0 (l : Launch) (Z : State) (a0 : Array Value) (hw : ∀ d ∈ tables_1, d.before a0 Z = true) (ws : List Jvm.Cond) (t : Addr) (k : ClassId) (c0' c1' : Int32) (h0 : Heap) (n0 : Nat) (Z0 : n0 ≤ h0.size) (O7 : Sta Z Z.heap "java/lang/StringUTF16" "$assertionsDisabled" "Z" (.int (1 : Int32))) (O8 : Sta Z Z.heap "java/lang/StringUTF16" "HI_BYTE_SHIFT" "I" (.int (0 : Int32))) (O9 : Sta Z Z.heap "java/lang/StringUTF16" "LO_BYTE_SHIFT" "I" (.int (8 : Int32))) (X00 : Old Z n0 h0) (Vt : Arv Z h0 t k .byte (4 : Int32) [(.int (nar .byte ((c0' >>> ((0 : Int32) &&& 31)).toInt8.toInt32))), (.int (nar .byte ((c0' >>> ((8 : Int32) &&& 31)).toInt8.toInt32))), (.int (nar .byte ((c1' >>> ((0 : Int32) &&& 31)).toInt8.toInt32))), (.int (nar .byte ((c1' >>> ((8 : Int32) &&& 31)).toInt8.toInt32)))] (.int (0 : Int32))) (hc : ¬ c0' < 0 ∧ ¬ (65535 : Int32) < c0') :
    MetFree l (⟨"java/lang/StringUTF16", "getChar", "([BI)C"⟩ : MethodName) (head1 (Jvm.Cond.code (⟨"java/lang/StringUTF16", "getChar", "([BI)C"⟩ : MethodName) jdk_52_method_5_code 2 (some .char) :: ws) ({ frames := 0, cells := 0, slots := 0, locals := 0 } : Room)) (fun a U => a = #[(.ref t), (.int (0 : Int32))] ∧ Z.Warmed39 U.vm ∧ U.heap = h0) (fun _ _ _ _ _ => True) (fun _ U o U' => ∃ v L, o = .returned v ∧ QGet2_0 c0' c1' h0 n0 v U'.heap L ∧ FrameEnd U o U' L ({ frames := 0, cells := 0, slots := 0, locals := 0 } : Room).cells ({ frames := 0, cells := 0, slots := 0, locals := 0 } : Room).slots) := by
  refine MetFree.of_bodySF (plainFor_of_name pn_java_lang_StringUTF16) hisR ?_
  intro p e s m args below meth c s₁ Bd hml0 hP hK
  obtain ⟨rfl, hZ, hh⟩ := hP
  have hx := Bd.exec
  have hby := Bd.bytes
  have hml : c.maxLocals = 2 := hml0
  have hown : s.vm.findClass "java/lang/StringUTF16" = some m.cls := findClass_of_methodNamed Bd.named
  have hnm := (name_of_methodNamed Bd.named Bd.method).1
  have X0 : Stand p l e ({ frames := 0, cells := 0, slots := 0, locals := 0 } : Room) s m #[(.ref t), (.int (0 : Int32))] below meth c s₁ [] 0 0 := Stand.of_body Bd
  have e0 : s₁.heap = h0 := by rw [← hh, Bd.state]; rfl
  have N0 := Fr.nil n0
  obtain ⟨B0, c0, hB0⟩ : ∃ B0, Steps p.tables e below B0 (s₁.setTop (mkF m 0 #[.val (.ref t), .val (.int (0 : Int32))] [])) ∧ B0 = s₁.setTop (entryFrame m #[(.ref t), (.int (0 : Int32))] 2) := ⟨_, castTop (ef_RI_2 m t (0 : Int32)) (Steps.refl _), rfl⟩
  obtain ⟨T1, X1, e1, st1⟩ := getS X0 hx hZ (host := "") hown (W hw 106) Via.refl e0 (O7.ext X00.2) (g := (mkF m 0 #[.val (.ref t), .val (.int (0 : Int32))] [])) rfl (hb hby d10_0)
  have c2 : SS p e below B0 T1 m 3 #[.val (.ref t), .val (.int (0 : Int32))] [(.int (1 : Int32))] := Steps.trans c0 (st1 _ (Steps.refl _))
  have c3 : SS p e below B0 T1 m 37 #[.val (.ref t), .val (.int (1 : Int32))] [(.int (0 : Int32)), (.ref t)] := Steps.trans c2 (by
      refine XS.ifYes X1.here hx rfl (pc0 := 3) (pc' := 28) rfl (hb hby d10_3) rfl ((if0 _ _).trans (feq (by decide : ¬ (1 : Int32) = (0 : Int32))).2) (by decide) (by decide) ?_
      refine XS.iloadN X1.here hx rfl (hb hby d10_28) rfl ?_
      refine XT.iconstV X1.here hx rfl (1 : Int32) (hb hby d10_29) (by decide) ?_
      refine XS.ishl X1.here hx rfl (hb hby d10_30) rfl ?_
      refine XS.istoreN X1.here hx rfl (hb hby d10_31) rfl (l' := #[.val (.ref t), .val (.int (0 : Int32))]) rfl ?_
      refine XS.aloadN X1.here hx rfl (hb hby d10_32) rfl rfl ?_
      refine XS.iloadN X1.here hx rfl (hb hby d10_33) rfl ?_
      refine XT.iincV X1.here hx rfl (1 : Int32) (hb hby d10_34) (by decide) rfl (l' := #[.val (.ref t), .val (.int (1 : Int32))]) rfl ?_
      exact Steps.refl _)
  obtain ⟨cl4, Ar4, q4, Sz4, M4, Hs4, U4⟩ := id Vt
  have in4 := inb_of (j := (0 : Int32)) Sz4 ⟨(by decide), (by decide)⟩
  have c5 : SS p e below B0 T1 m 38 #[.val (.ref t), .val (.int (1 : Int32))] [(.int (nar .byte ((c0' >>> ((0 : Int32) &&& 31)).toInt8.toInt32)))] := Steps.trans c3 (by
      refine X1.baloadBytes hx (j := (0 : Int32)) (v := (.int (nar .byte ((c0' >>> ((0 : Int32) &&& 31)).toInt8.toInt32)))) (by rw [e1]; exact Ar4.1) (State.isArrayOf_alike hZ.alike Ar4.2.1) Ar4.2.2 in4 (Hs4.at in4 rfl) (g := (mkF m 37 #[.val (.ref t), .val (.int (1 : Int32))] [(.int (0 : Int32)), (.ref t)])) rfl rfl (hb hby d10_37) _ ?_
      exact Steps.refl _)
  have c6 : SS p e below B0 T1 m 42 #[.val (.ref t), .val (.int (1 : Int32))] [(.int ((nar .byte ((c0' >>> ((0 : Int32) &&& 31)).toInt8.toInt32)) &&& (255 : Int32)))] := Steps.trans c5 (by
      refine XT.sipushV X1.here hx rfl (255 : Int32) (hb hby d10_38) (by decide) ?_
      refine XS.iand X1.here hx rfl (hb hby d10_41) rfl ?_
      exact Steps.refl _)
  obtain ⟨T7, X7, e7, st7⟩ := getS X1 hx hZ (host := "") hown (W hw 107) Via.refl e1 (O8.ext X00.2) (g := (mkF m 42 #[.val (.ref t), .val (.int (1 : Int32))] [(.int ((nar .byte ((c0' >>> ((0 : Int32) &&& 31)).toInt8.toInt32)) &&& (255 : Int32)))])) rfl (hb hby d10_42)
  have c8 : SS p e below B0 T7 m 45 #[.val (.ref t), .val (.int (1 : Int32))] [(.int (0 : Int32)), (.int ((nar .byte ((c0' >>> ((0 : Int32) &&& 31)).toInt8.toInt32)) &&& (255 : Int32)))] := Steps.trans c6 (st7 _ (Steps.refl _))
  have c9 : SS p e below B0 T7 m 48 #[.val (.ref t), .val (.int (1 : Int32))] [(.int (1 : Int32)), (.ref t), (.int (((nar .byte ((c0' >>> ((0 : Int32) &&& 31)).toInt8.toInt32)) &&& (255 : Int32)) <<< ((0 : Int32) &&& 31)))] := Steps.trans c8 (by
      refine XS.ishl X7.here hx rfl (hb hby d10_45) rfl ?_
      refine XS.aloadN X7.here hx rfl (hb hby d10_46) rfl rfl ?_
      refine XS.iloadN X7.here hx rfl (hb hby d10_47) rfl ?_
      exact Steps.refl _)
  obtain ⟨cl10, Ar10, q10, Sz10, M10, Hs10, U10⟩ := id Vt
  have in10 := inb_of (j := (1 : Int32)) Sz10 ⟨(by decide), (by decide)⟩
  have c11 : SS p e below B0 T7 m 49 #[.val (.ref t), .val (.int (1 : Int32))] [(.int (nar .byte ((c0' >>> ((8 : Int32) &&& 31)).toInt8.toInt32))), (.int (((nar .byte ((c0' >>> ((0 : Int32) &&& 31)).toInt8.toInt32)) &&& (255 : Int32)) <<< ((0 : Int32) &&& 31)))] := Steps.trans c9 (by
      refine X7.baloadBytes hx (j := (1 : Int32)) (v := (.int (nar .byte ((c0' >>> ((8 : Int32) &&& 31)).toInt8.toInt32)))) (by rw [e7]; exact Ar10.1) (State.isArrayOf_alike hZ.alike Ar10.2.1) Ar10.2.2 in10 (Hs10.at in10 rfl) (g := (mkF m 48 #[.val (.ref t), .val (.int (1 : Int32))] [(.int (1 : Int32)), (.ref t), (.int (((nar .byte ((c0' >>> ((0 : Int32) &&& 31)).toInt8.toInt32)) &&& (255 : Int32)) <<< ((0 : Int32) &&& 31)))])) rfl rfl (hb hby d10_48) _ ?_
      exact Steps.refl _)
  have c12 : SS p e below B0 T7 m 53 #[.val (.ref t), .val (.int (1 : Int32))] [(.int ((nar .byte ((c0' >>> ((8 : Int32) &&& 31)).toInt8.toInt32)) &&& (255 : Int32))), (.int (((nar .byte ((c0' >>> ((0 : Int32) &&& 31)).toInt8.toInt32)) &&& (255 : Int32)) <<< ((0 : Int32) &&& 31)))] := Steps.trans c11 (by
      refine XT.sipushV X7.here hx rfl (255 : Int32) (hb hby d10_49) (by decide) ?_
      refine XS.iand X7.here hx rfl (hb hby d10_52) rfl ?_
      exact Steps.refl _)
  obtain ⟨T13, X13, e13, st13⟩ := getS X7 hx hZ (host := "") hown (W hw 108) Via.refl e7 (O9.ext X00.2) (g := (mkF m 53 #[.val (.ref t), .val (.int (1 : Int32))] [(.int ((nar .byte ((c0' >>> ((8 : Int32) &&& 31)).toInt8.toInt32)) &&& (255 : Int32))), (.int (((nar .byte ((c0' >>> ((0 : Int32) &&& 31)).toInt8.toInt32)) &&& (255 : Int32)) <<< ((0 : Int32) &&& 31)))])) rfl (hb hby d10_53)
  have c14 : SS p e below B0 T13 m 56 #[.val (.ref t), .val (.int (1 : Int32))] [(.int (8 : Int32)), (.int ((nar .byte ((c0' >>> ((8 : Int32) &&& 31)).toInt8.toInt32)) &&& (255 : Int32))), (.int (((nar .byte ((c0' >>> ((0 : Int32) &&& 31)).toInt8.toInt32)) &&& (255 : Int32)) <<< ((0 : Int32) &&& 31)))] := Steps.trans c12 (st13 _ (Steps.refl _))
  have c15 : SS p e below B0 T13 m 59 #[.val (.ref t), .val (.int (1 : Int32))] [(.int (((((nar .byte ((c0' >>> ((0 : Int32) &&& 31)).toInt8.toInt32)) &&& (255 : Int32)) <<< ((0 : Int32) &&& 31)) ||| (((nar .byte ((c0' >>> ((8 : Int32) &&& 31)).toInt8.toInt32)) &&& (255 : Int32)) <<< ((8 : Int32) &&& 31))).toUInt32.toUInt16.toUInt32.toInt32))] := Steps.trans c14 (by
      refine XS.ishl X13.here hx rfl (hb hby d10_56) rfl ?_
      refine XS.ior X13.here hx rfl (hb hby d10_57) rfl ?_
      refine XS.i2c X13.here hx rfl (hb hby d10_58) rfl ?_
      exact Steps.refl _)
  have hv := own_utf hc.1 hc.2
  obtain ⟨fs, hr, hrun, hended, hW, hsame⟩ := X13.leave (v := some (.int (nar .char (((((nar .byte ((c0' >>> ((0 : Int32) &&& 31)).toInt8.toInt32)) &&& (255 : Int32)) <<< ((0 : Int32) &&& 31)) ||| (((nar .byte ((c0' >>> ((8 : Int32) &&& 31)).toInt8.toInt32)) &&& (255 : Int32)) <<< ((8 : Int32) &&& 31))).toUInt32.toUInt16.toUInt32.toInt32)))) (fun h => by rw [Bd.returns] at h; cases h)
  subst hB0
  refine ⟨_, _, Steps.trans c15 ?_, hrun, hended, _, _, rfl, ?_, ⟨_, rfl⟩, hW, hsame.mono (by decide) (by decide)⟩
  · exact retN X13 hx (t := .char) Bd.returns (by simp) (hb hby d10_59) hr
  · show QGet2_0 c0' c1' h0 n0 _ T13.heap _
    rw [e13]
    exact ⟨congrArg (fun z => some (Value.int z)) hv, N0, rfl⟩
def QGet2_1 (c0' c1' : Int32) (h0 : Heap) (n0 : Nat) (v : Option Value) (h : Heap) (L : List Loc) : Prop := v = some (.int c1') ∧ Fr n0 L ∧ h = h0
set_option maxRecDepth 65536 in
set_option maxHeartbeats 40000000 in
theorem rmGet2_1 (l : Launch) (Z : State) (a0 : Array Value) (hw : ∀ d ∈ tables_1, d.before a0 Z = true) (ws : List Jvm.Cond) (t : Addr) (k : ClassId) (c0' c1' : Int32) (h0 : Heap) (n0 : Nat) (Z0 : n0 ≤ h0.size) (O7 : Sta Z Z.heap "java/lang/StringUTF16" "$assertionsDisabled" "Z" (.int (1 : Int32))) (O8 : Sta Z Z.heap "java/lang/StringUTF16" "HI_BYTE_SHIFT" "I" (.int (0 : Int32))) (O9 : Sta Z Z.heap "java/lang/StringUTF16" "LO_BYTE_SHIFT" "I" (.int (8 : Int32))) (X00 : Old Z n0 h0) (Vt : Arv Z h0 t k .byte (4 : Int32) [(.int (nar .byte ((c0' >>> ((0 : Int32) &&& 31)).toInt8.toInt32))), (.int (nar .byte ((c0' >>> ((8 : Int32) &&& 31)).toInt8.toInt32))), (.int (nar .byte ((c1' >>> ((0 : Int32) &&& 31)).toInt8.toInt32))), (.int (nar .byte ((c1' >>> ((8 : Int32) &&& 31)).toInt8.toInt32)))] (.int (0 : Int32))) (hc : ¬ c1' < 0 ∧ ¬ (65535 : Int32) < c1') :
    MetFree l (⟨"java/lang/StringUTF16", "getChar", "([BI)C"⟩ : MethodName) (head1 (Jvm.Cond.code (⟨"java/lang/StringUTF16", "getChar", "([BI)C"⟩ : MethodName) jdk_52_method_5_code 2 (some .char) :: ws) ({ frames := 0, cells := 0, slots := 0, locals := 0 } : Room)) (fun a U => a = #[(.ref t), (.int (1 : Int32))] ∧ Z.Warmed39 U.vm ∧ U.heap = h0) (fun _ _ _ _ _ => True) (fun _ U o U' => ∃ v L, o = .returned v ∧ QGet2_1 c0' c1' h0 n0 v U'.heap L ∧ FrameEnd U o U' L ({ frames := 0, cells := 0, slots := 0, locals := 0 } : Room).cells ({ frames := 0, cells := 0, slots := 0, locals := 0 } : Room).slots) := by
  refine MetFree.of_bodySF (plainFor_of_name pn_java_lang_StringUTF16) hisR ?_
  intro p e s m args below meth c s₁ Bd hml0 hP hK
  obtain ⟨rfl, hZ, hh⟩ := hP
  have hx := Bd.exec
  have hby := Bd.bytes
  have hml : c.maxLocals = 2 := hml0
  have hown : s.vm.findClass "java/lang/StringUTF16" = some m.cls := findClass_of_methodNamed Bd.named
  have hnm := (name_of_methodNamed Bd.named Bd.method).1
  have X0 : Stand p l e ({ frames := 0, cells := 0, slots := 0, locals := 0 } : Room) s m #[(.ref t), (.int (1 : Int32))] below meth c s₁ [] 0 0 := Stand.of_body Bd
  have e0 : s₁.heap = h0 := by rw [← hh, Bd.state]; rfl
  have N0 := Fr.nil n0
  obtain ⟨B0, c0, hB0⟩ : ∃ B0, Steps p.tables e below B0 (s₁.setTop (mkF m 0 #[.val (.ref t), .val (.int (1 : Int32))] [])) ∧ B0 = s₁.setTop (entryFrame m #[(.ref t), (.int (1 : Int32))] 2) := ⟨_, castTop (ef_RI_2 m t (1 : Int32)) (Steps.refl _), rfl⟩
  obtain ⟨T1, X1, e1, st1⟩ := getS X0 hx hZ (host := "") hown (W hw 106) Via.refl e0 (O7.ext X00.2) (g := (mkF m 0 #[.val (.ref t), .val (.int (1 : Int32))] [])) rfl (hb hby d10_0)
  have c2 : SS p e below B0 T1 m 3 #[.val (.ref t), .val (.int (1 : Int32))] [(.int (1 : Int32))] := Steps.trans c0 (st1 _ (Steps.refl _))
  have c3 : SS p e below B0 T1 m 37 #[.val (.ref t), .val (.int (3 : Int32))] [(.int (2 : Int32)), (.ref t)] := Steps.trans c2 (by
      refine XS.ifYes X1.here hx rfl (pc0 := 3) (pc' := 28) rfl (hb hby d10_3) rfl ((if0 _ _).trans (feq (by decide : ¬ (1 : Int32) = (0 : Int32))).2) (by decide) (by decide) ?_
      refine XS.iloadN X1.here hx rfl (hb hby d10_28) rfl ?_
      refine XT.iconstV X1.here hx rfl (1 : Int32) (hb hby d10_29) (by decide) ?_
      refine XS.ishl X1.here hx rfl (hb hby d10_30) rfl ?_
      refine XS.istoreN X1.here hx rfl (hb hby d10_31) rfl (l' := #[.val (.ref t), .val (.int (2 : Int32))]) rfl ?_
      refine XS.aloadN X1.here hx rfl (hb hby d10_32) rfl rfl ?_
      refine XS.iloadN X1.here hx rfl (hb hby d10_33) rfl ?_
      refine XT.iincV X1.here hx rfl (1 : Int32) (hb hby d10_34) (by decide) rfl (l' := #[.val (.ref t), .val (.int (3 : Int32))]) rfl ?_
      exact Steps.refl _)
  obtain ⟨cl4, Ar4, q4, Sz4, M4, Hs4, U4⟩ := id Vt
  have in4 := inb_of (j := (2 : Int32)) Sz4 ⟨(by decide), (by decide)⟩
  have c5 : SS p e below B0 T1 m 38 #[.val (.ref t), .val (.int (3 : Int32))] [(.int (nar .byte ((c1' >>> ((0 : Int32) &&& 31)).toInt8.toInt32)))] := Steps.trans c3 (by
      refine X1.baloadBytes hx (j := (2 : Int32)) (v := (.int (nar .byte ((c1' >>> ((0 : Int32) &&& 31)).toInt8.toInt32)))) (by rw [e1]; exact Ar4.1) (State.isArrayOf_alike hZ.alike Ar4.2.1) Ar4.2.2 in4 (Hs4.at in4 rfl) (g := (mkF m 37 #[.val (.ref t), .val (.int (3 : Int32))] [(.int (2 : Int32)), (.ref t)])) rfl rfl (hb hby d10_37) _ ?_
      exact Steps.refl _)
  have c6 : SS p e below B0 T1 m 42 #[.val (.ref t), .val (.int (3 : Int32))] [(.int ((nar .byte ((c1' >>> ((0 : Int32) &&& 31)).toInt8.toInt32)) &&& (255 : Int32)))] := Steps.trans c5 (by
      refine XT.sipushV X1.here hx rfl (255 : Int32) (hb hby d10_38) (by decide) ?_
      refine XS.iand X1.here hx rfl (hb hby d10_41) rfl ?_
      exact Steps.refl _)
  obtain ⟨T7, X7, e7, st7⟩ := getS X1 hx hZ (host := "") hown (W hw 107) Via.refl e1 (O8.ext X00.2) (g := (mkF m 42 #[.val (.ref t), .val (.int (3 : Int32))] [(.int ((nar .byte ((c1' >>> ((0 : Int32) &&& 31)).toInt8.toInt32)) &&& (255 : Int32)))])) rfl (hb hby d10_42)
  have c8 : SS p e below B0 T7 m 45 #[.val (.ref t), .val (.int (3 : Int32))] [(.int (0 : Int32)), (.int ((nar .byte ((c1' >>> ((0 : Int32) &&& 31)).toInt8.toInt32)) &&& (255 : Int32)))] := Steps.trans c6 (st7 _ (Steps.refl _))
  have c9 : SS p e below B0 T7 m 48 #[.val (.ref t), .val (.int (3 : Int32))] [(.int (3 : Int32)), (.ref t), (.int (((nar .byte ((c1' >>> ((0 : Int32) &&& 31)).toInt8.toInt32)) &&& (255 : Int32)) <<< ((0 : Int32) &&& 31)))] := Steps.trans c8 (by
      refine XS.ishl X7.here hx rfl (hb hby d10_45) rfl ?_
      refine XS.aloadN X7.here hx rfl (hb hby d10_46) rfl rfl ?_
      refine XS.iloadN X7.here hx rfl (hb hby d10_47) rfl ?_
      exact Steps.refl _)
  obtain ⟨cl10, Ar10, q10, Sz10, M10, Hs10, U10⟩ := id Vt
  have in10 := inb_of (j := (3 : Int32)) Sz10 ⟨(by decide), (by decide)⟩
  have c11 : SS p e below B0 T7 m 49 #[.val (.ref t), .val (.int (3 : Int32))] [(.int (nar .byte ((c1' >>> ((8 : Int32) &&& 31)).toInt8.toInt32))), (.int (((nar .byte ((c1' >>> ((0 : Int32) &&& 31)).toInt8.toInt32)) &&& (255 : Int32)) <<< ((0 : Int32) &&& 31)))] := Steps.trans c9 (by
      refine X7.baloadBytes hx (j := (3 : Int32)) (v := (.int (nar .byte ((c1' >>> ((8 : Int32) &&& 31)).toInt8.toInt32)))) (by rw [e7]; exact Ar10.1) (State.isArrayOf_alike hZ.alike Ar10.2.1) Ar10.2.2 in10 (Hs10.at in10 rfl) (g := (mkF m 48 #[.val (.ref t), .val (.int (3 : Int32))] [(.int (3 : Int32)), (.ref t), (.int (((nar .byte ((c1' >>> ((0 : Int32) &&& 31)).toInt8.toInt32)) &&& (255 : Int32)) <<< ((0 : Int32) &&& 31)))])) rfl rfl (hb hby d10_48) _ ?_
      exact Steps.refl _)
  have c12 : SS p e below B0 T7 m 53 #[.val (.ref t), .val (.int (3 : Int32))] [(.int ((nar .byte ((c1' >>> ((8 : Int32) &&& 31)).toInt8.toInt32)) &&& (255 : Int32))), (.int (((nar .byte ((c1' >>> ((0 : Int32) &&& 31)).toInt8.toInt32)) &&& (255 : Int32)) <<< ((0 : Int32) &&& 31)))] := Steps.trans c11 (by
      refine XT.sipushV X7.here hx rfl (255 : Int32) (hb hby d10_49) (by decide) ?_
      refine XS.iand X7.here hx rfl (hb hby d10_52) rfl ?_
      exact Steps.refl _)
  obtain ⟨T13, X13, e13, st13⟩ := getS X7 hx hZ (host := "") hown (W hw 108) Via.refl e7 (O9.ext X00.2) (g := (mkF m 53 #[.val (.ref t), .val (.int (3 : Int32))] [(.int ((nar .byte ((c1' >>> ((8 : Int32) &&& 31)).toInt8.toInt32)) &&& (255 : Int32))), (.int (((nar .byte ((c1' >>> ((0 : Int32) &&& 31)).toInt8.toInt32)) &&& (255 : Int32)) <<< ((0 : Int32) &&& 31)))])) rfl (hb hby d10_53)
  have c14 : SS p e below B0 T13 m 56 #[.val (.ref t), .val (.int (3 : Int32))] [(.int (8 : Int32)), (.int ((nar .byte ((c1' >>> ((8 : Int32) &&& 31)).toInt8.toInt32)) &&& (255 : Int32))), (.int (((nar .byte ((c1' >>> ((0 : Int32) &&& 31)).toInt8.toInt32)) &&& (255 : Int32)) <<< ((0 : Int32) &&& 31)))] := Steps.trans c12 (st13 _ (Steps.refl _))
  have c15 : SS p e below B0 T13 m 59 #[.val (.ref t), .val (.int (3 : Int32))] [(.int (((((nar .byte ((c1' >>> ((0 : Int32) &&& 31)).toInt8.toInt32)) &&& (255 : Int32)) <<< ((0 : Int32) &&& 31)) ||| (((nar .byte ((c1' >>> ((8 : Int32) &&& 31)).toInt8.toInt32)) &&& (255 : Int32)) <<< ((8 : Int32) &&& 31))).toUInt32.toUInt16.toUInt32.toInt32))] := Steps.trans c14 (by
      refine XS.ishl X13.here hx rfl (hb hby d10_56) rfl ?_
      refine XS.ior X13.here hx rfl (hb hby d10_57) rfl ?_
      refine XS.i2c X13.here hx rfl (hb hby d10_58) rfl ?_
      exact Steps.refl _)
  have hv := own_utf hc.1 hc.2
  obtain ⟨fs, hr, hrun, hended, hW, hsame⟩ := X13.leave (v := some (.int (nar .char (((((nar .byte ((c1' >>> ((0 : Int32) &&& 31)).toInt8.toInt32)) &&& (255 : Int32)) <<< ((0 : Int32) &&& 31)) ||| (((nar .byte ((c1' >>> ((8 : Int32) &&& 31)).toInt8.toInt32)) &&& (255 : Int32)) <<< ((8 : Int32) &&& 31))).toUInt32.toUInt16.toUInt32.toInt32)))) (fun h => by rw [Bd.returns] at h; cases h)
  subst hB0
  refine ⟨_, _, Steps.trans c15 ?_, hrun, hended, _, _, rfl, ?_, ⟨_, rfl⟩, hW, hsame.mono (by decide) (by decide)⟩
  · exact retN X13 hx (t := .char) Bd.returns (by simp) (hb hby d10_59) hr
  · show QGet2_1 c0' c1' h0 n0 _ T13.heap _
    rw [e13]
    exact ⟨congrArg (fun z => some (Value.int z)) hv, N0, rfl⟩
def QC5_2_0 (Z : State) (t : Addr) (kb : ClassId) (c0' c1' : Int32) (h0 : Heap) (n0 : Nat) (v : Option Value) (h : Heap) (L : List Loc) : Prop := v = some (.int (0 : Int32)) ∧ Fr n0 L ∧ Keep h0 h [t]
set_option maxRecDepth 65536 in
set_option maxHeartbeats 40000000 in
theorem rmC5_2_0 (l : Launch) (Z : State) (a0 : Array Value) (hw : ∀ d ∈ tables_1, d.before a0 Z = true) (ws : List Jvm.Cond) (r t : Addr) (kc kb : ClassId) (c0' c1' : Int32) (h0 : Heap) (n0 : Nat) (Z0 : n0 ≤ h0.size) (Vr : Arv Z h0 r kc .char (2 : Int32) [(.int c0'), (.int c1')] (.int (0 : Int32))) (Vt : Arv Z h0 t kb .byte (2 : Int32) [(.int (0 : Int32)), (.int (0 : Int32))] (.int (0 : Int32))) (hrt : (@Ne Nat r t)) (gt : n0 ≤ t)  (hk : (255 : Int32) < c0') :
    MetFree l (⟨"java/lang/StringUTF16", "compress", "([CI[BII)I"⟩ : MethodName) (head1 (Jvm.Cond.code (⟨"java/lang/StringUTF16", "compress", "([CI[BII)I"⟩ : MethodName) jdk_52_method_21_code 7 (some .int) :: ws) ({ frames := 0, cells := 0, slots := 0, locals := 0 } : Room)) (fun a U => a = #[(.ref r), (.int (0 : Int32)), (.ref t), (.int (0 : Int32)), (.int (2 : Int32))] ∧ Z.Warmed39 U.vm ∧ U.heap = h0) (fun _ _ _ _ _ => True) (fun _ U o U' => ∃ v L, o = .returned v ∧ QC5_2_0 Z t kb c0' c1' h0 n0 v U'.heap L ∧ FrameEnd U o U' L ({ frames := 0, cells := 0, slots := 0, locals := 0 } : Room).cells ({ frames := 0, cells := 0, slots := 0, locals := 0 } : Room).slots) := by
  refine MetFree.of_bodySF (plainFor_of_name pn_java_lang_StringUTF16) hisR ?_
  intro p e s m args below meth c s₁ Bd hml0 hP hK
  obtain ⟨rfl, hZ, hh⟩ := hP
  have hx := Bd.exec
  have hby := Bd.bytes
  have hml : c.maxLocals = 7 := hml0
  have hown : s.vm.findClass "java/lang/StringUTF16" = some m.cls := findClass_of_methodNamed Bd.named
  have hnm := (name_of_methodNamed Bd.named Bd.method).1
  have X0 : Stand p l e ({ frames := 0, cells := 0, slots := 0, locals := 0 } : Room) s m #[(.ref r), (.int (0 : Int32)), (.ref t), (.int (0 : Int32)), (.int (2 : Int32))] below meth c s₁ [] 0 0 := Stand.of_body Bd
  have e0 : s₁.heap = h0 := by rw [← hh, Bd.state]; rfl
  have N0 := Fr.nil n0
  obtain ⟨B0, c0, hB0⟩ : ∃ B0, Steps p.tables e below B0 (s₁.setTop (mkF m 0 #[.val (.ref r), .val (.int (0 : Int32)), .val (.ref t), .val (.int (0 : Int32)), .val (.int (2 : Int32)), .unset, .unset] [])) ∧ B0 = s₁.setTop (entryFrame m #[(.ref r), (.int (0 : Int32)), (.ref t), (.int (0 : Int32)), (.int (2 : Int32))] 7) := ⟨_, castTop (ef_RIRII_7 m r (0 : Int32) t (0 : Int32) (2 : Int32)) (Steps.refl _), rfl⟩
  have lt_r : (@LT.lt Nat _ r h0.size) := Vr.lt
  have lt_t : (@LT.lt Nat _ t h0.size) := Vt.lt
  have c1 : SS p e below B0 s₁ m 12 #[.val (.ref r), .val (.int (0 : Int32)), .val (.ref t), .val (.int (0 : Int32)), .val (.int (2 : Int32)), .val (.int (0 : Int32)), .unset] [(.int (0 : Int32)), (.ref r)] := Steps.trans c0 (by
      refine XT.iconstV X0.here hx rfl (0 : Int32) (hb hby d11_0) (by decide) ?_
      refine XS.istore X0.here hx rfl (hb hby d11_1) rfl (l' := #[.val (.ref r), .val (.int (0 : Int32)), .val (.ref t), .val (.int (0 : Int32)), .val (.int (2 : Int32)), .val (.int (0 : Int32)), .unset]) rfl ?_
      refine XS.iload X0.here hx rfl (hb hby d11_3) rfl ?_
      refine XS.iload X0.here hx rfl (hb hby d11_5) rfl ?_
      refine XS.icmpNo X0.here hx rfl (hb hby d11_7) rfl (tlt (by decide : (0 : Int32) < (2 : Int32))).2.1 ?_
      refine XS.aloadN X0.here hx rfl (hb hby d11_10) rfl rfl ?_
      refine XS.iloadN X0.here hx rfl (hb hby d11_11) rfl ?_
      exact Steps.refl _)
  obtain ⟨cl2, Ar2, q2, Sz2, M2, Hs2, U2⟩ := id Vr
  have in2 := inb_of (j := (0 : Int32)) Sz2 ⟨(by decide), (by decide)⟩
  have c3 : SS p e below B0 s₁ m 13 #[.val (.ref r), .val (.int (0 : Int32)), .val (.ref t), .val (.int (0 : Int32)), .val (.int (2 : Int32)), .val (.int (0 : Int32)), .unset] [(.int (c0'))] := Steps.trans c1 (by
      refine X0.caload hx (j := (0 : Int32)) (v := (.int (c0'))) (by rw [e0]; exact Ar2.1) (State.isArrayOf_alike hZ.alike Ar2.2.1) Ar2.2.2 in2 (Hs2.at in2 rfl) (g := (mkF m 12 #[.val (.ref r), .val (.int (0 : Int32)), .val (.ref t), .val (.int (0 : Int32)), .val (.int (2 : Int32)), .val (.int (0 : Int32)), .unset] [(.int (0 : Int32)), (.ref r)])) rfl rfl (hb hby d11_12) _ ?_
      exact Steps.refl _)
  have c4 : SS p e below B0 s₁ m 25 #[.val (.ref r), .val (.int (0 : Int32)), .val (.ref t), .val (.int (0 : Int32)), .val (.int (2 : Int32)), .val (.int (0 : Int32)), .val (.int (c0'))] [(.int (0 : Int32))] := Steps.trans c3 (by
      refine XS.istore X0.here hx rfl (hb hby d11_13) rfl (l' := #[.val (.ref r), .val (.int (0 : Int32)), .val (.ref t), .val (.int (0 : Int32)), .val (.int (2 : Int32)), .val (.int (0 : Int32)), .val (.int (c0'))]) rfl ?_
      refine XS.iload X0.here hx rfl (hb hby d11_15) rfl ?_
      refine XT.sipushV X0.here hx rfl (255 : Int32) (hb hby d11_17) (by decide) ?_
      refine XS.icmpNo X0.here hx rfl (hb hby d11_20) rfl (tlt hk).2.2.2 ?_
      refine XS.iload X0.here hx rfl (hb hby d11_23) rfl ?_
      exact Steps.refl _)
  obtain ⟨fs, hr, hrun, hended, hW, hsame⟩ := X0.leave (v := some (.int (0 : Int32))) (fun h => by rw [Bd.returns] at h; cases h)
  subst hB0
  refine ⟨_, _, Steps.trans c4 ?_, hrun, hended, _, _, rfl, ?_, ⟨_, rfl⟩, hW, hsame.mono (by decide) (by decide)⟩
  · exact retI X0 hx Bd.returns (hb hby d11_25) hr
  · show QC5_2_0 Z t kb c0' c1' h0 n0 _ s₁.heap _
    rw [e0]
    exact ⟨rfl, N0, (Keep.refl _ _)⟩
def QC5_2_1 (Z : State) (t : Addr) (kb : ClassId) (c0' c1' : Int32) (h0 : Heap) (n0 : Nat) (v : Option Value) (h : Heap) (L : List Loc) : Prop := v = some (.int (1 : Int32)) ∧ Fr n0 L ∧ Keep h0 h [t]
set_option maxRecDepth 65536 in
set_option maxHeartbeats 40000000 in
theorem rmC5_2_1 (l : Launch) (Z : State) (a0 : Array Value) (hw : ∀ d ∈ tables_1, d.before a0 Z = true) (ws : List Jvm.Cond) (r t : Addr) (kc kb : ClassId) (c0' c1' : Int32) (h0 : Heap) (n0 : Nat) (Z0 : n0 ≤ h0.size) (Vr : Arv Z h0 r kc .char (2 : Int32) [(.int c0'), (.int c1')] (.int (0 : Int32))) (Vt : Arv Z h0 t kb .byte (2 : Int32) [(.int (0 : Int32)), (.int (0 : Int32))] (.int (0 : Int32))) (hrt : (@Ne Nat r t)) (gt : n0 ≤ t) (hl0 : ¬ (255 : Int32) < c0') (hk : (255 : Int32) < c1') :
    MetFree l (⟨"java/lang/StringUTF16", "compress", "([CI[BII)I"⟩ : MethodName) (head1 (Jvm.Cond.code (⟨"java/lang/StringUTF16", "compress", "([CI[BII)I"⟩ : MethodName) jdk_52_method_21_code 7 (some .int) :: ws) ({ frames := 0, cells := 0, slots := 0, locals := 0 } : Room)) (fun a U => a = #[(.ref r), (.int (0 : Int32)), (.ref t), (.int (0 : Int32)), (.int (2 : Int32))] ∧ Z.Warmed39 U.vm ∧ U.heap = h0) (fun _ _ _ _ _ => True) (fun _ U o U' => ∃ v L, o = .returned v ∧ QC5_2_1 Z t kb c0' c1' h0 n0 v U'.heap L ∧ FrameEnd U o U' L ({ frames := 0, cells := 0, slots := 0, locals := 0 } : Room).cells ({ frames := 0, cells := 0, slots := 0, locals := 0 } : Room).slots) := by
  refine MetFree.of_bodySF (plainFor_of_name pn_java_lang_StringUTF16) hisR ?_
  intro p e s m args below meth c s₁ Bd hml0 hP hK
  obtain ⟨rfl, hZ, hh⟩ := hP
  have hx := Bd.exec
  have hby := Bd.bytes
  have hml : c.maxLocals = 7 := hml0
  have hown : s.vm.findClass "java/lang/StringUTF16" = some m.cls := findClass_of_methodNamed Bd.named
  have hnm := (name_of_methodNamed Bd.named Bd.method).1
  have X0 : Stand p l e ({ frames := 0, cells := 0, slots := 0, locals := 0 } : Room) s m #[(.ref r), (.int (0 : Int32)), (.ref t), (.int (0 : Int32)), (.int (2 : Int32))] below meth c s₁ [] 0 0 := Stand.of_body Bd
  have e0 : s₁.heap = h0 := by rw [← hh, Bd.state]; rfl
  have N0 := Fr.nil n0
  obtain ⟨B0, c0, hB0⟩ : ∃ B0, Steps p.tables e below B0 (s₁.setTop (mkF m 0 #[.val (.ref r), .val (.int (0 : Int32)), .val (.ref t), .val (.int (0 : Int32)), .val (.int (2 : Int32)), .unset, .unset] [])) ∧ B0 = s₁.setTop (entryFrame m #[(.ref r), (.int (0 : Int32)), (.ref t), (.int (0 : Int32)), (.int (2 : Int32))] 7) := ⟨_, castTop (ef_RIRII_7 m r (0 : Int32) t (0 : Int32) (2 : Int32)) (Steps.refl _), rfl⟩
  have lt_r : (@LT.lt Nat _ r h0.size) := Vr.lt
  have lt_t : (@LT.lt Nat _ t h0.size) := Vt.lt
  have c1 : SS p e below B0 s₁ m 12 #[.val (.ref r), .val (.int (0 : Int32)), .val (.ref t), .val (.int (0 : Int32)), .val (.int (2 : Int32)), .val (.int (0 : Int32)), .unset] [(.int (0 : Int32)), (.ref r)] := Steps.trans c0 (by
      refine XT.iconstV X0.here hx rfl (0 : Int32) (hb hby d11_0) (by decide) ?_
      refine XS.istore X0.here hx rfl (hb hby d11_1) rfl (l' := #[.val (.ref r), .val (.int (0 : Int32)), .val (.ref t), .val (.int (0 : Int32)), .val (.int (2 : Int32)), .val (.int (0 : Int32)), .unset]) rfl ?_
      refine XS.iload X0.here hx rfl (hb hby d11_3) rfl ?_
      refine XS.iload X0.here hx rfl (hb hby d11_5) rfl ?_
      refine XS.icmpNo X0.here hx rfl (hb hby d11_7) rfl (tlt (by decide : (0 : Int32) < (2 : Int32))).2.1 ?_
      refine XS.aloadN X0.here hx rfl (hb hby d11_10) rfl rfl ?_
      refine XS.iloadN X0.here hx rfl (hb hby d11_11) rfl ?_
      exact Steps.refl _)
  obtain ⟨cl2, Ar2, q2, Sz2, M2, Hs2, U2⟩ := id Vr
  have in2 := inb_of (j := (0 : Int32)) Sz2 ⟨(by decide), (by decide)⟩
  have c3 : SS p e below B0 s₁ m 13 #[.val (.ref r), .val (.int (0 : Int32)), .val (.ref t), .val (.int (0 : Int32)), .val (.int (2 : Int32)), .val (.int (0 : Int32)), .unset] [(.int (c0'))] := Steps.trans c1 (by
      refine X0.caload hx (j := (0 : Int32)) (v := (.int (c0'))) (by rw [e0]; exact Ar2.1) (State.isArrayOf_alike hZ.alike Ar2.2.1) Ar2.2.2 in2 (Hs2.at in2 rfl) (g := (mkF m 12 #[.val (.ref r), .val (.int (0 : Int32)), .val (.ref t), .val (.int (0 : Int32)), .val (.int (2 : Int32)), .val (.int (0 : Int32)), .unset] [(.int (0 : Int32)), (.ref r)])) rfl rfl (hb hby d11_12) _ ?_
      exact Steps.refl _)
  have c4 : SS p e below B0 s₁ m 31 #[.val (.ref r), .val (.int (0 : Int32)), .val (.ref t), .val (.int (0 : Int32)), .val (.int (2 : Int32)), .val (.int (0 : Int32)), .val (.int (c0'))] [(.int ((c0').toInt8.toInt32)), (.int (0 : Int32)), (.ref t)] := Steps.trans c3 (by
      refine XS.istore X0.here hx rfl (hb hby d11_13) rfl (l' := #[.val (.ref r), .val (.int (0 : Int32)), .val (.ref t), .val (.int (0 : Int32)), .val (.int (2 : Int32)), .val (.int (0 : Int32)), .val (.int (c0'))]) rfl ?_
      refine XS.iload X0.here hx rfl (hb hby d11_15) rfl ?_
      refine XT.sipushV X0.here hx rfl (255 : Int32) (hb hby d11_17) (by decide) ?_
      refine XS.icmpYes X0.here hx rfl (pc0 := 20) (pc' := 26) rfl (hb hby d11_20) rfl (flt hl0).2.2.2 (by decide) (by decide) ?_
      refine XS.aloadN X0.here hx rfl (hb hby d11_26) rfl rfl ?_
      refine XS.iloadN X0.here hx rfl (hb hby d11_27) rfl ?_
      refine XS.iload X0.here hx rfl (hb hby d11_28) rfl ?_
      refine XS.i2b X0.here hx rfl (hb hby d11_30) rfl ?_
      exact Steps.refl _)
  obtain ⟨cl5, Ar5, q5, Sz5, M5, Hs5, U5⟩ := id Vt
  obtain ⟨T5, h5, X5, e5, W5, st5⟩ := stB X0 hx hZ e0 Ar5 (j := (0 : Int32)) (inb_of Sz5 ⟨(by decide), (by decide)⟩) (g := (mkF m 31 #[.val (.ref r), .val (.int (0 : Int32)), .val (.ref t), .val (.int (0 : Int32)), .val (.int (2 : Int32)), .val (.int (0 : Int32)), .val (.int (c0'))] [(.int ((c0').toInt8.toInt32)), (.int (0 : Int32)), (.ref t)])) rfl rfl (hb hby d11_31)
  have N5 := Fr.snoc X5 N0 (by omega)
  have V5 : Arv Z h5 t kb .byte (2 : Int32) [(.int (nar .byte ((c0').toInt8.toInt32))), (.int (0 : Int32))] (.int (0 : Int32)) := Arv.set Ar5 q5 Sz5 M5 Hs5 U5 (fits_nar_byte _) W5 0 rfl (Nat.le_of_ble_eq_true rfl)
  have z5 : h5.size = h0.size := W5.size
  have K5 := (Keep.refl h0 [t]).wr W5 (Or.inl (List.mem_of_getElem? (i := 0) rfl))
  have c6 : SS p e below B0 T5 m 32 #[.val (.ref r), .val (.int (0 : Int32)), .val (.ref t), .val (.int (0 : Int32)), .val (.int (2 : Int32)), .val (.int (0 : Int32)), .val (.int (c0'))] [] := Steps.trans c4 (st5 _ (Steps.refl _))
  have c7 : SS p e below B0 T5 m 12 #[.val (.ref r), .val (.int (1 : Int32)), .val (.ref t), .val (.int (1 : Int32)), .val (.int (2 : Int32)), .val (.int (1 : Int32)), .val (.int (c0'))] [(.int (1 : Int32)), (.ref r)] := Steps.trans c6 (by
      refine XT.iincV X5.here hx rfl (1 : Int32) (hb hby d11_32) (by decide) rfl (l' := #[.val (.ref r), .val (.int (1 : Int32)), .val (.ref t), .val (.int (0 : Int32)), .val (.int (2 : Int32)), .val (.int (0 : Int32)), .val (.int (c0'))]) rfl ?_
      refine XT.iincV X5.here hx rfl (1 : Int32) (hb hby d11_35) (by decide) rfl (l' := #[.val (.ref r), .val (.int (1 : Int32)), .val (.ref t), .val (.int (1 : Int32)), .val (.int (2 : Int32)), .val (.int (0 : Int32)), .val (.int (c0'))]) rfl ?_
      refine XT.iincV X5.here hx rfl (1 : Int32) (hb hby d11_38) (by decide) rfl (l' := #[.val (.ref r), .val (.int (1 : Int32)), .val (.ref t), .val (.int (1 : Int32)), .val (.int (2 : Int32)), .val (.int (1 : Int32)), .val (.int (c0'))]) rfl ?_
      refine XS.goto X5.here hx rfl (pc0 := 41) (pc' := 3) rfl (hb hby d11_41) (by decide) (by decide) ?_
      refine XS.iload X5.here hx rfl (hb hby d11_3) rfl ?_
      refine XS.iload X5.here hx rfl (hb hby d11_5) rfl ?_
      refine XS.icmpNo X5.here hx rfl (hb hby d11_7) rfl (tlt (by decide : (1 : Int32) < (2 : Int32))).2.1 ?_
      refine XS.aloadN X5.here hx rfl (hb hby d11_10) rfl rfl ?_
      refine XS.iloadN X5.here hx rfl (hb hby d11_11) rfl ?_
      exact Steps.refl _)
  have Arv9 : Arv Z h5 r kc .char (2 : Int32) [(.int c0'), (.int c1')] (.int (0 : Int32)) := (Vr.other W5 (own_ne (by omega)))
  obtain ⟨cl8, Ar8, q8, Sz8, M8, Hs8, U8⟩ := id Arv9
  have in8 := inb_of (j := (1 : Int32)) Sz8 ⟨(by decide), (by decide)⟩
  have c10 : SS p e below B0 T5 m 13 #[.val (.ref r), .val (.int (1 : Int32)), .val (.ref t), .val (.int (1 : Int32)), .val (.int (2 : Int32)), .val (.int (1 : Int32)), .val (.int (c0'))] [(.int (c1'))] := Steps.trans c7 (by
      refine X5.caload hx (j := (1 : Int32)) (v := (.int (c1'))) (by rw [e5]; exact Ar8.1) (State.isArrayOf_alike hZ.alike Ar8.2.1) Ar8.2.2 in8 (Hs8.at in8 rfl) (g := (mkF m 12 #[.val (.ref r), .val (.int (1 : Int32)), .val (.ref t), .val (.int (1 : Int32)), .val (.int (2 : Int32)), .val (.int (1 : Int32)), .val (.int (c0'))] [(.int (1 : Int32)), (.ref r)])) rfl rfl (hb hby d11_12) _ ?_
      exact Steps.refl _)
  have c11 : SS p e below B0 T5 m 25 #[.val (.ref r), .val (.int (1 : Int32)), .val (.ref t), .val (.int (1 : Int32)), .val (.int (2 : Int32)), .val (.int (1 : Int32)), .val (.int (c1'))] [(.int (1 : Int32))] := Steps.trans c10 (by
      refine XS.istore X5.here hx rfl (hb hby d11_13) rfl (l' := #[.val (.ref r), .val (.int (1 : Int32)), .val (.ref t), .val (.int (1 : Int32)), .val (.int (2 : Int32)), .val (.int (1 : Int32)), .val (.int (c1'))]) rfl ?_
      refine XS.iload X5.here hx rfl (hb hby d11_15) rfl ?_
      refine XT.sipushV X5.here hx rfl (255 : Int32) (hb hby d11_17) (by decide) ?_
      refine XS.icmpNo X5.here hx rfl (hb hby d11_20) rfl (tlt hk).2.2.2 ?_
      refine XS.iload X5.here hx rfl (hb hby d11_23) rfl ?_
      exact Steps.refl _)
  obtain ⟨fs, hr, hrun, hended, hW, hsame⟩ := X5.leave (v := some (.int (1 : Int32))) (fun h => by rw [Bd.returns] at h; cases h)
  subst hB0
  refine ⟨_, _, Steps.trans c11 ?_, hrun, hended, _, _, rfl, ?_, ⟨_, rfl⟩, hW, hsame.mono (by decide) (by decide)⟩
  · exact retI X5 hx Bd.returns (hb hby d11_25) hr
  · show QC5_2_1 Z t kb c0' c1' h0 n0 _ T5.heap _
    rw [e5]
    exact ⟨rfl, N5, K5⟩
def QC5_2_2 (Z : State) (t : Addr) (kb : ClassId) (c0' c1' : Int32) (h0 : Heap) (n0 : Nat) (v : Option Value) (h : Heap) (L : List Loc) : Prop := v = some (.int (2 : Int32)) ∧ Fr n0 L ∧ Keep h0 h [t] ∧ Arv Z h t kb .byte (2 : Int32) [(.int (nar .byte (c0'.toInt8.toInt32))), (.int (nar .byte (c1'.toInt8.toInt32)))] (.int (0 : Int32))
set_option maxRecDepth 65536 in
set_option maxHeartbeats 40000000 in
theorem rmC5_2_2 (l : Launch) (Z : State) (a0 : Array Value) (hw : ∀ d ∈ tables_1, d.before a0 Z = true) (ws : List Jvm.Cond) (r t : Addr) (kc kb : ClassId) (c0' c1' : Int32) (h0 : Heap) (n0 : Nat) (Z0 : n0 ≤ h0.size) (Vr : Arv Z h0 r kc .char (2 : Int32) [(.int c0'), (.int c1')] (.int (0 : Int32))) (Vt : Arv Z h0 t kb .byte (2 : Int32) [(.int (0 : Int32)), (.int (0 : Int32))] (.int (0 : Int32))) (hrt : (@Ne Nat r t)) (gt : n0 ≤ t) (hl0 : ¬ (255 : Int32) < c0') (hl1 : ¬ (255 : Int32) < c1') :
    MetFree l (⟨"java/lang/StringUTF16", "compress", "([CI[BII)I"⟩ : MethodName) (head1 (Jvm.Cond.code (⟨"java/lang/StringUTF16", "compress", "([CI[BII)I"⟩ : MethodName) jdk_52_method_21_code 7 (some .int) :: ws) ({ frames := 0, cells := 0, slots := 0, locals := 0 } : Room)) (fun a U => a = #[(.ref r), (.int (0 : Int32)), (.ref t), (.int (0 : Int32)), (.int (2 : Int32))] ∧ Z.Warmed39 U.vm ∧ U.heap = h0) (fun _ _ _ _ _ => True) (fun _ U o U' => ∃ v L, o = .returned v ∧ QC5_2_2 Z t kb c0' c1' h0 n0 v U'.heap L ∧ FrameEnd U o U' L ({ frames := 0, cells := 0, slots := 0, locals := 0 } : Room).cells ({ frames := 0, cells := 0, slots := 0, locals := 0 } : Room).slots) := by
  refine MetFree.of_bodySF (plainFor_of_name pn_java_lang_StringUTF16) hisR ?_
  intro p e s m args below meth c s₁ Bd hml0 hP hK
  obtain ⟨rfl, hZ, hh⟩ := hP
  have hx := Bd.exec
  have hby := Bd.bytes
  have hml : c.maxLocals = 7 := hml0
  have hown : s.vm.findClass "java/lang/StringUTF16" = some m.cls := findClass_of_methodNamed Bd.named
  have hnm := (name_of_methodNamed Bd.named Bd.method).1
  have X0 : Stand p l e ({ frames := 0, cells := 0, slots := 0, locals := 0 } : Room) s m #[(.ref r), (.int (0 : Int32)), (.ref t), (.int (0 : Int32)), (.int (2 : Int32))] below meth c s₁ [] 0 0 := Stand.of_body Bd
  have e0 : s₁.heap = h0 := by rw [← hh, Bd.state]; rfl
  have N0 := Fr.nil n0
  obtain ⟨B0, c0, hB0⟩ : ∃ B0, Steps p.tables e below B0 (s₁.setTop (mkF m 0 #[.val (.ref r), .val (.int (0 : Int32)), .val (.ref t), .val (.int (0 : Int32)), .val (.int (2 : Int32)), .unset, .unset] [])) ∧ B0 = s₁.setTop (entryFrame m #[(.ref r), (.int (0 : Int32)), (.ref t), (.int (0 : Int32)), (.int (2 : Int32))] 7) := ⟨_, castTop (ef_RIRII_7 m r (0 : Int32) t (0 : Int32) (2 : Int32)) (Steps.refl _), rfl⟩
  have lt_r : (@LT.lt Nat _ r h0.size) := Vr.lt
  have lt_t : (@LT.lt Nat _ t h0.size) := Vt.lt
  have c1 : SS p e below B0 s₁ m 12 #[.val (.ref r), .val (.int (0 : Int32)), .val (.ref t), .val (.int (0 : Int32)), .val (.int (2 : Int32)), .val (.int (0 : Int32)), .unset] [(.int (0 : Int32)), (.ref r)] := Steps.trans c0 (by
      refine XT.iconstV X0.here hx rfl (0 : Int32) (hb hby d11_0) (by decide) ?_
      refine XS.istore X0.here hx rfl (hb hby d11_1) rfl (l' := #[.val (.ref r), .val (.int (0 : Int32)), .val (.ref t), .val (.int (0 : Int32)), .val (.int (2 : Int32)), .val (.int (0 : Int32)), .unset]) rfl ?_
      refine XS.iload X0.here hx rfl (hb hby d11_3) rfl ?_
      refine XS.iload X0.here hx rfl (hb hby d11_5) rfl ?_
      refine XS.icmpNo X0.here hx rfl (hb hby d11_7) rfl (tlt (by decide : (0 : Int32) < (2 : Int32))).2.1 ?_
      refine XS.aloadN X0.here hx rfl (hb hby d11_10) rfl rfl ?_
      refine XS.iloadN X0.here hx rfl (hb hby d11_11) rfl ?_
      exact Steps.refl _)
  obtain ⟨cl2, Ar2, q2, Sz2, M2, Hs2, U2⟩ := id Vr
  have in2 := inb_of (j := (0 : Int32)) Sz2 ⟨(by decide), (by decide)⟩
  have c3 : SS p e below B0 s₁ m 13 #[.val (.ref r), .val (.int (0 : Int32)), .val (.ref t), .val (.int (0 : Int32)), .val (.int (2 : Int32)), .val (.int (0 : Int32)), .unset] [(.int (c0'))] := Steps.trans c1 (by
      refine X0.caload hx (j := (0 : Int32)) (v := (.int (c0'))) (by rw [e0]; exact Ar2.1) (State.isArrayOf_alike hZ.alike Ar2.2.1) Ar2.2.2 in2 (Hs2.at in2 rfl) (g := (mkF m 12 #[.val (.ref r), .val (.int (0 : Int32)), .val (.ref t), .val (.int (0 : Int32)), .val (.int (2 : Int32)), .val (.int (0 : Int32)), .unset] [(.int (0 : Int32)), (.ref r)])) rfl rfl (hb hby d11_12) _ ?_
      exact Steps.refl _)
  have c4 : SS p e below B0 s₁ m 31 #[.val (.ref r), .val (.int (0 : Int32)), .val (.ref t), .val (.int (0 : Int32)), .val (.int (2 : Int32)), .val (.int (0 : Int32)), .val (.int (c0'))] [(.int ((c0').toInt8.toInt32)), (.int (0 : Int32)), (.ref t)] := Steps.trans c3 (by
      refine XS.istore X0.here hx rfl (hb hby d11_13) rfl (l' := #[.val (.ref r), .val (.int (0 : Int32)), .val (.ref t), .val (.int (0 : Int32)), .val (.int (2 : Int32)), .val (.int (0 : Int32)), .val (.int (c0'))]) rfl ?_
      refine XS.iload X0.here hx rfl (hb hby d11_15) rfl ?_
      refine XT.sipushV X0.here hx rfl (255 : Int32) (hb hby d11_17) (by decide) ?_
      refine XS.icmpYes X0.here hx rfl (pc0 := 20) (pc' := 26) rfl (hb hby d11_20) rfl (flt hl0).2.2.2 (by decide) (by decide) ?_
      refine XS.aloadN X0.here hx rfl (hb hby d11_26) rfl rfl ?_
      refine XS.iloadN X0.here hx rfl (hb hby d11_27) rfl ?_
      refine XS.iload X0.here hx rfl (hb hby d11_28) rfl ?_
      refine XS.i2b X0.here hx rfl (hb hby d11_30) rfl ?_
      exact Steps.refl _)
  obtain ⟨cl5, Ar5, q5, Sz5, M5, Hs5, U5⟩ := id Vt
  obtain ⟨T5, h5, X5, e5, W5, st5⟩ := stB X0 hx hZ e0 Ar5 (j := (0 : Int32)) (inb_of Sz5 ⟨(by decide), (by decide)⟩) (g := (mkF m 31 #[.val (.ref r), .val (.int (0 : Int32)), .val (.ref t), .val (.int (0 : Int32)), .val (.int (2 : Int32)), .val (.int (0 : Int32)), .val (.int (c0'))] [(.int ((c0').toInt8.toInt32)), (.int (0 : Int32)), (.ref t)])) rfl rfl (hb hby d11_31)
  have N5 := Fr.snoc X5 N0 (by omega)
  have V5 : Arv Z h5 t kb .byte (2 : Int32) [(.int (nar .byte ((c0').toInt8.toInt32))), (.int (0 : Int32))] (.int (0 : Int32)) := Arv.set Ar5 q5 Sz5 M5 Hs5 U5 (fits_nar_byte _) W5 0 rfl (Nat.le_of_ble_eq_true rfl)
  have z5 : h5.size = h0.size := W5.size
  have K5 := (Keep.refl h0 [t]).wr W5 (Or.inl (List.mem_of_getElem? (i := 0) rfl))
  have c6 : SS p e below B0 T5 m 32 #[.val (.ref r), .val (.int (0 : Int32)), .val (.ref t), .val (.int (0 : Int32)), .val (.int (2 : Int32)), .val (.int (0 : Int32)), .val (.int (c0'))] [] := Steps.trans c4 (st5 _ (Steps.refl _))
  have c7 : SS p e below B0 T5 m 12 #[.val (.ref r), .val (.int (1 : Int32)), .val (.ref t), .val (.int (1 : Int32)), .val (.int (2 : Int32)), .val (.int (1 : Int32)), .val (.int (c0'))] [(.int (1 : Int32)), (.ref r)] := Steps.trans c6 (by
      refine XT.iincV X5.here hx rfl (1 : Int32) (hb hby d11_32) (by decide) rfl (l' := #[.val (.ref r), .val (.int (1 : Int32)), .val (.ref t), .val (.int (0 : Int32)), .val (.int (2 : Int32)), .val (.int (0 : Int32)), .val (.int (c0'))]) rfl ?_
      refine XT.iincV X5.here hx rfl (1 : Int32) (hb hby d11_35) (by decide) rfl (l' := #[.val (.ref r), .val (.int (1 : Int32)), .val (.ref t), .val (.int (1 : Int32)), .val (.int (2 : Int32)), .val (.int (0 : Int32)), .val (.int (c0'))]) rfl ?_
      refine XT.iincV X5.here hx rfl (1 : Int32) (hb hby d11_38) (by decide) rfl (l' := #[.val (.ref r), .val (.int (1 : Int32)), .val (.ref t), .val (.int (1 : Int32)), .val (.int (2 : Int32)), .val (.int (1 : Int32)), .val (.int (c0'))]) rfl ?_
      refine XS.goto X5.here hx rfl (pc0 := 41) (pc' := 3) rfl (hb hby d11_41) (by decide) (by decide) ?_
      refine XS.iload X5.here hx rfl (hb hby d11_3) rfl ?_
      refine XS.iload X5.here hx rfl (hb hby d11_5) rfl ?_
      refine XS.icmpNo X5.here hx rfl (hb hby d11_7) rfl (tlt (by decide : (1 : Int32) < (2 : Int32))).2.1 ?_
      refine XS.aloadN X5.here hx rfl (hb hby d11_10) rfl rfl ?_
      refine XS.iloadN X5.here hx rfl (hb hby d11_11) rfl ?_
      exact Steps.refl _)
  have Arv9 : Arv Z h5 r kc .char (2 : Int32) [(.int c0'), (.int c1')] (.int (0 : Int32)) := (Vr.other W5 (own_ne (by omega)))
  obtain ⟨cl8, Ar8, q8, Sz8, M8, Hs8, U8⟩ := id Arv9
  have in8 := inb_of (j := (1 : Int32)) Sz8 ⟨(by decide), (by decide)⟩
  have c10 : SS p e below B0 T5 m 13 #[.val (.ref r), .val (.int (1 : Int32)), .val (.ref t), .val (.int (1 : Int32)), .val (.int (2 : Int32)), .val (.int (1 : Int32)), .val (.int (c0'))] [(.int (c1'))] := Steps.trans c7 (by
      refine X5.caload hx (j := (1 : Int32)) (v := (.int (c1'))) (by rw [e5]; exact Ar8.1) (State.isArrayOf_alike hZ.alike Ar8.2.1) Ar8.2.2 in8 (Hs8.at in8 rfl) (g := (mkF m 12 #[.val (.ref r), .val (.int (1 : Int32)), .val (.ref t), .val (.int (1 : Int32)), .val (.int (2 : Int32)), .val (.int (1 : Int32)), .val (.int (c0'))] [(.int (1 : Int32)), (.ref r)])) rfl rfl (hb hby d11_12) _ ?_
      exact Steps.refl _)
  have c11 : SS p e below B0 T5 m 31 #[.val (.ref r), .val (.int (1 : Int32)), .val (.ref t), .val (.int (1 : Int32)), .val (.int (2 : Int32)), .val (.int (1 : Int32)), .val (.int (c1'))] [(.int ((c1').toInt8.toInt32)), (.int (1 : Int32)), (.ref t)] := Steps.trans c10 (by
      refine XS.istore X5.here hx rfl (hb hby d11_13) rfl (l' := #[.val (.ref r), .val (.int (1 : Int32)), .val (.ref t), .val (.int (1 : Int32)), .val (.int (2 : Int32)), .val (.int (1 : Int32)), .val (.int (c1'))]) rfl ?_
      refine XS.iload X5.here hx rfl (hb hby d11_15) rfl ?_
      refine XT.sipushV X5.here hx rfl (255 : Int32) (hb hby d11_17) (by decide) ?_
      refine XS.icmpYes X5.here hx rfl (pc0 := 20) (pc' := 26) rfl (hb hby d11_20) rfl (flt hl1).2.2.2 (by decide) (by decide) ?_
      refine XS.aloadN X5.here hx rfl (hb hby d11_26) rfl rfl ?_
      refine XS.iloadN X5.here hx rfl (hb hby d11_27) rfl ?_
      refine XS.iload X5.here hx rfl (hb hby d11_28) rfl ?_
      refine XS.i2b X5.here hx rfl (hb hby d11_30) rfl ?_
      exact Steps.refl _)
  obtain ⟨cl12, Ar12, q12, Sz12, M12, Hs12, U12⟩ := id V5
  obtain ⟨T12, h12, X12, e12, W12, st12⟩ := stB X5 hx hZ e5 Ar12 (j := (1 : Int32)) (inb_of Sz12 ⟨(by decide), (by decide)⟩) (g := (mkF m 31 #[.val (.ref r), .val (.int (1 : Int32)), .val (.ref t), .val (.int (1 : Int32)), .val (.int (2 : Int32)), .val (.int (1 : Int32)), .val (.int (c1'))] [(.int ((c1').toInt8.toInt32)), (.int (1 : Int32)), (.ref t)])) rfl rfl (hb hby d11_31)
  have N12 := Fr.snoc X12 N5 (by omega)
  have V12 : Arv Z h12 t kb .byte (2 : Int32) [(.int (nar .byte ((c0').toInt8.toInt32))), (.int (nar .byte ((c1').toInt8.toInt32)))] (.int (0 : Int32)) := Arv.set Ar12 q12 Sz12 M12 Hs12 U12 (fits_nar_byte _) W12 1 rfl (Nat.le_of_ble_eq_true rfl)
  have z12 : h12.size = h5.size := W12.size
  have K12 := K5.wr W12 (Or.inl (List.mem_of_getElem? (i := 0) rfl))
  have c13 : SS p e below B0 T12 m 32 #[.val (.ref r), .val (.int (1 : Int32)), .val (.ref t), .val (.int (1 : Int32)), .val (.int (2 : Int32)), .val (.int (1 : Int32)), .val (.int (c1'))] [] := Steps.trans c11 (st12 _ (Steps.refl _))
  have c14 : SS p e below B0 T12 m 46 #[.val (.ref r), .val (.int (2 : Int32)), .val (.ref t), .val (.int (2 : Int32)), .val (.int (2 : Int32)), .val (.int (2 : Int32)), .val (.int (c1'))] [(.int (2 : Int32))] := Steps.trans c13 (by
      refine XT.iincV X12.here hx rfl (1 : Int32) (hb hby d11_32) (by decide) rfl (l' := #[.val (.ref r), .val (.int (2 : Int32)), .val (.ref t), .val (.int (1 : Int32)), .val (.int (2 : Int32)), .val (.int (1 : Int32)), .val (.int (c1'))]) rfl ?_
      refine XT.iincV X12.here hx rfl (1 : Int32) (hb hby d11_35) (by decide) rfl (l' := #[.val (.ref r), .val (.int (2 : Int32)), .val (.ref t), .val (.int (2 : Int32)), .val (.int (2 : Int32)), .val (.int (1 : Int32)), .val (.int (c1'))]) rfl ?_
      refine XT.iincV X12.here hx rfl (1 : Int32) (hb hby d11_38) (by decide) rfl (l' := #[.val (.ref r), .val (.int (2 : Int32)), .val (.ref t), .val (.int (2 : Int32)), .val (.int (2 : Int32)), .val (.int (2 : Int32)), .val (.int (c1'))]) rfl ?_
      refine XS.goto X12.here hx rfl (pc0 := 41) (pc' := 3) rfl (hb hby d11_41) (by decide) (by decide) ?_
      refine XS.iload X12.here hx rfl (hb hby d11_3) rfl ?_
      refine XS.iload X12.here hx rfl (hb hby d11_5) rfl ?_
      refine XS.icmpYes X12.here hx rfl (pc0 := 7) (pc' := 44) rfl (hb hby d11_7) rfl (flt (by decide : ¬ (2 : Int32) < (2 : Int32))).2.1 (by decide) (by decide) ?_
      refine XS.iload X12.here hx rfl (hb hby d11_44) rfl ?_
      exact Steps.refl _)
  obtain ⟨fs, hr, hrun, hended, hW, hsame⟩ := X12.leave (v := some (.int (2 : Int32))) (fun h => by rw [Bd.returns] at h; cases h)
  subst hB0
  refine ⟨_, _, Steps.trans c14 ?_, hrun, hended, _, _, rfl, ?_, ⟨_, rfl⟩, hW, hsame.mono (by decide) (by decide)⟩
  · exact retI X12 hx Bd.returns (hb hby d11_46) hr
  · show QC5_2_2 Z t kb c0' c1' h0 n0 _ T12.heap _
    rw [e12]
    exact ⟨rfl, N12, K12, V12⟩
def Spl2 (c0' c1' cd N : Int32) (vs : List Value) : Prop := ((cd = (0 : Int32) ∧ N = (2 : Int32) ∧ vs = [(.int (nar .byte (c0'.toInt8.toInt32))), (.int (nar .byte (c1'.toInt8.toInt32)))] ∧ ¬ (255 : Int32) < c0' ∧ ¬ (255 : Int32) < c1') ∨ (cd = (1 : Int32) ∧ N = (4 : Int32) ∧ vs = [(.int (nar .byte ((c0' >>> ((0 : Int32) &&& 31)).toInt8.toInt32))), (.int (nar .byte ((c0' >>> ((8 : Int32) &&& 31)).toInt8.toInt32))), (.int (nar .byte ((c1' >>> ((0 : Int32) &&& 31)).toInt8.toInt32))), (.int (nar .byte ((c1' >>> ((8 : Int32) &&& 31)).toInt8.toInt32)))]))
def QC3_2 (Z : State) (c0' c1' : Int32) (h0 : Heap) (n0 : Nat) (v : Option Value) (h : Heap) (L : List Loc) : Prop := ∃ (t : Addr) (k : ClassId) (cd N : Int32) (vs : List Value), v = some (.ref t) ∧ Fr n0 L ∧ Keep h0 h [] ∧ h0.size ≤ t ∧ Arv Z h t k .byte N vs (.int (0 : Int32)) ∧ Spl2 c0' c1' cd N vs
set_option maxRecDepth 65536 in
set_option maxHeartbeats 40000000 in
theorem rmC3_2 (l : Launch) (Z : State) (a0 : Array Value) (hw : ∀ d ∈ tables_1, d.before a0 Z = true) (ws : List Jvm.Cond) (r : Addr) (kc : ClassId) (c0' c1' : Int32) (h0 : Heap) (n0 : Nat) (Z0 : n0 ≤ h0.size) (O7 : Sta Z Z.heap "java/lang/StringUTF16" "$assertionsDisabled" "Z" (.int (1 : Int32))) (O8 : Sta Z Z.heap "java/lang/StringUTF16" "HI_BYTE_SHIFT" "I" (.int (0 : Int32))) (O9 : Sta Z Z.heap "java/lang/StringUTF16" "LO_BYTE_SHIFT" "I" (.int (8 : Int32))) (X00 : Old Z n0 h0) (Vr : Arv Z h0 r kc .char (2 : Int32) [(.int c0'), (.int c1')] (.int (0 : Int32))) (hc0 : ¬ c0' < 0 ∧ ¬ (65535 : Int32) < c0') (hc1 : ¬ c1' < 0 ∧ ¬ (65535 : Int32) < c1') :
    MetFree l (⟨"java/lang/StringUTF16", "compress", "([CII)[B"⟩ : MethodName) (head1 (Jvm.Cond.code (⟨"java/lang/StringUTF16", "compress", "([CII)[B"⟩ : MethodName) jdk_52_method_16_code 6 (some (.array .byte)) :: ws) ({ frames := 3, cells := 2, slots := 6, locals := 40 } : Room)) (fun a U => a = #[(.ref r), (.int (0 : Int32)), (.int (2 : Int32))] ∧ Z.Warmed39 U.vm ∧ U.heap = h0) (fun _ _ _ _ _ => True) (fun _ U o U' => ∃ v L, o = .returned v ∧ QC3_2 Z c0' c1' h0 n0 v U'.heap L ∧ FrameEnd U o U' L ({ frames := 3, cells := 2, slots := 6, locals := 40 } : Room).cells ({ frames := 3, cells := 2, slots := 6, locals := 40 } : Room).slots) := by
  refine MetFree.of_bodySF (plainFor_of_name pn_java_lang_StringUTF16) hisR ?_
  intro p e s m args below meth c s₁ Bd hml0 hP hK
  obtain ⟨rfl, hZ, hh⟩ := hP
  have hx := Bd.exec
  have hby := Bd.bytes
  have hml : c.maxLocals = 6 := hml0
  have hown : s.vm.findClass "java/lang/StringUTF16" = some m.cls := findClass_of_methodNamed Bd.named
  have hnm := (name_of_methodNamed Bd.named Bd.method).1
  have X0 : Stand p l e ({ frames := 3, cells := 2, slots := 6, locals := 40 } : Room) s m #[(.ref r), (.int (0 : Int32)), (.int (2 : Int32))] below meth c s₁ [] 0 0 := Stand.of_body Bd
  have e0 : s₁.heap = h0 := by rw [← hh, Bd.state]; rfl
  have N0 := Fr.nil n0
  obtain ⟨B0, c0, hB0⟩ : ∃ B0, Steps p.tables e below B0 (s₁.setTop (mkF m 0 #[.val (.ref r), .val (.int (0 : Int32)), .val (.int (2 : Int32)), .unset, .unset, .unset] [])) ∧ B0 = s₁.setTop (entryFrame m #[(.ref r), (.int (0 : Int32)), (.int (2 : Int32))] 6) := ⟨_, castTop (ef_RII_6 m r (0 : Int32) (2 : Int32)) (Steps.refl _), rfl⟩
  have lt_r : (@LT.lt Nat _ r h0.size) := Vr.lt
  have c1 : SS p e below B0 s₁ m 1 #[.val (.ref r), .val (.int (0 : Int32)), .val (.int (2 : Int32)), .unset, .unset, .unset] [(.int (2 : Int32))] := Steps.trans c0 (by
      refine XS.iloadN X0.here hx rfl (hb hby d12_0) rfl ?_
      exact Steps.refl _)
  obtain ⟨T2, h2, k0, X2, e2, E2, A2, st2⟩ := newP X0 hx hZ (W hw 20) e0 (g := (mkF m 1 #[.val (.ref r), .val (.int (0 : Int32)), .val (.int (2 : Int32)), .unset, .unset, .unset] [(.int (2 : Int32))])) rfl (hb hby d12_1) rfl (by decide : ¬ ((2 : Int32) < (0 : Int32))) (cap := 2) (by decide : (2 : Int32).toNatClampNeg ≤ 2) (by decide) (by decide) (by decide)
  obtain ⟨t0, g2⟩ : ∃ z, z = h0.size := ⟨_, rfl⟩
  rw [← g2] at A2 st2
  have z2 : h0.size ≤ h2.size := E2.1
  have l2 : (@LT.lt Nat _ t0 h2.size) := A2.lt
  have K2 := (Keep.refl h0 []).ext E2
  have V2 : Arv Z h2 t0 k0 .byte (2 : Int32) [(.int (0 : Int32)), (.int (0 : Int32))] (.int (0 : Int32)) := (Arv.new A2 (by decide)).pad (pad_rep [] (.int (0 : Int32)) 2)
  have c3 : SS p e below B0 T2 m 3 #[.val (.ref r), .val (.int (0 : Int32)), .val (.int (2 : Int32)), .unset, .unset, .unset] [(.ref t0)] := Steps.trans c1 (st2 _ (Steps.refl _))
  have c4 : SS p e below B0 T2 m 9 #[.val (.ref r), .val (.int (0 : Int32)), .val (.int (2 : Int32)), .val (.ref t0), .unset, .unset] [(.int (2 : Int32)), (.int (0 : Int32)), (.ref t0), (.int (0 : Int32)), (.ref r)] := Steps.trans c3 (by
      refine XS.astoreN X2.here hx rfl (hb hby d12_3) rfl rfl (l' := #[.val (.ref r), .val (.int (0 : Int32)), .val (.int (2 : Int32)), .val (.ref t0), .unset, .unset]) rfl ?_
      refine XS.aloadN X2.here hx rfl (hb hby d12_4) rfl rfl ?_
      refine XS.iloadN X2.here hx rfl (hb hby d12_5) rfl ?_
      refine XS.aloadN X2.here hx rfl (hb hby d12_6) rfl rfl ?_
      refine XT.iconstV X2.here hx rfl (0 : Int32) (hb hby d12_7) (by decide) ?_
      refine XS.iloadN X2.here hx rfl (hb hby d12_8) rfl ?_
      exact Steps.refl _)
  by_cases h0_ : (255 : Int32) < c0'
  · have hk := h0_
    have Arv5 : Arv Z h2 r kc .char (2 : Int32) [(.int c0'), (.int c1')] (.int (0 : Int32)) := (Vr.ext E2)
    obtain ⟨_, _, ⟨T6, Lp6, kp6, np6⟩, -, X6, ⟨Lc6, hQ6, lp6, yp6, zp6⟩, st6⟩ := Jvm.LawKit.callS X2 hx (y := (⟨"java/lang/StringUTF16", "compress", "([CI[BII)I"⟩ : MethodName)) hown (mvT hZ (W hw 66)) (mvT hZ (W hw 67)) (mvT hZ (W hw 64)) (mvT hZ (W hw 68)) (by decide) (backOf (W := 0) (rmC5_2_0 l Z a0 hw [] r t0 kc k0 c0' c1' h2 n0 (by omega) Arv5 V2 (by omega) (by omega)  hk) hZ (W hw 68) (W hw 64) (by decide) (by decide)) (g := (mkF m 9 #[.val (.ref r), .val (.int (0 : Int32)), .val (.int (2 : Int32)), .val (.ref t0), .unset, .unset] [(.int (2 : Int32)), (.int (0 : Int32)), (.ref t0), (.int (0 : Int32)), (.ref r)])) rfl (by rw [hml]; rfl) (argsL := [(.ref r), (.int (0 : Int32)), (.ref t0), (.int (0 : Int32)), (.int (2 : Int32))]) (rest := []) (lenOf pd___CI_BII_I rfl) rfl (by show 2 * 0 + _ ≤ _; exact Nat.le_of_eq rfl) (hb hby d12_9) (fun _ _ => ⟨rfl, e2, (by decide : 1 + 0 ≤ _), (by decide : 2 + 0 ≤ _)⟩)
    dsimp only [Pt.U, Pt.locs, Pt.cells, Pt.slots] at X6 lp6 yp6 zp6 st6 hQ6
    subst lp6 yp6 zp6
    obtain ⟨rfl, Nq6, Kq6⟩ := hQ6
    have N6 := Fr.app N0 Nq6
    obtain ⟨h6, e6⟩ : ∃ z, T6.heap = z := ⟨_, rfl⟩
    rw [e6] at Kq6
    have z6 : h2.size ≤ h6.size := Kq6.1
    have K6 := K2.trans Kq6 (allS (Or.inr (by omega)) all0)
    have c7 : SS p e below B0 T6 m 12 #[.val (.ref r), .val (.int (0 : Int32)), .val (.int (2 : Int32)), .val (.ref t0), .unset, .unset] [(.int (0 : Int32))] := Steps.trans c4 (st6 _ (Steps.refl _))
    have c8 : SS p e below B0 T6 m 23 #[.val (.ref r), .val (.int (0 : Int32)), .val (.int (2 : Int32)), .val (.ref t0), .val (.int (0 : Int32)), .unset] [(.int (2 : Int32)), (.int (0 : Int32)), (.ref r)] := Steps.trans c7 (by
        refine XS.istore X6.here hx rfl (hb hby d12_12) rfl (l' := #[.val (.ref r), .val (.int (0 : Int32)), .val (.int (2 : Int32)), .val (.ref t0), .val (.int (0 : Int32)), .unset]) rfl ?_
        refine XS.iload X6.here hx rfl (hb hby d12_14) rfl ?_
        refine XS.iloadN X6.here hx rfl (hb hby d12_16) rfl ?_
        refine XS.icmpNo X6.here hx rfl (hb hby d12_17) rfl (feq (by decide : ¬ (0 : Int32) = (2 : Int32))).1 ?_
        refine XS.aloadN X6.here hx rfl (hb hby d12_20) rfl rfl ?_
        refine XS.iloadN X6.here hx rfl (hb hby d12_21) rfl ?_
        refine XS.iloadN X6.here hx rfl (hb hby d12_22) rfl ?_
        exact Steps.refl _)
    have Arv9 : Arv Z h6 r kc .char (2 : Int32) [(.int c0'), (.int c1')] (.int (0 : Int32)) := (Arv5.keep Kq6 (ninS (own_ne (by omega)) nin0))
    have Old10 : Old Z n0 h6 := ((X00.ext E2).keep Kq6 (allS (by omega) all0))
    obtain ⟨_, _, ⟨T11, Lp11, kp11, np11⟩, -, X11, ⟨Lc11, hQ11, lp11, yp11, zp11⟩, st11⟩ := Jvm.LawKit.callS X6 hx (y := (⟨"java/lang/StringUTF16", "toBytes", "([CII)[B"⟩ : MethodName)) hown (mvT hZ (W hw 93)) (mvT hZ (W hw 94)) (mvT hZ (W hw 64)) (mvT hZ (W hw 95)) (by decide) (backOf (W := 0) (rmTo2 l Z a0 hw [] r kc c0' c1' h6 n0 (by omega) O7 O8 O9 Old10 Arv9) hZ (W hw 95) (W hw 64) (by decide) (by decide)) (g := (mkF m 23 #[.val (.ref r), .val (.int (0 : Int32)), .val (.int (2 : Int32)), .val (.ref t0), .val (.int (0 : Int32)), .unset] [(.int (2 : Int32)), (.int (0 : Int32)), (.ref r)])) rfl (by rw [hml]; rfl) (argsL := [(.ref r), (.int (0 : Int32)), (.int (2 : Int32))]) (rest := []) (lenOf pd___CII__B rfl) rfl (by show 2 * 0 + _ ≤ _; exact Nat.le_of_eq rfl) (hb hby d12_23) (fun _ _ => ⟨rfl, e6, (by decide : 1 + 1 ≤ _), (by decide : 2 + 4 ≤ _)⟩)
    dsimp only [Pt.U, Pt.locs, Pt.cells, Pt.slots] at X11 lp11 yp11 zp11 st11 hQ11
    subst lp11 yp11 zp11
    obtain ⟨t1, k1, rfl, Nq11, Kq11, g11, av11⟩ := hQ11
    have N11 := Fr.app N6 Nq11
    obtain ⟨h11, e11⟩ : ∃ z, T11.heap = z := ⟨_, rfl⟩
    rw [e11] at Kq11 av11
    have z11 : h6.size ≤ h11.size := Kq11.1
    have K11 := K6.trans Kq11 all0
    have c12 : SS p e below B0 T11 m 26 #[.val (.ref r), .val (.int (0 : Int32)), .val (.int (2 : Int32)), .val (.ref t0), .val (.int (0 : Int32)), .unset] [(.ref t1)] := Steps.trans c8 (st11 _ (Steps.refl _))
    have lt_t1 : (@LT.lt Nat _ t1 h11.size) := av11.lt
    have c13 : SS p e below B0 T11 m 32 #[.val (.ref r), .val (.int (0 : Int32)), .val (.int (2 : Int32)), .val (.ref t0), .val (.int (0 : Int32)), .val (.ref t1)] [(.int (0 : Int32)), (.ref t1)] := Steps.trans c12 (by
        refine XS.astore X11.here hx rfl (hb hby d12_26) rfl rfl (l' := #[.val (.ref r), .val (.int (0 : Int32)), .val (.int (2 : Int32)), .val (.ref t0), .val (.int (0 : Int32)), .val (.ref t1)]) rfl ?_
        refine XS.aload X11.here hx rfl (hb hby d12_28) rfl rfl ?_
        refine XS.iload X11.here hx rfl (hb hby d12_30) rfl ?_
        exact Steps.refl _)
    have Old14 : Old Z n0 h11 := (Old10.keep Kq11 all0)
    obtain ⟨_, _, ⟨T15, Lp15, kp15, np15⟩, -, X15, ⟨Lc15, hQ15, lp15, yp15, zp15⟩, st15⟩ := Jvm.LawKit.callS X11 hx (y := (⟨"java/lang/StringUTF16", "getChar", "([BI)C"⟩ : MethodName)) hown (mvT hZ (W hw 109)) (mvT hZ (W hw 110)) (mvT hZ (W hw 64)) (mvT hZ (W hw 111)) (by decide) (backOf (W := 0) (rmGet2_0 l Z a0 hw [] t1 k1 c0' c1' h11 n0 (by omega) O7 O8 O9 Old14 av11 hc0) hZ (W hw 111) (W hw 64) (by decide) (by decide)) (g := (mkF m 32 #[.val (.ref r), .val (.int (0 : Int32)), .val (.int (2 : Int32)), .val (.ref t0), .val (.int (0 : Int32)), .val (.ref t1)] [(.int (0 : Int32)), (.ref t1)])) rfl (by rw [hml]; rfl) (argsL := [(.ref t1), (.int (0 : Int32))]) (rest := []) (lenOf pd___BI_C rfl) rfl (by show 2 * 0 + _ ≤ _; exact Nat.le_of_eq rfl) (hb hby d12_32) (fun _ _ => ⟨rfl, e11, (by decide : 2 + 0 ≤ _), (by decide : 6 + 0 ≤ _)⟩)
    dsimp only [Pt.U, Pt.locs, Pt.cells, Pt.slots] at X15 lp15 yp15 zp15 st15 hQ15
    subst lp15 yp15 zp15
    obtain ⟨rfl, Nq15, eq15⟩ := hQ15
    have N15 := Fr.app N11 Nq15
    have c16 : SS p e below B0 T15 m 35 #[.val (.ref r), .val (.int (0 : Int32)), .val (.int (2 : Int32)), .val (.ref t0), .val (.int (0 : Int32)), .val (.ref t1)] [(.int (c0'))] := Steps.trans c13 (st15 _ (Steps.refl _))
    have c17 : SS p e below B0 T15 m 56 #[.val (.ref r), .val (.int (0 : Int32)), .val (.int (2 : Int32)), .val (.ref t0), .val (.int (0 : Int32)), .val (.ref t1)] [(.ref t1)] := Steps.trans c16 (by
        refine XT.sipushV X15.here hx rfl (255 : Int32) (hb hby d12_35) (by decide) ?_
        refine XS.icmpYes X15.here hx rfl (pc0 := 38) (pc' := 54) rfl (hb hby d12_38) rfl (tlt hk).2.2.1 (by decide) (by decide) ?_
        refine XS.aload X15.here hx rfl (hb hby d12_54) rfl rfl ?_
        exact Steps.refl _)
    obtain ⟨fs, hr, hrun, hended, hW, hsame⟩ := X15.leave (v := some (.ref t1)) (fun h => by rw [Bd.returns] at h; cases h)
    subst hB0
    refine ⟨_, _, Steps.trans c17 ?_, hrun, hended, _, _, rfl, ?_, ⟨_, rfl⟩, hW, hsame.mono (by decide) (by decide)⟩
    · exact retR X15 hx Bd.returns rfl rfl rfl (hb hby d12_56) hr
    · show QC3_2 Z c0' c1' h0 n0 _ T15.heap _
      rw [eq15]
      exact ⟨t1, k1, 1, 4, _, rfl, N15, K11, (by omega), av11, Or.inr ⟨rfl, rfl, rfl⟩⟩
  have hl0 := h0_
  by_cases h1_ : (255 : Int32) < c1'
  · have hk := h1_
    have Arv5 : Arv Z h2 r kc .char (2 : Int32) [(.int c0'), (.int c1')] (.int (0 : Int32)) := (Vr.ext E2)
    obtain ⟨_, _, ⟨T6, Lp6, kp6, np6⟩, -, X6, ⟨Lc6, hQ6, lp6, yp6, zp6⟩, st6⟩ := Jvm.LawKit.callS X2 hx (y := (⟨"java/lang/StringUTF16", "compress", "([CI[BII)I"⟩ : MethodName)) hown (mvT hZ (W hw 66)) (mvT hZ (W hw 67)) (mvT hZ (W hw 64)) (mvT hZ (W hw 68)) (by decide) (backOf (W := 0) (rmC5_2_1 l Z a0 hw [] r t0 kc k0 c0' c1' h2 n0 (by omega) Arv5 V2 (by omega) (by omega) hl0 hk) hZ (W hw 68) (W hw 64) (by decide) (by decide)) (g := (mkF m 9 #[.val (.ref r), .val (.int (0 : Int32)), .val (.int (2 : Int32)), .val (.ref t0), .unset, .unset] [(.int (2 : Int32)), (.int (0 : Int32)), (.ref t0), (.int (0 : Int32)), (.ref r)])) rfl (by rw [hml]; rfl) (argsL := [(.ref r), (.int (0 : Int32)), (.ref t0), (.int (0 : Int32)), (.int (2 : Int32))]) (rest := []) (lenOf pd___CI_BII_I rfl) rfl (by show 2 * 0 + _ ≤ _; exact Nat.le_of_eq rfl) (hb hby d12_9) (fun _ _ => ⟨rfl, e2, (by decide : 1 + 0 ≤ _), (by decide : 2 + 0 ≤ _)⟩)
    dsimp only [Pt.U, Pt.locs, Pt.cells, Pt.slots] at X6 lp6 yp6 zp6 st6 hQ6
    subst lp6 yp6 zp6
    obtain ⟨rfl, Nq6, Kq6⟩ := hQ6
    have N6 := Fr.app N0 Nq6
    obtain ⟨h6, e6⟩ : ∃ z, T6.heap = z := ⟨_, rfl⟩
    rw [e6] at Kq6
    have z6 : h2.size ≤ h6.size := Kq6.1
    have K6 := K2.trans Kq6 (allS (Or.inr (by omega)) all0)
    have c7 : SS p e below B0 T6 m 12 #[.val (.ref r), .val (.int (0 : Int32)), .val (.int (2 : Int32)), .val (.ref t0), .unset, .unset] [(.int (1 : Int32))] := Steps.trans c4 (st6 _ (Steps.refl _))
    have c8 : SS p e below B0 T6 m 23 #[.val (.ref r), .val (.int (0 : Int32)), .val (.int (2 : Int32)), .val (.ref t0), .val (.int (1 : Int32)), .unset] [(.int (2 : Int32)), (.int (0 : Int32)), (.ref r)] := Steps.trans c7 (by
        refine XS.istore X6.here hx rfl (hb hby d12_12) rfl (l' := #[.val (.ref r), .val (.int (0 : Int32)), .val (.int (2 : Int32)), .val (.ref t0), .val (.int (1 : Int32)), .unset]) rfl ?_
        refine XS.iload X6.here hx rfl (hb hby d12_14) rfl ?_
        refine XS.iloadN X6.here hx rfl (hb hby d12_16) rfl ?_
        refine XS.icmpNo X6.here hx rfl (hb hby d12_17) rfl (feq (by decide : ¬ (1 : Int32) = (2 : Int32))).1 ?_
        refine XS.aloadN X6.here hx rfl (hb hby d12_20) rfl rfl ?_
        refine XS.iloadN X6.here hx rfl (hb hby d12_21) rfl ?_
        refine XS.iloadN X6.here hx rfl (hb hby d12_22) rfl ?_
        exact Steps.refl _)
    have Arv9 : Arv Z h6 r kc .char (2 : Int32) [(.int c0'), (.int c1')] (.int (0 : Int32)) := (Arv5.keep Kq6 (ninS (own_ne (by omega)) nin0))
    have Old10 : Old Z n0 h6 := ((X00.ext E2).keep Kq6 (allS (by omega) all0))
    obtain ⟨_, _, ⟨T11, Lp11, kp11, np11⟩, -, X11, ⟨Lc11, hQ11, lp11, yp11, zp11⟩, st11⟩ := Jvm.LawKit.callS X6 hx (y := (⟨"java/lang/StringUTF16", "toBytes", "([CII)[B"⟩ : MethodName)) hown (mvT hZ (W hw 93)) (mvT hZ (W hw 94)) (mvT hZ (W hw 64)) (mvT hZ (W hw 95)) (by decide) (backOf (W := 0) (rmTo2 l Z a0 hw [] r kc c0' c1' h6 n0 (by omega) O7 O8 O9 Old10 Arv9) hZ (W hw 95) (W hw 64) (by decide) (by decide)) (g := (mkF m 23 #[.val (.ref r), .val (.int (0 : Int32)), .val (.int (2 : Int32)), .val (.ref t0), .val (.int (1 : Int32)), .unset] [(.int (2 : Int32)), (.int (0 : Int32)), (.ref r)])) rfl (by rw [hml]; rfl) (argsL := [(.ref r), (.int (0 : Int32)), (.int (2 : Int32))]) (rest := []) (lenOf pd___CII__B rfl) rfl (by show 2 * 0 + _ ≤ _; exact Nat.le_of_eq rfl) (hb hby d12_23) (fun _ _ => ⟨rfl, e6, (by decide : 1 + 1 ≤ _), (by decide : 2 + 4 ≤ _)⟩)
    dsimp only [Pt.U, Pt.locs, Pt.cells, Pt.slots] at X11 lp11 yp11 zp11 st11 hQ11
    subst lp11 yp11 zp11
    obtain ⟨t1, k1, rfl, Nq11, Kq11, g11, av11⟩ := hQ11
    have N11 := Fr.app N6 Nq11
    obtain ⟨h11, e11⟩ : ∃ z, T11.heap = z := ⟨_, rfl⟩
    rw [e11] at Kq11 av11
    have z11 : h6.size ≤ h11.size := Kq11.1
    have K11 := K6.trans Kq11 all0
    have c12 : SS p e below B0 T11 m 26 #[.val (.ref r), .val (.int (0 : Int32)), .val (.int (2 : Int32)), .val (.ref t0), .val (.int (1 : Int32)), .unset] [(.ref t1)] := Steps.trans c8 (st11 _ (Steps.refl _))
    have lt_t1 : (@LT.lt Nat _ t1 h11.size) := av11.lt
    have c13 : SS p e below B0 T11 m 32 #[.val (.ref r), .val (.int (0 : Int32)), .val (.int (2 : Int32)), .val (.ref t0), .val (.int (1 : Int32)), .val (.ref t1)] [(.int (1 : Int32)), (.ref t1)] := Steps.trans c12 (by
        refine XS.astore X11.here hx rfl (hb hby d12_26) rfl rfl (l' := #[.val (.ref r), .val (.int (0 : Int32)), .val (.int (2 : Int32)), .val (.ref t0), .val (.int (1 : Int32)), .val (.ref t1)]) rfl ?_
        refine XS.aload X11.here hx rfl (hb hby d12_28) rfl rfl ?_
        refine XS.iload X11.here hx rfl (hb hby d12_30) rfl ?_
        exact Steps.refl _)
    have Old14 : Old Z n0 h11 := (Old10.keep Kq11 all0)
    obtain ⟨_, _, ⟨T15, Lp15, kp15, np15⟩, -, X15, ⟨Lc15, hQ15, lp15, yp15, zp15⟩, st15⟩ := Jvm.LawKit.callS X11 hx (y := (⟨"java/lang/StringUTF16", "getChar", "([BI)C"⟩ : MethodName)) hown (mvT hZ (W hw 109)) (mvT hZ (W hw 110)) (mvT hZ (W hw 64)) (mvT hZ (W hw 111)) (by decide) (backOf (W := 0) (rmGet2_1 l Z a0 hw [] t1 k1 c0' c1' h11 n0 (by omega) O7 O8 O9 Old14 av11 hc1) hZ (W hw 111) (W hw 64) (by decide) (by decide)) (g := (mkF m 32 #[.val (.ref r), .val (.int (0 : Int32)), .val (.int (2 : Int32)), .val (.ref t0), .val (.int (1 : Int32)), .val (.ref t1)] [(.int (1 : Int32)), (.ref t1)])) rfl (by rw [hml]; rfl) (argsL := [(.ref t1), (.int (1 : Int32))]) (rest := []) (lenOf pd___BI_C rfl) rfl (by show 2 * 0 + _ ≤ _; exact Nat.le_of_eq rfl) (hb hby d12_32) (fun _ _ => ⟨rfl, e11, (by decide : 2 + 0 ≤ _), (by decide : 6 + 0 ≤ _)⟩)
    dsimp only [Pt.U, Pt.locs, Pt.cells, Pt.slots] at X15 lp15 yp15 zp15 st15 hQ15
    subst lp15 yp15 zp15
    obtain ⟨rfl, Nq15, eq15⟩ := hQ15
    have N15 := Fr.app N11 Nq15
    have c16 : SS p e below B0 T15 m 35 #[.val (.ref r), .val (.int (0 : Int32)), .val (.int (2 : Int32)), .val (.ref t0), .val (.int (1 : Int32)), .val (.ref t1)] [(.int (c1'))] := Steps.trans c13 (st15 _ (Steps.refl _))
    have c17 : SS p e below B0 T15 m 56 #[.val (.ref r), .val (.int (0 : Int32)), .val (.int (2 : Int32)), .val (.ref t0), .val (.int (1 : Int32)), .val (.ref t1)] [(.ref t1)] := Steps.trans c16 (by
        refine XT.sipushV X15.here hx rfl (255 : Int32) (hb hby d12_35) (by decide) ?_
        refine XS.icmpYes X15.here hx rfl (pc0 := 38) (pc' := 54) rfl (hb hby d12_38) rfl (tlt hk).2.2.1 (by decide) (by decide) ?_
        refine XS.aload X15.here hx rfl (hb hby d12_54) rfl rfl ?_
        exact Steps.refl _)
    obtain ⟨fs, hr, hrun, hended, hW, hsame⟩ := X15.leave (v := some (.ref t1)) (fun h => by rw [Bd.returns] at h; cases h)
    subst hB0
    refine ⟨_, _, Steps.trans c17 ?_, hrun, hended, _, _, rfl, ?_, ⟨_, rfl⟩, hW, hsame.mono (by decide) (by decide)⟩
    · exact retR X15 hx Bd.returns rfl rfl rfl (hb hby d12_56) hr
    · show QC3_2 Z c0' c1' h0 n0 _ T15.heap _
      rw [eq15]
      exact ⟨t1, k1, 1, 4, _, rfl, N15, K11, (by omega), av11, Or.inr ⟨rfl, rfl, rfl⟩⟩
  have hl1 := h1_
  have Arv5 : Arv Z h2 r kc .char (2 : Int32) [(.int c0'), (.int c1')] (.int (0 : Int32)) := (Vr.ext E2)
  obtain ⟨_, _, ⟨T6, Lp6, kp6, np6⟩, -, X6, ⟨Lc6, hQ6, lp6, yp6, zp6⟩, st6⟩ := Jvm.LawKit.callS X2 hx (y := (⟨"java/lang/StringUTF16", "compress", "([CI[BII)I"⟩ : MethodName)) hown (mvT hZ (W hw 66)) (mvT hZ (W hw 67)) (mvT hZ (W hw 64)) (mvT hZ (W hw 68)) (by decide) (backOf (W := 0) (rmC5_2_2 l Z a0 hw [] r t0 kc k0 c0' c1' h2 n0 (by omega) Arv5 V2 (by omega) (by omega) hl0 hl1) hZ (W hw 68) (W hw 64) (by decide) (by decide)) (g := (mkF m 9 #[.val (.ref r), .val (.int (0 : Int32)), .val (.int (2 : Int32)), .val (.ref t0), .unset, .unset] [(.int (2 : Int32)), (.int (0 : Int32)), (.ref t0), (.int (0 : Int32)), (.ref r)])) rfl (by rw [hml]; rfl) (argsL := [(.ref r), (.int (0 : Int32)), (.ref t0), (.int (0 : Int32)), (.int (2 : Int32))]) (rest := []) (lenOf pd___CI_BII_I rfl) rfl (by show 2 * 0 + _ ≤ _; exact Nat.le_of_eq rfl) (hb hby d12_9) (fun _ _ => ⟨rfl, e2, (by decide : 1 + 0 ≤ _), (by decide : 2 + 0 ≤ _)⟩)
  dsimp only [Pt.U, Pt.locs, Pt.cells, Pt.slots] at X6 lp6 yp6 zp6 st6 hQ6
  subst lp6 yp6 zp6
  obtain ⟨rfl, Nq6, Kq6, av6⟩ := hQ6
  have N6 := Fr.app N0 Nq6
  obtain ⟨h6, e6⟩ : ∃ z, T6.heap = z := ⟨_, rfl⟩
  rw [e6] at Kq6 av6
  have z6 : h2.size ≤ h6.size := Kq6.1
  have K6 := K2.trans Kq6 (allS (Or.inr (by omega)) all0)
  have c7 : SS p e below B0 T6 m 12 #[.val (.ref r), .val (.int (0 : Int32)), .val (.int (2 : Int32)), .val (.ref t0), .unset, .unset] [(.int (2 : Int32))] := Steps.trans c4 (st6 _ (Steps.refl _))
  have c8 : SS p e below B0 T6 m 58 #[.val (.ref r), .val (.int (0 : Int32)), .val (.int (2 : Int32)), .val (.ref t0), .val (.int (2 : Int32)), .unset] [(.ref t0)] := Steps.trans c7 (by
      refine XS.istore X6.here hx rfl (hb hby d12_12) rfl (l' := #[.val (.ref r), .val (.int (0 : Int32)), .val (.int (2 : Int32)), .val (.ref t0), .val (.int (2 : Int32)), .unset]) rfl ?_
      refine XS.iload X6.here hx rfl (hb hby d12_14) rfl ?_
      refine XS.iloadN X6.here hx rfl (hb hby d12_16) rfl ?_
      refine XS.icmpYes X6.here hx rfl (pc0 := 17) (pc' := 57) rfl (hb hby d12_17) rfl (teq (by decide : (2 : Int32) = (2 : Int32))).1 (by decide) (by decide) ?_
      refine XS.aloadN X6.here hx rfl (hb hby d12_57) rfl rfl ?_
      exact Steps.refl _)
  obtain ⟨fs, hr, hrun, hended, hW, hsame⟩ := X6.leave (v := some (.ref t0)) (fun h => by rw [Bd.returns] at h; cases h)
  subst hB0
  refine ⟨_, _, Steps.trans c8 ?_, hrun, hended, _, _, rfl, ?_, ⟨_, rfl⟩, hW, hsame.mono (by decide) (by decide)⟩
  · exact retR X6 hx Bd.returns rfl rfl rfl (hb hby d12_58) hr
  · show QC3_2 Z c0' c1' h0 n0 _ T6.heap _
    rw [e6]
    exact ⟨t0, k0, 0, 2, _, rfl, N6, K6, (by omega), av6, Or.inl ⟨rfl, rfl, rfl, hl0, hl1⟩⟩
def QCl2_0 (h0 : Heap) (n0 : Nat) (v : Option Value) (h : Heap) (L : List Loc) : Prop := v = some (.int (0 : Int32)) ∧ Fr n0 L ∧ h = h0
set_option maxRecDepth 65536 in
set_option maxHeartbeats 40000000 in
theorem rmCl2_0 (l : Launch) (Z : State) (a0 : Array Value) (hw : ∀ d ∈ tables_1, d.before a0 Z = true) (ws : List Jvm.Cond) (t : Addr) (k : ClassId) (vs : List Value) (h0 : Heap) (n0 : Nat) (Z0 : n0 ≤ h0.size) (Vt : Arv Z h0 t k .byte (2 : Int32) vs (.int (0 : Int32))) :
    MetFree l (⟨"java/lang/StringUTF16", "coderFromArrayLen", "([BI)B"⟩ : MethodName) (head1 (Jvm.Cond.code (⟨"java/lang/StringUTF16", "coderFromArrayLen", "([BI)B"⟩ : MethodName) jdk_52_method_15_code 2 (some .byte) :: ws) ({ frames := 0, cells := 0, slots := 0, locals := 0 } : Room)) (fun a U => a = #[(.ref t), (.int (2 : Int32))] ∧ Z.Warmed39 U.vm ∧ U.heap = h0) (fun _ _ _ _ _ => True) (fun _ U o U' => ∃ v L, o = .returned v ∧ QCl2_0 h0 n0 v U'.heap L ∧ FrameEnd U o U' L ({ frames := 0, cells := 0, slots := 0, locals := 0 } : Room).cells ({ frames := 0, cells := 0, slots := 0, locals := 0 } : Room).slots) := by
  refine MetFree.of_bodySF (plainFor_of_name pn_java_lang_StringUTF16) hisR ?_
  intro p e s m args below meth c s₁ Bd hml0 hP hK
  obtain ⟨rfl, hZ, hh⟩ := hP
  have hx := Bd.exec
  have hby := Bd.bytes
  have hml : c.maxLocals = 2 := hml0
  have hown : s.vm.findClass "java/lang/StringUTF16" = some m.cls := findClass_of_methodNamed Bd.named
  have hnm := (name_of_methodNamed Bd.named Bd.method).1
  have X0 : Stand p l e ({ frames := 0, cells := 0, slots := 0, locals := 0 } : Room) s m #[(.ref t), (.int (2 : Int32))] below meth c s₁ [] 0 0 := Stand.of_body Bd
  have e0 : s₁.heap = h0 := by rw [← hh, Bd.state]; rfl
  have N0 := Fr.nil n0
  obtain ⟨B0, c0, hB0⟩ : ∃ B0, Steps p.tables e below B0 (s₁.setTop (mkF m 0 #[.val (.ref t), .val (.int (2 : Int32))] [])) ∧ B0 = s₁.setTop (entryFrame m #[(.ref t), (.int (2 : Int32))] 2) := ⟨_, castTop (ef_RI_2 m t (2 : Int32)) (Steps.refl _), rfl⟩
  have c1 : SS p e below B0 s₁ m 2 #[.val (.ref t), .val (.int (2 : Int32))] [(.ref t), (.int (2 : Int32))] := Steps.trans c0 (by
      refine XS.iloadN X0.here hx rfl (hb hby d13_0) rfl ?_
      refine XS.aloadN X0.here hx rfl (hb hby d13_1) rfl rfl ?_
      exact Steps.refl _)
  obtain ⟨cl2, Ar2, q2, Sz2, M2, Hs2, U2⟩ := id Vt
  have c3 : SS p e below B0 s₁ m 3 #[.val (.ref t), .val (.int (2 : Int32))] [(.int (2 : Int32)), (.int (2 : Int32))] := Steps.trans c1 (by
      refine X0.arraylength hx (by rw [e0]; exact Ar2.1) (State.isArrayOf_alike hZ.alike Ar2.2.1) (g := (mkF m 2 #[.val (.ref t), .val (.int (2 : Int32))] [(.ref t), (.int (2 : Int32))])) rfl rfl (hb hby d13_2) _ ?_
      rw [len_of Sz2 M2]
      exact Steps.refl _)
  have c4 : SS p e below B0 s₁ m 8 #[.val (.ref t), .val (.int (2 : Int32))] [(.int (0 : Int32))] := Steps.trans c3 (by
      refine XS.isub X0.here hx rfl (hb hby d13_3) rfl ?_
      refine XT.bipushV X0.here hx rfl (31 : Int32) (hb hby d13_4) (by decide) ?_
      refine XS.iushr X0.here hx rfl (hb hby d13_6) rfl ?_
      refine XS.i2b X0.here hx rfl (hb hby d13_7) rfl ?_
      exact Steps.refl _)
  obtain ⟨fs, hr, hrun, hended, hW, hsame⟩ := X0.leave (v := some (.int (0 : Int32))) (fun h => by rw [Bd.returns] at h; cases h)
  subst hB0
  refine ⟨_, _, Steps.trans c4 ?_, hrun, hended, _, _, rfl, ?_, ⟨_, rfl⟩, hW, hsame.mono (by decide) (by decide)⟩
  · exact retN X0 hx (t := .byte) Bd.returns (by simp) (hb hby d13_8) hr
  · show QCl2_0 h0 n0 _ s₁.heap _
    rw [e0]
    exact ⟨rfl, N0, rfl⟩
def QCl2_1 (h0 : Heap) (n0 : Nat) (v : Option Value) (h : Heap) (L : List Loc) : Prop := v = some (.int (1 : Int32)) ∧ Fr n0 L ∧ h = h0
set_option maxRecDepth 65536 in
set_option maxHeartbeats 40000000 in
theorem rmCl2_1 (l : Launch) (Z : State) (a0 : Array Value) (hw : ∀ d ∈ tables_1, d.before a0 Z = true) (ws : List Jvm.Cond) (t : Addr) (k : ClassId) (vs : List Value) (h0 : Heap) (n0 : Nat) (Z0 : n0 ≤ h0.size) (Vt : Arv Z h0 t k .byte (4 : Int32) vs (.int (0 : Int32))) :
    MetFree l (⟨"java/lang/StringUTF16", "coderFromArrayLen", "([BI)B"⟩ : MethodName) (head1 (Jvm.Cond.code (⟨"java/lang/StringUTF16", "coderFromArrayLen", "([BI)B"⟩ : MethodName) jdk_52_method_15_code 2 (some .byte) :: ws) ({ frames := 0, cells := 0, slots := 0, locals := 0 } : Room)) (fun a U => a = #[(.ref t), (.int (2 : Int32))] ∧ Z.Warmed39 U.vm ∧ U.heap = h0) (fun _ _ _ _ _ => True) (fun _ U o U' => ∃ v L, o = .returned v ∧ QCl2_1 h0 n0 v U'.heap L ∧ FrameEnd U o U' L ({ frames := 0, cells := 0, slots := 0, locals := 0 } : Room).cells ({ frames := 0, cells := 0, slots := 0, locals := 0 } : Room).slots) := by
  refine MetFree.of_bodySF (plainFor_of_name pn_java_lang_StringUTF16) hisR ?_
  intro p e s m args below meth c s₁ Bd hml0 hP hK
  obtain ⟨rfl, hZ, hh⟩ := hP
  have hx := Bd.exec
  have hby := Bd.bytes
  have hml : c.maxLocals = 2 := hml0
  have hown : s.vm.findClass "java/lang/StringUTF16" = some m.cls := findClass_of_methodNamed Bd.named
  have hnm := (name_of_methodNamed Bd.named Bd.method).1
  have X0 : Stand p l e ({ frames := 0, cells := 0, slots := 0, locals := 0 } : Room) s m #[(.ref t), (.int (2 : Int32))] below meth c s₁ [] 0 0 := Stand.of_body Bd
  have e0 : s₁.heap = h0 := by rw [← hh, Bd.state]; rfl
  have N0 := Fr.nil n0
  obtain ⟨B0, c0, hB0⟩ : ∃ B0, Steps p.tables e below B0 (s₁.setTop (mkF m 0 #[.val (.ref t), .val (.int (2 : Int32))] [])) ∧ B0 = s₁.setTop (entryFrame m #[(.ref t), (.int (2 : Int32))] 2) := ⟨_, castTop (ef_RI_2 m t (2 : Int32)) (Steps.refl _), rfl⟩
  have c1 : SS p e below B0 s₁ m 2 #[.val (.ref t), .val (.int (2 : Int32))] [(.ref t), (.int (2 : Int32))] := Steps.trans c0 (by
      refine XS.iloadN X0.here hx rfl (hb hby d13_0) rfl ?_
      refine XS.aloadN X0.here hx rfl (hb hby d13_1) rfl rfl ?_
      exact Steps.refl _)
  obtain ⟨cl2, Ar2, q2, Sz2, M2, Hs2, U2⟩ := id Vt
  have c3 : SS p e below B0 s₁ m 3 #[.val (.ref t), .val (.int (2 : Int32))] [(.int (4 : Int32)), (.int (2 : Int32))] := Steps.trans c1 (by
      refine X0.arraylength hx (by rw [e0]; exact Ar2.1) (State.isArrayOf_alike hZ.alike Ar2.2.1) (g := (mkF m 2 #[.val (.ref t), .val (.int (2 : Int32))] [(.ref t), (.int (2 : Int32))])) rfl rfl (hb hby d13_2) _ ?_
      rw [len_of Sz2 M2]
      exact Steps.refl _)
  have c4 : SS p e below B0 s₁ m 8 #[.val (.ref t), .val (.int (2 : Int32))] [(.int (1 : Int32))] := Steps.trans c3 (by
      refine XS.isub X0.here hx rfl (hb hby d13_3) rfl ?_
      refine XT.bipushV X0.here hx rfl (31 : Int32) (hb hby d13_4) (by decide) ?_
      refine XS.iushr X0.here hx rfl (hb hby d13_6) rfl ?_
      refine XS.i2b X0.here hx rfl (hb hby d13_7) rfl ?_
      exact Steps.refl _)
  obtain ⟨fs, hr, hrun, hended, hW, hsame⟩ := X0.leave (v := some (.int (1 : Int32))) (fun h => by rw [Bd.returns] at h; cases h)
  subst hB0
  refine ⟨_, _, Steps.trans c4 ?_, hrun, hended, _, _, rfl, ?_, ⟨_, rfl⟩, hW, hsame.mono (by decide) (by decide)⟩
  · exact retN X0 hx (t := .byte) Bd.returns (by simp) (hb hby d13_8) hr
  · show QCl2_1 h0 n0 _ s₁.heap _
    rw [e0]
    exact ⟨rfl, N0, rfl⟩
def QS2 (Z : State) (a1 : Addr) (c0' c1' : Int32) (h0 : Heap) (n0 : Nat) (v : Option Value) (h : Heap) (L : List Loc) : Prop := v = none ∧ Fr n0 L ∧ Keep h0 h [a1] ∧ ∃ (t : Addr) (k : ClassId) (cd N : Int32) (vs : List Value), h0.size ≤ t ∧ Fld Z h a1 "java/lang/String" "coder" "B" (.int cd) ∧ Fld Z h a1 "java/lang/String" "value" "[B" (.ref t) ∧ Arv Z h t k .byte N vs (.int (0 : Int32)) ∧ Spl2 c0' c1' cd N vs
set_option maxRecDepth 65536 in
set_option maxHeartbeats 40000000 in
theorem rmS4_2 (l : Launch) (Z : State) (a0 : Array Value) (hw : ∀ d ∈ tables_1, d.before a0 Z = true) (ws : List Jvm.Cond) (a1 r : Addr) (kc : ClassId) (c0' c1' : Int32) (uv uc : Value) (G1 : Int32) (h0 : Heap) (n0 : Nat) (Z0 : n0 ≤ h0.size) (E_a1 : Exa Z h0 a1 "java/lang/String") (Fv_a1 : Fld Z h0 a1 "java/lang/String" "value" "[B" uv) (Fc_a1 : Fld Z h0 a1 "java/lang/String" "coder" "B" uc) (O2 : Sta Z Z.heap "java/lang/String" "COMPACT_STRINGS" "Z" (.int G1)) (P5 : ¬ (G1 = (0 : Int32))) (O7 : Sta Z Z.heap "java/lang/StringUTF16" "$assertionsDisabled" "Z" (.int (1 : Int32))) (O8 : Sta Z Z.heap "java/lang/StringUTF16" "HI_BYTE_SHIFT" "I" (.int (0 : Int32))) (O9 : Sta Z Z.heap "java/lang/StringUTF16" "LO_BYTE_SHIFT" "I" (.int (8 : Int32))) (X00 : Old Z n0 h0) (Vr : Arv Z h0 r kc .char (2 : Int32) [(.int c0'), (.int c1')] (.int (0 : Int32))) (hc0 : ¬ c0' < 0 ∧ ¬ (65535 : Int32) < c0') (hc1 : ¬ c1' < 0 ∧ ¬ (65535 : Int32) < c1') (g_a1 : n0 ≤ a1) :
    MetFree l (⟨"java/lang/String", "<init>", "([CIILjava/lang/Void;)V"⟩ : MethodName) (head1 (Jvm.Cond.code (⟨"java/lang/String", "<init>", "([CIILjava/lang/Void;)V"⟩ : MethodName) jdk_42_method_149_code 6 none :: ws) ({ frames := 4, cells := 2, slots := 6, locals := 60 } : Room)) (fun a U => a = #[(.ref a1), (.ref r), (.int (0 : Int32)), (.int (2 : Int32)), .null] ∧ Z.Warmed39 U.vm ∧ U.heap = h0) (fun _ _ _ _ _ => True) (fun _ U o U' => ∃ v L, o = .returned v ∧ QS2 Z a1 c0' c1' h0 n0 v U'.heap L ∧ FrameEnd U o U' L ({ frames := 4, cells := 2, slots := 6, locals := 60 } : Room).cells ({ frames := 4, cells := 2, slots := 6, locals := 60 } : Room).slots) := by
  refine MetFree.of_bodySF (plainFor_of_name pn_java_lang_String) hisR ?_
  intro p e s m args below meth c s₁ Bd hml0 hP hK
  obtain ⟨rfl, hZ, hh⟩ := hP
  have hx := Bd.exec
  have hby := Bd.bytes
  have hml : c.maxLocals = 6 := hml0
  have hown : s.vm.findClass "java/lang/String" = some m.cls := findClass_of_methodNamed Bd.named
  have hnm := (name_of_methodNamed Bd.named Bd.method).1
  have X0 : Stand p l e ({ frames := 4, cells := 2, slots := 6, locals := 60 } : Room) s m #[(.ref a1), (.ref r), (.int (0 : Int32)), (.int (2 : Int32)), .null] below meth c s₁ [] 0 0 := Stand.of_body Bd
  have e0 : s₁.heap = h0 := by rw [← hh, Bd.state]; rfl
  have N0 := Fr.nil n0
  obtain ⟨B0, c0, hB0⟩ : ∃ B0, Steps p.tables e below B0 (s₁.setTop (mkF m 0 #[.val (.ref a1), .val (.ref r), .val (.int (0 : Int32)), .val (.int (2 : Int32)), .val .null, .unset] [])) ∧ B0 = s₁.setTop (entryFrame m #[(.ref a1), (.ref r), (.int (0 : Int32)), (.int (2 : Int32)), .null] 6) := ⟨_, castTop (ef_RRIIN_6 m a1 r (0 : Int32) (2 : Int32)) (Steps.refl _), rfl⟩
  have lt_a1 : (@LT.lt Nat _ a1 h0.size) := E_a1.lt
  have lt_r : (@LT.lt Nat _ r h0.size) := Vr.lt
  have c1 : SS p e below B0 s₁ m 1 #[.val (.ref a1), .val (.ref r), .val (.int (0 : Int32)), .val (.int (2 : Int32)), .val .null, .unset] [(.ref a1)] := Steps.trans c0 (by
      refine XS.aloadN X0.here hx rfl (hb hby d0_0) rfl rfl ?_
      exact Steps.refl _)
  obtain ⟨T2, X2, e2, st2⟩ := initO X0 hx hZ hown (W hw 16) (W hw 17) (W hw 18) e0 (g := (mkF m 1 #[.val (.ref a1), .val (.ref r), .val (.int (0 : Int32)), .val (.int (2 : Int32)), .val .null, .unset] [(.ref a1)])) rfl (by rw [hml]; rfl) rfl (hb hby d0_1) (by decide) (W := 0) (by show 2 * 0 + _ ≤ _; exact Nat.le_of_eq rfl) (by decide)
  have c3 : SS p e below B0 T2 m 4 #[.val (.ref a1), .val (.ref r), .val (.int (0 : Int32)), .val (.int (2 : Int32)), .val .null, .unset] [] := Steps.trans c1 (st2 _ (Steps.refl _))
  have c4 : SS p e below B0 T2 m 27 #[.val (.ref a1), .val (.ref r), .val (.int (0 : Int32)), .val (.int (2 : Int32)), .val .null, .unset] [] := Steps.trans c3 (by
      refine XS.iloadN X2.here hx rfl (hb hby d0_4) rfl ?_
      refine XS.ifYes X2.here hx rfl (pc0 := 5) (pc' := 27) rfl (hb hby d0_5) rfl ((if0 _ _).trans (feq (by decide : ¬ (2 : Int32) = (0 : Int32))).2) (by decide) (by decide) ?_
      exact Steps.refl _)
  obtain ⟨T5, X5, e5, st5⟩ := getS X2 hx hZ (host := "") hown (W hw 30) Via.refl e2 (O2.ext X00.2) (g := (mkF m 27 #[.val (.ref a1), .val (.ref r), .val (.int (0 : Int32)), .val (.int (2 : Int32)), .val .null, .unset] [])) rfl (hb hby d0_27)
  have c6 : SS p e below B0 T5 m 30 #[.val (.ref a1), .val (.ref r), .val (.int (0 : Int32)), .val (.int (2 : Int32)), .val .null, .unset] [(.int G1)] := Steps.trans c4 (st5 _ (Steps.refl _))
  have c7 : SS p e below B0 T5 m 36 #[.val (.ref a1), .val (.ref r), .val (.int (0 : Int32)), .val (.int (2 : Int32)), .val .null, .unset] [(.int (2 : Int32)), (.int (0 : Int32)), (.ref r)] := Steps.trans c6 (by
      refine XS.ifNo X5.here hx rfl (hb hby d0_30) rfl ((if0 _ _).trans (feq P5).1) ?_
      refine XS.aloadN X5.here hx rfl (hb hby d0_33) rfl rfl ?_
      refine XS.iloadN X5.here hx rfl (hb hby d0_34) rfl ?_
      refine XS.iloadN X5.here hx rfl (hb hby d0_35) rfl ?_
      exact Steps.refl _)
  obtain ⟨_, _, ⟨T8, Lp8, kp8, np8⟩, -, X8, ⟨Lc8, hQ8, lp8, yp8, zp8⟩, st8⟩ := Jvm.LawKit.callS X5 hx (y := (⟨"java/lang/StringUTF16", "compress", "([CII)[B"⟩ : MethodName)) hown (mvT hZ (W hw 62)) (mvT hZ (W hw 63)) (mvT hZ (W hw 64)) (mvT hZ (W hw 65)) (by decide) (backOf (W := 0) (rmC3_2 l Z a0 hw [] r kc c0' c1' h0 n0 (by omega) O7 O8 O9 X00 Vr hc0 hc1) hZ (W hw 65) (W hw 64) (by decide) (by decide)) (g := (mkF m 36 #[.val (.ref a1), .val (.ref r), .val (.int (0 : Int32)), .val (.int (2 : Int32)), .val .null, .unset] [(.int (2 : Int32)), (.int (0 : Int32)), (.ref r)])) rfl (by rw [hml]; rfl) (argsL := [(.ref r), (.int (0 : Int32)), (.int (2 : Int32))]) (rest := []) (lenOf pd___CII__B rfl) rfl (by show 2 * 0 + _ ≤ _; exact Nat.le_of_eq rfl) (hb hby d0_36) (fun _ _ => ⟨rfl, e5, (by decide : 0 + 2 ≤ _), (by decide : 0 + 6 ≤ _)⟩)
  dsimp only [Pt.U, Pt.locs, Pt.cells, Pt.slots] at X8 lp8 yp8 zp8 st8 hQ8
  subst lp8 yp8 zp8
  obtain ⟨t1, k1, cd, N_, vs, rfl, Nq8, Kq8, g8, av8, spl⟩ := hQ8
  have N8 := Fr.app N0 Nq8
  obtain ⟨h8, e8⟩ : ∃ z, T8.heap = z := ⟨_, rfl⟩
  rw [e8] at Kq8 av8
  have z8 : h0.size ≤ h8.size := Kq8.1
  have K8 := (Keep.refl h0 [a1]).trans Kq8 all0
  have c9 : SS p e below B0 T8 m 39 #[.val (.ref a1), .val (.ref r), .val (.int (0 : Int32)), .val (.int (2 : Int32)), .val .null, .unset] [(.ref t1)] := Steps.trans c7 (st8 _ (Steps.refl _))
  have lt_t1 : (@LT.lt Nat _ t1 h8.size) := av8.lt
  have hspl := spl
  have c10 : SS p e below B0 T8 m 45 #[.val (.ref a1), .val (.ref r), .val (.int (0 : Int32)), .val (.int (2 : Int32)), .val .null, .val (.ref t1)] [(.int (2 : Int32)), (.ref t1), (.ref a1)] := Steps.trans c9 (by
      refine XS.astore X8.here hx rfl (hb hby d0_39) rfl rfl (l' := #[.val (.ref a1), .val (.ref r), .val (.int (0 : Int32)), .val (.int (2 : Int32)), .val .null, .val (.ref t1)]) rfl ?_
      refine XS.aloadN X8.here hx rfl (hb hby d0_41) rfl rfl ?_
      refine XS.aload X8.here hx rfl (hb hby d0_42) rfl rfl ?_
      refine XS.iloadN X8.here hx rfl (hb hby d0_44) rfl ?_
      exact Steps.refl _)
  rcases spl with ⟨rfl, rfl, rfl, -⟩ | ⟨rfl, rfl, rfl⟩
  · have hdummy := Z0
    obtain ⟨_, _, ⟨T11, Lp11, kp11, np11⟩, -, X11, ⟨Lc11, hQ11, lp11, yp11, zp11⟩, st11⟩ := Jvm.LawKit.callS X8 hx (y := (⟨"java/lang/StringUTF16", "coderFromArrayLen", "([BI)B"⟩ : MethodName)) hown (mvT hZ (W hw 69)) (mvT hZ (W hw 70)) (mvT hZ (W hw 64)) (mvT hZ (W hw 71)) (by decide) (backOf (W := 1) (rmCl2_0 l Z a0 hw [] t1 k1 _ h8 n0 (by omega) av8) hZ (W hw 71) (W hw 64) (by decide) (by decide)) (g := (mkF m 45 #[.val (.ref a1), .val (.ref r), .val (.int (0 : Int32)), .val (.int (2 : Int32)), .val .null, .val (.ref t1)] [(.int (2 : Int32)), (.ref t1), (.ref a1)])) rfl (by rw [hml]; rfl) (argsL := [(.ref t1), (.int (2 : Int32))]) (rest := [(.ref a1)]) (lenOf pd___BI_B rfl) rfl (by show 2 * 0 + _ ≤ _; exact Nat.le_of_eq rfl) (hb hby d0_45) (fun _ _ => ⟨rfl, e8, (by decide : 2 + 0 ≤ _), (by decide : 6 + 0 ≤ _)⟩)
    dsimp only [Pt.U, Pt.locs, Pt.cells, Pt.slots] at X11 lp11 yp11 zp11 st11 hQ11
    subst lp11 yp11 zp11
    obtain ⟨rfl, Nq11, eq11⟩ := hQ11
    have N11 := Fr.app N8 Nq11
    have c12 : SS p e below B0 T11 m 48 #[.val (.ref a1), .val (.ref r), .val (.int (0 : Int32)), .val (.int (2 : Int32)), .val .null, .val (.ref t1)] [(.int (0 : Int32)), (.ref a1)] := Steps.trans c10 (st11 _ (Steps.refl _))
    have Fld14 : Fld Z h8 a1 "java/lang/String" "coder" "B" uc := (Fc_a1.keep Kq8 nin0)
    have Exa15 : Exa Z h8 a1 "java/lang/String" := (E_a1.keep Kq8)
    obtain ⟨T13, h13, X13, e13, W13, st13⟩ := putF X11 hx hZ hown (host := "") (Or.inl (W hw 26)) Via.refl eq11 Fld14 Exa15 (Or.inr ⟨(W hw 22), rfl, hnm⟩) (W hw 7) (ty := .byte) (by decide) rfl rfl (g := (mkF m 48 #[.val (.ref a1), .val (.ref r), .val (.int (0 : Int32)), .val (.int (2 : Int32)), .val .null, .val (.ref t1)] [(.int (0 : Int32)), (.ref a1)])) rfl rfl (hb hby d0_48)
    have N13 := Fr.snoc X13 N11 (by omega)
    have F13 : Fld Z h13 a1 "java/lang/String" "coder" "B" (.int (0 : Int32)) := Fld14.same W13
    have z13 : h13.size = h8.size := W13.size
    have K13 := K8.wr W13 (Or.inl (List.mem_of_getElem? (i := 0) rfl))
    have c16 : SS p e below B0 T13 m 51 #[.val (.ref a1), .val (.ref r), .val (.int (0 : Int32)), .val (.int (2 : Int32)), .val .null, .val (.ref t1)] [] := Steps.trans c12 (st13 _ (Steps.refl _))
    have c17 : SS p e below B0 T13 m 54 #[.val (.ref a1), .val (.ref r), .val (.int (0 : Int32)), .val (.int (2 : Int32)), .val .null, .val (.ref t1)] [(.ref t1), (.ref a1)] := Steps.trans c16 (by
        refine XS.aloadN X13.here hx rfl (hb hby d0_51) rfl rfl ?_
        refine XS.aload X13.here hx rfl (hb hby d0_52) rfl rfl ?_
        exact Steps.refl _)
    have Fld19 : Fld Z h13 a1 "java/lang/String" "value" "[B" uv := ((Fv_a1.keep Kq8 nin0).other W13 (Or.inr (slot_ne (Or.inr (W hw 21)) (Or.inr (W hw 22)) (by decide) (t := (.array .byte)) (t' := .byte) (by decide) (by decide))))
    have Exa20 : Exa Z h13 a1 "java/lang/String" := (Exa15.wr W13)
    obtain ⟨T18, h18, X18, e18, W18, st18⟩ := putF X13 hx hZ hown (host := "") (Or.inl (W hw 25)) Via.refl e13 Fld19 Exa20 (Or.inr ⟨(W hw 21), rfl, hnm⟩) (W hw 7) (ty := (.array .byte)) (by decide) rfl rfl (g := (mkF m 54 #[.val (.ref a1), .val (.ref r), .val (.int (0 : Int32)), .val (.int (2 : Int32)), .val .null, .val (.ref t1)] [(.ref t1), (.ref a1)])) rfl rfl (hb hby d0_54)
    have N18 := Fr.snoc X18 N13 (by omega)
    have F18 : Fld Z h18 a1 "java/lang/String" "value" "[B" (.ref t1) := Fld19.same W18
    have z18 : h18.size = h13.size := W18.size
    have K18 := K13.wr W18 (Or.inl (List.mem_of_getElem? (i := 0) rfl))
    have c21 : SS p e below B0 T18 m 57 #[.val (.ref a1), .val (.ref r), .val (.int (0 : Int32)), .val (.int (2 : Int32)), .val .null, .val (.ref t1)] [] := Steps.trans c17 (st18 _ (Steps.refl _))
    have Fld22 : Fld Z h18 a1 "java/lang/String" "coder" "B" (.int (0 : Int32)) := (F13.other W18 (Or.inr (slot_ne (Or.inr (W hw 22)) (Or.inr (W hw 21)) (by decide) (t := .byte) (t' := (.array .byte)) (by decide) (by decide))))
    have Arv23 : Arv Z h18 t1 k1 .byte (2 : Int32) [(.int (nar .byte (c0'.toInt8.toInt32))), (.int (nar .byte (c1'.toInt8.toInt32)))] (.int (0 : Int32)) := ((av8.other W13 (own_ne (by omega))).other W18 (own_ne (by omega)))
    obtain ⟨fs, hr, hrun, hended, hW, hsame⟩ := X18.leave (v := none) (fun _ => rfl)
    subst hB0
    refine ⟨_, _, Steps.trans c21 ?_, hrun, hended, _, _, rfl, ?_, ⟨_, rfl⟩, hW, hsame.mono (by decide) (by decide)⟩
    · exact X18.returnOut hx Bd.returns (hb hby d0_57) hr
    · show QS2 Z a1 c0' c1' h0 n0 _ T18.heap _
      rw [e18]
      exact ⟨rfl, N18, K18, t1, k1, _, _, _, (by omega), Fld22, F18, Arv23, hspl⟩
  · have hdummy := Z0
    obtain ⟨_, _, ⟨T11, Lp11, kp11, np11⟩, -, X11, ⟨Lc11, hQ11, lp11, yp11, zp11⟩, st11⟩ := Jvm.LawKit.callS X8 hx (y := (⟨"java/lang/StringUTF16", "coderFromArrayLen", "([BI)B"⟩ : MethodName)) hown (mvT hZ (W hw 69)) (mvT hZ (W hw 70)) (mvT hZ (W hw 64)) (mvT hZ (W hw 71)) (by decide) (backOf (W := 1) (rmCl2_1 l Z a0 hw [] t1 k1 _ h8 n0 (by omega) av8) hZ (W hw 71) (W hw 64) (by decide) (by decide)) (g := (mkF m 45 #[.val (.ref a1), .val (.ref r), .val (.int (0 : Int32)), .val (.int (2 : Int32)), .val .null, .val (.ref t1)] [(.int (2 : Int32)), (.ref t1), (.ref a1)])) rfl (by rw [hml]; rfl) (argsL := [(.ref t1), (.int (2 : Int32))]) (rest := [(.ref a1)]) (lenOf pd___BI_B rfl) rfl (by show 2 * 0 + _ ≤ _; exact Nat.le_of_eq rfl) (hb hby d0_45) (fun _ _ => ⟨rfl, e8, (by decide : 2 + 0 ≤ _), (by decide : 6 + 0 ≤ _)⟩)
    dsimp only [Pt.U, Pt.locs, Pt.cells, Pt.slots] at X11 lp11 yp11 zp11 st11 hQ11
    subst lp11 yp11 zp11
    obtain ⟨rfl, Nq11, eq11⟩ := hQ11
    have N11 := Fr.app N8 Nq11
    have c12 : SS p e below B0 T11 m 48 #[.val (.ref a1), .val (.ref r), .val (.int (0 : Int32)), .val (.int (2 : Int32)), .val .null, .val (.ref t1)] [(.int (1 : Int32)), (.ref a1)] := Steps.trans c10 (st11 _ (Steps.refl _))
    have Fld14 : Fld Z h8 a1 "java/lang/String" "coder" "B" uc := (Fc_a1.keep Kq8 nin0)
    have Exa15 : Exa Z h8 a1 "java/lang/String" := (E_a1.keep Kq8)
    obtain ⟨T13, h13, X13, e13, W13, st13⟩ := putF X11 hx hZ hown (host := "") (Or.inl (W hw 26)) Via.refl eq11 Fld14 Exa15 (Or.inr ⟨(W hw 22), rfl, hnm⟩) (W hw 7) (ty := .byte) (by decide) rfl rfl (g := (mkF m 48 #[.val (.ref a1), .val (.ref r), .val (.int (0 : Int32)), .val (.int (2 : Int32)), .val .null, .val (.ref t1)] [(.int (1 : Int32)), (.ref a1)])) rfl rfl (hb hby d0_48)
    have N13 := Fr.snoc X13 N11 (by omega)
    have F13 : Fld Z h13 a1 "java/lang/String" "coder" "B" (.int (1 : Int32)) := Fld14.same W13
    have z13 : h13.size = h8.size := W13.size
    have K13 := K8.wr W13 (Or.inl (List.mem_of_getElem? (i := 0) rfl))
    have c16 : SS p e below B0 T13 m 51 #[.val (.ref a1), .val (.ref r), .val (.int (0 : Int32)), .val (.int (2 : Int32)), .val .null, .val (.ref t1)] [] := Steps.trans c12 (st13 _ (Steps.refl _))
    have c17 : SS p e below B0 T13 m 54 #[.val (.ref a1), .val (.ref r), .val (.int (0 : Int32)), .val (.int (2 : Int32)), .val .null, .val (.ref t1)] [(.ref t1), (.ref a1)] := Steps.trans c16 (by
        refine XS.aloadN X13.here hx rfl (hb hby d0_51) rfl rfl ?_
        refine XS.aload X13.here hx rfl (hb hby d0_52) rfl rfl ?_
        exact Steps.refl _)
    have Fld19 : Fld Z h13 a1 "java/lang/String" "value" "[B" uv := ((Fv_a1.keep Kq8 nin0).other W13 (Or.inr (slot_ne (Or.inr (W hw 21)) (Or.inr (W hw 22)) (by decide) (t := (.array .byte)) (t' := .byte) (by decide) (by decide))))
    have Exa20 : Exa Z h13 a1 "java/lang/String" := (Exa15.wr W13)
    obtain ⟨T18, h18, X18, e18, W18, st18⟩ := putF X13 hx hZ hown (host := "") (Or.inl (W hw 25)) Via.refl e13 Fld19 Exa20 (Or.inr ⟨(W hw 21), rfl, hnm⟩) (W hw 7) (ty := (.array .byte)) (by decide) rfl rfl (g := (mkF m 54 #[.val (.ref a1), .val (.ref r), .val (.int (0 : Int32)), .val (.int (2 : Int32)), .val .null, .val (.ref t1)] [(.ref t1), (.ref a1)])) rfl rfl (hb hby d0_54)
    have N18 := Fr.snoc X18 N13 (by omega)
    have F18 : Fld Z h18 a1 "java/lang/String" "value" "[B" (.ref t1) := Fld19.same W18
    have z18 : h18.size = h13.size := W18.size
    have K18 := K13.wr W18 (Or.inl (List.mem_of_getElem? (i := 0) rfl))
    have c21 : SS p e below B0 T18 m 57 #[.val (.ref a1), .val (.ref r), .val (.int (0 : Int32)), .val (.int (2 : Int32)), .val .null, .val (.ref t1)] [] := Steps.trans c17 (st18 _ (Steps.refl _))
    have Fld22 : Fld Z h18 a1 "java/lang/String" "coder" "B" (.int (1 : Int32)) := (F13.other W18 (Or.inr (slot_ne (Or.inr (W hw 22)) (Or.inr (W hw 21)) (by decide) (t := .byte) (t' := (.array .byte)) (by decide) (by decide))))
    have Arv23 : Arv Z h18 t1 k1 .byte (4 : Int32) [(.int (nar .byte ((c0' >>> ((0 : Int32) &&& 31)).toInt8.toInt32))), (.int (nar .byte ((c0' >>> ((8 : Int32) &&& 31)).toInt8.toInt32))), (.int (nar .byte ((c1' >>> ((0 : Int32) &&& 31)).toInt8.toInt32))), (.int (nar .byte ((c1' >>> ((8 : Int32) &&& 31)).toInt8.toInt32)))] (.int (0 : Int32)) := ((av8.other W13 (own_ne (by omega))).other W18 (own_ne (by omega)))
    obtain ⟨fs, hr, hrun, hended, hW, hsame⟩ := X18.leave (v := none) (fun _ => rfl)
    subst hB0
    refine ⟨_, _, Steps.trans c21 ?_, hrun, hended, _, _, rfl, ?_, ⟨_, rfl⟩, hW, hsame.mono (by decide) (by decide)⟩
    · exact X18.returnOut hx Bd.returns (hb hby d0_57) hr
    · show QS2 Z a1 c0' c1' h0 n0 _ T18.heap _
      rw [e18]
      exact ⟨rfl, N18, K18, t1, k1, _, _, _, (by omega), Fld22, F18, Arv23, hspl⟩
set_option maxRecDepth 65536 in
set_option maxHeartbeats 40000000 in
theorem rmS1_2 (l : Launch) (Z : State) (a0 : Array Value) (hw : ∀ d ∈ tables_1, d.before a0 Z = true) (ws : List Jvm.Cond) (a1 r : Addr) (kc : ClassId) (c0' c1' : Int32) (uv uc : Value) (G1 : Int32) (h0 : Heap) (n0 : Nat) (Z0 : n0 ≤ h0.size) (E_a1 : Exa Z h0 a1 "java/lang/String") (Fv_a1 : Fld Z h0 a1 "java/lang/String" "value" "[B" uv) (Fc_a1 : Fld Z h0 a1 "java/lang/String" "coder" "B" uc) (O2 : Sta Z Z.heap "java/lang/String" "COMPACT_STRINGS" "Z" (.int G1)) (P5 : ¬ (G1 = (0 : Int32))) (O7 : Sta Z Z.heap "java/lang/StringUTF16" "$assertionsDisabled" "Z" (.int (1 : Int32))) (O8 : Sta Z Z.heap "java/lang/StringUTF16" "HI_BYTE_SHIFT" "I" (.int (0 : Int32))) (O9 : Sta Z Z.heap "java/lang/StringUTF16" "LO_BYTE_SHIFT" "I" (.int (8 : Int32))) (X00 : Old Z n0 h0) (Vr : Arv Z h0 r kc .char (2 : Int32) [(.int c0'), (.int c1')] (.int (0 : Int32))) (hc0 : ¬ c0' < 0 ∧ ¬ (65535 : Int32) < c0') (hc1 : ¬ c1' < 0 ∧ ¬ (65535 : Int32) < c1') (g_a1 : n0 ≤ a1) :
    MetFree l (⟨"java/lang/String", "<init>", "([C)V"⟩ : MethodName) (head1 (Jvm.Cond.code (⟨"java/lang/String", "<init>", "([C)V"⟩ : MethodName) jdk_42_method_3_code 2 none :: ws) ({ frames := 5, cells := 2, slots := 6, locals := 77 } : Room)) (fun a U => a = #[(.ref a1), (.ref r)] ∧ Z.Warmed39 U.vm ∧ U.heap = h0) (fun _ _ _ _ _ => True) (fun _ U o U' => ∃ v L, o = .returned v ∧ QS2 Z a1 c0' c1' h0 n0 v U'.heap L ∧ FrameEnd U o U' L ({ frames := 5, cells := 2, slots := 6, locals := 77 } : Room).cells ({ frames := 5, cells := 2, slots := 6, locals := 77 } : Room).slots) := by
  refine MetFree.of_bodySF (plainFor_of_name pn_java_lang_String) hisR ?_
  intro p e s m args below meth c s₁ Bd hml0 hP hK
  obtain ⟨rfl, hZ, hh⟩ := hP
  have hx := Bd.exec
  have hby := Bd.bytes
  have hml : c.maxLocals = 2 := hml0
  have hown : s.vm.findClass "java/lang/String" = some m.cls := findClass_of_methodNamed Bd.named
  have hnm := (name_of_methodNamed Bd.named Bd.method).1
  have X0 : Stand p l e ({ frames := 5, cells := 2, slots := 6, locals := 77 } : Room) s m #[(.ref a1), (.ref r)] below meth c s₁ [] 0 0 := Stand.of_body Bd
  have e0 : s₁.heap = h0 := by rw [← hh, Bd.state]; rfl
  have N0 := Fr.nil n0
  obtain ⟨B0, c0, hB0⟩ : ∃ B0, Steps p.tables e below B0 (s₁.setTop (mkF m 0 #[.val (.ref a1), .val (.ref r)] [])) ∧ B0 = s₁.setTop (entryFrame m #[(.ref a1), (.ref r)] 2) := ⟨_, castTop (ef_RR_2 m a1 r) (Steps.refl _), rfl⟩
  have lt_a1 : (@LT.lt Nat _ a1 h0.size) := E_a1.lt
  have lt_r : (@LT.lt Nat _ r h0.size) := Vr.lt
  have c1 : SS p e below B0 s₁ m 4 #[.val (.ref a1), .val (.ref r)] [(.ref r), (.int (0 : Int32)), (.ref r), (.ref a1)] := Steps.trans c0 (by
      refine XS.aloadN X0.here hx rfl (hb hby d1_0) rfl rfl ?_
      refine XS.aloadN X0.here hx rfl (hb hby d1_1) rfl rfl ?_
      refine XT.iconstV X0.here hx rfl (0 : Int32) (hb hby d1_2) (by decide) ?_
      refine XS.aloadN X0.here hx rfl (hb hby d1_3) rfl rfl ?_
      exact Steps.refl _)
  obtain ⟨cl2, Ar2, q2, Sz2, M2, Hs2, U2⟩ := id Vr
  have c3 : SS p e below B0 s₁ m 5 #[.val (.ref a1), .val (.ref r)] [(.int (2 : Int32)), (.int (0 : Int32)), (.ref r), (.ref a1)] := Steps.trans c1 (by
      refine X0.arraylength hx (by rw [e0]; exact Ar2.1) (State.isArrayOf_alike hZ.alike Ar2.2.1) (g := (mkF m 4 #[.val (.ref a1), .val (.ref r)] [(.ref r), (.int (0 : Int32)), (.ref r), (.ref a1)])) rfl rfl (hb hby d1_4) _ ?_
      rw [len_of Sz2 M2]
      exact Steps.refl _)
  have c4 : SS p e below B0 s₁ m 6 #[.val (.ref a1), .val (.ref r)] [.null, (.int (2 : Int32)), (.int (0 : Int32)), (.ref r), (.ref a1)] := Steps.trans c3 (by
      refine XS.aconstNull X0.here hx rfl (hb hby d1_5) ?_
      exact Steps.refl _)
  obtain ⟨_, _, ⟨T5, Lp5, kp5, np5⟩, -, X5, ⟨Lc5, hQ5, lp5, yp5, zp5⟩, st5⟩ := X0.specialBack hx (y := (⟨"java/lang/String", "<init>", "([CIILjava/lang/Void;)V"⟩ : MethodName)) rfl hown (mvT hZ (W hw 12)) (mvT hZ (W hw 13)) (mvT hZ (W hw 15)) (by decide) (backOf (W := 0) (rmS4_2 l Z a0 hw [] a1 r kc c0' c1' uv uc G1 h0 n0 Z0 E_a1 Fv_a1 Fc_a1 O2 P5 O7 O8 O9 X00 Vr hc0 hc1 g_a1) hZ (W hw 15) (W hw 8) (by decide) (by decide)) (g := (mkF m 6 #[.val (.ref a1), .val (.ref r)] [.null, (.int (2 : Int32)), (.int (0 : Int32)), (.ref r), (.ref a1)])) rfl (by rw [hml]; rfl) c4 (a := a1) (argsL := [(.ref r), (.int (0 : Int32)), (.int (2 : Int32)), .null]) (rest := []) (lenOf pd___CIILjava_lang_Void__V rfl) rfl (by show 2 * 0 + _ ≤ _; exact Nat.le_of_eq rfl) (hb hby d1_6) (fun _ _ => ⟨rfl, e0, (by decide : 0 + 2 ≤ _), (by decide : 0 + 6 ≤ _)⟩)
  dsimp only [Pt.U, Pt.locs, Pt.cells, Pt.slots] at X5 lp5 yp5 zp5 st5 hQ5
  subst lp5 yp5 zp5
  obtain ⟨rfl, Nq5, Kq5, t1, k1, cd, N_, vs, g5, fc5, fv5, av5, hspl⟩ := hQ5
  have N5 := Fr.app N0 Nq5
  obtain ⟨h5, e5⟩ : ∃ z, T5.heap = z := ⟨_, rfl⟩
  rw [e5] at Kq5 fc5 fv5 av5
  have z5 : h0.size ≤ h5.size := Kq5.1
  have K5 := (Keep.refl h0 [a1]).trans Kq5 (allS (Or.inl (List.mem_of_getElem? (i := 0) rfl)) all0)
  have c6 : SS p e below B0 T5 m 9 #[.val (.ref a1), .val (.ref r)] [] := st5
  obtain ⟨fs, hr, hrun, hended, hW, hsame⟩ := X5.leave (v := none) (fun _ => rfl)
  subst hB0
  refine ⟨_, _, Steps.trans c6 ?_, hrun, hended, _, _, rfl, ?_, ⟨_, rfl⟩, hW, hsame.mono (by decide) (by decide)⟩
  · exact X5.returnOut hx Bd.returns (hb hby d1_9) hr
  · show QS2 Z a1 c0' c1' h0 n0 _ T5.heap _
    rw [e5]
    exact ⟨rfl, N5, K5, t1, k1, cd, N_, vs, g5, fc5, fv5, av5, hspl⟩
def QNl3 (h0 : Heap) (n0 : Nat) (v : Option Value) (h : Heap) (L : List Loc) : Prop := v = some (.int (6 : Int32)) ∧ Fr n0 L ∧ h = h0
set_option maxRecDepth 65536 in
set_option maxHeartbeats 40000000 in
theorem rmNl3 (l : Launch) (Z : State) (a0 : Array Value) (hw : ∀ d ∈ tables_1, d.before a0 Z = true) (ws : List Jvm.Cond)  (h0 : Heap) (n0 : Nat) (Z0 : n0 ≤ h0.size)  :
    MetFree l (⟨"java/lang/StringUTF16", "newBytesLength", "(I)I"⟩ : MethodName) (head1 (Jvm.Cond.code (⟨"java/lang/StringUTF16", "newBytesLength", "(I)I"⟩ : MethodName) jdk_52_method_3_code 1 (some .int) :: ws) ({ frames := 0, cells := 0, slots := 0, locals := 0 } : Room)) (fun a U => a = #[(.int (3 : Int32))] ∧ Z.Warmed39 U.vm ∧ U.heap = h0) (fun _ _ _ _ _ => True) (fun _ U o U' => ∃ v L, o = .returned v ∧ QNl3 h0 n0 v U'.heap L ∧ FrameEnd U o U' L ({ frames := 0, cells := 0, slots := 0, locals := 0 } : Room).cells ({ frames := 0, cells := 0, slots := 0, locals := 0 } : Room).slots) := by
  refine MetFree.of_bodySF (plainFor_of_name pn_java_lang_StringUTF16) hisR ?_
  intro p e s m args below meth c s₁ Bd hml0 hP hK
  obtain ⟨rfl, hZ, hh⟩ := hP
  have hx := Bd.exec
  have hby := Bd.bytes
  have hml : c.maxLocals = 1 := hml0
  have hown : s.vm.findClass "java/lang/StringUTF16" = some m.cls := findClass_of_methodNamed Bd.named
  have hnm := (name_of_methodNamed Bd.named Bd.method).1
  have X0 : Stand p l e ({ frames := 0, cells := 0, slots := 0, locals := 0 } : Room) s m #[(.int (3 : Int32))] below meth c s₁ [] 0 0 := Stand.of_body Bd
  have e0 : s₁.heap = h0 := by rw [← hh, Bd.state]; rfl
  have N0 := Fr.nil n0
  obtain ⟨B0, c0, hB0⟩ : ∃ B0, Steps p.tables e below B0 (s₁.setTop (mkF m 0 #[.val (.int (3 : Int32))] [])) ∧ B0 = s₁.setTop (entryFrame m #[(.int (3 : Int32))] 1) := ⟨_, castTop (ef_I_1 m (3 : Int32)) (Steps.refl _), rfl⟩
  have c1 : SS p e below B0 s₁ m 58 #[.val (.int (3 : Int32))] [(.int (6 : Int32))] := Steps.trans c0 (by
      refine XS.iloadN X0.here hx rfl (hb hby d6_0) rfl ?_
      refine XS.ifYes X0.here hx rfl (pc0 := 1) (pc' := 12) rfl (hb hby d6_1) rfl ((if0 _ _).trans (flt (by decide : ¬ (3 : Int32) < (0 : Int32))).2.1) (by decide) (by decide) ?_
      refine XS.iloadN X0.here hx rfl (hb hby d6_12) rfl ?_
      refine X0.ldcI hx hown (mvT hZ (W hw 102)) rfl (hb hby d6_13) ?_
      refine XS.icmpYes X0.here hx rfl (pc0 := 15) (pc' := 55) rfl (hb hby d6_15) rfl (tlt (by decide : (3 : Int32) < (1073741823 : Int32))).1 (by decide) (by decide) ?_
      refine XS.iloadN X0.here hx rfl (hb hby d6_55) rfl ?_
      refine XT.iconstV X0.here hx rfl (1 : Int32) (hb hby d6_56) (by decide) ?_
      refine XS.ishl X0.here hx rfl (hb hby d6_57) rfl ?_
      exact Steps.refl _)
  obtain ⟨fs, hr, hrun, hended, hW, hsame⟩ := X0.leave (v := some (.int (6 : Int32))) (fun h => by rw [Bd.returns] at h; cases h)
  subst hB0
  refine ⟨_, _, Steps.trans c1 ?_, hrun, hended, _, _, rfl, ?_, ⟨_, rfl⟩, hW, hsame.mono (by decide) (by decide)⟩
  · exact retI X0 hx Bd.returns (hb hby d6_58) hr
  · show QNl3 h0 n0 _ s₁.heap _
    rw [e0]
    exact ⟨rfl, N0, rfl⟩
def QNf3 (Z : State) (h0 : Heap) (n0 : Nat) (v : Option Value) (h : Heap) (L : List Loc) : Prop := ∃ (t : Addr) (k : ClassId), v = some (.ref t) ∧ Fr n0 L ∧ Keep h0 h [] ∧ (@Eq Nat t h0.size) ∧ Arv Z h t k .byte (6 : Int32) [(.int (0 : Int32)), (.int (0 : Int32)), (.int (0 : Int32)), (.int (0 : Int32)), (.int (0 : Int32)), (.int (0 : Int32))] (.int (0 : Int32))
set_option maxRecDepth 65536 in
set_option maxHeartbeats 40000000 in
theorem rmNf3 (l : Launch) (Z : State) (a0 : Array Value) (hw : ∀ d ∈ tables_1, d.before a0 Z = true) (ws : List Jvm.Cond)  (h0 : Heap) (n0 : Nat) (Z0 : n0 ≤ h0.size)  :
    MetFree l (⟨"java/lang/StringUTF16", "newBytesFor", "(I)[B"⟩ : MethodName) (head1 (Jvm.Cond.code (⟨"java/lang/StringUTF16", "newBytesFor", "(I)[B"⟩ : MethodName) jdk_52_method_2_code 1 (some (.array .byte)) :: ws) ({ frames := 1, cells := 1, slots := 6, locals := 12 } : Room)) (fun a U => a = #[(.int (3 : Int32))] ∧ Z.Warmed39 U.vm ∧ U.heap = h0) (fun _ _ _ _ _ => True) (fun _ U o U' => ∃ v L, o = .returned v ∧ QNf3 Z h0 n0 v U'.heap L ∧ FrameEnd U o U' L ({ frames := 1, cells := 1, slots := 6, locals := 12 } : Room).cells ({ frames := 1, cells := 1, slots := 6, locals := 12 } : Room).slots) := by
  refine MetFree.of_bodySF (plainFor_of_name pn_java_lang_StringUTF16) hisR ?_
  intro p e s m args below meth c s₁ Bd hml0 hP hK
  obtain ⟨rfl, hZ, hh⟩ := hP
  have hx := Bd.exec
  have hby := Bd.bytes
  have hml : c.maxLocals = 1 := hml0
  have hown : s.vm.findClass "java/lang/StringUTF16" = some m.cls := findClass_of_methodNamed Bd.named
  have hnm := (name_of_methodNamed Bd.named Bd.method).1
  have X0 : Stand p l e ({ frames := 1, cells := 1, slots := 6, locals := 12 } : Room) s m #[(.int (3 : Int32))] below meth c s₁ [] 0 0 := Stand.of_body Bd
  have e0 : s₁.heap = h0 := by rw [← hh, Bd.state]; rfl
  have N0 := Fr.nil n0
  obtain ⟨B0, c0, hB0⟩ : ∃ B0, Steps p.tables e below B0 (s₁.setTop (mkF m 0 #[.val (.int (3 : Int32))] [])) ∧ B0 = s₁.setTop (entryFrame m #[(.int (3 : Int32))] 1) := ⟨_, castTop (ef_I_1 m (3 : Int32)) (Steps.refl _), rfl⟩
  have c1 : SS p e below B0 s₁ m 1 #[.val (.int (3 : Int32))] [(.int (3 : Int32))] := Steps.trans c0 (by
      refine XS.iloadN X0.here hx rfl (hb hby d7_0) rfl ?_
      exact Steps.refl _)
  obtain ⟨_, _, ⟨T2, Lp2, kp2, np2⟩, -, X2, ⟨Lc2, hQ2, lp2, yp2, zp2⟩, st2⟩ := Jvm.LawKit.callS X0 hx (y := (⟨"java/lang/StringUTF16", "newBytesLength", "(I)I"⟩ : MethodName)) hown (mvT hZ (W hw 99)) (mvT hZ (W hw 100)) (mvT hZ (W hw 64)) (mvT hZ (W hw 101)) (by decide) (backOf (W := 0) (rmNl3 l Z a0 hw [] h0 n0 Z0) hZ (W hw 101) (W hw 64) (by decide) (by decide)) (g := (mkF m 1 #[.val (.int (3 : Int32))] [(.int (3 : Int32))])) rfl (by rw [hml]; rfl) (argsL := [(.int (3 : Int32))]) (rest := []) (lenOf pd__I_I rfl) rfl (by show 2 * 0 + _ ≤ _; exact Nat.le_of_eq rfl) (hb hby d7_1) (fun _ _ => ⟨rfl, e0, (by decide : 0 + 0 ≤ _), (by decide : 0 + 0 ≤ _)⟩)
  dsimp only [Pt.U, Pt.locs, Pt.cells, Pt.slots] at X2 lp2 yp2 zp2 st2 hQ2
  subst lp2 yp2 zp2
  obtain ⟨rfl, Nq2, eq2⟩ := hQ2
  have N2 := Fr.app N0 Nq2
  have c3 : SS p e below B0 T2 m 4 #[.val (.int (3 : Int32))] [(.int (6 : Int32))] := Steps.trans c1 (st2 _ (Steps.refl _))
  obtain ⟨T4, h4, k1, X4, e4, E4, A4, st4⟩ := newP X2 hx hZ (W hw 20) eq2 (g := (mkF m 4 #[.val (.int (3 : Int32))] [(.int (6 : Int32))])) rfl (hb hby d7_4) rfl (by decide : ¬ ((6 : Int32) < (0 : Int32))) (cap := 6) (by decide : (6 : Int32).toNatClampNeg ≤ 6) (by decide) (by decide) (by decide)
  obtain ⟨t1, g4⟩ : ∃ z, z = h0.size := ⟨_, rfl⟩
  rw [← g4] at A4 st4
  have z4 : h0.size ≤ h4.size := E4.1
  have l4 : (@LT.lt Nat _ t1 h4.size) := A4.lt
  have K4 := (Keep.refl h0 []).ext E4
  have V4 : Arv Z h4 t1 k1 .byte (6 : Int32) [(.int (0 : Int32)), (.int (0 : Int32)), (.int (0 : Int32)), (.int (0 : Int32)), (.int (0 : Int32)), (.int (0 : Int32))] (.int (0 : Int32)) := (Arv.new A4 (by decide)).pad (pad_rep [] (.int (0 : Int32)) 6)
  have c5 : SS p e below B0 T4 m 6 #[.val (.int (3 : Int32))] [(.ref t1)] := Steps.trans c3 (st4 _ (Steps.refl _))
  obtain ⟨fs, hr, hrun, hended, hW, hsame⟩ := X4.leave (v := some (.ref t1)) (fun h => by rw [Bd.returns] at h; cases h)
  subst hB0
  refine ⟨_, _, Steps.trans c5 ?_, hrun, hended, _, _, rfl, ?_, ⟨_, rfl⟩, hW, hsame.mono (by decide) (by decide)⟩
  · exact retR X4 hx Bd.returns rfl rfl rfl (hb hby d7_6) hr
  · show QNf3 Z h0 n0 _ T4.heap _
    rw [e4]
    exact ⟨t1, k1, rfl, N2, K4, (by omega), V4⟩
def QPut3_0 (Z : State) (t : Addr) (k : ClassId) (pv : Int32) (u0 u1 u2 u3 u4 u5 : Value) (h0 : Heap) (n0 : Nat) (v : Option Value) (h : Heap) (L : List Loc) : Prop := v = none ∧ Fr n0 L ∧ Keep h0 h [t] ∧ Arv Z h t k .byte (6 : Int32) [(.int (nar .byte ((pv >>> ((0 : Int32) &&& 31)).toInt8.toInt32))), (.int (nar .byte ((pv >>> ((8 : Int32) &&& 31)).toInt8.toInt32))), u2, u3, u4, u5] (.int (0 : Int32))
set_option maxRecDepth 65536 in
set_option maxHeartbeats 40000000 in
theorem rmPut3_0 (l : Launch) (Z : State) (a0 : Array Value) (hw : ∀ d ∈ tables_1, d.before a0 Z = true) (ws : List Jvm.Cond) (t : Addr) (k : ClassId) (pv : Int32) (u0 u1 u2 u3 u4 u5 : Value) (h0 : Heap) (n0 : Nat) (Z0 : n0 ≤ h0.size) (O7 : Sta Z Z.heap "java/lang/StringUTF16" "$assertionsDisabled" "Z" (.int (1 : Int32))) (O8 : Sta Z Z.heap "java/lang/StringUTF16" "HI_BYTE_SHIFT" "I" (.int (0 : Int32))) (O9 : Sta Z Z.heap "java/lang/StringUTF16" "LO_BYTE_SHIFT" "I" (.int (8 : Int32))) (X00 : Old Z n0 h0) (Vt : Arv Z h0 t k .byte (6 : Int32) [u0, u1, u2, u3, u4, u5] (.int (0 : Int32))) (gt : n0 ≤ t) :
    MetFree l (⟨"java/lang/StringUTF16", "putChar", "([BII)V"⟩ : MethodName) (head1 (Jvm.Cond.code (⟨"java/lang/StringUTF16", "putChar", "([BII)V"⟩ : MethodName) jdk_52_method_4_code 3 none :: ws) ({ frames := 0, cells := 0, slots := 0, locals := 0 } : Room)) (fun a U => a = #[(.ref t), (.int (0 : Int32)), (.int pv)] ∧ Z.Warmed39 U.vm ∧ U.heap = h0) (fun _ _ _ _ _ => True) (fun _ U o U' => ∃ v L, o = .returned v ∧ QPut3_0 Z t k pv u0 u1 u2 u3 u4 u5 h0 n0 v U'.heap L ∧ FrameEnd U o U' L ({ frames := 0, cells := 0, slots := 0, locals := 0 } : Room).cells ({ frames := 0, cells := 0, slots := 0, locals := 0 } : Room).slots) := by
  refine MetFree.of_bodySF (plainFor_of_name pn_java_lang_StringUTF16) hisR ?_
  intro p e s m args below meth c s₁ Bd hml0 hP hK
  obtain ⟨rfl, hZ, hh⟩ := hP
  have hx := Bd.exec
  have hby := Bd.bytes
  have hml : c.maxLocals = 3 := hml0
  have hown : s.vm.findClass "java/lang/StringUTF16" = some m.cls := findClass_of_methodNamed Bd.named
  have hnm := (name_of_methodNamed Bd.named Bd.method).1
  have X0 : Stand p l e ({ frames := 0, cells := 0, slots := 0, locals := 0 } : Room) s m #[(.ref t), (.int (0 : Int32)), (.int pv)] below meth c s₁ [] 0 0 := Stand.of_body Bd
  have e0 : s₁.heap = h0 := by rw [← hh, Bd.state]; rfl
  have N0 := Fr.nil n0
  obtain ⟨B0, c0, hB0⟩ : ∃ B0, Steps p.tables e below B0 (s₁.setTop (mkF m 0 #[.val (.ref t), .val (.int (0 : Int32)), .val (.int pv)] [])) ∧ B0 = s₁.setTop (entryFrame m #[(.ref t), (.int (0 : Int32)), (.int pv)] 3) := ⟨_, castTop (ef_RII_3 m t (0 : Int32) pv) (Steps.refl _), rfl⟩
  have lt_t : (@LT.lt Nat _ t h0.size) := Vt.lt
  obtain ⟨T1, X1, e1, st1⟩ := getS X0 hx hZ (host := "") hown (W hw 106) Via.refl e0 (O7.ext X00.2) (g := (mkF m 0 #[.val (.ref t), .val (.int (0 : Int32)), .val (.int pv)] [])) rfl (hb hby d8_0)
  have c2 : SS p e below B0 T1 m 3 #[.val (.ref t), .val (.int (0 : Int32)), .val (.int pv)] [(.int (1 : Int32))] := Steps.trans c0 (st1 _ (Steps.refl _))
  have c3 : SS p e below B0 T1 m 38 #[.val (.ref t), .val (.int (1 : Int32)), .val (.int pv)] [(.int pv), (.int (0 : Int32)), (.ref t)] := Steps.trans c2 (by
      refine XS.ifYes X1.here hx rfl (pc0 := 3) (pc' := 28) rfl (hb hby d8_3) rfl ((if0 _ _).trans (feq (by decide : ¬ (1 : Int32) = (0 : Int32))).2) (by decide) (by decide) ?_
      refine XS.iloadN X1.here hx rfl (hb hby d8_28) rfl ?_
      refine XT.iconstV X1.here hx rfl (1 : Int32) (hb hby d8_29) (by decide) ?_
      refine XS.ishl X1.here hx rfl (hb hby d8_30) rfl ?_
      refine XS.istoreN X1.here hx rfl (hb hby d8_31) rfl (l' := #[.val (.ref t), .val (.int (0 : Int32)), .val (.int pv)]) rfl ?_
      refine XS.aloadN X1.here hx rfl (hb hby d8_32) rfl rfl ?_
      refine XS.iloadN X1.here hx rfl (hb hby d8_33) rfl ?_
      refine XT.iincV X1.here hx rfl (1 : Int32) (hb hby d8_34) (by decide) rfl (l' := #[.val (.ref t), .val (.int (1 : Int32)), .val (.int pv)]) rfl ?_
      refine XS.iloadN X1.here hx rfl (hb hby d8_37) rfl ?_
      exact Steps.refl _)
  obtain ⟨T4, X4, e4, st4⟩ := getS X1 hx hZ (host := "") hown (W hw 107) Via.refl e1 (O8.ext X00.2) (g := (mkF m 38 #[.val (.ref t), .val (.int (1 : Int32)), .val (.int pv)] [(.int pv), (.int (0 : Int32)), (.ref t)])) rfl (hb hby d8_38)
  have c5 : SS p e below B0 T4 m 41 #[.val (.ref t), .val (.int (1 : Int32)), .val (.int pv)] [(.int (0 : Int32)), (.int pv), (.int (0 : Int32)), (.ref t)] := Steps.trans c3 (st4 _ (Steps.refl _))
  have c6 : SS p e below B0 T4 m 43 #[.val (.ref t), .val (.int (1 : Int32)), .val (.int pv)] [(.int ((pv >>> ((0 : Int32) &&& 31)).toInt8.toInt32)), (.int (0 : Int32)), (.ref t)] := Steps.trans c5 (by
      refine XS.ishr X4.here hx rfl (hb hby d8_41) rfl ?_
      refine XS.i2b X4.here hx rfl (hb hby d8_42) rfl ?_
      exact Steps.refl _)
  obtain ⟨cl7, Ar7, q7, Sz7, M7, Hs7, U7⟩ := id Vt
  obtain ⟨T7, h7, X7, e7, W7, st7⟩ := stB X4 hx hZ e4 Ar7 (j := (0 : Int32)) (inb_of Sz7 ⟨(by decide), (by decide)⟩) (g := (mkF m 43 #[.val (.ref t), .val (.int (1 : Int32)), .val (.int pv)] [(.int ((pv >>> ((0 : Int32) &&& 31)).toInt8.toInt32)), (.int (0 : Int32)), (.ref t)])) rfl rfl (hb hby d8_43)
  have N7 := Fr.snoc X7 N0 (by omega)
  have V7 : Arv Z h7 t k .byte (6 : Int32) [(.int (nar .byte ((pv >>> ((0 : Int32) &&& 31)).toInt8.toInt32))), u1, u2, u3, u4, u5] (.int (0 : Int32)) := Arv.set Ar7 q7 Sz7 M7 Hs7 U7 (fits_nar_byte _) W7 0 rfl (Nat.le_of_ble_eq_true rfl)
  have z7 : h7.size = h0.size := W7.size
  have K7 := (Keep.refl h0 [t]).wr W7 (Or.inl (List.mem_of_getElem? (i := 0) rfl))
  have c8 : SS p e below B0 T7 m 44 #[.val (.ref t), .val (.int (1 : Int32)), .val (.int pv)] [] := Steps.trans c6 (st7 _ (Steps.refl _))
  have Old9 : Old Z n0 h7 := (X00.wr W7 (by omega))
  have c10 : SS p e below B0 T7 m 47 #[.val (.ref t), .val (.int (1 : Int32)), .val (.int pv)] [(.int pv), (.int (1 : Int32)), (.ref t)] := Steps.trans c8 (by
      refine XS.aloadN X7.here hx rfl (hb hby d8_44) rfl rfl ?_
      refine XS.iloadN X7.here hx rfl (hb hby d8_45) rfl ?_
      refine XS.iloadN X7.here hx rfl (hb hby d8_46) rfl ?_
      exact Steps.refl _)
  obtain ⟨T11, X11, e11, st11⟩ := getS X7 hx hZ (host := "") hown (W hw 108) Via.refl e7 (O9.ext Old9.2) (g := (mkF m 47 #[.val (.ref t), .val (.int (1 : Int32)), .val (.int pv)] [(.int pv), (.int (1 : Int32)), (.ref t)])) rfl (hb hby d8_47)
  have c12 : SS p e below B0 T11 m 50 #[.val (.ref t), .val (.int (1 : Int32)), .val (.int pv)] [(.int (8 : Int32)), (.int pv), (.int (1 : Int32)), (.ref t)] := Steps.trans c10 (st11 _ (Steps.refl _))
  have c13 : SS p e below B0 T11 m 52 #[.val (.ref t), .val (.int (1 : Int32)), .val (.int pv)] [(.int ((pv >>> ((8 : Int32) &&& 31)).toInt8.toInt32)), (.int (1 : Int32)), (.ref t)] := Steps.trans c12 (by
      refine XS.ishr X11.here hx rfl (hb hby d8_50) rfl ?_
      refine XS.i2b X11.here hx rfl (hb hby d8_51) rfl ?_
      exact Steps.refl _)
  obtain ⟨cl14, Ar14, q14, Sz14, M14, Hs14, U14⟩ := id V7
  obtain ⟨T14, h14, X14, e14, W14, st14⟩ := stB X11 hx hZ e11 Ar14 (j := (1 : Int32)) (inb_of Sz14 ⟨(by decide), (by decide)⟩) (g := (mkF m 52 #[.val (.ref t), .val (.int (1 : Int32)), .val (.int pv)] [(.int ((pv >>> ((8 : Int32) &&& 31)).toInt8.toInt32)), (.int (1 : Int32)), (.ref t)])) rfl rfl (hb hby d8_52)
  have N14 := Fr.snoc X14 N7 (by omega)
  have V14 : Arv Z h14 t k .byte (6 : Int32) [(.int (nar .byte ((pv >>> ((0 : Int32) &&& 31)).toInt8.toInt32))), (.int (nar .byte ((pv >>> ((8 : Int32) &&& 31)).toInt8.toInt32))), u2, u3, u4, u5] (.int (0 : Int32)) := Arv.set Ar14 q14 Sz14 M14 Hs14 U14 (fits_nar_byte _) W14 1 rfl (Nat.le_of_ble_eq_true rfl)
  have z14 : h14.size = h7.size := W14.size
  have K14 := K7.wr W14 (Or.inl (List.mem_of_getElem? (i := 0) rfl))
  have c15 : SS p e below B0 T14 m 53 #[.val (.ref t), .val (.int (1 : Int32)), .val (.int pv)] [] := Steps.trans c13 (st14 _ (Steps.refl _))
  obtain ⟨fs, hr, hrun, hended, hW, hsame⟩ := X14.leave (v := none) (fun _ => rfl)
  subst hB0
  refine ⟨_, _, Steps.trans c15 ?_, hrun, hended, _, _, rfl, ?_, ⟨_, rfl⟩, hW, hsame.mono (by decide) (by decide)⟩
  · exact X14.returnOut hx Bd.returns (hb hby d8_53) hr
  · show QPut3_0 Z t k pv u0 u1 u2 u3 u4 u5 h0 n0 _ T14.heap _
    rw [e14]
    exact ⟨rfl, N14, K14, V14⟩
def QPut3_1 (Z : State) (t : Addr) (k : ClassId) (pv : Int32) (u0 u1 u2 u3 u4 u5 : Value) (h0 : Heap) (n0 : Nat) (v : Option Value) (h : Heap) (L : List Loc) : Prop := v = none ∧ Fr n0 L ∧ Keep h0 h [t] ∧ Arv Z h t k .byte (6 : Int32) [u0, u1, (.int (nar .byte ((pv >>> ((0 : Int32) &&& 31)).toInt8.toInt32))), (.int (nar .byte ((pv >>> ((8 : Int32) &&& 31)).toInt8.toInt32))), u4, u5] (.int (0 : Int32))
set_option maxRecDepth 65536 in
set_option maxHeartbeats 40000000 in
theorem rmPut3_1 (l : Launch) (Z : State) (a0 : Array Value) (hw : ∀ d ∈ tables_1, d.before a0 Z = true) (ws : List Jvm.Cond) (t : Addr) (k : ClassId) (pv : Int32) (u0 u1 u2 u3 u4 u5 : Value) (h0 : Heap) (n0 : Nat) (Z0 : n0 ≤ h0.size) (O7 : Sta Z Z.heap "java/lang/StringUTF16" "$assertionsDisabled" "Z" (.int (1 : Int32))) (O8 : Sta Z Z.heap "java/lang/StringUTF16" "HI_BYTE_SHIFT" "I" (.int (0 : Int32))) (O9 : Sta Z Z.heap "java/lang/StringUTF16" "LO_BYTE_SHIFT" "I" (.int (8 : Int32))) (X00 : Old Z n0 h0) (Vt : Arv Z h0 t k .byte (6 : Int32) [u0, u1, u2, u3, u4, u5] (.int (0 : Int32))) (gt : n0 ≤ t) :
    MetFree l (⟨"java/lang/StringUTF16", "putChar", "([BII)V"⟩ : MethodName) (head1 (Jvm.Cond.code (⟨"java/lang/StringUTF16", "putChar", "([BII)V"⟩ : MethodName) jdk_52_method_4_code 3 none :: ws) ({ frames := 0, cells := 0, slots := 0, locals := 0 } : Room)) (fun a U => a = #[(.ref t), (.int (1 : Int32)), (.int pv)] ∧ Z.Warmed39 U.vm ∧ U.heap = h0) (fun _ _ _ _ _ => True) (fun _ U o U' => ∃ v L, o = .returned v ∧ QPut3_1 Z t k pv u0 u1 u2 u3 u4 u5 h0 n0 v U'.heap L ∧ FrameEnd U o U' L ({ frames := 0, cells := 0, slots := 0, locals := 0 } : Room).cells ({ frames := 0, cells := 0, slots := 0, locals := 0 } : Room).slots) := by
  refine MetFree.of_bodySF (plainFor_of_name pn_java_lang_StringUTF16) hisR ?_
  intro p e s m args below meth c s₁ Bd hml0 hP hK
  obtain ⟨rfl, hZ, hh⟩ := hP
  have hx := Bd.exec
  have hby := Bd.bytes
  have hml : c.maxLocals = 3 := hml0
  have hown : s.vm.findClass "java/lang/StringUTF16" = some m.cls := findClass_of_methodNamed Bd.named
  have hnm := (name_of_methodNamed Bd.named Bd.method).1
  have X0 : Stand p l e ({ frames := 0, cells := 0, slots := 0, locals := 0 } : Room) s m #[(.ref t), (.int (1 : Int32)), (.int pv)] below meth c s₁ [] 0 0 := Stand.of_body Bd
  have e0 : s₁.heap = h0 := by rw [← hh, Bd.state]; rfl
  have N0 := Fr.nil n0
  obtain ⟨B0, c0, hB0⟩ : ∃ B0, Steps p.tables e below B0 (s₁.setTop (mkF m 0 #[.val (.ref t), .val (.int (1 : Int32)), .val (.int pv)] [])) ∧ B0 = s₁.setTop (entryFrame m #[(.ref t), (.int (1 : Int32)), (.int pv)] 3) := ⟨_, castTop (ef_RII_3 m t (1 : Int32) pv) (Steps.refl _), rfl⟩
  have lt_t : (@LT.lt Nat _ t h0.size) := Vt.lt
  obtain ⟨T1, X1, e1, st1⟩ := getS X0 hx hZ (host := "") hown (W hw 106) Via.refl e0 (O7.ext X00.2) (g := (mkF m 0 #[.val (.ref t), .val (.int (1 : Int32)), .val (.int pv)] [])) rfl (hb hby d8_0)
  have c2 : SS p e below B0 T1 m 3 #[.val (.ref t), .val (.int (1 : Int32)), .val (.int pv)] [(.int (1 : Int32))] := Steps.trans c0 (st1 _ (Steps.refl _))
  have c3 : SS p e below B0 T1 m 38 #[.val (.ref t), .val (.int (3 : Int32)), .val (.int pv)] [(.int pv), (.int (2 : Int32)), (.ref t)] := Steps.trans c2 (by
      refine XS.ifYes X1.here hx rfl (pc0 := 3) (pc' := 28) rfl (hb hby d8_3) rfl ((if0 _ _).trans (feq (by decide : ¬ (1 : Int32) = (0 : Int32))).2) (by decide) (by decide) ?_
      refine XS.iloadN X1.here hx rfl (hb hby d8_28) rfl ?_
      refine XT.iconstV X1.here hx rfl (1 : Int32) (hb hby d8_29) (by decide) ?_
      refine XS.ishl X1.here hx rfl (hb hby d8_30) rfl ?_
      refine XS.istoreN X1.here hx rfl (hb hby d8_31) rfl (l' := #[.val (.ref t), .val (.int (2 : Int32)), .val (.int pv)]) rfl ?_
      refine XS.aloadN X1.here hx rfl (hb hby d8_32) rfl rfl ?_
      refine XS.iloadN X1.here hx rfl (hb hby d8_33) rfl ?_
      refine XT.iincV X1.here hx rfl (1 : Int32) (hb hby d8_34) (by decide) rfl (l' := #[.val (.ref t), .val (.int (3 : Int32)), .val (.int pv)]) rfl ?_
      refine XS.iloadN X1.here hx rfl (hb hby d8_37) rfl ?_
      exact Steps.refl _)
  obtain ⟨T4, X4, e4, st4⟩ := getS X1 hx hZ (host := "") hown (W hw 107) Via.refl e1 (O8.ext X00.2) (g := (mkF m 38 #[.val (.ref t), .val (.int (3 : Int32)), .val (.int pv)] [(.int pv), (.int (2 : Int32)), (.ref t)])) rfl (hb hby d8_38)
  have c5 : SS p e below B0 T4 m 41 #[.val (.ref t), .val (.int (3 : Int32)), .val (.int pv)] [(.int (0 : Int32)), (.int pv), (.int (2 : Int32)), (.ref t)] := Steps.trans c3 (st4 _ (Steps.refl _))
  have c6 : SS p e below B0 T4 m 43 #[.val (.ref t), .val (.int (3 : Int32)), .val (.int pv)] [(.int ((pv >>> ((0 : Int32) &&& 31)).toInt8.toInt32)), (.int (2 : Int32)), (.ref t)] := Steps.trans c5 (by
      refine XS.ishr X4.here hx rfl (hb hby d8_41) rfl ?_
      refine XS.i2b X4.here hx rfl (hb hby d8_42) rfl ?_
      exact Steps.refl _)
  obtain ⟨cl7, Ar7, q7, Sz7, M7, Hs7, U7⟩ := id Vt
  obtain ⟨T7, h7, X7, e7, W7, st7⟩ := stB X4 hx hZ e4 Ar7 (j := (2 : Int32)) (inb_of Sz7 ⟨(by decide), (by decide)⟩) (g := (mkF m 43 #[.val (.ref t), .val (.int (3 : Int32)), .val (.int pv)] [(.int ((pv >>> ((0 : Int32) &&& 31)).toInt8.toInt32)), (.int (2 : Int32)), (.ref t)])) rfl rfl (hb hby d8_43)
  have N7 := Fr.snoc X7 N0 (by omega)
  have V7 : Arv Z h7 t k .byte (6 : Int32) [u0, u1, (.int (nar .byte ((pv >>> ((0 : Int32) &&& 31)).toInt8.toInt32))), u3, u4, u5] (.int (0 : Int32)) := Arv.set Ar7 q7 Sz7 M7 Hs7 U7 (fits_nar_byte _) W7 2 rfl (Nat.le_of_ble_eq_true rfl)
  have z7 : h7.size = h0.size := W7.size
  have K7 := (Keep.refl h0 [t]).wr W7 (Or.inl (List.mem_of_getElem? (i := 0) rfl))
  have c8 : SS p e below B0 T7 m 44 #[.val (.ref t), .val (.int (3 : Int32)), .val (.int pv)] [] := Steps.trans c6 (st7 _ (Steps.refl _))
  have Old9 : Old Z n0 h7 := (X00.wr W7 (by omega))
  have c10 : SS p e below B0 T7 m 47 #[.val (.ref t), .val (.int (3 : Int32)), .val (.int pv)] [(.int pv), (.int (3 : Int32)), (.ref t)] := Steps.trans c8 (by
      refine XS.aloadN X7.here hx rfl (hb hby d8_44) rfl rfl ?_
      refine XS.iloadN X7.here hx rfl (hb hby d8_45) rfl ?_
      refine XS.iloadN X7.here hx rfl (hb hby d8_46) rfl ?_
      exact Steps.refl _)
  obtain ⟨T11, X11, e11, st11⟩ := getS X7 hx hZ (host := "") hown (W hw 108) Via.refl e7 (O9.ext Old9.2) (g := (mkF m 47 #[.val (.ref t), .val (.int (3 : Int32)), .val (.int pv)] [(.int pv), (.int (3 : Int32)), (.ref t)])) rfl (hb hby d8_47)
  have c12 : SS p e below B0 T11 m 50 #[.val (.ref t), .val (.int (3 : Int32)), .val (.int pv)] [(.int (8 : Int32)), (.int pv), (.int (3 : Int32)), (.ref t)] := Steps.trans c10 (st11 _ (Steps.refl _))
  have c13 : SS p e below B0 T11 m 52 #[.val (.ref t), .val (.int (3 : Int32)), .val (.int pv)] [(.int ((pv >>> ((8 : Int32) &&& 31)).toInt8.toInt32)), (.int (3 : Int32)), (.ref t)] := Steps.trans c12 (by
      refine XS.ishr X11.here hx rfl (hb hby d8_50) rfl ?_
      refine XS.i2b X11.here hx rfl (hb hby d8_51) rfl ?_
      exact Steps.refl _)
  obtain ⟨cl14, Ar14, q14, Sz14, M14, Hs14, U14⟩ := id V7
  obtain ⟨T14, h14, X14, e14, W14, st14⟩ := stB X11 hx hZ e11 Ar14 (j := (3 : Int32)) (inb_of Sz14 ⟨(by decide), (by decide)⟩) (g := (mkF m 52 #[.val (.ref t), .val (.int (3 : Int32)), .val (.int pv)] [(.int ((pv >>> ((8 : Int32) &&& 31)).toInt8.toInt32)), (.int (3 : Int32)), (.ref t)])) rfl rfl (hb hby d8_52)
  have N14 := Fr.snoc X14 N7 (by omega)
  have V14 : Arv Z h14 t k .byte (6 : Int32) [u0, u1, (.int (nar .byte ((pv >>> ((0 : Int32) &&& 31)).toInt8.toInt32))), (.int (nar .byte ((pv >>> ((8 : Int32) &&& 31)).toInt8.toInt32))), u4, u5] (.int (0 : Int32)) := Arv.set Ar14 q14 Sz14 M14 Hs14 U14 (fits_nar_byte _) W14 3 rfl (Nat.le_of_ble_eq_true rfl)
  have z14 : h14.size = h7.size := W14.size
  have K14 := K7.wr W14 (Or.inl (List.mem_of_getElem? (i := 0) rfl))
  have c15 : SS p e below B0 T14 m 53 #[.val (.ref t), .val (.int (3 : Int32)), .val (.int pv)] [] := Steps.trans c13 (st14 _ (Steps.refl _))
  obtain ⟨fs, hr, hrun, hended, hW, hsame⟩ := X14.leave (v := none) (fun _ => rfl)
  subst hB0
  refine ⟨_, _, Steps.trans c15 ?_, hrun, hended, _, _, rfl, ?_, ⟨_, rfl⟩, hW, hsame.mono (by decide) (by decide)⟩
  · exact X14.returnOut hx Bd.returns (hb hby d8_53) hr
  · show QPut3_1 Z t k pv u0 u1 u2 u3 u4 u5 h0 n0 _ T14.heap _
    rw [e14]
    exact ⟨rfl, N14, K14, V14⟩
def QPut3_2 (Z : State) (t : Addr) (k : ClassId) (pv : Int32) (u0 u1 u2 u3 u4 u5 : Value) (h0 : Heap) (n0 : Nat) (v : Option Value) (h : Heap) (L : List Loc) : Prop := v = none ∧ Fr n0 L ∧ Keep h0 h [t] ∧ Arv Z h t k .byte (6 : Int32) [u0, u1, u2, u3, (.int (nar .byte ((pv >>> ((0 : Int32) &&& 31)).toInt8.toInt32))), (.int (nar .byte ((pv >>> ((8 : Int32) &&& 31)).toInt8.toInt32)))] (.int (0 : Int32))
set_option maxRecDepth 65536 in
set_option maxHeartbeats 40000000 in
theorem rmPut3_2 (l : Launch) (Z : State) (a0 : Array Value) (hw : ∀ d ∈ tables_1, d.before a0 Z = true) (ws : List Jvm.Cond) (t : Addr) (k : ClassId) (pv : Int32) (u0 u1 u2 u3 u4 u5 : Value) (h0 : Heap) (n0 : Nat) (Z0 : n0 ≤ h0.size) (O7 : Sta Z Z.heap "java/lang/StringUTF16" "$assertionsDisabled" "Z" (.int (1 : Int32))) (O8 : Sta Z Z.heap "java/lang/StringUTF16" "HI_BYTE_SHIFT" "I" (.int (0 : Int32))) (O9 : Sta Z Z.heap "java/lang/StringUTF16" "LO_BYTE_SHIFT" "I" (.int (8 : Int32))) (X00 : Old Z n0 h0) (Vt : Arv Z h0 t k .byte (6 : Int32) [u0, u1, u2, u3, u4, u5] (.int (0 : Int32))) (gt : n0 ≤ t) :
    MetFree l (⟨"java/lang/StringUTF16", "putChar", "([BII)V"⟩ : MethodName) (head1 (Jvm.Cond.code (⟨"java/lang/StringUTF16", "putChar", "([BII)V"⟩ : MethodName) jdk_52_method_4_code 3 none :: ws) ({ frames := 0, cells := 0, slots := 0, locals := 0 } : Room)) (fun a U => a = #[(.ref t), (.int (2 : Int32)), (.int pv)] ∧ Z.Warmed39 U.vm ∧ U.heap = h0) (fun _ _ _ _ _ => True) (fun _ U o U' => ∃ v L, o = .returned v ∧ QPut3_2 Z t k pv u0 u1 u2 u3 u4 u5 h0 n0 v U'.heap L ∧ FrameEnd U o U' L ({ frames := 0, cells := 0, slots := 0, locals := 0 } : Room).cells ({ frames := 0, cells := 0, slots := 0, locals := 0 } : Room).slots) := by
  refine MetFree.of_bodySF (plainFor_of_name pn_java_lang_StringUTF16) hisR ?_
  intro p e s m args below meth c s₁ Bd hml0 hP hK
  obtain ⟨rfl, hZ, hh⟩ := hP
  have hx := Bd.exec
  have hby := Bd.bytes
  have hml : c.maxLocals = 3 := hml0
  have hown : s.vm.findClass "java/lang/StringUTF16" = some m.cls := findClass_of_methodNamed Bd.named
  have hnm := (name_of_methodNamed Bd.named Bd.method).1
  have X0 : Stand p l e ({ frames := 0, cells := 0, slots := 0, locals := 0 } : Room) s m #[(.ref t), (.int (2 : Int32)), (.int pv)] below meth c s₁ [] 0 0 := Stand.of_body Bd
  have e0 : s₁.heap = h0 := by rw [← hh, Bd.state]; rfl
  have N0 := Fr.nil n0
  obtain ⟨B0, c0, hB0⟩ : ∃ B0, Steps p.tables e below B0 (s₁.setTop (mkF m 0 #[.val (.ref t), .val (.int (2 : Int32)), .val (.int pv)] [])) ∧ B0 = s₁.setTop (entryFrame m #[(.ref t), (.int (2 : Int32)), (.int pv)] 3) := ⟨_, castTop (ef_RII_3 m t (2 : Int32) pv) (Steps.refl _), rfl⟩
  have lt_t : (@LT.lt Nat _ t h0.size) := Vt.lt
  obtain ⟨T1, X1, e1, st1⟩ := getS X0 hx hZ (host := "") hown (W hw 106) Via.refl e0 (O7.ext X00.2) (g := (mkF m 0 #[.val (.ref t), .val (.int (2 : Int32)), .val (.int pv)] [])) rfl (hb hby d8_0)
  have c2 : SS p e below B0 T1 m 3 #[.val (.ref t), .val (.int (2 : Int32)), .val (.int pv)] [(.int (1 : Int32))] := Steps.trans c0 (st1 _ (Steps.refl _))
  have c3 : SS p e below B0 T1 m 38 #[.val (.ref t), .val (.int (5 : Int32)), .val (.int pv)] [(.int pv), (.int (4 : Int32)), (.ref t)] := Steps.trans c2 (by
      refine XS.ifYes X1.here hx rfl (pc0 := 3) (pc' := 28) rfl (hb hby d8_3) rfl ((if0 _ _).trans (feq (by decide : ¬ (1 : Int32) = (0 : Int32))).2) (by decide) (by decide) ?_
      refine XS.iloadN X1.here hx rfl (hb hby d8_28) rfl ?_
      refine XT.iconstV X1.here hx rfl (1 : Int32) (hb hby d8_29) (by decide) ?_
      refine XS.ishl X1.here hx rfl (hb hby d8_30) rfl ?_
      refine XS.istoreN X1.here hx rfl (hb hby d8_31) rfl (l' := #[.val (.ref t), .val (.int (4 : Int32)), .val (.int pv)]) rfl ?_
      refine XS.aloadN X1.here hx rfl (hb hby d8_32) rfl rfl ?_
      refine XS.iloadN X1.here hx rfl (hb hby d8_33) rfl ?_
      refine XT.iincV X1.here hx rfl (1 : Int32) (hb hby d8_34) (by decide) rfl (l' := #[.val (.ref t), .val (.int (5 : Int32)), .val (.int pv)]) rfl ?_
      refine XS.iloadN X1.here hx rfl (hb hby d8_37) rfl ?_
      exact Steps.refl _)
  obtain ⟨T4, X4, e4, st4⟩ := getS X1 hx hZ (host := "") hown (W hw 107) Via.refl e1 (O8.ext X00.2) (g := (mkF m 38 #[.val (.ref t), .val (.int (5 : Int32)), .val (.int pv)] [(.int pv), (.int (4 : Int32)), (.ref t)])) rfl (hb hby d8_38)
  have c5 : SS p e below B0 T4 m 41 #[.val (.ref t), .val (.int (5 : Int32)), .val (.int pv)] [(.int (0 : Int32)), (.int pv), (.int (4 : Int32)), (.ref t)] := Steps.trans c3 (st4 _ (Steps.refl _))
  have c6 : SS p e below B0 T4 m 43 #[.val (.ref t), .val (.int (5 : Int32)), .val (.int pv)] [(.int ((pv >>> ((0 : Int32) &&& 31)).toInt8.toInt32)), (.int (4 : Int32)), (.ref t)] := Steps.trans c5 (by
      refine XS.ishr X4.here hx rfl (hb hby d8_41) rfl ?_
      refine XS.i2b X4.here hx rfl (hb hby d8_42) rfl ?_
      exact Steps.refl _)
  obtain ⟨cl7, Ar7, q7, Sz7, M7, Hs7, U7⟩ := id Vt
  obtain ⟨T7, h7, X7, e7, W7, st7⟩ := stB X4 hx hZ e4 Ar7 (j := (4 : Int32)) (inb_of Sz7 ⟨(by decide), (by decide)⟩) (g := (mkF m 43 #[.val (.ref t), .val (.int (5 : Int32)), .val (.int pv)] [(.int ((pv >>> ((0 : Int32) &&& 31)).toInt8.toInt32)), (.int (4 : Int32)), (.ref t)])) rfl rfl (hb hby d8_43)
  have N7 := Fr.snoc X7 N0 (by omega)
  have V7 : Arv Z h7 t k .byte (6 : Int32) [u0, u1, u2, u3, (.int (nar .byte ((pv >>> ((0 : Int32) &&& 31)).toInt8.toInt32))), u5] (.int (0 : Int32)) := Arv.set Ar7 q7 Sz7 M7 Hs7 U7 (fits_nar_byte _) W7 4 rfl (Nat.le_of_ble_eq_true rfl)
  have z7 : h7.size = h0.size := W7.size
  have K7 := (Keep.refl h0 [t]).wr W7 (Or.inl (List.mem_of_getElem? (i := 0) rfl))
  have c8 : SS p e below B0 T7 m 44 #[.val (.ref t), .val (.int (5 : Int32)), .val (.int pv)] [] := Steps.trans c6 (st7 _ (Steps.refl _))
  have Old9 : Old Z n0 h7 := (X00.wr W7 (by omega))
  have c10 : SS p e below B0 T7 m 47 #[.val (.ref t), .val (.int (5 : Int32)), .val (.int pv)] [(.int pv), (.int (5 : Int32)), (.ref t)] := Steps.trans c8 (by
      refine XS.aloadN X7.here hx rfl (hb hby d8_44) rfl rfl ?_
      refine XS.iloadN X7.here hx rfl (hb hby d8_45) rfl ?_
      refine XS.iloadN X7.here hx rfl (hb hby d8_46) rfl ?_
      exact Steps.refl _)
  obtain ⟨T11, X11, e11, st11⟩ := getS X7 hx hZ (host := "") hown (W hw 108) Via.refl e7 (O9.ext Old9.2) (g := (mkF m 47 #[.val (.ref t), .val (.int (5 : Int32)), .val (.int pv)] [(.int pv), (.int (5 : Int32)), (.ref t)])) rfl (hb hby d8_47)
  have c12 : SS p e below B0 T11 m 50 #[.val (.ref t), .val (.int (5 : Int32)), .val (.int pv)] [(.int (8 : Int32)), (.int pv), (.int (5 : Int32)), (.ref t)] := Steps.trans c10 (st11 _ (Steps.refl _))
  have c13 : SS p e below B0 T11 m 52 #[.val (.ref t), .val (.int (5 : Int32)), .val (.int pv)] [(.int ((pv >>> ((8 : Int32) &&& 31)).toInt8.toInt32)), (.int (5 : Int32)), (.ref t)] := Steps.trans c12 (by
      refine XS.ishr X11.here hx rfl (hb hby d8_50) rfl ?_
      refine XS.i2b X11.here hx rfl (hb hby d8_51) rfl ?_
      exact Steps.refl _)
  obtain ⟨cl14, Ar14, q14, Sz14, M14, Hs14, U14⟩ := id V7
  obtain ⟨T14, h14, X14, e14, W14, st14⟩ := stB X11 hx hZ e11 Ar14 (j := (5 : Int32)) (inb_of Sz14 ⟨(by decide), (by decide)⟩) (g := (mkF m 52 #[.val (.ref t), .val (.int (5 : Int32)), .val (.int pv)] [(.int ((pv >>> ((8 : Int32) &&& 31)).toInt8.toInt32)), (.int (5 : Int32)), (.ref t)])) rfl rfl (hb hby d8_52)
  have N14 := Fr.snoc X14 N7 (by omega)
  have V14 : Arv Z h14 t k .byte (6 : Int32) [u0, u1, u2, u3, (.int (nar .byte ((pv >>> ((0 : Int32) &&& 31)).toInt8.toInt32))), (.int (nar .byte ((pv >>> ((8 : Int32) &&& 31)).toInt8.toInt32)))] (.int (0 : Int32)) := Arv.set Ar14 q14 Sz14 M14 Hs14 U14 (fits_nar_byte _) W14 5 rfl (Nat.le_of_ble_eq_true rfl)
  have z14 : h14.size = h7.size := W14.size
  have K14 := K7.wr W14 (Or.inl (List.mem_of_getElem? (i := 0) rfl))
  have c15 : SS p e below B0 T14 m 53 #[.val (.ref t), .val (.int (5 : Int32)), .val (.int pv)] [] := Steps.trans c13 (st14 _ (Steps.refl _))
  obtain ⟨fs, hr, hrun, hended, hW, hsame⟩ := X14.leave (v := none) (fun _ => rfl)
  subst hB0
  refine ⟨_, _, Steps.trans c15 ?_, hrun, hended, _, _, rfl, ?_, ⟨_, rfl⟩, hW, hsame.mono (by decide) (by decide)⟩
  · exact X14.returnOut hx Bd.returns (hb hby d8_53) hr
  · show QPut3_2 Z t k pv u0 u1 u2 u3 u4 u5 h0 n0 _ T14.heap _
    rw [e14]
    exact ⟨rfl, N14, K14, V14⟩
def QTo3 (Z : State) (c0' c1' c2' : Int32) (h0 : Heap) (n0 : Nat) (v : Option Value) (h : Heap) (L : List Loc) : Prop := ∃ (t : Addr) (k : ClassId), v = some (.ref t) ∧ Fr n0 L ∧ Keep h0 h [] ∧ (@Eq Nat t h0.size) ∧ Arv Z h t k .byte (6 : Int32) [(.int (nar .byte ((c0' >>> ((0 : Int32) &&& 31)).toInt8.toInt32))), (.int (nar .byte ((c0' >>> ((8 : Int32) &&& 31)).toInt8.toInt32))), (.int (nar .byte ((c1' >>> ((0 : Int32) &&& 31)).toInt8.toInt32))), (.int (nar .byte ((c1' >>> ((8 : Int32) &&& 31)).toInt8.toInt32))), (.int (nar .byte ((c2' >>> ((0 : Int32) &&& 31)).toInt8.toInt32))), (.int (nar .byte ((c2' >>> ((8 : Int32) &&& 31)).toInt8.toInt32)))] (.int (0 : Int32))
set_option maxRecDepth 65536 in
set_option maxHeartbeats 40000000 in
theorem rmTo3 (l : Launch) (Z : State) (a0 : Array Value) (hw : ∀ d ∈ tables_1, d.before a0 Z = true) (ws : List Jvm.Cond) (r : Addr) (kc : ClassId) (c0' c1' c2' : Int32) (h0 : Heap) (n0 : Nat) (Z0 : n0 ≤ h0.size) (O7 : Sta Z Z.heap "java/lang/StringUTF16" "$assertionsDisabled" "Z" (.int (1 : Int32))) (O8 : Sta Z Z.heap "java/lang/StringUTF16" "HI_BYTE_SHIFT" "I" (.int (0 : Int32))) (O9 : Sta Z Z.heap "java/lang/StringUTF16" "LO_BYTE_SHIFT" "I" (.int (8 : Int32))) (X00 : Old Z n0 h0) (Vr : Arv Z h0 r kc .char (3 : Int32) [(.int c0'), (.int c1'), (.int c2')] (.int (0 : Int32))) :
    MetFree l (⟨"java/lang/StringUTF16", "toBytes", "([CII)[B"⟩ : MethodName) (head1 (Jvm.Cond.code (⟨"java/lang/StringUTF16", "toBytes", "([CII)[B"⟩ : MethodName) jdk_52_method_14_code 5 (some (.array .byte)) :: ws) ({ frames := 2, cells := 1, slots := 6, locals := 24 } : Room)) (fun a U => a = #[(.ref r), (.int (0 : Int32)), (.int (3 : Int32))] ∧ Z.Warmed39 U.vm ∧ U.heap = h0) (fun _ _ _ _ _ => True) (fun _ U o U' => ∃ v L, o = .returned v ∧ QTo3 Z c0' c1' c2' h0 n0 v U'.heap L ∧ FrameEnd U o U' L ({ frames := 2, cells := 1, slots := 6, locals := 24 } : Room).cells ({ frames := 2, cells := 1, slots := 6, locals := 24 } : Room).slots) := by
  refine MetFree.of_bodySF (plainFor_of_name pn_java_lang_StringUTF16) hisR ?_
  intro p e s m args below meth c s₁ Bd hml0 hP hK
  obtain ⟨rfl, hZ, hh⟩ := hP
  have hx := Bd.exec
  have hby := Bd.bytes
  have hml : c.maxLocals = 5 := hml0
  have hown : s.vm.findClass "java/lang/StringUTF16" = some m.cls := findClass_of_methodNamed Bd.named
  have hnm := (name_of_methodNamed Bd.named Bd.method).1
  have X0 : Stand p l e ({ frames := 2, cells := 1, slots := 6, locals := 24 } : Room) s m #[(.ref r), (.int (0 : Int32)), (.int (3 : Int32))] below meth c s₁ [] 0 0 := Stand.of_body Bd
  have e0 : s₁.heap = h0 := by rw [← hh, Bd.state]; rfl
  have N0 := Fr.nil n0
  obtain ⟨B0, c0, hB0⟩ : ∃ B0, Steps p.tables e below B0 (s₁.setTop (mkF m 0 #[.val (.ref r), .val (.int (0 : Int32)), .val (.int (3 : Int32)), .unset, .unset] [])) ∧ B0 = s₁.setTop (entryFrame m #[(.ref r), (.int (0 : Int32)), (.int (3 : Int32))] 5) := ⟨_, castTop (ef_RII_5 m r (0 : Int32) (3 : Int32)) (Steps.refl _), rfl⟩
  have lt_r : (@LT.lt Nat _ r h0.size) := Vr.lt
  have c1 : SS p e below B0 s₁ m 1 #[.val (.ref r), .val (.int (0 : Int32)), .val (.int (3 : Int32)), .unset, .unset] [(.int (3 : Int32))] := Steps.trans c0 (by
      refine XS.iloadN X0.here hx rfl (hb hby d9_0) rfl ?_
      exact Steps.refl _)
  obtain ⟨_, _, ⟨T2, Lp2, kp2, np2⟩, -, X2, ⟨Lc2, hQ2, lp2, yp2, zp2⟩, st2⟩ := Jvm.LawKit.callS X0 hx (y := (⟨"java/lang/StringUTF16", "newBytesFor", "(I)[B"⟩ : MethodName)) hown (mvT hZ (W hw 96)) (mvT hZ (W hw 97)) (mvT hZ (W hw 64)) (mvT hZ (W hw 98)) (by decide) (backOf (W := 0) (rmNf3 l Z a0 hw [] h0 n0 Z0) hZ (W hw 98) (W hw 64) (by decide) (by decide)) (g := (mkF m 1 #[.val (.ref r), .val (.int (0 : Int32)), .val (.int (3 : Int32)), .unset, .unset] [(.int (3 : Int32))])) rfl (by rw [hml]; rfl) (argsL := [(.int (3 : Int32))]) (rest := []) (lenOf pd__I__B rfl) rfl (by show 2 * 0 + _ ≤ _; exact Nat.le_of_eq rfl) (hb hby d9_1) (fun _ _ => ⟨rfl, e0, (by decide : 0 + 1 ≤ _), (by decide : 0 + 6 ≤ _)⟩)
  dsimp only [Pt.U, Pt.locs, Pt.cells, Pt.slots] at X2 lp2 yp2 zp2 st2 hQ2
  subst lp2 yp2 zp2
  obtain ⟨t1, k1, rfl, Nq2, Kq2, g2, av2⟩ := hQ2
  have N2 := Fr.app N0 Nq2
  obtain ⟨h2, e2⟩ : ∃ z, T2.heap = z := ⟨_, rfl⟩
  rw [e2] at Kq2 av2
  have z2 : h0.size ≤ h2.size := Kq2.1
  have K2 := (Keep.refl h0 []).trans Kq2 all0
  have c3 : SS p e below B0 T2 m 4 #[.val (.ref r), .val (.int (0 : Int32)), .val (.int (3 : Int32)), .unset, .unset] [(.ref t1)] := Steps.trans c1 (st2 _ (Steps.refl _))
  have lt_t1 : (@LT.lt Nat _ t1 h2.size) := av2.lt
  have c4 : SS p e below B0 T2 m 19 #[.val (.ref r), .val (.int (0 : Int32)), .val (.int (3 : Int32)), .val (.ref t1), .val (.int (0 : Int32))] [(.int (0 : Int32)), (.ref r), (.int (0 : Int32)), (.ref t1)] := Steps.trans c3 (by
      refine XS.astoreN X2.here hx rfl (hb hby d9_4) rfl rfl (l' := #[.val (.ref r), .val (.int (0 : Int32)), .val (.int (3 : Int32)), .val (.ref t1), .unset]) rfl ?_
      refine XT.iconstV X2.here hx rfl (0 : Int32) (hb hby d9_5) (by decide) ?_
      refine XS.istore X2.here hx rfl (hb hby d9_6) rfl (l' := #[.val (.ref r), .val (.int (0 : Int32)), .val (.int (3 : Int32)), .val (.ref t1), .val (.int (0 : Int32))]) rfl ?_
      refine XS.iload X2.here hx rfl (hb hby d9_8) rfl ?_
      refine XS.iloadN X2.here hx rfl (hb hby d9_10) rfl ?_
      refine XS.icmpNo X2.here hx rfl (hb hby d9_11) rfl (tlt (by decide : (0 : Int32) < (3 : Int32))).2.1 ?_
      refine XS.aloadN X2.here hx rfl (hb hby d9_14) rfl rfl ?_
      refine XS.iload X2.here hx rfl (hb hby d9_15) rfl ?_
      refine XS.aloadN X2.here hx rfl (hb hby d9_17) rfl rfl ?_
      refine XS.iloadN X2.here hx rfl (hb hby d9_18) rfl ?_
      exact Steps.refl _)
  have Arv6 : Arv Z h2 r kc .char (3 : Int32) [(.int c0'), (.int c1'), (.int c2')] (.int (0 : Int32)) := (Vr.keep Kq2 nin0)
  obtain ⟨cl5, Ar5, q5, Sz5, M5, Hs5, U5⟩ := id Arv6
  have in5 := inb_of (j := (0 : Int32)) Sz5 ⟨(by decide), (by decide)⟩
  have c7 : SS p e below B0 T2 m 20 #[.val (.ref r), .val (.int (0 : Int32)), .val (.int (3 : Int32)), .val (.ref t1), .val (.int (0 : Int32))] [(.int (c0')), (.int (0 : Int32)), (.ref t1)] := Steps.trans c4 (by
      refine X2.caload hx (j := (0 : Int32)) (v := (.int (c0'))) (by rw [e2]; exact Ar5.1) (State.isArrayOf_alike hZ.alike Ar5.2.1) Ar5.2.2 in5 (Hs5.at in5 rfl) (g := (mkF m 19 #[.val (.ref r), .val (.int (0 : Int32)), .val (.int (3 : Int32)), .val (.ref t1), .val (.int (0 : Int32))] [(.int (0 : Int32)), (.ref r), (.int (0 : Int32)), (.ref t1)])) rfl rfl (hb hby d9_19) _ ?_
      exact Steps.refl _)
  have Old8 : Old Z n0 h2 := (X00.keep Kq2 all0)
  obtain ⟨_, _, ⟨T9, Lp9, kp9, np9⟩, -, X9, ⟨Lc9, hQ9, lp9, yp9, zp9⟩, st9⟩ := Jvm.LawKit.callS X2 hx (y := (⟨"java/lang/StringUTF16", "putChar", "([BII)V"⟩ : MethodName)) hown (mvT hZ (W hw 103)) (mvT hZ (W hw 104)) (mvT hZ (W hw 64)) (mvT hZ (W hw 105)) (by decide) (backOf (W := 0) (rmPut3_0 l Z a0 hw [] t1 k1 c0' (.int (0 : Int32)) (.int (0 : Int32)) (.int (0 : Int32)) (.int (0 : Int32)) (.int (0 : Int32)) (.int (0 : Int32)) h2 n0 (by omega) O7 O8 O9 Old8 av2 (by omega)) hZ (W hw 105) (W hw 64) (by decide) (by decide)) (g := (mkF m 20 #[.val (.ref r), .val (.int (0 : Int32)), .val (.int (3 : Int32)), .val (.ref t1), .val (.int (0 : Int32))] [(.int (c0')), (.int (0 : Int32)), (.ref t1)])) rfl (by rw [hml]; rfl) (argsL := [(.ref t1), (.int (0 : Int32)), (.int (c0'))]) (rest := []) (lenOf pd___BII_V rfl) rfl (by show 2 * 0 + _ ≤ _; exact Nat.le_of_eq rfl) (hb hby d9_20) (fun _ _ => ⟨rfl, e2, (by decide : 1 + 0 ≤ _), (by decide : 6 + 0 ≤ _)⟩)
  dsimp only [Pt.U, Pt.locs, Pt.cells, Pt.slots] at X9 lp9 yp9 zp9 st9 hQ9
  subst lp9 yp9 zp9
  obtain ⟨rfl, Nq9, Kq9, av9⟩ := hQ9
  have N9 := Fr.app N2 Nq9
  obtain ⟨h9, e9⟩ : ∃ z, T9.heap = z := ⟨_, rfl⟩
  rw [e9] at Kq9 av9
  have z9 : h2.size ≤ h9.size := Kq9.1
  have K9 := K2.trans Kq9 (allS (Or.inr (by omega)) all0)
  have c10 : SS p e below B0 T9 m 23 #[.val (.ref r), .val (.int (0 : Int32)), .val (.int (3 : Int32)), .val (.ref t1), .val (.int (0 : Int32))] [] := Steps.trans c7 (st9 _ (Steps.refl _))
  have c11 : SS p e below B0 T9 m 19 #[.val (.ref r), .val (.int (1 : Int32)), .val (.int (3 : Int32)), .val (.ref t1), .val (.int (1 : Int32))] [(.int (1 : Int32)), (.ref r), (.int (1 : Int32)), (.ref t1)] := Steps.trans c10 (by
      refine XT.iincV X9.here hx rfl (1 : Int32) (hb hby d9_23) (by decide) rfl (l' := #[.val (.ref r), .val (.int (1 : Int32)), .val (.int (3 : Int32)), .val (.ref t1), .val (.int (0 : Int32))]) rfl ?_
      refine XT.iincV X9.here hx rfl (1 : Int32) (hb hby d9_26) (by decide) rfl (l' := #[.val (.ref r), .val (.int (1 : Int32)), .val (.int (3 : Int32)), .val (.ref t1), .val (.int (1 : Int32))]) rfl ?_
      refine XS.goto X9.here hx rfl (pc0 := 29) (pc' := 8) rfl (hb hby d9_29) (by decide) (by decide) ?_
      refine XS.iload X9.here hx rfl (hb hby d9_8) rfl ?_
      refine XS.iloadN X9.here hx rfl (hb hby d9_10) rfl ?_
      refine XS.icmpNo X9.here hx rfl (hb hby d9_11) rfl (tlt (by decide : (1 : Int32) < (3 : Int32))).2.1 ?_
      refine XS.aloadN X9.here hx rfl (hb hby d9_14) rfl rfl ?_
      refine XS.iload X9.here hx rfl (hb hby d9_15) rfl ?_
      refine XS.aloadN X9.here hx rfl (hb hby d9_17) rfl rfl ?_
      refine XS.iloadN X9.here hx rfl (hb hby d9_18) rfl ?_
      exact Steps.refl _)
  have Arv13 : Arv Z h9 r kc .char (3 : Int32) [(.int c0'), (.int c1'), (.int c2')] (.int (0 : Int32)) := (Arv6.keep Kq9 (ninS (own_ne (by omega)) nin0))
  obtain ⟨cl12, Ar12, q12, Sz12, M12, Hs12, U12⟩ := id Arv13
  have in12 := inb_of (j := (1 : Int32)) Sz12 ⟨(by decide), (by decide)⟩
  have c14 : SS p e below B0 T9 m 20 #[.val (.ref r), .val (.int (1 : Int32)), .val (.int (3 : Int32)), .val (.ref t1), .val (.int (1 : Int32))] [(.int (c1')), (.int (1 : Int32)), (.ref t1)] := Steps.trans c11 (by
      refine X9.caload hx (j := (1 : Int32)) (v := (.int (c1'))) (by rw [e9]; exact Ar12.1) (State.isArrayOf_alike hZ.alike Ar12.2.1) Ar12.2.2 in12 (Hs12.at in12 rfl) (g := (mkF m 19 #[.val (.ref r), .val (.int (1 : Int32)), .val (.int (3 : Int32)), .val (.ref t1), .val (.int (1 : Int32))] [(.int (1 : Int32)), (.ref r), (.int (1 : Int32)), (.ref t1)])) rfl rfl (hb hby d9_19) _ ?_
      exact Steps.refl _)
  have Old15 : Old Z n0 h9 := (Old8.keep Kq9 (allS (by omega) all0))
  obtain ⟨_, _, ⟨T16, Lp16, kp16, np16⟩, -, X16, ⟨Lc16, hQ16, lp16, yp16, zp16⟩, st16⟩ := Jvm.LawKit.callS X9 hx (y := (⟨"java/lang/StringUTF16", "putChar", "([BII)V"⟩ : MethodName)) hown (mvT hZ (W hw 103)) (mvT hZ (W hw 104)) (mvT hZ (W hw 64)) (mvT hZ (W hw 105)) (by decide) (backOf (W := 0) (rmPut3_1 l Z a0 hw [] t1 k1 c1' (.int (nar .byte ((c0' >>> ((0 : Int32) &&& 31)).toInt8.toInt32))) (.int (nar .byte ((c0' >>> ((8 : Int32) &&& 31)).toInt8.toInt32))) (.int (0 : Int32)) (.int (0 : Int32)) (.int (0 : Int32)) (.int (0 : Int32)) h9 n0 (by omega) O7 O8 O9 Old15 av9 (by omega)) hZ (W hw 105) (W hw 64) (by decide) (by decide)) (g := (mkF m 20 #[.val (.ref r), .val (.int (1 : Int32)), .val (.int (3 : Int32)), .val (.ref t1), .val (.int (1 : Int32))] [(.int (c1')), (.int (1 : Int32)), (.ref t1)])) rfl (by rw [hml]; rfl) (argsL := [(.ref t1), (.int (1 : Int32)), (.int (c1'))]) (rest := []) (lenOf pd___BII_V rfl) rfl (by show 2 * 0 + _ ≤ _; exact Nat.le_of_eq rfl) (hb hby d9_20) (fun _ _ => ⟨rfl, e9, (by decide : 1 + 0 ≤ _), (by decide : 6 + 0 ≤ _)⟩)
  dsimp only [Pt.U, Pt.locs, Pt.cells, Pt.slots] at X16 lp16 yp16 zp16 st16 hQ16
  subst lp16 yp16 zp16
  obtain ⟨rfl, Nq16, Kq16, av16⟩ := hQ16
  have N16 := Fr.app N9 Nq16
  obtain ⟨h16, e16⟩ : ∃ z, T16.heap = z := ⟨_, rfl⟩
  rw [e16] at Kq16 av16
  have z16 : h9.size ≤ h16.size := Kq16.1
  have K16 := K9.trans Kq16 (allS (Or.inr (by omega)) all0)
  have c17 : SS p e below B0 T16 m 23 #[.val (.ref r), .val (.int (1 : Int32)), .val (.int (3 : Int32)), .val (.ref t1), .val (.int (1 : Int32))] [] := Steps.trans c14 (st16 _ (Steps.refl _))
  have c18 : SS p e below B0 T16 m 19 #[.val (.ref r), .val (.int (2 : Int32)), .val (.int (3 : Int32)), .val (.ref t1), .val (.int (2 : Int32))] [(.int (2 : Int32)), (.ref r), (.int (2 : Int32)), (.ref t1)] := Steps.trans c17 (by
      refine XT.iincV X16.here hx rfl (1 : Int32) (hb hby d9_23) (by decide) rfl (l' := #[.val (.ref r), .val (.int (2 : Int32)), .val (.int (3 : Int32)), .val (.ref t1), .val (.int (1 : Int32))]) rfl ?_
      refine XT.iincV X16.here hx rfl (1 : Int32) (hb hby d9_26) (by decide) rfl (l' := #[.val (.ref r), .val (.int (2 : Int32)), .val (.int (3 : Int32)), .val (.ref t1), .val (.int (2 : Int32))]) rfl ?_
      refine XS.goto X16.here hx rfl (pc0 := 29) (pc' := 8) rfl (hb hby d9_29) (by decide) (by decide) ?_
      refine XS.iload X16.here hx rfl (hb hby d9_8) rfl ?_
      refine XS.iloadN X16.here hx rfl (hb hby d9_10) rfl ?_
      refine XS.icmpNo X16.here hx rfl (hb hby d9_11) rfl (tlt (by decide : (2 : Int32) < (3 : Int32))).2.1 ?_
      refine XS.aloadN X16.here hx rfl (hb hby d9_14) rfl rfl ?_
      refine XS.iload X16.here hx rfl (hb hby d9_15) rfl ?_
      refine XS.aloadN X16.here hx rfl (hb hby d9_17) rfl rfl ?_
      refine XS.iloadN X16.here hx rfl (hb hby d9_18) rfl ?_
      exact Steps.refl _)
  have Arv20 : Arv Z h16 r kc .char (3 : Int32) [(.int c0'), (.int c1'), (.int c2')] (.int (0 : Int32)) := (Arv13.keep Kq16 (ninS (own_ne (by omega)) nin0))
  obtain ⟨cl19, Ar19, q19, Sz19, M19, Hs19, U19⟩ := id Arv20
  have in19 := inb_of (j := (2 : Int32)) Sz19 ⟨(by decide), (by decide)⟩
  have c21 : SS p e below B0 T16 m 20 #[.val (.ref r), .val (.int (2 : Int32)), .val (.int (3 : Int32)), .val (.ref t1), .val (.int (2 : Int32))] [(.int (c2')), (.int (2 : Int32)), (.ref t1)] := Steps.trans c18 (by
      refine X16.caload hx (j := (2 : Int32)) (v := (.int (c2'))) (by rw [e16]; exact Ar19.1) (State.isArrayOf_alike hZ.alike Ar19.2.1) Ar19.2.2 in19 (Hs19.at in19 rfl) (g := (mkF m 19 #[.val (.ref r), .val (.int (2 : Int32)), .val (.int (3 : Int32)), .val (.ref t1), .val (.int (2 : Int32))] [(.int (2 : Int32)), (.ref r), (.int (2 : Int32)), (.ref t1)])) rfl rfl (hb hby d9_19) _ ?_
      exact Steps.refl _)
  have Old22 : Old Z n0 h16 := (Old15.keep Kq16 (allS (by omega) all0))
  obtain ⟨_, _, ⟨T23, Lp23, kp23, np23⟩, -, X23, ⟨Lc23, hQ23, lp23, yp23, zp23⟩, st23⟩ := Jvm.LawKit.callS X16 hx (y := (⟨"java/lang/StringUTF16", "putChar", "([BII)V"⟩ : MethodName)) hown (mvT hZ (W hw 103)) (mvT hZ (W hw 104)) (mvT hZ (W hw 64)) (mvT hZ (W hw 105)) (by decide) (backOf (W := 0) (rmPut3_2 l Z a0 hw [] t1 k1 c2' (.int (nar .byte ((c0' >>> ((0 : Int32) &&& 31)).toInt8.toInt32))) (.int (nar .byte ((c0' >>> ((8 : Int32) &&& 31)).toInt8.toInt32))) (.int (nar .byte ((c1' >>> ((0 : Int32) &&& 31)).toInt8.toInt32))) (.int (nar .byte ((c1' >>> ((8 : Int32) &&& 31)).toInt8.toInt32))) (.int (0 : Int32)) (.int (0 : Int32)) h16 n0 (by omega) O7 O8 O9 Old22 av16 (by omega)) hZ (W hw 105) (W hw 64) (by decide) (by decide)) (g := (mkF m 20 #[.val (.ref r), .val (.int (2 : Int32)), .val (.int (3 : Int32)), .val (.ref t1), .val (.int (2 : Int32))] [(.int (c2')), (.int (2 : Int32)), (.ref t1)])) rfl (by rw [hml]; rfl) (argsL := [(.ref t1), (.int (2 : Int32)), (.int (c2'))]) (rest := []) (lenOf pd___BII_V rfl) rfl (by show 2 * 0 + _ ≤ _; exact Nat.le_of_eq rfl) (hb hby d9_20) (fun _ _ => ⟨rfl, e16, (by decide : 1 + 0 ≤ _), (by decide : 6 + 0 ≤ _)⟩)
  dsimp only [Pt.U, Pt.locs, Pt.cells, Pt.slots] at X23 lp23 yp23 zp23 st23 hQ23
  subst lp23 yp23 zp23
  obtain ⟨rfl, Nq23, Kq23, av23⟩ := hQ23
  have N23 := Fr.app N16 Nq23
  obtain ⟨h23, e23⟩ : ∃ z, T23.heap = z := ⟨_, rfl⟩
  rw [e23] at Kq23 av23
  have z23 : h16.size ≤ h23.size := Kq23.1
  have K23 := K16.trans Kq23 (allS (Or.inr (by omega)) all0)
  have c24 : SS p e below B0 T23 m 23 #[.val (.ref r), .val (.int (2 : Int32)), .val (.int (3 : Int32)), .val (.ref t1), .val (.int (2 : Int32))] [] := Steps.trans c21 (st23 _ (Steps.refl _))
  have c25 : SS p e below B0 T23 m 33 #[.val (.ref r), .val (.int (3 : Int32)), .val (.int (3 : Int32)), .val (.ref t1), .val (.int (3 : Int32))] [(.ref t1)] := Steps.trans c24 (by
      refine XT.iincV X23.here hx rfl (1 : Int32) (hb hby d9_23) (by decide) rfl (l' := #[.val (.ref r), .val (.int (3 : Int32)), .val (.int (3 : Int32)), .val (.ref t1), .val (.int (2 : Int32))]) rfl ?_
      refine XT.iincV X23.here hx rfl (1 : Int32) (hb hby d9_26) (by decide) rfl (l' := #[.val (.ref r), .val (.int (3 : Int32)), .val (.int (3 : Int32)), .val (.ref t1), .val (.int (3 : Int32))]) rfl ?_
      refine XS.goto X23.here hx rfl (pc0 := 29) (pc' := 8) rfl (hb hby d9_29) (by decide) (by decide) ?_
      refine XS.iload X23.here hx rfl (hb hby d9_8) rfl ?_
      refine XS.iloadN X23.here hx rfl (hb hby d9_10) rfl ?_
      refine XS.icmpYes X23.here hx rfl (pc0 := 11) (pc' := 32) rfl (hb hby d9_11) rfl (flt (by decide : ¬ (3 : Int32) < (3 : Int32))).2.1 (by decide) (by decide) ?_
      refine XS.aloadN X23.here hx rfl (hb hby d9_32) rfl rfl ?_
      exact Steps.refl _)
  obtain ⟨fs, hr, hrun, hended, hW, hsame⟩ := X23.leave (v := some (.ref t1)) (fun h => by rw [Bd.returns] at h; cases h)
  subst hB0
  refine ⟨_, _, Steps.trans c25 ?_, hrun, hended, _, _, rfl, ?_, ⟨_, rfl⟩, hW, hsame.mono (by decide) (by decide)⟩
  · exact retR X23 hx Bd.returns rfl rfl rfl (hb hby d9_33) hr
  · show QTo3 Z c0' c1' c2' h0 n0 _ T23.heap _
    rw [e23]
    exact ⟨t1, k1, rfl, N23, K23, (by omega), av23⟩
def QGet3_0 (c0' c1' c2' : Int32) (h0 : Heap) (n0 : Nat) (v : Option Value) (h : Heap) (L : List Loc) : Prop := v = some (.int c0') ∧ Fr n0 L ∧ h = h0
set_option maxRecDepth 65536 in
set_option maxHeartbeats 40000000 in
theorem rmGet3_0 (l : Launch) (Z : State) (a0 : Array Value) (hw : ∀ d ∈ tables_1, d.before a0 Z = true) (ws : List Jvm.Cond) (t : Addr) (k : ClassId) (c0' c1' c2' : Int32) (h0 : Heap) (n0 : Nat) (Z0 : n0 ≤ h0.size) (O7 : Sta Z Z.heap "java/lang/StringUTF16" "$assertionsDisabled" "Z" (.int (1 : Int32))) (O8 : Sta Z Z.heap "java/lang/StringUTF16" "HI_BYTE_SHIFT" "I" (.int (0 : Int32))) (O9 : Sta Z Z.heap "java/lang/StringUTF16" "LO_BYTE_SHIFT" "I" (.int (8 : Int32))) (X00 : Old Z n0 h0) (Vt : Arv Z h0 t k .byte (6 : Int32) [(.int (nar .byte ((c0' >>> ((0 : Int32) &&& 31)).toInt8.toInt32))), (.int (nar .byte ((c0' >>> ((8 : Int32) &&& 31)).toInt8.toInt32))), (.int (nar .byte ((c1' >>> ((0 : Int32) &&& 31)).toInt8.toInt32))), (.int (nar .byte ((c1' >>> ((8 : Int32) &&& 31)).toInt8.toInt32))), (.int (nar .byte ((c2' >>> ((0 : Int32) &&& 31)).toInt8.toInt32))), (.int (nar .byte ((c2' >>> ((8 : Int32) &&& 31)).toInt8.toInt32)))] (.int (0 : Int32))) (hc : ¬ c0' < 0 ∧ ¬ (65535 : Int32) < c0') :
    MetFree l (⟨"java/lang/StringUTF16", "getChar", "([BI)C"⟩ : MethodName) (head1 (Jvm.Cond.code (⟨"java/lang/StringUTF16", "getChar", "([BI)C"⟩ : MethodName) jdk_52_method_5_code 2 (some .char) :: ws) ({ frames := 0, cells := 0, slots := 0, locals := 0 } : Room)) (fun a U => a = #[(.ref t), (.int (0 : Int32))] ∧ Z.Warmed39 U.vm ∧ U.heap = h0) (fun _ _ _ _ _ => True) (fun _ U o U' => ∃ v L, o = .returned v ∧ QGet3_0 c0' c1' c2' h0 n0 v U'.heap L ∧ FrameEnd U o U' L ({ frames := 0, cells := 0, slots := 0, locals := 0 } : Room).cells ({ frames := 0, cells := 0, slots := 0, locals := 0 } : Room).slots) := by
  refine MetFree.of_bodySF (plainFor_of_name pn_java_lang_StringUTF16) hisR ?_
  intro p e s m args below meth c s₁ Bd hml0 hP hK
  obtain ⟨rfl, hZ, hh⟩ := hP
  have hx := Bd.exec
  have hby := Bd.bytes
  have hml : c.maxLocals = 2 := hml0
  have hown : s.vm.findClass "java/lang/StringUTF16" = some m.cls := findClass_of_methodNamed Bd.named
  have hnm := (name_of_methodNamed Bd.named Bd.method).1
  have X0 : Stand p l e ({ frames := 0, cells := 0, slots := 0, locals := 0 } : Room) s m #[(.ref t), (.int (0 : Int32))] below meth c s₁ [] 0 0 := Stand.of_body Bd
  have e0 : s₁.heap = h0 := by rw [← hh, Bd.state]; rfl
  have N0 := Fr.nil n0
  obtain ⟨B0, c0, hB0⟩ : ∃ B0, Steps p.tables e below B0 (s₁.setTop (mkF m 0 #[.val (.ref t), .val (.int (0 : Int32))] [])) ∧ B0 = s₁.setTop (entryFrame m #[(.ref t), (.int (0 : Int32))] 2) := ⟨_, castTop (ef_RI_2 m t (0 : Int32)) (Steps.refl _), rfl⟩
  obtain ⟨T1, X1, e1, st1⟩ := getS X0 hx hZ (host := "") hown (W hw 106) Via.refl e0 (O7.ext X00.2) (g := (mkF m 0 #[.val (.ref t), .val (.int (0 : Int32))] [])) rfl (hb hby d10_0)
  have c2 : SS p e below B0 T1 m 3 #[.val (.ref t), .val (.int (0 : Int32))] [(.int (1 : Int32))] := Steps.trans c0 (st1 _ (Steps.refl _))
  have c3 : SS p e below B0 T1 m 37 #[.val (.ref t), .val (.int (1 : Int32))] [(.int (0 : Int32)), (.ref t)] := Steps.trans c2 (by
      refine XS.ifYes X1.here hx rfl (pc0 := 3) (pc' := 28) rfl (hb hby d10_3) rfl ((if0 _ _).trans (feq (by decide : ¬ (1 : Int32) = (0 : Int32))).2) (by decide) (by decide) ?_
      refine XS.iloadN X1.here hx rfl (hb hby d10_28) rfl ?_
      refine XT.iconstV X1.here hx rfl (1 : Int32) (hb hby d10_29) (by decide) ?_
      refine XS.ishl X1.here hx rfl (hb hby d10_30) rfl ?_
      refine XS.istoreN X1.here hx rfl (hb hby d10_31) rfl (l' := #[.val (.ref t), .val (.int (0 : Int32))]) rfl ?_
      refine XS.aloadN X1.here hx rfl (hb hby d10_32) rfl rfl ?_
      refine XS.iloadN X1.here hx rfl (hb hby d10_33) rfl ?_
      refine XT.iincV X1.here hx rfl (1 : Int32) (hb hby d10_34) (by decide) rfl (l' := #[.val (.ref t), .val (.int (1 : Int32))]) rfl ?_
      exact Steps.refl _)
  obtain ⟨cl4, Ar4, q4, Sz4, M4, Hs4, U4⟩ := id Vt
  have in4 := inb_of (j := (0 : Int32)) Sz4 ⟨(by decide), (by decide)⟩
  have c5 : SS p e below B0 T1 m 38 #[.val (.ref t), .val (.int (1 : Int32))] [(.int (nar .byte ((c0' >>> ((0 : Int32) &&& 31)).toInt8.toInt32)))] := Steps.trans c3 (by
      refine X1.baloadBytes hx (j := (0 : Int32)) (v := (.int (nar .byte ((c0' >>> ((0 : Int32) &&& 31)).toInt8.toInt32)))) (by rw [e1]; exact Ar4.1) (State.isArrayOf_alike hZ.alike Ar4.2.1) Ar4.2.2 in4 (Hs4.at in4 rfl) (g := (mkF m 37 #[.val (.ref t), .val (.int (1 : Int32))] [(.int (0 : Int32)), (.ref t)])) rfl rfl (hb hby d10_37) _ ?_
      exact Steps.refl _)
  have c6 : SS p e below B0 T1 m 42 #[.val (.ref t), .val (.int (1 : Int32))] [(.int ((nar .byte ((c0' >>> ((0 : Int32) &&& 31)).toInt8.toInt32)) &&& (255 : Int32)))] := Steps.trans c5 (by
      refine XT.sipushV X1.here hx rfl (255 : Int32) (hb hby d10_38) (by decide) ?_
      refine XS.iand X1.here hx rfl (hb hby d10_41) rfl ?_
      exact Steps.refl _)
  obtain ⟨T7, X7, e7, st7⟩ := getS X1 hx hZ (host := "") hown (W hw 107) Via.refl e1 (O8.ext X00.2) (g := (mkF m 42 #[.val (.ref t), .val (.int (1 : Int32))] [(.int ((nar .byte ((c0' >>> ((0 : Int32) &&& 31)).toInt8.toInt32)) &&& (255 : Int32)))])) rfl (hb hby d10_42)
  have c8 : SS p e below B0 T7 m 45 #[.val (.ref t), .val (.int (1 : Int32))] [(.int (0 : Int32)), (.int ((nar .byte ((c0' >>> ((0 : Int32) &&& 31)).toInt8.toInt32)) &&& (255 : Int32)))] := Steps.trans c6 (st7 _ (Steps.refl _))
  have c9 : SS p e below B0 T7 m 48 #[.val (.ref t), .val (.int (1 : Int32))] [(.int (1 : Int32)), (.ref t), (.int (((nar .byte ((c0' >>> ((0 : Int32) &&& 31)).toInt8.toInt32)) &&& (255 : Int32)) <<< ((0 : Int32) &&& 31)))] := Steps.trans c8 (by
      refine XS.ishl X7.here hx rfl (hb hby d10_45) rfl ?_
      refine XS.aloadN X7.here hx rfl (hb hby d10_46) rfl rfl ?_
      refine XS.iloadN X7.here hx rfl (hb hby d10_47) rfl ?_
      exact Steps.refl _)
  obtain ⟨cl10, Ar10, q10, Sz10, M10, Hs10, U10⟩ := id Vt
  have in10 := inb_of (j := (1 : Int32)) Sz10 ⟨(by decide), (by decide)⟩
  have c11 : SS p e below B0 T7 m 49 #[.val (.ref t), .val (.int (1 : Int32))] [(.int (nar .byte ((c0' >>> ((8 : Int32) &&& 31)).toInt8.toInt32))), (.int (((nar .byte ((c0' >>> ((0 : Int32) &&& 31)).toInt8.toInt32)) &&& (255 : Int32)) <<< ((0 : Int32) &&& 31)))] := Steps.trans c9 (by
      refine X7.baloadBytes hx (j := (1 : Int32)) (v := (.int (nar .byte ((c0' >>> ((8 : Int32) &&& 31)).toInt8.toInt32)))) (by rw [e7]; exact Ar10.1) (State.isArrayOf_alike hZ.alike Ar10.2.1) Ar10.2.2 in10 (Hs10.at in10 rfl) (g := (mkF m 48 #[.val (.ref t), .val (.int (1 : Int32))] [(.int (1 : Int32)), (.ref t), (.int (((nar .byte ((c0' >>> ((0 : Int32) &&& 31)).toInt8.toInt32)) &&& (255 : Int32)) <<< ((0 : Int32) &&& 31)))])) rfl rfl (hb hby d10_48) _ ?_
      exact Steps.refl _)
  have c12 : SS p e below B0 T7 m 53 #[.val (.ref t), .val (.int (1 : Int32))] [(.int ((nar .byte ((c0' >>> ((8 : Int32) &&& 31)).toInt8.toInt32)) &&& (255 : Int32))), (.int (((nar .byte ((c0' >>> ((0 : Int32) &&& 31)).toInt8.toInt32)) &&& (255 : Int32)) <<< ((0 : Int32) &&& 31)))] := Steps.trans c11 (by
      refine XT.sipushV X7.here hx rfl (255 : Int32) (hb hby d10_49) (by decide) ?_
      refine XS.iand X7.here hx rfl (hb hby d10_52) rfl ?_
      exact Steps.refl _)
  obtain ⟨T13, X13, e13, st13⟩ := getS X7 hx hZ (host := "") hown (W hw 108) Via.refl e7 (O9.ext X00.2) (g := (mkF m 53 #[.val (.ref t), .val (.int (1 : Int32))] [(.int ((nar .byte ((c0' >>> ((8 : Int32) &&& 31)).toInt8.toInt32)) &&& (255 : Int32))), (.int (((nar .byte ((c0' >>> ((0 : Int32) &&& 31)).toInt8.toInt32)) &&& (255 : Int32)) <<< ((0 : Int32) &&& 31)))])) rfl (hb hby d10_53)
  have c14 : SS p e below B0 T13 m 56 #[.val (.ref t), .val (.int (1 : Int32))] [(.int (8 : Int32)), (.int ((nar .byte ((c0' >>> ((8 : Int32) &&& 31)).toInt8.toInt32)) &&& (255 : Int32))), (.int (((nar .byte ((c0' >>> ((0 : Int32) &&& 31)).toInt8.toInt32)) &&& (255 : Int32)) <<< ((0 : Int32) &&& 31)))] := Steps.trans c12 (st13 _ (Steps.refl _))
  have c15 : SS p e below B0 T13 m 59 #[.val (.ref t), .val (.int (1 : Int32))] [(.int (((((nar .byte ((c0' >>> ((0 : Int32) &&& 31)).toInt8.toInt32)) &&& (255 : Int32)) <<< ((0 : Int32) &&& 31)) ||| (((nar .byte ((c0' >>> ((8 : Int32) &&& 31)).toInt8.toInt32)) &&& (255 : Int32)) <<< ((8 : Int32) &&& 31))).toUInt32.toUInt16.toUInt32.toInt32))] := Steps.trans c14 (by
      refine XS.ishl X13.here hx rfl (hb hby d10_56) rfl ?_
      refine XS.ior X13.here hx rfl (hb hby d10_57) rfl ?_
      refine XS.i2c X13.here hx rfl (hb hby d10_58) rfl ?_
      exact Steps.refl _)
  have hv := own_utf hc.1 hc.2
  obtain ⟨fs, hr, hrun, hended, hW, hsame⟩ := X13.leave (v := some (.int (nar .char (((((nar .byte ((c0' >>> ((0 : Int32) &&& 31)).toInt8.toInt32)) &&& (255 : Int32)) <<< ((0 : Int32) &&& 31)) ||| (((nar .byte ((c0' >>> ((8 : Int32) &&& 31)).toInt8.toInt32)) &&& (255 : Int32)) <<< ((8 : Int32) &&& 31))).toUInt32.toUInt16.toUInt32.toInt32)))) (fun h => by rw [Bd.returns] at h; cases h)
  subst hB0
  refine ⟨_, _, Steps.trans c15 ?_, hrun, hended, _, _, rfl, ?_, ⟨_, rfl⟩, hW, hsame.mono (by decide) (by decide)⟩
  · exact retN X13 hx (t := .char) Bd.returns (by simp) (hb hby d10_59) hr
  · show QGet3_0 c0' c1' c2' h0 n0 _ T13.heap _
    rw [e13]
    exact ⟨congrArg (fun z => some (Value.int z)) hv, N0, rfl⟩
def QGet3_1 (c0' c1' c2' : Int32) (h0 : Heap) (n0 : Nat) (v : Option Value) (h : Heap) (L : List Loc) : Prop := v = some (.int c1') ∧ Fr n0 L ∧ h = h0
set_option maxRecDepth 65536 in
set_option maxHeartbeats 40000000 in
theorem rmGet3_1 (l : Launch) (Z : State) (a0 : Array Value) (hw : ∀ d ∈ tables_1, d.before a0 Z = true) (ws : List Jvm.Cond) (t : Addr) (k : ClassId) (c0' c1' c2' : Int32) (h0 : Heap) (n0 : Nat) (Z0 : n0 ≤ h0.size) (O7 : Sta Z Z.heap "java/lang/StringUTF16" "$assertionsDisabled" "Z" (.int (1 : Int32))) (O8 : Sta Z Z.heap "java/lang/StringUTF16" "HI_BYTE_SHIFT" "I" (.int (0 : Int32))) (O9 : Sta Z Z.heap "java/lang/StringUTF16" "LO_BYTE_SHIFT" "I" (.int (8 : Int32))) (X00 : Old Z n0 h0) (Vt : Arv Z h0 t k .byte (6 : Int32) [(.int (nar .byte ((c0' >>> ((0 : Int32) &&& 31)).toInt8.toInt32))), (.int (nar .byte ((c0' >>> ((8 : Int32) &&& 31)).toInt8.toInt32))), (.int (nar .byte ((c1' >>> ((0 : Int32) &&& 31)).toInt8.toInt32))), (.int (nar .byte ((c1' >>> ((8 : Int32) &&& 31)).toInt8.toInt32))), (.int (nar .byte ((c2' >>> ((0 : Int32) &&& 31)).toInt8.toInt32))), (.int (nar .byte ((c2' >>> ((8 : Int32) &&& 31)).toInt8.toInt32)))] (.int (0 : Int32))) (hc : ¬ c1' < 0 ∧ ¬ (65535 : Int32) < c1') :
    MetFree l (⟨"java/lang/StringUTF16", "getChar", "([BI)C"⟩ : MethodName) (head1 (Jvm.Cond.code (⟨"java/lang/StringUTF16", "getChar", "([BI)C"⟩ : MethodName) jdk_52_method_5_code 2 (some .char) :: ws) ({ frames := 0, cells := 0, slots := 0, locals := 0 } : Room)) (fun a U => a = #[(.ref t), (.int (1 : Int32))] ∧ Z.Warmed39 U.vm ∧ U.heap = h0) (fun _ _ _ _ _ => True) (fun _ U o U' => ∃ v L, o = .returned v ∧ QGet3_1 c0' c1' c2' h0 n0 v U'.heap L ∧ FrameEnd U o U' L ({ frames := 0, cells := 0, slots := 0, locals := 0 } : Room).cells ({ frames := 0, cells := 0, slots := 0, locals := 0 } : Room).slots) := by
  refine MetFree.of_bodySF (plainFor_of_name pn_java_lang_StringUTF16) hisR ?_
  intro p e s m args below meth c s₁ Bd hml0 hP hK
  obtain ⟨rfl, hZ, hh⟩ := hP
  have hx := Bd.exec
  have hby := Bd.bytes
  have hml : c.maxLocals = 2 := hml0
  have hown : s.vm.findClass "java/lang/StringUTF16" = some m.cls := findClass_of_methodNamed Bd.named
  have hnm := (name_of_methodNamed Bd.named Bd.method).1
  have X0 : Stand p l e ({ frames := 0, cells := 0, slots := 0, locals := 0 } : Room) s m #[(.ref t), (.int (1 : Int32))] below meth c s₁ [] 0 0 := Stand.of_body Bd
  have e0 : s₁.heap = h0 := by rw [← hh, Bd.state]; rfl
  have N0 := Fr.nil n0
  obtain ⟨B0, c0, hB0⟩ : ∃ B0, Steps p.tables e below B0 (s₁.setTop (mkF m 0 #[.val (.ref t), .val (.int (1 : Int32))] [])) ∧ B0 = s₁.setTop (entryFrame m #[(.ref t), (.int (1 : Int32))] 2) := ⟨_, castTop (ef_RI_2 m t (1 : Int32)) (Steps.refl _), rfl⟩
  obtain ⟨T1, X1, e1, st1⟩ := getS X0 hx hZ (host := "") hown (W hw 106) Via.refl e0 (O7.ext X00.2) (g := (mkF m 0 #[.val (.ref t), .val (.int (1 : Int32))] [])) rfl (hb hby d10_0)
  have c2 : SS p e below B0 T1 m 3 #[.val (.ref t), .val (.int (1 : Int32))] [(.int (1 : Int32))] := Steps.trans c0 (st1 _ (Steps.refl _))
  have c3 : SS p e below B0 T1 m 37 #[.val (.ref t), .val (.int (3 : Int32))] [(.int (2 : Int32)), (.ref t)] := Steps.trans c2 (by
      refine XS.ifYes X1.here hx rfl (pc0 := 3) (pc' := 28) rfl (hb hby d10_3) rfl ((if0 _ _).trans (feq (by decide : ¬ (1 : Int32) = (0 : Int32))).2) (by decide) (by decide) ?_
      refine XS.iloadN X1.here hx rfl (hb hby d10_28) rfl ?_
      refine XT.iconstV X1.here hx rfl (1 : Int32) (hb hby d10_29) (by decide) ?_
      refine XS.ishl X1.here hx rfl (hb hby d10_30) rfl ?_
      refine XS.istoreN X1.here hx rfl (hb hby d10_31) rfl (l' := #[.val (.ref t), .val (.int (2 : Int32))]) rfl ?_
      refine XS.aloadN X1.here hx rfl (hb hby d10_32) rfl rfl ?_
      refine XS.iloadN X1.here hx rfl (hb hby d10_33) rfl ?_
      refine XT.iincV X1.here hx rfl (1 : Int32) (hb hby d10_34) (by decide) rfl (l' := #[.val (.ref t), .val (.int (3 : Int32))]) rfl ?_
      exact Steps.refl _)
  obtain ⟨cl4, Ar4, q4, Sz4, M4, Hs4, U4⟩ := id Vt
  have in4 := inb_of (j := (2 : Int32)) Sz4 ⟨(by decide), (by decide)⟩
  have c5 : SS p e below B0 T1 m 38 #[.val (.ref t), .val (.int (3 : Int32))] [(.int (nar .byte ((c1' >>> ((0 : Int32) &&& 31)).toInt8.toInt32)))] := Steps.trans c3 (by
      refine X1.baloadBytes hx (j := (2 : Int32)) (v := (.int (nar .byte ((c1' >>> ((0 : Int32) &&& 31)).toInt8.toInt32)))) (by rw [e1]; exact Ar4.1) (State.isArrayOf_alike hZ.alike Ar4.2.1) Ar4.2.2 in4 (Hs4.at in4 rfl) (g := (mkF m 37 #[.val (.ref t), .val (.int (3 : Int32))] [(.int (2 : Int32)), (.ref t)])) rfl rfl (hb hby d10_37) _ ?_
      exact Steps.refl _)
  have c6 : SS p e below B0 T1 m 42 #[.val (.ref t), .val (.int (3 : Int32))] [(.int ((nar .byte ((c1' >>> ((0 : Int32) &&& 31)).toInt8.toInt32)) &&& (255 : Int32)))] := Steps.trans c5 (by
      refine XT.sipushV X1.here hx rfl (255 : Int32) (hb hby d10_38) (by decide) ?_
      refine XS.iand X1.here hx rfl (hb hby d10_41) rfl ?_
      exact Steps.refl _)
  obtain ⟨T7, X7, e7, st7⟩ := getS X1 hx hZ (host := "") hown (W hw 107) Via.refl e1 (O8.ext X00.2) (g := (mkF m 42 #[.val (.ref t), .val (.int (3 : Int32))] [(.int ((nar .byte ((c1' >>> ((0 : Int32) &&& 31)).toInt8.toInt32)) &&& (255 : Int32)))])) rfl (hb hby d10_42)
  have c8 : SS p e below B0 T7 m 45 #[.val (.ref t), .val (.int (3 : Int32))] [(.int (0 : Int32)), (.int ((nar .byte ((c1' >>> ((0 : Int32) &&& 31)).toInt8.toInt32)) &&& (255 : Int32)))] := Steps.trans c6 (st7 _ (Steps.refl _))
  have c9 : SS p e below B0 T7 m 48 #[.val (.ref t), .val (.int (3 : Int32))] [(.int (3 : Int32)), (.ref t), (.int (((nar .byte ((c1' >>> ((0 : Int32) &&& 31)).toInt8.toInt32)) &&& (255 : Int32)) <<< ((0 : Int32) &&& 31)))] := Steps.trans c8 (by
      refine XS.ishl X7.here hx rfl (hb hby d10_45) rfl ?_
      refine XS.aloadN X7.here hx rfl (hb hby d10_46) rfl rfl ?_
      refine XS.iloadN X7.here hx rfl (hb hby d10_47) rfl ?_
      exact Steps.refl _)
  obtain ⟨cl10, Ar10, q10, Sz10, M10, Hs10, U10⟩ := id Vt
  have in10 := inb_of (j := (3 : Int32)) Sz10 ⟨(by decide), (by decide)⟩
  have c11 : SS p e below B0 T7 m 49 #[.val (.ref t), .val (.int (3 : Int32))] [(.int (nar .byte ((c1' >>> ((8 : Int32) &&& 31)).toInt8.toInt32))), (.int (((nar .byte ((c1' >>> ((0 : Int32) &&& 31)).toInt8.toInt32)) &&& (255 : Int32)) <<< ((0 : Int32) &&& 31)))] := Steps.trans c9 (by
      refine X7.baloadBytes hx (j := (3 : Int32)) (v := (.int (nar .byte ((c1' >>> ((8 : Int32) &&& 31)).toInt8.toInt32)))) (by rw [e7]; exact Ar10.1) (State.isArrayOf_alike hZ.alike Ar10.2.1) Ar10.2.2 in10 (Hs10.at in10 rfl) (g := (mkF m 48 #[.val (.ref t), .val (.int (3 : Int32))] [(.int (3 : Int32)), (.ref t), (.int (((nar .byte ((c1' >>> ((0 : Int32) &&& 31)).toInt8.toInt32)) &&& (255 : Int32)) <<< ((0 : Int32) &&& 31)))])) rfl rfl (hb hby d10_48) _ ?_
      exact Steps.refl _)
  have c12 : SS p e below B0 T7 m 53 #[.val (.ref t), .val (.int (3 : Int32))] [(.int ((nar .byte ((c1' >>> ((8 : Int32) &&& 31)).toInt8.toInt32)) &&& (255 : Int32))), (.int (((nar .byte ((c1' >>> ((0 : Int32) &&& 31)).toInt8.toInt32)) &&& (255 : Int32)) <<< ((0 : Int32) &&& 31)))] := Steps.trans c11 (by
      refine XT.sipushV X7.here hx rfl (255 : Int32) (hb hby d10_49) (by decide) ?_
      refine XS.iand X7.here hx rfl (hb hby d10_52) rfl ?_
      exact Steps.refl _)
  obtain ⟨T13, X13, e13, st13⟩ := getS X7 hx hZ (host := "") hown (W hw 108) Via.refl e7 (O9.ext X00.2) (g := (mkF m 53 #[.val (.ref t), .val (.int (3 : Int32))] [(.int ((nar .byte ((c1' >>> ((8 : Int32) &&& 31)).toInt8.toInt32)) &&& (255 : Int32))), (.int (((nar .byte ((c1' >>> ((0 : Int32) &&& 31)).toInt8.toInt32)) &&& (255 : Int32)) <<< ((0 : Int32) &&& 31)))])) rfl (hb hby d10_53)
  have c14 : SS p e below B0 T13 m 56 #[.val (.ref t), .val (.int (3 : Int32))] [(.int (8 : Int32)), (.int ((nar .byte ((c1' >>> ((8 : Int32) &&& 31)).toInt8.toInt32)) &&& (255 : Int32))), (.int (((nar .byte ((c1' >>> ((0 : Int32) &&& 31)).toInt8.toInt32)) &&& (255 : Int32)) <<< ((0 : Int32) &&& 31)))] := Steps.trans c12 (st13 _ (Steps.refl _))
  have c15 : SS p e below B0 T13 m 59 #[.val (.ref t), .val (.int (3 : Int32))] [(.int (((((nar .byte ((c1' >>> ((0 : Int32) &&& 31)).toInt8.toInt32)) &&& (255 : Int32)) <<< ((0 : Int32) &&& 31)) ||| (((nar .byte ((c1' >>> ((8 : Int32) &&& 31)).toInt8.toInt32)) &&& (255 : Int32)) <<< ((8 : Int32) &&& 31))).toUInt32.toUInt16.toUInt32.toInt32))] := Steps.trans c14 (by
      refine XS.ishl X13.here hx rfl (hb hby d10_56) rfl ?_
      refine XS.ior X13.here hx rfl (hb hby d10_57) rfl ?_
      refine XS.i2c X13.here hx rfl (hb hby d10_58) rfl ?_
      exact Steps.refl _)
  have hv := own_utf hc.1 hc.2
  obtain ⟨fs, hr, hrun, hended, hW, hsame⟩ := X13.leave (v := some (.int (nar .char (((((nar .byte ((c1' >>> ((0 : Int32) &&& 31)).toInt8.toInt32)) &&& (255 : Int32)) <<< ((0 : Int32) &&& 31)) ||| (((nar .byte ((c1' >>> ((8 : Int32) &&& 31)).toInt8.toInt32)) &&& (255 : Int32)) <<< ((8 : Int32) &&& 31))).toUInt32.toUInt16.toUInt32.toInt32)))) (fun h => by rw [Bd.returns] at h; cases h)
  subst hB0
  refine ⟨_, _, Steps.trans c15 ?_, hrun, hended, _, _, rfl, ?_, ⟨_, rfl⟩, hW, hsame.mono (by decide) (by decide)⟩
  · exact retN X13 hx (t := .char) Bd.returns (by simp) (hb hby d10_59) hr
  · show QGet3_1 c0' c1' c2' h0 n0 _ T13.heap _
    rw [e13]
    exact ⟨congrArg (fun z => some (Value.int z)) hv, N0, rfl⟩
def QGet3_2 (c0' c1' c2' : Int32) (h0 : Heap) (n0 : Nat) (v : Option Value) (h : Heap) (L : List Loc) : Prop := v = some (.int c2') ∧ Fr n0 L ∧ h = h0
set_option maxRecDepth 65536 in
set_option maxHeartbeats 40000000 in
theorem rmGet3_2 (l : Launch) (Z : State) (a0 : Array Value) (hw : ∀ d ∈ tables_1, d.before a0 Z = true) (ws : List Jvm.Cond) (t : Addr) (k : ClassId) (c0' c1' c2' : Int32) (h0 : Heap) (n0 : Nat) (Z0 : n0 ≤ h0.size) (O7 : Sta Z Z.heap "java/lang/StringUTF16" "$assertionsDisabled" "Z" (.int (1 : Int32))) (O8 : Sta Z Z.heap "java/lang/StringUTF16" "HI_BYTE_SHIFT" "I" (.int (0 : Int32))) (O9 : Sta Z Z.heap "java/lang/StringUTF16" "LO_BYTE_SHIFT" "I" (.int (8 : Int32))) (X00 : Old Z n0 h0) (Vt : Arv Z h0 t k .byte (6 : Int32) [(.int (nar .byte ((c0' >>> ((0 : Int32) &&& 31)).toInt8.toInt32))), (.int (nar .byte ((c0' >>> ((8 : Int32) &&& 31)).toInt8.toInt32))), (.int (nar .byte ((c1' >>> ((0 : Int32) &&& 31)).toInt8.toInt32))), (.int (nar .byte ((c1' >>> ((8 : Int32) &&& 31)).toInt8.toInt32))), (.int (nar .byte ((c2' >>> ((0 : Int32) &&& 31)).toInt8.toInt32))), (.int (nar .byte ((c2' >>> ((8 : Int32) &&& 31)).toInt8.toInt32)))] (.int (0 : Int32))) (hc : ¬ c2' < 0 ∧ ¬ (65535 : Int32) < c2') :
    MetFree l (⟨"java/lang/StringUTF16", "getChar", "([BI)C"⟩ : MethodName) (head1 (Jvm.Cond.code (⟨"java/lang/StringUTF16", "getChar", "([BI)C"⟩ : MethodName) jdk_52_method_5_code 2 (some .char) :: ws) ({ frames := 0, cells := 0, slots := 0, locals := 0 } : Room)) (fun a U => a = #[(.ref t), (.int (2 : Int32))] ∧ Z.Warmed39 U.vm ∧ U.heap = h0) (fun _ _ _ _ _ => True) (fun _ U o U' => ∃ v L, o = .returned v ∧ QGet3_2 c0' c1' c2' h0 n0 v U'.heap L ∧ FrameEnd U o U' L ({ frames := 0, cells := 0, slots := 0, locals := 0 } : Room).cells ({ frames := 0, cells := 0, slots := 0, locals := 0 } : Room).slots) := by
  refine MetFree.of_bodySF (plainFor_of_name pn_java_lang_StringUTF16) hisR ?_
  intro p e s m args below meth c s₁ Bd hml0 hP hK
  obtain ⟨rfl, hZ, hh⟩ := hP
  have hx := Bd.exec
  have hby := Bd.bytes
  have hml : c.maxLocals = 2 := hml0
  have hown : s.vm.findClass "java/lang/StringUTF16" = some m.cls := findClass_of_methodNamed Bd.named
  have hnm := (name_of_methodNamed Bd.named Bd.method).1
  have X0 : Stand p l e ({ frames := 0, cells := 0, slots := 0, locals := 0 } : Room) s m #[(.ref t), (.int (2 : Int32))] below meth c s₁ [] 0 0 := Stand.of_body Bd
  have e0 : s₁.heap = h0 := by rw [← hh, Bd.state]; rfl
  have N0 := Fr.nil n0
  obtain ⟨B0, c0, hB0⟩ : ∃ B0, Steps p.tables e below B0 (s₁.setTop (mkF m 0 #[.val (.ref t), .val (.int (2 : Int32))] [])) ∧ B0 = s₁.setTop (entryFrame m #[(.ref t), (.int (2 : Int32))] 2) := ⟨_, castTop (ef_RI_2 m t (2 : Int32)) (Steps.refl _), rfl⟩
  obtain ⟨T1, X1, e1, st1⟩ := getS X0 hx hZ (host := "") hown (W hw 106) Via.refl e0 (O7.ext X00.2) (g := (mkF m 0 #[.val (.ref t), .val (.int (2 : Int32))] [])) rfl (hb hby d10_0)
  have c2 : SS p e below B0 T1 m 3 #[.val (.ref t), .val (.int (2 : Int32))] [(.int (1 : Int32))] := Steps.trans c0 (st1 _ (Steps.refl _))
  have c3 : SS p e below B0 T1 m 37 #[.val (.ref t), .val (.int (5 : Int32))] [(.int (4 : Int32)), (.ref t)] := Steps.trans c2 (by
      refine XS.ifYes X1.here hx rfl (pc0 := 3) (pc' := 28) rfl (hb hby d10_3) rfl ((if0 _ _).trans (feq (by decide : ¬ (1 : Int32) = (0 : Int32))).2) (by decide) (by decide) ?_
      refine XS.iloadN X1.here hx rfl (hb hby d10_28) rfl ?_
      refine XT.iconstV X1.here hx rfl (1 : Int32) (hb hby d10_29) (by decide) ?_
      refine XS.ishl X1.here hx rfl (hb hby d10_30) rfl ?_
      refine XS.istoreN X1.here hx rfl (hb hby d10_31) rfl (l' := #[.val (.ref t), .val (.int (4 : Int32))]) rfl ?_
      refine XS.aloadN X1.here hx rfl (hb hby d10_32) rfl rfl ?_
      refine XS.iloadN X1.here hx rfl (hb hby d10_33) rfl ?_
      refine XT.iincV X1.here hx rfl (1 : Int32) (hb hby d10_34) (by decide) rfl (l' := #[.val (.ref t), .val (.int (5 : Int32))]) rfl ?_
      exact Steps.refl _)
  obtain ⟨cl4, Ar4, q4, Sz4, M4, Hs4, U4⟩ := id Vt
  have in4 := inb_of (j := (4 : Int32)) Sz4 ⟨(by decide), (by decide)⟩
  have c5 : SS p e below B0 T1 m 38 #[.val (.ref t), .val (.int (5 : Int32))] [(.int (nar .byte ((c2' >>> ((0 : Int32) &&& 31)).toInt8.toInt32)))] := Steps.trans c3 (by
      refine X1.baloadBytes hx (j := (4 : Int32)) (v := (.int (nar .byte ((c2' >>> ((0 : Int32) &&& 31)).toInt8.toInt32)))) (by rw [e1]; exact Ar4.1) (State.isArrayOf_alike hZ.alike Ar4.2.1) Ar4.2.2 in4 (Hs4.at in4 rfl) (g := (mkF m 37 #[.val (.ref t), .val (.int (5 : Int32))] [(.int (4 : Int32)), (.ref t)])) rfl rfl (hb hby d10_37) _ ?_
      exact Steps.refl _)
  have c6 : SS p e below B0 T1 m 42 #[.val (.ref t), .val (.int (5 : Int32))] [(.int ((nar .byte ((c2' >>> ((0 : Int32) &&& 31)).toInt8.toInt32)) &&& (255 : Int32)))] := Steps.trans c5 (by
      refine XT.sipushV X1.here hx rfl (255 : Int32) (hb hby d10_38) (by decide) ?_
      refine XS.iand X1.here hx rfl (hb hby d10_41) rfl ?_
      exact Steps.refl _)
  obtain ⟨T7, X7, e7, st7⟩ := getS X1 hx hZ (host := "") hown (W hw 107) Via.refl e1 (O8.ext X00.2) (g := (mkF m 42 #[.val (.ref t), .val (.int (5 : Int32))] [(.int ((nar .byte ((c2' >>> ((0 : Int32) &&& 31)).toInt8.toInt32)) &&& (255 : Int32)))])) rfl (hb hby d10_42)
  have c8 : SS p e below B0 T7 m 45 #[.val (.ref t), .val (.int (5 : Int32))] [(.int (0 : Int32)), (.int ((nar .byte ((c2' >>> ((0 : Int32) &&& 31)).toInt8.toInt32)) &&& (255 : Int32)))] := Steps.trans c6 (st7 _ (Steps.refl _))
  have c9 : SS p e below B0 T7 m 48 #[.val (.ref t), .val (.int (5 : Int32))] [(.int (5 : Int32)), (.ref t), (.int (((nar .byte ((c2' >>> ((0 : Int32) &&& 31)).toInt8.toInt32)) &&& (255 : Int32)) <<< ((0 : Int32) &&& 31)))] := Steps.trans c8 (by
      refine XS.ishl X7.here hx rfl (hb hby d10_45) rfl ?_
      refine XS.aloadN X7.here hx rfl (hb hby d10_46) rfl rfl ?_
      refine XS.iloadN X7.here hx rfl (hb hby d10_47) rfl ?_
      exact Steps.refl _)
  obtain ⟨cl10, Ar10, q10, Sz10, M10, Hs10, U10⟩ := id Vt
  have in10 := inb_of (j := (5 : Int32)) Sz10 ⟨(by decide), (by decide)⟩
  have c11 : SS p e below B0 T7 m 49 #[.val (.ref t), .val (.int (5 : Int32))] [(.int (nar .byte ((c2' >>> ((8 : Int32) &&& 31)).toInt8.toInt32))), (.int (((nar .byte ((c2' >>> ((0 : Int32) &&& 31)).toInt8.toInt32)) &&& (255 : Int32)) <<< ((0 : Int32) &&& 31)))] := Steps.trans c9 (by
      refine X7.baloadBytes hx (j := (5 : Int32)) (v := (.int (nar .byte ((c2' >>> ((8 : Int32) &&& 31)).toInt8.toInt32)))) (by rw [e7]; exact Ar10.1) (State.isArrayOf_alike hZ.alike Ar10.2.1) Ar10.2.2 in10 (Hs10.at in10 rfl) (g := (mkF m 48 #[.val (.ref t), .val (.int (5 : Int32))] [(.int (5 : Int32)), (.ref t), (.int (((nar .byte ((c2' >>> ((0 : Int32) &&& 31)).toInt8.toInt32)) &&& (255 : Int32)) <<< ((0 : Int32) &&& 31)))])) rfl rfl (hb hby d10_48) _ ?_
      exact Steps.refl _)
  have c12 : SS p e below B0 T7 m 53 #[.val (.ref t), .val (.int (5 : Int32))] [(.int ((nar .byte ((c2' >>> ((8 : Int32) &&& 31)).toInt8.toInt32)) &&& (255 : Int32))), (.int (((nar .byte ((c2' >>> ((0 : Int32) &&& 31)).toInt8.toInt32)) &&& (255 : Int32)) <<< ((0 : Int32) &&& 31)))] := Steps.trans c11 (by
      refine XT.sipushV X7.here hx rfl (255 : Int32) (hb hby d10_49) (by decide) ?_
      refine XS.iand X7.here hx rfl (hb hby d10_52) rfl ?_
      exact Steps.refl _)
  obtain ⟨T13, X13, e13, st13⟩ := getS X7 hx hZ (host := "") hown (W hw 108) Via.refl e7 (O9.ext X00.2) (g := (mkF m 53 #[.val (.ref t), .val (.int (5 : Int32))] [(.int ((nar .byte ((c2' >>> ((8 : Int32) &&& 31)).toInt8.toInt32)) &&& (255 : Int32))), (.int (((nar .byte ((c2' >>> ((0 : Int32) &&& 31)).toInt8.toInt32)) &&& (255 : Int32)) <<< ((0 : Int32) &&& 31)))])) rfl (hb hby d10_53)
  have c14 : SS p e below B0 T13 m 56 #[.val (.ref t), .val (.int (5 : Int32))] [(.int (8 : Int32)), (.int ((nar .byte ((c2' >>> ((8 : Int32) &&& 31)).toInt8.toInt32)) &&& (255 : Int32))), (.int (((nar .byte ((c2' >>> ((0 : Int32) &&& 31)).toInt8.toInt32)) &&& (255 : Int32)) <<< ((0 : Int32) &&& 31)))] := Steps.trans c12 (st13 _ (Steps.refl _))
  have c15 : SS p e below B0 T13 m 59 #[.val (.ref t), .val (.int (5 : Int32))] [(.int (((((nar .byte ((c2' >>> ((0 : Int32) &&& 31)).toInt8.toInt32)) &&& (255 : Int32)) <<< ((0 : Int32) &&& 31)) ||| (((nar .byte ((c2' >>> ((8 : Int32) &&& 31)).toInt8.toInt32)) &&& (255 : Int32)) <<< ((8 : Int32) &&& 31))).toUInt32.toUInt16.toUInt32.toInt32))] := Steps.trans c14 (by
      refine XS.ishl X13.here hx rfl (hb hby d10_56) rfl ?_
      refine XS.ior X13.here hx rfl (hb hby d10_57) rfl ?_
      refine XS.i2c X13.here hx rfl (hb hby d10_58) rfl ?_
      exact Steps.refl _)
  have hv := own_utf hc.1 hc.2
  obtain ⟨fs, hr, hrun, hended, hW, hsame⟩ := X13.leave (v := some (.int (nar .char (((((nar .byte ((c2' >>> ((0 : Int32) &&& 31)).toInt8.toInt32)) &&& (255 : Int32)) <<< ((0 : Int32) &&& 31)) ||| (((nar .byte ((c2' >>> ((8 : Int32) &&& 31)).toInt8.toInt32)) &&& (255 : Int32)) <<< ((8 : Int32) &&& 31))).toUInt32.toUInt16.toUInt32.toInt32)))) (fun h => by rw [Bd.returns] at h; cases h)
  subst hB0
  refine ⟨_, _, Steps.trans c15 ?_, hrun, hended, _, _, rfl, ?_, ⟨_, rfl⟩, hW, hsame.mono (by decide) (by decide)⟩
  · exact retN X13 hx (t := .char) Bd.returns (by simp) (hb hby d10_59) hr
  · show QGet3_2 c0' c1' c2' h0 n0 _ T13.heap _
    rw [e13]
    exact ⟨congrArg (fun z => some (Value.int z)) hv, N0, rfl⟩
def QC5_3_0 (Z : State) (t : Addr) (kb : ClassId) (c0' c1' c2' : Int32) (h0 : Heap) (n0 : Nat) (v : Option Value) (h : Heap) (L : List Loc) : Prop := v = some (.int (0 : Int32)) ∧ Fr n0 L ∧ Keep h0 h [t]
set_option maxRecDepth 65536 in
set_option maxHeartbeats 40000000 in
theorem rmC5_3_0 (l : Launch) (Z : State) (a0 : Array Value) (hw : ∀ d ∈ tables_1, d.before a0 Z = true) (ws : List Jvm.Cond) (r t : Addr) (kc kb : ClassId) (c0' c1' c2' : Int32) (h0 : Heap) (n0 : Nat) (Z0 : n0 ≤ h0.size) (Vr : Arv Z h0 r kc .char (3 : Int32) [(.int c0'), (.int c1'), (.int c2')] (.int (0 : Int32))) (Vt : Arv Z h0 t kb .byte (3 : Int32) [(.int (0 : Int32)), (.int (0 : Int32)), (.int (0 : Int32))] (.int (0 : Int32))) (hrt : (@Ne Nat r t)) (gt : n0 ≤ t)  (hk : (255 : Int32) < c0') :
    MetFree l (⟨"java/lang/StringUTF16", "compress", "([CI[BII)I"⟩ : MethodName) (head1 (Jvm.Cond.code (⟨"java/lang/StringUTF16", "compress", "([CI[BII)I"⟩ : MethodName) jdk_52_method_21_code 7 (some .int) :: ws) ({ frames := 0, cells := 0, slots := 0, locals := 0 } : Room)) (fun a U => a = #[(.ref r), (.int (0 : Int32)), (.ref t), (.int (0 : Int32)), (.int (3 : Int32))] ∧ Z.Warmed39 U.vm ∧ U.heap = h0) (fun _ _ _ _ _ => True) (fun _ U o U' => ∃ v L, o = .returned v ∧ QC5_3_0 Z t kb c0' c1' c2' h0 n0 v U'.heap L ∧ FrameEnd U o U' L ({ frames := 0, cells := 0, slots := 0, locals := 0 } : Room).cells ({ frames := 0, cells := 0, slots := 0, locals := 0 } : Room).slots) := by
  refine MetFree.of_bodySF (plainFor_of_name pn_java_lang_StringUTF16) hisR ?_
  intro p e s m args below meth c s₁ Bd hml0 hP hK
  obtain ⟨rfl, hZ, hh⟩ := hP
  have hx := Bd.exec
  have hby := Bd.bytes
  have hml : c.maxLocals = 7 := hml0
  have hown : s.vm.findClass "java/lang/StringUTF16" = some m.cls := findClass_of_methodNamed Bd.named
  have hnm := (name_of_methodNamed Bd.named Bd.method).1
  have X0 : Stand p l e ({ frames := 0, cells := 0, slots := 0, locals := 0 } : Room) s m #[(.ref r), (.int (0 : Int32)), (.ref t), (.int (0 : Int32)), (.int (3 : Int32))] below meth c s₁ [] 0 0 := Stand.of_body Bd
  have e0 : s₁.heap = h0 := by rw [← hh, Bd.state]; rfl
  have N0 := Fr.nil n0
  obtain ⟨B0, c0, hB0⟩ : ∃ B0, Steps p.tables e below B0 (s₁.setTop (mkF m 0 #[.val (.ref r), .val (.int (0 : Int32)), .val (.ref t), .val (.int (0 : Int32)), .val (.int (3 : Int32)), .unset, .unset] [])) ∧ B0 = s₁.setTop (entryFrame m #[(.ref r), (.int (0 : Int32)), (.ref t), (.int (0 : Int32)), (.int (3 : Int32))] 7) := ⟨_, castTop (ef_RIRII_7 m r (0 : Int32) t (0 : Int32) (3 : Int32)) (Steps.refl _), rfl⟩
  have lt_r : (@LT.lt Nat _ r h0.size) := Vr.lt
  have lt_t : (@LT.lt Nat _ t h0.size) := Vt.lt
  have c1 : SS p e below B0 s₁ m 12 #[.val (.ref r), .val (.int (0 : Int32)), .val (.ref t), .val (.int (0 : Int32)), .val (.int (3 : Int32)), .val (.int (0 : Int32)), .unset] [(.int (0 : Int32)), (.ref r)] := Steps.trans c0 (by
      refine XT.iconstV X0.here hx rfl (0 : Int32) (hb hby d11_0) (by decide) ?_
      refine XS.istore X0.here hx rfl (hb hby d11_1) rfl (l' := #[.val (.ref r), .val (.int (0 : Int32)), .val (.ref t), .val (.int (0 : Int32)), .val (.int (3 : Int32)), .val (.int (0 : Int32)), .unset]) rfl ?_
      refine XS.iload X0.here hx rfl (hb hby d11_3) rfl ?_
      refine XS.iload X0.here hx rfl (hb hby d11_5) rfl ?_
      refine XS.icmpNo X0.here hx rfl (hb hby d11_7) rfl (tlt (by decide : (0 : Int32) < (3 : Int32))).2.1 ?_
      refine XS.aloadN X0.here hx rfl (hb hby d11_10) rfl rfl ?_
      refine XS.iloadN X0.here hx rfl (hb hby d11_11) rfl ?_
      exact Steps.refl _)
  obtain ⟨cl2, Ar2, q2, Sz2, M2, Hs2, U2⟩ := id Vr
  have in2 := inb_of (j := (0 : Int32)) Sz2 ⟨(by decide), (by decide)⟩
  have c3 : SS p e below B0 s₁ m 13 #[.val (.ref r), .val (.int (0 : Int32)), .val (.ref t), .val (.int (0 : Int32)), .val (.int (3 : Int32)), .val (.int (0 : Int32)), .unset] [(.int (c0'))] := Steps.trans c1 (by
      refine X0.caload hx (j := (0 : Int32)) (v := (.int (c0'))) (by rw [e0]; exact Ar2.1) (State.isArrayOf_alike hZ.alike Ar2.2.1) Ar2.2.2 in2 (Hs2.at in2 rfl) (g := (mkF m 12 #[.val (.ref r), .val (.int (0 : Int32)), .val (.ref t), .val (.int (0 : Int32)), .val (.int (3 : Int32)), .val (.int (0 : Int32)), .unset] [(.int (0 : Int32)), (.ref r)])) rfl rfl (hb hby d11_12) _ ?_
      exact Steps.refl _)
  have c4 : SS p e below B0 s₁ m 25 #[.val (.ref r), .val (.int (0 : Int32)), .val (.ref t), .val (.int (0 : Int32)), .val (.int (3 : Int32)), .val (.int (0 : Int32)), .val (.int (c0'))] [(.int (0 : Int32))] := Steps.trans c3 (by
      refine XS.istore X0.here hx rfl (hb hby d11_13) rfl (l' := #[.val (.ref r), .val (.int (0 : Int32)), .val (.ref t), .val (.int (0 : Int32)), .val (.int (3 : Int32)), .val (.int (0 : Int32)), .val (.int (c0'))]) rfl ?_
      refine XS.iload X0.here hx rfl (hb hby d11_15) rfl ?_
      refine XT.sipushV X0.here hx rfl (255 : Int32) (hb hby d11_17) (by decide) ?_
      refine XS.icmpNo X0.here hx rfl (hb hby d11_20) rfl (tlt hk).2.2.2 ?_
      refine XS.iload X0.here hx rfl (hb hby d11_23) rfl ?_
      exact Steps.refl _)
  obtain ⟨fs, hr, hrun, hended, hW, hsame⟩ := X0.leave (v := some (.int (0 : Int32))) (fun h => by rw [Bd.returns] at h; cases h)
  subst hB0
  refine ⟨_, _, Steps.trans c4 ?_, hrun, hended, _, _, rfl, ?_, ⟨_, rfl⟩, hW, hsame.mono (by decide) (by decide)⟩
  · exact retI X0 hx Bd.returns (hb hby d11_25) hr
  · show QC5_3_0 Z t kb c0' c1' c2' h0 n0 _ s₁.heap _
    rw [e0]
    exact ⟨rfl, N0, (Keep.refl _ _)⟩
def QC5_3_1 (Z : State) (t : Addr) (kb : ClassId) (c0' c1' c2' : Int32) (h0 : Heap) (n0 : Nat) (v : Option Value) (h : Heap) (L : List Loc) : Prop := v = some (.int (1 : Int32)) ∧ Fr n0 L ∧ Keep h0 h [t]
set_option maxRecDepth 65536 in
set_option maxHeartbeats 40000000 in
theorem rmC5_3_1 (l : Launch) (Z : State) (a0 : Array Value) (hw : ∀ d ∈ tables_1, d.before a0 Z = true) (ws : List Jvm.Cond) (r t : Addr) (kc kb : ClassId) (c0' c1' c2' : Int32) (h0 : Heap) (n0 : Nat) (Z0 : n0 ≤ h0.size) (Vr : Arv Z h0 r kc .char (3 : Int32) [(.int c0'), (.int c1'), (.int c2')] (.int (0 : Int32))) (Vt : Arv Z h0 t kb .byte (3 : Int32) [(.int (0 : Int32)), (.int (0 : Int32)), (.int (0 : Int32))] (.int (0 : Int32))) (hrt : (@Ne Nat r t)) (gt : n0 ≤ t) (hl0 : ¬ (255 : Int32) < c0') (hk : (255 : Int32) < c1') :
    MetFree l (⟨"java/lang/StringUTF16", "compress", "([CI[BII)I"⟩ : MethodName) (head1 (Jvm.Cond.code (⟨"java/lang/StringUTF16", "compress", "([CI[BII)I"⟩ : MethodName) jdk_52_method_21_code 7 (some .int) :: ws) ({ frames := 0, cells := 0, slots := 0, locals := 0 } : Room)) (fun a U => a = #[(.ref r), (.int (0 : Int32)), (.ref t), (.int (0 : Int32)), (.int (3 : Int32))] ∧ Z.Warmed39 U.vm ∧ U.heap = h0) (fun _ _ _ _ _ => True) (fun _ U o U' => ∃ v L, o = .returned v ∧ QC5_3_1 Z t kb c0' c1' c2' h0 n0 v U'.heap L ∧ FrameEnd U o U' L ({ frames := 0, cells := 0, slots := 0, locals := 0 } : Room).cells ({ frames := 0, cells := 0, slots := 0, locals := 0 } : Room).slots) := by
  refine MetFree.of_bodySF (plainFor_of_name pn_java_lang_StringUTF16) hisR ?_
  intro p e s m args below meth c s₁ Bd hml0 hP hK
  obtain ⟨rfl, hZ, hh⟩ := hP
  have hx := Bd.exec
  have hby := Bd.bytes
  have hml : c.maxLocals = 7 := hml0
  have hown : s.vm.findClass "java/lang/StringUTF16" = some m.cls := findClass_of_methodNamed Bd.named
  have hnm := (name_of_methodNamed Bd.named Bd.method).1
  have X0 : Stand p l e ({ frames := 0, cells := 0, slots := 0, locals := 0 } : Room) s m #[(.ref r), (.int (0 : Int32)), (.ref t), (.int (0 : Int32)), (.int (3 : Int32))] below meth c s₁ [] 0 0 := Stand.of_body Bd
  have e0 : s₁.heap = h0 := by rw [← hh, Bd.state]; rfl
  have N0 := Fr.nil n0
  obtain ⟨B0, c0, hB0⟩ : ∃ B0, Steps p.tables e below B0 (s₁.setTop (mkF m 0 #[.val (.ref r), .val (.int (0 : Int32)), .val (.ref t), .val (.int (0 : Int32)), .val (.int (3 : Int32)), .unset, .unset] [])) ∧ B0 = s₁.setTop (entryFrame m #[(.ref r), (.int (0 : Int32)), (.ref t), (.int (0 : Int32)), (.int (3 : Int32))] 7) := ⟨_, castTop (ef_RIRII_7 m r (0 : Int32) t (0 : Int32) (3 : Int32)) (Steps.refl _), rfl⟩
  have lt_r : (@LT.lt Nat _ r h0.size) := Vr.lt
  have lt_t : (@LT.lt Nat _ t h0.size) := Vt.lt
  have c1 : SS p e below B0 s₁ m 12 #[.val (.ref r), .val (.int (0 : Int32)), .val (.ref t), .val (.int (0 : Int32)), .val (.int (3 : Int32)), .val (.int (0 : Int32)), .unset] [(.int (0 : Int32)), (.ref r)] := Steps.trans c0 (by
      refine XT.iconstV X0.here hx rfl (0 : Int32) (hb hby d11_0) (by decide) ?_
      refine XS.istore X0.here hx rfl (hb hby d11_1) rfl (l' := #[.val (.ref r), .val (.int (0 : Int32)), .val (.ref t), .val (.int (0 : Int32)), .val (.int (3 : Int32)), .val (.int (0 : Int32)), .unset]) rfl ?_
      refine XS.iload X0.here hx rfl (hb hby d11_3) rfl ?_
      refine XS.iload X0.here hx rfl (hb hby d11_5) rfl ?_
      refine XS.icmpNo X0.here hx rfl (hb hby d11_7) rfl (tlt (by decide : (0 : Int32) < (3 : Int32))).2.1 ?_
      refine XS.aloadN X0.here hx rfl (hb hby d11_10) rfl rfl ?_
      refine XS.iloadN X0.here hx rfl (hb hby d11_11) rfl ?_
      exact Steps.refl _)
  obtain ⟨cl2, Ar2, q2, Sz2, M2, Hs2, U2⟩ := id Vr
  have in2 := inb_of (j := (0 : Int32)) Sz2 ⟨(by decide), (by decide)⟩
  have c3 : SS p e below B0 s₁ m 13 #[.val (.ref r), .val (.int (0 : Int32)), .val (.ref t), .val (.int (0 : Int32)), .val (.int (3 : Int32)), .val (.int (0 : Int32)), .unset] [(.int (c0'))] := Steps.trans c1 (by
      refine X0.caload hx (j := (0 : Int32)) (v := (.int (c0'))) (by rw [e0]; exact Ar2.1) (State.isArrayOf_alike hZ.alike Ar2.2.1) Ar2.2.2 in2 (Hs2.at in2 rfl) (g := (mkF m 12 #[.val (.ref r), .val (.int (0 : Int32)), .val (.ref t), .val (.int (0 : Int32)), .val (.int (3 : Int32)), .val (.int (0 : Int32)), .unset] [(.int (0 : Int32)), (.ref r)])) rfl rfl (hb hby d11_12) _ ?_
      exact Steps.refl _)
  have c4 : SS p e below B0 s₁ m 31 #[.val (.ref r), .val (.int (0 : Int32)), .val (.ref t), .val (.int (0 : Int32)), .val (.int (3 : Int32)), .val (.int (0 : Int32)), .val (.int (c0'))] [(.int ((c0').toInt8.toInt32)), (.int (0 : Int32)), (.ref t)] := Steps.trans c3 (by
      refine XS.istore X0.here hx rfl (hb hby d11_13) rfl (l' := #[.val (.ref r), .val (.int (0 : Int32)), .val (.ref t), .val (.int (0 : Int32)), .val (.int (3 : Int32)), .val (.int (0 : Int32)), .val (.int (c0'))]) rfl ?_
      refine XS.iload X0.here hx rfl (hb hby d11_15) rfl ?_
      refine XT.sipushV X0.here hx rfl (255 : Int32) (hb hby d11_17) (by decide) ?_
      refine XS.icmpYes X0.here hx rfl (pc0 := 20) (pc' := 26) rfl (hb hby d11_20) rfl (flt hl0).2.2.2 (by decide) (by decide) ?_
      refine XS.aloadN X0.here hx rfl (hb hby d11_26) rfl rfl ?_
      refine XS.iloadN X0.here hx rfl (hb hby d11_27) rfl ?_
      refine XS.iload X0.here hx rfl (hb hby d11_28) rfl ?_
      refine XS.i2b X0.here hx rfl (hb hby d11_30) rfl ?_
      exact Steps.refl _)
  obtain ⟨cl5, Ar5, q5, Sz5, M5, Hs5, U5⟩ := id Vt
  obtain ⟨T5, h5, X5, e5, W5, st5⟩ := stB X0 hx hZ e0 Ar5 (j := (0 : Int32)) (inb_of Sz5 ⟨(by decide), (by decide)⟩) (g := (mkF m 31 #[.val (.ref r), .val (.int (0 : Int32)), .val (.ref t), .val (.int (0 : Int32)), .val (.int (3 : Int32)), .val (.int (0 : Int32)), .val (.int (c0'))] [(.int ((c0').toInt8.toInt32)), (.int (0 : Int32)), (.ref t)])) rfl rfl (hb hby d11_31)
  have N5 := Fr.snoc X5 N0 (by omega)
  have V5 : Arv Z h5 t kb .byte (3 : Int32) [(.int (nar .byte ((c0').toInt8.toInt32))), (.int (0 : Int32)), (.int (0 : Int32))] (.int (0 : Int32)) := Arv.set Ar5 q5 Sz5 M5 Hs5 U5 (fits_nar_byte _) W5 0 rfl (Nat.le_of_ble_eq_true rfl)
  have z5 : h5.size = h0.size := W5.size
  have K5 := (Keep.refl h0 [t]).wr W5 (Or.inl (List.mem_of_getElem? (i := 0) rfl))
  have c6 : SS p e below B0 T5 m 32 #[.val (.ref r), .val (.int (0 : Int32)), .val (.ref t), .val (.int (0 : Int32)), .val (.int (3 : Int32)), .val (.int (0 : Int32)), .val (.int (c0'))] [] := Steps.trans c4 (st5 _ (Steps.refl _))
  have c7 : SS p e below B0 T5 m 12 #[.val (.ref r), .val (.int (1 : Int32)), .val (.ref t), .val (.int (1 : Int32)), .val (.int (3 : Int32)), .val (.int (1 : Int32)), .val (.int (c0'))] [(.int (1 : Int32)), (.ref r)] := Steps.trans c6 (by
      refine XT.iincV X5.here hx rfl (1 : Int32) (hb hby d11_32) (by decide) rfl (l' := #[.val (.ref r), .val (.int (1 : Int32)), .val (.ref t), .val (.int (0 : Int32)), .val (.int (3 : Int32)), .val (.int (0 : Int32)), .val (.int (c0'))]) rfl ?_
      refine XT.iincV X5.here hx rfl (1 : Int32) (hb hby d11_35) (by decide) rfl (l' := #[.val (.ref r), .val (.int (1 : Int32)), .val (.ref t), .val (.int (1 : Int32)), .val (.int (3 : Int32)), .val (.int (0 : Int32)), .val (.int (c0'))]) rfl ?_
      refine XT.iincV X5.here hx rfl (1 : Int32) (hb hby d11_38) (by decide) rfl (l' := #[.val (.ref r), .val (.int (1 : Int32)), .val (.ref t), .val (.int (1 : Int32)), .val (.int (3 : Int32)), .val (.int (1 : Int32)), .val (.int (c0'))]) rfl ?_
      refine XS.goto X5.here hx rfl (pc0 := 41) (pc' := 3) rfl (hb hby d11_41) (by decide) (by decide) ?_
      refine XS.iload X5.here hx rfl (hb hby d11_3) rfl ?_
      refine XS.iload X5.here hx rfl (hb hby d11_5) rfl ?_
      refine XS.icmpNo X5.here hx rfl (hb hby d11_7) rfl (tlt (by decide : (1 : Int32) < (3 : Int32))).2.1 ?_
      refine XS.aloadN X5.here hx rfl (hb hby d11_10) rfl rfl ?_
      refine XS.iloadN X5.here hx rfl (hb hby d11_11) rfl ?_
      exact Steps.refl _)
  have Arv9 : Arv Z h5 r kc .char (3 : Int32) [(.int c0'), (.int c1'), (.int c2')] (.int (0 : Int32)) := (Vr.other W5 (own_ne (by omega)))
  obtain ⟨cl8, Ar8, q8, Sz8, M8, Hs8, U8⟩ := id Arv9
  have in8 := inb_of (j := (1 : Int32)) Sz8 ⟨(by decide), (by decide)⟩
  have c10 : SS p e below B0 T5 m 13 #[.val (.ref r), .val (.int (1 : Int32)), .val (.ref t), .val (.int (1 : Int32)), .val (.int (3 : Int32)), .val (.int (1 : Int32)), .val (.int (c0'))] [(.int (c1'))] := Steps.trans c7 (by
      refine X5.caload hx (j := (1 : Int32)) (v := (.int (c1'))) (by rw [e5]; exact Ar8.1) (State.isArrayOf_alike hZ.alike Ar8.2.1) Ar8.2.2 in8 (Hs8.at in8 rfl) (g := (mkF m 12 #[.val (.ref r), .val (.int (1 : Int32)), .val (.ref t), .val (.int (1 : Int32)), .val (.int (3 : Int32)), .val (.int (1 : Int32)), .val (.int (c0'))] [(.int (1 : Int32)), (.ref r)])) rfl rfl (hb hby d11_12) _ ?_
      exact Steps.refl _)
  have c11 : SS p e below B0 T5 m 25 #[.val (.ref r), .val (.int (1 : Int32)), .val (.ref t), .val (.int (1 : Int32)), .val (.int (3 : Int32)), .val (.int (1 : Int32)), .val (.int (c1'))] [(.int (1 : Int32))] := Steps.trans c10 (by
      refine XS.istore X5.here hx rfl (hb hby d11_13) rfl (l' := #[.val (.ref r), .val (.int (1 : Int32)), .val (.ref t), .val (.int (1 : Int32)), .val (.int (3 : Int32)), .val (.int (1 : Int32)), .val (.int (c1'))]) rfl ?_
      refine XS.iload X5.here hx rfl (hb hby d11_15) rfl ?_
      refine XT.sipushV X5.here hx rfl (255 : Int32) (hb hby d11_17) (by decide) ?_
      refine XS.icmpNo X5.here hx rfl (hb hby d11_20) rfl (tlt hk).2.2.2 ?_
      refine XS.iload X5.here hx rfl (hb hby d11_23) rfl ?_
      exact Steps.refl _)
  obtain ⟨fs, hr, hrun, hended, hW, hsame⟩ := X5.leave (v := some (.int (1 : Int32))) (fun h => by rw [Bd.returns] at h; cases h)
  subst hB0
  refine ⟨_, _, Steps.trans c11 ?_, hrun, hended, _, _, rfl, ?_, ⟨_, rfl⟩, hW, hsame.mono (by decide) (by decide)⟩
  · exact retI X5 hx Bd.returns (hb hby d11_25) hr
  · show QC5_3_1 Z t kb c0' c1' c2' h0 n0 _ T5.heap _
    rw [e5]
    exact ⟨rfl, N5, K5⟩
def QC5_3_2 (Z : State) (t : Addr) (kb : ClassId) (c0' c1' c2' : Int32) (h0 : Heap) (n0 : Nat) (v : Option Value) (h : Heap) (L : List Loc) : Prop := v = some (.int (2 : Int32)) ∧ Fr n0 L ∧ Keep h0 h [t]
set_option maxRecDepth 65536 in
set_option maxHeartbeats 40000000 in
theorem rmC5_3_2 (l : Launch) (Z : State) (a0 : Array Value) (hw : ∀ d ∈ tables_1, d.before a0 Z = true) (ws : List Jvm.Cond) (r t : Addr) (kc kb : ClassId) (c0' c1' c2' : Int32) (h0 : Heap) (n0 : Nat) (Z0 : n0 ≤ h0.size) (Vr : Arv Z h0 r kc .char (3 : Int32) [(.int c0'), (.int c1'), (.int c2')] (.int (0 : Int32))) (Vt : Arv Z h0 t kb .byte (3 : Int32) [(.int (0 : Int32)), (.int (0 : Int32)), (.int (0 : Int32))] (.int (0 : Int32))) (hrt : (@Ne Nat r t)) (gt : n0 ≤ t) (hl0 : ¬ (255 : Int32) < c0') (hl1 : ¬ (255 : Int32) < c1') (hk : (255 : Int32) < c2') :
    MetFree l (⟨"java/lang/StringUTF16", "compress", "([CI[BII)I"⟩ : MethodName) (head1 (Jvm.Cond.code (⟨"java/lang/StringUTF16", "compress", "([CI[BII)I"⟩ : MethodName) jdk_52_method_21_code 7 (some .int) :: ws) ({ frames := 0, cells := 0, slots := 0, locals := 0 } : Room)) (fun a U => a = #[(.ref r), (.int (0 : Int32)), (.ref t), (.int (0 : Int32)), (.int (3 : Int32))] ∧ Z.Warmed39 U.vm ∧ U.heap = h0) (fun _ _ _ _ _ => True) (fun _ U o U' => ∃ v L, o = .returned v ∧ QC5_3_2 Z t kb c0' c1' c2' h0 n0 v U'.heap L ∧ FrameEnd U o U' L ({ frames := 0, cells := 0, slots := 0, locals := 0 } : Room).cells ({ frames := 0, cells := 0, slots := 0, locals := 0 } : Room).slots) := by
  refine MetFree.of_bodySF (plainFor_of_name pn_java_lang_StringUTF16) hisR ?_
  intro p e s m args below meth c s₁ Bd hml0 hP hK
  obtain ⟨rfl, hZ, hh⟩ := hP
  have hx := Bd.exec
  have hby := Bd.bytes
  have hml : c.maxLocals = 7 := hml0
  have hown : s.vm.findClass "java/lang/StringUTF16" = some m.cls := findClass_of_methodNamed Bd.named
  have hnm := (name_of_methodNamed Bd.named Bd.method).1
  have X0 : Stand p l e ({ frames := 0, cells := 0, slots := 0, locals := 0 } : Room) s m #[(.ref r), (.int (0 : Int32)), (.ref t), (.int (0 : Int32)), (.int (3 : Int32))] below meth c s₁ [] 0 0 := Stand.of_body Bd
  have e0 : s₁.heap = h0 := by rw [← hh, Bd.state]; rfl
  have N0 := Fr.nil n0
  obtain ⟨B0, c0, hB0⟩ : ∃ B0, Steps p.tables e below B0 (s₁.setTop (mkF m 0 #[.val (.ref r), .val (.int (0 : Int32)), .val (.ref t), .val (.int (0 : Int32)), .val (.int (3 : Int32)), .unset, .unset] [])) ∧ B0 = s₁.setTop (entryFrame m #[(.ref r), (.int (0 : Int32)), (.ref t), (.int (0 : Int32)), (.int (3 : Int32))] 7) := ⟨_, castTop (ef_RIRII_7 m r (0 : Int32) t (0 : Int32) (3 : Int32)) (Steps.refl _), rfl⟩
  have lt_r : (@LT.lt Nat _ r h0.size) := Vr.lt
  have lt_t : (@LT.lt Nat _ t h0.size) := Vt.lt
  have c1 : SS p e below B0 s₁ m 12 #[.val (.ref r), .val (.int (0 : Int32)), .val (.ref t), .val (.int (0 : Int32)), .val (.int (3 : Int32)), .val (.int (0 : Int32)), .unset] [(.int (0 : Int32)), (.ref r)] := Steps.trans c0 (by
      refine XT.iconstV X0.here hx rfl (0 : Int32) (hb hby d11_0) (by decide) ?_
      refine XS.istore X0.here hx rfl (hb hby d11_1) rfl (l' := #[.val (.ref r), .val (.int (0 : Int32)), .val (.ref t), .val (.int (0 : Int32)), .val (.int (3 : Int32)), .val (.int (0 : Int32)), .unset]) rfl ?_
      refine XS.iload X0.here hx rfl (hb hby d11_3) rfl ?_
      refine XS.iload X0.here hx rfl (hb hby d11_5) rfl ?_
      refine XS.icmpNo X0.here hx rfl (hb hby d11_7) rfl (tlt (by decide : (0 : Int32) < (3 : Int32))).2.1 ?_
      refine XS.aloadN X0.here hx rfl (hb hby d11_10) rfl rfl ?_
      refine XS.iloadN X0.here hx rfl (hb hby d11_11) rfl ?_
      exact Steps.refl _)
  obtain ⟨cl2, Ar2, q2, Sz2, M2, Hs2, U2⟩ := id Vr
  have in2 := inb_of (j := (0 : Int32)) Sz2 ⟨(by decide), (by decide)⟩
  have c3 : SS p e below B0 s₁ m 13 #[.val (.ref r), .val (.int (0 : Int32)), .val (.ref t), .val (.int (0 : Int32)), .val (.int (3 : Int32)), .val (.int (0 : Int32)), .unset] [(.int (c0'))] := Steps.trans c1 (by
      refine X0.caload hx (j := (0 : Int32)) (v := (.int (c0'))) (by rw [e0]; exact Ar2.1) (State.isArrayOf_alike hZ.alike Ar2.2.1) Ar2.2.2 in2 (Hs2.at in2 rfl) (g := (mkF m 12 #[.val (.ref r), .val (.int (0 : Int32)), .val (.ref t), .val (.int (0 : Int32)), .val (.int (3 : Int32)), .val (.int (0 : Int32)), .unset] [(.int (0 : Int32)), (.ref r)])) rfl rfl (hb hby d11_12) _ ?_
      exact Steps.refl _)
  have c4 : SS p e below B0 s₁ m 31 #[.val (.ref r), .val (.int (0 : Int32)), .val (.ref t), .val (.int (0 : Int32)), .val (.int (3 : Int32)), .val (.int (0 : Int32)), .val (.int (c0'))] [(.int ((c0').toInt8.toInt32)), (.int (0 : Int32)), (.ref t)] := Steps.trans c3 (by
      refine XS.istore X0.here hx rfl (hb hby d11_13) rfl (l' := #[.val (.ref r), .val (.int (0 : Int32)), .val (.ref t), .val (.int (0 : Int32)), .val (.int (3 : Int32)), .val (.int (0 : Int32)), .val (.int (c0'))]) rfl ?_
      refine XS.iload X0.here hx rfl (hb hby d11_15) rfl ?_
      refine XT.sipushV X0.here hx rfl (255 : Int32) (hb hby d11_17) (by decide) ?_
      refine XS.icmpYes X0.here hx rfl (pc0 := 20) (pc' := 26) rfl (hb hby d11_20) rfl (flt hl0).2.2.2 (by decide) (by decide) ?_
      refine XS.aloadN X0.here hx rfl (hb hby d11_26) rfl rfl ?_
      refine XS.iloadN X0.here hx rfl (hb hby d11_27) rfl ?_
      refine XS.iload X0.here hx rfl (hb hby d11_28) rfl ?_
      refine XS.i2b X0.here hx rfl (hb hby d11_30) rfl ?_
      exact Steps.refl _)
  obtain ⟨cl5, Ar5, q5, Sz5, M5, Hs5, U5⟩ := id Vt
  obtain ⟨T5, h5, X5, e5, W5, st5⟩ := stB X0 hx hZ e0 Ar5 (j := (0 : Int32)) (inb_of Sz5 ⟨(by decide), (by decide)⟩) (g := (mkF m 31 #[.val (.ref r), .val (.int (0 : Int32)), .val (.ref t), .val (.int (0 : Int32)), .val (.int (3 : Int32)), .val (.int (0 : Int32)), .val (.int (c0'))] [(.int ((c0').toInt8.toInt32)), (.int (0 : Int32)), (.ref t)])) rfl rfl (hb hby d11_31)
  have N5 := Fr.snoc X5 N0 (by omega)
  have V5 : Arv Z h5 t kb .byte (3 : Int32) [(.int (nar .byte ((c0').toInt8.toInt32))), (.int (0 : Int32)), (.int (0 : Int32))] (.int (0 : Int32)) := Arv.set Ar5 q5 Sz5 M5 Hs5 U5 (fits_nar_byte _) W5 0 rfl (Nat.le_of_ble_eq_true rfl)
  have z5 : h5.size = h0.size := W5.size
  have K5 := (Keep.refl h0 [t]).wr W5 (Or.inl (List.mem_of_getElem? (i := 0) rfl))
  have c6 : SS p e below B0 T5 m 32 #[.val (.ref r), .val (.int (0 : Int32)), .val (.ref t), .val (.int (0 : Int32)), .val (.int (3 : Int32)), .val (.int (0 : Int32)), .val (.int (c0'))] [] := Steps.trans c4 (st5 _ (Steps.refl _))
  have c7 : SS p e below B0 T5 m 12 #[.val (.ref r), .val (.int (1 : Int32)), .val (.ref t), .val (.int (1 : Int32)), .val (.int (3 : Int32)), .val (.int (1 : Int32)), .val (.int (c0'))] [(.int (1 : Int32)), (.ref r)] := Steps.trans c6 (by
      refine XT.iincV X5.here hx rfl (1 : Int32) (hb hby d11_32) (by decide) rfl (l' := #[.val (.ref r), .val (.int (1 : Int32)), .val (.ref t), .val (.int (0 : Int32)), .val (.int (3 : Int32)), .val (.int (0 : Int32)), .val (.int (c0'))]) rfl ?_
      refine XT.iincV X5.here hx rfl (1 : Int32) (hb hby d11_35) (by decide) rfl (l' := #[.val (.ref r), .val (.int (1 : Int32)), .val (.ref t), .val (.int (1 : Int32)), .val (.int (3 : Int32)), .val (.int (0 : Int32)), .val (.int (c0'))]) rfl ?_
      refine XT.iincV X5.here hx rfl (1 : Int32) (hb hby d11_38) (by decide) rfl (l' := #[.val (.ref r), .val (.int (1 : Int32)), .val (.ref t), .val (.int (1 : Int32)), .val (.int (3 : Int32)), .val (.int (1 : Int32)), .val (.int (c0'))]) rfl ?_
      refine XS.goto X5.here hx rfl (pc0 := 41) (pc' := 3) rfl (hb hby d11_41) (by decide) (by decide) ?_
      refine XS.iload X5.here hx rfl (hb hby d11_3) rfl ?_
      refine XS.iload X5.here hx rfl (hb hby d11_5) rfl ?_
      refine XS.icmpNo X5.here hx rfl (hb hby d11_7) rfl (tlt (by decide : (1 : Int32) < (3 : Int32))).2.1 ?_
      refine XS.aloadN X5.here hx rfl (hb hby d11_10) rfl rfl ?_
      refine XS.iloadN X5.here hx rfl (hb hby d11_11) rfl ?_
      exact Steps.refl _)
  have Arv9 : Arv Z h5 r kc .char (3 : Int32) [(.int c0'), (.int c1'), (.int c2')] (.int (0 : Int32)) := (Vr.other W5 (own_ne (by omega)))
  obtain ⟨cl8, Ar8, q8, Sz8, M8, Hs8, U8⟩ := id Arv9
  have in8 := inb_of (j := (1 : Int32)) Sz8 ⟨(by decide), (by decide)⟩
  have c10 : SS p e below B0 T5 m 13 #[.val (.ref r), .val (.int (1 : Int32)), .val (.ref t), .val (.int (1 : Int32)), .val (.int (3 : Int32)), .val (.int (1 : Int32)), .val (.int (c0'))] [(.int (c1'))] := Steps.trans c7 (by
      refine X5.caload hx (j := (1 : Int32)) (v := (.int (c1'))) (by rw [e5]; exact Ar8.1) (State.isArrayOf_alike hZ.alike Ar8.2.1) Ar8.2.2 in8 (Hs8.at in8 rfl) (g := (mkF m 12 #[.val (.ref r), .val (.int (1 : Int32)), .val (.ref t), .val (.int (1 : Int32)), .val (.int (3 : Int32)), .val (.int (1 : Int32)), .val (.int (c0'))] [(.int (1 : Int32)), (.ref r)])) rfl rfl (hb hby d11_12) _ ?_
      exact Steps.refl _)
  have c11 : SS p e below B0 T5 m 31 #[.val (.ref r), .val (.int (1 : Int32)), .val (.ref t), .val (.int (1 : Int32)), .val (.int (3 : Int32)), .val (.int (1 : Int32)), .val (.int (c1'))] [(.int ((c1').toInt8.toInt32)), (.int (1 : Int32)), (.ref t)] := Steps.trans c10 (by
      refine XS.istore X5.here hx rfl (hb hby d11_13) rfl (l' := #[.val (.ref r), .val (.int (1 : Int32)), .val (.ref t), .val (.int (1 : Int32)), .val (.int (3 : Int32)), .val (.int (1 : Int32)), .val (.int (c1'))]) rfl ?_
      refine XS.iload X5.here hx rfl (hb hby d11_15) rfl ?_
      refine XT.sipushV X5.here hx rfl (255 : Int32) (hb hby d11_17) (by decide) ?_
      refine XS.icmpYes X5.here hx rfl (pc0 := 20) (pc' := 26) rfl (hb hby d11_20) rfl (flt hl1).2.2.2 (by decide) (by decide) ?_
      refine XS.aloadN X5.here hx rfl (hb hby d11_26) rfl rfl ?_
      refine XS.iloadN X5.here hx rfl (hb hby d11_27) rfl ?_
      refine XS.iload X5.here hx rfl (hb hby d11_28) rfl ?_
      refine XS.i2b X5.here hx rfl (hb hby d11_30) rfl ?_
      exact Steps.refl _)
  obtain ⟨cl12, Ar12, q12, Sz12, M12, Hs12, U12⟩ := id V5
  obtain ⟨T12, h12, X12, e12, W12, st12⟩ := stB X5 hx hZ e5 Ar12 (j := (1 : Int32)) (inb_of Sz12 ⟨(by decide), (by decide)⟩) (g := (mkF m 31 #[.val (.ref r), .val (.int (1 : Int32)), .val (.ref t), .val (.int (1 : Int32)), .val (.int (3 : Int32)), .val (.int (1 : Int32)), .val (.int (c1'))] [(.int ((c1').toInt8.toInt32)), (.int (1 : Int32)), (.ref t)])) rfl rfl (hb hby d11_31)
  have N12 := Fr.snoc X12 N5 (by omega)
  have V12 : Arv Z h12 t kb .byte (3 : Int32) [(.int (nar .byte ((c0').toInt8.toInt32))), (.int (nar .byte ((c1').toInt8.toInt32))), (.int (0 : Int32))] (.int (0 : Int32)) := Arv.set Ar12 q12 Sz12 M12 Hs12 U12 (fits_nar_byte _) W12 1 rfl (Nat.le_of_ble_eq_true rfl)
  have z12 : h12.size = h5.size := W12.size
  have K12 := K5.wr W12 (Or.inl (List.mem_of_getElem? (i := 0) rfl))
  have c13 : SS p e below B0 T12 m 32 #[.val (.ref r), .val (.int (1 : Int32)), .val (.ref t), .val (.int (1 : Int32)), .val (.int (3 : Int32)), .val (.int (1 : Int32)), .val (.int (c1'))] [] := Steps.trans c11 (st12 _ (Steps.refl _))
  have c14 : SS p e below B0 T12 m 12 #[.val (.ref r), .val (.int (2 : Int32)), .val (.ref t), .val (.int (2 : Int32)), .val (.int (3 : Int32)), .val (.int (2 : Int32)), .val (.int (c1'))] [(.int (2 : Int32)), (.ref r)] := Steps.trans c13 (by
      refine XT.iincV X12.here hx rfl (1 : Int32) (hb hby d11_32) (by decide) rfl (l' := #[.val (.ref r), .val (.int (2 : Int32)), .val (.ref t), .val (.int (1 : Int32)), .val (.int (3 : Int32)), .val (.int (1 : Int32)), .val (.int (c1'))]) rfl ?_
      refine XT.iincV X12.here hx rfl (1 : Int32) (hb hby d11_35) (by decide) rfl (l' := #[.val (.ref r), .val (.int (2 : Int32)), .val (.ref t), .val (.int (2 : Int32)), .val (.int (3 : Int32)), .val (.int (1 : Int32)), .val (.int (c1'))]) rfl ?_
      refine XT.iincV X12.here hx rfl (1 : Int32) (hb hby d11_38) (by decide) rfl (l' := #[.val (.ref r), .val (.int (2 : Int32)), .val (.ref t), .val (.int (2 : Int32)), .val (.int (3 : Int32)), .val (.int (2 : Int32)), .val (.int (c1'))]) rfl ?_
      refine XS.goto X12.here hx rfl (pc0 := 41) (pc' := 3) rfl (hb hby d11_41) (by decide) (by decide) ?_
      refine XS.iload X12.here hx rfl (hb hby d11_3) rfl ?_
      refine XS.iload X12.here hx rfl (hb hby d11_5) rfl ?_
      refine XS.icmpNo X12.here hx rfl (hb hby d11_7) rfl (tlt (by decide : (2 : Int32) < (3 : Int32))).2.1 ?_
      refine XS.aloadN X12.here hx rfl (hb hby d11_10) rfl rfl ?_
      refine XS.iloadN X12.here hx rfl (hb hby d11_11) rfl ?_
      exact Steps.refl _)
  have Arv16 : Arv Z h12 r kc .char (3 : Int32) [(.int c0'), (.int c1'), (.int c2')] (.int (0 : Int32)) := (Arv9.other W12 (own_ne (by omega)))
  obtain ⟨cl15, Ar15, q15, Sz15, M15, Hs15, U15⟩ := id Arv16
  have in15 := inb_of (j := (2 : Int32)) Sz15 ⟨(by decide), (by decide)⟩
  have c17 : SS p e below B0 T12 m 13 #[.val (.ref r), .val (.int (2 : Int32)), .val (.ref t), .val (.int (2 : Int32)), .val (.int (3 : Int32)), .val (.int (2 : Int32)), .val (.int (c1'))] [(.int (c2'))] := Steps.trans c14 (by
      refine X12.caload hx (j := (2 : Int32)) (v := (.int (c2'))) (by rw [e12]; exact Ar15.1) (State.isArrayOf_alike hZ.alike Ar15.2.1) Ar15.2.2 in15 (Hs15.at in15 rfl) (g := (mkF m 12 #[.val (.ref r), .val (.int (2 : Int32)), .val (.ref t), .val (.int (2 : Int32)), .val (.int (3 : Int32)), .val (.int (2 : Int32)), .val (.int (c1'))] [(.int (2 : Int32)), (.ref r)])) rfl rfl (hb hby d11_12) _ ?_
      exact Steps.refl _)
  have c18 : SS p e below B0 T12 m 25 #[.val (.ref r), .val (.int (2 : Int32)), .val (.ref t), .val (.int (2 : Int32)), .val (.int (3 : Int32)), .val (.int (2 : Int32)), .val (.int (c2'))] [(.int (2 : Int32))] := Steps.trans c17 (by
      refine XS.istore X12.here hx rfl (hb hby d11_13) rfl (l' := #[.val (.ref r), .val (.int (2 : Int32)), .val (.ref t), .val (.int (2 : Int32)), .val (.int (3 : Int32)), .val (.int (2 : Int32)), .val (.int (c2'))]) rfl ?_
      refine XS.iload X12.here hx rfl (hb hby d11_15) rfl ?_
      refine XT.sipushV X12.here hx rfl (255 : Int32) (hb hby d11_17) (by decide) ?_
      refine XS.icmpNo X12.here hx rfl (hb hby d11_20) rfl (tlt hk).2.2.2 ?_
      refine XS.iload X12.here hx rfl (hb hby d11_23) rfl ?_
      exact Steps.refl _)
  obtain ⟨fs, hr, hrun, hended, hW, hsame⟩ := X12.leave (v := some (.int (2 : Int32))) (fun h => by rw [Bd.returns] at h; cases h)
  subst hB0
  refine ⟨_, _, Steps.trans c18 ?_, hrun, hended, _, _, rfl, ?_, ⟨_, rfl⟩, hW, hsame.mono (by decide) (by decide)⟩
  · exact retI X12 hx Bd.returns (hb hby d11_25) hr
  · show QC5_3_2 Z t kb c0' c1' c2' h0 n0 _ T12.heap _
    rw [e12]
    exact ⟨rfl, N12, K12⟩
def QC5_3_3 (Z : State) (t : Addr) (kb : ClassId) (c0' c1' c2' : Int32) (h0 : Heap) (n0 : Nat) (v : Option Value) (h : Heap) (L : List Loc) : Prop := v = some (.int (3 : Int32)) ∧ Fr n0 L ∧ Keep h0 h [t] ∧ Arv Z h t kb .byte (3 : Int32) [(.int (nar .byte (c0'.toInt8.toInt32))), (.int (nar .byte (c1'.toInt8.toInt32))), (.int (nar .byte (c2'.toInt8.toInt32)))] (.int (0 : Int32))
set_option maxRecDepth 65536 in
set_option maxHeartbeats 40000000 in
theorem rmC5_3_3 (l : Launch) (Z : State) (a0 : Array Value) (hw : ∀ d ∈ tables_1, d.before a0 Z = true) (ws : List Jvm.Cond) (r t : Addr) (kc kb : ClassId) (c0' c1' c2' : Int32) (h0 : Heap) (n0 : Nat) (Z0 : n0 ≤ h0.size) (Vr : Arv Z h0 r kc .char (3 : Int32) [(.int c0'), (.int c1'), (.int c2')] (.int (0 : Int32))) (Vt : Arv Z h0 t kb .byte (3 : Int32) [(.int (0 : Int32)), (.int (0 : Int32)), (.int (0 : Int32))] (.int (0 : Int32))) (hrt : (@Ne Nat r t)) (gt : n0 ≤ t) (hl0 : ¬ (255 : Int32) < c0') (hl1 : ¬ (255 : Int32) < c1') (hl2 : ¬ (255 : Int32) < c2') :
    MetFree l (⟨"java/lang/StringUTF16", "compress", "([CI[BII)I"⟩ : MethodName) (head1 (Jvm.Cond.code (⟨"java/lang/StringUTF16", "compress", "([CI[BII)I"⟩ : MethodName) jdk_52_method_21_code 7 (some .int) :: ws) ({ frames := 0, cells := 0, slots := 0, locals := 0 } : Room)) (fun a U => a = #[(.ref r), (.int (0 : Int32)), (.ref t), (.int (0 : Int32)), (.int (3 : Int32))] ∧ Z.Warmed39 U.vm ∧ U.heap = h0) (fun _ _ _ _ _ => True) (fun _ U o U' => ∃ v L, o = .returned v ∧ QC5_3_3 Z t kb c0' c1' c2' h0 n0 v U'.heap L ∧ FrameEnd U o U' L ({ frames := 0, cells := 0, slots := 0, locals := 0 } : Room).cells ({ frames := 0, cells := 0, slots := 0, locals := 0 } : Room).slots) := by
  refine MetFree.of_bodySF (plainFor_of_name pn_java_lang_StringUTF16) hisR ?_
  intro p e s m args below meth c s₁ Bd hml0 hP hK
  obtain ⟨rfl, hZ, hh⟩ := hP
  have hx := Bd.exec
  have hby := Bd.bytes
  have hml : c.maxLocals = 7 := hml0
  have hown : s.vm.findClass "java/lang/StringUTF16" = some m.cls := findClass_of_methodNamed Bd.named
  have hnm := (name_of_methodNamed Bd.named Bd.method).1
  have X0 : Stand p l e ({ frames := 0, cells := 0, slots := 0, locals := 0 } : Room) s m #[(.ref r), (.int (0 : Int32)), (.ref t), (.int (0 : Int32)), (.int (3 : Int32))] below meth c s₁ [] 0 0 := Stand.of_body Bd
  have e0 : s₁.heap = h0 := by rw [← hh, Bd.state]; rfl
  have N0 := Fr.nil n0
  obtain ⟨B0, c0, hB0⟩ : ∃ B0, Steps p.tables e below B0 (s₁.setTop (mkF m 0 #[.val (.ref r), .val (.int (0 : Int32)), .val (.ref t), .val (.int (0 : Int32)), .val (.int (3 : Int32)), .unset, .unset] [])) ∧ B0 = s₁.setTop (entryFrame m #[(.ref r), (.int (0 : Int32)), (.ref t), (.int (0 : Int32)), (.int (3 : Int32))] 7) := ⟨_, castTop (ef_RIRII_7 m r (0 : Int32) t (0 : Int32) (3 : Int32)) (Steps.refl _), rfl⟩
  have lt_r : (@LT.lt Nat _ r h0.size) := Vr.lt
  have lt_t : (@LT.lt Nat _ t h0.size) := Vt.lt
  have c1 : SS p e below B0 s₁ m 12 #[.val (.ref r), .val (.int (0 : Int32)), .val (.ref t), .val (.int (0 : Int32)), .val (.int (3 : Int32)), .val (.int (0 : Int32)), .unset] [(.int (0 : Int32)), (.ref r)] := Steps.trans c0 (by
      refine XT.iconstV X0.here hx rfl (0 : Int32) (hb hby d11_0) (by decide) ?_
      refine XS.istore X0.here hx rfl (hb hby d11_1) rfl (l' := #[.val (.ref r), .val (.int (0 : Int32)), .val (.ref t), .val (.int (0 : Int32)), .val (.int (3 : Int32)), .val (.int (0 : Int32)), .unset]) rfl ?_
      refine XS.iload X0.here hx rfl (hb hby d11_3) rfl ?_
      refine XS.iload X0.here hx rfl (hb hby d11_5) rfl ?_
      refine XS.icmpNo X0.here hx rfl (hb hby d11_7) rfl (tlt (by decide : (0 : Int32) < (3 : Int32))).2.1 ?_
      refine XS.aloadN X0.here hx rfl (hb hby d11_10) rfl rfl ?_
      refine XS.iloadN X0.here hx rfl (hb hby d11_11) rfl ?_
      exact Steps.refl _)
  obtain ⟨cl2, Ar2, q2, Sz2, M2, Hs2, U2⟩ := id Vr
  have in2 := inb_of (j := (0 : Int32)) Sz2 ⟨(by decide), (by decide)⟩
  have c3 : SS p e below B0 s₁ m 13 #[.val (.ref r), .val (.int (0 : Int32)), .val (.ref t), .val (.int (0 : Int32)), .val (.int (3 : Int32)), .val (.int (0 : Int32)), .unset] [(.int (c0'))] := Steps.trans c1 (by
      refine X0.caload hx (j := (0 : Int32)) (v := (.int (c0'))) (by rw [e0]; exact Ar2.1) (State.isArrayOf_alike hZ.alike Ar2.2.1) Ar2.2.2 in2 (Hs2.at in2 rfl) (g := (mkF m 12 #[.val (.ref r), .val (.int (0 : Int32)), .val (.ref t), .val (.int (0 : Int32)), .val (.int (3 : Int32)), .val (.int (0 : Int32)), .unset] [(.int (0 : Int32)), (.ref r)])) rfl rfl (hb hby d11_12) _ ?_
      exact Steps.refl _)
  have c4 : SS p e below B0 s₁ m 31 #[.val (.ref r), .val (.int (0 : Int32)), .val (.ref t), .val (.int (0 : Int32)), .val (.int (3 : Int32)), .val (.int (0 : Int32)), .val (.int (c0'))] [(.int ((c0').toInt8.toInt32)), (.int (0 : Int32)), (.ref t)] := Steps.trans c3 (by
      refine XS.istore X0.here hx rfl (hb hby d11_13) rfl (l' := #[.val (.ref r), .val (.int (0 : Int32)), .val (.ref t), .val (.int (0 : Int32)), .val (.int (3 : Int32)), .val (.int (0 : Int32)), .val (.int (c0'))]) rfl ?_
      refine XS.iload X0.here hx rfl (hb hby d11_15) rfl ?_
      refine XT.sipushV X0.here hx rfl (255 : Int32) (hb hby d11_17) (by decide) ?_
      refine XS.icmpYes X0.here hx rfl (pc0 := 20) (pc' := 26) rfl (hb hby d11_20) rfl (flt hl0).2.2.2 (by decide) (by decide) ?_
      refine XS.aloadN X0.here hx rfl (hb hby d11_26) rfl rfl ?_
      refine XS.iloadN X0.here hx rfl (hb hby d11_27) rfl ?_
      refine XS.iload X0.here hx rfl (hb hby d11_28) rfl ?_
      refine XS.i2b X0.here hx rfl (hb hby d11_30) rfl ?_
      exact Steps.refl _)
  obtain ⟨cl5, Ar5, q5, Sz5, M5, Hs5, U5⟩ := id Vt
  obtain ⟨T5, h5, X5, e5, W5, st5⟩ := stB X0 hx hZ e0 Ar5 (j := (0 : Int32)) (inb_of Sz5 ⟨(by decide), (by decide)⟩) (g := (mkF m 31 #[.val (.ref r), .val (.int (0 : Int32)), .val (.ref t), .val (.int (0 : Int32)), .val (.int (3 : Int32)), .val (.int (0 : Int32)), .val (.int (c0'))] [(.int ((c0').toInt8.toInt32)), (.int (0 : Int32)), (.ref t)])) rfl rfl (hb hby d11_31)
  have N5 := Fr.snoc X5 N0 (by omega)
  have V5 : Arv Z h5 t kb .byte (3 : Int32) [(.int (nar .byte ((c0').toInt8.toInt32))), (.int (0 : Int32)), (.int (0 : Int32))] (.int (0 : Int32)) := Arv.set Ar5 q5 Sz5 M5 Hs5 U5 (fits_nar_byte _) W5 0 rfl (Nat.le_of_ble_eq_true rfl)
  have z5 : h5.size = h0.size := W5.size
  have K5 := (Keep.refl h0 [t]).wr W5 (Or.inl (List.mem_of_getElem? (i := 0) rfl))
  have c6 : SS p e below B0 T5 m 32 #[.val (.ref r), .val (.int (0 : Int32)), .val (.ref t), .val (.int (0 : Int32)), .val (.int (3 : Int32)), .val (.int (0 : Int32)), .val (.int (c0'))] [] := Steps.trans c4 (st5 _ (Steps.refl _))
  have c7 : SS p e below B0 T5 m 12 #[.val (.ref r), .val (.int (1 : Int32)), .val (.ref t), .val (.int (1 : Int32)), .val (.int (3 : Int32)), .val (.int (1 : Int32)), .val (.int (c0'))] [(.int (1 : Int32)), (.ref r)] := Steps.trans c6 (by
      refine XT.iincV X5.here hx rfl (1 : Int32) (hb hby d11_32) (by decide) rfl (l' := #[.val (.ref r), .val (.int (1 : Int32)), .val (.ref t), .val (.int (0 : Int32)), .val (.int (3 : Int32)), .val (.int (0 : Int32)), .val (.int (c0'))]) rfl ?_
      refine XT.iincV X5.here hx rfl (1 : Int32) (hb hby d11_35) (by decide) rfl (l' := #[.val (.ref r), .val (.int (1 : Int32)), .val (.ref t), .val (.int (1 : Int32)), .val (.int (3 : Int32)), .val (.int (0 : Int32)), .val (.int (c0'))]) rfl ?_
      refine XT.iincV X5.here hx rfl (1 : Int32) (hb hby d11_38) (by decide) rfl (l' := #[.val (.ref r), .val (.int (1 : Int32)), .val (.ref t), .val (.int (1 : Int32)), .val (.int (3 : Int32)), .val (.int (1 : Int32)), .val (.int (c0'))]) rfl ?_
      refine XS.goto X5.here hx rfl (pc0 := 41) (pc' := 3) rfl (hb hby d11_41) (by decide) (by decide) ?_
      refine XS.iload X5.here hx rfl (hb hby d11_3) rfl ?_
      refine XS.iload X5.here hx rfl (hb hby d11_5) rfl ?_
      refine XS.icmpNo X5.here hx rfl (hb hby d11_7) rfl (tlt (by decide : (1 : Int32) < (3 : Int32))).2.1 ?_
      refine XS.aloadN X5.here hx rfl (hb hby d11_10) rfl rfl ?_
      refine XS.iloadN X5.here hx rfl (hb hby d11_11) rfl ?_
      exact Steps.refl _)
  have Arv9 : Arv Z h5 r kc .char (3 : Int32) [(.int c0'), (.int c1'), (.int c2')] (.int (0 : Int32)) := (Vr.other W5 (own_ne (by omega)))
  obtain ⟨cl8, Ar8, q8, Sz8, M8, Hs8, U8⟩ := id Arv9
  have in8 := inb_of (j := (1 : Int32)) Sz8 ⟨(by decide), (by decide)⟩
  have c10 : SS p e below B0 T5 m 13 #[.val (.ref r), .val (.int (1 : Int32)), .val (.ref t), .val (.int (1 : Int32)), .val (.int (3 : Int32)), .val (.int (1 : Int32)), .val (.int (c0'))] [(.int (c1'))] := Steps.trans c7 (by
      refine X5.caload hx (j := (1 : Int32)) (v := (.int (c1'))) (by rw [e5]; exact Ar8.1) (State.isArrayOf_alike hZ.alike Ar8.2.1) Ar8.2.2 in8 (Hs8.at in8 rfl) (g := (mkF m 12 #[.val (.ref r), .val (.int (1 : Int32)), .val (.ref t), .val (.int (1 : Int32)), .val (.int (3 : Int32)), .val (.int (1 : Int32)), .val (.int (c0'))] [(.int (1 : Int32)), (.ref r)])) rfl rfl (hb hby d11_12) _ ?_
      exact Steps.refl _)
  have c11 : SS p e below B0 T5 m 31 #[.val (.ref r), .val (.int (1 : Int32)), .val (.ref t), .val (.int (1 : Int32)), .val (.int (3 : Int32)), .val (.int (1 : Int32)), .val (.int (c1'))] [(.int ((c1').toInt8.toInt32)), (.int (1 : Int32)), (.ref t)] := Steps.trans c10 (by
      refine XS.istore X5.here hx rfl (hb hby d11_13) rfl (l' := #[.val (.ref r), .val (.int (1 : Int32)), .val (.ref t), .val (.int (1 : Int32)), .val (.int (3 : Int32)), .val (.int (1 : Int32)), .val (.int (c1'))]) rfl ?_
      refine XS.iload X5.here hx rfl (hb hby d11_15) rfl ?_
      refine XT.sipushV X5.here hx rfl (255 : Int32) (hb hby d11_17) (by decide) ?_
      refine XS.icmpYes X5.here hx rfl (pc0 := 20) (pc' := 26) rfl (hb hby d11_20) rfl (flt hl1).2.2.2 (by decide) (by decide) ?_
      refine XS.aloadN X5.here hx rfl (hb hby d11_26) rfl rfl ?_
      refine XS.iloadN X5.here hx rfl (hb hby d11_27) rfl ?_
      refine XS.iload X5.here hx rfl (hb hby d11_28) rfl ?_
      refine XS.i2b X5.here hx rfl (hb hby d11_30) rfl ?_
      exact Steps.refl _)
  obtain ⟨cl12, Ar12, q12, Sz12, M12, Hs12, U12⟩ := id V5
  obtain ⟨T12, h12, X12, e12, W12, st12⟩ := stB X5 hx hZ e5 Ar12 (j := (1 : Int32)) (inb_of Sz12 ⟨(by decide), (by decide)⟩) (g := (mkF m 31 #[.val (.ref r), .val (.int (1 : Int32)), .val (.ref t), .val (.int (1 : Int32)), .val (.int (3 : Int32)), .val (.int (1 : Int32)), .val (.int (c1'))] [(.int ((c1').toInt8.toInt32)), (.int (1 : Int32)), (.ref t)])) rfl rfl (hb hby d11_31)
  have N12 := Fr.snoc X12 N5 (by omega)
  have V12 : Arv Z h12 t kb .byte (3 : Int32) [(.int (nar .byte ((c0').toInt8.toInt32))), (.int (nar .byte ((c1').toInt8.toInt32))), (.int (0 : Int32))] (.int (0 : Int32)) := Arv.set Ar12 q12 Sz12 M12 Hs12 U12 (fits_nar_byte _) W12 1 rfl (Nat.le_of_ble_eq_true rfl)
  have z12 : h12.size = h5.size := W12.size
  have K12 := K5.wr W12 (Or.inl (List.mem_of_getElem? (i := 0) rfl))
  have c13 : SS p e below B0 T12 m 32 #[.val (.ref r), .val (.int (1 : Int32)), .val (.ref t), .val (.int (1 : Int32)), .val (.int (3 : Int32)), .val (.int (1 : Int32)), .val (.int (c1'))] [] := Steps.trans c11 (st12 _ (Steps.refl _))
  have c14 : SS p e below B0 T12 m 12 #[.val (.ref r), .val (.int (2 : Int32)), .val (.ref t), .val (.int (2 : Int32)), .val (.int (3 : Int32)), .val (.int (2 : Int32)), .val (.int (c1'))] [(.int (2 : Int32)), (.ref r)] := Steps.trans c13 (by
      refine XT.iincV X12.here hx rfl (1 : Int32) (hb hby d11_32) (by decide) rfl (l' := #[.val (.ref r), .val (.int (2 : Int32)), .val (.ref t), .val (.int (1 : Int32)), .val (.int (3 : Int32)), .val (.int (1 : Int32)), .val (.int (c1'))]) rfl ?_
      refine XT.iincV X12.here hx rfl (1 : Int32) (hb hby d11_35) (by decide) rfl (l' := #[.val (.ref r), .val (.int (2 : Int32)), .val (.ref t), .val (.int (2 : Int32)), .val (.int (3 : Int32)), .val (.int (1 : Int32)), .val (.int (c1'))]) rfl ?_
      refine XT.iincV X12.here hx rfl (1 : Int32) (hb hby d11_38) (by decide) rfl (l' := #[.val (.ref r), .val (.int (2 : Int32)), .val (.ref t), .val (.int (2 : Int32)), .val (.int (3 : Int32)), .val (.int (2 : Int32)), .val (.int (c1'))]) rfl ?_
      refine XS.goto X12.here hx rfl (pc0 := 41) (pc' := 3) rfl (hb hby d11_41) (by decide) (by decide) ?_
      refine XS.iload X12.here hx rfl (hb hby d11_3) rfl ?_
      refine XS.iload X12.here hx rfl (hb hby d11_5) rfl ?_
      refine XS.icmpNo X12.here hx rfl (hb hby d11_7) rfl (tlt (by decide : (2 : Int32) < (3 : Int32))).2.1 ?_
      refine XS.aloadN X12.here hx rfl (hb hby d11_10) rfl rfl ?_
      refine XS.iloadN X12.here hx rfl (hb hby d11_11) rfl ?_
      exact Steps.refl _)
  have Arv16 : Arv Z h12 r kc .char (3 : Int32) [(.int c0'), (.int c1'), (.int c2')] (.int (0 : Int32)) := (Arv9.other W12 (own_ne (by omega)))
  obtain ⟨cl15, Ar15, q15, Sz15, M15, Hs15, U15⟩ := id Arv16
  have in15 := inb_of (j := (2 : Int32)) Sz15 ⟨(by decide), (by decide)⟩
  have c17 : SS p e below B0 T12 m 13 #[.val (.ref r), .val (.int (2 : Int32)), .val (.ref t), .val (.int (2 : Int32)), .val (.int (3 : Int32)), .val (.int (2 : Int32)), .val (.int (c1'))] [(.int (c2'))] := Steps.trans c14 (by
      refine X12.caload hx (j := (2 : Int32)) (v := (.int (c2'))) (by rw [e12]; exact Ar15.1) (State.isArrayOf_alike hZ.alike Ar15.2.1) Ar15.2.2 in15 (Hs15.at in15 rfl) (g := (mkF m 12 #[.val (.ref r), .val (.int (2 : Int32)), .val (.ref t), .val (.int (2 : Int32)), .val (.int (3 : Int32)), .val (.int (2 : Int32)), .val (.int (c1'))] [(.int (2 : Int32)), (.ref r)])) rfl rfl (hb hby d11_12) _ ?_
      exact Steps.refl _)
  have c18 : SS p e below B0 T12 m 31 #[.val (.ref r), .val (.int (2 : Int32)), .val (.ref t), .val (.int (2 : Int32)), .val (.int (3 : Int32)), .val (.int (2 : Int32)), .val (.int (c2'))] [(.int ((c2').toInt8.toInt32)), (.int (2 : Int32)), (.ref t)] := Steps.trans c17 (by
      refine XS.istore X12.here hx rfl (hb hby d11_13) rfl (l' := #[.val (.ref r), .val (.int (2 : Int32)), .val (.ref t), .val (.int (2 : Int32)), .val (.int (3 : Int32)), .val (.int (2 : Int32)), .val (.int (c2'))]) rfl ?_
      refine XS.iload X12.here hx rfl (hb hby d11_15) rfl ?_
      refine XT.sipushV X12.here hx rfl (255 : Int32) (hb hby d11_17) (by decide) ?_
      refine XS.icmpYes X12.here hx rfl (pc0 := 20) (pc' := 26) rfl (hb hby d11_20) rfl (flt hl2).2.2.2 (by decide) (by decide) ?_
      refine XS.aloadN X12.here hx rfl (hb hby d11_26) rfl rfl ?_
      refine XS.iloadN X12.here hx rfl (hb hby d11_27) rfl ?_
      refine XS.iload X12.here hx rfl (hb hby d11_28) rfl ?_
      refine XS.i2b X12.here hx rfl (hb hby d11_30) rfl ?_
      exact Steps.refl _)
  obtain ⟨cl19, Ar19, q19, Sz19, M19, Hs19, U19⟩ := id V12
  obtain ⟨T19, h19, X19, e19, W19, st19⟩ := stB X12 hx hZ e12 Ar19 (j := (2 : Int32)) (inb_of Sz19 ⟨(by decide), (by decide)⟩) (g := (mkF m 31 #[.val (.ref r), .val (.int (2 : Int32)), .val (.ref t), .val (.int (2 : Int32)), .val (.int (3 : Int32)), .val (.int (2 : Int32)), .val (.int (c2'))] [(.int ((c2').toInt8.toInt32)), (.int (2 : Int32)), (.ref t)])) rfl rfl (hb hby d11_31)
  have N19 := Fr.snoc X19 N12 (by omega)
  have V19 : Arv Z h19 t kb .byte (3 : Int32) [(.int (nar .byte ((c0').toInt8.toInt32))), (.int (nar .byte ((c1').toInt8.toInt32))), (.int (nar .byte ((c2').toInt8.toInt32)))] (.int (0 : Int32)) := Arv.set Ar19 q19 Sz19 M19 Hs19 U19 (fits_nar_byte _) W19 2 rfl (Nat.le_of_ble_eq_true rfl)
  have z19 : h19.size = h12.size := W19.size
  have K19 := K12.wr W19 (Or.inl (List.mem_of_getElem? (i := 0) rfl))
  have c20 : SS p e below B0 T19 m 32 #[.val (.ref r), .val (.int (2 : Int32)), .val (.ref t), .val (.int (2 : Int32)), .val (.int (3 : Int32)), .val (.int (2 : Int32)), .val (.int (c2'))] [] := Steps.trans c18 (st19 _ (Steps.refl _))
  have c21 : SS p e below B0 T19 m 46 #[.val (.ref r), .val (.int (3 : Int32)), .val (.ref t), .val (.int (3 : Int32)), .val (.int (3 : Int32)), .val (.int (3 : Int32)), .val (.int (c2'))] [(.int (3 : Int32))] := Steps.trans c20 (by
      refine XT.iincV X19.here hx rfl (1 : Int32) (hb hby d11_32) (by decide) rfl (l' := #[.val (.ref r), .val (.int (3 : Int32)), .val (.ref t), .val (.int (2 : Int32)), .val (.int (3 : Int32)), .val (.int (2 : Int32)), .val (.int (c2'))]) rfl ?_
      refine XT.iincV X19.here hx rfl (1 : Int32) (hb hby d11_35) (by decide) rfl (l' := #[.val (.ref r), .val (.int (3 : Int32)), .val (.ref t), .val (.int (3 : Int32)), .val (.int (3 : Int32)), .val (.int (2 : Int32)), .val (.int (c2'))]) rfl ?_
      refine XT.iincV X19.here hx rfl (1 : Int32) (hb hby d11_38) (by decide) rfl (l' := #[.val (.ref r), .val (.int (3 : Int32)), .val (.ref t), .val (.int (3 : Int32)), .val (.int (3 : Int32)), .val (.int (3 : Int32)), .val (.int (c2'))]) rfl ?_
      refine XS.goto X19.here hx rfl (pc0 := 41) (pc' := 3) rfl (hb hby d11_41) (by decide) (by decide) ?_
      refine XS.iload X19.here hx rfl (hb hby d11_3) rfl ?_
      refine XS.iload X19.here hx rfl (hb hby d11_5) rfl ?_
      refine XS.icmpYes X19.here hx rfl (pc0 := 7) (pc' := 44) rfl (hb hby d11_7) rfl (flt (by decide : ¬ (3 : Int32) < (3 : Int32))).2.1 (by decide) (by decide) ?_
      refine XS.iload X19.here hx rfl (hb hby d11_44) rfl ?_
      exact Steps.refl _)
  obtain ⟨fs, hr, hrun, hended, hW, hsame⟩ := X19.leave (v := some (.int (3 : Int32))) (fun h => by rw [Bd.returns] at h; cases h)
  subst hB0
  refine ⟨_, _, Steps.trans c21 ?_, hrun, hended, _, _, rfl, ?_, ⟨_, rfl⟩, hW, hsame.mono (by decide) (by decide)⟩
  · exact retI X19 hx Bd.returns (hb hby d11_46) hr
  · show QC5_3_3 Z t kb c0' c1' c2' h0 n0 _ T19.heap _
    rw [e19]
    exact ⟨rfl, N19, K19, V19⟩
def Spl3 (c0' c1' c2' cd N : Int32) (vs : List Value) : Prop := ((cd = (0 : Int32) ∧ N = (3 : Int32) ∧ vs = [(.int (nar .byte (c0'.toInt8.toInt32))), (.int (nar .byte (c1'.toInt8.toInt32))), (.int (nar .byte (c2'.toInt8.toInt32)))] ∧ ¬ (255 : Int32) < c0' ∧ ¬ (255 : Int32) < c1' ∧ ¬ (255 : Int32) < c2') ∨ (cd = (1 : Int32) ∧ N = (6 : Int32) ∧ vs = [(.int (nar .byte ((c0' >>> ((0 : Int32) &&& 31)).toInt8.toInt32))), (.int (nar .byte ((c0' >>> ((8 : Int32) &&& 31)).toInt8.toInt32))), (.int (nar .byte ((c1' >>> ((0 : Int32) &&& 31)).toInt8.toInt32))), (.int (nar .byte ((c1' >>> ((8 : Int32) &&& 31)).toInt8.toInt32))), (.int (nar .byte ((c2' >>> ((0 : Int32) &&& 31)).toInt8.toInt32))), (.int (nar .byte ((c2' >>> ((8 : Int32) &&& 31)).toInt8.toInt32)))]))
def QC3_3 (Z : State) (c0' c1' c2' : Int32) (h0 : Heap) (n0 : Nat) (v : Option Value) (h : Heap) (L : List Loc) : Prop := ∃ (t : Addr) (k : ClassId) (cd N : Int32) (vs : List Value), v = some (.ref t) ∧ Fr n0 L ∧ Keep h0 h [] ∧ h0.size ≤ t ∧ Arv Z h t k .byte N vs (.int (0 : Int32)) ∧ Spl3 c0' c1' c2' cd N vs
set_option maxRecDepth 65536 in
set_option maxHeartbeats 40000000 in
theorem rmC3_3 (l : Launch) (Z : State) (a0 : Array Value) (hw : ∀ d ∈ tables_1, d.before a0 Z = true) (ws : List Jvm.Cond) (r : Addr) (kc : ClassId) (c0' c1' c2' : Int32) (h0 : Heap) (n0 : Nat) (Z0 : n0 ≤ h0.size) (O7 : Sta Z Z.heap "java/lang/StringUTF16" "$assertionsDisabled" "Z" (.int (1 : Int32))) (O8 : Sta Z Z.heap "java/lang/StringUTF16" "HI_BYTE_SHIFT" "I" (.int (0 : Int32))) (O9 : Sta Z Z.heap "java/lang/StringUTF16" "LO_BYTE_SHIFT" "I" (.int (8 : Int32))) (X00 : Old Z n0 h0) (Vr : Arv Z h0 r kc .char (3 : Int32) [(.int c0'), (.int c1'), (.int c2')] (.int (0 : Int32))) (hc0 : ¬ c0' < 0 ∧ ¬ (65535 : Int32) < c0') (hc1 : ¬ c1' < 0 ∧ ¬ (65535 : Int32) < c1') (hc2 : ¬ c2' < 0 ∧ ¬ (65535 : Int32) < c2') :
    MetFree l (⟨"java/lang/StringUTF16", "compress", "([CII)[B"⟩ : MethodName) (head1 (Jvm.Cond.code (⟨"java/lang/StringUTF16", "compress", "([CII)[B"⟩ : MethodName) jdk_52_method_16_code 6 (some (.array .byte)) :: ws) ({ frames := 3, cells := 2, slots := 9, locals := 40 } : Room)) (fun a U => a = #[(.ref r), (.int (0 : Int32)), (.int (3 : Int32))] ∧ Z.Warmed39 U.vm ∧ U.heap = h0) (fun _ _ _ _ _ => True) (fun _ U o U' => ∃ v L, o = .returned v ∧ QC3_3 Z c0' c1' c2' h0 n0 v U'.heap L ∧ FrameEnd U o U' L ({ frames := 3, cells := 2, slots := 9, locals := 40 } : Room).cells ({ frames := 3, cells := 2, slots := 9, locals := 40 } : Room).slots) := by
  refine MetFree.of_bodySF (plainFor_of_name pn_java_lang_StringUTF16) hisR ?_
  intro p e s m args below meth c s₁ Bd hml0 hP hK
  obtain ⟨rfl, hZ, hh⟩ := hP
  have hx := Bd.exec
  have hby := Bd.bytes
  have hml : c.maxLocals = 6 := hml0
  have hown : s.vm.findClass "java/lang/StringUTF16" = some m.cls := findClass_of_methodNamed Bd.named
  have hnm := (name_of_methodNamed Bd.named Bd.method).1
  have X0 : Stand p l e ({ frames := 3, cells := 2, slots := 9, locals := 40 } : Room) s m #[(.ref r), (.int (0 : Int32)), (.int (3 : Int32))] below meth c s₁ [] 0 0 := Stand.of_body Bd
  have e0 : s₁.heap = h0 := by rw [← hh, Bd.state]; rfl
  have N0 := Fr.nil n0
  obtain ⟨B0, c0, hB0⟩ : ∃ B0, Steps p.tables e below B0 (s₁.setTop (mkF m 0 #[.val (.ref r), .val (.int (0 : Int32)), .val (.int (3 : Int32)), .unset, .unset, .unset] [])) ∧ B0 = s₁.setTop (entryFrame m #[(.ref r), (.int (0 : Int32)), (.int (3 : Int32))] 6) := ⟨_, castTop (ef_RII_6 m r (0 : Int32) (3 : Int32)) (Steps.refl _), rfl⟩
  have lt_r : (@LT.lt Nat _ r h0.size) := Vr.lt
  have c1 : SS p e below B0 s₁ m 1 #[.val (.ref r), .val (.int (0 : Int32)), .val (.int (3 : Int32)), .unset, .unset, .unset] [(.int (3 : Int32))] := Steps.trans c0 (by
      refine XS.iloadN X0.here hx rfl (hb hby d12_0) rfl ?_
      exact Steps.refl _)
  obtain ⟨T2, h2, k0, X2, e2, E2, A2, st2⟩ := newP X0 hx hZ (W hw 20) e0 (g := (mkF m 1 #[.val (.ref r), .val (.int (0 : Int32)), .val (.int (3 : Int32)), .unset, .unset, .unset] [(.int (3 : Int32))])) rfl (hb hby d12_1) rfl (by decide : ¬ ((3 : Int32) < (0 : Int32))) (cap := 3) (by decide : (3 : Int32).toNatClampNeg ≤ 3) (by decide) (by decide) (by decide)
  obtain ⟨t0, g2⟩ : ∃ z, z = h0.size := ⟨_, rfl⟩
  rw [← g2] at A2 st2
  have z2 : h0.size ≤ h2.size := E2.1
  have l2 : (@LT.lt Nat _ t0 h2.size) := A2.lt
  have K2 := (Keep.refl h0 []).ext E2
  have V2 : Arv Z h2 t0 k0 .byte (3 : Int32) [(.int (0 : Int32)), (.int (0 : Int32)), (.int (0 : Int32))] (.int (0 : Int32)) := (Arv.new A2 (by decide)).pad (pad_rep [] (.int (0 : Int32)) 3)
  have c3 : SS p e below B0 T2 m 3 #[.val (.ref r), .val (.int (0 : Int32)), .val (.int (3 : Int32)), .unset, .unset, .unset] [(.ref t0)] := Steps.trans c1 (st2 _ (Steps.refl _))
  have c4 : SS p e below B0 T2 m 9 #[.val (.ref r), .val (.int (0 : Int32)), .val (.int (3 : Int32)), .val (.ref t0), .unset, .unset] [(.int (3 : Int32)), (.int (0 : Int32)), (.ref t0), (.int (0 : Int32)), (.ref r)] := Steps.trans c3 (by
      refine XS.astoreN X2.here hx rfl (hb hby d12_3) rfl rfl (l' := #[.val (.ref r), .val (.int (0 : Int32)), .val (.int (3 : Int32)), .val (.ref t0), .unset, .unset]) rfl ?_
      refine XS.aloadN X2.here hx rfl (hb hby d12_4) rfl rfl ?_
      refine XS.iloadN X2.here hx rfl (hb hby d12_5) rfl ?_
      refine XS.aloadN X2.here hx rfl (hb hby d12_6) rfl rfl ?_
      refine XT.iconstV X2.here hx rfl (0 : Int32) (hb hby d12_7) (by decide) ?_
      refine XS.iloadN X2.here hx rfl (hb hby d12_8) rfl ?_
      exact Steps.refl _)
  by_cases h0_ : (255 : Int32) < c0'
  · have hk := h0_
    have Arv5 : Arv Z h2 r kc .char (3 : Int32) [(.int c0'), (.int c1'), (.int c2')] (.int (0 : Int32)) := (Vr.ext E2)
    obtain ⟨_, _, ⟨T6, Lp6, kp6, np6⟩, -, X6, ⟨Lc6, hQ6, lp6, yp6, zp6⟩, st6⟩ := Jvm.LawKit.callS X2 hx (y := (⟨"java/lang/StringUTF16", "compress", "([CI[BII)I"⟩ : MethodName)) hown (mvT hZ (W hw 66)) (mvT hZ (W hw 67)) (mvT hZ (W hw 64)) (mvT hZ (W hw 68)) (by decide) (backOf (W := 0) (rmC5_3_0 l Z a0 hw [] r t0 kc k0 c0' c1' c2' h2 n0 (by omega) Arv5 V2 (by omega) (by omega)  hk) hZ (W hw 68) (W hw 64) (by decide) (by decide)) (g := (mkF m 9 #[.val (.ref r), .val (.int (0 : Int32)), .val (.int (3 : Int32)), .val (.ref t0), .unset, .unset] [(.int (3 : Int32)), (.int (0 : Int32)), (.ref t0), (.int (0 : Int32)), (.ref r)])) rfl (by rw [hml]; rfl) (argsL := [(.ref r), (.int (0 : Int32)), (.ref t0), (.int (0 : Int32)), (.int (3 : Int32))]) (rest := []) (lenOf pd___CI_BII_I rfl) rfl (by show 2 * 0 + _ ≤ _; exact Nat.le_of_eq rfl) (hb hby d12_9) (fun _ _ => ⟨rfl, e2, (by decide : 1 + 0 ≤ _), (by decide : 3 + 0 ≤ _)⟩)
    dsimp only [Pt.U, Pt.locs, Pt.cells, Pt.slots] at X6 lp6 yp6 zp6 st6 hQ6
    subst lp6 yp6 zp6
    obtain ⟨rfl, Nq6, Kq6⟩ := hQ6
    have N6 := Fr.app N0 Nq6
    obtain ⟨h6, e6⟩ : ∃ z, T6.heap = z := ⟨_, rfl⟩
    rw [e6] at Kq6
    have z6 : h2.size ≤ h6.size := Kq6.1
    have K6 := K2.trans Kq6 (allS (Or.inr (by omega)) all0)
    have c7 : SS p e below B0 T6 m 12 #[.val (.ref r), .val (.int (0 : Int32)), .val (.int (3 : Int32)), .val (.ref t0), .unset, .unset] [(.int (0 : Int32))] := Steps.trans c4 (st6 _ (Steps.refl _))
    have c8 : SS p e below B0 T6 m 23 #[.val (.ref r), .val (.int (0 : Int32)), .val (.int (3 : Int32)), .val (.ref t0), .val (.int (0 : Int32)), .unset] [(.int (3 : Int32)), (.int (0 : Int32)), (.ref r)] := Steps.trans c7 (by
        refine XS.istore X6.here hx rfl (hb hby d12_12) rfl (l' := #[.val (.ref r), .val (.int (0 : Int32)), .val (.int (3 : Int32)), .val (.ref t0), .val (.int (0 : Int32)), .unset]) rfl ?_
        refine XS.iload X6.here hx rfl (hb hby d12_14) rfl ?_
        refine XS.iloadN X6.here hx rfl (hb hby d12_16) rfl ?_
        refine XS.icmpNo X6.here hx rfl (hb hby d12_17) rfl (feq (by decide : ¬ (0 : Int32) = (3 : Int32))).1 ?_
        refine XS.aloadN X6.here hx rfl (hb hby d12_20) rfl rfl ?_
        refine XS.iloadN X6.here hx rfl (hb hby d12_21) rfl ?_
        refine XS.iloadN X6.here hx rfl (hb hby d12_22) rfl ?_
        exact Steps.refl _)
    have Arv9 : Arv Z h6 r kc .char (3 : Int32) [(.int c0'), (.int c1'), (.int c2')] (.int (0 : Int32)) := (Arv5.keep Kq6 (ninS (own_ne (by omega)) nin0))
    have Old10 : Old Z n0 h6 := ((X00.ext E2).keep Kq6 (allS (by omega) all0))
    obtain ⟨_, _, ⟨T11, Lp11, kp11, np11⟩, -, X11, ⟨Lc11, hQ11, lp11, yp11, zp11⟩, st11⟩ := Jvm.LawKit.callS X6 hx (y := (⟨"java/lang/StringUTF16", "toBytes", "([CII)[B"⟩ : MethodName)) hown (mvT hZ (W hw 93)) (mvT hZ (W hw 94)) (mvT hZ (W hw 64)) (mvT hZ (W hw 95)) (by decide) (backOf (W := 0) (rmTo3 l Z a0 hw [] r kc c0' c1' c2' h6 n0 (by omega) O7 O8 O9 Old10 Arv9) hZ (W hw 95) (W hw 64) (by decide) (by decide)) (g := (mkF m 23 #[.val (.ref r), .val (.int (0 : Int32)), .val (.int (3 : Int32)), .val (.ref t0), .val (.int (0 : Int32)), .unset] [(.int (3 : Int32)), (.int (0 : Int32)), (.ref r)])) rfl (by rw [hml]; rfl) (argsL := [(.ref r), (.int (0 : Int32)), (.int (3 : Int32))]) (rest := []) (lenOf pd___CII__B rfl) rfl (by show 2 * 0 + _ ≤ _; exact Nat.le_of_eq rfl) (hb hby d12_23) (fun _ _ => ⟨rfl, e6, (by decide : 1 + 1 ≤ _), (by decide : 3 + 6 ≤ _)⟩)
    dsimp only [Pt.U, Pt.locs, Pt.cells, Pt.slots] at X11 lp11 yp11 zp11 st11 hQ11
    subst lp11 yp11 zp11
    obtain ⟨t1, k1, rfl, Nq11, Kq11, g11, av11⟩ := hQ11
    have N11 := Fr.app N6 Nq11
    obtain ⟨h11, e11⟩ : ∃ z, T11.heap = z := ⟨_, rfl⟩
    rw [e11] at Kq11 av11
    have z11 : h6.size ≤ h11.size := Kq11.1
    have K11 := K6.trans Kq11 all0
    have c12 : SS p e below B0 T11 m 26 #[.val (.ref r), .val (.int (0 : Int32)), .val (.int (3 : Int32)), .val (.ref t0), .val (.int (0 : Int32)), .unset] [(.ref t1)] := Steps.trans c8 (st11 _ (Steps.refl _))
    have lt_t1 : (@LT.lt Nat _ t1 h11.size) := av11.lt
    have c13 : SS p e below B0 T11 m 32 #[.val (.ref r), .val (.int (0 : Int32)), .val (.int (3 : Int32)), .val (.ref t0), .val (.int (0 : Int32)), .val (.ref t1)] [(.int (0 : Int32)), (.ref t1)] := Steps.trans c12 (by
        refine XS.astore X11.here hx rfl (hb hby d12_26) rfl rfl (l' := #[.val (.ref r), .val (.int (0 : Int32)), .val (.int (3 : Int32)), .val (.ref t0), .val (.int (0 : Int32)), .val (.ref t1)]) rfl ?_
        refine XS.aload X11.here hx rfl (hb hby d12_28) rfl rfl ?_
        refine XS.iload X11.here hx rfl (hb hby d12_30) rfl ?_
        exact Steps.refl _)
    have Old14 : Old Z n0 h11 := (Old10.keep Kq11 all0)
    obtain ⟨_, _, ⟨T15, Lp15, kp15, np15⟩, -, X15, ⟨Lc15, hQ15, lp15, yp15, zp15⟩, st15⟩ := Jvm.LawKit.callS X11 hx (y := (⟨"java/lang/StringUTF16", "getChar", "([BI)C"⟩ : MethodName)) hown (mvT hZ (W hw 109)) (mvT hZ (W hw 110)) (mvT hZ (W hw 64)) (mvT hZ (W hw 111)) (by decide) (backOf (W := 0) (rmGet3_0 l Z a0 hw [] t1 k1 c0' c1' c2' h11 n0 (by omega) O7 O8 O9 Old14 av11 hc0) hZ (W hw 111) (W hw 64) (by decide) (by decide)) (g := (mkF m 32 #[.val (.ref r), .val (.int (0 : Int32)), .val (.int (3 : Int32)), .val (.ref t0), .val (.int (0 : Int32)), .val (.ref t1)] [(.int (0 : Int32)), (.ref t1)])) rfl (by rw [hml]; rfl) (argsL := [(.ref t1), (.int (0 : Int32))]) (rest := []) (lenOf pd___BI_C rfl) rfl (by show 2 * 0 + _ ≤ _; exact Nat.le_of_eq rfl) (hb hby d12_32) (fun _ _ => ⟨rfl, e11, (by decide : 2 + 0 ≤ _), (by decide : 9 + 0 ≤ _)⟩)
    dsimp only [Pt.U, Pt.locs, Pt.cells, Pt.slots] at X15 lp15 yp15 zp15 st15 hQ15
    subst lp15 yp15 zp15
    obtain ⟨rfl, Nq15, eq15⟩ := hQ15
    have N15 := Fr.app N11 Nq15
    have c16 : SS p e below B0 T15 m 35 #[.val (.ref r), .val (.int (0 : Int32)), .val (.int (3 : Int32)), .val (.ref t0), .val (.int (0 : Int32)), .val (.ref t1)] [(.int (c0'))] := Steps.trans c13 (st15 _ (Steps.refl _))
    have c17 : SS p e below B0 T15 m 56 #[.val (.ref r), .val (.int (0 : Int32)), .val (.int (3 : Int32)), .val (.ref t0), .val (.int (0 : Int32)), .val (.ref t1)] [(.ref t1)] := Steps.trans c16 (by
        refine XT.sipushV X15.here hx rfl (255 : Int32) (hb hby d12_35) (by decide) ?_
        refine XS.icmpYes X15.here hx rfl (pc0 := 38) (pc' := 54) rfl (hb hby d12_38) rfl (tlt hk).2.2.1 (by decide) (by decide) ?_
        refine XS.aload X15.here hx rfl (hb hby d12_54) rfl rfl ?_
        exact Steps.refl _)
    obtain ⟨fs, hr, hrun, hended, hW, hsame⟩ := X15.leave (v := some (.ref t1)) (fun h => by rw [Bd.returns] at h; cases h)
    subst hB0
    refine ⟨_, _, Steps.trans c17 ?_, hrun, hended, _, _, rfl, ?_, ⟨_, rfl⟩, hW, hsame.mono (by decide) (by decide)⟩
    · exact retR X15 hx Bd.returns rfl rfl rfl (hb hby d12_56) hr
    · show QC3_3 Z c0' c1' c2' h0 n0 _ T15.heap _
      rw [eq15]
      exact ⟨t1, k1, 1, 6, _, rfl, N15, K11, (by omega), av11, Or.inr ⟨rfl, rfl, rfl⟩⟩
  have hl0 := h0_
  by_cases h1_ : (255 : Int32) < c1'
  · have hk := h1_
    have Arv5 : Arv Z h2 r kc .char (3 : Int32) [(.int c0'), (.int c1'), (.int c2')] (.int (0 : Int32)) := (Vr.ext E2)
    obtain ⟨_, _, ⟨T6, Lp6, kp6, np6⟩, -, X6, ⟨Lc6, hQ6, lp6, yp6, zp6⟩, st6⟩ := Jvm.LawKit.callS X2 hx (y := (⟨"java/lang/StringUTF16", "compress", "([CI[BII)I"⟩ : MethodName)) hown (mvT hZ (W hw 66)) (mvT hZ (W hw 67)) (mvT hZ (W hw 64)) (mvT hZ (W hw 68)) (by decide) (backOf (W := 0) (rmC5_3_1 l Z a0 hw [] r t0 kc k0 c0' c1' c2' h2 n0 (by omega) Arv5 V2 (by omega) (by omega) hl0 hk) hZ (W hw 68) (W hw 64) (by decide) (by decide)) (g := (mkF m 9 #[.val (.ref r), .val (.int (0 : Int32)), .val (.int (3 : Int32)), .val (.ref t0), .unset, .unset] [(.int (3 : Int32)), (.int (0 : Int32)), (.ref t0), (.int (0 : Int32)), (.ref r)])) rfl (by rw [hml]; rfl) (argsL := [(.ref r), (.int (0 : Int32)), (.ref t0), (.int (0 : Int32)), (.int (3 : Int32))]) (rest := []) (lenOf pd___CI_BII_I rfl) rfl (by show 2 * 0 + _ ≤ _; exact Nat.le_of_eq rfl) (hb hby d12_9) (fun _ _ => ⟨rfl, e2, (by decide : 1 + 0 ≤ _), (by decide : 3 + 0 ≤ _)⟩)
    dsimp only [Pt.U, Pt.locs, Pt.cells, Pt.slots] at X6 lp6 yp6 zp6 st6 hQ6
    subst lp6 yp6 zp6
    obtain ⟨rfl, Nq6, Kq6⟩ := hQ6
    have N6 := Fr.app N0 Nq6
    obtain ⟨h6, e6⟩ : ∃ z, T6.heap = z := ⟨_, rfl⟩
    rw [e6] at Kq6
    have z6 : h2.size ≤ h6.size := Kq6.1
    have K6 := K2.trans Kq6 (allS (Or.inr (by omega)) all0)
    have c7 : SS p e below B0 T6 m 12 #[.val (.ref r), .val (.int (0 : Int32)), .val (.int (3 : Int32)), .val (.ref t0), .unset, .unset] [(.int (1 : Int32))] := Steps.trans c4 (st6 _ (Steps.refl _))
    have c8 : SS p e below B0 T6 m 23 #[.val (.ref r), .val (.int (0 : Int32)), .val (.int (3 : Int32)), .val (.ref t0), .val (.int (1 : Int32)), .unset] [(.int (3 : Int32)), (.int (0 : Int32)), (.ref r)] := Steps.trans c7 (by
        refine XS.istore X6.here hx rfl (hb hby d12_12) rfl (l' := #[.val (.ref r), .val (.int (0 : Int32)), .val (.int (3 : Int32)), .val (.ref t0), .val (.int (1 : Int32)), .unset]) rfl ?_
        refine XS.iload X6.here hx rfl (hb hby d12_14) rfl ?_
        refine XS.iloadN X6.here hx rfl (hb hby d12_16) rfl ?_
        refine XS.icmpNo X6.here hx rfl (hb hby d12_17) rfl (feq (by decide : ¬ (1 : Int32) = (3 : Int32))).1 ?_
        refine XS.aloadN X6.here hx rfl (hb hby d12_20) rfl rfl ?_
        refine XS.iloadN X6.here hx rfl (hb hby d12_21) rfl ?_
        refine XS.iloadN X6.here hx rfl (hb hby d12_22) rfl ?_
        exact Steps.refl _)
    have Arv9 : Arv Z h6 r kc .char (3 : Int32) [(.int c0'), (.int c1'), (.int c2')] (.int (0 : Int32)) := (Arv5.keep Kq6 (ninS (own_ne (by omega)) nin0))
    have Old10 : Old Z n0 h6 := ((X00.ext E2).keep Kq6 (allS (by omega) all0))
    obtain ⟨_, _, ⟨T11, Lp11, kp11, np11⟩, -, X11, ⟨Lc11, hQ11, lp11, yp11, zp11⟩, st11⟩ := Jvm.LawKit.callS X6 hx (y := (⟨"java/lang/StringUTF16", "toBytes", "([CII)[B"⟩ : MethodName)) hown (mvT hZ (W hw 93)) (mvT hZ (W hw 94)) (mvT hZ (W hw 64)) (mvT hZ (W hw 95)) (by decide) (backOf (W := 0) (rmTo3 l Z a0 hw [] r kc c0' c1' c2' h6 n0 (by omega) O7 O8 O9 Old10 Arv9) hZ (W hw 95) (W hw 64) (by decide) (by decide)) (g := (mkF m 23 #[.val (.ref r), .val (.int (0 : Int32)), .val (.int (3 : Int32)), .val (.ref t0), .val (.int (1 : Int32)), .unset] [(.int (3 : Int32)), (.int (0 : Int32)), (.ref r)])) rfl (by rw [hml]; rfl) (argsL := [(.ref r), (.int (0 : Int32)), (.int (3 : Int32))]) (rest := []) (lenOf pd___CII__B rfl) rfl (by show 2 * 0 + _ ≤ _; exact Nat.le_of_eq rfl) (hb hby d12_23) (fun _ _ => ⟨rfl, e6, (by decide : 1 + 1 ≤ _), (by decide : 3 + 6 ≤ _)⟩)
    dsimp only [Pt.U, Pt.locs, Pt.cells, Pt.slots] at X11 lp11 yp11 zp11 st11 hQ11
    subst lp11 yp11 zp11
    obtain ⟨t1, k1, rfl, Nq11, Kq11, g11, av11⟩ := hQ11
    have N11 := Fr.app N6 Nq11
    obtain ⟨h11, e11⟩ : ∃ z, T11.heap = z := ⟨_, rfl⟩
    rw [e11] at Kq11 av11
    have z11 : h6.size ≤ h11.size := Kq11.1
    have K11 := K6.trans Kq11 all0
    have c12 : SS p e below B0 T11 m 26 #[.val (.ref r), .val (.int (0 : Int32)), .val (.int (3 : Int32)), .val (.ref t0), .val (.int (1 : Int32)), .unset] [(.ref t1)] := Steps.trans c8 (st11 _ (Steps.refl _))
    have lt_t1 : (@LT.lt Nat _ t1 h11.size) := av11.lt
    have c13 : SS p e below B0 T11 m 32 #[.val (.ref r), .val (.int (0 : Int32)), .val (.int (3 : Int32)), .val (.ref t0), .val (.int (1 : Int32)), .val (.ref t1)] [(.int (1 : Int32)), (.ref t1)] := Steps.trans c12 (by
        refine XS.astore X11.here hx rfl (hb hby d12_26) rfl rfl (l' := #[.val (.ref r), .val (.int (0 : Int32)), .val (.int (3 : Int32)), .val (.ref t0), .val (.int (1 : Int32)), .val (.ref t1)]) rfl ?_
        refine XS.aload X11.here hx rfl (hb hby d12_28) rfl rfl ?_
        refine XS.iload X11.here hx rfl (hb hby d12_30) rfl ?_
        exact Steps.refl _)
    have Old14 : Old Z n0 h11 := (Old10.keep Kq11 all0)
    obtain ⟨_, _, ⟨T15, Lp15, kp15, np15⟩, -, X15, ⟨Lc15, hQ15, lp15, yp15, zp15⟩, st15⟩ := Jvm.LawKit.callS X11 hx (y := (⟨"java/lang/StringUTF16", "getChar", "([BI)C"⟩ : MethodName)) hown (mvT hZ (W hw 109)) (mvT hZ (W hw 110)) (mvT hZ (W hw 64)) (mvT hZ (W hw 111)) (by decide) (backOf (W := 0) (rmGet3_1 l Z a0 hw [] t1 k1 c0' c1' c2' h11 n0 (by omega) O7 O8 O9 Old14 av11 hc1) hZ (W hw 111) (W hw 64) (by decide) (by decide)) (g := (mkF m 32 #[.val (.ref r), .val (.int (0 : Int32)), .val (.int (3 : Int32)), .val (.ref t0), .val (.int (1 : Int32)), .val (.ref t1)] [(.int (1 : Int32)), (.ref t1)])) rfl (by rw [hml]; rfl) (argsL := [(.ref t1), (.int (1 : Int32))]) (rest := []) (lenOf pd___BI_C rfl) rfl (by show 2 * 0 + _ ≤ _; exact Nat.le_of_eq rfl) (hb hby d12_32) (fun _ _ => ⟨rfl, e11, (by decide : 2 + 0 ≤ _), (by decide : 9 + 0 ≤ _)⟩)
    dsimp only [Pt.U, Pt.locs, Pt.cells, Pt.slots] at X15 lp15 yp15 zp15 st15 hQ15
    subst lp15 yp15 zp15
    obtain ⟨rfl, Nq15, eq15⟩ := hQ15
    have N15 := Fr.app N11 Nq15
    have c16 : SS p e below B0 T15 m 35 #[.val (.ref r), .val (.int (0 : Int32)), .val (.int (3 : Int32)), .val (.ref t0), .val (.int (1 : Int32)), .val (.ref t1)] [(.int (c1'))] := Steps.trans c13 (st15 _ (Steps.refl _))
    have c17 : SS p e below B0 T15 m 56 #[.val (.ref r), .val (.int (0 : Int32)), .val (.int (3 : Int32)), .val (.ref t0), .val (.int (1 : Int32)), .val (.ref t1)] [(.ref t1)] := Steps.trans c16 (by
        refine XT.sipushV X15.here hx rfl (255 : Int32) (hb hby d12_35) (by decide) ?_
        refine XS.icmpYes X15.here hx rfl (pc0 := 38) (pc' := 54) rfl (hb hby d12_38) rfl (tlt hk).2.2.1 (by decide) (by decide) ?_
        refine XS.aload X15.here hx rfl (hb hby d12_54) rfl rfl ?_
        exact Steps.refl _)
    obtain ⟨fs, hr, hrun, hended, hW, hsame⟩ := X15.leave (v := some (.ref t1)) (fun h => by rw [Bd.returns] at h; cases h)
    subst hB0
    refine ⟨_, _, Steps.trans c17 ?_, hrun, hended, _, _, rfl, ?_, ⟨_, rfl⟩, hW, hsame.mono (by decide) (by decide)⟩
    · exact retR X15 hx Bd.returns rfl rfl rfl (hb hby d12_56) hr
    · show QC3_3 Z c0' c1' c2' h0 n0 _ T15.heap _
      rw [eq15]
      exact ⟨t1, k1, 1, 6, _, rfl, N15, K11, (by omega), av11, Or.inr ⟨rfl, rfl, rfl⟩⟩
  have hl1 := h1_
  by_cases h2_ : (255 : Int32) < c2'
  · have hk := h2_
    have Arv5 : Arv Z h2 r kc .char (3 : Int32) [(.int c0'), (.int c1'), (.int c2')] (.int (0 : Int32)) := (Vr.ext E2)
    obtain ⟨_, _, ⟨T6, Lp6, kp6, np6⟩, -, X6, ⟨Lc6, hQ6, lp6, yp6, zp6⟩, st6⟩ := Jvm.LawKit.callS X2 hx (y := (⟨"java/lang/StringUTF16", "compress", "([CI[BII)I"⟩ : MethodName)) hown (mvT hZ (W hw 66)) (mvT hZ (W hw 67)) (mvT hZ (W hw 64)) (mvT hZ (W hw 68)) (by decide) (backOf (W := 0) (rmC5_3_2 l Z a0 hw [] r t0 kc k0 c0' c1' c2' h2 n0 (by omega) Arv5 V2 (by omega) (by omega) hl0 hl1 hk) hZ (W hw 68) (W hw 64) (by decide) (by decide)) (g := (mkF m 9 #[.val (.ref r), .val (.int (0 : Int32)), .val (.int (3 : Int32)), .val (.ref t0), .unset, .unset] [(.int (3 : Int32)), (.int (0 : Int32)), (.ref t0), (.int (0 : Int32)), (.ref r)])) rfl (by rw [hml]; rfl) (argsL := [(.ref r), (.int (0 : Int32)), (.ref t0), (.int (0 : Int32)), (.int (3 : Int32))]) (rest := []) (lenOf pd___CI_BII_I rfl) rfl (by show 2 * 0 + _ ≤ _; exact Nat.le_of_eq rfl) (hb hby d12_9) (fun _ _ => ⟨rfl, e2, (by decide : 1 + 0 ≤ _), (by decide : 3 + 0 ≤ _)⟩)
    dsimp only [Pt.U, Pt.locs, Pt.cells, Pt.slots] at X6 lp6 yp6 zp6 st6 hQ6
    subst lp6 yp6 zp6
    obtain ⟨rfl, Nq6, Kq6⟩ := hQ6
    have N6 := Fr.app N0 Nq6
    obtain ⟨h6, e6⟩ : ∃ z, T6.heap = z := ⟨_, rfl⟩
    rw [e6] at Kq6
    have z6 : h2.size ≤ h6.size := Kq6.1
    have K6 := K2.trans Kq6 (allS (Or.inr (by omega)) all0)
    have c7 : SS p e below B0 T6 m 12 #[.val (.ref r), .val (.int (0 : Int32)), .val (.int (3 : Int32)), .val (.ref t0), .unset, .unset] [(.int (2 : Int32))] := Steps.trans c4 (st6 _ (Steps.refl _))
    have c8 : SS p e below B0 T6 m 23 #[.val (.ref r), .val (.int (0 : Int32)), .val (.int (3 : Int32)), .val (.ref t0), .val (.int (2 : Int32)), .unset] [(.int (3 : Int32)), (.int (0 : Int32)), (.ref r)] := Steps.trans c7 (by
        refine XS.istore X6.here hx rfl (hb hby d12_12) rfl (l' := #[.val (.ref r), .val (.int (0 : Int32)), .val (.int (3 : Int32)), .val (.ref t0), .val (.int (2 : Int32)), .unset]) rfl ?_
        refine XS.iload X6.here hx rfl (hb hby d12_14) rfl ?_
        refine XS.iloadN X6.here hx rfl (hb hby d12_16) rfl ?_
        refine XS.icmpNo X6.here hx rfl (hb hby d12_17) rfl (feq (by decide : ¬ (2 : Int32) = (3 : Int32))).1 ?_
        refine XS.aloadN X6.here hx rfl (hb hby d12_20) rfl rfl ?_
        refine XS.iloadN X6.here hx rfl (hb hby d12_21) rfl ?_
        refine XS.iloadN X6.here hx rfl (hb hby d12_22) rfl ?_
        exact Steps.refl _)
    have Arv9 : Arv Z h6 r kc .char (3 : Int32) [(.int c0'), (.int c1'), (.int c2')] (.int (0 : Int32)) := (Arv5.keep Kq6 (ninS (own_ne (by omega)) nin0))
    have Old10 : Old Z n0 h6 := ((X00.ext E2).keep Kq6 (allS (by omega) all0))
    obtain ⟨_, _, ⟨T11, Lp11, kp11, np11⟩, -, X11, ⟨Lc11, hQ11, lp11, yp11, zp11⟩, st11⟩ := Jvm.LawKit.callS X6 hx (y := (⟨"java/lang/StringUTF16", "toBytes", "([CII)[B"⟩ : MethodName)) hown (mvT hZ (W hw 93)) (mvT hZ (W hw 94)) (mvT hZ (W hw 64)) (mvT hZ (W hw 95)) (by decide) (backOf (W := 0) (rmTo3 l Z a0 hw [] r kc c0' c1' c2' h6 n0 (by omega) O7 O8 O9 Old10 Arv9) hZ (W hw 95) (W hw 64) (by decide) (by decide)) (g := (mkF m 23 #[.val (.ref r), .val (.int (0 : Int32)), .val (.int (3 : Int32)), .val (.ref t0), .val (.int (2 : Int32)), .unset] [(.int (3 : Int32)), (.int (0 : Int32)), (.ref r)])) rfl (by rw [hml]; rfl) (argsL := [(.ref r), (.int (0 : Int32)), (.int (3 : Int32))]) (rest := []) (lenOf pd___CII__B rfl) rfl (by show 2 * 0 + _ ≤ _; exact Nat.le_of_eq rfl) (hb hby d12_23) (fun _ _ => ⟨rfl, e6, (by decide : 1 + 1 ≤ _), (by decide : 3 + 6 ≤ _)⟩)
    dsimp only [Pt.U, Pt.locs, Pt.cells, Pt.slots] at X11 lp11 yp11 zp11 st11 hQ11
    subst lp11 yp11 zp11
    obtain ⟨t1, k1, rfl, Nq11, Kq11, g11, av11⟩ := hQ11
    have N11 := Fr.app N6 Nq11
    obtain ⟨h11, e11⟩ : ∃ z, T11.heap = z := ⟨_, rfl⟩
    rw [e11] at Kq11 av11
    have z11 : h6.size ≤ h11.size := Kq11.1
    have K11 := K6.trans Kq11 all0
    have c12 : SS p e below B0 T11 m 26 #[.val (.ref r), .val (.int (0 : Int32)), .val (.int (3 : Int32)), .val (.ref t0), .val (.int (2 : Int32)), .unset] [(.ref t1)] := Steps.trans c8 (st11 _ (Steps.refl _))
    have lt_t1 : (@LT.lt Nat _ t1 h11.size) := av11.lt
    have c13 : SS p e below B0 T11 m 32 #[.val (.ref r), .val (.int (0 : Int32)), .val (.int (3 : Int32)), .val (.ref t0), .val (.int (2 : Int32)), .val (.ref t1)] [(.int (2 : Int32)), (.ref t1)] := Steps.trans c12 (by
        refine XS.astore X11.here hx rfl (hb hby d12_26) rfl rfl (l' := #[.val (.ref r), .val (.int (0 : Int32)), .val (.int (3 : Int32)), .val (.ref t0), .val (.int (2 : Int32)), .val (.ref t1)]) rfl ?_
        refine XS.aload X11.here hx rfl (hb hby d12_28) rfl rfl ?_
        refine XS.iload X11.here hx rfl (hb hby d12_30) rfl ?_
        exact Steps.refl _)
    have Old14 : Old Z n0 h11 := (Old10.keep Kq11 all0)
    obtain ⟨_, _, ⟨T15, Lp15, kp15, np15⟩, -, X15, ⟨Lc15, hQ15, lp15, yp15, zp15⟩, st15⟩ := Jvm.LawKit.callS X11 hx (y := (⟨"java/lang/StringUTF16", "getChar", "([BI)C"⟩ : MethodName)) hown (mvT hZ (W hw 109)) (mvT hZ (W hw 110)) (mvT hZ (W hw 64)) (mvT hZ (W hw 111)) (by decide) (backOf (W := 0) (rmGet3_2 l Z a0 hw [] t1 k1 c0' c1' c2' h11 n0 (by omega) O7 O8 O9 Old14 av11 hc2) hZ (W hw 111) (W hw 64) (by decide) (by decide)) (g := (mkF m 32 #[.val (.ref r), .val (.int (0 : Int32)), .val (.int (3 : Int32)), .val (.ref t0), .val (.int (2 : Int32)), .val (.ref t1)] [(.int (2 : Int32)), (.ref t1)])) rfl (by rw [hml]; rfl) (argsL := [(.ref t1), (.int (2 : Int32))]) (rest := []) (lenOf pd___BI_C rfl) rfl (by show 2 * 0 + _ ≤ _; exact Nat.le_of_eq rfl) (hb hby d12_32) (fun _ _ => ⟨rfl, e11, (by decide : 2 + 0 ≤ _), (by decide : 9 + 0 ≤ _)⟩)
    dsimp only [Pt.U, Pt.locs, Pt.cells, Pt.slots] at X15 lp15 yp15 zp15 st15 hQ15
    subst lp15 yp15 zp15
    obtain ⟨rfl, Nq15, eq15⟩ := hQ15
    have N15 := Fr.app N11 Nq15
    have c16 : SS p e below B0 T15 m 35 #[.val (.ref r), .val (.int (0 : Int32)), .val (.int (3 : Int32)), .val (.ref t0), .val (.int (2 : Int32)), .val (.ref t1)] [(.int (c2'))] := Steps.trans c13 (st15 _ (Steps.refl _))
    have c17 : SS p e below B0 T15 m 56 #[.val (.ref r), .val (.int (0 : Int32)), .val (.int (3 : Int32)), .val (.ref t0), .val (.int (2 : Int32)), .val (.ref t1)] [(.ref t1)] := Steps.trans c16 (by
        refine XT.sipushV X15.here hx rfl (255 : Int32) (hb hby d12_35) (by decide) ?_
        refine XS.icmpYes X15.here hx rfl (pc0 := 38) (pc' := 54) rfl (hb hby d12_38) rfl (tlt hk).2.2.1 (by decide) (by decide) ?_
        refine XS.aload X15.here hx rfl (hb hby d12_54) rfl rfl ?_
        exact Steps.refl _)
    obtain ⟨fs, hr, hrun, hended, hW, hsame⟩ := X15.leave (v := some (.ref t1)) (fun h => by rw [Bd.returns] at h; cases h)
    subst hB0
    refine ⟨_, _, Steps.trans c17 ?_, hrun, hended, _, _, rfl, ?_, ⟨_, rfl⟩, hW, hsame.mono (by decide) (by decide)⟩
    · exact retR X15 hx Bd.returns rfl rfl rfl (hb hby d12_56) hr
    · show QC3_3 Z c0' c1' c2' h0 n0 _ T15.heap _
      rw [eq15]
      exact ⟨t1, k1, 1, 6, _, rfl, N15, K11, (by omega), av11, Or.inr ⟨rfl, rfl, rfl⟩⟩
  have hl2 := h2_
  have Arv5 : Arv Z h2 r kc .char (3 : Int32) [(.int c0'), (.int c1'), (.int c2')] (.int (0 : Int32)) := (Vr.ext E2)
  obtain ⟨_, _, ⟨T6, Lp6, kp6, np6⟩, -, X6, ⟨Lc6, hQ6, lp6, yp6, zp6⟩, st6⟩ := Jvm.LawKit.callS X2 hx (y := (⟨"java/lang/StringUTF16", "compress", "([CI[BII)I"⟩ : MethodName)) hown (mvT hZ (W hw 66)) (mvT hZ (W hw 67)) (mvT hZ (W hw 64)) (mvT hZ (W hw 68)) (by decide) (backOf (W := 0) (rmC5_3_3 l Z a0 hw [] r t0 kc k0 c0' c1' c2' h2 n0 (by omega) Arv5 V2 (by omega) (by omega) hl0 hl1 hl2) hZ (W hw 68) (W hw 64) (by decide) (by decide)) (g := (mkF m 9 #[.val (.ref r), .val (.int (0 : Int32)), .val (.int (3 : Int32)), .val (.ref t0), .unset, .unset] [(.int (3 : Int32)), (.int (0 : Int32)), (.ref t0), (.int (0 : Int32)), (.ref r)])) rfl (by rw [hml]; rfl) (argsL := [(.ref r), (.int (0 : Int32)), (.ref t0), (.int (0 : Int32)), (.int (3 : Int32))]) (rest := []) (lenOf pd___CI_BII_I rfl) rfl (by show 2 * 0 + _ ≤ _; exact Nat.le_of_eq rfl) (hb hby d12_9) (fun _ _ => ⟨rfl, e2, (by decide : 1 + 0 ≤ _), (by decide : 3 + 0 ≤ _)⟩)
  dsimp only [Pt.U, Pt.locs, Pt.cells, Pt.slots] at X6 lp6 yp6 zp6 st6 hQ6
  subst lp6 yp6 zp6
  obtain ⟨rfl, Nq6, Kq6, av6⟩ := hQ6
  have N6 := Fr.app N0 Nq6
  obtain ⟨h6, e6⟩ : ∃ z, T6.heap = z := ⟨_, rfl⟩
  rw [e6] at Kq6 av6
  have z6 : h2.size ≤ h6.size := Kq6.1
  have K6 := K2.trans Kq6 (allS (Or.inr (by omega)) all0)
  have c7 : SS p e below B0 T6 m 12 #[.val (.ref r), .val (.int (0 : Int32)), .val (.int (3 : Int32)), .val (.ref t0), .unset, .unset] [(.int (3 : Int32))] := Steps.trans c4 (st6 _ (Steps.refl _))
  have c8 : SS p e below B0 T6 m 58 #[.val (.ref r), .val (.int (0 : Int32)), .val (.int (3 : Int32)), .val (.ref t0), .val (.int (3 : Int32)), .unset] [(.ref t0)] := Steps.trans c7 (by
      refine XS.istore X6.here hx rfl (hb hby d12_12) rfl (l' := #[.val (.ref r), .val (.int (0 : Int32)), .val (.int (3 : Int32)), .val (.ref t0), .val (.int (3 : Int32)), .unset]) rfl ?_
      refine XS.iload X6.here hx rfl (hb hby d12_14) rfl ?_
      refine XS.iloadN X6.here hx rfl (hb hby d12_16) rfl ?_
      refine XS.icmpYes X6.here hx rfl (pc0 := 17) (pc' := 57) rfl (hb hby d12_17) rfl (teq (by decide : (3 : Int32) = (3 : Int32))).1 (by decide) (by decide) ?_
      refine XS.aloadN X6.here hx rfl (hb hby d12_57) rfl rfl ?_
      exact Steps.refl _)
  obtain ⟨fs, hr, hrun, hended, hW, hsame⟩ := X6.leave (v := some (.ref t0)) (fun h => by rw [Bd.returns] at h; cases h)
  subst hB0
  refine ⟨_, _, Steps.trans c8 ?_, hrun, hended, _, _, rfl, ?_, ⟨_, rfl⟩, hW, hsame.mono (by decide) (by decide)⟩
  · exact retR X6 hx Bd.returns rfl rfl rfl (hb hby d12_58) hr
  · show QC3_3 Z c0' c1' c2' h0 n0 _ T6.heap _
    rw [e6]
    exact ⟨t0, k0, 0, 3, _, rfl, N6, K6, (by omega), av6, Or.inl ⟨rfl, rfl, rfl, hl0, hl1, hl2⟩⟩
def QCl3_0 (h0 : Heap) (n0 : Nat) (v : Option Value) (h : Heap) (L : List Loc) : Prop := v = some (.int (0 : Int32)) ∧ Fr n0 L ∧ h = h0
set_option maxRecDepth 65536 in
set_option maxHeartbeats 40000000 in
theorem rmCl3_0 (l : Launch) (Z : State) (a0 : Array Value) (hw : ∀ d ∈ tables_1, d.before a0 Z = true) (ws : List Jvm.Cond) (t : Addr) (k : ClassId) (vs : List Value) (h0 : Heap) (n0 : Nat) (Z0 : n0 ≤ h0.size) (Vt : Arv Z h0 t k .byte (3 : Int32) vs (.int (0 : Int32))) :
    MetFree l (⟨"java/lang/StringUTF16", "coderFromArrayLen", "([BI)B"⟩ : MethodName) (head1 (Jvm.Cond.code (⟨"java/lang/StringUTF16", "coderFromArrayLen", "([BI)B"⟩ : MethodName) jdk_52_method_15_code 2 (some .byte) :: ws) ({ frames := 0, cells := 0, slots := 0, locals := 0 } : Room)) (fun a U => a = #[(.ref t), (.int (3 : Int32))] ∧ Z.Warmed39 U.vm ∧ U.heap = h0) (fun _ _ _ _ _ => True) (fun _ U o U' => ∃ v L, o = .returned v ∧ QCl3_0 h0 n0 v U'.heap L ∧ FrameEnd U o U' L ({ frames := 0, cells := 0, slots := 0, locals := 0 } : Room).cells ({ frames := 0, cells := 0, slots := 0, locals := 0 } : Room).slots) := by
  refine MetFree.of_bodySF (plainFor_of_name pn_java_lang_StringUTF16) hisR ?_
  intro p e s m args below meth c s₁ Bd hml0 hP hK
  obtain ⟨rfl, hZ, hh⟩ := hP
  have hx := Bd.exec
  have hby := Bd.bytes
  have hml : c.maxLocals = 2 := hml0
  have hown : s.vm.findClass "java/lang/StringUTF16" = some m.cls := findClass_of_methodNamed Bd.named
  have hnm := (name_of_methodNamed Bd.named Bd.method).1
  have X0 : Stand p l e ({ frames := 0, cells := 0, slots := 0, locals := 0 } : Room) s m #[(.ref t), (.int (3 : Int32))] below meth c s₁ [] 0 0 := Stand.of_body Bd
  have e0 : s₁.heap = h0 := by rw [← hh, Bd.state]; rfl
  have N0 := Fr.nil n0
  obtain ⟨B0, c0, hB0⟩ : ∃ B0, Steps p.tables e below B0 (s₁.setTop (mkF m 0 #[.val (.ref t), .val (.int (3 : Int32))] [])) ∧ B0 = s₁.setTop (entryFrame m #[(.ref t), (.int (3 : Int32))] 2) := ⟨_, castTop (ef_RI_2 m t (3 : Int32)) (Steps.refl _), rfl⟩
  have c1 : SS p e below B0 s₁ m 2 #[.val (.ref t), .val (.int (3 : Int32))] [(.ref t), (.int (3 : Int32))] := Steps.trans c0 (by
      refine XS.iloadN X0.here hx rfl (hb hby d13_0) rfl ?_
      refine XS.aloadN X0.here hx rfl (hb hby d13_1) rfl rfl ?_
      exact Steps.refl _)
  obtain ⟨cl2, Ar2, q2, Sz2, M2, Hs2, U2⟩ := id Vt
  have c3 : SS p e below B0 s₁ m 3 #[.val (.ref t), .val (.int (3 : Int32))] [(.int (3 : Int32)), (.int (3 : Int32))] := Steps.trans c1 (by
      refine X0.arraylength hx (by rw [e0]; exact Ar2.1) (State.isArrayOf_alike hZ.alike Ar2.2.1) (g := (mkF m 2 #[.val (.ref t), .val (.int (3 : Int32))] [(.ref t), (.int (3 : Int32))])) rfl rfl (hb hby d13_2) _ ?_
      rw [len_of Sz2 M2]
      exact Steps.refl _)
  have c4 : SS p e below B0 s₁ m 8 #[.val (.ref t), .val (.int (3 : Int32))] [(.int (0 : Int32))] := Steps.trans c3 (by
      refine XS.isub X0.here hx rfl (hb hby d13_3) rfl ?_
      refine XT.bipushV X0.here hx rfl (31 : Int32) (hb hby d13_4) (by decide) ?_
      refine XS.iushr X0.here hx rfl (hb hby d13_6) rfl ?_
      refine XS.i2b X0.here hx rfl (hb hby d13_7) rfl ?_
      exact Steps.refl _)
  obtain ⟨fs, hr, hrun, hended, hW, hsame⟩ := X0.leave (v := some (.int (0 : Int32))) (fun h => by rw [Bd.returns] at h; cases h)
  subst hB0
  refine ⟨_, _, Steps.trans c4 ?_, hrun, hended, _, _, rfl, ?_, ⟨_, rfl⟩, hW, hsame.mono (by decide) (by decide)⟩
  · exact retN X0 hx (t := .byte) Bd.returns (by simp) (hb hby d13_8) hr
  · show QCl3_0 h0 n0 _ s₁.heap _
    rw [e0]
    exact ⟨rfl, N0, rfl⟩
def QCl3_1 (h0 : Heap) (n0 : Nat) (v : Option Value) (h : Heap) (L : List Loc) : Prop := v = some (.int (1 : Int32)) ∧ Fr n0 L ∧ h = h0
set_option maxRecDepth 65536 in
set_option maxHeartbeats 40000000 in
theorem rmCl3_1 (l : Launch) (Z : State) (a0 : Array Value) (hw : ∀ d ∈ tables_1, d.before a0 Z = true) (ws : List Jvm.Cond) (t : Addr) (k : ClassId) (vs : List Value) (h0 : Heap) (n0 : Nat) (Z0 : n0 ≤ h0.size) (Vt : Arv Z h0 t k .byte (6 : Int32) vs (.int (0 : Int32))) :
    MetFree l (⟨"java/lang/StringUTF16", "coderFromArrayLen", "([BI)B"⟩ : MethodName) (head1 (Jvm.Cond.code (⟨"java/lang/StringUTF16", "coderFromArrayLen", "([BI)B"⟩ : MethodName) jdk_52_method_15_code 2 (some .byte) :: ws) ({ frames := 0, cells := 0, slots := 0, locals := 0 } : Room)) (fun a U => a = #[(.ref t), (.int (3 : Int32))] ∧ Z.Warmed39 U.vm ∧ U.heap = h0) (fun _ _ _ _ _ => True) (fun _ U o U' => ∃ v L, o = .returned v ∧ QCl3_1 h0 n0 v U'.heap L ∧ FrameEnd U o U' L ({ frames := 0, cells := 0, slots := 0, locals := 0 } : Room).cells ({ frames := 0, cells := 0, slots := 0, locals := 0 } : Room).slots) := by
  refine MetFree.of_bodySF (plainFor_of_name pn_java_lang_StringUTF16) hisR ?_
  intro p e s m args below meth c s₁ Bd hml0 hP hK
  obtain ⟨rfl, hZ, hh⟩ := hP
  have hx := Bd.exec
  have hby := Bd.bytes
  have hml : c.maxLocals = 2 := hml0
  have hown : s.vm.findClass "java/lang/StringUTF16" = some m.cls := findClass_of_methodNamed Bd.named
  have hnm := (name_of_methodNamed Bd.named Bd.method).1
  have X0 : Stand p l e ({ frames := 0, cells := 0, slots := 0, locals := 0 } : Room) s m #[(.ref t), (.int (3 : Int32))] below meth c s₁ [] 0 0 := Stand.of_body Bd
  have e0 : s₁.heap = h0 := by rw [← hh, Bd.state]; rfl
  have N0 := Fr.nil n0
  obtain ⟨B0, c0, hB0⟩ : ∃ B0, Steps p.tables e below B0 (s₁.setTop (mkF m 0 #[.val (.ref t), .val (.int (3 : Int32))] [])) ∧ B0 = s₁.setTop (entryFrame m #[(.ref t), (.int (3 : Int32))] 2) := ⟨_, castTop (ef_RI_2 m t (3 : Int32)) (Steps.refl _), rfl⟩
  have c1 : SS p e below B0 s₁ m 2 #[.val (.ref t), .val (.int (3 : Int32))] [(.ref t), (.int (3 : Int32))] := Steps.trans c0 (by
      refine XS.iloadN X0.here hx rfl (hb hby d13_0) rfl ?_
      refine XS.aloadN X0.here hx rfl (hb hby d13_1) rfl rfl ?_
      exact Steps.refl _)
  obtain ⟨cl2, Ar2, q2, Sz2, M2, Hs2, U2⟩ := id Vt
  have c3 : SS p e below B0 s₁ m 3 #[.val (.ref t), .val (.int (3 : Int32))] [(.int (6 : Int32)), (.int (3 : Int32))] := Steps.trans c1 (by
      refine X0.arraylength hx (by rw [e0]; exact Ar2.1) (State.isArrayOf_alike hZ.alike Ar2.2.1) (g := (mkF m 2 #[.val (.ref t), .val (.int (3 : Int32))] [(.ref t), (.int (3 : Int32))])) rfl rfl (hb hby d13_2) _ ?_
      rw [len_of Sz2 M2]
      exact Steps.refl _)
  have c4 : SS p e below B0 s₁ m 8 #[.val (.ref t), .val (.int (3 : Int32))] [(.int (1 : Int32))] := Steps.trans c3 (by
      refine XS.isub X0.here hx rfl (hb hby d13_3) rfl ?_
      refine XT.bipushV X0.here hx rfl (31 : Int32) (hb hby d13_4) (by decide) ?_
      refine XS.iushr X0.here hx rfl (hb hby d13_6) rfl ?_
      refine XS.i2b X0.here hx rfl (hb hby d13_7) rfl ?_
      exact Steps.refl _)
  obtain ⟨fs, hr, hrun, hended, hW, hsame⟩ := X0.leave (v := some (.int (1 : Int32))) (fun h => by rw [Bd.returns] at h; cases h)
  subst hB0
  refine ⟨_, _, Steps.trans c4 ?_, hrun, hended, _, _, rfl, ?_, ⟨_, rfl⟩, hW, hsame.mono (by decide) (by decide)⟩
  · exact retN X0 hx (t := .byte) Bd.returns (by simp) (hb hby d13_8) hr
  · show QCl3_1 h0 n0 _ s₁.heap _
    rw [e0]
    exact ⟨rfl, N0, rfl⟩
def QS3 (Z : State) (a1 : Addr) (c0' c1' c2' : Int32) (h0 : Heap) (n0 : Nat) (v : Option Value) (h : Heap) (L : List Loc) : Prop := v = none ∧ Fr n0 L ∧ Keep h0 h [a1] ∧ ∃ (t : Addr) (k : ClassId) (cd N : Int32) (vs : List Value), h0.size ≤ t ∧ Fld Z h a1 "java/lang/String" "coder" "B" (.int cd) ∧ Fld Z h a1 "java/lang/String" "value" "[B" (.ref t) ∧ Arv Z h t k .byte N vs (.int (0 : Int32)) ∧ Spl3 c0' c1' c2' cd N vs
set_option maxRecDepth 65536 in
set_option maxHeartbeats 40000000 in
theorem rmS4_3 (l : Launch) (Z : State) (a0 : Array Value) (hw : ∀ d ∈ tables_1, d.before a0 Z = true) (ws : List Jvm.Cond) (a1 r : Addr) (kc : ClassId) (c0' c1' c2' : Int32) (uv uc : Value) (G1 : Int32) (h0 : Heap) (n0 : Nat) (Z0 : n0 ≤ h0.size) (E_a1 : Exa Z h0 a1 "java/lang/String") (Fv_a1 : Fld Z h0 a1 "java/lang/String" "value" "[B" uv) (Fc_a1 : Fld Z h0 a1 "java/lang/String" "coder" "B" uc) (O2 : Sta Z Z.heap "java/lang/String" "COMPACT_STRINGS" "Z" (.int G1)) (P5 : ¬ (G1 = (0 : Int32))) (O7 : Sta Z Z.heap "java/lang/StringUTF16" "$assertionsDisabled" "Z" (.int (1 : Int32))) (O8 : Sta Z Z.heap "java/lang/StringUTF16" "HI_BYTE_SHIFT" "I" (.int (0 : Int32))) (O9 : Sta Z Z.heap "java/lang/StringUTF16" "LO_BYTE_SHIFT" "I" (.int (8 : Int32))) (X00 : Old Z n0 h0) (Vr : Arv Z h0 r kc .char (3 : Int32) [(.int c0'), (.int c1'), (.int c2')] (.int (0 : Int32))) (hc0 : ¬ c0' < 0 ∧ ¬ (65535 : Int32) < c0') (hc1 : ¬ c1' < 0 ∧ ¬ (65535 : Int32) < c1') (hc2 : ¬ c2' < 0 ∧ ¬ (65535 : Int32) < c2') (g_a1 : n0 ≤ a1) :
    MetFree l (⟨"java/lang/String", "<init>", "([CIILjava/lang/Void;)V"⟩ : MethodName) (head1 (Jvm.Cond.code (⟨"java/lang/String", "<init>", "([CIILjava/lang/Void;)V"⟩ : MethodName) jdk_42_method_149_code 6 none :: ws) ({ frames := 4, cells := 2, slots := 9, locals := 60 } : Room)) (fun a U => a = #[(.ref a1), (.ref r), (.int (0 : Int32)), (.int (3 : Int32)), .null] ∧ Z.Warmed39 U.vm ∧ U.heap = h0) (fun _ _ _ _ _ => True) (fun _ U o U' => ∃ v L, o = .returned v ∧ QS3 Z a1 c0' c1' c2' h0 n0 v U'.heap L ∧ FrameEnd U o U' L ({ frames := 4, cells := 2, slots := 9, locals := 60 } : Room).cells ({ frames := 4, cells := 2, slots := 9, locals := 60 } : Room).slots) := by
  refine MetFree.of_bodySF (plainFor_of_name pn_java_lang_String) hisR ?_
  intro p e s m args below meth c s₁ Bd hml0 hP hK
  obtain ⟨rfl, hZ, hh⟩ := hP
  have hx := Bd.exec
  have hby := Bd.bytes
  have hml : c.maxLocals = 6 := hml0
  have hown : s.vm.findClass "java/lang/String" = some m.cls := findClass_of_methodNamed Bd.named
  have hnm := (name_of_methodNamed Bd.named Bd.method).1
  have X0 : Stand p l e ({ frames := 4, cells := 2, slots := 9, locals := 60 } : Room) s m #[(.ref a1), (.ref r), (.int (0 : Int32)), (.int (3 : Int32)), .null] below meth c s₁ [] 0 0 := Stand.of_body Bd
  have e0 : s₁.heap = h0 := by rw [← hh, Bd.state]; rfl
  have N0 := Fr.nil n0
  obtain ⟨B0, c0, hB0⟩ : ∃ B0, Steps p.tables e below B0 (s₁.setTop (mkF m 0 #[.val (.ref a1), .val (.ref r), .val (.int (0 : Int32)), .val (.int (3 : Int32)), .val .null, .unset] [])) ∧ B0 = s₁.setTop (entryFrame m #[(.ref a1), (.ref r), (.int (0 : Int32)), (.int (3 : Int32)), .null] 6) := ⟨_, castTop (ef_RRIIN_6 m a1 r (0 : Int32) (3 : Int32)) (Steps.refl _), rfl⟩
  have lt_a1 : (@LT.lt Nat _ a1 h0.size) := E_a1.lt
  have lt_r : (@LT.lt Nat _ r h0.size) := Vr.lt
  have c1 : SS p e below B0 s₁ m 1 #[.val (.ref a1), .val (.ref r), .val (.int (0 : Int32)), .val (.int (3 : Int32)), .val .null, .unset] [(.ref a1)] := Steps.trans c0 (by
      refine XS.aloadN X0.here hx rfl (hb hby d0_0) rfl rfl ?_
      exact Steps.refl _)
  obtain ⟨T2, X2, e2, st2⟩ := initO X0 hx hZ hown (W hw 16) (W hw 17) (W hw 18) e0 (g := (mkF m 1 #[.val (.ref a1), .val (.ref r), .val (.int (0 : Int32)), .val (.int (3 : Int32)), .val .null, .unset] [(.ref a1)])) rfl (by rw [hml]; rfl) rfl (hb hby d0_1) (by decide) (W := 0) (by show 2 * 0 + _ ≤ _; exact Nat.le_of_eq rfl) (by decide)
  have c3 : SS p e below B0 T2 m 4 #[.val (.ref a1), .val (.ref r), .val (.int (0 : Int32)), .val (.int (3 : Int32)), .val .null, .unset] [] := Steps.trans c1 (st2 _ (Steps.refl _))
  have c4 : SS p e below B0 T2 m 27 #[.val (.ref a1), .val (.ref r), .val (.int (0 : Int32)), .val (.int (3 : Int32)), .val .null, .unset] [] := Steps.trans c3 (by
      refine XS.iloadN X2.here hx rfl (hb hby d0_4) rfl ?_
      refine XS.ifYes X2.here hx rfl (pc0 := 5) (pc' := 27) rfl (hb hby d0_5) rfl ((if0 _ _).trans (feq (by decide : ¬ (3 : Int32) = (0 : Int32))).2) (by decide) (by decide) ?_
      exact Steps.refl _)
  obtain ⟨T5, X5, e5, st5⟩ := getS X2 hx hZ (host := "") hown (W hw 30) Via.refl e2 (O2.ext X00.2) (g := (mkF m 27 #[.val (.ref a1), .val (.ref r), .val (.int (0 : Int32)), .val (.int (3 : Int32)), .val .null, .unset] [])) rfl (hb hby d0_27)
  have c6 : SS p e below B0 T5 m 30 #[.val (.ref a1), .val (.ref r), .val (.int (0 : Int32)), .val (.int (3 : Int32)), .val .null, .unset] [(.int G1)] := Steps.trans c4 (st5 _ (Steps.refl _))
  have c7 : SS p e below B0 T5 m 36 #[.val (.ref a1), .val (.ref r), .val (.int (0 : Int32)), .val (.int (3 : Int32)), .val .null, .unset] [(.int (3 : Int32)), (.int (0 : Int32)), (.ref r)] := Steps.trans c6 (by
      refine XS.ifNo X5.here hx rfl (hb hby d0_30) rfl ((if0 _ _).trans (feq P5).1) ?_
      refine XS.aloadN X5.here hx rfl (hb hby d0_33) rfl rfl ?_
      refine XS.iloadN X5.here hx rfl (hb hby d0_34) rfl ?_
      refine XS.iloadN X5.here hx rfl (hb hby d0_35) rfl ?_
      exact Steps.refl _)
  obtain ⟨_, _, ⟨T8, Lp8, kp8, np8⟩, -, X8, ⟨Lc8, hQ8, lp8, yp8, zp8⟩, st8⟩ := Jvm.LawKit.callS X5 hx (y := (⟨"java/lang/StringUTF16", "compress", "([CII)[B"⟩ : MethodName)) hown (mvT hZ (W hw 62)) (mvT hZ (W hw 63)) (mvT hZ (W hw 64)) (mvT hZ (W hw 65)) (by decide) (backOf (W := 0) (rmC3_3 l Z a0 hw [] r kc c0' c1' c2' h0 n0 (by omega) O7 O8 O9 X00 Vr hc0 hc1 hc2) hZ (W hw 65) (W hw 64) (by decide) (by decide)) (g := (mkF m 36 #[.val (.ref a1), .val (.ref r), .val (.int (0 : Int32)), .val (.int (3 : Int32)), .val .null, .unset] [(.int (3 : Int32)), (.int (0 : Int32)), (.ref r)])) rfl (by rw [hml]; rfl) (argsL := [(.ref r), (.int (0 : Int32)), (.int (3 : Int32))]) (rest := []) (lenOf pd___CII__B rfl) rfl (by show 2 * 0 + _ ≤ _; exact Nat.le_of_eq rfl) (hb hby d0_36) (fun _ _ => ⟨rfl, e5, (by decide : 0 + 2 ≤ _), (by decide : 0 + 9 ≤ _)⟩)
  dsimp only [Pt.U, Pt.locs, Pt.cells, Pt.slots] at X8 lp8 yp8 zp8 st8 hQ8
  subst lp8 yp8 zp8
  obtain ⟨t1, k1, cd, N_, vs, rfl, Nq8, Kq8, g8, av8, spl⟩ := hQ8
  have N8 := Fr.app N0 Nq8
  obtain ⟨h8, e8⟩ : ∃ z, T8.heap = z := ⟨_, rfl⟩
  rw [e8] at Kq8 av8
  have z8 : h0.size ≤ h8.size := Kq8.1
  have K8 := (Keep.refl h0 [a1]).trans Kq8 all0
  have c9 : SS p e below B0 T8 m 39 #[.val (.ref a1), .val (.ref r), .val (.int (0 : Int32)), .val (.int (3 : Int32)), .val .null, .unset] [(.ref t1)] := Steps.trans c7 (st8 _ (Steps.refl _))
  have lt_t1 : (@LT.lt Nat _ t1 h8.size) := av8.lt
  have hspl := spl
  have c10 : SS p e below B0 T8 m 45 #[.val (.ref a1), .val (.ref r), .val (.int (0 : Int32)), .val (.int (3 : Int32)), .val .null, .val (.ref t1)] [(.int (3 : Int32)), (.ref t1), (.ref a1)] := Steps.trans c9 (by
      refine XS.astore X8.here hx rfl (hb hby d0_39) rfl rfl (l' := #[.val (.ref a1), .val (.ref r), .val (.int (0 : Int32)), .val (.int (3 : Int32)), .val .null, .val (.ref t1)]) rfl ?_
      refine XS.aloadN X8.here hx rfl (hb hby d0_41) rfl rfl ?_
      refine XS.aload X8.here hx rfl (hb hby d0_42) rfl rfl ?_
      refine XS.iloadN X8.here hx rfl (hb hby d0_44) rfl ?_
      exact Steps.refl _)
  rcases spl with ⟨rfl, rfl, rfl, -⟩ | ⟨rfl, rfl, rfl⟩
  · have hdummy := Z0
    obtain ⟨_, _, ⟨T11, Lp11, kp11, np11⟩, -, X11, ⟨Lc11, hQ11, lp11, yp11, zp11⟩, st11⟩ := Jvm.LawKit.callS X8 hx (y := (⟨"java/lang/StringUTF16", "coderFromArrayLen", "([BI)B"⟩ : MethodName)) hown (mvT hZ (W hw 69)) (mvT hZ (W hw 70)) (mvT hZ (W hw 64)) (mvT hZ (W hw 71)) (by decide) (backOf (W := 1) (rmCl3_0 l Z a0 hw [] t1 k1 _ h8 n0 (by omega) av8) hZ (W hw 71) (W hw 64) (by decide) (by decide)) (g := (mkF m 45 #[.val (.ref a1), .val (.ref r), .val (.int (0 : Int32)), .val (.int (3 : Int32)), .val .null, .val (.ref t1)] [(.int (3 : Int32)), (.ref t1), (.ref a1)])) rfl (by rw [hml]; rfl) (argsL := [(.ref t1), (.int (3 : Int32))]) (rest := [(.ref a1)]) (lenOf pd___BI_B rfl) rfl (by show 2 * 0 + _ ≤ _; exact Nat.le_of_eq rfl) (hb hby d0_45) (fun _ _ => ⟨rfl, e8, (by decide : 2 + 0 ≤ _), (by decide : 9 + 0 ≤ _)⟩)
    dsimp only [Pt.U, Pt.locs, Pt.cells, Pt.slots] at X11 lp11 yp11 zp11 st11 hQ11
    subst lp11 yp11 zp11
    obtain ⟨rfl, Nq11, eq11⟩ := hQ11
    have N11 := Fr.app N8 Nq11
    have c12 : SS p e below B0 T11 m 48 #[.val (.ref a1), .val (.ref r), .val (.int (0 : Int32)), .val (.int (3 : Int32)), .val .null, .val (.ref t1)] [(.int (0 : Int32)), (.ref a1)] := Steps.trans c10 (st11 _ (Steps.refl _))
    have Fld14 : Fld Z h8 a1 "java/lang/String" "coder" "B" uc := (Fc_a1.keep Kq8 nin0)
    have Exa15 : Exa Z h8 a1 "java/lang/String" := (E_a1.keep Kq8)
    obtain ⟨T13, h13, X13, e13, W13, st13⟩ := putF X11 hx hZ hown (host := "") (Or.inl (W hw 26)) Via.refl eq11 Fld14 Exa15 (Or.inr ⟨(W hw 22), rfl, hnm⟩) (W hw 7) (ty := .byte) (by decide) rfl rfl (g := (mkF m 48 #[.val (.ref a1), .val (.ref r), .val (.int (0 : Int32)), .val (.int (3 : Int32)), .val .null, .val (.ref t1)] [(.int (0 : Int32)), (.ref a1)])) rfl rfl (hb hby d0_48)
    have N13 := Fr.snoc X13 N11 (by omega)
    have F13 : Fld Z h13 a1 "java/lang/String" "coder" "B" (.int (0 : Int32)) := Fld14.same W13
    have z13 : h13.size = h8.size := W13.size
    have K13 := K8.wr W13 (Or.inl (List.mem_of_getElem? (i := 0) rfl))
    have c16 : SS p e below B0 T13 m 51 #[.val (.ref a1), .val (.ref r), .val (.int (0 : Int32)), .val (.int (3 : Int32)), .val .null, .val (.ref t1)] [] := Steps.trans c12 (st13 _ (Steps.refl _))
    have c17 : SS p e below B0 T13 m 54 #[.val (.ref a1), .val (.ref r), .val (.int (0 : Int32)), .val (.int (3 : Int32)), .val .null, .val (.ref t1)] [(.ref t1), (.ref a1)] := Steps.trans c16 (by
        refine XS.aloadN X13.here hx rfl (hb hby d0_51) rfl rfl ?_
        refine XS.aload X13.here hx rfl (hb hby d0_52) rfl rfl ?_
        exact Steps.refl _)
    have Fld19 : Fld Z h13 a1 "java/lang/String" "value" "[B" uv := ((Fv_a1.keep Kq8 nin0).other W13 (Or.inr (slot_ne (Or.inr (W hw 21)) (Or.inr (W hw 22)) (by decide) (t := (.array .byte)) (t' := .byte) (by decide) (by decide))))
    have Exa20 : Exa Z h13 a1 "java/lang/String" := (Exa15.wr W13)
    obtain ⟨T18, h18, X18, e18, W18, st18⟩ := putF X13 hx hZ hown (host := "") (Or.inl (W hw 25)) Via.refl e13 Fld19 Exa20 (Or.inr ⟨(W hw 21), rfl, hnm⟩) (W hw 7) (ty := (.array .byte)) (by decide) rfl rfl (g := (mkF m 54 #[.val (.ref a1), .val (.ref r), .val (.int (0 : Int32)), .val (.int (3 : Int32)), .val .null, .val (.ref t1)] [(.ref t1), (.ref a1)])) rfl rfl (hb hby d0_54)
    have N18 := Fr.snoc X18 N13 (by omega)
    have F18 : Fld Z h18 a1 "java/lang/String" "value" "[B" (.ref t1) := Fld19.same W18
    have z18 : h18.size = h13.size := W18.size
    have K18 := K13.wr W18 (Or.inl (List.mem_of_getElem? (i := 0) rfl))
    have c21 : SS p e below B0 T18 m 57 #[.val (.ref a1), .val (.ref r), .val (.int (0 : Int32)), .val (.int (3 : Int32)), .val .null, .val (.ref t1)] [] := Steps.trans c17 (st18 _ (Steps.refl _))
    have Fld22 : Fld Z h18 a1 "java/lang/String" "coder" "B" (.int (0 : Int32)) := (F13.other W18 (Or.inr (slot_ne (Or.inr (W hw 22)) (Or.inr (W hw 21)) (by decide) (t := .byte) (t' := (.array .byte)) (by decide) (by decide))))
    have Arv23 : Arv Z h18 t1 k1 .byte (3 : Int32) [(.int (nar .byte (c0'.toInt8.toInt32))), (.int (nar .byte (c1'.toInt8.toInt32))), (.int (nar .byte (c2'.toInt8.toInt32)))] (.int (0 : Int32)) := ((av8.other W13 (own_ne (by omega))).other W18 (own_ne (by omega)))
    obtain ⟨fs, hr, hrun, hended, hW, hsame⟩ := X18.leave (v := none) (fun _ => rfl)
    subst hB0
    refine ⟨_, _, Steps.trans c21 ?_, hrun, hended, _, _, rfl, ?_, ⟨_, rfl⟩, hW, hsame.mono (by decide) (by decide)⟩
    · exact X18.returnOut hx Bd.returns (hb hby d0_57) hr
    · show QS3 Z a1 c0' c1' c2' h0 n0 _ T18.heap _
      rw [e18]
      exact ⟨rfl, N18, K18, t1, k1, _, _, _, (by omega), Fld22, F18, Arv23, hspl⟩
  · have hdummy := Z0
    obtain ⟨_, _, ⟨T11, Lp11, kp11, np11⟩, -, X11, ⟨Lc11, hQ11, lp11, yp11, zp11⟩, st11⟩ := Jvm.LawKit.callS X8 hx (y := (⟨"java/lang/StringUTF16", "coderFromArrayLen", "([BI)B"⟩ : MethodName)) hown (mvT hZ (W hw 69)) (mvT hZ (W hw 70)) (mvT hZ (W hw 64)) (mvT hZ (W hw 71)) (by decide) (backOf (W := 1) (rmCl3_1 l Z a0 hw [] t1 k1 _ h8 n0 (by omega) av8) hZ (W hw 71) (W hw 64) (by decide) (by decide)) (g := (mkF m 45 #[.val (.ref a1), .val (.ref r), .val (.int (0 : Int32)), .val (.int (3 : Int32)), .val .null, .val (.ref t1)] [(.int (3 : Int32)), (.ref t1), (.ref a1)])) rfl (by rw [hml]; rfl) (argsL := [(.ref t1), (.int (3 : Int32))]) (rest := [(.ref a1)]) (lenOf pd___BI_B rfl) rfl (by show 2 * 0 + _ ≤ _; exact Nat.le_of_eq rfl) (hb hby d0_45) (fun _ _ => ⟨rfl, e8, (by decide : 2 + 0 ≤ _), (by decide : 9 + 0 ≤ _)⟩)
    dsimp only [Pt.U, Pt.locs, Pt.cells, Pt.slots] at X11 lp11 yp11 zp11 st11 hQ11
    subst lp11 yp11 zp11
    obtain ⟨rfl, Nq11, eq11⟩ := hQ11
    have N11 := Fr.app N8 Nq11
    have c12 : SS p e below B0 T11 m 48 #[.val (.ref a1), .val (.ref r), .val (.int (0 : Int32)), .val (.int (3 : Int32)), .val .null, .val (.ref t1)] [(.int (1 : Int32)), (.ref a1)] := Steps.trans c10 (st11 _ (Steps.refl _))
    have Fld14 : Fld Z h8 a1 "java/lang/String" "coder" "B" uc := (Fc_a1.keep Kq8 nin0)
    have Exa15 : Exa Z h8 a1 "java/lang/String" := (E_a1.keep Kq8)
    obtain ⟨T13, h13, X13, e13, W13, st13⟩ := putF X11 hx hZ hown (host := "") (Or.inl (W hw 26)) Via.refl eq11 Fld14 Exa15 (Or.inr ⟨(W hw 22), rfl, hnm⟩) (W hw 7) (ty := .byte) (by decide) rfl rfl (g := (mkF m 48 #[.val (.ref a1), .val (.ref r), .val (.int (0 : Int32)), .val (.int (3 : Int32)), .val .null, .val (.ref t1)] [(.int (1 : Int32)), (.ref a1)])) rfl rfl (hb hby d0_48)
    have N13 := Fr.snoc X13 N11 (by omega)
    have F13 : Fld Z h13 a1 "java/lang/String" "coder" "B" (.int (1 : Int32)) := Fld14.same W13
    have z13 : h13.size = h8.size := W13.size
    have K13 := K8.wr W13 (Or.inl (List.mem_of_getElem? (i := 0) rfl))
    have c16 : SS p e below B0 T13 m 51 #[.val (.ref a1), .val (.ref r), .val (.int (0 : Int32)), .val (.int (3 : Int32)), .val .null, .val (.ref t1)] [] := Steps.trans c12 (st13 _ (Steps.refl _))
    have c17 : SS p e below B0 T13 m 54 #[.val (.ref a1), .val (.ref r), .val (.int (0 : Int32)), .val (.int (3 : Int32)), .val .null, .val (.ref t1)] [(.ref t1), (.ref a1)] := Steps.trans c16 (by
        refine XS.aloadN X13.here hx rfl (hb hby d0_51) rfl rfl ?_
        refine XS.aload X13.here hx rfl (hb hby d0_52) rfl rfl ?_
        exact Steps.refl _)
    have Fld19 : Fld Z h13 a1 "java/lang/String" "value" "[B" uv := ((Fv_a1.keep Kq8 nin0).other W13 (Or.inr (slot_ne (Or.inr (W hw 21)) (Or.inr (W hw 22)) (by decide) (t := (.array .byte)) (t' := .byte) (by decide) (by decide))))
    have Exa20 : Exa Z h13 a1 "java/lang/String" := (Exa15.wr W13)
    obtain ⟨T18, h18, X18, e18, W18, st18⟩ := putF X13 hx hZ hown (host := "") (Or.inl (W hw 25)) Via.refl e13 Fld19 Exa20 (Or.inr ⟨(W hw 21), rfl, hnm⟩) (W hw 7) (ty := (.array .byte)) (by decide) rfl rfl (g := (mkF m 54 #[.val (.ref a1), .val (.ref r), .val (.int (0 : Int32)), .val (.int (3 : Int32)), .val .null, .val (.ref t1)] [(.ref t1), (.ref a1)])) rfl rfl (hb hby d0_54)
    have N18 := Fr.snoc X18 N13 (by omega)
    have F18 : Fld Z h18 a1 "java/lang/String" "value" "[B" (.ref t1) := Fld19.same W18
    have z18 : h18.size = h13.size := W18.size
    have K18 := K13.wr W18 (Or.inl (List.mem_of_getElem? (i := 0) rfl))
    have c21 : SS p e below B0 T18 m 57 #[.val (.ref a1), .val (.ref r), .val (.int (0 : Int32)), .val (.int (3 : Int32)), .val .null, .val (.ref t1)] [] := Steps.trans c17 (st18 _ (Steps.refl _))
    have Fld22 : Fld Z h18 a1 "java/lang/String" "coder" "B" (.int (1 : Int32)) := (F13.other W18 (Or.inr (slot_ne (Or.inr (W hw 22)) (Or.inr (W hw 21)) (by decide) (t := .byte) (t' := (.array .byte)) (by decide) (by decide))))
    have Arv23 : Arv Z h18 t1 k1 .byte (6 : Int32) [(.int (nar .byte ((c0' >>> ((0 : Int32) &&& 31)).toInt8.toInt32))), (.int (nar .byte ((c0' >>> ((8 : Int32) &&& 31)).toInt8.toInt32))), (.int (nar .byte ((c1' >>> ((0 : Int32) &&& 31)).toInt8.toInt32))), (.int (nar .byte ((c1' >>> ((8 : Int32) &&& 31)).toInt8.toInt32))), (.int (nar .byte ((c2' >>> ((0 : Int32) &&& 31)).toInt8.toInt32))), (.int (nar .byte ((c2' >>> ((8 : Int32) &&& 31)).toInt8.toInt32)))] (.int (0 : Int32)) := ((av8.other W13 (own_ne (by omega))).other W18 (own_ne (by omega)))
    obtain ⟨fs, hr, hrun, hended, hW, hsame⟩ := X18.leave (v := none) (fun _ => rfl)
    subst hB0
    refine ⟨_, _, Steps.trans c21 ?_, hrun, hended, _, _, rfl, ?_, ⟨_, rfl⟩, hW, hsame.mono (by decide) (by decide)⟩
    · exact X18.returnOut hx Bd.returns (hb hby d0_57) hr
    · show QS3 Z a1 c0' c1' c2' h0 n0 _ T18.heap _
      rw [e18]
      exact ⟨rfl, N18, K18, t1, k1, _, _, _, (by omega), Fld22, F18, Arv23, hspl⟩
set_option maxRecDepth 65536 in
set_option maxHeartbeats 40000000 in
theorem rmS1_3 (l : Launch) (Z : State) (a0 : Array Value) (hw : ∀ d ∈ tables_1, d.before a0 Z = true) (ws : List Jvm.Cond) (a1 r : Addr) (kc : ClassId) (c0' c1' c2' : Int32) (uv uc : Value) (G1 : Int32) (h0 : Heap) (n0 : Nat) (Z0 : n0 ≤ h0.size) (E_a1 : Exa Z h0 a1 "java/lang/String") (Fv_a1 : Fld Z h0 a1 "java/lang/String" "value" "[B" uv) (Fc_a1 : Fld Z h0 a1 "java/lang/String" "coder" "B" uc) (O2 : Sta Z Z.heap "java/lang/String" "COMPACT_STRINGS" "Z" (.int G1)) (P5 : ¬ (G1 = (0 : Int32))) (O7 : Sta Z Z.heap "java/lang/StringUTF16" "$assertionsDisabled" "Z" (.int (1 : Int32))) (O8 : Sta Z Z.heap "java/lang/StringUTF16" "HI_BYTE_SHIFT" "I" (.int (0 : Int32))) (O9 : Sta Z Z.heap "java/lang/StringUTF16" "LO_BYTE_SHIFT" "I" (.int (8 : Int32))) (X00 : Old Z n0 h0) (Vr : Arv Z h0 r kc .char (3 : Int32) [(.int c0'), (.int c1'), (.int c2')] (.int (0 : Int32))) (hc0 : ¬ c0' < 0 ∧ ¬ (65535 : Int32) < c0') (hc1 : ¬ c1' < 0 ∧ ¬ (65535 : Int32) < c1') (hc2 : ¬ c2' < 0 ∧ ¬ (65535 : Int32) < c2') (g_a1 : n0 ≤ a1) :
    MetFree l (⟨"java/lang/String", "<init>", "([C)V"⟩ : MethodName) (head1 (Jvm.Cond.code (⟨"java/lang/String", "<init>", "([C)V"⟩ : MethodName) jdk_42_method_3_code 2 none :: ws) ({ frames := 5, cells := 2, slots := 9, locals := 77 } : Room)) (fun a U => a = #[(.ref a1), (.ref r)] ∧ Z.Warmed39 U.vm ∧ U.heap = h0) (fun _ _ _ _ _ => True) (fun _ U o U' => ∃ v L, o = .returned v ∧ QS3 Z a1 c0' c1' c2' h0 n0 v U'.heap L ∧ FrameEnd U o U' L ({ frames := 5, cells := 2, slots := 9, locals := 77 } : Room).cells ({ frames := 5, cells := 2, slots := 9, locals := 77 } : Room).slots) := by
  refine MetFree.of_bodySF (plainFor_of_name pn_java_lang_String) hisR ?_
  intro p e s m args below meth c s₁ Bd hml0 hP hK
  obtain ⟨rfl, hZ, hh⟩ := hP
  have hx := Bd.exec
  have hby := Bd.bytes
  have hml : c.maxLocals = 2 := hml0
  have hown : s.vm.findClass "java/lang/String" = some m.cls := findClass_of_methodNamed Bd.named
  have hnm := (name_of_methodNamed Bd.named Bd.method).1
  have X0 : Stand p l e ({ frames := 5, cells := 2, slots := 9, locals := 77 } : Room) s m #[(.ref a1), (.ref r)] below meth c s₁ [] 0 0 := Stand.of_body Bd
  have e0 : s₁.heap = h0 := by rw [← hh, Bd.state]; rfl
  have N0 := Fr.nil n0
  obtain ⟨B0, c0, hB0⟩ : ∃ B0, Steps p.tables e below B0 (s₁.setTop (mkF m 0 #[.val (.ref a1), .val (.ref r)] [])) ∧ B0 = s₁.setTop (entryFrame m #[(.ref a1), (.ref r)] 2) := ⟨_, castTop (ef_RR_2 m a1 r) (Steps.refl _), rfl⟩
  have lt_a1 : (@LT.lt Nat _ a1 h0.size) := E_a1.lt
  have lt_r : (@LT.lt Nat _ r h0.size) := Vr.lt
  have c1 : SS p e below B0 s₁ m 4 #[.val (.ref a1), .val (.ref r)] [(.ref r), (.int (0 : Int32)), (.ref r), (.ref a1)] := Steps.trans c0 (by
      refine XS.aloadN X0.here hx rfl (hb hby d1_0) rfl rfl ?_
      refine XS.aloadN X0.here hx rfl (hb hby d1_1) rfl rfl ?_
      refine XT.iconstV X0.here hx rfl (0 : Int32) (hb hby d1_2) (by decide) ?_
      refine XS.aloadN X0.here hx rfl (hb hby d1_3) rfl rfl ?_
      exact Steps.refl _)
  obtain ⟨cl2, Ar2, q2, Sz2, M2, Hs2, U2⟩ := id Vr
  have c3 : SS p e below B0 s₁ m 5 #[.val (.ref a1), .val (.ref r)] [(.int (3 : Int32)), (.int (0 : Int32)), (.ref r), (.ref a1)] := Steps.trans c1 (by
      refine X0.arraylength hx (by rw [e0]; exact Ar2.1) (State.isArrayOf_alike hZ.alike Ar2.2.1) (g := (mkF m 4 #[.val (.ref a1), .val (.ref r)] [(.ref r), (.int (0 : Int32)), (.ref r), (.ref a1)])) rfl rfl (hb hby d1_4) _ ?_
      rw [len_of Sz2 M2]
      exact Steps.refl _)
  have c4 : SS p e below B0 s₁ m 6 #[.val (.ref a1), .val (.ref r)] [.null, (.int (3 : Int32)), (.int (0 : Int32)), (.ref r), (.ref a1)] := Steps.trans c3 (by
      refine XS.aconstNull X0.here hx rfl (hb hby d1_5) ?_
      exact Steps.refl _)
  obtain ⟨_, _, ⟨T5, Lp5, kp5, np5⟩, -, X5, ⟨Lc5, hQ5, lp5, yp5, zp5⟩, st5⟩ := X0.specialBack hx (y := (⟨"java/lang/String", "<init>", "([CIILjava/lang/Void;)V"⟩ : MethodName)) rfl hown (mvT hZ (W hw 12)) (mvT hZ (W hw 13)) (mvT hZ (W hw 15)) (by decide) (backOf (W := 0) (rmS4_3 l Z a0 hw [] a1 r kc c0' c1' c2' uv uc G1 h0 n0 Z0 E_a1 Fv_a1 Fc_a1 O2 P5 O7 O8 O9 X00 Vr hc0 hc1 hc2 g_a1) hZ (W hw 15) (W hw 8) (by decide) (by decide)) (g := (mkF m 6 #[.val (.ref a1), .val (.ref r)] [.null, (.int (3 : Int32)), (.int (0 : Int32)), (.ref r), (.ref a1)])) rfl (by rw [hml]; rfl) c4 (a := a1) (argsL := [(.ref r), (.int (0 : Int32)), (.int (3 : Int32)), .null]) (rest := []) (lenOf pd___CIILjava_lang_Void__V rfl) rfl (by show 2 * 0 + _ ≤ _; exact Nat.le_of_eq rfl) (hb hby d1_6) (fun _ _ => ⟨rfl, e0, (by decide : 0 + 2 ≤ _), (by decide : 0 + 9 ≤ _)⟩)
  dsimp only [Pt.U, Pt.locs, Pt.cells, Pt.slots] at X5 lp5 yp5 zp5 st5 hQ5
  subst lp5 yp5 zp5
  obtain ⟨rfl, Nq5, Kq5, t1, k1, cd, N_, vs, g5, fc5, fv5, av5, hspl⟩ := hQ5
  have N5 := Fr.app N0 Nq5
  obtain ⟨h5, e5⟩ : ∃ z, T5.heap = z := ⟨_, rfl⟩
  rw [e5] at Kq5 fc5 fv5 av5
  have z5 : h0.size ≤ h5.size := Kq5.1
  have K5 := (Keep.refl h0 [a1]).trans Kq5 (allS (Or.inl (List.mem_of_getElem? (i := 0) rfl)) all0)
  have c6 : SS p e below B0 T5 m 9 #[.val (.ref a1), .val (.ref r)] [] := st5
  obtain ⟨fs, hr, hrun, hended, hW, hsame⟩ := X5.leave (v := none) (fun _ => rfl)
  subst hB0
  refine ⟨_, _, Steps.trans c6 ?_, hrun, hended, _, _, rfl, ?_, ⟨_, rfl⟩, hW, hsame.mono (by decide) (by decide)⟩
  · exact X5.returnOut hx Bd.returns (hb hby d1_9) hr
  · show QS3 Z a1 c0' c1' c2' h0 n0 _ T5.heap _
    rw [e5]
    exact ⟨rfl, N5, K5, t1, k1, cd, N_, vs, g5, fc5, fv5, av5, hspl⟩
def QPcN (p1 : Int32) (h0 : Heap) (n0 : Nat) (v : Option Value) (h : Heap) (L : List Loc) : Prop := v = some (.int p1) ∧ Fr n0 L ∧ h = h0
set_option maxRecDepth 65536 in
set_option maxHeartbeats 40000000 in
theorem rmPcN (l : Launch) (Z : State) (a0 : Array Value) (hw : ∀ d ∈ tables_1, d.before a0 Z = true) (ws : List Jvm.Cond) (p1 p2 : Int32) (h0 : Heap) (n0 : Nat) (Z0 : n0 ≤ h0.size) (hp1 : ¬ p1 < (0 : Int32)) (hp2 : p1 < p2) :
    MetFree l (⟨"jdk/internal/util/Preconditions", "checkIndex", "(IILjava/util/function/BiFunction;)I"⟩ : MethodName) (head1 (Jvm.Cond.code (⟨"jdk/internal/util/Preconditions", "checkIndex", "(IILjava/util/function/BiFunction;)I"⟩ : MethodName) jdk_41_method_11_code 3 (some .int) :: ws) ({ frames := 0, cells := 0, slots := 0, locals := 0 } : Room)) (fun a U => a = #[(.int p1), (.int p2), .null] ∧ Z.Warmed39 U.vm ∧ U.heap = h0) (fun _ _ _ _ _ => True) (fun _ U o U' => ∃ v L, o = .returned v ∧ QPcN p1 h0 n0 v U'.heap L ∧ FrameEnd U o U' L ({ frames := 0, cells := 0, slots := 0, locals := 0 } : Room).cells ({ frames := 0, cells := 0, slots := 0, locals := 0 } : Room).slots) := by
  refine MetFree.of_bodySF (plainFor_of_name pn_jdk_internal_util_Preconditions) hisR ?_
  intro p e s m args below meth c s₁ Bd hml0 hP hK
  obtain ⟨rfl, hZ, hh⟩ := hP
  have hx := Bd.exec
  have hby := Bd.bytes
  have hml : c.maxLocals = 3 := hml0
  have hown : s.vm.findClass "jdk/internal/util/Preconditions" = some m.cls := findClass_of_methodNamed Bd.named
  have hnm := (name_of_methodNamed Bd.named Bd.method).1
  have X0 : Stand p l e ({ frames := 0, cells := 0, slots := 0, locals := 0 } : Room) s m #[(.int p1), (.int p2), .null] below meth c s₁ [] 0 0 := Stand.of_body Bd
  have e0 : s₁.heap = h0 := by rw [← hh, Bd.state]; rfl
  have N0 := Fr.nil n0
  obtain ⟨B0, c0, hB0⟩ : ∃ B0, Steps p.tables e below B0 (s₁.setTop (mkF m 0 #[.val (.int p1), .val (.int p2), .val .null] [])) ∧ B0 = s₁.setTop (entryFrame m #[(.int p1), (.int p2), .null] 3) := ⟨_, castTop (ef_IIN_3 m p1 p2) (Steps.refl _), rfl⟩
  have c1 : SS p e below B0 s₁ m 17 #[.val (.int p1), .val (.int p2), .val .null] [(.int p1)] := Steps.trans c0 (by
      refine XS.iloadN X0.here hx rfl (hb hby d14_0) rfl ?_
      refine XS.ifNo X0.here hx rfl (hb hby d14_1) rfl ((if0 _ _).trans (flt hp1).1) ?_
      refine XS.iloadN X0.here hx rfl (hb hby d14_4) rfl ?_
      refine XS.iloadN X0.here hx rfl (hb hby d14_5) rfl ?_
      refine XS.icmpYes X0.here hx rfl (pc0 := 6) (pc' := 16) rfl (hb hby d14_6) rfl (tlt hp2).1 (by decide) (by decide) ?_
      refine XS.iloadN X0.here hx rfl (hb hby d14_16) rfl ?_
      exact Steps.refl _)
  obtain ⟨fs, hr, hrun, hended, hW, hsame⟩ := X0.leave (v := some (.int p1)) (fun h => by rw [Bd.returns] at h; cases h)
  subst hB0
  refine ⟨_, _, Steps.trans c1 ?_, hrun, hended, _, _, rfl, ?_, ⟨_, rfl⟩, hW, hsame.mono (by decide) (by decide)⟩
  · exact retI X0 hx Bd.returns (hb hby d14_17) hr
  · show QPcN p1 h0 n0 _ s₁.heap _
    rw [e0]
    exact ⟨rfl, N0, rfl⟩
def QPcR (p1 : Int32) (h0 : Heap) (n0 : Nat) (v : Option Value) (h : Heap) (L : List Loc) : Prop := v = some (.int p1) ∧ Fr n0 L ∧ h = h0
set_option maxRecDepth 65536 in
set_option maxHeartbeats 40000000 in
theorem rmPcR (l : Launch) (Z : State) (a0 : Array Value) (hw : ∀ d ∈ tables_1, d.before a0 Z = true) (ws : List Jvm.Cond) (p1 p2 : Int32) (a3 : Addr) (h0 : Heap) (n0 : Nat) (Z0 : n0 ≤ h0.size) (hp1 : ¬ p1 < (0 : Int32)) (hp2 : p1 < p2) :
    MetFree l (⟨"jdk/internal/util/Preconditions", "checkIndex", "(IILjava/util/function/BiFunction;)I"⟩ : MethodName) (head1 (Jvm.Cond.code (⟨"jdk/internal/util/Preconditions", "checkIndex", "(IILjava/util/function/BiFunction;)I"⟩ : MethodName) jdk_41_method_11_code 3 (some .int) :: ws) ({ frames := 0, cells := 0, slots := 0, locals := 0 } : Room)) (fun a U => a = #[(.int p1), (.int p2), (.ref a3)] ∧ Z.Warmed39 U.vm ∧ U.heap = h0) (fun _ _ _ _ _ => True) (fun _ U o U' => ∃ v L, o = .returned v ∧ QPcR p1 h0 n0 v U'.heap L ∧ FrameEnd U o U' L ({ frames := 0, cells := 0, slots := 0, locals := 0 } : Room).cells ({ frames := 0, cells := 0, slots := 0, locals := 0 } : Room).slots) := by
  refine MetFree.of_bodySF (plainFor_of_name pn_jdk_internal_util_Preconditions) hisR ?_
  intro p e s m args below meth c s₁ Bd hml0 hP hK
  obtain ⟨rfl, hZ, hh⟩ := hP
  have hx := Bd.exec
  have hby := Bd.bytes
  have hml : c.maxLocals = 3 := hml0
  have hown : s.vm.findClass "jdk/internal/util/Preconditions" = some m.cls := findClass_of_methodNamed Bd.named
  have hnm := (name_of_methodNamed Bd.named Bd.method).1
  have X0 : Stand p l e ({ frames := 0, cells := 0, slots := 0, locals := 0 } : Room) s m #[(.int p1), (.int p2), (.ref a3)] below meth c s₁ [] 0 0 := Stand.of_body Bd
  have e0 : s₁.heap = h0 := by rw [← hh, Bd.state]; rfl
  have N0 := Fr.nil n0
  obtain ⟨B0, c0, hB0⟩ : ∃ B0, Steps p.tables e below B0 (s₁.setTop (mkF m 0 #[.val (.int p1), .val (.int p2), .val (.ref a3)] [])) ∧ B0 = s₁.setTop (entryFrame m #[(.int p1), (.int p2), (.ref a3)] 3) := ⟨_, castTop (ef_IIR_3 m p1 p2 a3) (Steps.refl _), rfl⟩
  have c1 : SS p e below B0 s₁ m 17 #[.val (.int p1), .val (.int p2), .val (.ref a3)] [(.int p1)] := Steps.trans c0 (by
      refine XS.iloadN X0.here hx rfl (hb hby d14_0) rfl ?_
      refine XS.ifNo X0.here hx rfl (hb hby d14_1) rfl ((if0 _ _).trans (flt hp1).1) ?_
      refine XS.iloadN X0.here hx rfl (hb hby d14_4) rfl ?_
      refine XS.iloadN X0.here hx rfl (hb hby d14_5) rfl ?_
      refine XS.icmpYes X0.here hx rfl (pc0 := 6) (pc' := 16) rfl (hb hby d14_6) rfl (tlt hp2).1 (by decide) (by decide) ?_
      refine XS.iloadN X0.here hx rfl (hb hby d14_16) rfl ?_
      exact Steps.refl _)
  obtain ⟨fs, hr, hrun, hended, hW, hsame⟩ := X0.leave (v := some (.int p1)) (fun h => by rw [Bd.returns] at h; cases h)
  subst hB0
  refine ⟨_, _, Steps.trans c1 ?_, hrun, hended, _, _, rfl, ?_, ⟨_, rfl⟩, hW, hsame.mono (by decide) (by decide)⟩
  · exact retI X0 hx Bd.returns (hb hby d14_17) hr
  · show QPcR p1 h0 n0 _ s₁.heap _
    rw [e0]
    exact ⟨rfl, N0, rfl⟩
def QCk (h0 : Heap) (n0 : Nat) (v : Option Value) (h : Heap) (L : List Loc) : Prop := v = none ∧ Fr n0 L ∧ h = h0
set_option maxRecDepth 65536 in
set_option maxHeartbeats 40000000 in
theorem rmCk (l : Launch) (Z : State) (a0 : Array Value) (hw : ∀ d ∈ tables_1, d.before a0 Z = true) (ws : List Jvm.Cond) (p1 p2 : Int32) (G3 : Value) (h0 : Heap) (n0 : Nat) (Z0 : n0 ≤ h0.size) (hp1 : ¬ p1 < (0 : Int32)) (hp2 : p1 < p2) (O4 : Sta Z Z.heap "jdk/internal/util/Preconditions" "SIOOBE_FORMATTER" "Ljava/util/function/BiFunction;" G3) (rG3 : G3.isRef = true) (X00 : Old Z n0 h0) :
    MetFree l (⟨"java/lang/String", "checkIndex", "(II)V"⟩ : MethodName) (head1 (Jvm.Cond.code (⟨"java/lang/String", "checkIndex", "(II)V"⟩ : MethodName) jdk_42_method_155_code 2 none :: ws) ({ frames := 1, cells := 0, slots := 0, locals := 14 } : Room)) (fun a U => a = #[(.int p1), (.int p2)] ∧ Z.Warmed39 U.vm ∧ U.heap = h0) (fun _ _ _ _ _ => True) (fun _ U o U' => ∃ v L, o = .returned v ∧ QCk h0 n0 v U'.heap L ∧ FrameEnd U o U' L ({ frames := 1, cells := 0, slots := 0, locals := 14 } : Room).cells ({ frames := 1, cells := 0, slots := 0, locals := 14 } : Room).slots) := by
  refine MetFree.of_bodySF (plainFor_of_name pn_java_lang_String) hisR ?_
  intro p e s m args below meth c s₁ Bd hml0 hP hK
  obtain ⟨rfl, hZ, hh⟩ := hP
  have hx := Bd.exec
  have hby := Bd.bytes
  have hml : c.maxLocals = 2 := hml0
  have hown : s.vm.findClass "java/lang/String" = some m.cls := findClass_of_methodNamed Bd.named
  have hnm := (name_of_methodNamed Bd.named Bd.method).1
  have X0 : Stand p l e ({ frames := 1, cells := 0, slots := 0, locals := 14 } : Room) s m #[(.int p1), (.int p2)] below meth c s₁ [] 0 0 := Stand.of_body Bd
  have e0 : s₁.heap = h0 := by rw [← hh, Bd.state]; rfl
  have N0 := Fr.nil n0
  obtain ⟨B0, c0, hB0⟩ : ∃ B0, Steps p.tables e below B0 (s₁.setTop (mkF m 0 #[.val (.int p1), .val (.int p2)] [])) ∧ B0 = s₁.setTop (entryFrame m #[(.int p1), (.int p2)] 2) := ⟨_, castTop (ef_II_2 m p1 p2) (Steps.refl _), rfl⟩
  have c1 : SS p e below B0 s₁ m 2 #[.val (.int p1), .val (.int p2)] [(.int p2), (.int p1)] := Steps.trans c0 (by
      refine XS.iloadN X0.here hx rfl (hb hby d15_0) rfl ?_
      refine XS.iloadN X0.here hx rfl (hb hby d15_1) rfl ?_
      exact Steps.refl _)
  rcases ref_cases rG3 with rfl | ⟨g3, rfl⟩
  · have hdummy := Z0
    obtain ⟨T2, X2, e2, st2⟩ := getS X0 hx hZ (host := "") hown (W hw 88) Via.refl e0 (O4.ext X00.2) (g := (mkF m 2 #[.val (.int p1), .val (.int p2)] [(.int p2), (.int p1)])) rfl (hb hby d15_2)
    have c3 : SS p e below B0 T2 m 5 #[.val (.int p1), .val (.int p2)] [.null, (.int p2), (.int p1)] := Steps.trans c1 (st2 _ (Steps.refl _))
    obtain ⟨_, _, ⟨T4, Lp4, kp4, np4⟩, -, X4, ⟨Lc4, hQ4, lp4, yp4, zp4⟩, st4⟩ := Jvm.LawKit.callS X2 hx (y := (⟨"jdk/internal/util/Preconditions", "checkIndex", "(IILjava/util/function/BiFunction;)I"⟩ : MethodName)) hown (mvT hZ (W hw 90)) (mvT hZ (W hw 91)) (mvT hZ (W hw 89)) (mvT hZ (W hw 92)) (by decide) (backOf (W := 0) (rmPcN l Z a0 hw [] p1 p2  h0 n0 (by omega) hp1 hp2) hZ (W hw 92) (W hw 89) (by decide) (by decide)) (g := (mkF m 5 #[.val (.int p1), .val (.int p2)] [.null, (.int p2), (.int p1)])) rfl (by rw [hml]; rfl) (argsL := [(.int p1), (.int p2), .null]) (rest := []) (lenOf pd__IILjava_util_function_BiFunction__I rfl) rfl (by show 2 * 0 + _ ≤ _; exact Nat.le_of_eq rfl) (hb hby d15_5) (fun _ _ => ⟨rfl, e2, (by decide : 0 + 0 ≤ _), (by decide : 0 + 0 ≤ _)⟩)
    dsimp only [Pt.U, Pt.locs, Pt.cells, Pt.slots] at X4 lp4 yp4 zp4 st4 hQ4
    subst lp4 yp4 zp4
    obtain ⟨rfl, Nq4, eq4⟩ := hQ4
    have N4 := Fr.app N0 Nq4
    have c5 : SS p e below B0 T4 m 8 #[.val (.int p1), .val (.int p2)] [(.int p1)] := Steps.trans c3 (st4 _ (Steps.refl _))
    have c6 : SS p e below B0 T4 m 9 #[.val (.int p1), .val (.int p2)] [] := Steps.trans c5 (by
        refine XS.pop X4.here hx rfl (hb hby d15_8) rfl rfl ?_
        exact Steps.refl _)
    obtain ⟨fs, hr, hrun, hended, hW, hsame⟩ := X4.leave (v := none) (fun _ => rfl)
    subst hB0
    refine ⟨_, _, Steps.trans c6 ?_, hrun, hended, _, _, rfl, ?_, ⟨_, rfl⟩, hW, hsame.mono (by decide) (by decide)⟩
    · exact X4.returnOut hx Bd.returns (hb hby d15_9) hr
    · show QCk h0 n0 _ T4.heap _
      rw [eq4]
      exact ⟨rfl, N4, rfl⟩
  · have hdummy := Z0
    obtain ⟨T2, X2, e2, st2⟩ := getS X0 hx hZ (host := "") hown (W hw 88) Via.refl e0 (O4.ext X00.2) (g := (mkF m 2 #[.val (.int p1), .val (.int p2)] [(.int p2), (.int p1)])) rfl (hb hby d15_2)
    have c3 : SS p e below B0 T2 m 5 #[.val (.int p1), .val (.int p2)] [(.ref g3), (.int p2), (.int p1)] := Steps.trans c1 (st2 _ (Steps.refl _))
    obtain ⟨_, _, ⟨T4, Lp4, kp4, np4⟩, -, X4, ⟨Lc4, hQ4, lp4, yp4, zp4⟩, st4⟩ := Jvm.LawKit.callS X2 hx (y := (⟨"jdk/internal/util/Preconditions", "checkIndex", "(IILjava/util/function/BiFunction;)I"⟩ : MethodName)) hown (mvT hZ (W hw 90)) (mvT hZ (W hw 91)) (mvT hZ (W hw 89)) (mvT hZ (W hw 92)) (by decide) (backOf (W := 0) (rmPcR l Z a0 hw [] p1 p2 g3 h0 n0 (by omega) hp1 hp2) hZ (W hw 92) (W hw 89) (by decide) (by decide)) (g := (mkF m 5 #[.val (.int p1), .val (.int p2)] [(.ref g3), (.int p2), (.int p1)])) rfl (by rw [hml]; rfl) (argsL := [(.int p1), (.int p2), (.ref g3)]) (rest := []) (lenOf pd__IILjava_util_function_BiFunction__I rfl) rfl (by show 2 * 0 + _ ≤ _; exact Nat.le_of_eq rfl) (hb hby d15_5) (fun _ _ => ⟨rfl, e2, (by decide : 0 + 0 ≤ _), (by decide : 0 + 0 ≤ _)⟩)
    dsimp only [Pt.U, Pt.locs, Pt.cells, Pt.slots] at X4 lp4 yp4 zp4 st4 hQ4
    subst lp4 yp4 zp4
    obtain ⟨rfl, Nq4, eq4⟩ := hQ4
    have N4 := Fr.app N0 Nq4
    have c5 : SS p e below B0 T4 m 8 #[.val (.int p1), .val (.int p2)] [(.int p1)] := Steps.trans c3 (st4 _ (Steps.refl _))
    have c6 : SS p e below B0 T4 m 9 #[.val (.int p1), .val (.int p2)] [] := Steps.trans c5 (by
        refine XS.pop X4.here hx rfl (hb hby d15_8) rfl rfl ?_
        exact Steps.refl _)
    obtain ⟨fs, hr, hrun, hended, hW, hsame⟩ := X4.leave (v := none) (fun _ => rfl)
    subst hB0
    refine ⟨_, _, Steps.trans c6 ?_, hrun, hended, _, _, rfl, ?_, ⟨_, rfl⟩, hW, hsame.mono (by decide) (by decide)⟩
    · exact X4.returnOut hx Bd.returns (hb hby d15_9) hr
    · show QCk h0 n0 _ T4.heap _
      rw [eq4]
      exact ⟨rfl, N4, rfl⟩
def QCdr0 (h0 : Heap) (n0 : Nat) (v : Option Value) (h : Heap) (L : List Loc) : Prop := v = some (.int (0 : Int32)) ∧ Fr n0 L ∧ h = h0
set_option maxRecDepth 65536 in
set_option maxHeartbeats 40000000 in
theorem rmCdr0 (l : Launch) (Z : State) (a0 : Array Value) (hw : ∀ d ∈ tables_1, d.before a0 Z = true) (ws : List Jvm.Cond) (a1 : Addr) (G1 : Int32) (h0 : Heap) (n0 : Nat) (Z0 : n0 ≤ h0.size) (C1 : Fld Z h0 a1 "java/lang/String" "coder" "B" (.int (0 : Int32))) (O2 : Sta Z Z.heap "java/lang/String" "COMPACT_STRINGS" "Z" (.int G1)) (P5 : ¬ (G1 = (0 : Int32))) (X00 : Old Z n0 h0) :
    MetFree l (⟨"java/lang/String", "coder", "()B"⟩ : MethodName) (head1 (Jvm.Cond.code (⟨"java/lang/String", "coder", "()B"⟩ : MethodName) jdk_42_method_152_code 1 (some .byte) :: ws) ({ frames := 0, cells := 0, slots := 0, locals := 0 } : Room)) (fun a U => a = #[(.ref a1)] ∧ Z.Warmed39 U.vm ∧ U.heap = h0) (fun _ _ _ _ _ => True) (fun _ U o U' => ∃ v L, o = .returned v ∧ QCdr0 h0 n0 v U'.heap L ∧ FrameEnd U o U' L ({ frames := 0, cells := 0, slots := 0, locals := 0 } : Room).cells ({ frames := 0, cells := 0, slots := 0, locals := 0 } : Room).slots) := by
  refine MetFree.of_bodySF (plainFor_of_name pn_java_lang_String) hisR ?_
  intro p e s m args below meth c s₁ Bd hml0 hP hK
  obtain ⟨rfl, hZ, hh⟩ := hP
  have hx := Bd.exec
  have hby := Bd.bytes
  have hml : c.maxLocals = 1 := hml0
  have hown : s.vm.findClass "java/lang/String" = some m.cls := findClass_of_methodNamed Bd.named
  have hnm := (name_of_methodNamed Bd.named Bd.method).1
  have X0 : Stand p l e ({ frames := 0, cells := 0, slots := 0, locals := 0 } : Room) s m #[(.ref a1)] below meth c s₁ [] 0 0 := Stand.of_body Bd
  have e0 : s₁.heap = h0 := by rw [← hh, Bd.state]; rfl
  have N0 := Fr.nil n0
  obtain ⟨B0, c0, hB0⟩ : ∃ B0, Steps p.tables e below B0 (s₁.setTop (mkF m 0 #[.val (.ref a1)] [])) ∧ B0 = s₁.setTop (entryFrame m #[(.ref a1)] 1) := ⟨_, castTop (ef_R_1 m a1) (Steps.refl _), rfl⟩
  obtain ⟨T1, X1, e1, st1⟩ := getS X0 hx hZ (host := "") hown (W hw 30) Via.refl e0 (O2.ext X00.2) (g := (mkF m 0 #[.val (.ref a1)] [])) rfl (hb hby d16_0)
  have c2 : SS p e below B0 T1 m 3 #[.val (.ref a1)] [(.int G1)] := Steps.trans c0 (st1 _ (Steps.refl _))
  have c3 : SS p e below B0 T1 m 7 #[.val (.ref a1)] [(.ref a1)] := Steps.trans c2 (by
      refine XS.ifNo X1.here hx rfl (hb hby d16_3) rfl ((if0 _ _).trans (feq P5).1) ?_
      refine XS.aloadN X1.here hx rfl (hb hby d16_6) rfl rfl ?_
      exact Steps.refl _)
  obtain ⟨T4, X4, e4, st4⟩ := getF X1 hx hZ hown (host := "") (Or.inl (W hw 26)) Via.refl e1 C1 (g := (mkF m 7 #[.val (.ref a1)] [(.ref a1)])) rfl rfl (hb hby d16_7)
  have c5 : SS p e below B0 T4 m 10 #[.val (.ref a1)] [(.int (0 : Int32))] := Steps.trans c3 (st4 _ (Steps.refl _))
  have c6 : SS p e below B0 T4 m 14 #[.val (.ref a1)] [(.int (0 : Int32))] := Steps.trans c5 (by
      refine XS.goto X4.here hx rfl (pc0 := 10) (pc' := 14) rfl (hb hby d16_10) (by decide) (by decide) ?_
      exact Steps.refl _)
  obtain ⟨fs, hr, hrun, hended, hW, hsame⟩ := X4.leave (v := some (.int (0 : Int32))) (fun h => by rw [Bd.returns] at h; cases h)
  subst hB0
  refine ⟨_, _, Steps.trans c6 ?_, hrun, hended, _, _, rfl, ?_, ⟨_, rfl⟩, hW, hsame.mono (by decide) (by decide)⟩
  · exact retN X4 hx (t := .byte) Bd.returns (by simp) (hb hby d16_14) hr
  · show QCdr0 h0 n0 _ T4.heap _
    rw [e4]
    exact ⟨rfl, N0, rfl⟩
def QIsL0 (h0 : Heap) (n0 : Nat) (v : Option Value) (h : Heap) (L : List Loc) : Prop := v = some (.int (1 : Int32)) ∧ Fr n0 L ∧ h = h0
set_option maxRecDepth 65536 in
set_option maxHeartbeats 40000000 in
theorem rmIsL0 (l : Launch) (Z : State) (a0 : Array Value) (hw : ∀ d ∈ tables_1, d.before a0 Z = true) (ws : List Jvm.Cond) (a1 : Addr) (G1 : Int32) (h0 : Heap) (n0 : Nat) (Z0 : n0 ≤ h0.size) (C1 : Fld Z h0 a1 "java/lang/String" "coder" "B" (.int (0 : Int32))) (O2 : Sta Z Z.heap "java/lang/String" "COMPACT_STRINGS" "Z" (.int G1)) (P5 : ¬ (G1 = (0 : Int32))) (X00 : Old Z n0 h0) :
    MetFree l (⟨"java/lang/String", "isLatin1", "()Z"⟩ : MethodName) (head1 (Jvm.Cond.code (⟨"java/lang/String", "isLatin1", "()Z"⟩ : MethodName) jdk_42_method_154_code 1 (some .boolean) :: ws) ({ frames := 0, cells := 0, slots := 0, locals := 0 } : Room)) (fun a U => a = #[(.ref a1)] ∧ Z.Warmed39 U.vm ∧ U.heap = h0) (fun _ _ _ _ _ => True) (fun _ U o U' => ∃ v L, o = .returned v ∧ QIsL0 h0 n0 v U'.heap L ∧ FrameEnd U o U' L ({ frames := 0, cells := 0, slots := 0, locals := 0 } : Room).cells ({ frames := 0, cells := 0, slots := 0, locals := 0 } : Room).slots) := by
  refine MetFree.of_bodySF (plainFor_of_name pn_java_lang_String) hisR ?_
  intro p e s m args below meth c s₁ Bd hml0 hP hK
  obtain ⟨rfl, hZ, hh⟩ := hP
  have hx := Bd.exec
  have hby := Bd.bytes
  have hml : c.maxLocals = 1 := hml0
  have hown : s.vm.findClass "java/lang/String" = some m.cls := findClass_of_methodNamed Bd.named
  have hnm := (name_of_methodNamed Bd.named Bd.method).1
  have X0 : Stand p l e ({ frames := 0, cells := 0, slots := 0, locals := 0 } : Room) s m #[(.ref a1)] below meth c s₁ [] 0 0 := Stand.of_body Bd
  have e0 : s₁.heap = h0 := by rw [← hh, Bd.state]; rfl
  have N0 := Fr.nil n0
  obtain ⟨B0, c0, hB0⟩ : ∃ B0, Steps p.tables e below B0 (s₁.setTop (mkF m 0 #[.val (.ref a1)] [])) ∧ B0 = s₁.setTop (entryFrame m #[(.ref a1)] 1) := ⟨_, castTop (ef_R_1 m a1) (Steps.refl _), rfl⟩
  obtain ⟨T1, X1, e1, st1⟩ := getS X0 hx hZ (host := "") hown (W hw 30) Via.refl e0 (O2.ext X00.2) (g := (mkF m 0 #[.val (.ref a1)] [])) rfl (hb hby d17_0)
  have c2 : SS p e below B0 T1 m 3 #[.val (.ref a1)] [(.int G1)] := Steps.trans c0 (st1 _ (Steps.refl _))
  have c3 : SS p e below B0 T1 m 7 #[.val (.ref a1)] [(.ref a1)] := Steps.trans c2 (by
      refine XS.ifNo X1.here hx rfl (hb hby d17_3) rfl ((if0 _ _).trans (feq P5).1) ?_
      refine XS.aloadN X1.here hx rfl (hb hby d17_6) rfl rfl ?_
      exact Steps.refl _)
  obtain ⟨T4, X4, e4, st4⟩ := getF X1 hx hZ hown (host := "") (Or.inl (W hw 26)) Via.refl e1 C1 (g := (mkF m 7 #[.val (.ref a1)] [(.ref a1)])) rfl rfl (hb hby d17_7)
  have c5 : SS p e below B0 T4 m 10 #[.val (.ref a1)] [(.int (0 : Int32))] := Steps.trans c3 (st4 _ (Steps.refl _))
  have c6 : SS p e below B0 T4 m 18 #[.val (.ref a1)] [(.int (1 : Int32))] := Steps.trans c5 (by
      refine XS.ifNo X4.here hx rfl (hb hby d17_10) rfl ((if0 _ _).trans (teq (by decide : (0 : Int32) = (0 : Int32))).2) ?_
      refine XT.iconstV X4.here hx rfl (1 : Int32) (hb hby d17_13) (by decide) ?_
      refine XS.goto X4.here hx rfl (pc0 := 14) (pc' := 18) rfl (hb hby d17_14) (by decide) (by decide) ?_
      exact Steps.refl _)
  obtain ⟨fs, hr, hrun, hended, hW, hsame⟩ := X4.leave (v := some (.int (1 : Int32))) (fun h => by rw [Bd.returns] at h; cases h)
  subst hB0
  refine ⟨_, _, Steps.trans c6 ?_, hrun, hended, _, _, rfl, ?_, ⟨_, rfl⟩, hW, hsame.mono (by decide) (by decide)⟩
  · exact retN X4 hx (t := .boolean) Bd.returns (by simp) (hb hby d17_18) hr
  · show QIsL0 h0 n0 _ T4.heap _
    rw [e4]
    exact ⟨rfl, N0, rfl⟩
def QCdr1 (h0 : Heap) (n0 : Nat) (v : Option Value) (h : Heap) (L : List Loc) : Prop := v = some (.int (1 : Int32)) ∧ Fr n0 L ∧ h = h0
set_option maxRecDepth 65536 in
set_option maxHeartbeats 40000000 in
theorem rmCdr1 (l : Launch) (Z : State) (a0 : Array Value) (hw : ∀ d ∈ tables_1, d.before a0 Z = true) (ws : List Jvm.Cond) (a1 : Addr) (G1 : Int32) (h0 : Heap) (n0 : Nat) (Z0 : n0 ≤ h0.size) (C1 : Fld Z h0 a1 "java/lang/String" "coder" "B" (.int (1 : Int32))) (O2 : Sta Z Z.heap "java/lang/String" "COMPACT_STRINGS" "Z" (.int G1)) (P5 : ¬ (G1 = (0 : Int32))) (X00 : Old Z n0 h0) :
    MetFree l (⟨"java/lang/String", "coder", "()B"⟩ : MethodName) (head1 (Jvm.Cond.code (⟨"java/lang/String", "coder", "()B"⟩ : MethodName) jdk_42_method_152_code 1 (some .byte) :: ws) ({ frames := 0, cells := 0, slots := 0, locals := 0 } : Room)) (fun a U => a = #[(.ref a1)] ∧ Z.Warmed39 U.vm ∧ U.heap = h0) (fun _ _ _ _ _ => True) (fun _ U o U' => ∃ v L, o = .returned v ∧ QCdr1 h0 n0 v U'.heap L ∧ FrameEnd U o U' L ({ frames := 0, cells := 0, slots := 0, locals := 0 } : Room).cells ({ frames := 0, cells := 0, slots := 0, locals := 0 } : Room).slots) := by
  refine MetFree.of_bodySF (plainFor_of_name pn_java_lang_String) hisR ?_
  intro p e s m args below meth c s₁ Bd hml0 hP hK
  obtain ⟨rfl, hZ, hh⟩ := hP
  have hx := Bd.exec
  have hby := Bd.bytes
  have hml : c.maxLocals = 1 := hml0
  have hown : s.vm.findClass "java/lang/String" = some m.cls := findClass_of_methodNamed Bd.named
  have hnm := (name_of_methodNamed Bd.named Bd.method).1
  have X0 : Stand p l e ({ frames := 0, cells := 0, slots := 0, locals := 0 } : Room) s m #[(.ref a1)] below meth c s₁ [] 0 0 := Stand.of_body Bd
  have e0 : s₁.heap = h0 := by rw [← hh, Bd.state]; rfl
  have N0 := Fr.nil n0
  obtain ⟨B0, c0, hB0⟩ : ∃ B0, Steps p.tables e below B0 (s₁.setTop (mkF m 0 #[.val (.ref a1)] [])) ∧ B0 = s₁.setTop (entryFrame m #[(.ref a1)] 1) := ⟨_, castTop (ef_R_1 m a1) (Steps.refl _), rfl⟩
  obtain ⟨T1, X1, e1, st1⟩ := getS X0 hx hZ (host := "") hown (W hw 30) Via.refl e0 (O2.ext X00.2) (g := (mkF m 0 #[.val (.ref a1)] [])) rfl (hb hby d16_0)
  have c2 : SS p e below B0 T1 m 3 #[.val (.ref a1)] [(.int G1)] := Steps.trans c0 (st1 _ (Steps.refl _))
  have c3 : SS p e below B0 T1 m 7 #[.val (.ref a1)] [(.ref a1)] := Steps.trans c2 (by
      refine XS.ifNo X1.here hx rfl (hb hby d16_3) rfl ((if0 _ _).trans (feq P5).1) ?_
      refine XS.aloadN X1.here hx rfl (hb hby d16_6) rfl rfl ?_
      exact Steps.refl _)
  obtain ⟨T4, X4, e4, st4⟩ := getF X1 hx hZ hown (host := "") (Or.inl (W hw 26)) Via.refl e1 C1 (g := (mkF m 7 #[.val (.ref a1)] [(.ref a1)])) rfl rfl (hb hby d16_7)
  have c5 : SS p e below B0 T4 m 10 #[.val (.ref a1)] [(.int (1 : Int32))] := Steps.trans c3 (st4 _ (Steps.refl _))
  have c6 : SS p e below B0 T4 m 14 #[.val (.ref a1)] [(.int (1 : Int32))] := Steps.trans c5 (by
      refine XS.goto X4.here hx rfl (pc0 := 10) (pc' := 14) rfl (hb hby d16_10) (by decide) (by decide) ?_
      exact Steps.refl _)
  obtain ⟨fs, hr, hrun, hended, hW, hsame⟩ := X4.leave (v := some (.int (1 : Int32))) (fun h => by rw [Bd.returns] at h; cases h)
  subst hB0
  refine ⟨_, _, Steps.trans c6 ?_, hrun, hended, _, _, rfl, ?_, ⟨_, rfl⟩, hW, hsame.mono (by decide) (by decide)⟩
  · exact retN X4 hx (t := .byte) Bd.returns (by simp) (hb hby d16_14) hr
  · show QCdr1 h0 n0 _ T4.heap _
    rw [e4]
    exact ⟨rfl, N0, rfl⟩
def QIsL1 (h0 : Heap) (n0 : Nat) (v : Option Value) (h : Heap) (L : List Loc) : Prop := v = some (.int (0 : Int32)) ∧ Fr n0 L ∧ h = h0
set_option maxRecDepth 65536 in
set_option maxHeartbeats 40000000 in
theorem rmIsL1 (l : Launch) (Z : State) (a0 : Array Value) (hw : ∀ d ∈ tables_1, d.before a0 Z = true) (ws : List Jvm.Cond) (a1 : Addr) (G1 : Int32) (h0 : Heap) (n0 : Nat) (Z0 : n0 ≤ h0.size) (C1 : Fld Z h0 a1 "java/lang/String" "coder" "B" (.int (1 : Int32))) (O2 : Sta Z Z.heap "java/lang/String" "COMPACT_STRINGS" "Z" (.int G1)) (P5 : ¬ (G1 = (0 : Int32))) (X00 : Old Z n0 h0) :
    MetFree l (⟨"java/lang/String", "isLatin1", "()Z"⟩ : MethodName) (head1 (Jvm.Cond.code (⟨"java/lang/String", "isLatin1", "()Z"⟩ : MethodName) jdk_42_method_154_code 1 (some .boolean) :: ws) ({ frames := 0, cells := 0, slots := 0, locals := 0 } : Room)) (fun a U => a = #[(.ref a1)] ∧ Z.Warmed39 U.vm ∧ U.heap = h0) (fun _ _ _ _ _ => True) (fun _ U o U' => ∃ v L, o = .returned v ∧ QIsL1 h0 n0 v U'.heap L ∧ FrameEnd U o U' L ({ frames := 0, cells := 0, slots := 0, locals := 0 } : Room).cells ({ frames := 0, cells := 0, slots := 0, locals := 0 } : Room).slots) := by
  refine MetFree.of_bodySF (plainFor_of_name pn_java_lang_String) hisR ?_
  intro p e s m args below meth c s₁ Bd hml0 hP hK
  obtain ⟨rfl, hZ, hh⟩ := hP
  have hx := Bd.exec
  have hby := Bd.bytes
  have hml : c.maxLocals = 1 := hml0
  have hown : s.vm.findClass "java/lang/String" = some m.cls := findClass_of_methodNamed Bd.named
  have hnm := (name_of_methodNamed Bd.named Bd.method).1
  have X0 : Stand p l e ({ frames := 0, cells := 0, slots := 0, locals := 0 } : Room) s m #[(.ref a1)] below meth c s₁ [] 0 0 := Stand.of_body Bd
  have e0 : s₁.heap = h0 := by rw [← hh, Bd.state]; rfl
  have N0 := Fr.nil n0
  obtain ⟨B0, c0, hB0⟩ : ∃ B0, Steps p.tables e below B0 (s₁.setTop (mkF m 0 #[.val (.ref a1)] [])) ∧ B0 = s₁.setTop (entryFrame m #[(.ref a1)] 1) := ⟨_, castTop (ef_R_1 m a1) (Steps.refl _), rfl⟩
  obtain ⟨T1, X1, e1, st1⟩ := getS X0 hx hZ (host := "") hown (W hw 30) Via.refl e0 (O2.ext X00.2) (g := (mkF m 0 #[.val (.ref a1)] [])) rfl (hb hby d17_0)
  have c2 : SS p e below B0 T1 m 3 #[.val (.ref a1)] [(.int G1)] := Steps.trans c0 (st1 _ (Steps.refl _))
  have c3 : SS p e below B0 T1 m 7 #[.val (.ref a1)] [(.ref a1)] := Steps.trans c2 (by
      refine XS.ifNo X1.here hx rfl (hb hby d17_3) rfl ((if0 _ _).trans (feq P5).1) ?_
      refine XS.aloadN X1.here hx rfl (hb hby d17_6) rfl rfl ?_
      exact Steps.refl _)
  obtain ⟨T4, X4, e4, st4⟩ := getF X1 hx hZ hown (host := "") (Or.inl (W hw 26)) Via.refl e1 C1 (g := (mkF m 7 #[.val (.ref a1)] [(.ref a1)])) rfl rfl (hb hby d17_7)
  have c5 : SS p e below B0 T4 m 10 #[.val (.ref a1)] [(.int (1 : Int32))] := Steps.trans c3 (st4 _ (Steps.refl _))
  have c6 : SS p e below B0 T4 m 18 #[.val (.ref a1)] [(.int (0 : Int32))] := Steps.trans c5 (by
      refine XS.ifYes X4.here hx rfl (pc0 := 10) (pc' := 17) rfl (hb hby d17_10) rfl ((if0 _ _).trans (feq (by decide : ¬ (1 : Int32) = (0 : Int32))).2) (by decide) (by decide) ?_
      refine XT.iconstV X4.here hx rfl (0 : Int32) (hb hby d17_17) (by decide) ?_
      exact Steps.refl _)
  obtain ⟨fs, hr, hrun, hended, hW, hsame⟩ := X4.leave (v := some (.int (0 : Int32))) (fun h => by rw [Bd.returns] at h; cases h)
  subst hB0
  refine ⟨_, _, Steps.trans c6 ?_, hrun, hended, _, _, rfl, ?_, ⟨_, rfl⟩, hW, hsame.mono (by decide) (by decide)⟩
  · exact retN X4 hx (t := .boolean) Bd.returns (by simp) (hb hby d17_18) hr
  · show QIsL1 h0 n0 _ T4.heap _
    rw [e4]
    exact ⟨rfl, N0, rfl⟩
def QLen1 (h0 : Heap) (n0 : Nat) (v : Option Value) (h : Heap) (L : List Loc) : Prop := v = some (.int (1 : Int32)) ∧ Fr n0 L ∧ h = h0
set_option maxRecDepth 65536 in
set_option maxHeartbeats 40000000 in
theorem rmLen1 (l : Launch) (Z : State) (a0 : Array Value) (hw : ∀ d ∈ tables_1, d.before a0 Z = true) (ws : List Jvm.Cond) (a1 t1 : Addr) (k1 : ClassId) (c0' : Int32) (cd N_ : Int32) (vs : List Value) (G1 : Int32) (h0 : Heap) (n0 : Nat) (Z0 : n0 ≤ h0.size) (E1 : Exa Z h0 a1 "java/lang/String") (V1 : Fld Z h0 a1 "java/lang/String" "value" "[B" (.ref t1)) (C1 : Fld Z h0 a1 "java/lang/String" "coder" "B" (.int cd)) (A1 : Arv Z h0 t1 k1 .byte N_ vs (.int (0 : Int32))) (spl : Spl1 c0' cd N_ vs) (O2 : Sta Z Z.heap "java/lang/String" "COMPACT_STRINGS" "Z" (.int G1)) (P5 : ¬ (G1 = (0 : Int32))) (X00 : Old Z n0 h0) :
    MetFree l (⟨"java/lang/String", "length", "()I"⟩ : MethodName) (head1 (Jvm.Cond.code (⟨"java/lang/String", "length", "()I"⟩ : MethodName) jdk_42_method_54_code 1 (some .int) :: ws) ({ frames := 1, cells := 0, slots := 0, locals := 13 } : Room)) (fun a U => a = #[(.ref a1)] ∧ Z.Warmed39 U.vm ∧ U.heap = h0) (fun _ _ _ _ _ => True) (fun _ U o U' => ∃ v L, o = .returned v ∧ QLen1 h0 n0 v U'.heap L ∧ FrameEnd U o U' L ({ frames := 1, cells := 0, slots := 0, locals := 13 } : Room).cells ({ frames := 1, cells := 0, slots := 0, locals := 13 } : Room).slots) := by
  refine MetFree.of_bodySF (plainFor_of_name pn_java_lang_String) hisR ?_
  intro p e s m args below meth c s₁ Bd hml0 hP hK
  obtain ⟨rfl, hZ, hh⟩ := hP
  have hx := Bd.exec
  have hby := Bd.bytes
  have hml : c.maxLocals = 1 := hml0
  have hown : s.vm.findClass "java/lang/String" = some m.cls := findClass_of_methodNamed Bd.named
  have hnm := (name_of_methodNamed Bd.named Bd.method).1
  have X0 : Stand p l e ({ frames := 1, cells := 0, slots := 0, locals := 13 } : Room) s m #[(.ref a1)] below meth c s₁ [] 0 0 := Stand.of_body Bd
  have e0 : s₁.heap = h0 := by rw [← hh, Bd.state]; rfl
  have N0 := Fr.nil n0
  obtain ⟨B0, c0, hB0⟩ : ∃ B0, Steps p.tables e below B0 (s₁.setTop (mkF m 0 #[.val (.ref a1)] [])) ∧ B0 = s₁.setTop (entryFrame m #[(.ref a1)] 1) := ⟨_, castTop (ef_R_1 m a1) (Steps.refl _), rfl⟩
  have lt_a1 : (@LT.lt Nat _ a1 h0.size) := E1.lt
  rcases spl with ⟨rfl, rfl, rfl, hl0⟩ | ⟨rfl, rfl, rfl⟩
  · have hdummy := Z0
    have c1 : SS p e below B0 s₁ m 1 #[.val (.ref a1)] [(.ref a1)] := Steps.trans c0 (by
        refine XS.aloadN X0.here hx rfl (hb hby d18_0) rfl rfl ?_
        exact Steps.refl _)
    obtain ⟨T2, X2, e2, st2⟩ := getF X0 hx hZ hown (host := "") (Or.inl (W hw 25)) Via.refl e0 V1 (g := (mkF m 1 #[.val (.ref a1)] [(.ref a1)])) rfl rfl (hb hby d18_1)
    have c3 : SS p e below B0 T2 m 4 #[.val (.ref a1)] [(.ref t1)] := Steps.trans c1 (st2 _ (Steps.refl _))
    obtain ⟨cl4, Ar4, q4, Sz4, M4, Hs4, U4⟩ := id A1
    have c5 : SS p e below B0 T2 m 5 #[.val (.ref a1)] [(.int (1 : Int32))] := Steps.trans c3 (by
        refine X2.arraylength hx (by rw [e2]; exact Ar4.1) (State.isArrayOf_alike hZ.alike Ar4.2.1) (g := (mkF m 4 #[.val (.ref a1)] [(.ref t1)])) rfl rfl (hb hby d18_4) _ ?_
        rw [len_of Sz4 M4]
        exact Steps.refl _)
    have c6 : SS p e below B0 T2 m 6 #[.val (.ref a1)] [(.ref a1), (.int (1 : Int32))] := Steps.trans c5 (by
        refine XS.aloadN X2.here hx rfl (hb hby d18_5) rfl rfl ?_
        exact Steps.refl _)
    obtain ⟨cq7, kq7, qa7, qb7, qc7⟩ := isOf hZ e2 E1
    obtain ⟨_, _, ⟨T7, Lp7, kp7, np7⟩, -, X7, ⟨Lc7, hQ7, lp7, yp7, zp7⟩, st7⟩ := X2.virtualBack hx (y := (⟨"java/lang/String", "coder", "()B"⟩ : MethodName)) (z := (⟨"java/lang/String", "coder", "()B"⟩ : MethodName)) hown (mvT hZ (W hw 52)) (mvT hZ (W hw 53)) (notFace_of_selects (args := #[]) (mvT hZ (W hw 55))) (mvT hZ (W hw 55)) (mvT hZ (W hw 54)) (by decide) (backOf (W := 1) (rmCdr0 l Z a0 hw [] a1 G1 h0 n0 (by omega) C1 O2 P5 X00) hZ (W hw 56) (W hw 8) (by decide) (by decide)) qa7 qc7 (g := (mkF m 6 #[.val (.ref a1)] [(.ref a1), (.int (1 : Int32))])) rfl (by rw [hml]; rfl) c6 (argsL := []) (rest := [(.int (1 : Int32))]) (lenOf pd___B rfl) rfl (by show 2 * 0 + _ ≤ _; exact Nat.le_of_eq rfl) (hb hby d18_6) (fun _ _ => ⟨rfl, e2, (by decide : 0 + 0 ≤ _), (by decide : 0 + 0 ≤ _)⟩)
    dsimp only [Pt.U, Pt.locs, Pt.cells, Pt.slots] at X7 lp7 yp7 zp7 st7 hQ7
    subst lp7 yp7 zp7
    obtain ⟨rfl, Nq7, eq7⟩ := hQ7
    have N7 := Fr.app N0 Nq7
    have c8 : SS p e below B0 T7 m 9 #[.val (.ref a1)] [(.int (0 : Int32)), (.int (1 : Int32))] := st7
    have c9 : SS p e below B0 T7 m 10 #[.val (.ref a1)] [(.int (1 : Int32))] := Steps.trans c8 (by
        refine XS.ishr X7.here hx rfl (hb hby d18_9) rfl ?_
        exact Steps.refl _)
    obtain ⟨fs, hr, hrun, hended, hW, hsame⟩ := X7.leave (v := some (.int (1 : Int32))) (fun h => by rw [Bd.returns] at h; cases h)
    subst hB0
    refine ⟨_, _, Steps.trans c9 ?_, hrun, hended, _, _, rfl, ?_, ⟨_, rfl⟩, hW, hsame.mono (by decide) (by decide)⟩
    · exact retI X7 hx Bd.returns (hb hby d18_10) hr
    · show QLen1 h0 n0 _ T7.heap _
      rw [eq7]
      exact ⟨rfl, N7, rfl⟩
  · have hdummy := Z0
    have c1 : SS p e below B0 s₁ m 1 #[.val (.ref a1)] [(.ref a1)] := Steps.trans c0 (by
        refine XS.aloadN X0.here hx rfl (hb hby d18_0) rfl rfl ?_
        exact Steps.refl _)
    obtain ⟨T2, X2, e2, st2⟩ := getF X0 hx hZ hown (host := "") (Or.inl (W hw 25)) Via.refl e0 V1 (g := (mkF m 1 #[.val (.ref a1)] [(.ref a1)])) rfl rfl (hb hby d18_1)
    have c3 : SS p e below B0 T2 m 4 #[.val (.ref a1)] [(.ref t1)] := Steps.trans c1 (st2 _ (Steps.refl _))
    obtain ⟨cl4, Ar4, q4, Sz4, M4, Hs4, U4⟩ := id A1
    have c5 : SS p e below B0 T2 m 5 #[.val (.ref a1)] [(.int (2 : Int32))] := Steps.trans c3 (by
        refine X2.arraylength hx (by rw [e2]; exact Ar4.1) (State.isArrayOf_alike hZ.alike Ar4.2.1) (g := (mkF m 4 #[.val (.ref a1)] [(.ref t1)])) rfl rfl (hb hby d18_4) _ ?_
        rw [len_of Sz4 M4]
        exact Steps.refl _)
    have c6 : SS p e below B0 T2 m 6 #[.val (.ref a1)] [(.ref a1), (.int (2 : Int32))] := Steps.trans c5 (by
        refine XS.aloadN X2.here hx rfl (hb hby d18_5) rfl rfl ?_
        exact Steps.refl _)
    obtain ⟨cq7, kq7, qa7, qb7, qc7⟩ := isOf hZ e2 E1
    obtain ⟨_, _, ⟨T7, Lp7, kp7, np7⟩, -, X7, ⟨Lc7, hQ7, lp7, yp7, zp7⟩, st7⟩ := X2.virtualBack hx (y := (⟨"java/lang/String", "coder", "()B"⟩ : MethodName)) (z := (⟨"java/lang/String", "coder", "()B"⟩ : MethodName)) hown (mvT hZ (W hw 52)) (mvT hZ (W hw 53)) (notFace_of_selects (args := #[]) (mvT hZ (W hw 55))) (mvT hZ (W hw 55)) (mvT hZ (W hw 54)) (by decide) (backOf (W := 1) (rmCdr1 l Z a0 hw [] a1 G1 h0 n0 (by omega) C1 O2 P5 X00) hZ (W hw 56) (W hw 8) (by decide) (by decide)) qa7 qc7 (g := (mkF m 6 #[.val (.ref a1)] [(.ref a1), (.int (2 : Int32))])) rfl (by rw [hml]; rfl) c6 (argsL := []) (rest := [(.int (2 : Int32))]) (lenOf pd___B rfl) rfl (by show 2 * 0 + _ ≤ _; exact Nat.le_of_eq rfl) (hb hby d18_6) (fun _ _ => ⟨rfl, e2, (by decide : 0 + 0 ≤ _), (by decide : 0 + 0 ≤ _)⟩)
    dsimp only [Pt.U, Pt.locs, Pt.cells, Pt.slots] at X7 lp7 yp7 zp7 st7 hQ7
    subst lp7 yp7 zp7
    obtain ⟨rfl, Nq7, eq7⟩ := hQ7
    have N7 := Fr.app N0 Nq7
    have c8 : SS p e below B0 T7 m 9 #[.val (.ref a1)] [(.int (1 : Int32)), (.int (2 : Int32))] := st7
    have c9 : SS p e below B0 T7 m 10 #[.val (.ref a1)] [(.int (1 : Int32))] := Steps.trans c8 (by
        refine XS.ishr X7.here hx rfl (hb hby d18_9) rfl ?_
        exact Steps.refl _)
    obtain ⟨fs, hr, hrun, hended, hW, hsame⟩ := X7.leave (v := some (.int (1 : Int32))) (fun h => by rw [Bd.returns] at h; cases h)
    subst hB0
    refine ⟨_, _, Steps.trans c9 ?_, hrun, hended, _, _, rfl, ?_, ⟨_, rfl⟩, hW, hsame.mono (by decide) (by decide)⟩
    · exact retI X7 hx Bd.returns (hb hby d18_10) hr
    · show QLen1 h0 n0 _ T7.heap _
      rw [eq7]
      exact ⟨rfl, N7, rfl⟩
def QUl1 (h0 : Heap) (n0 : Nat) (v : Option Value) (h : Heap) (L : List Loc) : Prop := v = some (.int (1 : Int32)) ∧ Fr n0 L ∧ h = h0
set_option maxRecDepth 65536 in
set_option maxHeartbeats 40000000 in
theorem rmUl1 (l : Launch) (Z : State) (a0 : Array Value) (hw : ∀ d ∈ tables_1, d.before a0 Z = true) (ws : List Jvm.Cond) (t1 : Addr) (k1 : ClassId) (vs : List Value) (h0 : Heap) (n0 : Nat) (Z0 : n0 ≤ h0.size) (A1 : Arv Z h0 t1 k1 .byte (2 : Int32) vs (.int (0 : Int32))) :
    MetFree l (⟨"java/lang/StringUTF16", "length", "([B)I"⟩ : MethodName) (head1 (Jvm.Cond.code (⟨"java/lang/StringUTF16", "length", "([B)I"⟩ : MethodName) jdk_52_method_6_code 1 (some .int) :: ws) ({ frames := 0, cells := 0, slots := 0, locals := 0 } : Room)) (fun a U => a = #[(.ref t1)] ∧ Z.Warmed39 U.vm ∧ U.heap = h0) (fun _ _ _ _ _ => True) (fun _ U o U' => ∃ v L, o = .returned v ∧ QUl1 h0 n0 v U'.heap L ∧ FrameEnd U o U' L ({ frames := 0, cells := 0, slots := 0, locals := 0 } : Room).cells ({ frames := 0, cells := 0, slots := 0, locals := 0 } : Room).slots) := by
  refine MetFree.of_bodySF (plainFor_of_name pn_java_lang_StringUTF16) hisR ?_
  intro p e s m args below meth c s₁ Bd hml0 hP hK
  obtain ⟨rfl, hZ, hh⟩ := hP
  have hx := Bd.exec
  have hby := Bd.bytes
  have hml : c.maxLocals = 1 := hml0
  have hown : s.vm.findClass "java/lang/StringUTF16" = some m.cls := findClass_of_methodNamed Bd.named
  have hnm := (name_of_methodNamed Bd.named Bd.method).1
  have X0 : Stand p l e ({ frames := 0, cells := 0, slots := 0, locals := 0 } : Room) s m #[(.ref t1)] below meth c s₁ [] 0 0 := Stand.of_body Bd
  have e0 : s₁.heap = h0 := by rw [← hh, Bd.state]; rfl
  have N0 := Fr.nil n0
  obtain ⟨B0, c0, hB0⟩ : ∃ B0, Steps p.tables e below B0 (s₁.setTop (mkF m 0 #[.val (.ref t1)] [])) ∧ B0 = s₁.setTop (entryFrame m #[(.ref t1)] 1) := ⟨_, castTop (ef_R_1 m t1) (Steps.refl _), rfl⟩
  have c1 : SS p e below B0 s₁ m 1 #[.val (.ref t1)] [(.ref t1)] := Steps.trans c0 (by
      refine XS.aloadN X0.here hx rfl (hb hby d19_0) rfl rfl ?_
      exact Steps.refl _)
  obtain ⟨cl2, Ar2, q2, Sz2, M2, Hs2, U2⟩ := id A1
  have c3 : SS p e below B0 s₁ m 2 #[.val (.ref t1)] [(.int (2 : Int32))] := Steps.trans c1 (by
      refine X0.arraylength hx (by rw [e0]; exact Ar2.1) (State.isArrayOf_alike hZ.alike Ar2.2.1) (g := (mkF m 1 #[.val (.ref t1)] [(.ref t1)])) rfl rfl (hb hby d19_1) _ ?_
      rw [len_of Sz2 M2]
      exact Steps.refl _)
  have c4 : SS p e below B0 s₁ m 4 #[.val (.ref t1)] [(.int (1 : Int32))] := Steps.trans c3 (by
      refine XT.iconstV X0.here hx rfl (1 : Int32) (hb hby d19_2) (by decide) ?_
      refine XS.ishr X0.here hx rfl (hb hby d19_3) rfl ?_
      exact Steps.refl _)
  obtain ⟨fs, hr, hrun, hended, hW, hsame⟩ := X0.leave (v := some (.int (1 : Int32))) (fun h => by rw [Bd.returns] at h; cases h)
  subst hB0
  refine ⟨_, _, Steps.trans c4 ?_, hrun, hended, _, _, rfl, ?_, ⟨_, rfl⟩, hW, hsame.mono (by decide) (by decide)⟩
  · exact retI X0 hx Bd.returns (hb hby d19_4) hr
  · show QUl1 h0 n0 _ s₁.heap _
    rw [e0]
    exact ⟨rfl, N0, rfl⟩
def QUck1_0 (h0 : Heap) (n0 : Nat) (v : Option Value) (h : Heap) (L : List Loc) : Prop := v = none ∧ Fr n0 L ∧ h = h0
set_option maxRecDepth 65536 in
set_option maxHeartbeats 40000000 in
theorem rmUck1_0 (l : Launch) (Z : State) (a0 : Array Value) (hw : ∀ d ∈ tables_1, d.before a0 Z = true) (ws : List Jvm.Cond) (t1 : Addr) (k1 : ClassId) (vs : List Value) (G3 : Value) (h0 : Heap) (n0 : Nat) (Z0 : n0 ≤ h0.size) (A1 : Arv Z h0 t1 k1 .byte (2 : Int32) vs (.int (0 : Int32))) (O4 : Sta Z Z.heap "jdk/internal/util/Preconditions" "SIOOBE_FORMATTER" "Ljava/util/function/BiFunction;" G3) (rG3 : G3.isRef = true) (X00 : Old Z n0 h0) :
    MetFree l (⟨"java/lang/StringUTF16", "checkIndex", "(I[B)V"⟩ : MethodName) (head1 (Jvm.Cond.code (⟨"java/lang/StringUTF16", "checkIndex", "(I[B)V"⟩ : MethodName) jdk_52_method_91_code 2 none :: ws) ({ frames := 2, cells := 0, slots := 0, locals := 27 } : Room)) (fun a U => a = #[(.int (0 : Int32)), (.ref t1)] ∧ Z.Warmed39 U.vm ∧ U.heap = h0) (fun _ _ _ _ _ => True) (fun _ U o U' => ∃ v L, o = .returned v ∧ QUck1_0 h0 n0 v U'.heap L ∧ FrameEnd U o U' L ({ frames := 2, cells := 0, slots := 0, locals := 27 } : Room).cells ({ frames := 2, cells := 0, slots := 0, locals := 27 } : Room).slots) := by
  refine MetFree.of_bodySF (plainFor_of_name pn_java_lang_StringUTF16) hisR ?_
  intro p e s m args below meth c s₁ Bd hml0 hP hK
  obtain ⟨rfl, hZ, hh⟩ := hP
  have hx := Bd.exec
  have hby := Bd.bytes
  have hml : c.maxLocals = 2 := hml0
  have hown : s.vm.findClass "java/lang/StringUTF16" = some m.cls := findClass_of_methodNamed Bd.named
  have hnm := (name_of_methodNamed Bd.named Bd.method).1
  have X0 : Stand p l e ({ frames := 2, cells := 0, slots := 0, locals := 27 } : Room) s m #[(.int (0 : Int32)), (.ref t1)] below meth c s₁ [] 0 0 := Stand.of_body Bd
  have e0 : s₁.heap = h0 := by rw [← hh, Bd.state]; rfl
  have N0 := Fr.nil n0
  obtain ⟨B0, c0, hB0⟩ : ∃ B0, Steps p.tables e below B0 (s₁.setTop (mkF m 0 #[.val (.int (0 : Int32)), .val (.ref t1)] [])) ∧ B0 = s₁.setTop (entryFrame m #[(.int (0 : Int32)), (.ref t1)] 2) := ⟨_, castTop (ef_IR_2 m (0 : Int32) t1) (Steps.refl _), rfl⟩
  have c1 : SS p e below B0 s₁ m 2 #[.val (.int (0 : Int32)), .val (.ref t1)] [(.ref t1), (.int (0 : Int32))] := Steps.trans c0 (by
      refine XS.iloadN X0.here hx rfl (hb hby d20_0) rfl ?_
      refine XS.aloadN X0.here hx rfl (hb hby d20_1) rfl rfl ?_
      exact Steps.refl _)
  obtain ⟨_, _, ⟨T2, Lp2, kp2, np2⟩, -, X2, ⟨Lc2, hQ2, lp2, yp2, zp2⟩, st2⟩ := Jvm.LawKit.callS X0 hx (y := (⟨"java/lang/StringUTF16", "length", "([B)I"⟩ : MethodName)) hown (mvT hZ (W hw 118)) (mvT hZ (W hw 119)) (mvT hZ (W hw 64)) (mvT hZ (W hw 120)) (by decide) (backOf (W := 1) (rmUl1 l Z a0 hw [] t1 k1 vs h0 n0 (by omega) A1) hZ (W hw 120) (W hw 64) (by decide) (by decide)) (g := (mkF m 2 #[.val (.int (0 : Int32)), .val (.ref t1)] [(.ref t1), (.int (0 : Int32))])) rfl (by rw [hml]; rfl) (argsL := [(.ref t1)]) (rest := [(.int (0 : Int32))]) (lenOf pd___B_I rfl) rfl (by show 2 * 0 + _ ≤ _; exact Nat.le_of_eq rfl) (hb hby d20_2) (fun _ _ => ⟨rfl, e0, (by decide : 0 + 0 ≤ _), (by decide : 0 + 0 ≤ _)⟩)
  dsimp only [Pt.U, Pt.locs, Pt.cells, Pt.slots] at X2 lp2 yp2 zp2 st2 hQ2
  subst lp2 yp2 zp2
  obtain ⟨rfl, Nq2, eq2⟩ := hQ2
  have N2 := Fr.app N0 Nq2
  have c3 : SS p e below B0 T2 m 5 #[.val (.int (0 : Int32)), .val (.ref t1)] [(.int (1 : Int32)), (.int (0 : Int32))] := Steps.trans c1 (st2 _ (Steps.refl _))
  obtain ⟨_, _, ⟨T4, Lp4, kp4, np4⟩, -, X4, ⟨Lc4, hQ4, lp4, yp4, zp4⟩, st4⟩ := Jvm.LawKit.callS X2 hx (y := (⟨"java/lang/String", "checkIndex", "(II)V"⟩ : MethodName)) hown (mvT hZ (W hw 121)) (mvT hZ (W hw 86)) (mvT hZ (W hw 8)) (mvT hZ (W hw 87)) (by decide) (backOf (W := 0) (rmCk l Z a0 hw [] 0 1 G3 h0 n0 (by omega) (by decide) (by decide) O4 rG3 X00) hZ (W hw 87) (W hw 8) (by decide) (by decide)) (g := (mkF m 5 #[.val (.int (0 : Int32)), .val (.ref t1)] [(.int (1 : Int32)), (.int (0 : Int32))])) rfl (by rw [hml]; rfl) (argsL := [(.int (0 : Int32)), (.int (1 : Int32))]) (rest := []) (lenOf pd__II_V rfl) rfl (by show 2 * 0 + _ ≤ _; exact Nat.le_of_eq rfl) (hb hby d20_5) (fun _ _ => ⟨rfl, eq2, (by decide : 0 + 0 ≤ _), (by decide : 0 + 0 ≤ _)⟩)
  dsimp only [Pt.U, Pt.locs, Pt.cells, Pt.slots] at X4 lp4 yp4 zp4 st4 hQ4
  subst lp4 yp4 zp4
  obtain ⟨rfl, Nq4, eq4⟩ := hQ4
  have N4 := Fr.app N2 Nq4
  have c5 : SS p e below B0 T4 m 8 #[.val (.int (0 : Int32)), .val (.ref t1)] [] := Steps.trans c3 (st4 _ (Steps.refl _))
  obtain ⟨fs, hr, hrun, hended, hW, hsame⟩ := X4.leave (v := none) (fun _ => rfl)
  subst hB0
  refine ⟨_, _, Steps.trans c5 ?_, hrun, hended, _, _, rfl, ?_, ⟨_, rfl⟩, hW, hsame.mono (by decide) (by decide)⟩
  · exact X4.returnOut hx Bd.returns (hb hby d20_8) hr
  · show QUck1_0 h0 n0 _ T4.heap _
    rw [eq4]
    exact ⟨rfl, N4, rfl⟩
def QLcA1_0 (c0' : Int32) (h0 : Heap) (n0 : Nat) (v : Option Value) (h : Heap) (L : List Loc) : Prop := v = some (.int c0') ∧ Fr n0 L ∧ h = h0
set_option maxRecDepth 65536 in
set_option maxHeartbeats 40000000 in
theorem rmLcA1_0 (l : Launch) (Z : State) (a0 : Array Value) (hw : ∀ d ∈ tables_1, d.before a0 Z = true) (ws : List Jvm.Cond) (t1 : Addr) (k1 : ClassId) (c0' : Int32) (G3 : Value) (h0 : Heap) (n0 : Nat) (Z0 : n0 ≤ h0.size) (A1 : Arv Z h0 t1 k1 .byte (1 : Int32) [(.int (nar .byte (c0'.toInt8.toInt32)))] (.int (0 : Int32))) (O4 : Sta Z Z.heap "jdk/internal/util/Preconditions" "SIOOBE_FORMATTER" "Ljava/util/function/BiFunction;" G3) (rG3 : G3.isRef = true) (X00 : Old Z n0 h0) (hc : ¬ c0' < 0 ∧ ¬ (65535 : Int32) < c0') (hl : ¬ (255 : Int32) < c0') :
    MetFree l (⟨"java/lang/StringLatin1", "charAt", "([BI)C"⟩ : MethodName) (head1 (Jvm.Cond.code (⟨"java/lang/StringLatin1", "charAt", "([BI)C"⟩ : MethodName) jdk_43_method_2_code 2 (some .char) :: ws) ({ frames := 2, cells := 0, slots := 0, locals := 27 } : Room)) (fun a U => a = #[(.ref t1), (.int (0 : Int32))] ∧ Z.Warmed39 U.vm ∧ U.heap = h0) (fun _ _ _ _ _ => True) (fun _ U o U' => ∃ v L, o = .returned v ∧ QLcA1_0 c0' h0 n0 v U'.heap L ∧ FrameEnd U o U' L ({ frames := 2, cells := 0, slots := 0, locals := 27 } : Room).cells ({ frames := 2, cells := 0, slots := 0, locals := 27 } : Room).slots) := by
  refine MetFree.of_bodySF (plainFor_of_name pn_java_lang_StringLatin1) hisR ?_
  intro p e s m args below meth c s₁ Bd hml0 hP hK
  obtain ⟨rfl, hZ, hh⟩ := hP
  have hx := Bd.exec
  have hby := Bd.bytes
  have hml : c.maxLocals = 2 := hml0
  have hown : s.vm.findClass "java/lang/StringLatin1" = some m.cls := findClass_of_methodNamed Bd.named
  have hnm := (name_of_methodNamed Bd.named Bd.method).1
  have X0 : Stand p l e ({ frames := 2, cells := 0, slots := 0, locals := 27 } : Room) s m #[(.ref t1), (.int (0 : Int32))] below meth c s₁ [] 0 0 := Stand.of_body Bd
  have e0 : s₁.heap = h0 := by rw [← hh, Bd.state]; rfl
  have N0 := Fr.nil n0
  obtain ⟨B0, c0, hB0⟩ : ∃ B0, Steps p.tables e below B0 (s₁.setTop (mkF m 0 #[.val (.ref t1), .val (.int (0 : Int32))] [])) ∧ B0 = s₁.setTop (entryFrame m #[(.ref t1), (.int (0 : Int32))] 2) := ⟨_, castTop (ef_RI_2 m t1 (0 : Int32)) (Steps.refl _), rfl⟩
  have c1 : SS p e below B0 s₁ m 2 #[.val (.ref t1), .val (.int (0 : Int32))] [(.ref t1), (.int (0 : Int32))] := Steps.trans c0 (by
      refine XS.iloadN X0.here hx rfl (hb hby d21_0) rfl ?_
      refine XS.aloadN X0.here hx rfl (hb hby d21_1) rfl rfl ?_
      exact Steps.refl _)
  obtain ⟨cl2, Ar2, q2, Sz2, M2, Hs2, U2⟩ := id A1
  have c3 : SS p e below B0 s₁ m 3 #[.val (.ref t1), .val (.int (0 : Int32))] [(.int (1 : Int32)), (.int (0 : Int32))] := Steps.trans c1 (by
      refine X0.arraylength hx (by rw [e0]; exact Ar2.1) (State.isArrayOf_alike hZ.alike Ar2.2.1) (g := (mkF m 2 #[.val (.ref t1), .val (.int (0 : Int32))] [(.ref t1), (.int (0 : Int32))])) rfl rfl (hb hby d21_2) _ ?_
      rw [len_of Sz2 M2]
      exact Steps.refl _)
  obtain ⟨_, _, ⟨T4, Lp4, kp4, np4⟩, -, X4, ⟨Lc4, hQ4, lp4, yp4, zp4⟩, st4⟩ := Jvm.LawKit.callS X0 hx (y := (⟨"java/lang/String", "checkIndex", "(II)V"⟩ : MethodName)) hown (mvT hZ (W hw 85)) (mvT hZ (W hw 86)) (mvT hZ (W hw 8)) (mvT hZ (W hw 87)) (by decide) (backOf (W := 0) (rmCk l Z a0 hw [] 0 1 G3 h0 n0 (by omega) (by decide) (by decide) O4 rG3 X00) hZ (W hw 87) (W hw 8) (by decide) (by decide)) (g := (mkF m 3 #[.val (.ref t1), .val (.int (0 : Int32))] [(.int (1 : Int32)), (.int (0 : Int32))])) rfl (by rw [hml]; rfl) (argsL := [(.int (0 : Int32)), (.int (1 : Int32))]) (rest := []) (lenOf pd__II_V rfl) rfl (by show 2 * 0 + _ ≤ _; exact Nat.le_of_eq rfl) (hb hby d21_3) (fun _ _ => ⟨rfl, e0, (by decide : 0 + 0 ≤ _), (by decide : 0 + 0 ≤ _)⟩)
  dsimp only [Pt.U, Pt.locs, Pt.cells, Pt.slots] at X4 lp4 yp4 zp4 st4 hQ4
  subst lp4 yp4 zp4
  obtain ⟨rfl, Nq4, eq4⟩ := hQ4
  have N4 := Fr.app N0 Nq4
  have c5 : SS p e below B0 T4 m 6 #[.val (.ref t1), .val (.int (0 : Int32))] [] := Steps.trans c3 (st4 _ (Steps.refl _))
  have c6 : SS p e below B0 T4 m 8 #[.val (.ref t1), .val (.int (0 : Int32))] [(.int (0 : Int32)), (.ref t1)] := Steps.trans c5 (by
      refine XS.aloadN X4.here hx rfl (hb hby d21_6) rfl rfl ?_
      refine XS.iloadN X4.here hx rfl (hb hby d21_7) rfl ?_
      exact Steps.refl _)
  obtain ⟨cl7, Ar7, q7, Sz7, M7, Hs7, U7⟩ := id A1
  have in7 := inb_of (j := (0 : Int32)) Sz7 ⟨(by decide), (by decide)⟩
  have c8 : SS p e below B0 T4 m 9 #[.val (.ref t1), .val (.int (0 : Int32))] [(.int (nar .byte (c0'.toInt8.toInt32)))] := Steps.trans c6 (by
      refine X4.baloadBytes hx (j := (0 : Int32)) (v := (.int (nar .byte (c0'.toInt8.toInt32)))) (by rw [eq4]; exact Ar7.1) (State.isArrayOf_alike hZ.alike Ar7.2.1) Ar7.2.2 in7 (Hs7.at in7 rfl) (g := (mkF m 8 #[.val (.ref t1), .val (.int (0 : Int32))] [(.int (0 : Int32)), (.ref t1)])) rfl rfl (hb hby d21_8) _ ?_
      exact Steps.refl _)
  have c9 : SS p e below B0 T4 m 14 #[.val (.ref t1), .val (.int (0 : Int32))] [(.int (((nar .byte (c0'.toInt8.toInt32)) &&& (255 : Int32)).toUInt32.toUInt16.toUInt32.toInt32))] := Steps.trans c8 (by
      refine XT.sipushV X4.here hx rfl (255 : Int32) (hb hby d21_9) (by decide) ?_
      refine XS.iand X4.here hx rfl (hb hby d21_12) rfl ?_
      refine XS.i2c X4.here hx rfl (hb hby d21_13) rfl ?_
      exact Steps.refl _)
  have hv := own_lat hc.1 hl
  obtain ⟨fs, hr, hrun, hended, hW, hsame⟩ := X4.leave (v := some (.int (nar .char (((nar .byte (c0'.toInt8.toInt32)) &&& (255 : Int32)).toUInt32.toUInt16.toUInt32.toInt32)))) (fun h => by rw [Bd.returns] at h; cases h)
  subst hB0
  refine ⟨_, _, Steps.trans c9 ?_, hrun, hended, _, _, rfl, ?_, ⟨_, rfl⟩, hW, hsame.mono (by decide) (by decide)⟩
  · exact retN X4 hx (t := .char) Bd.returns (by simp) (hb hby d21_14) hr
  · show QLcA1_0 c0' h0 n0 _ T4.heap _
    rw [eq4]
    exact ⟨congrArg (fun z => some (Value.int z)) hv, N4, rfl⟩
def QUcA1_0 (c0' : Int32) (h0 : Heap) (n0 : Nat) (v : Option Value) (h : Heap) (L : List Loc) : Prop := v = some (.int c0') ∧ Fr n0 L ∧ h = h0
set_option maxRecDepth 65536 in
set_option maxHeartbeats 40000000 in
theorem rmUcA1_0 (l : Launch) (Z : State) (a0 : Array Value) (hw : ∀ d ∈ tables_1, d.before a0 Z = true) (ws : List Jvm.Cond) (t1 : Addr) (k1 : ClassId) (c0' : Int32) (G3 : Value) (h0 : Heap) (n0 : Nat) (Z0 : n0 ≤ h0.size) (A1 : Arv Z h0 t1 k1 .byte (2 : Int32) [(.int (nar .byte ((c0' >>> ((0 : Int32) &&& 31)).toInt8.toInt32))), (.int (nar .byte ((c0' >>> ((8 : Int32) &&& 31)).toInt8.toInt32)))] (.int (0 : Int32))) (O4 : Sta Z Z.heap "jdk/internal/util/Preconditions" "SIOOBE_FORMATTER" "Ljava/util/function/BiFunction;" G3) (rG3 : G3.isRef = true) (O7 : Sta Z Z.heap "java/lang/StringUTF16" "$assertionsDisabled" "Z" (.int (1 : Int32))) (O8 : Sta Z Z.heap "java/lang/StringUTF16" "HI_BYTE_SHIFT" "I" (.int (0 : Int32))) (O9 : Sta Z Z.heap "java/lang/StringUTF16" "LO_BYTE_SHIFT" "I" (.int (8 : Int32))) (X00 : Old Z n0 h0) (hc : ¬ c0' < 0 ∧ ¬ (65535 : Int32) < c0') :
    MetFree l (⟨"java/lang/StringUTF16", "charAt", "([BI)C"⟩ : MethodName) (head1 (Jvm.Cond.code (⟨"java/lang/StringUTF16", "charAt", "([BI)C"⟩ : MethodName) jdk_52_method_83_code 2 (some .char) :: ws) ({ frames := 3, cells := 0, slots := 0, locals := 40 } : Room)) (fun a U => a = #[(.ref t1), (.int (0 : Int32))] ∧ Z.Warmed39 U.vm ∧ U.heap = h0) (fun _ _ _ _ _ => True) (fun _ U o U' => ∃ v L, o = .returned v ∧ QUcA1_0 c0' h0 n0 v U'.heap L ∧ FrameEnd U o U' L ({ frames := 3, cells := 0, slots := 0, locals := 40 } : Room).cells ({ frames := 3, cells := 0, slots := 0, locals := 40 } : Room).slots) := by
  refine MetFree.of_bodySF (plainFor_of_name pn_java_lang_StringUTF16) hisR ?_
  intro p e s m args below meth c s₁ Bd hml0 hP hK
  obtain ⟨rfl, hZ, hh⟩ := hP
  have hx := Bd.exec
  have hby := Bd.bytes
  have hml : c.maxLocals = 2 := hml0
  have hown : s.vm.findClass "java/lang/StringUTF16" = some m.cls := findClass_of_methodNamed Bd.named
  have hnm := (name_of_methodNamed Bd.named Bd.method).1
  have X0 : Stand p l e ({ frames := 3, cells := 0, slots := 0, locals := 40 } : Room) s m #[(.ref t1), (.int (0 : Int32))] below meth c s₁ [] 0 0 := Stand.of_body Bd
  have e0 : s₁.heap = h0 := by rw [← hh, Bd.state]; rfl
  have N0 := Fr.nil n0
  obtain ⟨B0, c0, hB0⟩ : ∃ B0, Steps p.tables e below B0 (s₁.setTop (mkF m 0 #[.val (.ref t1), .val (.int (0 : Int32))] [])) ∧ B0 = s₁.setTop (entryFrame m #[(.ref t1), (.int (0 : Int32))] 2) := ⟨_, castTop (ef_RI_2 m t1 (0 : Int32)) (Steps.refl _), rfl⟩
  have c1 : SS p e below B0 s₁ m 2 #[.val (.ref t1), .val (.int (0 : Int32))] [(.ref t1), (.int (0 : Int32))] := Steps.trans c0 (by
      refine XS.iloadN X0.here hx rfl (hb hby d22_0) rfl ?_
      refine XS.aloadN X0.here hx rfl (hb hby d22_1) rfl rfl ?_
      exact Steps.refl _)
  obtain ⟨_, _, ⟨T2, Lp2, kp2, np2⟩, -, X2, ⟨Lc2, hQ2, lp2, yp2, zp2⟩, st2⟩ := Jvm.LawKit.callS X0 hx (y := (⟨"java/lang/StringUTF16", "checkIndex", "(I[B)V"⟩ : MethodName)) hown (mvT hZ (W hw 115)) (mvT hZ (W hw 116)) (mvT hZ (W hw 64)) (mvT hZ (W hw 117)) (by decide) (backOf (W := 0) (rmUck1_0 l Z a0 hw [] t1 k1 _ G3 h0 n0 (by omega) A1 O4 rG3 X00) hZ (W hw 117) (W hw 64) (by decide) (by decide)) (g := (mkF m 2 #[.val (.ref t1), .val (.int (0 : Int32))] [(.ref t1), (.int (0 : Int32))])) rfl (by rw [hml]; rfl) (argsL := [(.int (0 : Int32)), (.ref t1)]) (rest := []) (lenOf pd__I_B_V rfl) rfl (by show 2 * 0 + _ ≤ _; exact Nat.le_of_eq rfl) (hb hby d22_2) (fun _ _ => ⟨rfl, e0, (by decide : 0 + 0 ≤ _), (by decide : 0 + 0 ≤ _)⟩)
  dsimp only [Pt.U, Pt.locs, Pt.cells, Pt.slots] at X2 lp2 yp2 zp2 st2 hQ2
  subst lp2 yp2 zp2
  obtain ⟨rfl, Nq2, eq2⟩ := hQ2
  have N2 := Fr.app N0 Nq2
  have c3 : SS p e below B0 T2 m 5 #[.val (.ref t1), .val (.int (0 : Int32))] [] := Steps.trans c1 (st2 _ (Steps.refl _))
  have c4 : SS p e below B0 T2 m 7 #[.val (.ref t1), .val (.int (0 : Int32))] [(.int (0 : Int32)), (.ref t1)] := Steps.trans c3 (by
      refine XS.aloadN X2.here hx rfl (hb hby d22_5) rfl rfl ?_
      refine XS.iloadN X2.here hx rfl (hb hby d22_6) rfl ?_
      exact Steps.refl _)
  obtain ⟨_, _, ⟨T5, Lp5, kp5, np5⟩, -, X5, ⟨Lc5, hQ5, lp5, yp5, zp5⟩, st5⟩ := Jvm.LawKit.callS X2 hx (y := (⟨"java/lang/StringUTF16", "getChar", "([BI)C"⟩ : MethodName)) hown (mvT hZ (W hw 109)) (mvT hZ (W hw 110)) (mvT hZ (W hw 64)) (mvT hZ (W hw 111)) (by decide) (backOf (W := 0) (rmGet1_0 l Z a0 hw [] t1 k1 c0' h0 n0 (by omega) O7 O8 O9 X00 A1 hc) hZ (W hw 111) (W hw 64) (by decide) (by decide)) (g := (mkF m 7 #[.val (.ref t1), .val (.int (0 : Int32))] [(.int (0 : Int32)), (.ref t1)])) rfl (by rw [hml]; rfl) (argsL := [(.ref t1), (.int (0 : Int32))]) (rest := []) (lenOf pd___BI_C rfl) rfl (by show 2 * 0 + _ ≤ _; exact Nat.le_of_eq rfl) (hb hby d22_7) (fun _ _ => ⟨rfl, eq2, (by decide : 0 + 0 ≤ _), (by decide : 0 + 0 ≤ _)⟩)
  dsimp only [Pt.U, Pt.locs, Pt.cells, Pt.slots] at X5 lp5 yp5 zp5 st5 hQ5
  subst lp5 yp5 zp5
  obtain ⟨rfl, Nq5, eq5⟩ := hQ5
  have N5 := Fr.app N2 Nq5
  have c6 : SS p e below B0 T5 m 10 #[.val (.ref t1), .val (.int (0 : Int32))] [(.int (c0'))] := Steps.trans c4 (st5 _ (Steps.refl _))
  have hv := own_nar hc.1 hc.2
  obtain ⟨fs, hr, hrun, hended, hW, hsame⟩ := X5.leave (v := some (.int (nar .char c0'))) (fun h => by rw [Bd.returns] at h; cases h)
  subst hB0
  refine ⟨_, _, Steps.trans c6 ?_, hrun, hended, _, _, rfl, ?_, ⟨_, rfl⟩, hW, hsame.mono (by decide) (by decide)⟩
  · exact retN X5 hx (t := .char) Bd.returns (by simp) (hb hby d22_10) hr
  · show QUcA1_0 c0' h0 n0 _ T5.heap _
    rw [eq5]
    exact ⟨congrArg (fun z => some (Value.int z)) hv, N5, rfl⟩
def QChA1_0 (c0' : Int32) (h0 : Heap) (n0 : Nat) (v : Option Value) (h : Heap) (L : List Loc) : Prop := v = some (.int c0') ∧ Fr n0 L ∧ h = h0
set_option maxRecDepth 65536 in
set_option maxHeartbeats 40000000 in
theorem rmChA1_0 (l : Launch) (Z : State) (a0 : Array Value) (hw : ∀ d ∈ tables_1, d.before a0 Z = true) (ws : List Jvm.Cond) (a1 t1 : Addr) (k1 : ClassId) (c0' : Int32) (cd N_ : Int32) (vs : List Value) (G1 : Int32) (G3 : Value) (h0 : Heap) (n0 : Nat) (Z0 : n0 ≤ h0.size) (E1 : Exa Z h0 a1 "java/lang/String") (V1 : Fld Z h0 a1 "java/lang/String" "value" "[B" (.ref t1)) (C1 : Fld Z h0 a1 "java/lang/String" "coder" "B" (.int cd)) (A1 : Arv Z h0 t1 k1 .byte N_ vs (.int (0 : Int32))) (spl : Spl1 c0' cd N_ vs) (O2 : Sta Z Z.heap "java/lang/String" "COMPACT_STRINGS" "Z" (.int G1)) (P5 : ¬ (G1 = (0 : Int32))) (O4 : Sta Z Z.heap "jdk/internal/util/Preconditions" "SIOOBE_FORMATTER" "Ljava/util/function/BiFunction;" G3) (rG3 : G3.isRef = true) (O7 : Sta Z Z.heap "java/lang/StringUTF16" "$assertionsDisabled" "Z" (.int (1 : Int32))) (O8 : Sta Z Z.heap "java/lang/StringUTF16" "HI_BYTE_SHIFT" "I" (.int (0 : Int32))) (O9 : Sta Z Z.heap "java/lang/StringUTF16" "LO_BYTE_SHIFT" "I" (.int (8 : Int32))) (X00 : Old Z n0 h0) (hc : ¬ c0' < 0 ∧ ¬ (65535 : Int32) < c0') :
    MetFree l (⟨"java/lang/String", "charAt", "(I)C"⟩ : MethodName) (head1 (Jvm.Cond.code (⟨"java/lang/String", "charAt", "(I)C"⟩ : MethodName) jdk_42_method_56_code 2 (some .char) :: ws) ({ frames := 4, cells := 0, slots := 0, locals := 54 } : Room)) (fun a U => a = #[(.ref a1), (.int (0 : Int32))] ∧ Z.Warmed39 U.vm ∧ U.heap = h0) (fun _ _ _ _ _ => True) (fun _ U o U' => ∃ v L, o = .returned v ∧ QChA1_0 c0' h0 n0 v U'.heap L ∧ FrameEnd U o U' L ({ frames := 4, cells := 0, slots := 0, locals := 54 } : Room).cells ({ frames := 4, cells := 0, slots := 0, locals := 54 } : Room).slots) := by
  refine MetFree.of_bodySF (plainFor_of_name pn_java_lang_String) hisR ?_
  intro p e s m args below meth c s₁ Bd hml0 hP hK
  obtain ⟨rfl, hZ, hh⟩ := hP
  have hx := Bd.exec
  have hby := Bd.bytes
  have hml : c.maxLocals = 2 := hml0
  have hown : s.vm.findClass "java/lang/String" = some m.cls := findClass_of_methodNamed Bd.named
  have hnm := (name_of_methodNamed Bd.named Bd.method).1
  have X0 : Stand p l e ({ frames := 4, cells := 0, slots := 0, locals := 54 } : Room) s m #[(.ref a1), (.int (0 : Int32))] below meth c s₁ [] 0 0 := Stand.of_body Bd
  have e0 : s₁.heap = h0 := by rw [← hh, Bd.state]; rfl
  have N0 := Fr.nil n0
  obtain ⟨B0, c0, hB0⟩ : ∃ B0, Steps p.tables e below B0 (s₁.setTop (mkF m 0 #[.val (.ref a1), .val (.int (0 : Int32))] [])) ∧ B0 = s₁.setTop (entryFrame m #[(.ref a1), (.int (0 : Int32))] 2) := ⟨_, castTop (ef_RI_2 m a1 (0 : Int32)) (Steps.refl _), rfl⟩
  have lt_a1 : (@LT.lt Nat _ a1 h0.size) := E1.lt
  rcases spl with ⟨rfl, rfl, rfl, hl0⟩ | ⟨rfl, rfl, rfl⟩
  · have hdummy := Z0
    have c1 : SS p e below B0 s₁ m 1 #[.val (.ref a1), .val (.int (0 : Int32))] [(.ref a1)] := Steps.trans c0 (by
        refine XS.aloadN X0.here hx rfl (hb hby d23_0) rfl rfl ?_
        exact Steps.refl _)
    obtain ⟨cq2, kq2, qa2, qb2, qc2⟩ := isOf hZ e0 E1
    obtain ⟨_, _, ⟨T2, Lp2, kp2, np2⟩, -, X2, ⟨Lc2, hQ2, lp2, yp2, zp2⟩, st2⟩ := X0.virtualBack hx (y := (⟨"java/lang/String", "isLatin1", "()Z"⟩ : MethodName)) (z := (⟨"java/lang/String", "isLatin1", "()Z"⟩ : MethodName)) hown (mvT hZ (W hw 77)) (mvT hZ (W hw 78)) (notFace_of_selects (args := #[]) (mvT hZ (W hw 80))) (mvT hZ (W hw 80)) (mvT hZ (W hw 79)) (by decide) (backOf (W := 0) (rmIsL0 l Z a0 hw [] a1 G1 h0 n0 (by omega) C1 O2 P5 X00) hZ (W hw 81) (W hw 8) (by decide) (by decide)) qa2 qc2 (g := (mkF m 1 #[.val (.ref a1), .val (.int (0 : Int32))] [(.ref a1)])) rfl (by rw [hml]; rfl) c1 (argsL := []) (rest := []) (lenOf pd___Z rfl) rfl (by show 2 * 0 + _ ≤ _; exact Nat.le_of_eq rfl) (hb hby d23_1) (fun _ _ => ⟨rfl, e0, (by decide : 0 + 0 ≤ _), (by decide : 0 + 0 ≤ _)⟩)
    dsimp only [Pt.U, Pt.locs, Pt.cells, Pt.slots] at X2 lp2 yp2 zp2 st2 hQ2
    subst lp2 yp2 zp2
    obtain ⟨rfl, Nq2, eq2⟩ := hQ2
    have N2 := Fr.app N0 Nq2
    have c3 : SS p e below B0 T2 m 4 #[.val (.ref a1), .val (.int (0 : Int32))] [(.int (1 : Int32))] := st2
    have c4 : SS p e below B0 T2 m 8 #[.val (.ref a1), .val (.int (0 : Int32))] [(.ref a1)] := Steps.trans c3 (by
        refine XS.ifNo X2.here hx rfl (hb hby d23_4) rfl ((if0 _ _).trans (feq (by decide : ¬ (1 : Int32) = (0 : Int32))).1) ?_
        refine XS.aloadN X2.here hx rfl (hb hby d23_7) rfl rfl ?_
        exact Steps.refl _)
    obtain ⟨T5, X5, e5, st5⟩ := getF X2 hx hZ hown (host := "") (Or.inl (W hw 25)) Via.refl eq2 V1 (g := (mkF m 8 #[.val (.ref a1), .val (.int (0 : Int32))] [(.ref a1)])) rfl rfl (hb hby d23_8)
    have c6 : SS p e below B0 T5 m 11 #[.val (.ref a1), .val (.int (0 : Int32))] [(.ref t1)] := Steps.trans c4 (st5 _ (Steps.refl _))
    have c7 : SS p e below B0 T5 m 12 #[.val (.ref a1), .val (.int (0 : Int32))] [(.int (0 : Int32)), (.ref t1)] := Steps.trans c6 (by
        refine XS.iloadN X5.here hx rfl (hb hby d23_11) rfl ?_
        exact Steps.refl _)
    obtain ⟨_, _, ⟨T8, Lp8, kp8, np8⟩, -, X8, ⟨Lc8, hQ8, lp8, yp8, zp8⟩, st8⟩ := Jvm.LawKit.callS X5 hx (y := (⟨"java/lang/StringLatin1", "charAt", "([BI)C"⟩ : MethodName)) hown (mvT hZ (W hw 82)) (mvT hZ (W hw 83)) (mvT hZ (W hw 33)) (mvT hZ (W hw 84)) (by decide) (backOf (W := 0) (rmLcA1_0 l Z a0 hw [] t1 k1 c0' G3 h0 n0 (by omega) A1 O4 rG3 X00 hc hl0) hZ (W hw 84) (W hw 33) (by decide) (by decide)) (g := (mkF m 12 #[.val (.ref a1), .val (.int (0 : Int32))] [(.int (0 : Int32)), (.ref t1)])) rfl (by rw [hml]; rfl) (argsL := [(.ref t1), (.int (0 : Int32))]) (rest := []) (lenOf pd___BI_C rfl) rfl (by show 2 * 0 + _ ≤ _; exact Nat.le_of_eq rfl) (hb hby d23_12) (fun _ _ => ⟨rfl, e5, (by decide : 0 + 0 ≤ _), (by decide : 0 + 0 ≤ _)⟩)
    dsimp only [Pt.U, Pt.locs, Pt.cells, Pt.slots] at X8 lp8 yp8 zp8 st8 hQ8
    subst lp8 yp8 zp8
    obtain ⟨rfl, Nq8, eq8⟩ := hQ8
    have N8 := Fr.app N2 Nq8
    have c9 : SS p e below B0 T8 m 15 #[.val (.ref a1), .val (.int (0 : Int32))] [(.int (c0'))] := Steps.trans c7 (st8 _ (Steps.refl _))
    have hv := own_nar hc.1 hc.2
    obtain ⟨fs, hr, hrun, hended, hW, hsame⟩ := X8.leave (v := some (.int (nar .char c0'))) (fun h => by rw [Bd.returns] at h; cases h)
    subst hB0
    refine ⟨_, _, Steps.trans c9 ?_, hrun, hended, _, _, rfl, ?_, ⟨_, rfl⟩, hW, hsame.mono (by decide) (by decide)⟩
    · exact retN X8 hx (t := .char) Bd.returns (by simp) (hb hby d23_15) hr
    · show QChA1_0 c0' h0 n0 _ T8.heap _
      rw [eq8]
      exact ⟨congrArg (fun z => some (Value.int z)) hv, N8, rfl⟩
  · have hdummy := Z0
    have c1 : SS p e below B0 s₁ m 1 #[.val (.ref a1), .val (.int (0 : Int32))] [(.ref a1)] := Steps.trans c0 (by
        refine XS.aloadN X0.here hx rfl (hb hby d23_0) rfl rfl ?_
        exact Steps.refl _)
    obtain ⟨cq2, kq2, qa2, qb2, qc2⟩ := isOf hZ e0 E1
    obtain ⟨_, _, ⟨T2, Lp2, kp2, np2⟩, -, X2, ⟨Lc2, hQ2, lp2, yp2, zp2⟩, st2⟩ := X0.virtualBack hx (y := (⟨"java/lang/String", "isLatin1", "()Z"⟩ : MethodName)) (z := (⟨"java/lang/String", "isLatin1", "()Z"⟩ : MethodName)) hown (mvT hZ (W hw 77)) (mvT hZ (W hw 78)) (notFace_of_selects (args := #[]) (mvT hZ (W hw 80))) (mvT hZ (W hw 80)) (mvT hZ (W hw 79)) (by decide) (backOf (W := 0) (rmIsL1 l Z a0 hw [] a1 G1 h0 n0 (by omega) C1 O2 P5 X00) hZ (W hw 81) (W hw 8) (by decide) (by decide)) qa2 qc2 (g := (mkF m 1 #[.val (.ref a1), .val (.int (0 : Int32))] [(.ref a1)])) rfl (by rw [hml]; rfl) c1 (argsL := []) (rest := []) (lenOf pd___Z rfl) rfl (by show 2 * 0 + _ ≤ _; exact Nat.le_of_eq rfl) (hb hby d23_1) (fun _ _ => ⟨rfl, e0, (by decide : 0 + 0 ≤ _), (by decide : 0 + 0 ≤ _)⟩)
    dsimp only [Pt.U, Pt.locs, Pt.cells, Pt.slots] at X2 lp2 yp2 zp2 st2 hQ2
    subst lp2 yp2 zp2
    obtain ⟨rfl, Nq2, eq2⟩ := hQ2
    have N2 := Fr.app N0 Nq2
    have c3 : SS p e below B0 T2 m 4 #[.val (.ref a1), .val (.int (0 : Int32))] [(.int (0 : Int32))] := st2
    have c4 : SS p e below B0 T2 m 17 #[.val (.ref a1), .val (.int (0 : Int32))] [(.ref a1)] := Steps.trans c3 (by
        refine XS.ifYes X2.here hx rfl (pc0 := 4) (pc' := 16) rfl (hb hby d23_4) rfl ((if0 _ _).trans (teq (by decide : (0 : Int32) = (0 : Int32))).1) (by decide) (by decide) ?_
        refine XS.aloadN X2.here hx rfl (hb hby d23_16) rfl rfl ?_
        exact Steps.refl _)
    obtain ⟨T5, X5, e5, st5⟩ := getF X2 hx hZ hown (host := "") (Or.inl (W hw 25)) Via.refl eq2 V1 (g := (mkF m 17 #[.val (.ref a1), .val (.int (0 : Int32))] [(.ref a1)])) rfl rfl (hb hby d23_17)
    have c6 : SS p e below B0 T5 m 20 #[.val (.ref a1), .val (.int (0 : Int32))] [(.ref t1)] := Steps.trans c4 (st5 _ (Steps.refl _))
    have c7 : SS p e below B0 T5 m 21 #[.val (.ref a1), .val (.int (0 : Int32))] [(.int (0 : Int32)), (.ref t1)] := Steps.trans c6 (by
        refine XS.iloadN X5.here hx rfl (hb hby d23_20) rfl ?_
        exact Steps.refl _)
    obtain ⟨_, _, ⟨T8, Lp8, kp8, np8⟩, -, X8, ⟨Lc8, hQ8, lp8, yp8, zp8⟩, st8⟩ := Jvm.LawKit.callS X5 hx (y := (⟨"java/lang/StringUTF16", "charAt", "([BI)C"⟩ : MethodName)) hown (mvT hZ (W hw 112)) (mvT hZ (W hw 113)) (mvT hZ (W hw 64)) (mvT hZ (W hw 114)) (by decide) (backOf (W := 0) (rmUcA1_0 l Z a0 hw [] t1 k1 c0' G3 h0 n0 (by omega) A1 O4 rG3 O7 O8 O9 X00 hc) hZ (W hw 114) (W hw 64) (by decide) (by decide)) (g := (mkF m 21 #[.val (.ref a1), .val (.int (0 : Int32))] [(.int (0 : Int32)), (.ref t1)])) rfl (by rw [hml]; rfl) (argsL := [(.ref t1), (.int (0 : Int32))]) (rest := []) (lenOf pd___BI_C rfl) rfl (by show 2 * 0 + _ ≤ _; exact Nat.le_of_eq rfl) (hb hby d23_21) (fun _ _ => ⟨rfl, e5, (by decide : 0 + 0 ≤ _), (by decide : 0 + 0 ≤ _)⟩)
    dsimp only [Pt.U, Pt.locs, Pt.cells, Pt.slots] at X8 lp8 yp8 zp8 st8 hQ8
    subst lp8 yp8 zp8
    obtain ⟨rfl, Nq8, eq8⟩ := hQ8
    have N8 := Fr.app N2 Nq8
    have c9 : SS p e below B0 T8 m 24 #[.val (.ref a1), .val (.int (0 : Int32))] [(.int (c0'))] := Steps.trans c7 (st8 _ (Steps.refl _))
    have hv := own_nar hc.1 hc.2
    obtain ⟨fs, hr, hrun, hended, hW, hsame⟩ := X8.leave (v := some (.int (nar .char c0'))) (fun h => by rw [Bd.returns] at h; cases h)
    subst hB0
    refine ⟨_, _, Steps.trans c9 ?_, hrun, hended, _, _, rfl, ?_, ⟨_, rfl⟩, hW, hsame.mono (by decide) (by decide)⟩
    · exact retN X8 hx (t := .char) Bd.returns (by simp) (hb hby d23_24) hr
    · show QChA1_0 c0' h0 n0 _ T8.heap _
      rw [eq8]
      exact ⟨congrArg (fun z => some (Value.int z)) hv, N8, rfl⟩
def QLen2 (h0 : Heap) (n0 : Nat) (v : Option Value) (h : Heap) (L : List Loc) : Prop := v = some (.int (2 : Int32)) ∧ Fr n0 L ∧ h = h0
set_option maxRecDepth 65536 in
set_option maxHeartbeats 40000000 in
theorem rmLen2 (l : Launch) (Z : State) (a0 : Array Value) (hw : ∀ d ∈ tables_1, d.before a0 Z = true) (ws : List Jvm.Cond) (a1 t1 : Addr) (k1 : ClassId) (c0' c1' : Int32) (cd N_ : Int32) (vs : List Value) (G1 : Int32) (h0 : Heap) (n0 : Nat) (Z0 : n0 ≤ h0.size) (E1 : Exa Z h0 a1 "java/lang/String") (V1 : Fld Z h0 a1 "java/lang/String" "value" "[B" (.ref t1)) (C1 : Fld Z h0 a1 "java/lang/String" "coder" "B" (.int cd)) (A1 : Arv Z h0 t1 k1 .byte N_ vs (.int (0 : Int32))) (spl : Spl2 c0' c1' cd N_ vs) (O2 : Sta Z Z.heap "java/lang/String" "COMPACT_STRINGS" "Z" (.int G1)) (P5 : ¬ (G1 = (0 : Int32))) (X00 : Old Z n0 h0) :
    MetFree l (⟨"java/lang/String", "length", "()I"⟩ : MethodName) (head1 (Jvm.Cond.code (⟨"java/lang/String", "length", "()I"⟩ : MethodName) jdk_42_method_54_code 1 (some .int) :: ws) ({ frames := 1, cells := 0, slots := 0, locals := 13 } : Room)) (fun a U => a = #[(.ref a1)] ∧ Z.Warmed39 U.vm ∧ U.heap = h0) (fun _ _ _ _ _ => True) (fun _ U o U' => ∃ v L, o = .returned v ∧ QLen2 h0 n0 v U'.heap L ∧ FrameEnd U o U' L ({ frames := 1, cells := 0, slots := 0, locals := 13 } : Room).cells ({ frames := 1, cells := 0, slots := 0, locals := 13 } : Room).slots) := by
  refine MetFree.of_bodySF (plainFor_of_name pn_java_lang_String) hisR ?_
  intro p e s m args below meth c s₁ Bd hml0 hP hK
  obtain ⟨rfl, hZ, hh⟩ := hP
  have hx := Bd.exec
  have hby := Bd.bytes
  have hml : c.maxLocals = 1 := hml0
  have hown : s.vm.findClass "java/lang/String" = some m.cls := findClass_of_methodNamed Bd.named
  have hnm := (name_of_methodNamed Bd.named Bd.method).1
  have X0 : Stand p l e ({ frames := 1, cells := 0, slots := 0, locals := 13 } : Room) s m #[(.ref a1)] below meth c s₁ [] 0 0 := Stand.of_body Bd
  have e0 : s₁.heap = h0 := by rw [← hh, Bd.state]; rfl
  have N0 := Fr.nil n0
  obtain ⟨B0, c0, hB0⟩ : ∃ B0, Steps p.tables e below B0 (s₁.setTop (mkF m 0 #[.val (.ref a1)] [])) ∧ B0 = s₁.setTop (entryFrame m #[(.ref a1)] 1) := ⟨_, castTop (ef_R_1 m a1) (Steps.refl _), rfl⟩
  have lt_a1 : (@LT.lt Nat _ a1 h0.size) := E1.lt
  rcases spl with ⟨rfl, rfl, rfl, hl0, hl1⟩ | ⟨rfl, rfl, rfl⟩
  · have hdummy := Z0
    have c1 : SS p e below B0 s₁ m 1 #[.val (.ref a1)] [(.ref a1)] := Steps.trans c0 (by
        refine XS.aloadN X0.here hx rfl (hb hby d18_0) rfl rfl ?_
        exact Steps.refl _)
    obtain ⟨T2, X2, e2, st2⟩ := getF X0 hx hZ hown (host := "") (Or.inl (W hw 25)) Via.refl e0 V1 (g := (mkF m 1 #[.val (.ref a1)] [(.ref a1)])) rfl rfl (hb hby d18_1)
    have c3 : SS p e below B0 T2 m 4 #[.val (.ref a1)] [(.ref t1)] := Steps.trans c1 (st2 _ (Steps.refl _))
    obtain ⟨cl4, Ar4, q4, Sz4, M4, Hs4, U4⟩ := id A1
    have c5 : SS p e below B0 T2 m 5 #[.val (.ref a1)] [(.int (2 : Int32))] := Steps.trans c3 (by
        refine X2.arraylength hx (by rw [e2]; exact Ar4.1) (State.isArrayOf_alike hZ.alike Ar4.2.1) (g := (mkF m 4 #[.val (.ref a1)] [(.ref t1)])) rfl rfl (hb hby d18_4) _ ?_
        rw [len_of Sz4 M4]
        exact Steps.refl _)
    have c6 : SS p e below B0 T2 m 6 #[.val (.ref a1)] [(.ref a1), (.int (2 : Int32))] := Steps.trans c5 (by
        refine XS.aloadN X2.here hx rfl (hb hby d18_5) rfl rfl ?_
        exact Steps.refl _)
    obtain ⟨cq7, kq7, qa7, qb7, qc7⟩ := isOf hZ e2 E1
    obtain ⟨_, _, ⟨T7, Lp7, kp7, np7⟩, -, X7, ⟨Lc7, hQ7, lp7, yp7, zp7⟩, st7⟩ := X2.virtualBack hx (y := (⟨"java/lang/String", "coder", "()B"⟩ : MethodName)) (z := (⟨"java/lang/String", "coder", "()B"⟩ : MethodName)) hown (mvT hZ (W hw 52)) (mvT hZ (W hw 53)) (notFace_of_selects (args := #[]) (mvT hZ (W hw 55))) (mvT hZ (W hw 55)) (mvT hZ (W hw 54)) (by decide) (backOf (W := 1) (rmCdr0 l Z a0 hw [] a1 G1 h0 n0 (by omega) C1 O2 P5 X00) hZ (W hw 56) (W hw 8) (by decide) (by decide)) qa7 qc7 (g := (mkF m 6 #[.val (.ref a1)] [(.ref a1), (.int (2 : Int32))])) rfl (by rw [hml]; rfl) c6 (argsL := []) (rest := [(.int (2 : Int32))]) (lenOf pd___B rfl) rfl (by show 2 * 0 + _ ≤ _; exact Nat.le_of_eq rfl) (hb hby d18_6) (fun _ _ => ⟨rfl, e2, (by decide : 0 + 0 ≤ _), (by decide : 0 + 0 ≤ _)⟩)
    dsimp only [Pt.U, Pt.locs, Pt.cells, Pt.slots] at X7 lp7 yp7 zp7 st7 hQ7
    subst lp7 yp7 zp7
    obtain ⟨rfl, Nq7, eq7⟩ := hQ7
    have N7 := Fr.app N0 Nq7
    have c8 : SS p e below B0 T7 m 9 #[.val (.ref a1)] [(.int (0 : Int32)), (.int (2 : Int32))] := st7
    have c9 : SS p e below B0 T7 m 10 #[.val (.ref a1)] [(.int (2 : Int32))] := Steps.trans c8 (by
        refine XS.ishr X7.here hx rfl (hb hby d18_9) rfl ?_
        exact Steps.refl _)
    obtain ⟨fs, hr, hrun, hended, hW, hsame⟩ := X7.leave (v := some (.int (2 : Int32))) (fun h => by rw [Bd.returns] at h; cases h)
    subst hB0
    refine ⟨_, _, Steps.trans c9 ?_, hrun, hended, _, _, rfl, ?_, ⟨_, rfl⟩, hW, hsame.mono (by decide) (by decide)⟩
    · exact retI X7 hx Bd.returns (hb hby d18_10) hr
    · show QLen2 h0 n0 _ T7.heap _
      rw [eq7]
      exact ⟨rfl, N7, rfl⟩
  · have hdummy := Z0
    have c1 : SS p e below B0 s₁ m 1 #[.val (.ref a1)] [(.ref a1)] := Steps.trans c0 (by
        refine XS.aloadN X0.here hx rfl (hb hby d18_0) rfl rfl ?_
        exact Steps.refl _)
    obtain ⟨T2, X2, e2, st2⟩ := getF X0 hx hZ hown (host := "") (Or.inl (W hw 25)) Via.refl e0 V1 (g := (mkF m 1 #[.val (.ref a1)] [(.ref a1)])) rfl rfl (hb hby d18_1)
    have c3 : SS p e below B0 T2 m 4 #[.val (.ref a1)] [(.ref t1)] := Steps.trans c1 (st2 _ (Steps.refl _))
    obtain ⟨cl4, Ar4, q4, Sz4, M4, Hs4, U4⟩ := id A1
    have c5 : SS p e below B0 T2 m 5 #[.val (.ref a1)] [(.int (4 : Int32))] := Steps.trans c3 (by
        refine X2.arraylength hx (by rw [e2]; exact Ar4.1) (State.isArrayOf_alike hZ.alike Ar4.2.1) (g := (mkF m 4 #[.val (.ref a1)] [(.ref t1)])) rfl rfl (hb hby d18_4) _ ?_
        rw [len_of Sz4 M4]
        exact Steps.refl _)
    have c6 : SS p e below B0 T2 m 6 #[.val (.ref a1)] [(.ref a1), (.int (4 : Int32))] := Steps.trans c5 (by
        refine XS.aloadN X2.here hx rfl (hb hby d18_5) rfl rfl ?_
        exact Steps.refl _)
    obtain ⟨cq7, kq7, qa7, qb7, qc7⟩ := isOf hZ e2 E1
    obtain ⟨_, _, ⟨T7, Lp7, kp7, np7⟩, -, X7, ⟨Lc7, hQ7, lp7, yp7, zp7⟩, st7⟩ := X2.virtualBack hx (y := (⟨"java/lang/String", "coder", "()B"⟩ : MethodName)) (z := (⟨"java/lang/String", "coder", "()B"⟩ : MethodName)) hown (mvT hZ (W hw 52)) (mvT hZ (W hw 53)) (notFace_of_selects (args := #[]) (mvT hZ (W hw 55))) (mvT hZ (W hw 55)) (mvT hZ (W hw 54)) (by decide) (backOf (W := 1) (rmCdr1 l Z a0 hw [] a1 G1 h0 n0 (by omega) C1 O2 P5 X00) hZ (W hw 56) (W hw 8) (by decide) (by decide)) qa7 qc7 (g := (mkF m 6 #[.val (.ref a1)] [(.ref a1), (.int (4 : Int32))])) rfl (by rw [hml]; rfl) c6 (argsL := []) (rest := [(.int (4 : Int32))]) (lenOf pd___B rfl) rfl (by show 2 * 0 + _ ≤ _; exact Nat.le_of_eq rfl) (hb hby d18_6) (fun _ _ => ⟨rfl, e2, (by decide : 0 + 0 ≤ _), (by decide : 0 + 0 ≤ _)⟩)
    dsimp only [Pt.U, Pt.locs, Pt.cells, Pt.slots] at X7 lp7 yp7 zp7 st7 hQ7
    subst lp7 yp7 zp7
    obtain ⟨rfl, Nq7, eq7⟩ := hQ7
    have N7 := Fr.app N0 Nq7
    have c8 : SS p e below B0 T7 m 9 #[.val (.ref a1)] [(.int (1 : Int32)), (.int (4 : Int32))] := st7
    have c9 : SS p e below B0 T7 m 10 #[.val (.ref a1)] [(.int (2 : Int32))] := Steps.trans c8 (by
        refine XS.ishr X7.here hx rfl (hb hby d18_9) rfl ?_
        exact Steps.refl _)
    obtain ⟨fs, hr, hrun, hended, hW, hsame⟩ := X7.leave (v := some (.int (2 : Int32))) (fun h => by rw [Bd.returns] at h; cases h)
    subst hB0
    refine ⟨_, _, Steps.trans c9 ?_, hrun, hended, _, _, rfl, ?_, ⟨_, rfl⟩, hW, hsame.mono (by decide) (by decide)⟩
    · exact retI X7 hx Bd.returns (hb hby d18_10) hr
    · show QLen2 h0 n0 _ T7.heap _
      rw [eq7]
      exact ⟨rfl, N7, rfl⟩
def QUl2 (h0 : Heap) (n0 : Nat) (v : Option Value) (h : Heap) (L : List Loc) : Prop := v = some (.int (2 : Int32)) ∧ Fr n0 L ∧ h = h0
set_option maxRecDepth 65536 in
set_option maxHeartbeats 40000000 in
theorem rmUl2 (l : Launch) (Z : State) (a0 : Array Value) (hw : ∀ d ∈ tables_1, d.before a0 Z = true) (ws : List Jvm.Cond) (t1 : Addr) (k1 : ClassId) (vs : List Value) (h0 : Heap) (n0 : Nat) (Z0 : n0 ≤ h0.size) (A1 : Arv Z h0 t1 k1 .byte (4 : Int32) vs (.int (0 : Int32))) :
    MetFree l (⟨"java/lang/StringUTF16", "length", "([B)I"⟩ : MethodName) (head1 (Jvm.Cond.code (⟨"java/lang/StringUTF16", "length", "([B)I"⟩ : MethodName) jdk_52_method_6_code 1 (some .int) :: ws) ({ frames := 0, cells := 0, slots := 0, locals := 0 } : Room)) (fun a U => a = #[(.ref t1)] ∧ Z.Warmed39 U.vm ∧ U.heap = h0) (fun _ _ _ _ _ => True) (fun _ U o U' => ∃ v L, o = .returned v ∧ QUl2 h0 n0 v U'.heap L ∧ FrameEnd U o U' L ({ frames := 0, cells := 0, slots := 0, locals := 0 } : Room).cells ({ frames := 0, cells := 0, slots := 0, locals := 0 } : Room).slots) := by
  refine MetFree.of_bodySF (plainFor_of_name pn_java_lang_StringUTF16) hisR ?_
  intro p e s m args below meth c s₁ Bd hml0 hP hK
  obtain ⟨rfl, hZ, hh⟩ := hP
  have hx := Bd.exec
  have hby := Bd.bytes
  have hml : c.maxLocals = 1 := hml0
  have hown : s.vm.findClass "java/lang/StringUTF16" = some m.cls := findClass_of_methodNamed Bd.named
  have hnm := (name_of_methodNamed Bd.named Bd.method).1
  have X0 : Stand p l e ({ frames := 0, cells := 0, slots := 0, locals := 0 } : Room) s m #[(.ref t1)] below meth c s₁ [] 0 0 := Stand.of_body Bd
  have e0 : s₁.heap = h0 := by rw [← hh, Bd.state]; rfl
  have N0 := Fr.nil n0
  obtain ⟨B0, c0, hB0⟩ : ∃ B0, Steps p.tables e below B0 (s₁.setTop (mkF m 0 #[.val (.ref t1)] [])) ∧ B0 = s₁.setTop (entryFrame m #[(.ref t1)] 1) := ⟨_, castTop (ef_R_1 m t1) (Steps.refl _), rfl⟩
  have c1 : SS p e below B0 s₁ m 1 #[.val (.ref t1)] [(.ref t1)] := Steps.trans c0 (by
      refine XS.aloadN X0.here hx rfl (hb hby d19_0) rfl rfl ?_
      exact Steps.refl _)
  obtain ⟨cl2, Ar2, q2, Sz2, M2, Hs2, U2⟩ := id A1
  have c3 : SS p e below B0 s₁ m 2 #[.val (.ref t1)] [(.int (4 : Int32))] := Steps.trans c1 (by
      refine X0.arraylength hx (by rw [e0]; exact Ar2.1) (State.isArrayOf_alike hZ.alike Ar2.2.1) (g := (mkF m 1 #[.val (.ref t1)] [(.ref t1)])) rfl rfl (hb hby d19_1) _ ?_
      rw [len_of Sz2 M2]
      exact Steps.refl _)
  have c4 : SS p e below B0 s₁ m 4 #[.val (.ref t1)] [(.int (2 : Int32))] := Steps.trans c3 (by
      refine XT.iconstV X0.here hx rfl (1 : Int32) (hb hby d19_2) (by decide) ?_
      refine XS.ishr X0.here hx rfl (hb hby d19_3) rfl ?_
      exact Steps.refl _)
  obtain ⟨fs, hr, hrun, hended, hW, hsame⟩ := X0.leave (v := some (.int (2 : Int32))) (fun h => by rw [Bd.returns] at h; cases h)
  subst hB0
  refine ⟨_, _, Steps.trans c4 ?_, hrun, hended, _, _, rfl, ?_, ⟨_, rfl⟩, hW, hsame.mono (by decide) (by decide)⟩
  · exact retI X0 hx Bd.returns (hb hby d19_4) hr
  · show QUl2 h0 n0 _ s₁.heap _
    rw [e0]
    exact ⟨rfl, N0, rfl⟩
def QUck2_0 (h0 : Heap) (n0 : Nat) (v : Option Value) (h : Heap) (L : List Loc) : Prop := v = none ∧ Fr n0 L ∧ h = h0
set_option maxRecDepth 65536 in
set_option maxHeartbeats 40000000 in
theorem rmUck2_0 (l : Launch) (Z : State) (a0 : Array Value) (hw : ∀ d ∈ tables_1, d.before a0 Z = true) (ws : List Jvm.Cond) (t1 : Addr) (k1 : ClassId) (vs : List Value) (G3 : Value) (h0 : Heap) (n0 : Nat) (Z0 : n0 ≤ h0.size) (A1 : Arv Z h0 t1 k1 .byte (4 : Int32) vs (.int (0 : Int32))) (O4 : Sta Z Z.heap "jdk/internal/util/Preconditions" "SIOOBE_FORMATTER" "Ljava/util/function/BiFunction;" G3) (rG3 : G3.isRef = true) (X00 : Old Z n0 h0) :
    MetFree l (⟨"java/lang/StringUTF16", "checkIndex", "(I[B)V"⟩ : MethodName) (head1 (Jvm.Cond.code (⟨"java/lang/StringUTF16", "checkIndex", "(I[B)V"⟩ : MethodName) jdk_52_method_91_code 2 none :: ws) ({ frames := 2, cells := 0, slots := 0, locals := 27 } : Room)) (fun a U => a = #[(.int (0 : Int32)), (.ref t1)] ∧ Z.Warmed39 U.vm ∧ U.heap = h0) (fun _ _ _ _ _ => True) (fun _ U o U' => ∃ v L, o = .returned v ∧ QUck2_0 h0 n0 v U'.heap L ∧ FrameEnd U o U' L ({ frames := 2, cells := 0, slots := 0, locals := 27 } : Room).cells ({ frames := 2, cells := 0, slots := 0, locals := 27 } : Room).slots) := by
  refine MetFree.of_bodySF (plainFor_of_name pn_java_lang_StringUTF16) hisR ?_
  intro p e s m args below meth c s₁ Bd hml0 hP hK
  obtain ⟨rfl, hZ, hh⟩ := hP
  have hx := Bd.exec
  have hby := Bd.bytes
  have hml : c.maxLocals = 2 := hml0
  have hown : s.vm.findClass "java/lang/StringUTF16" = some m.cls := findClass_of_methodNamed Bd.named
  have hnm := (name_of_methodNamed Bd.named Bd.method).1
  have X0 : Stand p l e ({ frames := 2, cells := 0, slots := 0, locals := 27 } : Room) s m #[(.int (0 : Int32)), (.ref t1)] below meth c s₁ [] 0 0 := Stand.of_body Bd
  have e0 : s₁.heap = h0 := by rw [← hh, Bd.state]; rfl
  have N0 := Fr.nil n0
  obtain ⟨B0, c0, hB0⟩ : ∃ B0, Steps p.tables e below B0 (s₁.setTop (mkF m 0 #[.val (.int (0 : Int32)), .val (.ref t1)] [])) ∧ B0 = s₁.setTop (entryFrame m #[(.int (0 : Int32)), (.ref t1)] 2) := ⟨_, castTop (ef_IR_2 m (0 : Int32) t1) (Steps.refl _), rfl⟩
  have c1 : SS p e below B0 s₁ m 2 #[.val (.int (0 : Int32)), .val (.ref t1)] [(.ref t1), (.int (0 : Int32))] := Steps.trans c0 (by
      refine XS.iloadN X0.here hx rfl (hb hby d20_0) rfl ?_
      refine XS.aloadN X0.here hx rfl (hb hby d20_1) rfl rfl ?_
      exact Steps.refl _)
  obtain ⟨_, _, ⟨T2, Lp2, kp2, np2⟩, -, X2, ⟨Lc2, hQ2, lp2, yp2, zp2⟩, st2⟩ := Jvm.LawKit.callS X0 hx (y := (⟨"java/lang/StringUTF16", "length", "([B)I"⟩ : MethodName)) hown (mvT hZ (W hw 118)) (mvT hZ (W hw 119)) (mvT hZ (W hw 64)) (mvT hZ (W hw 120)) (by decide) (backOf (W := 1) (rmUl2 l Z a0 hw [] t1 k1 vs h0 n0 (by omega) A1) hZ (W hw 120) (W hw 64) (by decide) (by decide)) (g := (mkF m 2 #[.val (.int (0 : Int32)), .val (.ref t1)] [(.ref t1), (.int (0 : Int32))])) rfl (by rw [hml]; rfl) (argsL := [(.ref t1)]) (rest := [(.int (0 : Int32))]) (lenOf pd___B_I rfl) rfl (by show 2 * 0 + _ ≤ _; exact Nat.le_of_eq rfl) (hb hby d20_2) (fun _ _ => ⟨rfl, e0, (by decide : 0 + 0 ≤ _), (by decide : 0 + 0 ≤ _)⟩)
  dsimp only [Pt.U, Pt.locs, Pt.cells, Pt.slots] at X2 lp2 yp2 zp2 st2 hQ2
  subst lp2 yp2 zp2
  obtain ⟨rfl, Nq2, eq2⟩ := hQ2
  have N2 := Fr.app N0 Nq2
  have c3 : SS p e below B0 T2 m 5 #[.val (.int (0 : Int32)), .val (.ref t1)] [(.int (2 : Int32)), (.int (0 : Int32))] := Steps.trans c1 (st2 _ (Steps.refl _))
  obtain ⟨_, _, ⟨T4, Lp4, kp4, np4⟩, -, X4, ⟨Lc4, hQ4, lp4, yp4, zp4⟩, st4⟩ := Jvm.LawKit.callS X2 hx (y := (⟨"java/lang/String", "checkIndex", "(II)V"⟩ : MethodName)) hown (mvT hZ (W hw 121)) (mvT hZ (W hw 86)) (mvT hZ (W hw 8)) (mvT hZ (W hw 87)) (by decide) (backOf (W := 0) (rmCk l Z a0 hw [] 0 2 G3 h0 n0 (by omega) (by decide) (by decide) O4 rG3 X00) hZ (W hw 87) (W hw 8) (by decide) (by decide)) (g := (mkF m 5 #[.val (.int (0 : Int32)), .val (.ref t1)] [(.int (2 : Int32)), (.int (0 : Int32))])) rfl (by rw [hml]; rfl) (argsL := [(.int (0 : Int32)), (.int (2 : Int32))]) (rest := []) (lenOf pd__II_V rfl) rfl (by show 2 * 0 + _ ≤ _; exact Nat.le_of_eq rfl) (hb hby d20_5) (fun _ _ => ⟨rfl, eq2, (by decide : 0 + 0 ≤ _), (by decide : 0 + 0 ≤ _)⟩)
  dsimp only [Pt.U, Pt.locs, Pt.cells, Pt.slots] at X4 lp4 yp4 zp4 st4 hQ4
  subst lp4 yp4 zp4
  obtain ⟨rfl, Nq4, eq4⟩ := hQ4
  have N4 := Fr.app N2 Nq4
  have c5 : SS p e below B0 T4 m 8 #[.val (.int (0 : Int32)), .val (.ref t1)] [] := Steps.trans c3 (st4 _ (Steps.refl _))
  obtain ⟨fs, hr, hrun, hended, hW, hsame⟩ := X4.leave (v := none) (fun _ => rfl)
  subst hB0
  refine ⟨_, _, Steps.trans c5 ?_, hrun, hended, _, _, rfl, ?_, ⟨_, rfl⟩, hW, hsame.mono (by decide) (by decide)⟩
  · exact X4.returnOut hx Bd.returns (hb hby d20_8) hr
  · show QUck2_0 h0 n0 _ T4.heap _
    rw [eq4]
    exact ⟨rfl, N4, rfl⟩
def QLcA2_0 (c0' c1' : Int32) (h0 : Heap) (n0 : Nat) (v : Option Value) (h : Heap) (L : List Loc) : Prop := v = some (.int c0') ∧ Fr n0 L ∧ h = h0
set_option maxRecDepth 65536 in
set_option maxHeartbeats 40000000 in
theorem rmLcA2_0 (l : Launch) (Z : State) (a0 : Array Value) (hw : ∀ d ∈ tables_1, d.before a0 Z = true) (ws : List Jvm.Cond) (t1 : Addr) (k1 : ClassId) (c0' c1' : Int32) (G3 : Value) (h0 : Heap) (n0 : Nat) (Z0 : n0 ≤ h0.size) (A1 : Arv Z h0 t1 k1 .byte (2 : Int32) [(.int (nar .byte (c0'.toInt8.toInt32))), (.int (nar .byte (c1'.toInt8.toInt32)))] (.int (0 : Int32))) (O4 : Sta Z Z.heap "jdk/internal/util/Preconditions" "SIOOBE_FORMATTER" "Ljava/util/function/BiFunction;" G3) (rG3 : G3.isRef = true) (X00 : Old Z n0 h0) (hc : ¬ c0' < 0 ∧ ¬ (65535 : Int32) < c0') (hl : ¬ (255 : Int32) < c0') :
    MetFree l (⟨"java/lang/StringLatin1", "charAt", "([BI)C"⟩ : MethodName) (head1 (Jvm.Cond.code (⟨"java/lang/StringLatin1", "charAt", "([BI)C"⟩ : MethodName) jdk_43_method_2_code 2 (some .char) :: ws) ({ frames := 2, cells := 0, slots := 0, locals := 27 } : Room)) (fun a U => a = #[(.ref t1), (.int (0 : Int32))] ∧ Z.Warmed39 U.vm ∧ U.heap = h0) (fun _ _ _ _ _ => True) (fun _ U o U' => ∃ v L, o = .returned v ∧ QLcA2_0 c0' c1' h0 n0 v U'.heap L ∧ FrameEnd U o U' L ({ frames := 2, cells := 0, slots := 0, locals := 27 } : Room).cells ({ frames := 2, cells := 0, slots := 0, locals := 27 } : Room).slots) := by
  refine MetFree.of_bodySF (plainFor_of_name pn_java_lang_StringLatin1) hisR ?_
  intro p e s m args below meth c s₁ Bd hml0 hP hK
  obtain ⟨rfl, hZ, hh⟩ := hP
  have hx := Bd.exec
  have hby := Bd.bytes
  have hml : c.maxLocals = 2 := hml0
  have hown : s.vm.findClass "java/lang/StringLatin1" = some m.cls := findClass_of_methodNamed Bd.named
  have hnm := (name_of_methodNamed Bd.named Bd.method).1
  have X0 : Stand p l e ({ frames := 2, cells := 0, slots := 0, locals := 27 } : Room) s m #[(.ref t1), (.int (0 : Int32))] below meth c s₁ [] 0 0 := Stand.of_body Bd
  have e0 : s₁.heap = h0 := by rw [← hh, Bd.state]; rfl
  have N0 := Fr.nil n0
  obtain ⟨B0, c0, hB0⟩ : ∃ B0, Steps p.tables e below B0 (s₁.setTop (mkF m 0 #[.val (.ref t1), .val (.int (0 : Int32))] [])) ∧ B0 = s₁.setTop (entryFrame m #[(.ref t1), (.int (0 : Int32))] 2) := ⟨_, castTop (ef_RI_2 m t1 (0 : Int32)) (Steps.refl _), rfl⟩
  have c1 : SS p e below B0 s₁ m 2 #[.val (.ref t1), .val (.int (0 : Int32))] [(.ref t1), (.int (0 : Int32))] := Steps.trans c0 (by
      refine XS.iloadN X0.here hx rfl (hb hby d21_0) rfl ?_
      refine XS.aloadN X0.here hx rfl (hb hby d21_1) rfl rfl ?_
      exact Steps.refl _)
  obtain ⟨cl2, Ar2, q2, Sz2, M2, Hs2, U2⟩ := id A1
  have c3 : SS p e below B0 s₁ m 3 #[.val (.ref t1), .val (.int (0 : Int32))] [(.int (2 : Int32)), (.int (0 : Int32))] := Steps.trans c1 (by
      refine X0.arraylength hx (by rw [e0]; exact Ar2.1) (State.isArrayOf_alike hZ.alike Ar2.2.1) (g := (mkF m 2 #[.val (.ref t1), .val (.int (0 : Int32))] [(.ref t1), (.int (0 : Int32))])) rfl rfl (hb hby d21_2) _ ?_
      rw [len_of Sz2 M2]
      exact Steps.refl _)
  obtain ⟨_, _, ⟨T4, Lp4, kp4, np4⟩, -, X4, ⟨Lc4, hQ4, lp4, yp4, zp4⟩, st4⟩ := Jvm.LawKit.callS X0 hx (y := (⟨"java/lang/String", "checkIndex", "(II)V"⟩ : MethodName)) hown (mvT hZ (W hw 85)) (mvT hZ (W hw 86)) (mvT hZ (W hw 8)) (mvT hZ (W hw 87)) (by decide) (backOf (W := 0) (rmCk l Z a0 hw [] 0 2 G3 h0 n0 (by omega) (by decide) (by decide) O4 rG3 X00) hZ (W hw 87) (W hw 8) (by decide) (by decide)) (g := (mkF m 3 #[.val (.ref t1), .val (.int (0 : Int32))] [(.int (2 : Int32)), (.int (0 : Int32))])) rfl (by rw [hml]; rfl) (argsL := [(.int (0 : Int32)), (.int (2 : Int32))]) (rest := []) (lenOf pd__II_V rfl) rfl (by show 2 * 0 + _ ≤ _; exact Nat.le_of_eq rfl) (hb hby d21_3) (fun _ _ => ⟨rfl, e0, (by decide : 0 + 0 ≤ _), (by decide : 0 + 0 ≤ _)⟩)
  dsimp only [Pt.U, Pt.locs, Pt.cells, Pt.slots] at X4 lp4 yp4 zp4 st4 hQ4
  subst lp4 yp4 zp4
  obtain ⟨rfl, Nq4, eq4⟩ := hQ4
  have N4 := Fr.app N0 Nq4
  have c5 : SS p e below B0 T4 m 6 #[.val (.ref t1), .val (.int (0 : Int32))] [] := Steps.trans c3 (st4 _ (Steps.refl _))
  have c6 : SS p e below B0 T4 m 8 #[.val (.ref t1), .val (.int (0 : Int32))] [(.int (0 : Int32)), (.ref t1)] := Steps.trans c5 (by
      refine XS.aloadN X4.here hx rfl (hb hby d21_6) rfl rfl ?_
      refine XS.iloadN X4.here hx rfl (hb hby d21_7) rfl ?_
      exact Steps.refl _)
  obtain ⟨cl7, Ar7, q7, Sz7, M7, Hs7, U7⟩ := id A1
  have in7 := inb_of (j := (0 : Int32)) Sz7 ⟨(by decide), (by decide)⟩
  have c8 : SS p e below B0 T4 m 9 #[.val (.ref t1), .val (.int (0 : Int32))] [(.int (nar .byte (c0'.toInt8.toInt32)))] := Steps.trans c6 (by
      refine X4.baloadBytes hx (j := (0 : Int32)) (v := (.int (nar .byte (c0'.toInt8.toInt32)))) (by rw [eq4]; exact Ar7.1) (State.isArrayOf_alike hZ.alike Ar7.2.1) Ar7.2.2 in7 (Hs7.at in7 rfl) (g := (mkF m 8 #[.val (.ref t1), .val (.int (0 : Int32))] [(.int (0 : Int32)), (.ref t1)])) rfl rfl (hb hby d21_8) _ ?_
      exact Steps.refl _)
  have c9 : SS p e below B0 T4 m 14 #[.val (.ref t1), .val (.int (0 : Int32))] [(.int (((nar .byte (c0'.toInt8.toInt32)) &&& (255 : Int32)).toUInt32.toUInt16.toUInt32.toInt32))] := Steps.trans c8 (by
      refine XT.sipushV X4.here hx rfl (255 : Int32) (hb hby d21_9) (by decide) ?_
      refine XS.iand X4.here hx rfl (hb hby d21_12) rfl ?_
      refine XS.i2c X4.here hx rfl (hb hby d21_13) rfl ?_
      exact Steps.refl _)
  have hv := own_lat hc.1 hl
  obtain ⟨fs, hr, hrun, hended, hW, hsame⟩ := X4.leave (v := some (.int (nar .char (((nar .byte (c0'.toInt8.toInt32)) &&& (255 : Int32)).toUInt32.toUInt16.toUInt32.toInt32)))) (fun h => by rw [Bd.returns] at h; cases h)
  subst hB0
  refine ⟨_, _, Steps.trans c9 ?_, hrun, hended, _, _, rfl, ?_, ⟨_, rfl⟩, hW, hsame.mono (by decide) (by decide)⟩
  · exact retN X4 hx (t := .char) Bd.returns (by simp) (hb hby d21_14) hr
  · show QLcA2_0 c0' c1' h0 n0 _ T4.heap _
    rw [eq4]
    exact ⟨congrArg (fun z => some (Value.int z)) hv, N4, rfl⟩
def QUcA2_0 (c0' c1' : Int32) (h0 : Heap) (n0 : Nat) (v : Option Value) (h : Heap) (L : List Loc) : Prop := v = some (.int c0') ∧ Fr n0 L ∧ h = h0
set_option maxRecDepth 65536 in
set_option maxHeartbeats 40000000 in
theorem rmUcA2_0 (l : Launch) (Z : State) (a0 : Array Value) (hw : ∀ d ∈ tables_1, d.before a0 Z = true) (ws : List Jvm.Cond) (t1 : Addr) (k1 : ClassId) (c0' c1' : Int32) (G3 : Value) (h0 : Heap) (n0 : Nat) (Z0 : n0 ≤ h0.size) (A1 : Arv Z h0 t1 k1 .byte (4 : Int32) [(.int (nar .byte ((c0' >>> ((0 : Int32) &&& 31)).toInt8.toInt32))), (.int (nar .byte ((c0' >>> ((8 : Int32) &&& 31)).toInt8.toInt32))), (.int (nar .byte ((c1' >>> ((0 : Int32) &&& 31)).toInt8.toInt32))), (.int (nar .byte ((c1' >>> ((8 : Int32) &&& 31)).toInt8.toInt32)))] (.int (0 : Int32))) (O4 : Sta Z Z.heap "jdk/internal/util/Preconditions" "SIOOBE_FORMATTER" "Ljava/util/function/BiFunction;" G3) (rG3 : G3.isRef = true) (O7 : Sta Z Z.heap "java/lang/StringUTF16" "$assertionsDisabled" "Z" (.int (1 : Int32))) (O8 : Sta Z Z.heap "java/lang/StringUTF16" "HI_BYTE_SHIFT" "I" (.int (0 : Int32))) (O9 : Sta Z Z.heap "java/lang/StringUTF16" "LO_BYTE_SHIFT" "I" (.int (8 : Int32))) (X00 : Old Z n0 h0) (hc : ¬ c0' < 0 ∧ ¬ (65535 : Int32) < c0') :
    MetFree l (⟨"java/lang/StringUTF16", "charAt", "([BI)C"⟩ : MethodName) (head1 (Jvm.Cond.code (⟨"java/lang/StringUTF16", "charAt", "([BI)C"⟩ : MethodName) jdk_52_method_83_code 2 (some .char) :: ws) ({ frames := 3, cells := 0, slots := 0, locals := 40 } : Room)) (fun a U => a = #[(.ref t1), (.int (0 : Int32))] ∧ Z.Warmed39 U.vm ∧ U.heap = h0) (fun _ _ _ _ _ => True) (fun _ U o U' => ∃ v L, o = .returned v ∧ QUcA2_0 c0' c1' h0 n0 v U'.heap L ∧ FrameEnd U o U' L ({ frames := 3, cells := 0, slots := 0, locals := 40 } : Room).cells ({ frames := 3, cells := 0, slots := 0, locals := 40 } : Room).slots) := by
  refine MetFree.of_bodySF (plainFor_of_name pn_java_lang_StringUTF16) hisR ?_
  intro p e s m args below meth c s₁ Bd hml0 hP hK
  obtain ⟨rfl, hZ, hh⟩ := hP
  have hx := Bd.exec
  have hby := Bd.bytes
  have hml : c.maxLocals = 2 := hml0
  have hown : s.vm.findClass "java/lang/StringUTF16" = some m.cls := findClass_of_methodNamed Bd.named
  have hnm := (name_of_methodNamed Bd.named Bd.method).1
  have X0 : Stand p l e ({ frames := 3, cells := 0, slots := 0, locals := 40 } : Room) s m #[(.ref t1), (.int (0 : Int32))] below meth c s₁ [] 0 0 := Stand.of_body Bd
  have e0 : s₁.heap = h0 := by rw [← hh, Bd.state]; rfl
  have N0 := Fr.nil n0
  obtain ⟨B0, c0, hB0⟩ : ∃ B0, Steps p.tables e below B0 (s₁.setTop (mkF m 0 #[.val (.ref t1), .val (.int (0 : Int32))] [])) ∧ B0 = s₁.setTop (entryFrame m #[(.ref t1), (.int (0 : Int32))] 2) := ⟨_, castTop (ef_RI_2 m t1 (0 : Int32)) (Steps.refl _), rfl⟩
  have c1 : SS p e below B0 s₁ m 2 #[.val (.ref t1), .val (.int (0 : Int32))] [(.ref t1), (.int (0 : Int32))] := Steps.trans c0 (by
      refine XS.iloadN X0.here hx rfl (hb hby d22_0) rfl ?_
      refine XS.aloadN X0.here hx rfl (hb hby d22_1) rfl rfl ?_
      exact Steps.refl _)
  obtain ⟨_, _, ⟨T2, Lp2, kp2, np2⟩, -, X2, ⟨Lc2, hQ2, lp2, yp2, zp2⟩, st2⟩ := Jvm.LawKit.callS X0 hx (y := (⟨"java/lang/StringUTF16", "checkIndex", "(I[B)V"⟩ : MethodName)) hown (mvT hZ (W hw 115)) (mvT hZ (W hw 116)) (mvT hZ (W hw 64)) (mvT hZ (W hw 117)) (by decide) (backOf (W := 0) (rmUck2_0 l Z a0 hw [] t1 k1 _ G3 h0 n0 (by omega) A1 O4 rG3 X00) hZ (W hw 117) (W hw 64) (by decide) (by decide)) (g := (mkF m 2 #[.val (.ref t1), .val (.int (0 : Int32))] [(.ref t1), (.int (0 : Int32))])) rfl (by rw [hml]; rfl) (argsL := [(.int (0 : Int32)), (.ref t1)]) (rest := []) (lenOf pd__I_B_V rfl) rfl (by show 2 * 0 + _ ≤ _; exact Nat.le_of_eq rfl) (hb hby d22_2) (fun _ _ => ⟨rfl, e0, (by decide : 0 + 0 ≤ _), (by decide : 0 + 0 ≤ _)⟩)
  dsimp only [Pt.U, Pt.locs, Pt.cells, Pt.slots] at X2 lp2 yp2 zp2 st2 hQ2
  subst lp2 yp2 zp2
  obtain ⟨rfl, Nq2, eq2⟩ := hQ2
  have N2 := Fr.app N0 Nq2
  have c3 : SS p e below B0 T2 m 5 #[.val (.ref t1), .val (.int (0 : Int32))] [] := Steps.trans c1 (st2 _ (Steps.refl _))
  have c4 : SS p e below B0 T2 m 7 #[.val (.ref t1), .val (.int (0 : Int32))] [(.int (0 : Int32)), (.ref t1)] := Steps.trans c3 (by
      refine XS.aloadN X2.here hx rfl (hb hby d22_5) rfl rfl ?_
      refine XS.iloadN X2.here hx rfl (hb hby d22_6) rfl ?_
      exact Steps.refl _)
  obtain ⟨_, _, ⟨T5, Lp5, kp5, np5⟩, -, X5, ⟨Lc5, hQ5, lp5, yp5, zp5⟩, st5⟩ := Jvm.LawKit.callS X2 hx (y := (⟨"java/lang/StringUTF16", "getChar", "([BI)C"⟩ : MethodName)) hown (mvT hZ (W hw 109)) (mvT hZ (W hw 110)) (mvT hZ (W hw 64)) (mvT hZ (W hw 111)) (by decide) (backOf (W := 0) (rmGet2_0 l Z a0 hw [] t1 k1 c0' c1' h0 n0 (by omega) O7 O8 O9 X00 A1 hc) hZ (W hw 111) (W hw 64) (by decide) (by decide)) (g := (mkF m 7 #[.val (.ref t1), .val (.int (0 : Int32))] [(.int (0 : Int32)), (.ref t1)])) rfl (by rw [hml]; rfl) (argsL := [(.ref t1), (.int (0 : Int32))]) (rest := []) (lenOf pd___BI_C rfl) rfl (by show 2 * 0 + _ ≤ _; exact Nat.le_of_eq rfl) (hb hby d22_7) (fun _ _ => ⟨rfl, eq2, (by decide : 0 + 0 ≤ _), (by decide : 0 + 0 ≤ _)⟩)
  dsimp only [Pt.U, Pt.locs, Pt.cells, Pt.slots] at X5 lp5 yp5 zp5 st5 hQ5
  subst lp5 yp5 zp5
  obtain ⟨rfl, Nq5, eq5⟩ := hQ5
  have N5 := Fr.app N2 Nq5
  have c6 : SS p e below B0 T5 m 10 #[.val (.ref t1), .val (.int (0 : Int32))] [(.int (c0'))] := Steps.trans c4 (st5 _ (Steps.refl _))
  have hv := own_nar hc.1 hc.2
  obtain ⟨fs, hr, hrun, hended, hW, hsame⟩ := X5.leave (v := some (.int (nar .char c0'))) (fun h => by rw [Bd.returns] at h; cases h)
  subst hB0
  refine ⟨_, _, Steps.trans c6 ?_, hrun, hended, _, _, rfl, ?_, ⟨_, rfl⟩, hW, hsame.mono (by decide) (by decide)⟩
  · exact retN X5 hx (t := .char) Bd.returns (by simp) (hb hby d22_10) hr
  · show QUcA2_0 c0' c1' h0 n0 _ T5.heap _
    rw [eq5]
    exact ⟨congrArg (fun z => some (Value.int z)) hv, N5, rfl⟩
def QChA2_0 (c0' c1' : Int32) (h0 : Heap) (n0 : Nat) (v : Option Value) (h : Heap) (L : List Loc) : Prop := v = some (.int c0') ∧ Fr n0 L ∧ h = h0
set_option maxRecDepth 65536 in
set_option maxHeartbeats 40000000 in
theorem rmChA2_0 (l : Launch) (Z : State) (a0 : Array Value) (hw : ∀ d ∈ tables_1, d.before a0 Z = true) (ws : List Jvm.Cond) (a1 t1 : Addr) (k1 : ClassId) (c0' c1' : Int32) (cd N_ : Int32) (vs : List Value) (G1 : Int32) (G3 : Value) (h0 : Heap) (n0 : Nat) (Z0 : n0 ≤ h0.size) (E1 : Exa Z h0 a1 "java/lang/String") (V1 : Fld Z h0 a1 "java/lang/String" "value" "[B" (.ref t1)) (C1 : Fld Z h0 a1 "java/lang/String" "coder" "B" (.int cd)) (A1 : Arv Z h0 t1 k1 .byte N_ vs (.int (0 : Int32))) (spl : Spl2 c0' c1' cd N_ vs) (O2 : Sta Z Z.heap "java/lang/String" "COMPACT_STRINGS" "Z" (.int G1)) (P5 : ¬ (G1 = (0 : Int32))) (O4 : Sta Z Z.heap "jdk/internal/util/Preconditions" "SIOOBE_FORMATTER" "Ljava/util/function/BiFunction;" G3) (rG3 : G3.isRef = true) (O7 : Sta Z Z.heap "java/lang/StringUTF16" "$assertionsDisabled" "Z" (.int (1 : Int32))) (O8 : Sta Z Z.heap "java/lang/StringUTF16" "HI_BYTE_SHIFT" "I" (.int (0 : Int32))) (O9 : Sta Z Z.heap "java/lang/StringUTF16" "LO_BYTE_SHIFT" "I" (.int (8 : Int32))) (X00 : Old Z n0 h0) (hc : ¬ c0' < 0 ∧ ¬ (65535 : Int32) < c0') :
    MetFree l (⟨"java/lang/String", "charAt", "(I)C"⟩ : MethodName) (head1 (Jvm.Cond.code (⟨"java/lang/String", "charAt", "(I)C"⟩ : MethodName) jdk_42_method_56_code 2 (some .char) :: ws) ({ frames := 4, cells := 0, slots := 0, locals := 54 } : Room)) (fun a U => a = #[(.ref a1), (.int (0 : Int32))] ∧ Z.Warmed39 U.vm ∧ U.heap = h0) (fun _ _ _ _ _ => True) (fun _ U o U' => ∃ v L, o = .returned v ∧ QChA2_0 c0' c1' h0 n0 v U'.heap L ∧ FrameEnd U o U' L ({ frames := 4, cells := 0, slots := 0, locals := 54 } : Room).cells ({ frames := 4, cells := 0, slots := 0, locals := 54 } : Room).slots) := by
  refine MetFree.of_bodySF (plainFor_of_name pn_java_lang_String) hisR ?_
  intro p e s m args below meth c s₁ Bd hml0 hP hK
  obtain ⟨rfl, hZ, hh⟩ := hP
  have hx := Bd.exec
  have hby := Bd.bytes
  have hml : c.maxLocals = 2 := hml0
  have hown : s.vm.findClass "java/lang/String" = some m.cls := findClass_of_methodNamed Bd.named
  have hnm := (name_of_methodNamed Bd.named Bd.method).1
  have X0 : Stand p l e ({ frames := 4, cells := 0, slots := 0, locals := 54 } : Room) s m #[(.ref a1), (.int (0 : Int32))] below meth c s₁ [] 0 0 := Stand.of_body Bd
  have e0 : s₁.heap = h0 := by rw [← hh, Bd.state]; rfl
  have N0 := Fr.nil n0
  obtain ⟨B0, c0, hB0⟩ : ∃ B0, Steps p.tables e below B0 (s₁.setTop (mkF m 0 #[.val (.ref a1), .val (.int (0 : Int32))] [])) ∧ B0 = s₁.setTop (entryFrame m #[(.ref a1), (.int (0 : Int32))] 2) := ⟨_, castTop (ef_RI_2 m a1 (0 : Int32)) (Steps.refl _), rfl⟩
  have lt_a1 : (@LT.lt Nat _ a1 h0.size) := E1.lt
  rcases spl with ⟨rfl, rfl, rfl, hl0, hl1⟩ | ⟨rfl, rfl, rfl⟩
  · have hdummy := Z0
    have c1 : SS p e below B0 s₁ m 1 #[.val (.ref a1), .val (.int (0 : Int32))] [(.ref a1)] := Steps.trans c0 (by
        refine XS.aloadN X0.here hx rfl (hb hby d23_0) rfl rfl ?_
        exact Steps.refl _)
    obtain ⟨cq2, kq2, qa2, qb2, qc2⟩ := isOf hZ e0 E1
    obtain ⟨_, _, ⟨T2, Lp2, kp2, np2⟩, -, X2, ⟨Lc2, hQ2, lp2, yp2, zp2⟩, st2⟩ := X0.virtualBack hx (y := (⟨"java/lang/String", "isLatin1", "()Z"⟩ : MethodName)) (z := (⟨"java/lang/String", "isLatin1", "()Z"⟩ : MethodName)) hown (mvT hZ (W hw 77)) (mvT hZ (W hw 78)) (notFace_of_selects (args := #[]) (mvT hZ (W hw 80))) (mvT hZ (W hw 80)) (mvT hZ (W hw 79)) (by decide) (backOf (W := 0) (rmIsL0 l Z a0 hw [] a1 G1 h0 n0 (by omega) C1 O2 P5 X00) hZ (W hw 81) (W hw 8) (by decide) (by decide)) qa2 qc2 (g := (mkF m 1 #[.val (.ref a1), .val (.int (0 : Int32))] [(.ref a1)])) rfl (by rw [hml]; rfl) c1 (argsL := []) (rest := []) (lenOf pd___Z rfl) rfl (by show 2 * 0 + _ ≤ _; exact Nat.le_of_eq rfl) (hb hby d23_1) (fun _ _ => ⟨rfl, e0, (by decide : 0 + 0 ≤ _), (by decide : 0 + 0 ≤ _)⟩)
    dsimp only [Pt.U, Pt.locs, Pt.cells, Pt.slots] at X2 lp2 yp2 zp2 st2 hQ2
    subst lp2 yp2 zp2
    obtain ⟨rfl, Nq2, eq2⟩ := hQ2
    have N2 := Fr.app N0 Nq2
    have c3 : SS p e below B0 T2 m 4 #[.val (.ref a1), .val (.int (0 : Int32))] [(.int (1 : Int32))] := st2
    have c4 : SS p e below B0 T2 m 8 #[.val (.ref a1), .val (.int (0 : Int32))] [(.ref a1)] := Steps.trans c3 (by
        refine XS.ifNo X2.here hx rfl (hb hby d23_4) rfl ((if0 _ _).trans (feq (by decide : ¬ (1 : Int32) = (0 : Int32))).1) ?_
        refine XS.aloadN X2.here hx rfl (hb hby d23_7) rfl rfl ?_
        exact Steps.refl _)
    obtain ⟨T5, X5, e5, st5⟩ := getF X2 hx hZ hown (host := "") (Or.inl (W hw 25)) Via.refl eq2 V1 (g := (mkF m 8 #[.val (.ref a1), .val (.int (0 : Int32))] [(.ref a1)])) rfl rfl (hb hby d23_8)
    have c6 : SS p e below B0 T5 m 11 #[.val (.ref a1), .val (.int (0 : Int32))] [(.ref t1)] := Steps.trans c4 (st5 _ (Steps.refl _))
    have c7 : SS p e below B0 T5 m 12 #[.val (.ref a1), .val (.int (0 : Int32))] [(.int (0 : Int32)), (.ref t1)] := Steps.trans c6 (by
        refine XS.iloadN X5.here hx rfl (hb hby d23_11) rfl ?_
        exact Steps.refl _)
    obtain ⟨_, _, ⟨T8, Lp8, kp8, np8⟩, -, X8, ⟨Lc8, hQ8, lp8, yp8, zp8⟩, st8⟩ := Jvm.LawKit.callS X5 hx (y := (⟨"java/lang/StringLatin1", "charAt", "([BI)C"⟩ : MethodName)) hown (mvT hZ (W hw 82)) (mvT hZ (W hw 83)) (mvT hZ (W hw 33)) (mvT hZ (W hw 84)) (by decide) (backOf (W := 0) (rmLcA2_0 l Z a0 hw [] t1 k1 c0' c1' G3 h0 n0 (by omega) A1 O4 rG3 X00 hc hl0) hZ (W hw 84) (W hw 33) (by decide) (by decide)) (g := (mkF m 12 #[.val (.ref a1), .val (.int (0 : Int32))] [(.int (0 : Int32)), (.ref t1)])) rfl (by rw [hml]; rfl) (argsL := [(.ref t1), (.int (0 : Int32))]) (rest := []) (lenOf pd___BI_C rfl) rfl (by show 2 * 0 + _ ≤ _; exact Nat.le_of_eq rfl) (hb hby d23_12) (fun _ _ => ⟨rfl, e5, (by decide : 0 + 0 ≤ _), (by decide : 0 + 0 ≤ _)⟩)
    dsimp only [Pt.U, Pt.locs, Pt.cells, Pt.slots] at X8 lp8 yp8 zp8 st8 hQ8
    subst lp8 yp8 zp8
    obtain ⟨rfl, Nq8, eq8⟩ := hQ8
    have N8 := Fr.app N2 Nq8
    have c9 : SS p e below B0 T8 m 15 #[.val (.ref a1), .val (.int (0 : Int32))] [(.int (c0'))] := Steps.trans c7 (st8 _ (Steps.refl _))
    have hv := own_nar hc.1 hc.2
    obtain ⟨fs, hr, hrun, hended, hW, hsame⟩ := X8.leave (v := some (.int (nar .char c0'))) (fun h => by rw [Bd.returns] at h; cases h)
    subst hB0
    refine ⟨_, _, Steps.trans c9 ?_, hrun, hended, _, _, rfl, ?_, ⟨_, rfl⟩, hW, hsame.mono (by decide) (by decide)⟩
    · exact retN X8 hx (t := .char) Bd.returns (by simp) (hb hby d23_15) hr
    · show QChA2_0 c0' c1' h0 n0 _ T8.heap _
      rw [eq8]
      exact ⟨congrArg (fun z => some (Value.int z)) hv, N8, rfl⟩
  · have hdummy := Z0
    have c1 : SS p e below B0 s₁ m 1 #[.val (.ref a1), .val (.int (0 : Int32))] [(.ref a1)] := Steps.trans c0 (by
        refine XS.aloadN X0.here hx rfl (hb hby d23_0) rfl rfl ?_
        exact Steps.refl _)
    obtain ⟨cq2, kq2, qa2, qb2, qc2⟩ := isOf hZ e0 E1
    obtain ⟨_, _, ⟨T2, Lp2, kp2, np2⟩, -, X2, ⟨Lc2, hQ2, lp2, yp2, zp2⟩, st2⟩ := X0.virtualBack hx (y := (⟨"java/lang/String", "isLatin1", "()Z"⟩ : MethodName)) (z := (⟨"java/lang/String", "isLatin1", "()Z"⟩ : MethodName)) hown (mvT hZ (W hw 77)) (mvT hZ (W hw 78)) (notFace_of_selects (args := #[]) (mvT hZ (W hw 80))) (mvT hZ (W hw 80)) (mvT hZ (W hw 79)) (by decide) (backOf (W := 0) (rmIsL1 l Z a0 hw [] a1 G1 h0 n0 (by omega) C1 O2 P5 X00) hZ (W hw 81) (W hw 8) (by decide) (by decide)) qa2 qc2 (g := (mkF m 1 #[.val (.ref a1), .val (.int (0 : Int32))] [(.ref a1)])) rfl (by rw [hml]; rfl) c1 (argsL := []) (rest := []) (lenOf pd___Z rfl) rfl (by show 2 * 0 + _ ≤ _; exact Nat.le_of_eq rfl) (hb hby d23_1) (fun _ _ => ⟨rfl, e0, (by decide : 0 + 0 ≤ _), (by decide : 0 + 0 ≤ _)⟩)
    dsimp only [Pt.U, Pt.locs, Pt.cells, Pt.slots] at X2 lp2 yp2 zp2 st2 hQ2
    subst lp2 yp2 zp2
    obtain ⟨rfl, Nq2, eq2⟩ := hQ2
    have N2 := Fr.app N0 Nq2
    have c3 : SS p e below B0 T2 m 4 #[.val (.ref a1), .val (.int (0 : Int32))] [(.int (0 : Int32))] := st2
    have c4 : SS p e below B0 T2 m 17 #[.val (.ref a1), .val (.int (0 : Int32))] [(.ref a1)] := Steps.trans c3 (by
        refine XS.ifYes X2.here hx rfl (pc0 := 4) (pc' := 16) rfl (hb hby d23_4) rfl ((if0 _ _).trans (teq (by decide : (0 : Int32) = (0 : Int32))).1) (by decide) (by decide) ?_
        refine XS.aloadN X2.here hx rfl (hb hby d23_16) rfl rfl ?_
        exact Steps.refl _)
    obtain ⟨T5, X5, e5, st5⟩ := getF X2 hx hZ hown (host := "") (Or.inl (W hw 25)) Via.refl eq2 V1 (g := (mkF m 17 #[.val (.ref a1), .val (.int (0 : Int32))] [(.ref a1)])) rfl rfl (hb hby d23_17)
    have c6 : SS p e below B0 T5 m 20 #[.val (.ref a1), .val (.int (0 : Int32))] [(.ref t1)] := Steps.trans c4 (st5 _ (Steps.refl _))
    have c7 : SS p e below B0 T5 m 21 #[.val (.ref a1), .val (.int (0 : Int32))] [(.int (0 : Int32)), (.ref t1)] := Steps.trans c6 (by
        refine XS.iloadN X5.here hx rfl (hb hby d23_20) rfl ?_
        exact Steps.refl _)
    obtain ⟨_, _, ⟨T8, Lp8, kp8, np8⟩, -, X8, ⟨Lc8, hQ8, lp8, yp8, zp8⟩, st8⟩ := Jvm.LawKit.callS X5 hx (y := (⟨"java/lang/StringUTF16", "charAt", "([BI)C"⟩ : MethodName)) hown (mvT hZ (W hw 112)) (mvT hZ (W hw 113)) (mvT hZ (W hw 64)) (mvT hZ (W hw 114)) (by decide) (backOf (W := 0) (rmUcA2_0 l Z a0 hw [] t1 k1 c0' c1' G3 h0 n0 (by omega) A1 O4 rG3 O7 O8 O9 X00 hc) hZ (W hw 114) (W hw 64) (by decide) (by decide)) (g := (mkF m 21 #[.val (.ref a1), .val (.int (0 : Int32))] [(.int (0 : Int32)), (.ref t1)])) rfl (by rw [hml]; rfl) (argsL := [(.ref t1), (.int (0 : Int32))]) (rest := []) (lenOf pd___BI_C rfl) rfl (by show 2 * 0 + _ ≤ _; exact Nat.le_of_eq rfl) (hb hby d23_21) (fun _ _ => ⟨rfl, e5, (by decide : 0 + 0 ≤ _), (by decide : 0 + 0 ≤ _)⟩)
    dsimp only [Pt.U, Pt.locs, Pt.cells, Pt.slots] at X8 lp8 yp8 zp8 st8 hQ8
    subst lp8 yp8 zp8
    obtain ⟨rfl, Nq8, eq8⟩ := hQ8
    have N8 := Fr.app N2 Nq8
    have c9 : SS p e below B0 T8 m 24 #[.val (.ref a1), .val (.int (0 : Int32))] [(.int (c0'))] := Steps.trans c7 (st8 _ (Steps.refl _))
    have hv := own_nar hc.1 hc.2
    obtain ⟨fs, hr, hrun, hended, hW, hsame⟩ := X8.leave (v := some (.int (nar .char c0'))) (fun h => by rw [Bd.returns] at h; cases h)
    subst hB0
    refine ⟨_, _, Steps.trans c9 ?_, hrun, hended, _, _, rfl, ?_, ⟨_, rfl⟩, hW, hsame.mono (by decide) (by decide)⟩
    · exact retN X8 hx (t := .char) Bd.returns (by simp) (hb hby d23_24) hr
    · show QChA2_0 c0' c1' h0 n0 _ T8.heap _
      rw [eq8]
      exact ⟨congrArg (fun z => some (Value.int z)) hv, N8, rfl⟩
def QUck2_1 (h0 : Heap) (n0 : Nat) (v : Option Value) (h : Heap) (L : List Loc) : Prop := v = none ∧ Fr n0 L ∧ h = h0
set_option maxRecDepth 65536 in
set_option maxHeartbeats 40000000 in
theorem rmUck2_1 (l : Launch) (Z : State) (a0 : Array Value) (hw : ∀ d ∈ tables_1, d.before a0 Z = true) (ws : List Jvm.Cond) (t1 : Addr) (k1 : ClassId) (vs : List Value) (G3 : Value) (h0 : Heap) (n0 : Nat) (Z0 : n0 ≤ h0.size) (A1 : Arv Z h0 t1 k1 .byte (4 : Int32) vs (.int (0 : Int32))) (O4 : Sta Z Z.heap "jdk/internal/util/Preconditions" "SIOOBE_FORMATTER" "Ljava/util/function/BiFunction;" G3) (rG3 : G3.isRef = true) (X00 : Old Z n0 h0) :
    MetFree l (⟨"java/lang/StringUTF16", "checkIndex", "(I[B)V"⟩ : MethodName) (head1 (Jvm.Cond.code (⟨"java/lang/StringUTF16", "checkIndex", "(I[B)V"⟩ : MethodName) jdk_52_method_91_code 2 none :: ws) ({ frames := 2, cells := 0, slots := 0, locals := 27 } : Room)) (fun a U => a = #[(.int (1 : Int32)), (.ref t1)] ∧ Z.Warmed39 U.vm ∧ U.heap = h0) (fun _ _ _ _ _ => True) (fun _ U o U' => ∃ v L, o = .returned v ∧ QUck2_1 h0 n0 v U'.heap L ∧ FrameEnd U o U' L ({ frames := 2, cells := 0, slots := 0, locals := 27 } : Room).cells ({ frames := 2, cells := 0, slots := 0, locals := 27 } : Room).slots) := by
  refine MetFree.of_bodySF (plainFor_of_name pn_java_lang_StringUTF16) hisR ?_
  intro p e s m args below meth c s₁ Bd hml0 hP hK
  obtain ⟨rfl, hZ, hh⟩ := hP
  have hx := Bd.exec
  have hby := Bd.bytes
  have hml : c.maxLocals = 2 := hml0
  have hown : s.vm.findClass "java/lang/StringUTF16" = some m.cls := findClass_of_methodNamed Bd.named
  have hnm := (name_of_methodNamed Bd.named Bd.method).1
  have X0 : Stand p l e ({ frames := 2, cells := 0, slots := 0, locals := 27 } : Room) s m #[(.int (1 : Int32)), (.ref t1)] below meth c s₁ [] 0 0 := Stand.of_body Bd
  have e0 : s₁.heap = h0 := by rw [← hh, Bd.state]; rfl
  have N0 := Fr.nil n0
  obtain ⟨B0, c0, hB0⟩ : ∃ B0, Steps p.tables e below B0 (s₁.setTop (mkF m 0 #[.val (.int (1 : Int32)), .val (.ref t1)] [])) ∧ B0 = s₁.setTop (entryFrame m #[(.int (1 : Int32)), (.ref t1)] 2) := ⟨_, castTop (ef_IR_2 m (1 : Int32) t1) (Steps.refl _), rfl⟩
  have c1 : SS p e below B0 s₁ m 2 #[.val (.int (1 : Int32)), .val (.ref t1)] [(.ref t1), (.int (1 : Int32))] := Steps.trans c0 (by
      refine XS.iloadN X0.here hx rfl (hb hby d20_0) rfl ?_
      refine XS.aloadN X0.here hx rfl (hb hby d20_1) rfl rfl ?_
      exact Steps.refl _)
  obtain ⟨_, _, ⟨T2, Lp2, kp2, np2⟩, -, X2, ⟨Lc2, hQ2, lp2, yp2, zp2⟩, st2⟩ := Jvm.LawKit.callS X0 hx (y := (⟨"java/lang/StringUTF16", "length", "([B)I"⟩ : MethodName)) hown (mvT hZ (W hw 118)) (mvT hZ (W hw 119)) (mvT hZ (W hw 64)) (mvT hZ (W hw 120)) (by decide) (backOf (W := 1) (rmUl2 l Z a0 hw [] t1 k1 vs h0 n0 (by omega) A1) hZ (W hw 120) (W hw 64) (by decide) (by decide)) (g := (mkF m 2 #[.val (.int (1 : Int32)), .val (.ref t1)] [(.ref t1), (.int (1 : Int32))])) rfl (by rw [hml]; rfl) (argsL := [(.ref t1)]) (rest := [(.int (1 : Int32))]) (lenOf pd___B_I rfl) rfl (by show 2 * 0 + _ ≤ _; exact Nat.le_of_eq rfl) (hb hby d20_2) (fun _ _ => ⟨rfl, e0, (by decide : 0 + 0 ≤ _), (by decide : 0 + 0 ≤ _)⟩)
  dsimp only [Pt.U, Pt.locs, Pt.cells, Pt.slots] at X2 lp2 yp2 zp2 st2 hQ2
  subst lp2 yp2 zp2
  obtain ⟨rfl, Nq2, eq2⟩ := hQ2
  have N2 := Fr.app N0 Nq2
  have c3 : SS p e below B0 T2 m 5 #[.val (.int (1 : Int32)), .val (.ref t1)] [(.int (2 : Int32)), (.int (1 : Int32))] := Steps.trans c1 (st2 _ (Steps.refl _))
  obtain ⟨_, _, ⟨T4, Lp4, kp4, np4⟩, -, X4, ⟨Lc4, hQ4, lp4, yp4, zp4⟩, st4⟩ := Jvm.LawKit.callS X2 hx (y := (⟨"java/lang/String", "checkIndex", "(II)V"⟩ : MethodName)) hown (mvT hZ (W hw 121)) (mvT hZ (W hw 86)) (mvT hZ (W hw 8)) (mvT hZ (W hw 87)) (by decide) (backOf (W := 0) (rmCk l Z a0 hw [] 1 2 G3 h0 n0 (by omega) (by decide) (by decide) O4 rG3 X00) hZ (W hw 87) (W hw 8) (by decide) (by decide)) (g := (mkF m 5 #[.val (.int (1 : Int32)), .val (.ref t1)] [(.int (2 : Int32)), (.int (1 : Int32))])) rfl (by rw [hml]; rfl) (argsL := [(.int (1 : Int32)), (.int (2 : Int32))]) (rest := []) (lenOf pd__II_V rfl) rfl (by show 2 * 0 + _ ≤ _; exact Nat.le_of_eq rfl) (hb hby d20_5) (fun _ _ => ⟨rfl, eq2, (by decide : 0 + 0 ≤ _), (by decide : 0 + 0 ≤ _)⟩)
  dsimp only [Pt.U, Pt.locs, Pt.cells, Pt.slots] at X4 lp4 yp4 zp4 st4 hQ4
  subst lp4 yp4 zp4
  obtain ⟨rfl, Nq4, eq4⟩ := hQ4
  have N4 := Fr.app N2 Nq4
  have c5 : SS p e below B0 T4 m 8 #[.val (.int (1 : Int32)), .val (.ref t1)] [] := Steps.trans c3 (st4 _ (Steps.refl _))
  obtain ⟨fs, hr, hrun, hended, hW, hsame⟩ := X4.leave (v := none) (fun _ => rfl)
  subst hB0
  refine ⟨_, _, Steps.trans c5 ?_, hrun, hended, _, _, rfl, ?_, ⟨_, rfl⟩, hW, hsame.mono (by decide) (by decide)⟩
  · exact X4.returnOut hx Bd.returns (hb hby d20_8) hr
  · show QUck2_1 h0 n0 _ T4.heap _
    rw [eq4]
    exact ⟨rfl, N4, rfl⟩
def QLcA2_1 (c0' c1' : Int32) (h0 : Heap) (n0 : Nat) (v : Option Value) (h : Heap) (L : List Loc) : Prop := v = some (.int c1') ∧ Fr n0 L ∧ h = h0
set_option maxRecDepth 65536 in
set_option maxHeartbeats 40000000 in
theorem rmLcA2_1 (l : Launch) (Z : State) (a0 : Array Value) (hw : ∀ d ∈ tables_1, d.before a0 Z = true) (ws : List Jvm.Cond) (t1 : Addr) (k1 : ClassId) (c0' c1' : Int32) (G3 : Value) (h0 : Heap) (n0 : Nat) (Z0 : n0 ≤ h0.size) (A1 : Arv Z h0 t1 k1 .byte (2 : Int32) [(.int (nar .byte (c0'.toInt8.toInt32))), (.int (nar .byte (c1'.toInt8.toInt32)))] (.int (0 : Int32))) (O4 : Sta Z Z.heap "jdk/internal/util/Preconditions" "SIOOBE_FORMATTER" "Ljava/util/function/BiFunction;" G3) (rG3 : G3.isRef = true) (X00 : Old Z n0 h0) (hc : ¬ c1' < 0 ∧ ¬ (65535 : Int32) < c1') (hl : ¬ (255 : Int32) < c1') :
    MetFree l (⟨"java/lang/StringLatin1", "charAt", "([BI)C"⟩ : MethodName) (head1 (Jvm.Cond.code (⟨"java/lang/StringLatin1", "charAt", "([BI)C"⟩ : MethodName) jdk_43_method_2_code 2 (some .char) :: ws) ({ frames := 2, cells := 0, slots := 0, locals := 27 } : Room)) (fun a U => a = #[(.ref t1), (.int (1 : Int32))] ∧ Z.Warmed39 U.vm ∧ U.heap = h0) (fun _ _ _ _ _ => True) (fun _ U o U' => ∃ v L, o = .returned v ∧ QLcA2_1 c0' c1' h0 n0 v U'.heap L ∧ FrameEnd U o U' L ({ frames := 2, cells := 0, slots := 0, locals := 27 } : Room).cells ({ frames := 2, cells := 0, slots := 0, locals := 27 } : Room).slots) := by
  refine MetFree.of_bodySF (plainFor_of_name pn_java_lang_StringLatin1) hisR ?_
  intro p e s m args below meth c s₁ Bd hml0 hP hK
  obtain ⟨rfl, hZ, hh⟩ := hP
  have hx := Bd.exec
  have hby := Bd.bytes
  have hml : c.maxLocals = 2 := hml0
  have hown : s.vm.findClass "java/lang/StringLatin1" = some m.cls := findClass_of_methodNamed Bd.named
  have hnm := (name_of_methodNamed Bd.named Bd.method).1
  have X0 : Stand p l e ({ frames := 2, cells := 0, slots := 0, locals := 27 } : Room) s m #[(.ref t1), (.int (1 : Int32))] below meth c s₁ [] 0 0 := Stand.of_body Bd
  have e0 : s₁.heap = h0 := by rw [← hh, Bd.state]; rfl
  have N0 := Fr.nil n0
  obtain ⟨B0, c0, hB0⟩ : ∃ B0, Steps p.tables e below B0 (s₁.setTop (mkF m 0 #[.val (.ref t1), .val (.int (1 : Int32))] [])) ∧ B0 = s₁.setTop (entryFrame m #[(.ref t1), (.int (1 : Int32))] 2) := ⟨_, castTop (ef_RI_2 m t1 (1 : Int32)) (Steps.refl _), rfl⟩
  have c1 : SS p e below B0 s₁ m 2 #[.val (.ref t1), .val (.int (1 : Int32))] [(.ref t1), (.int (1 : Int32))] := Steps.trans c0 (by
      refine XS.iloadN X0.here hx rfl (hb hby d21_0) rfl ?_
      refine XS.aloadN X0.here hx rfl (hb hby d21_1) rfl rfl ?_
      exact Steps.refl _)
  obtain ⟨cl2, Ar2, q2, Sz2, M2, Hs2, U2⟩ := id A1
  have c3 : SS p e below B0 s₁ m 3 #[.val (.ref t1), .val (.int (1 : Int32))] [(.int (2 : Int32)), (.int (1 : Int32))] := Steps.trans c1 (by
      refine X0.arraylength hx (by rw [e0]; exact Ar2.1) (State.isArrayOf_alike hZ.alike Ar2.2.1) (g := (mkF m 2 #[.val (.ref t1), .val (.int (1 : Int32))] [(.ref t1), (.int (1 : Int32))])) rfl rfl (hb hby d21_2) _ ?_
      rw [len_of Sz2 M2]
      exact Steps.refl _)
  obtain ⟨_, _, ⟨T4, Lp4, kp4, np4⟩, -, X4, ⟨Lc4, hQ4, lp4, yp4, zp4⟩, st4⟩ := Jvm.LawKit.callS X0 hx (y := (⟨"java/lang/String", "checkIndex", "(II)V"⟩ : MethodName)) hown (mvT hZ (W hw 85)) (mvT hZ (W hw 86)) (mvT hZ (W hw 8)) (mvT hZ (W hw 87)) (by decide) (backOf (W := 0) (rmCk l Z a0 hw [] 1 2 G3 h0 n0 (by omega) (by decide) (by decide) O4 rG3 X00) hZ (W hw 87) (W hw 8) (by decide) (by decide)) (g := (mkF m 3 #[.val (.ref t1), .val (.int (1 : Int32))] [(.int (2 : Int32)), (.int (1 : Int32))])) rfl (by rw [hml]; rfl) (argsL := [(.int (1 : Int32)), (.int (2 : Int32))]) (rest := []) (lenOf pd__II_V rfl) rfl (by show 2 * 0 + _ ≤ _; exact Nat.le_of_eq rfl) (hb hby d21_3) (fun _ _ => ⟨rfl, e0, (by decide : 0 + 0 ≤ _), (by decide : 0 + 0 ≤ _)⟩)
  dsimp only [Pt.U, Pt.locs, Pt.cells, Pt.slots] at X4 lp4 yp4 zp4 st4 hQ4
  subst lp4 yp4 zp4
  obtain ⟨rfl, Nq4, eq4⟩ := hQ4
  have N4 := Fr.app N0 Nq4
  have c5 : SS p e below B0 T4 m 6 #[.val (.ref t1), .val (.int (1 : Int32))] [] := Steps.trans c3 (st4 _ (Steps.refl _))
  have c6 : SS p e below B0 T4 m 8 #[.val (.ref t1), .val (.int (1 : Int32))] [(.int (1 : Int32)), (.ref t1)] := Steps.trans c5 (by
      refine XS.aloadN X4.here hx rfl (hb hby d21_6) rfl rfl ?_
      refine XS.iloadN X4.here hx rfl (hb hby d21_7) rfl ?_
      exact Steps.refl _)
  obtain ⟨cl7, Ar7, q7, Sz7, M7, Hs7, U7⟩ := id A1
  have in7 := inb_of (j := (1 : Int32)) Sz7 ⟨(by decide), (by decide)⟩
  have c8 : SS p e below B0 T4 m 9 #[.val (.ref t1), .val (.int (1 : Int32))] [(.int (nar .byte (c1'.toInt8.toInt32)))] := Steps.trans c6 (by
      refine X4.baloadBytes hx (j := (1 : Int32)) (v := (.int (nar .byte (c1'.toInt8.toInt32)))) (by rw [eq4]; exact Ar7.1) (State.isArrayOf_alike hZ.alike Ar7.2.1) Ar7.2.2 in7 (Hs7.at in7 rfl) (g := (mkF m 8 #[.val (.ref t1), .val (.int (1 : Int32))] [(.int (1 : Int32)), (.ref t1)])) rfl rfl (hb hby d21_8) _ ?_
      exact Steps.refl _)
  have c9 : SS p e below B0 T4 m 14 #[.val (.ref t1), .val (.int (1 : Int32))] [(.int (((nar .byte (c1'.toInt8.toInt32)) &&& (255 : Int32)).toUInt32.toUInt16.toUInt32.toInt32))] := Steps.trans c8 (by
      refine XT.sipushV X4.here hx rfl (255 : Int32) (hb hby d21_9) (by decide) ?_
      refine XS.iand X4.here hx rfl (hb hby d21_12) rfl ?_
      refine XS.i2c X4.here hx rfl (hb hby d21_13) rfl ?_
      exact Steps.refl _)
  have hv := own_lat hc.1 hl
  obtain ⟨fs, hr, hrun, hended, hW, hsame⟩ := X4.leave (v := some (.int (nar .char (((nar .byte (c1'.toInt8.toInt32)) &&& (255 : Int32)).toUInt32.toUInt16.toUInt32.toInt32)))) (fun h => by rw [Bd.returns] at h; cases h)
  subst hB0
  refine ⟨_, _, Steps.trans c9 ?_, hrun, hended, _, _, rfl, ?_, ⟨_, rfl⟩, hW, hsame.mono (by decide) (by decide)⟩
  · exact retN X4 hx (t := .char) Bd.returns (by simp) (hb hby d21_14) hr
  · show QLcA2_1 c0' c1' h0 n0 _ T4.heap _
    rw [eq4]
    exact ⟨congrArg (fun z => some (Value.int z)) hv, N4, rfl⟩
def QUcA2_1 (c0' c1' : Int32) (h0 : Heap) (n0 : Nat) (v : Option Value) (h : Heap) (L : List Loc) : Prop := v = some (.int c1') ∧ Fr n0 L ∧ h = h0
set_option maxRecDepth 65536 in
set_option maxHeartbeats 40000000 in
theorem rmUcA2_1 (l : Launch) (Z : State) (a0 : Array Value) (hw : ∀ d ∈ tables_1, d.before a0 Z = true) (ws : List Jvm.Cond) (t1 : Addr) (k1 : ClassId) (c0' c1' : Int32) (G3 : Value) (h0 : Heap) (n0 : Nat) (Z0 : n0 ≤ h0.size) (A1 : Arv Z h0 t1 k1 .byte (4 : Int32) [(.int (nar .byte ((c0' >>> ((0 : Int32) &&& 31)).toInt8.toInt32))), (.int (nar .byte ((c0' >>> ((8 : Int32) &&& 31)).toInt8.toInt32))), (.int (nar .byte ((c1' >>> ((0 : Int32) &&& 31)).toInt8.toInt32))), (.int (nar .byte ((c1' >>> ((8 : Int32) &&& 31)).toInt8.toInt32)))] (.int (0 : Int32))) (O4 : Sta Z Z.heap "jdk/internal/util/Preconditions" "SIOOBE_FORMATTER" "Ljava/util/function/BiFunction;" G3) (rG3 : G3.isRef = true) (O7 : Sta Z Z.heap "java/lang/StringUTF16" "$assertionsDisabled" "Z" (.int (1 : Int32))) (O8 : Sta Z Z.heap "java/lang/StringUTF16" "HI_BYTE_SHIFT" "I" (.int (0 : Int32))) (O9 : Sta Z Z.heap "java/lang/StringUTF16" "LO_BYTE_SHIFT" "I" (.int (8 : Int32))) (X00 : Old Z n0 h0) (hc : ¬ c1' < 0 ∧ ¬ (65535 : Int32) < c1') :
    MetFree l (⟨"java/lang/StringUTF16", "charAt", "([BI)C"⟩ : MethodName) (head1 (Jvm.Cond.code (⟨"java/lang/StringUTF16", "charAt", "([BI)C"⟩ : MethodName) jdk_52_method_83_code 2 (some .char) :: ws) ({ frames := 3, cells := 0, slots := 0, locals := 40 } : Room)) (fun a U => a = #[(.ref t1), (.int (1 : Int32))] ∧ Z.Warmed39 U.vm ∧ U.heap = h0) (fun _ _ _ _ _ => True) (fun _ U o U' => ∃ v L, o = .returned v ∧ QUcA2_1 c0' c1' h0 n0 v U'.heap L ∧ FrameEnd U o U' L ({ frames := 3, cells := 0, slots := 0, locals := 40 } : Room).cells ({ frames := 3, cells := 0, slots := 0, locals := 40 } : Room).slots) := by
  refine MetFree.of_bodySF (plainFor_of_name pn_java_lang_StringUTF16) hisR ?_
  intro p e s m args below meth c s₁ Bd hml0 hP hK
  obtain ⟨rfl, hZ, hh⟩ := hP
  have hx := Bd.exec
  have hby := Bd.bytes
  have hml : c.maxLocals = 2 := hml0
  have hown : s.vm.findClass "java/lang/StringUTF16" = some m.cls := findClass_of_methodNamed Bd.named
  have hnm := (name_of_methodNamed Bd.named Bd.method).1
  have X0 : Stand p l e ({ frames := 3, cells := 0, slots := 0, locals := 40 } : Room) s m #[(.ref t1), (.int (1 : Int32))] below meth c s₁ [] 0 0 := Stand.of_body Bd
  have e0 : s₁.heap = h0 := by rw [← hh, Bd.state]; rfl
  have N0 := Fr.nil n0
  obtain ⟨B0, c0, hB0⟩ : ∃ B0, Steps p.tables e below B0 (s₁.setTop (mkF m 0 #[.val (.ref t1), .val (.int (1 : Int32))] [])) ∧ B0 = s₁.setTop (entryFrame m #[(.ref t1), (.int (1 : Int32))] 2) := ⟨_, castTop (ef_RI_2 m t1 (1 : Int32)) (Steps.refl _), rfl⟩
  have c1 : SS p e below B0 s₁ m 2 #[.val (.ref t1), .val (.int (1 : Int32))] [(.ref t1), (.int (1 : Int32))] := Steps.trans c0 (by
      refine XS.iloadN X0.here hx rfl (hb hby d22_0) rfl ?_
      refine XS.aloadN X0.here hx rfl (hb hby d22_1) rfl rfl ?_
      exact Steps.refl _)
  obtain ⟨_, _, ⟨T2, Lp2, kp2, np2⟩, -, X2, ⟨Lc2, hQ2, lp2, yp2, zp2⟩, st2⟩ := Jvm.LawKit.callS X0 hx (y := (⟨"java/lang/StringUTF16", "checkIndex", "(I[B)V"⟩ : MethodName)) hown (mvT hZ (W hw 115)) (mvT hZ (W hw 116)) (mvT hZ (W hw 64)) (mvT hZ (W hw 117)) (by decide) (backOf (W := 0) (rmUck2_1 l Z a0 hw [] t1 k1 _ G3 h0 n0 (by omega) A1 O4 rG3 X00) hZ (W hw 117) (W hw 64) (by decide) (by decide)) (g := (mkF m 2 #[.val (.ref t1), .val (.int (1 : Int32))] [(.ref t1), (.int (1 : Int32))])) rfl (by rw [hml]; rfl) (argsL := [(.int (1 : Int32)), (.ref t1)]) (rest := []) (lenOf pd__I_B_V rfl) rfl (by show 2 * 0 + _ ≤ _; exact Nat.le_of_eq rfl) (hb hby d22_2) (fun _ _ => ⟨rfl, e0, (by decide : 0 + 0 ≤ _), (by decide : 0 + 0 ≤ _)⟩)
  dsimp only [Pt.U, Pt.locs, Pt.cells, Pt.slots] at X2 lp2 yp2 zp2 st2 hQ2
  subst lp2 yp2 zp2
  obtain ⟨rfl, Nq2, eq2⟩ := hQ2
  have N2 := Fr.app N0 Nq2
  have c3 : SS p e below B0 T2 m 5 #[.val (.ref t1), .val (.int (1 : Int32))] [] := Steps.trans c1 (st2 _ (Steps.refl _))
  have c4 : SS p e below B0 T2 m 7 #[.val (.ref t1), .val (.int (1 : Int32))] [(.int (1 : Int32)), (.ref t1)] := Steps.trans c3 (by
      refine XS.aloadN X2.here hx rfl (hb hby d22_5) rfl rfl ?_
      refine XS.iloadN X2.here hx rfl (hb hby d22_6) rfl ?_
      exact Steps.refl _)
  obtain ⟨_, _, ⟨T5, Lp5, kp5, np5⟩, -, X5, ⟨Lc5, hQ5, lp5, yp5, zp5⟩, st5⟩ := Jvm.LawKit.callS X2 hx (y := (⟨"java/lang/StringUTF16", "getChar", "([BI)C"⟩ : MethodName)) hown (mvT hZ (W hw 109)) (mvT hZ (W hw 110)) (mvT hZ (W hw 64)) (mvT hZ (W hw 111)) (by decide) (backOf (W := 0) (rmGet2_1 l Z a0 hw [] t1 k1 c0' c1' h0 n0 (by omega) O7 O8 O9 X00 A1 hc) hZ (W hw 111) (W hw 64) (by decide) (by decide)) (g := (mkF m 7 #[.val (.ref t1), .val (.int (1 : Int32))] [(.int (1 : Int32)), (.ref t1)])) rfl (by rw [hml]; rfl) (argsL := [(.ref t1), (.int (1 : Int32))]) (rest := []) (lenOf pd___BI_C rfl) rfl (by show 2 * 0 + _ ≤ _; exact Nat.le_of_eq rfl) (hb hby d22_7) (fun _ _ => ⟨rfl, eq2, (by decide : 0 + 0 ≤ _), (by decide : 0 + 0 ≤ _)⟩)
  dsimp only [Pt.U, Pt.locs, Pt.cells, Pt.slots] at X5 lp5 yp5 zp5 st5 hQ5
  subst lp5 yp5 zp5
  obtain ⟨rfl, Nq5, eq5⟩ := hQ5
  have N5 := Fr.app N2 Nq5
  have c6 : SS p e below B0 T5 m 10 #[.val (.ref t1), .val (.int (1 : Int32))] [(.int (c1'))] := Steps.trans c4 (st5 _ (Steps.refl _))
  have hv := own_nar hc.1 hc.2
  obtain ⟨fs, hr, hrun, hended, hW, hsame⟩ := X5.leave (v := some (.int (nar .char c1'))) (fun h => by rw [Bd.returns] at h; cases h)
  subst hB0
  refine ⟨_, _, Steps.trans c6 ?_, hrun, hended, _, _, rfl, ?_, ⟨_, rfl⟩, hW, hsame.mono (by decide) (by decide)⟩
  · exact retN X5 hx (t := .char) Bd.returns (by simp) (hb hby d22_10) hr
  · show QUcA2_1 c0' c1' h0 n0 _ T5.heap _
    rw [eq5]
    exact ⟨congrArg (fun z => some (Value.int z)) hv, N5, rfl⟩
def QChA2_1 (c0' c1' : Int32) (h0 : Heap) (n0 : Nat) (v : Option Value) (h : Heap) (L : List Loc) : Prop := v = some (.int c1') ∧ Fr n0 L ∧ h = h0
set_option maxRecDepth 65536 in
set_option maxHeartbeats 40000000 in
theorem rmChA2_1 (l : Launch) (Z : State) (a0 : Array Value) (hw : ∀ d ∈ tables_1, d.before a0 Z = true) (ws : List Jvm.Cond) (a1 t1 : Addr) (k1 : ClassId) (c0' c1' : Int32) (cd N_ : Int32) (vs : List Value) (G1 : Int32) (G3 : Value) (h0 : Heap) (n0 : Nat) (Z0 : n0 ≤ h0.size) (E1 : Exa Z h0 a1 "java/lang/String") (V1 : Fld Z h0 a1 "java/lang/String" "value" "[B" (.ref t1)) (C1 : Fld Z h0 a1 "java/lang/String" "coder" "B" (.int cd)) (A1 : Arv Z h0 t1 k1 .byte N_ vs (.int (0 : Int32))) (spl : Spl2 c0' c1' cd N_ vs) (O2 : Sta Z Z.heap "java/lang/String" "COMPACT_STRINGS" "Z" (.int G1)) (P5 : ¬ (G1 = (0 : Int32))) (O4 : Sta Z Z.heap "jdk/internal/util/Preconditions" "SIOOBE_FORMATTER" "Ljava/util/function/BiFunction;" G3) (rG3 : G3.isRef = true) (O7 : Sta Z Z.heap "java/lang/StringUTF16" "$assertionsDisabled" "Z" (.int (1 : Int32))) (O8 : Sta Z Z.heap "java/lang/StringUTF16" "HI_BYTE_SHIFT" "I" (.int (0 : Int32))) (O9 : Sta Z Z.heap "java/lang/StringUTF16" "LO_BYTE_SHIFT" "I" (.int (8 : Int32))) (X00 : Old Z n0 h0) (hc : ¬ c1' < 0 ∧ ¬ (65535 : Int32) < c1') :
    MetFree l (⟨"java/lang/String", "charAt", "(I)C"⟩ : MethodName) (head1 (Jvm.Cond.code (⟨"java/lang/String", "charAt", "(I)C"⟩ : MethodName) jdk_42_method_56_code 2 (some .char) :: ws) ({ frames := 4, cells := 0, slots := 0, locals := 54 } : Room)) (fun a U => a = #[(.ref a1), (.int (1 : Int32))] ∧ Z.Warmed39 U.vm ∧ U.heap = h0) (fun _ _ _ _ _ => True) (fun _ U o U' => ∃ v L, o = .returned v ∧ QChA2_1 c0' c1' h0 n0 v U'.heap L ∧ FrameEnd U o U' L ({ frames := 4, cells := 0, slots := 0, locals := 54 } : Room).cells ({ frames := 4, cells := 0, slots := 0, locals := 54 } : Room).slots) := by
  refine MetFree.of_bodySF (plainFor_of_name pn_java_lang_String) hisR ?_
  intro p e s m args below meth c s₁ Bd hml0 hP hK
  obtain ⟨rfl, hZ, hh⟩ := hP
  have hx := Bd.exec
  have hby := Bd.bytes
  have hml : c.maxLocals = 2 := hml0
  have hown : s.vm.findClass "java/lang/String" = some m.cls := findClass_of_methodNamed Bd.named
  have hnm := (name_of_methodNamed Bd.named Bd.method).1
  have X0 : Stand p l e ({ frames := 4, cells := 0, slots := 0, locals := 54 } : Room) s m #[(.ref a1), (.int (1 : Int32))] below meth c s₁ [] 0 0 := Stand.of_body Bd
  have e0 : s₁.heap = h0 := by rw [← hh, Bd.state]; rfl
  have N0 := Fr.nil n0
  obtain ⟨B0, c0, hB0⟩ : ∃ B0, Steps p.tables e below B0 (s₁.setTop (mkF m 0 #[.val (.ref a1), .val (.int (1 : Int32))] [])) ∧ B0 = s₁.setTop (entryFrame m #[(.ref a1), (.int (1 : Int32))] 2) := ⟨_, castTop (ef_RI_2 m a1 (1 : Int32)) (Steps.refl _), rfl⟩
  have lt_a1 : (@LT.lt Nat _ a1 h0.size) := E1.lt
  rcases spl with ⟨rfl, rfl, rfl, hl0, hl1⟩ | ⟨rfl, rfl, rfl⟩
  · have hdummy := Z0
    have c1 : SS p e below B0 s₁ m 1 #[.val (.ref a1), .val (.int (1 : Int32))] [(.ref a1)] := Steps.trans c0 (by
        refine XS.aloadN X0.here hx rfl (hb hby d23_0) rfl rfl ?_
        exact Steps.refl _)
    obtain ⟨cq2, kq2, qa2, qb2, qc2⟩ := isOf hZ e0 E1
    obtain ⟨_, _, ⟨T2, Lp2, kp2, np2⟩, -, X2, ⟨Lc2, hQ2, lp2, yp2, zp2⟩, st2⟩ := X0.virtualBack hx (y := (⟨"java/lang/String", "isLatin1", "()Z"⟩ : MethodName)) (z := (⟨"java/lang/String", "isLatin1", "()Z"⟩ : MethodName)) hown (mvT hZ (W hw 77)) (mvT hZ (W hw 78)) (notFace_of_selects (args := #[]) (mvT hZ (W hw 80))) (mvT hZ (W hw 80)) (mvT hZ (W hw 79)) (by decide) (backOf (W := 0) (rmIsL0 l Z a0 hw [] a1 G1 h0 n0 (by omega) C1 O2 P5 X00) hZ (W hw 81) (W hw 8) (by decide) (by decide)) qa2 qc2 (g := (mkF m 1 #[.val (.ref a1), .val (.int (1 : Int32))] [(.ref a1)])) rfl (by rw [hml]; rfl) c1 (argsL := []) (rest := []) (lenOf pd___Z rfl) rfl (by show 2 * 0 + _ ≤ _; exact Nat.le_of_eq rfl) (hb hby d23_1) (fun _ _ => ⟨rfl, e0, (by decide : 0 + 0 ≤ _), (by decide : 0 + 0 ≤ _)⟩)
    dsimp only [Pt.U, Pt.locs, Pt.cells, Pt.slots] at X2 lp2 yp2 zp2 st2 hQ2
    subst lp2 yp2 zp2
    obtain ⟨rfl, Nq2, eq2⟩ := hQ2
    have N2 := Fr.app N0 Nq2
    have c3 : SS p e below B0 T2 m 4 #[.val (.ref a1), .val (.int (1 : Int32))] [(.int (1 : Int32))] := st2
    have c4 : SS p e below B0 T2 m 8 #[.val (.ref a1), .val (.int (1 : Int32))] [(.ref a1)] := Steps.trans c3 (by
        refine XS.ifNo X2.here hx rfl (hb hby d23_4) rfl ((if0 _ _).trans (feq (by decide : ¬ (1 : Int32) = (0 : Int32))).1) ?_
        refine XS.aloadN X2.here hx rfl (hb hby d23_7) rfl rfl ?_
        exact Steps.refl _)
    obtain ⟨T5, X5, e5, st5⟩ := getF X2 hx hZ hown (host := "") (Or.inl (W hw 25)) Via.refl eq2 V1 (g := (mkF m 8 #[.val (.ref a1), .val (.int (1 : Int32))] [(.ref a1)])) rfl rfl (hb hby d23_8)
    have c6 : SS p e below B0 T5 m 11 #[.val (.ref a1), .val (.int (1 : Int32))] [(.ref t1)] := Steps.trans c4 (st5 _ (Steps.refl _))
    have c7 : SS p e below B0 T5 m 12 #[.val (.ref a1), .val (.int (1 : Int32))] [(.int (1 : Int32)), (.ref t1)] := Steps.trans c6 (by
        refine XS.iloadN X5.here hx rfl (hb hby d23_11) rfl ?_
        exact Steps.refl _)
    obtain ⟨_, _, ⟨T8, Lp8, kp8, np8⟩, -, X8, ⟨Lc8, hQ8, lp8, yp8, zp8⟩, st8⟩ := Jvm.LawKit.callS X5 hx (y := (⟨"java/lang/StringLatin1", "charAt", "([BI)C"⟩ : MethodName)) hown (mvT hZ (W hw 82)) (mvT hZ (W hw 83)) (mvT hZ (W hw 33)) (mvT hZ (W hw 84)) (by decide) (backOf (W := 0) (rmLcA2_1 l Z a0 hw [] t1 k1 c0' c1' G3 h0 n0 (by omega) A1 O4 rG3 X00 hc hl1) hZ (W hw 84) (W hw 33) (by decide) (by decide)) (g := (mkF m 12 #[.val (.ref a1), .val (.int (1 : Int32))] [(.int (1 : Int32)), (.ref t1)])) rfl (by rw [hml]; rfl) (argsL := [(.ref t1), (.int (1 : Int32))]) (rest := []) (lenOf pd___BI_C rfl) rfl (by show 2 * 0 + _ ≤ _; exact Nat.le_of_eq rfl) (hb hby d23_12) (fun _ _ => ⟨rfl, e5, (by decide : 0 + 0 ≤ _), (by decide : 0 + 0 ≤ _)⟩)
    dsimp only [Pt.U, Pt.locs, Pt.cells, Pt.slots] at X8 lp8 yp8 zp8 st8 hQ8
    subst lp8 yp8 zp8
    obtain ⟨rfl, Nq8, eq8⟩ := hQ8
    have N8 := Fr.app N2 Nq8
    have c9 : SS p e below B0 T8 m 15 #[.val (.ref a1), .val (.int (1 : Int32))] [(.int (c1'))] := Steps.trans c7 (st8 _ (Steps.refl _))
    have hv := own_nar hc.1 hc.2
    obtain ⟨fs, hr, hrun, hended, hW, hsame⟩ := X8.leave (v := some (.int (nar .char c1'))) (fun h => by rw [Bd.returns] at h; cases h)
    subst hB0
    refine ⟨_, _, Steps.trans c9 ?_, hrun, hended, _, _, rfl, ?_, ⟨_, rfl⟩, hW, hsame.mono (by decide) (by decide)⟩
    · exact retN X8 hx (t := .char) Bd.returns (by simp) (hb hby d23_15) hr
    · show QChA2_1 c0' c1' h0 n0 _ T8.heap _
      rw [eq8]
      exact ⟨congrArg (fun z => some (Value.int z)) hv, N8, rfl⟩
  · have hdummy := Z0
    have c1 : SS p e below B0 s₁ m 1 #[.val (.ref a1), .val (.int (1 : Int32))] [(.ref a1)] := Steps.trans c0 (by
        refine XS.aloadN X0.here hx rfl (hb hby d23_0) rfl rfl ?_
        exact Steps.refl _)
    obtain ⟨cq2, kq2, qa2, qb2, qc2⟩ := isOf hZ e0 E1
    obtain ⟨_, _, ⟨T2, Lp2, kp2, np2⟩, -, X2, ⟨Lc2, hQ2, lp2, yp2, zp2⟩, st2⟩ := X0.virtualBack hx (y := (⟨"java/lang/String", "isLatin1", "()Z"⟩ : MethodName)) (z := (⟨"java/lang/String", "isLatin1", "()Z"⟩ : MethodName)) hown (mvT hZ (W hw 77)) (mvT hZ (W hw 78)) (notFace_of_selects (args := #[]) (mvT hZ (W hw 80))) (mvT hZ (W hw 80)) (mvT hZ (W hw 79)) (by decide) (backOf (W := 0) (rmIsL1 l Z a0 hw [] a1 G1 h0 n0 (by omega) C1 O2 P5 X00) hZ (W hw 81) (W hw 8) (by decide) (by decide)) qa2 qc2 (g := (mkF m 1 #[.val (.ref a1), .val (.int (1 : Int32))] [(.ref a1)])) rfl (by rw [hml]; rfl) c1 (argsL := []) (rest := []) (lenOf pd___Z rfl) rfl (by show 2 * 0 + _ ≤ _; exact Nat.le_of_eq rfl) (hb hby d23_1) (fun _ _ => ⟨rfl, e0, (by decide : 0 + 0 ≤ _), (by decide : 0 + 0 ≤ _)⟩)
    dsimp only [Pt.U, Pt.locs, Pt.cells, Pt.slots] at X2 lp2 yp2 zp2 st2 hQ2
    subst lp2 yp2 zp2
    obtain ⟨rfl, Nq2, eq2⟩ := hQ2
    have N2 := Fr.app N0 Nq2
    have c3 : SS p e below B0 T2 m 4 #[.val (.ref a1), .val (.int (1 : Int32))] [(.int (0 : Int32))] := st2
    have c4 : SS p e below B0 T2 m 17 #[.val (.ref a1), .val (.int (1 : Int32))] [(.ref a1)] := Steps.trans c3 (by
        refine XS.ifYes X2.here hx rfl (pc0 := 4) (pc' := 16) rfl (hb hby d23_4) rfl ((if0 _ _).trans (teq (by decide : (0 : Int32) = (0 : Int32))).1) (by decide) (by decide) ?_
        refine XS.aloadN X2.here hx rfl (hb hby d23_16) rfl rfl ?_
        exact Steps.refl _)
    obtain ⟨T5, X5, e5, st5⟩ := getF X2 hx hZ hown (host := "") (Or.inl (W hw 25)) Via.refl eq2 V1 (g := (mkF m 17 #[.val (.ref a1), .val (.int (1 : Int32))] [(.ref a1)])) rfl rfl (hb hby d23_17)
    have c6 : SS p e below B0 T5 m 20 #[.val (.ref a1), .val (.int (1 : Int32))] [(.ref t1)] := Steps.trans c4 (st5 _ (Steps.refl _))
    have c7 : SS p e below B0 T5 m 21 #[.val (.ref a1), .val (.int (1 : Int32))] [(.int (1 : Int32)), (.ref t1)] := Steps.trans c6 (by
        refine XS.iloadN X5.here hx rfl (hb hby d23_20) rfl ?_
        exact Steps.refl _)
    obtain ⟨_, _, ⟨T8, Lp8, kp8, np8⟩, -, X8, ⟨Lc8, hQ8, lp8, yp8, zp8⟩, st8⟩ := Jvm.LawKit.callS X5 hx (y := (⟨"java/lang/StringUTF16", "charAt", "([BI)C"⟩ : MethodName)) hown (mvT hZ (W hw 112)) (mvT hZ (W hw 113)) (mvT hZ (W hw 64)) (mvT hZ (W hw 114)) (by decide) (backOf (W := 0) (rmUcA2_1 l Z a0 hw [] t1 k1 c0' c1' G3 h0 n0 (by omega) A1 O4 rG3 O7 O8 O9 X00 hc) hZ (W hw 114) (W hw 64) (by decide) (by decide)) (g := (mkF m 21 #[.val (.ref a1), .val (.int (1 : Int32))] [(.int (1 : Int32)), (.ref t1)])) rfl (by rw [hml]; rfl) (argsL := [(.ref t1), (.int (1 : Int32))]) (rest := []) (lenOf pd___BI_C rfl) rfl (by show 2 * 0 + _ ≤ _; exact Nat.le_of_eq rfl) (hb hby d23_21) (fun _ _ => ⟨rfl, e5, (by decide : 0 + 0 ≤ _), (by decide : 0 + 0 ≤ _)⟩)
    dsimp only [Pt.U, Pt.locs, Pt.cells, Pt.slots] at X8 lp8 yp8 zp8 st8 hQ8
    subst lp8 yp8 zp8
    obtain ⟨rfl, Nq8, eq8⟩ := hQ8
    have N8 := Fr.app N2 Nq8
    have c9 : SS p e below B0 T8 m 24 #[.val (.ref a1), .val (.int (1 : Int32))] [(.int (c1'))] := Steps.trans c7 (st8 _ (Steps.refl _))
    have hv := own_nar hc.1 hc.2
    obtain ⟨fs, hr, hrun, hended, hW, hsame⟩ := X8.leave (v := some (.int (nar .char c1'))) (fun h => by rw [Bd.returns] at h; cases h)
    subst hB0
    refine ⟨_, _, Steps.trans c9 ?_, hrun, hended, _, _, rfl, ?_, ⟨_, rfl⟩, hW, hsame.mono (by decide) (by decide)⟩
    · exact retN X8 hx (t := .char) Bd.returns (by simp) (hb hby d23_24) hr
    · show QChA2_1 c0' c1' h0 n0 _ T8.heap _
      rw [eq8]
      exact ⟨congrArg (fun z => some (Value.int z)) hv, N8, rfl⟩
def QLen3 (h0 : Heap) (n0 : Nat) (v : Option Value) (h : Heap) (L : List Loc) : Prop := v = some (.int (3 : Int32)) ∧ Fr n0 L ∧ h = h0
set_option maxRecDepth 65536 in
set_option maxHeartbeats 40000000 in
theorem rmLen3 (l : Launch) (Z : State) (a0 : Array Value) (hw : ∀ d ∈ tables_1, d.before a0 Z = true) (ws : List Jvm.Cond) (a1 t1 : Addr) (k1 : ClassId) (c0' c1' c2' : Int32) (cd N_ : Int32) (vs : List Value) (G1 : Int32) (h0 : Heap) (n0 : Nat) (Z0 : n0 ≤ h0.size) (E1 : Exa Z h0 a1 "java/lang/String") (V1 : Fld Z h0 a1 "java/lang/String" "value" "[B" (.ref t1)) (C1 : Fld Z h0 a1 "java/lang/String" "coder" "B" (.int cd)) (A1 : Arv Z h0 t1 k1 .byte N_ vs (.int (0 : Int32))) (spl : Spl3 c0' c1' c2' cd N_ vs) (O2 : Sta Z Z.heap "java/lang/String" "COMPACT_STRINGS" "Z" (.int G1)) (P5 : ¬ (G1 = (0 : Int32))) (X00 : Old Z n0 h0) :
    MetFree l (⟨"java/lang/String", "length", "()I"⟩ : MethodName) (head1 (Jvm.Cond.code (⟨"java/lang/String", "length", "()I"⟩ : MethodName) jdk_42_method_54_code 1 (some .int) :: ws) ({ frames := 1, cells := 0, slots := 0, locals := 13 } : Room)) (fun a U => a = #[(.ref a1)] ∧ Z.Warmed39 U.vm ∧ U.heap = h0) (fun _ _ _ _ _ => True) (fun _ U o U' => ∃ v L, o = .returned v ∧ QLen3 h0 n0 v U'.heap L ∧ FrameEnd U o U' L ({ frames := 1, cells := 0, slots := 0, locals := 13 } : Room).cells ({ frames := 1, cells := 0, slots := 0, locals := 13 } : Room).slots) := by
  refine MetFree.of_bodySF (plainFor_of_name pn_java_lang_String) hisR ?_
  intro p e s m args below meth c s₁ Bd hml0 hP hK
  obtain ⟨rfl, hZ, hh⟩ := hP
  have hx := Bd.exec
  have hby := Bd.bytes
  have hml : c.maxLocals = 1 := hml0
  have hown : s.vm.findClass "java/lang/String" = some m.cls := findClass_of_methodNamed Bd.named
  have hnm := (name_of_methodNamed Bd.named Bd.method).1
  have X0 : Stand p l e ({ frames := 1, cells := 0, slots := 0, locals := 13 } : Room) s m #[(.ref a1)] below meth c s₁ [] 0 0 := Stand.of_body Bd
  have e0 : s₁.heap = h0 := by rw [← hh, Bd.state]; rfl
  have N0 := Fr.nil n0
  obtain ⟨B0, c0, hB0⟩ : ∃ B0, Steps p.tables e below B0 (s₁.setTop (mkF m 0 #[.val (.ref a1)] [])) ∧ B0 = s₁.setTop (entryFrame m #[(.ref a1)] 1) := ⟨_, castTop (ef_R_1 m a1) (Steps.refl _), rfl⟩
  have lt_a1 : (@LT.lt Nat _ a1 h0.size) := E1.lt
  rcases spl with ⟨rfl, rfl, rfl, hl0, hl1, hl2⟩ | ⟨rfl, rfl, rfl⟩
  · have hdummy := Z0
    have c1 : SS p e below B0 s₁ m 1 #[.val (.ref a1)] [(.ref a1)] := Steps.trans c0 (by
        refine XS.aloadN X0.here hx rfl (hb hby d18_0) rfl rfl ?_
        exact Steps.refl _)
    obtain ⟨T2, X2, e2, st2⟩ := getF X0 hx hZ hown (host := "") (Or.inl (W hw 25)) Via.refl e0 V1 (g := (mkF m 1 #[.val (.ref a1)] [(.ref a1)])) rfl rfl (hb hby d18_1)
    have c3 : SS p e below B0 T2 m 4 #[.val (.ref a1)] [(.ref t1)] := Steps.trans c1 (st2 _ (Steps.refl _))
    obtain ⟨cl4, Ar4, q4, Sz4, M4, Hs4, U4⟩ := id A1
    have c5 : SS p e below B0 T2 m 5 #[.val (.ref a1)] [(.int (3 : Int32))] := Steps.trans c3 (by
        refine X2.arraylength hx (by rw [e2]; exact Ar4.1) (State.isArrayOf_alike hZ.alike Ar4.2.1) (g := (mkF m 4 #[.val (.ref a1)] [(.ref t1)])) rfl rfl (hb hby d18_4) _ ?_
        rw [len_of Sz4 M4]
        exact Steps.refl _)
    have c6 : SS p e below B0 T2 m 6 #[.val (.ref a1)] [(.ref a1), (.int (3 : Int32))] := Steps.trans c5 (by
        refine XS.aloadN X2.here hx rfl (hb hby d18_5) rfl rfl ?_
        exact Steps.refl _)
    obtain ⟨cq7, kq7, qa7, qb7, qc7⟩ := isOf hZ e2 E1
    obtain ⟨_, _, ⟨T7, Lp7, kp7, np7⟩, -, X7, ⟨Lc7, hQ7, lp7, yp7, zp7⟩, st7⟩ := X2.virtualBack hx (y := (⟨"java/lang/String", "coder", "()B"⟩ : MethodName)) (z := (⟨"java/lang/String", "coder", "()B"⟩ : MethodName)) hown (mvT hZ (W hw 52)) (mvT hZ (W hw 53)) (notFace_of_selects (args := #[]) (mvT hZ (W hw 55))) (mvT hZ (W hw 55)) (mvT hZ (W hw 54)) (by decide) (backOf (W := 1) (rmCdr0 l Z a0 hw [] a1 G1 h0 n0 (by omega) C1 O2 P5 X00) hZ (W hw 56) (W hw 8) (by decide) (by decide)) qa7 qc7 (g := (mkF m 6 #[.val (.ref a1)] [(.ref a1), (.int (3 : Int32))])) rfl (by rw [hml]; rfl) c6 (argsL := []) (rest := [(.int (3 : Int32))]) (lenOf pd___B rfl) rfl (by show 2 * 0 + _ ≤ _; exact Nat.le_of_eq rfl) (hb hby d18_6) (fun _ _ => ⟨rfl, e2, (by decide : 0 + 0 ≤ _), (by decide : 0 + 0 ≤ _)⟩)
    dsimp only [Pt.U, Pt.locs, Pt.cells, Pt.slots] at X7 lp7 yp7 zp7 st7 hQ7
    subst lp7 yp7 zp7
    obtain ⟨rfl, Nq7, eq7⟩ := hQ7
    have N7 := Fr.app N0 Nq7
    have c8 : SS p e below B0 T7 m 9 #[.val (.ref a1)] [(.int (0 : Int32)), (.int (3 : Int32))] := st7
    have c9 : SS p e below B0 T7 m 10 #[.val (.ref a1)] [(.int (3 : Int32))] := Steps.trans c8 (by
        refine XS.ishr X7.here hx rfl (hb hby d18_9) rfl ?_
        exact Steps.refl _)
    obtain ⟨fs, hr, hrun, hended, hW, hsame⟩ := X7.leave (v := some (.int (3 : Int32))) (fun h => by rw [Bd.returns] at h; cases h)
    subst hB0
    refine ⟨_, _, Steps.trans c9 ?_, hrun, hended, _, _, rfl, ?_, ⟨_, rfl⟩, hW, hsame.mono (by decide) (by decide)⟩
    · exact retI X7 hx Bd.returns (hb hby d18_10) hr
    · show QLen3 h0 n0 _ T7.heap _
      rw [eq7]
      exact ⟨rfl, N7, rfl⟩
  · have hdummy := Z0
    have c1 : SS p e below B0 s₁ m 1 #[.val (.ref a1)] [(.ref a1)] := Steps.trans c0 (by
        refine XS.aloadN X0.here hx rfl (hb hby d18_0) rfl rfl ?_
        exact Steps.refl _)
    obtain ⟨T2, X2, e2, st2⟩ := getF X0 hx hZ hown (host := "") (Or.inl (W hw 25)) Via.refl e0 V1 (g := (mkF m 1 #[.val (.ref a1)] [(.ref a1)])) rfl rfl (hb hby d18_1)
    have c3 : SS p e below B0 T2 m 4 #[.val (.ref a1)] [(.ref t1)] := Steps.trans c1 (st2 _ (Steps.refl _))
    obtain ⟨cl4, Ar4, q4, Sz4, M4, Hs4, U4⟩ := id A1
    have c5 : SS p e below B0 T2 m 5 #[.val (.ref a1)] [(.int (6 : Int32))] := Steps.trans c3 (by
        refine X2.arraylength hx (by rw [e2]; exact Ar4.1) (State.isArrayOf_alike hZ.alike Ar4.2.1) (g := (mkF m 4 #[.val (.ref a1)] [(.ref t1)])) rfl rfl (hb hby d18_4) _ ?_
        rw [len_of Sz4 M4]
        exact Steps.refl _)
    have c6 : SS p e below B0 T2 m 6 #[.val (.ref a1)] [(.ref a1), (.int (6 : Int32))] := Steps.trans c5 (by
        refine XS.aloadN X2.here hx rfl (hb hby d18_5) rfl rfl ?_
        exact Steps.refl _)
    obtain ⟨cq7, kq7, qa7, qb7, qc7⟩ := isOf hZ e2 E1
    obtain ⟨_, _, ⟨T7, Lp7, kp7, np7⟩, -, X7, ⟨Lc7, hQ7, lp7, yp7, zp7⟩, st7⟩ := X2.virtualBack hx (y := (⟨"java/lang/String", "coder", "()B"⟩ : MethodName)) (z := (⟨"java/lang/String", "coder", "()B"⟩ : MethodName)) hown (mvT hZ (W hw 52)) (mvT hZ (W hw 53)) (notFace_of_selects (args := #[]) (mvT hZ (W hw 55))) (mvT hZ (W hw 55)) (mvT hZ (W hw 54)) (by decide) (backOf (W := 1) (rmCdr1 l Z a0 hw [] a1 G1 h0 n0 (by omega) C1 O2 P5 X00) hZ (W hw 56) (W hw 8) (by decide) (by decide)) qa7 qc7 (g := (mkF m 6 #[.val (.ref a1)] [(.ref a1), (.int (6 : Int32))])) rfl (by rw [hml]; rfl) c6 (argsL := []) (rest := [(.int (6 : Int32))]) (lenOf pd___B rfl) rfl (by show 2 * 0 + _ ≤ _; exact Nat.le_of_eq rfl) (hb hby d18_6) (fun _ _ => ⟨rfl, e2, (by decide : 0 + 0 ≤ _), (by decide : 0 + 0 ≤ _)⟩)
    dsimp only [Pt.U, Pt.locs, Pt.cells, Pt.slots] at X7 lp7 yp7 zp7 st7 hQ7
    subst lp7 yp7 zp7
    obtain ⟨rfl, Nq7, eq7⟩ := hQ7
    have N7 := Fr.app N0 Nq7
    have c8 : SS p e below B0 T7 m 9 #[.val (.ref a1)] [(.int (1 : Int32)), (.int (6 : Int32))] := st7
    have c9 : SS p e below B0 T7 m 10 #[.val (.ref a1)] [(.int (3 : Int32))] := Steps.trans c8 (by
        refine XS.ishr X7.here hx rfl (hb hby d18_9) rfl ?_
        exact Steps.refl _)
    obtain ⟨fs, hr, hrun, hended, hW, hsame⟩ := X7.leave (v := some (.int (3 : Int32))) (fun h => by rw [Bd.returns] at h; cases h)
    subst hB0
    refine ⟨_, _, Steps.trans c9 ?_, hrun, hended, _, _, rfl, ?_, ⟨_, rfl⟩, hW, hsame.mono (by decide) (by decide)⟩
    · exact retI X7 hx Bd.returns (hb hby d18_10) hr
    · show QLen3 h0 n0 _ T7.heap _
      rw [eq7]
      exact ⟨rfl, N7, rfl⟩
def QUl3 (h0 : Heap) (n0 : Nat) (v : Option Value) (h : Heap) (L : List Loc) : Prop := v = some (.int (3 : Int32)) ∧ Fr n0 L ∧ h = h0
set_option maxRecDepth 65536 in
set_option maxHeartbeats 40000000 in
theorem rmUl3 (l : Launch) (Z : State) (a0 : Array Value) (hw : ∀ d ∈ tables_1, d.before a0 Z = true) (ws : List Jvm.Cond) (t1 : Addr) (k1 : ClassId) (vs : List Value) (h0 : Heap) (n0 : Nat) (Z0 : n0 ≤ h0.size) (A1 : Arv Z h0 t1 k1 .byte (6 : Int32) vs (.int (0 : Int32))) :
    MetFree l (⟨"java/lang/StringUTF16", "length", "([B)I"⟩ : MethodName) (head1 (Jvm.Cond.code (⟨"java/lang/StringUTF16", "length", "([B)I"⟩ : MethodName) jdk_52_method_6_code 1 (some .int) :: ws) ({ frames := 0, cells := 0, slots := 0, locals := 0 } : Room)) (fun a U => a = #[(.ref t1)] ∧ Z.Warmed39 U.vm ∧ U.heap = h0) (fun _ _ _ _ _ => True) (fun _ U o U' => ∃ v L, o = .returned v ∧ QUl3 h0 n0 v U'.heap L ∧ FrameEnd U o U' L ({ frames := 0, cells := 0, slots := 0, locals := 0 } : Room).cells ({ frames := 0, cells := 0, slots := 0, locals := 0 } : Room).slots) := by
  refine MetFree.of_bodySF (plainFor_of_name pn_java_lang_StringUTF16) hisR ?_
  intro p e s m args below meth c s₁ Bd hml0 hP hK
  obtain ⟨rfl, hZ, hh⟩ := hP
  have hx := Bd.exec
  have hby := Bd.bytes
  have hml : c.maxLocals = 1 := hml0
  have hown : s.vm.findClass "java/lang/StringUTF16" = some m.cls := findClass_of_methodNamed Bd.named
  have hnm := (name_of_methodNamed Bd.named Bd.method).1
  have X0 : Stand p l e ({ frames := 0, cells := 0, slots := 0, locals := 0 } : Room) s m #[(.ref t1)] below meth c s₁ [] 0 0 := Stand.of_body Bd
  have e0 : s₁.heap = h0 := by rw [← hh, Bd.state]; rfl
  have N0 := Fr.nil n0
  obtain ⟨B0, c0, hB0⟩ : ∃ B0, Steps p.tables e below B0 (s₁.setTop (mkF m 0 #[.val (.ref t1)] [])) ∧ B0 = s₁.setTop (entryFrame m #[(.ref t1)] 1) := ⟨_, castTop (ef_R_1 m t1) (Steps.refl _), rfl⟩
  have c1 : SS p e below B0 s₁ m 1 #[.val (.ref t1)] [(.ref t1)] := Steps.trans c0 (by
      refine XS.aloadN X0.here hx rfl (hb hby d19_0) rfl rfl ?_
      exact Steps.refl _)
  obtain ⟨cl2, Ar2, q2, Sz2, M2, Hs2, U2⟩ := id A1
  have c3 : SS p e below B0 s₁ m 2 #[.val (.ref t1)] [(.int (6 : Int32))] := Steps.trans c1 (by
      refine X0.arraylength hx (by rw [e0]; exact Ar2.1) (State.isArrayOf_alike hZ.alike Ar2.2.1) (g := (mkF m 1 #[.val (.ref t1)] [(.ref t1)])) rfl rfl (hb hby d19_1) _ ?_
      rw [len_of Sz2 M2]
      exact Steps.refl _)
  have c4 : SS p e below B0 s₁ m 4 #[.val (.ref t1)] [(.int (3 : Int32))] := Steps.trans c3 (by
      refine XT.iconstV X0.here hx rfl (1 : Int32) (hb hby d19_2) (by decide) ?_
      refine XS.ishr X0.here hx rfl (hb hby d19_3) rfl ?_
      exact Steps.refl _)
  obtain ⟨fs, hr, hrun, hended, hW, hsame⟩ := X0.leave (v := some (.int (3 : Int32))) (fun h => by rw [Bd.returns] at h; cases h)
  subst hB0
  refine ⟨_, _, Steps.trans c4 ?_, hrun, hended, _, _, rfl, ?_, ⟨_, rfl⟩, hW, hsame.mono (by decide) (by decide)⟩
  · exact retI X0 hx Bd.returns (hb hby d19_4) hr
  · show QUl3 h0 n0 _ s₁.heap _
    rw [e0]
    exact ⟨rfl, N0, rfl⟩
def QUck3_0 (h0 : Heap) (n0 : Nat) (v : Option Value) (h : Heap) (L : List Loc) : Prop := v = none ∧ Fr n0 L ∧ h = h0
set_option maxRecDepth 65536 in
set_option maxHeartbeats 40000000 in
theorem rmUck3_0 (l : Launch) (Z : State) (a0 : Array Value) (hw : ∀ d ∈ tables_1, d.before a0 Z = true) (ws : List Jvm.Cond) (t1 : Addr) (k1 : ClassId) (vs : List Value) (G3 : Value) (h0 : Heap) (n0 : Nat) (Z0 : n0 ≤ h0.size) (A1 : Arv Z h0 t1 k1 .byte (6 : Int32) vs (.int (0 : Int32))) (O4 : Sta Z Z.heap "jdk/internal/util/Preconditions" "SIOOBE_FORMATTER" "Ljava/util/function/BiFunction;" G3) (rG3 : G3.isRef = true) (X00 : Old Z n0 h0) :
    MetFree l (⟨"java/lang/StringUTF16", "checkIndex", "(I[B)V"⟩ : MethodName) (head1 (Jvm.Cond.code (⟨"java/lang/StringUTF16", "checkIndex", "(I[B)V"⟩ : MethodName) jdk_52_method_91_code 2 none :: ws) ({ frames := 2, cells := 0, slots := 0, locals := 27 } : Room)) (fun a U => a = #[(.int (0 : Int32)), (.ref t1)] ∧ Z.Warmed39 U.vm ∧ U.heap = h0) (fun _ _ _ _ _ => True) (fun _ U o U' => ∃ v L, o = .returned v ∧ QUck3_0 h0 n0 v U'.heap L ∧ FrameEnd U o U' L ({ frames := 2, cells := 0, slots := 0, locals := 27 } : Room).cells ({ frames := 2, cells := 0, slots := 0, locals := 27 } : Room).slots) := by
  refine MetFree.of_bodySF (plainFor_of_name pn_java_lang_StringUTF16) hisR ?_
  intro p e s m args below meth c s₁ Bd hml0 hP hK
  obtain ⟨rfl, hZ, hh⟩ := hP
  have hx := Bd.exec
  have hby := Bd.bytes
  have hml : c.maxLocals = 2 := hml0
  have hown : s.vm.findClass "java/lang/StringUTF16" = some m.cls := findClass_of_methodNamed Bd.named
  have hnm := (name_of_methodNamed Bd.named Bd.method).1
  have X0 : Stand p l e ({ frames := 2, cells := 0, slots := 0, locals := 27 } : Room) s m #[(.int (0 : Int32)), (.ref t1)] below meth c s₁ [] 0 0 := Stand.of_body Bd
  have e0 : s₁.heap = h0 := by rw [← hh, Bd.state]; rfl
  have N0 := Fr.nil n0
  obtain ⟨B0, c0, hB0⟩ : ∃ B0, Steps p.tables e below B0 (s₁.setTop (mkF m 0 #[.val (.int (0 : Int32)), .val (.ref t1)] [])) ∧ B0 = s₁.setTop (entryFrame m #[(.int (0 : Int32)), (.ref t1)] 2) := ⟨_, castTop (ef_IR_2 m (0 : Int32) t1) (Steps.refl _), rfl⟩
  have c1 : SS p e below B0 s₁ m 2 #[.val (.int (0 : Int32)), .val (.ref t1)] [(.ref t1), (.int (0 : Int32))] := Steps.trans c0 (by
      refine XS.iloadN X0.here hx rfl (hb hby d20_0) rfl ?_
      refine XS.aloadN X0.here hx rfl (hb hby d20_1) rfl rfl ?_
      exact Steps.refl _)
  obtain ⟨_, _, ⟨T2, Lp2, kp2, np2⟩, -, X2, ⟨Lc2, hQ2, lp2, yp2, zp2⟩, st2⟩ := Jvm.LawKit.callS X0 hx (y := (⟨"java/lang/StringUTF16", "length", "([B)I"⟩ : MethodName)) hown (mvT hZ (W hw 118)) (mvT hZ (W hw 119)) (mvT hZ (W hw 64)) (mvT hZ (W hw 120)) (by decide) (backOf (W := 1) (rmUl3 l Z a0 hw [] t1 k1 vs h0 n0 (by omega) A1) hZ (W hw 120) (W hw 64) (by decide) (by decide)) (g := (mkF m 2 #[.val (.int (0 : Int32)), .val (.ref t1)] [(.ref t1), (.int (0 : Int32))])) rfl (by rw [hml]; rfl) (argsL := [(.ref t1)]) (rest := [(.int (0 : Int32))]) (lenOf pd___B_I rfl) rfl (by show 2 * 0 + _ ≤ _; exact Nat.le_of_eq rfl) (hb hby d20_2) (fun _ _ => ⟨rfl, e0, (by decide : 0 + 0 ≤ _), (by decide : 0 + 0 ≤ _)⟩)
  dsimp only [Pt.U, Pt.locs, Pt.cells, Pt.slots] at X2 lp2 yp2 zp2 st2 hQ2
  subst lp2 yp2 zp2
  obtain ⟨rfl, Nq2, eq2⟩ := hQ2
  have N2 := Fr.app N0 Nq2
  have c3 : SS p e below B0 T2 m 5 #[.val (.int (0 : Int32)), .val (.ref t1)] [(.int (3 : Int32)), (.int (0 : Int32))] := Steps.trans c1 (st2 _ (Steps.refl _))
  obtain ⟨_, _, ⟨T4, Lp4, kp4, np4⟩, -, X4, ⟨Lc4, hQ4, lp4, yp4, zp4⟩, st4⟩ := Jvm.LawKit.callS X2 hx (y := (⟨"java/lang/String", "checkIndex", "(II)V"⟩ : MethodName)) hown (mvT hZ (W hw 121)) (mvT hZ (W hw 86)) (mvT hZ (W hw 8)) (mvT hZ (W hw 87)) (by decide) (backOf (W := 0) (rmCk l Z a0 hw [] 0 3 G3 h0 n0 (by omega) (by decide) (by decide) O4 rG3 X00) hZ (W hw 87) (W hw 8) (by decide) (by decide)) (g := (mkF m 5 #[.val (.int (0 : Int32)), .val (.ref t1)] [(.int (3 : Int32)), (.int (0 : Int32))])) rfl (by rw [hml]; rfl) (argsL := [(.int (0 : Int32)), (.int (3 : Int32))]) (rest := []) (lenOf pd__II_V rfl) rfl (by show 2 * 0 + _ ≤ _; exact Nat.le_of_eq rfl) (hb hby d20_5) (fun _ _ => ⟨rfl, eq2, (by decide : 0 + 0 ≤ _), (by decide : 0 + 0 ≤ _)⟩)
  dsimp only [Pt.U, Pt.locs, Pt.cells, Pt.slots] at X4 lp4 yp4 zp4 st4 hQ4
  subst lp4 yp4 zp4
  obtain ⟨rfl, Nq4, eq4⟩ := hQ4
  have N4 := Fr.app N2 Nq4
  have c5 : SS p e below B0 T4 m 8 #[.val (.int (0 : Int32)), .val (.ref t1)] [] := Steps.trans c3 (st4 _ (Steps.refl _))
  obtain ⟨fs, hr, hrun, hended, hW, hsame⟩ := X4.leave (v := none) (fun _ => rfl)
  subst hB0
  refine ⟨_, _, Steps.trans c5 ?_, hrun, hended, _, _, rfl, ?_, ⟨_, rfl⟩, hW, hsame.mono (by decide) (by decide)⟩
  · exact X4.returnOut hx Bd.returns (hb hby d20_8) hr
  · show QUck3_0 h0 n0 _ T4.heap _
    rw [eq4]
    exact ⟨rfl, N4, rfl⟩
def QLcA3_0 (c0' c1' c2' : Int32) (h0 : Heap) (n0 : Nat) (v : Option Value) (h : Heap) (L : List Loc) : Prop := v = some (.int c0') ∧ Fr n0 L ∧ h = h0
set_option maxRecDepth 65536 in
set_option maxHeartbeats 40000000 in
theorem rmLcA3_0 (l : Launch) (Z : State) (a0 : Array Value) (hw : ∀ d ∈ tables_1, d.before a0 Z = true) (ws : List Jvm.Cond) (t1 : Addr) (k1 : ClassId) (c0' c1' c2' : Int32) (G3 : Value) (h0 : Heap) (n0 : Nat) (Z0 : n0 ≤ h0.size) (A1 : Arv Z h0 t1 k1 .byte (3 : Int32) [(.int (nar .byte (c0'.toInt8.toInt32))), (.int (nar .byte (c1'.toInt8.toInt32))), (.int (nar .byte (c2'.toInt8.toInt32)))] (.int (0 : Int32))) (O4 : Sta Z Z.heap "jdk/internal/util/Preconditions" "SIOOBE_FORMATTER" "Ljava/util/function/BiFunction;" G3) (rG3 : G3.isRef = true) (X00 : Old Z n0 h0) (hc : ¬ c0' < 0 ∧ ¬ (65535 : Int32) < c0') (hl : ¬ (255 : Int32) < c0') :
    MetFree l (⟨"java/lang/StringLatin1", "charAt", "([BI)C"⟩ : MethodName) (head1 (Jvm.Cond.code (⟨"java/lang/StringLatin1", "charAt", "([BI)C"⟩ : MethodName) jdk_43_method_2_code 2 (some .char) :: ws) ({ frames := 2, cells := 0, slots := 0, locals := 27 } : Room)) (fun a U => a = #[(.ref t1), (.int (0 : Int32))] ∧ Z.Warmed39 U.vm ∧ U.heap = h0) (fun _ _ _ _ _ => True) (fun _ U o U' => ∃ v L, o = .returned v ∧ QLcA3_0 c0' c1' c2' h0 n0 v U'.heap L ∧ FrameEnd U o U' L ({ frames := 2, cells := 0, slots := 0, locals := 27 } : Room).cells ({ frames := 2, cells := 0, slots := 0, locals := 27 } : Room).slots) := by
  refine MetFree.of_bodySF (plainFor_of_name pn_java_lang_StringLatin1) hisR ?_
  intro p e s m args below meth c s₁ Bd hml0 hP hK
  obtain ⟨rfl, hZ, hh⟩ := hP
  have hx := Bd.exec
  have hby := Bd.bytes
  have hml : c.maxLocals = 2 := hml0
  have hown : s.vm.findClass "java/lang/StringLatin1" = some m.cls := findClass_of_methodNamed Bd.named
  have hnm := (name_of_methodNamed Bd.named Bd.method).1
  have X0 : Stand p l e ({ frames := 2, cells := 0, slots := 0, locals := 27 } : Room) s m #[(.ref t1), (.int (0 : Int32))] below meth c s₁ [] 0 0 := Stand.of_body Bd
  have e0 : s₁.heap = h0 := by rw [← hh, Bd.state]; rfl
  have N0 := Fr.nil n0
  obtain ⟨B0, c0, hB0⟩ : ∃ B0, Steps p.tables e below B0 (s₁.setTop (mkF m 0 #[.val (.ref t1), .val (.int (0 : Int32))] [])) ∧ B0 = s₁.setTop (entryFrame m #[(.ref t1), (.int (0 : Int32))] 2) := ⟨_, castTop (ef_RI_2 m t1 (0 : Int32)) (Steps.refl _), rfl⟩
  have c1 : SS p e below B0 s₁ m 2 #[.val (.ref t1), .val (.int (0 : Int32))] [(.ref t1), (.int (0 : Int32))] := Steps.trans c0 (by
      refine XS.iloadN X0.here hx rfl (hb hby d21_0) rfl ?_
      refine XS.aloadN X0.here hx rfl (hb hby d21_1) rfl rfl ?_
      exact Steps.refl _)
  obtain ⟨cl2, Ar2, q2, Sz2, M2, Hs2, U2⟩ := id A1
  have c3 : SS p e below B0 s₁ m 3 #[.val (.ref t1), .val (.int (0 : Int32))] [(.int (3 : Int32)), (.int (0 : Int32))] := Steps.trans c1 (by
      refine X0.arraylength hx (by rw [e0]; exact Ar2.1) (State.isArrayOf_alike hZ.alike Ar2.2.1) (g := (mkF m 2 #[.val (.ref t1), .val (.int (0 : Int32))] [(.ref t1), (.int (0 : Int32))])) rfl rfl (hb hby d21_2) _ ?_
      rw [len_of Sz2 M2]
      exact Steps.refl _)
  obtain ⟨_, _, ⟨T4, Lp4, kp4, np4⟩, -, X4, ⟨Lc4, hQ4, lp4, yp4, zp4⟩, st4⟩ := Jvm.LawKit.callS X0 hx (y := (⟨"java/lang/String", "checkIndex", "(II)V"⟩ : MethodName)) hown (mvT hZ (W hw 85)) (mvT hZ (W hw 86)) (mvT hZ (W hw 8)) (mvT hZ (W hw 87)) (by decide) (backOf (W := 0) (rmCk l Z a0 hw [] 0 3 G3 h0 n0 (by omega) (by decide) (by decide) O4 rG3 X00) hZ (W hw 87) (W hw 8) (by decide) (by decide)) (g := (mkF m 3 #[.val (.ref t1), .val (.int (0 : Int32))] [(.int (3 : Int32)), (.int (0 : Int32))])) rfl (by rw [hml]; rfl) (argsL := [(.int (0 : Int32)), (.int (3 : Int32))]) (rest := []) (lenOf pd__II_V rfl) rfl (by show 2 * 0 + _ ≤ _; exact Nat.le_of_eq rfl) (hb hby d21_3) (fun _ _ => ⟨rfl, e0, (by decide : 0 + 0 ≤ _), (by decide : 0 + 0 ≤ _)⟩)
  dsimp only [Pt.U, Pt.locs, Pt.cells, Pt.slots] at X4 lp4 yp4 zp4 st4 hQ4
  subst lp4 yp4 zp4
  obtain ⟨rfl, Nq4, eq4⟩ := hQ4
  have N4 := Fr.app N0 Nq4
  have c5 : SS p e below B0 T4 m 6 #[.val (.ref t1), .val (.int (0 : Int32))] [] := Steps.trans c3 (st4 _ (Steps.refl _))
  have c6 : SS p e below B0 T4 m 8 #[.val (.ref t1), .val (.int (0 : Int32))] [(.int (0 : Int32)), (.ref t1)] := Steps.trans c5 (by
      refine XS.aloadN X4.here hx rfl (hb hby d21_6) rfl rfl ?_
      refine XS.iloadN X4.here hx rfl (hb hby d21_7) rfl ?_
      exact Steps.refl _)
  obtain ⟨cl7, Ar7, q7, Sz7, M7, Hs7, U7⟩ := id A1
  have in7 := inb_of (j := (0 : Int32)) Sz7 ⟨(by decide), (by decide)⟩
  have c8 : SS p e below B0 T4 m 9 #[.val (.ref t1), .val (.int (0 : Int32))] [(.int (nar .byte (c0'.toInt8.toInt32)))] := Steps.trans c6 (by
      refine X4.baloadBytes hx (j := (0 : Int32)) (v := (.int (nar .byte (c0'.toInt8.toInt32)))) (by rw [eq4]; exact Ar7.1) (State.isArrayOf_alike hZ.alike Ar7.2.1) Ar7.2.2 in7 (Hs7.at in7 rfl) (g := (mkF m 8 #[.val (.ref t1), .val (.int (0 : Int32))] [(.int (0 : Int32)), (.ref t1)])) rfl rfl (hb hby d21_8) _ ?_
      exact Steps.refl _)
  have c9 : SS p e below B0 T4 m 14 #[.val (.ref t1), .val (.int (0 : Int32))] [(.int (((nar .byte (c0'.toInt8.toInt32)) &&& (255 : Int32)).toUInt32.toUInt16.toUInt32.toInt32))] := Steps.trans c8 (by
      refine XT.sipushV X4.here hx rfl (255 : Int32) (hb hby d21_9) (by decide) ?_
      refine XS.iand X4.here hx rfl (hb hby d21_12) rfl ?_
      refine XS.i2c X4.here hx rfl (hb hby d21_13) rfl ?_
      exact Steps.refl _)
  have hv := own_lat hc.1 hl
  obtain ⟨fs, hr, hrun, hended, hW, hsame⟩ := X4.leave (v := some (.int (nar .char (((nar .byte (c0'.toInt8.toInt32)) &&& (255 : Int32)).toUInt32.toUInt16.toUInt32.toInt32)))) (fun h => by rw [Bd.returns] at h; cases h)
  subst hB0
  refine ⟨_, _, Steps.trans c9 ?_, hrun, hended, _, _, rfl, ?_, ⟨_, rfl⟩, hW, hsame.mono (by decide) (by decide)⟩
  · exact retN X4 hx (t := .char) Bd.returns (by simp) (hb hby d21_14) hr
  · show QLcA3_0 c0' c1' c2' h0 n0 _ T4.heap _
    rw [eq4]
    exact ⟨congrArg (fun z => some (Value.int z)) hv, N4, rfl⟩
def QUcA3_0 (c0' c1' c2' : Int32) (h0 : Heap) (n0 : Nat) (v : Option Value) (h : Heap) (L : List Loc) : Prop := v = some (.int c0') ∧ Fr n0 L ∧ h = h0
set_option maxRecDepth 65536 in
set_option maxHeartbeats 40000000 in
theorem rmUcA3_0 (l : Launch) (Z : State) (a0 : Array Value) (hw : ∀ d ∈ tables_1, d.before a0 Z = true) (ws : List Jvm.Cond) (t1 : Addr) (k1 : ClassId) (c0' c1' c2' : Int32) (G3 : Value) (h0 : Heap) (n0 : Nat) (Z0 : n0 ≤ h0.size) (A1 : Arv Z h0 t1 k1 .byte (6 : Int32) [(.int (nar .byte ((c0' >>> ((0 : Int32) &&& 31)).toInt8.toInt32))), (.int (nar .byte ((c0' >>> ((8 : Int32) &&& 31)).toInt8.toInt32))), (.int (nar .byte ((c1' >>> ((0 : Int32) &&& 31)).toInt8.toInt32))), (.int (nar .byte ((c1' >>> ((8 : Int32) &&& 31)).toInt8.toInt32))), (.int (nar .byte ((c2' >>> ((0 : Int32) &&& 31)).toInt8.toInt32))), (.int (nar .byte ((c2' >>> ((8 : Int32) &&& 31)).toInt8.toInt32)))] (.int (0 : Int32))) (O4 : Sta Z Z.heap "jdk/internal/util/Preconditions" "SIOOBE_FORMATTER" "Ljava/util/function/BiFunction;" G3) (rG3 : G3.isRef = true) (O7 : Sta Z Z.heap "java/lang/StringUTF16" "$assertionsDisabled" "Z" (.int (1 : Int32))) (O8 : Sta Z Z.heap "java/lang/StringUTF16" "HI_BYTE_SHIFT" "I" (.int (0 : Int32))) (O9 : Sta Z Z.heap "java/lang/StringUTF16" "LO_BYTE_SHIFT" "I" (.int (8 : Int32))) (X00 : Old Z n0 h0) (hc : ¬ c0' < 0 ∧ ¬ (65535 : Int32) < c0') :
    MetFree l (⟨"java/lang/StringUTF16", "charAt", "([BI)C"⟩ : MethodName) (head1 (Jvm.Cond.code (⟨"java/lang/StringUTF16", "charAt", "([BI)C"⟩ : MethodName) jdk_52_method_83_code 2 (some .char) :: ws) ({ frames := 3, cells := 0, slots := 0, locals := 40 } : Room)) (fun a U => a = #[(.ref t1), (.int (0 : Int32))] ∧ Z.Warmed39 U.vm ∧ U.heap = h0) (fun _ _ _ _ _ => True) (fun _ U o U' => ∃ v L, o = .returned v ∧ QUcA3_0 c0' c1' c2' h0 n0 v U'.heap L ∧ FrameEnd U o U' L ({ frames := 3, cells := 0, slots := 0, locals := 40 } : Room).cells ({ frames := 3, cells := 0, slots := 0, locals := 40 } : Room).slots) := by
  refine MetFree.of_bodySF (plainFor_of_name pn_java_lang_StringUTF16) hisR ?_
  intro p e s m args below meth c s₁ Bd hml0 hP hK
  obtain ⟨rfl, hZ, hh⟩ := hP
  have hx := Bd.exec
  have hby := Bd.bytes
  have hml : c.maxLocals = 2 := hml0
  have hown : s.vm.findClass "java/lang/StringUTF16" = some m.cls := findClass_of_methodNamed Bd.named
  have hnm := (name_of_methodNamed Bd.named Bd.method).1
  have X0 : Stand p l e ({ frames := 3, cells := 0, slots := 0, locals := 40 } : Room) s m #[(.ref t1), (.int (0 : Int32))] below meth c s₁ [] 0 0 := Stand.of_body Bd
  have e0 : s₁.heap = h0 := by rw [← hh, Bd.state]; rfl
  have N0 := Fr.nil n0
  obtain ⟨B0, c0, hB0⟩ : ∃ B0, Steps p.tables e below B0 (s₁.setTop (mkF m 0 #[.val (.ref t1), .val (.int (0 : Int32))] [])) ∧ B0 = s₁.setTop (entryFrame m #[(.ref t1), (.int (0 : Int32))] 2) := ⟨_, castTop (ef_RI_2 m t1 (0 : Int32)) (Steps.refl _), rfl⟩
  have c1 : SS p e below B0 s₁ m 2 #[.val (.ref t1), .val (.int (0 : Int32))] [(.ref t1), (.int (0 : Int32))] := Steps.trans c0 (by
      refine XS.iloadN X0.here hx rfl (hb hby d22_0) rfl ?_
      refine XS.aloadN X0.here hx rfl (hb hby d22_1) rfl rfl ?_
      exact Steps.refl _)
  obtain ⟨_, _, ⟨T2, Lp2, kp2, np2⟩, -, X2, ⟨Lc2, hQ2, lp2, yp2, zp2⟩, st2⟩ := Jvm.LawKit.callS X0 hx (y := (⟨"java/lang/StringUTF16", "checkIndex", "(I[B)V"⟩ : MethodName)) hown (mvT hZ (W hw 115)) (mvT hZ (W hw 116)) (mvT hZ (W hw 64)) (mvT hZ (W hw 117)) (by decide) (backOf (W := 0) (rmUck3_0 l Z a0 hw [] t1 k1 _ G3 h0 n0 (by omega) A1 O4 rG3 X00) hZ (W hw 117) (W hw 64) (by decide) (by decide)) (g := (mkF m 2 #[.val (.ref t1), .val (.int (0 : Int32))] [(.ref t1), (.int (0 : Int32))])) rfl (by rw [hml]; rfl) (argsL := [(.int (0 : Int32)), (.ref t1)]) (rest := []) (lenOf pd__I_B_V rfl) rfl (by show 2 * 0 + _ ≤ _; exact Nat.le_of_eq rfl) (hb hby d22_2) (fun _ _ => ⟨rfl, e0, (by decide : 0 + 0 ≤ _), (by decide : 0 + 0 ≤ _)⟩)
  dsimp only [Pt.U, Pt.locs, Pt.cells, Pt.slots] at X2 lp2 yp2 zp2 st2 hQ2
  subst lp2 yp2 zp2
  obtain ⟨rfl, Nq2, eq2⟩ := hQ2
  have N2 := Fr.app N0 Nq2
  have c3 : SS p e below B0 T2 m 5 #[.val (.ref t1), .val (.int (0 : Int32))] [] := Steps.trans c1 (st2 _ (Steps.refl _))
  have c4 : SS p e below B0 T2 m 7 #[.val (.ref t1), .val (.int (0 : Int32))] [(.int (0 : Int32)), (.ref t1)] := Steps.trans c3 (by
      refine XS.aloadN X2.here hx rfl (hb hby d22_5) rfl rfl ?_
      refine XS.iloadN X2.here hx rfl (hb hby d22_6) rfl ?_
      exact Steps.refl _)
  obtain ⟨_, _, ⟨T5, Lp5, kp5, np5⟩, -, X5, ⟨Lc5, hQ5, lp5, yp5, zp5⟩, st5⟩ := Jvm.LawKit.callS X2 hx (y := (⟨"java/lang/StringUTF16", "getChar", "([BI)C"⟩ : MethodName)) hown (mvT hZ (W hw 109)) (mvT hZ (W hw 110)) (mvT hZ (W hw 64)) (mvT hZ (W hw 111)) (by decide) (backOf (W := 0) (rmGet3_0 l Z a0 hw [] t1 k1 c0' c1' c2' h0 n0 (by omega) O7 O8 O9 X00 A1 hc) hZ (W hw 111) (W hw 64) (by decide) (by decide)) (g := (mkF m 7 #[.val (.ref t1), .val (.int (0 : Int32))] [(.int (0 : Int32)), (.ref t1)])) rfl (by rw [hml]; rfl) (argsL := [(.ref t1), (.int (0 : Int32))]) (rest := []) (lenOf pd___BI_C rfl) rfl (by show 2 * 0 + _ ≤ _; exact Nat.le_of_eq rfl) (hb hby d22_7) (fun _ _ => ⟨rfl, eq2, (by decide : 0 + 0 ≤ _), (by decide : 0 + 0 ≤ _)⟩)
  dsimp only [Pt.U, Pt.locs, Pt.cells, Pt.slots] at X5 lp5 yp5 zp5 st5 hQ5
  subst lp5 yp5 zp5
  obtain ⟨rfl, Nq5, eq5⟩ := hQ5
  have N5 := Fr.app N2 Nq5
  have c6 : SS p e below B0 T5 m 10 #[.val (.ref t1), .val (.int (0 : Int32))] [(.int (c0'))] := Steps.trans c4 (st5 _ (Steps.refl _))
  have hv := own_nar hc.1 hc.2
  obtain ⟨fs, hr, hrun, hended, hW, hsame⟩ := X5.leave (v := some (.int (nar .char c0'))) (fun h => by rw [Bd.returns] at h; cases h)
  subst hB0
  refine ⟨_, _, Steps.trans c6 ?_, hrun, hended, _, _, rfl, ?_, ⟨_, rfl⟩, hW, hsame.mono (by decide) (by decide)⟩
  · exact retN X5 hx (t := .char) Bd.returns (by simp) (hb hby d22_10) hr
  · show QUcA3_0 c0' c1' c2' h0 n0 _ T5.heap _
    rw [eq5]
    exact ⟨congrArg (fun z => some (Value.int z)) hv, N5, rfl⟩
def QChA3_0 (c0' c1' c2' : Int32) (h0 : Heap) (n0 : Nat) (v : Option Value) (h : Heap) (L : List Loc) : Prop := v = some (.int c0') ∧ Fr n0 L ∧ h = h0
set_option maxRecDepth 65536 in
set_option maxHeartbeats 40000000 in
theorem rmChA3_0 (l : Launch) (Z : State) (a0 : Array Value) (hw : ∀ d ∈ tables_1, d.before a0 Z = true) (ws : List Jvm.Cond) (a1 t1 : Addr) (k1 : ClassId) (c0' c1' c2' : Int32) (cd N_ : Int32) (vs : List Value) (G1 : Int32) (G3 : Value) (h0 : Heap) (n0 : Nat) (Z0 : n0 ≤ h0.size) (E1 : Exa Z h0 a1 "java/lang/String") (V1 : Fld Z h0 a1 "java/lang/String" "value" "[B" (.ref t1)) (C1 : Fld Z h0 a1 "java/lang/String" "coder" "B" (.int cd)) (A1 : Arv Z h0 t1 k1 .byte N_ vs (.int (0 : Int32))) (spl : Spl3 c0' c1' c2' cd N_ vs) (O2 : Sta Z Z.heap "java/lang/String" "COMPACT_STRINGS" "Z" (.int G1)) (P5 : ¬ (G1 = (0 : Int32))) (O4 : Sta Z Z.heap "jdk/internal/util/Preconditions" "SIOOBE_FORMATTER" "Ljava/util/function/BiFunction;" G3) (rG3 : G3.isRef = true) (O7 : Sta Z Z.heap "java/lang/StringUTF16" "$assertionsDisabled" "Z" (.int (1 : Int32))) (O8 : Sta Z Z.heap "java/lang/StringUTF16" "HI_BYTE_SHIFT" "I" (.int (0 : Int32))) (O9 : Sta Z Z.heap "java/lang/StringUTF16" "LO_BYTE_SHIFT" "I" (.int (8 : Int32))) (X00 : Old Z n0 h0) (hc : ¬ c0' < 0 ∧ ¬ (65535 : Int32) < c0') :
    MetFree l (⟨"java/lang/String", "charAt", "(I)C"⟩ : MethodName) (head1 (Jvm.Cond.code (⟨"java/lang/String", "charAt", "(I)C"⟩ : MethodName) jdk_42_method_56_code 2 (some .char) :: ws) ({ frames := 4, cells := 0, slots := 0, locals := 54 } : Room)) (fun a U => a = #[(.ref a1), (.int (0 : Int32))] ∧ Z.Warmed39 U.vm ∧ U.heap = h0) (fun _ _ _ _ _ => True) (fun _ U o U' => ∃ v L, o = .returned v ∧ QChA3_0 c0' c1' c2' h0 n0 v U'.heap L ∧ FrameEnd U o U' L ({ frames := 4, cells := 0, slots := 0, locals := 54 } : Room).cells ({ frames := 4, cells := 0, slots := 0, locals := 54 } : Room).slots) := by
  refine MetFree.of_bodySF (plainFor_of_name pn_java_lang_String) hisR ?_
  intro p e s m args below meth c s₁ Bd hml0 hP hK
  obtain ⟨rfl, hZ, hh⟩ := hP
  have hx := Bd.exec
  have hby := Bd.bytes
  have hml : c.maxLocals = 2 := hml0
  have hown : s.vm.findClass "java/lang/String" = some m.cls := findClass_of_methodNamed Bd.named
  have hnm := (name_of_methodNamed Bd.named Bd.method).1
  have X0 : Stand p l e ({ frames := 4, cells := 0, slots := 0, locals := 54 } : Room) s m #[(.ref a1), (.int (0 : Int32))] below meth c s₁ [] 0 0 := Stand.of_body Bd
  have e0 : s₁.heap = h0 := by rw [← hh, Bd.state]; rfl
  have N0 := Fr.nil n0
  obtain ⟨B0, c0, hB0⟩ : ∃ B0, Steps p.tables e below B0 (s₁.setTop (mkF m 0 #[.val (.ref a1), .val (.int (0 : Int32))] [])) ∧ B0 = s₁.setTop (entryFrame m #[(.ref a1), (.int (0 : Int32))] 2) := ⟨_, castTop (ef_RI_2 m a1 (0 : Int32)) (Steps.refl _), rfl⟩
  have lt_a1 : (@LT.lt Nat _ a1 h0.size) := E1.lt
  rcases spl with ⟨rfl, rfl, rfl, hl0, hl1, hl2⟩ | ⟨rfl, rfl, rfl⟩
  · have hdummy := Z0
    have c1 : SS p e below B0 s₁ m 1 #[.val (.ref a1), .val (.int (0 : Int32))] [(.ref a1)] := Steps.trans c0 (by
        refine XS.aloadN X0.here hx rfl (hb hby d23_0) rfl rfl ?_
        exact Steps.refl _)
    obtain ⟨cq2, kq2, qa2, qb2, qc2⟩ := isOf hZ e0 E1
    obtain ⟨_, _, ⟨T2, Lp2, kp2, np2⟩, -, X2, ⟨Lc2, hQ2, lp2, yp2, zp2⟩, st2⟩ := X0.virtualBack hx (y := (⟨"java/lang/String", "isLatin1", "()Z"⟩ : MethodName)) (z := (⟨"java/lang/String", "isLatin1", "()Z"⟩ : MethodName)) hown (mvT hZ (W hw 77)) (mvT hZ (W hw 78)) (notFace_of_selects (args := #[]) (mvT hZ (W hw 80))) (mvT hZ (W hw 80)) (mvT hZ (W hw 79)) (by decide) (backOf (W := 0) (rmIsL0 l Z a0 hw [] a1 G1 h0 n0 (by omega) C1 O2 P5 X00) hZ (W hw 81) (W hw 8) (by decide) (by decide)) qa2 qc2 (g := (mkF m 1 #[.val (.ref a1), .val (.int (0 : Int32))] [(.ref a1)])) rfl (by rw [hml]; rfl) c1 (argsL := []) (rest := []) (lenOf pd___Z rfl) rfl (by show 2 * 0 + _ ≤ _; exact Nat.le_of_eq rfl) (hb hby d23_1) (fun _ _ => ⟨rfl, e0, (by decide : 0 + 0 ≤ _), (by decide : 0 + 0 ≤ _)⟩)
    dsimp only [Pt.U, Pt.locs, Pt.cells, Pt.slots] at X2 lp2 yp2 zp2 st2 hQ2
    subst lp2 yp2 zp2
    obtain ⟨rfl, Nq2, eq2⟩ := hQ2
    have N2 := Fr.app N0 Nq2
    have c3 : SS p e below B0 T2 m 4 #[.val (.ref a1), .val (.int (0 : Int32))] [(.int (1 : Int32))] := st2
    have c4 : SS p e below B0 T2 m 8 #[.val (.ref a1), .val (.int (0 : Int32))] [(.ref a1)] := Steps.trans c3 (by
        refine XS.ifNo X2.here hx rfl (hb hby d23_4) rfl ((if0 _ _).trans (feq (by decide : ¬ (1 : Int32) = (0 : Int32))).1) ?_
        refine XS.aloadN X2.here hx rfl (hb hby d23_7) rfl rfl ?_
        exact Steps.refl _)
    obtain ⟨T5, X5, e5, st5⟩ := getF X2 hx hZ hown (host := "") (Or.inl (W hw 25)) Via.refl eq2 V1 (g := (mkF m 8 #[.val (.ref a1), .val (.int (0 : Int32))] [(.ref a1)])) rfl rfl (hb hby d23_8)
    have c6 : SS p e below B0 T5 m 11 #[.val (.ref a1), .val (.int (0 : Int32))] [(.ref t1)] := Steps.trans c4 (st5 _ (Steps.refl _))
    have c7 : SS p e below B0 T5 m 12 #[.val (.ref a1), .val (.int (0 : Int32))] [(.int (0 : Int32)), (.ref t1)] := Steps.trans c6 (by
        refine XS.iloadN X5.here hx rfl (hb hby d23_11) rfl ?_
        exact Steps.refl _)
    obtain ⟨_, _, ⟨T8, Lp8, kp8, np8⟩, -, X8, ⟨Lc8, hQ8, lp8, yp8, zp8⟩, st8⟩ := Jvm.LawKit.callS X5 hx (y := (⟨"java/lang/StringLatin1", "charAt", "([BI)C"⟩ : MethodName)) hown (mvT hZ (W hw 82)) (mvT hZ (W hw 83)) (mvT hZ (W hw 33)) (mvT hZ (W hw 84)) (by decide) (backOf (W := 0) (rmLcA3_0 l Z a0 hw [] t1 k1 c0' c1' c2' G3 h0 n0 (by omega) A1 O4 rG3 X00 hc hl0) hZ (W hw 84) (W hw 33) (by decide) (by decide)) (g := (mkF m 12 #[.val (.ref a1), .val (.int (0 : Int32))] [(.int (0 : Int32)), (.ref t1)])) rfl (by rw [hml]; rfl) (argsL := [(.ref t1), (.int (0 : Int32))]) (rest := []) (lenOf pd___BI_C rfl) rfl (by show 2 * 0 + _ ≤ _; exact Nat.le_of_eq rfl) (hb hby d23_12) (fun _ _ => ⟨rfl, e5, (by decide : 0 + 0 ≤ _), (by decide : 0 + 0 ≤ _)⟩)
    dsimp only [Pt.U, Pt.locs, Pt.cells, Pt.slots] at X8 lp8 yp8 zp8 st8 hQ8
    subst lp8 yp8 zp8
    obtain ⟨rfl, Nq8, eq8⟩ := hQ8
    have N8 := Fr.app N2 Nq8
    have c9 : SS p e below B0 T8 m 15 #[.val (.ref a1), .val (.int (0 : Int32))] [(.int (c0'))] := Steps.trans c7 (st8 _ (Steps.refl _))
    have hv := own_nar hc.1 hc.2
    obtain ⟨fs, hr, hrun, hended, hW, hsame⟩ := X8.leave (v := some (.int (nar .char c0'))) (fun h => by rw [Bd.returns] at h; cases h)
    subst hB0
    refine ⟨_, _, Steps.trans c9 ?_, hrun, hended, _, _, rfl, ?_, ⟨_, rfl⟩, hW, hsame.mono (by decide) (by decide)⟩
    · exact retN X8 hx (t := .char) Bd.returns (by simp) (hb hby d23_15) hr
    · show QChA3_0 c0' c1' c2' h0 n0 _ T8.heap _
      rw [eq8]
      exact ⟨congrArg (fun z => some (Value.int z)) hv, N8, rfl⟩
  · have hdummy := Z0
    have c1 : SS p e below B0 s₁ m 1 #[.val (.ref a1), .val (.int (0 : Int32))] [(.ref a1)] := Steps.trans c0 (by
        refine XS.aloadN X0.here hx rfl (hb hby d23_0) rfl rfl ?_
        exact Steps.refl _)
    obtain ⟨cq2, kq2, qa2, qb2, qc2⟩ := isOf hZ e0 E1
    obtain ⟨_, _, ⟨T2, Lp2, kp2, np2⟩, -, X2, ⟨Lc2, hQ2, lp2, yp2, zp2⟩, st2⟩ := X0.virtualBack hx (y := (⟨"java/lang/String", "isLatin1", "()Z"⟩ : MethodName)) (z := (⟨"java/lang/String", "isLatin1", "()Z"⟩ : MethodName)) hown (mvT hZ (W hw 77)) (mvT hZ (W hw 78)) (notFace_of_selects (args := #[]) (mvT hZ (W hw 80))) (mvT hZ (W hw 80)) (mvT hZ (W hw 79)) (by decide) (backOf (W := 0) (rmIsL1 l Z a0 hw [] a1 G1 h0 n0 (by omega) C1 O2 P5 X00) hZ (W hw 81) (W hw 8) (by decide) (by decide)) qa2 qc2 (g := (mkF m 1 #[.val (.ref a1), .val (.int (0 : Int32))] [(.ref a1)])) rfl (by rw [hml]; rfl) c1 (argsL := []) (rest := []) (lenOf pd___Z rfl) rfl (by show 2 * 0 + _ ≤ _; exact Nat.le_of_eq rfl) (hb hby d23_1) (fun _ _ => ⟨rfl, e0, (by decide : 0 + 0 ≤ _), (by decide : 0 + 0 ≤ _)⟩)
    dsimp only [Pt.U, Pt.locs, Pt.cells, Pt.slots] at X2 lp2 yp2 zp2 st2 hQ2
    subst lp2 yp2 zp2
    obtain ⟨rfl, Nq2, eq2⟩ := hQ2
    have N2 := Fr.app N0 Nq2
    have c3 : SS p e below B0 T2 m 4 #[.val (.ref a1), .val (.int (0 : Int32))] [(.int (0 : Int32))] := st2
    have c4 : SS p e below B0 T2 m 17 #[.val (.ref a1), .val (.int (0 : Int32))] [(.ref a1)] := Steps.trans c3 (by
        refine XS.ifYes X2.here hx rfl (pc0 := 4) (pc' := 16) rfl (hb hby d23_4) rfl ((if0 _ _).trans (teq (by decide : (0 : Int32) = (0 : Int32))).1) (by decide) (by decide) ?_
        refine XS.aloadN X2.here hx rfl (hb hby d23_16) rfl rfl ?_
        exact Steps.refl _)
    obtain ⟨T5, X5, e5, st5⟩ := getF X2 hx hZ hown (host := "") (Or.inl (W hw 25)) Via.refl eq2 V1 (g := (mkF m 17 #[.val (.ref a1), .val (.int (0 : Int32))] [(.ref a1)])) rfl rfl (hb hby d23_17)
    have c6 : SS p e below B0 T5 m 20 #[.val (.ref a1), .val (.int (0 : Int32))] [(.ref t1)] := Steps.trans c4 (st5 _ (Steps.refl _))
    have c7 : SS p e below B0 T5 m 21 #[.val (.ref a1), .val (.int (0 : Int32))] [(.int (0 : Int32)), (.ref t1)] := Steps.trans c6 (by
        refine XS.iloadN X5.here hx rfl (hb hby d23_20) rfl ?_
        exact Steps.refl _)
    obtain ⟨_, _, ⟨T8, Lp8, kp8, np8⟩, -, X8, ⟨Lc8, hQ8, lp8, yp8, zp8⟩, st8⟩ := Jvm.LawKit.callS X5 hx (y := (⟨"java/lang/StringUTF16", "charAt", "([BI)C"⟩ : MethodName)) hown (mvT hZ (W hw 112)) (mvT hZ (W hw 113)) (mvT hZ (W hw 64)) (mvT hZ (W hw 114)) (by decide) (backOf (W := 0) (rmUcA3_0 l Z a0 hw [] t1 k1 c0' c1' c2' G3 h0 n0 (by omega) A1 O4 rG3 O7 O8 O9 X00 hc) hZ (W hw 114) (W hw 64) (by decide) (by decide)) (g := (mkF m 21 #[.val (.ref a1), .val (.int (0 : Int32))] [(.int (0 : Int32)), (.ref t1)])) rfl (by rw [hml]; rfl) (argsL := [(.ref t1), (.int (0 : Int32))]) (rest := []) (lenOf pd___BI_C rfl) rfl (by show 2 * 0 + _ ≤ _; exact Nat.le_of_eq rfl) (hb hby d23_21) (fun _ _ => ⟨rfl, e5, (by decide : 0 + 0 ≤ _), (by decide : 0 + 0 ≤ _)⟩)
    dsimp only [Pt.U, Pt.locs, Pt.cells, Pt.slots] at X8 lp8 yp8 zp8 st8 hQ8
    subst lp8 yp8 zp8
    obtain ⟨rfl, Nq8, eq8⟩ := hQ8
    have N8 := Fr.app N2 Nq8
    have c9 : SS p e below B0 T8 m 24 #[.val (.ref a1), .val (.int (0 : Int32))] [(.int (c0'))] := Steps.trans c7 (st8 _ (Steps.refl _))
    have hv := own_nar hc.1 hc.2
    obtain ⟨fs, hr, hrun, hended, hW, hsame⟩ := X8.leave (v := some (.int (nar .char c0'))) (fun h => by rw [Bd.returns] at h; cases h)
    subst hB0
    refine ⟨_, _, Steps.trans c9 ?_, hrun, hended, _, _, rfl, ?_, ⟨_, rfl⟩, hW, hsame.mono (by decide) (by decide)⟩
    · exact retN X8 hx (t := .char) Bd.returns (by simp) (hb hby d23_24) hr
    · show QChA3_0 c0' c1' c2' h0 n0 _ T8.heap _
      rw [eq8]
      exact ⟨congrArg (fun z => some (Value.int z)) hv, N8, rfl⟩
def QUck3_1 (h0 : Heap) (n0 : Nat) (v : Option Value) (h : Heap) (L : List Loc) : Prop := v = none ∧ Fr n0 L ∧ h = h0
set_option maxRecDepth 65536 in
set_option maxHeartbeats 40000000 in
theorem rmUck3_1 (l : Launch) (Z : State) (a0 : Array Value) (hw : ∀ d ∈ tables_1, d.before a0 Z = true) (ws : List Jvm.Cond) (t1 : Addr) (k1 : ClassId) (vs : List Value) (G3 : Value) (h0 : Heap) (n0 : Nat) (Z0 : n0 ≤ h0.size) (A1 : Arv Z h0 t1 k1 .byte (6 : Int32) vs (.int (0 : Int32))) (O4 : Sta Z Z.heap "jdk/internal/util/Preconditions" "SIOOBE_FORMATTER" "Ljava/util/function/BiFunction;" G3) (rG3 : G3.isRef = true) (X00 : Old Z n0 h0) :
    MetFree l (⟨"java/lang/StringUTF16", "checkIndex", "(I[B)V"⟩ : MethodName) (head1 (Jvm.Cond.code (⟨"java/lang/StringUTF16", "checkIndex", "(I[B)V"⟩ : MethodName) jdk_52_method_91_code 2 none :: ws) ({ frames := 2, cells := 0, slots := 0, locals := 27 } : Room)) (fun a U => a = #[(.int (1 : Int32)), (.ref t1)] ∧ Z.Warmed39 U.vm ∧ U.heap = h0) (fun _ _ _ _ _ => True) (fun _ U o U' => ∃ v L, o = .returned v ∧ QUck3_1 h0 n0 v U'.heap L ∧ FrameEnd U o U' L ({ frames := 2, cells := 0, slots := 0, locals := 27 } : Room).cells ({ frames := 2, cells := 0, slots := 0, locals := 27 } : Room).slots) := by
  refine MetFree.of_bodySF (plainFor_of_name pn_java_lang_StringUTF16) hisR ?_
  intro p e s m args below meth c s₁ Bd hml0 hP hK
  obtain ⟨rfl, hZ, hh⟩ := hP
  have hx := Bd.exec
  have hby := Bd.bytes
  have hml : c.maxLocals = 2 := hml0
  have hown : s.vm.findClass "java/lang/StringUTF16" = some m.cls := findClass_of_methodNamed Bd.named
  have hnm := (name_of_methodNamed Bd.named Bd.method).1
  have X0 : Stand p l e ({ frames := 2, cells := 0, slots := 0, locals := 27 } : Room) s m #[(.int (1 : Int32)), (.ref t1)] below meth c s₁ [] 0 0 := Stand.of_body Bd
  have e0 : s₁.heap = h0 := by rw [← hh, Bd.state]; rfl
  have N0 := Fr.nil n0
  obtain ⟨B0, c0, hB0⟩ : ∃ B0, Steps p.tables e below B0 (s₁.setTop (mkF m 0 #[.val (.int (1 : Int32)), .val (.ref t1)] [])) ∧ B0 = s₁.setTop (entryFrame m #[(.int (1 : Int32)), (.ref t1)] 2) := ⟨_, castTop (ef_IR_2 m (1 : Int32) t1) (Steps.refl _), rfl⟩
  have c1 : SS p e below B0 s₁ m 2 #[.val (.int (1 : Int32)), .val (.ref t1)] [(.ref t1), (.int (1 : Int32))] := Steps.trans c0 (by
      refine XS.iloadN X0.here hx rfl (hb hby d20_0) rfl ?_
      refine XS.aloadN X0.here hx rfl (hb hby d20_1) rfl rfl ?_
      exact Steps.refl _)
  obtain ⟨_, _, ⟨T2, Lp2, kp2, np2⟩, -, X2, ⟨Lc2, hQ2, lp2, yp2, zp2⟩, st2⟩ := Jvm.LawKit.callS X0 hx (y := (⟨"java/lang/StringUTF16", "length", "([B)I"⟩ : MethodName)) hown (mvT hZ (W hw 118)) (mvT hZ (W hw 119)) (mvT hZ (W hw 64)) (mvT hZ (W hw 120)) (by decide) (backOf (W := 1) (rmUl3 l Z a0 hw [] t1 k1 vs h0 n0 (by omega) A1) hZ (W hw 120) (W hw 64) (by decide) (by decide)) (g := (mkF m 2 #[.val (.int (1 : Int32)), .val (.ref t1)] [(.ref t1), (.int (1 : Int32))])) rfl (by rw [hml]; rfl) (argsL := [(.ref t1)]) (rest := [(.int (1 : Int32))]) (lenOf pd___B_I rfl) rfl (by show 2 * 0 + _ ≤ _; exact Nat.le_of_eq rfl) (hb hby d20_2) (fun _ _ => ⟨rfl, e0, (by decide : 0 + 0 ≤ _), (by decide : 0 + 0 ≤ _)⟩)
  dsimp only [Pt.U, Pt.locs, Pt.cells, Pt.slots] at X2 lp2 yp2 zp2 st2 hQ2
  subst lp2 yp2 zp2
  obtain ⟨rfl, Nq2, eq2⟩ := hQ2
  have N2 := Fr.app N0 Nq2
  have c3 : SS p e below B0 T2 m 5 #[.val (.int (1 : Int32)), .val (.ref t1)] [(.int (3 : Int32)), (.int (1 : Int32))] := Steps.trans c1 (st2 _ (Steps.refl _))
  obtain ⟨_, _, ⟨T4, Lp4, kp4, np4⟩, -, X4, ⟨Lc4, hQ4, lp4, yp4, zp4⟩, st4⟩ := Jvm.LawKit.callS X2 hx (y := (⟨"java/lang/String", "checkIndex", "(II)V"⟩ : MethodName)) hown (mvT hZ (W hw 121)) (mvT hZ (W hw 86)) (mvT hZ (W hw 8)) (mvT hZ (W hw 87)) (by decide) (backOf (W := 0) (rmCk l Z a0 hw [] 1 3 G3 h0 n0 (by omega) (by decide) (by decide) O4 rG3 X00) hZ (W hw 87) (W hw 8) (by decide) (by decide)) (g := (mkF m 5 #[.val (.int (1 : Int32)), .val (.ref t1)] [(.int (3 : Int32)), (.int (1 : Int32))])) rfl (by rw [hml]; rfl) (argsL := [(.int (1 : Int32)), (.int (3 : Int32))]) (rest := []) (lenOf pd__II_V rfl) rfl (by show 2 * 0 + _ ≤ _; exact Nat.le_of_eq rfl) (hb hby d20_5) (fun _ _ => ⟨rfl, eq2, (by decide : 0 + 0 ≤ _), (by decide : 0 + 0 ≤ _)⟩)
  dsimp only [Pt.U, Pt.locs, Pt.cells, Pt.slots] at X4 lp4 yp4 zp4 st4 hQ4
  subst lp4 yp4 zp4
  obtain ⟨rfl, Nq4, eq4⟩ := hQ4
  have N4 := Fr.app N2 Nq4
  have c5 : SS p e below B0 T4 m 8 #[.val (.int (1 : Int32)), .val (.ref t1)] [] := Steps.trans c3 (st4 _ (Steps.refl _))
  obtain ⟨fs, hr, hrun, hended, hW, hsame⟩ := X4.leave (v := none) (fun _ => rfl)
  subst hB0
  refine ⟨_, _, Steps.trans c5 ?_, hrun, hended, _, _, rfl, ?_, ⟨_, rfl⟩, hW, hsame.mono (by decide) (by decide)⟩
  · exact X4.returnOut hx Bd.returns (hb hby d20_8) hr
  · show QUck3_1 h0 n0 _ T4.heap _
    rw [eq4]
    exact ⟨rfl, N4, rfl⟩
def QLcA3_1 (c0' c1' c2' : Int32) (h0 : Heap) (n0 : Nat) (v : Option Value) (h : Heap) (L : List Loc) : Prop := v = some (.int c1') ∧ Fr n0 L ∧ h = h0
set_option maxRecDepth 65536 in
set_option maxHeartbeats 40000000 in
theorem rmLcA3_1 (l : Launch) (Z : State) (a0 : Array Value) (hw : ∀ d ∈ tables_1, d.before a0 Z = true) (ws : List Jvm.Cond) (t1 : Addr) (k1 : ClassId) (c0' c1' c2' : Int32) (G3 : Value) (h0 : Heap) (n0 : Nat) (Z0 : n0 ≤ h0.size) (A1 : Arv Z h0 t1 k1 .byte (3 : Int32) [(.int (nar .byte (c0'.toInt8.toInt32))), (.int (nar .byte (c1'.toInt8.toInt32))), (.int (nar .byte (c2'.toInt8.toInt32)))] (.int (0 : Int32))) (O4 : Sta Z Z.heap "jdk/internal/util/Preconditions" "SIOOBE_FORMATTER" "Ljava/util/function/BiFunction;" G3) (rG3 : G3.isRef = true) (X00 : Old Z n0 h0) (hc : ¬ c1' < 0 ∧ ¬ (65535 : Int32) < c1') (hl : ¬ (255 : Int32) < c1') :
    MetFree l (⟨"java/lang/StringLatin1", "charAt", "([BI)C"⟩ : MethodName) (head1 (Jvm.Cond.code (⟨"java/lang/StringLatin1", "charAt", "([BI)C"⟩ : MethodName) jdk_43_method_2_code 2 (some .char) :: ws) ({ frames := 2, cells := 0, slots := 0, locals := 27 } : Room)) (fun a U => a = #[(.ref t1), (.int (1 : Int32))] ∧ Z.Warmed39 U.vm ∧ U.heap = h0) (fun _ _ _ _ _ => True) (fun _ U o U' => ∃ v L, o = .returned v ∧ QLcA3_1 c0' c1' c2' h0 n0 v U'.heap L ∧ FrameEnd U o U' L ({ frames := 2, cells := 0, slots := 0, locals := 27 } : Room).cells ({ frames := 2, cells := 0, slots := 0, locals := 27 } : Room).slots) := by
  refine MetFree.of_bodySF (plainFor_of_name pn_java_lang_StringLatin1) hisR ?_
  intro p e s m args below meth c s₁ Bd hml0 hP hK
  obtain ⟨rfl, hZ, hh⟩ := hP
  have hx := Bd.exec
  have hby := Bd.bytes
  have hml : c.maxLocals = 2 := hml0
  have hown : s.vm.findClass "java/lang/StringLatin1" = some m.cls := findClass_of_methodNamed Bd.named
  have hnm := (name_of_methodNamed Bd.named Bd.method).1
  have X0 : Stand p l e ({ frames := 2, cells := 0, slots := 0, locals := 27 } : Room) s m #[(.ref t1), (.int (1 : Int32))] below meth c s₁ [] 0 0 := Stand.of_body Bd
  have e0 : s₁.heap = h0 := by rw [← hh, Bd.state]; rfl
  have N0 := Fr.nil n0
  obtain ⟨B0, c0, hB0⟩ : ∃ B0, Steps p.tables e below B0 (s₁.setTop (mkF m 0 #[.val (.ref t1), .val (.int (1 : Int32))] [])) ∧ B0 = s₁.setTop (entryFrame m #[(.ref t1), (.int (1 : Int32))] 2) := ⟨_, castTop (ef_RI_2 m t1 (1 : Int32)) (Steps.refl _), rfl⟩
  have c1 : SS p e below B0 s₁ m 2 #[.val (.ref t1), .val (.int (1 : Int32))] [(.ref t1), (.int (1 : Int32))] := Steps.trans c0 (by
      refine XS.iloadN X0.here hx rfl (hb hby d21_0) rfl ?_
      refine XS.aloadN X0.here hx rfl (hb hby d21_1) rfl rfl ?_
      exact Steps.refl _)
  obtain ⟨cl2, Ar2, q2, Sz2, M2, Hs2, U2⟩ := id A1
  have c3 : SS p e below B0 s₁ m 3 #[.val (.ref t1), .val (.int (1 : Int32))] [(.int (3 : Int32)), (.int (1 : Int32))] := Steps.trans c1 (by
      refine X0.arraylength hx (by rw [e0]; exact Ar2.1) (State.isArrayOf_alike hZ.alike Ar2.2.1) (g := (mkF m 2 #[.val (.ref t1), .val (.int (1 : Int32))] [(.ref t1), (.int (1 : Int32))])) rfl rfl (hb hby d21_2) _ ?_
      rw [len_of Sz2 M2]
      exact Steps.refl _)
  obtain ⟨_, _, ⟨T4, Lp4, kp4, np4⟩, -, X4, ⟨Lc4, hQ4, lp4, yp4, zp4⟩, st4⟩ := Jvm.LawKit.callS X0 hx (y := (⟨"java/lang/String", "checkIndex", "(II)V"⟩ : MethodName)) hown (mvT hZ (W hw 85)) (mvT hZ (W hw 86)) (mvT hZ (W hw 8)) (mvT hZ (W hw 87)) (by decide) (backOf (W := 0) (rmCk l Z a0 hw [] 1 3 G3 h0 n0 (by omega) (by decide) (by decide) O4 rG3 X00) hZ (W hw 87) (W hw 8) (by decide) (by decide)) (g := (mkF m 3 #[.val (.ref t1), .val (.int (1 : Int32))] [(.int (3 : Int32)), (.int (1 : Int32))])) rfl (by rw [hml]; rfl) (argsL := [(.int (1 : Int32)), (.int (3 : Int32))]) (rest := []) (lenOf pd__II_V rfl) rfl (by show 2 * 0 + _ ≤ _; exact Nat.le_of_eq rfl) (hb hby d21_3) (fun _ _ => ⟨rfl, e0, (by decide : 0 + 0 ≤ _), (by decide : 0 + 0 ≤ _)⟩)
  dsimp only [Pt.U, Pt.locs, Pt.cells, Pt.slots] at X4 lp4 yp4 zp4 st4 hQ4
  subst lp4 yp4 zp4
  obtain ⟨rfl, Nq4, eq4⟩ := hQ4
  have N4 := Fr.app N0 Nq4
  have c5 : SS p e below B0 T4 m 6 #[.val (.ref t1), .val (.int (1 : Int32))] [] := Steps.trans c3 (st4 _ (Steps.refl _))
  have c6 : SS p e below B0 T4 m 8 #[.val (.ref t1), .val (.int (1 : Int32))] [(.int (1 : Int32)), (.ref t1)] := Steps.trans c5 (by
      refine XS.aloadN X4.here hx rfl (hb hby d21_6) rfl rfl ?_
      refine XS.iloadN X4.here hx rfl (hb hby d21_7) rfl ?_
      exact Steps.refl _)
  obtain ⟨cl7, Ar7, q7, Sz7, M7, Hs7, U7⟩ := id A1
  have in7 := inb_of (j := (1 : Int32)) Sz7 ⟨(by decide), (by decide)⟩
  have c8 : SS p e below B0 T4 m 9 #[.val (.ref t1), .val (.int (1 : Int32))] [(.int (nar .byte (c1'.toInt8.toInt32)))] := Steps.trans c6 (by
      refine X4.baloadBytes hx (j := (1 : Int32)) (v := (.int (nar .byte (c1'.toInt8.toInt32)))) (by rw [eq4]; exact Ar7.1) (State.isArrayOf_alike hZ.alike Ar7.2.1) Ar7.2.2 in7 (Hs7.at in7 rfl) (g := (mkF m 8 #[.val (.ref t1), .val (.int (1 : Int32))] [(.int (1 : Int32)), (.ref t1)])) rfl rfl (hb hby d21_8) _ ?_
      exact Steps.refl _)
  have c9 : SS p e below B0 T4 m 14 #[.val (.ref t1), .val (.int (1 : Int32))] [(.int (((nar .byte (c1'.toInt8.toInt32)) &&& (255 : Int32)).toUInt32.toUInt16.toUInt32.toInt32))] := Steps.trans c8 (by
      refine XT.sipushV X4.here hx rfl (255 : Int32) (hb hby d21_9) (by decide) ?_
      refine XS.iand X4.here hx rfl (hb hby d21_12) rfl ?_
      refine XS.i2c X4.here hx rfl (hb hby d21_13) rfl ?_
      exact Steps.refl _)
  have hv := own_lat hc.1 hl
  obtain ⟨fs, hr, hrun, hended, hW, hsame⟩ := X4.leave (v := some (.int (nar .char (((nar .byte (c1'.toInt8.toInt32)) &&& (255 : Int32)).toUInt32.toUInt16.toUInt32.toInt32)))) (fun h => by rw [Bd.returns] at h; cases h)
  subst hB0
  refine ⟨_, _, Steps.trans c9 ?_, hrun, hended, _, _, rfl, ?_, ⟨_, rfl⟩, hW, hsame.mono (by decide) (by decide)⟩
  · exact retN X4 hx (t := .char) Bd.returns (by simp) (hb hby d21_14) hr
  · show QLcA3_1 c0' c1' c2' h0 n0 _ T4.heap _
    rw [eq4]
    exact ⟨congrArg (fun z => some (Value.int z)) hv, N4, rfl⟩
def QUcA3_1 (c0' c1' c2' : Int32) (h0 : Heap) (n0 : Nat) (v : Option Value) (h : Heap) (L : List Loc) : Prop := v = some (.int c1') ∧ Fr n0 L ∧ h = h0
set_option maxRecDepth 65536 in
set_option maxHeartbeats 40000000 in
theorem rmUcA3_1 (l : Launch) (Z : State) (a0 : Array Value) (hw : ∀ d ∈ tables_1, d.before a0 Z = true) (ws : List Jvm.Cond) (t1 : Addr) (k1 : ClassId) (c0' c1' c2' : Int32) (G3 : Value) (h0 : Heap) (n0 : Nat) (Z0 : n0 ≤ h0.size) (A1 : Arv Z h0 t1 k1 .byte (6 : Int32) [(.int (nar .byte ((c0' >>> ((0 : Int32) &&& 31)).toInt8.toInt32))), (.int (nar .byte ((c0' >>> ((8 : Int32) &&& 31)).toInt8.toInt32))), (.int (nar .byte ((c1' >>> ((0 : Int32) &&& 31)).toInt8.toInt32))), (.int (nar .byte ((c1' >>> ((8 : Int32) &&& 31)).toInt8.toInt32))), (.int (nar .byte ((c2' >>> ((0 : Int32) &&& 31)).toInt8.toInt32))), (.int (nar .byte ((c2' >>> ((8 : Int32) &&& 31)).toInt8.toInt32)))] (.int (0 : Int32))) (O4 : Sta Z Z.heap "jdk/internal/util/Preconditions" "SIOOBE_FORMATTER" "Ljava/util/function/BiFunction;" G3) (rG3 : G3.isRef = true) (O7 : Sta Z Z.heap "java/lang/StringUTF16" "$assertionsDisabled" "Z" (.int (1 : Int32))) (O8 : Sta Z Z.heap "java/lang/StringUTF16" "HI_BYTE_SHIFT" "I" (.int (0 : Int32))) (O9 : Sta Z Z.heap "java/lang/StringUTF16" "LO_BYTE_SHIFT" "I" (.int (8 : Int32))) (X00 : Old Z n0 h0) (hc : ¬ c1' < 0 ∧ ¬ (65535 : Int32) < c1') :
    MetFree l (⟨"java/lang/StringUTF16", "charAt", "([BI)C"⟩ : MethodName) (head1 (Jvm.Cond.code (⟨"java/lang/StringUTF16", "charAt", "([BI)C"⟩ : MethodName) jdk_52_method_83_code 2 (some .char) :: ws) ({ frames := 3, cells := 0, slots := 0, locals := 40 } : Room)) (fun a U => a = #[(.ref t1), (.int (1 : Int32))] ∧ Z.Warmed39 U.vm ∧ U.heap = h0) (fun _ _ _ _ _ => True) (fun _ U o U' => ∃ v L, o = .returned v ∧ QUcA3_1 c0' c1' c2' h0 n0 v U'.heap L ∧ FrameEnd U o U' L ({ frames := 3, cells := 0, slots := 0, locals := 40 } : Room).cells ({ frames := 3, cells := 0, slots := 0, locals := 40 } : Room).slots) := by
  refine MetFree.of_bodySF (plainFor_of_name pn_java_lang_StringUTF16) hisR ?_
  intro p e s m args below meth c s₁ Bd hml0 hP hK
  obtain ⟨rfl, hZ, hh⟩ := hP
  have hx := Bd.exec
  have hby := Bd.bytes
  have hml : c.maxLocals = 2 := hml0
  have hown : s.vm.findClass "java/lang/StringUTF16" = some m.cls := findClass_of_methodNamed Bd.named
  have hnm := (name_of_methodNamed Bd.named Bd.method).1
  have X0 : Stand p l e ({ frames := 3, cells := 0, slots := 0, locals := 40 } : Room) s m #[(.ref t1), (.int (1 : Int32))] below meth c s₁ [] 0 0 := Stand.of_body Bd
  have e0 : s₁.heap = h0 := by rw [← hh, Bd.state]; rfl
  have N0 := Fr.nil n0
  obtain ⟨B0, c0, hB0⟩ : ∃ B0, Steps p.tables e below B0 (s₁.setTop (mkF m 0 #[.val (.ref t1), .val (.int (1 : Int32))] [])) ∧ B0 = s₁.setTop (entryFrame m #[(.ref t1), (.int (1 : Int32))] 2) := ⟨_, castTop (ef_RI_2 m t1 (1 : Int32)) (Steps.refl _), rfl⟩
  have c1 : SS p e below B0 s₁ m 2 #[.val (.ref t1), .val (.int (1 : Int32))] [(.ref t1), (.int (1 : Int32))] := Steps.trans c0 (by
      refine XS.iloadN X0.here hx rfl (hb hby d22_0) rfl ?_
      refine XS.aloadN X0.here hx rfl (hb hby d22_1) rfl rfl ?_
      exact Steps.refl _)
  obtain ⟨_, _, ⟨T2, Lp2, kp2, np2⟩, -, X2, ⟨Lc2, hQ2, lp2, yp2, zp2⟩, st2⟩ := Jvm.LawKit.callS X0 hx (y := (⟨"java/lang/StringUTF16", "checkIndex", "(I[B)V"⟩ : MethodName)) hown (mvT hZ (W hw 115)) (mvT hZ (W hw 116)) (mvT hZ (W hw 64)) (mvT hZ (W hw 117)) (by decide) (backOf (W := 0) (rmUck3_1 l Z a0 hw [] t1 k1 _ G3 h0 n0 (by omega) A1 O4 rG3 X00) hZ (W hw 117) (W hw 64) (by decide) (by decide)) (g := (mkF m 2 #[.val (.ref t1), .val (.int (1 : Int32))] [(.ref t1), (.int (1 : Int32))])) rfl (by rw [hml]; rfl) (argsL := [(.int (1 : Int32)), (.ref t1)]) (rest := []) (lenOf pd__I_B_V rfl) rfl (by show 2 * 0 + _ ≤ _; exact Nat.le_of_eq rfl) (hb hby d22_2) (fun _ _ => ⟨rfl, e0, (by decide : 0 + 0 ≤ _), (by decide : 0 + 0 ≤ _)⟩)
  dsimp only [Pt.U, Pt.locs, Pt.cells, Pt.slots] at X2 lp2 yp2 zp2 st2 hQ2
  subst lp2 yp2 zp2
  obtain ⟨rfl, Nq2, eq2⟩ := hQ2
  have N2 := Fr.app N0 Nq2
  have c3 : SS p e below B0 T2 m 5 #[.val (.ref t1), .val (.int (1 : Int32))] [] := Steps.trans c1 (st2 _ (Steps.refl _))
  have c4 : SS p e below B0 T2 m 7 #[.val (.ref t1), .val (.int (1 : Int32))] [(.int (1 : Int32)), (.ref t1)] := Steps.trans c3 (by
      refine XS.aloadN X2.here hx rfl (hb hby d22_5) rfl rfl ?_
      refine XS.iloadN X2.here hx rfl (hb hby d22_6) rfl ?_
      exact Steps.refl _)
  obtain ⟨_, _, ⟨T5, Lp5, kp5, np5⟩, -, X5, ⟨Lc5, hQ5, lp5, yp5, zp5⟩, st5⟩ := Jvm.LawKit.callS X2 hx (y := (⟨"java/lang/StringUTF16", "getChar", "([BI)C"⟩ : MethodName)) hown (mvT hZ (W hw 109)) (mvT hZ (W hw 110)) (mvT hZ (W hw 64)) (mvT hZ (W hw 111)) (by decide) (backOf (W := 0) (rmGet3_1 l Z a0 hw [] t1 k1 c0' c1' c2' h0 n0 (by omega) O7 O8 O9 X00 A1 hc) hZ (W hw 111) (W hw 64) (by decide) (by decide)) (g := (mkF m 7 #[.val (.ref t1), .val (.int (1 : Int32))] [(.int (1 : Int32)), (.ref t1)])) rfl (by rw [hml]; rfl) (argsL := [(.ref t1), (.int (1 : Int32))]) (rest := []) (lenOf pd___BI_C rfl) rfl (by show 2 * 0 + _ ≤ _; exact Nat.le_of_eq rfl) (hb hby d22_7) (fun _ _ => ⟨rfl, eq2, (by decide : 0 + 0 ≤ _), (by decide : 0 + 0 ≤ _)⟩)
  dsimp only [Pt.U, Pt.locs, Pt.cells, Pt.slots] at X5 lp5 yp5 zp5 st5 hQ5
  subst lp5 yp5 zp5
  obtain ⟨rfl, Nq5, eq5⟩ := hQ5
  have N5 := Fr.app N2 Nq5
  have c6 : SS p e below B0 T5 m 10 #[.val (.ref t1), .val (.int (1 : Int32))] [(.int (c1'))] := Steps.trans c4 (st5 _ (Steps.refl _))
  have hv := own_nar hc.1 hc.2
  obtain ⟨fs, hr, hrun, hended, hW, hsame⟩ := X5.leave (v := some (.int (nar .char c1'))) (fun h => by rw [Bd.returns] at h; cases h)
  subst hB0
  refine ⟨_, _, Steps.trans c6 ?_, hrun, hended, _, _, rfl, ?_, ⟨_, rfl⟩, hW, hsame.mono (by decide) (by decide)⟩
  · exact retN X5 hx (t := .char) Bd.returns (by simp) (hb hby d22_10) hr
  · show QUcA3_1 c0' c1' c2' h0 n0 _ T5.heap _
    rw [eq5]
    exact ⟨congrArg (fun z => some (Value.int z)) hv, N5, rfl⟩
def QChA3_1 (c0' c1' c2' : Int32) (h0 : Heap) (n0 : Nat) (v : Option Value) (h : Heap) (L : List Loc) : Prop := v = some (.int c1') ∧ Fr n0 L ∧ h = h0
set_option maxRecDepth 65536 in
set_option maxHeartbeats 40000000 in
theorem rmChA3_1 (l : Launch) (Z : State) (a0 : Array Value) (hw : ∀ d ∈ tables_1, d.before a0 Z = true) (ws : List Jvm.Cond) (a1 t1 : Addr) (k1 : ClassId) (c0' c1' c2' : Int32) (cd N_ : Int32) (vs : List Value) (G1 : Int32) (G3 : Value) (h0 : Heap) (n0 : Nat) (Z0 : n0 ≤ h0.size) (E1 : Exa Z h0 a1 "java/lang/String") (V1 : Fld Z h0 a1 "java/lang/String" "value" "[B" (.ref t1)) (C1 : Fld Z h0 a1 "java/lang/String" "coder" "B" (.int cd)) (A1 : Arv Z h0 t1 k1 .byte N_ vs (.int (0 : Int32))) (spl : Spl3 c0' c1' c2' cd N_ vs) (O2 : Sta Z Z.heap "java/lang/String" "COMPACT_STRINGS" "Z" (.int G1)) (P5 : ¬ (G1 = (0 : Int32))) (O4 : Sta Z Z.heap "jdk/internal/util/Preconditions" "SIOOBE_FORMATTER" "Ljava/util/function/BiFunction;" G3) (rG3 : G3.isRef = true) (O7 : Sta Z Z.heap "java/lang/StringUTF16" "$assertionsDisabled" "Z" (.int (1 : Int32))) (O8 : Sta Z Z.heap "java/lang/StringUTF16" "HI_BYTE_SHIFT" "I" (.int (0 : Int32))) (O9 : Sta Z Z.heap "java/lang/StringUTF16" "LO_BYTE_SHIFT" "I" (.int (8 : Int32))) (X00 : Old Z n0 h0) (hc : ¬ c1' < 0 ∧ ¬ (65535 : Int32) < c1') :
    MetFree l (⟨"java/lang/String", "charAt", "(I)C"⟩ : MethodName) (head1 (Jvm.Cond.code (⟨"java/lang/String", "charAt", "(I)C"⟩ : MethodName) jdk_42_method_56_code 2 (some .char) :: ws) ({ frames := 4, cells := 0, slots := 0, locals := 54 } : Room)) (fun a U => a = #[(.ref a1), (.int (1 : Int32))] ∧ Z.Warmed39 U.vm ∧ U.heap = h0) (fun _ _ _ _ _ => True) (fun _ U o U' => ∃ v L, o = .returned v ∧ QChA3_1 c0' c1' c2' h0 n0 v U'.heap L ∧ FrameEnd U o U' L ({ frames := 4, cells := 0, slots := 0, locals := 54 } : Room).cells ({ frames := 4, cells := 0, slots := 0, locals := 54 } : Room).slots) := by
  refine MetFree.of_bodySF (plainFor_of_name pn_java_lang_String) hisR ?_
  intro p e s m args below meth c s₁ Bd hml0 hP hK
  obtain ⟨rfl, hZ, hh⟩ := hP
  have hx := Bd.exec
  have hby := Bd.bytes
  have hml : c.maxLocals = 2 := hml0
  have hown : s.vm.findClass "java/lang/String" = some m.cls := findClass_of_methodNamed Bd.named
  have hnm := (name_of_methodNamed Bd.named Bd.method).1
  have X0 : Stand p l e ({ frames := 4, cells := 0, slots := 0, locals := 54 } : Room) s m #[(.ref a1), (.int (1 : Int32))] below meth c s₁ [] 0 0 := Stand.of_body Bd
  have e0 : s₁.heap = h0 := by rw [← hh, Bd.state]; rfl
  have N0 := Fr.nil n0
  obtain ⟨B0, c0, hB0⟩ : ∃ B0, Steps p.tables e below B0 (s₁.setTop (mkF m 0 #[.val (.ref a1), .val (.int (1 : Int32))] [])) ∧ B0 = s₁.setTop (entryFrame m #[(.ref a1), (.int (1 : Int32))] 2) := ⟨_, castTop (ef_RI_2 m a1 (1 : Int32)) (Steps.refl _), rfl⟩
  have lt_a1 : (@LT.lt Nat _ a1 h0.size) := E1.lt
  rcases spl with ⟨rfl, rfl, rfl, hl0, hl1, hl2⟩ | ⟨rfl, rfl, rfl⟩
  · have hdummy := Z0
    have c1 : SS p e below B0 s₁ m 1 #[.val (.ref a1), .val (.int (1 : Int32))] [(.ref a1)] := Steps.trans c0 (by
        refine XS.aloadN X0.here hx rfl (hb hby d23_0) rfl rfl ?_
        exact Steps.refl _)
    obtain ⟨cq2, kq2, qa2, qb2, qc2⟩ := isOf hZ e0 E1
    obtain ⟨_, _, ⟨T2, Lp2, kp2, np2⟩, -, X2, ⟨Lc2, hQ2, lp2, yp2, zp2⟩, st2⟩ := X0.virtualBack hx (y := (⟨"java/lang/String", "isLatin1", "()Z"⟩ : MethodName)) (z := (⟨"java/lang/String", "isLatin1", "()Z"⟩ : MethodName)) hown (mvT hZ (W hw 77)) (mvT hZ (W hw 78)) (notFace_of_selects (args := #[]) (mvT hZ (W hw 80))) (mvT hZ (W hw 80)) (mvT hZ (W hw 79)) (by decide) (backOf (W := 0) (rmIsL0 l Z a0 hw [] a1 G1 h0 n0 (by omega) C1 O2 P5 X00) hZ (W hw 81) (W hw 8) (by decide) (by decide)) qa2 qc2 (g := (mkF m 1 #[.val (.ref a1), .val (.int (1 : Int32))] [(.ref a1)])) rfl (by rw [hml]; rfl) c1 (argsL := []) (rest := []) (lenOf pd___Z rfl) rfl (by show 2 * 0 + _ ≤ _; exact Nat.le_of_eq rfl) (hb hby d23_1) (fun _ _ => ⟨rfl, e0, (by decide : 0 + 0 ≤ _), (by decide : 0 + 0 ≤ _)⟩)
    dsimp only [Pt.U, Pt.locs, Pt.cells, Pt.slots] at X2 lp2 yp2 zp2 st2 hQ2
    subst lp2 yp2 zp2
    obtain ⟨rfl, Nq2, eq2⟩ := hQ2
    have N2 := Fr.app N0 Nq2
    have c3 : SS p e below B0 T2 m 4 #[.val (.ref a1), .val (.int (1 : Int32))] [(.int (1 : Int32))] := st2
    have c4 : SS p e below B0 T2 m 8 #[.val (.ref a1), .val (.int (1 : Int32))] [(.ref a1)] := Steps.trans c3 (by
        refine XS.ifNo X2.here hx rfl (hb hby d23_4) rfl ((if0 _ _).trans (feq (by decide : ¬ (1 : Int32) = (0 : Int32))).1) ?_
        refine XS.aloadN X2.here hx rfl (hb hby d23_7) rfl rfl ?_
        exact Steps.refl _)
    obtain ⟨T5, X5, e5, st5⟩ := getF X2 hx hZ hown (host := "") (Or.inl (W hw 25)) Via.refl eq2 V1 (g := (mkF m 8 #[.val (.ref a1), .val (.int (1 : Int32))] [(.ref a1)])) rfl rfl (hb hby d23_8)
    have c6 : SS p e below B0 T5 m 11 #[.val (.ref a1), .val (.int (1 : Int32))] [(.ref t1)] := Steps.trans c4 (st5 _ (Steps.refl _))
    have c7 : SS p e below B0 T5 m 12 #[.val (.ref a1), .val (.int (1 : Int32))] [(.int (1 : Int32)), (.ref t1)] := Steps.trans c6 (by
        refine XS.iloadN X5.here hx rfl (hb hby d23_11) rfl ?_
        exact Steps.refl _)
    obtain ⟨_, _, ⟨T8, Lp8, kp8, np8⟩, -, X8, ⟨Lc8, hQ8, lp8, yp8, zp8⟩, st8⟩ := Jvm.LawKit.callS X5 hx (y := (⟨"java/lang/StringLatin1", "charAt", "([BI)C"⟩ : MethodName)) hown (mvT hZ (W hw 82)) (mvT hZ (W hw 83)) (mvT hZ (W hw 33)) (mvT hZ (W hw 84)) (by decide) (backOf (W := 0) (rmLcA3_1 l Z a0 hw [] t1 k1 c0' c1' c2' G3 h0 n0 (by omega) A1 O4 rG3 X00 hc hl1) hZ (W hw 84) (W hw 33) (by decide) (by decide)) (g := (mkF m 12 #[.val (.ref a1), .val (.int (1 : Int32))] [(.int (1 : Int32)), (.ref t1)])) rfl (by rw [hml]; rfl) (argsL := [(.ref t1), (.int (1 : Int32))]) (rest := []) (lenOf pd___BI_C rfl) rfl (by show 2 * 0 + _ ≤ _; exact Nat.le_of_eq rfl) (hb hby d23_12) (fun _ _ => ⟨rfl, e5, (by decide : 0 + 0 ≤ _), (by decide : 0 + 0 ≤ _)⟩)
    dsimp only [Pt.U, Pt.locs, Pt.cells, Pt.slots] at X8 lp8 yp8 zp8 st8 hQ8
    subst lp8 yp8 zp8
    obtain ⟨rfl, Nq8, eq8⟩ := hQ8
    have N8 := Fr.app N2 Nq8
    have c9 : SS p e below B0 T8 m 15 #[.val (.ref a1), .val (.int (1 : Int32))] [(.int (c1'))] := Steps.trans c7 (st8 _ (Steps.refl _))
    have hv := own_nar hc.1 hc.2
    obtain ⟨fs, hr, hrun, hended, hW, hsame⟩ := X8.leave (v := some (.int (nar .char c1'))) (fun h => by rw [Bd.returns] at h; cases h)
    subst hB0
    refine ⟨_, _, Steps.trans c9 ?_, hrun, hended, _, _, rfl, ?_, ⟨_, rfl⟩, hW, hsame.mono (by decide) (by decide)⟩
    · exact retN X8 hx (t := .char) Bd.returns (by simp) (hb hby d23_15) hr
    · show QChA3_1 c0' c1' c2' h0 n0 _ T8.heap _
      rw [eq8]
      exact ⟨congrArg (fun z => some (Value.int z)) hv, N8, rfl⟩
  · have hdummy := Z0
    have c1 : SS p e below B0 s₁ m 1 #[.val (.ref a1), .val (.int (1 : Int32))] [(.ref a1)] := Steps.trans c0 (by
        refine XS.aloadN X0.here hx rfl (hb hby d23_0) rfl rfl ?_
        exact Steps.refl _)
    obtain ⟨cq2, kq2, qa2, qb2, qc2⟩ := isOf hZ e0 E1
    obtain ⟨_, _, ⟨T2, Lp2, kp2, np2⟩, -, X2, ⟨Lc2, hQ2, lp2, yp2, zp2⟩, st2⟩ := X0.virtualBack hx (y := (⟨"java/lang/String", "isLatin1", "()Z"⟩ : MethodName)) (z := (⟨"java/lang/String", "isLatin1", "()Z"⟩ : MethodName)) hown (mvT hZ (W hw 77)) (mvT hZ (W hw 78)) (notFace_of_selects (args := #[]) (mvT hZ (W hw 80))) (mvT hZ (W hw 80)) (mvT hZ (W hw 79)) (by decide) (backOf (W := 0) (rmIsL1 l Z a0 hw [] a1 G1 h0 n0 (by omega) C1 O2 P5 X00) hZ (W hw 81) (W hw 8) (by decide) (by decide)) qa2 qc2 (g := (mkF m 1 #[.val (.ref a1), .val (.int (1 : Int32))] [(.ref a1)])) rfl (by rw [hml]; rfl) c1 (argsL := []) (rest := []) (lenOf pd___Z rfl) rfl (by show 2 * 0 + _ ≤ _; exact Nat.le_of_eq rfl) (hb hby d23_1) (fun _ _ => ⟨rfl, e0, (by decide : 0 + 0 ≤ _), (by decide : 0 + 0 ≤ _)⟩)
    dsimp only [Pt.U, Pt.locs, Pt.cells, Pt.slots] at X2 lp2 yp2 zp2 st2 hQ2
    subst lp2 yp2 zp2
    obtain ⟨rfl, Nq2, eq2⟩ := hQ2
    have N2 := Fr.app N0 Nq2
    have c3 : SS p e below B0 T2 m 4 #[.val (.ref a1), .val (.int (1 : Int32))] [(.int (0 : Int32))] := st2
    have c4 : SS p e below B0 T2 m 17 #[.val (.ref a1), .val (.int (1 : Int32))] [(.ref a1)] := Steps.trans c3 (by
        refine XS.ifYes X2.here hx rfl (pc0 := 4) (pc' := 16) rfl (hb hby d23_4) rfl ((if0 _ _).trans (teq (by decide : (0 : Int32) = (0 : Int32))).1) (by decide) (by decide) ?_
        refine XS.aloadN X2.here hx rfl (hb hby d23_16) rfl rfl ?_
        exact Steps.refl _)
    obtain ⟨T5, X5, e5, st5⟩ := getF X2 hx hZ hown (host := "") (Or.inl (W hw 25)) Via.refl eq2 V1 (g := (mkF m 17 #[.val (.ref a1), .val (.int (1 : Int32))] [(.ref a1)])) rfl rfl (hb hby d23_17)
    have c6 : SS p e below B0 T5 m 20 #[.val (.ref a1), .val (.int (1 : Int32))] [(.ref t1)] := Steps.trans c4 (st5 _ (Steps.refl _))
    have c7 : SS p e below B0 T5 m 21 #[.val (.ref a1), .val (.int (1 : Int32))] [(.int (1 : Int32)), (.ref t1)] := Steps.trans c6 (by
        refine XS.iloadN X5.here hx rfl (hb hby d23_20) rfl ?_
        exact Steps.refl _)
    obtain ⟨_, _, ⟨T8, Lp8, kp8, np8⟩, -, X8, ⟨Lc8, hQ8, lp8, yp8, zp8⟩, st8⟩ := Jvm.LawKit.callS X5 hx (y := (⟨"java/lang/StringUTF16", "charAt", "([BI)C"⟩ : MethodName)) hown (mvT hZ (W hw 112)) (mvT hZ (W hw 113)) (mvT hZ (W hw 64)) (mvT hZ (W hw 114)) (by decide) (backOf (W := 0) (rmUcA3_1 l Z a0 hw [] t1 k1 c0' c1' c2' G3 h0 n0 (by omega) A1 O4 rG3 O7 O8 O9 X00 hc) hZ (W hw 114) (W hw 64) (by decide) (by decide)) (g := (mkF m 21 #[.val (.ref a1), .val (.int (1 : Int32))] [(.int (1 : Int32)), (.ref t1)])) rfl (by rw [hml]; rfl) (argsL := [(.ref t1), (.int (1 : Int32))]) (rest := []) (lenOf pd___BI_C rfl) rfl (by show 2 * 0 + _ ≤ _; exact Nat.le_of_eq rfl) (hb hby d23_21) (fun _ _ => ⟨rfl, e5, (by decide : 0 + 0 ≤ _), (by decide : 0 + 0 ≤ _)⟩)
    dsimp only [Pt.U, Pt.locs, Pt.cells, Pt.slots] at X8 lp8 yp8 zp8 st8 hQ8
    subst lp8 yp8 zp8
    obtain ⟨rfl, Nq8, eq8⟩ := hQ8
    have N8 := Fr.app N2 Nq8
    have c9 : SS p e below B0 T8 m 24 #[.val (.ref a1), .val (.int (1 : Int32))] [(.int (c1'))] := Steps.trans c7 (st8 _ (Steps.refl _))
    have hv := own_nar hc.1 hc.2
    obtain ⟨fs, hr, hrun, hended, hW, hsame⟩ := X8.leave (v := some (.int (nar .char c1'))) (fun h => by rw [Bd.returns] at h; cases h)
    subst hB0
    refine ⟨_, _, Steps.trans c9 ?_, hrun, hended, _, _, rfl, ?_, ⟨_, rfl⟩, hW, hsame.mono (by decide) (by decide)⟩
    · exact retN X8 hx (t := .char) Bd.returns (by simp) (hb hby d23_24) hr
    · show QChA3_1 c0' c1' c2' h0 n0 _ T8.heap _
      rw [eq8]
      exact ⟨congrArg (fun z => some (Value.int z)) hv, N8, rfl⟩
def QUck3_2 (h0 : Heap) (n0 : Nat) (v : Option Value) (h : Heap) (L : List Loc) : Prop := v = none ∧ Fr n0 L ∧ h = h0
set_option maxRecDepth 65536 in
set_option maxHeartbeats 40000000 in
theorem rmUck3_2 (l : Launch) (Z : State) (a0 : Array Value) (hw : ∀ d ∈ tables_1, d.before a0 Z = true) (ws : List Jvm.Cond) (t1 : Addr) (k1 : ClassId) (vs : List Value) (G3 : Value) (h0 : Heap) (n0 : Nat) (Z0 : n0 ≤ h0.size) (A1 : Arv Z h0 t1 k1 .byte (6 : Int32) vs (.int (0 : Int32))) (O4 : Sta Z Z.heap "jdk/internal/util/Preconditions" "SIOOBE_FORMATTER" "Ljava/util/function/BiFunction;" G3) (rG3 : G3.isRef = true) (X00 : Old Z n0 h0) :
    MetFree l (⟨"java/lang/StringUTF16", "checkIndex", "(I[B)V"⟩ : MethodName) (head1 (Jvm.Cond.code (⟨"java/lang/StringUTF16", "checkIndex", "(I[B)V"⟩ : MethodName) jdk_52_method_91_code 2 none :: ws) ({ frames := 2, cells := 0, slots := 0, locals := 27 } : Room)) (fun a U => a = #[(.int (2 : Int32)), (.ref t1)] ∧ Z.Warmed39 U.vm ∧ U.heap = h0) (fun _ _ _ _ _ => True) (fun _ U o U' => ∃ v L, o = .returned v ∧ QUck3_2 h0 n0 v U'.heap L ∧ FrameEnd U o U' L ({ frames := 2, cells := 0, slots := 0, locals := 27 } : Room).cells ({ frames := 2, cells := 0, slots := 0, locals := 27 } : Room).slots) := by
  refine MetFree.of_bodySF (plainFor_of_name pn_java_lang_StringUTF16) hisR ?_
  intro p e s m args below meth c s₁ Bd hml0 hP hK
  obtain ⟨rfl, hZ, hh⟩ := hP
  have hx := Bd.exec
  have hby := Bd.bytes
  have hml : c.maxLocals = 2 := hml0
  have hown : s.vm.findClass "java/lang/StringUTF16" = some m.cls := findClass_of_methodNamed Bd.named
  have hnm := (name_of_methodNamed Bd.named Bd.method).1
  have X0 : Stand p l e ({ frames := 2, cells := 0, slots := 0, locals := 27 } : Room) s m #[(.int (2 : Int32)), (.ref t1)] below meth c s₁ [] 0 0 := Stand.of_body Bd
  have e0 : s₁.heap = h0 := by rw [← hh, Bd.state]; rfl
  have N0 := Fr.nil n0
  obtain ⟨B0, c0, hB0⟩ : ∃ B0, Steps p.tables e below B0 (s₁.setTop (mkF m 0 #[.val (.int (2 : Int32)), .val (.ref t1)] [])) ∧ B0 = s₁.setTop (entryFrame m #[(.int (2 : Int32)), (.ref t1)] 2) := ⟨_, castTop (ef_IR_2 m (2 : Int32) t1) (Steps.refl _), rfl⟩
  have c1 : SS p e below B0 s₁ m 2 #[.val (.int (2 : Int32)), .val (.ref t1)] [(.ref t1), (.int (2 : Int32))] := Steps.trans c0 (by
      refine XS.iloadN X0.here hx rfl (hb hby d20_0) rfl ?_
      refine XS.aloadN X0.here hx rfl (hb hby d20_1) rfl rfl ?_
      exact Steps.refl _)
  obtain ⟨_, _, ⟨T2, Lp2, kp2, np2⟩, -, X2, ⟨Lc2, hQ2, lp2, yp2, zp2⟩, st2⟩ := Jvm.LawKit.callS X0 hx (y := (⟨"java/lang/StringUTF16", "length", "([B)I"⟩ : MethodName)) hown (mvT hZ (W hw 118)) (mvT hZ (W hw 119)) (mvT hZ (W hw 64)) (mvT hZ (W hw 120)) (by decide) (backOf (W := 1) (rmUl3 l Z a0 hw [] t1 k1 vs h0 n0 (by omega) A1) hZ (W hw 120) (W hw 64) (by decide) (by decide)) (g := (mkF m 2 #[.val (.int (2 : Int32)), .val (.ref t1)] [(.ref t1), (.int (2 : Int32))])) rfl (by rw [hml]; rfl) (argsL := [(.ref t1)]) (rest := [(.int (2 : Int32))]) (lenOf pd___B_I rfl) rfl (by show 2 * 0 + _ ≤ _; exact Nat.le_of_eq rfl) (hb hby d20_2) (fun _ _ => ⟨rfl, e0, (by decide : 0 + 0 ≤ _), (by decide : 0 + 0 ≤ _)⟩)
  dsimp only [Pt.U, Pt.locs, Pt.cells, Pt.slots] at X2 lp2 yp2 zp2 st2 hQ2
  subst lp2 yp2 zp2
  obtain ⟨rfl, Nq2, eq2⟩ := hQ2
  have N2 := Fr.app N0 Nq2
  have c3 : SS p e below B0 T2 m 5 #[.val (.int (2 : Int32)), .val (.ref t1)] [(.int (3 : Int32)), (.int (2 : Int32))] := Steps.trans c1 (st2 _ (Steps.refl _))
  obtain ⟨_, _, ⟨T4, Lp4, kp4, np4⟩, -, X4, ⟨Lc4, hQ4, lp4, yp4, zp4⟩, st4⟩ := Jvm.LawKit.callS X2 hx (y := (⟨"java/lang/String", "checkIndex", "(II)V"⟩ : MethodName)) hown (mvT hZ (W hw 121)) (mvT hZ (W hw 86)) (mvT hZ (W hw 8)) (mvT hZ (W hw 87)) (by decide) (backOf (W := 0) (rmCk l Z a0 hw [] 2 3 G3 h0 n0 (by omega) (by decide) (by decide) O4 rG3 X00) hZ (W hw 87) (W hw 8) (by decide) (by decide)) (g := (mkF m 5 #[.val (.int (2 : Int32)), .val (.ref t1)] [(.int (3 : Int32)), (.int (2 : Int32))])) rfl (by rw [hml]; rfl) (argsL := [(.int (2 : Int32)), (.int (3 : Int32))]) (rest := []) (lenOf pd__II_V rfl) rfl (by show 2 * 0 + _ ≤ _; exact Nat.le_of_eq rfl) (hb hby d20_5) (fun _ _ => ⟨rfl, eq2, (by decide : 0 + 0 ≤ _), (by decide : 0 + 0 ≤ _)⟩)
  dsimp only [Pt.U, Pt.locs, Pt.cells, Pt.slots] at X4 lp4 yp4 zp4 st4 hQ4
  subst lp4 yp4 zp4
  obtain ⟨rfl, Nq4, eq4⟩ := hQ4
  have N4 := Fr.app N2 Nq4
  have c5 : SS p e below B0 T4 m 8 #[.val (.int (2 : Int32)), .val (.ref t1)] [] := Steps.trans c3 (st4 _ (Steps.refl _))
  obtain ⟨fs, hr, hrun, hended, hW, hsame⟩ := X4.leave (v := none) (fun _ => rfl)
  subst hB0
  refine ⟨_, _, Steps.trans c5 ?_, hrun, hended, _, _, rfl, ?_, ⟨_, rfl⟩, hW, hsame.mono (by decide) (by decide)⟩
  · exact X4.returnOut hx Bd.returns (hb hby d20_8) hr
  · show QUck3_2 h0 n0 _ T4.heap _
    rw [eq4]
    exact ⟨rfl, N4, rfl⟩
def QLcA3_2 (c0' c1' c2' : Int32) (h0 : Heap) (n0 : Nat) (v : Option Value) (h : Heap) (L : List Loc) : Prop := v = some (.int c2') ∧ Fr n0 L ∧ h = h0
set_option maxRecDepth 65536 in
set_option maxHeartbeats 40000000 in
theorem rmLcA3_2 (l : Launch) (Z : State) (a0 : Array Value) (hw : ∀ d ∈ tables_1, d.before a0 Z = true) (ws : List Jvm.Cond) (t1 : Addr) (k1 : ClassId) (c0' c1' c2' : Int32) (G3 : Value) (h0 : Heap) (n0 : Nat) (Z0 : n0 ≤ h0.size) (A1 : Arv Z h0 t1 k1 .byte (3 : Int32) [(.int (nar .byte (c0'.toInt8.toInt32))), (.int (nar .byte (c1'.toInt8.toInt32))), (.int (nar .byte (c2'.toInt8.toInt32)))] (.int (0 : Int32))) (O4 : Sta Z Z.heap "jdk/internal/util/Preconditions" "SIOOBE_FORMATTER" "Ljava/util/function/BiFunction;" G3) (rG3 : G3.isRef = true) (X00 : Old Z n0 h0) (hc : ¬ c2' < 0 ∧ ¬ (65535 : Int32) < c2') (hl : ¬ (255 : Int32) < c2') :
    MetFree l (⟨"java/lang/StringLatin1", "charAt", "([BI)C"⟩ : MethodName) (head1 (Jvm.Cond.code (⟨"java/lang/StringLatin1", "charAt", "([BI)C"⟩ : MethodName) jdk_43_method_2_code 2 (some .char) :: ws) ({ frames := 2, cells := 0, slots := 0, locals := 27 } : Room)) (fun a U => a = #[(.ref t1), (.int (2 : Int32))] ∧ Z.Warmed39 U.vm ∧ U.heap = h0) (fun _ _ _ _ _ => True) (fun _ U o U' => ∃ v L, o = .returned v ∧ QLcA3_2 c0' c1' c2' h0 n0 v U'.heap L ∧ FrameEnd U o U' L ({ frames := 2, cells := 0, slots := 0, locals := 27 } : Room).cells ({ frames := 2, cells := 0, slots := 0, locals := 27 } : Room).slots) := by
  refine MetFree.of_bodySF (plainFor_of_name pn_java_lang_StringLatin1) hisR ?_
  intro p e s m args below meth c s₁ Bd hml0 hP hK
  obtain ⟨rfl, hZ, hh⟩ := hP
  have hx := Bd.exec
  have hby := Bd.bytes
  have hml : c.maxLocals = 2 := hml0
  have hown : s.vm.findClass "java/lang/StringLatin1" = some m.cls := findClass_of_methodNamed Bd.named
  have hnm := (name_of_methodNamed Bd.named Bd.method).1
  have X0 : Stand p l e ({ frames := 2, cells := 0, slots := 0, locals := 27 } : Room) s m #[(.ref t1), (.int (2 : Int32))] below meth c s₁ [] 0 0 := Stand.of_body Bd
  have e0 : s₁.heap = h0 := by rw [← hh, Bd.state]; rfl
  have N0 := Fr.nil n0
  obtain ⟨B0, c0, hB0⟩ : ∃ B0, Steps p.tables e below B0 (s₁.setTop (mkF m 0 #[.val (.ref t1), .val (.int (2 : Int32))] [])) ∧ B0 = s₁.setTop (entryFrame m #[(.ref t1), (.int (2 : Int32))] 2) := ⟨_, castTop (ef_RI_2 m t1 (2 : Int32)) (Steps.refl _), rfl⟩
  have c1 : SS p e below B0 s₁ m 2 #[.val (.ref t1), .val (.int (2 : Int32))] [(.ref t1), (.int (2 : Int32))] := Steps.trans c0 (by
      refine XS.iloadN X0.here hx rfl (hb hby d21_0) rfl ?_
      refine XS.aloadN X0.here hx rfl (hb hby d21_1) rfl rfl ?_
      exact Steps.refl _)
  obtain ⟨cl2, Ar2, q2, Sz2, M2, Hs2, U2⟩ := id A1
  have c3 : SS p e below B0 s₁ m 3 #[.val (.ref t1), .val (.int (2 : Int32))] [(.int (3 : Int32)), (.int (2 : Int32))] := Steps.trans c1 (by
      refine X0.arraylength hx (by rw [e0]; exact Ar2.1) (State.isArrayOf_alike hZ.alike Ar2.2.1) (g := (mkF m 2 #[.val (.ref t1), .val (.int (2 : Int32))] [(.ref t1), (.int (2 : Int32))])) rfl rfl (hb hby d21_2) _ ?_
      rw [len_of Sz2 M2]
      exact Steps.refl _)
  obtain ⟨_, _, ⟨T4, Lp4, kp4, np4⟩, -, X4, ⟨Lc4, hQ4, lp4, yp4, zp4⟩, st4⟩ := Jvm.LawKit.callS X0 hx (y := (⟨"java/lang/String", "checkIndex", "(II)V"⟩ : MethodName)) hown (mvT hZ (W hw 85)) (mvT hZ (W hw 86)) (mvT hZ (W hw 8)) (mvT hZ (W hw 87)) (by decide) (backOf (W := 0) (rmCk l Z a0 hw [] 2 3 G3 h0 n0 (by omega) (by decide) (by decide) O4 rG3 X00) hZ (W hw 87) (W hw 8) (by decide) (by decide)) (g := (mkF m 3 #[.val (.ref t1), .val (.int (2 : Int32))] [(.int (3 : Int32)), (.int (2 : Int32))])) rfl (by rw [hml]; rfl) (argsL := [(.int (2 : Int32)), (.int (3 : Int32))]) (rest := []) (lenOf pd__II_V rfl) rfl (by show 2 * 0 + _ ≤ _; exact Nat.le_of_eq rfl) (hb hby d21_3) (fun _ _ => ⟨rfl, e0, (by decide : 0 + 0 ≤ _), (by decide : 0 + 0 ≤ _)⟩)
  dsimp only [Pt.U, Pt.locs, Pt.cells, Pt.slots] at X4 lp4 yp4 zp4 st4 hQ4
  subst lp4 yp4 zp4
  obtain ⟨rfl, Nq4, eq4⟩ := hQ4
  have N4 := Fr.app N0 Nq4
  have c5 : SS p e below B0 T4 m 6 #[.val (.ref t1), .val (.int (2 : Int32))] [] := Steps.trans c3 (st4 _ (Steps.refl _))
  have c6 : SS p e below B0 T4 m 8 #[.val (.ref t1), .val (.int (2 : Int32))] [(.int (2 : Int32)), (.ref t1)] := Steps.trans c5 (by
      refine XS.aloadN X4.here hx rfl (hb hby d21_6) rfl rfl ?_
      refine XS.iloadN X4.here hx rfl (hb hby d21_7) rfl ?_
      exact Steps.refl _)
  obtain ⟨cl7, Ar7, q7, Sz7, M7, Hs7, U7⟩ := id A1
  have in7 := inb_of (j := (2 : Int32)) Sz7 ⟨(by decide), (by decide)⟩
  have c8 : SS p e below B0 T4 m 9 #[.val (.ref t1), .val (.int (2 : Int32))] [(.int (nar .byte (c2'.toInt8.toInt32)))] := Steps.trans c6 (by
      refine X4.baloadBytes hx (j := (2 : Int32)) (v := (.int (nar .byte (c2'.toInt8.toInt32)))) (by rw [eq4]; exact Ar7.1) (State.isArrayOf_alike hZ.alike Ar7.2.1) Ar7.2.2 in7 (Hs7.at in7 rfl) (g := (mkF m 8 #[.val (.ref t1), .val (.int (2 : Int32))] [(.int (2 : Int32)), (.ref t1)])) rfl rfl (hb hby d21_8) _ ?_
      exact Steps.refl _)
  have c9 : SS p e below B0 T4 m 14 #[.val (.ref t1), .val (.int (2 : Int32))] [(.int (((nar .byte (c2'.toInt8.toInt32)) &&& (255 : Int32)).toUInt32.toUInt16.toUInt32.toInt32))] := Steps.trans c8 (by
      refine XT.sipushV X4.here hx rfl (255 : Int32) (hb hby d21_9) (by decide) ?_
      refine XS.iand X4.here hx rfl (hb hby d21_12) rfl ?_
      refine XS.i2c X4.here hx rfl (hb hby d21_13) rfl ?_
      exact Steps.refl _)
  have hv := own_lat hc.1 hl
  obtain ⟨fs, hr, hrun, hended, hW, hsame⟩ := X4.leave (v := some (.int (nar .char (((nar .byte (c2'.toInt8.toInt32)) &&& (255 : Int32)).toUInt32.toUInt16.toUInt32.toInt32)))) (fun h => by rw [Bd.returns] at h; cases h)
  subst hB0
  refine ⟨_, _, Steps.trans c9 ?_, hrun, hended, _, _, rfl, ?_, ⟨_, rfl⟩, hW, hsame.mono (by decide) (by decide)⟩
  · exact retN X4 hx (t := .char) Bd.returns (by simp) (hb hby d21_14) hr
  · show QLcA3_2 c0' c1' c2' h0 n0 _ T4.heap _
    rw [eq4]
    exact ⟨congrArg (fun z => some (Value.int z)) hv, N4, rfl⟩
def QUcA3_2 (c0' c1' c2' : Int32) (h0 : Heap) (n0 : Nat) (v : Option Value) (h : Heap) (L : List Loc) : Prop := v = some (.int c2') ∧ Fr n0 L ∧ h = h0
set_option maxRecDepth 65536 in
set_option maxHeartbeats 40000000 in
theorem rmUcA3_2 (l : Launch) (Z : State) (a0 : Array Value) (hw : ∀ d ∈ tables_1, d.before a0 Z = true) (ws : List Jvm.Cond) (t1 : Addr) (k1 : ClassId) (c0' c1' c2' : Int32) (G3 : Value) (h0 : Heap) (n0 : Nat) (Z0 : n0 ≤ h0.size) (A1 : Arv Z h0 t1 k1 .byte (6 : Int32) [(.int (nar .byte ((c0' >>> ((0 : Int32) &&& 31)).toInt8.toInt32))), (.int (nar .byte ((c0' >>> ((8 : Int32) &&& 31)).toInt8.toInt32))), (.int (nar .byte ((c1' >>> ((0 : Int32) &&& 31)).toInt8.toInt32))), (.int (nar .byte ((c1' >>> ((8 : Int32) &&& 31)).toInt8.toInt32))), (.int (nar .byte ((c2' >>> ((0 : Int32) &&& 31)).toInt8.toInt32))), (.int (nar .byte ((c2' >>> ((8 : Int32) &&& 31)).toInt8.toInt32)))] (.int (0 : Int32))) (O4 : Sta Z Z.heap "jdk/internal/util/Preconditions" "SIOOBE_FORMATTER" "Ljava/util/function/BiFunction;" G3) (rG3 : G3.isRef = true) (O7 : Sta Z Z.heap "java/lang/StringUTF16" "$assertionsDisabled" "Z" (.int (1 : Int32))) (O8 : Sta Z Z.heap "java/lang/StringUTF16" "HI_BYTE_SHIFT" "I" (.int (0 : Int32))) (O9 : Sta Z Z.heap "java/lang/StringUTF16" "LO_BYTE_SHIFT" "I" (.int (8 : Int32))) (X00 : Old Z n0 h0) (hc : ¬ c2' < 0 ∧ ¬ (65535 : Int32) < c2') :
    MetFree l (⟨"java/lang/StringUTF16", "charAt", "([BI)C"⟩ : MethodName) (head1 (Jvm.Cond.code (⟨"java/lang/StringUTF16", "charAt", "([BI)C"⟩ : MethodName) jdk_52_method_83_code 2 (some .char) :: ws) ({ frames := 3, cells := 0, slots := 0, locals := 40 } : Room)) (fun a U => a = #[(.ref t1), (.int (2 : Int32))] ∧ Z.Warmed39 U.vm ∧ U.heap = h0) (fun _ _ _ _ _ => True) (fun _ U o U' => ∃ v L, o = .returned v ∧ QUcA3_2 c0' c1' c2' h0 n0 v U'.heap L ∧ FrameEnd U o U' L ({ frames := 3, cells := 0, slots := 0, locals := 40 } : Room).cells ({ frames := 3, cells := 0, slots := 0, locals := 40 } : Room).slots) := by
  refine MetFree.of_bodySF (plainFor_of_name pn_java_lang_StringUTF16) hisR ?_
  intro p e s m args below meth c s₁ Bd hml0 hP hK
  obtain ⟨rfl, hZ, hh⟩ := hP
  have hx := Bd.exec
  have hby := Bd.bytes
  have hml : c.maxLocals = 2 := hml0
  have hown : s.vm.findClass "java/lang/StringUTF16" = some m.cls := findClass_of_methodNamed Bd.named
  have hnm := (name_of_methodNamed Bd.named Bd.method).1
  have X0 : Stand p l e ({ frames := 3, cells := 0, slots := 0, locals := 40 } : Room) s m #[(.ref t1), (.int (2 : Int32))] below meth c s₁ [] 0 0 := Stand.of_body Bd
  have e0 : s₁.heap = h0 := by rw [← hh, Bd.state]; rfl
  have N0 := Fr.nil n0
  obtain ⟨B0, c0, hB0⟩ : ∃ B0, Steps p.tables e below B0 (s₁.setTop (mkF m 0 #[.val (.ref t1), .val (.int (2 : Int32))] [])) ∧ B0 = s₁.setTop (entryFrame m #[(.ref t1), (.int (2 : Int32))] 2) := ⟨_, castTop (ef_RI_2 m t1 (2 : Int32)) (Steps.refl _), rfl⟩
  have c1 : SS p e below B0 s₁ m 2 #[.val (.ref t1), .val (.int (2 : Int32))] [(.ref t1), (.int (2 : Int32))] := Steps.trans c0 (by
      refine XS.iloadN X0.here hx rfl (hb hby d22_0) rfl ?_
      refine XS.aloadN X0.here hx rfl (hb hby d22_1) rfl rfl ?_
      exact Steps.refl _)
  obtain ⟨_, _, ⟨T2, Lp2, kp2, np2⟩, -, X2, ⟨Lc2, hQ2, lp2, yp2, zp2⟩, st2⟩ := Jvm.LawKit.callS X0 hx (y := (⟨"java/lang/StringUTF16", "checkIndex", "(I[B)V"⟩ : MethodName)) hown (mvT hZ (W hw 115)) (mvT hZ (W hw 116)) (mvT hZ (W hw 64)) (mvT hZ (W hw 117)) (by decide) (backOf (W := 0) (rmUck3_2 l Z a0 hw [] t1 k1 _ G3 h0 n0 (by omega) A1 O4 rG3 X00) hZ (W hw 117) (W hw 64) (by decide) (by decide)) (g := (mkF m 2 #[.val (.ref t1), .val (.int (2 : Int32))] [(.ref t1), (.int (2 : Int32))])) rfl (by rw [hml]; rfl) (argsL := [(.int (2 : Int32)), (.ref t1)]) (rest := []) (lenOf pd__I_B_V rfl) rfl (by show 2 * 0 + _ ≤ _; exact Nat.le_of_eq rfl) (hb hby d22_2) (fun _ _ => ⟨rfl, e0, (by decide : 0 + 0 ≤ _), (by decide : 0 + 0 ≤ _)⟩)
  dsimp only [Pt.U, Pt.locs, Pt.cells, Pt.slots] at X2 lp2 yp2 zp2 st2 hQ2
  subst lp2 yp2 zp2
  obtain ⟨rfl, Nq2, eq2⟩ := hQ2
  have N2 := Fr.app N0 Nq2
  have c3 : SS p e below B0 T2 m 5 #[.val (.ref t1), .val (.int (2 : Int32))] [] := Steps.trans c1 (st2 _ (Steps.refl _))
  have c4 : SS p e below B0 T2 m 7 #[.val (.ref t1), .val (.int (2 : Int32))] [(.int (2 : Int32)), (.ref t1)] := Steps.trans c3 (by
      refine XS.aloadN X2.here hx rfl (hb hby d22_5) rfl rfl ?_
      refine XS.iloadN X2.here hx rfl (hb hby d22_6) rfl ?_
      exact Steps.refl _)
  obtain ⟨_, _, ⟨T5, Lp5, kp5, np5⟩, -, X5, ⟨Lc5, hQ5, lp5, yp5, zp5⟩, st5⟩ := Jvm.LawKit.callS X2 hx (y := (⟨"java/lang/StringUTF16", "getChar", "([BI)C"⟩ : MethodName)) hown (mvT hZ (W hw 109)) (mvT hZ (W hw 110)) (mvT hZ (W hw 64)) (mvT hZ (W hw 111)) (by decide) (backOf (W := 0) (rmGet3_2 l Z a0 hw [] t1 k1 c0' c1' c2' h0 n0 (by omega) O7 O8 O9 X00 A1 hc) hZ (W hw 111) (W hw 64) (by decide) (by decide)) (g := (mkF m 7 #[.val (.ref t1), .val (.int (2 : Int32))] [(.int (2 : Int32)), (.ref t1)])) rfl (by rw [hml]; rfl) (argsL := [(.ref t1), (.int (2 : Int32))]) (rest := []) (lenOf pd___BI_C rfl) rfl (by show 2 * 0 + _ ≤ _; exact Nat.le_of_eq rfl) (hb hby d22_7) (fun _ _ => ⟨rfl, eq2, (by decide : 0 + 0 ≤ _), (by decide : 0 + 0 ≤ _)⟩)
  dsimp only [Pt.U, Pt.locs, Pt.cells, Pt.slots] at X5 lp5 yp5 zp5 st5 hQ5
  subst lp5 yp5 zp5
  obtain ⟨rfl, Nq5, eq5⟩ := hQ5
  have N5 := Fr.app N2 Nq5
  have c6 : SS p e below B0 T5 m 10 #[.val (.ref t1), .val (.int (2 : Int32))] [(.int (c2'))] := Steps.trans c4 (st5 _ (Steps.refl _))
  have hv := own_nar hc.1 hc.2
  obtain ⟨fs, hr, hrun, hended, hW, hsame⟩ := X5.leave (v := some (.int (nar .char c2'))) (fun h => by rw [Bd.returns] at h; cases h)
  subst hB0
  refine ⟨_, _, Steps.trans c6 ?_, hrun, hended, _, _, rfl, ?_, ⟨_, rfl⟩, hW, hsame.mono (by decide) (by decide)⟩
  · exact retN X5 hx (t := .char) Bd.returns (by simp) (hb hby d22_10) hr
  · show QUcA3_2 c0' c1' c2' h0 n0 _ T5.heap _
    rw [eq5]
    exact ⟨congrArg (fun z => some (Value.int z)) hv, N5, rfl⟩
def QChA3_2 (c0' c1' c2' : Int32) (h0 : Heap) (n0 : Nat) (v : Option Value) (h : Heap) (L : List Loc) : Prop := v = some (.int c2') ∧ Fr n0 L ∧ h = h0
set_option maxRecDepth 65536 in
set_option maxHeartbeats 40000000 in
theorem rmChA3_2 (l : Launch) (Z : State) (a0 : Array Value) (hw : ∀ d ∈ tables_1, d.before a0 Z = true) (ws : List Jvm.Cond) (a1 t1 : Addr) (k1 : ClassId) (c0' c1' c2' : Int32) (cd N_ : Int32) (vs : List Value) (G1 : Int32) (G3 : Value) (h0 : Heap) (n0 : Nat) (Z0 : n0 ≤ h0.size) (E1 : Exa Z h0 a1 "java/lang/String") (V1 : Fld Z h0 a1 "java/lang/String" "value" "[B" (.ref t1)) (C1 : Fld Z h0 a1 "java/lang/String" "coder" "B" (.int cd)) (A1 : Arv Z h0 t1 k1 .byte N_ vs (.int (0 : Int32))) (spl : Spl3 c0' c1' c2' cd N_ vs) (O2 : Sta Z Z.heap "java/lang/String" "COMPACT_STRINGS" "Z" (.int G1)) (P5 : ¬ (G1 = (0 : Int32))) (O4 : Sta Z Z.heap "jdk/internal/util/Preconditions" "SIOOBE_FORMATTER" "Ljava/util/function/BiFunction;" G3) (rG3 : G3.isRef = true) (O7 : Sta Z Z.heap "java/lang/StringUTF16" "$assertionsDisabled" "Z" (.int (1 : Int32))) (O8 : Sta Z Z.heap "java/lang/StringUTF16" "HI_BYTE_SHIFT" "I" (.int (0 : Int32))) (O9 : Sta Z Z.heap "java/lang/StringUTF16" "LO_BYTE_SHIFT" "I" (.int (8 : Int32))) (X00 : Old Z n0 h0) (hc : ¬ c2' < 0 ∧ ¬ (65535 : Int32) < c2') :
    MetFree l (⟨"java/lang/String", "charAt", "(I)C"⟩ : MethodName) (head1 (Jvm.Cond.code (⟨"java/lang/String", "charAt", "(I)C"⟩ : MethodName) jdk_42_method_56_code 2 (some .char) :: ws) ({ frames := 4, cells := 0, slots := 0, locals := 54 } : Room)) (fun a U => a = #[(.ref a1), (.int (2 : Int32))] ∧ Z.Warmed39 U.vm ∧ U.heap = h0) (fun _ _ _ _ _ => True) (fun _ U o U' => ∃ v L, o = .returned v ∧ QChA3_2 c0' c1' c2' h0 n0 v U'.heap L ∧ FrameEnd U o U' L ({ frames := 4, cells := 0, slots := 0, locals := 54 } : Room).cells ({ frames := 4, cells := 0, slots := 0, locals := 54 } : Room).slots) := by
  refine MetFree.of_bodySF (plainFor_of_name pn_java_lang_String) hisR ?_
  intro p e s m args below meth c s₁ Bd hml0 hP hK
  obtain ⟨rfl, hZ, hh⟩ := hP
  have hx := Bd.exec
  have hby := Bd.bytes
  have hml : c.maxLocals = 2 := hml0
  have hown : s.vm.findClass "java/lang/String" = some m.cls := findClass_of_methodNamed Bd.named
  have hnm := (name_of_methodNamed Bd.named Bd.method).1
  have X0 : Stand p l e ({ frames := 4, cells := 0, slots := 0, locals := 54 } : Room) s m #[(.ref a1), (.int (2 : Int32))] below meth c s₁ [] 0 0 := Stand.of_body Bd
  have e0 : s₁.heap = h0 := by rw [← hh, Bd.state]; rfl
  have N0 := Fr.nil n0
  obtain ⟨B0, c0, hB0⟩ : ∃ B0, Steps p.tables e below B0 (s₁.setTop (mkF m 0 #[.val (.ref a1), .val (.int (2 : Int32))] [])) ∧ B0 = s₁.setTop (entryFrame m #[(.ref a1), (.int (2 : Int32))] 2) := ⟨_, castTop (ef_RI_2 m a1 (2 : Int32)) (Steps.refl _), rfl⟩
  have lt_a1 : (@LT.lt Nat _ a1 h0.size) := E1.lt
  rcases spl with ⟨rfl, rfl, rfl, hl0, hl1, hl2⟩ | ⟨rfl, rfl, rfl⟩
  · have hdummy := Z0
    have c1 : SS p e below B0 s₁ m 1 #[.val (.ref a1), .val (.int (2 : Int32))] [(.ref a1)] := Steps.trans c0 (by
        refine XS.aloadN X0.here hx rfl (hb hby d23_0) rfl rfl ?_
        exact Steps.refl _)
    obtain ⟨cq2, kq2, qa2, qb2, qc2⟩ := isOf hZ e0 E1
    obtain ⟨_, _, ⟨T2, Lp2, kp2, np2⟩, -, X2, ⟨Lc2, hQ2, lp2, yp2, zp2⟩, st2⟩ := X0.virtualBack hx (y := (⟨"java/lang/String", "isLatin1", "()Z"⟩ : MethodName)) (z := (⟨"java/lang/String", "isLatin1", "()Z"⟩ : MethodName)) hown (mvT hZ (W hw 77)) (mvT hZ (W hw 78)) (notFace_of_selects (args := #[]) (mvT hZ (W hw 80))) (mvT hZ (W hw 80)) (mvT hZ (W hw 79)) (by decide) (backOf (W := 0) (rmIsL0 l Z a0 hw [] a1 G1 h0 n0 (by omega) C1 O2 P5 X00) hZ (W hw 81) (W hw 8) (by decide) (by decide)) qa2 qc2 (g := (mkF m 1 #[.val (.ref a1), .val (.int (2 : Int32))] [(.ref a1)])) rfl (by rw [hml]; rfl) c1 (argsL := []) (rest := []) (lenOf pd___Z rfl) rfl (by show 2 * 0 + _ ≤ _; exact Nat.le_of_eq rfl) (hb hby d23_1) (fun _ _ => ⟨rfl, e0, (by decide : 0 + 0 ≤ _), (by decide : 0 + 0 ≤ _)⟩)
    dsimp only [Pt.U, Pt.locs, Pt.cells, Pt.slots] at X2 lp2 yp2 zp2 st2 hQ2
    subst lp2 yp2 zp2
    obtain ⟨rfl, Nq2, eq2⟩ := hQ2
    have N2 := Fr.app N0 Nq2
    have c3 : SS p e below B0 T2 m 4 #[.val (.ref a1), .val (.int (2 : Int32))] [(.int (1 : Int32))] := st2
    have c4 : SS p e below B0 T2 m 8 #[.val (.ref a1), .val (.int (2 : Int32))] [(.ref a1)] := Steps.trans c3 (by
        refine XS.ifNo X2.here hx rfl (hb hby d23_4) rfl ((if0 _ _).trans (feq (by decide : ¬ (1 : Int32) = (0 : Int32))).1) ?_
        refine XS.aloadN X2.here hx rfl (hb hby d23_7) rfl rfl ?_
        exact Steps.refl _)
    obtain ⟨T5, X5, e5, st5⟩ := getF X2 hx hZ hown (host := "") (Or.inl (W hw 25)) Via.refl eq2 V1 (g := (mkF m 8 #[.val (.ref a1), .val (.int (2 : Int32))] [(.ref a1)])) rfl rfl (hb hby d23_8)
    have c6 : SS p e below B0 T5 m 11 #[.val (.ref a1), .val (.int (2 : Int32))] [(.ref t1)] := Steps.trans c4 (st5 _ (Steps.refl _))
    have c7 : SS p e below B0 T5 m 12 #[.val (.ref a1), .val (.int (2 : Int32))] [(.int (2 : Int32)), (.ref t1)] := Steps.trans c6 (by
        refine XS.iloadN X5.here hx rfl (hb hby d23_11) rfl ?_
        exact Steps.refl _)
    obtain ⟨_, _, ⟨T8, Lp8, kp8, np8⟩, -, X8, ⟨Lc8, hQ8, lp8, yp8, zp8⟩, st8⟩ := Jvm.LawKit.callS X5 hx (y := (⟨"java/lang/StringLatin1", "charAt", "([BI)C"⟩ : MethodName)) hown (mvT hZ (W hw 82)) (mvT hZ (W hw 83)) (mvT hZ (W hw 33)) (mvT hZ (W hw 84)) (by decide) (backOf (W := 0) (rmLcA3_2 l Z a0 hw [] t1 k1 c0' c1' c2' G3 h0 n0 (by omega) A1 O4 rG3 X00 hc hl2) hZ (W hw 84) (W hw 33) (by decide) (by decide)) (g := (mkF m 12 #[.val (.ref a1), .val (.int (2 : Int32))] [(.int (2 : Int32)), (.ref t1)])) rfl (by rw [hml]; rfl) (argsL := [(.ref t1), (.int (2 : Int32))]) (rest := []) (lenOf pd___BI_C rfl) rfl (by show 2 * 0 + _ ≤ _; exact Nat.le_of_eq rfl) (hb hby d23_12) (fun _ _ => ⟨rfl, e5, (by decide : 0 + 0 ≤ _), (by decide : 0 + 0 ≤ _)⟩)
    dsimp only [Pt.U, Pt.locs, Pt.cells, Pt.slots] at X8 lp8 yp8 zp8 st8 hQ8
    subst lp8 yp8 zp8
    obtain ⟨rfl, Nq8, eq8⟩ := hQ8
    have N8 := Fr.app N2 Nq8
    have c9 : SS p e below B0 T8 m 15 #[.val (.ref a1), .val (.int (2 : Int32))] [(.int (c2'))] := Steps.trans c7 (st8 _ (Steps.refl _))
    have hv := own_nar hc.1 hc.2
    obtain ⟨fs, hr, hrun, hended, hW, hsame⟩ := X8.leave (v := some (.int (nar .char c2'))) (fun h => by rw [Bd.returns] at h; cases h)
    subst hB0
    refine ⟨_, _, Steps.trans c9 ?_, hrun, hended, _, _, rfl, ?_, ⟨_, rfl⟩, hW, hsame.mono (by decide) (by decide)⟩
    · exact retN X8 hx (t := .char) Bd.returns (by simp) (hb hby d23_15) hr
    · show QChA3_2 c0' c1' c2' h0 n0 _ T8.heap _
      rw [eq8]
      exact ⟨congrArg (fun z => some (Value.int z)) hv, N8, rfl⟩
  · have hdummy := Z0
    have c1 : SS p e below B0 s₁ m 1 #[.val (.ref a1), .val (.int (2 : Int32))] [(.ref a1)] := Steps.trans c0 (by
        refine XS.aloadN X0.here hx rfl (hb hby d23_0) rfl rfl ?_
        exact Steps.refl _)
    obtain ⟨cq2, kq2, qa2, qb2, qc2⟩ := isOf hZ e0 E1
    obtain ⟨_, _, ⟨T2, Lp2, kp2, np2⟩, -, X2, ⟨Lc2, hQ2, lp2, yp2, zp2⟩, st2⟩ := X0.virtualBack hx (y := (⟨"java/lang/String", "isLatin1", "()Z"⟩ : MethodName)) (z := (⟨"java/lang/String", "isLatin1", "()Z"⟩ : MethodName)) hown (mvT hZ (W hw 77)) (mvT hZ (W hw 78)) (notFace_of_selects (args := #[]) (mvT hZ (W hw 80))) (mvT hZ (W hw 80)) (mvT hZ (W hw 79)) (by decide) (backOf (W := 0) (rmIsL1 l Z a0 hw [] a1 G1 h0 n0 (by omega) C1 O2 P5 X00) hZ (W hw 81) (W hw 8) (by decide) (by decide)) qa2 qc2 (g := (mkF m 1 #[.val (.ref a1), .val (.int (2 : Int32))] [(.ref a1)])) rfl (by rw [hml]; rfl) c1 (argsL := []) (rest := []) (lenOf pd___Z rfl) rfl (by show 2 * 0 + _ ≤ _; exact Nat.le_of_eq rfl) (hb hby d23_1) (fun _ _ => ⟨rfl, e0, (by decide : 0 + 0 ≤ _), (by decide : 0 + 0 ≤ _)⟩)
    dsimp only [Pt.U, Pt.locs, Pt.cells, Pt.slots] at X2 lp2 yp2 zp2 st2 hQ2
    subst lp2 yp2 zp2
    obtain ⟨rfl, Nq2, eq2⟩ := hQ2
    have N2 := Fr.app N0 Nq2
    have c3 : SS p e below B0 T2 m 4 #[.val (.ref a1), .val (.int (2 : Int32))] [(.int (0 : Int32))] := st2
    have c4 : SS p e below B0 T2 m 17 #[.val (.ref a1), .val (.int (2 : Int32))] [(.ref a1)] := Steps.trans c3 (by
        refine XS.ifYes X2.here hx rfl (pc0 := 4) (pc' := 16) rfl (hb hby d23_4) rfl ((if0 _ _).trans (teq (by decide : (0 : Int32) = (0 : Int32))).1) (by decide) (by decide) ?_
        refine XS.aloadN X2.here hx rfl (hb hby d23_16) rfl rfl ?_
        exact Steps.refl _)
    obtain ⟨T5, X5, e5, st5⟩ := getF X2 hx hZ hown (host := "") (Or.inl (W hw 25)) Via.refl eq2 V1 (g := (mkF m 17 #[.val (.ref a1), .val (.int (2 : Int32))] [(.ref a1)])) rfl rfl (hb hby d23_17)
    have c6 : SS p e below B0 T5 m 20 #[.val (.ref a1), .val (.int (2 : Int32))] [(.ref t1)] := Steps.trans c4 (st5 _ (Steps.refl _))
    have c7 : SS p e below B0 T5 m 21 #[.val (.ref a1), .val (.int (2 : Int32))] [(.int (2 : Int32)), (.ref t1)] := Steps.trans c6 (by
        refine XS.iloadN X5.here hx rfl (hb hby d23_20) rfl ?_
        exact Steps.refl _)
    obtain ⟨_, _, ⟨T8, Lp8, kp8, np8⟩, -, X8, ⟨Lc8, hQ8, lp8, yp8, zp8⟩, st8⟩ := Jvm.LawKit.callS X5 hx (y := (⟨"java/lang/StringUTF16", "charAt", "([BI)C"⟩ : MethodName)) hown (mvT hZ (W hw 112)) (mvT hZ (W hw 113)) (mvT hZ (W hw 64)) (mvT hZ (W hw 114)) (by decide) (backOf (W := 0) (rmUcA3_2 l Z a0 hw [] t1 k1 c0' c1' c2' G3 h0 n0 (by omega) A1 O4 rG3 O7 O8 O9 X00 hc) hZ (W hw 114) (W hw 64) (by decide) (by decide)) (g := (mkF m 21 #[.val (.ref a1), .val (.int (2 : Int32))] [(.int (2 : Int32)), (.ref t1)])) rfl (by rw [hml]; rfl) (argsL := [(.ref t1), (.int (2 : Int32))]) (rest := []) (lenOf pd___BI_C rfl) rfl (by show 2 * 0 + _ ≤ _; exact Nat.le_of_eq rfl) (hb hby d23_21) (fun _ _ => ⟨rfl, e5, (by decide : 0 + 0 ≤ _), (by decide : 0 + 0 ≤ _)⟩)
    dsimp only [Pt.U, Pt.locs, Pt.cells, Pt.slots] at X8 lp8 yp8 zp8 st8 hQ8
    subst lp8 yp8 zp8
    obtain ⟨rfl, Nq8, eq8⟩ := hQ8
    have N8 := Fr.app N2 Nq8
    have c9 : SS p e below B0 T8 m 24 #[.val (.ref a1), .val (.int (2 : Int32))] [(.int (c2'))] := Steps.trans c7 (st8 _ (Steps.refl _))
    have hv := own_nar hc.1 hc.2
    obtain ⟨fs, hr, hrun, hended, hW, hsame⟩ := X8.leave (v := some (.int (nar .char c2'))) (fun h => by rw [Bd.returns] at h; cases h)
    subst hB0
    refine ⟨_, _, Steps.trans c9 ?_, hrun, hended, _, _, rfl, ?_, ⟨_, rfl⟩, hW, hsame.mono (by decide) (by decide)⟩
    · exact retN X8 hx (t := .char) Bd.returns (by simp) (hb hby d23_24) hr
    · show QChA3_2 c0' c1' c2' h0 n0 _ T8.heap _
      rw [eq8]
      exact ⟨congrArg (fun z => some (Value.int z)) hv, N8, rfl⟩
def QLen0 (h0 : Heap) (n0 : Nat) (v : Option Value) (h : Heap) (L : List Loc) : Prop := v = some (.int (0 : Int32)) ∧ Fr n0 L ∧ h = h0
set_option maxRecDepth 65536 in
set_option maxHeartbeats 40000000 in
theorem rmLen0 (l : Launch) (Z : State) (a0 : Array Value) (hw : ∀ d ∈ tables_1, d.before a0 Z = true) (ws : List Jvm.Cond) (a1 t1 : Addr) (k1 : ClassId) (G1 : Int32) (h0 : Heap) (n0 : Nat) (Z0 : n0 ≤ h0.size) (E1 : Exa Z h0 a1 "java/lang/String") (V1 : Fld Z h0 a1 "java/lang/String" "value" "[B" (.ref t1)) (C1 : Fld Z h0 a1 "java/lang/String" "coder" "B" (.int (0 : Int32))) (A1 : Arv Z h0 t1 k1 .byte (0 : Int32) [] (.int (0 : Int32))) (O2 : Sta Z Z.heap "java/lang/String" "COMPACT_STRINGS" "Z" (.int G1)) (P5 : ¬ (G1 = (0 : Int32))) (X00 : Old Z n0 h0) :
    MetFree l (⟨"java/lang/String", "length", "()I"⟩ : MethodName) (head1 (Jvm.Cond.code (⟨"java/lang/String", "length", "()I"⟩ : MethodName) jdk_42_method_54_code 1 (some .int) :: ws) ({ frames := 1, cells := 0, slots := 0, locals := 13 } : Room)) (fun a U => a = #[(.ref a1)] ∧ Z.Warmed39 U.vm ∧ U.heap = h0) (fun _ _ _ _ _ => True) (fun _ U o U' => ∃ v L, o = .returned v ∧ QLen0 h0 n0 v U'.heap L ∧ FrameEnd U o U' L ({ frames := 1, cells := 0, slots := 0, locals := 13 } : Room).cells ({ frames := 1, cells := 0, slots := 0, locals := 13 } : Room).slots) := by
  refine MetFree.of_bodySF (plainFor_of_name pn_java_lang_String) hisR ?_
  intro p e s m args below meth c s₁ Bd hml0 hP hK
  obtain ⟨rfl, hZ, hh⟩ := hP
  have hx := Bd.exec
  have hby := Bd.bytes
  have hml : c.maxLocals = 1 := hml0
  have hown : s.vm.findClass "java/lang/String" = some m.cls := findClass_of_methodNamed Bd.named
  have hnm := (name_of_methodNamed Bd.named Bd.method).1
  have X0 : Stand p l e ({ frames := 1, cells := 0, slots := 0, locals := 13 } : Room) s m #[(.ref a1)] below meth c s₁ [] 0 0 := Stand.of_body Bd
  have e0 : s₁.heap = h0 := by rw [← hh, Bd.state]; rfl
  have N0 := Fr.nil n0
  obtain ⟨B0, c0, hB0⟩ : ∃ B0, Steps p.tables e below B0 (s₁.setTop (mkF m 0 #[.val (.ref a1)] [])) ∧ B0 = s₁.setTop (entryFrame m #[(.ref a1)] 1) := ⟨_, castTop (ef_R_1 m a1) (Steps.refl _), rfl⟩
  have c1 : SS p e below B0 s₁ m 1 #[.val (.ref a1)] [(.ref a1)] := Steps.trans c0 (by
      refine XS.aloadN X0.here hx rfl (hb hby d18_0) rfl rfl ?_
      exact Steps.refl _)
  obtain ⟨T2, X2, e2, st2⟩ := getF X0 hx hZ hown (host := "") (Or.inl (W hw 25)) Via.refl e0 V1 (g := (mkF m 1 #[.val (.ref a1)] [(.ref a1)])) rfl rfl (hb hby d18_1)
  have c3 : SS p e below B0 T2 m 4 #[.val (.ref a1)] [(.ref t1)] := Steps.trans c1 (st2 _ (Steps.refl _))
  obtain ⟨cl4, Ar4, q4, Sz4, M4, Hs4, U4⟩ := id A1
  have c5 : SS p e below B0 T2 m 5 #[.val (.ref a1)] [(.int (0 : Int32))] := Steps.trans c3 (by
      refine X2.arraylength hx (by rw [e2]; exact Ar4.1) (State.isArrayOf_alike hZ.alike Ar4.2.1) (g := (mkF m 4 #[.val (.ref a1)] [(.ref t1)])) rfl rfl (hb hby d18_4) _ ?_
      rw [len_of Sz4 M4]
      exact Steps.refl _)
  have c6 : SS p e below B0 T2 m 6 #[.val (.ref a1)] [(.ref a1), (.int (0 : Int32))] := Steps.trans c5 (by
      refine XS.aloadN X2.here hx rfl (hb hby d18_5) rfl rfl ?_
      exact Steps.refl _)
  obtain ⟨cq7, kq7, qa7, qb7, qc7⟩ := isOf hZ e2 E1
  obtain ⟨_, _, ⟨T7, Lp7, kp7, np7⟩, -, X7, ⟨Lc7, hQ7, lp7, yp7, zp7⟩, st7⟩ := X2.virtualBack hx (y := (⟨"java/lang/String", "coder", "()B"⟩ : MethodName)) (z := (⟨"java/lang/String", "coder", "()B"⟩ : MethodName)) hown (mvT hZ (W hw 52)) (mvT hZ (W hw 53)) (notFace_of_selects (args := #[]) (mvT hZ (W hw 55))) (mvT hZ (W hw 55)) (mvT hZ (W hw 54)) (by decide) (backOf (W := 1) (rmCdr0 l Z a0 hw [] a1 G1 h0 n0 (by omega) C1 O2 P5 X00) hZ (W hw 56) (W hw 8) (by decide) (by decide)) qa7 qc7 (g := (mkF m 6 #[.val (.ref a1)] [(.ref a1), (.int (0 : Int32))])) rfl (by rw [hml]; rfl) c6 (argsL := []) (rest := [(.int (0 : Int32))]) (lenOf pd___B rfl) rfl (by show 2 * 0 + _ ≤ _; exact Nat.le_of_eq rfl) (hb hby d18_6) (fun _ _ => ⟨rfl, e2, (by decide : 0 + 0 ≤ _), (by decide : 0 + 0 ≤ _)⟩)
  dsimp only [Pt.U, Pt.locs, Pt.cells, Pt.slots] at X7 lp7 yp7 zp7 st7 hQ7
  subst lp7 yp7 zp7
  obtain ⟨rfl, Nq7, eq7⟩ := hQ7
  have N7 := Fr.app N0 Nq7
  have c8 : SS p e below B0 T7 m 9 #[.val (.ref a1)] [(.int (0 : Int32)), (.int (0 : Int32))] := st7
  have c9 : SS p e below B0 T7 m 10 #[.val (.ref a1)] [(.int (0 : Int32))] := Steps.trans c8 (by
      refine XS.ishr X7.here hx rfl (hb hby d18_9) rfl ?_
      exact Steps.refl _)
  obtain ⟨fs, hr, hrun, hended, hW, hsame⟩ := X7.leave (v := some (.int (0 : Int32))) (fun h => by rw [Bd.returns] at h; cases h)
  subst hB0
  refine ⟨_, _, Steps.trans c9 ?_, hrun, hended, _, _, rfl, ?_, ⟨_, rfl⟩, hW, hsame.mono (by decide) (by decide)⟩
  · exact retI X7 hx Bd.returns (hb hby d18_10) hr
  · show QLen0 h0 n0 _ T7.heap _
    rw [eq7]
    exact ⟨rfl, N7, rfl⟩
def QEq (h0 : Heap) (n0 : Nat) (v : Option Value) (h : Heap) (L : List Loc) : Prop := v = some (.int (1 : Int32)) ∧ Fr n0 L ∧ h = h0
set_option maxRecDepth 65536 in
set_option maxHeartbeats 40000000 in
theorem rmEq (l : Launch) (Z : State) (a0 : Array Value) (hw : ∀ d ∈ tables_1, d.before a0 Z = true) (ws : List Jvm.Cond) (a1 : Addr) (h0 : Heap) (n0 : Nat) (Z0 : n0 ≤ h0.size)  :
    MetFree l (⟨"java/lang/String", "equals", "(Ljava/lang/Object;)Z"⟩ : MethodName) (head1 (Jvm.Cond.code (⟨"java/lang/String", "equals", "(Ljava/lang/Object;)Z"⟩ : MethodName) jdk_42_method_66_code 3 (some .boolean) :: ws) ({ frames := 0, cells := 0, slots := 0, locals := 0 } : Room)) (fun a U => a = #[(.ref a1), (.ref a1)] ∧ Z.Warmed39 U.vm ∧ U.heap = h0) (fun _ _ _ _ _ => True) (fun _ U o U' => ∃ v L, o = .returned v ∧ QEq h0 n0 v U'.heap L ∧ FrameEnd U o U' L ({ frames := 0, cells := 0, slots := 0, locals := 0 } : Room).cells ({ frames := 0, cells := 0, slots := 0, locals := 0 } : Room).slots) := by
  refine MetFree.of_bodySF (plainFor_of_name pn_java_lang_String) hisR ?_
  intro p e s m args below meth c s₁ Bd hml0 hP hK
  obtain ⟨rfl, hZ, hh⟩ := hP
  have hx := Bd.exec
  have hby := Bd.bytes
  have hml : c.maxLocals = 3 := hml0
  have hown : s.vm.findClass "java/lang/String" = some m.cls := findClass_of_methodNamed Bd.named
  have hnm := (name_of_methodNamed Bd.named Bd.method).1
  have X0 : Stand p l e ({ frames := 0, cells := 0, slots := 0, locals := 0 } : Room) s m #[(.ref a1), (.ref a1)] below meth c s₁ [] 0 0 := Stand.of_body Bd
  have e0 : s₁.heap = h0 := by rw [← hh, Bd.state]; rfl
  have N0 := Fr.nil n0
  obtain ⟨B0, c0, hB0⟩ : ∃ B0, Steps p.tables e below B0 (s₁.setTop (mkF m 0 #[.val (.ref a1), .val (.ref a1), .unset] [])) ∧ B0 = s₁.setTop (entryFrame m #[(.ref a1), (.ref a1)] 3) := ⟨_, castTop (ef_RR_3 m a1 a1) (Steps.refl _), rfl⟩
  have c1 : SS p e below B0 s₁ m 6 #[.val (.ref a1), .val (.ref a1), .unset] [(.int (1 : Int32))] := Steps.trans c0 (by
      refine XS.aloadN X0.here hx rfl (hb hby d24_0) rfl rfl ?_
      refine XS.aloadN X0.here hx rfl (hb hby d24_1) rfl rfl ?_
      refine XS.acmpNo X0.here hx rfl (hb hby d24_2) rfl (by simp [if_acmp.holds]) ?_
      refine XT.iconstV X0.here hx rfl (1 : Int32) (hb hby d24_5) (by decide) ?_
      exact Steps.refl _)
  obtain ⟨fs, hr, hrun, hended, hW, hsame⟩ := X0.leave (v := some (.int (1 : Int32))) (fun h => by rw [Bd.returns] at h; cases h)
  subst hB0
  refine ⟨_, _, Steps.trans c1 ?_, hrun, hended, _, _, rfl, ?_, ⟨_, rfl⟩, hW, hsame.mono (by decide) (by decide)⟩
  · exact retN X0 hx (t := .boolean) Bd.returns (by simp) (hb hby d24_6) hr
  · show QEq h0 n0 _ s₁.heap _
    rw [e0]
    exact ⟨rfl, N0, rfl⟩
def QJ (a1 : Addr) (h0 : Heap) (n0 : Nat) (v : Option Value) (h : Heap) (L : List Loc) : Prop := v = some (.ref a1) ∧ Fr n0 L ∧ h = h0
set_option maxRecDepth 65536 in
set_option maxHeartbeats 40000000 in
theorem rmJ (l : Launch) (Z : State) (a0 : Array Value) (hw : ∀ d ∈ tables_1, d.before a0 Z = true) (ws : List Jvm.Cond) (a1 a2 : Addr) (h0 : Heap) (n0 : Nat) (Z0 : n0 ≤ h0.size) (E1 : Exa Z h0 a1 "java/lang/String") :
    MetFree l (⟨"com/example/stowfit/stowfit/Json", "string", "(Ljava/lang/Object;Ljava/lang/String;)Ljava/lang/String;"⟩ : MethodName) (head1 (Jvm.Cond.code (⟨"com/example/stowfit/stowfit/Json", "string", "(Ljava/lang/Object;Ljava/lang/String;)Ljava/lang/String;"⟩ : MethodName) prog_15_method_7_code 3 (some (.object "java/lang/String")) :: ws) ({ frames := 0, cells := 0, slots := 0, locals := 0 } : Room)) (fun a U => a = #[(.ref a1), (.ref a2)] ∧ Z.Warmed39 U.vm ∧ U.heap = h0) (fun _ _ _ _ _ => True) (fun _ U o U' => ∃ v L, o = .returned v ∧ QJ a1 h0 n0 v U'.heap L ∧ FrameEnd U o U' L ({ frames := 0, cells := 0, slots := 0, locals := 0 } : Room).cells ({ frames := 0, cells := 0, slots := 0, locals := 0 } : Room).slots) := by
  refine MetFree.of_bodySF (plainFor_of_name pn_com_example_stowfit_stowfit_Json) hisR ?_
  intro p e s m args below meth c s₁ Bd hml0 hP hK
  obtain ⟨rfl, hZ, hh⟩ := hP
  have hx := Bd.exec
  have hby := Bd.bytes
  have hml : c.maxLocals = 3 := hml0
  have hown : s.vm.findClass "com/example/stowfit/stowfit/Json" = some m.cls := findClass_of_methodNamed Bd.named
  have hnm := (name_of_methodNamed Bd.named Bd.method).1
  have X0 : Stand p l e ({ frames := 0, cells := 0, slots := 0, locals := 0 } : Room) s m #[(.ref a1), (.ref a2)] below meth c s₁ [] 0 0 := Stand.of_body Bd
  have e0 : s₁.heap = h0 := by rw [← hh, Bd.state]; rfl
  have N0 := Fr.nil n0
  obtain ⟨B0, c0, hB0⟩ : ∃ B0, Steps p.tables e below B0 (s₁.setTop (mkF m 0 #[.val (.ref a1), .val (.ref a2), .unset] [])) ∧ B0 = s₁.setTop (entryFrame m #[(.ref a1), (.ref a2)] 3) := ⟨_, castTop (ef_RR_3 m a1 a2) (Steps.refl _), rfl⟩
  have c1 : SS p e below B0 s₁ m 1 #[.val (.ref a1), .val (.ref a2), .unset] [(.ref a1)] := Steps.trans c0 (by
      refine XS.aloadN X0.here hx rfl (hb hby d25_0) rfl rfl ?_
      exact Steps.refl _)
  obtain ⟨T2, X2, e2, st2⟩ := instY X0 hx hZ hown (W hw 46) e0 (Ins.self E1) (g := (mkF m 1 #[.val (.ref a1), .val (.ref a2), .unset] [(.ref a1)])) rfl rfl (hb hby d25_1)
  have c3 : SS p e below B0 T2 m 4 #[.val (.ref a1), .val (.ref a2), .unset] [(.int (1 : Int32))] := Steps.trans c1 (st2 _ (Steps.refl _))
  have c4 : SS p e below B0 T2 m 8 #[.val (.ref a1), .val (.ref a2), .unset] [(.ref a1)] := Steps.trans c3 (by
      refine XS.ifNo X2.here hx rfl (hb hby d25_4) rfl ((if0 _ _).trans (feq (by decide : ¬ (1 : Int32) = (0 : Int32))).1) ?_
      refine XS.aloadN X2.here hx rfl (hb hby d25_7) rfl rfl ?_
      exact Steps.refl _)
  obtain ⟨T5, X5, e5, st5⟩ := castY X2 hx hZ hown (W hw 46) e2 (Ins.self E1) (g := (mkF m 8 #[.val (.ref a1), .val (.ref a2), .unset] [(.ref a1)])) rfl rfl (hb hby d25_8)
  have c6 : SS p e below B0 T5 m 11 #[.val (.ref a1), .val (.ref a2), .unset] [(.ref a1)] := Steps.trans c4 (st5 _ (Steps.refl _))
  have c7 : SS p e below B0 T5 m 30 #[.val (.ref a1), .val (.ref a2), .val (.ref a1)] [(.ref a1)] := Steps.trans c6 (by
      refine XS.astoreN X5.here hx rfl (hb hby d25_11) rfl rfl (l' := #[.val (.ref a1), .val (.ref a2), .val (.ref a1)]) rfl ?_
      refine XS.goto X5.here hx rfl (pc0 := 12) (pc' := 29) rfl (hb hby d25_12) (by decide) (by decide) ?_
      refine XS.aloadN X5.here hx rfl (hb hby d25_29) rfl rfl ?_
      exact Steps.refl _)
  obtain ⟨fs, hr, hrun, hended, hW, hsame⟩ := X5.leave (v := some (.ref a1)) (fun h => by rw [Bd.returns] at h; cases h)
  subst hB0
  refine ⟨_, _, Steps.trans c7 ?_, hrun, hended, _, _, rfl, ?_, ⟨_, rfl⟩, hW, hsame.mono (by decide) (by decide)⟩
  · exact retR X5 hx Bd.returns rfl rfl rfl (hb hby d25_30) hr
  · show QJ a1 h0 n0 _ T5.heap _
    rw [e5]
    exact ⟨rfl, N0, rfl⟩
def QDr0 (Z : State) (p1 p2 p3 : Int32) (h0 : Heap) (n0 : Nat) (v : Option Value) (h : Heap) (L : List Loc) : Prop := ∃ (t : Addr) (k : ClassId), v = some (.ref t) ∧ Fr n0 L ∧ Keep h0 h [] ∧ (@Eq Nat t h0.size) ∧ Arv Z h t k .char (0 : Int32) [] (.int (0 : Int32))
set_option maxRecDepth 65536 in
set_option maxHeartbeats 40000000 in
theorem rmDr0 (l : Launch) (Z : State) (a0 : Array Value) (hw : ∀ d ∈ tables_1, d.before a0 Z = true) (ws : List Jvm.Cond) (p1 p2 p3 : Int32) (h0 : Heap) (n0 : Nat) (Z0 : n0 ≤ h0.size)  :
    MetFree l (⟨"com/example/stowfit/stowfit/JsonStringPinLaw", "draw", "(IIII)[C"⟩ : MethodName) (head1 (Jvm.Cond.code (⟨"com/example/stowfit/stowfit/JsonStringPinLaw", "draw", "(IIII)[C"⟩ : MethodName) method_2_code 7 (some (.array .char)) :: ws) ({ frames := 0, cells := 1, slots := 0, locals := 0 } : Room)) (fun a U => a = #[(.int p1), (.int p2), (.int p3), (.int (0 : Int32))] ∧ Z.Warmed39 U.vm ∧ U.heap = h0) (fun _ _ _ _ _ => True) (fun _ U o U' => ∃ v L, o = .returned v ∧ QDr0 Z p1 p2 p3 h0 n0 v U'.heap L ∧ FrameEnd U o U' L ({ frames := 0, cells := 1, slots := 0, locals := 0 } : Room).cells ({ frames := 0, cells := 1, slots := 0, locals := 0 } : Room).slots) := by
  refine MetFree.of_bodySF (plainFor_of_name pn_com_example_stowfit_stowfit_JsonStringPinLaw) hisR ?_
  intro p e s m args below meth c s₁ Bd hml0 hP hK
  obtain ⟨rfl, hZ, hh⟩ := hP
  have hx := Bd.exec
  have hby := Bd.bytes
  have hml : c.maxLocals = 7 := hml0
  have hown : s.vm.findClass "com/example/stowfit/stowfit/JsonStringPinLaw" = some m.cls := findClass_of_methodNamed Bd.named
  have hnm := (name_of_methodNamed Bd.named Bd.method).1
  have X0 : Stand p l e ({ frames := 0, cells := 1, slots := 0, locals := 0 } : Room) s m #[(.int p1), (.int p2), (.int p3), (.int (0 : Int32))] below meth c s₁ [] 0 0 := Stand.of_body Bd
  have e0 : s₁.heap = h0 := by rw [← hh, Bd.state]; rfl
  have N0 := Fr.nil n0
  obtain ⟨B0, c0, hB0⟩ : ∃ B0, Steps p.tables e below B0 (s₁.setTop (mkF m 0 #[.val (.int p1), .val (.int p2), .val (.int p3), .val (.int (0 : Int32)), .unset, .unset, .unset] [])) ∧ B0 = s₁.setTop (entryFrame m #[(.int p1), (.int p2), (.int p3), (.int (0 : Int32))] 7) := ⟨_, castTop (ef_IIII_7 m p1 p2 p3 (0 : Int32)) (Steps.refl _), rfl⟩
  have c1 : SS p e below B0 s₁ m 26 #[.val (.int p1), .val (.int p2), .val (.int p3), .val (.int (0 : Int32)), .val (.int ((p1 &&& (65535 : Int32)).toUInt32.toUInt16.toUInt32.toInt32)), .val (.int ((p2 &&& (65535 : Int32)).toUInt32.toUInt16.toUInt32.toInt32)), .val (.int ((p3 &&& (65535 : Int32)).toUInt32.toUInt16.toUInt32.toInt32))] [(.int (0 : Int32))] := Steps.trans c0 (by
      refine XS.iloadN X0.here hx rfl (hb hby d26_0) rfl ?_
      refine X0.ldcI hx hown (mvT hZ (W hw 4)) rfl (hb hby d26_1) ?_
      refine XS.iand X0.here hx rfl (hb hby d26_3) rfl ?_
      refine XS.i2c X0.here hx rfl (hb hby d26_4) rfl ?_
      refine XS.istore X0.here hx rfl (hb hby d26_5) rfl (l' := #[.val (.int p1), .val (.int p2), .val (.int p3), .val (.int (0 : Int32)), .val (.int ((p1 &&& (65535 : Int32)).toUInt32.toUInt16.toUInt32.toInt32)), .unset, .unset]) rfl ?_
      refine XS.iloadN X0.here hx rfl (hb hby d26_7) rfl ?_
      refine X0.ldcI hx hown (mvT hZ (W hw 4)) rfl (hb hby d26_8) ?_
      refine XS.iand X0.here hx rfl (hb hby d26_10) rfl ?_
      refine XS.i2c X0.here hx rfl (hb hby d26_11) rfl ?_
      refine XS.istore X0.here hx rfl (hb hby d26_12) rfl (l' := #[.val (.int p1), .val (.int p2), .val (.int p3), .val (.int (0 : Int32)), .val (.int ((p1 &&& (65535 : Int32)).toUInt32.toUInt16.toUInt32.toInt32)), .val (.int ((p2 &&& (65535 : Int32)).toUInt32.toUInt16.toUInt32.toInt32)), .unset]) rfl ?_
      refine XS.iloadN X0.here hx rfl (hb hby d26_14) rfl ?_
      refine X0.ldcI hx hown (mvT hZ (W hw 4)) rfl (hb hby d26_15) ?_
      refine XS.iand X0.here hx rfl (hb hby d26_17) rfl ?_
      refine XS.i2c X0.here hx rfl (hb hby d26_18) rfl ?_
      refine XS.istore X0.here hx rfl (hb hby d26_19) rfl (l' := #[.val (.int p1), .val (.int p2), .val (.int p3), .val (.int (0 : Int32)), .val (.int ((p1 &&& (65535 : Int32)).toUInt32.toUInt16.toUInt32.toInt32)), .val (.int ((p2 &&& (65535 : Int32)).toUInt32.toUInt16.toUInt32.toInt32)), .val (.int ((p3 &&& (65535 : Int32)).toUInt32.toUInt16.toUInt32.toInt32))]) rfl ?_
      refine XS.iloadN X0.here hx rfl (hb hby d26_21) rfl ?_
      refine XS.ifNo X0.here hx rfl (hb hby d26_22) rfl ((if0 _ _).trans (teq (by decide : (0 : Int32) = (0 : Int32))).2) ?_
      refine XT.iconstV X0.here hx rfl (0 : Int32) (hb hby d26_25) (by decide) ?_
      exact Steps.refl _)
  obtain ⟨T2, h2, k1, X2, e2, E2, A2, st2⟩ := newP X0 hx hZ (W hw 5) e0 (g := (mkF m 26 #[.val (.int p1), .val (.int p2), .val (.int p3), .val (.int (0 : Int32)), .val (.int ((p1 &&& (65535 : Int32)).toUInt32.toUInt16.toUInt32.toInt32)), .val (.int ((p2 &&& (65535 : Int32)).toUInt32.toUInt16.toUInt32.toInt32)), .val (.int ((p3 &&& (65535 : Int32)).toUInt32.toUInt16.toUInt32.toInt32))] [(.int (0 : Int32))])) rfl (hb hby d26_26) rfl (by decide : ¬ ((0 : Int32) < (0 : Int32))) (cap := 0) (by decide : (0 : Int32).toNatClampNeg ≤ 0) (by decide) (by decide) (by decide)
  obtain ⟨t1, g2⟩ : ∃ z, z = h0.size := ⟨_, rfl⟩
  rw [← g2] at A2 st2
  have z2 : h0.size ≤ h2.size := E2.1
  have l2 : (@LT.lt Nat _ t1 h2.size) := A2.lt
  have K2 := (Keep.refl h0 []).ext E2
  have V2 : Arv Z h2 t1 k1 .char (0 : Int32) [] (.int (0 : Int32)) := (Arv.new A2 (by decide)).pad (pad_rep [] (.int (0 : Int32)) 0)
  have c3 : SS p e below B0 T2 m 28 #[.val (.int p1), .val (.int p2), .val (.int p3), .val (.int (0 : Int32)), .val (.int ((p1 &&& (65535 : Int32)).toUInt32.toUInt16.toUInt32.toInt32)), .val (.int ((p2 &&& (65535 : Int32)).toUInt32.toUInt16.toUInt32.toInt32)), .val (.int ((p3 &&& (65535 : Int32)).toUInt32.toUInt16.toUInt32.toInt32))] [(.ref t1)] := Steps.trans c1 (st2 _ (Steps.refl _))
  obtain ⟨fs, hr, hrun, hended, hW, hsame⟩ := X2.leave (v := some (.ref t1)) (fun h => by rw [Bd.returns] at h; cases h)
  subst hB0
  refine ⟨_, _, Steps.trans c3 ?_, hrun, hended, _, _, rfl, ?_, ⟨_, rfl⟩, hW, hsame.mono (by decide) (by decide)⟩
  · exact retR X2 hx Bd.returns rfl rfl rfl (hb hby d26_28) hr
  · show QDr0 Z p1 p2 p3 h0 n0 _ T2.heap _
    rw [e2]
    exact ⟨t1, k1, rfl, N0, K2, (by omega), V2⟩
def QDr1 (Z : State) (p1 p2 p3 : Int32) (h0 : Heap) (n0 : Nat) (v : Option Value) (h : Heap) (L : List Loc) : Prop := ∃ (t : Addr) (k : ClassId), v = some (.ref t) ∧ Fr n0 L ∧ Keep h0 h [] ∧ (@Eq Nat t h0.size) ∧ Arv Z h t k .char (1 : Int32) [(.int (nar .char ((p1 &&& (65535 : Int32)).toUInt32.toUInt16.toUInt32.toInt32)))] (.int (0 : Int32))
set_option maxRecDepth 65536 in
set_option maxHeartbeats 40000000 in
theorem rmDr1 (l : Launch) (Z : State) (a0 : Array Value) (hw : ∀ d ∈ tables_1, d.before a0 Z = true) (ws : List Jvm.Cond) (p1 p2 p3 : Int32) (h0 : Heap) (n0 : Nat) (Z0 : n0 ≤ h0.size)  :
    MetFree l (⟨"com/example/stowfit/stowfit/JsonStringPinLaw", "draw", "(IIII)[C"⟩ : MethodName) (head1 (Jvm.Cond.code (⟨"com/example/stowfit/stowfit/JsonStringPinLaw", "draw", "(IIII)[C"⟩ : MethodName) method_2_code 7 (some (.array .char)) :: ws) ({ frames := 0, cells := 1, slots := 1, locals := 0 } : Room)) (fun a U => a = #[(.int p1), (.int p2), (.int p3), (.int (1 : Int32))] ∧ Z.Warmed39 U.vm ∧ U.heap = h0) (fun _ _ _ _ _ => True) (fun _ U o U' => ∃ v L, o = .returned v ∧ QDr1 Z p1 p2 p3 h0 n0 v U'.heap L ∧ FrameEnd U o U' L ({ frames := 0, cells := 1, slots := 1, locals := 0 } : Room).cells ({ frames := 0, cells := 1, slots := 1, locals := 0 } : Room).slots) := by
  refine MetFree.of_bodySF (plainFor_of_name pn_com_example_stowfit_stowfit_JsonStringPinLaw) hisR ?_
  intro p e s m args below meth c s₁ Bd hml0 hP hK
  obtain ⟨rfl, hZ, hh⟩ := hP
  have hx := Bd.exec
  have hby := Bd.bytes
  have hml : c.maxLocals = 7 := hml0
  have hown : s.vm.findClass "com/example/stowfit/stowfit/JsonStringPinLaw" = some m.cls := findClass_of_methodNamed Bd.named
  have hnm := (name_of_methodNamed Bd.named Bd.method).1
  have X0 : Stand p l e ({ frames := 0, cells := 1, slots := 1, locals := 0 } : Room) s m #[(.int p1), (.int p2), (.int p3), (.int (1 : Int32))] below meth c s₁ [] 0 0 := Stand.of_body Bd
  have e0 : s₁.heap = h0 := by rw [← hh, Bd.state]; rfl
  have N0 := Fr.nil n0
  obtain ⟨B0, c0, hB0⟩ : ∃ B0, Steps p.tables e below B0 (s₁.setTop (mkF m 0 #[.val (.int p1), .val (.int p2), .val (.int p3), .val (.int (1 : Int32)), .unset, .unset, .unset] [])) ∧ B0 = s₁.setTop (entryFrame m #[(.int p1), (.int p2), (.int p3), (.int (1 : Int32))] 7) := ⟨_, castTop (ef_IIII_7 m p1 p2 p3 (1 : Int32)) (Steps.refl _), rfl⟩
  have c1 : SS p e below B0 s₁ m 35 #[.val (.int p1), .val (.int p2), .val (.int p3), .val (.int (1 : Int32)), .val (.int ((p1 &&& (65535 : Int32)).toUInt32.toUInt16.toUInt32.toInt32)), .val (.int ((p2 &&& (65535 : Int32)).toUInt32.toUInt16.toUInt32.toInt32)), .val (.int ((p3 &&& (65535 : Int32)).toUInt32.toUInt16.toUInt32.toInt32))] [(.int (1 : Int32))] := Steps.trans c0 (by
      refine XS.iloadN X0.here hx rfl (hb hby d26_0) rfl ?_
      refine X0.ldcI hx hown (mvT hZ (W hw 4)) rfl (hb hby d26_1) ?_
      refine XS.iand X0.here hx rfl (hb hby d26_3) rfl ?_
      refine XS.i2c X0.here hx rfl (hb hby d26_4) rfl ?_
      refine XS.istore X0.here hx rfl (hb hby d26_5) rfl (l' := #[.val (.int p1), .val (.int p2), .val (.int p3), .val (.int (1 : Int32)), .val (.int ((p1 &&& (65535 : Int32)).toUInt32.toUInt16.toUInt32.toInt32)), .unset, .unset]) rfl ?_
      refine XS.iloadN X0.here hx rfl (hb hby d26_7) rfl ?_
      refine X0.ldcI hx hown (mvT hZ (W hw 4)) rfl (hb hby d26_8) ?_
      refine XS.iand X0.here hx rfl (hb hby d26_10) rfl ?_
      refine XS.i2c X0.here hx rfl (hb hby d26_11) rfl ?_
      refine XS.istore X0.here hx rfl (hb hby d26_12) rfl (l' := #[.val (.int p1), .val (.int p2), .val (.int p3), .val (.int (1 : Int32)), .val (.int ((p1 &&& (65535 : Int32)).toUInt32.toUInt16.toUInt32.toInt32)), .val (.int ((p2 &&& (65535 : Int32)).toUInt32.toUInt16.toUInt32.toInt32)), .unset]) rfl ?_
      refine XS.iloadN X0.here hx rfl (hb hby d26_14) rfl ?_
      refine X0.ldcI hx hown (mvT hZ (W hw 4)) rfl (hb hby d26_15) ?_
      refine XS.iand X0.here hx rfl (hb hby d26_17) rfl ?_
      refine XS.i2c X0.here hx rfl (hb hby d26_18) rfl ?_
      refine XS.istore X0.here hx rfl (hb hby d26_19) rfl (l' := #[.val (.int p1), .val (.int p2), .val (.int p3), .val (.int (1 : Int32)), .val (.int ((p1 &&& (65535 : Int32)).toUInt32.toUInt16.toUInt32.toInt32)), .val (.int ((p2 &&& (65535 : Int32)).toUInt32.toUInt16.toUInt32.toInt32)), .val (.int ((p3 &&& (65535 : Int32)).toUInt32.toUInt16.toUInt32.toInt32))]) rfl ?_
      refine XS.iloadN X0.here hx rfl (hb hby d26_21) rfl ?_
      refine XS.ifYes X0.here hx rfl (pc0 := 22) (pc' := 29) rfl (hb hby d26_22) rfl ((if0 _ _).trans (feq (by decide : ¬ (1 : Int32) = (0 : Int32))).2) (by decide) (by decide) ?_
      refine XS.iloadN X0.here hx rfl (hb hby d26_29) rfl ?_
      refine XT.iconstV X0.here hx rfl (1 : Int32) (hb hby d26_30) (by decide) ?_
      refine XS.icmpNo X0.here hx rfl (hb hby d26_31) rfl (teq (by decide : (1 : Int32) = (1 : Int32))).2 ?_
      refine XT.iconstV X0.here hx rfl (1 : Int32) (hb hby d26_34) (by decide) ?_
      exact Steps.refl _)
  obtain ⟨T2, h2, k1, X2, e2, E2, A2, st2⟩ := newP X0 hx hZ (W hw 5) e0 (g := (mkF m 35 #[.val (.int p1), .val (.int p2), .val (.int p3), .val (.int (1 : Int32)), .val (.int ((p1 &&& (65535 : Int32)).toUInt32.toUInt16.toUInt32.toInt32)), .val (.int ((p2 &&& (65535 : Int32)).toUInt32.toUInt16.toUInt32.toInt32)), .val (.int ((p3 &&& (65535 : Int32)).toUInt32.toUInt16.toUInt32.toInt32))] [(.int (1 : Int32))])) rfl (hb hby d26_35) rfl (by decide : ¬ ((1 : Int32) < (0 : Int32))) (cap := 1) (by decide : (1 : Int32).toNatClampNeg ≤ 1) (by decide) (by decide) (by decide)
  obtain ⟨t1, g2⟩ : ∃ z, z = h0.size := ⟨_, rfl⟩
  rw [← g2] at A2 st2
  have z2 : h0.size ≤ h2.size := E2.1
  have l2 : (@LT.lt Nat _ t1 h2.size) := A2.lt
  have K2 := (Keep.refl h0 []).ext E2
  have V2 : Arv Z h2 t1 k1 .char (1 : Int32) [(.int (0 : Int32))] (.int (0 : Int32)) := (Arv.new A2 (by decide)).pad (pad_rep [] (.int (0 : Int32)) 1)
  have c3 : SS p e below B0 T2 m 37 #[.val (.int p1), .val (.int p2), .val (.int p3), .val (.int (1 : Int32)), .val (.int ((p1 &&& (65535 : Int32)).toUInt32.toUInt16.toUInt32.toInt32)), .val (.int ((p2 &&& (65535 : Int32)).toUInt32.toUInt16.toUInt32.toInt32)), .val (.int ((p3 &&& (65535 : Int32)).toUInt32.toUInt16.toUInt32.toInt32))] [(.ref t1)] := Steps.trans c1 (st2 _ (Steps.refl _))
  have c4 : SS p e below B0 T2 m 41 #[.val (.int p1), .val (.int p2), .val (.int p3), .val (.int (1 : Int32)), .val (.int ((p1 &&& (65535 : Int32)).toUInt32.toUInt16.toUInt32.toInt32)), .val (.int ((p2 &&& (65535 : Int32)).toUInt32.toUInt16.toUInt32.toInt32)), .val (.int ((p3 &&& (65535 : Int32)).toUInt32.toUInt16.toUInt32.toInt32))] [(.int ((p1 &&& (65535 : Int32)).toUInt32.toUInt16.toUInt32.toInt32)), (.int (0 : Int32)), (.ref t1), (.ref t1)] := Steps.trans c3 (by
      refine XS.dup X2.here hx rfl (hb hby d26_37) rfl rfl ?_
      refine XT.iconstV X2.here hx rfl (0 : Int32) (hb hby d26_38) (by decide) ?_
      refine XS.iload X2.here hx rfl (hb hby d26_39) rfl ?_
      exact Steps.refl _)
  obtain ⟨cl5, Ar5, q5, Sz5, M5, Hs5, U5⟩ := id V2
  obtain ⟨T5, h5, X5, e5, W5, st5⟩ := stC X2 hx hZ e2 Ar5 (j := (0 : Int32)) (inb_of Sz5 ⟨(by decide), (by decide)⟩) (g := (mkF m 41 #[.val (.int p1), .val (.int p2), .val (.int p3), .val (.int (1 : Int32)), .val (.int ((p1 &&& (65535 : Int32)).toUInt32.toUInt16.toUInt32.toInt32)), .val (.int ((p2 &&& (65535 : Int32)).toUInt32.toUInt16.toUInt32.toInt32)), .val (.int ((p3 &&& (65535 : Int32)).toUInt32.toUInt16.toUInt32.toInt32))] [(.int ((p1 &&& (65535 : Int32)).toUInt32.toUInt16.toUInt32.toInt32)), (.int (0 : Int32)), (.ref t1), (.ref t1)])) rfl rfl (hb hby d26_41)
  have N5 := Fr.snoc X5 N0 (by omega)
  have V5 : Arv Z h5 t1 k1 .char (1 : Int32) [(.int (nar .char ((p1 &&& (65535 : Int32)).toUInt32.toUInt16.toUInt32.toInt32)))] (.int (0 : Int32)) := Arv.set Ar5 q5 Sz5 M5 Hs5 U5 (fits_nar_char _) W5 0 rfl (Nat.le_of_ble_eq_true rfl)
  have z5 : h5.size = h2.size := W5.size
  have K5 := K2.wr W5 (Or.inr (by omega))
  have c6 : SS p e below B0 T5 m 42 #[.val (.int p1), .val (.int p2), .val (.int p3), .val (.int (1 : Int32)), .val (.int ((p1 &&& (65535 : Int32)).toUInt32.toUInt16.toUInt32.toInt32)), .val (.int ((p2 &&& (65535 : Int32)).toUInt32.toUInt16.toUInt32.toInt32)), .val (.int ((p3 &&& (65535 : Int32)).toUInt32.toUInt16.toUInt32.toInt32))] [(.ref t1)] := Steps.trans c4 (st5 _ (Steps.refl _))
  obtain ⟨fs, hr, hrun, hended, hW, hsame⟩ := X5.leave (v := some (.ref t1)) (fun h => by rw [Bd.returns] at h; cases h)
  subst hB0
  refine ⟨_, _, Steps.trans c6 ?_, hrun, hended, _, _, rfl, ?_, ⟨_, rfl⟩, hW, hsame.mono (by decide) (by decide)⟩
  · exact retR X5 hx Bd.returns rfl rfl rfl (hb hby d26_42) hr
  · show QDr1 Z p1 p2 p3 h0 n0 _ T5.heap _
    rw [e5]
    exact ⟨t1, k1, rfl, N5, K5, (by omega), V5⟩
def QDr2 (Z : State) (p1 p2 p3 : Int32) (h0 : Heap) (n0 : Nat) (v : Option Value) (h : Heap) (L : List Loc) : Prop := ∃ (t : Addr) (k : ClassId), v = some (.ref t) ∧ Fr n0 L ∧ Keep h0 h [] ∧ (@Eq Nat t h0.size) ∧ Arv Z h t k .char (2 : Int32) [(.int (nar .char ((p1 &&& (65535 : Int32)).toUInt32.toUInt16.toUInt32.toInt32))), (.int (nar .char ((p2 &&& (65535 : Int32)).toUInt32.toUInt16.toUInt32.toInt32)))] (.int (0 : Int32))
set_option maxRecDepth 65536 in
set_option maxHeartbeats 40000000 in
theorem rmDr2 (l : Launch) (Z : State) (a0 : Array Value) (hw : ∀ d ∈ tables_1, d.before a0 Z = true) (ws : List Jvm.Cond) (p1 p2 p3 : Int32) (h0 : Heap) (n0 : Nat) (Z0 : n0 ≤ h0.size)  :
    MetFree l (⟨"com/example/stowfit/stowfit/JsonStringPinLaw", "draw", "(IIII)[C"⟩ : MethodName) (head1 (Jvm.Cond.code (⟨"com/example/stowfit/stowfit/JsonStringPinLaw", "draw", "(IIII)[C"⟩ : MethodName) method_2_code 7 (some (.array .char)) :: ws) ({ frames := 0, cells := 1, slots := 2, locals := 0 } : Room)) (fun a U => a = #[(.int p1), (.int p2), (.int p3), (.int (2 : Int32))] ∧ Z.Warmed39 U.vm ∧ U.heap = h0) (fun _ _ _ _ _ => True) (fun _ U o U' => ∃ v L, o = .returned v ∧ QDr2 Z p1 p2 p3 h0 n0 v U'.heap L ∧ FrameEnd U o U' L ({ frames := 0, cells := 1, slots := 2, locals := 0 } : Room).cells ({ frames := 0, cells := 1, slots := 2, locals := 0 } : Room).slots) := by
  refine MetFree.of_bodySF (plainFor_of_name pn_com_example_stowfit_stowfit_JsonStringPinLaw) hisR ?_
  intro p e s m args below meth c s₁ Bd hml0 hP hK
  obtain ⟨rfl, hZ, hh⟩ := hP
  have hx := Bd.exec
  have hby := Bd.bytes
  have hml : c.maxLocals = 7 := hml0
  have hown : s.vm.findClass "com/example/stowfit/stowfit/JsonStringPinLaw" = some m.cls := findClass_of_methodNamed Bd.named
  have hnm := (name_of_methodNamed Bd.named Bd.method).1
  have X0 : Stand p l e ({ frames := 0, cells := 1, slots := 2, locals := 0 } : Room) s m #[(.int p1), (.int p2), (.int p3), (.int (2 : Int32))] below meth c s₁ [] 0 0 := Stand.of_body Bd
  have e0 : s₁.heap = h0 := by rw [← hh, Bd.state]; rfl
  have N0 := Fr.nil n0
  obtain ⟨B0, c0, hB0⟩ : ∃ B0, Steps p.tables e below B0 (s₁.setTop (mkF m 0 #[.val (.int p1), .val (.int p2), .val (.int p3), .val (.int (2 : Int32)), .unset, .unset, .unset] [])) ∧ B0 = s₁.setTop (entryFrame m #[(.int p1), (.int p2), (.int p3), (.int (2 : Int32))] 7) := ⟨_, castTop (ef_IIII_7 m p1 p2 p3 (2 : Int32)) (Steps.refl _), rfl⟩
  have c1 : SS p e below B0 s₁ m 49 #[.val (.int p1), .val (.int p2), .val (.int p3), .val (.int (2 : Int32)), .val (.int ((p1 &&& (65535 : Int32)).toUInt32.toUInt16.toUInt32.toInt32)), .val (.int ((p2 &&& (65535 : Int32)).toUInt32.toUInt16.toUInt32.toInt32)), .val (.int ((p3 &&& (65535 : Int32)).toUInt32.toUInt16.toUInt32.toInt32))] [(.int (2 : Int32))] := Steps.trans c0 (by
      refine XS.iloadN X0.here hx rfl (hb hby d26_0) rfl ?_
      refine X0.ldcI hx hown (mvT hZ (W hw 4)) rfl (hb hby d26_1) ?_
      refine XS.iand X0.here hx rfl (hb hby d26_3) rfl ?_
      refine XS.i2c X0.here hx rfl (hb hby d26_4) rfl ?_
      refine XS.istore X0.here hx rfl (hb hby d26_5) rfl (l' := #[.val (.int p1), .val (.int p2), .val (.int p3), .val (.int (2 : Int32)), .val (.int ((p1 &&& (65535 : Int32)).toUInt32.toUInt16.toUInt32.toInt32)), .unset, .unset]) rfl ?_
      refine XS.iloadN X0.here hx rfl (hb hby d26_7) rfl ?_
      refine X0.ldcI hx hown (mvT hZ (W hw 4)) rfl (hb hby d26_8) ?_
      refine XS.iand X0.here hx rfl (hb hby d26_10) rfl ?_
      refine XS.i2c X0.here hx rfl (hb hby d26_11) rfl ?_
      refine XS.istore X0.here hx rfl (hb hby d26_12) rfl (l' := #[.val (.int p1), .val (.int p2), .val (.int p3), .val (.int (2 : Int32)), .val (.int ((p1 &&& (65535 : Int32)).toUInt32.toUInt16.toUInt32.toInt32)), .val (.int ((p2 &&& (65535 : Int32)).toUInt32.toUInt16.toUInt32.toInt32)), .unset]) rfl ?_
      refine XS.iloadN X0.here hx rfl (hb hby d26_14) rfl ?_
      refine X0.ldcI hx hown (mvT hZ (W hw 4)) rfl (hb hby d26_15) ?_
      refine XS.iand X0.here hx rfl (hb hby d26_17) rfl ?_
      refine XS.i2c X0.here hx rfl (hb hby d26_18) rfl ?_
      refine XS.istore X0.here hx rfl (hb hby d26_19) rfl (l' := #[.val (.int p1), .val (.int p2), .val (.int p3), .val (.int (2 : Int32)), .val (.int ((p1 &&& (65535 : Int32)).toUInt32.toUInt16.toUInt32.toInt32)), .val (.int ((p2 &&& (65535 : Int32)).toUInt32.toUInt16.toUInt32.toInt32)), .val (.int ((p3 &&& (65535 : Int32)).toUInt32.toUInt16.toUInt32.toInt32))]) rfl ?_
      refine XS.iloadN X0.here hx rfl (hb hby d26_21) rfl ?_
      refine XS.ifYes X0.here hx rfl (pc0 := 22) (pc' := 29) rfl (hb hby d26_22) rfl ((if0 _ _).trans (feq (by decide : ¬ (2 : Int32) = (0 : Int32))).2) (by decide) (by decide) ?_
      refine XS.iloadN X0.here hx rfl (hb hby d26_29) rfl ?_
      refine XT.iconstV X0.here hx rfl (1 : Int32) (hb hby d26_30) (by decide) ?_
      refine XS.icmpYes X0.here hx rfl (pc0 := 31) (pc' := 43) rfl (hb hby d26_31) rfl (feq (by decide : ¬ (2 : Int32) = (1 : Int32))).2 (by decide) (by decide) ?_
      refine XS.iloadN X0.here hx rfl (hb hby d26_43) rfl ?_
      refine XT.iconstV X0.here hx rfl (2 : Int32) (hb hby d26_44) (by decide) ?_
      refine XS.icmpNo X0.here hx rfl (hb hby d26_45) rfl (teq (by decide : (2 : Int32) = (2 : Int32))).2 ?_
      refine XT.iconstV X0.here hx rfl (2 : Int32) (hb hby d26_48) (by decide) ?_
      exact Steps.refl _)
  obtain ⟨T2, h2, k1, X2, e2, E2, A2, st2⟩ := newP X0 hx hZ (W hw 5) e0 (g := (mkF m 49 #[.val (.int p1), .val (.int p2), .val (.int p3), .val (.int (2 : Int32)), .val (.int ((p1 &&& (65535 : Int32)).toUInt32.toUInt16.toUInt32.toInt32)), .val (.int ((p2 &&& (65535 : Int32)).toUInt32.toUInt16.toUInt32.toInt32)), .val (.int ((p3 &&& (65535 : Int32)).toUInt32.toUInt16.toUInt32.toInt32))] [(.int (2 : Int32))])) rfl (hb hby d26_49) rfl (by decide : ¬ ((2 : Int32) < (0 : Int32))) (cap := 2) (by decide : (2 : Int32).toNatClampNeg ≤ 2) (by decide) (by decide) (by decide)
  obtain ⟨t1, g2⟩ : ∃ z, z = h0.size := ⟨_, rfl⟩
  rw [← g2] at A2 st2
  have z2 : h0.size ≤ h2.size := E2.1
  have l2 : (@LT.lt Nat _ t1 h2.size) := A2.lt
  have K2 := (Keep.refl h0 []).ext E2
  have V2 : Arv Z h2 t1 k1 .char (2 : Int32) [(.int (0 : Int32)), (.int (0 : Int32))] (.int (0 : Int32)) := (Arv.new A2 (by decide)).pad (pad_rep [] (.int (0 : Int32)) 2)
  have c3 : SS p e below B0 T2 m 51 #[.val (.int p1), .val (.int p2), .val (.int p3), .val (.int (2 : Int32)), .val (.int ((p1 &&& (65535 : Int32)).toUInt32.toUInt16.toUInt32.toInt32)), .val (.int ((p2 &&& (65535 : Int32)).toUInt32.toUInt16.toUInt32.toInt32)), .val (.int ((p3 &&& (65535 : Int32)).toUInt32.toUInt16.toUInt32.toInt32))] [(.ref t1)] := Steps.trans c1 (st2 _ (Steps.refl _))
  have c4 : SS p e below B0 T2 m 55 #[.val (.int p1), .val (.int p2), .val (.int p3), .val (.int (2 : Int32)), .val (.int ((p1 &&& (65535 : Int32)).toUInt32.toUInt16.toUInt32.toInt32)), .val (.int ((p2 &&& (65535 : Int32)).toUInt32.toUInt16.toUInt32.toInt32)), .val (.int ((p3 &&& (65535 : Int32)).toUInt32.toUInt16.toUInt32.toInt32))] [(.int ((p1 &&& (65535 : Int32)).toUInt32.toUInt16.toUInt32.toInt32)), (.int (0 : Int32)), (.ref t1), (.ref t1)] := Steps.trans c3 (by
      refine XS.dup X2.here hx rfl (hb hby d26_51) rfl rfl ?_
      refine XT.iconstV X2.here hx rfl (0 : Int32) (hb hby d26_52) (by decide) ?_
      refine XS.iload X2.here hx rfl (hb hby d26_53) rfl ?_
      exact Steps.refl _)
  obtain ⟨cl5, Ar5, q5, Sz5, M5, Hs5, U5⟩ := id V2
  obtain ⟨T5, h5, X5, e5, W5, st5⟩ := stC X2 hx hZ e2 Ar5 (j := (0 : Int32)) (inb_of Sz5 ⟨(by decide), (by decide)⟩) (g := (mkF m 55 #[.val (.int p1), .val (.int p2), .val (.int p3), .val (.int (2 : Int32)), .val (.int ((p1 &&& (65535 : Int32)).toUInt32.toUInt16.toUInt32.toInt32)), .val (.int ((p2 &&& (65535 : Int32)).toUInt32.toUInt16.toUInt32.toInt32)), .val (.int ((p3 &&& (65535 : Int32)).toUInt32.toUInt16.toUInt32.toInt32))] [(.int ((p1 &&& (65535 : Int32)).toUInt32.toUInt16.toUInt32.toInt32)), (.int (0 : Int32)), (.ref t1), (.ref t1)])) rfl rfl (hb hby d26_55)
  have N5 := Fr.snoc X5 N0 (by omega)
  have V5 : Arv Z h5 t1 k1 .char (2 : Int32) [(.int (nar .char ((p1 &&& (65535 : Int32)).toUInt32.toUInt16.toUInt32.toInt32))), (.int (0 : Int32))] (.int (0 : Int32)) := Arv.set Ar5 q5 Sz5 M5 Hs5 U5 (fits_nar_char _) W5 0 rfl (Nat.le_of_ble_eq_true rfl)
  have z5 : h5.size = h2.size := W5.size
  have K5 := K2.wr W5 (Or.inr (by omega))
  have c6 : SS p e below B0 T5 m 56 #[.val (.int p1), .val (.int p2), .val (.int p3), .val (.int (2 : Int32)), .val (.int ((p1 &&& (65535 : Int32)).toUInt32.toUInt16.toUInt32.toInt32)), .val (.int ((p2 &&& (65535 : Int32)).toUInt32.toUInt16.toUInt32.toInt32)), .val (.int ((p3 &&& (65535 : Int32)).toUInt32.toUInt16.toUInt32.toInt32))] [(.ref t1)] := Steps.trans c4 (st5 _ (Steps.refl _))
  have c7 : SS p e below B0 T5 m 60 #[.val (.int p1), .val (.int p2), .val (.int p3), .val (.int (2 : Int32)), .val (.int ((p1 &&& (65535 : Int32)).toUInt32.toUInt16.toUInt32.toInt32)), .val (.int ((p2 &&& (65535 : Int32)).toUInt32.toUInt16.toUInt32.toInt32)), .val (.int ((p3 &&& (65535 : Int32)).toUInt32.toUInt16.toUInt32.toInt32))] [(.int ((p2 &&& (65535 : Int32)).toUInt32.toUInt16.toUInt32.toInt32)), (.int (1 : Int32)), (.ref t1), (.ref t1)] := Steps.trans c6 (by
      refine XS.dup X5.here hx rfl (hb hby d26_56) rfl rfl ?_
      refine XT.iconstV X5.here hx rfl (1 : Int32) (hb hby d26_57) (by decide) ?_
      refine XS.iload X5.here hx rfl (hb hby d26_58) rfl ?_
      exact Steps.refl _)
  obtain ⟨cl8, Ar8, q8, Sz8, M8, Hs8, U8⟩ := id V5
  obtain ⟨T8, h8, X8, e8, W8, st8⟩ := stC X5 hx hZ e5 Ar8 (j := (1 : Int32)) (inb_of Sz8 ⟨(by decide), (by decide)⟩) (g := (mkF m 60 #[.val (.int p1), .val (.int p2), .val (.int p3), .val (.int (2 : Int32)), .val (.int ((p1 &&& (65535 : Int32)).toUInt32.toUInt16.toUInt32.toInt32)), .val (.int ((p2 &&& (65535 : Int32)).toUInt32.toUInt16.toUInt32.toInt32)), .val (.int ((p3 &&& (65535 : Int32)).toUInt32.toUInt16.toUInt32.toInt32))] [(.int ((p2 &&& (65535 : Int32)).toUInt32.toUInt16.toUInt32.toInt32)), (.int (1 : Int32)), (.ref t1), (.ref t1)])) rfl rfl (hb hby d26_60)
  have N8 := Fr.snoc X8 N5 (by omega)
  have V8 : Arv Z h8 t1 k1 .char (2 : Int32) [(.int (nar .char ((p1 &&& (65535 : Int32)).toUInt32.toUInt16.toUInt32.toInt32))), (.int (nar .char ((p2 &&& (65535 : Int32)).toUInt32.toUInt16.toUInt32.toInt32)))] (.int (0 : Int32)) := Arv.set Ar8 q8 Sz8 M8 Hs8 U8 (fits_nar_char _) W8 1 rfl (Nat.le_of_ble_eq_true rfl)
  have z8 : h8.size = h5.size := W8.size
  have K8 := K5.wr W8 (Or.inr (by omega))
  have c9 : SS p e below B0 T8 m 61 #[.val (.int p1), .val (.int p2), .val (.int p3), .val (.int (2 : Int32)), .val (.int ((p1 &&& (65535 : Int32)).toUInt32.toUInt16.toUInt32.toInt32)), .val (.int ((p2 &&& (65535 : Int32)).toUInt32.toUInt16.toUInt32.toInt32)), .val (.int ((p3 &&& (65535 : Int32)).toUInt32.toUInt16.toUInt32.toInt32))] [(.ref t1)] := Steps.trans c7 (st8 _ (Steps.refl _))
  obtain ⟨fs, hr, hrun, hended, hW, hsame⟩ := X8.leave (v := some (.ref t1)) (fun h => by rw [Bd.returns] at h; cases h)
  subst hB0
  refine ⟨_, _, Steps.trans c9 ?_, hrun, hended, _, _, rfl, ?_, ⟨_, rfl⟩, hW, hsame.mono (by decide) (by decide)⟩
  · exact retR X8 hx Bd.returns rfl rfl rfl (hb hby d26_61) hr
  · show QDr2 Z p1 p2 p3 h0 n0 _ T8.heap _
    rw [e8]
    exact ⟨t1, k1, rfl, N8, K8, (by omega), V8⟩
def QDr3 (Z : State) (p1 p2 p3 : Int32) (h0 : Heap) (n0 : Nat) (v : Option Value) (h : Heap) (L : List Loc) : Prop := ∃ (t : Addr) (k : ClassId), v = some (.ref t) ∧ Fr n0 L ∧ Keep h0 h [] ∧ (@Eq Nat t h0.size) ∧ Arv Z h t k .char (3 : Int32) [(.int (nar .char ((p1 &&& (65535 : Int32)).toUInt32.toUInt16.toUInt32.toInt32))), (.int (nar .char ((p2 &&& (65535 : Int32)).toUInt32.toUInt16.toUInt32.toInt32))), (.int (nar .char ((p3 &&& (65535 : Int32)).toUInt32.toUInt16.toUInt32.toInt32)))] (.int (0 : Int32))
set_option maxRecDepth 65536 in
set_option maxHeartbeats 40000000 in
theorem rmDr3 (l : Launch) (Z : State) (a0 : Array Value) (hw : ∀ d ∈ tables_1, d.before a0 Z = true) (ws : List Jvm.Cond) (p1 p2 p3 : Int32) (h0 : Heap) (n0 : Nat) (Z0 : n0 ≤ h0.size)  :
    MetFree l (⟨"com/example/stowfit/stowfit/JsonStringPinLaw", "draw", "(IIII)[C"⟩ : MethodName) (head1 (Jvm.Cond.code (⟨"com/example/stowfit/stowfit/JsonStringPinLaw", "draw", "(IIII)[C"⟩ : MethodName) method_2_code 7 (some (.array .char)) :: ws) ({ frames := 0, cells := 1, slots := 3, locals := 0 } : Room)) (fun a U => a = #[(.int p1), (.int p2), (.int p3), (.int (3 : Int32))] ∧ Z.Warmed39 U.vm ∧ U.heap = h0) (fun _ _ _ _ _ => True) (fun _ U o U' => ∃ v L, o = .returned v ∧ QDr3 Z p1 p2 p3 h0 n0 v U'.heap L ∧ FrameEnd U o U' L ({ frames := 0, cells := 1, slots := 3, locals := 0 } : Room).cells ({ frames := 0, cells := 1, slots := 3, locals := 0 } : Room).slots) := by
  refine MetFree.of_bodySF (plainFor_of_name pn_com_example_stowfit_stowfit_JsonStringPinLaw) hisR ?_
  intro p e s m args below meth c s₁ Bd hml0 hP hK
  obtain ⟨rfl, hZ, hh⟩ := hP
  have hx := Bd.exec
  have hby := Bd.bytes
  have hml : c.maxLocals = 7 := hml0
  have hown : s.vm.findClass "com/example/stowfit/stowfit/JsonStringPinLaw" = some m.cls := findClass_of_methodNamed Bd.named
  have hnm := (name_of_methodNamed Bd.named Bd.method).1
  have X0 : Stand p l e ({ frames := 0, cells := 1, slots := 3, locals := 0 } : Room) s m #[(.int p1), (.int p2), (.int p3), (.int (3 : Int32))] below meth c s₁ [] 0 0 := Stand.of_body Bd
  have e0 : s₁.heap = h0 := by rw [← hh, Bd.state]; rfl
  have N0 := Fr.nil n0
  obtain ⟨B0, c0, hB0⟩ : ∃ B0, Steps p.tables e below B0 (s₁.setTop (mkF m 0 #[.val (.int p1), .val (.int p2), .val (.int p3), .val (.int (3 : Int32)), .unset, .unset, .unset] [])) ∧ B0 = s₁.setTop (entryFrame m #[(.int p1), (.int p2), (.int p3), (.int (3 : Int32))] 7) := ⟨_, castTop (ef_IIII_7 m p1 p2 p3 (3 : Int32)) (Steps.refl _), rfl⟩
  have c1 : SS p e below B0 s₁ m 63 #[.val (.int p1), .val (.int p2), .val (.int p3), .val (.int (3 : Int32)), .val (.int ((p1 &&& (65535 : Int32)).toUInt32.toUInt16.toUInt32.toInt32)), .val (.int ((p2 &&& (65535 : Int32)).toUInt32.toUInt16.toUInt32.toInt32)), .val (.int ((p3 &&& (65535 : Int32)).toUInt32.toUInt16.toUInt32.toInt32))] [(.int (3 : Int32))] := Steps.trans c0 (by
      refine XS.iloadN X0.here hx rfl (hb hby d26_0) rfl ?_
      refine X0.ldcI hx hown (mvT hZ (W hw 4)) rfl (hb hby d26_1) ?_
      refine XS.iand X0.here hx rfl (hb hby d26_3) rfl ?_
      refine XS.i2c X0.here hx rfl (hb hby d26_4) rfl ?_
      refine XS.istore X0.here hx rfl (hb hby d26_5) rfl (l' := #[.val (.int p1), .val (.int p2), .val (.int p3), .val (.int (3 : Int32)), .val (.int ((p1 &&& (65535 : Int32)).toUInt32.toUInt16.toUInt32.toInt32)), .unset, .unset]) rfl ?_
      refine XS.iloadN X0.here hx rfl (hb hby d26_7) rfl ?_
      refine X0.ldcI hx hown (mvT hZ (W hw 4)) rfl (hb hby d26_8) ?_
      refine XS.iand X0.here hx rfl (hb hby d26_10) rfl ?_
      refine XS.i2c X0.here hx rfl (hb hby d26_11) rfl ?_
      refine XS.istore X0.here hx rfl (hb hby d26_12) rfl (l' := #[.val (.int p1), .val (.int p2), .val (.int p3), .val (.int (3 : Int32)), .val (.int ((p1 &&& (65535 : Int32)).toUInt32.toUInt16.toUInt32.toInt32)), .val (.int ((p2 &&& (65535 : Int32)).toUInt32.toUInt16.toUInt32.toInt32)), .unset]) rfl ?_
      refine XS.iloadN X0.here hx rfl (hb hby d26_14) rfl ?_
      refine X0.ldcI hx hown (mvT hZ (W hw 4)) rfl (hb hby d26_15) ?_
      refine XS.iand X0.here hx rfl (hb hby d26_17) rfl ?_
      refine XS.i2c X0.here hx rfl (hb hby d26_18) rfl ?_
      refine XS.istore X0.here hx rfl (hb hby d26_19) rfl (l' := #[.val (.int p1), .val (.int p2), .val (.int p3), .val (.int (3 : Int32)), .val (.int ((p1 &&& (65535 : Int32)).toUInt32.toUInt16.toUInt32.toInt32)), .val (.int ((p2 &&& (65535 : Int32)).toUInt32.toUInt16.toUInt32.toInt32)), .val (.int ((p3 &&& (65535 : Int32)).toUInt32.toUInt16.toUInt32.toInt32))]) rfl ?_
      refine XS.iloadN X0.here hx rfl (hb hby d26_21) rfl ?_
      refine XS.ifYes X0.here hx rfl (pc0 := 22) (pc' := 29) rfl (hb hby d26_22) rfl ((if0 _ _).trans (feq (by decide : ¬ (3 : Int32) = (0 : Int32))).2) (by decide) (by decide) ?_
      refine XS.iloadN X0.here hx rfl (hb hby d26_29) rfl ?_
      refine XT.iconstV X0.here hx rfl (1 : Int32) (hb hby d26_30) (by decide) ?_
      refine XS.icmpYes X0.here hx rfl (pc0 := 31) (pc' := 43) rfl (hb hby d26_31) rfl (feq (by decide : ¬ (3 : Int32) = (1 : Int32))).2 (by decide) (by decide) ?_
      refine XS.iloadN X0.here hx rfl (hb hby d26_43) rfl ?_
      refine XT.iconstV X0.here hx rfl (2 : Int32) (hb hby d26_44) (by decide) ?_
      refine XS.icmpYes X0.here hx rfl (pc0 := 45) (pc' := 62) rfl (hb hby d26_45) rfl (feq (by decide : ¬ (3 : Int32) = (2 : Int32))).2 (by decide) (by decide) ?_
      refine XT.iconstV X0.here hx rfl (3 : Int32) (hb hby d26_62) (by decide) ?_
      exact Steps.refl _)
  obtain ⟨T2, h2, k1, X2, e2, E2, A2, st2⟩ := newP X0 hx hZ (W hw 5) e0 (g := (mkF m 63 #[.val (.int p1), .val (.int p2), .val (.int p3), .val (.int (3 : Int32)), .val (.int ((p1 &&& (65535 : Int32)).toUInt32.toUInt16.toUInt32.toInt32)), .val (.int ((p2 &&& (65535 : Int32)).toUInt32.toUInt16.toUInt32.toInt32)), .val (.int ((p3 &&& (65535 : Int32)).toUInt32.toUInt16.toUInt32.toInt32))] [(.int (3 : Int32))])) rfl (hb hby d26_63) rfl (by decide : ¬ ((3 : Int32) < (0 : Int32))) (cap := 3) (by decide : (3 : Int32).toNatClampNeg ≤ 3) (by decide) (by decide) (by decide)
  obtain ⟨t1, g2⟩ : ∃ z, z = h0.size := ⟨_, rfl⟩
  rw [← g2] at A2 st2
  have z2 : h0.size ≤ h2.size := E2.1
  have l2 : (@LT.lt Nat _ t1 h2.size) := A2.lt
  have K2 := (Keep.refl h0 []).ext E2
  have V2 : Arv Z h2 t1 k1 .char (3 : Int32) [(.int (0 : Int32)), (.int (0 : Int32)), (.int (0 : Int32))] (.int (0 : Int32)) := (Arv.new A2 (by decide)).pad (pad_rep [] (.int (0 : Int32)) 3)
  have c3 : SS p e below B0 T2 m 65 #[.val (.int p1), .val (.int p2), .val (.int p3), .val (.int (3 : Int32)), .val (.int ((p1 &&& (65535 : Int32)).toUInt32.toUInt16.toUInt32.toInt32)), .val (.int ((p2 &&& (65535 : Int32)).toUInt32.toUInt16.toUInt32.toInt32)), .val (.int ((p3 &&& (65535 : Int32)).toUInt32.toUInt16.toUInt32.toInt32))] [(.ref t1)] := Steps.trans c1 (st2 _ (Steps.refl _))
  have c4 : SS p e below B0 T2 m 69 #[.val (.int p1), .val (.int p2), .val (.int p3), .val (.int (3 : Int32)), .val (.int ((p1 &&& (65535 : Int32)).toUInt32.toUInt16.toUInt32.toInt32)), .val (.int ((p2 &&& (65535 : Int32)).toUInt32.toUInt16.toUInt32.toInt32)), .val (.int ((p3 &&& (65535 : Int32)).toUInt32.toUInt16.toUInt32.toInt32))] [(.int ((p1 &&& (65535 : Int32)).toUInt32.toUInt16.toUInt32.toInt32)), (.int (0 : Int32)), (.ref t1), (.ref t1)] := Steps.trans c3 (by
      refine XS.dup X2.here hx rfl (hb hby d26_65) rfl rfl ?_
      refine XT.iconstV X2.here hx rfl (0 : Int32) (hb hby d26_66) (by decide) ?_
      refine XS.iload X2.here hx rfl (hb hby d26_67) rfl ?_
      exact Steps.refl _)
  obtain ⟨cl5, Ar5, q5, Sz5, M5, Hs5, U5⟩ := id V2
  obtain ⟨T5, h5, X5, e5, W5, st5⟩ := stC X2 hx hZ e2 Ar5 (j := (0 : Int32)) (inb_of Sz5 ⟨(by decide), (by decide)⟩) (g := (mkF m 69 #[.val (.int p1), .val (.int p2), .val (.int p3), .val (.int (3 : Int32)), .val (.int ((p1 &&& (65535 : Int32)).toUInt32.toUInt16.toUInt32.toInt32)), .val (.int ((p2 &&& (65535 : Int32)).toUInt32.toUInt16.toUInt32.toInt32)), .val (.int ((p3 &&& (65535 : Int32)).toUInt32.toUInt16.toUInt32.toInt32))] [(.int ((p1 &&& (65535 : Int32)).toUInt32.toUInt16.toUInt32.toInt32)), (.int (0 : Int32)), (.ref t1), (.ref t1)])) rfl rfl (hb hby d26_69)
  have N5 := Fr.snoc X5 N0 (by omega)
  have V5 : Arv Z h5 t1 k1 .char (3 : Int32) [(.int (nar .char ((p1 &&& (65535 : Int32)).toUInt32.toUInt16.toUInt32.toInt32))), (.int (0 : Int32)), (.int (0 : Int32))] (.int (0 : Int32)) := Arv.set Ar5 q5 Sz5 M5 Hs5 U5 (fits_nar_char _) W5 0 rfl (Nat.le_of_ble_eq_true rfl)
  have z5 : h5.size = h2.size := W5.size
  have K5 := K2.wr W5 (Or.inr (by omega))
  have c6 : SS p e below B0 T5 m 70 #[.val (.int p1), .val (.int p2), .val (.int p3), .val (.int (3 : Int32)), .val (.int ((p1 &&& (65535 : Int32)).toUInt32.toUInt16.toUInt32.toInt32)), .val (.int ((p2 &&& (65535 : Int32)).toUInt32.toUInt16.toUInt32.toInt32)), .val (.int ((p3 &&& (65535 : Int32)).toUInt32.toUInt16.toUInt32.toInt32))] [(.ref t1)] := Steps.trans c4 (st5 _ (Steps.refl _))
  have c7 : SS p e below B0 T5 m 74 #[.val (.int p1), .val (.int p2), .val (.int p3), .val (.int (3 : Int32)), .val (.int ((p1 &&& (65535 : Int32)).toUInt32.toUInt16.toUInt32.toInt32)), .val (.int ((p2 &&& (65535 : Int32)).toUInt32.toUInt16.toUInt32.toInt32)), .val (.int ((p3 &&& (65535 : Int32)).toUInt32.toUInt16.toUInt32.toInt32))] [(.int ((p2 &&& (65535 : Int32)).toUInt32.toUInt16.toUInt32.toInt32)), (.int (1 : Int32)), (.ref t1), (.ref t1)] := Steps.trans c6 (by
      refine XS.dup X5.here hx rfl (hb hby d26_70) rfl rfl ?_
      refine XT.iconstV X5.here hx rfl (1 : Int32) (hb hby d26_71) (by decide) ?_
      refine XS.iload X5.here hx rfl (hb hby d26_72) rfl ?_
      exact Steps.refl _)
  obtain ⟨cl8, Ar8, q8, Sz8, M8, Hs8, U8⟩ := id V5
  obtain ⟨T8, h8, X8, e8, W8, st8⟩ := stC X5 hx hZ e5 Ar8 (j := (1 : Int32)) (inb_of Sz8 ⟨(by decide), (by decide)⟩) (g := (mkF m 74 #[.val (.int p1), .val (.int p2), .val (.int p3), .val (.int (3 : Int32)), .val (.int ((p1 &&& (65535 : Int32)).toUInt32.toUInt16.toUInt32.toInt32)), .val (.int ((p2 &&& (65535 : Int32)).toUInt32.toUInt16.toUInt32.toInt32)), .val (.int ((p3 &&& (65535 : Int32)).toUInt32.toUInt16.toUInt32.toInt32))] [(.int ((p2 &&& (65535 : Int32)).toUInt32.toUInt16.toUInt32.toInt32)), (.int (1 : Int32)), (.ref t1), (.ref t1)])) rfl rfl (hb hby d26_74)
  have N8 := Fr.snoc X8 N5 (by omega)
  have V8 : Arv Z h8 t1 k1 .char (3 : Int32) [(.int (nar .char ((p1 &&& (65535 : Int32)).toUInt32.toUInt16.toUInt32.toInt32))), (.int (nar .char ((p2 &&& (65535 : Int32)).toUInt32.toUInt16.toUInt32.toInt32))), (.int (0 : Int32))] (.int (0 : Int32)) := Arv.set Ar8 q8 Sz8 M8 Hs8 U8 (fits_nar_char _) W8 1 rfl (Nat.le_of_ble_eq_true rfl)
  have z8 : h8.size = h5.size := W8.size
  have K8 := K5.wr W8 (Or.inr (by omega))
  have c9 : SS p e below B0 T8 m 75 #[.val (.int p1), .val (.int p2), .val (.int p3), .val (.int (3 : Int32)), .val (.int ((p1 &&& (65535 : Int32)).toUInt32.toUInt16.toUInt32.toInt32)), .val (.int ((p2 &&& (65535 : Int32)).toUInt32.toUInt16.toUInt32.toInt32)), .val (.int ((p3 &&& (65535 : Int32)).toUInt32.toUInt16.toUInt32.toInt32))] [(.ref t1)] := Steps.trans c7 (st8 _ (Steps.refl _))
  have c10 : SS p e below B0 T8 m 79 #[.val (.int p1), .val (.int p2), .val (.int p3), .val (.int (3 : Int32)), .val (.int ((p1 &&& (65535 : Int32)).toUInt32.toUInt16.toUInt32.toInt32)), .val (.int ((p2 &&& (65535 : Int32)).toUInt32.toUInt16.toUInt32.toInt32)), .val (.int ((p3 &&& (65535 : Int32)).toUInt32.toUInt16.toUInt32.toInt32))] [(.int ((p3 &&& (65535 : Int32)).toUInt32.toUInt16.toUInt32.toInt32)), (.int (2 : Int32)), (.ref t1), (.ref t1)] := Steps.trans c9 (by
      refine XS.dup X8.here hx rfl (hb hby d26_75) rfl rfl ?_
      refine XT.iconstV X8.here hx rfl (2 : Int32) (hb hby d26_76) (by decide) ?_
      refine XS.iload X8.here hx rfl (hb hby d26_77) rfl ?_
      exact Steps.refl _)
  obtain ⟨cl11, Ar11, q11, Sz11, M11, Hs11, U11⟩ := id V8
  obtain ⟨T11, h11, X11, e11, W11, st11⟩ := stC X8 hx hZ e8 Ar11 (j := (2 : Int32)) (inb_of Sz11 ⟨(by decide), (by decide)⟩) (g := (mkF m 79 #[.val (.int p1), .val (.int p2), .val (.int p3), .val (.int (3 : Int32)), .val (.int ((p1 &&& (65535 : Int32)).toUInt32.toUInt16.toUInt32.toInt32)), .val (.int ((p2 &&& (65535 : Int32)).toUInt32.toUInt16.toUInt32.toInt32)), .val (.int ((p3 &&& (65535 : Int32)).toUInt32.toUInt16.toUInt32.toInt32))] [(.int ((p3 &&& (65535 : Int32)).toUInt32.toUInt16.toUInt32.toInt32)), (.int (2 : Int32)), (.ref t1), (.ref t1)])) rfl rfl (hb hby d26_79)
  have N11 := Fr.snoc X11 N8 (by omega)
  have V11 : Arv Z h11 t1 k1 .char (3 : Int32) [(.int (nar .char ((p1 &&& (65535 : Int32)).toUInt32.toUInt16.toUInt32.toInt32))), (.int (nar .char ((p2 &&& (65535 : Int32)).toUInt32.toUInt16.toUInt32.toInt32))), (.int (nar .char ((p3 &&& (65535 : Int32)).toUInt32.toUInt16.toUInt32.toInt32)))] (.int (0 : Int32)) := Arv.set Ar11 q11 Sz11 M11 Hs11 U11 (fits_nar_char _) W11 2 rfl (Nat.le_of_ble_eq_true rfl)
  have z11 : h11.size = h8.size := W11.size
  have K11 := K8.wr W11 (Or.inr (by omega))
  have c12 : SS p e below B0 T11 m 80 #[.val (.int p1), .val (.int p2), .val (.int p3), .val (.int (3 : Int32)), .val (.int ((p1 &&& (65535 : Int32)).toUInt32.toUInt16.toUInt32.toInt32)), .val (.int ((p2 &&& (65535 : Int32)).toUInt32.toUInt16.toUInt32.toInt32)), .val (.int ((p3 &&& (65535 : Int32)).toUInt32.toUInt16.toUInt32.toInt32))] [(.ref t1)] := Steps.trans c10 (st11 _ (Steps.refl _))
  obtain ⟨fs, hr, hrun, hended, hW, hsame⟩ := X11.leave (v := some (.ref t1)) (fun h => by rw [Bd.returns] at h; cases h)
  subst hB0
  refine ⟨_, _, Steps.trans c12 ?_, hrun, hended, _, _, rfl, ?_, ⟨_, rfl⟩, hW, hsame.mono (by decide) (by decide)⟩
  · exact retR X11 hx Bd.returns rfl rfl rfl (hb hby d26_80) hr
  · show QDr3 Z p1 p2 p3 h0 n0 _ T11.heap _
    rw [e11]
    exact ⟨t1, k1, rfl, N11, K11, (by omega), V11⟩
def QL (n0 : Nat) (v : Option Value) (h : Heap) (L : List Loc) : Prop := v = some (.int 1) ∧ Fr n0 L
set_option maxRecDepth 65536 in
set_option maxHeartbeats 40000000 in
theorem rmL (l : Launch) (Z : State) (a0 : Array Value) (hw : ∀ d ∈ tables_1, d.before a0 Z = true) (ws : List Jvm.Cond) (p1 p2 p3 p4 p5 G1 : Int32) (G3 : Value) (h0 : Heap) (n0 : Nat) (Z0 : n0 ≤ h0.size) (O2 : Sta Z Z.heap "java/lang/String" "COMPACT_STRINGS" "Z" (.int G1)) (P5 : ¬ (G1 = (0 : Int32))) (O4 : Sta Z Z.heap "jdk/internal/util/Preconditions" "SIOOBE_FORMATTER" "Ljava/util/function/BiFunction;" G3) (rG3 : G3.isRef = true) (O7 : Sta Z Z.heap "java/lang/StringUTF16" "$assertionsDisabled" "Z" (.int (1 : Int32))) (O8 : Sta Z Z.heap "java/lang/StringUTF16" "HI_BYTE_SHIFT" "I" (.int (0 : Int32))) (O9 : Sta Z Z.heap "java/lang/StringUTF16" "LO_BYTE_SHIFT" "I" (.int (8 : Int32))) (X00 : Old Z n0 h0) (hEL : EW Z a0 consts_1) :
    MetFree l x (head1 (Jvm.Cond.code x code maxLocals ret :: ws) room_1) (fun a U => a = #[(.int p1), (.int p2), (.int p3), (.int p4), (.int p5)] ∧ Z.Warmed39 U.vm ∧ U.heap = h0 ∧ CHv Z consts_1 U.vm h0) (fun _ _ _ _ _ => True) (fun _ U o U' => ∃ v L, o = .returned v ∧ QL n0 v U'.heap L ∧ CHr Z consts_1 U.vm U.heap U'.vm U'.heap ∧ ReturnedEndW U o U' L room_1.cells room_1.slots) := by
  refine MetFree.of_bodySF (plainFor_of_name pn_com_example_stowfit_stowfit_JsonStringPinLaw) hisR ?_
  intro p e s m args below meth c s₁ Bd hml0 hP hK
  obtain ⟨rfl, hZ, hh, H0⟩ := hP
  have hx := Bd.exec
  have hby := Bd.bytes
  have hml : c.maxLocals = 10 := hml0
  have hown : s.vm.findClass "com/example/stowfit/stowfit/JsonStringPinLaw" = some m.cls := findClass_of_methodNamed Bd.named
  have hnm := (name_of_methodNamed Bd.named Bd.method).1
  have hown : (s.setVm s.vm).vm.findClass "com/example/stowfit/stowfit/JsonStringPinLaw" = some m.cls := hown
  have hZ : Z.Warmed39 (s.setVm s.vm).vm := hZ
  have X0 : Stand p l e room_1 (s.setVm s.vm) m #[(.int p1), (.int p2), (.int p3), (.int p4), (.int p5)] below meth c s₁ [] 0 0 := Stand.of_body Bd
  have C0 := CHr.refl H0
  have hS0 : s.Since s.vm h0.size := (State.WarmedH.refl s).since _
  have hk0 : h0.size ≤ h0.size := Nat.le_refl _
  have wS : ∀ a ∈ Bundle.stringAtoms, a.before a0 Z = true := fun d hd => hw d ((by decide +kernel : ∀ d ∈ Bundle.stringAtoms, d ∈ tables_1) d hd)
  have e0 : s₁.heap = h0 := by rw [← hh, Bd.state]; rfl
  have N0 := Fr.nil n0
  obtain ⟨B0, c0, hB0⟩ : ∃ B0, Steps p.tables e below B0 (s₁.setTop (mkF m 0 #[.val (.int p1), .val (.int p2), .val (.int p3), .val (.int p4), .val (.int p5), .unset, .unset, .unset, .unset, .unset] [])) ∧ B0 = s₁.setTop (entryFrame m #[(.int p1), (.int p2), (.int p3), (.int p4), (.int p5)] maxLocals) := ⟨_, castTop (ef_IIIII_10m m p1 p2 p3 p4 p5) (Steps.refl _), rfl⟩
  have c1 : SS p e below B0 s₁ m 6 #[.val (.int p1), .val (.int p2), .val (.int p3), .val (.int p4), .val (.int p5), .val (.int (p5 &&& (3 : Int32))), .unset, .unset, .unset, .unset] [] := Steps.trans c0 (by
      refine XS.iload X0.here hx rfl (hb hby at_0) rfl ?_
      refine XT.iconstV X0.here hx rfl (3 : Int32) (hb hby at_2) (by decide) ?_
      refine XS.iand X0.here hx rfl (hb hby at_3) rfl ?_
      refine XS.istore X0.here hx rfl (hb hby at_4) rfl (l' := #[.val (.int p1), .val (.int p2), .val (.int p3), .val (.int p4), .val (.int p5), .val (.int (p5 &&& (3 : Int32))), .unset, .unset, .unset, .unset]) rfl ?_
      exact Steps.refl _)
  rcases own_and3 p5 with hL | hL | hL | hL
  · rw [hL] at c1
    have c2 : SS p e below B0 s₁ m 11 #[.val (.int p1), .val (.int p2), .val (.int p3), .val (.int p4), .val (.int p5), .val (.int (0 : Int32)), .unset, .unset, .unset, .unset] [(.int (0 : Int32)), (.int p3), (.int p2), (.int p1)] := Steps.trans c1 (by
        refine XS.iloadN X0.here hx rfl (hb hby at_6) rfl ?_
        refine XS.iloadN X0.here hx rfl (hb hby at_7) rfl ?_
        refine XS.iloadN X0.here hx rfl (hb hby at_8) rfl ?_
        refine XS.iload X0.here hx rfl (hb hby at_9) rfl ?_
        exact Steps.refl _)
    obtain ⟨_, _, ⟨T3, Lp3, kp3, np3⟩, -, X3, ⟨Lc3, hQ3, lp3, yp3, zp3⟩, st3⟩ := Jvm.LawKit.callS X0 hx (y := (⟨"com/example/stowfit/stowfit/JsonStringPinLaw", "draw", "(IIII)[C"⟩ : MethodName)) hown (mvT hZ (W hw 0)) (mvT hZ (W hw 1)) (mvT hZ (W hw 2)) (mvT hZ (W hw 3)) (by decide) (backOf (W := 0) (rmDr0 l Z a0 hw [] p1 p2 p3 h0 n0 (by omega)) hZ (W hw 3) (W hw 2) (by decide) (by decide)) (g := (mkF m 11 #[.val (.int p1), .val (.int p2), .val (.int p3), .val (.int p4), .val (.int p5), .val (.int (0 : Int32)), .unset, .unset, .unset, .unset] [(.int (0 : Int32)), (.int p3), (.int p2), (.int p1)])) rfl (by rw [hml]; rfl) (argsL := [(.int p1), (.int p2), (.int p3), (.int (0 : Int32))]) (rest := []) (lenOf pd__IIII__C rfl) rfl (by show 2 * 0 + _ ≤ _; exact Nat.le_of_eq rfl) (hb hby at_11) (fun _ _ => ⟨rfl, e0, (by decide : 0 + 1 ≤ _), (by decide : 0 + 0 ≤ _)⟩)
    dsimp only [Pt.U, Pt.locs, Pt.cells, Pt.slots] at X3 lp3 yp3 zp3 st3 hQ3
    subst lp3 yp3 zp3
    obtain ⟨r, kc, rfl, Nq3, Kq3, g3, av3⟩ := hQ3
    have N3 := Fr.app N0 Nq3
    obtain ⟨h3, e3⟩ : ∃ z, T3.heap = z := ⟨_, rfl⟩
    rw [e3] at Kq3 av3
    have z3 : h0.size ≤ h3.size := Kq3.1
    have K3 := (Keep.refl h0 []).trans Kq3 all0
    have H3 : CHv Z consts_1 s.vm h3 := CHv.keep Kq3 sf0 H0
    have C3 := CHr.trans C0 (CHr.keep Kq3 sf0 H0)
    have c4 : SS p e below B0 T3 m 14 #[.val (.int p1), .val (.int p2), .val (.int p3), .val (.int p4), .val (.int p5), .val (.int (0 : Int32)), .unset, .unset, .unset, .unset] [(.ref r)] := Steps.trans c2 (st3 _ (Steps.refl _))
    have lt_r : (@LT.lt Nat _ r h3.size) := av3.lt
    have c5 : SS p e below B0 T3 m 16 #[.val (.int p1), .val (.int p2), .val (.int p3), .val (.int p4), .val (.int p5), .val (.int (0 : Int32)), .val (.ref r), .unset, .unset, .unset] [] := Steps.trans c4 (by
        refine XS.astore X3.here hx rfl (hb hby at_14) rfl rfl (l' := #[.val (.int p1), .val (.int p2), .val (.int p3), .val (.int p4), .val (.int p5), .val (.int (0 : Int32)), .val (.ref r), .unset, .unset, .unset]) rfl ?_
        exact Steps.refl _)
    obtain ⟨T6, h6, X6, e6, E6, A6, D6, -, st6⟩ := newO X3 hx hZ hown (W hw 6) (W hw 7) (W hw 8) e3 (g := (mkF m 16 #[.val (.int p1), .val (.int p2), .val (.int p3), .val (.int p4), .val (.int p5), .val (.int (0 : Int32)), .val (.ref r), .unset, .unset, .unset] [])) rfl (hb hby at_16) (by decide) (by decide)
    obtain ⟨s1, g6⟩ : ∃ z, z = h3.size := ⟨_, rfl⟩
    rw [← g6] at A6 D6 st6
    have z6 : h3.size ≤ h6.size := E6.1
    have l6 : (@LT.lt Nat _ s1 h6.size) := A6.lt
    have H6 : CHv Z consts_1 s.vm h6 := CHv.ext E6 H3
    have C6 := CHr.trans C3 (CHr.ext E6 H3)
    have K6 := K3.ext E6
    have c7 : SS p e below B0 T6 m 19 #[.val (.int p1), .val (.int p2), .val (.int p3), .val (.int p4), .val (.int p5), .val (.int (0 : Int32)), .val (.ref r), .unset, .unset, .unset] [(.ref s1)] := Steps.trans c5 (st6 _ (Steps.refl _))
    have c8 : SS p e below B0 T6 m 22 #[.val (.int p1), .val (.int p2), .val (.int p3), .val (.int p4), .val (.int p5), .val (.int (0 : Int32)), .val (.ref r), .unset, .unset, .unset] [(.ref r), (.ref s1), (.ref s1)] := Steps.trans c7 (by
        refine XS.dup X6.here hx rfl (hb hby at_19) rfl rfl ?_
        refine XS.aload X6.here hx rfl (hb hby at_20) rfl rfl ?_
        exact Steps.refl _)
    have Arv9 : Arv Z h6 r kc .char (0 : Int32) [] (.int (0 : Int32)) := (av3.ext E6)
    obtain ⟨_, _, ⟨T10, Lp10, kp10, np10⟩, -, X10, hs10, hg10, ⟨Lc10, hQ10, lp10, yp10, zp10, ch10⟩, st10⟩ := X6.specialBackS hx (y := (⟨"java/lang/String", "<init>", "([C)V"⟩ : MethodName)) rfl hown (mvT hZ (W hw 9)) (mvT hZ (W hw 10)) (mvT hZ (W hw 11)) (by decide) (backOfSH (W := 1) (rmE1 l Z a0 hw [] s1 r _ _ h6 n0 (by omega) A6 (D6 (O := "java/lang/String") (nm := "value") (d := "[B") (Or.inr (W hw 21)) (ty := (.array .byte)) (by decide)) (D6 (O := "java/lang/String") (nm := "coder") (d := "B") (Or.inr (W hw 22)) (ty := .byte) (by decide)) Arv9 (by omega) hEL) hZ (W hw 11) (W hw 8) (by decide) (by decide) hEL H6) (g := (mkF m 22 #[.val (.int p1), .val (.int p2), .val (.int p3), .val (.int p4), .val (.int p5), .val (.int (0 : Int32)), .val (.ref r), .unset, .unset, .unset] [(.ref r), (.ref s1), (.ref s1)])) rfl (by rw [hml]; rfl) c8 (a := s1) (argsL := [(.ref r)]) (rest := [(.ref s1)]) (lenOf pd___C_V rfl) rfl (by show 2 * 0 + _ ≤ _; exact Nat.le_of_eq rfl) (hb hby at_22) (fun _ _ => ⟨rfl, e6, (by decide : 2 + 4 ≤ _), (by decide : 4 + 8 ≤ _)⟩)
    dsimp only [Pt.U, Pt.locs, Pt.cells, Pt.slots] at X10 lp10 yp10 zp10 st10 hQ10 hs10 hg10 ch10
    subst lp10 yp10 zp10
    obtain ⟨rfl, Nq10, Kq10, fc10, tt10, kk10, fv10, av10⟩ := hQ10
    have N10 := Fr.app N3 Nq10
    obtain ⟨X10, hS10, hZ10, ho10⟩ := rebS hS0 (by rw [e6]; omega) X10 hs10 hg10 hZ hown
    obtain ⟨h10, e10⟩ : ∃ z, T10.heap = z := ⟨_, rfl⟩
    rw [e10] at Kq10 fc10 fv10 av10 ch10
    have hk10 : T10.heap.size ≤ h10.size := by rw [e10]; exact Nat.le_refl _
    have z10 : h6.size ≤ h10.size := Kq10.1
    have K10 := K6.trans Kq10 (allS (Or.inr (by omega)) all0)
    have H10 : CHv Z consts_1 T10.vm h10 := ch10.1
    have C10 := CHr.trans C6 ch10
    have c11 : SS p e below B0 T10 m 25 #[.val (.int p1), .val (.int p2), .val (.int p3), .val (.int p4), .val (.int p5), .val (.int (0 : Int32)), .val (.ref r), .unset, .unset, .unset] [(.ref s1)] := st10
    have lt_t1 : (@LT.lt Nat _ tt10 h10.size) := av10.lt
    have c12 : SS p e below B0 T10 m 33 #[.val (.int p1), .val (.int p2), .val (.int p3), .val (.int p4), .val (.int p5), .val (.int (0 : Int32)), .val (.ref r), .val (.ref s1), .unset, .unset] [(.int ((p4 &&& (255 : Int32)).toUInt32.toUInt16.toUInt32.toInt32))] := Steps.trans c11 (by
        refine XS.astore X10.here hx rfl (hb hby at_25) rfl rfl (l' := #[.val (.int p1), .val (.int p2), .val (.int p3), .val (.int p4), .val (.int p5), .val (.int (0 : Int32)), .val (.ref r), .val (.ref s1), .unset, .unset]) rfl ?_
        refine XS.iloadN X10.here hx rfl (hb hby at_27) rfl ?_
        refine XT.sipushV X10.here hx rfl (255 : Int32) (hb hby at_28) (by decide) ?_
        refine XS.iand X10.here hx rfl (hb hby at_31) rfl ?_
        refine XS.i2c X10.here hx rfl (hb hby at_32) rfl ?_
        exact Steps.refl _)
    have Old13 : Old Z n0 h10 := (((X00.keep Kq3 all0).ext E6).keep Kq10 (allS (by omega) all0))
    obtain ⟨_, _, ⟨T14, Lp14, kp14, np14⟩, -, X14, ⟨Lc14, hQ14, lp14, yp14, zp14⟩, st14⟩ := Jvm.LawKit.callS X10 hx (y := (⟨"java/lang/String", "valueOf", "(C)Ljava/lang/String;"⟩ : MethodName)) ho10 (mvT hZ10 (W hw 27)) (mvT hZ10 (W hw 28)) (mvT hZ10 (W hw 8)) (mvT hZ10 (W hw 29)) (by decide) (backOf (W := 0) (rmVo l Z a0 hw [] ((p4 &&& (255 : Int32)).toUInt32.toUInt16.toUInt32.toInt32) G1 h10 n0 (by omega) (and255_i2c p4) O2 P5 Old13) hZ10 (W hw 29) (W hw 8) (by decide) (by decide)) (g := (mkF m 33 #[.val (.int p1), .val (.int p2), .val (.int p3), .val (.int p4), .val (.int p5), .val (.int (0 : Int32)), .val (.ref r), .val (.ref s1), .unset, .unset] [(.int ((p4 &&& (255 : Int32)).toUInt32.toUInt16.toUInt32.toInt32))])) rfl (by rw [hml]; rfl) (argsL := [(.int ((p4 &&& (255 : Int32)).toUInt32.toUInt16.toUInt32.toInt32))]) (rest := []) (lenOf pd__C_Ljava_lang_String_ rfl) rfl (by show 2 * 0 + _ ≤ _; exact Nat.le_of_eq rfl) (hb hby at_33) (fun _ _ => ⟨rfl, e10, (by decide : 6 + 2 ≤ _), (by decide : 12 + 5 ≤ _)⟩)
    dsimp only [Pt.U, Pt.locs, Pt.cells, Pt.slots] at X14 lp14 yp14 zp14 st14 hQ14
    subst lp14 yp14 zp14
    obtain ⟨w1, tw14, kw14, rfl, Nq14, Kq14, -, -, -, -, -, -⟩ := hQ14
    have N14 := Fr.app N10 Nq14
    obtain ⟨h14, e14⟩ : ∃ z, T14.heap = z := ⟨_, rfl⟩
    rw [e14] at Kq14
    have z14 : h10.size ≤ h14.size := Kq14.1
    have K14 := K10.trans Kq14 all0
    have H14 : CHv Z consts_1 T10.vm h14 := CHv.keep Kq14 sf0 H10
    have C14 := CHr.trans C10 (CHr.keep Kq14 sf0 H10)
    have c15 : SS p e below B0 T14 m 36 #[.val (.int p1), .val (.int p2), .val (.int p3), .val (.int p4), .val (.int p5), .val (.int (0 : Int32)), .val (.ref r), .val (.ref s1), .unset, .unset] [(.ref w1)] := Steps.trans c12 (st14 _ (Steps.refl _))
    have c16 : SS p e below B0 T14 m 42 #[.val (.int p1), .val (.int p2), .val (.int p3), .val (.int p4), .val (.int p5), .val (.int (0 : Int32)), .val (.ref r), .val (.ref s1), .val (.ref w1), .unset] [(.ref w1), (.ref s1)] := Steps.trans c15 (by
        refine XS.astore X14.here hx rfl (hb hby at_36) rfl rfl (l' := #[.val (.int p1), .val (.int p2), .val (.int p3), .val (.int p4), .val (.int p5), .val (.int (0 : Int32)), .val (.ref r), .val (.ref s1), .val (.ref w1), .unset]) rfl ?_
        refine XS.aload X14.here hx rfl (hb hby at_38) rfl rfl ?_
        refine XS.aload X14.here hx rfl (hb hby at_40) rfl rfl ?_
        exact Steps.refl _)
    have Exa17 : Exa Z h14 s1 "java/lang/String" := ((A6.keep Kq10).keep Kq14)
    obtain ⟨_, _, ⟨T18, Lp18, kp18, np18⟩, -, X18, ⟨Lc18, hQ18, lp18, yp18, zp18⟩, st18⟩ := Jvm.LawKit.callS X14 hx (y := (⟨"com/example/stowfit/stowfit/Json", "string", "(Ljava/lang/Object;Ljava/lang/String;)Ljava/lang/String;"⟩ : MethodName)) ho10 (mvT hZ10 (W hw 42)) (mvT hZ10 (W hw 43)) (mvT hZ10 (W hw 44)) (mvT hZ10 (W hw 45)) (by decide) (backOf (W := 0) (rmJ l Z a0 hw [] s1 w1 h14 n0 (by omega) Exa17) hZ10 (W hw 45) (W hw 44) (by decide) (by decide)) (g := (mkF m 42 #[.val (.int p1), .val (.int p2), .val (.int p3), .val (.int p4), .val (.int p5), .val (.int (0 : Int32)), .val (.ref r), .val (.ref s1), .val (.ref w1), .unset] [(.ref w1), (.ref s1)])) rfl (by rw [hml]; rfl) (argsL := [(.ref s1), (.ref w1)]) (rest := []) (lenOf pd__Ljava_lang_Object_Ljava_lang_String__Ljava_lang_String_ rfl) rfl (by show 2 * 0 + _ ≤ _; exact Nat.le_of_eq rfl) (hb hby at_42) (fun _ _ => ⟨rfl, e14, (by decide : 8 + 0 ≤ _), (by decide : 17 + 0 ≤ _)⟩)
    dsimp only [Pt.U, Pt.locs, Pt.cells, Pt.slots] at X18 lp18 yp18 zp18 st18 hQ18
    subst lp18 yp18 zp18
    obtain ⟨rfl, Nq18, eq18⟩ := hQ18
    have N18 := Fr.app N14 Nq18
    have c19 : SS p e below B0 T18 m 45 #[.val (.int p1), .val (.int p2), .val (.int p3), .val (.int p4), .val (.int p5), .val (.int (0 : Int32)), .val (.ref r), .val (.ref s1), .val (.ref w1), .unset] [(.ref s1)] := Steps.trans c16 (st18 _ (Steps.refl _))
    have c20 : SS p e below B0 T18 m 58 #[.val (.int p1), .val (.int p2), .val (.int p3), .val (.int p4), .val (.int p5), .val (.int (0 : Int32)), .val (.ref r), .val (.ref s1), .val (.ref w1), .val (.ref s1)] [(.ref s1)] := Steps.trans c19 (by
        refine XS.astore X18.here hx rfl (hb hby at_45) rfl rfl (l' := #[.val (.int p1), .val (.int p2), .val (.int p3), .val (.int p4), .val (.int p5), .val (.int (0 : Int32)), .val (.ref r), .val (.ref s1), .val (.ref w1), .val (.ref s1)]) rfl ?_
        refine XS.aload X18.here hx rfl (hb hby at_47) rfl rfl ?_
        refine XS.aload X18.here hx rfl (hb hby at_49) rfl rfl ?_
        refine XS.acmpYes X18.here hx rfl (pc0 := 51) (pc' := 56) rfl (hb hby at_51) rfl (by simp [if_acmp.holds]) (by decide) (by decide) ?_
        refine XS.aload X18.here hx rfl (hb hby at_56) rfl rfl ?_
        exact Steps.refl _)
    have Fld21 : Fld Z h14 s1 "java/lang/String" "value" "[B" (.ref tt10) := (fv10.keep Kq14 nin0)
    have Fld22 : Fld Z h14 s1 "java/lang/String" "coder" "B" (.int (0 : Int32)) := (fc10.keep Kq14 nin0)
    have Arv23 : Arv Z h14 tt10 kk10 .byte (0 : Int32) [] (.int (0 : Int32)) := (av10.keep Kq14 nin0)
    have Old24 : Old Z n0 h14 := (Old13.keep Kq14 all0)
    obtain ⟨cq25, kq25, qa25, qb25, qc25⟩ := isOf hZ10 eq18 Exa17
    obtain ⟨_, _, ⟨T25, Lp25, kp25, np25⟩, -, X25, ⟨Lc25, hQ25, lp25, yp25, zp25⟩, st25⟩ := X18.virtualBack hx (y := (⟨"java/lang/String", "length", "()I"⟩ : MethodName)) (z := (⟨"java/lang/String", "length", "()I"⟩ : MethodName)) ho10 (mvT hZ10 (W hw 47)) (mvT hZ10 (W hw 48)) (notFace_of_selects (args := #[]) (mvT hZ10 (W hw 50))) (mvT hZ10 (W hw 50)) (mvT hZ10 (W hw 49)) (by decide) (backOf (W := 0) (rmLen0 l Z a0 hw [] s1 tt10 kk10 G1 h14 n0 (by omega) Exa17 Fld21 Fld22 Arv23 O2 P5 Old24) hZ10 (W hw 51) (W hw 8) (by decide) (by decide)) qa25 qc25 (g := (mkF m 58 #[.val (.int p1), .val (.int p2), .val (.int p3), .val (.int p4), .val (.int p5), .val (.int (0 : Int32)), .val (.ref r), .val (.ref s1), .val (.ref w1), .val (.ref s1)] [(.ref s1)])) rfl (by rw [hml]; rfl) c20 (argsL := []) (rest := []) (lenOf pd___I rfl) rfl (by show 2 * 0 + _ ≤ _; exact Nat.le_of_eq rfl) (hb hby at_58) (fun _ _ => ⟨rfl, eq18, (by decide : 8 + 0 ≤ _), (by decide : 17 + 0 ≤ _)⟩)
    dsimp only [Pt.U, Pt.locs, Pt.cells, Pt.slots] at X25 lp25 yp25 zp25 st25 hQ25
    subst lp25 yp25 zp25
    obtain ⟨rfl, Nq25, eq25⟩ := hQ25
    have N25 := Fr.app N18 Nq25
    have c26 : SS p e below B0 T25 m 61 #[.val (.int p1), .val (.int p2), .val (.int p3), .val (.int p4), .val (.int p5), .val (.int (0 : Int32)), .val (.ref r), .val (.ref s1), .val (.ref w1), .val (.ref s1)] [(.int (0 : Int32))] := st25
    have c27 : SS p e below B0 T25 m 135 #[.val (.int p1), .val (.int p2), .val (.int p3), .val (.int p4), .val (.int p5), .val (.int (0 : Int32)), .val (.ref r), .val (.ref s1), .val (.ref w1), .val (.ref s1)] [(.ref s1), (.ref s1)] := Steps.trans c26 (by
        refine XS.iload X25.here hx rfl (hb hby at_61) rfl ?_
        refine XS.icmpYes X25.here hx rfl (pc0 := 63) (pc' := 68) rfl (hb hby at_63) rfl (teq (by decide : (0 : Int32) = (0 : Int32))).1 (by decide) (by decide) ?_
        refine XS.iload X25.here hx rfl (hb hby at_68) rfl ?_
        refine XT.iconstV X25.here hx rfl (1 : Int32) (hb hby at_70) (by decide) ?_
        refine XS.icmpYes X25.here hx rfl (pc0 := 71) (pc' := 89) rfl (hb hby at_71) rfl (tlt (by decide : (0 : Int32) < (1 : Int32))).1 (by decide) (by decide) ?_
        refine XS.iload X25.here hx rfl (hb hby at_89) rfl ?_
        refine XT.iconstV X25.here hx rfl (2 : Int32) (hb hby at_91) (by decide) ?_
        refine XS.icmpYes X25.here hx rfl (pc0 := 92) (pc' := 110) rfl (hb hby at_92) rfl (tlt (by decide : (0 : Int32) < (2 : Int32))).1 (by decide) (by decide) ?_
        refine XS.iload X25.here hx rfl (hb hby at_110) rfl ?_
        refine XT.iconstV X25.here hx rfl (3 : Int32) (hb hby at_112) (by decide) ?_
        refine XS.icmpYes X25.here hx rfl (pc0 := 113) (pc' := 131) rfl (hb hby at_113) rfl (tlt (by decide : (0 : Int32) < (3 : Int32))).1 (by decide) (by decide) ?_
        refine XS.aload X25.here hx rfl (hb hby at_131) rfl rfl ?_
        refine XS.aload X25.here hx rfl (hb hby at_133) rfl rfl ?_
        exact Steps.refl _)
    obtain ⟨cq28, kq28, qa28, qb28, qc28⟩ := isOf hZ10 eq25 Exa17
    obtain ⟨_, _, ⟨T28, Lp28, kp28, np28⟩, -, X28, ⟨Lc28, hQ28, lp28, yp28, zp28⟩, st28⟩ := X25.virtualBack hx (y := (⟨"java/lang/String", "equals", "(Ljava/lang/Object;)Z"⟩ : MethodName)) (z := (⟨"java/lang/String", "equals", "(Ljava/lang/Object;)Z"⟩ : MethodName)) ho10 (mvT hZ10 (W hw 57)) (mvT hZ10 (W hw 58)) (notFace_of_selects (args := #[]) (mvT hZ10 (W hw 60))) (mvT hZ10 (W hw 60)) (mvT hZ10 (W hw 59)) (by decide) (backOf (W := 0) (rmEq l Z a0 hw [] s1 h14 n0 (by omega)) hZ10 (W hw 61) (W hw 8) (by decide) (by decide)) qa28 qc28 (g := (mkF m 135 #[.val (.int p1), .val (.int p2), .val (.int p3), .val (.int p4), .val (.int p5), .val (.int (0 : Int32)), .val (.ref r), .val (.ref s1), .val (.ref w1), .val (.ref s1)] [(.ref s1), (.ref s1)])) rfl (by rw [hml]; rfl) c27 (argsL := [(.ref s1)]) (rest := []) (lenOf pd__Ljava_lang_Object__Z rfl) rfl (by show 2 * 0 + _ ≤ _; exact Nat.le_of_eq rfl) (hb hby at_135) (fun _ _ => ⟨rfl, eq25, (by decide : 8 + 0 ≤ _), (by decide : 17 + 0 ≤ _)⟩)
    dsimp only [Pt.U, Pt.locs, Pt.cells, Pt.slots] at X28 lp28 yp28 zp28 st28 hQ28
    subst lp28 yp28 zp28
    obtain ⟨rfl, Nq28, eq28⟩ := hQ28
    have N28 := Fr.app N25 Nq28
    have c29 : SS p e below B0 T28 m 138 #[.val (.int p1), .val (.int p2), .val (.int p3), .val (.int p4), .val (.int p5), .val (.int (0 : Int32)), .val (.ref r), .val (.ref s1), .val (.ref w1), .val (.ref s1)] [(.int (1 : Int32))] := st28
    obtain ⟨fs, hr, hrun, hended, hW⟩ := X28.leaveW hS10 (by rw [eq28]; omega) (v := some (.int (1 : Int32))) (fun h => by rw [Bd.returns] at h; cases h)
    have hC : CHr Z consts_1 s.vm s.heap T28.vm T28.heap := by rw [hh, eq28]; exact CHr.trans C14 (CHv.at X28 hZ10 hEL H14)
    subst hB0
    refine ⟨_, _, Steps.trans c29 ?_, hrun, hended, _, _, rfl, ?_, hC, hW.1, hW.2.1, hW.2.2.1, hW.2.2.2.mono (by decide) (by decide)⟩
    · exact retN X28 hx (t := .boolean) Bd.returns (by simp) (hb hby at_138) hr
    · show QL n0 _ T28.heap _
      rw [eq28]
      exact ⟨rfl, N28⟩
  · rw [hL] at c1
    have c2 : SS p e below B0 s₁ m 11 #[.val (.int p1), .val (.int p2), .val (.int p3), .val (.int p4), .val (.int p5), .val (.int (1 : Int32)), .unset, .unset, .unset, .unset] [(.int (1 : Int32)), (.int p3), (.int p2), (.int p1)] := Steps.trans c1 (by
        refine XS.iloadN X0.here hx rfl (hb hby at_6) rfl ?_
        refine XS.iloadN X0.here hx rfl (hb hby at_7) rfl ?_
        refine XS.iloadN X0.here hx rfl (hb hby at_8) rfl ?_
        refine XS.iload X0.here hx rfl (hb hby at_9) rfl ?_
        exact Steps.refl _)
    obtain ⟨_, _, ⟨T3, Lp3, kp3, np3⟩, -, X3, ⟨Lc3, hQ3, lp3, yp3, zp3⟩, st3⟩ := Jvm.LawKit.callS X0 hx (y := (⟨"com/example/stowfit/stowfit/JsonStringPinLaw", "draw", "(IIII)[C"⟩ : MethodName)) hown (mvT hZ (W hw 0)) (mvT hZ (W hw 1)) (mvT hZ (W hw 2)) (mvT hZ (W hw 3)) (by decide) (backOf (W := 0) (rmDr1 l Z a0 hw [] p1 p2 p3 h0 n0 (by omega)) hZ (W hw 3) (W hw 2) (by decide) (by decide)) (g := (mkF m 11 #[.val (.int p1), .val (.int p2), .val (.int p3), .val (.int p4), .val (.int p5), .val (.int (1 : Int32)), .unset, .unset, .unset, .unset] [(.int (1 : Int32)), (.int p3), (.int p2), (.int p1)])) rfl (by rw [hml]; rfl) (argsL := [(.int p1), (.int p2), (.int p3), (.int (1 : Int32))]) (rest := []) (lenOf pd__IIII__C rfl) rfl (by show 2 * 0 + _ ≤ _; exact Nat.le_of_eq rfl) (hb hby at_11) (fun _ _ => ⟨rfl, e0, (by decide : 0 + 1 ≤ _), (by decide : 0 + 1 ≤ _)⟩)
    dsimp only [Pt.U, Pt.locs, Pt.cells, Pt.slots] at X3 lp3 yp3 zp3 st3 hQ3
    subst lp3 yp3 zp3
    obtain ⟨r, kc, rfl, Nq3, Kq3, g3, av3⟩ := hQ3
    have N3 := Fr.app N0 Nq3
    obtain ⟨h3, e3⟩ : ∃ z, T3.heap = z := ⟨_, rfl⟩
    rw [e3] at Kq3 av3
    have z3 : h0.size ≤ h3.size := Kq3.1
    have K3 := (Keep.refl h0 []).trans Kq3 all0
    have H3 : CHv Z consts_1 s.vm h3 := CHv.keep Kq3 sf0 H0
    have C3 := CHr.trans C0 (CHr.keep Kq3 sf0 H0)
    have c4 : SS p e below B0 T3 m 14 #[.val (.int p1), .val (.int p2), .val (.int p3), .val (.int p4), .val (.int p5), .val (.int (1 : Int32)), .unset, .unset, .unset, .unset] [(.ref r)] := Steps.trans c2 (st3 _ (Steps.refl _))
    have lt_r : (@LT.lt Nat _ r h3.size) := av3.lt
    have c5 : SS p e below B0 T3 m 16 #[.val (.int p1), .val (.int p2), .val (.int p3), .val (.int p4), .val (.int p5), .val (.int (1 : Int32)), .val (.ref r), .unset, .unset, .unset] [] := Steps.trans c4 (by
        refine XS.astore X3.here hx rfl (hb hby at_14) rfl rfl (l' := #[.val (.int p1), .val (.int p2), .val (.int p3), .val (.int p4), .val (.int p5), .val (.int (1 : Int32)), .val (.ref r), .unset, .unset, .unset]) rfl ?_
        exact Steps.refl _)
    obtain ⟨T6, h6, X6, e6, E6, A6, D6, -, st6⟩ := newO X3 hx hZ hown (W hw 6) (W hw 7) (W hw 8) e3 (g := (mkF m 16 #[.val (.int p1), .val (.int p2), .val (.int p3), .val (.int p4), .val (.int p5), .val (.int (1 : Int32)), .val (.ref r), .unset, .unset, .unset] [])) rfl (hb hby at_16) (by decide) (by decide)
    obtain ⟨s1, g6⟩ : ∃ z, z = h3.size := ⟨_, rfl⟩
    rw [← g6] at A6 D6 st6
    have z6 : h3.size ≤ h6.size := E6.1
    have l6 : (@LT.lt Nat _ s1 h6.size) := A6.lt
    have H6 : CHv Z consts_1 s.vm h6 := CHv.ext E6 H3
    have C6 := CHr.trans C3 (CHr.ext E6 H3)
    have K6 := K3.ext E6
    have c7 : SS p e below B0 T6 m 19 #[.val (.int p1), .val (.int p2), .val (.int p3), .val (.int p4), .val (.int p5), .val (.int (1 : Int32)), .val (.ref r), .unset, .unset, .unset] [(.ref s1)] := Steps.trans c5 (st6 _ (Steps.refl _))
    have c8 : SS p e below B0 T6 m 22 #[.val (.int p1), .val (.int p2), .val (.int p3), .val (.int p4), .val (.int p5), .val (.int (1 : Int32)), .val (.ref r), .unset, .unset, .unset] [(.ref r), (.ref s1), (.ref s1)] := Steps.trans c7 (by
        refine XS.dup X6.here hx rfl (hb hby at_19) rfl rfl ?_
        refine XS.aload X6.here hx rfl (hb hby at_20) rfl rfl ?_
        exact Steps.refl _)
    have hc0 := own_char ((p1 &&& (65535 : Int32)).toUInt32.toUInt16.toUInt32.toInt32)
    have Arv9 : Arv Z h6 r kc .char (1 : Int32) [(.int (nar .char ((p1 &&& (65535 : Int32)).toUInt32.toUInt16.toUInt32.toInt32)))] (.int (0 : Int32)) := (av3.ext E6)
    have Old10 : Old Z n0 h6 := ((X00.keep Kq3 all0).ext E6)
    obtain ⟨_, _, ⟨T11, Lp11, kp11, np11⟩, -, X11, ⟨Lc11, hQ11, lp11, yp11, zp11⟩, st11⟩ := X6.specialBack hx (y := (⟨"java/lang/String", "<init>", "([C)V"⟩ : MethodName)) rfl hown (mvT hZ (W hw 9)) (mvT hZ (W hw 10)) (mvT hZ (W hw 11)) (by decide) (backOf (W := 1) (rmS1_1 l Z a0 hw [] s1 r kc (nar .char ((p1 &&& (65535 : Int32)).toUInt32.toUInt16.toUInt32.toInt32)) _ _ G1 h6 n0 (by omega) A6 (D6 (O := "java/lang/String") (nm := "value") (d := "[B") (Or.inr (W hw 21)) (ty := (.array .byte)) (by decide)) (D6 (O := "java/lang/String") (nm := "coder") (d := "B") (Or.inr (W hw 22)) (ty := .byte) (by decide)) O2 P5 O7 O8 O9 Old10 Arv9 hc0 (by omega)) hZ (W hw 11) (W hw 8) (by decide) (by decide)) (g := (mkF m 22 #[.val (.int p1), .val (.int p2), .val (.int p3), .val (.int p4), .val (.int p5), .val (.int (1 : Int32)), .val (.ref r), .unset, .unset, .unset] [(.ref r), (.ref s1), (.ref s1)])) rfl (by rw [hml]; rfl) c8 (a := s1) (argsL := [(.ref r)]) (rest := [(.ref s1)]) (lenOf pd___C_V rfl) rfl (by show 2 * 0 + _ ≤ _; exact Nat.le_of_eq rfl) (hb hby at_22) (fun _ _ => ⟨rfl, e6, (by decide : 2 + 2 ≤ _), (by decide : 5 + 3 ≤ _)⟩)
    dsimp only [Pt.U, Pt.locs, Pt.cells, Pt.slots] at X11 lp11 yp11 zp11 st11 hQ11
    subst lp11 yp11 zp11
    obtain ⟨rfl, Nq11, Kq11, t1, k1, cd, N_, vs, g11, fc11, fv11, av11, spl⟩ := hQ11
    have N11 := Fr.app N3 Nq11
    obtain ⟨h11, e11⟩ : ∃ z, T11.heap = z := ⟨_, rfl⟩
    rw [e11] at Kq11 fc11 fv11 av11
    have z11 : h6.size ≤ h11.size := Kq11.1
    have K11 := K6.trans Kq11 (allS (Or.inr (by omega)) all0)
    have H11 : CHv Z consts_1 s.vm h11 := CHv.keep Kq11 (sfS (Safe.ext E6 H3 (Safe.new (Nat.le_of_eq g6.symm))) sf0) H6
    have C11 := CHr.trans C6 (CHr.keep Kq11 (sfS (Safe.ext E6 H3 (Safe.new (Nat.le_of_eq g6.symm))) sf0) H6)
    have c12 : SS p e below B0 T11 m 25 #[.val (.int p1), .val (.int p2), .val (.int p3), .val (.int p4), .val (.int p5), .val (.int (1 : Int32)), .val (.ref r), .unset, .unset, .unset] [(.ref s1)] := st11
    have lt_t1 : (@LT.lt Nat _ t1 h11.size) := av11.lt
    have c13 : SS p e below B0 T11 m 33 #[.val (.int p1), .val (.int p2), .val (.int p3), .val (.int p4), .val (.int p5), .val (.int (1 : Int32)), .val (.ref r), .val (.ref s1), .unset, .unset] [(.int ((p4 &&& (255 : Int32)).toUInt32.toUInt16.toUInt32.toInt32))] := Steps.trans c12 (by
        refine XS.astore X11.here hx rfl (hb hby at_25) rfl rfl (l' := #[.val (.int p1), .val (.int p2), .val (.int p3), .val (.int p4), .val (.int p5), .val (.int (1 : Int32)), .val (.ref r), .val (.ref s1), .unset, .unset]) rfl ?_
        refine XS.iloadN X11.here hx rfl (hb hby at_27) rfl ?_
        refine XT.sipushV X11.here hx rfl (255 : Int32) (hb hby at_28) (by decide) ?_
        refine XS.iand X11.here hx rfl (hb hby at_31) rfl ?_
        refine XS.i2c X11.here hx rfl (hb hby at_32) rfl ?_
        exact Steps.refl _)
    have Old14 : Old Z n0 h11 := (Old10.keep Kq11 (allS (by omega) all0))
    obtain ⟨_, _, ⟨T15, Lp15, kp15, np15⟩, -, X15, ⟨Lc15, hQ15, lp15, yp15, zp15⟩, st15⟩ := Jvm.LawKit.callS X11 hx (y := (⟨"java/lang/String", "valueOf", "(C)Ljava/lang/String;"⟩ : MethodName)) hown (mvT hZ (W hw 27)) (mvT hZ (W hw 28)) (mvT hZ (W hw 8)) (mvT hZ (W hw 29)) (by decide) (backOf (W := 0) (rmVo l Z a0 hw [] ((p4 &&& (255 : Int32)).toUInt32.toUInt16.toUInt32.toInt32) G1 h11 n0 (by omega) (and255_i2c p4) O2 P5 Old14) hZ (W hw 29) (W hw 8) (by decide) (by decide)) (g := (mkF m 33 #[.val (.int p1), .val (.int p2), .val (.int p3), .val (.int p4), .val (.int p5), .val (.int (1 : Int32)), .val (.ref r), .val (.ref s1), .unset, .unset] [(.int ((p4 &&& (255 : Int32)).toUInt32.toUInt16.toUInt32.toInt32))])) rfl (by rw [hml]; rfl) (argsL := [(.int ((p4 &&& (255 : Int32)).toUInt32.toUInt16.toUInt32.toInt32))]) (rest := []) (lenOf pd__C_Ljava_lang_String_ rfl) rfl (by show 2 * 0 + _ ≤ _; exact Nat.le_of_eq rfl) (hb hby at_33) (fun _ _ => ⟨rfl, e11, (by decide : 4 + 2 ≤ _), (by decide : 8 + 5 ≤ _)⟩)
    dsimp only [Pt.U, Pt.locs, Pt.cells, Pt.slots] at X15 lp15 yp15 zp15 st15 hQ15
    subst lp15 yp15 zp15
    obtain ⟨w1, tw15, kw15, rfl, Nq15, Kq15, -, -, -, -, -, -⟩ := hQ15
    have N15 := Fr.app N11 Nq15
    obtain ⟨h15, e15⟩ : ∃ z, T15.heap = z := ⟨_, rfl⟩
    rw [e15] at Kq15
    have z15 : h11.size ≤ h15.size := Kq15.1
    have K15 := K11.trans Kq15 all0
    have H15 : CHv Z consts_1 s.vm h15 := CHv.keep Kq15 sf0 H11
    have C15 := CHr.trans C11 (CHr.keep Kq15 sf0 H11)
    have c16 : SS p e below B0 T15 m 36 #[.val (.int p1), .val (.int p2), .val (.int p3), .val (.int p4), .val (.int p5), .val (.int (1 : Int32)), .val (.ref r), .val (.ref s1), .unset, .unset] [(.ref w1)] := Steps.trans c13 (st15 _ (Steps.refl _))
    have c17 : SS p e below B0 T15 m 42 #[.val (.int p1), .val (.int p2), .val (.int p3), .val (.int p4), .val (.int p5), .val (.int (1 : Int32)), .val (.ref r), .val (.ref s1), .val (.ref w1), .unset] [(.ref w1), (.ref s1)] := Steps.trans c16 (by
        refine XS.astore X15.here hx rfl (hb hby at_36) rfl rfl (l' := #[.val (.int p1), .val (.int p2), .val (.int p3), .val (.int p4), .val (.int p5), .val (.int (1 : Int32)), .val (.ref r), .val (.ref s1), .val (.ref w1), .unset]) rfl ?_
        refine XS.aload X15.here hx rfl (hb hby at_38) rfl rfl ?_
        refine XS.aload X15.here hx rfl (hb hby at_40) rfl rfl ?_
        exact Steps.refl _)
    have Exa18 : Exa Z h15 s1 "java/lang/String" := ((A6.keep Kq11).keep Kq15)
    obtain ⟨_, _, ⟨T19, Lp19, kp19, np19⟩, -, X19, ⟨Lc19, hQ19, lp19, yp19, zp19⟩, st19⟩ := Jvm.LawKit.callS X15 hx (y := (⟨"com/example/stowfit/stowfit/Json", "string", "(Ljava/lang/Object;Ljava/lang/String;)Ljava/lang/String;"⟩ : MethodName)) hown (mvT hZ (W hw 42)) (mvT hZ (W hw 43)) (mvT hZ (W hw 44)) (mvT hZ (W hw 45)) (by decide) (backOf (W := 0) (rmJ l Z a0 hw [] s1 w1 h15 n0 (by omega) Exa18) hZ (W hw 45) (W hw 44) (by decide) (by decide)) (g := (mkF m 42 #[.val (.int p1), .val (.int p2), .val (.int p3), .val (.int p4), .val (.int p5), .val (.int (1 : Int32)), .val (.ref r), .val (.ref s1), .val (.ref w1), .unset] [(.ref w1), (.ref s1)])) rfl (by rw [hml]; rfl) (argsL := [(.ref s1), (.ref w1)]) (rest := []) (lenOf pd__Ljava_lang_Object_Ljava_lang_String__Ljava_lang_String_ rfl) rfl (by show 2 * 0 + _ ≤ _; exact Nat.le_of_eq rfl) (hb hby at_42) (fun _ _ => ⟨rfl, e15, (by decide : 6 + 0 ≤ _), (by decide : 13 + 0 ≤ _)⟩)
    dsimp only [Pt.U, Pt.locs, Pt.cells, Pt.slots] at X19 lp19 yp19 zp19 st19 hQ19
    subst lp19 yp19 zp19
    obtain ⟨rfl, Nq19, eq19⟩ := hQ19
    have N19 := Fr.app N15 Nq19
    have c20 : SS p e below B0 T19 m 45 #[.val (.int p1), .val (.int p2), .val (.int p3), .val (.int p4), .val (.int p5), .val (.int (1 : Int32)), .val (.ref r), .val (.ref s1), .val (.ref w1), .unset] [(.ref s1)] := Steps.trans c17 (st19 _ (Steps.refl _))
    have c21 : SS p e below B0 T19 m 58 #[.val (.int p1), .val (.int p2), .val (.int p3), .val (.int p4), .val (.int p5), .val (.int (1 : Int32)), .val (.ref r), .val (.ref s1), .val (.ref w1), .val (.ref s1)] [(.ref s1)] := Steps.trans c20 (by
        refine XS.astore X19.here hx rfl (hb hby at_45) rfl rfl (l' := #[.val (.int p1), .val (.int p2), .val (.int p3), .val (.int p4), .val (.int p5), .val (.int (1 : Int32)), .val (.ref r), .val (.ref s1), .val (.ref w1), .val (.ref s1)]) rfl ?_
        refine XS.aload X19.here hx rfl (hb hby at_47) rfl rfl ?_
        refine XS.aload X19.here hx rfl (hb hby at_49) rfl rfl ?_
        refine XS.acmpYes X19.here hx rfl (pc0 := 51) (pc' := 56) rfl (hb hby at_51) rfl (by simp [if_acmp.holds]) (by decide) (by decide) ?_
        refine XS.aload X19.here hx rfl (hb hby at_56) rfl rfl ?_
        exact Steps.refl _)
    have Fld22 : Fld Z h15 s1 "java/lang/String" "value" "[B" (.ref t1) := (fv11.keep Kq15 nin0)
    have Fld23 : Fld Z h15 s1 "java/lang/String" "coder" "B" (.int cd) := (fc11.keep Kq15 nin0)
    have Arv24 : Arv Z h15 t1 k1 .byte N_ vs (.int (0 : Int32)) := (av11.keep Kq15 nin0)
    have Old25 : Old Z n0 h15 := (Old14.keep Kq15 all0)
    obtain ⟨cq26, kq26, qa26, qb26, qc26⟩ := isOf hZ eq19 Exa18
    obtain ⟨_, _, ⟨T26, Lp26, kp26, np26⟩, -, X26, ⟨Lc26, hQ26, lp26, yp26, zp26⟩, st26⟩ := X19.virtualBack hx (y := (⟨"java/lang/String", "length", "()I"⟩ : MethodName)) (z := (⟨"java/lang/String", "length", "()I"⟩ : MethodName)) hown (mvT hZ (W hw 47)) (mvT hZ (W hw 48)) (notFace_of_selects (args := #[]) (mvT hZ (W hw 50))) (mvT hZ (W hw 50)) (mvT hZ (W hw 49)) (by decide) (backOf (W := 0) (rmLen1 l Z a0 hw [] s1 t1 k1 (nar .char ((p1 &&& (65535 : Int32)).toUInt32.toUInt16.toUInt32.toInt32)) cd N_ vs G1 h15 n0 (by omega) Exa18 Fld22 Fld23 Arv24 spl O2 P5 Old25) hZ (W hw 51) (W hw 8) (by decide) (by decide)) qa26 qc26 (g := (mkF m 58 #[.val (.int p1), .val (.int p2), .val (.int p3), .val (.int p4), .val (.int p5), .val (.int (1 : Int32)), .val (.ref r), .val (.ref s1), .val (.ref w1), .val (.ref s1)] [(.ref s1)])) rfl (by rw [hml]; rfl) c21 (argsL := []) (rest := []) (lenOf pd___I rfl) rfl (by show 2 * 0 + _ ≤ _; exact Nat.le_of_eq rfl) (hb hby at_58) (fun _ _ => ⟨rfl, eq19, (by decide : 6 + 0 ≤ _), (by decide : 13 + 0 ≤ _)⟩)
    dsimp only [Pt.U, Pt.locs, Pt.cells, Pt.slots] at X26 lp26 yp26 zp26 st26 hQ26
    subst lp26 yp26 zp26
    obtain ⟨rfl, Nq26, eq26⟩ := hQ26
    have N26 := Fr.app N19 Nq26
    have c27 : SS p e below B0 T26 m 61 #[.val (.int p1), .val (.int p2), .val (.int p3), .val (.int p4), .val (.int p5), .val (.int (1 : Int32)), .val (.ref r), .val (.ref s1), .val (.ref w1), .val (.ref s1)] [(.int (1 : Int32))] := st26
    have c28 : SS p e below B0 T26 m 77 #[.val (.int p1), .val (.int p2), .val (.int p3), .val (.int p4), .val (.int p5), .val (.int (1 : Int32)), .val (.ref r), .val (.ref s1), .val (.ref w1), .val (.ref s1)] [(.int (0 : Int32)), (.ref s1)] := Steps.trans c27 (by
        refine XS.iload X26.here hx rfl (hb hby at_61) rfl ?_
        refine XS.icmpYes X26.here hx rfl (pc0 := 63) (pc' := 68) rfl (hb hby at_63) rfl (teq (by decide : (1 : Int32) = (1 : Int32))).1 (by decide) (by decide) ?_
        refine XS.iload X26.here hx rfl (hb hby at_68) rfl ?_
        refine XT.iconstV X26.here hx rfl (1 : Int32) (hb hby at_70) (by decide) ?_
        refine XS.icmpNo X26.here hx rfl (hb hby at_71) rfl (flt (by decide : ¬ (1 : Int32) < (1 : Int32))).1 ?_
        refine XS.aload X26.here hx rfl (hb hby at_74) rfl rfl ?_
        refine XT.iconstV X26.here hx rfl (0 : Int32) (hb hby at_76) (by decide) ?_
        exact Steps.refl _)
    obtain ⟨cq29, kq29, qa29, qb29, qc29⟩ := isOf hZ eq26 Exa18
    obtain ⟨_, _, ⟨T29, Lp29, kp29, np29⟩, -, X29, ⟨Lc29, hQ29, lp29, yp29, zp29⟩, st29⟩ := X26.virtualBack hx (y := (⟨"java/lang/String", "charAt", "(I)C"⟩ : MethodName)) (z := (⟨"java/lang/String", "charAt", "(I)C"⟩ : MethodName)) hown (mvT hZ (W hw 72)) (mvT hZ (W hw 73)) (notFace_of_selects (args := #[]) (mvT hZ (W hw 75))) (mvT hZ (W hw 75)) (mvT hZ (W hw 74)) (by decide) (backOf (W := 0) (rmChA1_0 l Z a0 hw [] s1 t1 k1 (nar .char ((p1 &&& (65535 : Int32)).toUInt32.toUInt16.toUInt32.toInt32)) cd N_ vs G1 G3 h15 n0 (by omega) Exa18 Fld22 Fld23 Arv24 spl O2 P5 O4 rG3 O7 O8 O9 Old25 hc0) hZ (W hw 76) (W hw 8) (by decide) (by decide)) qa29 qc29 (g := (mkF m 77 #[.val (.int p1), .val (.int p2), .val (.int p3), .val (.int p4), .val (.int p5), .val (.int (1 : Int32)), .val (.ref r), .val (.ref s1), .val (.ref w1), .val (.ref s1)] [(.int (0 : Int32)), (.ref s1)])) rfl (by rw [hml]; rfl) c28 (argsL := [(.int (0 : Int32))]) (rest := []) (lenOf pd__I_C rfl) rfl (by show 2 * 0 + _ ≤ _; exact Nat.le_of_eq rfl) (hb hby at_77) (fun _ _ => ⟨rfl, eq26, (by decide : 6 + 0 ≤ _), (by decide : 13 + 0 ≤ _)⟩)
    dsimp only [Pt.U, Pt.locs, Pt.cells, Pt.slots] at X29 lp29 yp29 zp29 st29 hQ29
    subst lp29 yp29 zp29
    obtain ⟨rfl, Nq29, eq29⟩ := hQ29
    have N29 := Fr.app N26 Nq29
    have c30 : SS p e below B0 T29 m 80 #[.val (.int p1), .val (.int p2), .val (.int p3), .val (.int p4), .val (.int p5), .val (.int (1 : Int32)), .val (.ref r), .val (.ref s1), .val (.ref w1), .val (.ref s1)] [(.int (nar .char ((p1 &&& (65535 : Int32)).toUInt32.toUInt16.toUInt32.toInt32)))] := st29
    have c31 : SS p e below B0 T29 m 83 #[.val (.int p1), .val (.int p2), .val (.int p3), .val (.int p4), .val (.int p5), .val (.int (1 : Int32)), .val (.ref r), .val (.ref s1), .val (.ref w1), .val (.ref s1)] [(.int (0 : Int32)), (.ref r), (.int (nar .char ((p1 &&& (65535 : Int32)).toUInt32.toUInt16.toUInt32.toInt32)))] := Steps.trans c30 (by
        refine XS.aload X29.here hx rfl (hb hby at_80) rfl rfl ?_
        refine XT.iconstV X29.here hx rfl (0 : Int32) (hb hby at_82) (by decide) ?_
        exact Steps.refl _)
    have Arv33 : Arv Z h15 r kc .char (1 : Int32) [(.int (nar .char ((p1 &&& (65535 : Int32)).toUInt32.toUInt16.toUInt32.toInt32)))] (.int (0 : Int32)) := ((Arv9.keep Kq11 (ninS (own_ne (by omega)) nin0)).keep Kq15 nin0)
    obtain ⟨cl32, Ar32, q32, Sz32, M32, Hs32, U32⟩ := id Arv33
    have in32 := inb_of (j := (0 : Int32)) Sz32 ⟨(by decide), (by decide)⟩
    have c34 : SS p e below B0 T29 m 84 #[.val (.int p1), .val (.int p2), .val (.int p3), .val (.int p4), .val (.int p5), .val (.int (1 : Int32)), .val (.ref r), .val (.ref s1), .val (.ref w1), .val (.ref s1)] [(.int (nar .char ((p1 &&& (65535 : Int32)).toUInt32.toUInt16.toUInt32.toInt32))), (.int (nar .char ((p1 &&& (65535 : Int32)).toUInt32.toUInt16.toUInt32.toInt32)))] := Steps.trans c31 (by
        refine X29.caload hx (j := (0 : Int32)) (v := (.int (nar .char ((p1 &&& (65535 : Int32)).toUInt32.toUInt16.toUInt32.toInt32)))) (by rw [eq29]; exact Ar32.1) (State.isArrayOf_alike hZ.alike Ar32.2.1) Ar32.2.2 in32 (Hs32.at in32 rfl) (g := (mkF m 83 #[.val (.int p1), .val (.int p2), .val (.int p3), .val (.int p4), .val (.int p5), .val (.int (1 : Int32)), .val (.ref r), .val (.ref s1), .val (.ref w1), .val (.ref s1)] [(.int (0 : Int32)), (.ref r), (.int (nar .char ((p1 &&& (65535 : Int32)).toUInt32.toUInt16.toUInt32.toInt32)))])) rfl rfl (hb hby at_83) _ ?_
        exact Steps.refl _)
    have c35 : SS p e below B0 T29 m 135 #[.val (.int p1), .val (.int p2), .val (.int p3), .val (.int p4), .val (.int p5), .val (.int (1 : Int32)), .val (.ref r), .val (.ref s1), .val (.ref w1), .val (.ref s1)] [(.ref s1), (.ref s1)] := Steps.trans c34 (by
        refine XS.icmpYes X29.here hx rfl (pc0 := 84) (pc' := 89) rfl (hb hby at_84) rfl (teq rfl).1 (by decide) (by decide) ?_
        refine XS.iload X29.here hx rfl (hb hby at_89) rfl ?_
        refine XT.iconstV X29.here hx rfl (2 : Int32) (hb hby at_91) (by decide) ?_
        refine XS.icmpYes X29.here hx rfl (pc0 := 92) (pc' := 110) rfl (hb hby at_92) rfl (tlt (by decide : (1 : Int32) < (2 : Int32))).1 (by decide) (by decide) ?_
        refine XS.iload X29.here hx rfl (hb hby at_110) rfl ?_
        refine XT.iconstV X29.here hx rfl (3 : Int32) (hb hby at_112) (by decide) ?_
        refine XS.icmpYes X29.here hx rfl (pc0 := 113) (pc' := 131) rfl (hb hby at_113) rfl (tlt (by decide : (1 : Int32) < (3 : Int32))).1 (by decide) (by decide) ?_
        refine XS.aload X29.here hx rfl (hb hby at_131) rfl rfl ?_
        refine XS.aload X29.here hx rfl (hb hby at_133) rfl rfl ?_
        exact Steps.refl _)
    obtain ⟨cq36, kq36, qa36, qb36, qc36⟩ := isOf hZ eq29 Exa18
    obtain ⟨_, _, ⟨T36, Lp36, kp36, np36⟩, -, X36, ⟨Lc36, hQ36, lp36, yp36, zp36⟩, st36⟩ := X29.virtualBack hx (y := (⟨"java/lang/String", "equals", "(Ljava/lang/Object;)Z"⟩ : MethodName)) (z := (⟨"java/lang/String", "equals", "(Ljava/lang/Object;)Z"⟩ : MethodName)) hown (mvT hZ (W hw 57)) (mvT hZ (W hw 58)) (notFace_of_selects (args := #[]) (mvT hZ (W hw 60))) (mvT hZ (W hw 60)) (mvT hZ (W hw 59)) (by decide) (backOf (W := 0) (rmEq l Z a0 hw [] s1 h15 n0 (by omega)) hZ (W hw 61) (W hw 8) (by decide) (by decide)) qa36 qc36 (g := (mkF m 135 #[.val (.int p1), .val (.int p2), .val (.int p3), .val (.int p4), .val (.int p5), .val (.int (1 : Int32)), .val (.ref r), .val (.ref s1), .val (.ref w1), .val (.ref s1)] [(.ref s1), (.ref s1)])) rfl (by rw [hml]; rfl) c35 (argsL := [(.ref s1)]) (rest := []) (lenOf pd__Ljava_lang_Object__Z rfl) rfl (by show 2 * 0 + _ ≤ _; exact Nat.le_of_eq rfl) (hb hby at_135) (fun _ _ => ⟨rfl, eq29, (by decide : 6 + 0 ≤ _), (by decide : 13 + 0 ≤ _)⟩)
    dsimp only [Pt.U, Pt.locs, Pt.cells, Pt.slots] at X36 lp36 yp36 zp36 st36 hQ36
    subst lp36 yp36 zp36
    obtain ⟨rfl, Nq36, eq36⟩ := hQ36
    have N36 := Fr.app N29 Nq36
    have c37 : SS p e below B0 T36 m 138 #[.val (.int p1), .val (.int p2), .val (.int p3), .val (.int p4), .val (.int p5), .val (.int (1 : Int32)), .val (.ref r), .val (.ref s1), .val (.ref w1), .val (.ref s1)] [(.int (1 : Int32))] := st36
    obtain ⟨fs, hr, hrun, hended, hW⟩ := X36.leaveW hS0 (by rw [eq36]; omega) (v := some (.int (1 : Int32))) (fun h => by rw [Bd.returns] at h; cases h)
    have hC : CHr Z consts_1 s.vm s.heap T36.vm T36.heap := by rw [hh, eq36]; exact CHr.trans C15 (CHv.at X36 hZ hEL H15)
    subst hB0
    refine ⟨_, _, Steps.trans c37 ?_, hrun, hended, _, _, rfl, ?_, hC, hW.1, hW.2.1, hW.2.2.1, hW.2.2.2.mono (by decide) (by decide)⟩
    · exact retN X36 hx (t := .boolean) Bd.returns (by simp) (hb hby at_138) hr
    · show QL n0 _ T36.heap _
      rw [eq36]
      exact ⟨rfl, N36⟩
  · rw [hL] at c1
    have c2 : SS p e below B0 s₁ m 11 #[.val (.int p1), .val (.int p2), .val (.int p3), .val (.int p4), .val (.int p5), .val (.int (2 : Int32)), .unset, .unset, .unset, .unset] [(.int (2 : Int32)), (.int p3), (.int p2), (.int p1)] := Steps.trans c1 (by
        refine XS.iloadN X0.here hx rfl (hb hby at_6) rfl ?_
        refine XS.iloadN X0.here hx rfl (hb hby at_7) rfl ?_
        refine XS.iloadN X0.here hx rfl (hb hby at_8) rfl ?_
        refine XS.iload X0.here hx rfl (hb hby at_9) rfl ?_
        exact Steps.refl _)
    obtain ⟨_, _, ⟨T3, Lp3, kp3, np3⟩, -, X3, ⟨Lc3, hQ3, lp3, yp3, zp3⟩, st3⟩ := Jvm.LawKit.callS X0 hx (y := (⟨"com/example/stowfit/stowfit/JsonStringPinLaw", "draw", "(IIII)[C"⟩ : MethodName)) hown (mvT hZ (W hw 0)) (mvT hZ (W hw 1)) (mvT hZ (W hw 2)) (mvT hZ (W hw 3)) (by decide) (backOf (W := 0) (rmDr2 l Z a0 hw [] p1 p2 p3 h0 n0 (by omega)) hZ (W hw 3) (W hw 2) (by decide) (by decide)) (g := (mkF m 11 #[.val (.int p1), .val (.int p2), .val (.int p3), .val (.int p4), .val (.int p5), .val (.int (2 : Int32)), .unset, .unset, .unset, .unset] [(.int (2 : Int32)), (.int p3), (.int p2), (.int p1)])) rfl (by rw [hml]; rfl) (argsL := [(.int p1), (.int p2), (.int p3), (.int (2 : Int32))]) (rest := []) (lenOf pd__IIII__C rfl) rfl (by show 2 * 0 + _ ≤ _; exact Nat.le_of_eq rfl) (hb hby at_11) (fun _ _ => ⟨rfl, e0, (by decide : 0 + 1 ≤ _), (by decide : 0 + 2 ≤ _)⟩)
    dsimp only [Pt.U, Pt.locs, Pt.cells, Pt.slots] at X3 lp3 yp3 zp3 st3 hQ3
    subst lp3 yp3 zp3
    obtain ⟨r, kc, rfl, Nq3, Kq3, g3, av3⟩ := hQ3
    have N3 := Fr.app N0 Nq3
    obtain ⟨h3, e3⟩ : ∃ z, T3.heap = z := ⟨_, rfl⟩
    rw [e3] at Kq3 av3
    have z3 : h0.size ≤ h3.size := Kq3.1
    have K3 := (Keep.refl h0 []).trans Kq3 all0
    have H3 : CHv Z consts_1 s.vm h3 := CHv.keep Kq3 sf0 H0
    have C3 := CHr.trans C0 (CHr.keep Kq3 sf0 H0)
    have c4 : SS p e below B0 T3 m 14 #[.val (.int p1), .val (.int p2), .val (.int p3), .val (.int p4), .val (.int p5), .val (.int (2 : Int32)), .unset, .unset, .unset, .unset] [(.ref r)] := Steps.trans c2 (st3 _ (Steps.refl _))
    have lt_r : (@LT.lt Nat _ r h3.size) := av3.lt
    have c5 : SS p e below B0 T3 m 16 #[.val (.int p1), .val (.int p2), .val (.int p3), .val (.int p4), .val (.int p5), .val (.int (2 : Int32)), .val (.ref r), .unset, .unset, .unset] [] := Steps.trans c4 (by
        refine XS.astore X3.here hx rfl (hb hby at_14) rfl rfl (l' := #[.val (.int p1), .val (.int p2), .val (.int p3), .val (.int p4), .val (.int p5), .val (.int (2 : Int32)), .val (.ref r), .unset, .unset, .unset]) rfl ?_
        exact Steps.refl _)
    obtain ⟨T6, h6, X6, e6, E6, A6, D6, -, st6⟩ := newO X3 hx hZ hown (W hw 6) (W hw 7) (W hw 8) e3 (g := (mkF m 16 #[.val (.int p1), .val (.int p2), .val (.int p3), .val (.int p4), .val (.int p5), .val (.int (2 : Int32)), .val (.ref r), .unset, .unset, .unset] [])) rfl (hb hby at_16) (by decide) (by decide)
    obtain ⟨s1, g6⟩ : ∃ z, z = h3.size := ⟨_, rfl⟩
    rw [← g6] at A6 D6 st6
    have z6 : h3.size ≤ h6.size := E6.1
    have l6 : (@LT.lt Nat _ s1 h6.size) := A6.lt
    have H6 : CHv Z consts_1 s.vm h6 := CHv.ext E6 H3
    have C6 := CHr.trans C3 (CHr.ext E6 H3)
    have K6 := K3.ext E6
    have c7 : SS p e below B0 T6 m 19 #[.val (.int p1), .val (.int p2), .val (.int p3), .val (.int p4), .val (.int p5), .val (.int (2 : Int32)), .val (.ref r), .unset, .unset, .unset] [(.ref s1)] := Steps.trans c5 (st6 _ (Steps.refl _))
    have c8 : SS p e below B0 T6 m 22 #[.val (.int p1), .val (.int p2), .val (.int p3), .val (.int p4), .val (.int p5), .val (.int (2 : Int32)), .val (.ref r), .unset, .unset, .unset] [(.ref r), (.ref s1), (.ref s1)] := Steps.trans c7 (by
        refine XS.dup X6.here hx rfl (hb hby at_19) rfl rfl ?_
        refine XS.aload X6.here hx rfl (hb hby at_20) rfl rfl ?_
        exact Steps.refl _)
    have hc0 := own_char ((p1 &&& (65535 : Int32)).toUInt32.toUInt16.toUInt32.toInt32)
    have hc1 := own_char ((p2 &&& (65535 : Int32)).toUInt32.toUInt16.toUInt32.toInt32)
    have Arv9 : Arv Z h6 r kc .char (2 : Int32) [(.int (nar .char ((p1 &&& (65535 : Int32)).toUInt32.toUInt16.toUInt32.toInt32))), (.int (nar .char ((p2 &&& (65535 : Int32)).toUInt32.toUInt16.toUInt32.toInt32)))] (.int (0 : Int32)) := (av3.ext E6)
    have Old10 : Old Z n0 h6 := ((X00.keep Kq3 all0).ext E6)
    obtain ⟨_, _, ⟨T11, Lp11, kp11, np11⟩, -, X11, ⟨Lc11, hQ11, lp11, yp11, zp11⟩, st11⟩ := X6.specialBack hx (y := (⟨"java/lang/String", "<init>", "([C)V"⟩ : MethodName)) rfl hown (mvT hZ (W hw 9)) (mvT hZ (W hw 10)) (mvT hZ (W hw 11)) (by decide) (backOf (W := 1) (rmS1_2 l Z a0 hw [] s1 r kc (nar .char ((p1 &&& (65535 : Int32)).toUInt32.toUInt16.toUInt32.toInt32)) (nar .char ((p2 &&& (65535 : Int32)).toUInt32.toUInt16.toUInt32.toInt32)) _ _ G1 h6 n0 (by omega) A6 (D6 (O := "java/lang/String") (nm := "value") (d := "[B") (Or.inr (W hw 21)) (ty := (.array .byte)) (by decide)) (D6 (O := "java/lang/String") (nm := "coder") (d := "B") (Or.inr (W hw 22)) (ty := .byte) (by decide)) O2 P5 O7 O8 O9 Old10 Arv9 hc0 hc1 (by omega)) hZ (W hw 11) (W hw 8) (by decide) (by decide)) (g := (mkF m 22 #[.val (.int p1), .val (.int p2), .val (.int p3), .val (.int p4), .val (.int p5), .val (.int (2 : Int32)), .val (.ref r), .unset, .unset, .unset] [(.ref r), (.ref s1), (.ref s1)])) rfl (by rw [hml]; rfl) c8 (a := s1) (argsL := [(.ref r)]) (rest := [(.ref s1)]) (lenOf pd___C_V rfl) rfl (by show 2 * 0 + _ ≤ _; exact Nat.le_of_eq rfl) (hb hby at_22) (fun _ _ => ⟨rfl, e6, (by decide : 2 + 2 ≤ _), (by decide : 6 + 6 ≤ _)⟩)
    dsimp only [Pt.U, Pt.locs, Pt.cells, Pt.slots] at X11 lp11 yp11 zp11 st11 hQ11
    subst lp11 yp11 zp11
    obtain ⟨rfl, Nq11, Kq11, t1, k1, cd, N_, vs, g11, fc11, fv11, av11, spl⟩ := hQ11
    have N11 := Fr.app N3 Nq11
    obtain ⟨h11, e11⟩ : ∃ z, T11.heap = z := ⟨_, rfl⟩
    rw [e11] at Kq11 fc11 fv11 av11
    have z11 : h6.size ≤ h11.size := Kq11.1
    have K11 := K6.trans Kq11 (allS (Or.inr (by omega)) all0)
    have H11 : CHv Z consts_1 s.vm h11 := CHv.keep Kq11 (sfS (Safe.ext E6 H3 (Safe.new (Nat.le_of_eq g6.symm))) sf0) H6
    have C11 := CHr.trans C6 (CHr.keep Kq11 (sfS (Safe.ext E6 H3 (Safe.new (Nat.le_of_eq g6.symm))) sf0) H6)
    have c12 : SS p e below B0 T11 m 25 #[.val (.int p1), .val (.int p2), .val (.int p3), .val (.int p4), .val (.int p5), .val (.int (2 : Int32)), .val (.ref r), .unset, .unset, .unset] [(.ref s1)] := st11
    have lt_t1 : (@LT.lt Nat _ t1 h11.size) := av11.lt
    have c13 : SS p e below B0 T11 m 33 #[.val (.int p1), .val (.int p2), .val (.int p3), .val (.int p4), .val (.int p5), .val (.int (2 : Int32)), .val (.ref r), .val (.ref s1), .unset, .unset] [(.int ((p4 &&& (255 : Int32)).toUInt32.toUInt16.toUInt32.toInt32))] := Steps.trans c12 (by
        refine XS.astore X11.here hx rfl (hb hby at_25) rfl rfl (l' := #[.val (.int p1), .val (.int p2), .val (.int p3), .val (.int p4), .val (.int p5), .val (.int (2 : Int32)), .val (.ref r), .val (.ref s1), .unset, .unset]) rfl ?_
        refine XS.iloadN X11.here hx rfl (hb hby at_27) rfl ?_
        refine XT.sipushV X11.here hx rfl (255 : Int32) (hb hby at_28) (by decide) ?_
        refine XS.iand X11.here hx rfl (hb hby at_31) rfl ?_
        refine XS.i2c X11.here hx rfl (hb hby at_32) rfl ?_
        exact Steps.refl _)
    have Old14 : Old Z n0 h11 := (Old10.keep Kq11 (allS (by omega) all0))
    obtain ⟨_, _, ⟨T15, Lp15, kp15, np15⟩, -, X15, ⟨Lc15, hQ15, lp15, yp15, zp15⟩, st15⟩ := Jvm.LawKit.callS X11 hx (y := (⟨"java/lang/String", "valueOf", "(C)Ljava/lang/String;"⟩ : MethodName)) hown (mvT hZ (W hw 27)) (mvT hZ (W hw 28)) (mvT hZ (W hw 8)) (mvT hZ (W hw 29)) (by decide) (backOf (W := 0) (rmVo l Z a0 hw [] ((p4 &&& (255 : Int32)).toUInt32.toUInt16.toUInt32.toInt32) G1 h11 n0 (by omega) (and255_i2c p4) O2 P5 Old14) hZ (W hw 29) (W hw 8) (by decide) (by decide)) (g := (mkF m 33 #[.val (.int p1), .val (.int p2), .val (.int p3), .val (.int p4), .val (.int p5), .val (.int (2 : Int32)), .val (.ref r), .val (.ref s1), .unset, .unset] [(.int ((p4 &&& (255 : Int32)).toUInt32.toUInt16.toUInt32.toInt32))])) rfl (by rw [hml]; rfl) (argsL := [(.int ((p4 &&& (255 : Int32)).toUInt32.toUInt16.toUInt32.toInt32))]) (rest := []) (lenOf pd__C_Ljava_lang_String_ rfl) rfl (by show 2 * 0 + _ ≤ _; exact Nat.le_of_eq rfl) (hb hby at_33) (fun _ _ => ⟨rfl, e11, (by decide : 4 + 2 ≤ _), (by decide : 12 + 5 ≤ _)⟩)
    dsimp only [Pt.U, Pt.locs, Pt.cells, Pt.slots] at X15 lp15 yp15 zp15 st15 hQ15
    subst lp15 yp15 zp15
    obtain ⟨w1, tw15, kw15, rfl, Nq15, Kq15, -, -, -, -, -, -⟩ := hQ15
    have N15 := Fr.app N11 Nq15
    obtain ⟨h15, e15⟩ : ∃ z, T15.heap = z := ⟨_, rfl⟩
    rw [e15] at Kq15
    have z15 : h11.size ≤ h15.size := Kq15.1
    have K15 := K11.trans Kq15 all0
    have H15 : CHv Z consts_1 s.vm h15 := CHv.keep Kq15 sf0 H11
    have C15 := CHr.trans C11 (CHr.keep Kq15 sf0 H11)
    have c16 : SS p e below B0 T15 m 36 #[.val (.int p1), .val (.int p2), .val (.int p3), .val (.int p4), .val (.int p5), .val (.int (2 : Int32)), .val (.ref r), .val (.ref s1), .unset, .unset] [(.ref w1)] := Steps.trans c13 (st15 _ (Steps.refl _))
    have c17 : SS p e below B0 T15 m 42 #[.val (.int p1), .val (.int p2), .val (.int p3), .val (.int p4), .val (.int p5), .val (.int (2 : Int32)), .val (.ref r), .val (.ref s1), .val (.ref w1), .unset] [(.ref w1), (.ref s1)] := Steps.trans c16 (by
        refine XS.astore X15.here hx rfl (hb hby at_36) rfl rfl (l' := #[.val (.int p1), .val (.int p2), .val (.int p3), .val (.int p4), .val (.int p5), .val (.int (2 : Int32)), .val (.ref r), .val (.ref s1), .val (.ref w1), .unset]) rfl ?_
        refine XS.aload X15.here hx rfl (hb hby at_38) rfl rfl ?_
        refine XS.aload X15.here hx rfl (hb hby at_40) rfl rfl ?_
        exact Steps.refl _)
    have Exa18 : Exa Z h15 s1 "java/lang/String" := ((A6.keep Kq11).keep Kq15)
    obtain ⟨_, _, ⟨T19, Lp19, kp19, np19⟩, -, X19, ⟨Lc19, hQ19, lp19, yp19, zp19⟩, st19⟩ := Jvm.LawKit.callS X15 hx (y := (⟨"com/example/stowfit/stowfit/Json", "string", "(Ljava/lang/Object;Ljava/lang/String;)Ljava/lang/String;"⟩ : MethodName)) hown (mvT hZ (W hw 42)) (mvT hZ (W hw 43)) (mvT hZ (W hw 44)) (mvT hZ (W hw 45)) (by decide) (backOf (W := 0) (rmJ l Z a0 hw [] s1 w1 h15 n0 (by omega) Exa18) hZ (W hw 45) (W hw 44) (by decide) (by decide)) (g := (mkF m 42 #[.val (.int p1), .val (.int p2), .val (.int p3), .val (.int p4), .val (.int p5), .val (.int (2 : Int32)), .val (.ref r), .val (.ref s1), .val (.ref w1), .unset] [(.ref w1), (.ref s1)])) rfl (by rw [hml]; rfl) (argsL := [(.ref s1), (.ref w1)]) (rest := []) (lenOf pd__Ljava_lang_Object_Ljava_lang_String__Ljava_lang_String_ rfl) rfl (by show 2 * 0 + _ ≤ _; exact Nat.le_of_eq rfl) (hb hby at_42) (fun _ _ => ⟨rfl, e15, (by decide : 6 + 0 ≤ _), (by decide : 17 + 0 ≤ _)⟩)
    dsimp only [Pt.U, Pt.locs, Pt.cells, Pt.slots] at X19 lp19 yp19 zp19 st19 hQ19
    subst lp19 yp19 zp19
    obtain ⟨rfl, Nq19, eq19⟩ := hQ19
    have N19 := Fr.app N15 Nq19
    have c20 : SS p e below B0 T19 m 45 #[.val (.int p1), .val (.int p2), .val (.int p3), .val (.int p4), .val (.int p5), .val (.int (2 : Int32)), .val (.ref r), .val (.ref s1), .val (.ref w1), .unset] [(.ref s1)] := Steps.trans c17 (st19 _ (Steps.refl _))
    have c21 : SS p e below B0 T19 m 58 #[.val (.int p1), .val (.int p2), .val (.int p3), .val (.int p4), .val (.int p5), .val (.int (2 : Int32)), .val (.ref r), .val (.ref s1), .val (.ref w1), .val (.ref s1)] [(.ref s1)] := Steps.trans c20 (by
        refine XS.astore X19.here hx rfl (hb hby at_45) rfl rfl (l' := #[.val (.int p1), .val (.int p2), .val (.int p3), .val (.int p4), .val (.int p5), .val (.int (2 : Int32)), .val (.ref r), .val (.ref s1), .val (.ref w1), .val (.ref s1)]) rfl ?_
        refine XS.aload X19.here hx rfl (hb hby at_47) rfl rfl ?_
        refine XS.aload X19.here hx rfl (hb hby at_49) rfl rfl ?_
        refine XS.acmpYes X19.here hx rfl (pc0 := 51) (pc' := 56) rfl (hb hby at_51) rfl (by simp [if_acmp.holds]) (by decide) (by decide) ?_
        refine XS.aload X19.here hx rfl (hb hby at_56) rfl rfl ?_
        exact Steps.refl _)
    have Fld22 : Fld Z h15 s1 "java/lang/String" "value" "[B" (.ref t1) := (fv11.keep Kq15 nin0)
    have Fld23 : Fld Z h15 s1 "java/lang/String" "coder" "B" (.int cd) := (fc11.keep Kq15 nin0)
    have Arv24 : Arv Z h15 t1 k1 .byte N_ vs (.int (0 : Int32)) := (av11.keep Kq15 nin0)
    have Old25 : Old Z n0 h15 := (Old14.keep Kq15 all0)
    obtain ⟨cq26, kq26, qa26, qb26, qc26⟩ := isOf hZ eq19 Exa18
    obtain ⟨_, _, ⟨T26, Lp26, kp26, np26⟩, -, X26, ⟨Lc26, hQ26, lp26, yp26, zp26⟩, st26⟩ := X19.virtualBack hx (y := (⟨"java/lang/String", "length", "()I"⟩ : MethodName)) (z := (⟨"java/lang/String", "length", "()I"⟩ : MethodName)) hown (mvT hZ (W hw 47)) (mvT hZ (W hw 48)) (notFace_of_selects (args := #[]) (mvT hZ (W hw 50))) (mvT hZ (W hw 50)) (mvT hZ (W hw 49)) (by decide) (backOf (W := 0) (rmLen2 l Z a0 hw [] s1 t1 k1 (nar .char ((p1 &&& (65535 : Int32)).toUInt32.toUInt16.toUInt32.toInt32)) (nar .char ((p2 &&& (65535 : Int32)).toUInt32.toUInt16.toUInt32.toInt32)) cd N_ vs G1 h15 n0 (by omega) Exa18 Fld22 Fld23 Arv24 spl O2 P5 Old25) hZ (W hw 51) (W hw 8) (by decide) (by decide)) qa26 qc26 (g := (mkF m 58 #[.val (.int p1), .val (.int p2), .val (.int p3), .val (.int p4), .val (.int p5), .val (.int (2 : Int32)), .val (.ref r), .val (.ref s1), .val (.ref w1), .val (.ref s1)] [(.ref s1)])) rfl (by rw [hml]; rfl) c21 (argsL := []) (rest := []) (lenOf pd___I rfl) rfl (by show 2 * 0 + _ ≤ _; exact Nat.le_of_eq rfl) (hb hby at_58) (fun _ _ => ⟨rfl, eq19, (by decide : 6 + 0 ≤ _), (by decide : 17 + 0 ≤ _)⟩)
    dsimp only [Pt.U, Pt.locs, Pt.cells, Pt.slots] at X26 lp26 yp26 zp26 st26 hQ26
    subst lp26 yp26 zp26
    obtain ⟨rfl, Nq26, eq26⟩ := hQ26
    have N26 := Fr.app N19 Nq26
    have c27 : SS p e below B0 T26 m 61 #[.val (.int p1), .val (.int p2), .val (.int p3), .val (.int p4), .val (.int p5), .val (.int (2 : Int32)), .val (.ref r), .val (.ref s1), .val (.ref w1), .val (.ref s1)] [(.int (2 : Int32))] := st26
    have c28 : SS p e below B0 T26 m 77 #[.val (.int p1), .val (.int p2), .val (.int p3), .val (.int p4), .val (.int p5), .val (.int (2 : Int32)), .val (.ref r), .val (.ref s1), .val (.ref w1), .val (.ref s1)] [(.int (0 : Int32)), (.ref s1)] := Steps.trans c27 (by
        refine XS.iload X26.here hx rfl (hb hby at_61) rfl ?_
        refine XS.icmpYes X26.here hx rfl (pc0 := 63) (pc' := 68) rfl (hb hby at_63) rfl (teq (by decide : (2 : Int32) = (2 : Int32))).1 (by decide) (by decide) ?_
        refine XS.iload X26.here hx rfl (hb hby at_68) rfl ?_
        refine XT.iconstV X26.here hx rfl (1 : Int32) (hb hby at_70) (by decide) ?_
        refine XS.icmpNo X26.here hx rfl (hb hby at_71) rfl (flt (by decide : ¬ (2 : Int32) < (1 : Int32))).1 ?_
        refine XS.aload X26.here hx rfl (hb hby at_74) rfl rfl ?_
        refine XT.iconstV X26.here hx rfl (0 : Int32) (hb hby at_76) (by decide) ?_
        exact Steps.refl _)
    obtain ⟨cq29, kq29, qa29, qb29, qc29⟩ := isOf hZ eq26 Exa18
    obtain ⟨_, _, ⟨T29, Lp29, kp29, np29⟩, -, X29, ⟨Lc29, hQ29, lp29, yp29, zp29⟩, st29⟩ := X26.virtualBack hx (y := (⟨"java/lang/String", "charAt", "(I)C"⟩ : MethodName)) (z := (⟨"java/lang/String", "charAt", "(I)C"⟩ : MethodName)) hown (mvT hZ (W hw 72)) (mvT hZ (W hw 73)) (notFace_of_selects (args := #[]) (mvT hZ (W hw 75))) (mvT hZ (W hw 75)) (mvT hZ (W hw 74)) (by decide) (backOf (W := 0) (rmChA2_0 l Z a0 hw [] s1 t1 k1 (nar .char ((p1 &&& (65535 : Int32)).toUInt32.toUInt16.toUInt32.toInt32)) (nar .char ((p2 &&& (65535 : Int32)).toUInt32.toUInt16.toUInt32.toInt32)) cd N_ vs G1 G3 h15 n0 (by omega) Exa18 Fld22 Fld23 Arv24 spl O2 P5 O4 rG3 O7 O8 O9 Old25 hc0) hZ (W hw 76) (W hw 8) (by decide) (by decide)) qa29 qc29 (g := (mkF m 77 #[.val (.int p1), .val (.int p2), .val (.int p3), .val (.int p4), .val (.int p5), .val (.int (2 : Int32)), .val (.ref r), .val (.ref s1), .val (.ref w1), .val (.ref s1)] [(.int (0 : Int32)), (.ref s1)])) rfl (by rw [hml]; rfl) c28 (argsL := [(.int (0 : Int32))]) (rest := []) (lenOf pd__I_C rfl) rfl (by show 2 * 0 + _ ≤ _; exact Nat.le_of_eq rfl) (hb hby at_77) (fun _ _ => ⟨rfl, eq26, (by decide : 6 + 0 ≤ _), (by decide : 17 + 0 ≤ _)⟩)
    dsimp only [Pt.U, Pt.locs, Pt.cells, Pt.slots] at X29 lp29 yp29 zp29 st29 hQ29
    subst lp29 yp29 zp29
    obtain ⟨rfl, Nq29, eq29⟩ := hQ29
    have N29 := Fr.app N26 Nq29
    have c30 : SS p e below B0 T29 m 80 #[.val (.int p1), .val (.int p2), .val (.int p3), .val (.int p4), .val (.int p5), .val (.int (2 : Int32)), .val (.ref r), .val (.ref s1), .val (.ref w1), .val (.ref s1)] [(.int (nar .char ((p1 &&& (65535 : Int32)).toUInt32.toUInt16.toUInt32.toInt32)))] := st29
    have c31 : SS p e below B0 T29 m 83 #[.val (.int p1), .val (.int p2), .val (.int p3), .val (.int p4), .val (.int p5), .val (.int (2 : Int32)), .val (.ref r), .val (.ref s1), .val (.ref w1), .val (.ref s1)] [(.int (0 : Int32)), (.ref r), (.int (nar .char ((p1 &&& (65535 : Int32)).toUInt32.toUInt16.toUInt32.toInt32)))] := Steps.trans c30 (by
        refine XS.aload X29.here hx rfl (hb hby at_80) rfl rfl ?_
        refine XT.iconstV X29.here hx rfl (0 : Int32) (hb hby at_82) (by decide) ?_
        exact Steps.refl _)
    have Arv33 : Arv Z h15 r kc .char (2 : Int32) [(.int (nar .char ((p1 &&& (65535 : Int32)).toUInt32.toUInt16.toUInt32.toInt32))), (.int (nar .char ((p2 &&& (65535 : Int32)).toUInt32.toUInt16.toUInt32.toInt32)))] (.int (0 : Int32)) := ((Arv9.keep Kq11 (ninS (own_ne (by omega)) nin0)).keep Kq15 nin0)
    obtain ⟨cl32, Ar32, q32, Sz32, M32, Hs32, U32⟩ := id Arv33
    have in32 := inb_of (j := (0 : Int32)) Sz32 ⟨(by decide), (by decide)⟩
    have c34 : SS p e below B0 T29 m 84 #[.val (.int p1), .val (.int p2), .val (.int p3), .val (.int p4), .val (.int p5), .val (.int (2 : Int32)), .val (.ref r), .val (.ref s1), .val (.ref w1), .val (.ref s1)] [(.int (nar .char ((p1 &&& (65535 : Int32)).toUInt32.toUInt16.toUInt32.toInt32))), (.int (nar .char ((p1 &&& (65535 : Int32)).toUInt32.toUInt16.toUInt32.toInt32)))] := Steps.trans c31 (by
        refine X29.caload hx (j := (0 : Int32)) (v := (.int (nar .char ((p1 &&& (65535 : Int32)).toUInt32.toUInt16.toUInt32.toInt32)))) (by rw [eq29]; exact Ar32.1) (State.isArrayOf_alike hZ.alike Ar32.2.1) Ar32.2.2 in32 (Hs32.at in32 rfl) (g := (mkF m 83 #[.val (.int p1), .val (.int p2), .val (.int p3), .val (.int p4), .val (.int p5), .val (.int (2 : Int32)), .val (.ref r), .val (.ref s1), .val (.ref w1), .val (.ref s1)] [(.int (0 : Int32)), (.ref r), (.int (nar .char ((p1 &&& (65535 : Int32)).toUInt32.toUInt16.toUInt32.toInt32)))])) rfl rfl (hb hby at_83) _ ?_
        exact Steps.refl _)
    have c35 : SS p e below B0 T29 m 98 #[.val (.int p1), .val (.int p2), .val (.int p3), .val (.int p4), .val (.int p5), .val (.int (2 : Int32)), .val (.ref r), .val (.ref s1), .val (.ref w1), .val (.ref s1)] [(.int (1 : Int32)), (.ref s1)] := Steps.trans c34 (by
        refine XS.icmpYes X29.here hx rfl (pc0 := 84) (pc' := 89) rfl (hb hby at_84) rfl (teq rfl).1 (by decide) (by decide) ?_
        refine XS.iload X29.here hx rfl (hb hby at_89) rfl ?_
        refine XT.iconstV X29.here hx rfl (2 : Int32) (hb hby at_91) (by decide) ?_
        refine XS.icmpNo X29.here hx rfl (hb hby at_92) rfl (flt (by decide : ¬ (2 : Int32) < (2 : Int32))).1 ?_
        refine XS.aload X29.here hx rfl (hb hby at_95) rfl rfl ?_
        refine XT.iconstV X29.here hx rfl (1 : Int32) (hb hby at_97) (by decide) ?_
        exact Steps.refl _)
    obtain ⟨cq36, kq36, qa36, qb36, qc36⟩ := isOf hZ eq29 Exa18
    obtain ⟨_, _, ⟨T36, Lp36, kp36, np36⟩, -, X36, ⟨Lc36, hQ36, lp36, yp36, zp36⟩, st36⟩ := X29.virtualBack hx (y := (⟨"java/lang/String", "charAt", "(I)C"⟩ : MethodName)) (z := (⟨"java/lang/String", "charAt", "(I)C"⟩ : MethodName)) hown (mvT hZ (W hw 72)) (mvT hZ (W hw 73)) (notFace_of_selects (args := #[]) (mvT hZ (W hw 75))) (mvT hZ (W hw 75)) (mvT hZ (W hw 74)) (by decide) (backOf (W := 0) (rmChA2_1 l Z a0 hw [] s1 t1 k1 (nar .char ((p1 &&& (65535 : Int32)).toUInt32.toUInt16.toUInt32.toInt32)) (nar .char ((p2 &&& (65535 : Int32)).toUInt32.toUInt16.toUInt32.toInt32)) cd N_ vs G1 G3 h15 n0 (by omega) Exa18 Fld22 Fld23 Arv24 spl O2 P5 O4 rG3 O7 O8 O9 Old25 hc1) hZ (W hw 76) (W hw 8) (by decide) (by decide)) qa36 qc36 (g := (mkF m 98 #[.val (.int p1), .val (.int p2), .val (.int p3), .val (.int p4), .val (.int p5), .val (.int (2 : Int32)), .val (.ref r), .val (.ref s1), .val (.ref w1), .val (.ref s1)] [(.int (1 : Int32)), (.ref s1)])) rfl (by rw [hml]; rfl) c35 (argsL := [(.int (1 : Int32))]) (rest := []) (lenOf pd__I_C rfl) rfl (by show 2 * 0 + _ ≤ _; exact Nat.le_of_eq rfl) (hb hby at_98) (fun _ _ => ⟨rfl, eq29, (by decide : 6 + 0 ≤ _), (by decide : 17 + 0 ≤ _)⟩)
    dsimp only [Pt.U, Pt.locs, Pt.cells, Pt.slots] at X36 lp36 yp36 zp36 st36 hQ36
    subst lp36 yp36 zp36
    obtain ⟨rfl, Nq36, eq36⟩ := hQ36
    have N36 := Fr.app N29 Nq36
    have c37 : SS p e below B0 T36 m 101 #[.val (.int p1), .val (.int p2), .val (.int p3), .val (.int p4), .val (.int p5), .val (.int (2 : Int32)), .val (.ref r), .val (.ref s1), .val (.ref w1), .val (.ref s1)] [(.int (nar .char ((p2 &&& (65535 : Int32)).toUInt32.toUInt16.toUInt32.toInt32)))] := st36
    have c38 : SS p e below B0 T36 m 104 #[.val (.int p1), .val (.int p2), .val (.int p3), .val (.int p4), .val (.int p5), .val (.int (2 : Int32)), .val (.ref r), .val (.ref s1), .val (.ref w1), .val (.ref s1)] [(.int (1 : Int32)), (.ref r), (.int (nar .char ((p2 &&& (65535 : Int32)).toUInt32.toUInt16.toUInt32.toInt32)))] := Steps.trans c37 (by
        refine XS.aload X36.here hx rfl (hb hby at_101) rfl rfl ?_
        refine XT.iconstV X36.here hx rfl (1 : Int32) (hb hby at_103) (by decide) ?_
        exact Steps.refl _)
    obtain ⟨cl39, Ar39, q39, Sz39, M39, Hs39, U39⟩ := id Arv33
    have in39 := inb_of (j := (1 : Int32)) Sz39 ⟨(by decide), (by decide)⟩
    have c40 : SS p e below B0 T36 m 105 #[.val (.int p1), .val (.int p2), .val (.int p3), .val (.int p4), .val (.int p5), .val (.int (2 : Int32)), .val (.ref r), .val (.ref s1), .val (.ref w1), .val (.ref s1)] [(.int (nar .char ((p2 &&& (65535 : Int32)).toUInt32.toUInt16.toUInt32.toInt32))), (.int (nar .char ((p2 &&& (65535 : Int32)).toUInt32.toUInt16.toUInt32.toInt32)))] := Steps.trans c38 (by
        refine X36.caload hx (j := (1 : Int32)) (v := (.int (nar .char ((p2 &&& (65535 : Int32)).toUInt32.toUInt16.toUInt32.toInt32)))) (by rw [eq36]; exact Ar39.1) (State.isArrayOf_alike hZ.alike Ar39.2.1) Ar39.2.2 in39 (Hs39.at in39 rfl) (g := (mkF m 104 #[.val (.int p1), .val (.int p2), .val (.int p3), .val (.int p4), .val (.int p5), .val (.int (2 : Int32)), .val (.ref r), .val (.ref s1), .val (.ref w1), .val (.ref s1)] [(.int (1 : Int32)), (.ref r), (.int (nar .char ((p2 &&& (65535 : Int32)).toUInt32.toUInt16.toUInt32.toInt32)))])) rfl rfl (hb hby at_104) _ ?_
        exact Steps.refl _)
    have c41 : SS p e below B0 T36 m 135 #[.val (.int p1), .val (.int p2), .val (.int p3), .val (.int p4), .val (.int p5), .val (.int (2 : Int32)), .val (.ref r), .val (.ref s1), .val (.ref w1), .val (.ref s1)] [(.ref s1), (.ref s1)] := Steps.trans c40 (by
        refine XS.icmpYes X36.here hx rfl (pc0 := 105) (pc' := 110) rfl (hb hby at_105) rfl (teq rfl).1 (by decide) (by decide) ?_
        refine XS.iload X36.here hx rfl (hb hby at_110) rfl ?_
        refine XT.iconstV X36.here hx rfl (3 : Int32) (hb hby at_112) (by decide) ?_
        refine XS.icmpYes X36.here hx rfl (pc0 := 113) (pc' := 131) rfl (hb hby at_113) rfl (tlt (by decide : (2 : Int32) < (3 : Int32))).1 (by decide) (by decide) ?_
        refine XS.aload X36.here hx rfl (hb hby at_131) rfl rfl ?_
        refine XS.aload X36.here hx rfl (hb hby at_133) rfl rfl ?_
        exact Steps.refl _)
    obtain ⟨cq42, kq42, qa42, qb42, qc42⟩ := isOf hZ eq36 Exa18
    obtain ⟨_, _, ⟨T42, Lp42, kp42, np42⟩, -, X42, ⟨Lc42, hQ42, lp42, yp42, zp42⟩, st42⟩ := X36.virtualBack hx (y := (⟨"java/lang/String", "equals", "(Ljava/lang/Object;)Z"⟩ : MethodName)) (z := (⟨"java/lang/String", "equals", "(Ljava/lang/Object;)Z"⟩ : MethodName)) hown (mvT hZ (W hw 57)) (mvT hZ (W hw 58)) (notFace_of_selects (args := #[]) (mvT hZ (W hw 60))) (mvT hZ (W hw 60)) (mvT hZ (W hw 59)) (by decide) (backOf (W := 0) (rmEq l Z a0 hw [] s1 h15 n0 (by omega)) hZ (W hw 61) (W hw 8) (by decide) (by decide)) qa42 qc42 (g := (mkF m 135 #[.val (.int p1), .val (.int p2), .val (.int p3), .val (.int p4), .val (.int p5), .val (.int (2 : Int32)), .val (.ref r), .val (.ref s1), .val (.ref w1), .val (.ref s1)] [(.ref s1), (.ref s1)])) rfl (by rw [hml]; rfl) c41 (argsL := [(.ref s1)]) (rest := []) (lenOf pd__Ljava_lang_Object__Z rfl) rfl (by show 2 * 0 + _ ≤ _; exact Nat.le_of_eq rfl) (hb hby at_135) (fun _ _ => ⟨rfl, eq36, (by decide : 6 + 0 ≤ _), (by decide : 17 + 0 ≤ _)⟩)
    dsimp only [Pt.U, Pt.locs, Pt.cells, Pt.slots] at X42 lp42 yp42 zp42 st42 hQ42
    subst lp42 yp42 zp42
    obtain ⟨rfl, Nq42, eq42⟩ := hQ42
    have N42 := Fr.app N36 Nq42
    have c43 : SS p e below B0 T42 m 138 #[.val (.int p1), .val (.int p2), .val (.int p3), .val (.int p4), .val (.int p5), .val (.int (2 : Int32)), .val (.ref r), .val (.ref s1), .val (.ref w1), .val (.ref s1)] [(.int (1 : Int32))] := st42
    obtain ⟨fs, hr, hrun, hended, hW⟩ := X42.leaveW hS0 (by rw [eq42]; omega) (v := some (.int (1 : Int32))) (fun h => by rw [Bd.returns] at h; cases h)
    have hC : CHr Z consts_1 s.vm s.heap T42.vm T42.heap := by rw [hh, eq42]; exact CHr.trans C15 (CHv.at X42 hZ hEL H15)
    subst hB0
    refine ⟨_, _, Steps.trans c43 ?_, hrun, hended, _, _, rfl, ?_, hC, hW.1, hW.2.1, hW.2.2.1, hW.2.2.2.mono (by decide) (by decide)⟩
    · exact retN X42 hx (t := .boolean) Bd.returns (by simp) (hb hby at_138) hr
    · show QL n0 _ T42.heap _
      rw [eq42]
      exact ⟨rfl, N42⟩
  · rw [hL] at c1
    have c2 : SS p e below B0 s₁ m 11 #[.val (.int p1), .val (.int p2), .val (.int p3), .val (.int p4), .val (.int p5), .val (.int (3 : Int32)), .unset, .unset, .unset, .unset] [(.int (3 : Int32)), (.int p3), (.int p2), (.int p1)] := Steps.trans c1 (by
        refine XS.iloadN X0.here hx rfl (hb hby at_6) rfl ?_
        refine XS.iloadN X0.here hx rfl (hb hby at_7) rfl ?_
        refine XS.iloadN X0.here hx rfl (hb hby at_8) rfl ?_
        refine XS.iload X0.here hx rfl (hb hby at_9) rfl ?_
        exact Steps.refl _)
    obtain ⟨_, _, ⟨T3, Lp3, kp3, np3⟩, -, X3, ⟨Lc3, hQ3, lp3, yp3, zp3⟩, st3⟩ := Jvm.LawKit.callS X0 hx (y := (⟨"com/example/stowfit/stowfit/JsonStringPinLaw", "draw", "(IIII)[C"⟩ : MethodName)) hown (mvT hZ (W hw 0)) (mvT hZ (W hw 1)) (mvT hZ (W hw 2)) (mvT hZ (W hw 3)) (by decide) (backOf (W := 0) (rmDr3 l Z a0 hw [] p1 p2 p3 h0 n0 (by omega)) hZ (W hw 3) (W hw 2) (by decide) (by decide)) (g := (mkF m 11 #[.val (.int p1), .val (.int p2), .val (.int p3), .val (.int p4), .val (.int p5), .val (.int (3 : Int32)), .unset, .unset, .unset, .unset] [(.int (3 : Int32)), (.int p3), (.int p2), (.int p1)])) rfl (by rw [hml]; rfl) (argsL := [(.int p1), (.int p2), (.int p3), (.int (3 : Int32))]) (rest := []) (lenOf pd__IIII__C rfl) rfl (by show 2 * 0 + _ ≤ _; exact Nat.le_of_eq rfl) (hb hby at_11) (fun _ _ => ⟨rfl, e0, (by decide : 0 + 1 ≤ _), (by decide : 0 + 3 ≤ _)⟩)
    dsimp only [Pt.U, Pt.locs, Pt.cells, Pt.slots] at X3 lp3 yp3 zp3 st3 hQ3
    subst lp3 yp3 zp3
    obtain ⟨r, kc, rfl, Nq3, Kq3, g3, av3⟩ := hQ3
    have N3 := Fr.app N0 Nq3
    obtain ⟨h3, e3⟩ : ∃ z, T3.heap = z := ⟨_, rfl⟩
    rw [e3] at Kq3 av3
    have z3 : h0.size ≤ h3.size := Kq3.1
    have K3 := (Keep.refl h0 []).trans Kq3 all0
    have H3 : CHv Z consts_1 s.vm h3 := CHv.keep Kq3 sf0 H0
    have C3 := CHr.trans C0 (CHr.keep Kq3 sf0 H0)
    have c4 : SS p e below B0 T3 m 14 #[.val (.int p1), .val (.int p2), .val (.int p3), .val (.int p4), .val (.int p5), .val (.int (3 : Int32)), .unset, .unset, .unset, .unset] [(.ref r)] := Steps.trans c2 (st3 _ (Steps.refl _))
    have lt_r : (@LT.lt Nat _ r h3.size) := av3.lt
    have c5 : SS p e below B0 T3 m 16 #[.val (.int p1), .val (.int p2), .val (.int p3), .val (.int p4), .val (.int p5), .val (.int (3 : Int32)), .val (.ref r), .unset, .unset, .unset] [] := Steps.trans c4 (by
        refine XS.astore X3.here hx rfl (hb hby at_14) rfl rfl (l' := #[.val (.int p1), .val (.int p2), .val (.int p3), .val (.int p4), .val (.int p5), .val (.int (3 : Int32)), .val (.ref r), .unset, .unset, .unset]) rfl ?_
        exact Steps.refl _)
    obtain ⟨T6, h6, X6, e6, E6, A6, D6, -, st6⟩ := newO X3 hx hZ hown (W hw 6) (W hw 7) (W hw 8) e3 (g := (mkF m 16 #[.val (.int p1), .val (.int p2), .val (.int p3), .val (.int p4), .val (.int p5), .val (.int (3 : Int32)), .val (.ref r), .unset, .unset, .unset] [])) rfl (hb hby at_16) (by decide) (by decide)
    obtain ⟨s1, g6⟩ : ∃ z, z = h3.size := ⟨_, rfl⟩
    rw [← g6] at A6 D6 st6
    have z6 : h3.size ≤ h6.size := E6.1
    have l6 : (@LT.lt Nat _ s1 h6.size) := A6.lt
    have H6 : CHv Z consts_1 s.vm h6 := CHv.ext E6 H3
    have C6 := CHr.trans C3 (CHr.ext E6 H3)
    have K6 := K3.ext E6
    have c7 : SS p e below B0 T6 m 19 #[.val (.int p1), .val (.int p2), .val (.int p3), .val (.int p4), .val (.int p5), .val (.int (3 : Int32)), .val (.ref r), .unset, .unset, .unset] [(.ref s1)] := Steps.trans c5 (st6 _ (Steps.refl _))
    have c8 : SS p e below B0 T6 m 22 #[.val (.int p1), .val (.int p2), .val (.int p3), .val (.int p4), .val (.int p5), .val (.int (3 : Int32)), .val (.ref r), .unset, .unset, .unset] [(.ref r), (.ref s1), (.ref s1)] := Steps.trans c7 (by
        refine XS.dup X6.here hx rfl (hb hby at_19) rfl rfl ?_
        refine XS.aload X6.here hx rfl (hb hby at_20) rfl rfl ?_
        exact Steps.refl _)
    have hc0 := own_char ((p1 &&& (65535 : Int32)).toUInt32.toUInt16.toUInt32.toInt32)
    have hc1 := own_char ((p2 &&& (65535 : Int32)).toUInt32.toUInt16.toUInt32.toInt32)
    have hc2 := own_char ((p3 &&& (65535 : Int32)).toUInt32.toUInt16.toUInt32.toInt32)
    have Arv9 : Arv Z h6 r kc .char (3 : Int32) [(.int (nar .char ((p1 &&& (65535 : Int32)).toUInt32.toUInt16.toUInt32.toInt32))), (.int (nar .char ((p2 &&& (65535 : Int32)).toUInt32.toUInt16.toUInt32.toInt32))), (.int (nar .char ((p3 &&& (65535 : Int32)).toUInt32.toUInt16.toUInt32.toInt32)))] (.int (0 : Int32)) := (av3.ext E6)
    have Old10 : Old Z n0 h6 := ((X00.keep Kq3 all0).ext E6)
    obtain ⟨_, _, ⟨T11, Lp11, kp11, np11⟩, -, X11, ⟨Lc11, hQ11, lp11, yp11, zp11⟩, st11⟩ := X6.specialBack hx (y := (⟨"java/lang/String", "<init>", "([C)V"⟩ : MethodName)) rfl hown (mvT hZ (W hw 9)) (mvT hZ (W hw 10)) (mvT hZ (W hw 11)) (by decide) (backOf (W := 1) (rmS1_3 l Z a0 hw [] s1 r kc (nar .char ((p1 &&& (65535 : Int32)).toUInt32.toUInt16.toUInt32.toInt32)) (nar .char ((p2 &&& (65535 : Int32)).toUInt32.toUInt16.toUInt32.toInt32)) (nar .char ((p3 &&& (65535 : Int32)).toUInt32.toUInt16.toUInt32.toInt32)) _ _ G1 h6 n0 (by omega) A6 (D6 (O := "java/lang/String") (nm := "value") (d := "[B") (Or.inr (W hw 21)) (ty := (.array .byte)) (by decide)) (D6 (O := "java/lang/String") (nm := "coder") (d := "B") (Or.inr (W hw 22)) (ty := .byte) (by decide)) O2 P5 O7 O8 O9 Old10 Arv9 hc0 hc1 hc2 (by omega)) hZ (W hw 11) (W hw 8) (by decide) (by decide)) (g := (mkF m 22 #[.val (.int p1), .val (.int p2), .val (.int p3), .val (.int p4), .val (.int p5), .val (.int (3 : Int32)), .val (.ref r), .unset, .unset, .unset] [(.ref r), (.ref s1), (.ref s1)])) rfl (by rw [hml]; rfl) c8 (a := s1) (argsL := [(.ref r)]) (rest := [(.ref s1)]) (lenOf pd___C_V rfl) rfl (by show 2 * 0 + _ ≤ _; exact Nat.le_of_eq rfl) (hb hby at_22) (fun _ _ => ⟨rfl, e6, (by decide : 2 + 2 ≤ _), (by decide : 7 + 9 ≤ _)⟩)
    dsimp only [Pt.U, Pt.locs, Pt.cells, Pt.slots] at X11 lp11 yp11 zp11 st11 hQ11
    subst lp11 yp11 zp11
    obtain ⟨rfl, Nq11, Kq11, t1, k1, cd, N_, vs, g11, fc11, fv11, av11, spl⟩ := hQ11
    have N11 := Fr.app N3 Nq11
    obtain ⟨h11, e11⟩ : ∃ z, T11.heap = z := ⟨_, rfl⟩
    rw [e11] at Kq11 fc11 fv11 av11
    have z11 : h6.size ≤ h11.size := Kq11.1
    have K11 := K6.trans Kq11 (allS (Or.inr (by omega)) all0)
    have H11 : CHv Z consts_1 s.vm h11 := CHv.keep Kq11 (sfS (Safe.ext E6 H3 (Safe.new (Nat.le_of_eq g6.symm))) sf0) H6
    have C11 := CHr.trans C6 (CHr.keep Kq11 (sfS (Safe.ext E6 H3 (Safe.new (Nat.le_of_eq g6.symm))) sf0) H6)
    have c12 : SS p e below B0 T11 m 25 #[.val (.int p1), .val (.int p2), .val (.int p3), .val (.int p4), .val (.int p5), .val (.int (3 : Int32)), .val (.ref r), .unset, .unset, .unset] [(.ref s1)] := st11
    have lt_t1 : (@LT.lt Nat _ t1 h11.size) := av11.lt
    have c13 : SS p e below B0 T11 m 33 #[.val (.int p1), .val (.int p2), .val (.int p3), .val (.int p4), .val (.int p5), .val (.int (3 : Int32)), .val (.ref r), .val (.ref s1), .unset, .unset] [(.int ((p4 &&& (255 : Int32)).toUInt32.toUInt16.toUInt32.toInt32))] := Steps.trans c12 (by
        refine XS.astore X11.here hx rfl (hb hby at_25) rfl rfl (l' := #[.val (.int p1), .val (.int p2), .val (.int p3), .val (.int p4), .val (.int p5), .val (.int (3 : Int32)), .val (.ref r), .val (.ref s1), .unset, .unset]) rfl ?_
        refine XS.iloadN X11.here hx rfl (hb hby at_27) rfl ?_
        refine XT.sipushV X11.here hx rfl (255 : Int32) (hb hby at_28) (by decide) ?_
        refine XS.iand X11.here hx rfl (hb hby at_31) rfl ?_
        refine XS.i2c X11.here hx rfl (hb hby at_32) rfl ?_
        exact Steps.refl _)
    have Old14 : Old Z n0 h11 := (Old10.keep Kq11 (allS (by omega) all0))
    obtain ⟨_, _, ⟨T15, Lp15, kp15, np15⟩, -, X15, ⟨Lc15, hQ15, lp15, yp15, zp15⟩, st15⟩ := Jvm.LawKit.callS X11 hx (y := (⟨"java/lang/String", "valueOf", "(C)Ljava/lang/String;"⟩ : MethodName)) hown (mvT hZ (W hw 27)) (mvT hZ (W hw 28)) (mvT hZ (W hw 8)) (mvT hZ (W hw 29)) (by decide) (backOf (W := 0) (rmVo l Z a0 hw [] ((p4 &&& (255 : Int32)).toUInt32.toUInt16.toUInt32.toInt32) G1 h11 n0 (by omega) (and255_i2c p4) O2 P5 Old14) hZ (W hw 29) (W hw 8) (by decide) (by decide)) (g := (mkF m 33 #[.val (.int p1), .val (.int p2), .val (.int p3), .val (.int p4), .val (.int p5), .val (.int (3 : Int32)), .val (.ref r), .val (.ref s1), .unset, .unset] [(.int ((p4 &&& (255 : Int32)).toUInt32.toUInt16.toUInt32.toInt32))])) rfl (by rw [hml]; rfl) (argsL := [(.int ((p4 &&& (255 : Int32)).toUInt32.toUInt16.toUInt32.toInt32))]) (rest := []) (lenOf pd__C_Ljava_lang_String_ rfl) rfl (by show 2 * 0 + _ ≤ _; exact Nat.le_of_eq rfl) (hb hby at_33) (fun _ _ => ⟨rfl, e11, (by decide : 4 + 2 ≤ _), (by decide : 16 + 5 ≤ _)⟩)
    dsimp only [Pt.U, Pt.locs, Pt.cells, Pt.slots] at X15 lp15 yp15 zp15 st15 hQ15
    subst lp15 yp15 zp15
    obtain ⟨w1, tw15, kw15, rfl, Nq15, Kq15, -, -, -, -, -, -⟩ := hQ15
    have N15 := Fr.app N11 Nq15
    obtain ⟨h15, e15⟩ : ∃ z, T15.heap = z := ⟨_, rfl⟩
    rw [e15] at Kq15
    have z15 : h11.size ≤ h15.size := Kq15.1
    have K15 := K11.trans Kq15 all0
    have H15 : CHv Z consts_1 s.vm h15 := CHv.keep Kq15 sf0 H11
    have C15 := CHr.trans C11 (CHr.keep Kq15 sf0 H11)
    have c16 : SS p e below B0 T15 m 36 #[.val (.int p1), .val (.int p2), .val (.int p3), .val (.int p4), .val (.int p5), .val (.int (3 : Int32)), .val (.ref r), .val (.ref s1), .unset, .unset] [(.ref w1)] := Steps.trans c13 (st15 _ (Steps.refl _))
    have c17 : SS p e below B0 T15 m 42 #[.val (.int p1), .val (.int p2), .val (.int p3), .val (.int p4), .val (.int p5), .val (.int (3 : Int32)), .val (.ref r), .val (.ref s1), .val (.ref w1), .unset] [(.ref w1), (.ref s1)] := Steps.trans c16 (by
        refine XS.astore X15.here hx rfl (hb hby at_36) rfl rfl (l' := #[.val (.int p1), .val (.int p2), .val (.int p3), .val (.int p4), .val (.int p5), .val (.int (3 : Int32)), .val (.ref r), .val (.ref s1), .val (.ref w1), .unset]) rfl ?_
        refine XS.aload X15.here hx rfl (hb hby at_38) rfl rfl ?_
        refine XS.aload X15.here hx rfl (hb hby at_40) rfl rfl ?_
        exact Steps.refl _)
    have Exa18 : Exa Z h15 s1 "java/lang/String" := ((A6.keep Kq11).keep Kq15)
    obtain ⟨_, _, ⟨T19, Lp19, kp19, np19⟩, -, X19, ⟨Lc19, hQ19, lp19, yp19, zp19⟩, st19⟩ := Jvm.LawKit.callS X15 hx (y := (⟨"com/example/stowfit/stowfit/Json", "string", "(Ljava/lang/Object;Ljava/lang/String;)Ljava/lang/String;"⟩ : MethodName)) hown (mvT hZ (W hw 42)) (mvT hZ (W hw 43)) (mvT hZ (W hw 44)) (mvT hZ (W hw 45)) (by decide) (backOf (W := 0) (rmJ l Z a0 hw [] s1 w1 h15 n0 (by omega) Exa18) hZ (W hw 45) (W hw 44) (by decide) (by decide)) (g := (mkF m 42 #[.val (.int p1), .val (.int p2), .val (.int p3), .val (.int p4), .val (.int p5), .val (.int (3 : Int32)), .val (.ref r), .val (.ref s1), .val (.ref w1), .unset] [(.ref w1), (.ref s1)])) rfl (by rw [hml]; rfl) (argsL := [(.ref s1), (.ref w1)]) (rest := []) (lenOf pd__Ljava_lang_Object_Ljava_lang_String__Ljava_lang_String_ rfl) rfl (by show 2 * 0 + _ ≤ _; exact Nat.le_of_eq rfl) (hb hby at_42) (fun _ _ => ⟨rfl, e15, (by decide : 6 + 0 ≤ _), (by decide : 21 + 0 ≤ _)⟩)
    dsimp only [Pt.U, Pt.locs, Pt.cells, Pt.slots] at X19 lp19 yp19 zp19 st19 hQ19
    subst lp19 yp19 zp19
    obtain ⟨rfl, Nq19, eq19⟩ := hQ19
    have N19 := Fr.app N15 Nq19
    have c20 : SS p e below B0 T19 m 45 #[.val (.int p1), .val (.int p2), .val (.int p3), .val (.int p4), .val (.int p5), .val (.int (3 : Int32)), .val (.ref r), .val (.ref s1), .val (.ref w1), .unset] [(.ref s1)] := Steps.trans c17 (st19 _ (Steps.refl _))
    have c21 : SS p e below B0 T19 m 58 #[.val (.int p1), .val (.int p2), .val (.int p3), .val (.int p4), .val (.int p5), .val (.int (3 : Int32)), .val (.ref r), .val (.ref s1), .val (.ref w1), .val (.ref s1)] [(.ref s1)] := Steps.trans c20 (by
        refine XS.astore X19.here hx rfl (hb hby at_45) rfl rfl (l' := #[.val (.int p1), .val (.int p2), .val (.int p3), .val (.int p4), .val (.int p5), .val (.int (3 : Int32)), .val (.ref r), .val (.ref s1), .val (.ref w1), .val (.ref s1)]) rfl ?_
        refine XS.aload X19.here hx rfl (hb hby at_47) rfl rfl ?_
        refine XS.aload X19.here hx rfl (hb hby at_49) rfl rfl ?_
        refine XS.acmpYes X19.here hx rfl (pc0 := 51) (pc' := 56) rfl (hb hby at_51) rfl (by simp [if_acmp.holds]) (by decide) (by decide) ?_
        refine XS.aload X19.here hx rfl (hb hby at_56) rfl rfl ?_
        exact Steps.refl _)
    have Fld22 : Fld Z h15 s1 "java/lang/String" "value" "[B" (.ref t1) := (fv11.keep Kq15 nin0)
    have Fld23 : Fld Z h15 s1 "java/lang/String" "coder" "B" (.int cd) := (fc11.keep Kq15 nin0)
    have Arv24 : Arv Z h15 t1 k1 .byte N_ vs (.int (0 : Int32)) := (av11.keep Kq15 nin0)
    have Old25 : Old Z n0 h15 := (Old14.keep Kq15 all0)
    obtain ⟨cq26, kq26, qa26, qb26, qc26⟩ := isOf hZ eq19 Exa18
    obtain ⟨_, _, ⟨T26, Lp26, kp26, np26⟩, -, X26, ⟨Lc26, hQ26, lp26, yp26, zp26⟩, st26⟩ := X19.virtualBack hx (y := (⟨"java/lang/String", "length", "()I"⟩ : MethodName)) (z := (⟨"java/lang/String", "length", "()I"⟩ : MethodName)) hown (mvT hZ (W hw 47)) (mvT hZ (W hw 48)) (notFace_of_selects (args := #[]) (mvT hZ (W hw 50))) (mvT hZ (W hw 50)) (mvT hZ (W hw 49)) (by decide) (backOf (W := 0) (rmLen3 l Z a0 hw [] s1 t1 k1 (nar .char ((p1 &&& (65535 : Int32)).toUInt32.toUInt16.toUInt32.toInt32)) (nar .char ((p2 &&& (65535 : Int32)).toUInt32.toUInt16.toUInt32.toInt32)) (nar .char ((p3 &&& (65535 : Int32)).toUInt32.toUInt16.toUInt32.toInt32)) cd N_ vs G1 h15 n0 (by omega) Exa18 Fld22 Fld23 Arv24 spl O2 P5 Old25) hZ (W hw 51) (W hw 8) (by decide) (by decide)) qa26 qc26 (g := (mkF m 58 #[.val (.int p1), .val (.int p2), .val (.int p3), .val (.int p4), .val (.int p5), .val (.int (3 : Int32)), .val (.ref r), .val (.ref s1), .val (.ref w1), .val (.ref s1)] [(.ref s1)])) rfl (by rw [hml]; rfl) c21 (argsL := []) (rest := []) (lenOf pd___I rfl) rfl (by show 2 * 0 + _ ≤ _; exact Nat.le_of_eq rfl) (hb hby at_58) (fun _ _ => ⟨rfl, eq19, (by decide : 6 + 0 ≤ _), (by decide : 21 + 0 ≤ _)⟩)
    dsimp only [Pt.U, Pt.locs, Pt.cells, Pt.slots] at X26 lp26 yp26 zp26 st26 hQ26
    subst lp26 yp26 zp26
    obtain ⟨rfl, Nq26, eq26⟩ := hQ26
    have N26 := Fr.app N19 Nq26
    have c27 : SS p e below B0 T26 m 61 #[.val (.int p1), .val (.int p2), .val (.int p3), .val (.int p4), .val (.int p5), .val (.int (3 : Int32)), .val (.ref r), .val (.ref s1), .val (.ref w1), .val (.ref s1)] [(.int (3 : Int32))] := st26
    have c28 : SS p e below B0 T26 m 77 #[.val (.int p1), .val (.int p2), .val (.int p3), .val (.int p4), .val (.int p5), .val (.int (3 : Int32)), .val (.ref r), .val (.ref s1), .val (.ref w1), .val (.ref s1)] [(.int (0 : Int32)), (.ref s1)] := Steps.trans c27 (by
        refine XS.iload X26.here hx rfl (hb hby at_61) rfl ?_
        refine XS.icmpYes X26.here hx rfl (pc0 := 63) (pc' := 68) rfl (hb hby at_63) rfl (teq (by decide : (3 : Int32) = (3 : Int32))).1 (by decide) (by decide) ?_
        refine XS.iload X26.here hx rfl (hb hby at_68) rfl ?_
        refine XT.iconstV X26.here hx rfl (1 : Int32) (hb hby at_70) (by decide) ?_
        refine XS.icmpNo X26.here hx rfl (hb hby at_71) rfl (flt (by decide : ¬ (3 : Int32) < (1 : Int32))).1 ?_
        refine XS.aload X26.here hx rfl (hb hby at_74) rfl rfl ?_
        refine XT.iconstV X26.here hx rfl (0 : Int32) (hb hby at_76) (by decide) ?_
        exact Steps.refl _)
    obtain ⟨cq29, kq29, qa29, qb29, qc29⟩ := isOf hZ eq26 Exa18
    obtain ⟨_, _, ⟨T29, Lp29, kp29, np29⟩, -, X29, ⟨Lc29, hQ29, lp29, yp29, zp29⟩, st29⟩ := X26.virtualBack hx (y := (⟨"java/lang/String", "charAt", "(I)C"⟩ : MethodName)) (z := (⟨"java/lang/String", "charAt", "(I)C"⟩ : MethodName)) hown (mvT hZ (W hw 72)) (mvT hZ (W hw 73)) (notFace_of_selects (args := #[]) (mvT hZ (W hw 75))) (mvT hZ (W hw 75)) (mvT hZ (W hw 74)) (by decide) (backOf (W := 0) (rmChA3_0 l Z a0 hw [] s1 t1 k1 (nar .char ((p1 &&& (65535 : Int32)).toUInt32.toUInt16.toUInt32.toInt32)) (nar .char ((p2 &&& (65535 : Int32)).toUInt32.toUInt16.toUInt32.toInt32)) (nar .char ((p3 &&& (65535 : Int32)).toUInt32.toUInt16.toUInt32.toInt32)) cd N_ vs G1 G3 h15 n0 (by omega) Exa18 Fld22 Fld23 Arv24 spl O2 P5 O4 rG3 O7 O8 O9 Old25 hc0) hZ (W hw 76) (W hw 8) (by decide) (by decide)) qa29 qc29 (g := (mkF m 77 #[.val (.int p1), .val (.int p2), .val (.int p3), .val (.int p4), .val (.int p5), .val (.int (3 : Int32)), .val (.ref r), .val (.ref s1), .val (.ref w1), .val (.ref s1)] [(.int (0 : Int32)), (.ref s1)])) rfl (by rw [hml]; rfl) c28 (argsL := [(.int (0 : Int32))]) (rest := []) (lenOf pd__I_C rfl) rfl (by show 2 * 0 + _ ≤ _; exact Nat.le_of_eq rfl) (hb hby at_77) (fun _ _ => ⟨rfl, eq26, (by decide : 6 + 0 ≤ _), (by decide : 21 + 0 ≤ _)⟩)
    dsimp only [Pt.U, Pt.locs, Pt.cells, Pt.slots] at X29 lp29 yp29 zp29 st29 hQ29
    subst lp29 yp29 zp29
    obtain ⟨rfl, Nq29, eq29⟩ := hQ29
    have N29 := Fr.app N26 Nq29
    have c30 : SS p e below B0 T29 m 80 #[.val (.int p1), .val (.int p2), .val (.int p3), .val (.int p4), .val (.int p5), .val (.int (3 : Int32)), .val (.ref r), .val (.ref s1), .val (.ref w1), .val (.ref s1)] [(.int (nar .char ((p1 &&& (65535 : Int32)).toUInt32.toUInt16.toUInt32.toInt32)))] := st29
    have c31 : SS p e below B0 T29 m 83 #[.val (.int p1), .val (.int p2), .val (.int p3), .val (.int p4), .val (.int p5), .val (.int (3 : Int32)), .val (.ref r), .val (.ref s1), .val (.ref w1), .val (.ref s1)] [(.int (0 : Int32)), (.ref r), (.int (nar .char ((p1 &&& (65535 : Int32)).toUInt32.toUInt16.toUInt32.toInt32)))] := Steps.trans c30 (by
        refine XS.aload X29.here hx rfl (hb hby at_80) rfl rfl ?_
        refine XT.iconstV X29.here hx rfl (0 : Int32) (hb hby at_82) (by decide) ?_
        exact Steps.refl _)
    have Arv33 : Arv Z h15 r kc .char (3 : Int32) [(.int (nar .char ((p1 &&& (65535 : Int32)).toUInt32.toUInt16.toUInt32.toInt32))), (.int (nar .char ((p2 &&& (65535 : Int32)).toUInt32.toUInt16.toUInt32.toInt32))), (.int (nar .char ((p3 &&& (65535 : Int32)).toUInt32.toUInt16.toUInt32.toInt32)))] (.int (0 : Int32)) := ((Arv9.keep Kq11 (ninS (own_ne (by omega)) nin0)).keep Kq15 nin0)
    obtain ⟨cl32, Ar32, q32, Sz32, M32, Hs32, U32⟩ := id Arv33
    have in32 := inb_of (j := (0 : Int32)) Sz32 ⟨(by decide), (by decide)⟩
    have c34 : SS p e below B0 T29 m 84 #[.val (.int p1), .val (.int p2), .val (.int p3), .val (.int p4), .val (.int p5), .val (.int (3 : Int32)), .val (.ref r), .val (.ref s1), .val (.ref w1), .val (.ref s1)] [(.int (nar .char ((p1 &&& (65535 : Int32)).toUInt32.toUInt16.toUInt32.toInt32))), (.int (nar .char ((p1 &&& (65535 : Int32)).toUInt32.toUInt16.toUInt32.toInt32)))] := Steps.trans c31 (by
        refine X29.caload hx (j := (0 : Int32)) (v := (.int (nar .char ((p1 &&& (65535 : Int32)).toUInt32.toUInt16.toUInt32.toInt32)))) (by rw [eq29]; exact Ar32.1) (State.isArrayOf_alike hZ.alike Ar32.2.1) Ar32.2.2 in32 (Hs32.at in32 rfl) (g := (mkF m 83 #[.val (.int p1), .val (.int p2), .val (.int p3), .val (.int p4), .val (.int p5), .val (.int (3 : Int32)), .val (.ref r), .val (.ref s1), .val (.ref w1), .val (.ref s1)] [(.int (0 : Int32)), (.ref r), (.int (nar .char ((p1 &&& (65535 : Int32)).toUInt32.toUInt16.toUInt32.toInt32)))])) rfl rfl (hb hby at_83) _ ?_
        exact Steps.refl _)
    have c35 : SS p e below B0 T29 m 98 #[.val (.int p1), .val (.int p2), .val (.int p3), .val (.int p4), .val (.int p5), .val (.int (3 : Int32)), .val (.ref r), .val (.ref s1), .val (.ref w1), .val (.ref s1)] [(.int (1 : Int32)), (.ref s1)] := Steps.trans c34 (by
        refine XS.icmpYes X29.here hx rfl (pc0 := 84) (pc' := 89) rfl (hb hby at_84) rfl (teq rfl).1 (by decide) (by decide) ?_
        refine XS.iload X29.here hx rfl (hb hby at_89) rfl ?_
        refine XT.iconstV X29.here hx rfl (2 : Int32) (hb hby at_91) (by decide) ?_
        refine XS.icmpNo X29.here hx rfl (hb hby at_92) rfl (flt (by decide : ¬ (3 : Int32) < (2 : Int32))).1 ?_
        refine XS.aload X29.here hx rfl (hb hby at_95) rfl rfl ?_
        refine XT.iconstV X29.here hx rfl (1 : Int32) (hb hby at_97) (by decide) ?_
        exact Steps.refl _)
    obtain ⟨cq36, kq36, qa36, qb36, qc36⟩ := isOf hZ eq29 Exa18
    obtain ⟨_, _, ⟨T36, Lp36, kp36, np36⟩, -, X36, ⟨Lc36, hQ36, lp36, yp36, zp36⟩, st36⟩ := X29.virtualBack hx (y := (⟨"java/lang/String", "charAt", "(I)C"⟩ : MethodName)) (z := (⟨"java/lang/String", "charAt", "(I)C"⟩ : MethodName)) hown (mvT hZ (W hw 72)) (mvT hZ (W hw 73)) (notFace_of_selects (args := #[]) (mvT hZ (W hw 75))) (mvT hZ (W hw 75)) (mvT hZ (W hw 74)) (by decide) (backOf (W := 0) (rmChA3_1 l Z a0 hw [] s1 t1 k1 (nar .char ((p1 &&& (65535 : Int32)).toUInt32.toUInt16.toUInt32.toInt32)) (nar .char ((p2 &&& (65535 : Int32)).toUInt32.toUInt16.toUInt32.toInt32)) (nar .char ((p3 &&& (65535 : Int32)).toUInt32.toUInt16.toUInt32.toInt32)) cd N_ vs G1 G3 h15 n0 (by omega) Exa18 Fld22 Fld23 Arv24 spl O2 P5 O4 rG3 O7 O8 O9 Old25 hc1) hZ (W hw 76) (W hw 8) (by decide) (by decide)) qa36 qc36 (g := (mkF m 98 #[.val (.int p1), .val (.int p2), .val (.int p3), .val (.int p4), .val (.int p5), .val (.int (3 : Int32)), .val (.ref r), .val (.ref s1), .val (.ref w1), .val (.ref s1)] [(.int (1 : Int32)), (.ref s1)])) rfl (by rw [hml]; rfl) c35 (argsL := [(.int (1 : Int32))]) (rest := []) (lenOf pd__I_C rfl) rfl (by show 2 * 0 + _ ≤ _; exact Nat.le_of_eq rfl) (hb hby at_98) (fun _ _ => ⟨rfl, eq29, (by decide : 6 + 0 ≤ _), (by decide : 21 + 0 ≤ _)⟩)
    dsimp only [Pt.U, Pt.locs, Pt.cells, Pt.slots] at X36 lp36 yp36 zp36 st36 hQ36
    subst lp36 yp36 zp36
    obtain ⟨rfl, Nq36, eq36⟩ := hQ36
    have N36 := Fr.app N29 Nq36
    have c37 : SS p e below B0 T36 m 101 #[.val (.int p1), .val (.int p2), .val (.int p3), .val (.int p4), .val (.int p5), .val (.int (3 : Int32)), .val (.ref r), .val (.ref s1), .val (.ref w1), .val (.ref s1)] [(.int (nar .char ((p2 &&& (65535 : Int32)).toUInt32.toUInt16.toUInt32.toInt32)))] := st36
    have c38 : SS p e below B0 T36 m 104 #[.val (.int p1), .val (.int p2), .val (.int p3), .val (.int p4), .val (.int p5), .val (.int (3 : Int32)), .val (.ref r), .val (.ref s1), .val (.ref w1), .val (.ref s1)] [(.int (1 : Int32)), (.ref r), (.int (nar .char ((p2 &&& (65535 : Int32)).toUInt32.toUInt16.toUInt32.toInt32)))] := Steps.trans c37 (by
        refine XS.aload X36.here hx rfl (hb hby at_101) rfl rfl ?_
        refine XT.iconstV X36.here hx rfl (1 : Int32) (hb hby at_103) (by decide) ?_
        exact Steps.refl _)
    obtain ⟨cl39, Ar39, q39, Sz39, M39, Hs39, U39⟩ := id Arv33
    have in39 := inb_of (j := (1 : Int32)) Sz39 ⟨(by decide), (by decide)⟩
    have c40 : SS p e below B0 T36 m 105 #[.val (.int p1), .val (.int p2), .val (.int p3), .val (.int p4), .val (.int p5), .val (.int (3 : Int32)), .val (.ref r), .val (.ref s1), .val (.ref w1), .val (.ref s1)] [(.int (nar .char ((p2 &&& (65535 : Int32)).toUInt32.toUInt16.toUInt32.toInt32))), (.int (nar .char ((p2 &&& (65535 : Int32)).toUInt32.toUInt16.toUInt32.toInt32)))] := Steps.trans c38 (by
        refine X36.caload hx (j := (1 : Int32)) (v := (.int (nar .char ((p2 &&& (65535 : Int32)).toUInt32.toUInt16.toUInt32.toInt32)))) (by rw [eq36]; exact Ar39.1) (State.isArrayOf_alike hZ.alike Ar39.2.1) Ar39.2.2 in39 (Hs39.at in39 rfl) (g := (mkF m 104 #[.val (.int p1), .val (.int p2), .val (.int p3), .val (.int p4), .val (.int p5), .val (.int (3 : Int32)), .val (.ref r), .val (.ref s1), .val (.ref w1), .val (.ref s1)] [(.int (1 : Int32)), (.ref r), (.int (nar .char ((p2 &&& (65535 : Int32)).toUInt32.toUInt16.toUInt32.toInt32)))])) rfl rfl (hb hby at_104) _ ?_
        exact Steps.refl _)
    have c41 : SS p e below B0 T36 m 119 #[.val (.int p1), .val (.int p2), .val (.int p3), .val (.int p4), .val (.int p5), .val (.int (3 : Int32)), .val (.ref r), .val (.ref s1), .val (.ref w1), .val (.ref s1)] [(.int (2 : Int32)), (.ref s1)] := Steps.trans c40 (by
        refine XS.icmpYes X36.here hx rfl (pc0 := 105) (pc' := 110) rfl (hb hby at_105) rfl (teq rfl).1 (by decide) (by decide) ?_
        refine XS.iload X36.here hx rfl (hb hby at_110) rfl ?_
        refine XT.iconstV X36.here hx rfl (3 : Int32) (hb hby at_112) (by decide) ?_
        refine XS.icmpNo X36.here hx rfl (hb hby at_113) rfl (flt (by decide : ¬ (3 : Int32) < (3 : Int32))).1 ?_
        refine XS.aload X36.here hx rfl (hb hby at_116) rfl rfl ?_
        refine XT.iconstV X36.here hx rfl (2 : Int32) (hb hby at_118) (by decide) ?_
        exact Steps.refl _)
    obtain ⟨cq42, kq42, qa42, qb42, qc42⟩ := isOf hZ eq36 Exa18
    obtain ⟨_, _, ⟨T42, Lp42, kp42, np42⟩, -, X42, ⟨Lc42, hQ42, lp42, yp42, zp42⟩, st42⟩ := X36.virtualBack hx (y := (⟨"java/lang/String", "charAt", "(I)C"⟩ : MethodName)) (z := (⟨"java/lang/String", "charAt", "(I)C"⟩ : MethodName)) hown (mvT hZ (W hw 72)) (mvT hZ (W hw 73)) (notFace_of_selects (args := #[]) (mvT hZ (W hw 75))) (mvT hZ (W hw 75)) (mvT hZ (W hw 74)) (by decide) (backOf (W := 0) (rmChA3_2 l Z a0 hw [] s1 t1 k1 (nar .char ((p1 &&& (65535 : Int32)).toUInt32.toUInt16.toUInt32.toInt32)) (nar .char ((p2 &&& (65535 : Int32)).toUInt32.toUInt16.toUInt32.toInt32)) (nar .char ((p3 &&& (65535 : Int32)).toUInt32.toUInt16.toUInt32.toInt32)) cd N_ vs G1 G3 h15 n0 (by omega) Exa18 Fld22 Fld23 Arv24 spl O2 P5 O4 rG3 O7 O8 O9 Old25 hc2) hZ (W hw 76) (W hw 8) (by decide) (by decide)) qa42 qc42 (g := (mkF m 119 #[.val (.int p1), .val (.int p2), .val (.int p3), .val (.int p4), .val (.int p5), .val (.int (3 : Int32)), .val (.ref r), .val (.ref s1), .val (.ref w1), .val (.ref s1)] [(.int (2 : Int32)), (.ref s1)])) rfl (by rw [hml]; rfl) c41 (argsL := [(.int (2 : Int32))]) (rest := []) (lenOf pd__I_C rfl) rfl (by show 2 * 0 + _ ≤ _; exact Nat.le_of_eq rfl) (hb hby at_119) (fun _ _ => ⟨rfl, eq36, (by decide : 6 + 0 ≤ _), (by decide : 21 + 0 ≤ _)⟩)
    dsimp only [Pt.U, Pt.locs, Pt.cells, Pt.slots] at X42 lp42 yp42 zp42 st42 hQ42
    subst lp42 yp42 zp42
    obtain ⟨rfl, Nq42, eq42⟩ := hQ42
    have N42 := Fr.app N36 Nq42
    have c43 : SS p e below B0 T42 m 122 #[.val (.int p1), .val (.int p2), .val (.int p3), .val (.int p4), .val (.int p5), .val (.int (3 : Int32)), .val (.ref r), .val (.ref s1), .val (.ref w1), .val (.ref s1)] [(.int (nar .char ((p3 &&& (65535 : Int32)).toUInt32.toUInt16.toUInt32.toInt32)))] := st42
    have c44 : SS p e below B0 T42 m 125 #[.val (.int p1), .val (.int p2), .val (.int p3), .val (.int p4), .val (.int p5), .val (.int (3 : Int32)), .val (.ref r), .val (.ref s1), .val (.ref w1), .val (.ref s1)] [(.int (2 : Int32)), (.ref r), (.int (nar .char ((p3 &&& (65535 : Int32)).toUInt32.toUInt16.toUInt32.toInt32)))] := Steps.trans c43 (by
        refine XS.aload X42.here hx rfl (hb hby at_122) rfl rfl ?_
        refine XT.iconstV X42.here hx rfl (2 : Int32) (hb hby at_124) (by decide) ?_
        exact Steps.refl _)
    obtain ⟨cl45, Ar45, q45, Sz45, M45, Hs45, U45⟩ := id Arv33
    have in45 := inb_of (j := (2 : Int32)) Sz45 ⟨(by decide), (by decide)⟩
    have c46 : SS p e below B0 T42 m 126 #[.val (.int p1), .val (.int p2), .val (.int p3), .val (.int p4), .val (.int p5), .val (.int (3 : Int32)), .val (.ref r), .val (.ref s1), .val (.ref w1), .val (.ref s1)] [(.int (nar .char ((p3 &&& (65535 : Int32)).toUInt32.toUInt16.toUInt32.toInt32))), (.int (nar .char ((p3 &&& (65535 : Int32)).toUInt32.toUInt16.toUInt32.toInt32)))] := Steps.trans c44 (by
        refine X42.caload hx (j := (2 : Int32)) (v := (.int (nar .char ((p3 &&& (65535 : Int32)).toUInt32.toUInt16.toUInt32.toInt32)))) (by rw [eq42]; exact Ar45.1) (State.isArrayOf_alike hZ.alike Ar45.2.1) Ar45.2.2 in45 (Hs45.at in45 rfl) (g := (mkF m 125 #[.val (.int p1), .val (.int p2), .val (.int p3), .val (.int p4), .val (.int p5), .val (.int (3 : Int32)), .val (.ref r), .val (.ref s1), .val (.ref w1), .val (.ref s1)] [(.int (2 : Int32)), (.ref r), (.int (nar .char ((p3 &&& (65535 : Int32)).toUInt32.toUInt16.toUInt32.toInt32)))])) rfl rfl (hb hby at_125) _ ?_
        exact Steps.refl _)
    have c47 : SS p e below B0 T42 m 135 #[.val (.int p1), .val (.int p2), .val (.int p3), .val (.int p4), .val (.int p5), .val (.int (3 : Int32)), .val (.ref r), .val (.ref s1), .val (.ref w1), .val (.ref s1)] [(.ref s1), (.ref s1)] := Steps.trans c46 (by
        refine XS.icmpYes X42.here hx rfl (pc0 := 126) (pc' := 131) rfl (hb hby at_126) rfl (teq rfl).1 (by decide) (by decide) ?_
        refine XS.aload X42.here hx rfl (hb hby at_131) rfl rfl ?_
        refine XS.aload X42.here hx rfl (hb hby at_133) rfl rfl ?_
        exact Steps.refl _)
    obtain ⟨cq48, kq48, qa48, qb48, qc48⟩ := isOf hZ eq42 Exa18
    obtain ⟨_, _, ⟨T48, Lp48, kp48, np48⟩, -, X48, ⟨Lc48, hQ48, lp48, yp48, zp48⟩, st48⟩ := X42.virtualBack hx (y := (⟨"java/lang/String", "equals", "(Ljava/lang/Object;)Z"⟩ : MethodName)) (z := (⟨"java/lang/String", "equals", "(Ljava/lang/Object;)Z"⟩ : MethodName)) hown (mvT hZ (W hw 57)) (mvT hZ (W hw 58)) (notFace_of_selects (args := #[]) (mvT hZ (W hw 60))) (mvT hZ (W hw 60)) (mvT hZ (W hw 59)) (by decide) (backOf (W := 0) (rmEq l Z a0 hw [] s1 h15 n0 (by omega)) hZ (W hw 61) (W hw 8) (by decide) (by decide)) qa48 qc48 (g := (mkF m 135 #[.val (.int p1), .val (.int p2), .val (.int p3), .val (.int p4), .val (.int p5), .val (.int (3 : Int32)), .val (.ref r), .val (.ref s1), .val (.ref w1), .val (.ref s1)] [(.ref s1), (.ref s1)])) rfl (by rw [hml]; rfl) c47 (argsL := [(.ref s1)]) (rest := []) (lenOf pd__Ljava_lang_Object__Z rfl) rfl (by show 2 * 0 + _ ≤ _; exact Nat.le_of_eq rfl) (hb hby at_135) (fun _ _ => ⟨rfl, eq42, (by decide : 6 + 0 ≤ _), (by decide : 21 + 0 ≤ _)⟩)
    dsimp only [Pt.U, Pt.locs, Pt.cells, Pt.slots] at X48 lp48 yp48 zp48 st48 hQ48
    subst lp48 yp48 zp48
    obtain ⟨rfl, Nq48, eq48⟩ := hQ48
    have N48 := Fr.app N42 Nq48
    have c49 : SS p e below B0 T48 m 138 #[.val (.int p1), .val (.int p2), .val (.int p3), .val (.int p4), .val (.int p5), .val (.int (3 : Int32)), .val (.ref r), .val (.ref s1), .val (.ref w1), .val (.ref s1)] [(.int (1 : Int32))] := st48
    obtain ⟨fs, hr, hrun, hended, hW⟩ := X48.leaveW hS0 (by rw [eq48]; omega) (v := some (.int (1 : Int32))) (fun h => by rw [Bd.returns] at h; cases h)
    have hC : CHr Z consts_1 s.vm s.heap T48.vm T48.heap := by rw [hh, eq48]; exact CHr.trans C15 (CHv.at X48 hZ hEL H15)
    subst hB0
    refine ⟨_, _, Steps.trans c49 ?_, hrun, hended, _, _, rfl, ?_, hC, hW.1, hW.2.1, hW.2.2.1, hW.2.2.2.mono (by decide) (by decide)⟩
    · exact retN X48 hx (t := .boolean) Bd.returns (by simp) (hb hby at_138) hr
    · show QL n0 _ T48.heap _
      rw [eq48]
      exact ⟨rfl, N48⟩
set_option maxRecDepth 65536 in
set_option maxHeartbeats 40000000 in
theorem comes_1 {Post : Tables → Env → Array Value → State → Outcome → State → Prop} (hpost : ∀ tb e args s v u, (limb_1_1.after args s (.returned v) u = true ∧ limb_1_2.after args s (.returned v) u = true ∧ True) → ReturnedEndW s (.returned v) u (Jvm.fieldLocs frame_1_writes args s ++ Jvm.arrayLocs frame_1_arrays args s ++ Jvm.staticLocs frame_1_statics s) room_1.cells room_1.slots → Post tb e args s (.returned v) u) :
    ArmFor flags0 classFile x code maxLocals ret World_1 tables_1 room_1 Calls_1 rest_1 Pre_1 Post := by
  intro l hfl _ _ p e ha hc hk s m args below hf hA hF happ hP
  obtain ⟨hcalls, hrest, hpre⟩ := hP
  obtain ⟨-, -, -, hnamed, -, -, -, hat⟩ := (Spec.applies_iff hf).mp happ
  obtain ⟨hg, hn⟩ := and_e (Cond.before_iff.mp (show (Jvm.Cond.and given_1 narrow_1).before args s = true from hpre))
  obtain ⟨hcount, hr_0⟩ := and_e hg
  obtain ⟨ha_0, hr_1⟩ := and_e hr_0
  obtain ⟨ha_1, hr_2⟩ := and_e hr_1
  obtain ⟨ha_2, hr_3⟩ := and_e hr_2
  obtain ⟨ha_3, hr_4⟩ := and_e hr_3
  have ha_4 := hr_4
  obtain ⟨w0, w1, w2, w3, w4, rfl⟩ : ∃ w0 w1 w2 w3 w4 : Value, args = #[w0, w1, w2, w3, w4] := by
    have hs : args.size = 5 := by simpa [Cond.value, given_1] using hcount
    obtain ⟨L⟩ := args
    match L, hs with
    | [w0, w1, w2, w3, w4], _ => exact ⟨w0, w1, w2, w3, w4, rfl⟩
  have hw := fun d (hd : d ∈ tables_1) => atoms_spec (ws := Jvm.Cond.code x code maxLocals ret :: tables_1) hat d (List.mem_cons_of_mem _ hd)
  obtain ⟨hsets, hown0⟩ := atoms_of _ (rest_1_c_eq ▸ (show rest_1_c.before _ s = true from hrest))
  have hfit : Fit s := fun {y c} hc i hi => by
    obtain ⟨ha, rfl⟩ := Array.getElem?_eq_some_iff.mp hc
    have q := List.all_eq_true.mp ((Array.all_eq_true_iff_forall_mem.mp hF) _ (Array.getElem_mem ha)) i (List.mem_range.mpr hi)
    simpa [Array.getElem?_eq_getElem hi] using q
  obtain ⟨i_0, ea_0⟩ := is_v ha_0
  obtain rfl : w0 = (.int i_0) := Option.some.inj ea_0
  obtain ⟨i_1, ea_1⟩ := is_v ha_1
  obtain rfl : w1 = (.int i_1) := Option.some.inj ea_1
  obtain ⟨i_2, ea_2⟩ := is_v ha_2
  obtain rfl : w2 = (.int i_2) := Option.some.inj ea_2
  obtain ⟨i_3, ea_3⟩ := is_v ha_3
  obtain rfl : w3 = (.int i_3) := Option.some.inj ea_3
  obtain ⟨i_4, ea_4⟩ := is_v ha_4
  obtain rfl : w4 = (.int i_4) := Option.some.inj ea_4
  have n5 := not_v (Cond.before_iff.mp (hsets _ (List.mem_of_getElem? (i := 2) rfl)))
  obtain ⟨g1, e10⟩ := is_v (Cond.before_iff.mp (hsets _ (List.mem_of_getElem? (i := 1) rfl)))
  have S12 : Sta s s.heap "java/lang/String" "COMPACT_STRINGS" "Z" (.int g1) := Sta.start e10 (Or.inl (hsets _ (List.mem_of_getElem? (i := 0) rfl)))
  have c17 : ¬ (g1 = (0 : Int32)) := gotF (Cond.eq_ints e10 (Term.int_eval (0))) n5
  obtain ⟨v13, e14, r15⟩ := isR_v (Cond.before_iff.mp (hsets _ (List.mem_of_getElem? (i := 8) rfl)))
  have S16 : Sta s s.heap "jdk/internal/util/Preconditions" "SIOOBE_FORMATTER" "Ljava/util/function/BiFunction;" v13 := Sta.start e14 (Or.inl (hsets _ (List.mem_of_getElem? (i := 7) rfl)))
  have S7 : Sta s s.heap "java/lang/StringUTF16" "$assertionsDisabled" "Z" (.int (1 : Int32)) := Sta.start (eqv_i (Term.int_eval (1)) (Cond.before_iff.mp (hsets _ (List.mem_of_getElem? (i := 12) rfl)))) (Or.inl (hsets _ (List.mem_of_getElem? (i := 11) rfl)))
  have S8 : Sta s s.heap "java/lang/StringUTF16" "HI_BYTE_SHIFT" "I" (.int (0 : Int32)) := Sta.start (eqv_i (Term.int_eval (0)) (Cond.before_iff.mp (hsets _ (List.mem_of_getElem? (i := 15) rfl)))) (Or.inl (hsets _ (List.mem_of_getElem? (i := 14) rfl)))
  have S9 : Sta s s.heap "java/lang/StringUTF16" "LO_BYTE_SHIFT" "I" (.int (8 : Int32)) := Sta.start (eqv_i (Term.int_eval (8)) (Cond.before_iff.mp (hsets _ (List.mem_of_getElem? (i := 18) rfl)))) (Or.inl (hsets _ (List.mem_of_getElem? (i := 17) rfl)))
  have hEL : EW s _ consts_1 := (EW.cons (W hw 19) (by decide) EW.nil)
  have hCH : CHv s consts_1 s.vm s.heap := CHv.start hEL (fun p hp => hcalls.1 p hp) (hsets _ (List.mem_of_getElem? (i := 2) rfl)) (W hw 20) (W hw 7)
  obtain ⟨n, o, h1, h2, h3, _, L, rfl, ⟨rfl, N⟩, -, hq⟩ := rmL l s _ hw tables_1 i_0 i_1 i_2 i_3 i_4 g1 v13 s.heap s.heap.size (Nat.le_refl _) S12 c17 S16 r15 S7 S8 S9 (Old.start s) hEL p e ha hc hk s m _ below hf ((Spec.applies_iff_loose hf).mp happ).1 ⟨rfl, State.Warmed39.refl s, rfl, hCH⟩ trivial
  refine ⟨n, _, h1, h2, h3, hpost _ _ _ _ _ _ ⟨Cond.after_iff.mpr rfl, Cond.after_iff.mpr (eq_i res_at (Term.int_eval (1)) rfl), trivial⟩ ⟨hq.1, hq.2.1, hq.2.2.1, (hq.2.2.2.sift fun y hy => Or.inr (N y hy)).mono (by decide) (by decide)⟩⟩
theorem main_1_1 : Claimed_1_1 := comes_1 fun _ _ _ _ _ _ h hF => ⟨h.1, hF⟩
theorem main_1_2 : Claimed_1_2 := comes_1 fun _ _ _ _ _ _ h hF => ⟨h.2.1, hF⟩
end Jvm.Pilot.@@N@@
namespace Jvm.Pilot.@@N@@
open Jvm Jvm.ClassFile Sem Op Lib Jvm.Free Jvm.Stand Jvm.Pilot.@@N@@.Jvm.D
/-! MADE BY PROGRAM (witnessworld.py) out of the Statement's table words and the real class files: 20 classes; the members and pool entries that the words name. The judged class is class 1, her method 2. -/
namespace start1
open Jvm.ClassFile
def u (s : String) : CpInfo := .utf8 (stringToUtf16 s)
/-- a pool by its gaps: so many unusable entries, then the entry; so many at the end -/
def gap : Nat → List CpInfo → List CpInfo
  | 0, r => r
  | n + 1, r => .unusable :: gap n r
def poolList (es : List (Nat × CpInfo)) (last : Nat) : List CpInfo := es.foldr (fun e r => gap e.1 (e.2 :: r)) (gap last [])
def pool (es : List (Nat × CpInfo)) (last : Nat) : Array CpInfo := ⟨poolList es last⟩
def fileOf (pool : Array CpInfo) (this : Nat) (attrs : Array Attribute := #[]) (ms : Array MethodInfo := #[]) (fl : Nat := 33) (sup : Nat := 0) (ifs : Array Nat := #[]) (fds : Array FieldInfo := #[]) : ClassFile where
  minorVersion := 0
  majorVersion := 65
  constantPool := pool
  accessFlags := fl
  thisClass := this
  superClass := sup
  interfaces := ifs
  fields := fds
  methods := ms
  attributes := attrs
def plain (name : String) (sup : Option ClassId) : Class where
  name := name
  kind := .ordinary
  loader := none
  accessFlags := 33
  super := sup
  interfaces := #[]
  cf := none
  fields := #[]
  methods := #[]
  instanceTypes := #[]
  staticTypes := #[]
  resolved := #[]
  callSites := []
  init := .initialized
  statics := none
  mirror := none

def pool0 : Array CpInfo := pool [(5, u "<init>"), (0, u "()V"), (1, .class_ 10), (1, u "java/lang/Object")] 113

def k0c0 : Code := { maxStack := 0, maxLocals := 1, code := object_method_1_code, exceptionTable := #[], attributes := #[] }
def k0m0 : Method := { name := "<init>", desc := "()V", sig := { parameters := [], returnType := none }, accessFlags := 1, code := some k0c0 }
/-- java/lang/Object -/
def k0 : Class := { plain "java/lang/Object" none with
  accessFlags := 33
  interfaces := #[]
  cf := some (fileOf pool0 8 #[] #[{ accessFlags := 1, nameIndex := 5, descriptorIndex := 6, attributes := #[] }] 33 0 #[] #[])
  fields := #[]
  methods := #[k0m0]
  instanceTypes := #[]
  staticTypes := #[]
  resolved := Array.replicate 124 none
  statics := none }

def pool1 : Array CpInfo := pool [(2, .class_ 4), (1, u "java/lang/Object"), (0, u "<init>"), (0, u "()V"), (0, .integer 65535), (0, .methodref 9 10), (0, .class_ 11), (0, .nameAndType 12 13), (0, u "com/example/stowfit/stowfit/JsonStringPinLaw"), (0, u "draw"), (0, u "(IIII)[C"), (0, .class_ 15), (0, u "java/lang/String"), (0, .methodref 14 17), (0, .nameAndType 5 18), (0, u "([C)V"), (0, .methodref 14 20), (0, .nameAndType 21 22), (0, u "valueOf"), (0, u "(C)Ljava/lang/String;"), (0, .methodref 24 25), (0, .class_ 26), (0, .nameAndType 27 28), (0, u "com/example/stowfit/stowfit/Json"), (0, u "string"), (0, u "(Ljava/lang/Object;Ljava/lang/String;)Ljava/lang/String;"), (0, .methodref 14 30), (0, .nameAndType 31 32), (0, u "length"), (0, u "()I"), (0, .methodref 14 34), (0, .nameAndType 35 36), (0, u "charAt"), (0, u "(I)C"), (0, .methodref 14 38), (0, .nameAndType 39 40), (0, u "equals"), (0, u "(Ljava/lang/Object;)Z"), (3, u "law"), (0, u "(IIIII)Z")] 7

def k1m0 : Method := { name := "<init>", desc := "()V", sig := { parameters := [], returnType := none }, accessFlags := 2, code := none }
def k1c1 : Code := { maxStack := 4, maxLocals := 7, code := method_2_code, exceptionTable := #[], attributes := #[] }
def k1m1 : Method := { name := "draw", desc := "(IIII)[C", sig := { parameters := [.int, .int, .int, .int], returnType := some (.array .char) }, accessFlags := 10, code := some k1c1 }
def k1c2 : Code := { maxStack := 4, maxLocals := 10, code := code, exceptionTable := #[], attributes := #[] }
def k1m2 : Method := { name := "law", desc := "(IIIII)Z", sig := { parameters := [.int, .int, .int, .int, .int], returnType := some .boolean }, accessFlags := 9, code := some k1c2 }
/-- com/example/stowfit/stowfit/JsonStringPinLaw -/
def k1 : Class := { plain "com/example/stowfit/stowfit/JsonStringPinLaw" (some 0) with
  accessFlags := 49
  interfaces := #[]
  cf := some (fileOf pool1 9 #[] #[{ accessFlags := 2, nameIndex := 5, descriptorIndex := 6, attributes := #[] }, { accessFlags := 10, nameIndex := 12, descriptorIndex := 13, attributes := #[] }, { accessFlags := 9, nameIndex := 44, descriptorIndex := 45, attributes := #[] }] 49 2 #[] #[])
  fields := #[]
  methods := #[k1m0, k1m1, k1m2]
  instanceTypes := #[]
  staticTypes := #[]
  resolved := Array.replicate 53 none
  statics := none }

def pool2 : Array CpInfo := pool [(1, .class_ 2), (0, u "java/io/Serializable"), (0, .class_ 4), (0, u "java/lang/Object")] 2

/-- java/io/Serializable -/
def k2 : Class := { plain "java/io/Serializable" (some 0) with
  accessFlags := 1537
  interfaces := #[]
  cf := some (fileOf pool2 1 #[] #[] 1537 3 #[] #[])
  fields := #[]
  methods := #[]
  instanceTypes := #[]
  staticTypes := #[]
  resolved := Array.replicate 7 none
  statics := none }

def pool3 : Array CpInfo := pool [(1, .class_ 2), (0, u "java/lang/Comparable"), (0, .class_ 4), (0, u "java/lang/Object")] 7

/-- java/lang/Comparable -/
def k3 : Class := { plain "java/lang/Comparable" (some 0) with
  accessFlags := 1537
  interfaces := #[]
  cf := some (fileOf pool3 1 #[] #[] 1537 3 #[] #[])
  fields := #[]
  methods := #[]
  instanceTypes := #[]
  staticTypes := #[]
  resolved := Array.replicate 12 none
  statics := none }

def pool4 : Array CpInfo := pool [(2, .class_ 4), (1, u "java/lang/CharSequence"), (42, .class_ 48), (0, u "java/lang/CharSequence$1CodePointIterator"), (10, .class_ 60), (0, u "java/lang/CharSequence$1CharIterator"), (5, .class_ 67), (0, u "java/lang/Object")] 63

/-- java/lang/CharSequence -/
def k4 : Class := { plain "java/lang/CharSequence" (some 0) with
  accessFlags := 1537
  interfaces := #[]
  cf := some (fileOf pool4 2 #[.nestMembers #[47, 59]] #[] 1537 66 #[] #[])
  fields := #[]
  methods := #[]
  instanceTypes := #[]
  staticTypes := #[]
  resolved := Array.replicate 131 none
  statics := none }

def pool5 : Array CpInfo := pool [(1, .class_ 2), (0, u "java/lang/constant/Constable"), (0, .class_ 4), (0, u "java/lang/Object")] 6

/-- java/lang/constant/Constable -/
def k5 : Class := { plain "java/lang/constant/Constable" (some 0) with
  accessFlags := 1537
  interfaces := #[]
  cf := some (fileOf pool5 1 #[] #[] 1537 3 #[] #[])
  fields := #[]
  methods := #[]
  instanceTypes := #[]
  staticTypes := #[]
  resolved := Array.replicate 11 none
  statics := none }

def pool6 : Array CpInfo := pool [(1, .class_ 2), (0, u "java/lang/constant/ConstantDesc"), (0, .class_ 4), (0, u "java/lang/Object")] 32

/-- java/lang/constant/ConstantDesc -/
def k6 : Class := { plain "java/lang/constant/ConstantDesc" (some 0) with
  accessFlags := 1537
  interfaces := #[]
  cf := some (fileOf pool6 1 #[] #[] 1537 3 #[] #[])
  fields := #[]
  methods := #[]
  instanceTypes := #[]
  staticTypes := #[]
  resolved := Array.replicate 37 none
  statics := none }

def pool7 : Array CpInfo := pool [(1, .methodref 2 3), (0, .class_ 4), (0, .nameAndType 5 6), (0, u "java/lang/Object"), (0, u "<init>"), (0, u "()V"), (0, .string 8), (0, u ""), (0, .fieldref 10 11), (0, .class_ 12), (0, .nameAndType 13 14), (0, u "java/lang/String"), (0, u "value"), (0, u "[B"), (0, .fieldref 10 16), (0, .nameAndType 17 18), (0, u "coder"), (0, u "B"), (2, u "hash"), (0, u "I"), (2, u "hashIsZero"), (0, u "Z"), (0, .methodref 10 28), (0, .nameAndType 5 29), (0, u "([CIILjava/lang/Void;)V"), (8, .fieldref 10 39), (0, .nameAndType 40 26), (0, u "COMPACT_STRINGS"), (1, .class_ 44), (1, u "java/lang/StringUTF16"), (0, u "compress"), (1, .methodref 42 48), (0, .nameAndType 49 50), (0, u "coderFromArrayLen"), (0, u "([BI)B"), (2, u "toBytes"), (53, .class_ 109), (1, u "java/lang/StringLatin1"), (32, u "()Z"), (34, .methodref 42 178), (0, .nameAndType 45 179), (0, u "([CII)[B"), (29, .methodref 10 210), (0, .nameAndType 5 211), (0, u "([BB)V"), (122, u "()I"), (0, .methodref 10 336), (0, .nameAndType 17 337), (0, u "()B"), (25, u "([BI)C"), (5, u "(C)Z"), (21, u "(II)V"), (35, u "(I)C"), (64, .methodref 10 493), (0, .nameAndType 494 142), (0, u "isLatin1"), (0, .methodref 107 496), (0, .nameAndType 497 363), (0, u "charAt"), (0, .methodref 42 496), (2, u "checkIndex"), (5, u "length"), (35, u "equals"), (29, u "(Ljava/lang/Object;)Z"), (1, .class_ 576), (0, u "java/lang/CharSequence"), (22, u "CASE_INSENSITIVE_ORDER"), (0, u "Ljava/util/Comparator;"), (181, u "valueOf"), (0, u "(C)Ljava/lang/String;"), (226, u "([C)V"), (4, .methodref 107 1016), (0, .nameAndType 1017 369), (0, u "canEncode"), (0, .methodref 107 1019), (0, .nameAndType 53 1020), (0, u "(C)[B"), (32, .fieldref 1054 1055), (0, .class_ 1056), (0, .nameAndType 1057 1058), (0, u "jdk/internal/util/Preconditions"), (0, u "SIOOBE_FORMATTER"), (0, u "Ljava/util/function/BiFunction;"), (0, .methodref 1054 1060), (0, .nameAndType 501 1061), (0, u "(IILjava/util/function/BiFunction;)I"), (39, u "serialPersistentFields"), (0, u "[Ljava/io/ObjectStreamField;"), (0, .class_ 1104), (0, u "java/lang/String$CaseInsensitiveComparator"), (1, .class_ 1107), (0, u "java/io/Serializable"), (0, .class_ 1109), (0, u "java/lang/Comparable"), (0, .class_ 1111), (0, u "java/lang/constant/Constable"), (0, .class_ 1113), (0, u "java/lang/constant/ConstantDesc"), (2, u "serialVersionUID"), (0, u "J"), (3, u "REPL"), (0, u "C"), (2, u "LATIN1"), (1, u "UTF16")] 323

def k7m0 : Method := { name := "<init>", desc := "()V", sig := { parameters := [], returnType := none }, accessFlags := 1, code := none }
def k7c1 : Code := { maxStack := 5, maxLocals := 2, code := jdk_42_method_3_code, exceptionTable := #[], attributes := #[] }
def k7m1 : Method := { name := "<init>", desc := "([C)V", sig := { parameters := [(.array .char)], returnType := none }, accessFlags := 1, code := some k7c1 }
def k7c2 : Code := { maxStack := 2, maxLocals := 1, code := jdk_42_method_54_code, exceptionTable := #[], attributes := #[] }
def k7m2 : Method := { name := "length", desc := "()I", sig := { parameters := [], returnType := some .int }, accessFlags := 1, code := some k7c2 }
def k7c3 : Code := { maxStack := 2, maxLocals := 2, code := jdk_42_method_56_code, exceptionTable := #[], attributes := #[] }
def k7m3 : Method := { name := "charAt", desc := "(I)C", sig := { parameters := [.int], returnType := some .char }, accessFlags := 1, code := some k7c3 }
def k7c4 : Code := { maxStack := 2, maxLocals := 3, code := jdk_42_method_66_code, exceptionTable := #[], attributes := #[] }
def k7m4 : Method := { name := "equals", desc := "(Ljava/lang/Object;)Z", sig := { parameters := [(.object "java/lang/Object")], returnType := some .boolean }, accessFlags := 1, code := some k7c4 }
def k7c5 : Code := { maxStack := 4, maxLocals := 1, code := jdk_42_method_139_code, exceptionTable := #[], attributes := #[] }
def k7m5 : Method := { name := "valueOf", desc := "(C)Ljava/lang/String;", sig := { parameters := [.char], returnType := some (.object "java/lang/String") }, accessFlags := 9, code := some k7c5 }
def k7c6 : Code := { maxStack := 4, maxLocals := 6, code := jdk_42_method_149_code, exceptionTable := #[], attributes := #[] }
def k7m6 : Method := { name := "<init>", desc := "([CIILjava/lang/Void;)V", sig := { parameters := [(.array .char), .int, .int, (.object "java/lang/Void")], returnType := none }, accessFlags := 2, code := some k7c6 }
def k7c7 : Code := { maxStack := 2, maxLocals := 3, code := jdk_42_method_151_code, exceptionTable := #[], attributes := #[] }
def k7m7 : Method := { name := "<init>", desc := "([BB)V", sig := { parameters := [(.array .byte), .byte], returnType := none }, accessFlags := 0, code := some k7c7 }
def k7c8 : Code := { maxStack := 1, maxLocals := 1, code := jdk_42_method_152_code, exceptionTable := #[], attributes := #[] }
def k7m8 : Method := { name := "coder", desc := "()B", sig := { parameters := [], returnType := some .byte }, accessFlags := 0, code := some k7c8 }
def k7c9 : Code := { maxStack := 1, maxLocals := 1, code := jdk_42_method_154_code, exceptionTable := #[], attributes := #[] }
def k7m9 : Method := { name := "isLatin1", desc := "()Z", sig := { parameters := [], returnType := some .boolean }, accessFlags := 0, code := some k7c9 }
def k7c10 : Code := { maxStack := 3, maxLocals := 2, code := jdk_42_method_155_code, exceptionTable := #[], attributes := #[] }
def k7m10 : Method := { name := "checkIndex", desc := "(II)V", sig := { parameters := [.int, .int], returnType := none }, accessFlags := 8, code := some k7c10 }
/-- java/lang/String -/
def k7 : Class := { plain "java/lang/String" (some 0) with
  accessFlags := 49
  interfaces := #[2, 3, 4, 5, 6]
  cf := some (fileOf pool7 10 #[.nestMembers #[1103]] #[{ accessFlags := 1, nameIndex := 5, descriptorIndex := 6, attributes := #[] }, { accessFlags := 1, nameIndex := 5, descriptorIndex := 1010, attributes := #[] }, { accessFlags := 1, nameIndex := 507, descriptorIndex := 334, attributes := #[] }, { accessFlags := 1, nameIndex := 497, descriptorIndex := 427, attributes := #[] }, { accessFlags := 1, nameIndex := 543, descriptorIndex := 573, attributes := #[] }, { accessFlags := 9, nameIndex := 782, descriptorIndex := 783, attributes := #[] }, { accessFlags := 2, nameIndex := 5, descriptorIndex := 29, attributes := #[] }, { accessFlags := 0, nameIndex := 5, descriptorIndex := 211, attributes := #[] }, { accessFlags := 0, nameIndex := 17, descriptorIndex := 337, attributes := #[] }, { accessFlags := 0, nameIndex := 494, descriptorIndex := 142, attributes := #[] }, { accessFlags := 8, nameIndex := 501, descriptorIndex := 391, attributes := #[] }] 49 2 #[1106, 1108, 575, 1110, 1112] #[{ accessFlags := 18, nameIndex := 13, descriptorIndex := 14, attributes := #[] }, { accessFlags := 18, nameIndex := 17, descriptorIndex := 18, attributes := #[] }, { accessFlags := 2, nameIndex := 21, descriptorIndex := 22, attributes := #[] }, { accessFlags := 2, nameIndex := 25, descriptorIndex := 26, attributes := #[] }, { accessFlags := 26, nameIndex := 1116, descriptorIndex := 1117, attributes := #[] }, { accessFlags := 24, nameIndex := 40, descriptorIndex := 26, attributes := #[] }, { accessFlags := 26, nameIndex := 1101, descriptorIndex := 1102, attributes := #[] }, { accessFlags := 26, nameIndex := 1121, descriptorIndex := 1122, attributes := #[] }, { accessFlags := 25, nameIndex := 599, descriptorIndex := 600, attributes := #[] }, { accessFlags := 24, nameIndex := 1125, descriptorIndex := 18, attributes := #[] }, { accessFlags := 24, nameIndex := 1127, descriptorIndex := 18, attributes := #[] }])
  fields := #[{ name := "value", type := (.array .byte), accessFlags := 18, slot := 0, constantValue := 0 }, { name := "coder", type := .byte, accessFlags := 18, slot := 1, constantValue := 0 }, { name := "hash", type := .int, accessFlags := 2, slot := 2, constantValue := 0 }, { name := "hashIsZero", type := .boolean, accessFlags := 2, slot := 3, constantValue := 0 }, { name := "serialVersionUID", type := .long, accessFlags := 26, slot := 0, constantValue := 0 }, { name := "COMPACT_STRINGS", type := .boolean, accessFlags := 24, slot := 1, constantValue := 0 }, { name := "serialPersistentFields", type := (.array (.object "java/io/ObjectStreamField")), accessFlags := 26, slot := 2, constantValue := 0 }, { name := "REPL", type := .char, accessFlags := 26, slot := 3, constantValue := 0 }, { name := "CASE_INSENSITIVE_ORDER", type := (.object "java/util/Comparator"), accessFlags := 25, slot := 4, constantValue := 0 }, { name := "LATIN1", type := .byte, accessFlags := 24, slot := 5, constantValue := 0 }, { name := "UTF16", type := .byte, accessFlags := 24, slot := 6, constantValue := 0 }]
  methods := #[k7m0, k7m1, k7m2, k7m3, k7m4, k7m5, k7m6, k7m7, k7m8, k7m9, k7m10]
  instanceTypes := #[(.array .byte), .byte, .int, .boolean]
  staticTypes := #[.long, .boolean, (.array (.object "java/io/ObjectStreamField")), .char, (.object "java/util/Comparator"), .byte, .byte]
  resolved := Array.replicate 1451 none
  statics := some 0 }

def pool8 : Array CpInfo := pool [(1, .class_ 2), (0, u "java/lang/String"), (1, .class_ 6), (1, u "java/lang/Object"), (0, u "<init>"), (0, u "()V"), (0, .methodref 1 10), (0, .nameAndType 11 12), (0, u "checkIndex"), (0, u "(II)V"), (1, .class_ 16), (1, u "java/lang/StringLatin1"), (36, u "([BI)C"), (36, u "canEncode"), (14, u "(C)Z"), (15, u "$assertionsDisabled"), (0, u "Z"), (98, .class_ 223), (1, u "java/lang/StringLatin1$LinesSpliterator"), (28, u "charAt"), (127, u "toBytes"), (1, u "(C)[B"), (7, .class_ 391), (0, u "java/lang/StringLatin1$CharsSpliterator")] 3

def k8m0 : Method := { name := "<init>", desc := "()V", sig := { parameters := [], returnType := none }, accessFlags := 0, code := none }
def k8c1 : Code := { maxStack := 2, maxLocals := 2, code := jdk_43_method_2_code, exceptionTable := #[], attributes := #[] }
def k8m1 : Method := { name := "charAt", desc := "([BI)C", sig := { parameters := [(.array .byte), .int], returnType := some .char }, accessFlags := 9, code := some k8c1 }
def k8c2 : Code := { maxStack := 2, maxLocals := 1, code := jdk_43_method_3_code, exceptionTable := #[], attributes := #[] }
def k8m2 : Method := { name := "canEncode", desc := "(C)Z", sig := { parameters := [.char], returnType := some .boolean }, accessFlags := 9, code := some k8c2 }
def k8c3 : Code := { maxStack := 4, maxLocals := 1, code := jdk_43_method_46_code, exceptionTable := #[], attributes := #[] }
def k8m3 : Method := { name := "toBytes", desc := "(C)[B", sig := { parameters := [.char], returnType := some (.array .byte) }, accessFlags := 9, code := some k8c3 }
/-- java/lang/StringLatin1 -/
def k8 : Class := { plain "java/lang/StringLatin1" (some 0) with
  accessFlags := 48
  interfaces := #[]
  cf := some (fileOf pool8 14 #[.nestMembers #[390, 221]] #[{ accessFlags := 0, nameIndex := 7, descriptorIndex := 8, attributes := #[] }, { accessFlags := 9, nameIndex := 252, descriptorIndex := 53, attributes := #[] }, { accessFlags := 9, nameIndex := 90, descriptorIndex := 105, attributes := #[] }, { accessFlags := 9, nameIndex := 380, descriptorIndex := 382, attributes := #[] }] 48 4 #[] #[{ accessFlags := 4120, nameIndex := 121, descriptorIndex := 122, attributes := #[] }])
  fields := #[{ name := "$assertionsDisabled", type := .boolean, accessFlags := 4120, slot := 0, constantValue := 0 }]
  methods := #[k8m0, k8m1, k8m2, k8m3]
  instanceTypes := #[]
  staticTypes := #[.boolean]
  resolved := Array.replicate 395 none
  statics := none }

def pool9 : Array CpInfo := pool [(2, .class_ 4), (1, u "java/lang/Object"), (0, u "<init>"), (0, u "()V"), (0, .class_ 8), (0, u "com/example/stowfit/stowfit/Json"), (35, .class_ 46), (1, u "java/lang/String"), (41, .class_ 89), (0, u "com/example/stowfit/stowfit/Json$Parser"), (13, u "I"), (115, u "MAX_DEPTH"), (2, u "MAX_FILE_SIZE"), (0, u "J"), (19, u "string"), (0, u "(Ljava/lang/Object;Ljava/lang/String;)Ljava/lang/String;")] 33

def k9m0 : Method := { name := "<init>", desc := "()V", sig := { parameters := [], returnType := none }, accessFlags := 2, code := none }
def k9c1 : Code := { maxStack := 3, maxLocals := 3, code := prog_15_method_7_code, exceptionTable := #[], attributes := #[] }
def k9m1 : Method := { name := "string", desc := "(Ljava/lang/Object;Ljava/lang/String;)Ljava/lang/String;", sig := { parameters := [(.object "java/lang/Object"), (.object "java/lang/String")], returnType := some (.object "java/lang/String") }, accessFlags := 8, code := some k9c1 }
/-- com/example/stowfit/stowfit/Json -/
def k9 : Class := { plain "com/example/stowfit/stowfit/Json" (some 0) with
  accessFlags := 48
  interfaces := #[]
  cf := some (fileOf pool9 7 #[.nestMembers #[88]] #[{ accessFlags := 2, nameIndex := 5, descriptorIndex := 6, attributes := #[] }, { accessFlags := 8, nameIndex := 243, descriptorIndex := 244, attributes := #[] }] 48 2 #[] #[{ accessFlags := 26, nameIndex := 219, descriptorIndex := 103, attributes := #[] }, { accessFlags := 26, nameIndex := 222, descriptorIndex := 223, attributes := #[] }])
  fields := #[{ name := "MAX_DEPTH", type := .int, accessFlags := 26, slot := 0, constantValue := 0 }, { name := "MAX_FILE_SIZE", type := .long, accessFlags := 26, slot := 1, constantValue := 0 }]
  methods := #[k9m0, k9m1]
  instanceTypes := #[]
  staticTypes := #[.int, .long]
  resolved := Array.replicate 278 none
  statics := none }

def pool10 : Array CpInfo := pool [(3, .class_ 4), (0, u "java/lang/String"), (1, .class_ 8), (1, u "java/lang/Object"), (0, u "<init>"), (0, u "()V"), (0, .methodref 12 13), (0, .class_ 14), (0, .nameAndType 15 16), (0, u "java/lang/StringUTF16"), (0, u "newBytesLength"), (0, u "(I)I"), (3, .integer 1073741823), (23, .fieldref 12 45), (0, .nameAndType 46 47), (0, u "$assertionsDisabled"), (0, u "Z"), (0, .methodref 12 49), (0, .nameAndType 50 51), (0, u "length"), (0, u "([B)I"), (7, .fieldref 12 60), (0, .nameAndType 61 62), (0, u "HI_BYTE_SHIFT"), (0, u "I"), (0, .fieldref 12 64), (0, .nameAndType 65 62), (0, u "LO_BYTE_SHIFT"), (1, .methodref 12 68), (0, .nameAndType 69 70), (0, u "checkIndex"), (0, u "(I[B)V"), (0, .methodref 12 72), (0, .nameAndType 73 74), (0, u "getChar"), (0, u "([BI)C"), (32, .methodref 12 108), (0, .nameAndType 109 110), (0, u "newBytesFor"), (0, u "(I)[B"), (0, .methodref 12 112), (0, .nameAndType 113 114), (0, u "putChar"), (0, u "([BII)V"), (0, .methodref 12 116), (0, .nameAndType 117 118), (0, u "compress"), (0, u "([CI[BII)I"), (0, .methodref 12 120), (0, .nameAndType 121 122), (0, u "toBytes"), (0, u "([CII)[B"), (138, u "coderFromArrayLen"), (0, u "([BI)B"), (106, .class_ 371), (1, u "java/lang/StringUTF16$LinesSpliterator"), (20, u "charAt"), (21, .methodref 3 415), (0, .nameAndType 69 416), (0, u "(II)V"), (13, u "MAX_LENGTH"), (196, .class_ 628), (0, u "java/lang/StringUTF16$CodePointsSpliterator"), (0, .class_ 630), (0, u "java/lang/StringUTF16$CharsSpliterator")] 4

def k10m0 : Method := { name := "<init>", desc := "()V", sig := { parameters := [], returnType := none }, accessFlags := 0, code := none }
def k10c1 : Code := { maxStack := 1, maxLocals := 1, code := jdk_52_method_2_code, exceptionTable := #[], attributes := #[] }
def k10m1 : Method := { name := "newBytesFor", desc := "(I)[B", sig := { parameters := [.int], returnType := some (.array .byte) }, accessFlags := 9, code := some k10c1 }
def k10c2 : Code := { maxStack := 4, maxLocals := 1, code := jdk_52_method_3_code, exceptionTable := #[], attributes := #[] }
def k10m2 : Method := { name := "newBytesLength", desc := "(I)I", sig := { parameters := [.int], returnType := some .int }, accessFlags := 9, code := some k10c2 }
def k10c3 : Code := { maxStack := 4, maxLocals := 3, code := jdk_52_method_4_code, exceptionTable := #[], attributes := #[] }
def k10m3 : Method := { name := "putChar", desc := "([BII)V", sig := { parameters := [(.array .byte), .int, .int], returnType := none }, accessFlags := 8, code := some k10c3 }
def k10c4 : Code := { maxStack := 3, maxLocals := 2, code := jdk_52_method_5_code, exceptionTable := #[], attributes := #[] }
def k10m4 : Method := { name := "getChar", desc := "([BI)C", sig := { parameters := [(.array .byte), .int], returnType := some .char }, accessFlags := 8, code := some k10c4 }
def k10c5 : Code := { maxStack := 2, maxLocals := 1, code := jdk_52_method_6_code, exceptionTable := #[], attributes := #[] }
def k10m5 : Method := { name := "length", desc := "([B)I", sig := { parameters := [(.array .byte)], returnType := some .int }, accessFlags := 9, code := some k10c5 }
def k10c6 : Code := { maxStack := 4, maxLocals := 5, code := jdk_52_method_14_code, exceptionTable := #[], attributes := #[] }
def k10m6 : Method := { name := "toBytes", desc := "([CII)[B", sig := { parameters := [(.array .char), .int, .int], returnType := some (.array .byte) }, accessFlags := 9, code := some k10c6 }
def k10c7 : Code := { maxStack := 2, maxLocals := 2, code := jdk_52_method_15_code, exceptionTable := #[], attributes := #[] }
def k10m7 : Method := { name := "coderFromArrayLen", desc := "([BI)B", sig := { parameters := [(.array .byte), .int], returnType := some .byte }, accessFlags := 8, code := some k10c7 }
def k10c8 : Code := { maxStack := 5, maxLocals := 6, code := jdk_52_method_16_code, exceptionTable := #[], attributes := #[] }
def k10m8 : Method := { name := "compress", desc := "([CII)[B", sig := { parameters := [(.array .char), .int, .int], returnType := some (.array .byte) }, accessFlags := 9, code := some k10c8 }
def k10c9 : Code := { maxStack := 3, maxLocals := 7, code := jdk_52_method_21_code, exceptionTable := #[], attributes := #[] }
def k10m9 : Method := { name := "compress", desc := "([CI[BII)I", sig := { parameters := [(.array .char), .int, (.array .byte), .int, .int], returnType := some .int }, accessFlags := 9, code := some k10c9 }
def k10c10 : Code := { maxStack := 2, maxLocals := 2, code := jdk_52_method_83_code, exceptionTable := #[], attributes := #[] }
def k10m10 : Method := { name := "charAt", desc := "([BI)C", sig := { parameters := [(.array .byte), .int], returnType := some .char }, accessFlags := 9, code := some k10c10 }
def k10c11 : Code := { maxStack := 2, maxLocals := 2, code := jdk_52_method_91_code, exceptionTable := #[], attributes := #[] }
def k10m11 : Method := { name := "checkIndex", desc := "(I[B)V", sig := { parameters := [.int, (.array .byte)], returnType := none }, accessFlags := 9, code := some k10c11 }
/-- java/lang/StringUTF16 -/
def k10 : Class := { plain "java/lang/StringUTF16" (some 0) with
  accessFlags := 48
  interfaces := #[]
  cf := some (fileOf pool10 12 #[.nestMembers #[627, 629, 369]] #[{ accessFlags := 0, nameIndex := 9, descriptorIndex := 10, attributes := #[] }, { accessFlags := 9, nameIndex := 109, descriptorIndex := 110, attributes := #[] }, { accessFlags := 9, nameIndex := 15, descriptorIndex := 16, attributes := #[] }, { accessFlags := 8, nameIndex := 113, descriptorIndex := 114, attributes := #[] }, { accessFlags := 8, nameIndex := 73, descriptorIndex := 74, attributes := #[] }, { accessFlags := 9, nameIndex := 50, descriptorIndex := 51, attributes := #[] }, { accessFlags := 9, nameIndex := 121, descriptorIndex := 122, attributes := #[] }, { accessFlags := 8, nameIndex := 261, descriptorIndex := 262, attributes := #[] }, { accessFlags := 9, nameIndex := 117, descriptorIndex := 122, attributes := #[] }, { accessFlags := 9, nameIndex := 117, descriptorIndex := 118, attributes := #[] }, { accessFlags := 9, nameIndex := 392, descriptorIndex := 74, attributes := #[] }, { accessFlags := 9, nameIndex := 69, descriptorIndex := 70, attributes := #[] }] 48 6 #[] #[{ accessFlags := 26, nameIndex := 61, descriptorIndex := 62, attributes := #[] }, { accessFlags := 26, nameIndex := 65, descriptorIndex := 62, attributes := #[] }, { accessFlags := 24, nameIndex := 430, descriptorIndex := 62, attributes := #[] }, { accessFlags := 4120, nameIndex := 46, descriptorIndex := 47, attributes := #[] }])
  fields := #[{ name := "HI_BYTE_SHIFT", type := .int, accessFlags := 26, slot := 0, constantValue := 0 }, { name := "LO_BYTE_SHIFT", type := .int, accessFlags := 26, slot := 1, constantValue := 0 }, { name := "MAX_LENGTH", type := .int, accessFlags := 24, slot := 2, constantValue := 0 }, { name := "$assertionsDisabled", type := .boolean, accessFlags := 4120, slot := 3, constantValue := 0 }]
  methods := #[k10m0, k10m1, k10m2, k10m3, k10m4, k10m5, k10m6, k10m7, k10m8, k10m9, k10m10, k10m11]
  instanceTypes := #[]
  staticTypes := #[.int, .int, .int, .boolean]
  resolved := Array.replicate 635 none
  statics := some 1 }

def pool11 : Array CpInfo := pool [(2, .class_ 4), (1, u "java/lang/Object"), (0, u "<init>"), (0, u "()V"), (17, .class_ 26), (1, u "jdk/internal/util/Preconditions"), (6, u "checkIndex"), (21, .class_ 56), (0, u "jdk/internal/util/Preconditions$4"), (57, .class_ 115), (0, u "jdk/internal/util/Preconditions$1"), (7, u "SIOOBE_FORMATTER"), (0, u "Ljava/util/function/BiFunction;"), (0, .class_ 126), (0, u "jdk/internal/util/Preconditions$2"), (3, u "AIOOBE_FORMATTER"), (0, .class_ 132), (0, u "jdk/internal/util/Preconditions$3"), (3, u "IOOBE_FORMATTER"), (41, u "(IILjava/util/function/BiFunction;)I")] 15

def k11m0 : Method := { name := "<init>", desc := "()V", sig := { parameters := [], returnType := none }, accessFlags := 1, code := none }
def k11c1 : Code := { maxStack := 3, maxLocals := 3, code := jdk_41_method_11_code, exceptionTable := #[], attributes := #[] }
def k11m1 : Method := { name := "checkIndex", desc := "(IILjava/util/function/BiFunction;)I", sig := { parameters := [.int, .int, (.object "java/util/function/BiFunction")], returnType := some .int }, accessFlags := 9, code := some k11c1 }
/-- jdk/internal/util/Preconditions -/
def k11 : Class := { plain "jdk/internal/util/Preconditions" (some 0) with
  accessFlags := 33
  interfaces := #[]
  cf := some (fileOf pool11 24 #[.nestMembers #[55, 131, 125, 114]] #[{ accessFlags := 1, nameIndex := 5, descriptorIndex := 6, attributes := #[] }, { accessFlags := 9, nameIndex := 33, descriptorIndex := 178, attributes := #[] }] 33 2 #[] #[{ accessFlags := 25, nameIndex := 123, descriptorIndex := 124, attributes := #[] }, { accessFlags := 25, nameIndex := 130, descriptorIndex := 124, attributes := #[] }, { accessFlags := 25, nameIndex := 136, descriptorIndex := 124, attributes := #[] }])
  fields := #[{ name := "SIOOBE_FORMATTER", type := (.object "java/util/function/BiFunction"), accessFlags := 25, slot := 0, constantValue := 0 }, { name := "AIOOBE_FORMATTER", type := (.object "java/util/function/BiFunction"), accessFlags := 25, slot := 1, constantValue := 0 }, { name := "IOOBE_FORMATTER", type := (.object "java/util/function/BiFunction"), accessFlags := 25, slot := 2, constantValue := 0 }]
  methods := #[k11m0, k11m1]
  instanceTypes := #[]
  staticTypes := #[(.object "java/util/function/BiFunction"), (.object "java/util/function/BiFunction"), (.object "java/util/function/BiFunction")]
  resolved := Array.replicate 194 none
  statics := some 2 }

def pool12 : Array CpInfo := pool [(9, u "<init>"), (6, .class_ 18), (1, u "java/lang/Object"), (0, u "()V"), (1, .class_ 23), (1, u "jdk/internal/util/ArraysSupport"), (0, u "LOG2_ARRAY_LONG_INDEX_SCALE"), (0, u "I"), (2, u "U"), (0, u "Ljdk/internal/misc/Unsafe;"), (8, u "BIG_ENDIAN"), (0, u "Z"), (8, u "LOG2_BYTE_BIT_SIZE"), (4, u "LOG2_ARRAY_INT_INDEX_SCALE"), (54, u "JLA"), (0, u "Ljdk/internal/access/JavaLangAccess;"), (11, u "LOG2_ARRAY_BOOLEAN_INDEX_SCALE"), (9, u "LOG2_ARRAY_BYTE_INDEX_SCALE"), (5, u "LOG2_ARRAY_CHAR_INDEX_SCALE"), (5, u "LOG2_ARRAY_SHORT_INDEX_SCALE"), (18, u "LOG2_ARRAY_FLOAT_INDEX_SCALE"), (24, u "LOG2_ARRAY_DOUBLE_INDEX_SCALE"), (89, u "T_BOOLEAN"), (2, u "T_CHAR"), (1, u "T_FLOAT"), (1, u "T_DOUBLE"), (1, u "T_BYTE"), (1, u "T_SHORT"), (1, u "T_INT"), (1, u "T_LONG"), (1, u "SOFT_MAX_ARRAY_LENGTH")] 83

def k12m0 : Method := { name := "<init>", desc := "()V", sig := { parameters := [], returnType := none }, accessFlags := 2, code := none }
/-- jdk/internal/util/ArraysSupport -/
def k12 : Class := { plain "jdk/internal/util/ArraysSupport" (some 0) with
  accessFlags := 33
  interfaces := #[]
  cf := some (fileOf pool12 21 #[] #[{ accessFlags := 2, nameIndex := 9, descriptorIndex := 19, attributes := #[] }] 33 16 #[] #[{ accessFlags := 24, nameIndex := 28, descriptorIndex := 29, attributes := #[] }, { accessFlags := 26, nameIndex := 38, descriptorIndex := 39, attributes := #[] }, { accessFlags := 25, nameIndex := 121, descriptorIndex := 25, attributes := #[] }, { accessFlags := 25, nameIndex := 131, descriptorIndex := 25, attributes := #[] }, { accessFlags := 25, nameIndex := 137, descriptorIndex := 25, attributes := #[] }, { accessFlags := 25, nameIndex := 143, descriptorIndex := 25, attributes := #[] }, { accessFlags := 25, nameIndex := 53, descriptorIndex := 25, attributes := #[] }, { accessFlags := 25, nameIndex := 24, descriptorIndex := 25, attributes := #[] }, { accessFlags := 25, nameIndex := 162, descriptorIndex := 25, attributes := #[] }, { accessFlags := 25, nameIndex := 187, descriptorIndex := 25, attributes := #[] }, { accessFlags := 26, nameIndex := 48, descriptorIndex := 25, attributes := #[] }, { accessFlags := 25, nameIndex := 277, descriptorIndex := 25, attributes := #[] }, { accessFlags := 25, nameIndex := 280, descriptorIndex := 25, attributes := #[] }, { accessFlags := 25, nameIndex := 282, descriptorIndex := 25, attributes := #[] }, { accessFlags := 25, nameIndex := 284, descriptorIndex := 25, attributes := #[] }, { accessFlags := 25, nameIndex := 286, descriptorIndex := 25, attributes := #[] }, { accessFlags := 25, nameIndex := 288, descriptorIndex := 25, attributes := #[] }, { accessFlags := 25, nameIndex := 290, descriptorIndex := 25, attributes := #[] }, { accessFlags := 25, nameIndex := 292, descriptorIndex := 25, attributes := #[] }, { accessFlags := 26, nameIndex := 108, descriptorIndex := 109, attributes := #[] }, { accessFlags := 25, nameIndex := 294, descriptorIndex := 25, attributes := #[] }])
  fields := #[{ name := "U", type := (.object "jdk/internal/misc/Unsafe"), accessFlags := 24, slot := 0, constantValue := 0 }, { name := "BIG_ENDIAN", type := .boolean, accessFlags := 26, slot := 1, constantValue := 0 }, { name := "LOG2_ARRAY_BOOLEAN_INDEX_SCALE", type := .int, accessFlags := 25, slot := 2, constantValue := 0 }, { name := "LOG2_ARRAY_BYTE_INDEX_SCALE", type := .int, accessFlags := 25, slot := 3, constantValue := 0 }, { name := "LOG2_ARRAY_CHAR_INDEX_SCALE", type := .int, accessFlags := 25, slot := 4, constantValue := 0 }, { name := "LOG2_ARRAY_SHORT_INDEX_SCALE", type := .int, accessFlags := 25, slot := 5, constantValue := 0 }, { name := "LOG2_ARRAY_INT_INDEX_SCALE", type := .int, accessFlags := 25, slot := 6, constantValue := 0 }, { name := "LOG2_ARRAY_LONG_INDEX_SCALE", type := .int, accessFlags := 25, slot := 7, constantValue := 0 }, { name := "LOG2_ARRAY_FLOAT_INDEX_SCALE", type := .int, accessFlags := 25, slot := 8, constantValue := 0 }, { name := "LOG2_ARRAY_DOUBLE_INDEX_SCALE", type := .int, accessFlags := 25, slot := 9, constantValue := 0 }, { name := "LOG2_BYTE_BIT_SIZE", type := .int, accessFlags := 26, slot := 10, constantValue := 0 }, { name := "T_BOOLEAN", type := .int, accessFlags := 25, slot := 11, constantValue := 0 }, { name := "T_CHAR", type := .int, accessFlags := 25, slot := 12, constantValue := 0 }, { name := "T_FLOAT", type := .int, accessFlags := 25, slot := 13, constantValue := 0 }, { name := "T_DOUBLE", type := .int, accessFlags := 25, slot := 14, constantValue := 0 }, { name := "T_BYTE", type := .int, accessFlags := 25, slot := 15, constantValue := 0 }, { name := "T_SHORT", type := .int, accessFlags := 25, slot := 16, constantValue := 0 }, { name := "T_INT", type := .int, accessFlags := 25, slot := 17, constantValue := 0 }, { name := "T_LONG", type := .int, accessFlags := 25, slot := 18, constantValue := 0 }, { name := "JLA", type := (.object "jdk/internal/access/JavaLangAccess"), accessFlags := 26, slot := 19, constantValue := 0 }, { name := "SOFT_MAX_ARRAY_LENGTH", type := .int, accessFlags := 25, slot := 20, constantValue := 0 }]
  methods := #[k12m0]
  instanceTypes := #[]
  staticTypes := #[(.object "jdk/internal/misc/Unsafe"), .boolean, .int, .int, .int, .int, .int, .int, .int, .int, .int, .int, .int, .int, .int, .int, .int, .int, .int, (.object "jdk/internal/access/JavaLangAccess"), .int]
  resolved := Array.replicate 378 none
  statics := none }

def pool13 : Array CpInfo := pool [(1, u "java/lang/Cloneable"), (0, .class_ 1), (0, u "java/lang/Object"), (0, .class_ 3)] 3

/-- java/lang/Cloneable -/
def k13 : Class := { plain "java/lang/Cloneable" (some 0) with
  accessFlags := 1537
  interfaces := #[]
  cf := some (fileOf pool13 2 #[] #[] 1537 4 #[] #[])
  fields := #[]
  methods := #[]
  instanceTypes := #[]
  staticTypes := #[]
  resolved := Array.replicate 8 none
  statics := none }

/-- the primitive byte -/
def k14 : Class := { plain "byte" none with kind := .primitive 'B', accessFlags := 0x411 }
/-- [B -/
def k15 : Class := { plain "[B" (some 0) with kind := .array 14 .byte, interfaces := #[13, 2], accessFlags := 1041 }

/-- the primitive char -/
def k16 : Class := { plain "char" none with kind := .primitive 'C', accessFlags := 0x411 }
/-- [C -/
def k17 : Class := { plain "[C" (some 0) with kind := .array 16 .char, interfaces := #[13, 2], accessFlags := 1041 }

/-- the primitive int -/
def k18 : Class := { plain "int" none with kind := .primitive 'I', accessFlags := 0x411 }
/-- [I -/
def k19 : Class := { plain "[I" (some 0) with kind := .array 18 .int, interfaces := #[13, 2], accessFlags := 1041 }

def heap : Heap := #[{ cls := 7, slots := #[.long 0, .int 1, .null, .int 0, .null, .int 0, .int 0], vm := .statics 7 },
  { cls := 10, slots := #[.int 0, .int 8, .int 0, .int 1], vm := .statics 10 },
  { cls := 11, slots := #[.null, .null, .null], vm := .statics 11 }]
def classes : Array Class := #[k0, k1, k2, k3, k4, k5, k6, k7, k8, k9, k10, k11, k12, k13, k14, k15, k16, k17, k18, k19]
def interned : List (Array UInt16 × Addr) := []
def slotsUsed : Nat := 14
def theMethod : MethodId := ⟨1, 2⟩
def args0 : Array Value := #[.int 5, .int 5, .int 5, .int 5, .int 5]
def aboutOver (below : List Frame) : State where
  vm := { classes := classes, interned := interned.toArray }
  heap := heap
  slotsUsed := slotsUsed
  threads := #[{ frames := .invoking theMethod args0 :: below }]
def below0 : List Frame := [.native { method := ⟨0, 0⟩, args := #[] }]
def about1 : State := aboutOver below0
def p0 : Program := .bare "" "" ""
def e0 : Env := launch0.env 0 0 0
theorem w_frames : about1.frames = Frame.invoking theMethod args0 :: below0 := rfl
set_option maxRecDepth 65536 in
theorem w_args : argsFit about1.vm theMethod args0 = true := by decide +kernel
set_option maxRecDepth 65536 in
theorem w_heap : heapFits about1 = true := by decide +kernel
set_option maxRecDepth 65536 in
theorem w_runnable : about1.curStatus? = some .runnable := by decide +kernel
set_option maxRecDepth 65536 in
theorem w_alone : about1.alone = true := by decide +kernel
set_option maxRecDepth 65536 in
theorem w_named : about1.methodNamed? x = some theMethod := by decide +kernel
set_option maxRecDepth 65536 in
theorem w_hears : about1.hears theMethod below0 = true := by decide +kernel
set_option maxRecDepth 65536 in
theorem w_ripe : about1.ripe theMethod args0 below0 = true := by decide +kernel
theorem w_running : about1.status = .running := rfl
set_option maxRecDepth 65536 in
theorem w_room : about1.hasRoom e0.platform room_1 = true :=
  launch0.hasRoom_least _ room_1 (by decide +kernel) (by decide +kernel) (by decide +kernel) (by decide +kernel) (by decide +kernel) (by decide +kernel)
theorem allAtoms_all (ts : List Jvm.Cond) (a : Array Jvm.Value) (st : Jvm.State) : (allAtoms ts).before a st = ts.all (fun c => c.before a st) := by
  induction ts with
  | nil => rfl
  | cons c t ih =>
    show (Jvm.Cond.and c (allAtoms t)).before a st = _
    rw [Jvm.Cond.before_and, ih, List.all_cons]
def words1 : List Jvm.Cond := Jvm.Cond.code x code maxLocals ret :: tables_1
/-- a 'code' word, met by the world's own term for the bytes: nothing is compared byte by byte -/
theorem code_word {y : MethodName} {bytes : ByteArray} {mx : Nat} {rt : Option FieldType} {a : Array Value} {s : State} {m : MethodId} {meth : Method} {c : Code} (h1 : s.methodNamed? y = some m) (h2 : s.vm.method? m = some meth) (h3 : meth.code = some c) (h4 : c.code = bytes)
    (h5 : (c.maxLocals == mx && c.exceptionTable.isEmpty && decide (c.maxStack ≤ mostOperands) && decide (meth.sig.returnType = rt) && !meth.locks && decide (parseMethodDescriptor y.desc = some meth.sig)) = true) : (Jvm.Cond.code y bytes mx rt).before a s = true := by
  simp only [Bool.and_eq_true, beq_iff_eq, Bool.not_eq_true', decide_eq_true_eq] at h5
  obtain ⟨⟨⟨⟨⟨g1, g2⟩, g3⟩, g4⟩, g5⟩, g6⟩ := h5
  simp [Cond.before, Cond.holds, Cond.value, h1, h2, h3, h4, g1, g2, g3, g4, g5, g6]
def isCode : Jvm.Cond → Bool
  | .code _ _ _ _ => true
  | _ => false
theorem all_split {L : List Jvm.Cond} {P : Jvm.Cond → Bool} (h1 : L.all (fun c => isCode c || P c) = true) (h2 : ∀ c ∈ L.filter isCode, P c = true) : L.all P = true := by
  refine List.all_eq_true.mpr fun c hc => ?_
  have h := List.all_eq_true.mp h1 c hc
  rcases Bool.eq_false_or_eq_true (isCode c) with hi | hi
  · exact h2 c (List.mem_filter.mpr ⟨hc, hi⟩)
  · simpa [hi] using h
set_option maxRecDepth 65536 in
theorem w_c0 : (Jvm.Cond.code x code maxLocals ret).before args0 about1 = true := code_word (m := ⟨1, 2⟩) (meth := k1m2) (c := k1c2) (by decide +kernel) rfl rfl rfl (by decide +kernel)
set_option maxRecDepth 65536 in
theorem w_c1 : (Jvm.Cond.code ({ cls := "com/example/stowfit/stowfit/JsonStringPinLaw", name := "draw", desc := "(IIII)[C" } : Jvm.MethodName) method_2_code (7 : Nat) (Option.some (Jvm.ClassFile.FieldType.array Jvm.ClassFile.FieldType.char))).before args0 about1 = true := code_word (m := ⟨1, 1⟩) (meth := k1m1) (c := k1c1) (by decide +kernel) rfl rfl rfl (by decide +kernel)
set_option maxRecDepth 65536 in
theorem w_c2 : (Jvm.Cond.code ({ cls := "java/lang/String", name := "<init>", desc := "([C)V" } : Jvm.MethodName) jdk_42_method_3_code (2 : Nat) (Option.none : Option Jvm.ClassFile.FieldType)).before args0 about1 = true := code_word (m := ⟨7, 1⟩) (meth := k7m1) (c := k7c1) (by decide +kernel) rfl rfl rfl (by decide +kernel)
set_option maxRecDepth 65536 in
theorem w_c3 : (Jvm.Cond.code ({ cls := "java/lang/String", name := "<init>", desc := "([CIILjava/lang/Void;)V" } : Jvm.MethodName) jdk_42_method_149_code (6 : Nat) (Option.none : Option Jvm.ClassFile.FieldType)).before args0 about1 = true := code_word (m := ⟨7, 6⟩) (meth := k7m6) (c := k7c6) (by decide +kernel) rfl rfl rfl (by decide +kernel)
set_option maxRecDepth 65536 in
theorem w_c4 : (Jvm.Cond.code ({ cls := "java/lang/Object", name := "<init>", desc := "()V" } : Jvm.MethodName) object_method_1_code (1 : Nat) (Option.none : Option Jvm.ClassFile.FieldType)).before args0 about1 = true := code_word (m := ⟨0, 0⟩) (meth := k0m0) (c := k0c0) (by decide +kernel) rfl rfl rfl (by decide +kernel)
set_option maxRecDepth 65536 in
theorem w_c5 : (Jvm.Cond.code ({ cls := "java/lang/String", name := "valueOf", desc := "(C)Ljava/lang/String;" } : Jvm.MethodName) jdk_42_method_139_code (1 : Nat) (Option.some (Jvm.ClassFile.FieldType.object "java/lang/String"))).before args0 about1 = true := code_word (m := ⟨7, 5⟩) (meth := k7m5) (c := k7c5) (by decide +kernel) rfl rfl rfl (by decide +kernel)
set_option maxRecDepth 65536 in
theorem w_c6 : (Jvm.Cond.code ({ cls := "java/lang/StringLatin1", name := "canEncode", desc := "(C)Z" } : Jvm.MethodName) jdk_43_method_3_code (1 : Nat) (Option.some Jvm.ClassFile.FieldType.boolean)).before args0 about1 = true := code_word (m := ⟨8, 2⟩) (meth := k8m2) (c := k8c2) (by decide +kernel) rfl rfl rfl (by decide +kernel)
set_option maxRecDepth 65536 in
theorem w_c7 : (Jvm.Cond.code ({ cls := "java/lang/StringLatin1", name := "toBytes", desc := "(C)[B" } : Jvm.MethodName) jdk_43_method_46_code (1 : Nat) (Option.some (Jvm.ClassFile.FieldType.array Jvm.ClassFile.FieldType.byte))).before args0 about1 = true := code_word (m := ⟨8, 3⟩) (meth := k8m3) (c := k8c3) (by decide +kernel) rfl rfl rfl (by decide +kernel)
set_option maxRecDepth 65536 in
theorem w_c8 : (Jvm.Cond.code ({ cls := "java/lang/String", name := "<init>", desc := "([BB)V" } : Jvm.MethodName) jdk_42_method_151_code (3 : Nat) (Option.none : Option Jvm.ClassFile.FieldType)).before args0 about1 = true := code_word (m := ⟨7, 7⟩) (meth := k7m7) (c := k7c7) (by decide +kernel) rfl rfl rfl (by decide +kernel)
set_option maxRecDepth 65536 in
theorem w_c9 : (Jvm.Cond.code ({ cls := "com/example/stowfit/stowfit/Json", name := "string", desc := "(Ljava/lang/Object;Ljava/lang/String;)Ljava/lang/String;" } : Jvm.MethodName) prog_15_method_7_code (3 : Nat) (Option.some (Jvm.ClassFile.FieldType.object "java/lang/String"))).before args0 about1 = true := code_word (m := ⟨9, 1⟩) (meth := k9m1) (c := k9c1) (by decide +kernel) rfl rfl rfl (by decide +kernel)
set_option maxRecDepth 65536 in
theorem w_c10 : (Jvm.Cond.code ({ cls := "java/lang/String", name := "length", desc := "()I" } : Jvm.MethodName) jdk_42_method_54_code (1 : Nat) (Option.some Jvm.ClassFile.FieldType.int)).before args0 about1 = true := code_word (m := ⟨7, 2⟩) (meth := k7m2) (c := k7c2) (by decide +kernel) rfl rfl rfl (by decide +kernel)
set_option maxRecDepth 65536 in
theorem w_c11 : (Jvm.Cond.code ({ cls := "java/lang/String", name := "coder", desc := "()B" } : Jvm.MethodName) jdk_42_method_152_code (1 : Nat) (Option.some Jvm.ClassFile.FieldType.byte)).before args0 about1 = true := code_word (m := ⟨7, 8⟩) (meth := k7m8) (c := k7c8) (by decide +kernel) rfl rfl rfl (by decide +kernel)
set_option maxRecDepth 65536 in
theorem w_c12 : (Jvm.Cond.code ({ cls := "java/lang/String", name := "equals", desc := "(Ljava/lang/Object;)Z" } : Jvm.MethodName) jdk_42_method_66_code (3 : Nat) (Option.some Jvm.ClassFile.FieldType.boolean)).before args0 about1 = true := code_word (m := ⟨7, 4⟩) (meth := k7m4) (c := k7c4) (by decide +kernel) rfl rfl rfl (by decide +kernel)
set_option maxRecDepth 65536 in
theorem w_c13 : (Jvm.Cond.code ({ cls := "java/lang/StringUTF16", name := "compress", desc := "([CII)[B" } : Jvm.MethodName) jdk_52_method_16_code (6 : Nat) (Option.some (Jvm.ClassFile.FieldType.array Jvm.ClassFile.FieldType.byte))).before args0 about1 = true := code_word (m := ⟨10, 8⟩) (meth := k10m8) (c := k10c8) (by decide +kernel) rfl rfl rfl (by decide +kernel)
set_option maxRecDepth 65536 in
theorem w_c14 : (Jvm.Cond.code ({ cls := "java/lang/StringUTF16", name := "compress", desc := "([CI[BII)I" } : Jvm.MethodName) jdk_52_method_21_code (7 : Nat) (Option.some Jvm.ClassFile.FieldType.int)).before args0 about1 = true := code_word (m := ⟨10, 9⟩) (meth := k10m9) (c := k10c9) (by decide +kernel) rfl rfl rfl (by decide +kernel)
set_option maxRecDepth 65536 in
theorem w_c15 : (Jvm.Cond.code ({ cls := "java/lang/StringUTF16", name := "coderFromArrayLen", desc := "([BI)B" } : Jvm.MethodName) jdk_52_method_15_code (2 : Nat) (Option.some Jvm.ClassFile.FieldType.byte)).before args0 about1 = true := code_word (m := ⟨10, 7⟩) (meth := k10m7) (c := k10c7) (by decide +kernel) rfl rfl rfl (by decide +kernel)
set_option maxRecDepth 65536 in
theorem w_c16 : (Jvm.Cond.code ({ cls := "java/lang/String", name := "charAt", desc := "(I)C" } : Jvm.MethodName) jdk_42_method_56_code (2 : Nat) (Option.some Jvm.ClassFile.FieldType.char)).before args0 about1 = true := code_word (m := ⟨7, 3⟩) (meth := k7m3) (c := k7c3) (by decide +kernel) rfl rfl rfl (by decide +kernel)
set_option maxRecDepth 65536 in
theorem w_c17 : (Jvm.Cond.code ({ cls := "java/lang/String", name := "isLatin1", desc := "()Z" } : Jvm.MethodName) jdk_42_method_154_code (1 : Nat) (Option.some Jvm.ClassFile.FieldType.boolean)).before args0 about1 = true := code_word (m := ⟨7, 9⟩) (meth := k7m9) (c := k7c9) (by decide +kernel) rfl rfl rfl (by decide +kernel)
set_option maxRecDepth 65536 in
theorem w_c18 : (Jvm.Cond.code ({ cls := "java/lang/StringLatin1", name := "charAt", desc := "([BI)C" } : Jvm.MethodName) jdk_43_method_2_code (2 : Nat) (Option.some Jvm.ClassFile.FieldType.char)).before args0 about1 = true := code_word (m := ⟨8, 1⟩) (meth := k8m1) (c := k8c1) (by decide +kernel) rfl rfl rfl (by decide +kernel)
set_option maxRecDepth 65536 in
theorem w_c19 : (Jvm.Cond.code ({ cls := "java/lang/String", name := "checkIndex", desc := "(II)V" } : Jvm.MethodName) jdk_42_method_155_code (2 : Nat) (Option.none : Option Jvm.ClassFile.FieldType)).before args0 about1 = true := code_word (m := ⟨7, 10⟩) (meth := k7m10) (c := k7c10) (by decide +kernel) rfl rfl rfl (by decide +kernel)
set_option maxRecDepth 65536 in
theorem w_c20 : (Jvm.Cond.code ({ cls := "jdk/internal/util/Preconditions", name := "checkIndex", desc := "(IILjava/util/function/BiFunction;)I" } : Jvm.MethodName) jdk_41_method_11_code (3 : Nat) (Option.some Jvm.ClassFile.FieldType.int)).before args0 about1 = true := code_word (m := ⟨11, 1⟩) (meth := k11m1) (c := k11c1) (by decide +kernel) rfl rfl rfl (by decide +kernel)
set_option maxRecDepth 65536 in
theorem w_c21 : (Jvm.Cond.code ({ cls := "java/lang/StringUTF16", name := "toBytes", desc := "([CII)[B" } : Jvm.MethodName) jdk_52_method_14_code (5 : Nat) (Option.some (Jvm.ClassFile.FieldType.array Jvm.ClassFile.FieldType.byte))).before args0 about1 = true := code_word (m := ⟨10, 6⟩) (meth := k10m6) (c := k10c6) (by decide +kernel) rfl rfl rfl (by decide +kernel)
set_option maxRecDepth 65536 in
theorem w_c22 : (Jvm.Cond.code ({ cls := "java/lang/StringUTF16", name := "newBytesFor", desc := "(I)[B" } : Jvm.MethodName) jdk_52_method_2_code (1 : Nat) (Option.some (Jvm.ClassFile.FieldType.array Jvm.ClassFile.FieldType.byte))).before args0 about1 = true := code_word (m := ⟨10, 1⟩) (meth := k10m1) (c := k10c1) (by decide +kernel) rfl rfl rfl (by decide +kernel)
set_option maxRecDepth 65536 in
theorem w_c23 : (Jvm.Cond.code ({ cls := "java/lang/StringUTF16", name := "newBytesLength", desc := "(I)I" } : Jvm.MethodName) jdk_52_method_3_code (1 : Nat) (Option.some Jvm.ClassFile.FieldType.int)).before args0 about1 = true := code_word (m := ⟨10, 2⟩) (meth := k10m2) (c := k10c2) (by decide +kernel) rfl rfl rfl (by decide +kernel)
set_option maxRecDepth 65536 in
theorem w_c24 : (Jvm.Cond.code ({ cls := "java/lang/StringUTF16", name := "putChar", desc := "([BII)V" } : Jvm.MethodName) jdk_52_method_4_code (3 : Nat) (Option.none : Option Jvm.ClassFile.FieldType)).before args0 about1 = true := code_word (m := ⟨10, 3⟩) (meth := k10m3) (c := k10c3) (by decide +kernel) rfl rfl rfl (by decide +kernel)
set_option maxRecDepth 65536 in
theorem w_c25 : (Jvm.Cond.code ({ cls := "java/lang/StringUTF16", name := "getChar", desc := "([BI)C" } : Jvm.MethodName) jdk_52_method_5_code (2 : Nat) (Option.some Jvm.ClassFile.FieldType.char)).before args0 about1 = true := code_word (m := ⟨10, 4⟩) (meth := k10m4) (c := k10c4) (by decide +kernel) rfl rfl rfl (by decide +kernel)
set_option maxRecDepth 65536 in
theorem w_c26 : (Jvm.Cond.code ({ cls := "java/lang/StringUTF16", name := "charAt", desc := "([BI)C" } : Jvm.MethodName) jdk_52_method_83_code (2 : Nat) (Option.some Jvm.ClassFile.FieldType.char)).before args0 about1 = true := code_word (m := ⟨10, 10⟩) (meth := k10m10) (c := k10c10) (by decide +kernel) rfl rfl rfl (by decide +kernel)
set_option maxRecDepth 65536 in
theorem w_c27 : (Jvm.Cond.code ({ cls := "java/lang/StringUTF16", name := "checkIndex", desc := "(I[B)V" } : Jvm.MethodName) jdk_52_method_91_code (2 : Nat) (Option.none : Option Jvm.ClassFile.FieldType)).before args0 about1 = true := code_word (m := ⟨10, 11⟩) (meth := k10m11) (c := k10c11) (by decide +kernel) rfl rfl rfl (by decide +kernel)
set_option maxRecDepth 65536 in
theorem w_c28 : (Jvm.Cond.code ({ cls := "java/lang/StringUTF16", name := "length", desc := "([B)I" } : Jvm.MethodName) jdk_52_method_6_code (1 : Nat) (Option.some Jvm.ClassFile.FieldType.int)).before args0 about1 = true := code_word (m := ⟨10, 5⟩) (meth := k10m5) (c := k10c5) (by decide +kernel) rfl rfl rfl (by decide +kernel)
def codes1 : List Jvm.Cond := [Jvm.Cond.code x code maxLocals ret, Jvm.Cond.code ({ cls := "com/example/stowfit/stowfit/JsonStringPinLaw", name := "draw", desc := "(IIII)[C" } : Jvm.MethodName) method_2_code (7 : Nat) (Option.some (Jvm.ClassFile.FieldType.array Jvm.ClassFile.FieldType.char)), Jvm.Cond.code ({ cls := "java/lang/String", name := "<init>", desc := "([C)V" } : Jvm.MethodName) jdk_42_method_3_code (2 : Nat) (Option.none : Option Jvm.ClassFile.FieldType), Jvm.Cond.code ({ cls := "java/lang/String", name := "<init>", desc := "([CIILjava/lang/Void;)V" } : Jvm.MethodName) jdk_42_method_149_code (6 : Nat) (Option.none : Option Jvm.ClassFile.FieldType), Jvm.Cond.code ({ cls := "java/lang/Object", name := "<init>", desc := "()V" } : Jvm.MethodName) object_method_1_code (1 : Nat) (Option.none : Option Jvm.ClassFile.FieldType), Jvm.Cond.code ({ cls := "java/lang/String", name := "valueOf", desc := "(C)Ljava/lang/String;" } : Jvm.MethodName) jdk_42_method_139_code (1 : Nat) (Option.some (Jvm.ClassFile.FieldType.object "java/lang/String")), Jvm.Cond.code ({ cls := "java/lang/StringLatin1", name := "canEncode", desc := "(C)Z" } : Jvm.MethodName) jdk_43_method_3_code (1 : Nat) (Option.some Jvm.ClassFile.FieldType.boolean), Jvm.Cond.code ({ cls := "java/lang/StringLatin1", name := "toBytes", desc := "(C)[B" } : Jvm.MethodName) jdk_43_method_46_code (1 : Nat) (Option.some (Jvm.ClassFile.FieldType.array Jvm.ClassFile.FieldType.byte)), Jvm.Cond.code ({ cls := "java/lang/String", name := "<init>", desc := "([BB)V" } : Jvm.MethodName) jdk_42_method_151_code (3 : Nat) (Option.none : Option Jvm.ClassFile.FieldType), Jvm.Cond.code ({ cls := "com/example/stowfit/stowfit/Json", name := "string", desc := "(Ljava/lang/Object;Ljava/lang/String;)Ljava/lang/String;" } : Jvm.MethodName) prog_15_method_7_code (3 : Nat) (Option.some (Jvm.ClassFile.FieldType.object "java/lang/String")), Jvm.Cond.code ({ cls := "java/lang/String", name := "length", desc := "()I" } : Jvm.MethodName) jdk_42_method_54_code (1 : Nat) (Option.some Jvm.ClassFile.FieldType.int), Jvm.Cond.code ({ cls := "java/lang/String", name := "coder", desc := "()B" } : Jvm.MethodName) jdk_42_method_152_code (1 : Nat) (Option.some Jvm.ClassFile.FieldType.byte), Jvm.Cond.code ({ cls := "java/lang/String", name := "equals", desc := "(Ljava/lang/Object;)Z" } : Jvm.MethodName) jdk_42_method_66_code (3 : Nat) (Option.some Jvm.ClassFile.FieldType.boolean), Jvm.Cond.code ({ cls := "java/lang/StringUTF16", name := "compress", desc := "([CII)[B" } : Jvm.MethodName) jdk_52_method_16_code (6 : Nat) (Option.some (Jvm.ClassFile.FieldType.array Jvm.ClassFile.FieldType.byte)), Jvm.Cond.code ({ cls := "java/lang/StringUTF16", name := "compress", desc := "([CI[BII)I" } : Jvm.MethodName) jdk_52_method_21_code (7 : Nat) (Option.some Jvm.ClassFile.FieldType.int), Jvm.Cond.code ({ cls := "java/lang/StringUTF16", name := "coderFromArrayLen", desc := "([BI)B" } : Jvm.MethodName) jdk_52_method_15_code (2 : Nat) (Option.some Jvm.ClassFile.FieldType.byte), Jvm.Cond.code ({ cls := "java/lang/String", name := "charAt", desc := "(I)C" } : Jvm.MethodName) jdk_42_method_56_code (2 : Nat) (Option.some Jvm.ClassFile.FieldType.char), Jvm.Cond.code ({ cls := "java/lang/String", name := "isLatin1", desc := "()Z" } : Jvm.MethodName) jdk_42_method_154_code (1 : Nat) (Option.some Jvm.ClassFile.FieldType.boolean), Jvm.Cond.code ({ cls := "java/lang/StringLatin1", name := "charAt", desc := "([BI)C" } : Jvm.MethodName) jdk_43_method_2_code (2 : Nat) (Option.some Jvm.ClassFile.FieldType.char), Jvm.Cond.code ({ cls := "java/lang/String", name := "checkIndex", desc := "(II)V" } : Jvm.MethodName) jdk_42_method_155_code (2 : Nat) (Option.none : Option Jvm.ClassFile.FieldType), Jvm.Cond.code ({ cls := "jdk/internal/util/Preconditions", name := "checkIndex", desc := "(IILjava/util/function/BiFunction;)I" } : Jvm.MethodName) jdk_41_method_11_code (3 : Nat) (Option.some Jvm.ClassFile.FieldType.int), Jvm.Cond.code ({ cls := "java/lang/StringUTF16", name := "toBytes", desc := "([CII)[B" } : Jvm.MethodName) jdk_52_method_14_code (5 : Nat) (Option.some (Jvm.ClassFile.FieldType.array Jvm.ClassFile.FieldType.byte)), Jvm.Cond.code ({ cls := "java/lang/StringUTF16", name := "newBytesFor", desc := "(I)[B" } : Jvm.MethodName) jdk_52_method_2_code (1 : Nat) (Option.some (Jvm.ClassFile.FieldType.array Jvm.ClassFile.FieldType.byte)), Jvm.Cond.code ({ cls := "java/lang/StringUTF16", name := "newBytesLength", desc := "(I)I" } : Jvm.MethodName) jdk_52_method_3_code (1 : Nat) (Option.some Jvm.ClassFile.FieldType.int), Jvm.Cond.code ({ cls := "java/lang/StringUTF16", name := "putChar", desc := "([BII)V" } : Jvm.MethodName) jdk_52_method_4_code (3 : Nat) (Option.none : Option Jvm.ClassFile.FieldType), Jvm.Cond.code ({ cls := "java/lang/StringUTF16", name := "getChar", desc := "([BI)C" } : Jvm.MethodName) jdk_52_method_5_code (2 : Nat) (Option.some Jvm.ClassFile.FieldType.char), Jvm.Cond.code ({ cls := "java/lang/StringUTF16", name := "charAt", desc := "([BI)C" } : Jvm.MethodName) jdk_52_method_83_code (2 : Nat) (Option.some Jvm.ClassFile.FieldType.char), Jvm.Cond.code ({ cls := "java/lang/StringUTF16", name := "checkIndex", desc := "(I[B)V" } : Jvm.MethodName) jdk_52_method_91_code (2 : Nat) (Option.none : Option Jvm.ClassFile.FieldType), Jvm.Cond.code ({ cls := "java/lang/StringUTF16", name := "length", desc := "([B)I" } : Jvm.MethodName) jdk_52_method_6_code (1 : Nat) (Option.some Jvm.ClassFile.FieldType.int)]
set_option maxRecDepth 65536 in
theorem codes_eq : words1.filter isCode = codes1 := rfl
theorem w_codes : ∀ c ∈ words1.filter isCode, c.before args0 about1 = true := by
  rw [codes_eq]
  intro c hc
  simp only [codes1, List.mem_cons, List.not_mem_nil, or_false] at hc
  rcases hc with rfl | rfl | rfl | rfl | rfl | rfl | rfl | rfl | rfl | rfl | rfl | rfl | rfl | rfl | rfl | rfl | rfl | rfl | rfl | rfl | rfl | rfl | rfl | rfl | rfl | rfl | rfl | rfl | rfl
  · exact w_c0
  · exact w_c1
  · exact w_c2
  · exact w_c3
  · exact w_c4
  · exact w_c5
  · exact w_c6
  · exact w_c7
  · exact w_c8
  · exact w_c9
  · exact w_c10
  · exact w_c11
  · exact w_c12
  · exact w_c13
  · exact w_c14
  · exact w_c15
  · exact w_c16
  · exact w_c17
  · exact w_c18
  · exact w_c19
  · exact w_c20
  · exact w_c21
  · exact w_c22
  · exact w_c23
  · exact w_c24
  · exact w_c25
  · exact w_c26
  · exact w_c27
  · exact w_c28
set_option maxRecDepth 65536 in
theorem w_t1 : (words1.take 24).all (fun c => isCode c || c.before args0 about1) = true := by decide +kernel
set_option maxRecDepth 65536 in
theorem w_t2 : ((words1.drop 24).take 24).all (fun c => isCode c || c.before args0 about1) = true := by decide +kernel
set_option maxRecDepth 65536 in
theorem w_t3 : (((words1.drop 24).drop 24).take 24).all (fun c => isCode c || c.before args0 about1) = true := by decide +kernel
set_option maxRecDepth 65536 in
theorem w_t4 : ((((words1.drop 24).drop 24).drop 24).take 24).all (fun c => isCode c || c.before args0 about1) = true := by decide +kernel
set_option maxRecDepth 65536 in
theorem w_t5 : (((((words1.drop 24).drop 24).drop 24).drop 24).take 24).all (fun c => isCode c || c.before args0 about1) = true := by decide +kernel
set_option maxRecDepth 65536 in
theorem w_t6 : (((((words1.drop 24).drop 24).drop 24).drop 24).drop 24).all (fun c => isCode c || c.before args0 about1) = true := by decide +kernel
theorem w_tables : (allAtoms (Jvm.Cond.code x code maxLocals ret :: tables_1)).before args0 about1 = true := by
  rw [allAtoms_all]
  show words1.all (fun c => c.before args0 about1) = true
  refine all_split ?_ w_codes
  rw [← List.take_append_drop 24 words1, List.all_append, w_t1, ← List.take_append_drop 24 (words1.drop 24), List.all_append, w_t2, ← List.take_append_drop 24 ((words1.drop 24).drop 24), List.all_append, w_t3, ← List.take_append_drop 24 (((words1.drop 24).drop 24).drop 24), List.all_append, w_t4, ← List.take_append_drop 24 ((((words1.drop 24).drop 24).drop 24).drop 24), List.all_append, w_t5, w_t6]
  rfl
set_option maxRecDepth 65536 in
theorem w_rest : rest_1_c.before args0 about1 = true := by decide +kernel
set_option maxRecDepth 65536 in
theorem w_case : (Jvm.Cond.and given_1 narrow_1).before args0 about1 = true := by decide +kernel
set_option maxRecDepth 65536 in
theorem w_consts : constsHeld consts_1 about1 := Jvm.Lit.constsHeldB_iff.mp (by decide +kernel)
theorem w_applies : (headSpec (Jvm.Cond.code x code maxLocals ret :: tables_1) room_1).applies x e0.platform about1 = true :=
  (Spec.applies_iff w_frames).mpr ⟨w_running, w_runnable, w_alone, w_named, w_hears, w_ripe, w_room, w_tables⟩
theorem atStart : AtStart classFile x code maxLocals ret World_1 tables_1 room_1 Calls_1 rest_1 Pre_1 launch0 p0 e0 about1 theMethod args0 below0 :=
  ⟨lists_1, trivial, launch0.admits_env _ _ _, launch0.least_env, fairChoices_fair.cas, fairChoices_fair.clock, w_frames, w_args, w_heap, w_applies, ⟨w_consts, trivial⟩, w_rest, w_case⟩
end start1
theorem witness_1 : WitnessClaimed_1 := ⟨start1.p0, start1.e0, start1.about1, start1.theMethod, start1.args0, start1.below0, start1.atStart⟩
end Jvm.Pilot.@@N@@
