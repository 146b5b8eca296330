import JvmDerived
import JvmDerived.Pilot.@@N@@Statement
import JvmDerived.Pilot.@@N@@Code
set_option linter.unusedVariables false
set_option linter.unusedSimpArgs false
namespace Jvm.RoadKit
open Sem ClassFile Op Lib Jvm.Stand Jvm.Free Jvm.LawKit
section New
variable {p : Program} {l : Launch} {e : Env} {R : Room} {s : State} {m : MethodId} {args : Array Value} {below : List Frame} {meth : Method} {c : Code} {T : State} {locs : List Loc} {cells slots : Nat}
theorem retI (X : Stand p l e R s m args below meth c T locs cells slots) (hx : p.tables.exec = Jvm.exec) {pc : Nat} {Ls : Array Slot} {z : Int32} {rest : List Value} (hret : meth.sig.returnType = some .int) (hd : decode c.code pc = .ok (.ireturn, 1)) {fs : List Frame}
    (hl : ∀ (f : JFrame) (acts : List Action), f.method = m → f.locked = none → f.entered = [] → (doReturn e (T.setTop f) acts (some (.int z))).1 = T.setFrames fs) : Steps p.tables e below (T.setTop (mkF m pc Ls (.int z :: rest))) (T.setFrames fs) := by
  have hm' : T.vm.method? m = some meth := X.method'
  have hn : narrow .int (.int z) = .int z := rfl
  show Steps p.tables e below (T.setTop { method := m, pc := pc, locals := Ls, stack := _ :: rest, locked := none }) _
  jvm_step X.here [X.here.top, hx, hd, hm', hret, hn]
  first | (intro acts; rw [hl _ acts rfl rfl rfl]) | rw [hl _ _ rfl rfl rfl]
  exact Steps.refl _
theorem retR (X : Stand p l e R s m args below meth c T locs cells slots) (hx : p.tables.exec = Jvm.exec) {pc : Nat} {Ls : Array Slot} {w : Value} {t : FieldType} {rest : List Value} (hret : meth.sig.returnType = some t) (hn : narrow t w = w) (ht : t.isReference = true) (hw : w.isRef = true) (hd : decode c.code pc = .ok (.areturn, 1)) {fs : List Frame}
    (hl : ∀ (f : JFrame) (acts : List Action), f.method = m → f.locked = none → f.entered = [] → (doReturn e (T.setTop f) acts (some w)).1 = T.setFrames fs) : Steps p.tables e below (T.setTop (mkF m pc Ls (w :: rest))) (T.setFrames fs) := by
  have hm' : T.vm.method? m = some meth := X.method'
  show Steps p.tables e below (T.setTop { method := m, pc := pc, locals := Ls, stack := _ :: rest, locked := none }) _
  jvm_step X.here [X.here.top, hx, hd, hm', hret, hn, hw]
  try (refine ⟨ht, ?_⟩)
  first | (intro acts; rw [hl _ acts rfl rfl rfl]) | rw [hl _ _ rfl rfl rfl]
  exact Steps.refl _
end New
end Jvm.RoadKit
/- laws to paste: Road.backV (cut by pick.py; bodies as the Statement names them) -/
namespace Jvm.Pilot.@@N@@
namespace StrChars
open Jvm Sem ClassFile Op Lib Jvm.Stand Jvm.Free.XT Jvm.Free.ALB Jvm.Free.JM Jvm.Free
open Jvm.Lib.Cold (StaticIs)
/-- a char array whose places are chars -/
def Ch (a : Addr) (A : Cell) (U : State) : Prop := Arr .char a A U ∧ Typed .char A
theorem Ch.mv {a : Addr} {A : Cell} {U U' : State} (h : Ch a A U) (hal : U.vm.Alike U'.vm) (hh : U'.heap = U.heap) : Ch a A U' := ⟨h.1.mv hal hh, h.2⟩
theorem Ch.keep {a : Addr} {A : Cell} {U U' : State} (h : Ch a A U) (hal : U.vm.Alike U'.vm) (hk : U'.heap[a]? = some A) : Ch a A U' := ⟨h.1.keep hal hk, h.2⟩
/-- what place i of a char[]'s cell holds -/
def cv (A : Cell) (i : Nat) : Int32 := match A.slots[i]? with | some (.int x) => x | _ => 0
theorem Ch.get {a : Addr} {A : Cell} {U : State} (h : Ch a A U) {i : Nat} (hi : i < A.slots.size) : A.slots[i]? = some (.int (cv A i)) := by
  have e := Array.getElem?_eq_getElem hi
  have f := h.2 i _ e
  unfold cv; rw [e]
  generalize A.slots[i] = v at f
  cases v <;> simp [fits] at f ⊢
/-- the byte that i2b leaves of a char -/
def lo8 (x : Int32) : Int32 := x.toInt8.toInt32
theorem fits_lo8 (y : Int32) : fits .byte (.int (lo8 y)) = true := by
  have h1 := y.toInt8.le_toInt
  have h2 := y.toInt8.toInt_lt
  simp only [lo8, fits, Bool.and_eq_true, decide_eq_true_eq, Int32.le_iff_toInt_le, Int8.toInt_toInt32, show (-128 : Int32).toInt = -128 from by decide, show (127 : Int32).toInt = 127 from by decide]
  omega
/-- A' is A but that each place j of lo .. hi - 1 holds f j -/
def Laid (A A' : Cell) (lo hi : Nat) (f : Nat → Value) : Prop := A'.cls = A.cls ∧ A'.vm = A.vm ∧ A'.slots.size = A.slots.size ∧ ∀ i, A'.slots[i]? = if lo ≤ i ∧ i < hi then some (f i) else A.slots[i]?
theorem Laid.zero (A : Cell) (lo : Nat) (f : Nat → Value) : Laid A A lo (lo + 0) f := ⟨rfl, rfl, rfl, fun i => by rw [if_neg (by omega)]⟩
theorem Laid.step {A Ak : Cell} {lo k : Nat} {f : Nat → Value} {v : Value} (h : Laid A Ak lo k f) (hlo : lo ≤ k) (hk : k < Ak.slots.size) (hv : v = f k) : Laid A (Ak.setSlot k v) lo (k + 1) f := by
  refine ⟨h.1, h.2.1, by simpa [Cell.setSlot] using h.2.2.1, fun i => ?_⟩
  by_cases e : k = i
  · subst e; rw [Cell.slots_setSlot_self v hk, if_pos (by omega), hv]
  · rw [Cell.slots_setSlot_ne v e, h.2.2.2 i]
    by_cases q : lo ≤ i ∧ i < k
    · rw [if_pos q, if_pos (by omega)]
    · rw [if_neg q, if_neg (by omega)]
def U16 : String := "java/lang/StringUTF16"
namespace Cmp5
def yN : MethodName := ⟨"java/lang/StringUTF16", "compress", "([CI[BII)I"⟩
abbrev yB : ByteArray := jdk_52_method_21_code
theorem d0 : decode yB 0 = .ok (.iconst 0, 1) := by decide +kernel
theorem d1 : decode yB 1 = .ok (.istore 5, 2) := by decide +kernel
theorem d3 : decode yB 3 = .ok (.iload 5, 2) := by decide +kernel
theorem d5 : decode yB 5 = .ok (.iload 4, 2) := by decide +kernel
theorem d7 : decode yB 7 = .ok (.if_icmp (.ge) 37, 3) := by decide +kernel
theorem d10 : decode yB 10 = .ok (.aload_n 0, 1) := by decide +kernel
theorem d11 : decode yB 11 = .ok (.iload_n 1, 1) := by decide +kernel
theorem d12 : decode yB 12 = .ok (.caload, 1) := by decide +kernel
theorem d13 : decode yB 13 = .ok (.istore 6, 2) := by decide +kernel
theorem d15 : decode yB 15 = .ok (.iload 6, 2) := by decide +kernel
theorem d17 : decode yB 17 = .ok (.sipush 255, 3) := by decide +kernel
theorem d20 : decode yB 20 = .ok (.if_icmp (.le) 6, 3) := by decide +kernel
theorem d26 : decode yB 26 = .ok (.aload_n 2, 1) := by decide +kernel
theorem d27 : decode yB 27 = .ok (.iload_n 3, 1) := by decide +kernel
theorem d28 : decode yB 28 = .ok (.iload 6, 2) := by decide +kernel
theorem d30 : decode yB 30 = .ok (.i2b, 1) := by decide +kernel
theorem d31 : decode yB 31 = .ok (.bastore, 1) := by decide +kernel
theorem d32 : decode yB 32 = .ok (.iinc 1 1, 3) := by decide +kernel
theorem d35 : decode yB 35 = .ok (.iinc 3 1, 3) := by decide +kernel
theorem d38 : decode yB 38 = .ok (.iinc 5 1, 3) := by decide +kernel
theorem d41 : decode yB 41 = .ok (.goto (-38), 3) := by decide +kernel
theorem d44 : decode yB 44 = .ok (.iload 4, 2) := by decide +kernel
theorem d46 : decode yB 46 = .ok (.ireturn, 1) := by decide +kernel
def site : List Cond := []
def tab : Cond := tabOf yN yB 7 (some .int) site
def P (b : Addr) (A : Cell) (d : Addr) (B : Cell) (o q len : Nat) (args : Array Value) (s : State) : Prop := args = #[.ref b, .int (Int32.ofNat o), .ref d, .int (Int32.ofNat q), .int (Int32.ofNat len)] ∧ Ch b A s ∧ Arr .byte d B s ∧ b ≠ d ∧ o + len ≤ A.slots.size ∧ q + len ≤ B.slots.size ∧ ∀ i, i < len → ¬ 255 < cv A (o + i)
def E (b : Addr) (A : Cell) (d : Addr) (B : Cell) (o q len : Nat) (r : Option Value) (s u : State) : Prop := r = some (.int (Int32.ofNat len)) ∧ ∃ B', Put d B' s u ∧ Laid B B' q (q + len) (fun j => Value.int (lo8 (cv A (o + (j - q)))))
/-- no char of the range above 255: len; the places written hold each char's low byte -/
theorem law (l : Launch) (b : Addr) (A : Cell) (d : Addr) (B : Cell) (o q len : Nat) : Law l yN 5 5 0 0 yB 7 (some .int) site (P b A d B o q len) (E b A d B o q len) (copyLocs d q len) 0 0 := by
  refine Law.of_walk (plainFor_of_name (by decide +kernel)) (by decide +kernel) (by decide +kernel) (by decide) (fun _ _ h => by rw [h.1]; rfl) (fun _ U U' hal hh h => ⟨h.1, h.2.1.mv hal hh, h.2.2.1.mv hal hh, h.2.2.2⟩) (fun r U U' V V' h1 hal h2 h => ⟨h.1, h.2.elim fun B' q => ⟨B', q.1.mv h1 h2, q.2⟩⟩) ?_
  intro p e s m args below meth c s₁ X0 hexec hbytes hml hret hlk hnm hown hh0 W hP
  obtain ⟨rfl, hA, hB, hne, l1, l2, hp⟩ := hP
  have c1 : Steps p.tables e below (s₁.setTop (entryFrame m #[.ref b, .int (Int32.ofNat o), .ref d, .int (Int32.ofNat q), .int (Int32.ofNat len)] 7)) (s₁.setTop (mkF m 0 #[.val (.ref b), .val (.int (Int32.ofNat o)), .val (.ref d), .val (.int (Int32.ofNat q)), .val (.int (Int32.ofNat len)), .unset, .unset] [])) := entry rfl
  have hA0 := hA.1.mv X0.warmed.alike hh0
  have hB0 := hB.mv X0.warmed.alike hh0
  have a31 := hA.1.2.2.2
  have c2 : Steps p.tables e below (s₁.setTop (entryFrame m #[.ref b, .int (Int32.ofNat o), .ref d, .int (Int32.ofNat q), .int (Int32.ofNat len)] 7)) (s₁.setTop (mkF m 3 #[.val (.ref b), .val (.int (Int32.ofNat o)), .val (.ref d), .val (.int (Int32.ofNat q)), .val (.int (Int32.ofNat len)), .val (.int 0), .unset] [])) := c1.trans (by
    refine iconstV X0.here hexec rfl 0 (hb hbytes d0) (by decide) ?_
    refine XS.istore X0.here hexec rfl (hb hbytes d1) rfl rfl ?_
    exact Steps.refl _)
  have loop : ∀ (r i : Nat), i + r = len → ∀ (z : Slot), (z = .unset ∨ ∃ w, z = .val w ∧ w.category = 1) → ∀ (Tl : State) (Bk : Cell), Stand p l e { frames := 0, locals := 0, cells := 0, slots := 0 } s m #[.ref b, .int (Int32.ofNat o), .ref d, .int (Int32.ofNat q), .int (Int32.ofNat len)] below meth c Tl ([] ++ copyLocs d q i) 0 0 → Put d Bk s₁ Tl → Laid B Bk q (q + i) (fun j => Value.int (lo8 (cv A (o + (j - q))))) →
      Steps p.tables e below (s₁.setTop (entryFrame m #[.ref b, .int (Int32.ofNat o), .ref d, .int (Int32.ofNat q), .int (Int32.ofNat len)] 7)) (Tl.setTop (mkF m 3 #[.val (.ref b), .val (.int (Int32.ofNat (o + i))), .val (.ref d), .val (.int (Int32.ofNat (q + i))), .val (.int (Int32.ofNat len)), .val (.int (Int32.ofNat i)), z] [])) → ∃ (T' : State) (B' : Cell) (z' : Slot), Stand p l e { frames := 0, locals := 0, cells := 0, slots := 0 } s m #[.ref b, .int (Int32.ofNat o), .ref d, .int (Int32.ofNat q), .int (Int32.ofNat len)] below meth c T' ([] ++ copyLocs d q len) 0 0 ∧ Put d B' s₁ T' ∧ Laid B B' q (q + len) (fun j => Value.int (lo8 (cv A (o + (j - q))))) ∧
      Steps p.tables e below (s₁.setTop (entryFrame m #[.ref b, .int (Int32.ofNat o), .ref d, .int (Int32.ofNat q), .int (Int32.ofNat len)] 7)) (T'.setTop (mkF m 3 #[.val (.ref b), .val (.int (Int32.ofNat (o + len))), .val (.ref d), .val (.int (Int32.ofNat (q + len))), .val (.int (Int32.ofNat len)), .val (.int (Int32.ofNat len)), z'] [])) := by
    intro r
    induction r with
    | zero =>
      intro i hi z hz Tl Bk Xl pl fl cl
      have hil : i = len := by omega
      rw [hil] at Xl fl cl
      exact ⟨Tl, Bk, z, Xl, pl, fl, cl⟩
    | succ r ih =>
      intro i hi z hz Tl Bk Xl pl fl cl
      have all := X0.warmed.alike.symm.trans Xl.warmed.alike
      have hAl := hA0.keep all (pl.other hne hA0.1)
      have hBk := hB0.like all pl.1 fl.1 fl.2.1 fl.2.2.1
      have hlt : q + i < Bk.slots.size := by rw [fl.2.2.1]; omega
      have c3 : Steps p.tables e below (s₁.setTop (entryFrame m #[.ref b, .int (Int32.ofNat o), .ref d, .int (Int32.ofNat q), .int (Int32.ofNat len)] 7)) (Tl.setTop (mkF m 12 #[.val (.ref b), .val (.int (Int32.ofNat (o + i))), .val (.ref d), .val (.int (Int32.ofNat (q + i))), .val (.int (Int32.ofNat len)), .val (.int (Int32.ofNat i)), z] [.int (Int32.ofNat (o + i)), .ref b])) := cl.trans (by
        refine XS.iload Xl.here hexec rfl (hb hbytes d3) rfl ?_
        refine XS.iload Xl.here hexec rfl (hb hbytes d5) rfl ?_
        refine XS.icmpNo Xl.here hexec rfl (hb hbytes d7) rfl (ii_ge_f (lt32 (by omega) (by omega))) ?_
        refine XS.aloadN Xl.here hexec rfl (hb hbytes d10) rfl rfl ?_
        refine XS.iloadN Xl.here hexec rfl (hb hbytes d11) rfl ?_
        exact Steps.refl _)
      have c4 : Steps p.tables e below (s₁.setTop (entryFrame m #[.ref b, .int (Int32.ofNat o), .ref d, .int (Int32.ofNat q), .int (Int32.ofNat len)] 7)) (Tl.setTop (mkF m 13 #[.val (.ref b), .val (.int (Int32.ofNat (o + i))), .val (.ref d), .val (.int (Int32.ofNat (q + i))), .val (.int (Int32.ofNat len)), .val (.int (Int32.ofNat i)), z] [.int (cv A (o + i))])) := c3.trans (by
        refine Xl.aget hexec hAl rfl (hA.get (i := o + i) (by omega)) rfl rfl (hb hbytes d12) ?_
        exact Steps.refl _)
      have c5 : Steps p.tables e below (s₁.setTop (entryFrame m #[.ref b, .int (Int32.ofNat o), .ref d, .int (Int32.ofNat q), .int (Int32.ofNat len)] 7)) (Tl.setTop (mkF m 15 #[.val (.ref b), .val (.int (Int32.ofNat (o + i))), .val (.ref d), .val (.int (Int32.ofNat (q + i))), .val (.int (Int32.ofNat len)), .val (.int (Int32.ofNat i)), .val (.int (cv A (o + i)))] [])) := c4.trans (by
        refine XS.istoreS Xl.here hexec rfl (hb hbytes d13) rfl rfl hz ?_
        exact Steps.refl _)
      have c6 : Steps p.tables e below (s₁.setTop (entryFrame m #[.ref b, .int (Int32.ofNat o), .ref d, .int (Int32.ofNat q), .int (Int32.ofNat len)] 7)) (Tl.setTop (mkF m 31 #[.val (.ref b), .val (.int (Int32.ofNat (o + i))), .val (.ref d), .val (.int (Int32.ofNat (q + i))), .val (.int (Int32.ofNat len)), .val (.int (Int32.ofNat i)), .val (.int (cv A (o + i)))] [.int (lo8 (cv A (o + i))), .int (Int32.ofNat (q + i)), .ref d])) := c5.trans (by
        refine XS.iload Xl.here hexec rfl (hb hbytes d15) rfl ?_
        refine sipushV Xl.here hexec rfl 255 (hb hbytes d17) (by decide) ?_
        refine XS.icmpYes Xl.here hexec rfl (pc0 := 20) rfl (hb hbytes d20) rfl (ii_le_t (hp i (by omega))) (by decide) rfl ?_
        refine XS.aloadN Xl.here hexec rfl (hb hbytes d26) rfl rfl ?_
        refine XS.iloadN Xl.here hexec rfl (hb hbytes d27) rfl ?_
        refine XS.iload Xl.here hexec rfl (hb hbytes d28) rfl ?_
        refine i2b Xl.here hexec rfl (hb hbytes d30) rfl ?_
        exact Steps.refl _)
      obtain ⟨T7, X7, p7, st7⟩ := Xl.aput hexec hBk rfl hlt rfl (fits_lo8 (cv A (o + i))) (g := (mkF m 31 #[.val (.ref b), .val (.int (Int32.ofNat (o + i))), .val (.ref d), .val (.int (Int32.ofNat (q + i))), .val (.int (Int32.ofNat len)), .val (.int (Int32.ofNat i)), .val (.int (cv A (o + i)))] [.int (lo8 (cv A (o + i))), .int (Int32.ofNat (q + i)), .ref d])) rfl (rest := []) rfl (hb hbytes d31)
      have c8 : Steps p.tables e below (s₁.setTop (entryFrame m #[.ref b, .int (Int32.ofNat o), .ref d, .int (Int32.ofNat q), .int (Int32.ofNat len)] 7)) (T7.setTop (mkF m 32 #[.val (.ref b), .val (.int (Int32.ofNat (o + i))), .val (.ref d), .val (.int (Int32.ofNat (q + i))), .val (.int (Int32.ofNat len)), .val (.int (Int32.ofNat i)), .val (.int (cv A (o + i)))] [])) := c6.trans (st7 _ (Steps.refl _))
      have c9 : Steps p.tables e below (s₁.setTop (entryFrame m #[.ref b, .int (Int32.ofNat o), .ref d, .int (Int32.ofNat q), .int (Int32.ofNat len)] 7)) (T7.setTop (mkF m 3 #[.val (.ref b), .val (.int (Int32.ofNat (o + i) + 1)), .val (.ref d), .val (.int (Int32.ofNat (q + i) + 1)), .val (.int (Int32.ofNat len)), .val (.int (Int32.ofNat i + 1)), .val (.int (cv A (o + i)))] [])) := c8.trans (by
        refine iincV X7.here hexec rfl 1 (hb hbytes d32) (by decide) rfl rfl ?_
        refine iincV X7.here hexec rfl 1 (hb hbytes d35) (by decide) rfl rfl ?_
        refine iincV X7.here hexec rfl 1 (hb hbytes d38) (by decide) rfl rfl ?_
        refine XS.goto X7.here hexec rfl (pc0 := 41) rfl (hb hbytes d41) (by decide) rfl ?_
        exact Steps.refl _)
      have c10 : Steps p.tables e below (s₁.setTop (entryFrame m #[.ref b, .int (Int32.ofNat o), .ref d, .int (Int32.ofNat q), .int (Int32.ofNat len)] 7)) (T7.setTop (mkF m 3 #[.val (.ref b), .val (.int (Int32.ofNat (o + (i + 1)))), .val (.ref d), .val (.int (Int32.ofNat (q + (i + 1)))), .val (.int (Int32.ofNat len)), .val (.int (Int32.ofNat (i + 1))), .val (.int (cv A (o + i)))] [])) := by
        have := c9
        rw [succ32, succ32, succ32] at this
        exact this
      exact ih (i + 1) (by omega) _ (Or.inr ⟨_, rfl, rfl⟩) T7 _ (by rw [copyLocs_step, ← List.append_assoc]; exact X7) (pl.trans p7) (fl.step (by omega) hlt (by simp)) c10
  obtain ⟨T9, B9, z9, X9, p9, f9, g9⟩ := loop len 0 (by omega) .unset (Or.inl rfl) s₁ B (by simpa [copyLocs] using X0) ⟨hB0.1, fun _ _ => rfl, rfl⟩ (Laid.zero _ _ _) c2
  have c11 : Steps p.tables e below (s₁.setTop (entryFrame m #[.ref b, .int (Int32.ofNat o), .ref d, .int (Int32.ofNat q), .int (Int32.ofNat len)] 7)) (T9.setTop (mkF m 46 #[.val (.ref b), .val (.int (Int32.ofNat (o + len))), .val (.ref d), .val (.int (Int32.ofNat (q + len))), .val (.int (Int32.ofNat len)), .val (.int (Int32.ofNat len)), z9] [.int (Int32.ofNat len)])) := g9.trans (by
    refine XS.iload X9.here hexec rfl (hb hbytes d3) rfl ?_
    refine XS.iload X9.here hexec rfl (hb hbytes d5) rfl ?_
    refine XS.icmpYes X9.here hexec rfl (pc0 := 7) rfl (hb hbytes d7) rfl (ii_ge_t (nlt32 (by omega) (Nat.le_refl _))) (by decide) rfl ?_
    refine XS.iload X9.here hexec rfl (hb hbytes d44) rfl ?_
    exact Steps.refl _)
  exact ⟨T9, some (.int (Int32.ofNat len)), _, _, _, X9, by simp, rfl, rfl, (fun h => by cases h), ⟨rfl, B9, p9.from hh0, f9⟩, fun fs hl => c11.trans (X9.ireturnOut hexec hret rfl (Or.inl rfl) (hb hbytes d46) hl)⟩
end Cmp5
namespace Cmp3
def yN : MethodName := ⟨"java/lang/StringUTF16", "compress", "([CII)[B"⟩
abbrev yB : ByteArray := jdk_52_method_16_code
theorem d0 : decode yB 0 = .ok (.iload_n 2, 1) := by decide +kernel
theorem d1 : decode yB 1 = .ok (.newarray .byte, 2) := by decide +kernel
theorem d3 : decode yB 3 = .ok (.astore_n 3, 1) := by decide +kernel
theorem d4 : decode yB 4 = .ok (.aload_n 0, 1) := by decide +kernel
theorem d5 : decode yB 5 = .ok (.iload_n 1, 1) := by decide +kernel
theorem d6 : decode yB 6 = .ok (.aload_n 3, 1) := by decide +kernel
theorem d7 : decode yB 7 = .ok (.iconst 0, 1) := by decide +kernel
theorem d8 : decode yB 8 = .ok (.iload_n 2, 1) := by decide +kernel
theorem d9 : decode yB 9 = .ok (.invokestatic 115, 3) := by decide +kernel
theorem d12 : decode yB 12 = .ok (.istore 4, 2) := by decide +kernel
theorem d14 : decode yB 14 = .ok (.iload 4, 2) := by decide +kernel
theorem d16 : decode yB 16 = .ok (.iload_n 2, 1) := by decide +kernel
theorem d17 : decode yB 17 = .ok (.if_icmp (.eq) 40, 3) := by decide +kernel
theorem d57 : decode yB 57 = .ok (.aload_n 3, 1) := by decide +kernel
theorem d58 : decode yB 58 = .ok (.areturn, 1) := by decide +kernel
def site : List Cond := [.arrayClass .byte, Cmp5.tab] ++ staticW U16 115 Cmp5.yN
def tab : Cond := tabOf yN yB 6 (some (.array .byte)) site
def P (b : Addr) (A : Cell) (o len : Nat) (args : Array Value) (s : State) : Prop := args = #[.ref b, .int (Int32.ofNat o), .int (Int32.ofNat len)] ∧ Ch b A s ∧ o + len ≤ A.slots.size ∧ len ≤ 536870912 ∧ ∀ i, i < len → ¬ 255 < cv A (o + i)
def E (b : Addr) (A : Cell) (o len : Nat) (r : Option Value) (s u : State) : Prop := NewArr .byte "[B" len (fun j => .int (lo8 (cv A (o + j)))) r s u ∧ u.heap.size = s.heap.size + 1
/-- no char of the range above 255: a new byte[] of their low bytes -/
theorem law (l : Launch) (b : Addr) (A : Cell) (o len : Nat) : Law l yN 3 3 1 18 yB 6 (some (.array .byte)) site (P b A o len) (E b A o len) [] 1 len := by
  refine Law.of_walk (plainFor_of_name (by decide +kernel)) (by decide +kernel) (by decide +kernel) (by decide) (fun _ _ h => by rw [h.1]; rfl) (fun _ U U' hal hh h => ⟨h.1, h.2.1.mv hal hh, h.2.2⟩) (fun r U U' V V' h1 hal h2 h => ⟨NewArr.mv r U U' V V' h1 hal h2 h.1, by rw [h1, h2]; exact h.2⟩) ?_
  intro p e s m args below meth c s₁ X0 hexec hbytes hml hret hlk hnm hown hh0 W hP
  obtain ⟨rfl, hA, l1, l2, hp⟩ := hP
  have a31 := hA.1.2.2.2
  have c1 : Steps p.tables e below (s₁.setTop (entryFrame m #[.ref b, .int (Int32.ofNat o), .int (Int32.ofNat len)] 6)) (s₁.setTop (mkF m 0 #[.val (.ref b), .val (.int (Int32.ofNat o)), .val (.int (Int32.ofNat len)), .unset, .unset, .unset] [])) := entry rfl
  have c2 : Steps p.tables e below (s₁.setTop (entryFrame m #[.ref b, .int (Int32.ofNat o), .int (Int32.ofNat len)] 6)) (s₁.setTop (mkF m 1 #[.val (.ref b), .val (.int (Int32.ofNat o)), .val (.int (Int32.ofNat len)), .unset, .unset, .unset] [.int (Int32.ofNat len)])) := c1.trans (by
    refine XS.iloadN X0.here hexec rfl (hb hbytes d0) rfl ?_
    exact Steps.refl _)
  obtain ⟨T3, B3, X3, ba3, bs3, bv3, bh3, bf3, st3⟩ := X0.anew hexec (atype := .byte) (wk W (.arrayClass .byte)) rfl (by show len * 1 ≤ _; omega) (by omega) (g := (mkF m 1 #[.val (.ref b), .val (.int (Int32.ofNat o)), .val (.int (Int32.ofNat len)), .unset, .unset, .unset] [.int (Int32.ofNat len)])) rfl (hb hbytes d1) (rest := []) rfl (Nat.le_refl _) (by show 0 + len ≤ len; omega)
  rw [hh0] at ba3 st3
  have kp3 : XT.Kept s T3 := (XT.Kept.of_eq hh0).push bh3
  have hA3 := hA.keep X3.warmed.alike (kp3 _ _ hA.1.1)
  have hne : b ≠ s.heap.size := hA.1.ne
  have c4 : Steps p.tables e below (s₁.setTop (entryFrame m #[.ref b, .int (Int32.ofNat o), .int (Int32.ofNat len)] 6)) (T3.setTop (mkF m 3 #[.val (.ref b), .val (.int (Int32.ofNat o)), .val (.int (Int32.ofNat len)), .unset, .unset, .unset] [.ref s.heap.size])) := c2.trans (st3 _ (Steps.refl _))
  have c5 : Steps p.tables e below (s₁.setTop (entryFrame m #[.ref b, .int (Int32.ofNat o), .int (Int32.ofNat len)] 6)) (T3.setTop (mkF m 9 #[.val (.ref b), .val (.int (Int32.ofNat o)), .val (.int (Int32.ofNat len)), .val (.ref s.heap.size), .unset, .unset] [.int (Int32.ofNat len), .int 0, .ref s.heap.size, .int (Int32.ofNat o), .ref b])) := c4.trans (by
    refine XS.astoreN X3.here hexec rfl (hb hbytes d3) rfl rfl rfl ?_
    refine XS.aloadN X3.here hexec rfl (hb hbytes d4) rfl rfl ?_
    refine XS.iloadN X3.here hexec rfl (hb hbytes d5) rfl ?_
    refine XS.aloadN X3.here hexec rfl (hb hbytes d6) rfl rfl ?_
    refine iconstV X3.here hexec rfl 0 (hb hbytes d7) (by decide) ?_
    refine XS.iloadN X3.here hexec rfl (hb hbytes d8) rfl ?_
    exact Steps.refl _)
  obtain ⟨v6, T6, X6, E6, g6⟩ := X3.callS hexec (Cmp5.law l b A s.heap.size B3 o 0 len) hown (wks W (staticW U16 115 Cmp5.yN)) (wk W Cmp5.tab) (W := 0) (Nat.le_of_ble_eq_true rfl) (Nat.le_of_ble_eq_true rfl) (Nat.le_refl _) (by show 0 + len + 0 ≤ len; omega) (g := (mkF m 9 #[.val (.ref b), .val (.int (Int32.ofNat o)), .val (.int (Int32.ofNat len)), .val (.ref s.heap.size), .unset, .unset] [.int (Int32.ofNat len), .int (Int32.ofNat 0), .ref s.heap.size, .int (Int32.ofNat o), .ref b])) rfl (by rw [hml]; rfl) c5 (argsL := [.ref b, .int (Int32.ofNat o), .ref s.heap.size, .int (Int32.ofNat 0), .int (Int32.ofNat len)]) (rest := []) rfl rfl (by show 2 * 0 + 0 ≤ _; decide) (hb hbytes d9) (⟨rfl, hA3, ba3, hne, l1, by rw [bs3]; simp, hp⟩)
  obtain ⟨rfl, B6, p6, f6⟩ := E6
  have c7 : Steps p.tables e below (s₁.setTop (entryFrame m #[.ref b, .int (Int32.ofNat o), .int (Int32.ofNat len)] 6)) (T6.setTop (mkF m 12 #[.val (.ref b), .val (.int (Int32.ofNat o)), .val (.int (Int32.ofNat len)), .val (.ref s.heap.size), .unset, .unset] [.int (Int32.ofNat len)])) := g6
  have c8 : Steps p.tables e below (s₁.setTop (entryFrame m #[.ref b, .int (Int32.ofNat o), .int (Int32.ofNat len)] 6)) (T6.setTop (mkF m 58 #[.val (.ref b), .val (.int (Int32.ofNat o)), .val (.int (Int32.ofNat len)), .val (.ref s.heap.size), .val (.int (Int32.ofNat len)), .unset] [.ref s.heap.size])) := c7.trans (by
    refine XS.istore X6.here hexec rfl (hb hbytes d12) rfl rfl ?_
    refine XS.iload X6.here hexec rfl (hb hbytes d14) rfl ?_
    refine XS.iloadN X6.here hexec rfl (hb hbytes d16) rfl ?_
    refine XS.icmpYes X6.here hexec rfl (pc0 := 17) rfl (hb hbytes d17) rfl (ii_eq_t rfl) (by decide) rfl ?_
    refine XS.aloadN X6.here hexec rfl (hb hbytes d57) rfl rfl ?_
    exact Steps.refl _)
  have X8 := X6.wide (L' := []) (cells' := 1) (slots' := len) (fun x hx hlt => by
    simp only [List.nil_append, copyLocs, List.mem_map, List.mem_range] at hx
    obtain ⟨i, -, rfl⟩ := hx
    exact absurd hlt (Nat.lt_irrefl _)) (Nat.le_refl _) (by omega)
  exact ⟨T6, some (.ref s.heap.size), _, _, _, X8, rfl, rfl, rfl, (fun h => by cases h), ⟨⟨rfl, B6, ba3.like (X3.warmed.alike.symm.trans X6.warmed.alike) p6.1 f6.1 f6.2.1 f6.2.2.1, f6.2.1.trans bv3, by rw [X6.warmed.alike.findClass, f6.1]; exact bf3, by rw [f6.2.2.1, bs3]; simp, fun j hj => by rw [f6.2.2.2 j, if_pos (by omega)]; rfl, kp3.put p6 (Nat.le_refl _)⟩, by rw [p6.2.2, bh3, hh0]; simp⟩, fun fs hl => c8.trans (X8.areturnOut hexec rfl hret rfl (hb hbytes d58) hl)⟩
end Cmp3
namespace CodL
def yN : MethodName := ⟨"java/lang/StringUTF16", "coderFromArrayLen", "([BI)B"⟩
abbrev yB : ByteArray := jdk_52_method_15_code
theorem d0 : decode yB 0 = .ok (.iload_n 1, 1) := by decide +kernel
theorem d1 : decode yB 1 = .ok (.aload_n 0, 1) := by decide +kernel
theorem d2 : decode yB 2 = .ok (.arraylength, 1) := by decide +kernel
theorem d3 : decode yB 3 = .ok (.isub, 1) := by decide +kernel
theorem d4 : decode yB 4 = .ok (.bipush 31, 2) := by decide +kernel
theorem d6 : decode yB 6 = .ok (.iushr, 1) := by decide +kernel
theorem d7 : decode yB 7 = .ok (.i2b, 1) := by decide +kernel
theorem d8 : decode yB 8 = .ok (.ireturn, 1) := by decide +kernel
def site : List Cond := []
def tab : Cond := tabOf yN yB 2 (some .byte) site
def P (d : Addr) (B : Cell) (args : Array Value) (s : State) : Prop := args = #[.ref d, .int (Int32.ofNat B.slots.size)] ∧ Arr .byte d B s
def E (r : Option Value) (s u : State) : Prop := XT.PureE (some (.int 0)) r s u
/-- an array as long as the number of chars: LATIN1 -/
theorem law (l : Launch) (d : Addr) (B : Cell) : Law l yN 2 2 0 0 yB 2 (some .byte) site (P d B) E [] 0 0 := by
  refine Law.of_walk (plainFor_of_name (by decide +kernel)) (by decide +kernel) (by decide +kernel) (by decide) (fun _ _ h => by rw [h.1]; rfl) (fun _ U U' hal hh h => ⟨h.1, h.2.mv hal hh⟩) (fun r U U' V V' h1 hal h2 h => XT.PureE.mv r U U' V V' h1 hal h2 h) ?_
  intro p e s m args below meth c s₁ X0 hexec hbytes hml hret hlk hnm hown hh0 W hP
  obtain ⟨rfl, hB⟩ := hP
  have hB0 := hB.mv X0.warmed.alike hh0
  have c1 : Steps p.tables e below (s₁.setTop (entryFrame m #[.ref d, .int (Int32.ofNat B.slots.size)] 2)) (s₁.setTop (mkF m 0 #[.val (.ref d), .val (.int (Int32.ofNat B.slots.size))] [])) := entry rfl
  have c2 : Steps p.tables e below (s₁.setTop (entryFrame m #[.ref d, .int (Int32.ofNat B.slots.size)] 2)) (s₁.setTop (mkF m 2 #[.val (.ref d), .val (.int (Int32.ofNat B.slots.size))] [.ref d, .int (Int32.ofNat B.slots.size)])) := c1.trans (by
    refine XS.iloadN X0.here hexec rfl (hb hbytes d0) rfl ?_
    refine XS.aloadN X0.here hexec rfl (hb hbytes d1) rfl rfl ?_
    exact Steps.refl _)
  have c3 : Steps p.tables e below (s₁.setTop (entryFrame m #[.ref d, .int (Int32.ofNat B.slots.size)] 2)) (s₁.setTop (mkF m 8 #[.val (.ref d), .val (.int (Int32.ofNat B.slots.size))] [.int (lo8 (ushr (Int32.ofNat B.slots.size - Int32.ofNat B.slots.size) 31))])) := c2.trans (by
    refine X0.alen hexec hB0 rfl rfl (hb hbytes d2) ?_
    refine XS.isub X0.here hexec rfl (hb hbytes d3) rfl ?_
    refine bipushV X0.here hexec rfl 31 (hb hbytes d4) (by decide) ?_
    refine iushr X0.here hexec rfl (hb hbytes d6) rfl ?_
    refine i2b X0.here hexec rfl (hb hbytes d7) rfl ?_
    exact Steps.refl _)
  have e0 : lo8 (ushr (Int32.ofNat B.slots.size - Int32.ofNat B.slots.size) 31) = 0 := by rw [Int32.sub_self]; decide
  rw [e0] at c3
  exact ⟨s₁, some (.int 0), _, _, _, X0, rfl, rfl, rfl, (fun h => by cases h), ⟨rfl, hh0⟩, fun fs hl => c3.trans (X0.ireturnOut hexec hret rfl (Or.inr (Or.inr (Or.inl rfl))) (hb hbytes d8) hl)⟩
end CodL
/-- the String at a is Latin-1 over a new byte[] (the heap's one new cell): the low bytes of the len chars of A from o on; every cell but a is kept -/
def Got (a : Addr) (D : Cell) (fV fC : Field) (A : Cell) (o len : Nat) (r : Option Value) (s u : State) : Prop := r = none ∧ ∃ D' V : Cell, Blank "java/lang/String" a D' u ∧ Same D D' [fV.slot, fC.slot] ∧ D'.slots[fV.slot]? = some (.ref s.heap.size) ∧ D'.slots[fC.slot]? = some (.int 0) ∧ Arr .byte s.heap.size V u ∧ V.vm = .none ∧ u.vm.findClass "[B" = some V.cls ∧ V.slots.size = len ∧ (∀ j, j < len → V.slots[j]? = some (.int (lo8 (cv A (o + j))))) ∧ (∀ (y : Addr) (c : Cell), y ≠ a → s.heap[y]? = some c → u.heap[y]? = some c) ∧ u.heap.size = s.heap.size + 1
theorem Got.mv {a : Addr} {D A : Cell} {fV fC : Field} {o len : Nat} : ∀ r (U U' V V' : State), U'.heap = U.heap → V.vm.Alike V'.vm → V'.heap = V.heap → Got a D fV fC A o len r U V → Got a D fV fC A o len r U' V' :=
  fun r U U' V V' h1 hal h2 ⟨e0, D', X, a1, a2, a3, a4, a5, a6, a7, a8, a9, a10, a11⟩ => ⟨e0, D', X, a1.mv hal h2, a2, by rw [h1]; exact a3, a4, by rw [h1]; exact a5.mv hal h2, a6, by rw [hal.findClass]; exact a7, a8, a9, by rw [h1, h2]; exact a10, by rw [h1, h2]; exact a11⟩
namespace New4
def yN : MethodName := ⟨"java/lang/String", "<init>", "([CIILjava/lang/Void;)V"⟩
abbrev yB : ByteArray := jdk_42_method_149_code
theorem d0 : decode yB 0 = .ok (.aload_n 0, 1) := by decide +kernel
theorem d1 : decode yB 1 = .ok (.invokespecial 1, 3) := by decide +kernel
theorem d4 : decode yB 4 = .ok (.iload_n 3, 1) := by decide +kernel
theorem d5 : decode yB 5 = .ok (.ifCond (.ne) 22, 3) := by decide +kernel
theorem d27 : decode yB 27 = .ok (.getstatic 38, 3) := by decide +kernel
theorem d30 : decode yB 30 = .ok (.ifCond (.eq) 28, 3) := by decide +kernel
theorem d33 : decode yB 33 = .ok (.aload_n 1, 1) := by decide +kernel
theorem d34 : decode yB 34 = .ok (.iload_n 2, 1) := by decide +kernel
theorem d35 : decode yB 35 = .ok (.iload_n 3, 1) := by decide +kernel
theorem d36 : decode yB 36 = .ok (.invokestatic 177, 3) := by decide +kernel
theorem d39 : decode yB 39 = .ok (.astore 5, 2) := by decide +kernel
theorem d41 : decode yB 41 = .ok (.aload_n 0, 1) := by decide +kernel
theorem d42 : decode yB 42 = .ok (.aload 5, 2) := by decide +kernel
theorem d44 : decode yB 44 = .ok (.iload_n 3, 1) := by decide +kernel
theorem d45 : decode yB 45 = .ok (.invokestatic 47, 3) := by decide +kernel
theorem d48 : decode yB 48 = .ok (.putfield 15, 3) := by decide +kernel
theorem d51 : decode yB 51 = .ok (.aload_n 0, 1) := by decide +kernel
theorem d52 : decode yB 52 = .ok (.aload 5, 2) := by decide +kernel
theorem d54 : decode yB 54 = .ok (.putfield 9, 3) := by decide +kernel
theorem d57 : decode yB 57 = .ok (.return_, 1) := by decide +kernel
def site : List Cond := [.fieldLink "java/lang/String" 38 "java/lang/String" "COMPACT_STRINGS" "Z", Cmp3.tab, CodL.tab, .laysFinal "java/lang/String" "java/lang/String" "value" "[B", .fieldLink "java/lang/String" 9 "java/lang/String" "value" "[B", .laysFinal "java/lang/String" "java/lang/String" "coder" "B", .fieldLink "java/lang/String" 15 "java/lang/String" "coder" "B"] ++ objW "java/lang/String" 1 ++ staticW "java/lang/String" 177 Cmp3.yN ++ staticW "java/lang/String" 47 CodL.yN
def tab : Cond := tabOf yN yB 6 none site
def P (a : Addr) (D : Cell) (fV fC : Field) (b : Addr) (A : Cell) (z : Int32) (o len : Nat) (args : Array Value) (s : State) : Prop := args = #[.ref a, .ref b, .int (Int32.ofNat o), .int (Int32.ofNat len), .null] ∧ Blank "java/lang/String" a D s ∧ Found "java/lang/String" "value" "[B" fV s ∧ Found "java/lang/String" "coder" "B" fC s ∧ Ch b A s ∧ StaticIs s "java/lang/String" "COMPACT_STRINGS" "Z" (.int z) ∧ ¬ z = 0 ∧ 0 < len ∧ o + len ≤ A.slots.size ∧ len ≤ 536870912 ∧ ∀ i, i < len → ¬ 255 < cv A (o + i)
def E (a : Addr) (D : Cell) (fV fC : Field) (A : Cell) (o len : Nat) (r : Option Value) (s u : State) : Prop := Got a D fV fC A o len r s u
/-- len > 0, no char of the range above 255: a Latin-1 String of their low bytes -/
theorem law (l : Launch) (a : Addr) (D : Cell) (fV fC : Field) (b : Addr) (A : Cell) (z : Int32) (o len : Nat) : Law l yN 5 4 2 35 yB 6 none site (P a D fV fC b A z o len) (E a D fV fC A o len) [⟨a, fC.slot⟩, ⟨a, fV.slot⟩] 1 len := by
  refine Law.of_walk (plainFor_of_name (by decide +kernel)) (by decide +kernel) (by decide +kernel) (by decide) (fun _ _ h => by rw [h.1]; rfl) (fun _ U U' hal hh h => ⟨h.1, h.2.1.mv hal hh, h.2.2.1.al hal, h.2.2.2.1.al hal, h.2.2.2.2.1.mv hal hh, h.2.2.2.2.2.1.there hal hh, h.2.2.2.2.2.2⟩) (fun r U U' V V' h1 hal h2 h => Got.mv r U U' V V' h1 hal h2 h) ?_
  intro p e s m args below meth c s₁ X0 hexec hbytes hml hret hlk hnm hown hh0 W hP
  obtain ⟨rfl, hB, f1, f2, hA, s1, hz, l0, l1, l2, hp⟩ := hP
  have a31 := hA.1.2.2.2
  have c1 : Steps p.tables e below (s₁.setTop (entryFrame m #[.ref a, .ref b, .int (Int32.ofNat o), .int (Int32.ofNat len), .null] 6)) (s₁.setTop (mkF m 0 #[.val (.ref a), .val (.ref b), .val (.int (Int32.ofNat o)), .val (.int (Int32.ofNat len)), .val .null, .unset] [])) := entry rfl
  have c2 : Steps p.tables e below (s₁.setTop (entryFrame m #[.ref a, .ref b, .int (Int32.ofNat o), .int (Int32.ofNat len), .null] 6)) (s₁.setTop (mkF m 1 #[.val (.ref a), .val (.ref b), .val (.int (Int32.ofNat o)), .val (.int (Int32.ofNat len)), .val .null, .unset] [.ref a])) := c1.trans (by
    refine XS.aloadN X0.here hexec rfl (hb hbytes d0) rfl rfl ?_
    exact Steps.refl _)
  obtain ⟨T3, X3, q3, st3⟩ := X0.oinit hexec hown (wks W (objW "java/lang/String" 1)) (g := (mkF m 1 #[.val (.ref a), .val (.ref b), .val (.int (Int32.ofNat o)), .val (.int (Int32.ofNat len)), .val .null, .unset] [.ref a])) rfl (by rw [hml]; rfl) (rest := []) rfl (hb hbytes d1) (W := 0) (by show 2 * 0 + 0 ≤ _; decide) (Nat.le_of_ble_eq_true rfl) (Nat.le_of_ble_eq_true rfl)
  have hh3 := q3.trans hh0
  have c4 : Steps p.tables e below (s₁.setTop (entryFrame m #[.ref a, .ref b, .int (Int32.ofNat o), .int (Int32.ofNat len), .null] 6)) (T3.setTop (mkF m 27 #[.val (.ref a), .val (.ref b), .val (.int (Int32.ofNat o)), .val (.int (Int32.ofNat len)), .val .null, .unset] [])) := (c2.trans (st3 _ (Steps.refl _))).trans (by
    refine XS.iloadN X3.here hexec rfl (hb hbytes d4) rfl ?_
    refine XS.ifYes X3.here hexec rfl (pc0 := 5) rfl (hb hbytes d5) rfl (i0_ne_t (nz32 (by omega) l0)) (by decide) rfl ?_
    exact Steps.refl _)
  obtain ⟨T5, X5, q5, st5⟩ := X3.sget hexec hown (wk W (.fieldLink "java/lang/String" 38 "java/lang/String" "COMPACT_STRINGS" "Z")) s1 (fun _ _ h => by rw [hh3]; exact h) (g := (mkF m 27 #[.val (.ref a), .val (.ref b), .val (.int (Int32.ofNat o)), .val (.int (Int32.ofNat len)), .val .null, .unset] [])) rfl (hb hbytes d27)
  have hh5 := q5.trans hh3
  have c6 : Steps p.tables e below (s₁.setTop (entryFrame m #[.ref a, .ref b, .int (Int32.ofNat o), .int (Int32.ofNat len), .null] 6)) (T5.setTop (mkF m 30 #[.val (.ref a), .val (.ref b), .val (.int (Int32.ofNat o)), .val (.int (Int32.ofNat len)), .val .null, .unset] [.int z])) := c4.trans (st5 _ (Steps.refl _))
  have c7 : Steps p.tables e below (s₁.setTop (entryFrame m #[.ref a, .ref b, .int (Int32.ofNat o), .int (Int32.ofNat len), .null] 6)) (T5.setTop (mkF m 36 #[.val (.ref a), .val (.ref b), .val (.int (Int32.ofNat o)), .val (.int (Int32.ofNat len)), .val .null, .unset] [.int (Int32.ofNat len), .int (Int32.ofNat o), .ref b])) := c6.trans (by
    refine XS.ifNo X5.here hexec rfl (hb hbytes d30) rfl (i0_eq_f hz) ?_
    refine XS.aloadN X5.here hexec rfl (hb hbytes d33) rfl rfl ?_
    refine XS.iloadN X5.here hexec rfl (hb hbytes d34) rfl ?_
    refine XS.iloadN X5.here hexec rfl (hb hbytes d35) rfl ?_
    exact Steps.refl _)
  obtain ⟨v8, T8, X8, E8, g8⟩ := X5.callS hexec (Cmp3.law l b A o len) hown (wks W (staticW "java/lang/String" 177 Cmp3.yN)) (wk W Cmp3.tab) (W := 0) (Nat.le_of_ble_eq_true rfl) (Nat.le_of_ble_eq_true rfl) (Nat.le_refl _) (by show 0 + len ≤ len; omega) (g := (mkF m 36 #[.val (.ref a), .val (.ref b), .val (.int (Int32.ofNat o)), .val (.int (Int32.ofNat len)), .val .null, .unset] [.int (Int32.ofNat len), .int (Int32.ofNat o), .ref b])) rfl (by rw [hml]; rfl) c7 (argsL := [.ref b, .int (Int32.ofNat o), .int (Int32.ofNat len)]) (rest := []) rfl rfl (by show 2 * 0 + 0 ≤ _; decide) (hb hbytes d36) (⟨rfl, hA.mv X5.warmed.alike hh5, l1, l2, hp⟩)
  obtain ⟨e8, z8⟩ := E8
  obtain ⟨rfl, N, n1, n2, n3, n4, n5, n6⟩ := NewArr.mv _ T5 s _ _ hh5.symm (Vm.Alike.refl _) rfl e8
  rw [hh5] at z8
  have hB1 := hB.keep X8.warmed.alike (n6 _ _ hB.1)
  have hne : s.heap.size ≠ a := (Nat.ne_of_lt (Array.getElem?_eq_some_iff.mp hB.1).1).symm
  have c9 : Steps p.tables e below (s₁.setTop (entryFrame m #[.ref a, .ref b, .int (Int32.ofNat o), .int (Int32.ofNat len), .null] 6)) (T8.setTop (mkF m 39 #[.val (.ref a), .val (.ref b), .val (.int (Int32.ofNat o)), .val (.int (Int32.ofNat len)), .val .null, .unset] [.ref s.heap.size])) := g8
  have c10 : Steps p.tables e below (s₁.setTop (entryFrame m #[.ref a, .ref b, .int (Int32.ofNat o), .int (Int32.ofNat len), .null] 6)) (T8.setTop (mkF m 45 #[.val (.ref a), .val (.ref b), .val (.int (Int32.ofNat o)), .val (.int (Int32.ofNat len)), .val .null, .val (.ref s.heap.size)] [.int (Int32.ofNat N.slots.size), .ref s.heap.size, .ref a])) := by
    have hc : Steps p.tables e below (s₁.setTop (entryFrame m #[.ref a, .ref b, .int (Int32.ofNat o), .int (Int32.ofNat len), .null] 6)) (T8.setTop (mkF m 45 #[.val (.ref a), .val (.ref b), .val (.int (Int32.ofNat o)), .val (.int (Int32.ofNat len)), .val .null, .val (.ref s.heap.size)] [.int (Int32.ofNat len), .ref s.heap.size, .ref a])) := c9.trans (by
      refine XS.astore X8.here hexec rfl (hb hbytes d39) rfl rfl rfl ?_
      refine XS.aloadN X8.here hexec rfl (hb hbytes d41) rfl rfl ?_
      refine XS.aload X8.here hexec rfl (hb hbytes d42) rfl rfl ?_
      refine XS.iloadN X8.here hexec rfl (hb hbytes d44) rfl ?_
      exact Steps.refl _)
    rw [n4]; exact hc
  obtain ⟨v11, T11, X11, E11, g11⟩ := X8.callS hexec (CodL.law l s.heap.size N) hown (wks W (staticW "java/lang/String" 47 CodL.yN)) (wk W CodL.tab) (W := 1) (Nat.le_of_ble_eq_true rfl) (Nat.le_of_ble_eq_true rfl) (Nat.le_refl _) (by show 0 + len + 0 ≤ len; omega) (g := (mkF m 45 #[.val (.ref a), .val (.ref b), .val (.int (Int32.ofNat o)), .val (.int (Int32.ofNat len)), .val .null, .val (.ref s.heap.size)] [.int (Int32.ofNat N.slots.size), .ref s.heap.size, .ref a])) rfl (by rw [hml]; rfl) c10 (argsL := [.ref s.heap.size, .int (Int32.ofNat N.slots.size)]) (rest := [.ref a]) rfl rfl (by show 2 * 0 + (1 + 0) ≤ _; decide) (hb hbytes d45) (⟨rfl, n1⟩)
  obtain ⟨rfl, q11⟩ := E11
  have hB11 := hB1.mv (X8.warmed.alike.symm.trans X11.warmed.alike) q11
  have c12 : Steps p.tables e below (s₁.setTop (entryFrame m #[.ref a, .ref b, .int (Int32.ofNat o), .int (Int32.ofNat len), .null] 6)) (T11.setTop (mkF m 48 #[.val (.ref a), .val (.ref b), .val (.int (Int32.ofNat o)), .val (.int (Int32.ofNat len)), .val .null, .val (.ref s.heap.size)] [.int 0, .ref a])) := g11
  obtain ⟨T13, X13, p13, bl13, sl13, st13⟩ := X11.finit hexec hown (wk W (.fieldLink "java/lang/String" 15 "java/lang/String" "coder" "B")) (Or.inr ⟨_, (wk W (.laysFinal "java/lang/String" "java/lang/String" "coder" "B"))⟩) (Or.inl ⟨rfl, hnm⟩) f2 (Or.inl rfl) hB11 (t := .byte) (by decide +kernel) rfl (g := (mkF m 48 #[.val (.ref a), .val (.ref b), .val (.int (Int32.ofNat o)), .val (.int (Int32.ofNat len)), .val .null, .val (.ref s.heap.size)] [.int 0, .ref a])) rfl (rest := []) rfl (hb hbytes d48)
  have c14 : Steps p.tables e below (s₁.setTop (entryFrame m #[.ref a, .ref b, .int (Int32.ofNat o), .int (Int32.ofNat len), .null] 6)) (T13.setTop (mkF m 54 #[.val (.ref a), .val (.ref b), .val (.int (Int32.ofNat o)), .val (.int (Int32.ofNat len)), .val .null, .val (.ref s.heap.size)] [.ref s.heap.size, .ref a])) := (c12.trans (st13 _ (Steps.refl _))).trans (by
    refine XS.aloadN X13.here hexec rfl (hb hbytes d51) rfl rfl ?_
    refine XS.aload X13.here hexec rfl (hb hbytes d52) rfl rfl ?_
    exact Steps.refl _)
  obtain ⟨T15, X15, p15, bl15, sl15, st15⟩ := X13.finit hexec hown (wk W (.fieldLink "java/lang/String" 9 "java/lang/String" "value" "[B")) (Or.inr ⟨_, (wk W (.laysFinal "java/lang/String" "java/lang/String" "value" "[B"))⟩) (Or.inl ⟨rfl, hnm⟩) f1 (Or.inl rfl) bl13 (t := (.array .byte)) (by decide +kernel) rfl (g := (mkF m 54 #[.val (.ref a), .val (.ref b), .val (.int (Int32.ofNat o)), .val (.int (Int32.ofNat len)), .val .null, .val (.ref s.heap.size)] [.ref s.heap.size, .ref a])) rfl (rest := []) rfl (hb hbytes d54)
  have c16 : Steps p.tables e below (s₁.setTop (entryFrame m #[.ref a, .ref b, .int (Int32.ofNat o), .int (Int32.ofNat len), .null] 6)) (T15.setTop (mkF m 57 #[.val (.ref a), .val (.ref b), .val (.int (Int32.ofNat o)), .val (.int (Int32.ofNat len)), .val .null, .val (.ref s.heap.size)] [])) := c14.trans (st15 _ (Steps.refl _))
  have ap := apart (Or.inr ⟨_, (wk W (.laysFinal "java/lang/String" "java/lang/String" "value" "[B"))⟩) (Or.inr ⟨_, (wk W (.laysFinal "java/lang/String" "java/lang/String" "coder" "B"))⟩) f1 f2 (t₁ := .array .byte) (t₂ := .byte) (by decide +kernel) (by decide +kernel) (by decide)
  have al := X8.warmed.alike.symm.trans X15.warmed.alike
  have n7 : T11.heap[s.heap.size]? = some N := by rw [q11]; exact n1.1
  exact ⟨T15, none, _, _, _, X15, by simp, rfl, by omega, (fun _ => rfl), ⟨rfl, _, N, bl15, ((Same.refl D _).set _ (by simp)).set _ (by simp), sl15, (Cell.slots_setSlot_ne _ ap).trans sl13, n1.keep al (p15.other hne (p13.other hne n7)), n2, by rw [al.findClass]; exact n3, n4, n5, fun y c h1 h2 => p15.other h1 (p13.other h1 (by rw [q11]; exact n6 y c h2)), by rw [p15.2.2, p13.2.2, q11]; exact z8⟩, fun fs hl => c16.trans (X15.returnOut hexec hret (hb hbytes d57) hl)⟩
end New4
namespace New1
def yN : MethodName := ⟨"java/lang/String", "<init>", "([C)V"⟩
abbrev yB : ByteArray := jdk_42_method_3_code
theorem d0 : decode yB 0 = .ok (.aload_n 0, 1) := by decide +kernel
theorem d1 : decode yB 1 = .ok (.aload_n 1, 1) := by decide +kernel
theorem d2 : decode yB 2 = .ok (.iconst 0, 1) := by decide +kernel
theorem d3 : decode yB 3 = .ok (.aload_n 1, 1) := by decide +kernel
theorem d4 : decode yB 4 = .ok (.arraylength, 1) := by decide +kernel
theorem d5 : decode yB 5 = .ok (.aconst_null, 1) := by decide +kernel
theorem d6 : decode yB 6 = .ok (.invokespecial 27, 3) := by decide +kernel
theorem d9 : decode yB 9 = .ok (.return_, 1) := by decide +kernel
def site : List Cond := [New4.tab] ++ initW "java/lang/String" 27 New4.yN
def tab : Cond := tabOf yN yB 2 none site
def P (a : Addr) (D : Cell) (fV fC : Field) (b : Addr) (A : Cell) (z : Int32) (args : Array Value) (s : State) : Prop := args = #[.ref a, .ref b] ∧ Blank "java/lang/String" a D s ∧ Found "java/lang/String" "value" "[B" fV s ∧ Found "java/lang/String" "coder" "B" fC s ∧ Ch b A s ∧ StaticIs s "java/lang/String" "COMPACT_STRINGS" "Z" (.int z) ∧ ¬ z = 0 ∧ 0 < A.slots.size ∧ A.slots.size ≤ 536870912 ∧ ∀ i, i < A.slots.size → ¬ 255 < cv A i
def E (a : Addr) (D : Cell) (fV fC : Field) (A : Cell) (r : Option Value) (s u : State) : Prop := Got a D fV fC A 0 A.slots.size r s u
/-- new String(chars), not empty, no char above 255: a Latin-1 String of their low bytes -/
theorem law (l : Launch) (a : Addr) (D : Cell) (fV fC : Field) (b : Addr) (A : Cell) (z : Int32) : Law l yN 2 1 3 52 yB 2 none site (P a D fV fC b A z) (E a D fV fC A) [⟨a, fC.slot⟩, ⟨a, fV.slot⟩] 1 A.slots.size := by
  refine Law.of_walk (plainFor_of_name (by decide +kernel)) (by decide +kernel) (by decide +kernel) (by decide) (fun _ _ h => by rw [h.1]; rfl) (fun _ U U' hal hh h => ⟨h.1, h.2.1.mv hal hh, h.2.2.1.al hal, h.2.2.2.1.al hal, h.2.2.2.2.1.mv hal hh, h.2.2.2.2.2.1.there hal hh, h.2.2.2.2.2.2⟩) (fun r U U' V V' h1 hal h2 h => Got.mv r U U' V V' h1 hal h2 h) ?_
  intro p e s m args below meth c s₁ X0 hexec hbytes hml hret hlk hnm hown hh0 W hP
  obtain ⟨rfl, hB, f1, f2, hA, s1, hz, l0, l2, hp⟩ := hP
  have c1 : Steps p.tables e below (s₁.setTop (entryFrame m #[.ref a, .ref b] 2)) (s₁.setTop (mkF m 0 #[.val (.ref a), .val (.ref b)] [])) := entry rfl
  have c2 : Steps p.tables e below (s₁.setTop (entryFrame m #[.ref a, .ref b] 2)) (s₁.setTop (mkF m 6 #[.val (.ref a), .val (.ref b)] [.null, .int (Int32.ofNat A.slots.size), .int 0, .ref b, .ref a])) := c1.trans (by
    refine XS.aloadN X0.here hexec rfl (hb hbytes d0) rfl rfl ?_
    refine XS.aloadN X0.here hexec rfl (hb hbytes d1) rfl rfl ?_
    refine iconstV X0.here hexec rfl 0 (hb hbytes d2) (by decide) ?_
    refine XS.aloadN X0.here hexec rfl (hb hbytes d3) rfl rfl ?_
    refine X0.alen hexec (hA.1.mv X0.warmed.alike hh0) rfl rfl (hb hbytes d4) ?_
    refine XS.aconstNull X0.here hexec rfl (hb hbytes d5) ?_
    exact Steps.refl _)
  obtain ⟨v3, T3, X3, E3, g3⟩ := X0.callN hexec (New4.law l a D fV fC b A z 0 A.slots.size) rfl hown (wks W (initW "java/lang/String" 27 New4.yN)) (W New4.tab (by simp only [site, List.mem_cons, List.mem_append, true_or, or_true])) (W := 0) (Nat.le_of_ble_eq_true rfl) (Nat.le_of_ble_eq_true rfl) (Nat.le_refl _) (by show 0 + A.slots.size ≤ A.slots.size; omega) (g := (mkF m 6 #[.val (.ref a), .val (.ref b)] [.null, .int (Int32.ofNat A.slots.size), .int (Int32.ofNat 0), .ref b, .ref a])) rfl (by rw [hml]; rfl) c2 (argsL := [.ref b, .int (Int32.ofNat 0), .int (Int32.ofNat A.slots.size), .null]) (rest := []) rfl rfl (by show 2 * 0 + 0 ≤ _; decide) (hb hbytes d6) (⟨rfl, hB.mv X0.warmed.alike hh0, f1.al X0.warmed.alike, f2.al X0.warmed.alike, hA.mv X0.warmed.alike hh0, s1.there X0.warmed.alike hh0, hz, l0, by omega, l2, fun i hi => by rw [Nat.zero_add]; exact hp i hi⟩)
  have e0 := Got.mv _ s₁ s _ _ hh0.symm (Vm.Alike.refl _) rfl E3
  obtain rfl := e0.1
  have c4 : Steps p.tables e below (s₁.setTop (entryFrame m #[.ref a, .ref b] 2)) (T3.setTop (mkF m 9 #[.val (.ref a), .val (.ref b)] [])) := g3
  exact ⟨T3, none, _, _, _, X3, by simp, rfl, by omega, (fun _ => rfl), e0, fun fs hl => c4.trans (X3.returnOut hexec hret (hb hbytes d9) hl)⟩
theorem pays {l : Launch} {R : Room} {p : Program} {e : Env} {below : List Frame} {s : State} {sargs : Array Value} {len W : Nat} (a : Addr) (D : Cell) (fV fC : Field) (b : Addr) (A : Cell) (z : Int32) (htab : tab.before sargs s = true) (hfr : 4 ≤ R.frames) (hlo : W + 65 ≤ R.locals) :
    Back l R p e below s sargs yN len W (fun A₁ a₁ => A₁.cells + 1 ≤ R.cells ∧ A₁.slots + A.slots.size ≤ R.slots ∧ P a D fV fC b A z a₁ A₁.U) (fun A₁ _ v₁ B₁ => E a D fV fC A v₁ A₁.U B₁.U ∧ B₁.locs = A₁.locs ++ [⟨a, fC.slot⟩, ⟨a, fV.slot⟩] ∧ B₁.cells = A₁.cells + 1 ∧ B₁.slots = A₁.slots + A.slots.size) :=
  (law l a D fV fC b A z).pays htab hfr (by omega)
end New1
end StrChars
namespace StrChars.Road
open Jvm Sem ClassFile Op Lib Jvm.Stand Jvm.Free Jvm.Free.XT
open Jvm.Lib.Cold (StaticIs)
abbrev ST : String := "java/lang/String"
/-- every table word that New1's law asks, flat -/
abbrev words : List Jvm.Cond := [.code New1.yN New1.yB 2 none, .initialized ST, .methodLink ST 27 New4.yN, .instanceMethod New4.yN,
  .code New4.yN New4.yB 6 none, .fieldLink ST 38 ST "COMPACT_STRINGS" "Z", .laysFinal ST ST "value" "[B", .fieldLink ST 9 ST "value" "[B", .laysFinal ST ST "coder" "B", .fieldLink ST 15 ST "coder" "B",
  .methodLink ST 1 Lib.objectInit, .instanceMethod Lib.objectInit, .code Lib.objectInit ⟨#[0xb1]⟩ 1 none, .methodLink ST 177 Cmp3.yN, .static Cmp3.yN, .methodLink ST 47 CodL.yN, .static CodL.yN,
  .code Cmp3.yN Cmp3.yB 6 (some (.array .byte)), .initialized U16, .arrayClass .byte, .methodLink U16 115 Cmp5.yN, .static Cmp5.yN, .code Cmp5.yN Cmp5.yB 7 (some .int), .code CodL.yN CodL.yB 2 (some .byte)]
theorem tab_of {a : Array Value} {s : State} (h : ∀ w ∈ words, w.before a s = true) : New1.tab.before a s = true := by
  have h5 : Cmp5.tab.before a s = true := unparts (wk h (.code Cmp5.yN Cmp5.yB 7 (some .int))) (wks h (.initialized Cmp5.yN.cls :: Cmp5.site))
  have hc : CodL.tab.before a s = true := unparts (wk h (.code CodL.yN CodL.yB 2 (some .byte))) (wks h (.initialized CodL.yN.cls :: CodL.site))
  have q5 : ∀ w ∈ Cmp5.tab :: words, w.before a s = true := fun w hw => (List.mem_cons.mp hw).elim (fun e => e ▸ h5) (h w)
  have h3 : Cmp3.tab.before a s = true := unparts (wk q5 (.code Cmp3.yN Cmp3.yB 6 (some (.array .byte)))) (wks q5 (.initialized Cmp3.yN.cls :: Cmp3.site))
  have q3 : ∀ w ∈ Cmp3.tab :: CodL.tab :: words, w.before a s = true := fun w hw => (List.mem_cons.mp hw).elim (fun e => e ▸ h3) fun hw => (List.mem_cons.mp hw).elim (fun e => e ▸ hc) (h w)
  have h4 : New4.tab.before a s = true := unparts (wk q3 (.code New4.yN New4.yB 6 none)) (wks q3 (.initialized New4.yN.cls :: New4.site))
  have q4 : ∀ w ∈ New4.tab :: words, w.before a s = true := fun w hw => (List.mem_cons.mp hw).elim (fun e => e ▸ h4) (h w)
  exact unparts (wk q4 (.code New1.yN New1.yB 2 none)) (wks q4 (.initialized New1.yN.cls :: New1.site))
/-- the words ride from the start Z to the walk's own state -/
theorem moved {Z s : State} {a0 args : Array Value} (hZ : Z.Warmed39 s.vm) (hw : ∀ d ∈ words, d.before a0 Z = true) : ∀ d ∈ words, d.before args s = true := fun d hd => by
  have q := hw d hd
  have t : ∀ d ∈ words, d = .arrayClass .byte ∨ (d.onTables && d.keepsFace) = true := by decide +kernel
  rcases t d hd with rfl | t
  · exact RoadKit.mvA hZ q
  · exact RoadKit.mv hZ q t
/-- WHAT COMES BACK, over the tables of the start Z: h the heap at the call, h' behind it -/
def Q (Z : State) (x : Addr) (A : Cell) (h : Heap) (v : Option Value) (h' : Heap) (L : List Loc) : Prop := v = none ∧ (∀ y ∈ L, y.base = x) ∧ RoadKit.Keep h h' [x] ∧ h'.size = h.size + 1 ∧ RoadKit.Exa Z h' x ST ∧ RoadKit.Fld Z h' x ST "value" "[B" (.ref h.size) ∧ RoadKit.Fld Z h' x ST "coder" "B" (.int 0) ∧
  (∃ V : Cell, RoadKit.Arr Z h' h.size V .byte ∧ V.vm = .none ∧ Z.vm.findClass "[B" = some V.cls ∧ V.slots.size = A.slots.size ∧ ∀ j, j < A.slots.size → V.slots[j]? = some (.int (lo8 (cv A j)))) ∧
  ∀ (O n d : String) (w : Value), RoadKit.Fld Z h x O n d w → RoadKit.slotOf Z O n d ≠ RoadKit.slotOf Z ST "value" "[B" → RoadKit.slotOf Z O n d ≠ RoadKit.slotOf Z ST "coder" "B" → RoadKit.Fld Z h' x O n d w
/-- **new String(chars) AT A CALL, IN THE ROAD'S FORM**: for specialBack behind newO: x the fresh String, b the char[] with the cell A -/
theorem back {p : Program} {l : Launch} {e : Env} {R : Room} {s : State} {args : Array Value} {below : List Frame} {len W : Nat} {Z : State} {a0 : Array Value} {h : Heap} (hZ : Z.Warmed39 s.vm) (hw : ∀ d ∈ words, d.before a0 Z = true) {kI : Nat} (wi : (Jvm.Cond.instantiable ST kI).before a0 Z = true)
    {x b : Addr} {A : Cell} {z : Int32} {v0 c0 : Value} (E : RoadKit.Exa Z h x ST) (V : RoadKit.Fld Z h x ST "value" "[B" v0) (C : RoadKit.Fld Z h x ST "coder" "B" c0) (K : RoadKit.Arr Z h b A .char) (hty : Typed .char A) (S : RoadKit.Sta Z h ST "COMPACT_STRINGS" "Z" (.int z)) (hz : ¬ z = 0)
    (l0 : 0 < A.slots.size) (l2 : A.slots.size ≤ 536870912) (hp : ∀ i, i < A.slots.size → ¬ 255 < cv A i) (hfr : 4 ≤ R.frames) (hlo : W + 65 ≤ R.locals) :
    Back l R p e below s args New1.yN len W (fun P a => a = #[.ref x, .ref b] ∧ P.U.heap = h ∧ P.cells + 1 ≤ R.cells ∧ P.slots + A.slots.size ≤ R.slots)
      (fun P _ v B => ∃ L, Q Z x A h v B.U.heap L ∧ B.locs = P.locs ++ L ∧ B.cells = P.cells + 1 ∧ B.slots = P.slots + A.slots.size) := by
  intro m meth c P g ig mk a X hg hsize hdg hW hn hp'
  obtain ⟨rfl, rfl, r1, r2⟩ := hp'
  have al : Z.vm.Alike P.U.vm := hZ.alike.trans X.warmed.alike
  obtain ⟨D, cfV, kV, iV, fV, hD, gV, stV, knV, obV, asV, slV⟩ := id V
  obtain ⟨D', cfC, kC, iC, fC, hD', gC, stC, -, -, asC, slC⟩ := id C
  cases hD.symm.trans hD'
  obtain ⟨D2, kD, e1, e2, e3, e4, e5⟩ := id E
  cases hD.symm.trans e1
  obtain ⟨c2, k2, i1, i2, i3, -⟩ := Cond.instantiable_spec wi
  cases e2.symm.trans i1
  cases e3.symm.trans i2
  obtain ⟨kU, u1, u2⟩ := al.2.2 _ _ e3
  have hB : Blank ST x D P.U := ⟨hD, ⟨knV, fun q hq => by rw [hq] at obV; cases obV⟩, by rw [al.findClass]; exact e2, kU, u1, by rw [u2]; exact i3, by rw [u2]; exact e5 i3⟩
  have F1 : Found ST "value" "[B" fV P.U := ⟨SBG.found_only al ⟨cfV, kV, iV, gV⟩, stV⟩
  have F2 : Found ST "coder" "B" fC P.U := ⟨SBG.found_only al ⟨cfC, kC, iC, gC⟩, stC⟩
  have hA : Ch b A P.U := ⟨⟨K.1, State.isArrayOf_alike al K.2.1, K.2.2, by omega⟩, hty⟩
  have hS : StaticIs P.U ST "COMPACT_STRINGS" "Z" (.int z) := by
    obtain ⟨cfS, iS, kS, fS, st, cS, t1, t2, t3, t4, t5, t6, t7⟩ := S
    exact StaticIs.there (s := { Z with heap := P.U.heap }) ⟨cfS, iS, kS, fS, st, cS, t1, t2, t3, t4, t5, (fun q => by rw [q] at t6; cases t6), t7⟩ al rfl
  obtain ⟨v, B, X', ⟨⟨hv, E', V', q1, q2, q3, q4, q5, q6, q7, q8, q9, q10, q11⟩, hl, hc, hs⟩, st⟩ := New1.pays x D fV fC b A z (tab_of (moved hZ hw)) hfr hlo m meth c P g ig mk _ X hg hsize hdg hW hn ⟨r1, r2, rfl, hB, F1, F2, hA, hS, hz, l0, l2, hp⟩
  have al' : Z.vm.Alike B.U.vm := hZ.alike.trans X'.warmed.alike
  have hsz : E'.slots.size = D.slots.size := by
    obtain ⟨-, -, -, kB, w1, w2, w3⟩ := q1
    obtain ⟨kB', y1, y2⟩ := al'.2.2 _ _ e3
    rw [q2.2.1] at w1
    cases w1.symm.trans y1
    rw [w3, e5 i3, y2]
  refine ⟨v, B, X', ⟨_, ⟨hv, ?_, ⟨by omega, fun y cy hy hn' => q10 y cy (by simpa using hn') hy, fun y cy hy => ?_⟩, q11, ⟨E', _, q1.1, by rw [q2.2.1]; exact e2, by rw [q2.2.1]; exact e3, by rw [q2.1]; exact obV, fun _ => by rw [hsz]; exact e5 i3⟩,
    ⟨E', cfV, kV, iV, fV, q1.1, gV, stV, by rw [q2.1]; exact knV, by rw [q2.1]; exact obV, by rw [q2.2.1]; exact asV, q3⟩, ⟨E', cfC, kC, iC, fC, q1.1, gC, stC, by rw [q2.1]; exact knV, by rw [q2.1]; exact obV, by rw [q2.2.1]; exact asC, q4⟩,
    ⟨V', ⟨q5.1, State.isArrayOf_alike al'.symm q5.2.1, q5.2.2.1⟩, q6, by rw [← al'.findClass]; exact q7, q8, fun j hj => by have := q9 j hj; rwa [Nat.zero_add] at this⟩, fun O n d w F n1 n2 => ?_⟩, hl, hc, hs⟩, st⟩
  · intro y hy
    simp only [List.mem_cons, List.not_mem_nil, or_false] at hy
    rcases hy with rfl | rfl <;> rfl
  · by_cases q : y = x
    · subst q
      cases hD.symm.trans hy
      exact ⟨E', q1.1, q2.2.1, q2.1, hsz⟩
    · exact ⟨cy, q10 y cy q hy, rfl, rfl, rfl⟩
  · obtain ⟨D3, cf, k, i, f, g1, g2, g3, g4, g5, g6, g7⟩ := F
    cases hD.symm.trans g1
    simp only [RoadKit.slotOf, g2, gV, gC, Option.map_some, Option.getD_some] at n1 n2
    exact ⟨E', cf, k, i, f, q1.1, g2, g3, by rw [q2.1]; exact g4, by rw [q2.1]; exact g5, by rw [q2.2.1]; exact g6, by rw [q2.2.2 f.slot (by simp [n1, n2])]; exact g7⟩
end StrChars.Road
namespace StrChars.Road
open Jvm Sem ClassFile Op Lib Jvm.Stand Jvm.Free Jvm.Free.XT
/-- WHAT COMES BACK, the byte[] as a list of values -/
def QA (Z : State) (x : Addr) (zn : Int32) (cs : List Int32) (h : Heap) (v : Option Value) (h' : Heap) (L : List Loc) : Prop := v = none ∧ (∀ y ∈ L, y.base = x) ∧ RoadKit.Keep h h' [x] ∧ h'.size = h.size + 1 ∧ RoadKit.Exa Z h' x ST ∧ RoadKit.Fld Z h' x ST "value" "[B" (.ref h.size) ∧ RoadKit.Fld Z h' x ST "coder" "B" (.int 0) ∧
  (∃ kb, Z.vm.findClass "[B" = some kb ∧ RoadKit.Arv Z h' h.size kb .byte zn (cs.map fun c => .int (lo8 c)) (.int 0)) ∧
  ∀ (O n d : String) (w : Value), RoadKit.Fld Z h x O n d w → RoadKit.slotOf Z O n d ≠ RoadKit.slotOf Z ST "value" "[B" → RoadKit.slotOf Z O n d ≠ RoadKit.slotOf Z ST "coder" "B" → RoadKit.Fld Z h' x O n d w
/-- **new String(chars) AT A CALL, THE ARRAYS AS LISTS**: the char[] at b holds cs, not empty, no char above 255 -/
theorem backArv {p : Program} {l : Launch} {e : Env} {R : Room} {s : State} {args : Array Value} {below : List Frame} {len W : Nat} {Z : State} {a0 : Array Value} {h : Heap} (hZ : Z.Warmed39 s.vm) (hw : ∀ d ∈ words, d.before a0 Z = true) {kI : Nat} (wi : (Jvm.Cond.instantiable ST kI).before a0 Z = true)
    {x b : Addr} {k : ClassId} {zn z : Int32} {cs : List Int32} {dv v0 c0 : Value} (E : RoadKit.Exa Z h x ST) (V : RoadKit.Fld Z h x ST "value" "[B" v0) (C : RoadKit.Fld Z h x ST "coder" "B" c0) (K : RoadKit.Arv Z h b k .char zn (cs.map Value.int) dv) (S : RoadKit.Sta Z h ST "COMPACT_STRINGS" "Z" (.int z)) (hz : ¬ z = 0)
    (hlen : zn.toNatClampNeg = cs.length) (h0 : 0 < cs.length) (hbig : cs.length ≤ 536870912) (hall : ∀ c ∈ cs, ¬ 255 < c) (hfr : 4 ≤ R.frames) (hlo : W + 65 ≤ R.locals) :
    Back l R p e below s args New1.yN len W (fun P a => a = #[.ref x, .ref b] ∧ P.U.heap = h ∧ P.cells + 1 ≤ R.cells ∧ P.slots + cs.length ≤ R.slots)
      (fun P _ v B => ∃ L, QA Z x zn cs h v B.U.heap L ∧ B.locs = P.locs ++ L ∧ B.cells = P.cells + 1 ∧ B.slots = P.slots + cs.length) := by
  obtain ⟨A, K1, K2, K3, K4, K5, K6⟩ := K
  have e : A.slots.size = cs.length := K3.trans hlen
  have hat : ∀ (i : Nat) (hi : i < cs.length), A.slots[i]? = some (.int cs[i]) := fun i hi => by rw [K5 i (by omega)]; simp [List.getD_eq_getElem?_getD, hi]
  have hcv : ∀ (i : Nat) (hi : i < cs.length), cv A i = cs[i] := fun i hi => by unfold cv; rw [hat i hi]
  have hty : Typed .char A := fun i v hv => by
    have hi : i < A.slots.size := (Array.getElem?_eq_some_iff.mp hv).1
    have q := K5 i hi
    rw [hv] at q
    rw [Option.some.inj q]
    exact K6 i hi
  refine Back.mono (back hZ hw wi E V C K1 hty S hz (by omega) (by omega) (fun i hi => by rw [hcv i (by omega)]; exact hall _ (List.getElem_mem _)) hfr hlo) (fun P a hp => ⟨hp.1, hp.2.1, hp.2.2.1, by rw [e]; exact hp.2.2.2⟩) (fun P a v B hp hq => ?_)
  obtain ⟨L, ⟨q1, q2, q3, q4, q5, q6, q7, ⟨V', v1, v2, v3, v4, v5⟩, q9⟩, hl, hc, hs⟩ := hq
  refine ⟨L, ⟨q1, q2, q3, q4, q5, q6, q7, ⟨V'.cls, v3, V', v1, rfl, by rw [v4, e, hlen], K4, fun i hi => ?_, fun i hi => ?_⟩, q9⟩, hl, hc, by rw [hs, e]⟩
  · have hi' : i < cs.length := by omega
    rw [v5 i (by omega), hcv i hi']; simp [List.getD_eq_getElem?_getD, hi']
  · have hi' : i < cs.length := by omega
    simp only [List.getD_eq_getElem?_getD, List.getElem?_map, List.getElem?_eq_getElem hi', Option.map_some, Option.getD_some]
    exact fits_lo8 _
end StrChars.Road
namespace StrChars.Road
open Jvm Sem ClassFile Op Lib Jvm.Stand Jvm.Free Jvm.Free.XT
/-- WHAT COMES BACK, in the writer's own shape -/
def QV (Z : State) (x : Addr) (N : Int32) (bs : List Int32) (h : Heap) (n0 : Nat) (v : Option Value) (h' : Heap) (L : List Loc) : Prop := v = none ∧ RoadKit.Fr n0 L ∧ RoadKit.Keep h h' [x] ∧ RoadKit.Exa Z h' x ST ∧ RoadKit.Fld Z h' x ST "coder" "B" (.int 0) ∧
  ∃ (t : Addr) (kb : ClassId), n0 ≤ t ∧ h.size ≤ t ∧ ¬ t = x ∧ RoadKit.Fld Z h' x ST "value" "[B" (.ref t) ∧ RoadKit.Arv Z h' t kb .byte N (bs.map Value.int) (.int 0)
/-- **new String(chars) AT A CALL, FOR THE WRITER**: a char[] of n known ints, each 0 to 255 -/
theorem backV {p : Program} {l : Launch} {e : Env} {R : Room} {s : State} {args : Array Value} {below : List Frame} {len W : Nat} {Z : State} {a0 : Array Value} {h : Heap} (hZ : Z.Warmed39 s.vm) (hw : ∀ d ∈ words, d.before a0 Z = true) {kI : Nat} (wi : (Jvm.Cond.instantiable ST kI).before a0 Z = true)
    {x b : Addr} {kC : ClassId} {cs bs : List Int32} {d v0 c0 : Value} {z N : Int32} {n n0 : Nat} (hx0 : n0 ≤ x) (hh0 : n0 ≤ h.size) (E : RoadKit.Exa Z h x ST) (V : RoadKit.Fld Z h x ST "value" "[B" v0) (C : RoadKit.Fld Z h x ST "coder" "B" c0) (K : RoadKit.Arv Z h b kC .char N (cs.map Value.int) d) (S : RoadKit.Sta Z h ST "COMPACT_STRINGS" "Z" (.int z)) (hz : ¬ z = 0)
    (hn : cs.length = n) (hN : N = Int32.ofNat n) (l0 : 0 < n) (l2 : n ≤ 4000) (hp : ∀ c ∈ cs, ¬ c < 0 ∧ ¬ (255 : Int32) < c) (hb : bs = cs.map (fun c => c.toInt8.toInt32)) (hfr : 4 ≤ R.frames) (hlo : W + 65 ≤ R.locals) :
    Back l R p e below s args (⟨"java/lang/String", "<init>", "([C)V"⟩ : MethodName) len W (fun P a => a = #[.ref x, .ref b] ∧ P.U.heap = h ∧ P.cells + 1 ≤ R.cells ∧ P.slots + n ≤ R.slots)
      (fun P _ v B => ∃ L, QV Z x N bs h n0 v B.U.heap L ∧ B.locs = P.locs ++ L ∧ B.cells = P.cells + 1 ∧ B.slots = P.slots + n) := by
  subst hn hN hb
  refine Back.mono (backArv hZ hw wi E V C K S hz (n32 (by omega)) l0 (by omega) (fun c hc => (hp c hc).2) hfr hlo) (fun P a hp => hp) (fun P a v B hp hq => ?_)
  obtain ⟨L, ⟨q1, q2, q3, q4, q5, q6, q7, ⟨kb, v1, v2⟩, q9⟩, hl, hc, hs⟩ := hq
  exact ⟨L, ⟨q1, fun y hy => by rw [q2 y hy]; exact hx0, q3, q5, q7, h.size, kb, hh0, Nat.le_refl _, Nat.ne_of_gt E.lt, q6, by rw [List.map_map]; exact v2⟩, hl, hc, hs⟩
end StrChars.Road
end Jvm.Pilot.@@N@@

namespace Jvm.Pilot.@@N@@
open Jvm Jvm.ClassFile Sem Op Lib Jvm.Free Jvm.Stand Jvm.LawKit Jvm.RoadKit Bundle Jvm.Pilot.@@N@@.Jvm.D
theorem own_d {c : ClassFile.Code} {code : ByteArray} (h : c.code = code) {pc : Nat} {r : Except ClassFile.DecodeError (ClassFile.Instr × Nat)} (h2 : ClassFile.decode code pc = r) : ClassFile.decode c.code pc = r := h ▸ h2
theorem own_lt {a b : Nat} (h : a < b) : @LT.lt Addr _ a b := h
theorem own_ne {a b : Nat} (h : a < b ∨ b < a) : (a : Addr) ≠ b := fun e => by have e' : (a : Nat) = b := e; omega
abbrev SS (p : Program) (e : Env) (below : List Frame) (B T : State) (m : MethodId) (pc : Nat) (ls : Array Slot) (st : List Value) : Prop := Steps p.tables e below B (T.setTop (mkF m pc ls st))
theorem W {Z : State} {a0 : Array Value} (hw : ∀ d ∈ tables_1, d.before a0 Z = true) (k : Nat) {d : Jvm.Cond} (h : tables_1[k]? = some d := by rfl) : d.before a0 Z = true := hw _ (List.mem_of_getElem? h)
theorem and255_chars (x : Int32) : ¬ nar .char ((x &&& (255 : Int32)).toUInt32.toUInt16.toUInt32.toInt32) < 0 ∧ ¬ (255 : Int32) < nar .char ((x &&& (255 : Int32)).toUInt32.toUInt16.toUInt32.toInt32) := by
  have t : ∀ k : Fin 256, ¬ nar .char ((Int32.ofNat k.val).toUInt32.toUInt16.toUInt32.toInt32) < 0 ∧ ¬ (255 : Int32) < nar .char ((Int32.ofNat k.val).toUInt32.toUInt16.toUInt32.toInt32) := by decide +kernel
  have h : (x &&& 255).toBitVec.toNat < 256 := by
    simp only [Int32.toBitVec_and, BitVec.toNat_and]
    exact Nat.lt_succ_of_le Nat.and_le_right
  have e : (x &&& 255) = Int32.ofNat (x &&& 255).toBitVec.toNat := by
    apply Int32.toBitVec_inj.mp
    show _ = BitVec.ofNat 32 _
    rw [BitVec.ofNat_toNat]; simp
  rw [e]
  exact t ⟨_, h⟩
theorem own_M (p : Int32) : 0 ≤ (p &&& (1073741823 : Int32)).toInt ∧ (p &&& (1073741823 : Int32)).toInt ≤ 1073741823 := c_and p 1073741823 (by decide)
theorem own_W (p : Int32) : 0 ≤ (p &&& (65535 : Int32)).toInt ∧ (p &&& (65535 : Int32)).toInt ≤ 65535 := c_and p 65535 (by decide)
theorem own_1 : (1 : Int32).toInt = 1 := by decide
theorem own_2 : (2 : Int32).toInt = 2 := by decide
theorem own_irr (x : Int32) : ¬ x < x := by rw [Int32.lt_iff_toInt_lt]; omega
theorem own_l1 (p : Int32) : ((p &&& (1073741823 : Int32)) + (1 : Int32)) < (((p &&& (1073741823 : Int32)) + (1 : Int32)) + (1 : Int32)) := by
  rw [Int32.lt_iff_toInt_lt]
  have h := own_M p
  have a := c_iadd (p &&& 1073741823) 1
  have b := c_iadd ((p &&& 1073741823) + 1) 1
  have r1 := rng32 ((p &&& 1073741823) + 1)
  have r2 := rng32 ((p &&& 1073741823) + 1 + 1)
  rw [own_1] at a b
  omega
theorem own_l2 (p : Int32) : ¬ (((p &&& (1073741823 : Int32)) + (1 : Int32)) + (1 : Int32)) < ((p &&& (1073741823 : Int32)) + (1 : Int32)) := by
  have h := own_l1 p
  rw [Int32.lt_iff_toInt_lt] at h ⊢
  omega
theorem own_l3 (p : Int32) : ¬ (((p &&& (1073741823 : Int32)) + (1 : Int32)) + (1 : Int32)) = ((p &&& (1073741823 : Int32)) + (1 : Int32)) := fun e => by
  have h := own_l1 p
  rw [e] at h
  exact own_irr _ h
theorem own_k1 (p q : Int32) : ((p &&& (1073741823 : Int32)) + (1 : Int32)) < ((((p &&& (1073741823 : Int32)) + (1 : Int32)) + (2 : Int32)) + (q &&& (65535 : Int32))) := by
  rw [Int32.lt_iff_toInt_lt]
  have h := own_M p
  have g := own_W q
  have a := c_iadd (p &&& 1073741823) 1
  have b := c_iadd ((p &&& 1073741823) + 1) 2
  have d := c_iadd (((p &&& 1073741823) + 1) + 2) (q &&& 65535)
  have r1 := rng32 ((p &&& 1073741823) + 1)
  have r2 := rng32 ((p &&& 1073741823) + 1 + 2)
  have r3 := rng32 ((p &&& 1073741823) + 1 + 2 + (q &&& 65535))
  rw [own_1] at a
  rw [own_2] at b
  omega
theorem own_k2 (p q : Int32) : ¬ ((((p &&& (1073741823 : Int32)) + (1 : Int32)) + (2 : Int32)) + (q &&& (65535 : Int32))) < ((p &&& (1073741823 : Int32)) + (1 : Int32)) := by
  have h := own_k1 p q
  rw [Int32.lt_iff_toInt_lt] at h ⊢
  omega
theorem ef_R_1 (m : MethodId) (x0 : Addr) : entryFrame m #[(.ref x0)] 1 = mkF m 0 #[.val (.ref x0)] [] := by first | (simp [entryFrame, mkF, argsToLocals, Value.category, maxLocals]; done) | rfl
theorem pn_java_lang_Record : plainName "java/lang/Record" = true := by first | (simp [plainName, overriddenIn]; done) | decide +kernel
theorem d0_0 : decode jdk_30_method_1_code 0 = .ok (.aload_n 0, 1) := by decide +kernel
theorem d0_1 : decode jdk_30_method_1_code 1 = .ok (.invokespecial 1, 3) := by decide +kernel
theorem d0_4 : decode jdk_30_method_1_code 4 = .ok (.return_, 1) := by decide +kernel
theorem ef_RRRII_5 (m : MethodId) (x0 : Addr) (x1 : Addr) (x2 : Addr) (x3 : Int32) (x4 : Int32) : entryFrame m #[(.ref x0), (.ref x1), (.ref x2), (.int x3), (.int x4)] 5 = mkF m 0 #[.val (.ref x0), .val (.ref x1), .val (.ref x2), .val (.int x3), .val (.int x4)] [] := by first | (simp [entryFrame, mkF, argsToLocals, Value.category, maxLocals]; done) | rfl
theorem pn_com_example_logicsmith_logicsmith_frontend_Token : plainName "com/example/logicsmith/logicsmith/frontend/Token" = true := by first | (simp [plainName, overriddenIn]; done) | decide +kernel
theorem d1_0 : decode prog_113_method_1_code 0 = .ok (.aload_n 0, 1) := by decide +kernel
theorem d1_1 : decode prog_113_method_1_code 1 = .ok (.invokespecial 1, 3) := by decide +kernel
theorem pd___V : parseMethodDescriptor "()V" = some ⟨[], none⟩ := by decide +kernel
theorem d1_4 : decode prog_113_method_1_code 4 = .ok (.aload_n 0, 1) := by decide +kernel
theorem d1_5 : decode prog_113_method_1_code 5 = .ok (.aload_n 1, 1) := by decide +kernel
theorem d1_6 : decode prog_113_method_1_code 6 = .ok (.putfield 7, 3) := by decide +kernel
theorem d1_9 : decode prog_113_method_1_code 9 = .ok (.aload_n 0, 1) := by decide +kernel
theorem d1_10 : decode prog_113_method_1_code 10 = .ok (.aload_n 2, 1) := by decide +kernel
theorem d1_11 : decode prog_113_method_1_code 11 = .ok (.putfield 13, 3) := by decide +kernel
theorem d1_14 : decode prog_113_method_1_code 14 = .ok (.aload_n 0, 1) := by decide +kernel
theorem d1_15 : decode prog_113_method_1_code 15 = .ok (.iload_n 3, 1) := by decide +kernel
theorem d1_16 : decode prog_113_method_1_code 16 = .ok (.putfield 17, 3) := by decide +kernel
theorem d1_19 : decode prog_113_method_1_code 19 = .ok (.aload_n 0, 1) := by decide +kernel
theorem d1_20 : decode prog_113_method_1_code 20 = .ok (.iload 4, 2) := by decide +kernel
theorem d1_22 : decode prog_113_method_1_code 22 = .ok (.putfield 21, 3) := by decide +kernel
theorem d1_25 : decode prog_113_method_1_code 25 = .ok (.return_, 1) := by decide +kernel
theorem ef_RRRI_4 (m : MethodId) (x0 : Addr) (x1 : Addr) (x2 : Addr) (x3 : Int32) : entryFrame m #[(.ref x0), (.ref x1), (.ref x2), (.int x3)] 4 = mkF m 0 #[.val (.ref x0), .val (.ref x1), .val (.ref x2), .val (.int x3)] [] := by first | (simp [entryFrame, mkF, argsToLocals, Value.category, maxLocals]; done) | rfl
theorem pn_com_example_logicsmith_logicsmith_frontend_Expression_Increment : plainName "com/example/logicsmith/logicsmith/frontend/Expression$Increment" = true := by first | (simp [plainName, overriddenIn]; done) | decide +kernel
theorem d2_0 : decode prog_48_method_1_code 0 = .ok (.aload_n 0, 1) := by decide +kernel
theorem d2_1 : decode prog_48_method_1_code 1 = .ok (.invokespecial 1, 3) := by decide +kernel
theorem d2_4 : decode prog_48_method_1_code 4 = .ok (.aload_n 0, 1) := by decide +kernel
theorem d2_5 : decode prog_48_method_1_code 5 = .ok (.aload_n 1, 1) := by decide +kernel
theorem d2_6 : decode prog_48_method_1_code 6 = .ok (.putfield 7, 3) := by decide +kernel
theorem d2_9 : decode prog_48_method_1_code 9 = .ok (.aload_n 0, 1) := by decide +kernel
theorem d2_10 : decode prog_48_method_1_code 10 = .ok (.aload_n 2, 1) := by decide +kernel
theorem d2_11 : decode prog_48_method_1_code 11 = .ok (.putfield 13, 3) := by decide +kernel
theorem d2_14 : decode prog_48_method_1_code 14 = .ok (.aload_n 0, 1) := by decide +kernel
theorem d2_15 : decode prog_48_method_1_code 15 = .ok (.iload_n 3, 1) := by decide +kernel
theorem d2_16 : decode prog_48_method_1_code 16 = .ok (.putfield 16, 3) := by decide +kernel
theorem d2_19 : decode prog_48_method_1_code 19 = .ok (.return_, 1) := by decide +kernel
theorem d3_0 : decode prog_48_method_2_code 0 = .ok (.aload_n 0, 1) := by decide +kernel
theorem d3_1 : decode prog_48_method_2_code 1 = .ok (.getfield 16, 3) := by decide +kernel
theorem d3_4 : decode prog_48_method_2_code 4 = .ok (.ifCond .eq 10, 3) := by decide +kernel
theorem d3_14 : decode prog_48_method_2_code 14 = .ok (.aload_n 0, 1) := by decide +kernel
theorem d3_15 : decode prog_48_method_2_code 15 = .ok (.getfield 13, 3) := by decide +kernel
theorem d3_18 : decode prog_48_method_2_code 18 = .ok (.areturn, 1) := by decide +kernel
theorem d3_7 : decode prog_48_method_2_code 7 = .ok (.aload_n 0, 1) := by decide +kernel
theorem d3_8 : decode prog_48_method_2_code 8 = .ok (.getfield 7, 3) := by decide +kernel
theorem d3_11 : decode prog_48_method_2_code 11 = .ok (.goto 7, 3) := by decide +kernel
theorem ef_IIIIII_28m (m : MethodId) (x0 : Int32) (x1 : Int32) (x2 : Int32) (x3 : Int32) (x4 : Int32) (x5 : Int32) : entryFrame m #[(.int x0), (.int x1), (.int x2), (.int x3), (.int x4), (.int x5)] maxLocals = mkF m 0 #[.val (.int x0), .val (.int x1), .val (.int x2), .val (.int x3), .val (.int x4), .val (.int x5), .unset, .unset, .unset, .unset, .unset, .unset, .unset, .unset, .unset, .unset, .unset, .unset, .unset, .unset, .unset, .unset, .unset, .unset, .unset, .unset, .unset, .unset] [] := by first | (simp [entryFrame, mkF, argsToLocals, Value.category, maxLocals]; done) | rfl
theorem pn_com_example_logicsmith_logicsmith_frontend_IncrementTokenPinLaw : plainName "com/example/logicsmith/logicsmith/frontend/IncrementTokenPinLaw" = true := by first | (simp [plainName, overriddenIn]; done) | decide +kernel
theorem pd___C_V : parseMethodDescriptor "([C)V" = some ⟨[(.array .char)], none⟩ := by decide +kernel
theorem pd__Lcom_example_logicsmith_logicsmith_frontend_Token_Kind_Ljava_lang_String_II_V : parseMethodDescriptor "(Lcom/example/logicsmith/logicsmith/frontend/Token$Kind;Ljava/lang/String;II)V" = some ⟨[(.object "com/example/logicsmith/logicsmith/frontend/Token$Kind"), (.object "java/lang/String"), .int, .int], none⟩ := by decide +kernel
theorem pd__Lcom_example_logicsmith_logicsmith_frontend_Token_Lcom_example_logicsmith_logicsmith_frontend_Token_Z_V : parseMethodDescriptor "(Lcom/example/logicsmith/logicsmith/frontend/Token;Lcom/example/logicsmith/logicsmith/frontend/Token;Z)V" = some ⟨[(.object "com/example/logicsmith/logicsmith/frontend/Token"), (.object "com/example/logicsmith/logicsmith/frontend/Token"), .boolean], none⟩ := by decide +kernel
theorem pd___Lcom_example_logicsmith_logicsmith_frontend_Token_ : parseMethodDescriptor "()Lcom/example/logicsmith/logicsmith/frontend/Token;" = some ⟨[], some (.object "com/example/logicsmith/logicsmith/frontend/Token")⟩ := by decide +kernel
def QR (h0 : Heap) (n0 : Nat) (v : Option Value) (h : Heap) (L : List Loc) : Prop := v = none ∧ Fr n0 L ∧ h = h0
set_option maxRecDepth 65536 in
set_option maxHeartbeats 40000000 in
theorem rmR (l : Launch) (Z : State) (a0 : Array Value) (hw : ∀ d ∈ tables_1, d.before a0 Z = true) (ws : List Jvm.Cond) (a1 : Addr) (h0 : Heap) (n0 : Nat) (Z0 : n0 ≤ h0.size)  :
    MetFree l (⟨"java/lang/Record", "<init>", "()V"⟩ : MethodName) (head1 (Jvm.Cond.code (⟨"java/lang/Record", "<init>", "()V"⟩ : MethodName) jdk_30_method_1_code 1 none :: ws) ({ frames := 1, cells := 0, slots := 0, locals := 12 } : Room)) (fun a U => a = #[(.ref a1)] ∧ Z.Warmed39 U.vm ∧ U.heap = h0) (fun _ _ _ _ _ => True) (fun _ U o U' => ∃ v L, o = .returned v ∧ QR h0 n0 v U'.heap L ∧ FrameEnd U o U' L ({ frames := 1, cells := 0, slots := 0, locals := 12 } : Room).cells ({ frames := 1, cells := 0, slots := 0, locals := 12 } : Room).slots) := by
  refine MetFree.of_bodySF (plainFor_of_name pn_java_lang_Record) hisR ?_
  intro p e s m args below meth c s₁ Bd hml0 hP hK
  obtain ⟨rfl, hZ, hh⟩ := hP
  have hx := Bd.exec
  have hby := Bd.bytes
  have hml : c.maxLocals = 1 := hml0
  have hown : s.vm.findClass "java/lang/Record" = some m.cls := findClass_of_methodNamed Bd.named
  have hnm := (name_of_methodNamed Bd.named Bd.method).1
  have X0 : Stand p l e ({ frames := 1, cells := 0, slots := 0, locals := 12 } : Room) s m #[(.ref a1)] below meth c s₁ [] 0 0 := Stand.of_body Bd
  have e0 : s₁.heap = h0 := by rw [← hh, Bd.state]; rfl
  have N0 := Fr.nil n0
  obtain ⟨B0, c0, hB0⟩ : ∃ B0, Steps p.tables e below B0 (s₁.setTop (mkF m 0 #[.val (.ref a1)] [])) ∧ B0 = s₁.setTop (entryFrame m #[(.ref a1)] 1) := ⟨_, castTop (ef_R_1 m a1) (Steps.refl _), rfl⟩
  have c1 : SS p e below B0 s₁ m 1 #[.val (.ref a1)] [(.ref a1)] := Steps.trans c0 (by
      refine XS.aloadN X0.here hx rfl (own_d hby d0_0) rfl rfl ?_
      exact Steps.refl _)
  obtain ⟨T2, X2, e2, st2⟩ := initO X0 hx hZ hown (W hw 46) (W hw 14) (W hw 15) e0 (g := (mkF m 1 #[.val (.ref a1)] [(.ref a1)])) rfl (by rw [hml]; rfl) rfl (own_d hby d0_1) (by decide) (W := 0) (by show 2 * 0 + _ ≤ _; exact Nat.le_of_eq rfl) (by decide)
  have c3 : SS p e below B0 T2 m 4 #[.val (.ref a1)] [] := Steps.trans c1 (st2 _ (Steps.refl _))
  obtain ⟨fs, hr, hrun, hended, hW, hsame⟩ := X2.leave (v := none) (fun _ => rfl)
  subst hB0
  refine ⟨_, _, Steps.trans c3 ?_, hrun, hended, _, _, rfl, ?_, ⟨_, rfl⟩, hW, hsame.mono (by decide) (by decide)⟩
  · exact X2.returnOut hx Bd.returns (own_d hby d0_4) hr
  · show QR h0 n0 _ T2.heap _
    rw [e2]
    exact ⟨rfl, N0, rfl⟩
def QT (a1 : Addr) (h0 : Heap) (n0 : Nat) (v : Option Value) (h : Heap) (L : List Loc) : Prop := v = none ∧ Fr n0 L ∧ Keep h0 h [a1]
set_option maxRecDepth 65536 in
set_option maxHeartbeats 40000000 in
theorem rmT (l : Launch) (Z : State) (a0 : Array Value) (hw : ∀ d ∈ tables_1, d.before a0 Z = true) (ws : List Jvm.Cond) (a1 a2 a3 : Addr) (p4 p5 : Int32) (u1 u2 u3 u4 : Value) (h0 : Heap) (n0 : Nat) (Z0 : n0 ≤ h0.size) (E1 : Exa Z h0 a1 "com/example/logicsmith/logicsmith/frontend/Token") (F1 : Fld Z h0 a1 "com/example/logicsmith/logicsmith/frontend/Token" "kind" "Lcom/example/logicsmith/logicsmith/frontend/Token$Kind;" u1) (F2 : Fld Z h0 a1 "com/example/logicsmith/logicsmith/frontend/Token" "text" "Ljava/lang/String;" u2) (F3 : Fld Z h0 a1 "com/example/logicsmith/logicsmith/frontend/Token" "line" "I" u3) (F4 : Fld Z h0 a1 "com/example/logicsmith/logicsmith/frontend/Token" "column" "I" u4) (g1 : n0 ≤ a1) :
    MetFree l (⟨"com/example/logicsmith/logicsmith/frontend/Token", "<init>", "(Lcom/example/logicsmith/logicsmith/frontend/Token$Kind;Ljava/lang/String;II)V"⟩ : MethodName) (head1 (Jvm.Cond.code (⟨"com/example/logicsmith/logicsmith/frontend/Token", "<init>", "(Lcom/example/logicsmith/logicsmith/frontend/Token$Kind;Ljava/lang/String;II)V"⟩ : MethodName) prog_113_method_1_code 5 none :: ws) ({ frames := 2, cells := 0, slots := 0, locals := 24 } : Room)) (fun a U => a = #[(.ref a1), (.ref a2), (.ref a3), (.int p4), (.int p5)] ∧ Z.Warmed39 U.vm ∧ U.heap = h0) (fun _ _ _ _ _ => True) (fun _ U o U' => ∃ v L, o = .returned v ∧ QT a1 h0 n0 v U'.heap L ∧ FrameEnd U o U' L ({ frames := 2, cells := 0, slots := 0, locals := 24 } : Room).cells ({ frames := 2, cells := 0, slots := 0, locals := 24 } : Room).slots) := by
  refine MetFree.of_bodySF (plainFor_of_name pn_com_example_logicsmith_logicsmith_frontend_Token) hisR ?_
  intro p e s m args below meth c s₁ Bd hml0 hP hK
  obtain ⟨rfl, hZ, hh⟩ := hP
  have hx := Bd.exec
  have hby := Bd.bytes
  have hml : c.maxLocals = 5 := hml0
  have hown : s.vm.findClass "com/example/logicsmith/logicsmith/frontend/Token" = some m.cls := findClass_of_methodNamed Bd.named
  have hnm := (name_of_methodNamed Bd.named Bd.method).1
  have X0 : Stand p l e ({ frames := 2, cells := 0, slots := 0, locals := 24 } : Room) s m #[(.ref a1), (.ref a2), (.ref a3), (.int p4), (.int p5)] below meth c s₁ [] 0 0 := Stand.of_body Bd
  have e0 : s₁.heap = h0 := by rw [← hh, Bd.state]; rfl
  have N0 := Fr.nil n0
  obtain ⟨B0, c0, hB0⟩ : ∃ B0, Steps p.tables e below B0 (s₁.setTop (mkF m 0 #[.val (.ref a1), .val (.ref a2), .val (.ref a3), .val (.int p4), .val (.int p5)] [])) ∧ B0 = s₁.setTop (entryFrame m #[(.ref a1), (.ref a2), (.ref a3), (.int p4), (.int p5)] 5) := ⟨_, castTop (ef_RRRII_5 m a1 a2 a3 p4 p5) (Steps.refl _), rfl⟩
  have l1 : (@LT.lt Nat _ a1 h0.size) := E1.lt
  have c1 : SS p e below B0 s₁ m 1 #[.val (.ref a1), .val (.ref a2), .val (.ref a3), .val (.int p4), .val (.int p5)] [(.ref a1)] := Steps.trans c0 (by
      refine XS.aloadN X0.here hx rfl (own_d hby d1_0) rfl rfl ?_
      exact Steps.refl _)
  obtain ⟨_, _, ⟨T2, Lp2, kp2, np2⟩, -, X2, ⟨Lc2, hQ2, lp2, yp2, zp2⟩, st2⟩ := X0.specialBack hx (y := (⟨"java/lang/Record", "<init>", "()V"⟩ : MethodName)) rfl hown (mvT hZ (W hw 41)) (mvT hZ (W hw 42)) (mvT hZ (W hw 45)) (by decide) (backOf (W := 0) (rmR l Z a0 hw [] a1 h0 n0 Z0) hZ (W hw 45) (W hw 44) (by decide) (by decide)) (g := (mkF m 1 #[.val (.ref a1), .val (.ref a2), .val (.ref a3), .val (.int p4), .val (.int p5)] [(.ref a1)])) rfl (by rw [hml]; rfl) c1 (a := a1) (argsL := []) (rest := []) (lenOf pd___V rfl) rfl (by show 2 * 0 + _ ≤ _; exact Nat.le_of_eq rfl) (own_d hby d1_1) (fun _ _ => ⟨rfl, e0, (by decide : 0 + 0 ≤ _), (by decide : 0 + 0 ≤ _)⟩)
  dsimp only [Pt.U, Pt.locs, Pt.cells, Pt.slots] at X2 lp2 yp2 zp2 st2 hQ2
  subst lp2 yp2 zp2
  obtain ⟨rfl, Nq2, eq2⟩ := hQ2
  have N2 := Fr.app N0 Nq2
  have c3 : SS p e below B0 T2 m 4 #[.val (.ref a1), .val (.ref a2), .val (.ref a3), .val (.int p4), .val (.int p5)] [] := st2
  have c4 : SS p e below B0 T2 m 6 #[.val (.ref a1), .val (.ref a2), .val (.ref a3), .val (.int p4), .val (.int p5)] [(.ref a2), (.ref a1)] := Steps.trans c3 (by
      refine XS.aloadN X2.here hx rfl (own_d hby d1_4) rfl rfl ?_
      refine XS.aloadN X2.here hx rfl (own_d hby d1_5) rfl rfl ?_
      exact Steps.refl _)
  obtain ⟨T5, h5, X5, e5, W5, st5⟩ := putF X2 hx hZ hown (host := "") (Or.inl (W hw 47)) Via.refl eq2 F1 E1 (Or.inr ⟨(W hw 48), rfl, hnm⟩) (W hw 33) (ty := (.object "com/example/logicsmith/logicsmith/frontend/Token$Kind")) (by decide) rfl rfl (g := (mkF m 6 #[.val (.ref a1), .val (.ref a2), .val (.ref a3), .val (.int p4), .val (.int p5)] [(.ref a2), (.ref a1)])) rfl rfl (own_d hby d1_6)
  have N5 := Fr.snoc X5 N2 (by omega)
  have F5 : Fld Z h5 a1 "com/example/logicsmith/logicsmith/frontend/Token" "kind" "Lcom/example/logicsmith/logicsmith/frontend/Token$Kind;" (.ref a2) := F1.same W5
  have z5 : h5.size = h0.size := W5.size
  have K5 := (Keep.refl h0 [a1]).wr W5 (Or.inl (List.mem_of_getElem? (i := 0) rfl))
  have c6 : SS p e below B0 T5 m 9 #[.val (.ref a1), .val (.ref a2), .val (.ref a3), .val (.int p4), .val (.int p5)] [] := Steps.trans c4 (st5 _ (Steps.refl _))
  have c7 : SS p e below B0 T5 m 11 #[.val (.ref a1), .val (.ref a2), .val (.ref a3), .val (.int p4), .val (.int p5)] [(.ref a3), (.ref a1)] := Steps.trans c6 (by
      refine XS.aloadN X5.here hx rfl (own_d hby d1_9) rfl rfl ?_
      refine XS.aloadN X5.here hx rfl (own_d hby d1_10) rfl rfl ?_
      exact Steps.refl _)
  have Fld9 : Fld Z h5 a1 "com/example/logicsmith/logicsmith/frontend/Token" "text" "Ljava/lang/String;" u2 := (F2.other W5 (Or.inr (slot_ne (Or.inr (W hw 50)) (Or.inr (W hw 48)) (by decide) (t := (.object "java/lang/String")) (t' := (.object "com/example/logicsmith/logicsmith/frontend/Token$Kind")) (by decide) (by decide))))
  have Exa10 : Exa Z h5 a1 "com/example/logicsmith/logicsmith/frontend/Token" := (E1.wr W5)
  obtain ⟨T8, h8, X8, e8, W8, st8⟩ := putF X5 hx hZ hown (host := "") (Or.inl (W hw 49)) Via.refl e5 Fld9 Exa10 (Or.inr ⟨(W hw 50), rfl, hnm⟩) (W hw 33) (ty := (.object "java/lang/String")) (by decide) rfl rfl (g := (mkF m 11 #[.val (.ref a1), .val (.ref a2), .val (.ref a3), .val (.int p4), .val (.int p5)] [(.ref a3), (.ref a1)])) rfl rfl (own_d hby d1_11)
  have N8 := Fr.snoc X8 N5 (by omega)
  have F8 : Fld Z h8 a1 "com/example/logicsmith/logicsmith/frontend/Token" "text" "Ljava/lang/String;" (.ref a3) := Fld9.same W8
  have z8 : h8.size = h5.size := W8.size
  have K8 := K5.wr W8 (Or.inl (List.mem_of_getElem? (i := 0) rfl))
  have c11 : SS p e below B0 T8 m 14 #[.val (.ref a1), .val (.ref a2), .val (.ref a3), .val (.int p4), .val (.int p5)] [] := Steps.trans c7 (st8 _ (Steps.refl _))
  have c12 : SS p e below B0 T8 m 16 #[.val (.ref a1), .val (.ref a2), .val (.ref a3), .val (.int p4), .val (.int p5)] [(.int p4), (.ref a1)] := Steps.trans c11 (by
      refine XS.aloadN X8.here hx rfl (own_d hby d1_14) rfl rfl ?_
      refine XS.iloadN X8.here hx rfl (own_d hby d1_15) rfl ?_
      exact Steps.refl _)
  have Fld14 : Fld Z h8 a1 "com/example/logicsmith/logicsmith/frontend/Token" "line" "I" u3 := ((F3.other W5 (Or.inr (slot_ne (Or.inr (W hw 52)) (Or.inr (W hw 48)) (by decide) (t := .int) (t' := (.object "com/example/logicsmith/logicsmith/frontend/Token$Kind")) (by decide) (by decide)))).other W8 (Or.inr (slot_ne (Or.inr (W hw 52)) (Or.inr (W hw 50)) (by decide) (t := .int) (t' := (.object "java/lang/String")) (by decide) (by decide))))
  have Exa15 : Exa Z h8 a1 "com/example/logicsmith/logicsmith/frontend/Token" := (Exa10.wr W8)
  obtain ⟨T13, h13, X13, e13, W13, st13⟩ := putF X8 hx hZ hown (host := "") (Or.inl (W hw 51)) Via.refl e8 Fld14 Exa15 (Or.inr ⟨(W hw 52), rfl, hnm⟩) (W hw 33) (ty := .int) (by decide) rfl rfl (g := (mkF m 16 #[.val (.ref a1), .val (.ref a2), .val (.ref a3), .val (.int p4), .val (.int p5)] [(.int p4), (.ref a1)])) rfl rfl (own_d hby d1_16)
  have N13 := Fr.snoc X13 N8 (by omega)
  have F13 : Fld Z h13 a1 "com/example/logicsmith/logicsmith/frontend/Token" "line" "I" (.int p4) := Fld14.same W13
  have z13 : h13.size = h8.size := W13.size
  have K13 := K8.wr W13 (Or.inl (List.mem_of_getElem? (i := 0) rfl))
  have c16 : SS p e below B0 T13 m 19 #[.val (.ref a1), .val (.ref a2), .val (.ref a3), .val (.int p4), .val (.int p5)] [] := Steps.trans c12 (st13 _ (Steps.refl _))
  have c17 : SS p e below B0 T13 m 22 #[.val (.ref a1), .val (.ref a2), .val (.ref a3), .val (.int p4), .val (.int p5)] [(.int p5), (.ref a1)] := Steps.trans c16 (by
      refine XS.aloadN X13.here hx rfl (own_d hby d1_19) rfl rfl ?_
      refine XS.iload X13.here hx rfl (own_d hby d1_20) rfl ?_
      exact Steps.refl _)
  have Fld19 : Fld Z h13 a1 "com/example/logicsmith/logicsmith/frontend/Token" "column" "I" u4 := (((F4.other W5 (Or.inr (slot_ne (Or.inr (W hw 54)) (Or.inr (W hw 48)) (by decide) (t := .int) (t' := (.object "com/example/logicsmith/logicsmith/frontend/Token$Kind")) (by decide) (by decide)))).other W8 (Or.inr (slot_ne (Or.inr (W hw 54)) (Or.inr (W hw 50)) (by decide) (t := .int) (t' := (.object "java/lang/String")) (by decide) (by decide)))).other W13 (Or.inr (slot_ne (Or.inr (W hw 54)) (Or.inr (W hw 52)) (by decide) (t := .int) (t' := .int) (by decide) (by decide))))
  have Exa20 : Exa Z h13 a1 "com/example/logicsmith/logicsmith/frontend/Token" := (Exa15.wr W13)
  obtain ⟨T18, h18, X18, e18, W18, st18⟩ := putF X13 hx hZ hown (host := "") (Or.inl (W hw 53)) Via.refl e13 Fld19 Exa20 (Or.inr ⟨(W hw 54), rfl, hnm⟩) (W hw 33) (ty := .int) (by decide) rfl rfl (g := (mkF m 22 #[.val (.ref a1), .val (.ref a2), .val (.ref a3), .val (.int p4), .val (.int p5)] [(.int p5), (.ref a1)])) rfl rfl (own_d hby d1_22)
  have N18 := Fr.snoc X18 N13 (by omega)
  have F18 : Fld Z h18 a1 "com/example/logicsmith/logicsmith/frontend/Token" "column" "I" (.int p5) := Fld19.same W18
  have z18 : h18.size = h13.size := W18.size
  have K18 := K13.wr W18 (Or.inl (List.mem_of_getElem? (i := 0) rfl))
  have c21 : SS p e below B0 T18 m 25 #[.val (.ref a1), .val (.ref a2), .val (.ref a3), .val (.int p4), .val (.int p5)] [] := Steps.trans c17 (st18 _ (Steps.refl _))
  obtain ⟨fs, hr, hrun, hended, hW, hsame⟩ := X18.leave (v := none) (fun _ => rfl)
  subst hB0
  refine ⟨_, _, Steps.trans c21 ?_, hrun, hended, _, _, rfl, ?_, ⟨_, rfl⟩, hW, hsame.mono (by decide) (by decide)⟩
  · exact X18.returnOut hx Bd.returns (own_d hby d1_25) hr
  · show QT a1 h0 n0 _ T18.heap _
    rw [e18]
    exact ⟨rfl, N18, K18⟩
def QI (Z : State) (a1 a2 a3 : Addr) (p4 : Int32) (h0 : Heap) (n0 : Nat) (v : Option Value) (h : Heap) (L : List Loc) : Prop := v = none ∧ Fr n0 L ∧ Keep h0 h [a1] ∧ Fld Z h a1 "com/example/logicsmith/logicsmith/frontend/Expression$Increment" "operator" "Lcom/example/logicsmith/logicsmith/frontend/Token;" (.ref a2) ∧ Fld Z h a1 "com/example/logicsmith/logicsmith/frontend/Expression$Increment" "name" "Lcom/example/logicsmith/logicsmith/frontend/Token;" (.ref a3) ∧ Fld Z h a1 "com/example/logicsmith/logicsmith/frontend/Expression$Increment" "prefix" "Z" (.int p4)
set_option maxRecDepth 65536 in
set_option maxHeartbeats 40000000 in
theorem rmI (l : Launch) (Z : State) (a0 : Array Value) (hw : ∀ d ∈ tables_1, d.before a0 Z = true) (ws : List Jvm.Cond) (a1 a2 a3 : Addr) (p4 : Int32) (u1 u2 u3 : Value) (h0 : Heap) (n0 : Nat) (Z0 : n0 ≤ h0.size) (E1 : Exa Z h0 a1 "com/example/logicsmith/logicsmith/frontend/Expression$Increment") (F1 : Fld Z h0 a1 "com/example/logicsmith/logicsmith/frontend/Expression$Increment" "operator" "Lcom/example/logicsmith/logicsmith/frontend/Token;" u1) (F2 : Fld Z h0 a1 "com/example/logicsmith/logicsmith/frontend/Expression$Increment" "name" "Lcom/example/logicsmith/logicsmith/frontend/Token;" u2) (F3 : Fld Z h0 a1 "com/example/logicsmith/logicsmith/frontend/Expression$Increment" "prefix" "Z" u3) (g1 : n0 ≤ a1) (hpn : narrow .boolean (.int p4) = .int p4) (hpf : fits .boolean (.int p4) = true) :
    MetFree l (⟨"com/example/logicsmith/logicsmith/frontend/Expression$Increment", "<init>", "(Lcom/example/logicsmith/logicsmith/frontend/Token;Lcom/example/logicsmith/logicsmith/frontend/Token;Z)V"⟩ : MethodName) (head1 (Jvm.Cond.code (⟨"com/example/logicsmith/logicsmith/frontend/Expression$Increment", "<init>", "(Lcom/example/logicsmith/logicsmith/frontend/Token;Lcom/example/logicsmith/logicsmith/frontend/Token;Z)V"⟩ : MethodName) prog_48_method_1_code 4 none :: ws) ({ frames := 2, cells := 0, slots := 0, locals := 24 } : Room)) (fun a U => a = #[(.ref a1), (.ref a2), (.ref a3), (.int p4)] ∧ Z.Warmed39 U.vm ∧ U.heap = h0) (fun _ _ _ _ _ => True) (fun _ U o U' => ∃ v L, o = .returned v ∧ QI Z a1 a2 a3 p4 h0 n0 v U'.heap L ∧ FrameEnd U o U' L ({ frames := 2, cells := 0, slots := 0, locals := 24 } : Room).cells ({ frames := 2, cells := 0, slots := 0, locals := 24 } : Room).slots) := by
  refine MetFree.of_bodySF (plainFor_of_name pn_com_example_logicsmith_logicsmith_frontend_Expression_Increment) hisR ?_
  intro p e s m args below meth c s₁ Bd hml0 hP hK
  obtain ⟨rfl, hZ, hh⟩ := hP
  have hx := Bd.exec
  have hby := Bd.bytes
  have hml : c.maxLocals = 4 := hml0
  have hown : s.vm.findClass "com/example/logicsmith/logicsmith/frontend/Expression$Increment" = some m.cls := findClass_of_methodNamed Bd.named
  have hnm := (name_of_methodNamed Bd.named Bd.method).1
  have X0 : Stand p l e ({ frames := 2, cells := 0, slots := 0, locals := 24 } : Room) s m #[(.ref a1), (.ref a2), (.ref a3), (.int p4)] below meth c s₁ [] 0 0 := Stand.of_body Bd
  have e0 : s₁.heap = h0 := by rw [← hh, Bd.state]; rfl
  have N0 := Fr.nil n0
  obtain ⟨B0, c0, hB0⟩ : ∃ B0, Steps p.tables e below B0 (s₁.setTop (mkF m 0 #[.val (.ref a1), .val (.ref a2), .val (.ref a3), .val (.int p4)] [])) ∧ B0 = s₁.setTop (entryFrame m #[(.ref a1), (.ref a2), (.ref a3), (.int p4)] 4) := ⟨_, castTop (ef_RRRI_4 m a1 a2 a3 p4) (Steps.refl _), rfl⟩
  have l1 : (@LT.lt Nat _ a1 h0.size) := E1.lt
  have c1 : SS p e below B0 s₁ m 1 #[.val (.ref a1), .val (.ref a2), .val (.ref a3), .val (.int p4)] [(.ref a1)] := Steps.trans c0 (by
      refine XS.aloadN X0.here hx rfl (own_d hby d2_0) rfl rfl ?_
      exact Steps.refl _)
  obtain ⟨_, _, ⟨T2, Lp2, kp2, np2⟩, -, X2, ⟨Lc2, hQ2, lp2, yp2, zp2⟩, st2⟩ := X0.specialBack hx (y := (⟨"java/lang/Record", "<init>", "()V"⟩ : MethodName)) rfl hown (mvT hZ (W hw 63)) (mvT hZ (W hw 42)) (mvT hZ (W hw 45)) (by decide) (backOf (W := 0) (rmR l Z a0 hw [] a1 h0 n0 Z0) hZ (W hw 45) (W hw 44) (by decide) (by decide)) (g := (mkF m 1 #[.val (.ref a1), .val (.ref a2), .val (.ref a3), .val (.int p4)] [(.ref a1)])) rfl (by rw [hml]; rfl) c1 (a := a1) (argsL := []) (rest := []) (lenOf pd___V rfl) rfl (by show 2 * 0 + _ ≤ _; exact Nat.le_of_eq rfl) (own_d hby d2_1) (fun _ _ => ⟨rfl, e0, (by decide : 0 + 0 ≤ _), (by decide : 0 + 0 ≤ _)⟩)
  dsimp only [Pt.U, Pt.locs, Pt.cells, Pt.slots] at X2 lp2 yp2 zp2 st2 hQ2
  subst lp2 yp2 zp2
  obtain ⟨rfl, Nq2, eq2⟩ := hQ2
  have N2 := Fr.app N0 Nq2
  have c3 : SS p e below B0 T2 m 4 #[.val (.ref a1), .val (.ref a2), .val (.ref a3), .val (.int p4)] [] := st2
  have c4 : SS p e below B0 T2 m 6 #[.val (.ref a1), .val (.ref a2), .val (.ref a3), .val (.int p4)] [(.ref a2), (.ref a1)] := Steps.trans c3 (by
      refine XS.aloadN X2.here hx rfl (own_d hby d2_4) rfl rfl ?_
      refine XS.aloadN X2.here hx rfl (own_d hby d2_5) rfl rfl ?_
      exact Steps.refl _)
  obtain ⟨T5, h5, X5, e5, W5, st5⟩ := putF X2 hx hZ hown (host := "") (Or.inl (W hw 64)) Via.refl eq2 F1 E1 (Or.inr ⟨(W hw 65), rfl, hnm⟩) (W hw 58) (ty := (.object "com/example/logicsmith/logicsmith/frontend/Token")) (by decide) rfl rfl (g := (mkF m 6 #[.val (.ref a1), .val (.ref a2), .val (.ref a3), .val (.int p4)] [(.ref a2), (.ref a1)])) rfl rfl (own_d hby d2_6)
  have N5 := Fr.snoc X5 N2 (by omega)
  have F5 : Fld Z h5 a1 "com/example/logicsmith/logicsmith/frontend/Expression$Increment" "operator" "Lcom/example/logicsmith/logicsmith/frontend/Token;" (.ref a2) := F1.same W5
  have z5 : h5.size = h0.size := W5.size
  have K5 := (Keep.refl h0 [a1]).wr W5 (Or.inl (List.mem_of_getElem? (i := 0) rfl))
  have c6 : SS p e below B0 T5 m 9 #[.val (.ref a1), .val (.ref a2), .val (.ref a3), .val (.int p4)] [] := Steps.trans c4 (st5 _ (Steps.refl _))
  have c7 : SS p e below B0 T5 m 11 #[.val (.ref a1), .val (.ref a2), .val (.ref a3), .val (.int p4)] [(.ref a3), (.ref a1)] := Steps.trans c6 (by
      refine XS.aloadN X5.here hx rfl (own_d hby d2_9) rfl rfl ?_
      refine XS.aloadN X5.here hx rfl (own_d hby d2_10) rfl rfl ?_
      exact Steps.refl _)
  have Fld9 : Fld Z h5 a1 "com/example/logicsmith/logicsmith/frontend/Expression$Increment" "name" "Lcom/example/logicsmith/logicsmith/frontend/Token;" u2 := (F2.other W5 (Or.inr (slot_ne (Or.inr (W hw 67)) (Or.inr (W hw 65)) (by decide) (t := (.object "com/example/logicsmith/logicsmith/frontend/Token")) (t' := (.object "com/example/logicsmith/logicsmith/frontend/Token")) (by decide) (by decide))))
  have Exa10 : Exa Z h5 a1 "com/example/logicsmith/logicsmith/frontend/Expression$Increment" := (E1.wr W5)
  obtain ⟨T8, h8, X8, e8, W8, st8⟩ := putF X5 hx hZ hown (host := "") (Or.inl (W hw 66)) Via.refl e5 Fld9 Exa10 (Or.inr ⟨(W hw 67), rfl, hnm⟩) (W hw 58) (ty := (.object "com/example/logicsmith/logicsmith/frontend/Token")) (by decide) rfl rfl (g := (mkF m 11 #[.val (.ref a1), .val (.ref a2), .val (.ref a3), .val (.int p4)] [(.ref a3), (.ref a1)])) rfl rfl (own_d hby d2_11)
  have N8 := Fr.snoc X8 N5 (by omega)
  have F8 : Fld Z h8 a1 "com/example/logicsmith/logicsmith/frontend/Expression$Increment" "name" "Lcom/example/logicsmith/logicsmith/frontend/Token;" (.ref a3) := Fld9.same W8
  have z8 : h8.size = h5.size := W8.size
  have K8 := K5.wr W8 (Or.inl (List.mem_of_getElem? (i := 0) rfl))
  have c11 : SS p e below B0 T8 m 14 #[.val (.ref a1), .val (.ref a2), .val (.ref a3), .val (.int p4)] [] := Steps.trans c7 (st8 _ (Steps.refl _))
  have c12 : SS p e below B0 T8 m 16 #[.val (.ref a1), .val (.ref a2), .val (.ref a3), .val (.int p4)] [(.int p4), (.ref a1)] := Steps.trans c11 (by
      refine XS.aloadN X8.here hx rfl (own_d hby d2_14) rfl rfl ?_
      refine XS.iloadN X8.here hx rfl (own_d hby d2_15) rfl ?_
      exact Steps.refl _)
  have Fld14 : Fld Z h8 a1 "com/example/logicsmith/logicsmith/frontend/Expression$Increment" "prefix" "Z" u3 := ((F3.other W5 (Or.inr (slot_ne (Or.inr (W hw 69)) (Or.inr (W hw 65)) (by decide) (t := .boolean) (t' := (.object "com/example/logicsmith/logicsmith/frontend/Token")) (by decide) (by decide)))).other W8 (Or.inr (slot_ne (Or.inr (W hw 69)) (Or.inr (W hw 67)) (by decide) (t := .boolean) (t' := (.object "com/example/logicsmith/logicsmith/frontend/Token")) (by decide) (by decide))))
  have Exa15 : Exa Z h8 a1 "com/example/logicsmith/logicsmith/frontend/Expression$Increment" := (Exa10.wr W8)
  obtain ⟨T13, h13, X13, e13, W13, st13⟩ := putF X8 hx hZ hown (host := "") (Or.inl (W hw 68)) Via.refl e8 Fld14 Exa15 (Or.inr ⟨(W hw 69), rfl, hnm⟩) (W hw 58) (ty := .boolean) (by decide) hpn hpf (g := (mkF m 16 #[.val (.ref a1), .val (.ref a2), .val (.ref a3), .val (.int p4)] [(.int p4), (.ref a1)])) rfl rfl (own_d hby d2_16)
  have N13 := Fr.snoc X13 N8 (by omega)
  have F13 : Fld Z h13 a1 "com/example/logicsmith/logicsmith/frontend/Expression$Increment" "prefix" "Z" (.int p4) := Fld14.same W13
  have z13 : h13.size = h8.size := W13.size
  have K13 := K8.wr W13 (Or.inl (List.mem_of_getElem? (i := 0) rfl))
  have c16 : SS p e below B0 T13 m 19 #[.val (.ref a1), .val (.ref a2), .val (.ref a3), .val (.int p4)] [] := Steps.trans c12 (st13 _ (Steps.refl _))
  have Fld17 : Fld Z h13 a1 "com/example/logicsmith/logicsmith/frontend/Expression$Increment" "operator" "Lcom/example/logicsmith/logicsmith/frontend/Token;" (.ref a2) := ((F5.other W8 (Or.inr (slot_ne (Or.inr (W hw 65)) (Or.inr (W hw 67)) (by decide) (t := (.object "com/example/logicsmith/logicsmith/frontend/Token")) (t' := (.object "com/example/logicsmith/logicsmith/frontend/Token")) (by decide) (by decide)))).other W13 (Or.inr (slot_ne (Or.inr (W hw 65)) (Or.inr (W hw 69)) (by decide) (t := (.object "com/example/logicsmith/logicsmith/frontend/Token")) (t' := .boolean) (by decide) (by decide))))
  have Fld18 : Fld Z h13 a1 "com/example/logicsmith/logicsmith/frontend/Expression$Increment" "name" "Lcom/example/logicsmith/logicsmith/frontend/Token;" (.ref a3) := (F8.other W13 (Or.inr (slot_ne (Or.inr (W hw 67)) (Or.inr (W hw 69)) (by decide) (t := (.object "com/example/logicsmith/logicsmith/frontend/Token")) (t' := .boolean) (by decide) (by decide))))
  obtain ⟨fs, hr, hrun, hended, hW, hsame⟩ := X13.leave (v := none) (fun _ => rfl)
  subst hB0
  refine ⟨_, _, Steps.trans c16 ?_, hrun, hended, _, _, rfl, ?_, ⟨_, rfl⟩, hW, hsame.mono (by decide) (by decide)⟩
  · exact X13.returnOut hx Bd.returns (own_d hby d2_19) hr
  · show QI Z a1 a2 a3 p4 h0 n0 _ T13.heap _
    rw [e13]
    exact ⟨rfl, N13, K13, Fld17, Fld18, F13⟩
def QKt (r : Addr) (h0 : Heap) (n0 : Nat) (v : Option Value) (h : Heap) (L : List Loc) : Prop := v = some (.ref r) ∧ Fr n0 L ∧ h = h0
set_option maxRecDepth 65536 in
set_option maxHeartbeats 40000000 in
theorem rmKt (l : Launch) (Z : State) (a0 : Array Value) (hw : ∀ d ∈ tables_1, d.before a0 Z = true) (ws : List Jvm.Cond) (a1 a2 a3 : Addr) (p4 : Int32) (h0 : Heap) (n0 : Nat) (Z0 : n0 ≤ h0.size) (F1 : Fld Z h0 a1 "com/example/logicsmith/logicsmith/frontend/Expression$Increment" "operator" "Lcom/example/logicsmith/logicsmith/frontend/Token;" (.ref a2)) (F2 : Fld Z h0 a1 "com/example/logicsmith/logicsmith/frontend/Expression$Increment" "name" "Lcom/example/logicsmith/logicsmith/frontend/Token;" (.ref a3)) (F3 : Fld Z h0 a1 "com/example/logicsmith/logicsmith/frontend/Expression$Increment" "prefix" "Z" (.int p4)) (hc : p4 = (0 : Int32)) :
    MetFree l (⟨"com/example/logicsmith/logicsmith/frontend/Expression$Increment", "token", "()Lcom/example/logicsmith/logicsmith/frontend/Token;"⟩ : MethodName) (head1 (Jvm.Cond.code (⟨"com/example/logicsmith/logicsmith/frontend/Expression$Increment", "token", "()Lcom/example/logicsmith/logicsmith/frontend/Token;"⟩ : MethodName) prog_48_method_2_code 1 (some (.object "com/example/logicsmith/logicsmith/frontend/Token")) :: ws) ({ frames := 0, cells := 0, slots := 0, locals := 0 } : Room)) (fun a U => a = #[(.ref a1)] ∧ Z.Warmed39 U.vm ∧ U.heap = h0) (fun _ _ _ _ _ => True) (fun _ U o U' => ∃ v L, o = .returned v ∧ QKt a3 h0 n0 v U'.heap L ∧ FrameEnd U o U' L ({ frames := 0, cells := 0, slots := 0, locals := 0 } : Room).cells ({ frames := 0, cells := 0, slots := 0, locals := 0 } : Room).slots) := by
  refine MetFree.of_bodySF (plainFor_of_name pn_com_example_logicsmith_logicsmith_frontend_Expression_Increment) hisR ?_
  intro p e s m args below meth c s₁ Bd hml0 hP hK
  obtain ⟨rfl, hZ, hh⟩ := hP
  have hx := Bd.exec
  have hby := Bd.bytes
  have hml : c.maxLocals = 1 := hml0
  have hown : s.vm.findClass "com/example/logicsmith/logicsmith/frontend/Expression$Increment" = some m.cls := findClass_of_methodNamed Bd.named
  have hnm := (name_of_methodNamed Bd.named Bd.method).1
  have X0 : Stand p l e ({ frames := 0, cells := 0, slots := 0, locals := 0 } : Room) s m #[(.ref a1)] below meth c s₁ [] 0 0 := Stand.of_body Bd
  have e0 : s₁.heap = h0 := by rw [← hh, Bd.state]; rfl
  have N0 := Fr.nil n0
  obtain ⟨B0, c0, hB0⟩ : ∃ B0, Steps p.tables e below B0 (s₁.setTop (mkF m 0 #[.val (.ref a1)] [])) ∧ B0 = s₁.setTop (entryFrame m #[(.ref a1)] 1) := ⟨_, castTop (ef_R_1 m a1) (Steps.refl _), rfl⟩
  have c1 : SS p e below B0 s₁ m 1 #[.val (.ref a1)] [(.ref a1)] := Steps.trans c0 (by
      refine XS.aloadN X0.here hx rfl (own_d hby d3_0) rfl rfl ?_
      exact Steps.refl _)
  obtain ⟨T2, X2, e2, st2⟩ := getF X0 hx hZ hown (host := "") (Or.inl (W hw 68)) Via.refl e0 F3 (g := (mkF m 1 #[.val (.ref a1)] [(.ref a1)])) rfl rfl (own_d hby d3_1)
  have c3 : SS p e below B0 T2 m 4 #[.val (.ref a1)] [(.int p4)] := Steps.trans c1 (st2 _ (Steps.refl _))
  have c4 : SS p e below B0 T2 m 15 #[.val (.ref a1)] [(.ref a1)] := Steps.trans c3 (by
      refine XS.ifYes X2.here hx rfl (pc0 := 4) (pc' := 14) rfl (own_d hby d3_4) rfl ((if0 _ _).trans (teq hc).1) (by decide) (by decide) ?_
      refine XS.aloadN X2.here hx rfl (own_d hby d3_14) rfl rfl ?_
      exact Steps.refl _)
  obtain ⟨T5, X5, e5, st5⟩ := getF X2 hx hZ hown (host := "") (Or.inl (W hw 66)) Via.refl e2 F2 (g := (mkF m 15 #[.val (.ref a1)] [(.ref a1)])) rfl rfl (own_d hby d3_15)
  have c6 : SS p e below B0 T5 m 18 #[.val (.ref a1)] [(.ref a3)] := Steps.trans c4 (st5 _ (Steps.refl _))
  obtain ⟨fs, hr, hrun, hended, hW, hsame⟩ := X5.leave (v := some (.ref a3)) (fun h => by rw [Bd.returns] at h; cases h)
  subst hB0
  refine ⟨_, _, Steps.trans c6 ?_, hrun, hended, _, _, rfl, ?_, ⟨_, rfl⟩, hW, hsame.mono (by decide) (by decide)⟩
  · exact retR X5 hx Bd.returns rfl rfl rfl (own_d hby d3_18) hr
  · show QKt a3 h0 n0 _ T5.heap _
    rw [e5]
    exact ⟨rfl, N0, rfl⟩
def QKf (r : Addr) (h0 : Heap) (n0 : Nat) (v : Option Value) (h : Heap) (L : List Loc) : Prop := v = some (.ref r) ∧ Fr n0 L ∧ h = h0
set_option maxRecDepth 65536 in
set_option maxHeartbeats 40000000 in
theorem rmKf (l : Launch) (Z : State) (a0 : Array Value) (hw : ∀ d ∈ tables_1, d.before a0 Z = true) (ws : List Jvm.Cond) (a1 a2 a3 : Addr) (p4 : Int32) (h0 : Heap) (n0 : Nat) (Z0 : n0 ≤ h0.size) (F1 : Fld Z h0 a1 "com/example/logicsmith/logicsmith/frontend/Expression$Increment" "operator" "Lcom/example/logicsmith/logicsmith/frontend/Token;" (.ref a2)) (F2 : Fld Z h0 a1 "com/example/logicsmith/logicsmith/frontend/Expression$Increment" "name" "Lcom/example/logicsmith/logicsmith/frontend/Token;" (.ref a3)) (F3 : Fld Z h0 a1 "com/example/logicsmith/logicsmith/frontend/Expression$Increment" "prefix" "Z" (.int p4)) (hc : ¬ p4 = (0 : Int32)) :
    MetFree l (⟨"com/example/logicsmith/logicsmith/frontend/Expression$Increment", "token", "()Lcom/example/logicsmith/logicsmith/frontend/Token;"⟩ : MethodName) (head1 (Jvm.Cond.code (⟨"com/example/logicsmith/logicsmith/frontend/Expression$Increment", "token", "()Lcom/example/logicsmith/logicsmith/frontend/Token;"⟩ : MethodName) prog_48_method_2_code 1 (some (.object "com/example/logicsmith/logicsmith/frontend/Token")) :: ws) ({ frames := 0, cells := 0, slots := 0, locals := 0 } : Room)) (fun a U => a = #[(.ref a1)] ∧ Z.Warmed39 U.vm ∧ U.heap = h0) (fun _ _ _ _ _ => True) (fun _ U o U' => ∃ v L, o = .returned v ∧ QKf a2 h0 n0 v U'.heap L ∧ FrameEnd U o U' L ({ frames := 0, cells := 0, slots := 0, locals := 0 } : Room).cells ({ frames := 0, cells := 0, slots := 0, locals := 0 } : Room).slots) := by
  refine MetFree.of_bodySF (plainFor_of_name pn_com_example_logicsmith_logicsmith_frontend_Expression_Increment) hisR ?_
  intro p e s m args below meth c s₁ Bd hml0 hP hK
  obtain ⟨rfl, hZ, hh⟩ := hP
  have hx := Bd.exec
  have hby := Bd.bytes
  have hml : c.maxLocals = 1 := hml0
  have hown : s.vm.findClass "com/example/logicsmith/logicsmith/frontend/Expression$Increment" = some m.cls := findClass_of_methodNamed Bd.named
  have hnm := (name_of_methodNamed Bd.named Bd.method).1
  have X0 : Stand p l e ({ frames := 0, cells := 0, slots := 0, locals := 0 } : Room) s m #[(.ref a1)] below meth c s₁ [] 0 0 := Stand.of_body Bd
  have e0 : s₁.heap = h0 := by rw [← hh, Bd.state]; rfl
  have N0 := Fr.nil n0
  obtain ⟨B0, c0, hB0⟩ : ∃ B0, Steps p.tables e below B0 (s₁.setTop (mkF m 0 #[.val (.ref a1)] [])) ∧ B0 = s₁.setTop (entryFrame m #[(.ref a1)] 1) := ⟨_, castTop (ef_R_1 m a1) (Steps.refl _), rfl⟩
  have c1 : SS p e below B0 s₁ m 1 #[.val (.ref a1)] [(.ref a1)] := Steps.trans c0 (by
      refine XS.aloadN X0.here hx rfl (own_d hby d3_0) rfl rfl ?_
      exact Steps.refl _)
  obtain ⟨T2, X2, e2, st2⟩ := getF X0 hx hZ hown (host := "") (Or.inl (W hw 68)) Via.refl e0 F3 (g := (mkF m 1 #[.val (.ref a1)] [(.ref a1)])) rfl rfl (own_d hby d3_1)
  have c3 : SS p e below B0 T2 m 4 #[.val (.ref a1)] [(.int p4)] := Steps.trans c1 (st2 _ (Steps.refl _))
  have c4 : SS p e below B0 T2 m 8 #[.val (.ref a1)] [(.ref a1)] := Steps.trans c3 (by
      refine XS.ifNo X2.here hx rfl (own_d hby d3_4) rfl ((if0 _ _).trans (feq hc).1) ?_
      refine XS.aloadN X2.here hx rfl (own_d hby d3_7) rfl rfl ?_
      exact Steps.refl _)
  obtain ⟨T5, X5, e5, st5⟩ := getF X2 hx hZ hown (host := "") (Or.inl (W hw 64)) Via.refl e2 F1 (g := (mkF m 8 #[.val (.ref a1)] [(.ref a1)])) rfl rfl (own_d hby d3_8)
  have c6 : SS p e below B0 T5 m 11 #[.val (.ref a1)] [(.ref a2)] := Steps.trans c4 (st5 _ (Steps.refl _))
  have c7 : SS p e below B0 T5 m 18 #[.val (.ref a1)] [(.ref a2)] := Steps.trans c6 (by
      refine XS.goto X5.here hx rfl (pc0 := 11) (pc' := 18) rfl (own_d hby d3_11) (by decide) (by decide) ?_
      exact Steps.refl _)
  obtain ⟨fs, hr, hrun, hended, hW, hsame⟩ := X5.leave (v := some (.ref a2)) (fun h => by rw [Bd.returns] at h; cases h)
  subst hB0
  refine ⟨_, _, Steps.trans c7 ?_, hrun, hended, _, _, rfl, ?_, ⟨_, rfl⟩, hW, hsame.mono (by decide) (by decide)⟩
  · exact retR X5 hx Bd.returns rfl rfl rfl (own_d hby d3_18) hr
  · show QKf a2 h0 n0 _ T5.heap _
    rw [e5]
    exact ⟨rfl, N0, rfl⟩
def QL (n0 : Nat) (v : Option Value) (h : Heap) (L : List Loc) : Prop := v = some (.int 1) ∧ Fr n0 L
set_option maxRecDepth 65536 in
set_option maxHeartbeats 40000000 in
theorem rmL (l : Launch) (Z : State) (a0 : Array Value) (hw : ∀ d ∈ tables_1, d.before a0 Z = true) (ws : List Jvm.Cond) (p1 p2 p3 p4 p5 p6 : Int32) (G1 : Int32) (k1 k2 : Addr) (h0 : Heap) (n0 : Nat) (Z0 : n0 ≤ h0.size) (O2 : Sta Z Z.heap "java/lang/String" "COMPACT_STRINGS" "Z" (.int G1)) (P5 : ¬ (G1 = (0 : Int32))) (O3 : Sta Z Z.heap "com/example/logicsmith/logicsmith/frontend/Token$Kind" "SYMBOL" "Lcom/example/logicsmith/logicsmith/frontend/Token$Kind;" (.ref k1)) (O4 : Sta Z Z.heap "com/example/logicsmith/logicsmith/frontend/Token$Kind" "IDENTIFIER" "Lcom/example/logicsmith/logicsmith/frontend/Token$Kind;" (.ref k2)) (X00 : Old Z n0 h0) :
    MetFree l x (head1 (Jvm.Cond.code x code maxLocals ret :: ws) room_1) (fun a U => a = #[(.int p1), (.int p2), (.int p3), (.int p4), (.int p5), (.int p6)] ∧ Z.Warmed39 U.vm ∧ U.heap = h0) (fun _ _ _ _ _ => True) (fun _ U o U' => ∃ v L, o = .returned v ∧ QL n0 v U'.heap L ∧ FrameEnd U o U' L room_1.cells room_1.slots) := by
  refine MetFree.of_bodySF (plainFor_of_name pn_com_example_logicsmith_logicsmith_frontend_IncrementTokenPinLaw) hisR ?_
  intro p e s m args below meth c s₁ Bd hml0 hP hK
  obtain ⟨rfl, hZ, hh⟩ := hP
  have hx := Bd.exec
  have hby := Bd.bytes
  have hml : c.maxLocals = 28 := hml0
  have hown : s.vm.findClass "com/example/logicsmith/logicsmith/frontend/IncrementTokenPinLaw" = some m.cls := findClass_of_methodNamed Bd.named
  have hnm := (name_of_methodNamed Bd.named Bd.method).1
  have X0 : Stand p l e room_1 s m #[(.int p1), (.int p2), (.int p3), (.int p4), (.int p5), (.int p6)] below meth c s₁ [] 0 0 := Stand.of_body Bd
  have e0 : s₁.heap = h0 := by rw [← hh, Bd.state]; rfl
  have N0 := Fr.nil n0
  obtain ⟨B0, c0, hB0⟩ : ∃ B0, Steps p.tables e below B0 (s₁.setTop (mkF m 0 #[.val (.int p1), .val (.int p2), .val (.int p3), .val (.int p4), .val (.int p5), .val (.int p6), .unset, .unset, .unset, .unset, .unset, .unset, .unset, .unset, .unset, .unset, .unset, .unset, .unset, .unset, .unset, .unset, .unset, .unset, .unset, .unset, .unset, .unset] [])) ∧ B0 = s₁.setTop (entryFrame m #[(.int p1), (.int p2), (.int p3), (.int p4), (.int p5), (.int p6)] maxLocals) := ⟨_, castTop (ef_IIIIII_28m m p1 p2 p3 p4 p5 p6) (Steps.refl _), rfl⟩
  have hws : ∀ d ∈ StrChars.Road.words, d.before a0 Z = true := fun d hd => hw d ((by decide +kernel : ∀ d ∈ StrChars.Road.words, d ∈ tables_1) d hd)
  have c1 : SS p e below B0 s₁ m 3 #[.val (.int p1), .val (.int p2), .val (.int p3), .val (.int p4), .val (.int p5), .val (.int p6), .unset, .unset, .unset, .unset, .unset, .unset, .unset, .unset, .unset, .unset, .unset, .unset, .unset, .unset, .unset, .unset, .unset, .unset, .unset, .unset, .unset, .unset] [(.int (p1 &&& (1 : Int32)))] := Steps.trans c0 (by
      refine XS.iloadN X0.here hx rfl (own_d hby at_0) rfl ?_
      refine XT.iconstV X0.here hx rfl (1 : Int32) (own_d hby at_1) (by decide) ?_
      refine XS.iand X0.here hx rfl (own_d hby at_2) rfl ?_
      exact Steps.refl _)
  obtain ⟨b6, hy_b6, c2⟩ : ∃ (b6 : Int32), ((b6 = (0 : Int32) ∧ (p1 &&& (1 : Int32)) = (0 : Int32)) ∨ (b6 = (1 : Int32) ∧ ¬ ((p1 &&& (1 : Int32)) = (0 : Int32)))) ∧ SS p e below B0 s₁ m 11 #[.val (.int p1), .val (.int p2), .val (.int p3), .val (.int p4), .val (.int p5), .val (.int p6), .unset, .unset, .unset, .unset, .unset, .unset, .unset, .unset, .unset, .unset, .unset, .unset, .unset, .unset, .unset, .unset, .unset, .unset, .unset, .unset, .unset, .unset] [(.int b6)] := by
    by_cases h_b6 : (p1 &&& (1 : Int32)) = (0 : Int32)
    · refine ⟨(0 : Int32), Or.inl ⟨rfl, h_b6⟩, Steps.trans c1 (by
        refine XS.ifYes X0.here hx rfl (pc0 := 3) (pc' := 10) rfl (own_d hby at_3) rfl ((if0 _ _).trans (teq h_b6).1) (by decide) (by decide) ?_
        refine XT.iconstV X0.here hx rfl (0 : Int32) (own_d hby at_10) (by decide) ?_
        exact Steps.refl _)⟩
    · refine ⟨(1 : Int32), Or.inr ⟨rfl, h_b6⟩, Steps.trans c1 (by
        refine XS.ifNo X0.here hx rfl (own_d hby at_3) rfl ((if0 _ _).trans (feq h_b6).1) ?_
        refine XT.iconstV X0.here hx rfl (1 : Int32) (own_d hby at_6) (by decide) ?_
        refine XS.goto X0.here hx rfl (pc0 := 7) (pc' := 11) rfl (own_d hby at_7) (by decide) (by decide) ?_
        exact Steps.refl _)⟩
  have c3 : SS p e below B0 s₁ m 16 #[.val (.int p1), .val (.int p2), .val (.int p3), .val (.int p4), .val (.int p5), .val (.int p6), .val (.int b6), .unset, .unset, .unset, .unset, .unset, .unset, .unset, .unset, .unset, .unset, .unset, .unset, .unset, .unset, .unset, .unset, .unset, .unset, .unset, .unset, .unset] [(.int (p1 &&& (2 : Int32)))] := Steps.trans c2 (by
      refine XS.istore X0.here hx rfl (own_d hby at_11) rfl (l' := #[.val (.int p1), .val (.int p2), .val (.int p3), .val (.int p4), .val (.int p5), .val (.int p6), .val (.int b6), .unset, .unset, .unset, .unset, .unset, .unset, .unset, .unset, .unset, .unset, .unset, .unset, .unset, .unset, .unset, .unset, .unset, .unset, .unset, .unset, .unset]) rfl ?_
      refine XS.iloadN X0.here hx rfl (own_d hby at_13) rfl ?_
      refine XT.iconstV X0.here hx rfl (2 : Int32) (own_d hby at_14) (by decide) ?_
      refine XS.iand X0.here hx rfl (own_d hby at_15) rfl ?_
      exact Steps.refl _)
  obtain ⟨b7, hy_b7, c4⟩ : ∃ (b7 : Int32), ((b7 = (0 : Int32) ∧ (p1 &&& (2 : Int32)) = (0 : Int32)) ∨ (b7 = (1 : Int32) ∧ ¬ ((p1 &&& (2 : Int32)) = (0 : Int32)))) ∧ SS p e below B0 s₁ m 24 #[.val (.int p1), .val (.int p2), .val (.int p3), .val (.int p4), .val (.int p5), .val (.int p6), .val (.int b6), .unset, .unset, .unset, .unset, .unset, .unset, .unset, .unset, .unset, .unset, .unset, .unset, .unset, .unset, .unset, .unset, .unset, .unset, .unset, .unset, .unset] [(.int b7)] := by
    by_cases h_b7 : (p1 &&& (2 : Int32)) = (0 : Int32)
    · refine ⟨(0 : Int32), Or.inl ⟨rfl, h_b7⟩, Steps.trans c3 (by
        refine XS.ifYes X0.here hx rfl (pc0 := 16) (pc' := 23) rfl (own_d hby at_16) rfl ((if0 _ _).trans (teq h_b7).1) (by decide) (by decide) ?_
        refine XT.iconstV X0.here hx rfl (0 : Int32) (own_d hby at_23) (by decide) ?_
        exact Steps.refl _)⟩
    · refine ⟨(1 : Int32), Or.inr ⟨rfl, h_b7⟩, Steps.trans c3 (by
        refine XS.ifNo X0.here hx rfl (own_d hby at_16) rfl ((if0 _ _).trans (feq h_b7).1) ?_
        refine XT.iconstV X0.here hx rfl (1 : Int32) (own_d hby at_19) (by decide) ?_
        refine XS.goto X0.here hx rfl (pc0 := 20) (pc' := 24) rfl (own_d hby at_20) (by decide) (by decide) ?_
        exact Steps.refl _)⟩
  have c5 : SS p e below B0 s₁ m 29 #[.val (.int p1), .val (.int p2), .val (.int p3), .val (.int p4), .val (.int p5), .val (.int p6), .val (.int b6), .val (.int b7), .unset, .unset, .unset, .unset, .unset, .unset, .unset, .unset, .unset, .unset, .unset, .unset, .unset, .unset, .unset, .unset, .unset, .unset, .unset, .unset] [(.int (p1 &&& (4 : Int32)))] := Steps.trans c4 (by
      refine XS.istore X0.here hx rfl (own_d hby at_24) rfl (l' := #[.val (.int p1), .val (.int p2), .val (.int p3), .val (.int p4), .val (.int p5), .val (.int p6), .val (.int b6), .val (.int b7), .unset, .unset, .unset, .unset, .unset, .unset, .unset, .unset, .unset, .unset, .unset, .unset, .unset, .unset, .unset, .unset, .unset, .unset, .unset, .unset]) rfl ?_
      refine XS.iloadN X0.here hx rfl (own_d hby at_26) rfl ?_
      refine XT.iconstV X0.here hx rfl (4 : Int32) (own_d hby at_27) (by decide) ?_
      refine XS.iand X0.here hx rfl (own_d hby at_28) rfl ?_
      exact Steps.refl _)
  obtain ⟨b8, hy_b8, c6⟩ : ∃ (b8 : Int32), ((b8 = (0 : Int32) ∧ (p1 &&& (4 : Int32)) = (0 : Int32)) ∨ (b8 = (1 : Int32) ∧ ¬ ((p1 &&& (4 : Int32)) = (0 : Int32)))) ∧ SS p e below B0 s₁ m 37 #[.val (.int p1), .val (.int p2), .val (.int p3), .val (.int p4), .val (.int p5), .val (.int p6), .val (.int b6), .val (.int b7), .unset, .unset, .unset, .unset, .unset, .unset, .unset, .unset, .unset, .unset, .unset, .unset, .unset, .unset, .unset, .unset, .unset, .unset, .unset, .unset] [(.int b8)] := by
    by_cases h_b8 : (p1 &&& (4 : Int32)) = (0 : Int32)
    · refine ⟨(0 : Int32), Or.inl ⟨rfl, h_b8⟩, Steps.trans c5 (by
        refine XS.ifYes X0.here hx rfl (pc0 := 29) (pc' := 36) rfl (own_d hby at_29) rfl ((if0 _ _).trans (teq h_b8).1) (by decide) (by decide) ?_
        refine XT.iconstV X0.here hx rfl (0 : Int32) (own_d hby at_36) (by decide) ?_
        exact Steps.refl _)⟩
    · refine ⟨(1 : Int32), Or.inr ⟨rfl, h_b8⟩, Steps.trans c5 (by
        refine XS.ifNo X0.here hx rfl (own_d hby at_29) rfl ((if0 _ _).trans (feq h_b8).1) ?_
        refine XT.iconstV X0.here hx rfl (1 : Int32) (own_d hby at_32) (by decide) ?_
        refine XS.goto X0.here hx rfl (pc0 := 33) (pc' := 37) rfl (own_d hby at_33) (by decide) (by decide) ?_
        exact Steps.refl _)⟩
  have c7 : SS p e below B0 s₁ m 63 #[.val (.int p1), .val (.int p2), .val (.int p3), .val (.int p4), .val (.int p5), .val (.int p6), .val (.int b6), .val (.int b7), .val (.int b8), .val (.int ((p2 &&& (1073741823 : Int32)) + (1 : Int32))), .val (.int ((p3 &&& (1073741823 : Int32)) + (1 : Int32))), .val (.int (p4 &&& (65535 : Int32))), .unset, .unset, .unset, .unset, .unset, .unset, .unset, .unset, .unset, .unset, .unset, .unset, .unset, .unset, .unset, .unset] [(.int b7)] := Steps.trans c6 (by
      refine XS.istore X0.here hx rfl (own_d hby at_37) rfl (l' := #[.val (.int p1), .val (.int p2), .val (.int p3), .val (.int p4), .val (.int p5), .val (.int p6), .val (.int b6), .val (.int b7), .val (.int b8), .unset, .unset, .unset, .unset, .unset, .unset, .unset, .unset, .unset, .unset, .unset, .unset, .unset, .unset, .unset, .unset, .unset, .unset, .unset]) rfl ?_
      refine XS.iloadN X0.here hx rfl (own_d hby at_39) rfl ?_
      refine X0.ldcI hx hown (mvT hZ (W hw 0)) rfl (own_d hby at_40) ?_
      refine XS.iand X0.here hx rfl (own_d hby at_42) rfl ?_
      refine XT.iconstV X0.here hx rfl (1 : Int32) (own_d hby at_43) (by decide) ?_
      refine XS.iadd X0.here hx rfl (own_d hby at_44) rfl ?_
      refine XS.istore X0.here hx rfl (own_d hby at_45) rfl (l' := #[.val (.int p1), .val (.int p2), .val (.int p3), .val (.int p4), .val (.int p5), .val (.int p6), .val (.int b6), .val (.int b7), .val (.int b8), .val (.int ((p2 &&& (1073741823 : Int32)) + (1 : Int32))), .unset, .unset, .unset, .unset, .unset, .unset, .unset, .unset, .unset, .unset, .unset, .unset, .unset, .unset, .unset, .unset, .unset, .unset]) rfl ?_
      refine XS.iloadN X0.here hx rfl (own_d hby at_47) rfl ?_
      refine X0.ldcI hx hown (mvT hZ (W hw 0)) rfl (own_d hby at_48) ?_
      refine XS.iand X0.here hx rfl (own_d hby at_50) rfl ?_
      refine XT.iconstV X0.here hx rfl (1 : Int32) (own_d hby at_51) (by decide) ?_
      refine XS.iadd X0.here hx rfl (own_d hby at_52) rfl ?_
      refine XS.istore X0.here hx rfl (own_d hby at_53) rfl (l' := #[.val (.int p1), .val (.int p2), .val (.int p3), .val (.int p4), .val (.int p5), .val (.int p6), .val (.int b6), .val (.int b7), .val (.int b8), .val (.int ((p2 &&& (1073741823 : Int32)) + (1 : Int32))), .val (.int ((p3 &&& (1073741823 : Int32)) + (1 : Int32))), .unset, .unset, .unset, .unset, .unset, .unset, .unset, .unset, .unset, .unset, .unset, .unset, .unset, .unset, .unset, .unset, .unset]) rfl ?_
      refine XS.iloadN X0.here hx rfl (own_d hby at_55) rfl ?_
      refine X0.ldcI hx hown (mvT hZ (W hw 1)) rfl (own_d hby at_56) ?_
      refine XS.iand X0.here hx rfl (own_d hby at_58) rfl ?_
      refine XS.istore X0.here hx rfl (own_d hby at_59) rfl (l' := #[.val (.int p1), .val (.int p2), .val (.int p3), .val (.int p4), .val (.int p5), .val (.int p6), .val (.int b6), .val (.int b7), .val (.int b8), .val (.int ((p2 &&& (1073741823 : Int32)) + (1 : Int32))), .val (.int ((p3 &&& (1073741823 : Int32)) + (1 : Int32))), .val (.int (p4 &&& (65535 : Int32))), .unset, .unset, .unset, .unset, .unset, .unset, .unset, .unset, .unset, .unset, .unset, .unset, .unset, .unset, .unset, .unset]) rfl ?_
      refine XS.iload X0.here hx rfl (own_d hby at_61) rfl ?_
      exact Steps.refl _)
  obtain ⟨sg, hy_sg, c8⟩ : ∃ (sg : Int32), ((sg = (45 : Int32) ∧ b7 = (0 : Int32)) ∨ (sg = (43 : Int32) ∧ ¬ (b7 = (0 : Int32)))) ∧ SS p e below B0 s₁ m 73 #[.val (.int p1), .val (.int p2), .val (.int p3), .val (.int p4), .val (.int p5), .val (.int p6), .val (.int b6), .val (.int b7), .val (.int b8), .val (.int ((p2 &&& (1073741823 : Int32)) + (1 : Int32))), .val (.int ((p3 &&& (1073741823 : Int32)) + (1 : Int32))), .val (.int (p4 &&& (65535 : Int32))), .unset, .unset, .unset, .unset, .unset, .unset, .unset, .unset, .unset, .unset, .unset, .unset, .unset, .unset, .unset, .unset] [(.int sg)] := by
    by_cases h_sg : b7 = (0 : Int32)
    · refine ⟨(45 : Int32), Or.inl ⟨rfl, h_sg⟩, Steps.trans c7 (by
        refine XS.ifYes X0.here hx rfl (pc0 := 63) (pc' := 71) rfl (own_d hby at_63) rfl ((if0 _ _).trans (teq h_sg).1) (by decide) (by decide) ?_
        refine XT.bipushV X0.here hx rfl (45 : Int32) (own_d hby at_71) (by decide) ?_
        exact Steps.refl _)⟩
    · refine ⟨(43 : Int32), Or.inr ⟨rfl, h_sg⟩, Steps.trans c7 (by
        refine XS.ifNo X0.here hx rfl (own_d hby at_63) rfl ((if0 _ _).trans (feq h_sg).1) ?_
        refine XT.bipushV X0.here hx rfl (43 : Int32) (own_d hby at_66) (by decide) ?_
        refine XS.goto X0.here hx rfl (pc0 := 68) (pc' := 73) rfl (own_d hby at_68) (by decide) (by decide) ?_
        exact Steps.refl _)⟩
  have hp1 : ∀ c ∈ ([(nar .char sg), (nar .char sg)] : List Int32), ¬ c < 0 ∧ ¬ (255 : Int32) < c := by
    intro c hc
    simp only [List.mem_cons, List.not_mem_nil, or_false, or_self] at hc
    subst hc
    rcases hy_sg with ⟨rfl, -⟩ | ⟨rfl, -⟩ <;> decide
  have c9 : SS p e below B0 s₁ m 75 #[.val (.int p1), .val (.int p2), .val (.int p3), .val (.int p4), .val (.int p5), .val (.int p6), .val (.int b6), .val (.int b7), .val (.int b8), .val (.int ((p2 &&& (1073741823 : Int32)) + (1 : Int32))), .val (.int ((p3 &&& (1073741823 : Int32)) + (1 : Int32))), .val (.int (p4 &&& (65535 : Int32))), .val (.int sg), .unset, .unset, .unset, .unset, .unset, .unset, .unset, .unset, .unset, .unset, .unset, .unset, .unset, .unset, .unset] [] := Steps.trans c8 (by
      refine XS.istore X0.here hx rfl (own_d hby at_73) rfl (l' := #[.val (.int p1), .val (.int p2), .val (.int p3), .val (.int p4), .val (.int p5), .val (.int p6), .val (.int b6), .val (.int b7), .val (.int b8), .val (.int ((p2 &&& (1073741823 : Int32)) + (1 : Int32))), .val (.int ((p3 &&& (1073741823 : Int32)) + (1 : Int32))), .val (.int (p4 &&& (65535 : Int32))), .val (.int sg), .unset, .unset, .unset, .unset, .unset, .unset, .unset, .unset, .unset, .unset, .unset, .unset, .unset, .unset, .unset]) rfl ?_
      exact Steps.refl _)
  obtain ⟨T10, h10, X10, e10, E10, A10, D10, -, st10⟩ := newO X0 hx hZ hown (W hw 2) (W hw 3) (W hw 4) e0 (g := (mkF m 75 #[.val (.int p1), .val (.int p2), .val (.int p3), .val (.int p4), .val (.int p5), .val (.int p6), .val (.int b6), .val (.int b7), .val (.int b8), .val (.int ((p2 &&& (1073741823 : Int32)) + (1 : Int32))), .val (.int ((p3 &&& (1073741823 : Int32)) + (1 : Int32))), .val (.int (p4 &&& (65535 : Int32))), .val (.int sg), .unset, .unset, .unset, .unset, .unset, .unset, .unset, .unset, .unset, .unset, .unset, .unset, .unset, .unset, .unset] [])) rfl (own_d hby at_75) (by decide) (by decide)
  obtain ⟨s1, g10⟩ : ∃ z, z = h0.size := ⟨_, rfl⟩
  rw [← g10] at A10 D10 st10
  have z10 : h0.size ≤ h10.size := E10.1
  have l10 : (@LT.lt Nat _ s1 h10.size) := A10.lt
  have K10 := (Keep.refl h0 []).ext E10
  have c11 : SS p e below B0 T10 m 78 #[.val (.int p1), .val (.int p2), .val (.int p3), .val (.int p4), .val (.int p5), .val (.int p6), .val (.int b6), .val (.int b7), .val (.int b8), .val (.int ((p2 &&& (1073741823 : Int32)) + (1 : Int32))), .val (.int ((p3 &&& (1073741823 : Int32)) + (1 : Int32))), .val (.int (p4 &&& (65535 : Int32))), .val (.int sg), .unset, .unset, .unset, .unset, .unset, .unset, .unset, .unset, .unset, .unset, .unset, .unset, .unset, .unset, .unset] [(.ref s1)] := Steps.trans c9 (st10 _ (Steps.refl _))
  have c12 : SS p e below B0 T10 m 80 #[.val (.int p1), .val (.int p2), .val (.int p3), .val (.int p4), .val (.int p5), .val (.int p6), .val (.int b6), .val (.int b7), .val (.int b8), .val (.int ((p2 &&& (1073741823 : Int32)) + (1 : Int32))), .val (.int ((p3 &&& (1073741823 : Int32)) + (1 : Int32))), .val (.int (p4 &&& (65535 : Int32))), .val (.int sg), .unset, .unset, .unset, .unset, .unset, .unset, .unset, .unset, .unset, .unset, .unset, .unset, .unset, .unset, .unset] [(.int (2 : Int32)), (.ref s1), (.ref s1)] := Steps.trans c11 (by
      refine XS.dup X10.here hx rfl (own_d hby at_78) rfl rfl ?_
      refine XT.iconstV X10.here hx rfl (2 : Int32) (own_d hby at_79) (by decide) ?_
      exact Steps.refl _)
  obtain ⟨T13, h13, k13, X13, e13, E13, A13, st13⟩ := newP X10 hx hZ (W hw 5) e10 (g := (mkF m 80 #[.val (.int p1), .val (.int p2), .val (.int p3), .val (.int p4), .val (.int p5), .val (.int p6), .val (.int b6), .val (.int b7), .val (.int b8), .val (.int ((p2 &&& (1073741823 : Int32)) + (1 : Int32))), .val (.int ((p3 &&& (1073741823 : Int32)) + (1 : Int32))), .val (.int (p4 &&& (65535 : Int32))), .val (.int sg), .unset, .unset, .unset, .unset, .unset, .unset, .unset, .unset, .unset, .unset, .unset, .unset, .unset, .unset, .unset] [(.int (2 : Int32)), (.ref s1), (.ref s1)])) rfl (own_d hby at_80) rfl (by decide : ¬ ((2 : Int32) < (0 : Int32))) (cap := 2) (by decide : (2 : Int32).toNatClampNeg ≤ 2) (by decide) (by decide) (by decide)
  obtain ⟨r1, g13⟩ : ∃ z, z = h10.size := ⟨_, rfl⟩
  rw [← g13] at A13 st13
  have z13 : h10.size ≤ h13.size := E13.1
  have l13 : (@LT.lt Nat _ r1 h13.size) := A13.lt
  have K13 := K10.ext E13
  have V13 : Arv Z h13 r1 k13 .char (2 : Int32) [(.int (0 : Int32)), (.int (0 : Int32))] (.int (0 : Int32)) := (Arv.new A13 (by decide)).pad (pad_rep [] (.int (0 : Int32)) 2)
  have c14 : SS p e below B0 T13 m 82 #[.val (.int p1), .val (.int p2), .val (.int p3), .val (.int p4), .val (.int p5), .val (.int p6), .val (.int b6), .val (.int b7), .val (.int b8), .val (.int ((p2 &&& (1073741823 : Int32)) + (1 : Int32))), .val (.int ((p3 &&& (1073741823 : Int32)) + (1 : Int32))), .val (.int (p4 &&& (65535 : Int32))), .val (.int sg), .unset, .unset, .unset, .unset, .unset, .unset, .unset, .unset, .unset, .unset, .unset, .unset, .unset, .unset, .unset] [(.ref r1), (.ref s1), (.ref s1)] := Steps.trans c12 (st13 _ (Steps.refl _))
  have c15 : SS p e below B0 T13 m 86 #[.val (.int p1), .val (.int p2), .val (.int p3), .val (.int p4), .val (.int p5), .val (.int p6), .val (.int b6), .val (.int b7), .val (.int b8), .val (.int ((p2 &&& (1073741823 : Int32)) + (1 : Int32))), .val (.int ((p3 &&& (1073741823 : Int32)) + (1 : Int32))), .val (.int (p4 &&& (65535 : Int32))), .val (.int sg), .unset, .unset, .unset, .unset, .unset, .unset, .unset, .unset, .unset, .unset, .unset, .unset, .unset, .unset, .unset] [(.int sg), (.int (0 : Int32)), (.ref r1), (.ref r1), (.ref s1), (.ref s1)] := Steps.trans c14 (by
      refine XS.dup X13.here hx rfl (own_d hby at_82) rfl rfl ?_
      refine XT.iconstV X13.here hx rfl (0 : Int32) (own_d hby at_83) (by decide) ?_
      refine XS.iload X13.here hx rfl (own_d hby at_84) rfl ?_
      exact Steps.refl _)
  obtain ⟨cl16, Ar16, q16, Sz16, M16, Hs16, U16⟩ := id V13
  obtain ⟨T16, h16, X16, e16, W16, st16⟩ := stC X13 hx hZ e13 Ar16 (j := (0 : Int32)) (inb_of Sz16 ⟨(by decide), (by decide)⟩) (g := (mkF m 86 #[.val (.int p1), .val (.int p2), .val (.int p3), .val (.int p4), .val (.int p5), .val (.int p6), .val (.int b6), .val (.int b7), .val (.int b8), .val (.int ((p2 &&& (1073741823 : Int32)) + (1 : Int32))), .val (.int ((p3 &&& (1073741823 : Int32)) + (1 : Int32))), .val (.int (p4 &&& (65535 : Int32))), .val (.int sg), .unset, .unset, .unset, .unset, .unset, .unset, .unset, .unset, .unset, .unset, .unset, .unset, .unset, .unset, .unset] [(.int sg), (.int (0 : Int32)), (.ref r1), (.ref r1), (.ref s1), (.ref s1)])) rfl rfl (own_d hby at_86)
  have N16 := Fr.snoc X16 N0 (by omega)
  have V16 : Arv Z h16 r1 k13 .char (2 : Int32) [(.int (nar .char sg)), (.int (0 : Int32))] (.int (0 : Int32)) := Arv.set Ar16 q16 Sz16 M16 Hs16 U16 (fits_nar_char _) W16 0 rfl (Nat.le_of_ble_eq_true rfl)
  have z16 : h16.size = h13.size := W16.size
  have K16 := K13.wr W16 (Or.inr (by omega))
  have c17 : SS p e below B0 T16 m 87 #[.val (.int p1), .val (.int p2), .val (.int p3), .val (.int p4), .val (.int p5), .val (.int p6), .val (.int b6), .val (.int b7), .val (.int b8), .val (.int ((p2 &&& (1073741823 : Int32)) + (1 : Int32))), .val (.int ((p3 &&& (1073741823 : Int32)) + (1 : Int32))), .val (.int (p4 &&& (65535 : Int32))), .val (.int sg), .unset, .unset, .unset, .unset, .unset, .unset, .unset, .unset, .unset, .unset, .unset, .unset, .unset, .unset, .unset] [(.ref r1), (.ref s1), (.ref s1)] := Steps.trans c15 (st16 _ (Steps.refl _))
  have c18 : SS p e below B0 T16 m 91 #[.val (.int p1), .val (.int p2), .val (.int p3), .val (.int p4), .val (.int p5), .val (.int p6), .val (.int b6), .val (.int b7), .val (.int b8), .val (.int ((p2 &&& (1073741823 : Int32)) + (1 : Int32))), .val (.int ((p3 &&& (1073741823 : Int32)) + (1 : Int32))), .val (.int (p4 &&& (65535 : Int32))), .val (.int sg), .unset, .unset, .unset, .unset, .unset, .unset, .unset, .unset, .unset, .unset, .unset, .unset, .unset, .unset, .unset] [(.int sg), (.int (1 : Int32)), (.ref r1), (.ref r1), (.ref s1), (.ref s1)] := Steps.trans c17 (by
      refine XS.dup X16.here hx rfl (own_d hby at_87) rfl rfl ?_
      refine XT.iconstV X16.here hx rfl (1 : Int32) (own_d hby at_88) (by decide) ?_
      refine XS.iload X16.here hx rfl (own_d hby at_89) rfl ?_
      exact Steps.refl _)
  obtain ⟨cl19, Ar19, q19, Sz19, M19, Hs19, U19⟩ := id V16
  obtain ⟨T19, h19, X19, e19, W19, st19⟩ := stC X16 hx hZ e16 Ar19 (j := (1 : Int32)) (inb_of Sz19 ⟨(by decide), (by decide)⟩) (g := (mkF m 91 #[.val (.int p1), .val (.int p2), .val (.int p3), .val (.int p4), .val (.int p5), .val (.int p6), .val (.int b6), .val (.int b7), .val (.int b8), .val (.int ((p2 &&& (1073741823 : Int32)) + (1 : Int32))), .val (.int ((p3 &&& (1073741823 : Int32)) + (1 : Int32))), .val (.int (p4 &&& (65535 : Int32))), .val (.int sg), .unset, .unset, .unset, .unset, .unset, .unset, .unset, .unset, .unset, .unset, .unset, .unset, .unset, .unset, .unset] [(.int sg), (.int (1 : Int32)), (.ref r1), (.ref r1), (.ref s1), (.ref s1)])) rfl rfl (own_d hby at_91)
  have N19 := Fr.snoc X19 N16 (by omega)
  have V19 : Arv Z h19 r1 k13 .char (2 : Int32) [(.int (nar .char sg)), (.int (nar .char sg))] (.int (0 : Int32)) := Arv.set Ar19 q19 Sz19 M19 Hs19 U19 (fits_nar_char _) W19 1 rfl (Nat.le_of_ble_eq_true rfl)
  have z19 : h19.size = h16.size := W19.size
  have K19 := K16.wr W19 (Or.inr (by omega))
  have c20 : SS p e below B0 T19 m 92 #[.val (.int p1), .val (.int p2), .val (.int p3), .val (.int p4), .val (.int p5), .val (.int p6), .val (.int b6), .val (.int b7), .val (.int b8), .val (.int ((p2 &&& (1073741823 : Int32)) + (1 : Int32))), .val (.int ((p3 &&& (1073741823 : Int32)) + (1 : Int32))), .val (.int (p4 &&& (65535 : Int32))), .val (.int sg), .unset, .unset, .unset, .unset, .unset, .unset, .unset, .unset, .unset, .unset, .unset, .unset, .unset, .unset, .unset] [(.ref r1), (.ref s1), (.ref s1)] := Steps.trans c18 (st19 _ (Steps.refl _))
  have Exa21 : Exa Z h19 s1 "java/lang/String" := (((A10.ext E13).wr W16).wr W19)
  have Fld22 : Fld Z h19 s1 "java/lang/String" "value" "[B" .null := ((((D10 (O := "java/lang/String") (nm := "value") (d := "[B") (Or.inr (W hw 31)) (ty := (.array .byte)) (by decide)).ext E13).other W16 (Or.inl (own_ne (by omega)))).other W19 (Or.inl (own_ne (by omega))))
  have Fld23 : Fld Z h19 s1 "java/lang/String" "coder" "B" (.int (0 : Int32)) := ((((D10 (O := "java/lang/String") (nm := "coder") (d := "B") (Or.inr (W hw 29)) (ty := .byte) (by decide)).ext E13).other W16 (Or.inl (own_ne (by omega)))).other W19 (Or.inl (own_ne (by omega))))
  have Old24 : Old Z n0 h19 := ((((X00.ext E10).ext E13).wr W16 (by omega)).wr W19 (by omega))
  obtain ⟨_, _, ⟨T25, Lp25, kp25, np25⟩, -, X25, ⟨Lc25, hQ25, lp25, yp25, zp25⟩, st25⟩ := X19.specialBack hx (y := (⟨"java/lang/String", "<init>", "([C)V"⟩ : MethodName)) rfl hown (mvT hZ (W hw 6)) (mvT hZ (W hw 7)) (mvT hZ (W hw 8)) (by decide) (StrChars.Road.backV (W := 1) hZ hws (kI := 4) (W hw 3) (cs := ([(nar .char sg), (nar .char sg)] : List Int32)) (bs := ([(nar .char sg), (nar .char sg)] : List Int32).map (fun c => c.toInt8.toInt32)) (n := 2) (n0 := n0) (by omega) (by omega) Exa21 Fld22 Fld23 V19 (O2.ext Old24.2) P5 rfl rfl (by decide) (by decide) hp1 rfl (by decide) (by decide)) (g := (mkF m 92 #[.val (.int p1), .val (.int p2), .val (.int p3), .val (.int p4), .val (.int p5), .val (.int p6), .val (.int b6), .val (.int b7), .val (.int b8), .val (.int ((p2 &&& (1073741823 : Int32)) + (1 : Int32))), .val (.int ((p3 &&& (1073741823 : Int32)) + (1 : Int32))), .val (.int (p4 &&& (65535 : Int32))), .val (.int sg), .unset, .unset, .unset, .unset, .unset, .unset, .unset, .unset, .unset, .unset, .unset, .unset, .unset, .unset, .unset] [(.ref r1), (.ref s1), (.ref s1)])) rfl (by rw [hml]; rfl) c20 (a := s1) (argsL := [(.ref r1)]) (rest := [(.ref s1)]) (lenOf pd___C_V rfl) rfl (by show 2 * 0 + _ ≤ _; exact Nat.le_of_eq rfl) (own_d hby at_92) (fun _ _ => ⟨rfl, e19, (by decide : 2 + 1 ≤ _), (by decide : 6 + 2 ≤ _)⟩)
  dsimp only [Pt.U, Pt.locs, Pt.cells, Pt.slots] at X25 lp25 yp25 zp25 st25 hQ25
  subst lp25 yp25 zp25
  obtain ⟨rfl, Nq25, Kq25, gq25, uq25, t25, kb25, _, _, _, vq25, wq25⟩ := hQ25
  have N25 := Fr.app N19 Nq25
  obtain ⟨h25, e25⟩ : ∃ z, T25.heap = z := ⟨_, rfl⟩
  rw [e25] at Kq25
  have z25 : h19.size ≤ h25.size := Kq25.1
  have K25 := K19.trans Kq25 (allS (Or.inr (by omega)) all0)
  have c26 : SS p e below B0 T25 m 95 #[.val (.int p1), .val (.int p2), .val (.int p3), .val (.int p4), .val (.int p5), .val (.int p6), .val (.int b6), .val (.int b7), .val (.int b8), .val (.int ((p2 &&& (1073741823 : Int32)) + (1 : Int32))), .val (.int ((p3 &&& (1073741823 : Int32)) + (1 : Int32))), .val (.int (p4 &&& (65535 : Int32))), .val (.int sg), .unset, .unset, .unset, .unset, .unset, .unset, .unset, .unset, .unset, .unset, .unset, .unset, .unset, .unset, .unset] [(.ref s1)] := st25
  have hp2 : ∀ c ∈ ([(nar .char ((p5 &&& (255 : Int32)).toUInt32.toUInt16.toUInt32.toInt32)), (nar .char ((p6 &&& (255 : Int32)).toUInt32.toUInt16.toUInt32.toInt32))] : List Int32), ¬ c < 0 ∧ ¬ (255 : Int32) < c := by
    intro c hc
    simp only [List.mem_cons, List.not_mem_nil, or_false] at hc
    rcases hc with rfl | rfl
    · exact and255_chars p5
    · exact and255_chars p6
  have c27 : SS p e below B0 T25 m 97 #[.val (.int p1), .val (.int p2), .val (.int p3), .val (.int p4), .val (.int p5), .val (.int p6), .val (.int b6), .val (.int b7), .val (.int b8), .val (.int ((p2 &&& (1073741823 : Int32)) + (1 : Int32))), .val (.int ((p3 &&& (1073741823 : Int32)) + (1 : Int32))), .val (.int (p4 &&& (65535 : Int32))), .val (.int sg), .val (.ref s1), .unset, .unset, .unset, .unset, .unset, .unset, .unset, .unset, .unset, .unset, .unset, .unset, .unset, .unset] [] := Steps.trans c26 (by
      refine XS.astore X25.here hx rfl (own_d hby at_95) rfl rfl (l' := #[.val (.int p1), .val (.int p2), .val (.int p3), .val (.int p4), .val (.int p5), .val (.int p6), .val (.int b6), .val (.int b7), .val (.int b8), .val (.int ((p2 &&& (1073741823 : Int32)) + (1 : Int32))), .val (.int ((p3 &&& (1073741823 : Int32)) + (1 : Int32))), .val (.int (p4 &&& (65535 : Int32))), .val (.int sg), .val (.ref s1), .unset, .unset, .unset, .unset, .unset, .unset, .unset, .unset, .unset, .unset, .unset, .unset, .unset, .unset]) rfl ?_
      exact Steps.refl _)
  obtain ⟨T28, h28, X28, e28, E28, A28, D28, -, st28⟩ := newO X25 hx hZ hown (W hw 2) (W hw 3) (W hw 4) e25 (g := (mkF m 97 #[.val (.int p1), .val (.int p2), .val (.int p3), .val (.int p4), .val (.int p5), .val (.int p6), .val (.int b6), .val (.int b7), .val (.int b8), .val (.int ((p2 &&& (1073741823 : Int32)) + (1 : Int32))), .val (.int ((p3 &&& (1073741823 : Int32)) + (1 : Int32))), .val (.int (p4 &&& (65535 : Int32))), .val (.int sg), .val (.ref s1), .unset, .unset, .unset, .unset, .unset, .unset, .unset, .unset, .unset, .unset, .unset, .unset, .unset, .unset] [])) rfl (own_d hby at_97) (by decide) (by decide)
  obtain ⟨s2, g28⟩ : ∃ z, z = h25.size := ⟨_, rfl⟩
  rw [← g28] at A28 D28 st28
  have z28 : h25.size ≤ h28.size := E28.1
  have l28 : (@LT.lt Nat _ s2 h28.size) := A28.lt
  have K28 := K25.ext E28
  have c29 : SS p e below B0 T28 m 100 #[.val (.int p1), .val (.int p2), .val (.int p3), .val (.int p4), .val (.int p5), .val (.int p6), .val (.int b6), .val (.int b7), .val (.int b8), .val (.int ((p2 &&& (1073741823 : Int32)) + (1 : Int32))), .val (.int ((p3 &&& (1073741823 : Int32)) + (1 : Int32))), .val (.int (p4 &&& (65535 : Int32))), .val (.int sg), .val (.ref s1), .unset, .unset, .unset, .unset, .unset, .unset, .unset, .unset, .unset, .unset, .unset, .unset, .unset, .unset] [(.ref s2)] := Steps.trans c27 (st28 _ (Steps.refl _))
  have c30 : SS p e below B0 T28 m 102 #[.val (.int p1), .val (.int p2), .val (.int p3), .val (.int p4), .val (.int p5), .val (.int p6), .val (.int b6), .val (.int b7), .val (.int b8), .val (.int ((p2 &&& (1073741823 : Int32)) + (1 : Int32))), .val (.int ((p3 &&& (1073741823 : Int32)) + (1 : Int32))), .val (.int (p4 &&& (65535 : Int32))), .val (.int sg), .val (.ref s1), .unset, .unset, .unset, .unset, .unset, .unset, .unset, .unset, .unset, .unset, .unset, .unset, .unset, .unset] [(.int (2 : Int32)), (.ref s2), (.ref s2)] := Steps.trans c29 (by
      refine XS.dup X28.here hx rfl (own_d hby at_100) rfl rfl ?_
      refine XT.iconstV X28.here hx rfl (2 : Int32) (own_d hby at_101) (by decide) ?_
      exact Steps.refl _)
  obtain ⟨T31, h31, k31, X31, e31, E31, A31, st31⟩ := newP X28 hx hZ (W hw 5) e28 (g := (mkF m 102 #[.val (.int p1), .val (.int p2), .val (.int p3), .val (.int p4), .val (.int p5), .val (.int p6), .val (.int b6), .val (.int b7), .val (.int b8), .val (.int ((p2 &&& (1073741823 : Int32)) + (1 : Int32))), .val (.int ((p3 &&& (1073741823 : Int32)) + (1 : Int32))), .val (.int (p4 &&& (65535 : Int32))), .val (.int sg), .val (.ref s1), .unset, .unset, .unset, .unset, .unset, .unset, .unset, .unset, .unset, .unset, .unset, .unset, .unset, .unset] [(.int (2 : Int32)), (.ref s2), (.ref s2)])) rfl (own_d hby at_102) rfl (by decide : ¬ ((2 : Int32) < (0 : Int32))) (cap := 2) (by decide : (2 : Int32).toNatClampNeg ≤ 2) (by decide) (by decide) (by decide)
  obtain ⟨r2, g31⟩ : ∃ z, z = h28.size := ⟨_, rfl⟩
  rw [← g31] at A31 st31
  have z31 : h28.size ≤ h31.size := E31.1
  have l31 : (@LT.lt Nat _ r2 h31.size) := A31.lt
  have K31 := K28.ext E31
  have V31 : Arv Z h31 r2 k31 .char (2 : Int32) [(.int (0 : Int32)), (.int (0 : Int32))] (.int (0 : Int32)) := (Arv.new A31 (by decide)).pad (pad_rep [] (.int (0 : Int32)) 2)
  have c32 : SS p e below B0 T31 m 104 #[.val (.int p1), .val (.int p2), .val (.int p3), .val (.int p4), .val (.int p5), .val (.int p6), .val (.int b6), .val (.int b7), .val (.int b8), .val (.int ((p2 &&& (1073741823 : Int32)) + (1 : Int32))), .val (.int ((p3 &&& (1073741823 : Int32)) + (1 : Int32))), .val (.int (p4 &&& (65535 : Int32))), .val (.int sg), .val (.ref s1), .unset, .unset, .unset, .unset, .unset, .unset, .unset, .unset, .unset, .unset, .unset, .unset, .unset, .unset] [(.ref r2), (.ref s2), (.ref s2)] := Steps.trans c30 (st31 _ (Steps.refl _))
  have c33 : SS p e below B0 T31 m 113 #[.val (.int p1), .val (.int p2), .val (.int p3), .val (.int p4), .val (.int p5), .val (.int p6), .val (.int b6), .val (.int b7), .val (.int b8), .val (.int ((p2 &&& (1073741823 : Int32)) + (1 : Int32))), .val (.int ((p3 &&& (1073741823 : Int32)) + (1 : Int32))), .val (.int (p4 &&& (65535 : Int32))), .val (.int sg), .val (.ref s1), .unset, .unset, .unset, .unset, .unset, .unset, .unset, .unset, .unset, .unset, .unset, .unset, .unset, .unset] [(.int ((p5 &&& (255 : Int32)).toUInt32.toUInt16.toUInt32.toInt32)), (.int (0 : Int32)), (.ref r2), (.ref r2), (.ref s2), (.ref s2)] := Steps.trans c32 (by
      refine XS.dup X31.here hx rfl (own_d hby at_104) rfl rfl ?_
      refine XT.iconstV X31.here hx rfl (0 : Int32) (own_d hby at_105) (by decide) ?_
      refine XS.iload X31.here hx rfl (own_d hby at_106) rfl ?_
      refine XT.sipushV X31.here hx rfl (255 : Int32) (own_d hby at_108) (by decide) ?_
      refine XS.iand X31.here hx rfl (own_d hby at_111) rfl ?_
      refine XS.i2c X31.here hx rfl (own_d hby at_112) rfl ?_
      exact Steps.refl _)
  obtain ⟨cl34, Ar34, q34, Sz34, M34, Hs34, U34⟩ := id V31
  obtain ⟨T34, h34, X34, e34, W34, st34⟩ := stC X31 hx hZ e31 Ar34 (j := (0 : Int32)) (inb_of Sz34 ⟨(by decide), (by decide)⟩) (g := (mkF m 113 #[.val (.int p1), .val (.int p2), .val (.int p3), .val (.int p4), .val (.int p5), .val (.int p6), .val (.int b6), .val (.int b7), .val (.int b8), .val (.int ((p2 &&& (1073741823 : Int32)) + (1 : Int32))), .val (.int ((p3 &&& (1073741823 : Int32)) + (1 : Int32))), .val (.int (p4 &&& (65535 : Int32))), .val (.int sg), .val (.ref s1), .unset, .unset, .unset, .unset, .unset, .unset, .unset, .unset, .unset, .unset, .unset, .unset, .unset, .unset] [(.int ((p5 &&& (255 : Int32)).toUInt32.toUInt16.toUInt32.toInt32)), (.int (0 : Int32)), (.ref r2), (.ref r2), (.ref s2), (.ref s2)])) rfl rfl (own_d hby at_113)
  have N34 := Fr.snoc X34 N25 (by omega)
  have V34 : Arv Z h34 r2 k31 .char (2 : Int32) [(.int (nar .char ((p5 &&& (255 : Int32)).toUInt32.toUInt16.toUInt32.toInt32))), (.int (0 : Int32))] (.int (0 : Int32)) := Arv.set Ar34 q34 Sz34 M34 Hs34 U34 (fits_nar_char _) W34 0 rfl (Nat.le_of_ble_eq_true rfl)
  have z34 : h34.size = h31.size := W34.size
  have K34 := K31.wr W34 (Or.inr (by omega))
  have c35 : SS p e below B0 T34 m 114 #[.val (.int p1), .val (.int p2), .val (.int p3), .val (.int p4), .val (.int p5), .val (.int p6), .val (.int b6), .val (.int b7), .val (.int b8), .val (.int ((p2 &&& (1073741823 : Int32)) + (1 : Int32))), .val (.int ((p3 &&& (1073741823 : Int32)) + (1 : Int32))), .val (.int (p4 &&& (65535 : Int32))), .val (.int sg), .val (.ref s1), .unset, .unset, .unset, .unset, .unset, .unset, .unset, .unset, .unset, .unset, .unset, .unset, .unset, .unset] [(.ref r2), (.ref s2), (.ref s2)] := Steps.trans c33 (st34 _ (Steps.refl _))
  have c36 : SS p e below B0 T34 m 123 #[.val (.int p1), .val (.int p2), .val (.int p3), .val (.int p4), .val (.int p5), .val (.int p6), .val (.int b6), .val (.int b7), .val (.int b8), .val (.int ((p2 &&& (1073741823 : Int32)) + (1 : Int32))), .val (.int ((p3 &&& (1073741823 : Int32)) + (1 : Int32))), .val (.int (p4 &&& (65535 : Int32))), .val (.int sg), .val (.ref s1), .unset, .unset, .unset, .unset, .unset, .unset, .unset, .unset, .unset, .unset, .unset, .unset, .unset, .unset] [(.int ((p6 &&& (255 : Int32)).toUInt32.toUInt16.toUInt32.toInt32)), (.int (1 : Int32)), (.ref r2), (.ref r2), (.ref s2), (.ref s2)] := Steps.trans c35 (by
      refine XS.dup X34.here hx rfl (own_d hby at_114) rfl rfl ?_
      refine XT.iconstV X34.here hx rfl (1 : Int32) (own_d hby at_115) (by decide) ?_
      refine XS.iload X34.here hx rfl (own_d hby at_116) rfl ?_
      refine XT.sipushV X34.here hx rfl (255 : Int32) (own_d hby at_118) (by decide) ?_
      refine XS.iand X34.here hx rfl (own_d hby at_121) rfl ?_
      refine XS.i2c X34.here hx rfl (own_d hby at_122) rfl ?_
      exact Steps.refl _)
  obtain ⟨cl37, Ar37, q37, Sz37, M37, Hs37, U37⟩ := id V34
  obtain ⟨T37, h37, X37, e37, W37, st37⟩ := stC X34 hx hZ e34 Ar37 (j := (1 : Int32)) (inb_of Sz37 ⟨(by decide), (by decide)⟩) (g := (mkF m 123 #[.val (.int p1), .val (.int p2), .val (.int p3), .val (.int p4), .val (.int p5), .val (.int p6), .val (.int b6), .val (.int b7), .val (.int b8), .val (.int ((p2 &&& (1073741823 : Int32)) + (1 : Int32))), .val (.int ((p3 &&& (1073741823 : Int32)) + (1 : Int32))), .val (.int (p4 &&& (65535 : Int32))), .val (.int sg), .val (.ref s1), .unset, .unset, .unset, .unset, .unset, .unset, .unset, .unset, .unset, .unset, .unset, .unset, .unset, .unset] [(.int ((p6 &&& (255 : Int32)).toUInt32.toUInt16.toUInt32.toInt32)), (.int (1 : Int32)), (.ref r2), (.ref r2), (.ref s2), (.ref s2)])) rfl rfl (own_d hby at_123)
  have N37 := Fr.snoc X37 N34 (by omega)
  have V37 : Arv Z h37 r2 k31 .char (2 : Int32) [(.int (nar .char ((p5 &&& (255 : Int32)).toUInt32.toUInt16.toUInt32.toInt32))), (.int (nar .char ((p6 &&& (255 : Int32)).toUInt32.toUInt16.toUInt32.toInt32)))] (.int (0 : Int32)) := Arv.set Ar37 q37 Sz37 M37 Hs37 U37 (fits_nar_char _) W37 1 rfl (Nat.le_of_ble_eq_true rfl)
  have z37 : h37.size = h34.size := W37.size
  have K37 := K34.wr W37 (Or.inr (by omega))
  have c38 : SS p e below B0 T37 m 124 #[.val (.int p1), .val (.int p2), .val (.int p3), .val (.int p4), .val (.int p5), .val (.int p6), .val (.int b6), .val (.int b7), .val (.int b8), .val (.int ((p2 &&& (1073741823 : Int32)) + (1 : Int32))), .val (.int ((p3 &&& (1073741823 : Int32)) + (1 : Int32))), .val (.int (p4 &&& (65535 : Int32))), .val (.int sg), .val (.ref s1), .unset, .unset, .unset, .unset, .unset, .unset, .unset, .unset, .unset, .unset, .unset, .unset, .unset, .unset] [(.ref r2), (.ref s2), (.ref s2)] := Steps.trans c36 (st37 _ (Steps.refl _))
  have Exa39 : Exa Z h37 s2 "java/lang/String" := (((A28.ext E31).wr W34).wr W37)
  have Fld40 : Fld Z h37 s2 "java/lang/String" "value" "[B" .null := ((((D28 (O := "java/lang/String") (nm := "value") (d := "[B") (Or.inr (W hw 31)) (ty := (.array .byte)) (by decide)).ext E31).other W34 (Or.inl (own_ne (by omega)))).other W37 (Or.inl (own_ne (by omega))))
  have Fld41 : Fld Z h37 s2 "java/lang/String" "coder" "B" (.int (0 : Int32)) := ((((D28 (O := "java/lang/String") (nm := "coder") (d := "B") (Or.inr (W hw 29)) (ty := .byte) (by decide)).ext E31).other W34 (Or.inl (own_ne (by omega)))).other W37 (Or.inl (own_ne (by omega))))
  have Old42 : Old Z n0 h37 := (((((Old24.keep Kq25 (allS (by omega) all0)).ext E28).ext E31).wr W34 (by omega)).wr W37 (by omega))
  obtain ⟨_, _, ⟨T43, Lp43, kp43, np43⟩, -, X43, ⟨Lc43, hQ43, lp43, yp43, zp43⟩, st43⟩ := X37.specialBack hx (y := (⟨"java/lang/String", "<init>", "([C)V"⟩ : MethodName)) rfl hown (mvT hZ (W hw 6)) (mvT hZ (W hw 7)) (mvT hZ (W hw 8)) (by decide) (StrChars.Road.backV (W := 1) hZ hws (kI := 4) (W hw 3) (cs := ([(nar .char ((p5 &&& (255 : Int32)).toUInt32.toUInt16.toUInt32.toInt32)), (nar .char ((p6 &&& (255 : Int32)).toUInt32.toUInt16.toUInt32.toInt32))] : List Int32)) (bs := ([(nar .char ((p5 &&& (255 : Int32)).toUInt32.toUInt16.toUInt32.toInt32)), (nar .char ((p6 &&& (255 : Int32)).toUInt32.toUInt16.toUInt32.toInt32))] : List Int32).map (fun c => c.toInt8.toInt32)) (n := 2) (n0 := n0) (by omega) (by omega) Exa39 Fld40 Fld41 V37 (O2.ext Old42.2) P5 rfl rfl (by decide) (by decide) hp2 rfl (by decide) (by decide)) (g := (mkF m 124 #[.val (.int p1), .val (.int p2), .val (.int p3), .val (.int p4), .val (.int p5), .val (.int p6), .val (.int b6), .val (.int b7), .val (.int b8), .val (.int ((p2 &&& (1073741823 : Int32)) + (1 : Int32))), .val (.int ((p3 &&& (1073741823 : Int32)) + (1 : Int32))), .val (.int (p4 &&& (65535 : Int32))), .val (.int sg), .val (.ref s1), .unset, .unset, .unset, .unset, .unset, .unset, .unset, .unset, .unset, .unset, .unset, .unset, .unset, .unset] [(.ref r2), (.ref s2), (.ref s2)])) rfl (by rw [hml]; rfl) c38 (a := s2) (argsL := [(.ref r2)]) (rest := [(.ref s2)]) (lenOf pd___C_V rfl) rfl (by show 2 * 0 + _ ≤ _; exact Nat.le_of_eq rfl) (own_d hby at_124) (fun _ _ => ⟨rfl, e37, (by decide : 5 + 1 ≤ _), (by decide : 14 + 2 ≤ _)⟩)
  dsimp only [Pt.U, Pt.locs, Pt.cells, Pt.slots] at X43 lp43 yp43 zp43 st43 hQ43
  subst lp43 yp43 zp43
  obtain ⟨rfl, Nq43, Kq43, gq43, uq43, t43, kb43, _, _, _, vq43, wq43⟩ := hQ43
  have N43 := Fr.app N37 Nq43
  obtain ⟨h43, e43⟩ : ∃ z, T43.heap = z := ⟨_, rfl⟩
  rw [e43] at Kq43
  have z43 : h37.size ≤ h43.size := Kq43.1
  have K43 := K37.trans Kq43 (allS (Or.inr (by omega)) all0)
  have c44 : SS p e below B0 T43 m 127 #[.val (.int p1), .val (.int p2), .val (.int p3), .val (.int p4), .val (.int p5), .val (.int p6), .val (.int b6), .val (.int b7), .val (.int b8), .val (.int ((p2 &&& (1073741823 : Int32)) + (1 : Int32))), .val (.int ((p3 &&& (1073741823 : Int32)) + (1 : Int32))), .val (.int (p4 &&& (65535 : Int32))), .val (.int sg), .val (.ref s1), .unset, .unset, .unset, .unset, .unset, .unset, .unset, .unset, .unset, .unset, .unset, .unset, .unset, .unset] [(.ref s2)] := st43
  have c45 : SS p e below B0 T43 m 131 #[.val (.int p1), .val (.int p2), .val (.int p3), .val (.int p4), .val (.int p5), .val (.int p6), .val (.int b6), .val (.int b7), .val (.int b8), .val (.int ((p2 &&& (1073741823 : Int32)) + (1 : Int32))), .val (.int ((p3 &&& (1073741823 : Int32)) + (1 : Int32))), .val (.int (p4 &&& (65535 : Int32))), .val (.int sg), .val (.ref s1), .val (.ref s2), .unset, .unset, .unset, .unset, .unset, .unset, .unset, .unset, .unset, .unset, .unset, .unset, .unset] [(.int b8)] := Steps.trans c44 (by
      refine XS.astore X43.here hx rfl (own_d hby at_127) rfl rfl (l' := #[.val (.int p1), .val (.int p2), .val (.int p3), .val (.int p4), .val (.int p5), .val (.int p6), .val (.int b6), .val (.int b7), .val (.int b8), .val (.int ((p2 &&& (1073741823 : Int32)) + (1 : Int32))), .val (.int ((p3 &&& (1073741823 : Int32)) + (1 : Int32))), .val (.int (p4 &&& (65535 : Int32))), .val (.int sg), .val (.ref s1), .val (.ref s2), .unset, .unset, .unset, .unset, .unset, .unset, .unset, .unset, .unset, .unset, .unset, .unset, .unset]) rfl ?_
      refine XS.iload X43.here hx rfl (own_d hby at_129) rfl ?_
      exact Steps.refl _)
  obtain ⟨l2, hy_l2, c46⟩ : ∃ (l2 : Int32), ((l2 = ((p2 &&& (1073741823 : Int32)) + (1 : Int32)) ∧ b8 = (0 : Int32)) ∨ (l2 = (((p2 &&& (1073741823 : Int32)) + (1 : Int32)) + (1 : Int32)) ∧ ¬ (b8 = (0 : Int32)))) ∧ SS p e below B0 T43 m 143 #[.val (.int p1), .val (.int p2), .val (.int p3), .val (.int p4), .val (.int p5), .val (.int p6), .val (.int b6), .val (.int b7), .val (.int b8), .val (.int ((p2 &&& (1073741823 : Int32)) + (1 : Int32))), .val (.int ((p3 &&& (1073741823 : Int32)) + (1 : Int32))), .val (.int (p4 &&& (65535 : Int32))), .val (.int sg), .val (.ref s1), .val (.ref s2), .unset, .unset, .unset, .unset, .unset, .unset, .unset, .unset, .unset, .unset, .unset, .unset, .unset] [(.int l2)] := by
    by_cases h_l2 : b8 = (0 : Int32)
    · refine ⟨((p2 &&& (1073741823 : Int32)) + (1 : Int32)), Or.inl ⟨rfl, h_l2⟩, Steps.trans c45 (by
        refine XS.ifYes X43.here hx rfl (pc0 := 131) (pc' := 141) rfl (own_d hby at_131) rfl ((if0 _ _).trans (teq h_l2).1) (by decide) (by decide) ?_
        refine XS.iload X43.here hx rfl (own_d hby at_141) rfl ?_
        exact Steps.refl _)⟩
    · refine ⟨(((p2 &&& (1073741823 : Int32)) + (1 : Int32)) + (1 : Int32)), Or.inr ⟨rfl, h_l2⟩, Steps.trans c45 (by
        refine XS.ifNo X43.here hx rfl (own_d hby at_131) rfl ((if0 _ _).trans (feq h_l2).1) ?_
        refine XS.iload X43.here hx rfl (own_d hby at_134) rfl ?_
        refine XT.iconstV X43.here hx rfl (1 : Int32) (own_d hby at_136) (by decide) ?_
        refine XS.iadd X43.here hx rfl (own_d hby at_137) rfl ?_
        refine XS.goto X43.here hx rfl (pc0 := 138) (pc' := 143) rfl (own_d hby at_138) (by decide) (by decide) ?_
        exact Steps.refl _)⟩
  have c47 : SS p e below B0 T43 m 147 #[.val (.int p1), .val (.int p2), .val (.int p3), .val (.int p4), .val (.int p5), .val (.int p6), .val (.int b6), .val (.int b7), .val (.int b8), .val (.int ((p2 &&& (1073741823 : Int32)) + (1 : Int32))), .val (.int ((p3 &&& (1073741823 : Int32)) + (1 : Int32))), .val (.int (p4 &&& (65535 : Int32))), .val (.int sg), .val (.ref s1), .val (.ref s2), .val (.int l2), .unset, .unset, .unset, .unset, .unset, .unset, .unset, .unset, .unset, .unset, .unset, .unset] [(.int b8)] := Steps.trans c46 (by
      refine XS.istore X43.here hx rfl (own_d hby at_143) rfl (l' := #[.val (.int p1), .val (.int p2), .val (.int p3), .val (.int p4), .val (.int p5), .val (.int p6), .val (.int b6), .val (.int b7), .val (.int b8), .val (.int ((p2 &&& (1073741823 : Int32)) + (1 : Int32))), .val (.int ((p3 &&& (1073741823 : Int32)) + (1 : Int32))), .val (.int (p4 &&& (65535 : Int32))), .val (.int sg), .val (.ref s1), .val (.ref s2), .val (.int l2), .unset, .unset, .unset, .unset, .unset, .unset, .unset, .unset, .unset, .unset, .unset, .unset]) rfl ?_
      refine XS.iload X43.here hx rfl (own_d hby at_145) rfl ?_
      exact Steps.refl _)
  obtain ⟨k2v, hy_k2v, c48⟩ : ∃ (k2v : Int32), ((k2v = ((((p3 &&& (1073741823 : Int32)) + (1 : Int32)) + (2 : Int32)) + (p4 &&& (65535 : Int32))) ∧ b8 = (0 : Int32)) ∨ (k2v = ((p4 &&& (65535 : Int32)) + (1 : Int32)) ∧ ¬ (b8 = (0 : Int32)))) ∧ SS p e below B0 T43 m 164 #[.val (.int p1), .val (.int p2), .val (.int p3), .val (.int p4), .val (.int p5), .val (.int p6), .val (.int b6), .val (.int b7), .val (.int b8), .val (.int ((p2 &&& (1073741823 : Int32)) + (1 : Int32))), .val (.int ((p3 &&& (1073741823 : Int32)) + (1 : Int32))), .val (.int (p4 &&& (65535 : Int32))), .val (.int sg), .val (.ref s1), .val (.ref s2), .val (.int l2), .unset, .unset, .unset, .unset, .unset, .unset, .unset, .unset, .unset, .unset, .unset, .unset] [(.int k2v)] := by
    by_cases h_k2v : b8 = (0 : Int32)
    · refine ⟨((((p3 &&& (1073741823 : Int32)) + (1 : Int32)) + (2 : Int32)) + (p4 &&& (65535 : Int32))), Or.inl ⟨rfl, h_k2v⟩, Steps.trans c47 (by
        refine XS.ifYes X43.here hx rfl (pc0 := 147) (pc' := 157) rfl (own_d hby at_147) rfl ((if0 _ _).trans (teq h_k2v).1) (by decide) (by decide) ?_
        refine XS.iload X43.here hx rfl (own_d hby at_157) rfl ?_
        refine XT.iconstV X43.here hx rfl (2 : Int32) (own_d hby at_159) (by decide) ?_
        refine XS.iadd X43.here hx rfl (own_d hby at_160) rfl ?_
        refine XS.iload X43.here hx rfl (own_d hby at_161) rfl ?_
        refine XS.iadd X43.here hx rfl (own_d hby at_163) rfl ?_
        exact Steps.refl _)⟩
    · refine ⟨((p4 &&& (65535 : Int32)) + (1 : Int32)), Or.inr ⟨rfl, h_k2v⟩, Steps.trans c47 (by
        refine XS.ifNo X43.here hx rfl (own_d hby at_147) rfl ((if0 _ _).trans (feq h_k2v).1) ?_
        refine XS.iload X43.here hx rfl (own_d hby at_150) rfl ?_
        refine XT.iconstV X43.here hx rfl (1 : Int32) (own_d hby at_152) (by decide) ?_
        refine XS.iadd X43.here hx rfl (own_d hby at_153) rfl ?_
        refine XS.goto X43.here hx rfl (pc0 := 154) (pc' := 164) rfl (own_d hby at_154) (by decide) (by decide) ?_
        exact Steps.refl _)⟩
  have c49 : SS p e below B0 T43 m 168 #[.val (.int p1), .val (.int p2), .val (.int p3), .val (.int p4), .val (.int p5), .val (.int p6), .val (.int b6), .val (.int b7), .val (.int b8), .val (.int ((p2 &&& (1073741823 : Int32)) + (1 : Int32))), .val (.int ((p3 &&& (1073741823 : Int32)) + (1 : Int32))), .val (.int (p4 &&& (65535 : Int32))), .val (.int sg), .val (.ref s1), .val (.ref s2), .val (.int l2), .val (.int k2v), .unset, .unset, .unset, .unset, .unset, .unset, .unset, .unset, .unset, .unset, .unset] [(.int b6)] := Steps.trans c48 (by
      refine XS.istore X43.here hx rfl (own_d hby at_164) rfl (l' := #[.val (.int p1), .val (.int p2), .val (.int p3), .val (.int p4), .val (.int p5), .val (.int p6), .val (.int b6), .val (.int b7), .val (.int b8), .val (.int ((p2 &&& (1073741823 : Int32)) + (1 : Int32))), .val (.int ((p3 &&& (1073741823 : Int32)) + (1 : Int32))), .val (.int (p4 &&& (65535 : Int32))), .val (.int sg), .val (.ref s1), .val (.ref s2), .val (.int l2), .val (.int k2v), .unset, .unset, .unset, .unset, .unset, .unset, .unset, .unset, .unset, .unset, .unset]) rfl ?_
      refine XS.iload X43.here hx rfl (own_d hby at_166) rfl ?_
      exact Steps.refl _)
  obtain ⟨oL, oK, mL, mK, hy_oL, c50⟩ : ∃ (oL : Int32) (oK : Int32) (mL : Int32) (mK : Int32), ((oL = l2 ∧ oK = k2v ∧ mL = ((p2 &&& (1073741823 : Int32)) + (1 : Int32)) ∧ mK = ((p3 &&& (1073741823 : Int32)) + (1 : Int32)) ∧ b6 = (0 : Int32)) ∨ (oL = ((p2 &&& (1073741823 : Int32)) + (1 : Int32)) ∧ oK = ((p3 &&& (1073741823 : Int32)) + (1 : Int32)) ∧ mL = l2 ∧ mK = k2v ∧ ¬ (b6 = (0 : Int32)))) ∧ SS p e below B0 T43 m 206 #[.val (.int p1), .val (.int p2), .val (.int p3), .val (.int p4), .val (.int p5), .val (.int p6), .val (.int b6), .val (.int b7), .val (.int b8), .val (.int ((p2 &&& (1073741823 : Int32)) + (1 : Int32))), .val (.int ((p3 &&& (1073741823 : Int32)) + (1 : Int32))), .val (.int (p4 &&& (65535 : Int32))), .val (.int sg), .val (.ref s1), .val (.ref s2), .val (.int l2), .val (.int k2v), .val (.int oL), .val (.int oK), .val (.int mL), .val (.int mK), .unset, .unset, .unset, .unset, .unset, .unset, .unset] [] := by
    by_cases h_pre : b6 = (0 : Int32)
    · refine ⟨l2, k2v, ((p2 &&& (1073741823 : Int32)) + (1 : Int32)), ((p3 &&& (1073741823 : Int32)) + (1 : Int32)), Or.inl ⟨rfl, rfl, rfl, rfl, h_pre⟩, Steps.trans c49 (by
        refine XS.ifYes X43.here hx rfl (pc0 := 168) (pc' := 190) rfl (own_d hby at_168) rfl ((if0 _ _).trans (teq h_pre).1) (by decide) (by decide) ?_
        refine XS.iload X43.here hx rfl (own_d hby at_190) rfl ?_
        refine XS.istore X43.here hx rfl (own_d hby at_192) rfl (l' := #[.val (.int p1), .val (.int p2), .val (.int p3), .val (.int p4), .val (.int p5), .val (.int p6), .val (.int b6), .val (.int b7), .val (.int b8), .val (.int ((p2 &&& (1073741823 : Int32)) + (1 : Int32))), .val (.int ((p3 &&& (1073741823 : Int32)) + (1 : Int32))), .val (.int (p4 &&& (65535 : Int32))), .val (.int sg), .val (.ref s1), .val (.ref s2), .val (.int l2), .val (.int k2v), .unset, .unset, .val (.int ((p2 &&& (1073741823 : Int32)) + (1 : Int32))), .unset, .unset, .unset, .unset, .unset, .unset, .unset, .unset]) rfl ?_
        refine XS.iload X43.here hx rfl (own_d hby at_194) rfl ?_
        refine XS.istore X43.here hx rfl (own_d hby at_196) rfl (l' := #[.val (.int p1), .val (.int p2), .val (.int p3), .val (.int p4), .val (.int p5), .val (.int p6), .val (.int b6), .val (.int b7), .val (.int b8), .val (.int ((p2 &&& (1073741823 : Int32)) + (1 : Int32))), .val (.int ((p3 &&& (1073741823 : Int32)) + (1 : Int32))), .val (.int (p4 &&& (65535 : Int32))), .val (.int sg), .val (.ref s1), .val (.ref s2), .val (.int l2), .val (.int k2v), .unset, .unset, .val (.int ((p2 &&& (1073741823 : Int32)) + (1 : Int32))), .val (.int ((p3 &&& (1073741823 : Int32)) + (1 : Int32))), .unset, .unset, .unset, .unset, .unset, .unset, .unset]) rfl ?_
        refine XS.iload X43.here hx rfl (own_d hby at_198) rfl ?_
        refine XS.istore X43.here hx rfl (own_d hby at_200) rfl (l' := #[.val (.int p1), .val (.int p2), .val (.int p3), .val (.int p4), .val (.int p5), .val (.int p6), .val (.int b6), .val (.int b7), .val (.int b8), .val (.int ((p2 &&& (1073741823 : Int32)) + (1 : Int32))), .val (.int ((p3 &&& (1073741823 : Int32)) + (1 : Int32))), .val (.int (p4 &&& (65535 : Int32))), .val (.int sg), .val (.ref s1), .val (.ref s2), .val (.int l2), .val (.int k2v), .val (.int l2), .unset, .val (.int ((p2 &&& (1073741823 : Int32)) + (1 : Int32))), .val (.int ((p3 &&& (1073741823 : Int32)) + (1 : Int32))), .unset, .unset, .unset, .unset, .unset, .unset, .unset]) rfl ?_
        refine XS.iload X43.here hx rfl (own_d hby at_202) rfl ?_
        refine XS.istore X43.here hx rfl (own_d hby at_204) rfl (l' := #[.val (.int p1), .val (.int p2), .val (.int p3), .val (.int p4), .val (.int p5), .val (.int p6), .val (.int b6), .val (.int b7), .val (.int b8), .val (.int ((p2 &&& (1073741823 : Int32)) + (1 : Int32))), .val (.int ((p3 &&& (1073741823 : Int32)) + (1 : Int32))), .val (.int (p4 &&& (65535 : Int32))), .val (.int sg), .val (.ref s1), .val (.ref s2), .val (.int l2), .val (.int k2v), .val (.int l2), .val (.int k2v), .val (.int ((p2 &&& (1073741823 : Int32)) + (1 : Int32))), .val (.int ((p3 &&& (1073741823 : Int32)) + (1 : Int32))), .unset, .unset, .unset, .unset, .unset, .unset, .unset]) rfl ?_
        exact Steps.refl _)⟩
    · refine ⟨((p2 &&& (1073741823 : Int32)) + (1 : Int32)), ((p3 &&& (1073741823 : Int32)) + (1 : Int32)), l2, k2v, Or.inr ⟨rfl, rfl, rfl, rfl, h_pre⟩, Steps.trans c49 (by
        refine XS.ifNo X43.here hx rfl (own_d hby at_168) rfl ((if0 _ _).trans (feq h_pre).1) ?_
        refine XS.iload X43.here hx rfl (own_d hby at_171) rfl ?_
        refine XS.istore X43.here hx rfl (own_d hby at_173) rfl (l' := #[.val (.int p1), .val (.int p2), .val (.int p3), .val (.int p4), .val (.int p5), .val (.int p6), .val (.int b6), .val (.int b7), .val (.int b8), .val (.int ((p2 &&& (1073741823 : Int32)) + (1 : Int32))), .val (.int ((p3 &&& (1073741823 : Int32)) + (1 : Int32))), .val (.int (p4 &&& (65535 : Int32))), .val (.int sg), .val (.ref s1), .val (.ref s2), .val (.int l2), .val (.int k2v), .val (.int ((p2 &&& (1073741823 : Int32)) + (1 : Int32))), .unset, .unset, .unset, .unset, .unset, .unset, .unset, .unset, .unset, .unset]) rfl ?_
        refine XS.iload X43.here hx rfl (own_d hby at_175) rfl ?_
        refine XS.istore X43.here hx rfl (own_d hby at_177) rfl (l' := #[.val (.int p1), .val (.int p2), .val (.int p3), .val (.int p4), .val (.int p5), .val (.int p6), .val (.int b6), .val (.int b7), .val (.int b8), .val (.int ((p2 &&& (1073741823 : Int32)) + (1 : Int32))), .val (.int ((p3 &&& (1073741823 : Int32)) + (1 : Int32))), .val (.int (p4 &&& (65535 : Int32))), .val (.int sg), .val (.ref s1), .val (.ref s2), .val (.int l2), .val (.int k2v), .val (.int ((p2 &&& (1073741823 : Int32)) + (1 : Int32))), .val (.int ((p3 &&& (1073741823 : Int32)) + (1 : Int32))), .unset, .unset, .unset, .unset, .unset, .unset, .unset, .unset, .unset]) rfl ?_
        refine XS.iload X43.here hx rfl (own_d hby at_179) rfl ?_
        refine XS.istore X43.here hx rfl (own_d hby at_181) rfl (l' := #[.val (.int p1), .val (.int p2), .val (.int p3), .val (.int p4), .val (.int p5), .val (.int p6), .val (.int b6), .val (.int b7), .val (.int b8), .val (.int ((p2 &&& (1073741823 : Int32)) + (1 : Int32))), .val (.int ((p3 &&& (1073741823 : Int32)) + (1 : Int32))), .val (.int (p4 &&& (65535 : Int32))), .val (.int sg), .val (.ref s1), .val (.ref s2), .val (.int l2), .val (.int k2v), .val (.int ((p2 &&& (1073741823 : Int32)) + (1 : Int32))), .val (.int ((p3 &&& (1073741823 : Int32)) + (1 : Int32))), .val (.int l2), .unset, .unset, .unset, .unset, .unset, .unset, .unset, .unset]) rfl ?_
        refine XS.iload X43.here hx rfl (own_d hby at_183) rfl ?_
        refine XS.istore X43.here hx rfl (own_d hby at_185) rfl (l' := #[.val (.int p1), .val (.int p2), .val (.int p3), .val (.int p4), .val (.int p5), .val (.int p6), .val (.int b6), .val (.int b7), .val (.int b8), .val (.int ((p2 &&& (1073741823 : Int32)) + (1 : Int32))), .val (.int ((p3 &&& (1073741823 : Int32)) + (1 : Int32))), .val (.int (p4 &&& (65535 : Int32))), .val (.int sg), .val (.ref s1), .val (.ref s2), .val (.int l2), .val (.int k2v), .val (.int ((p2 &&& (1073741823 : Int32)) + (1 : Int32))), .val (.int ((p3 &&& (1073741823 : Int32)) + (1 : Int32))), .val (.int l2), .val (.int k2v), .unset, .unset, .unset, .unset, .unset, .unset, .unset]) rfl ?_
        refine XS.goto X43.here hx rfl (pc0 := 187) (pc' := 206) rfl (own_d hby at_187) (by decide) (by decide) ?_
        exact Steps.refl _)⟩
  obtain ⟨T51, h51, X51, e51, E51, A51, D51, -, st51⟩ := newO X43 hx hZ hown (W hw 32) (W hw 33) (W hw 34) e43 (g := (mkF m 206 #[.val (.int p1), .val (.int p2), .val (.int p3), .val (.int p4), .val (.int p5), .val (.int p6), .val (.int b6), .val (.int b7), .val (.int b8), .val (.int ((p2 &&& (1073741823 : Int32)) + (1 : Int32))), .val (.int ((p3 &&& (1073741823 : Int32)) + (1 : Int32))), .val (.int (p4 &&& (65535 : Int32))), .val (.int sg), .val (.ref s1), .val (.ref s2), .val (.int l2), .val (.int k2v), .val (.int oL), .val (.int oK), .val (.int mL), .val (.int mK), .unset, .unset, .unset, .unset, .unset, .unset, .unset] [])) rfl (own_d hby at_206) (by decide) (by decide)
  obtain ⟨to, g51⟩ : ∃ z, z = h43.size := ⟨_, rfl⟩
  rw [← g51] at A51 D51 st51
  have z51 : h43.size ≤ h51.size := E51.1
  have l51 : (@LT.lt Nat _ to h51.size) := A51.lt
  have K51 := K43.ext E51
  have c52 : SS p e below B0 T51 m 209 #[.val (.int p1), .val (.int p2), .val (.int p3), .val (.int p4), .val (.int p5), .val (.int p6), .val (.int b6), .val (.int b7), .val (.int b8), .val (.int ((p2 &&& (1073741823 : Int32)) + (1 : Int32))), .val (.int ((p3 &&& (1073741823 : Int32)) + (1 : Int32))), .val (.int (p4 &&& (65535 : Int32))), .val (.int sg), .val (.ref s1), .val (.ref s2), .val (.int l2), .val (.int k2v), .val (.int oL), .val (.int oK), .val (.int mL), .val (.int mK), .unset, .unset, .unset, .unset, .unset, .unset, .unset] [(.ref to)] := Steps.trans c50 (st51 _ (Steps.refl _))
  have Old53 : Old Z n0 h51 := ((Old42.keep Kq43 (allS (by omega) all0)).ext E51)
  have c54 : SS p e below B0 T51 m 210 #[.val (.int p1), .val (.int p2), .val (.int p3), .val (.int p4), .val (.int p5), .val (.int p6), .val (.int b6), .val (.int b7), .val (.int b8), .val (.int ((p2 &&& (1073741823 : Int32)) + (1 : Int32))), .val (.int ((p3 &&& (1073741823 : Int32)) + (1 : Int32))), .val (.int (p4 &&& (65535 : Int32))), .val (.int sg), .val (.ref s1), .val (.ref s2), .val (.int l2), .val (.int k2v), .val (.int oL), .val (.int oK), .val (.int mL), .val (.int mK), .unset, .unset, .unset, .unset, .unset, .unset, .unset] [(.ref to), (.ref to)] := Steps.trans c52 (by
      refine XS.dup X51.here hx rfl (own_d hby at_209) rfl rfl ?_
      exact Steps.refl _)
  obtain ⟨T55, X55, e55, st55⟩ := getS X51 hx hZ (host := "") hown (W hw 35) Via.refl e51 (O3.ext Old53.2) (g := (mkF m 210 #[.val (.int p1), .val (.int p2), .val (.int p3), .val (.int p4), .val (.int p5), .val (.int p6), .val (.int b6), .val (.int b7), .val (.int b8), .val (.int ((p2 &&& (1073741823 : Int32)) + (1 : Int32))), .val (.int ((p3 &&& (1073741823 : Int32)) + (1 : Int32))), .val (.int (p4 &&& (65535 : Int32))), .val (.int sg), .val (.ref s1), .val (.ref s2), .val (.int l2), .val (.int k2v), .val (.int oL), .val (.int oK), .val (.int mL), .val (.int mK), .unset, .unset, .unset, .unset, .unset, .unset, .unset] [(.ref to), (.ref to)])) rfl (own_d hby at_210)
  have c56 : SS p e below B0 T55 m 213 #[.val (.int p1), .val (.int p2), .val (.int p3), .val (.int p4), .val (.int p5), .val (.int p6), .val (.int b6), .val (.int b7), .val (.int b8), .val (.int ((p2 &&& (1073741823 : Int32)) + (1 : Int32))), .val (.int ((p3 &&& (1073741823 : Int32)) + (1 : Int32))), .val (.int (p4 &&& (65535 : Int32))), .val (.int sg), .val (.ref s1), .val (.ref s2), .val (.int l2), .val (.int k2v), .val (.int oL), .val (.int oK), .val (.int mL), .val (.int mK), .unset, .unset, .unset, .unset, .unset, .unset, .unset] [(.ref k1), (.ref to), (.ref to)] := Steps.trans c54 (st55 _ (Steps.refl _))
  have c57 : SS p e below B0 T55 m 219 #[.val (.int p1), .val (.int p2), .val (.int p3), .val (.int p4), .val (.int p5), .val (.int p6), .val (.int b6), .val (.int b7), .val (.int b8), .val (.int ((p2 &&& (1073741823 : Int32)) + (1 : Int32))), .val (.int ((p3 &&& (1073741823 : Int32)) + (1 : Int32))), .val (.int (p4 &&& (65535 : Int32))), .val (.int sg), .val (.ref s1), .val (.ref s2), .val (.int l2), .val (.int k2v), .val (.int oL), .val (.int oK), .val (.int mL), .val (.int mK), .unset, .unset, .unset, .unset, .unset, .unset, .unset] [(.int oK), (.int oL), (.ref s1), (.ref k1), (.ref to), (.ref to)] := Steps.trans c56 (by
      refine XS.aload X55.here hx rfl (own_d hby at_213) rfl rfl ?_
      refine XS.iload X55.here hx rfl (own_d hby at_215) rfl ?_
      refine XS.iload X55.here hx rfl (own_d hby at_217) rfl ?_
      exact Steps.refl _)
  obtain ⟨_, _, ⟨T58, Lp58, kp58, np58⟩, -, X58, ⟨Lc58, hQ58, lp58, yp58, zp58⟩, st58⟩ := X55.specialBack hx (y := (⟨"com/example/logicsmith/logicsmith/frontend/Token", "<init>", "(Lcom/example/logicsmith/logicsmith/frontend/Token$Kind;Ljava/lang/String;II)V"⟩ : MethodName)) rfl hown (mvT hZ (W hw 38)) (mvT hZ (W hw 39)) (mvT hZ (W hw 40)) (by decide) (backOf (W := 1) (rmT l Z a0 hw [] to k1 s1 oL oK _ _ _ _ h51 n0 (by omega) A51 (D51 (O := "com/example/logicsmith/logicsmith/frontend/Token") (nm := "kind") (d := "Lcom/example/logicsmith/logicsmith/frontend/Token$Kind;") (Or.inr (W hw 48)) (ty := (.object "com/example/logicsmith/logicsmith/frontend/Token$Kind")) (by decide)) (D51 (O := "com/example/logicsmith/logicsmith/frontend/Token") (nm := "text") (d := "Ljava/lang/String;") (Or.inr (W hw 50)) (ty := (.object "java/lang/String")) (by decide)) (D51 (O := "com/example/logicsmith/logicsmith/frontend/Token") (nm := "line") (d := "I") (Or.inr (W hw 52)) (ty := .int) (by decide)) (D51 (O := "com/example/logicsmith/logicsmith/frontend/Token") (nm := "column") (d := "I") (Or.inr (W hw 54)) (ty := .int) (by decide)) (by omega)) hZ (W hw 40) (W hw 34) (by decide) (by decide)) (g := (mkF m 219 #[.val (.int p1), .val (.int p2), .val (.int p3), .val (.int p4), .val (.int p5), .val (.int p6), .val (.int b6), .val (.int b7), .val (.int b8), .val (.int ((p2 &&& (1073741823 : Int32)) + (1 : Int32))), .val (.int ((p3 &&& (1073741823 : Int32)) + (1 : Int32))), .val (.int (p4 &&& (65535 : Int32))), .val (.int sg), .val (.ref s1), .val (.ref s2), .val (.int l2), .val (.int k2v), .val (.int oL), .val (.int oK), .val (.int mL), .val (.int mK), .unset, .unset, .unset, .unset, .unset, .unset, .unset] [(.int oK), (.int oL), (.ref s1), (.ref k1), (.ref to), (.ref to)])) rfl (by rw [hml]; rfl) c57 (a := to) (argsL := [(.ref k1), (.ref s1), (.int oL), (.int oK)]) (rest := [(.ref to)]) (lenOf pd__Lcom_example_logicsmith_logicsmith_frontend_Token_Kind_Ljava_lang_String_II_V rfl) rfl (by show 2 * 0 + _ ≤ _; exact Nat.le_of_eq rfl) (own_d hby at_219) (fun _ _ => ⟨rfl, e55, (by decide : 7 + 0 ≤ _), (by decide : 20 + 0 ≤ _)⟩)
  dsimp only [Pt.U, Pt.locs, Pt.cells, Pt.slots] at X58 lp58 yp58 zp58 st58 hQ58
  subst lp58 yp58 zp58
  obtain ⟨rfl, Nq58, Kq58⟩ := hQ58
  have N58 := Fr.app N43 Nq58
  obtain ⟨h58, e58⟩ : ∃ z, T58.heap = z := ⟨_, rfl⟩
  rw [e58] at Kq58
  have z58 : h51.size ≤ h58.size := Kq58.1
  have K58 := K51.trans Kq58 (allS (Or.inr (by omega)) all0)
  have c59 : SS p e below B0 T58 m 222 #[.val (.int p1), .val (.int p2), .val (.int p3), .val (.int p4), .val (.int p5), .val (.int p6), .val (.int b6), .val (.int b7), .val (.int b8), .val (.int ((p2 &&& (1073741823 : Int32)) + (1 : Int32))), .val (.int ((p3 &&& (1073741823 : Int32)) + (1 : Int32))), .val (.int (p4 &&& (65535 : Int32))), .val (.int sg), .val (.ref s1), .val (.ref s2), .val (.int l2), .val (.int k2v), .val (.int oL), .val (.int oK), .val (.int mL), .val (.int mK), .unset, .unset, .unset, .unset, .unset, .unset, .unset] [(.ref to)] := st58
  have c60 : SS p e below B0 T58 m 224 #[.val (.int p1), .val (.int p2), .val (.int p3), .val (.int p4), .val (.int p5), .val (.int p6), .val (.int b6), .val (.int b7), .val (.int b8), .val (.int ((p2 &&& (1073741823 : Int32)) + (1 : Int32))), .val (.int ((p3 &&& (1073741823 : Int32)) + (1 : Int32))), .val (.int (p4 &&& (65535 : Int32))), .val (.int sg), .val (.ref s1), .val (.ref s2), .val (.int l2), .val (.int k2v), .val (.int oL), .val (.int oK), .val (.int mL), .val (.int mK), .val (.ref to), .unset, .unset, .unset, .unset, .unset, .unset] [] := Steps.trans c59 (by
      refine XS.astore X58.here hx rfl (own_d hby at_222) rfl rfl (l' := #[.val (.int p1), .val (.int p2), .val (.int p3), .val (.int p4), .val (.int p5), .val (.int p6), .val (.int b6), .val (.int b7), .val (.int b8), .val (.int ((p2 &&& (1073741823 : Int32)) + (1 : Int32))), .val (.int ((p3 &&& (1073741823 : Int32)) + (1 : Int32))), .val (.int (p4 &&& (65535 : Int32))), .val (.int sg), .val (.ref s1), .val (.ref s2), .val (.int l2), .val (.int k2v), .val (.int oL), .val (.int oK), .val (.int mL), .val (.int mK), .val (.ref to), .unset, .unset, .unset, .unset, .unset, .unset]) rfl ?_
      exact Steps.refl _)
  obtain ⟨T61, h61, X61, e61, E61, A61, D61, -, st61⟩ := newO X58 hx hZ hown (W hw 32) (W hw 33) (W hw 34) e58 (g := (mkF m 224 #[.val (.int p1), .val (.int p2), .val (.int p3), .val (.int p4), .val (.int p5), .val (.int p6), .val (.int b6), .val (.int b7), .val (.int b8), .val (.int ((p2 &&& (1073741823 : Int32)) + (1 : Int32))), .val (.int ((p3 &&& (1073741823 : Int32)) + (1 : Int32))), .val (.int (p4 &&& (65535 : Int32))), .val (.int sg), .val (.ref s1), .val (.ref s2), .val (.int l2), .val (.int k2v), .val (.int oL), .val (.int oK), .val (.int mL), .val (.int mK), .val (.ref to), .unset, .unset, .unset, .unset, .unset, .unset] [])) rfl (own_d hby at_224) (by decide) (by decide)
  obtain ⟨tn, g61⟩ : ∃ z, z = h58.size := ⟨_, rfl⟩
  rw [← g61] at A61 D61 st61
  have z61 : h58.size ≤ h61.size := E61.1
  have l61 : (@LT.lt Nat _ tn h61.size) := A61.lt
  have K61 := K58.ext E61
  have c62 : SS p e below B0 T61 m 227 #[.val (.int p1), .val (.int p2), .val (.int p3), .val (.int p4), .val (.int p5), .val (.int p6), .val (.int b6), .val (.int b7), .val (.int b8), .val (.int ((p2 &&& (1073741823 : Int32)) + (1 : Int32))), .val (.int ((p3 &&& (1073741823 : Int32)) + (1 : Int32))), .val (.int (p4 &&& (65535 : Int32))), .val (.int sg), .val (.ref s1), .val (.ref s2), .val (.int l2), .val (.int k2v), .val (.int oL), .val (.int oK), .val (.int mL), .val (.int mK), .val (.ref to), .unset, .unset, .unset, .unset, .unset, .unset] [(.ref tn)] := Steps.trans c60 (st61 _ (Steps.refl _))
  have Old63 : Old Z n0 h61 := ((Old53.keep Kq58 (allS (by omega) all0)).ext E61)
  have c64 : SS p e below B0 T61 m 228 #[.val (.int p1), .val (.int p2), .val (.int p3), .val (.int p4), .val (.int p5), .val (.int p6), .val (.int b6), .val (.int b7), .val (.int b8), .val (.int ((p2 &&& (1073741823 : Int32)) + (1 : Int32))), .val (.int ((p3 &&& (1073741823 : Int32)) + (1 : Int32))), .val (.int (p4 &&& (65535 : Int32))), .val (.int sg), .val (.ref s1), .val (.ref s2), .val (.int l2), .val (.int k2v), .val (.int oL), .val (.int oK), .val (.int mL), .val (.int mK), .val (.ref to), .unset, .unset, .unset, .unset, .unset, .unset] [(.ref tn), (.ref tn)] := Steps.trans c62 (by
      refine XS.dup X61.here hx rfl (own_d hby at_227) rfl rfl ?_
      exact Steps.refl _)
  obtain ⟨T65, X65, e65, st65⟩ := getS X61 hx hZ (host := "") hown (W hw 55) Via.refl e61 (O4.ext Old63.2) (g := (mkF m 228 #[.val (.int p1), .val (.int p2), .val (.int p3), .val (.int p4), .val (.int p5), .val (.int p6), .val (.int b6), .val (.int b7), .val (.int b8), .val (.int ((p2 &&& (1073741823 : Int32)) + (1 : Int32))), .val (.int ((p3 &&& (1073741823 : Int32)) + (1 : Int32))), .val (.int (p4 &&& (65535 : Int32))), .val (.int sg), .val (.ref s1), .val (.ref s2), .val (.int l2), .val (.int k2v), .val (.int oL), .val (.int oK), .val (.int mL), .val (.int mK), .val (.ref to), .unset, .unset, .unset, .unset, .unset, .unset] [(.ref tn), (.ref tn)])) rfl (own_d hby at_228)
  have c66 : SS p e below B0 T65 m 231 #[.val (.int p1), .val (.int p2), .val (.int p3), .val (.int p4), .val (.int p5), .val (.int p6), .val (.int b6), .val (.int b7), .val (.int b8), .val (.int ((p2 &&& (1073741823 : Int32)) + (1 : Int32))), .val (.int ((p3 &&& (1073741823 : Int32)) + (1 : Int32))), .val (.int (p4 &&& (65535 : Int32))), .val (.int sg), .val (.ref s1), .val (.ref s2), .val (.int l2), .val (.int k2v), .val (.int oL), .val (.int oK), .val (.int mL), .val (.int mK), .val (.ref to), .unset, .unset, .unset, .unset, .unset, .unset] [(.ref k2), (.ref tn), (.ref tn)] := Steps.trans c64 (st65 _ (Steps.refl _))
  have c67 : SS p e below B0 T65 m 237 #[.val (.int p1), .val (.int p2), .val (.int p3), .val (.int p4), .val (.int p5), .val (.int p6), .val (.int b6), .val (.int b7), .val (.int b8), .val (.int ((p2 &&& (1073741823 : Int32)) + (1 : Int32))), .val (.int ((p3 &&& (1073741823 : Int32)) + (1 : Int32))), .val (.int (p4 &&& (65535 : Int32))), .val (.int sg), .val (.ref s1), .val (.ref s2), .val (.int l2), .val (.int k2v), .val (.int oL), .val (.int oK), .val (.int mL), .val (.int mK), .val (.ref to), .unset, .unset, .unset, .unset, .unset, .unset] [(.int mK), (.int mL), (.ref s2), (.ref k2), (.ref tn), (.ref tn)] := Steps.trans c66 (by
      refine XS.aload X65.here hx rfl (own_d hby at_231) rfl rfl ?_
      refine XS.iload X65.here hx rfl (own_d hby at_233) rfl ?_
      refine XS.iload X65.here hx rfl (own_d hby at_235) rfl ?_
      exact Steps.refl _)
  obtain ⟨_, _, ⟨T68, Lp68, kp68, np68⟩, -, X68, ⟨Lc68, hQ68, lp68, yp68, zp68⟩, st68⟩ := X65.specialBack hx (y := (⟨"com/example/logicsmith/logicsmith/frontend/Token", "<init>", "(Lcom/example/logicsmith/logicsmith/frontend/Token$Kind;Ljava/lang/String;II)V"⟩ : MethodName)) rfl hown (mvT hZ (W hw 38)) (mvT hZ (W hw 39)) (mvT hZ (W hw 40)) (by decide) (backOf (W := 1) (rmT l Z a0 hw [] tn k2 s2 mL mK _ _ _ _ h61 n0 (by omega) A61 (D61 (O := "com/example/logicsmith/logicsmith/frontend/Token") (nm := "kind") (d := "Lcom/example/logicsmith/logicsmith/frontend/Token$Kind;") (Or.inr (W hw 48)) (ty := (.object "com/example/logicsmith/logicsmith/frontend/Token$Kind")) (by decide)) (D61 (O := "com/example/logicsmith/logicsmith/frontend/Token") (nm := "text") (d := "Ljava/lang/String;") (Or.inr (W hw 50)) (ty := (.object "java/lang/String")) (by decide)) (D61 (O := "com/example/logicsmith/logicsmith/frontend/Token") (nm := "line") (d := "I") (Or.inr (W hw 52)) (ty := .int) (by decide)) (D61 (O := "com/example/logicsmith/logicsmith/frontend/Token") (nm := "column") (d := "I") (Or.inr (W hw 54)) (ty := .int) (by decide)) (by omega)) hZ (W hw 40) (W hw 34) (by decide) (by decide)) (g := (mkF m 237 #[.val (.int p1), .val (.int p2), .val (.int p3), .val (.int p4), .val (.int p5), .val (.int p6), .val (.int b6), .val (.int b7), .val (.int b8), .val (.int ((p2 &&& (1073741823 : Int32)) + (1 : Int32))), .val (.int ((p3 &&& (1073741823 : Int32)) + (1 : Int32))), .val (.int (p4 &&& (65535 : Int32))), .val (.int sg), .val (.ref s1), .val (.ref s2), .val (.int l2), .val (.int k2v), .val (.int oL), .val (.int oK), .val (.int mL), .val (.int mK), .val (.ref to), .unset, .unset, .unset, .unset, .unset, .unset] [(.int mK), (.int mL), (.ref s2), (.ref k2), (.ref tn), (.ref tn)])) rfl (by rw [hml]; rfl) c67 (a := tn) (argsL := [(.ref k2), (.ref s2), (.int mL), (.int mK)]) (rest := [(.ref tn)]) (lenOf pd__Lcom_example_logicsmith_logicsmith_frontend_Token_Kind_Ljava_lang_String_II_V rfl) rfl (by show 2 * 0 + _ ≤ _; exact Nat.le_of_eq rfl) (own_d hby at_237) (fun _ _ => ⟨rfl, e65, (by decide : 8 + 0 ≤ _), (by decide : 24 + 0 ≤ _)⟩)
  dsimp only [Pt.U, Pt.locs, Pt.cells, Pt.slots] at X68 lp68 yp68 zp68 st68 hQ68
  subst lp68 yp68 zp68
  obtain ⟨rfl, Nq68, Kq68⟩ := hQ68
  have N68 := Fr.app N58 Nq68
  obtain ⟨h68, e68⟩ : ∃ z, T68.heap = z := ⟨_, rfl⟩
  rw [e68] at Kq68
  have z68 : h61.size ≤ h68.size := Kq68.1
  have K68 := K61.trans Kq68 (allS (Or.inr (by omega)) all0)
  have c69 : SS p e below B0 T68 m 240 #[.val (.int p1), .val (.int p2), .val (.int p3), .val (.int p4), .val (.int p5), .val (.int p6), .val (.int b6), .val (.int b7), .val (.int b8), .val (.int ((p2 &&& (1073741823 : Int32)) + (1 : Int32))), .val (.int ((p3 &&& (1073741823 : Int32)) + (1 : Int32))), .val (.int (p4 &&& (65535 : Int32))), .val (.int sg), .val (.ref s1), .val (.ref s2), .val (.int l2), .val (.int k2v), .val (.int oL), .val (.int oK), .val (.int mL), .val (.int mK), .val (.ref to), .unset, .unset, .unset, .unset, .unset, .unset] [(.ref tn)] := st68
  have c70 : SS p e below B0 T68 m 242 #[.val (.int p1), .val (.int p2), .val (.int p3), .val (.int p4), .val (.int p5), .val (.int p6), .val (.int b6), .val (.int b7), .val (.int b8), .val (.int ((p2 &&& (1073741823 : Int32)) + (1 : Int32))), .val (.int ((p3 &&& (1073741823 : Int32)) + (1 : Int32))), .val (.int (p4 &&& (65535 : Int32))), .val (.int sg), .val (.ref s1), .val (.ref s2), .val (.int l2), .val (.int k2v), .val (.int oL), .val (.int oK), .val (.int mL), .val (.int mK), .val (.ref to), .val (.ref tn), .unset, .unset, .unset, .unset, .unset] [] := Steps.trans c69 (by
      refine XS.astore X68.here hx rfl (own_d hby at_240) rfl rfl (l' := #[.val (.int p1), .val (.int p2), .val (.int p3), .val (.int p4), .val (.int p5), .val (.int p6), .val (.int b6), .val (.int b7), .val (.int b8), .val (.int ((p2 &&& (1073741823 : Int32)) + (1 : Int32))), .val (.int ((p3 &&& (1073741823 : Int32)) + (1 : Int32))), .val (.int (p4 &&& (65535 : Int32))), .val (.int sg), .val (.ref s1), .val (.ref s2), .val (.int l2), .val (.int k2v), .val (.int oL), .val (.int oK), .val (.int mL), .val (.int mK), .val (.ref to), .val (.ref tn), .unset, .unset, .unset, .unset, .unset]) rfl ?_
      exact Steps.refl _)
  obtain ⟨T71, h71, X71, e71, E71, A71, D71, -, st71⟩ := newO X68 hx hZ hown (W hw 57) (W hw 58) (W hw 59) e68 (g := (mkF m 242 #[.val (.int p1), .val (.int p2), .val (.int p3), .val (.int p4), .val (.int p5), .val (.int p6), .val (.int b6), .val (.int b7), .val (.int b8), .val (.int ((p2 &&& (1073741823 : Int32)) + (1 : Int32))), .val (.int ((p3 &&& (1073741823 : Int32)) + (1 : Int32))), .val (.int (p4 &&& (65535 : Int32))), .val (.int sg), .val (.ref s1), .val (.ref s2), .val (.int l2), .val (.int k2v), .val (.int oL), .val (.int oK), .val (.int mL), .val (.int mK), .val (.ref to), .val (.ref tn), .unset, .unset, .unset, .unset, .unset] [])) rfl (own_d hby at_242) (by decide) (by decide)
  obtain ⟨ti, g71⟩ : ∃ z, z = h68.size := ⟨_, rfl⟩
  rw [← g71] at A71 D71 st71
  have z71 : h68.size ≤ h71.size := E71.1
  have l71 : (@LT.lt Nat _ ti h71.size) := A71.lt
  have K71 := K68.ext E71
  have c72 : SS p e below B0 T71 m 245 #[.val (.int p1), .val (.int p2), .val (.int p3), .val (.int p4), .val (.int p5), .val (.int p6), .val (.int b6), .val (.int b7), .val (.int b8), .val (.int ((p2 &&& (1073741823 : Int32)) + (1 : Int32))), .val (.int ((p3 &&& (1073741823 : Int32)) + (1 : Int32))), .val (.int (p4 &&& (65535 : Int32))), .val (.int sg), .val (.ref s1), .val (.ref s2), .val (.int l2), .val (.int k2v), .val (.int oL), .val (.int oK), .val (.int mL), .val (.int mK), .val (.ref to), .val (.ref tn), .unset, .unset, .unset, .unset, .unset] [(.ref ti)] := Steps.trans c70 (st71 _ (Steps.refl _))
  have c73 : SS p e below B0 T71 m 252 #[.val (.int p1), .val (.int p2), .val (.int p3), .val (.int p4), .val (.int p5), .val (.int p6), .val (.int b6), .val (.int b7), .val (.int b8), .val (.int ((p2 &&& (1073741823 : Int32)) + (1 : Int32))), .val (.int ((p3 &&& (1073741823 : Int32)) + (1 : Int32))), .val (.int (p4 &&& (65535 : Int32))), .val (.int sg), .val (.ref s1), .val (.ref s2), .val (.int l2), .val (.int k2v), .val (.int oL), .val (.int oK), .val (.int mL), .val (.int mK), .val (.ref to), .val (.ref tn), .unset, .unset, .unset, .unset, .unset] [(.int b6), (.ref tn), (.ref to), (.ref ti), (.ref ti)] := Steps.trans c72 (by
      refine XS.dup X71.here hx rfl (own_d hby at_245) rfl rfl ?_
      refine XS.aload X71.here hx rfl (own_d hby at_246) rfl rfl ?_
      refine XS.aload X71.here hx rfl (own_d hby at_248) rfl rfl ?_
      refine XS.iload X71.here hx rfl (own_d hby at_250) rfl ?_
      exact Steps.refl _)
  have hb6 : b6 = 0 ∨ b6 = 1 := by rcases hy_b6 with ⟨rfl, -⟩ | ⟨rfl, -⟩ <;> simp
  have hpn : narrow .boolean (.int b6) = .int b6 := by rcases hb6 with rfl | rfl <;> rfl
  have hpf : fits .boolean (.int b6) = true := by rcases hb6 with rfl | rfl <;> rfl
  obtain ⟨_, _, ⟨T74, Lp74, kp74, np74⟩, -, X74, ⟨Lc74, hQ74, lp74, yp74, zp74⟩, st74⟩ := X71.specialBack hx (y := (⟨"com/example/logicsmith/logicsmith/frontend/Expression$Increment", "<init>", "(Lcom/example/logicsmith/logicsmith/frontend/Token;Lcom/example/logicsmith/logicsmith/frontend/Token;Z)V"⟩ : MethodName)) rfl hown (mvT hZ (W hw 60)) (mvT hZ (W hw 61)) (mvT hZ (W hw 62)) (by decide) (backOf (W := 1) (rmI l Z a0 hw [] ti to tn b6 _ _ _ h71 n0 (by omega) A71 (D71 (O := "com/example/logicsmith/logicsmith/frontend/Expression$Increment") (nm := "operator") (d := "Lcom/example/logicsmith/logicsmith/frontend/Token;") (Or.inr (W hw 65)) (ty := (.object "com/example/logicsmith/logicsmith/frontend/Token")) (by decide)) (D71 (O := "com/example/logicsmith/logicsmith/frontend/Expression$Increment") (nm := "name") (d := "Lcom/example/logicsmith/logicsmith/frontend/Token;") (Or.inr (W hw 67)) (ty := (.object "com/example/logicsmith/logicsmith/frontend/Token")) (by decide)) (D71 (O := "com/example/logicsmith/logicsmith/frontend/Expression$Increment") (nm := "prefix") (d := "Z") (Or.inr (W hw 69)) (ty := .boolean) (by decide)) (by omega) hpn hpf) hZ (W hw 62) (W hw 59) (by decide) (by decide)) (g := (mkF m 252 #[.val (.int p1), .val (.int p2), .val (.int p3), .val (.int p4), .val (.int p5), .val (.int p6), .val (.int b6), .val (.int b7), .val (.int b8), .val (.int ((p2 &&& (1073741823 : Int32)) + (1 : Int32))), .val (.int ((p3 &&& (1073741823 : Int32)) + (1 : Int32))), .val (.int (p4 &&& (65535 : Int32))), .val (.int sg), .val (.ref s1), .val (.ref s2), .val (.int l2), .val (.int k2v), .val (.int oL), .val (.int oK), .val (.int mL), .val (.int mK), .val (.ref to), .val (.ref tn), .unset, .unset, .unset, .unset, .unset] [(.int b6), (.ref tn), (.ref to), (.ref ti), (.ref ti)])) rfl (by rw [hml]; rfl) c73 (a := ti) (argsL := [(.ref to), (.ref tn), (.int b6)]) (rest := [(.ref ti)]) (lenOf pd__Lcom_example_logicsmith_logicsmith_frontend_Token_Lcom_example_logicsmith_logicsmith_frontend_Token_Z_V rfl) rfl (by show 2 * 0 + _ ≤ _; exact Nat.le_of_eq rfl) (own_d hby at_252) (fun _ _ => ⟨rfl, e71, (by decide : 9 + 0 ≤ _), (by decide : 27 + 0 ≤ _)⟩)
  dsimp only [Pt.U, Pt.locs, Pt.cells, Pt.slots] at X74 lp74 yp74 zp74 st74 hQ74
  subst lp74 yp74 zp74
  obtain ⟨rfl, Nq74, Kq74, fo74, fn74, fp74⟩ := hQ74
  have N74 := Fr.app N68 Nq74
  obtain ⟨h74, e74⟩ : ∃ z, T74.heap = z := ⟨_, rfl⟩
  rw [e74] at Kq74 fo74 fn74 fp74
  have z74 : h71.size ≤ h74.size := Kq74.1
  have K74 := K71.trans Kq74 (allS (Or.inr (by omega)) all0)
  have c75 : SS p e below B0 T74 m 255 #[.val (.int p1), .val (.int p2), .val (.int p3), .val (.int p4), .val (.int p5), .val (.int p6), .val (.int b6), .val (.int b7), .val (.int b8), .val (.int ((p2 &&& (1073741823 : Int32)) + (1 : Int32))), .val (.int ((p3 &&& (1073741823 : Int32)) + (1 : Int32))), .val (.int (p4 &&& (65535 : Int32))), .val (.int sg), .val (.ref s1), .val (.ref s2), .val (.int l2), .val (.int k2v), .val (.int oL), .val (.int oK), .val (.int mL), .val (.int mK), .val (.ref to), .val (.ref tn), .unset, .unset, .unset, .unset, .unset] [(.ref ti)] := st74
  have c76 : SS p e below B0 T74 m 259 #[.val (.int p1), .val (.int p2), .val (.int p3), .val (.int p4), .val (.int p5), .val (.int p6), .val (.int b6), .val (.int b7), .val (.int b8), .val (.int ((p2 &&& (1073741823 : Int32)) + (1 : Int32))), .val (.int ((p3 &&& (1073741823 : Int32)) + (1 : Int32))), .val (.int (p4 &&& (65535 : Int32))), .val (.int sg), .val (.ref s1), .val (.ref s2), .val (.int l2), .val (.int k2v), .val (.int oL), .val (.int oK), .val (.int mL), .val (.int mK), .val (.ref to), .val (.ref tn), .val (.ref ti), .unset, .unset, .unset, .unset] [(.ref ti)] := Steps.trans c75 (by
      refine XS.astore X74.here hx rfl (own_d hby at_255) rfl rfl (l' := #[.val (.int p1), .val (.int p2), .val (.int p3), .val (.int p4), .val (.int p5), .val (.int p6), .val (.int b6), .val (.int b7), .val (.int b8), .val (.int ((p2 &&& (1073741823 : Int32)) + (1 : Int32))), .val (.int ((p3 &&& (1073741823 : Int32)) + (1 : Int32))), .val (.int (p4 &&& (65535 : Int32))), .val (.int sg), .val (.ref s1), .val (.ref s2), .val (.int l2), .val (.int k2v), .val (.int oL), .val (.int oK), .val (.int mL), .val (.int mK), .val (.ref to), .val (.ref tn), .val (.ref ti), .unset, .unset, .unset, .unset]) rfl ?_
      refine XS.aload X74.here hx rfl (own_d hby at_257) rfl rfl ?_
      exact Steps.refl _)
  have Exa77 : Exa Z h74 ti "com/example/logicsmith/logicsmith/frontend/Expression$Increment" := (A71.keep Kq74)
  have hne : to ≠ tn := own_ne (by omega)
  have hne' : tn ≠ to := own_ne (by omega)
  rcases hy_oL with ⟨eL, eK, fL, fK, hb⟩ | ⟨eL, eK, fL, fK, hb⟩
  · obtain ⟨cq78, kq78, qa78, qb78, qc78⟩ := isOf hZ e74 Exa77
    obtain ⟨_, _, ⟨T78, Lp78, kp78, np78⟩, -, X78, ⟨Lc78, hQ78, lp78, yp78, zp78⟩, st78⟩ := X74.virtualBack hx (y := (⟨"com/example/logicsmith/logicsmith/frontend/Expression$Increment", "token", "()Lcom/example/logicsmith/logicsmith/frontend/Token;"⟩ : MethodName)) (z := (⟨"com/example/logicsmith/logicsmith/frontend/Expression$Increment", "token", "()Lcom/example/logicsmith/logicsmith/frontend/Token;"⟩ : MethodName)) hown (mvT hZ (W hw 70)) (mvT hZ (W hw 71)) (notFace_of_selects (args := #[]) (mvT hZ (W hw 73))) (mvT hZ (W hw 73)) (mvT hZ (W hw 72)) (by decide) (backOf (W := 0) (rmKt l Z a0 hw [] ti to tn b6 h74 n0 (by omega) fo74 fn74 fp74 hb) hZ (W hw 74) (W hw 59) (by decide) (by decide)) qa78 qc78 (g := (mkF m 259 #[.val (.int p1), .val (.int p2), .val (.int p3), .val (.int p4), .val (.int p5), .val (.int p6), .val (.int b6), .val (.int b7), .val (.int b8), .val (.int ((p2 &&& (1073741823 : Int32)) + (1 : Int32))), .val (.int ((p3 &&& (1073741823 : Int32)) + (1 : Int32))), .val (.int (p4 &&& (65535 : Int32))), .val (.int sg), .val (.ref s1), .val (.ref s2), .val (.int l2), .val (.int k2v), .val (.int oL), .val (.int oK), .val (.int mL), .val (.int mK), .val (.ref to), .val (.ref tn), .val (.ref ti), .unset, .unset, .unset, .unset] [(.ref ti)])) rfl (by rw [hml]; rfl) c76 (argsL := []) (rest := []) (lenOf pd___Lcom_example_logicsmith_logicsmith_frontend_Token_ rfl) rfl (by show 2 * 0 + _ ≤ _; exact Nat.le_of_eq rfl) (own_d hby at_259) (fun _ _ => ⟨rfl, e74, (by decide : 9 + 0 ≤ _), (by decide : 27 + 0 ≤ _)⟩)
    dsimp only [Pt.U, Pt.locs, Pt.cells, Pt.slots] at X78 lp78 yp78 zp78 st78 hQ78
    subst lp78 yp78 zp78
    obtain ⟨rfl, Nq78, eq78⟩ := hQ78
    have N78 := Fr.app N74 Nq78
    have c79 : SS p e below B0 T78 m 262 #[.val (.int p1), .val (.int p2), .val (.int p3), .val (.int p4), .val (.int p5), .val (.int p6), .val (.int b6), .val (.int b7), .val (.int b8), .val (.int ((p2 &&& (1073741823 : Int32)) + (1 : Int32))), .val (.int ((p3 &&& (1073741823 : Int32)) + (1 : Int32))), .val (.int (p4 &&& (65535 : Int32))), .val (.int sg), .val (.ref s1), .val (.ref s2), .val (.int l2), .val (.int k2v), .val (.int oL), .val (.int oK), .val (.int mL), .val (.int mK), .val (.ref to), .val (.ref tn), .val (.ref ti), .unset, .unset, .unset, .unset] [(.ref tn)] := st78
    have c80 : SS p e below B0 T78 m 268 #[.val (.int p1), .val (.int p2), .val (.int p3), .val (.int p4), .val (.int p5), .val (.int p6), .val (.int b6), .val (.int b7), .val (.int b8), .val (.int ((p2 &&& (1073741823 : Int32)) + (1 : Int32))), .val (.int ((p3 &&& (1073741823 : Int32)) + (1 : Int32))), .val (.int (p4 &&& (65535 : Int32))), .val (.int sg), .val (.ref s1), .val (.ref s2), .val (.int l2), .val (.int k2v), .val (.int oL), .val (.int oK), .val (.int mL), .val (.int mK), .val (.ref to), .val (.ref tn), .val (.ref ti), .val (.ref tn), .unset, .unset, .unset] [(.int mL), (.int oL)] := Steps.trans c79 (by
        refine XS.astore X78.here hx rfl (own_d hby at_262) rfl rfl (l' := #[.val (.int p1), .val (.int p2), .val (.int p3), .val (.int p4), .val (.int p5), .val (.int p6), .val (.int b6), .val (.int b7), .val (.int b8), .val (.int ((p2 &&& (1073741823 : Int32)) + (1 : Int32))), .val (.int ((p3 &&& (1073741823 : Int32)) + (1 : Int32))), .val (.int (p4 &&& (65535 : Int32))), .val (.int sg), .val (.ref s1), .val (.ref s2), .val (.int l2), .val (.int k2v), .val (.int oL), .val (.int oK), .val (.int mL), .val (.int mK), .val (.ref to), .val (.ref tn), .val (.ref ti), .val (.ref tn), .unset, .unset, .unset]) rfl ?_
        refine XS.iload X78.here hx rfl (own_d hby at_264) rfl ?_
        refine XS.iload X78.here hx rfl (own_d hby at_266) rfl ?_
        exact Steps.refl _)
    obtain ⟨of, hy_of, c81⟩ : ∃ (of : Int32), (of = 0) ∧ SS p e below B0 T78 m 290 #[.val (.int p1), .val (.int p2), .val (.int p3), .val (.int p4), .val (.int p5), .val (.int p6), .val (.int b6), .val (.int b7), .val (.int b8), .val (.int ((p2 &&& (1073741823 : Int32)) + (1 : Int32))), .val (.int ((p3 &&& (1073741823 : Int32)) + (1 : Int32))), .val (.int (p4 &&& (65535 : Int32))), .val (.int sg), .val (.ref s1), .val (.ref s2), .val (.int l2), .val (.int k2v), .val (.int oL), .val (.int oK), .val (.int mL), .val (.int mK), .val (.ref to), .val (.ref tn), .val (.ref ti), .val (.ref tn), .unset, .unset, .unset] [(.int of)] := by
      rcases hy_l2 with ⟨el, hb8⟩ | ⟨el, hb8⟩
      · rcases hy_k2v with ⟨ek, -⟩ | ⟨-, hk⟩
        rotate_left
        · exact absurd hb8 hk
        have d1 : ¬ oL < mL := by rw [eL, fL, el]; exact own_irr _
        have d2 : oL = mL := by rw [eL, fL, el]
        have d3 : ¬ oK < mK := by rw [eK, fK, ek]; exact own_k2 p3 p4
        refine ⟨0, rfl, Steps.trans c80 (by
            refine XS.icmpNo X78.here hx rfl (own_d hby at_268) rfl (flt d1).1 ?_
            refine XS.iload X78.here hx rfl (own_d hby at_271) rfl ?_
            refine XS.iload X78.here hx rfl (own_d hby at_273) rfl ?_
            refine XS.icmpNo X78.here hx rfl (own_d hby at_275) rfl (teq d2).2 ?_
            refine XS.iload X78.here hx rfl (own_d hby at_278) rfl ?_
            refine XS.iload X78.here hx rfl (own_d hby at_280) rfl ?_
            refine XS.icmpYes X78.here hx rfl (pc0 := 282) (pc' := 289) rfl (own_d hby at_282) rfl (flt d3).2.1 (by decide) (by decide) ?_
            refine XT.iconstV X78.here hx rfl (0 : Int32) (own_d hby at_289) (by decide) ?_
            exact Steps.refl _)⟩
      · have d1 : ¬ oL < mL := by rw [eL, fL, el]; exact own_l2 p2
        have d2 : ¬ oL = mL := by rw [eL, fL, el]; exact own_l3 p2
        refine ⟨0, rfl, Steps.trans c80 (by
            refine XS.icmpNo X78.here hx rfl (own_d hby at_268) rfl (flt d1).1 ?_
            refine XS.iload X78.here hx rfl (own_d hby at_271) rfl ?_
            refine XS.iload X78.here hx rfl (own_d hby at_273) rfl ?_
            refine XS.icmpYes X78.here hx rfl (pc0 := 275) (pc' := 289) rfl (own_d hby at_275) rfl (feq d2).2 (by decide) (by decide) ?_
            refine XT.iconstV X78.here hx rfl (0 : Int32) (own_d hby at_289) (by decide) ?_
            exact Steps.refl _)⟩
    subst hy_of
    have c82 : SS p e below B0 T78 m 290 #[.val (.int p1), .val (.int p2), .val (.int p3), .val (.int p4), .val (.int p5), .val (.int p6), .val (.int b6), .val (.int b7), .val (.int b8), .val (.int ((p2 &&& (1073741823 : Int32)) + (1 : Int32))), .val (.int ((p3 &&& (1073741823 : Int32)) + (1 : Int32))), .val (.int (p4 &&& (65535 : Int32))), .val (.int sg), .val (.ref s1), .val (.ref s2), .val (.int l2), .val (.int k2v), .val (.int oL), .val (.int oK), .val (.int mL), .val (.int mK), .val (.ref to), .val (.ref tn), .val (.ref ti), .val (.ref tn), .unset, .unset, .unset] [(.int (0 : Int32))] := c81
    have c83 : SS p e below B0 T78 m 339 #[.val (.int p1), .val (.int p2), .val (.int p3), .val (.int p4), .val (.int p5), .val (.int p6), .val (.int b6), .val (.int b7), .val (.int b8), .val (.int ((p2 &&& (1073741823 : Int32)) + (1 : Int32))), .val (.int ((p3 &&& (1073741823 : Int32)) + (1 : Int32))), .val (.int (p4 &&& (65535 : Int32))), .val (.int sg), .val (.ref s1), .val (.ref s2), .val (.int l2), .val (.int k2v), .val (.int oL), .val (.int oK), .val (.int mL), .val (.int mK), .val (.ref to), .val (.ref tn), .val (.ref ti), .val (.ref tn), .val (.int (0 : Int32)), .val (.ref tn), .val (.ref to)] [(.int (1 : Int32))] := Steps.trans c82 (by
        refine XS.istore X78.here hx rfl (own_d hby at_290) rfl (l' := #[.val (.int p1), .val (.int p2), .val (.int p3), .val (.int p4), .val (.int p5), .val (.int p6), .val (.int b6), .val (.int b7), .val (.int b8), .val (.int ((p2 &&& (1073741823 : Int32)) + (1 : Int32))), .val (.int ((p3 &&& (1073741823 : Int32)) + (1 : Int32))), .val (.int (p4 &&& (65535 : Int32))), .val (.int sg), .val (.ref s1), .val (.ref s2), .val (.int l2), .val (.int k2v), .val (.int oL), .val (.int oK), .val (.int mL), .val (.int mK), .val (.ref to), .val (.ref tn), .val (.ref ti), .val (.ref tn), .val (.int (0 : Int32)), .unset, .unset]) rfl ?_
        refine XS.iload X78.here hx rfl (own_d hby at_292) rfl ?_
        refine XS.ifYes X78.here hx rfl (pc0 := 294) (pc' := 302) rfl (own_d hby at_294) rfl ((if0 _ _).trans (teq (by decide : (0 : Int32) = 0)).1) (by decide) (by decide) ?_
        refine XS.aload X78.here hx rfl (own_d hby at_302) rfl rfl ?_
        refine XS.astore X78.here hx rfl (own_d hby at_304) rfl rfl (l' := #[.val (.int p1), .val (.int p2), .val (.int p3), .val (.int p4), .val (.int p5), .val (.int p6), .val (.int b6), .val (.int b7), .val (.int b8), .val (.int ((p2 &&& (1073741823 : Int32)) + (1 : Int32))), .val (.int ((p3 &&& (1073741823 : Int32)) + (1 : Int32))), .val (.int (p4 &&& (65535 : Int32))), .val (.int sg), .val (.ref s1), .val (.ref s2), .val (.int l2), .val (.int k2v), .val (.int oL), .val (.int oK), .val (.int mL), .val (.int mK), .val (.ref to), .val (.ref tn), .val (.ref ti), .val (.ref tn), .val (.int (0 : Int32)), .val (.ref tn), .unset]) rfl ?_
        refine XS.iload X78.here hx rfl (own_d hby at_306) rfl ?_
        refine XS.ifYes X78.here hx rfl (pc0 := 308) (pc' := 316) rfl (own_d hby at_308) rfl ((if0 _ _).trans (teq (by decide : (0 : Int32) = 0)).1) (by decide) (by decide) ?_
        refine XS.aload X78.here hx rfl (own_d hby at_316) rfl rfl ?_
        refine XS.astore X78.here hx rfl (own_d hby at_318) rfl rfl (l' := #[.val (.int p1), .val (.int p2), .val (.int p3), .val (.int p4), .val (.int p5), .val (.int p6), .val (.int b6), .val (.int b7), .val (.int b8), .val (.int ((p2 &&& (1073741823 : Int32)) + (1 : Int32))), .val (.int ((p3 &&& (1073741823 : Int32)) + (1 : Int32))), .val (.int (p4 &&& (65535 : Int32))), .val (.int sg), .val (.ref s1), .val (.ref s2), .val (.int l2), .val (.int k2v), .val (.int oL), .val (.int oK), .val (.int mL), .val (.int mK), .val (.ref to), .val (.ref tn), .val (.ref ti), .val (.ref tn), .val (.int (0 : Int32)), .val (.ref tn), .val (.ref to)]) rfl ?_
        refine XS.aload X78.here hx rfl (own_d hby at_320) rfl rfl ?_
        refine XS.aload X78.here hx rfl (own_d hby at_322) rfl rfl ?_
        refine XS.acmpNo X78.here hx rfl (own_d hby at_324) rfl (by simp [if_acmp.holds]) ?_
        refine XS.aload X78.here hx rfl (own_d hby at_327) rfl rfl ?_
        refine XS.aload X78.here hx rfl (own_d hby at_329) rfl rfl ?_
        refine XS.acmpNo X78.here hx rfl (own_d hby at_331) rfl (by simp [if_acmp.holds, hne, hne']) ?_
        refine XT.iconstV X78.here hx rfl (1 : Int32) (own_d hby at_334) (by decide) ?_
        refine XS.goto X78.here hx rfl (pc0 := 335) (pc' := 339) rfl (own_d hby at_335) (by decide) (by decide) ?_
        exact Steps.refl _)
    obtain ⟨fs, hr, hrun, hended, hW, hsame⟩ := X78.leave (v := some (.int (1 : Int32))) (fun h => by rw [Bd.returns] at h; cases h)
    subst hB0
    refine ⟨_, _, Steps.trans c83 ?_, hrun, hended, _, _, rfl, ?_, ⟨_, rfl⟩, hW, hsame.mono (by decide) (by decide)⟩
    · exact retN X78 hx (t := .boolean) Bd.returns (by simp) (own_d hby at_339) hr
    · show QL n0 _ T78.heap _
      rw [eq78]
      exact ⟨rfl, N78⟩
  · obtain ⟨cq178, kq178, qa178, qb178, qc178⟩ := isOf hZ e74 Exa77
    obtain ⟨_, _, ⟨T178, Lp178, kp178, np178⟩, -, X178, ⟨Lc178, hQ178, lp178, yp178, zp178⟩, st178⟩ := X74.virtualBack hx (y := (⟨"com/example/logicsmith/logicsmith/frontend/Expression$Increment", "token", "()Lcom/example/logicsmith/logicsmith/frontend/Token;"⟩ : MethodName)) (z := (⟨"com/example/logicsmith/logicsmith/frontend/Expression$Increment", "token", "()Lcom/example/logicsmith/logicsmith/frontend/Token;"⟩ : MethodName)) hown (mvT hZ (W hw 70)) (mvT hZ (W hw 71)) (notFace_of_selects (args := #[]) (mvT hZ (W hw 73))) (mvT hZ (W hw 73)) (mvT hZ (W hw 72)) (by decide) (backOf (W := 0) (rmKf l Z a0 hw [] ti to tn b6 h74 n0 (by omega) fo74 fn74 fp74 hb) hZ (W hw 74) (W hw 59) (by decide) (by decide)) qa178 qc178 (g := (mkF m 259 #[.val (.int p1), .val (.int p2), .val (.int p3), .val (.int p4), .val (.int p5), .val (.int p6), .val (.int b6), .val (.int b7), .val (.int b8), .val (.int ((p2 &&& (1073741823 : Int32)) + (1 : Int32))), .val (.int ((p3 &&& (1073741823 : Int32)) + (1 : Int32))), .val (.int (p4 &&& (65535 : Int32))), .val (.int sg), .val (.ref s1), .val (.ref s2), .val (.int l2), .val (.int k2v), .val (.int oL), .val (.int oK), .val (.int mL), .val (.int mK), .val (.ref to), .val (.ref tn), .val (.ref ti), .unset, .unset, .unset, .unset] [(.ref ti)])) rfl (by rw [hml]; rfl) c76 (argsL := []) (rest := []) (lenOf pd___Lcom_example_logicsmith_logicsmith_frontend_Token_ rfl) rfl (by show 2 * 0 + _ ≤ _; exact Nat.le_of_eq rfl) (own_d hby at_259) (fun _ _ => ⟨rfl, e74, (by decide : 9 + 0 ≤ _), (by decide : 27 + 0 ≤ _)⟩)
    dsimp only [Pt.U, Pt.locs, Pt.cells, Pt.slots] at X178 lp178 yp178 zp178 st178 hQ178
    subst lp178 yp178 zp178
    obtain ⟨rfl, Nq178, eq178⟩ := hQ178
    have N178 := Fr.app N74 Nq178
    have c179 : SS p e below B0 T178 m 262 #[.val (.int p1), .val (.int p2), .val (.int p3), .val (.int p4), .val (.int p5), .val (.int p6), .val (.int b6), .val (.int b7), .val (.int b8), .val (.int ((p2 &&& (1073741823 : Int32)) + (1 : Int32))), .val (.int ((p3 &&& (1073741823 : Int32)) + (1 : Int32))), .val (.int (p4 &&& (65535 : Int32))), .val (.int sg), .val (.ref s1), .val (.ref s2), .val (.int l2), .val (.int k2v), .val (.int oL), .val (.int oK), .val (.int mL), .val (.int mK), .val (.ref to), .val (.ref tn), .val (.ref ti), .unset, .unset, .unset, .unset] [(.ref to)] := st178
    have c180 : SS p e below B0 T178 m 268 #[.val (.int p1), .val (.int p2), .val (.int p3), .val (.int p4), .val (.int p5), .val (.int p6), .val (.int b6), .val (.int b7), .val (.int b8), .val (.int ((p2 &&& (1073741823 : Int32)) + (1 : Int32))), .val (.int ((p3 &&& (1073741823 : Int32)) + (1 : Int32))), .val (.int (p4 &&& (65535 : Int32))), .val (.int sg), .val (.ref s1), .val (.ref s2), .val (.int l2), .val (.int k2v), .val (.int oL), .val (.int oK), .val (.int mL), .val (.int mK), .val (.ref to), .val (.ref tn), .val (.ref ti), .val (.ref to), .unset, .unset, .unset] [(.int mL), (.int oL)] := Steps.trans c179 (by
        refine XS.astore X178.here hx rfl (own_d hby at_262) rfl rfl (l' := #[.val (.int p1), .val (.int p2), .val (.int p3), .val (.int p4), .val (.int p5), .val (.int p6), .val (.int b6), .val (.int b7), .val (.int b8), .val (.int ((p2 &&& (1073741823 : Int32)) + (1 : Int32))), .val (.int ((p3 &&& (1073741823 : Int32)) + (1 : Int32))), .val (.int (p4 &&& (65535 : Int32))), .val (.int sg), .val (.ref s1), .val (.ref s2), .val (.int l2), .val (.int k2v), .val (.int oL), .val (.int oK), .val (.int mL), .val (.int mK), .val (.ref to), .val (.ref tn), .val (.ref ti), .val (.ref to), .unset, .unset, .unset]) rfl ?_
        refine XS.iload X178.here hx rfl (own_d hby at_264) rfl ?_
        refine XS.iload X178.here hx rfl (own_d hby at_266) rfl ?_
        exact Steps.refl _)
    obtain ⟨of, hy_of, c181⟩ : ∃ (of : Int32), (of = 1) ∧ SS p e below B0 T178 m 290 #[.val (.int p1), .val (.int p2), .val (.int p3), .val (.int p4), .val (.int p5), .val (.int p6), .val (.int b6), .val (.int b7), .val (.int b8), .val (.int ((p2 &&& (1073741823 : Int32)) + (1 : Int32))), .val (.int ((p3 &&& (1073741823 : Int32)) + (1 : Int32))), .val (.int (p4 &&& (65535 : Int32))), .val (.int sg), .val (.ref s1), .val (.ref s2), .val (.int l2), .val (.int k2v), .val (.int oL), .val (.int oK), .val (.int mL), .val (.int mK), .val (.ref to), .val (.ref tn), .val (.ref ti), .val (.ref to), .unset, .unset, .unset] [(.int of)] := by
      rcases hy_l2 with ⟨el, hb8⟩ | ⟨el, hb8⟩
      · rcases hy_k2v with ⟨ek, -⟩ | ⟨-, hk⟩
        rotate_left
        · exact absurd hb8 hk
        have d1 : ¬ oL < mL := by rw [eL, fL, el]; exact own_irr _
        have d2 : oL = mL := by rw [eL, fL, el]
        have d3 : oK < mK := by rw [eK, fK, ek]; exact own_k1 p3 p4
        refine ⟨1, rfl, Steps.trans c180 (by
            refine XS.icmpNo X178.here hx rfl (own_d hby at_268) rfl (flt d1).1 ?_
            refine XS.iload X178.here hx rfl (own_d hby at_271) rfl ?_
            refine XS.iload X178.here hx rfl (own_d hby at_273) rfl ?_
            refine XS.icmpNo X178.here hx rfl (own_d hby at_275) rfl (teq d2).2 ?_
            refine XS.iload X178.here hx rfl (own_d hby at_278) rfl ?_
            refine XS.iload X178.here hx rfl (own_d hby at_280) rfl ?_
            refine XS.icmpNo X178.here hx rfl (own_d hby at_282) rfl (tlt d3).2.1 ?_
            refine XT.iconstV X178.here hx rfl (1 : Int32) (own_d hby at_285) (by decide) ?_
            refine XS.goto X178.here hx rfl (pc0 := 286) (pc' := 290) rfl (own_d hby at_286) (by decide) (by decide) ?_
            exact Steps.refl _)⟩
      · have d1 : oL < mL := by rw [eL, fL, el]; exact own_l1 p2
        refine ⟨1, rfl, Steps.trans c180 (by
            refine XS.icmpYes X178.here hx rfl (pc0 := 268) (pc' := 285) rfl (own_d hby at_268) rfl (tlt d1).1 (by decide) (by decide) ?_
            refine XT.iconstV X178.here hx rfl (1 : Int32) (own_d hby at_285) (by decide) ?_
            refine XS.goto X178.here hx rfl (pc0 := 286) (pc' := 290) rfl (own_d hby at_286) (by decide) (by decide) ?_
            exact Steps.refl _)⟩
    subst hy_of
    have c182 : SS p e below B0 T178 m 290 #[.val (.int p1), .val (.int p2), .val (.int p3), .val (.int p4), .val (.int p5), .val (.int p6), .val (.int b6), .val (.int b7), .val (.int b8), .val (.int ((p2 &&& (1073741823 : Int32)) + (1 : Int32))), .val (.int ((p3 &&& (1073741823 : Int32)) + (1 : Int32))), .val (.int (p4 &&& (65535 : Int32))), .val (.int sg), .val (.ref s1), .val (.ref s2), .val (.int l2), .val (.int k2v), .val (.int oL), .val (.int oK), .val (.int mL), .val (.int mK), .val (.ref to), .val (.ref tn), .val (.ref ti), .val (.ref to), .unset, .unset, .unset] [(.int (1 : Int32))] := c181
    have c183 : SS p e below B0 T178 m 339 #[.val (.int p1), .val (.int p2), .val (.int p3), .val (.int p4), .val (.int p5), .val (.int p6), .val (.int b6), .val (.int b7), .val (.int b8), .val (.int ((p2 &&& (1073741823 : Int32)) + (1 : Int32))), .val (.int ((p3 &&& (1073741823 : Int32)) + (1 : Int32))), .val (.int (p4 &&& (65535 : Int32))), .val (.int sg), .val (.ref s1), .val (.ref s2), .val (.int l2), .val (.int k2v), .val (.int oL), .val (.int oK), .val (.int mL), .val (.int mK), .val (.ref to), .val (.ref tn), .val (.ref ti), .val (.ref to), .val (.int (1 : Int32)), .val (.ref to), .val (.ref tn)] [(.int (1 : Int32))] := Steps.trans c182 (by
        refine XS.istore X178.here hx rfl (own_d hby at_290) rfl (l' := #[.val (.int p1), .val (.int p2), .val (.int p3), .val (.int p4), .val (.int p5), .val (.int p6), .val (.int b6), .val (.int b7), .val (.int b8), .val (.int ((p2 &&& (1073741823 : Int32)) + (1 : Int32))), .val (.int ((p3 &&& (1073741823 : Int32)) + (1 : Int32))), .val (.int (p4 &&& (65535 : Int32))), .val (.int sg), .val (.ref s1), .val (.ref s2), .val (.int l2), .val (.int k2v), .val (.int oL), .val (.int oK), .val (.int mL), .val (.int mK), .val (.ref to), .val (.ref tn), .val (.ref ti), .val (.ref to), .val (.int (1 : Int32)), .unset, .unset]) rfl ?_
        refine XS.iload X178.here hx rfl (own_d hby at_292) rfl ?_
        refine XS.ifNo X178.here hx rfl (own_d hby at_294) rfl ((if0 _ _).trans (feq (by decide : ¬ (1 : Int32) = 0)).1) ?_
        refine XS.aload X178.here hx rfl (own_d hby at_297) rfl rfl ?_
        refine XS.goto X178.here hx rfl (pc0 := 299) (pc' := 304) rfl (own_d hby at_299) (by decide) (by decide) ?_
        refine XS.astore X178.here hx rfl (own_d hby at_304) rfl rfl (l' := #[.val (.int p1), .val (.int p2), .val (.int p3), .val (.int p4), .val (.int p5), .val (.int p6), .val (.int b6), .val (.int b7), .val (.int b8), .val (.int ((p2 &&& (1073741823 : Int32)) + (1 : Int32))), .val (.int ((p3 &&& (1073741823 : Int32)) + (1 : Int32))), .val (.int (p4 &&& (65535 : Int32))), .val (.int sg), .val (.ref s1), .val (.ref s2), .val (.int l2), .val (.int k2v), .val (.int oL), .val (.int oK), .val (.int mL), .val (.int mK), .val (.ref to), .val (.ref tn), .val (.ref ti), .val (.ref to), .val (.int (1 : Int32)), .val (.ref to), .unset]) rfl ?_
        refine XS.iload X178.here hx rfl (own_d hby at_306) rfl ?_
        refine XS.ifNo X178.here hx rfl (own_d hby at_308) rfl ((if0 _ _).trans (feq (by decide : ¬ (1 : Int32) = 0)).1) ?_
        refine XS.aload X178.here hx rfl (own_d hby at_311) rfl rfl ?_
        refine XS.goto X178.here hx rfl (pc0 := 313) (pc' := 318) rfl (own_d hby at_313) (by decide) (by decide) ?_
        refine XS.astore X178.here hx rfl (own_d hby at_318) rfl rfl (l' := #[.val (.int p1), .val (.int p2), .val (.int p3), .val (.int p4), .val (.int p5), .val (.int p6), .val (.int b6), .val (.int b7), .val (.int b8), .val (.int ((p2 &&& (1073741823 : Int32)) + (1 : Int32))), .val (.int ((p3 &&& (1073741823 : Int32)) + (1 : Int32))), .val (.int (p4 &&& (65535 : Int32))), .val (.int sg), .val (.ref s1), .val (.ref s2), .val (.int l2), .val (.int k2v), .val (.int oL), .val (.int oK), .val (.int mL), .val (.int mK), .val (.ref to), .val (.ref tn), .val (.ref ti), .val (.ref to), .val (.int (1 : Int32)), .val (.ref to), .val (.ref tn)]) rfl ?_
        refine XS.aload X178.here hx rfl (own_d hby at_320) rfl rfl ?_
        refine XS.aload X178.here hx rfl (own_d hby at_322) rfl rfl ?_
        refine XS.acmpNo X178.here hx rfl (own_d hby at_324) rfl (by simp [if_acmp.holds]) ?_
        refine XS.aload X178.here hx rfl (own_d hby at_327) rfl rfl ?_
        refine XS.aload X178.here hx rfl (own_d hby at_329) rfl rfl ?_
        refine XS.acmpNo X178.here hx rfl (own_d hby at_331) rfl (by simp [if_acmp.holds, hne, hne']) ?_
        refine XT.iconstV X178.here hx rfl (1 : Int32) (own_d hby at_334) (by decide) ?_
        refine XS.goto X178.here hx rfl (pc0 := 335) (pc' := 339) rfl (own_d hby at_335) (by decide) (by decide) ?_
        exact Steps.refl _)
    obtain ⟨fs, hr, hrun, hended, hW, hsame⟩ := X178.leave (v := some (.int (1 : Int32))) (fun h => by rw [Bd.returns] at h; cases h)
    subst hB0
    refine ⟨_, _, Steps.trans c183 ?_, hrun, hended, _, _, rfl, ?_, ⟨_, rfl⟩, hW, hsame.mono (by decide) (by decide)⟩
    · exact retN X178 hx (t := .boolean) Bd.returns (by simp) (own_d hby at_339) hr
    · show QL n0 _ T178.heap _
      rw [eq178]
      exact ⟨rfl, N178⟩
set_option maxRecDepth 65536 in
set_option maxHeartbeats 40000000 in
theorem comes_1 {Post : Tables → Env → Array Value → State → Outcome → State → Prop} (hpost : ∀ tb e args s v u, (limb_1_1.after args s (.returned v) u = true ∧ limb_1_2.after args s (.returned v) u = true ∧ True) → FrameEnd s (.returned v) u (Jvm.fieldLocs frame_1_writes args s ++ Jvm.arrayLocs frame_1_arrays args s ++ Jvm.staticLocs frame_1_statics s) 32 128 → Post tb e args s (.returned v) u) :
    ArmFor flags0 classFile x code maxLocals ret World_1 tables_1 room_1 Calls_1 rest_1 Pre_1 Post := by
  intro l hfl _ _ p e ha hc hk s m args below hf hA hF happ hP
  obtain ⟨hcalls, hrest, hpre⟩ := hP
  obtain ⟨-, -, -, hnamed, -, -, -, hat⟩ := (Spec.applies_iff hf).mp happ
  obtain ⟨hg, hn⟩ := and_e (Cond.before_iff.mp (show (Jvm.Cond.and given_1 narrow_1).before args s = true from hpre))
  obtain ⟨hcount, hr_0⟩ := and_e hg
  obtain ⟨ha_0, hr_1⟩ := and_e hr_0
  obtain ⟨ha_1, hr_2⟩ := and_e hr_1
  obtain ⟨ha_2, hr_3⟩ := and_e hr_2
  obtain ⟨ha_3, hr_4⟩ := and_e hr_3
  obtain ⟨ha_4, hr_5⟩ := and_e hr_4
  have ha_5 := hr_5
  obtain ⟨w0, w1, w2, w3, w4, w5, rfl⟩ : ∃ w0 w1 w2 w3 w4 w5 : Value, args = #[w0, w1, w2, w3, w4, w5] := by
    have hs : args.size = 6 := by simpa [Cond.value, given_1] using hcount
    obtain ⟨L⟩ := args
    match L, hs with
    | [w0, w1, w2, w3, w4, w5], _ => exact ⟨w0, w1, w2, w3, w4, w5, rfl⟩
  have hw := fun d (hd : d ∈ tables_1) => atoms_spec (ws := Jvm.Cond.code x code maxLocals ret :: tables_1) hat d (List.mem_cons_of_mem _ hd)
  obtain ⟨hsets, hown0⟩ := atoms_of _ (rest_1_c_eq ▸ (show rest_1_c.before _ s = true from hrest))
  have hfit : Fit s := fun {y c} hc i hi => by
    obtain ⟨ha, rfl⟩ := Array.getElem?_eq_some_iff.mp hc
    have q := List.all_eq_true.mp ((Array.all_eq_true_iff_forall_mem.mp hF) _ (Array.getElem_mem ha)) i (List.mem_range.mpr hi)
    simpa [Array.getElem?_eq_getElem hi] using q
  obtain ⟨i_0, ea_0⟩ := is_v ha_0
  obtain rfl : w0 = (.int i_0) := Option.some.inj ea_0
  obtain ⟨i_1, ea_1⟩ := is_v ha_1
  obtain rfl : w1 = (.int i_1) := Option.some.inj ea_1
  obtain ⟨i_2, ea_2⟩ := is_v ha_2
  obtain rfl : w2 = (.int i_2) := Option.some.inj ea_2
  obtain ⟨i_3, ea_3⟩ := is_v ha_3
  obtain rfl : w3 = (.int i_3) := Option.some.inj ea_3
  obtain ⟨i_4, ea_4⟩ := is_v ha_4
  obtain rfl : w4 = (.int i_4) := Option.some.inj ea_4
  obtain ⟨i_5, ea_5⟩ := is_v ha_5
  obtain rfl : w5 = (.int i_5) := Option.some.inj ea_5
  have n5 := not_v (Cond.before_iff.mp (hsets _ (List.mem_of_getElem? (i := 2) rfl)))
  obtain ⟨g1, e10⟩ := is_v (Cond.before_iff.mp (hsets _ (List.mem_of_getElem? (i := 1) rfl)))
  have S12 : Sta s s.heap "java/lang/String" "COMPACT_STRINGS" "Z" (.int g1) := Sta.start e10 (Or.inl (hsets _ (List.mem_of_getElem? (i := 0) rfl)))
  have c17 : ¬ (g1 = (0 : Int32)) := gotF (Cond.eq_ints e10 (Term.int_eval (0))) n5
  obtain ⟨hn1, hn2⟩ := and_e hn
  obtain ⟨k1, _, _, _, ek1, -⟩ := Cond.exactly_spec (Cond.before_iff.mpr hn1)
  obtain ⟨k2, _, _, _, ek2, -⟩ := Cond.exactly_spec (Cond.before_iff.mpr hn2)
  have S13 := Sta.start ek1 (Or.inr ⟨(W hw 36), (W hw 37)⟩)
  have S14 := Sta.start ek2 (Or.inr ⟨(W hw 36), (W hw 56)⟩)
  obtain ⟨n, o, h1, h2, h3, _, L, rfl, ⟨rfl, N⟩, hq⟩ := rmL l s _ hw tables_1 i_0 i_1 i_2 i_3 i_4 i_5 g1 k1 k2 s.heap s.heap.size (Nat.le_refl _) S12 c17 S13 S14 (Old.start s) p e ha hc hk s m _ below hf ((Spec.applies_iff_loose hf).mp happ).1 ⟨rfl, State.Warmed39.refl s, rfl⟩ trivial
  refine ⟨n, _, h1, h2, h3, hpost _ _ _ _ _ _ ⟨Cond.after_iff.mpr rfl, Cond.after_iff.mpr (eq_i res_at (Term.int_eval (1)) rfl), trivial⟩ ⟨hq.1, hq.2.1, (hq.2.2.sift fun y hy => Or.inr (N y hy)).mono (by decide) (by decide)⟩⟩
theorem main_1_1 : Claimed_1_1 := comes_1 fun _ _ _ _ _ _ h hF => ⟨h.1, hF⟩
theorem main_1_2 : Claimed_1_2 := comes_1 fun _ _ _ _ _ _ h hF => ⟨h.2.1, hF⟩
end Jvm.Pilot.@@N@@
namespace Jvm.Pilot.@@N@@
open Jvm Jvm.ClassFile Sem Op Lib Jvm.Free Jvm.Stand Jvm.Pilot.@@N@@.Jvm.D
/-! MADE BY PROGRAM (witnessworld.py) out of the Statement's table words and the real class files: 25 classes; the members and pool entries that the words name. The judged class is class 1, her method 1. -/
namespace start1
open Jvm.ClassFile
def u (s : String) : CpInfo := .utf8 (stringToUtf16 s)
/-- a pool by its gaps: so many unusable entries, then the entry; so many at the end -/
def gap : Nat → List CpInfo → List CpInfo
  | 0, r => r
  | n + 1, r => .unusable :: gap n r
def poolList (es : List (Nat × CpInfo)) (last : Nat) : List CpInfo := es.foldr (fun e r => gap e.1 (e.2 :: r)) (gap last [])
def pool (es : List (Nat × CpInfo)) (last : Nat) : Array CpInfo := ⟨poolList es last⟩
def fileOf (pool : Array CpInfo) (this : Nat) (attrs : Array Attribute := #[]) (ms : Array MethodInfo := #[]) (fl : Nat := 33) (sup : Nat := 0) (ifs : Array Nat := #[]) (fds : Array FieldInfo := #[]) : ClassFile where
  minorVersion := 0
  majorVersion := 65
  constantPool := pool
  accessFlags := fl
  thisClass := this
  superClass := sup
  interfaces := ifs
  fields := fds
  methods := ms
  attributes := attrs
def plain (name : String) (sup : Option ClassId) : Class where
  name := name
  kind := .ordinary
  loader := none
  accessFlags := 33
  super := sup
  interfaces := #[]
  cf := none
  fields := #[]
  methods := #[]
  instanceTypes := #[]
  staticTypes := #[]
  resolved := #[]
  callSites := []
  init := .initialized
  statics := none
  mirror := none

def pool0 : Array CpInfo := pool [(5, u "<init>"), (0, u "()V"), (1, .class_ 10), (1, u "java/lang/Object")] 113

def k0c0 : Code := { maxStack := 0, maxLocals := 1, code := object_method_1_code, exceptionTable := #[], attributes := #[] }
def k0m0 : Method := { name := "<init>", desc := "()V", sig := { parameters := [], returnType := none }, accessFlags := 1, code := some k0c0 }
/-- java/lang/Object -/
def k0 : Class := { plain "java/lang/Object" none with
  accessFlags := 33
  interfaces := #[]
  cf := some (fileOf pool0 8 #[] #[{ accessFlags := 1, nameIndex := 5, descriptorIndex := 6, attributes := #[] }] 33 0 #[] #[])
  fields := #[]
  methods := #[k0m0]
  instanceTypes := #[]
  staticTypes := #[]
  resolved := Array.replicate 124 none
  statics := none }

def pool1 : Array CpInfo := pool [(2, .class_ 4), (1, u "java/lang/Object"), (0, u "<init>"), (0, u "()V"), (0, .integer 1073741823), (0, .integer 65535), (0, .class_ 10), (0, u "java/lang/String"), (0, .methodref 9 12), (0, .nameAndType 5 13), (0, u "([C)V"), (0, .class_ 15), (0, u "com/example/logicsmith/logicsmith/frontend/Token"), (0, .fieldref 17 18), (0, .class_ 19), (0, .nameAndType 20 21), (0, u "com/example/logicsmith/logicsmith/frontend/Token$Kind"), (0, u "SYMBOL"), (0, u "Lcom/example/logicsmith/logicsmith/frontend/Token$Kind;"), (0, .methodref 14 23), (0, .nameAndType 5 24), (0, u "(Lcom/example/logicsmith/logicsmith/frontend/Token$Kind;Ljava/lang/String;II)V"), (0, .fieldref 17 26), (0, .nameAndType 27 21), (0, u "IDENTIFIER"), (0, .class_ 29), (0, u "com/example/logicsmith/logicsmith/frontend/Expression$Increment"), (0, .methodref 28 31), (0, .nameAndType 5 32), (0, u "(Lcom/example/logicsmith/logicsmith/frontend/Token;Lcom/example/logicsmith/logicsmith/frontend/Token;Z)V"), (0, .methodref 28 34), (0, .nameAndType 35 36), (0, u "token"), (0, u "()Lcom/example/logicsmith/logicsmith/frontend/Token;"), (0, .class_ 38), (0, u "com/example/logicsmith/logicsmith/frontend/IncrementTokenPinLaw"), (2, u "law"), (0, u "(IIIIII)Z")] 8

def k1m0 : Method := { name := "<init>", desc := "()V", sig := { parameters := [], returnType := none }, accessFlags := 1, code := none }
def k1c1 : Code := { maxStack := 7, maxLocals := 28, code := code, exceptionTable := #[], attributes := #[] }
def k1m1 : Method := { name := "law", desc := "(IIIIII)Z", sig := { parameters := [.int, .int, .int, .int, .int, .int], returnType := some .boolean }, accessFlags := 9, code := some k1c1 }
/-- com/example/logicsmith/logicsmith/frontend/IncrementTokenPinLaw -/
def k1 : Class := { plain "com/example/logicsmith/logicsmith/frontend/IncrementTokenPinLaw" (some 0) with
  accessFlags := 49
  interfaces := #[]
  cf := some (fileOf pool1 37 #[] #[{ accessFlags := 1, nameIndex := 5, descriptorIndex := 6, attributes := #[] }, { accessFlags := 9, nameIndex := 41, descriptorIndex := 42, attributes := #[] }] 49 2 #[] #[])
  fields := #[]
  methods := #[k1m0, k1m1]
  instanceTypes := #[]
  staticTypes := #[]
  resolved := Array.replicate 51 none
  statics := none }

def pool2 : Array CpInfo := pool [(1, .class_ 2), (0, u "java/io/Serializable"), (0, .class_ 4), (0, u "java/lang/Object")] 2

/-- java/io/Serializable -/
def k2 : Class := { plain "java/io/Serializable" (some 0) with
  accessFlags := 1537
  interfaces := #[]
  cf := some (fileOf pool2 1 #[] #[] 1537 3 #[] #[])
  fields := #[]
  methods := #[]
  instanceTypes := #[]
  staticTypes := #[]
  resolved := Array.replicate 7 none
  statics := none }

def pool3 : Array CpInfo := pool [(1, .class_ 2), (0, u "java/lang/Comparable"), (0, .class_ 4), (0, u "java/lang/Object")] 7

/-- java/lang/Comparable -/
def k3 : Class := { plain "java/lang/Comparable" (some 0) with
  accessFlags := 1537
  interfaces := #[]
  cf := some (fileOf pool3 1 #[] #[] 1537 3 #[] #[])
  fields := #[]
  methods := #[]
  instanceTypes := #[]
  staticTypes := #[]
  resolved := Array.replicate 12 none
  statics := none }

def pool4 : Array CpInfo := pool [(2, .class_ 4), (1, u "java/lang/CharSequence"), (42, .class_ 48), (0, u "java/lang/CharSequence$1CodePointIterator"), (10, .class_ 60), (0, u "java/lang/CharSequence$1CharIterator"), (5, .class_ 67), (0, u "java/lang/Object")] 63

/-- java/lang/CharSequence -/
def k4 : Class := { plain "java/lang/CharSequence" (some 0) with
  accessFlags := 1537
  interfaces := #[]
  cf := some (fileOf pool4 2 #[.nestMembers #[47, 59]] #[] 1537 66 #[] #[])
  fields := #[]
  methods := #[]
  instanceTypes := #[]
  staticTypes := #[]
  resolved := Array.replicate 131 none
  statics := none }

def pool5 : Array CpInfo := pool [(1, .class_ 2), (0, u "java/lang/constant/Constable"), (0, .class_ 4), (0, u "java/lang/Object")] 6

/-- java/lang/constant/Constable -/
def k5 : Class := { plain "java/lang/constant/Constable" (some 0) with
  accessFlags := 1537
  interfaces := #[]
  cf := some (fileOf pool5 1 #[] #[] 1537 3 #[] #[])
  fields := #[]
  methods := #[]
  instanceTypes := #[]
  staticTypes := #[]
  resolved := Array.replicate 11 none
  statics := none }

def pool6 : Array CpInfo := pool [(1, .class_ 2), (0, u "java/lang/constant/ConstantDesc"), (0, .class_ 4), (0, u "java/lang/Object")] 32

/-- java/lang/constant/ConstantDesc -/
def k6 : Class := { plain "java/lang/constant/ConstantDesc" (some 0) with
  accessFlags := 1537
  interfaces := #[]
  cf := some (fileOf pool6 1 #[] #[] 1537 3 #[] #[])
  fields := #[]
  methods := #[]
  instanceTypes := #[]
  staticTypes := #[]
  resolved := Array.replicate 37 none
  statics := none }

def pool7 : Array CpInfo := pool [(1, .methodref 2 3), (0, .class_ 4), (0, .nameAndType 5 6), (0, u "java/lang/Object"), (0, u "<init>"), (0, u "()V"), (2, .fieldref 10 11), (0, .class_ 12), (0, .nameAndType 13 14), (0, u "java/lang/String"), (0, u "value"), (0, u "[B"), (0, .fieldref 10 16), (0, .nameAndType 17 18), (0, u "coder"), (0, u "B"), (2, u "hash"), (0, u "I"), (2, u "hashIsZero"), (0, u "Z"), (0, .methodref 10 28), (0, .nameAndType 5 29), (0, u "([CIILjava/lang/Void;)V"), (8, .fieldref 10 39), (0, .nameAndType 40 26), (0, u "COMPACT_STRINGS"), (1, .class_ 44), (1, u "java/lang/StringUTF16"), (0, u "compress"), (1, .methodref 42 48), (0, .nameAndType 49 50), (0, u "coderFromArrayLen"), (0, u "([BI)B"), (126, .methodref 42 178), (0, .nameAndType 45 179), (0, u "([CII)[B"), (395, .class_ 576), (0, u "java/lang/CharSequence"), (22, u "CASE_INSENSITIVE_ORDER"), (0, u "Ljava/util/Comparator;"), (409, u "([C)V"), (90, u "serialPersistentFields"), (0, u "[Ljava/io/ObjectStreamField;"), (0, .class_ 1104), (0, u "java/lang/String$CaseInsensitiveComparator"), (1, .class_ 1107), (0, u "java/io/Serializable"), (0, .class_ 1109), (0, u "java/lang/Comparable"), (0, .class_ 1111), (0, u "java/lang/constant/Constable"), (0, .class_ 1113), (0, u "java/lang/constant/ConstantDesc"), (2, u "serialVersionUID"), (0, u "J"), (3, u "REPL"), (0, u "C"), (2, u "LATIN1"), (1, u "UTF16")] 323

def k7m0 : Method := { name := "<init>", desc := "()V", sig := { parameters := [], returnType := none }, accessFlags := 1, code := none }
def k7c1 : Code := { maxStack := 5, maxLocals := 2, code := jdk_42_method_3_code, exceptionTable := #[], attributes := #[] }
def k7m1 : Method := { name := "<init>", desc := "([C)V", sig := { parameters := [(.array .char)], returnType := none }, accessFlags := 1, code := some k7c1 }
def k7c2 : Code := { maxStack := 4, maxLocals := 6, code := jdk_42_method_149_code, exceptionTable := #[], attributes := #[] }
def k7m2 : Method := { name := "<init>", desc := "([CIILjava/lang/Void;)V", sig := { parameters := [(.array .char), .int, .int, (.object "java/lang/Void")], returnType := none }, accessFlags := 2, code := some k7c2 }
/-- java/lang/String -/
def k7 : Class := { plain "java/lang/String" (some 0) with
  accessFlags := 49
  interfaces := #[2, 3, 4, 5, 6]
  cf := some (fileOf pool7 10 #[.nestMembers #[1103]] #[{ accessFlags := 1, nameIndex := 5, descriptorIndex := 6, attributes := #[] }, { accessFlags := 1, nameIndex := 5, descriptorIndex := 1010, attributes := #[] }, { accessFlags := 2, nameIndex := 5, descriptorIndex := 29, attributes := #[] }] 49 2 #[1106, 1108, 575, 1110, 1112] #[{ accessFlags := 18, nameIndex := 13, descriptorIndex := 14, attributes := #[] }, { accessFlags := 18, nameIndex := 17, descriptorIndex := 18, attributes := #[] }, { accessFlags := 2, nameIndex := 21, descriptorIndex := 22, attributes := #[] }, { accessFlags := 2, nameIndex := 25, descriptorIndex := 26, attributes := #[] }, { accessFlags := 26, nameIndex := 1116, descriptorIndex := 1117, attributes := #[] }, { accessFlags := 24, nameIndex := 40, descriptorIndex := 26, attributes := #[] }, { accessFlags := 26, nameIndex := 1101, descriptorIndex := 1102, attributes := #[] }, { accessFlags := 26, nameIndex := 1121, descriptorIndex := 1122, attributes := #[] }, { accessFlags := 25, nameIndex := 599, descriptorIndex := 600, attributes := #[] }, { accessFlags := 24, nameIndex := 1125, descriptorIndex := 18, attributes := #[] }, { accessFlags := 24, nameIndex := 1127, descriptorIndex := 18, attributes := #[] }])
  fields := #[{ name := "value", type := (.array .byte), accessFlags := 18, slot := 0, constantValue := 0 }, { name := "coder", type := .byte, accessFlags := 18, slot := 1, constantValue := 0 }, { name := "hash", type := .int, accessFlags := 2, slot := 2, constantValue := 0 }, { name := "hashIsZero", type := .boolean, accessFlags := 2, slot := 3, constantValue := 0 }, { name := "serialVersionUID", type := .long, accessFlags := 26, slot := 0, constantValue := 0 }, { name := "COMPACT_STRINGS", type := .boolean, accessFlags := 24, slot := 1, constantValue := 0 }, { name := "serialPersistentFields", type := (.array (.object "java/io/ObjectStreamField")), accessFlags := 26, slot := 2, constantValue := 0 }, { name := "REPL", type := .char, accessFlags := 26, slot := 3, constantValue := 0 }, { name := "CASE_INSENSITIVE_ORDER", type := (.object "java/util/Comparator"), accessFlags := 25, slot := 4, constantValue := 0 }, { name := "LATIN1", type := .byte, accessFlags := 24, slot := 5, constantValue := 0 }, { name := "UTF16", type := .byte, accessFlags := 24, slot := 6, constantValue := 0 }]
  methods := #[k7m0, k7m1, k7m2]
  instanceTypes := #[(.array .byte), .byte, .int, .boolean]
  staticTypes := #[.long, .boolean, (.array (.object "java/io/ObjectStreamField")), .char, (.object "java/util/Comparator"), .byte, .byte]
  resolved := Array.replicate 1451 none
  statics := some 0 }

def pool8 : Array CpInfo := pool [(6, .class_ 8), (1, u "java/lang/Object"), (0, u "<init>"), (0, u "()V"), (1, .class_ 14), (1, u "java/lang/StringUTF16"), (31, u "$assertionsDisabled"), (0, u "Z"), (13, u "HI_BYTE_SHIFT"), (0, u "I"), (2, u "LO_BYTE_SHIFT"), (49, .methodref 12 116), (0, .nameAndType 117 118), (0, u "compress"), (0, u "([CI[BII)I"), (3, u "([CII)[B"), (138, u "coderFromArrayLen"), (0, u "([BI)B"), (106, .class_ 371), (1, u "java/lang/StringUTF16$LinesSpliterator"), (58, u "MAX_LENGTH"), (196, .class_ 628), (0, u "java/lang/StringUTF16$CodePointsSpliterator"), (0, .class_ 630), (0, u "java/lang/StringUTF16$CharsSpliterator")] 4

def k8m0 : Method := { name := "<init>", desc := "()V", sig := { parameters := [], returnType := none }, accessFlags := 0, code := none }
def k8c1 : Code := { maxStack := 2, maxLocals := 2, code := jdk_52_method_15_code, exceptionTable := #[], attributes := #[] }
def k8m1 : Method := { name := "coderFromArrayLen", desc := "([BI)B", sig := { parameters := [(.array .byte), .int], returnType := some .byte }, accessFlags := 8, code := some k8c1 }
def k8c2 : Code := { maxStack := 5, maxLocals := 6, code := jdk_52_method_16_code, exceptionTable := #[], attributes := #[] }
def k8m2 : Method := { name := "compress", desc := "([CII)[B", sig := { parameters := [(.array .char), .int, .int], returnType := some (.array .byte) }, accessFlags := 9, code := some k8c2 }
def k8c3 : Code := { maxStack := 3, maxLocals := 7, code := jdk_52_method_21_code, exceptionTable := #[], attributes := #[] }
def k8m3 : Method := { name := "compress", desc := "([CI[BII)I", sig := { parameters := [(.array .char), .int, (.array .byte), .int, .int], returnType := some .int }, accessFlags := 9, code := some k8c3 }
/-- java/lang/StringUTF16 -/
def k8 : Class := { plain "java/lang/StringUTF16" (some 0) with
  accessFlags := 48
  interfaces := #[]
  cf := some (fileOf pool8 12 #[.nestMembers #[627, 629, 369]] #[{ accessFlags := 0, nameIndex := 9, descriptorIndex := 10, attributes := #[] }, { accessFlags := 8, nameIndex := 261, descriptorIndex := 262, attributes := #[] }, { accessFlags := 9, nameIndex := 117, descriptorIndex := 122, attributes := #[] }, { accessFlags := 9, nameIndex := 117, descriptorIndex := 118, attributes := #[] }] 48 6 #[] #[{ accessFlags := 26, nameIndex := 61, descriptorIndex := 62, attributes := #[] }, { accessFlags := 26, nameIndex := 65, descriptorIndex := 62, attributes := #[] }, { accessFlags := 24, nameIndex := 430, descriptorIndex := 62, attributes := #[] }, { accessFlags := 4120, nameIndex := 46, descriptorIndex := 47, attributes := #[] }])
  fields := #[{ name := "HI_BYTE_SHIFT", type := .int, accessFlags := 26, slot := 0, constantValue := 0 }, { name := "LO_BYTE_SHIFT", type := .int, accessFlags := 26, slot := 1, constantValue := 0 }, { name := "MAX_LENGTH", type := .int, accessFlags := 24, slot := 2, constantValue := 0 }, { name := "$assertionsDisabled", type := .boolean, accessFlags := 4120, slot := 3, constantValue := 0 }]
  methods := #[k8m0, k8m1, k8m2, k8m3]
  instanceTypes := #[]
  staticTypes := #[.int, .int, .int, .boolean]
  resolved := Array.replicate 635 none
  statics := none }

def pool9 : Array CpInfo := pool [(1, .methodref 2 3), (0, .class_ 4), (0, .nameAndType 5 6), (0, u "java/lang/Object"), (0, u "<init>"), (0, u "()V"), (0, .class_ 8), (0, u "java/lang/Record")] 13

def k9c0 : Code := { maxStack := 1, maxLocals := 1, code := jdk_30_method_1_code, exceptionTable := #[], attributes := #[] }
def k9m0 : Method := { name := "<init>", desc := "()V", sig := { parameters := [], returnType := none }, accessFlags := 4, code := some k9c0 }
/-- java/lang/Record -/
def k9 : Class := { plain "java/lang/Record" (some 0) with
  accessFlags := 1057
  interfaces := #[]
  cf := some (fileOf pool9 7 #[] #[{ accessFlags := 4, nameIndex := 5, descriptorIndex := 6, attributes := #[] }] 1057 2 #[] #[])
  fields := #[]
  methods := #[k9m0]
  instanceTypes := #[]
  staticTypes := #[]
  resolved := Array.replicate 22 none
  statics := none }

def pool10 : Array CpInfo := pool [(1, .methodref 2 3), (0, .class_ 4), (0, .nameAndType 5 6), (0, u "java/lang/Record"), (0, u "<init>"), (0, u "()V"), (0, .fieldref 8 9), (0, .class_ 10), (0, .nameAndType 11 12), (0, u "com/example/logicsmith/logicsmith/frontend/Token"), (0, u "kind"), (0, u "Lcom/example/logicsmith/logicsmith/frontend/Token$Kind;"), (0, .fieldref 8 14), (0, .nameAndType 15 16), (0, u "text"), (0, u "Ljava/lang/String;"), (0, .fieldref 8 18), (0, .nameAndType 19 20), (0, u "line"), (0, u "I"), (0, .fieldref 8 22), (0, .nameAndType 23 20), (0, u "column"), (7, .class_ 33), (1, u "com/example/logicsmith/logicsmith/frontend/Token$Kind"), (18, u "(Lcom/example/logicsmith/logicsmith/frontend/Token$Kind;Ljava/lang/String;II)V")] 43

def k10c0 : Code := { maxStack := 2, maxLocals := 5, code := prog_113_method_1_code, exceptionTable := #[], attributes := #[] }
def k10m0 : Method := { name := "<init>", desc := "(Lcom/example/logicsmith/logicsmith/frontend/Token$Kind;Ljava/lang/String;II)V", sig := { parameters := [(.object "com/example/logicsmith/logicsmith/frontend/Token$Kind"), (.object "java/lang/String"), .int, .int], returnType := none }, accessFlags := 0, code := some k10c0 }
/-- com/example/logicsmith/logicsmith/frontend/Token -/
def k10 : Class := { plain "com/example/logicsmith/logicsmith/frontend/Token" (some 9) with
  accessFlags := 48
  interfaces := #[]
  cf := some (fileOf pool10 8 #[.nestMembers #[31]] #[{ accessFlags := 0, nameIndex := 5, descriptorIndex := 52, attributes := #[] }] 48 2 #[] #[{ accessFlags := 18, nameIndex := 11, descriptorIndex := 12, attributes := #[] }, { accessFlags := 18, nameIndex := 15, descriptorIndex := 16, attributes := #[] }, { accessFlags := 18, nameIndex := 19, descriptorIndex := 20, attributes := #[] }, { accessFlags := 18, nameIndex := 23, descriptorIndex := 20, attributes := #[] }])
  fields := #[{ name := "kind", type := (.object "com/example/logicsmith/logicsmith/frontend/Token$Kind"), accessFlags := 18, slot := 0, constantValue := 0 }, { name := "text", type := (.object "java/lang/String"), accessFlags := 18, slot := 1, constantValue := 0 }, { name := "line", type := .int, accessFlags := 18, slot := 2, constantValue := 0 }, { name := "column", type := .int, accessFlags := 18, slot := 3, constantValue := 0 }]
  methods := #[k10m0]
  instanceTypes := #[(.object "com/example/logicsmith/logicsmith/frontend/Token$Kind"), (.object "java/lang/String"), .int, .int]
  staticTypes := #[]
  resolved := Array.replicate 96 none
  statics := none }

def pool11 : Array CpInfo := pool [(2, .class_ 4), (1, u "java/lang/Enum"), (0, u "name"), (0, u "Ljava/lang/String;"), (2, u "ordinal"), (0, u "I"), (1, .class_ 14), (1, u "java/lang/Object"), (4, u "hash"), (86, .class_ 108), (1, u "java/lang/Enum$EnumDesc"), (2, .class_ 112), (0, u "java/lang/constant/Constable"), (0, .class_ 114), (0, u "java/lang/Comparable"), (0, .class_ 116), (0, u "java/io/Serializable")] 87

/-- java/lang/Enum -/
def k11 : Class := { plain "java/lang/Enum" (some 0) with
  accessFlags := 1057
  interfaces := #[5, 3, 2]
  cf := some (fileOf pool11 2 #[.nestMembers #[106]] #[] 1057 12 #[111, 113, 115] #[{ accessFlags := 18, nameIndex := 5, descriptorIndex := 6, attributes := #[] }, { accessFlags := 18, nameIndex := 9, descriptorIndex := 10, attributes := #[] }, { accessFlags := 2, nameIndex := 19, descriptorIndex := 10, attributes := #[] }])
  fields := #[{ name := "name", type := (.object "java/lang/String"), accessFlags := 18, slot := 0, constantValue := 0 }, { name := "ordinal", type := .int, accessFlags := 18, slot := 1, constantValue := 0 }, { name := "hash", type := .int, accessFlags := 2, slot := 2, constantValue := 0 }]
  methods := #[]
  instanceTypes := #[(.object "java/lang/String"), .int, .int]
  staticTypes := #[]
  resolved := Array.replicate 204 none
  statics := none }

def pool12 : Array CpInfo := pool [(1, .class_ 2), (0, u "com/example/logicsmith/logicsmith/frontend/Token$Kind"), (2, u "IDENTIFIER"), (0, u "Lcom/example/logicsmith/logicsmith/frontend/Token$Kind;"), (2, u "KEYWORD"), (2, u "DIRECTIVE"), (2, u "BUILT_IN"), (2, u "NUMBER"), (2, u "STRING"), (2, u "WORD"), (2, u "SYMBOL"), (2, u "END"), (2, u "$VALUES"), (0, u "[Lcom/example/logicsmith/logicsmith/frontend/Token$Kind;"), (6, .class_ 43), (1, u "java/lang/Enum"), (32, .class_ 77), (0, u "com/example/logicsmith/logicsmith/frontend/Token")] 2

/-- com/example/logicsmith/logicsmith/frontend/Token$Kind -/
def k12 : Class := { plain "com/example/logicsmith/logicsmith/frontend/Token$Kind" (some 11) with
  accessFlags := 16432
  interfaces := #[]
  cf := some (fileOf pool12 1 #[.nestHost 76] #[] 16432 41 #[] #[{ accessFlags := 16409, nameIndex := 5, descriptorIndex := 6, attributes := #[] }, { accessFlags := 16409, nameIndex := 9, descriptorIndex := 6, attributes := #[] }, { accessFlags := 16409, nameIndex := 12, descriptorIndex := 6, attributes := #[] }, { accessFlags := 16409, nameIndex := 15, descriptorIndex := 6, attributes := #[] }, { accessFlags := 16409, nameIndex := 18, descriptorIndex := 6, attributes := #[] }, { accessFlags := 16409, nameIndex := 21, descriptorIndex := 6, attributes := #[] }, { accessFlags := 16409, nameIndex := 24, descriptorIndex := 6, attributes := #[] }, { accessFlags := 16409, nameIndex := 27, descriptorIndex := 6, attributes := #[] }, { accessFlags := 16409, nameIndex := 30, descriptorIndex := 6, attributes := #[] }, { accessFlags := 4122, nameIndex := 33, descriptorIndex := 34, attributes := #[] }])
  fields := #[{ name := "IDENTIFIER", type := (.object "com/example/logicsmith/logicsmith/frontend/Token$Kind"), accessFlags := 16409, slot := 0, constantValue := 0 }, { name := "KEYWORD", type := (.object "com/example/logicsmith/logicsmith/frontend/Token$Kind"), accessFlags := 16409, slot := 1, constantValue := 0 }, { name := "DIRECTIVE", type := (.object "com/example/logicsmith/logicsmith/frontend/Token$Kind"), accessFlags := 16409, slot := 2, constantValue := 0 }, { name := "BUILT_IN", type := (.object "com/example/logicsmith/logicsmith/frontend/Token$Kind"), accessFlags := 16409, slot := 3, constantValue := 0 }, { name := "NUMBER", type := (.object "com/example/logicsmith/logicsmith/frontend/Token$Kind"), accessFlags := 16409, slot := 4, constantValue := 0 }, { name := "STRING", type := (.object "com/example/logicsmith/logicsmith/frontend/Token$Kind"), accessFlags := 16409, slot := 5, constantValue := 0 }, { name := "WORD", type := (.object "com/example/logicsmith/logicsmith/frontend/Token$Kind"), accessFlags := 16409, slot := 6, constantValue := 0 }, { name := "SYMBOL", type := (.object "com/example/logicsmith/logicsmith/frontend/Token$Kind"), accessFlags := 16409, slot := 7, constantValue := 0 }, { name := "END", type := (.object "com/example/logicsmith/logicsmith/frontend/Token$Kind"), accessFlags := 16409, slot := 8, constantValue := 0 }, { name := "$VALUES", type := (.array (.object "com/example/logicsmith/logicsmith/frontend/Token$Kind")), accessFlags := 4122, slot := 9, constantValue := 0 }]
  methods := #[]
  instanceTypes := #[(.object "java/lang/String"), .int, .int]
  staticTypes := #[(.object "com/example/logicsmith/logicsmith/frontend/Token$Kind"), (.object "com/example/logicsmith/logicsmith/frontend/Token$Kind"), (.object "com/example/logicsmith/logicsmith/frontend/Token$Kind"), (.object "com/example/logicsmith/logicsmith/frontend/Token$Kind"), (.object "com/example/logicsmith/logicsmith/frontend/Token$Kind"), (.object "com/example/logicsmith/logicsmith/frontend/Token$Kind"), (.object "com/example/logicsmith/logicsmith/frontend/Token$Kind"), (.object "com/example/logicsmith/logicsmith/frontend/Token$Kind"), (.object "com/example/logicsmith/logicsmith/frontend/Token$Kind"), (.array (.object "com/example/logicsmith/logicsmith/frontend/Token$Kind"))]
  resolved := Array.replicate 80 none
  statics := some 1 }

def pool13 : Array CpInfo := pool [(1, .class_ 2), (0, u "com/example/logicsmith/logicsmith/frontend/Expression"), (0, .class_ 4), (0, u "java/lang/Object"), (5, .class_ 11), (0, u "com/example/logicsmith/logicsmith/frontend/Expression$Binary"), (0, .class_ 13), (0, u "com/example/logicsmith/logicsmith/frontend/Expression$Membership"), (0, .class_ 15), (0, u "com/example/logicsmith/logicsmith/frontend/Expression$Case"), (0, .class_ 17), (0, u "com/example/logicsmith/logicsmith/frontend/Expression$Case$When"), (0, .class_ 19), (0, u "com/example/logicsmith/logicsmith/frontend/Expression$If"), (0, .class_ 21), (0, u "com/example/logicsmith/logicsmith/frontend/Expression$If$Branch"), (0, .class_ 23), (0, u "com/example/logicsmith/logicsmith/frontend/Expression$Assignment"), (0, .class_ 25), (0, u "com/example/logicsmith/logicsmith/frontend/Expression$Increment"), (0, .class_ 27), (0, u "com/example/logicsmith/logicsmith/frontend/Expression$Unary"), (0, .class_ 29), (0, u "com/example/logicsmith/logicsmith/frontend/Expression$SubArray"), (0, .class_ 31), (0, u "com/example/logicsmith/logicsmith/frontend/Expression$Index"), (0, .class_ 33), (0, u "com/example/logicsmith/logicsmith/frontend/Expression$Call"), (0, .class_ 35), (0, u "com/example/logicsmith/logicsmith/frontend/Expression$BuiltIn"), (0, .class_ 37), (0, u "com/example/logicsmith/logicsmith/frontend/Expression$Name"), (0, .class_ 39), (0, u "com/example/logicsmith/logicsmith/frontend/Expression$StringLiteral"), (0, .class_ 41), (0, u "com/example/logicsmith/logicsmith/frontend/Expression$NullLiteral"), (0, .class_ 43), (0, u "com/example/logicsmith/logicsmith/frontend/Expression$NumberLiteral")] 19

/-- com/example/logicsmith/logicsmith/frontend/Expression -/
def k13 : Class := { plain "com/example/logicsmith/logicsmith/frontend/Expression" (some 0) with
  accessFlags := 1536
  interfaces := #[]
  cf := some (fileOf pool13 1 #[.nestMembers #[10, 12, 14, 16, 18, 20, 22, 24, 26, 28, 30, 32, 34, 36, 38, 40, 42]] #[] 1536 3 #[] #[])
  fields := #[]
  methods := #[]
  instanceTypes := #[]
  staticTypes := #[]
  resolved := Array.replicate 63 none
  statics := none }

def pool14 : Array CpInfo := pool [(1, .methodref 2 3), (0, .class_ 4), (0, .nameAndType 5 6), (0, u "java/lang/Record"), (0, u "<init>"), (0, u "()V"), (0, .fieldref 8 9), (0, .class_ 10), (0, .nameAndType 11 12), (0, u "com/example/logicsmith/logicsmith/frontend/Expression$Increment"), (0, u "operator"), (0, u "Lcom/example/logicsmith/logicsmith/frontend/Token;"), (0, .fieldref 8 14), (0, .nameAndType 15 12), (0, u "name"), (0, .fieldref 8 17), (0, .nameAndType 18 19), (0, u "prefix"), (0, u "Z"), (20, .class_ 41), (0, u "com/example/logicsmith/logicsmith/frontend/Expression"), (0, u "(Lcom/example/logicsmith/logicsmith/frontend/Token;Lcom/example/logicsmith/logicsmith/frontend/Token;Z)V"), (3, u "token"), (0, u "()Lcom/example/logicsmith/logicsmith/frontend/Token;")] 30

def k14c0 : Code := { maxStack := 2, maxLocals := 4, code := prog_48_method_1_code, exceptionTable := #[], attributes := #[] }
def k14m0 : Method := { name := "<init>", desc := "(Lcom/example/logicsmith/logicsmith/frontend/Token;Lcom/example/logicsmith/logicsmith/frontend/Token;Z)V", sig := { parameters := [(.object "com/example/logicsmith/logicsmith/frontend/Token"), (.object "com/example/logicsmith/logicsmith/frontend/Token"), .boolean], returnType := none }, accessFlags := 1, code := some k14c0 }
def k14c1 : Code := { maxStack := 1, maxLocals := 1, code := prog_48_method_2_code, exceptionTable := #[], attributes := #[] }
def k14m1 : Method := { name := "token", desc := "()Lcom/example/logicsmith/logicsmith/frontend/Token;", sig := { parameters := [], returnType := some (.object "com/example/logicsmith/logicsmith/frontend/Token") }, accessFlags := 1, code := some k14c1 }
/-- com/example/logicsmith/logicsmith/frontend/Expression$Increment -/
def k14 : Class := { plain "com/example/logicsmith/logicsmith/frontend/Expression$Increment" (some 9) with
  accessFlags := 49
  interfaces := #[13]
  cf := some (fileOf pool14 8 #[.nestHost 40] #[{ accessFlags := 1, nameIndex := 5, descriptorIndex := 42, attributes := #[] }, { accessFlags := 1, nameIndex := 46, descriptorIndex := 47, attributes := #[] }] 49 2 #[40] #[{ accessFlags := 18, nameIndex := 11, descriptorIndex := 12, attributes := #[] }, { accessFlags := 18, nameIndex := 15, descriptorIndex := 12, attributes := #[] }, { accessFlags := 18, nameIndex := 18, descriptorIndex := 19, attributes := #[] }])
  fields := #[{ name := "operator", type := (.object "com/example/logicsmith/logicsmith/frontend/Token"), accessFlags := 18, slot := 0, constantValue := 0 }, { name := "name", type := (.object "com/example/logicsmith/logicsmith/frontend/Token"), accessFlags := 18, slot := 1, constantValue := 0 }, { name := "prefix", type := .boolean, accessFlags := 18, slot := 2, constantValue := 0 }]
  methods := #[k14m0, k14m1]
  instanceTypes := #[(.object "com/example/logicsmith/logicsmith/frontend/Token"), (.object "com/example/logicsmith/logicsmith/frontend/Token"), .boolean]
  staticTypes := #[]
  resolved := Array.replicate 78 none
  statics := none }

def pool15 : Array CpInfo := pool [(4, .class_ 6), (1, u "java/lang/Object"), (0, u "<init>"), (0, u "()V"), (5, .class_ 16), (1, u "java/lang/StringLatin1"), (104, u "$assertionsDisabled"), (0, u "Z"), (98, .class_ 223), (1, u "java/lang/StringLatin1$LinesSpliterator"), (166, .class_ 391), (0, u "java/lang/StringLatin1$CharsSpliterator")] 3

def k15m0 : Method := { name := "<init>", desc := "()V", sig := { parameters := [], returnType := none }, accessFlags := 0, code := none }
/-- java/lang/StringLatin1 -/
def k15 : Class := { plain "java/lang/StringLatin1" (some 0) with
  accessFlags := 48
  interfaces := #[]
  cf := some (fileOf pool15 14 #[.nestMembers #[390, 221]] #[{ accessFlags := 0, nameIndex := 7, descriptorIndex := 8, attributes := #[] }] 48 4 #[] #[{ accessFlags := 4120, nameIndex := 121, descriptorIndex := 122, attributes := #[] }])
  fields := #[{ name := "$assertionsDisabled", type := .boolean, accessFlags := 4120, slot := 0, constantValue := 0 }]
  methods := #[k15m0]
  instanceTypes := #[]
  staticTypes := #[.boolean]
  resolved := Array.replicate 395 none
  statics := none }

def pool16 : Array CpInfo := pool [(2, .class_ 4), (1, u "java/lang/Object"), (0, u "<init>"), (0, u "()V"), (17, .class_ 26), (1, u "jdk/internal/util/Preconditions"), (28, .class_ 56), (0, u "jdk/internal/util/Preconditions$4"), (57, .class_ 115), (0, u "jdk/internal/util/Preconditions$1"), (7, u "SIOOBE_FORMATTER"), (0, u "Ljava/util/function/BiFunction;"), (0, .class_ 126), (0, u "jdk/internal/util/Preconditions$2"), (3, u "AIOOBE_FORMATTER"), (0, .class_ 132), (0, u "jdk/internal/util/Preconditions$3"), (3, u "IOOBE_FORMATTER")] 57

def k16m0 : Method := { name := "<init>", desc := "()V", sig := { parameters := [], returnType := none }, accessFlags := 1, code := none }
/-- jdk/internal/util/Preconditions -/
def k16 : Class := { plain "jdk/internal/util/Preconditions" (some 0) with
  accessFlags := 33
  interfaces := #[]
  cf := some (fileOf pool16 24 #[.nestMembers #[55, 131, 125, 114]] #[{ accessFlags := 1, nameIndex := 5, descriptorIndex := 6, attributes := #[] }] 33 2 #[] #[{ accessFlags := 25, nameIndex := 123, descriptorIndex := 124, attributes := #[] }, { accessFlags := 25, nameIndex := 130, descriptorIndex := 124, attributes := #[] }, { accessFlags := 25, nameIndex := 136, descriptorIndex := 124, attributes := #[] }])
  fields := #[{ name := "SIOOBE_FORMATTER", type := (.object "java/util/function/BiFunction"), accessFlags := 25, slot := 0, constantValue := 0 }, { name := "AIOOBE_FORMATTER", type := (.object "java/util/function/BiFunction"), accessFlags := 25, slot := 1, constantValue := 0 }, { name := "IOOBE_FORMATTER", type := (.object "java/util/function/BiFunction"), accessFlags := 25, slot := 2, constantValue := 0 }]
  methods := #[k16m0]
  instanceTypes := #[]
  staticTypes := #[(.object "java/util/function/BiFunction"), (.object "java/util/function/BiFunction"), (.object "java/util/function/BiFunction")]
  resolved := Array.replicate 194 none
  statics := some 2 }

def pool17 : Array CpInfo := pool [(9, u "<init>"), (6, .class_ 18), (1, u "java/lang/Object"), (0, u "()V"), (1, .class_ 23), (1, u "jdk/internal/util/ArraysSupport"), (0, u "LOG2_ARRAY_LONG_INDEX_SCALE"), (0, u "I"), (2, u "U"), (0, u "Ljdk/internal/misc/Unsafe;"), (8, u "BIG_ENDIAN"), (0, u "Z"), (8, u "LOG2_BYTE_BIT_SIZE"), (4, u "LOG2_ARRAY_INT_INDEX_SCALE"), (54, u "JLA"), (0, u "Ljdk/internal/access/JavaLangAccess;"), (11, u "LOG2_ARRAY_BOOLEAN_INDEX_SCALE"), (9, u "LOG2_ARRAY_BYTE_INDEX_SCALE"), (5, u "LOG2_ARRAY_CHAR_INDEX_SCALE"), (5, u "LOG2_ARRAY_SHORT_INDEX_SCALE"), (18, u "LOG2_ARRAY_FLOAT_INDEX_SCALE"), (24, u "LOG2_ARRAY_DOUBLE_INDEX_SCALE"), (89, u "T_BOOLEAN"), (2, u "T_CHAR"), (1, u "T_FLOAT"), (1, u "T_DOUBLE"), (1, u "T_BYTE"), (1, u "T_SHORT"), (1, u "T_INT"), (1, u "T_LONG"), (1, u "SOFT_MAX_ARRAY_LENGTH")] 83

def k17m0 : Method := { name := "<init>", desc := "()V", sig := { parameters := [], returnType := none }, accessFlags := 2, code := none }
/-- jdk/internal/util/ArraysSupport -/
def k17 : Class := { plain "jdk/internal/util/ArraysSupport" (some 0) with
  accessFlags := 33
  interfaces := #[]
  cf := some (fileOf pool17 21 #[] #[{ accessFlags := 2, nameIndex := 9, descriptorIndex := 19, attributes := #[] }] 33 16 #[] #[{ accessFlags := 24, nameIndex := 28, descriptorIndex := 29, attributes := #[] }, { accessFlags := 26, nameIndex := 38, descriptorIndex := 39, attributes := #[] }, { accessFlags := 25, nameIndex := 121, descriptorIndex := 25, attributes := #[] }, { accessFlags := 25, nameIndex := 131, descriptorIndex := 25, attributes := #[] }, { accessFlags := 25, nameIndex := 137, descriptorIndex := 25, attributes := #[] }, { accessFlags := 25, nameIndex := 143, descriptorIndex := 25, attributes := #[] }, { accessFlags := 25, nameIndex := 53, descriptorIndex := 25, attributes := #[] }, { accessFlags := 25, nameIndex := 24, descriptorIndex := 25, attributes := #[] }, { accessFlags := 25, nameIndex := 162, descriptorIndex := 25, attributes := #[] }, { accessFlags := 25, nameIndex := 187, descriptorIndex := 25, attributes := #[] }, { accessFlags := 26, nameIndex := 48, descriptorIndex := 25, attributes := #[] }, { accessFlags := 25, nameIndex := 277, descriptorIndex := 25, attributes := #[] }, { accessFlags := 25, nameIndex := 280, descriptorIndex := 25, attributes := #[] }, { accessFlags := 25, nameIndex := 282, descriptorIndex := 25, attributes := #[] }, { accessFlags := 25, nameIndex := 284, descriptorIndex := 25, attributes := #[] }, { accessFlags := 25, nameIndex := 286, descriptorIndex := 25, attributes := #[] }, { accessFlags := 25, nameIndex := 288, descriptorIndex := 25, attributes := #[] }, { accessFlags := 25, nameIndex := 290, descriptorIndex := 25, attributes := #[] }, { accessFlags := 25, nameIndex := 292, descriptorIndex := 25, attributes := #[] }, { accessFlags := 26, nameIndex := 108, descriptorIndex := 109, attributes := #[] }, { accessFlags := 25, nameIndex := 294, descriptorIndex := 25, attributes := #[] }])
  fields := #[{ name := "U", type := (.object "jdk/internal/misc/Unsafe"), accessFlags := 24, slot := 0, constantValue := 0 }, { name := "BIG_ENDIAN", type := .boolean, accessFlags := 26, slot := 1, constantValue := 0 }, { name := "LOG2_ARRAY_BOOLEAN_INDEX_SCALE", type := .int, accessFlags := 25, slot := 2, constantValue := 0 }, { name := "LOG2_ARRAY_BYTE_INDEX_SCALE", type := .int, accessFlags := 25, slot := 3, constantValue := 0 }, { name := "LOG2_ARRAY_CHAR_INDEX_SCALE", type := .int, accessFlags := 25, slot := 4, constantValue := 0 }, { name := "LOG2_ARRAY_SHORT_INDEX_SCALE", type := .int, accessFlags := 25, slot := 5, constantValue := 0 }, { name := "LOG2_ARRAY_INT_INDEX_SCALE", type := .int, accessFlags := 25, slot := 6, constantValue := 0 }, { name := "LOG2_ARRAY_LONG_INDEX_SCALE", type := .int, accessFlags := 25, slot := 7, constantValue := 0 }, { name := "LOG2_ARRAY_FLOAT_INDEX_SCALE", type := .int, accessFlags := 25, slot := 8, constantValue := 0 }, { name := "LOG2_ARRAY_DOUBLE_INDEX_SCALE", type := .int, accessFlags := 25, slot := 9, constantValue := 0 }, { name := "LOG2_BYTE_BIT_SIZE", type := .int, accessFlags := 26, slot := 10, constantValue := 0 }, { name := "T_BOOLEAN", type := .int, accessFlags := 25, slot := 11, constantValue := 0 }, { name := "T_CHAR", type := .int, accessFlags := 25, slot := 12, constantValue := 0 }, { name := "T_FLOAT", type := .int, accessFlags := 25, slot := 13, constantValue := 0 }, { name := "T_DOUBLE", type := .int, accessFlags := 25, slot := 14, constantValue := 0 }, { name := "T_BYTE", type := .int, accessFlags := 25, slot := 15, constantValue := 0 }, { name := "T_SHORT", type := .int, accessFlags := 25, slot := 16, constantValue := 0 }, { name := "T_INT", type := .int, accessFlags := 25, slot := 17, constantValue := 0 }, { name := "T_LONG", type := .int, accessFlags := 25, slot := 18, constantValue := 0 }, { name := "JLA", type := (.object "jdk/internal/access/JavaLangAccess"), accessFlags := 26, slot := 19, constantValue := 0 }, { name := "SOFT_MAX_ARRAY_LENGTH", type := .int, accessFlags := 25, slot := 20, constantValue := 0 }]
  methods := #[k17m0]
  instanceTypes := #[]
  staticTypes := #[(.object "jdk/internal/misc/Unsafe"), .boolean, .int, .int, .int, .int, .int, .int, .int, .int, .int, .int, .int, .int, .int, .int, .int, .int, .int, (.object "jdk/internal/access/JavaLangAccess"), .int]
  resolved := Array.replicate 378 none
  statics := none }

def pool18 : Array CpInfo := pool [(1, u "java/lang/Cloneable"), (0, .class_ 1), (0, u "java/lang/Object"), (0, .class_ 3)] 3

/-- java/lang/Cloneable -/
def k18 : Class := { plain "java/lang/Cloneable" (some 0) with
  accessFlags := 1537
  interfaces := #[]
  cf := some (fileOf pool18 2 #[] #[] 1537 4 #[] #[])
  fields := #[]
  methods := #[]
  instanceTypes := #[]
  staticTypes := #[]
  resolved := Array.replicate 8 none
  statics := none }

/-- the primitive byte -/
def k19 : Class := { plain "byte" none with kind := .primitive 'B', accessFlags := 0x411 }
/-- [B -/
def k20 : Class := { plain "[B" (some 0) with kind := .array 19 .byte, interfaces := #[18, 2], accessFlags := 1041 }

/-- the primitive char -/
def k21 : Class := { plain "char" none with kind := .primitive 'C', accessFlags := 0x411 }
/-- [C -/
def k22 : Class := { plain "[C" (some 0) with kind := .array 21 .char, interfaces := #[18, 2], accessFlags := 1041 }

/-- the primitive int -/
def k23 : Class := { plain "int" none with kind := .primitive 'I', accessFlags := 0x411 }
/-- [I -/
def k24 : Class := { plain "[I" (some 0) with kind := .array 23 .int, interfaces := #[18, 2], accessFlags := 1041 }

def heap : Heap := #[{ cls := 7, slots := #[.long 0, .int 1, .null, .int 0, .null, .int 0, .int 0], vm := .statics 7 },
  { cls := 12, slots := #[.ref 4, .null, .null, .null, .null, .null, .null, .ref 3, .null, .null], vm := .statics 12 },
  { cls := 16, slots := #[.null, .null, .null], vm := .statics 16 },
  { cls := 12, slots := #[.null, .int 0, .int 0], vm := .none },
  { cls := 12, slots := #[.null, .int 1, .int 0], vm := .none }]
def classes : Array Class := #[k0, k1, k2, k3, k4, k5, k6, k7, k8, k9, k10, k11, k12, k13, k14, k15, k16, k17, k18, k19, k20, k21, k22, k23, k24]
def interned : List (Array UInt16 × Addr) := []
def slotsUsed : Nat := 26
def theMethod : MethodId := ⟨1, 1⟩
def args0 : Array Value := #[.int 5, .int 5, .int 5, .int 5, .int 5, .int 5]
def aboutOver (below : List Frame) : State where
  vm := { classes := classes, interned := interned.toArray }
  heap := heap
  slotsUsed := slotsUsed
  threads := #[{ frames := .invoking theMethod args0 :: below }]
def below0 : List Frame := [.native { method := ⟨0, 0⟩, args := #[] }]
def about1 : State := aboutOver below0
def p0 : Program := .bare "" "" ""
def e0 : Env := launch0.env 0 0 0
theorem w_frames : about1.frames = Frame.invoking theMethod args0 :: below0 := rfl
set_option maxRecDepth 65536 in
theorem w_args : argsFit about1.vm theMethod args0 = true := by decide +kernel
set_option maxRecDepth 65536 in
theorem w_heap : heapFits about1 = true := by decide +kernel
set_option maxRecDepth 65536 in
theorem w_runnable : about1.curStatus? = some .runnable := by decide +kernel
set_option maxRecDepth 65536 in
theorem w_alone : about1.alone = true := by decide +kernel
set_option maxRecDepth 65536 in
theorem w_named : about1.methodNamed? x = some theMethod := by decide +kernel
set_option maxRecDepth 65536 in
theorem w_hears : about1.hears theMethod below0 = true := by decide +kernel
set_option maxRecDepth 65536 in
theorem w_ripe : about1.ripe theMethod args0 below0 = true := by decide +kernel
theorem w_running : about1.status = .running := rfl
set_option maxRecDepth 65536 in
theorem w_room : about1.hasRoom e0.platform room_1 = true :=
  launch0.hasRoom_least _ room_1 (by decide +kernel) (by decide +kernel) (by decide +kernel) (by decide +kernel) (by decide +kernel) (by decide +kernel)
theorem allAtoms_all (ts : List Jvm.Cond) (a : Array Jvm.Value) (st : Jvm.State) : (allAtoms ts).before a st = ts.all (fun c => c.before a st) := by
  induction ts with
  | nil => rfl
  | cons c t ih =>
    show (Jvm.Cond.and c (allAtoms t)).before a st = _
    rw [Jvm.Cond.before_and, ih, List.all_cons]
def words1 : List Jvm.Cond := Jvm.Cond.code x code maxLocals ret :: tables_1
/-- a 'code' word, met by the world's own term for the bytes: nothing is compared byte by byte -/
theorem code_word {y : MethodName} {bytes : ByteArray} {mx : Nat} {rt : Option FieldType} {a : Array Value} {s : State} {m : MethodId} {meth : Method} {c : Code} (h1 : s.methodNamed? y = some m) (h2 : s.vm.method? m = some meth) (h3 : meth.code = some c) (h4 : c.code = bytes)
    (h5 : (c.maxLocals == mx && c.exceptionTable.isEmpty && decide (c.maxStack ≤ mostOperands) && decide (meth.sig.returnType = rt) && !meth.locks && decide (parseMethodDescriptor y.desc = some meth.sig)) = true) : (Jvm.Cond.code y bytes mx rt).before a s = true := by
  simp only [Bool.and_eq_true, beq_iff_eq, Bool.not_eq_true', decide_eq_true_eq] at h5
  obtain ⟨⟨⟨⟨⟨g1, g2⟩, g3⟩, g4⟩, g5⟩, g6⟩ := h5
  simp [Cond.before, Cond.holds, Cond.value, h1, h2, h3, h4, g1, g2, g3, g4, g5, g6]
def isCode : Jvm.Cond → Bool
  | .code _ _ _ _ => true
  | _ => false
theorem all_split {L : List Jvm.Cond} {P : Jvm.Cond → Bool} (h1 : L.all (fun c => isCode c || P c) = true) (h2 : ∀ c ∈ L.filter isCode, P c = true) : L.all P = true := by
  refine List.all_eq_true.mpr fun c hc => ?_
  have h := List.all_eq_true.mp h1 c hc
  rcases Bool.eq_false_or_eq_true (isCode c) with hi | hi
  · exact h2 c (List.mem_filter.mpr ⟨hc, hi⟩)
  · simpa [hi] using h
set_option maxRecDepth 65536 in
theorem w_c0 : (Jvm.Cond.code x code maxLocals ret).before args0 about1 = true := code_word (m := ⟨1, 1⟩) (meth := k1m1) (c := k1c1) (by decide +kernel) rfl rfl rfl (by decide +kernel)
set_option maxRecDepth 65536 in
theorem w_c1 : (Jvm.Cond.code ({ cls := "java/lang/String", name := "<init>", desc := "([C)V" } : Jvm.MethodName) jdk_42_method_3_code (2 : Nat) (Option.none : Option Jvm.ClassFile.FieldType)).before args0 about1 = true := code_word (m := ⟨7, 1⟩) (meth := k7m1) (c := k7c1) (by decide +kernel) rfl rfl rfl (by decide +kernel)
set_option maxRecDepth 65536 in
theorem w_c2 : (Jvm.Cond.code ({ cls := "java/lang/String", name := "<init>", desc := "([CIILjava/lang/Void;)V" } : Jvm.MethodName) jdk_42_method_149_code (6 : Nat) (Option.none : Option Jvm.ClassFile.FieldType)).before args0 about1 = true := code_word (m := ⟨7, 2⟩) (meth := k7m2) (c := k7c2) (by decide +kernel) rfl rfl rfl (by decide +kernel)
set_option maxRecDepth 65536 in
theorem w_c3 : (Jvm.Cond.code ({ cls := "java/lang/Object", name := "<init>", desc := "()V" } : Jvm.MethodName) object_method_1_code (1 : Nat) (Option.none : Option Jvm.ClassFile.FieldType)).before args0 about1 = true := code_word (m := ⟨0, 0⟩) (meth := k0m0) (c := k0c0) (by decide +kernel) rfl rfl rfl (by decide +kernel)
set_option maxRecDepth 65536 in
theorem w_c4 : (Jvm.Cond.code ({ cls := "java/lang/StringUTF16", name := "compress", desc := "([CII)[B" } : Jvm.MethodName) jdk_52_method_16_code (6 : Nat) (Option.some (Jvm.ClassFile.FieldType.array Jvm.ClassFile.FieldType.byte))).before args0 about1 = true := code_word (m := ⟨8, 2⟩) (meth := k8m2) (c := k8c2) (by decide +kernel) rfl rfl rfl (by decide +kernel)
set_option maxRecDepth 65536 in
theorem w_c5 : (Jvm.Cond.code ({ cls := "java/lang/StringUTF16", name := "compress", desc := "([CI[BII)I" } : Jvm.MethodName) jdk_52_method_21_code (7 : Nat) (Option.some Jvm.ClassFile.FieldType.int)).before args0 about1 = true := code_word (m := ⟨8, 3⟩) (meth := k8m3) (c := k8c3) (by decide +kernel) rfl rfl rfl (by decide +kernel)
set_option maxRecDepth 65536 in
theorem w_c6 : (Jvm.Cond.code ({ cls := "java/lang/StringUTF16", name := "coderFromArrayLen", desc := "([BI)B" } : Jvm.MethodName) jdk_52_method_15_code (2 : Nat) (Option.some Jvm.ClassFile.FieldType.byte)).before args0 about1 = true := code_word (m := ⟨8, 1⟩) (meth := k8m1) (c := k8c1) (by decide +kernel) rfl rfl rfl (by decide +kernel)
set_option maxRecDepth 65536 in
theorem w_c7 : (Jvm.Cond.code ({ cls := "com/example/logicsmith/logicsmith/frontend/Token", name := "<init>", desc := "(Lcom/example/logicsmith/logicsmith/frontend/Token$Kind;Ljava/lang/String;II)V" } : Jvm.MethodName) prog_113_method_1_code (5 : Nat) (Option.none : Option Jvm.ClassFile.FieldType)).before args0 about1 = true := code_word (m := ⟨10, 0⟩) (meth := k10m0) (c := k10c0) (by decide +kernel) rfl rfl rfl (by decide +kernel)
set_option maxRecDepth 65536 in
theorem w_c8 : (Jvm.Cond.code ({ cls := "java/lang/Record", name := "<init>", desc := "()V" } : Jvm.MethodName) jdk_30_method_1_code (1 : Nat) (Option.none : Option Jvm.ClassFile.FieldType)).before args0 about1 = true := code_word (m := ⟨9, 0⟩) (meth := k9m0) (c := k9c0) (by decide +kernel) rfl rfl rfl (by decide +kernel)
set_option maxRecDepth 65536 in
theorem w_c9 : (Jvm.Cond.code ({ cls := "com/example/logicsmith/logicsmith/frontend/Expression$Increment", name := "<init>", desc := "(Lcom/example/logicsmith/logicsmith/frontend/Token;Lcom/example/logicsmith/logicsmith/frontend/Token;Z)V" } : Jvm.MethodName) prog_48_method_1_code (4 : Nat) (Option.none : Option Jvm.ClassFile.FieldType)).before args0 about1 = true := code_word (m := ⟨14, 0⟩) (meth := k14m0) (c := k14c0) (by decide +kernel) rfl rfl rfl (by decide +kernel)
set_option maxRecDepth 65536 in
theorem w_c10 : (Jvm.Cond.code ({ cls := "com/example/logicsmith/logicsmith/frontend/Expression$Increment", name := "token", desc := "()Lcom/example/logicsmith/logicsmith/frontend/Token;" } : Jvm.MethodName) prog_48_method_2_code (1 : Nat) (Option.some (Jvm.ClassFile.FieldType.object "com/example/logicsmith/logicsmith/frontend/Token"))).before args0 about1 = true := code_word (m := ⟨14, 1⟩) (meth := k14m1) (c := k14c1) (by decide +kernel) rfl rfl rfl (by decide +kernel)
def codes1 : List Jvm.Cond := [Jvm.Cond.code x code maxLocals ret, Jvm.Cond.code ({ cls := "java/lang/String", name := "<init>", desc := "([C)V" } : Jvm.MethodName) jdk_42_method_3_code (2 : Nat) (Option.none : Option Jvm.ClassFile.FieldType), Jvm.Cond.code ({ cls := "java/lang/String", name := "<init>", desc := "([CIILjava/lang/Void;)V" } : Jvm.MethodName) jdk_42_method_149_code (6 : Nat) (Option.none : Option Jvm.ClassFile.FieldType), Jvm.Cond.code ({ cls := "java/lang/Object", name := "<init>", desc := "()V" } : Jvm.MethodName) object_method_1_code (1 : Nat) (Option.none : Option Jvm.ClassFile.FieldType), Jvm.Cond.code ({ cls := "java/lang/StringUTF16", name := "compress", desc := "([CII)[B" } : Jvm.MethodName) jdk_52_method_16_code (6 : Nat) (Option.some (Jvm.ClassFile.FieldType.array Jvm.ClassFile.FieldType.byte)), Jvm.Cond.code ({ cls := "java/lang/StringUTF16", name := "compress", desc := "([CI[BII)I" } : Jvm.MethodName) jdk_52_method_21_code (7 : Nat) (Option.some Jvm.ClassFile.FieldType.int), Jvm.Cond.code ({ cls := "java/lang/StringUTF16", name := "coderFromArrayLen", desc := "([BI)B" } : Jvm.MethodName) jdk_52_method_15_code (2 : Nat) (Option.some Jvm.ClassFile.FieldType.byte), Jvm.Cond.code ({ cls := "com/example/logicsmith/logicsmith/frontend/Token", name := "<init>", desc := "(Lcom/example/logicsmith/logicsmith/frontend/Token$Kind;Ljava/lang/String;II)V" } : Jvm.MethodName) prog_113_method_1_code (5 : Nat) (Option.none : Option Jvm.ClassFile.FieldType), Jvm.Cond.code ({ cls := "java/lang/Record", name := "<init>", desc := "()V" } : Jvm.MethodName) jdk_30_method_1_code (1 : Nat) (Option.none : Option Jvm.ClassFile.FieldType), Jvm.Cond.code ({ cls := "com/example/logicsmith/logicsmith/frontend/Expression$Increment", name := "<init>", desc := "(Lcom/example/logicsmith/logicsmith/frontend/Token;Lcom/example/logicsmith/logicsmith/frontend/Token;Z)V" } : Jvm.MethodName) prog_48_method_1_code (4 : Nat) (Option.none : Option Jvm.ClassFile.FieldType), Jvm.Cond.code ({ cls := "com/example/logicsmith/logicsmith/frontend/Expression$Increment", name := "token", desc := "()Lcom/example/logicsmith/logicsmith/frontend/Token;" } : Jvm.MethodName) prog_48_method_2_code (1 : Nat) (Option.some (Jvm.ClassFile.FieldType.object "com/example/logicsmith/logicsmith/frontend/Token"))]
set_option maxRecDepth 65536 in
theorem codes_eq : words1.filter isCode = codes1 := rfl
theorem w_codes : ∀ c ∈ words1.filter isCode, c.before args0 about1 = true := by
  rw [codes_eq]
  intro c hc
  simp only [codes1, List.mem_cons, List.not_mem_nil, or_false] at hc
  rcases hc with rfl | rfl | rfl | rfl | rfl | rfl | rfl | rfl | rfl | rfl | rfl
  · exact w_c0
  · exact w_c1
  · exact w_c2
  · exact w_c3
  · exact w_c4
  · exact w_c5
  · exact w_c6
  · exact w_c7
  · exact w_c8
  · exact w_c9
  · exact w_c10
set_option maxRecDepth 65536 in
theorem w_t1 : (words1.take 24).all (fun c => isCode c || c.before args0 about1) = true := by decide +kernel
set_option maxRecDepth 65536 in
theorem w_t2 : ((words1.drop 24).take 24).all (fun c => isCode c || c.before args0 about1) = true := by decide +kernel
set_option maxRecDepth 65536 in
theorem w_t3 : (((words1.drop 24).drop 24).take 24).all (fun c => isCode c || c.before args0 about1) = true := by decide +kernel
set_option maxRecDepth 65536 in
theorem w_t4 : (((words1.drop 24).drop 24).drop 24).all (fun c => isCode c || c.before args0 about1) = true := by decide +kernel
theorem w_tables : (allAtoms (Jvm.Cond.code x code maxLocals ret :: tables_1)).before args0 about1 = true := by
  rw [allAtoms_all]
  show words1.all (fun c => c.before args0 about1) = true
  refine all_split ?_ w_codes
  rw [← List.take_append_drop 24 words1, List.all_append, w_t1, ← List.take_append_drop 24 (words1.drop 24), List.all_append, w_t2, ← List.take_append_drop 24 ((words1.drop 24).drop 24), List.all_append, w_t3, w_t4]
  rfl
set_option maxRecDepth 65536 in
theorem w_rest : rest_1_c.before args0 about1 = true := by decide +kernel
set_option maxRecDepth 65536 in
theorem w_case : (Jvm.Cond.and given_1 narrow_1).before args0 about1 = true := by decide +kernel
theorem w_applies : (headSpec (Jvm.Cond.code x code maxLocals ret :: tables_1) room_1).applies x e0.platform about1 = true :=
  (Spec.applies_iff w_frames).mpr ⟨w_running, w_runnable, w_alone, w_named, w_hears, w_ripe, w_room, w_tables⟩
theorem atStart : AtStart classFile x code maxLocals ret World_1 tables_1 room_1 Calls_1 rest_1 Pre_1 launch0 p0 e0 about1 theMethod args0 below0 :=
  ⟨lists_1, trivial, launch0.admits_env _ _ _, launch0.least_env, fairChoices_fair.cas, fairChoices_fair.clock, w_frames, w_args, w_heap, w_applies, trivial, w_rest, w_case⟩
end start1
theorem witness_1 : WitnessClaimed_1 := ⟨start1.p0, start1.e0, start1.about1, start1.theMethod, start1.args0, start1.below0, start1.atStart⟩
end Jvm.Pilot.@@N@@
