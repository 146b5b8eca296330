import JvmDerived
import JvmDerived.Pilot.@@N@@Statement
import JvmDerived.Pilot.@@N@@Code
set_option linter.unusedVariables false
set_option linter.unusedSimpArgs false
namespace Jvm.RoadKit
open Sem ClassFile Op Lib Jvm.Stand Jvm.Free Jvm.LawKit
section New
variable {p : Program} {l : Launch} {e : Env} {R : Room} {s : State} {m : MethodId} {args : Array Value} {below : List Frame} {meth : Method} {c : Code} {T : State} {locs : List Loc} {cells slots : Nat}
theorem retI (X : Stand p l e R s m args below meth c T locs cells slots) (hx : p.tables.exec = Jvm.exec) {pc : Nat} {Ls : Array Slot} {z : Int32} {rest : List Value} (hret : meth.sig.returnType = some .int) (hd : decode c.code pc = .ok (.ireturn, 1)) {fs : List Frame}
    (hl : ∀ (f : JFrame) (acts : List Action), f.method = m → f.locked = none → f.entered = [] → (doReturn e (T.setTop f) acts (some (.int z))).1 = T.setFrames fs) : Steps p.tables e below (T.setTop (mkF m pc Ls (.int z :: rest))) (T.setFrames fs) := by
  have hm' : T.vm.method? m = some meth := X.method'
  have hn : narrow .int (.int z) = .int z := rfl
  show Steps p.tables e below (T.setTop { method := m, pc := pc, locals := Ls, stack := _ :: rest, locked := none }) _
  jvm_step X.here [X.here.top, hx, hd, hm', hret, hn]
  first | (intro acts; rw [hl _ acts rfl rfl rfl]) | rw [hl _ _ rfl rfl rfl]
  exact Steps.refl _
theorem retR (X : Stand p l e R s m args below meth c T locs cells slots) (hx : p.tables.exec = Jvm.exec) {pc : Nat} {Ls : Array Slot} {w : Value} {t : FieldType} {rest : List Value} (hret : meth.sig.returnType = some t) (hn : narrow t w = w) (ht : t.isReference = true) (hw : w.isRef = true) (hd : decode c.code pc = .ok (.areturn, 1)) {fs : List Frame}
    (hl : ∀ (f : JFrame) (acts : List Action), f.method = m → f.locked = none → f.entered = [] → (doReturn e (T.setTop f) acts (some w)).1 = T.setFrames fs) : Steps p.tables e below (T.setTop (mkF m pc Ls (w :: rest))) (T.setFrames fs) := by
  have hm' : T.vm.method? m = some meth := X.method'
  show Steps p.tables e below (T.setTop { method := m, pc := pc, locals := Ls, stack := _ :: rest, locked := none }) _
  jvm_step X.here [X.here.top, hx, hd, hm', hret, hn, hw]
  try (refine ⟨ht, ?_⟩)
  first | (intro acts; rw [hl _ acts rfl rfl rfl]) | rw [hl _ _ rfl rfl rfl]
  exact Steps.refl _
end New
end Jvm.RoadKit
namespace Jvm.Pilot.@@N@@
open Jvm Jvm.ClassFile Sem Op Lib Jvm.Free Jvm.Stand Jvm.LawKit Jvm.RoadKit Bundle Jvm.Pilot.@@N@@.Jvm.D
theorem own_d {c : ClassFile.Code} {code : ByteArray} (h : c.code = code) {pc : Nat} {r : Except ClassFile.DecodeError (ClassFile.Instr × Nat)} (h2 : ClassFile.decode code pc = r) : ClassFile.decode c.code pc = r := h ▸ h2
theorem own_lt {a b : Nat} (h : a < b) : @LT.lt Addr _ a b := h
theorem own_ne {a b : Nat} (h : a < b ∨ b < a) : (a : Addr) ≠ b := fun e => by have e' : (a : Nat) = b := e; omega
abbrev SS (p : Program) (e : Env) (below : List Frame) (B T : State) (m : MethodId) (pc : Nat) (ls : Array Slot) (st : List Value) : Prop := Steps p.tables e below B (T.setTop (mkF m pc ls st))
theorem W {Z : State} {a0 : Array Value} (hw : ∀ d ∈ tables_1, d.before a0 Z = true) (k : Nat) {d : Jvm.Cond} (h : tables_1[k]? = some d := by rfl) : d.before a0 Z = true := hw _ (List.mem_of_getElem? h)
def consts_1 : List (String × Nat) := []
theorem own_safe {Z : State} {vm : Vm} {h : Heap} {x : Addr} : Safe Z consts_1 vm h x := fun ⟨_, hp, _⟩ => nomatch hp
theorem own_selp {Z s : State} {a0 args : Array Value} {y : MethodName} {n : Nat} (hZ : Z.Warmed39 s.vm) (wi : (Jvm.Cond.instantiable y.cls n).before a0 Z = true) (wp : (Jvm.Cond.privateMethod y).before a0 Z = true) (wm : (Jvm.Cond.instanceMethod y).before a0 Z = true) (hy : y.cls ≠ "java/lang/invoke/MethodHandle" ∧ y.cls ≠ "java/lang/invoke/VarHandle") : (Jvm.Cond.selects y.cls y y).before args s = true := by
  obtain ⟨c, k, h1, h2, -, h4, -⟩ := Cond.instantiable_spec (mvT (args := args) hZ wi)
  have h5 : k.isInterface = false := by
    cases hq : k.isInterface
    · rfl
    · rw [hq] at h4; cases h4
  exact Jvm.Stand.selects_self_of_private h1 h2 h5 (Cond.privateMethod_at (mvP hZ wp (args := #[]))) (mvT hZ wm) hy
def rotl (x : Int64) (k : Int32) : Int64 := ((x <<< (k &&& 0x3f).toInt64) ||| ((x.toUInt64 >>> ((-k) &&& 0x3f).toInt64.toUInt64).toInt64))
abbrev V4 : Type := Int64 × Int64 × Int64 × Int64
def rnd (v : V4) : V4 := (((rotl ((v.1) + (v.2.1)) (32 : Int32)) + ((rotl (v.2.2.2) (16 : Int32)) ^^^ ((v.2.2.1) + (v.2.2.2)))), ((rotl ((rotl (v.2.1) (13 : Int32)) ^^^ ((v.1) + (v.2.1))) (17 : Int32)) ^^^ (((v.2.2.1) + (v.2.2.2)) + ((rotl (v.2.1) (13 : Int32)) ^^^ ((v.1) + (v.2.1))))), (rotl (((v.2.2.1) + (v.2.2.2)) + ((rotl (v.2.1) (13 : Int32)) ^^^ ((v.1) + (v.2.1)))) (32 : Int32)), ((rotl ((rotl (v.2.2.2) (16 : Int32)) ^^^ ((v.2.2.1) + (v.2.2.2))) (21 : Int32)) ^^^ ((rotl ((v.1) + (v.2.1)) (32 : Int32)) + ((rotl (v.2.2.2) (16 : Int32)) ^^^ ((v.2.2.1) + (v.2.2.2))))))
def sip0 (q1 q2 : Int64) : V4 := ((q1 ^^^ (8317987319222330741 : Int64)), ((q2 ^^^ (7237128888997146477 : Int64)) ^^^ (238 : Int64)), (q1 ^^^ (7816392313619706465 : Int64)), (q2 ^^^ (8387220255154660723 : Int64)))
def absb (q1 : Int64) (v : V4) : V4 := ((((rnd (rnd (((v.1), (v.2.1), (v.2.2.1), ((v.2.2.2) ^^^ q1)) : V4))).1) ^^^ q1), ((rnd (rnd (((v.1), (v.2.1), (v.2.2.1), ((v.2.2.2) ^^^ q1)) : V4))).2.1), ((rnd (rnd (((v.1), (v.2.1), (v.2.2.1), ((v.2.2.2) ^^^ q1)) : V4))).2.2.1), ((rnd (rnd (((v.1), (v.2.1), (v.2.2.1), ((v.2.2.2) ^^^ q1)) : V4))).2.2.2))
def finL_s (v : V4) : V4 := (((rnd (rnd (rnd (rnd (((v.1), (v.2.1), ((v.2.2.1) ^^^ (238 : Int64)), (v.2.2.2)) : V4))))).1), ((rnd (rnd (rnd (rnd (((v.1), (v.2.1), ((v.2.2.1) ^^^ (238 : Int64)), (v.2.2.2)) : V4))))).2.1), ((rnd (rnd (rnd (rnd (((v.1), (v.2.1), ((v.2.2.1) ^^^ (238 : Int64)), (v.2.2.2)) : V4))))).2.2.1), ((rnd (rnd (rnd (rnd (((v.1), (v.2.1), ((v.2.2.1) ^^^ (238 : Int64)), (v.2.2.2)) : V4))))).2.2.2))
def finL_r (v : V4) : Int64 := (((((rnd (rnd (rnd (rnd (((v.1), (v.2.1), ((v.2.2.1) ^^^ (238 : Int64)), (v.2.2.2)) : V4))))).1) ^^^ ((rnd (rnd (rnd (rnd (((v.1), (v.2.1), ((v.2.2.1) ^^^ (238 : Int64)), (v.2.2.2)) : V4))))).2.1)) ^^^ ((rnd (rnd (rnd (rnd (((v.1), (v.2.1), ((v.2.2.1) ^^^ (238 : Int64)), (v.2.2.2)) : V4))))).2.2.1)) ^^^ ((rnd (rnd (rnd (rnd (((v.1), (v.2.1), ((v.2.2.1) ^^^ (238 : Int64)), (v.2.2.2)) : V4))))).2.2.2))
def finH_s (v : V4) : V4 := (((rnd (rnd (rnd (rnd (((v.1), ((v.2.1) ^^^ (221 : Int64)), (v.2.2.1), (v.2.2.2)) : V4))))).1), ((rnd (rnd (rnd (rnd (((v.1), ((v.2.1) ^^^ (221 : Int64)), (v.2.2.1), (v.2.2.2)) : V4))))).2.1), ((rnd (rnd (rnd (rnd (((v.1), ((v.2.1) ^^^ (221 : Int64)), (v.2.2.1), (v.2.2.2)) : V4))))).2.2.1), ((rnd (rnd (rnd (rnd (((v.1), ((v.2.1) ^^^ (221 : Int64)), (v.2.2.1), (v.2.2.2)) : V4))))).2.2.2))
def finH_r (v : V4) : Int64 := (((((rnd (rnd (rnd (rnd (((v.1), ((v.2.1) ^^^ (221 : Int64)), (v.2.2.1), (v.2.2.2)) : V4))))).1) ^^^ ((rnd (rnd (rnd (rnd (((v.1), ((v.2.1) ^^^ (221 : Int64)), (v.2.2.1), (v.2.2.2)) : V4))))).2.1)) ^^^ ((rnd (rnd (rnd (rnd (((v.1), ((v.2.1) ^^^ (221 : Int64)), (v.2.2.1), (v.2.2.2)) : V4))))).2.2.1)) ^^^ ((rnd (rnd (rnd (rnd (((v.1), ((v.2.1) ^^^ (221 : Int64)), (v.2.2.1), (v.2.2.2)) : V4))))).2.2.2))
def lastw (p1 : Int32) (q1 : Int64) : Int64 := (((p1.toInt64) <<< ((56 : Int32) &&& 0x3f).toInt64) ||| q1)
def hst (sd it : Int64) : V4 := absb (lastw (8 : Int32) (0 : Int64)) (absb it (sip0 sd sd))
def lowOf (sd it : Int64) : Int64 := finL_r (hst sd it)
def stepOf (sd it : Int64) : Int64 := (finH_r (finL_s (hst sd it)) ||| (1 : Int64))
def mix (q1 : Int64) : Int64 := (((((q1 ^^^ ((q1.toUInt64 >>> ((30 : Int32) &&& 0x3f).toInt64.toUInt64).toInt64)) * (-4658895280553007687 : Int64)) ^^^ ((((q1 ^^^ ((q1.toUInt64 >>> ((30 : Int32) &&& 0x3f).toInt64.toUInt64).toInt64)) * (-4658895280553007687 : Int64)).toUInt64 >>> ((27 : Int32) &&& 0x3f).toInt64.toUInt64).toInt64)) * (-7723592293110705685 : Int64)) ^^^ ((((((q1 ^^^ ((q1.toUInt64 >>> ((30 : Int32) &&& 0x3f).toInt64.toUInt64).toInt64)) * (-4658895280553007687 : Int64)) ^^^ ((((q1 ^^^ ((q1.toUInt64 >>> ((30 : Int32) &&& 0x3f).toInt64.toUInt64).toInt64)) * (-4658895280553007687 : Int64)).toUInt64 >>> ((27 : Int32) &&& 0x3f).toInt64.toUInt64).toInt64)) * (-7723592293110705685 : Int64)).toUInt64 >>> ((31 : Int32) &&& 0x3f).toInt64.toUInt64).toInt64))
def mulh (q1 q2 : Int64) : Int64 := ((((q1 >>> ((32 : Int32) &&& 0x3f).toInt64) * (q2 >>> ((32 : Int32) &&& 0x3f).toInt64)) + ((((q1 >>> ((32 : Int32) &&& 0x3f).toInt64) * (q2 &&& (4294967295 : Int64))) + ((((q1 &&& (4294967295 : Int64)) * (q2 &&& (4294967295 : Int64))).toUInt64 >>> ((32 : Int32) &&& 0x3f).toInt64.toUInt64).toInt64)) >>> ((32 : Int32) &&& 0x3f).toInt64)) + ((((((q1 >>> ((32 : Int32) &&& 0x3f).toInt64) * (q2 &&& (4294967295 : Int64))) + ((((q1 &&& (4294967295 : Int64)) * (q2 &&& (4294967295 : Int64))).toUInt64 >>> ((32 : Int32) &&& 0x3f).toInt64.toUInt64).toInt64)) &&& (4294967295 : Int64)) + ((q1 &&& (4294967295 : Int64)) * (q2 >>> ((32 : Int32) &&& 0x3f).toInt64))) >>> ((32 : Int32) &&& 0x3f).toInt64))
def cellOf (q1 q2 : Int64) : Int64 := ((mulh q1 q2) + ((q1 >>> ((63 : Int32) &&& 0x3f).toInt64) &&& q2))
def nwords (m : Int64) : Int32 := ((((m + (64 : Int64)) - (1 : Int64)) / (64 : Int64)).toInt32)
def widx (x : Int64) : Int32 := ((x.toUInt64 >>> ((6 : Int32) &&& 0x3f).toInt64.toUInt64).toInt64).toInt32
def bit (x : Int64) : Int64 := ((1 : Int64) <<< (x.toInt32 &&& 0x3f).toInt64)
theorem own_mvRef {Z s : State} {a0 args : Array Value} {own : String} {index : Nat} {y : MethodName} (hZ : Z.Warmed39 s.vm) (wm : (Jvm.Cond.instanceMethod y).before a0 Z = true) (w : (Jvm.Cond.methodRef own index y).before a0 Z = true) (hy : y.cls ≠ "java/lang/invoke/MethodHandle" ∧ y.cls ≠ "java/lang/invoke/VarHandle") : (Jvm.Cond.methodRef own index y).before args s = true := by
  obtain ⟨mk, methM, hnamed, -⟩ := Cond.instanceMethod_spec wm
  have h1 : (Jvm.Cond.methodRef own index y).before a0 (Z.setVm s.vm) = true := Cond.methodRef_warmed39 hZ hnamed hy w
  exact h1
theorem own_specialRef {p : Program} {l : Launch} {e : Env} {R : Room} {s : State} {m : MethodId} {args : Array Value} {below : List Frame} {meth : Method} {c : Code} {T : State} {locs : List Loc} {cells slots : Nat} (X : Stand p l e R s m args below meth c T locs cells slots) (hexec : p.tables.exec = Jvm.exec) {own : String} {index : Nat} {y : MethodName} (hy1 : y.name = "<init>")
    (hown : s.vm.findClass own = some m.cls) (href : (Jvm.Cond.methodRef own index y).before args s = true) (hinst : (Jvm.Cond.instanceMethod y).before args s = true)
    {bytes : ByteArray} {maxL : Nat} (hcode : (Jvm.Cond.code y bytes maxL none).before args s = true) (hy : y.cls ≠ "java/lang/invoke/MethodHandle" ∧ y.cls ≠ "java/lang/invoke/VarHandle")
    {W : Nat} {Pre : Pt → Array Value → Prop} {Post : Pt → Array Value → Option Value → Pt → Prop} (hK : Back l R p e below s args y 3 W Pre Post)
    {g : JFrame} (hg : g.method = m) (hsize : g.locals.size = c.maxLocals) {s₀ : State} (hcome : Steps p.tables e below s₀ (T.setTop g)) {a : Addr} {argsL rest : List Value} (hlen : ∀ sig, parseMethodDescriptor y.desc = some sig → argsL.length = sig.parameters.length) (hstack : g.stack = argsL.reverse ++ .ref a :: rest)
    (hW : 2 * g.monitorRoom + (rest.map fun v => v.category).sum ≤ W) (hdg : decode c.code g.pc = .ok (.invokespecial index, 3)) (hpre : ∀ vm₁, s.WarmedH vm₁ → Pre ⟨T.setVm vm₁, locs, cells, slots⟩ (.ref a :: argsL).toArray) :
    ∃ (v : Option Value) (vm₁ : Vm) (B : Pt), s.WarmedH vm₁ ∧ Stand p l e R s m args below meth c B.U B.locs B.cells B.slots ∧ Post ⟨T.setVm vm₁, locs, cells, slots⟩ (.ref a :: argsL).toArray v B ∧ Steps p.tables e below s₀ (B.U.setTop { g with pc := g.pc + 3, stack := v.toList ++ rest }) := by
  obtain ⟨mk, methM, hnamed, hmethM, hst, hab⟩ := Cond.instanceMethod_spec hinst
  obtain ⟨methM', cM, hmethM', -, -, -, -, -, -, hsig⟩ := Cond.code_spec hnamed hcode
  cases hmethM.symm.trans hmethM'
  obtain ⟨kP, hkP, -⟩ := className_of_methodNamed hnamed
  obtain ⟨hnm1, hnm2⟩ := name_of_methodNamed hnamed hmethM
  have hal := X.warmed.alike
  have hT : (Jvm.Cond.methodRef own index y).before args (s.setVm T.vm) = true := Cond.methodRef_warmed X.warmed hnamed hy href
  have hownT : (s.setVm T.vm).vm.findClass own = some m.cls := (hal.findClass _ _).trans hown
  obtain ⟨mm, c', hf, hready, hfc, hnr⟩ := Cond.methodRef_named e (s := s.setVm T.vm) hownT hT
  have hf2 : (s.setVm T.vm).methodFound? y.cls y.name y.desc = some mk := by
    rw [State.methodFound?_setVm_of_named hal hnamed hy]; exact State.methodFound?_of_named hnamed hy
  cases hf.symm.trans hf2
  have hc : c' = mk.cls := by
    have h1 : (s.setVm T.vm).vm.findClass y.cls = some mk.cls := (hal.findClass _ _).trans (findClass_of_methodNamed hnamed)
    exact Option.some.inj (hfc.symm.trans h1)
  subst hc
  have step : ∀ target, (∀ acts, Steps p.tables e below (doInvoke e (T.setTop { g with stack := rest }) acts mk (.ref a :: argsL).toArray).1 target) → Steps p.tables e below (T.setTop g) target := by
    intro target hrest
    subst hg
    obtain ⟨kP', hkP', -⟩ := hal.2.2 _ _ hkP
    have hm2 : T.vm.method? mk = some methM := (hal.method? mk).trans hmethM
    have hfound : lookupSpecial T.vm mk.cls "<init>" methM.desc = .method mk := by
      rw [hal.lookupSpecial, hnm2, ← hy1]; exact lookupSpecial_of_named hnamed hmethM hst
    jvm_step X.here [hexec, hdg, invokespecial.wp_init (e := e) (s := T) (k := kP') (meth := methM) (m := mk) (a := a) (args := argsL) (rest := rest) (f := g) X.here.top hnr hready hkP' hm2 (by rw [hnm1]; exact hy1) hst hab hfound (hlen _ hsig) hstack]
    exact hrest
  obtain ⟨v, B, X', hpost, hsteps⟩ := hK m meth c ⟨T.setVm T.vm, locs, cells, slots⟩ { g with stack := rest } (.invokespecial index) mk (.ref a :: argsL).toArray X hg hsize hdg hW (X.named hnamed) (hpre T.vm X.warmed)
  exact ⟨v, T.vm, B, X.warmed, X', hpost, (hcome.trans (step _ fun acts => by rw [doInvoke_state]; exact Steps.refl _)).trans hsteps⟩
theorem own_l1 : (1 : Int64).toInt = 1 := by decide
theorem own_l64 : (64 : Int64).toInt = 64 := by decide
theorem own_mm {q mm : Int64} (h : mm = (1 : Int64) + (q &&& (4095 : Int64))) : 1 ≤ mm.toInt ∧ mm.toInt ≤ 4096 := by
  have a := c_maskL q 4095 12 (by decide) (by decide)
  have b := c_ladd 1 (q &&& 4095)
  have r := rng64 ((1 : Int64) + (q &&& 4095))
  rw [own_l1] at b
  rw [h]
  omega
theorem own_nw {mm : Int64} (hM : 1 ≤ mm.toInt ∧ mm.toInt ≤ 4096) : (nwords mm).toInt = (mm.toInt + 63) / 64 := by
  have a := c_ladd mm 64
  have b := c_lsub (mm + 64) 1
  have r1 := rng64 (mm + 64)
  have r2 := rng64 (mm + 64 - 1)
  rw [own_l64] at a
  rw [own_l1] at b
  have d := (c_ldiv (mm + 64 - 1) 64 64 own_l64 (by decide)).1 (by omega)
  have g := c_l2i ((mm + 64 - 1) / 64)
  have r3 := rng32 (((mm + 64 - 1) / 64).toInt32)
  show (((mm + 64 - 1) / 64).toInt32).toInt = _
  omega
theorem own_m {mm : Int64} (hM : 1 ≤ mm.toInt ∧ mm.toInt ≤ 4096) : ¬ mm < (1 : Int64) ∧ ¬ (137438952896 : Int64) < mm ∧ ¬ nwords mm < 0 ∧ (nwords mm).toNatClampNeg ≤ 64 := by
  have h := own_nw hM
  have e1 : (137438952896 : Int64).toInt = 137438952896 := by decide
  have e2 : (0 : Int32).toInt = 0 := by decide
  refine ⟨?_, ?_, ?_, ?_⟩
  · rw [Int64.lt_iff_toInt_lt, own_l1]; omega
  · rw [Int64.lt_iff_toInt_lt, e1]; omega
  · rw [Int32.lt_iff_toInt_lt, e2]; omega
  · show (nwords mm).toInt.toNat ≤ 64; omega
theorem own_m0 {mm : Int64} (hM : 1 ≤ mm.toInt ∧ mm.toInt ≤ 4096) : mm ≠ 0 := fun e => by
  rw [e, show (0 : Int64).toInt = 0 from by decide] at hM; omega
theorem own_widx {x : Int64} (h0 : 0 ≤ x.toInt) (h1 : x.toInt < 4096) : (widx x).toInt = x.toInt / 64 := by
  have a := c_lushr x 6 6 (by decide) (by decide)
  have b := c_l2i ((x.toUInt64 >>> ((6 : Int32) &&& 0x3f).toInt64.toUInt64).toInt64)
  have r := rng32 (widx x)
  have r0 : widx x = ((x.toUInt64 >>> ((6 : Int32) &&& 0x3f).toInt64.toUInt64).toInt64).toInt32 := rfl
  rw [← r0] at b
  omega
theorem own_idx {mm x : Int64} (hM : 1 ≤ mm.toInt ∧ mm.toInt ≤ 4096) (h0 : 0 ≤ x.toInt) (h1 : x.toInt < mm.toInt) : ¬ widx x < 0 ∧ widx x < nwords mm := by
  have a := own_widx h0 (by omega)
  have b := own_nw hM
  have e2 : (0 : Int32).toInt = 0 := by decide
  rw [Int32.lt_iff_toInt_lt, Int32.lt_iff_toInt_lt, e2]
  omega
theorem own_z (b : Int64) : ((0 : Int64) &&& b) = 0 := by
  apply Int64.toBitVec_inj.mp
  rw [Int64.toBitVec_and]
  exact BitVec.zero_and
theorem own_res (x : Int64) : ∃ k : Fin 64, (x.toInt32 &&& 0x3f) = Int32.ofNat k.val ∧ ((k.val : Nat) : Int) = x.toInt32.toInt % 64 := by
  have a := c_mask x.toInt32 0x3f 6 (by decide) (by decide)
  have hk : (x.toInt32.toInt % 64).toNat < 64 := by omega
  refine ⟨⟨_, hk⟩, ?_, ?_⟩
  · apply Int32.toInt_inj.mp
    rw [Int32.toInt_ofNat_of_lt (by show (x.toInt32.toInt % 64).toNat < _; omega)]
    show _ = (((x.toInt32.toInt % 64).toNat : Nat) : Int)
    omega
  · show ((x.toInt32.toInt % 64).toNat : Int) = _; omega
theorem own_tab : ∀ i j : Fin 64, i ≠ j → (((0 : Int64) ||| ((1 : Int64) <<< (Int32.ofNat i.val).toInt64)) &&& ((1 : Int64) <<< (Int32.ofNat j.val).toInt64)) = 0 := by decide +kernel
theorem own_tab1 : ∀ i : Fin 64, ¬ (((0 : Int64) ||| ((1 : Int64) <<< (Int32.ofNat i.val).toInt64)) &&& ((1 : Int64) <<< (Int32.ofNat i.val).toInt64)) = 0 := by decide +kernel
theorem own_bit (x : Int64) : ¬ (((0 : Int64) ||| bit x) &&& bit x) = 0 := by
  obtain ⟨k, hk, -⟩ := own_res x
  unfold bit
  rw [hk]
  exact own_tab1 k
theorem own_eqbit {x p : Int64} (e : x = p) : ¬ (((0 : Int64) ||| bit p) &&& bit x) = 0 := by subst e; exact own_bit _
theorem own_hit {x : Int64} {d : Value} (hn : ¬ widx x < 0) : getH [(widx x, .long ((0 : Int64) ||| bit x))] [] d (widx x).toNatClampNeg = .long ((0 : Int64) ||| bit x) := getH_hit hn rfl
theorem own_hit2 {x p : Int64} {d : Value} (e : x = p) (hn : ¬ widx x < 0) : getH [(widx p, .long ((0 : Int64) ||| bit p))] [] d (widx x).toNatClampNeg = .long ((0 : Int64) ||| bit p) := by subst e; exact own_hit hn
theorem own_miss {mm x p : Int64} (hM : 1 ≤ mm.toInt ∧ mm.toInt ≤ 4096) (hx : 0 ≤ x.toInt ∧ x.toInt < mm.toInt) (hp : 0 ≤ p.toInt ∧ p.toInt < mm.toInt) (hne : ¬ x = p) (hn : ¬ widx x < 0) :
    ∃ wv : Int64, getH [(widx p, .long ((0 : Int64) ||| bit p))] [] (.long (0 : Int64)) (widx x).toNatClampNeg = .long wv ∧ (wv &&& bit x) = 0 := by
  by_cases e : widx x = widx p
  · refine ⟨_, getH_hit hn e, ?_⟩
    obtain ⟨i, hi, ei⟩ := own_res p
    obtain ⟨j, hj, ej⟩ := own_res x
    have a := own_widx hx.1 (by omega)
    have b := own_widx hp.1 (by omega)
    have c1 := c_l2i x
    have c2 := c_l2i p
    have r1 := rng32 x.toInt32
    have r2 := rng32 p.toInt32
    rw [e] at a
    unfold bit
    rw [hi, hj]
    refine own_tab i j fun q => hne (Int64.toInt_inj.mp ?_)
    rw [q] at ei
    omega
  · exact ⟨0, getH_miss hn e rfl, own_z _⟩
theorem own_and (x : Int64) : 0 ≤ (x &&& (9223372036854775807 : Int64)).toInt := (c_andSL x 9223372036854775807).2.2 (by decide)
theorem own_rem (x : Int64) {mm qq : Int64} (hM : 1 ≤ mm.toInt ∧ mm.toInt ≤ 4096) (h : qq = x - (x / mm) * mm) (hx : 0 ≤ x.toInt) : 0 ≤ qq.toInt ∧ qq.toInt < mm.toInt := by
  rw [h, lrem_mod, Int64.toInt_mod]
  exact ⟨Int.tmod_nonneg _ hx, Int.tmod_lt_of_pos _ (by omega)⟩
theorem own_w {p : Int64} (hp : 0 ≤ p.toInt) (x : Int32) : 0 ≤ ((p &&& (-64 : Int64)) ||| ((x &&& (63 : Int32)).toInt64)).toInt := by
  have a := (c_andSL p (-64)).2.1 hp
  have b := c_and x 63 (by decide)
  have d := c_i2l (x &&& 63)
  exact (c_orSL _ _).1 a (by omega)
theorem own_cell (z : Int64) {mm : Int64} (hM : 1 ≤ mm.toInt ∧ mm.toInt ≤ 4096) : 0 ≤ (cellOf z mm).toInt ∧ (cellOf z mm).toInt < mm.toInt := by
  have hz := rng64 z
  have x1 := c_lshr z 32 32 (by decide)
  have y1 := c_lshr mm 32 32 (by decide)
  have x2 := c_maskL z 4294967295 32 (by decide) (by decide)
  have y2 := c_maskL mm 4294967295 32 (by decide) (by decide)
  unfold cellOf mulh
  generalize hX1 : z >>> ((32 : Int32) &&& 0x3f).toInt64 = X1 at *
  generalize hX2 : z &&& (4294967295 : Int64) = X2 at *
  generalize hY1 : mm >>> ((32 : Int32) &&& 0x3f).toInt64 = Y1 at *
  generalize hY2 : mm &&& (4294967295 : Int64) = Y2 at *
  have fY1 : Y1.toInt = 0 := by omega
  have fY2 : Y2.toInt = mm.toInt := by omega
  have bX1 : -2147483648 ≤ X1.toInt ∧ X1.toInt ≤ 2147483647 := by omega
  have bX2 : 0 ≤ X2.toInt ∧ X2.toInt ≤ 4294967295 := by omega
  have z1 : X2 * Y1 = 0 := Int64.toInt_inj.mp (by rw [Int64.toInt_mul, fY1, Int.mul_zero]; decide)
  have z2 : X1 * Y1 = 0 := Int64.toInt_inj.mp (by rw [Int64.toInt_mul, fY1, Int.mul_zero]; decide)
  rw [z1, z2]
  have m1 : -2147483648 * mm.toInt ≤ X1.toInt * mm.toInt := Int.mul_le_mul_of_nonneg_right bX1.1 (by omega)
  have m2 : X1.toInt * mm.toInt ≤ 2147483647 * mm.toInt := Int.mul_le_mul_of_nonneg_right bX1.2 (by omega)
  have m3 : 0 ≤ X2.toInt * mm.toInt := Int.mul_nonneg bX2.1 (by omega)
  have m4 : X2.toInt * mm.toInt ≤ 4294967295 * mm.toInt := Int.mul_le_mul_of_nonneg_right bX2.2 (by omega)
  have m5 : X1.toInt < 0 → X1.toInt * mm.toInt ≤ -1 * mm.toInt := fun h => Int.mul_le_mul_of_nonneg_right (by omega) (by omega)
  have m6 : 0 ≤ X1.toInt → 0 ≤ X1.toInt * mm.toInt := fun h => Int.mul_nonneg h (by omega)
  have p1 := c_lmul X2 Y2
  have p2 := c_lmul X1 Y2
  rw [fY2] at p1 p2
  have rp1 := rng64 (X2 * Y2)
  have rp2 := rng64 (X1 * Y2)
  generalize X2.toInt * mm.toInt = B at *
  generalize X1.toInt * mm.toInt = A at *
  have eP1 : (X2 * Y2).toInt = B := by omega
  have eP2 : (X1 * Y2).toInt = A := by omega
  have u1 := c_lushr (X2 * Y2) 32 32 (by decide) (by decide)
  have t1 := c_ladd (X1 * Y2) (((X2 * Y2).toUInt64 >>> ((32 : Int32) &&& 0x3f).toInt64.toUInt64).toInt64)
  have rt := rng64 ((X1 * Y2) + ((X2 * Y2).toUInt64 >>> ((32 : Int32) &&& 0x3f).toInt64.toUInt64).toInt64)
  generalize hT : (X1 * Y2) + ((X2 * Y2).toUInt64 >>> ((32 : Int32) &&& 0x3f).toInt64.toUInt64).toInt64 = T at *
  have eT : T.toInt = A + B / 4294967296 := by omega
  have k1 := c_maskL T 4294967295 32 (by decide) (by decide)
  have k2 := c_lshr T 32 32 (by decide)
  have a0 : (T &&& (4294967295 : Int64)) + 0 = (T &&& (4294967295 : Int64)) := Int64.add_zero _
  rw [a0]
  have k3 := c_lshr (T &&& (4294967295 : Int64)) 32 32 (by decide)
  have b1 := c_ladd 0 (T >>> ((32 : Int32) &&& 0x3f).toInt64)
  have b2 := c_ladd (0 + (T >>> ((32 : Int32) &&& 0x3f).toInt64)) ((T &&& (4294967295 : Int64)) >>> ((32 : Int32) &&& 0x3f).toInt64)
  have rb1 := rng64 (0 + (T >>> ((32 : Int32) &&& 0x3f).toInt64))
  have rb2 := rng64 ((0 + (T >>> ((32 : Int32) &&& 0x3f).toInt64)) + ((T &&& (4294967295 : Int64)) >>> ((32 : Int32) &&& 0x3f).toInt64))
  rw [show (0 : Int64).toInt = 0 from by decide] at b1
  have hj : (0 + (T >>> ((32 : Int32) &&& 0x3f).toInt64)).toInt = T.toInt / 4294967296 := by omega
  have hi : ((T &&& (4294967295 : Int64)) >>> ((32 : Int32) &&& 0x3f).toInt64).toInt = 0 := by omega
  have hs : ((0 + (T >>> ((32 : Int32) &&& 0x3f).toInt64)) + ((T &&& (4294967295 : Int64)) >>> ((32 : Int32) &&& 0x3f).toInt64)).toInt = T.toInt / 4294967296 := by omega
  clear b1 b2 rb1 rb2 k1 k2 k3 hj hi u1 t1
  have s63 := c_lshr z 63 63 (by decide)
  have fin := c_ladd ((0 + (T >>> ((32 : Int32) &&& 0x3f).toInt64)) + ((T &&& (4294967295 : Int64)) >>> ((32 : Int32) &&& 0x3f).toInt64)) ((z >>> ((63 : Int32) &&& 0x3f).toInt64) &&& mm)
  have rfin := rng64 (((0 + (T >>> ((32 : Int32) &&& 0x3f).toInt64)) + ((T &&& (4294967295 : Int64)) >>> ((32 : Int32) &&& 0x3f).toInt64)) + ((z >>> ((63 : Int32) &&& 0x3f).toInt64) &&& mm))
  by_cases hneg : z.toInt < 0
  · have e : z >>> ((63 : Int32) &&& 0x3f).toInt64 = -1 := Int64.toInt_inj.mp (by rw [show (-1 : Int64).toInt = -1 from by decide]; omega)
    rw [e] at fin rfin ⊢
    have e2 : (-1 : Int64) &&& mm = mm := by
      apply Int64.toBitVec_inj.mp
      rw [Int64.toBitVec_and]
      show BitVec.allOnes 64 &&& _ = _
      exact BitVec.allOnes_and
    rw [e2] at fin rfin ⊢
    have hx1 : X1.toInt < 0 := by omega
    have := m5 hx1
    have hTb : -mm.toInt ≤ T.toInt / 4294967296 ∧ T.toInt / 4294967296 < 0 := by omega
    have hw : ((0 + (T >>> ((32 : Int32) &&& 0x3f).toInt64)) + ((T &&& (4294967295 : Int64)) >>> ((32 : Int32) &&& 0x3f).toInt64) + mm).toInt = T.toInt / 4294967296 + mm.toInt := by omega
    omega
  · have e : z >>> ((63 : Int32) &&& 0x3f).toInt64 = 0 := Int64.toInt_inj.mp (by rw [show (0 : Int64).toInt = 0 from by decide]; omega)
    rw [e, own_z] at fin rfin
    rw [e, own_z]
    rw [show (0 : Int64).toInt = 0 from by decide] at fin
    have hx1 : 0 ≤ X1.toInt := by omega
    have := m6 hx1
    have hTb : 0 ≤ T.toInt ∧ T.toInt / 4294967296 < Y2.toInt := by omega
    omega
theorem ef_R_1 (m : MethodId) (x0 : Addr) : entryFrame m #[(.ref x0)] 1 = mkF m 0 #[.val (.ref x0)] [] := by first | (simp [entryFrame, mkF, argsToLocals, Value.category, maxLocals]; done) | rfl
theorem pn_java_lang_Record : plainName "java/lang/Record" = true := by first | (simp [plainName, overriddenIn]; done) | decide +kernel
theorem d0_0 : decode jdk_30_method_1_code 0 = .ok (.aload_n 0, 1) := by decide +kernel
theorem d0_1 : decode jdk_30_method_1_code 1 = .ok (.invokespecial 1, 3) := by decide +kernel
theorem d0_4 : decode jdk_30_method_1_code 4 = .ok (.return_, 1) := by decide +kernel
theorem ef_JI_3 (m : MethodId) (x0 : Int64) (x1 : Int32) : entryFrame m #[(.long x0), (.int x1)] 3 = mkF m 0 #[.val (.long x0), .second, .val (.int x1)] [] := by first | (simp [entryFrame, mkF, argsToLocals, Value.category, maxLocals]; done) | rfl
theorem pn_java_lang_Long : plainName "java/lang/Long" = true := by first | (simp [plainName, overriddenIn]; done) | decide +kernel
theorem d1_0 : decode jdk_35_method_51_code 0 = .ok (.lload_n 0, 1) := by decide +kernel
theorem d1_1 : decode jdk_35_method_51_code 1 = .ok (.iload_n 2, 1) := by decide +kernel
theorem d1_2 : decode jdk_35_method_51_code 2 = .ok (.lshl, 1) := by decide +kernel
theorem d1_3 : decode jdk_35_method_51_code 3 = .ok (.lload_n 0, 1) := by decide +kernel
theorem d1_4 : decode jdk_35_method_51_code 4 = .ok (.iload_n 2, 1) := by decide +kernel
theorem d1_5 : decode jdk_35_method_51_code 5 = .ok (.ineg, 1) := by decide +kernel
theorem d1_6 : decode jdk_35_method_51_code 6 = .ok (.lushr, 1) := by decide +kernel
theorem d1_7 : decode jdk_35_method_51_code 7 = .ok (.lor, 1) := by decide +kernel
theorem d1_8 : decode jdk_35_method_51_code 8 = .ok (.lreturn, 1) := by decide +kernel
theorem ef_RI_3 (m : MethodId) (x0 : Addr) (x1 : Int32) : entryFrame m #[(.ref x0), (.int x1)] 3 = mkF m 0 #[.val (.ref x0), .val (.int x1), .unset] [] := by first | (simp [entryFrame, mkF, argsToLocals, Value.category, maxLocals]; done) | rfl
theorem pn_com_example_waban_waban_ItemHash_SipState : plainName "com/example/waban/waban/ItemHash$SipState" = true := by first | (simp [plainName, overriddenIn]; done) | decide +kernel
theorem d2_0 : decode prog_13_method_7_code 0 = .ok (.iconst 0, 1) := by decide +kernel
theorem d2_1 : decode prog_13_method_7_code 1 = .ok (.istore_n 2, 1) := by decide +kernel
theorem d2_2 : decode prog_13_method_7_code 2 = .ok (.iload_n 2, 1) := by decide +kernel
theorem d2_3 : decode prog_13_method_7_code 3 = .ok (.iload_n 1, 1) := by decide +kernel
theorem d2_4 : decode prog_13_method_7_code 4 = .ok (.if_icmp .ge 191, 3) := by decide +kernel
theorem d2_7 : decode prog_13_method_7_code 7 = .ok (.aload_n 0, 1) := by decide +kernel
theorem d2_8 : decode prog_13_method_7_code 8 = .ok (.dup, 1) := by decide +kernel
theorem d2_9 : decode prog_13_method_7_code 9 = .ok (.getfield 9, 3) := by decide +kernel
theorem d2_12 : decode prog_13_method_7_code 12 = .ok (.aload_n 0, 1) := by decide +kernel
theorem d2_13 : decode prog_13_method_7_code 13 = .ok (.getfield 19, 3) := by decide +kernel
theorem d2_16 : decode prog_13_method_7_code 16 = .ok (.ladd, 1) := by decide +kernel
theorem d2_17 : decode prog_13_method_7_code 17 = .ok (.putfield 9, 3) := by decide +kernel
theorem d2_20 : decode prog_13_method_7_code 20 = .ok (.aload_n 0, 1) := by decide +kernel
theorem d2_21 : decode prog_13_method_7_code 21 = .ok (.aload_n 0, 1) := by decide +kernel
theorem d2_22 : decode prog_13_method_7_code 22 = .ok (.getfield 19, 3) := by decide +kernel
theorem d2_25 : decode prog_13_method_7_code 25 = .ok (.bipush 13, 2) := by decide +kernel
theorem d2_27 : decode prog_13_method_7_code 27 = .ok (.invokestatic 72, 3) := by decide +kernel
theorem pd__JI_J : parseMethodDescriptor "(JI)J" = some ⟨[.long, .int], some .long⟩ := by decide +kernel
theorem d2_30 : decode prog_13_method_7_code 30 = .ok (.putfield 19, 3) := by decide +kernel
theorem d2_33 : decode prog_13_method_7_code 33 = .ok (.aload_n 0, 1) := by decide +kernel
theorem d2_34 : decode prog_13_method_7_code 34 = .ok (.dup, 1) := by decide +kernel
theorem d2_35 : decode prog_13_method_7_code 35 = .ok (.getfield 19, 3) := by decide +kernel
theorem d2_38 : decode prog_13_method_7_code 38 = .ok (.aload_n 0, 1) := by decide +kernel
theorem d2_39 : decode prog_13_method_7_code 39 = .ok (.getfield 9, 3) := by decide +kernel
theorem d2_42 : decode prog_13_method_7_code 42 = .ok (.lxor, 1) := by decide +kernel
theorem d2_43 : decode prog_13_method_7_code 43 = .ok (.putfield 19, 3) := by decide +kernel
theorem d2_46 : decode prog_13_method_7_code 46 = .ok (.aload_n 0, 1) := by decide +kernel
theorem d2_47 : decode prog_13_method_7_code 47 = .ok (.aload_n 0, 1) := by decide +kernel
theorem d2_48 : decode prog_13_method_7_code 48 = .ok (.getfield 9, 3) := by decide +kernel
theorem d2_51 : decode prog_13_method_7_code 51 = .ok (.bipush 32, 2) := by decide +kernel
theorem d2_53 : decode prog_13_method_7_code 53 = .ok (.invokestatic 72, 3) := by decide +kernel
theorem d2_56 : decode prog_13_method_7_code 56 = .ok (.putfield 9, 3) := by decide +kernel
theorem d2_59 : decode prog_13_method_7_code 59 = .ok (.aload_n 0, 1) := by decide +kernel
theorem d2_60 : decode prog_13_method_7_code 60 = .ok (.dup, 1) := by decide +kernel
theorem d2_61 : decode prog_13_method_7_code 61 = .ok (.getfield 24, 3) := by decide +kernel
theorem d2_64 : decode prog_13_method_7_code 64 = .ok (.aload_n 0, 1) := by decide +kernel
theorem d2_65 : decode prog_13_method_7_code 65 = .ok (.getfield 29, 3) := by decide +kernel
theorem d2_68 : decode prog_13_method_7_code 68 = .ok (.ladd, 1) := by decide +kernel
theorem d2_69 : decode prog_13_method_7_code 69 = .ok (.putfield 24, 3) := by decide +kernel
theorem d2_72 : decode prog_13_method_7_code 72 = .ok (.aload_n 0, 1) := by decide +kernel
theorem d2_73 : decode prog_13_method_7_code 73 = .ok (.aload_n 0, 1) := by decide +kernel
theorem d2_74 : decode prog_13_method_7_code 74 = .ok (.getfield 29, 3) := by decide +kernel
theorem d2_77 : decode prog_13_method_7_code 77 = .ok (.bipush 16, 2) := by decide +kernel
theorem d2_79 : decode prog_13_method_7_code 79 = .ok (.invokestatic 72, 3) := by decide +kernel
theorem d2_82 : decode prog_13_method_7_code 82 = .ok (.putfield 29, 3) := by decide +kernel
theorem d2_85 : decode prog_13_method_7_code 85 = .ok (.aload_n 0, 1) := by decide +kernel
theorem d2_86 : decode prog_13_method_7_code 86 = .ok (.dup, 1) := by decide +kernel
theorem d2_87 : decode prog_13_method_7_code 87 = .ok (.getfield 29, 3) := by decide +kernel
theorem d2_90 : decode prog_13_method_7_code 90 = .ok (.aload_n 0, 1) := by decide +kernel
theorem d2_91 : decode prog_13_method_7_code 91 = .ok (.getfield 24, 3) := by decide +kernel
theorem d2_94 : decode prog_13_method_7_code 94 = .ok (.lxor, 1) := by decide +kernel
theorem d2_95 : decode prog_13_method_7_code 95 = .ok (.putfield 29, 3) := by decide +kernel
theorem d2_98 : decode prog_13_method_7_code 98 = .ok (.aload_n 0, 1) := by decide +kernel
theorem d2_99 : decode prog_13_method_7_code 99 = .ok (.dup, 1) := by decide +kernel
theorem d2_100 : decode prog_13_method_7_code 100 = .ok (.getfield 9, 3) := by decide +kernel
theorem d2_103 : decode prog_13_method_7_code 103 = .ok (.aload_n 0, 1) := by decide +kernel
theorem d2_104 : decode prog_13_method_7_code 104 = .ok (.getfield 29, 3) := by decide +kernel
theorem d2_107 : decode prog_13_method_7_code 107 = .ok (.ladd, 1) := by decide +kernel
theorem d2_108 : decode prog_13_method_7_code 108 = .ok (.putfield 9, 3) := by decide +kernel
theorem d2_111 : decode prog_13_method_7_code 111 = .ok (.aload_n 0, 1) := by decide +kernel
theorem d2_112 : decode prog_13_method_7_code 112 = .ok (.aload_n 0, 1) := by decide +kernel
theorem d2_113 : decode prog_13_method_7_code 113 = .ok (.getfield 29, 3) := by decide +kernel
theorem d2_116 : decode prog_13_method_7_code 116 = .ok (.bipush 21, 2) := by decide +kernel
theorem d2_118 : decode prog_13_method_7_code 118 = .ok (.invokestatic 72, 3) := by decide +kernel
theorem d2_121 : decode prog_13_method_7_code 121 = .ok (.putfield 29, 3) := by decide +kernel
theorem d2_124 : decode prog_13_method_7_code 124 = .ok (.aload_n 0, 1) := by decide +kernel
theorem d2_125 : decode prog_13_method_7_code 125 = .ok (.dup, 1) := by decide +kernel
theorem d2_126 : decode prog_13_method_7_code 126 = .ok (.getfield 29, 3) := by decide +kernel
theorem d2_129 : decode prog_13_method_7_code 129 = .ok (.aload_n 0, 1) := by decide +kernel
theorem d2_130 : decode prog_13_method_7_code 130 = .ok (.getfield 9, 3) := by decide +kernel
theorem d2_133 : decode prog_13_method_7_code 133 = .ok (.lxor, 1) := by decide +kernel
theorem d2_134 : decode prog_13_method_7_code 134 = .ok (.putfield 29, 3) := by decide +kernel
theorem d2_137 : decode prog_13_method_7_code 137 = .ok (.aload_n 0, 1) := by decide +kernel
theorem d2_138 : decode prog_13_method_7_code 138 = .ok (.dup, 1) := by decide +kernel
theorem d2_139 : decode prog_13_method_7_code 139 = .ok (.getfield 24, 3) := by decide +kernel
theorem d2_142 : decode prog_13_method_7_code 142 = .ok (.aload_n 0, 1) := by decide +kernel
theorem d2_143 : decode prog_13_method_7_code 143 = .ok (.getfield 19, 3) := by decide +kernel
theorem d2_146 : decode prog_13_method_7_code 146 = .ok (.ladd, 1) := by decide +kernel
theorem d2_147 : decode prog_13_method_7_code 147 = .ok (.putfield 24, 3) := by decide +kernel
theorem d2_150 : decode prog_13_method_7_code 150 = .ok (.aload_n 0, 1) := by decide +kernel
theorem d2_151 : decode prog_13_method_7_code 151 = .ok (.aload_n 0, 1) := by decide +kernel
theorem d2_152 : decode prog_13_method_7_code 152 = .ok (.getfield 19, 3) := by decide +kernel
theorem d2_155 : decode prog_13_method_7_code 155 = .ok (.bipush 17, 2) := by decide +kernel
theorem d2_157 : decode prog_13_method_7_code 157 = .ok (.invokestatic 72, 3) := by decide +kernel
theorem d2_160 : decode prog_13_method_7_code 160 = .ok (.putfield 19, 3) := by decide +kernel
theorem d2_163 : decode prog_13_method_7_code 163 = .ok (.aload_n 0, 1) := by decide +kernel
theorem d2_164 : decode prog_13_method_7_code 164 = .ok (.dup, 1) := by decide +kernel
theorem d2_165 : decode prog_13_method_7_code 165 = .ok (.getfield 19, 3) := by decide +kernel
theorem d2_168 : decode prog_13_method_7_code 168 = .ok (.aload_n 0, 1) := by decide +kernel
theorem d2_169 : decode prog_13_method_7_code 169 = .ok (.getfield 24, 3) := by decide +kernel
theorem d2_172 : decode prog_13_method_7_code 172 = .ok (.lxor, 1) := by decide +kernel
theorem d2_173 : decode prog_13_method_7_code 173 = .ok (.putfield 19, 3) := by decide +kernel
theorem d2_176 : decode prog_13_method_7_code 176 = .ok (.aload_n 0, 1) := by decide +kernel
theorem d2_177 : decode prog_13_method_7_code 177 = .ok (.aload_n 0, 1) := by decide +kernel
theorem d2_178 : decode prog_13_method_7_code 178 = .ok (.getfield 24, 3) := by decide +kernel
theorem d2_181 : decode prog_13_method_7_code 181 = .ok (.bipush 32, 2) := by decide +kernel
theorem d2_183 : decode prog_13_method_7_code 183 = .ok (.invokestatic 72, 3) := by decide +kernel
theorem d2_186 : decode prog_13_method_7_code 186 = .ok (.putfield 24, 3) := by decide +kernel
theorem d2_189 : decode prog_13_method_7_code 189 = .ok (.iinc 2 1, 3) := by decide +kernel
theorem d2_192 : decode prog_13_method_7_code 192 = .ok (.goto (-190), 3) := by decide +kernel
theorem d2_195 : decode prog_13_method_7_code 195 = .ok (.return_, 1) := by decide +kernel
theorem ef_RJJ_5 (m : MethodId) (x0 : Addr) (x1 : Int64) (x2 : Int64) : entryFrame m #[(.ref x0), (.long x1), (.long x2)] 5 = mkF m 0 #[.val (.ref x0), .val (.long x1), .second, .val (.long x2), .second] [] := by first | (simp [entryFrame, mkF, argsToLocals, Value.category, maxLocals]; done) | rfl
theorem d3_0 : decode prog_13_method_1_code 0 = .ok (.aload_n 0, 1) := by decide +kernel
theorem d3_1 : decode prog_13_method_1_code 1 = .ok (.invokespecial 1, 3) := by decide +kernel
theorem d3_4 : decode prog_13_method_1_code 4 = .ok (.aload_n 0, 1) := by decide +kernel
theorem d3_5 : decode prog_13_method_1_code 5 = .ok (.lload_n 1, 1) := by decide +kernel
theorem d3_6 : decode prog_13_method_1_code 6 = .ok (.ldc2_w 7, 3) := by decide +kernel
theorem d3_9 : decode prog_13_method_1_code 9 = .ok (.lxor, 1) := by decide +kernel
theorem d3_10 : decode prog_13_method_1_code 10 = .ok (.putfield 9, 3) := by decide +kernel
theorem d3_13 : decode prog_13_method_1_code 13 = .ok (.aload_n 0, 1) := by decide +kernel
theorem d3_14 : decode prog_13_method_1_code 14 = .ok (.lload_n 3, 1) := by decide +kernel
theorem d3_15 : decode prog_13_method_1_code 15 = .ok (.ldc2_w 15, 3) := by decide +kernel
theorem d3_18 : decode prog_13_method_1_code 18 = .ok (.lxor, 1) := by decide +kernel
theorem d3_19 : decode prog_13_method_1_code 19 = .ok (.ldc2_w 17, 3) := by decide +kernel
theorem d3_22 : decode prog_13_method_1_code 22 = .ok (.lxor, 1) := by decide +kernel
theorem d3_23 : decode prog_13_method_1_code 23 = .ok (.putfield 19, 3) := by decide +kernel
theorem d3_26 : decode prog_13_method_1_code 26 = .ok (.aload_n 0, 1) := by decide +kernel
theorem d3_27 : decode prog_13_method_1_code 27 = .ok (.lload_n 1, 1) := by decide +kernel
theorem d3_28 : decode prog_13_method_1_code 28 = .ok (.ldc2_w 22, 3) := by decide +kernel
theorem d3_31 : decode prog_13_method_1_code 31 = .ok (.lxor, 1) := by decide +kernel
theorem d3_32 : decode prog_13_method_1_code 32 = .ok (.putfield 24, 3) := by decide +kernel
theorem d3_35 : decode prog_13_method_1_code 35 = .ok (.aload_n 0, 1) := by decide +kernel
theorem d3_36 : decode prog_13_method_1_code 36 = .ok (.lload_n 3, 1) := by decide +kernel
theorem d3_37 : decode prog_13_method_1_code 37 = .ok (.ldc2_w 27, 3) := by decide +kernel
theorem d3_40 : decode prog_13_method_1_code 40 = .ok (.lxor, 1) := by decide +kernel
theorem d3_41 : decode prog_13_method_1_code 41 = .ok (.putfield 29, 3) := by decide +kernel
theorem d3_44 : decode prog_13_method_1_code 44 = .ok (.return_, 1) := by decide +kernel
theorem ef_RJ_3 (m : MethodId) (x0 : Addr) (x1 : Int64) : entryFrame m #[(.ref x0), (.long x1)] 3 = mkF m 0 #[.val (.ref x0), .val (.long x1), .second] [] := by first | (simp [entryFrame, mkF, argsToLocals, Value.category, maxLocals]; done) | rfl
theorem d4_0 : decode prog_13_method_2_code 0 = .ok (.aload_n 0, 1) := by decide +kernel
theorem d4_1 : decode prog_13_method_2_code 1 = .ok (.dup, 1) := by decide +kernel
theorem d4_2 : decode prog_13_method_2_code 2 = .ok (.getfield 29, 3) := by decide +kernel
theorem d4_5 : decode prog_13_method_2_code 5 = .ok (.lload_n 1, 1) := by decide +kernel
theorem d4_6 : decode prog_13_method_2_code 6 = .ok (.lxor, 1) := by decide +kernel
theorem d4_7 : decode prog_13_method_2_code 7 = .ok (.putfield 29, 3) := by decide +kernel
theorem d4_10 : decode prog_13_method_2_code 10 = .ok (.aload_n 0, 1) := by decide +kernel
theorem d4_11 : decode prog_13_method_2_code 11 = .ok (.iconst 2, 1) := by decide +kernel
theorem d4_12 : decode prog_13_method_2_code 12 = .ok (.invokevirtual 32, 3) := by decide +kernel
theorem pd__I_V : parseMethodDescriptor "(I)V" = some ⟨[.int], none⟩ := by decide +kernel
theorem d4_15 : decode prog_13_method_2_code 15 = .ok (.aload_n 0, 1) := by decide +kernel
theorem d4_16 : decode prog_13_method_2_code 16 = .ok (.dup, 1) := by decide +kernel
theorem d4_17 : decode prog_13_method_2_code 17 = .ok (.getfield 9, 3) := by decide +kernel
theorem d4_20 : decode prog_13_method_2_code 20 = .ok (.lload_n 1, 1) := by decide +kernel
theorem d4_21 : decode prog_13_method_2_code 21 = .ok (.lxor, 1) := by decide +kernel
theorem d4_22 : decode prog_13_method_2_code 22 = .ok (.putfield 9, 3) := by decide +kernel
theorem d4_25 : decode prog_13_method_2_code 25 = .ok (.return_, 1) := by decide +kernel
theorem d5_0 : decode prog_13_method_5_code 0 = .ok (.aload_n 0, 1) := by decide +kernel
theorem d5_1 : decode prog_13_method_5_code 1 = .ok (.dup, 1) := by decide +kernel
theorem d5_2 : decode prog_13_method_5_code 2 = .ok (.getfield 24, 3) := by decide +kernel
theorem d5_5 : decode prog_13_method_5_code 5 = .ok (.ldc2_w 17, 3) := by decide +kernel
theorem d5_8 : decode prog_13_method_5_code 8 = .ok (.lxor, 1) := by decide +kernel
theorem d5_9 : decode prog_13_method_5_code 9 = .ok (.putfield 24, 3) := by decide +kernel
theorem d5_12 : decode prog_13_method_5_code 12 = .ok (.aload_n 0, 1) := by decide +kernel
theorem d5_13 : decode prog_13_method_5_code 13 = .ok (.iconst 4, 1) := by decide +kernel
theorem d5_14 : decode prog_13_method_5_code 14 = .ok (.invokevirtual 32, 3) := by decide +kernel
theorem d5_17 : decode prog_13_method_5_code 17 = .ok (.aload_n 0, 1) := by decide +kernel
theorem d5_18 : decode prog_13_method_5_code 18 = .ok (.getfield 9, 3) := by decide +kernel
theorem d5_21 : decode prog_13_method_5_code 21 = .ok (.aload_n 0, 1) := by decide +kernel
theorem d5_22 : decode prog_13_method_5_code 22 = .ok (.getfield 19, 3) := by decide +kernel
theorem d5_25 : decode prog_13_method_5_code 25 = .ok (.lxor, 1) := by decide +kernel
theorem d5_26 : decode prog_13_method_5_code 26 = .ok (.aload_n 0, 1) := by decide +kernel
theorem d5_27 : decode prog_13_method_5_code 27 = .ok (.getfield 24, 3) := by decide +kernel
theorem d5_30 : decode prog_13_method_5_code 30 = .ok (.lxor, 1) := by decide +kernel
theorem d5_31 : decode prog_13_method_5_code 31 = .ok (.aload_n 0, 1) := by decide +kernel
theorem d5_32 : decode prog_13_method_5_code 32 = .ok (.getfield 29, 3) := by decide +kernel
theorem d5_35 : decode prog_13_method_5_code 35 = .ok (.lxor, 1) := by decide +kernel
theorem d5_36 : decode prog_13_method_5_code 36 = .ok (.lreturn, 1) := by decide +kernel
theorem d6_0 : decode prog_13_method_6_code 0 = .ok (.aload_n 0, 1) := by decide +kernel
theorem d6_1 : decode prog_13_method_6_code 1 = .ok (.dup, 1) := by decide +kernel
theorem d6_2 : decode prog_13_method_6_code 2 = .ok (.getfield 19, 3) := by decide +kernel
theorem d6_5 : decode prog_13_method_6_code 5 = .ok (.ldc2_w 70, 3) := by decide +kernel
theorem d6_8 : decode prog_13_method_6_code 8 = .ok (.lxor, 1) := by decide +kernel
theorem d6_9 : decode prog_13_method_6_code 9 = .ok (.putfield 19, 3) := by decide +kernel
theorem d6_12 : decode prog_13_method_6_code 12 = .ok (.aload_n 0, 1) := by decide +kernel
theorem d6_13 : decode prog_13_method_6_code 13 = .ok (.iconst 4, 1) := by decide +kernel
theorem d6_14 : decode prog_13_method_6_code 14 = .ok (.invokevirtual 32, 3) := by decide +kernel
theorem d6_17 : decode prog_13_method_6_code 17 = .ok (.aload_n 0, 1) := by decide +kernel
theorem d6_18 : decode prog_13_method_6_code 18 = .ok (.getfield 9, 3) := by decide +kernel
theorem d6_21 : decode prog_13_method_6_code 21 = .ok (.aload_n 0, 1) := by decide +kernel
theorem d6_22 : decode prog_13_method_6_code 22 = .ok (.getfield 19, 3) := by decide +kernel
theorem d6_25 : decode prog_13_method_6_code 25 = .ok (.lxor, 1) := by decide +kernel
theorem d6_26 : decode prog_13_method_6_code 26 = .ok (.aload_n 0, 1) := by decide +kernel
theorem d6_27 : decode prog_13_method_6_code 27 = .ok (.getfield 24, 3) := by decide +kernel
theorem d6_30 : decode prog_13_method_6_code 30 = .ok (.lxor, 1) := by decide +kernel
theorem d6_31 : decode prog_13_method_6_code 31 = .ok (.aload_n 0, 1) := by decide +kernel
theorem d6_32 : decode prog_13_method_6_code 32 = .ok (.getfield 29, 3) := by decide +kernel
theorem d6_35 : decode prog_13_method_6_code 35 = .ok (.lxor, 1) := by decide +kernel
theorem d6_36 : decode prog_13_method_6_code 36 = .ok (.lreturn, 1) := by decide +kernel
theorem pn_com_example_waban_waban_Hash128 : plainName "com/example/waban/waban/Hash128" = true := by first | (simp [plainName, overriddenIn]; done) | decide +kernel
theorem d7_0 : decode prog_10_method_1_code 0 = .ok (.aload_n 0, 1) := by decide +kernel
theorem d7_1 : decode prog_10_method_1_code 1 = .ok (.invokespecial 1, 3) := by decide +kernel
theorem pd___V : parseMethodDescriptor "()V" = some ⟨[], none⟩ := by decide +kernel
theorem d7_4 : decode prog_10_method_1_code 4 = .ok (.aload_n 0, 1) := by decide +kernel
theorem d7_5 : decode prog_10_method_1_code 5 = .ok (.lload_n 1, 1) := by decide +kernel
theorem d7_6 : decode prog_10_method_1_code 6 = .ok (.putfield 7, 3) := by decide +kernel
theorem d7_9 : decode prog_10_method_1_code 9 = .ok (.aload_n 0, 1) := by decide +kernel
theorem d7_10 : decode prog_10_method_1_code 10 = .ok (.lload_n 3, 1) := by decide +kernel
theorem d7_11 : decode prog_10_method_1_code 11 = .ok (.putfield 13, 3) := by decide +kernel
theorem d7_14 : decode prog_10_method_1_code 14 = .ok (.return_, 1) := by decide +kernel
theorem d8_0 : decode prog_13_method_4_code 0 = .ok (.new 58, 3) := by decide +kernel
theorem d8_3 : decode prog_13_method_4_code 3 = .ok (.dup, 1) := by decide +kernel
theorem d8_4 : decode prog_13_method_4_code 4 = .ok (.aload_n 0, 1) := by decide +kernel
theorem d8_5 : decode prog_13_method_4_code 5 = .ok (.invokevirtual 60, 3) := by decide +kernel
theorem pd___J : parseMethodDescriptor "()J" = some ⟨[], some .long⟩ := by decide +kernel
theorem d8_8 : decode prog_13_method_4_code 8 = .ok (.aload_n 0, 1) := by decide +kernel
theorem d8_9 : decode prog_13_method_4_code 9 = .ok (.invokevirtual 64, 3) := by decide +kernel
theorem d8_12 : decode prog_13_method_4_code 12 = .ok (.invokespecial 67, 3) := by decide +kernel
theorem pd__JJ_V : parseMethodDescriptor "(JJ)V" = some ⟨[.long, .long], none⟩ := by decide +kernel
theorem d8_15 : decode prog_13_method_4_code 15 = .ok (.areturn, 1) := by decide +kernel
theorem ef_IJ_3 (m : MethodId) (x0 : Int32) (x1 : Int64) : entryFrame m #[(.int x0), (.long x1)] 3 = mkF m 0 #[.val (.int x0), .val (.long x1), .second] [] := by first | (simp [entryFrame, mkF, argsToLocals, Value.category, maxLocals]; done) | rfl
theorem pn_com_example_waban_waban_ItemHash : plainName "com/example/waban/waban/ItemHash" = true := by first | (simp [plainName, overriddenIn]; done) | decide +kernel
theorem d9_0 : decode prog_11_method_14_code 0 = .ok (.iload_n 0, 1) := by decide +kernel
theorem d9_1 : decode prog_11_method_14_code 1 = .ok (.i2l, 1) := by decide +kernel
theorem d9_2 : decode prog_11_method_14_code 2 = .ok (.bipush 56, 2) := by decide +kernel
theorem d9_4 : decode prog_11_method_14_code 4 = .ok (.lshl, 1) := by decide +kernel
theorem d9_5 : decode prog_11_method_14_code 5 = .ok (.lload_n 1, 1) := by decide +kernel
theorem d9_6 : decode prog_11_method_14_code 6 = .ok (.lor, 1) := by decide +kernel
theorem d9_7 : decode prog_11_method_14_code 7 = .ok (.lreturn, 1) := by decide +kernel
theorem ef_RJ_4 (m : MethodId) (x0 : Addr) (x1 : Int64) : entryFrame m #[(.ref x0), (.long x1)] 4 = mkF m 0 #[.val (.ref x0), .val (.long x1), .second, .unset] [] := by first | (simp [entryFrame, mkF, argsToLocals, Value.category, maxLocals]; done) | rfl
theorem d10_0 : decode prog_11_method_5_code 0 = .ok (.new 25, 3) := by decide +kernel
theorem d10_3 : decode prog_11_method_5_code 3 = .ok (.dup, 1) := by decide +kernel
theorem d10_4 : decode prog_11_method_5_code 4 = .ok (.aload_n 0, 1) := by decide +kernel
theorem d10_5 : decode prog_11_method_5_code 5 = .ok (.getfield 7, 3) := by decide +kernel
theorem d10_8 : decode prog_11_method_5_code 8 = .ok (.aload_n 0, 1) := by decide +kernel
theorem d10_9 : decode prog_11_method_5_code 9 = .ok (.getfield 7, 3) := by decide +kernel
theorem d10_12 : decode prog_11_method_5_code 12 = .ok (.invokespecial 27, 3) := by decide +kernel
theorem d10_15 : decode prog_11_method_5_code 15 = .ok (.astore_n 3, 1) := by decide +kernel
theorem d10_16 : decode prog_11_method_5_code 16 = .ok (.aload_n 3, 1) := by decide +kernel
theorem d10_17 : decode prog_11_method_5_code 17 = .ok (.lload_n 1, 1) := by decide +kernel
theorem d10_18 : decode prog_11_method_5_code 18 = .ok (.invokevirtual 30, 3) := by decide +kernel
theorem pd__J_V : parseMethodDescriptor "(J)V" = some ⟨[.long], none⟩ := by decide +kernel
theorem d10_21 : decode prog_11_method_5_code 21 = .ok (.aload_n 3, 1) := by decide +kernel
theorem d10_22 : decode prog_11_method_5_code 22 = .ok (.bipush 8, 2) := by decide +kernel
theorem d10_24 : decode prog_11_method_5_code 24 = .ok (.lconst 0, 1) := by decide +kernel
theorem d10_25 : decode prog_11_method_5_code 25 = .ok (.invokestatic 36, 3) := by decide +kernel
theorem pd__IJ_J : parseMethodDescriptor "(IJ)J" = some ⟨[.int, .long], some .long⟩ := by decide +kernel
theorem d10_28 : decode prog_11_method_5_code 28 = .ok (.invokevirtual 30, 3) := by decide +kernel
theorem d10_31 : decode prog_11_method_5_code 31 = .ok (.aload_n 3, 1) := by decide +kernel
theorem d10_32 : decode prog_11_method_5_code 32 = .ok (.invokevirtual 40, 3) := by decide +kernel
theorem pd___Lcom_example_waban_waban_Hash128_ : parseMethodDescriptor "()Lcom/example/waban/waban/Hash128;" = some ⟨[], some (.object "com/example/waban/waban/Hash128")⟩ := by decide +kernel
theorem d10_35 : decode prog_11_method_5_code 35 = .ok (.areturn, 1) := by decide +kernel
theorem d11_0 : decode prog_10_method_5_code 0 = .ok (.aload_n 0, 1) := by decide +kernel
theorem d11_1 : decode prog_10_method_5_code 1 = .ok (.getfield 7, 3) := by decide +kernel
theorem d11_4 : decode prog_10_method_5_code 4 = .ok (.lreturn, 1) := by decide +kernel
theorem d12_0 : decode prog_10_method_6_code 0 = .ok (.aload_n 0, 1) := by decide +kernel
theorem d12_1 : decode prog_10_method_6_code 1 = .ok (.getfield 13, 3) := by decide +kernel
theorem d12_4 : decode prog_10_method_6_code 4 = .ok (.lreturn, 1) := by decide +kernel
theorem ef_RR_2 (m : MethodId) (x0 : Addr) (x1 : Addr) : entryFrame m #[(.ref x0), (.ref x1)] 2 = mkF m 0 #[.val (.ref x0), .val (.ref x1)] [] := by first | (simp [entryFrame, mkF, argsToLocals, Value.category, maxLocals]; done) | rfl
theorem pn_com_example_waban_waban_ItemHash_Points : plainName "com/example/waban/waban/ItemHash$Points" = true := by first | (simp [plainName, overriddenIn]; done) | decide +kernel
theorem d13_0 : decode prog_12_method_1_code 0 = .ok (.aload_n 0, 1) := by decide +kernel
theorem d13_1 : decode prog_12_method_1_code 1 = .ok (.invokespecial 1, 3) := by decide +kernel
theorem d13_4 : decode prog_12_method_1_code 4 = .ok (.aload_n 0, 1) := by decide +kernel
theorem d13_5 : decode prog_12_method_1_code 5 = .ok (.aload_n 1, 1) := by decide +kernel
theorem d13_6 : decode prog_12_method_1_code 6 = .ok (.invokevirtual 7, 3) := by decide +kernel
theorem d13_9 : decode prog_12_method_1_code 9 = .ok (.putfield 13, 3) := by decide +kernel
theorem d13_12 : decode prog_12_method_1_code 12 = .ok (.aload_n 0, 1) := by decide +kernel
theorem d13_13 : decode prog_12_method_1_code 13 = .ok (.aload_n 1, 1) := by decide +kernel
theorem d13_14 : decode prog_12_method_1_code 14 = .ok (.invokevirtual 19, 3) := by decide +kernel
theorem d13_17 : decode prog_12_method_1_code 17 = .ok (.lconst 1, 1) := by decide +kernel
theorem d13_18 : decode prog_12_method_1_code 18 = .ok (.lor, 1) := by decide +kernel
theorem d13_19 : decode prog_12_method_1_code 19 = .ok (.putfield 22, 3) := by decide +kernel
theorem d13_22 : decode prog_12_method_1_code 22 = .ok (.return_, 1) := by decide +kernel
theorem d14_0 : decode prog_11_method_9_code 0 = .ok (.new 44, 3) := by decide +kernel
theorem d14_3 : decode prog_11_method_9_code 3 = .ok (.dup, 1) := by decide +kernel
theorem d14_4 : decode prog_11_method_9_code 4 = .ok (.aload_n 0, 1) := by decide +kernel
theorem d14_5 : decode prog_11_method_9_code 5 = .ok (.lload_n 1, 1) := by decide +kernel
theorem d14_6 : decode prog_11_method_9_code 6 = .ok (.invokevirtual 53, 3) := by decide +kernel
theorem pd__J_Lcom_example_waban_waban_Hash128_ : parseMethodDescriptor "(J)Lcom/example/waban/waban/Hash128;" = some ⟨[.long], some (.object "com/example/waban/waban/Hash128")⟩ := by decide +kernel
theorem d14_9 : decode prog_11_method_9_code 9 = .ok (.invokespecial 46, 3) := by decide +kernel
theorem pd__Lcom_example_waban_waban_Hash128__V : parseMethodDescriptor "(Lcom/example/waban/waban/Hash128;)V" = some ⟨[(.object "com/example/waban/waban/Hash128")], none⟩ := by decide +kernel
theorem d14_12 : decode prog_11_method_9_code 12 = .ok (.areturn, 1) := by decide +kernel
theorem ef_J_4 (m : MethodId) (x0 : Int64) : entryFrame m #[(.long x0)] 4 = mkF m 0 #[.val (.long x0), .second, .unset, .unset] [] := by first | (simp [entryFrame, mkF, argsToLocals, Value.category, maxLocals]; done) | rfl
theorem d15_0 : decode prog_12_method_4_code 0 = .ok (.lload_n 0, 1) := by decide +kernel
theorem d15_1 : decode prog_12_method_4_code 1 = .ok (.lload_n 0, 1) := by decide +kernel
theorem d15_2 : decode prog_12_method_4_code 2 = .ok (.bipush 30, 2) := by decide +kernel
theorem d15_4 : decode prog_12_method_4_code 4 = .ok (.lushr, 1) := by decide +kernel
theorem d15_5 : decode prog_12_method_4_code 5 = .ok (.lxor, 1) := by decide +kernel
theorem d15_6 : decode prog_12_method_4_code 6 = .ok (.ldc2_w 32, 3) := by decide +kernel
theorem d15_9 : decode prog_12_method_4_code 9 = .ok (.lmul, 1) := by decide +kernel
theorem d15_10 : decode prog_12_method_4_code 10 = .ok (.lstore_n 2, 1) := by decide +kernel
theorem d15_11 : decode prog_12_method_4_code 11 = .ok (.lload_n 2, 1) := by decide +kernel
theorem d15_12 : decode prog_12_method_4_code 12 = .ok (.lload_n 2, 1) := by decide +kernel
theorem d15_13 : decode prog_12_method_4_code 13 = .ok (.bipush 27, 2) := by decide +kernel
theorem d15_15 : decode prog_12_method_4_code 15 = .ok (.lushr, 1) := by decide +kernel
theorem d15_16 : decode prog_12_method_4_code 16 = .ok (.lxor, 1) := by decide +kernel
theorem d15_17 : decode prog_12_method_4_code 17 = .ok (.ldc2_w 34, 3) := by decide +kernel
theorem d15_20 : decode prog_12_method_4_code 20 = .ok (.lmul, 1) := by decide +kernel
theorem d15_21 : decode prog_12_method_4_code 21 = .ok (.lstore_n 2, 1) := by decide +kernel
theorem d15_22 : decode prog_12_method_4_code 22 = .ok (.lload_n 2, 1) := by decide +kernel
theorem d15_23 : decode prog_12_method_4_code 23 = .ok (.lload_n 2, 1) := by decide +kernel
theorem d15_24 : decode prog_12_method_4_code 24 = .ok (.bipush 31, 2) := by decide +kernel
theorem d15_26 : decode prog_12_method_4_code 26 = .ok (.lushr, 1) := by decide +kernel
theorem d15_27 : decode prog_12_method_4_code 27 = .ok (.lxor, 1) := by decide +kernel
theorem d15_28 : decode prog_12_method_4_code 28 = .ok (.lreturn, 1) := by decide +kernel
theorem ef_R_3 (m : MethodId) (x0 : Addr) : entryFrame m #[(.ref x0)] 3 = mkF m 0 #[.val (.ref x0), .unset, .unset] [] := by first | (simp [entryFrame, mkF, argsToLocals, Value.category, maxLocals]; done) | rfl
theorem d16_0 : decode prog_12_method_2_code 0 = .ok (.aload_n 0, 1) := by decide +kernel
theorem d16_1 : decode prog_12_method_2_code 1 = .ok (.getfield 13, 3) := by decide +kernel
theorem d16_4 : decode prog_12_method_2_code 4 = .ok (.invokestatic 25, 3) := by decide +kernel
theorem pd__J_J : parseMethodDescriptor "(J)J" = some ⟨[.long], some .long⟩ := by decide +kernel
theorem d16_7 : decode prog_12_method_2_code 7 = .ok (.lstore_n 1, 1) := by decide +kernel
theorem d16_8 : decode prog_12_method_2_code 8 = .ok (.aload_n 0, 1) := by decide +kernel
theorem d16_9 : decode prog_12_method_2_code 9 = .ok (.dup, 1) := by decide +kernel
theorem d16_10 : decode prog_12_method_2_code 10 = .ok (.getfield 13, 3) := by decide +kernel
theorem d16_13 : decode prog_12_method_2_code 13 = .ok (.aload_n 0, 1) := by decide +kernel
theorem d16_14 : decode prog_12_method_2_code 14 = .ok (.getfield 22, 3) := by decide +kernel
theorem d16_17 : decode prog_12_method_2_code 17 = .ok (.ladd, 1) := by decide +kernel
theorem d16_18 : decode prog_12_method_2_code 18 = .ok (.putfield 13, 3) := by decide +kernel
theorem d16_21 : decode prog_12_method_2_code 21 = .ok (.lload_n 1, 1) := by decide +kernel
theorem d16_22 : decode prog_12_method_2_code 22 = .ok (.lreturn, 1) := by decide +kernel
theorem ef_JJ_20 (m : MethodId) (x0 : Int64) (x1 : Int64) : entryFrame m #[(.long x0), (.long x1)] 20 = mkF m 0 #[.val (.long x0), .second, .val (.long x1), .second, .unset, .unset, .unset, .unset, .unset, .unset, .unset, .unset, .unset, .unset, .unset, .unset, .unset, .unset, .unset, .unset] [] := by first | (simp [entryFrame, mkF, argsToLocals, Value.category, maxLocals]; done) | rfl
theorem pf_multiplyHigh_JJ_J : plainFor (⟨"java/lang/Math", "multiplyHigh", "(JJ)J"⟩ : MethodName) = true := by decide +kernel
theorem d17_0 : decode jdk_29_method_45_code 0 = .ok (.lload_n 0, 1) := by decide +kernel
theorem d17_1 : decode jdk_29_method_45_code 1 = .ok (.bipush 32, 2) := by decide +kernel
theorem d17_3 : decode jdk_29_method_45_code 3 = .ok (.lshr, 1) := by decide +kernel
theorem d17_4 : decode jdk_29_method_45_code 4 = .ok (.lstore 4, 2) := by decide +kernel
theorem d17_6 : decode jdk_29_method_45_code 6 = .ok (.lload_n 0, 1) := by decide +kernel
theorem d17_7 : decode jdk_29_method_45_code 7 = .ok (.ldc2_w 138, 3) := by decide +kernel
theorem d17_10 : decode jdk_29_method_45_code 10 = .ok (.land, 1) := by decide +kernel
theorem d17_11 : decode jdk_29_method_45_code 11 = .ok (.lstore 6, 2) := by decide +kernel
theorem d17_13 : decode jdk_29_method_45_code 13 = .ok (.lload_n 2, 1) := by decide +kernel
theorem d17_14 : decode jdk_29_method_45_code 14 = .ok (.bipush 32, 2) := by decide +kernel
theorem d17_16 : decode jdk_29_method_45_code 16 = .ok (.lshr, 1) := by decide +kernel
theorem d17_17 : decode jdk_29_method_45_code 17 = .ok (.lstore 8, 2) := by decide +kernel
theorem d17_19 : decode jdk_29_method_45_code 19 = .ok (.lload_n 2, 1) := by decide +kernel
theorem d17_20 : decode jdk_29_method_45_code 20 = .ok (.ldc2_w 138, 3) := by decide +kernel
theorem d17_23 : decode jdk_29_method_45_code 23 = .ok (.land, 1) := by decide +kernel
theorem d17_24 : decode jdk_29_method_45_code 24 = .ok (.lstore 10, 2) := by decide +kernel
theorem d17_26 : decode jdk_29_method_45_code 26 = .ok (.lload 6, 2) := by decide +kernel
theorem d17_28 : decode jdk_29_method_45_code 28 = .ok (.lload 10, 2) := by decide +kernel
theorem d17_30 : decode jdk_29_method_45_code 30 = .ok (.lmul, 1) := by decide +kernel
theorem d17_31 : decode jdk_29_method_45_code 31 = .ok (.lstore 12, 2) := by decide +kernel
theorem d17_33 : decode jdk_29_method_45_code 33 = .ok (.lload 4, 2) := by decide +kernel
theorem d17_35 : decode jdk_29_method_45_code 35 = .ok (.lload 10, 2) := by decide +kernel
theorem d17_37 : decode jdk_29_method_45_code 37 = .ok (.lmul, 1) := by decide +kernel
theorem d17_38 : decode jdk_29_method_45_code 38 = .ok (.lload 12, 2) := by decide +kernel
theorem d17_40 : decode jdk_29_method_45_code 40 = .ok (.bipush 32, 2) := by decide +kernel
theorem d17_42 : decode jdk_29_method_45_code 42 = .ok (.lushr, 1) := by decide +kernel
theorem d17_43 : decode jdk_29_method_45_code 43 = .ok (.ladd, 1) := by decide +kernel
theorem d17_44 : decode jdk_29_method_45_code 44 = .ok (.lstore 14, 2) := by decide +kernel
theorem d17_46 : decode jdk_29_method_45_code 46 = .ok (.lload 14, 2) := by decide +kernel
theorem d17_48 : decode jdk_29_method_45_code 48 = .ok (.ldc2_w 138, 3) := by decide +kernel
theorem d17_51 : decode jdk_29_method_45_code 51 = .ok (.land, 1) := by decide +kernel
theorem d17_52 : decode jdk_29_method_45_code 52 = .ok (.lstore 16, 2) := by decide +kernel
theorem d17_54 : decode jdk_29_method_45_code 54 = .ok (.lload 14, 2) := by decide +kernel
theorem d17_56 : decode jdk_29_method_45_code 56 = .ok (.bipush 32, 2) := by decide +kernel
theorem d17_58 : decode jdk_29_method_45_code 58 = .ok (.lshr, 1) := by decide +kernel
theorem d17_59 : decode jdk_29_method_45_code 59 = .ok (.lstore 18, 2) := by decide +kernel
theorem d17_61 : decode jdk_29_method_45_code 61 = .ok (.lload 16, 2) := by decide +kernel
theorem d17_63 : decode jdk_29_method_45_code 63 = .ok (.lload 6, 2) := by decide +kernel
theorem d17_65 : decode jdk_29_method_45_code 65 = .ok (.lload 8, 2) := by decide +kernel
theorem d17_67 : decode jdk_29_method_45_code 67 = .ok (.lmul, 1) := by decide +kernel
theorem d17_68 : decode jdk_29_method_45_code 68 = .ok (.ladd, 1) := by decide +kernel
theorem d17_69 : decode jdk_29_method_45_code 69 = .ok (.lstore 16, 2) := by decide +kernel
theorem d17_71 : decode jdk_29_method_45_code 71 = .ok (.lload 4, 2) := by decide +kernel
theorem d17_73 : decode jdk_29_method_45_code 73 = .ok (.lload 8, 2) := by decide +kernel
theorem d17_75 : decode jdk_29_method_45_code 75 = .ok (.lmul, 1) := by decide +kernel
theorem d17_76 : decode jdk_29_method_45_code 76 = .ok (.lload 18, 2) := by decide +kernel
theorem d17_78 : decode jdk_29_method_45_code 78 = .ok (.ladd, 1) := by decide +kernel
theorem d17_79 : decode jdk_29_method_45_code 79 = .ok (.lload 16, 2) := by decide +kernel
theorem d17_81 : decode jdk_29_method_45_code 81 = .ok (.bipush 32, 2) := by decide +kernel
theorem d17_83 : decode jdk_29_method_45_code 83 = .ok (.lshr, 1) := by decide +kernel
theorem d17_84 : decode jdk_29_method_45_code 84 = .ok (.ladd, 1) := by decide +kernel
theorem d17_85 : decode jdk_29_method_45_code 85 = .ok (.lreturn, 1) := by decide +kernel
theorem ef_JJ_4 (m : MethodId) (x0 : Int64) (x1 : Int64) : entryFrame m #[(.long x0), (.long x1)] 4 = mkF m 0 #[.val (.long x0), .second, .val (.long x1), .second] [] := by first | (simp [entryFrame, mkF, argsToLocals, Value.category, maxLocals]; done) | rfl
theorem d18_0 : decode prog_11_method_10_code 0 = .ok (.lload_n 0, 1) := by decide +kernel
theorem d18_1 : decode prog_11_method_10_code 1 = .ok (.lload_n 2, 1) := by decide +kernel
theorem d18_2 : decode prog_11_method_10_code 2 = .ok (.invokestatic 56, 3) := by decide +kernel
theorem pd__JJ_J : parseMethodDescriptor "(JJ)J" = some ⟨[.long, .long], some .long⟩ := by decide +kernel
theorem d18_5 : decode prog_11_method_10_code 5 = .ok (.lload_n 0, 1) := by decide +kernel
theorem d18_6 : decode prog_11_method_10_code 6 = .ok (.bipush 63, 2) := by decide +kernel
theorem d18_8 : decode prog_11_method_10_code 8 = .ok (.lshr, 1) := by decide +kernel
theorem d18_9 : decode prog_11_method_10_code 9 = .ok (.lload_n 2, 1) := by decide +kernel
theorem d18_10 : decode prog_11_method_10_code 10 = .ok (.land, 1) := by decide +kernel
theorem d18_11 : decode prog_11_method_10_code 11 = .ok (.ladd, 1) := by decide +kernel
theorem d18_12 : decode prog_11_method_10_code 12 = .ok (.lreturn, 1) := by decide +kernel
theorem d19_0 : decode prog_11_method_1_code 0 = .ok (.aload_n 0, 1) := by decide +kernel
theorem d19_1 : decode prog_11_method_1_code 1 = .ok (.invokespecial 1, 3) := by decide +kernel
theorem d19_4 : decode prog_11_method_1_code 4 = .ok (.aload_n 0, 1) := by decide +kernel
theorem d19_5 : decode prog_11_method_1_code 5 = .ok (.lload_n 1, 1) := by decide +kernel
theorem d19_6 : decode prog_11_method_1_code 6 = .ok (.putfield 7, 3) := by decide +kernel
theorem d19_9 : decode prog_11_method_1_code 9 = .ok (.return_, 1) := by decide +kernel
theorem ef_RJJJ_8 (m : MethodId) (x0 : Addr) (x1 : Int64) (x2 : Int64) (x3 : Int64) : entryFrame m #[(.ref x0), (.long x1), (.long x2), (.long x3)] 8 = mkF m 0 #[.val (.ref x0), .val (.long x1), .second, .val (.long x2), .second, .val (.long x3), .second, .unset] [] := by first | (simp [entryFrame, mkF, argsToLocals, Value.category, maxLocals]; done) | rfl
theorem pn_com_example_waban_waban_ArgumentChecks : plainName "com/example/waban/waban/ArgumentChecks" = true := by first | (simp [plainName, overriddenIn]; done) | decide +kernel
theorem d20_0 : decode prog_1_method_4_code 0 = .ok (.aconst_null, 1) := by decide +kernel
theorem d20_1 : decode prog_1_method_4_code 1 = .ok (.astore 7, 2) := by decide +kernel
theorem d20_3 : decode prog_1_method_4_code 3 = .ok (.lload_n 3, 1) := by decide +kernel
theorem d20_4 : decode prog_1_method_4_code 4 = .ok (.lload_n 1, 1) := by decide +kernel
theorem d20_5 : decode prog_1_method_4_code 5 = .ok (.lcmp, 1) := by decide +kernel
theorem d20_6 : decode prog_1_method_4_code 6 = .ok (.ifCond .lt 10, 3) := by decide +kernel
theorem d20_9 : decode prog_1_method_4_code 9 = .ok (.lload_n 3, 1) := by decide +kernel
theorem d20_10 : decode prog_1_method_4_code 10 = .ok (.lload 5, 2) := by decide +kernel
theorem d20_12 : decode prog_1_method_4_code 12 = .ok (.lcmp, 1) := by decide +kernel
theorem d20_13 : decode prog_1_method_4_code 13 = .ok (.ifCond .le 15, 3) := by decide +kernel
theorem d20_28 : decode prog_1_method_4_code 28 = .ok (.aload 7, 2) := by decide +kernel
theorem d20_30 : decode prog_1_method_4_code 30 = .ok (.areturn, 1) := by decide +kernel
theorem ef_RJJJRI_10 (m : MethodId) (x0 : Addr) (x1 : Int64) (x2 : Int64) (x3 : Int64) (x4 : Addr) (x5 : Int32) : entryFrame m #[(.ref x0), (.long x1), (.long x2), (.long x3), (.ref x4), (.int x5)] 10 = mkF m 0 #[.val (.ref x0), .val (.long x1), .second, .val (.long x2), .second, .val (.long x3), .second, .val (.ref x4), .val (.int x5), .unset] [] := by first | (simp [entryFrame, mkF, argsToLocals, Value.category, maxLocals]; done) | rfl
theorem d21_0 : decode prog_1_method_3_code 0 = .ok (.aload_n 0, 1) := by decide +kernel
theorem d21_1 : decode prog_1_method_3_code 1 = .ok (.lload_n 1, 1) := by decide +kernel
theorem d21_2 : decode prog_1_method_3_code 2 = .ok (.lload_n 3, 1) := by decide +kernel
theorem d21_3 : decode prog_1_method_3_code 3 = .ok (.lload 5, 2) := by decide +kernel
theorem d21_5 : decode prog_1_method_3_code 5 = .ok (.invokestatic 15, 3) := by decide +kernel
theorem pd__Ljava_lang_String_JJJ_Ljava_lang_String_ : parseMethodDescriptor "(Ljava/lang/String;JJJ)Ljava/lang/String;" = some ⟨[(.object "java/lang/String"), .long, .long, .long], some (.object "java/lang/String")⟩ := by decide +kernel
theorem d21_8 : decode prog_1_method_3_code 8 = .ok (.astore 9, 2) := by decide +kernel
theorem d21_10 : decode prog_1_method_3_code 10 = .ok (.aload 9, 2) := by decide +kernel
theorem d21_12 : decode prog_1_method_3_code 12 = .ok (.ifnonnull 17, 3) := by decide +kernel
theorem d21_15 : decode prog_1_method_3_code 15 = .ok (.aload 7, 2) := by decide +kernel
theorem d21_17 : decode prog_1_method_3_code 17 = .ok (.lconst 1, 1) := by decide +kernel
theorem d21_18 : decode prog_1_method_3_code 18 = .ok (.iload 8, 2) := by decide +kernel
theorem d21_20 : decode prog_1_method_3_code 20 = .ok (.i2l, 1) := by decide +kernel
theorem d21_21 : decode prog_1_method_3_code 21 = .ok (.ldc2_w 19, 3) := by decide +kernel
theorem d21_24 : decode prog_1_method_3_code 24 = .ok (.invokestatic 15, 3) := by decide +kernel
theorem d21_27 : decode prog_1_method_3_code 27 = .ok (.astore 9, 2) := by decide +kernel
theorem d21_29 : decode prog_1_method_3_code 29 = .ok (.aload 9, 2) := by decide +kernel
theorem d21_31 : decode prog_1_method_3_code 31 = .ok (.areturn, 1) := by decide +kernel
theorem ef_RJJRI_7 (m : MethodId) (x0 : Addr) (x1 : Int64) (x2 : Int64) (x3 : Addr) (x4 : Int32) : entryFrame m #[(.ref x0), (.long x1), (.long x2), (.ref x3), (.int x4)] 7 = mkF m 0 #[.val (.ref x0), .val (.long x1), .second, .val (.long x2), .second, .val (.ref x3), .val (.int x4)] [] := by first | (simp [entryFrame, mkF, argsToLocals, Value.category, maxLocals]; done) | rfl
theorem d22_0 : decode prog_1_method_2_code 0 = .ok (.aload_n 0, 1) := by decide +kernel
theorem d22_1 : decode prog_1_method_2_code 1 = .ok (.lconst 1, 1) := by decide +kernel
theorem d22_2 : decode prog_1_method_2_code 2 = .ok (.lload_n 1, 1) := by decide +kernel
theorem d22_3 : decode prog_1_method_2_code 3 = .ok (.lload_n 3, 1) := by decide +kernel
theorem d22_4 : decode prog_1_method_2_code 4 = .ok (.aload 5, 2) := by decide +kernel
theorem d22_6 : decode prog_1_method_2_code 6 = .ok (.iload 6, 2) := by decide +kernel
theorem d22_8 : decode prog_1_method_2_code 8 = .ok (.invokestatic 9, 3) := by decide +kernel
theorem pd__Ljava_lang_String_JJJLjava_lang_String_I_Ljava_lang_String_ : parseMethodDescriptor "(Ljava/lang/String;JJJLjava/lang/String;I)Ljava/lang/String;" = some ⟨[(.object "java/lang/String"), .long, .long, .long, (.object "java/lang/String"), .int], some (.object "java/lang/String")⟩ := by decide +kernel
theorem d22_11 : decode prog_1_method_2_code 11 = .ok (.areturn, 1) := by decide +kernel
theorem ef_RJIJ_7 (m : MethodId) (x0 : Addr) (x1 : Int64) (x2 : Int32) (x3 : Int64) : entryFrame m #[(.ref x0), (.long x1), (.int x2), (.long x3)] 7 = mkF m 0 #[.val (.ref x0), .val (.long x1), .second, .val (.int x2), .val (.long x3), .second, .unset] [] := by first | (simp [entryFrame, mkF, argsToLocals, Value.category, maxLocals]; done) | rfl
theorem pn_com_example_waban_waban_BloomFilter : plainName "com/example/waban/waban/BloomFilter" = true := by first | (simp [plainName, overriddenIn]; done) | decide +kernel
theorem d23_0 : decode prog_2_method_1_code 0 = .ok (.aload_n 0, 1) := by decide +kernel
theorem d23_1 : decode prog_2_method_1_code 1 = .ok (.invokespecial 5, 3) := by decide +kernel
theorem d23_4 : decode prog_2_method_1_code 4 = .ok (.ldc 11, 2) := by decide +kernel
theorem d23_6 : decode prog_2_method_1_code 6 = .ok (.lload_n 1, 1) := by decide +kernel
theorem d23_7 : decode prog_2_method_1_code 7 = .ok (.ldc2_w 15, 3) := by decide +kernel
theorem d23_10 : decode prog_2_method_1_code 10 = .ok (.ldc 17, 2) := by decide +kernel
theorem d23_12 : decode prog_2_method_1_code 12 = .ok (.iload_n 3, 1) := by decide +kernel
theorem d23_13 : decode prog_2_method_1_code 13 = .ok (.invokestatic 19, 3) := by decide +kernel
theorem pd__Ljava_lang_String_JJLjava_lang_String_I_Ljava_lang_String_ : parseMethodDescriptor "(Ljava/lang/String;JJLjava/lang/String;I)Ljava/lang/String;" = some ⟨[(.object "java/lang/String"), .long, .long, (.object "java/lang/String"), .int], some (.object "java/lang/String")⟩ := by decide +kernel
theorem d23_16 : decode prog_2_method_1_code 16 = .ok (.astore 6, 2) := by decide +kernel
theorem d23_18 : decode prog_2_method_1_code 18 = .ok (.aload 6, 2) := by decide +kernel
theorem d23_20 : decode prog_2_method_1_code 20 = .ok (.ifnull 13, 3) := by decide +kernel
theorem d23_33 : decode prog_2_method_1_code 33 = .ok (.aload_n 0, 1) := by decide +kernel
theorem d23_34 : decode prog_2_method_1_code 34 = .ok (.lload_n 1, 1) := by decide +kernel
theorem d23_35 : decode prog_2_method_1_code 35 = .ok (.putfield 28, 3) := by decide +kernel
theorem d23_38 : decode prog_2_method_1_code 38 = .ok (.aload_n 0, 1) := by decide +kernel
theorem d23_39 : decode prog_2_method_1_code 39 = .ok (.iload_n 3, 1) := by decide +kernel
theorem d23_40 : decode prog_2_method_1_code 40 = .ok (.putfield 31, 3) := by decide +kernel
theorem d23_43 : decode prog_2_method_1_code 43 = .ok (.aload_n 0, 1) := by decide +kernel
theorem d23_44 : decode prog_2_method_1_code 44 = .ok (.new 34, 3) := by decide +kernel
theorem d23_47 : decode prog_2_method_1_code 47 = .ok (.dup, 1) := by decide +kernel
theorem d23_48 : decode prog_2_method_1_code 48 = .ok (.lload 4, 2) := by decide +kernel
theorem d23_50 : decode prog_2_method_1_code 50 = .ok (.invokespecial 36, 3) := by decide +kernel
theorem d23_53 : decode prog_2_method_1_code 53 = .ok (.putfield 39, 3) := by decide +kernel
theorem d23_56 : decode prog_2_method_1_code 56 = .ok (.aload_n 0, 1) := by decide +kernel
theorem d23_57 : decode prog_2_method_1_code 57 = .ok (.lload_n 1, 1) := by decide +kernel
theorem d23_58 : decode prog_2_method_1_code 58 = .ok (.ldc2_w 43, 3) := by decide +kernel
theorem d23_61 : decode prog_2_method_1_code 61 = .ok (.ladd, 1) := by decide +kernel
theorem d23_62 : decode prog_2_method_1_code 62 = .ok (.lconst 1, 1) := by decide +kernel
theorem d23_63 : decode prog_2_method_1_code 63 = .ok (.lsub, 1) := by decide +kernel
theorem d23_64 : decode prog_2_method_1_code 64 = .ok (.ldc2_w 43, 3) := by decide +kernel
theorem d23_67 : decode prog_2_method_1_code 67 = .ok (.ldiv, 1) := by decide +kernel
theorem d23_68 : decode prog_2_method_1_code 68 = .ok (.l2i, 1) := by decide +kernel
theorem d23_69 : decode prog_2_method_1_code 69 = .ok (.newarray .long, 2) := by decide +kernel
theorem d23_71 : decode prog_2_method_1_code 71 = .ok (.putfield 45, 3) := by decide +kernel
theorem d23_74 : decode prog_2_method_1_code 74 = .ok (.return_, 1) := by decide +kernel
theorem d24_0 : decode prog_2_method_20_code 0 = .ok (.aload_n 0, 1) := by decide +kernel
theorem d24_1 : decode prog_2_method_20_code 1 = .ok (.getfield 45, 3) := by decide +kernel
theorem d24_4 : decode prog_2_method_20_code 4 = .ok (.lload_n 1, 1) := by decide +kernel
theorem d24_5 : decode prog_2_method_20_code 5 = .ok (.bipush 6, 2) := by decide +kernel
theorem d24_7 : decode prog_2_method_20_code 7 = .ok (.lushr, 1) := by decide +kernel
theorem d24_8 : decode prog_2_method_20_code 8 = .ok (.l2i, 1) := by decide +kernel
theorem d24_9 : decode prog_2_method_20_code 9 = .ok (.laload, 1) := by decide +kernel
theorem d24_10 : decode prog_2_method_20_code 10 = .ok (.lconst 1, 1) := by decide +kernel
theorem d24_11 : decode prog_2_method_20_code 11 = .ok (.lload_n 1, 1) := by decide +kernel
theorem d24_12 : decode prog_2_method_20_code 12 = .ok (.l2i, 1) := by decide +kernel
theorem d24_13 : decode prog_2_method_20_code 13 = .ok (.lshl, 1) := by decide +kernel
theorem d24_14 : decode prog_2_method_20_code 14 = .ok (.land, 1) := by decide +kernel
theorem d24_15 : decode prog_2_method_20_code 15 = .ok (.lconst 0, 1) := by decide +kernel
theorem d24_16 : decode prog_2_method_20_code 16 = .ok (.lcmp, 1) := by decide +kernel
theorem d24_17 : decode prog_2_method_20_code 17 = .ok (.ifCond .eq 7, 3) := by decide +kernel
theorem d24_24 : decode prog_2_method_20_code 24 = .ok (.iconst 0, 1) := by decide +kernel
theorem d24_25 : decode prog_2_method_20_code 25 = .ok (.ireturn, 1) := by decide +kernel
theorem d24_20 : decode prog_2_method_20_code 20 = .ok (.iconst 1, 1) := by decide +kernel
theorem d24_21 : decode prog_2_method_20_code 21 = .ok (.goto 4, 3) := by decide +kernel
theorem ef_RR_5 (m : MethodId) (x0 : Addr) (x1 : Addr) : entryFrame m #[(.ref x0), (.ref x1)] 5 = mkF m 0 #[.val (.ref x0), .val (.ref x1), .unset, .unset, .unset] [] := by first | (simp [entryFrame, mkF, argsToLocals, Value.category, maxLocals]; done) | rfl
theorem d25_0 : decode prog_2_method_21_code 0 = .ok (.iconst 0, 1) := by decide +kernel
theorem d25_1 : decode prog_2_method_21_code 1 = .ok (.istore_n 2, 1) := by decide +kernel
theorem d25_2 : decode prog_2_method_21_code 2 = .ok (.iload_n 2, 1) := by decide +kernel
theorem d25_3 : decode prog_2_method_21_code 3 = .ok (.aload_n 0, 1) := by decide +kernel
theorem d25_4 : decode prog_2_method_21_code 4 = .ok (.getfield 31, 3) := by decide +kernel
theorem d25_7 : decode prog_2_method_21_code 7 = .ok (.if_icmp .ge 38, 3) := by decide +kernel
theorem d25_10 : decode prog_2_method_21_code 10 = .ok (.aload_n 1, 1) := by decide +kernel
theorem d25_11 : decode prog_2_method_21_code 11 = .ok (.invokevirtual 164, 3) := by decide +kernel
theorem d25_14 : decode prog_2_method_21_code 14 = .ok (.aload_n 0, 1) := by decide +kernel
theorem d25_15 : decode prog_2_method_21_code 15 = .ok (.getfield 28, 3) := by decide +kernel
theorem d25_18 : decode prog_2_method_21_code 18 = .ok (.invokestatic 169, 3) := by decide +kernel
theorem d25_21 : decode prog_2_method_21_code 21 = .ok (.lstore_n 3, 1) := by decide +kernel
theorem d25_22 : decode prog_2_method_21_code 22 = .ok (.aload_n 0, 1) := by decide +kernel
theorem d25_23 : decode prog_2_method_21_code 23 = .ok (.getfield 45, 3) := by decide +kernel
theorem d25_26 : decode prog_2_method_21_code 26 = .ok (.lload_n 3, 1) := by decide +kernel
theorem d25_27 : decode prog_2_method_21_code 27 = .ok (.bipush 6, 2) := by decide +kernel
theorem d25_29 : decode prog_2_method_21_code 29 = .ok (.lushr, 1) := by decide +kernel
theorem d25_30 : decode prog_2_method_21_code 30 = .ok (.l2i, 1) := by decide +kernel
theorem d25_31 : decode prog_2_method_21_code 31 = .ok (.dup2, 1) := by decide +kernel
theorem d25_32 : decode prog_2_method_21_code 32 = .ok (.laload, 1) := by decide +kernel
theorem d25_33 : decode prog_2_method_21_code 33 = .ok (.lconst 1, 1) := by decide +kernel
theorem d25_34 : decode prog_2_method_21_code 34 = .ok (.lload_n 3, 1) := by decide +kernel
theorem d25_35 : decode prog_2_method_21_code 35 = .ok (.l2i, 1) := by decide +kernel
theorem d25_36 : decode prog_2_method_21_code 36 = .ok (.lshl, 1) := by decide +kernel
theorem d25_37 : decode prog_2_method_21_code 37 = .ok (.lor, 1) := by decide +kernel
theorem d25_38 : decode prog_2_method_21_code 38 = .ok (.lastore, 1) := by decide +kernel
theorem d25_39 : decode prog_2_method_21_code 39 = .ok (.iinc 2 1, 3) := by decide +kernel
theorem d25_42 : decode prog_2_method_21_code 42 = .ok (.goto (-40), 3) := by decide +kernel
theorem d25_45 : decode prog_2_method_21_code 45 = .ok (.aload_n 0, 1) := by decide +kernel
theorem d25_46 : decode prog_2_method_21_code 46 = .ok (.dup, 1) := by decide +kernel
theorem d25_47 : decode prog_2_method_21_code 47 = .ok (.getfield 67, 3) := by decide +kernel
theorem d25_50 : decode prog_2_method_21_code 50 = .ok (.lconst 1, 1) := by decide +kernel
theorem d25_51 : decode prog_2_method_21_code 51 = .ok (.ladd, 1) := by decide +kernel
theorem d25_52 : decode prog_2_method_21_code 52 = .ok (.putfield 67, 3) := by decide +kernel
theorem d25_55 : decode prog_2_method_21_code 55 = .ok (.return_, 1) := by decide +kernel
theorem d26_0 : decode prog_2_method_13_code 0 = .ok (.aload_n 0, 1) := by decide +kernel
theorem d26_1 : decode prog_2_method_13_code 1 = .ok (.aload_n 0, 1) := by decide +kernel
theorem d26_2 : decode prog_2_method_13_code 2 = .ok (.getfield 39, 3) := by decide +kernel
theorem d26_5 : decode prog_2_method_13_code 5 = .ok (.lload_n 1, 1) := by decide +kernel
theorem d26_6 : decode prog_2_method_13_code 6 = .ok (.invokevirtual 129, 3) := by decide +kernel
theorem pd__J_Lcom_example_waban_waban_ItemHash_Points_ : parseMethodDescriptor "(J)Lcom/example/waban/waban/ItemHash$Points;" = some ⟨[.long], some (.object "com/example/waban/waban/ItemHash$Points")⟩ := by decide +kernel
theorem d26_9 : decode prog_2_method_13_code 9 = .ok (.invokevirtual 122, 3) := by decide +kernel
theorem pd__Lcom_example_waban_waban_ItemHash_Points__V : parseMethodDescriptor "(Lcom/example/waban/waban/ItemHash$Points;)V" = some ⟨[(.object "com/example/waban/waban/ItemHash$Points")], none⟩ := by decide +kernel
theorem d26_12 : decode prog_2_method_13_code 12 = .ok (.return_, 1) := by decide +kernel
theorem ef_JJJJI_19m (m : MethodId) (x0 : Int64) (x1 : Int64) (x2 : Int64) (x3 : Int64) (x4 : Int32) : entryFrame m #[(.long x0), (.long x1), (.long x2), (.long x3), (.int x4)] maxLocals = mkF m 0 #[.val (.long x0), .second, .val (.long x1), .second, .val (.long x2), .second, .val (.long x3), .second, .val (.int x4), .unset, .unset, .unset, .unset, .unset, .unset, .unset, .unset, .unset, .unset] [] := by first | (simp [entryFrame, mkF, argsToLocals, Value.category, maxLocals]; done) | rfl
theorem pn_com_example_waban_waban_BloomFilterIsSetPinLaw : plainName "com/example/waban/waban/BloomFilterIsSetPinLaw" = true := by first | (simp [plainName, overriddenIn]; done) | decide +kernel
theorem pd__JIJ_V : parseMethodDescriptor "(JIJ)V" = some ⟨[.long, .int, .long], none⟩ := by decide +kernel
theorem pd__J_Z : parseMethodDescriptor "(J)Z" = some ⟨[.long], some .boolean⟩ := by decide +kernel
def QR  (h0 : Heap) (n0 : Nat) (v : Option Value) (h : Heap) (L : List Loc) : Prop := v = none ∧ Fr n0 L ∧ h = h0
set_option maxRecDepth 65536 in
set_option maxHeartbeats 40000000 in
theorem rmR (l : Launch) (Z : State) (a0 : Array Value) (hw : ∀ d ∈ tables_1, d.before a0 Z = true) (ws : List Jvm.Cond) (a1 : Addr) (h0 : Heap) (n0 : Nat) (Z0 : n0 ≤ h0.size)  :
    MetFree l (⟨"java/lang/Record", "<init>", "()V"⟩ : MethodName) (head1 (Jvm.Cond.code (⟨"java/lang/Record", "<init>", "()V"⟩ : MethodName) jdk_30_method_1_code 1 none :: ws) ({ frames := 1, cells := 0, slots := 0, locals := 12 } : Room)) (fun a U => a = #[(.ref a1)] ∧ Z.Warmed39 U.vm ∧ U.heap = h0) (fun _ _ _ _ _ => True) (fun _ U o U' => ∃ vR LR, o = .returned vR ∧ QR h0 n0 vR U'.heap LR ∧ FrameEnd U o U' LR ({ frames := 1, cells := 0, slots := 0, locals := 12 } : Room).cells ({ frames := 1, cells := 0, slots := 0, locals := 12 } : Room).slots) := by
  refine MetFree.of_bodySF (plainFor_of_name pn_java_lang_Record) hisR ?_
  intro p e s m args below meth c s₁ Bd hml0 hP hK
  obtain ⟨rfl, hZ, hh⟩ := hP
  have hx := Bd.exec
  have hby := Bd.bytes
  have hml : c.maxLocals = 1 := hml0
  have hown : s.vm.findClass "java/lang/Record" = some m.cls := findClass_of_methodNamed Bd.named
  have hnm := (name_of_methodNamed Bd.named Bd.method).1
  have X0 : Stand p l e ({ frames := 1, cells := 0, slots := 0, locals := 12 } : Room) s m #[(.ref a1)] below meth c s₁ [] 0 0 := Stand.of_body Bd
  have e0 : s₁.heap = h0 := by rw [← hh, Bd.state]; rfl
  have N0 := Fr.nil n0
  obtain ⟨B0, c0, hB0⟩ : ∃ B0, Steps p.tables e below B0 (s₁.setTop (mkF m 0 #[.val (.ref a1)] [])) ∧ B0 = s₁.setTop (entryFrame m #[(.ref a1)] 1) := ⟨_, castTop (ef_R_1 m a1) (Steps.refl _), rfl⟩
  have c101 : SS p e below B0 s₁ m 1 #[.val (.ref a1)] [(.ref a1)] := Steps.trans c0 (by
      refine XS.aloadN X0.here hx rfl (own_d hby d0_0) rfl rfl ?_
      exact Steps.refl _)
  obtain ⟨T102, X102, e102, st102⟩ := initO X0 hx hZ hown (W hw 128) (W hw 8) (W hw 9) e0 (g := (mkF m 1 #[.val (.ref a1)] [(.ref a1)])) rfl (by rw [hml]; rfl) rfl (own_d hby d0_1) (by decide) (W := 0) (by show 2 * 0 + _ ≤ _; exact Nat.le_of_eq rfl) (by decide)
  have c103 : SS p e below B0 T102 m 4 #[.val (.ref a1)] [] := Steps.trans c101 (st102 _ (Steps.refl _))
  obtain ⟨fs, hr, hrun, hended, hW, hsame⟩ := X102.leave (v := none) (fun _ => rfl)
  subst hB0
  refine ⟨_, _, Steps.trans c103 ?_, hrun, hended, _, _, rfl, ?_, ⟨_, rfl⟩, hW, hsame.mono (by decide) (by decide)⟩
  · exact X102.returnOut hx Bd.returns (own_d hby d0_4) hr
  · show QR h0 n0 _ T102.heap _
    rw [e102]
    exact ⟨rfl, N0, rfl⟩
def QRot (q1 : Int64) (k2 : Int32) (h0 : Heap) (n0 : Nat) (v : Option Value) (h : Heap) (L : List Loc) : Prop := v = some (.long (rotl q1 k2)) ∧ Fr n0 L ∧ h = h0
set_option maxRecDepth 65536 in
set_option maxHeartbeats 40000000 in
theorem rmRot (l : Launch) (Z : State) (a0 : Array Value) (hw : ∀ d ∈ tables_1, d.before a0 Z = true) (ws : List Jvm.Cond) (q1 : Int64) (k2 : Int32) (h0 : Heap) (n0 : Nat) (Z0 : n0 ≤ h0.size)  :
    MetFree l (⟨"java/lang/Long", "rotateLeft", "(JI)J"⟩ : MethodName) (head1 (Jvm.Cond.code (⟨"java/lang/Long", "rotateLeft", "(JI)J"⟩ : MethodName) jdk_35_method_51_code 3 (some .long) :: ws) ({ frames := 0, cells := 0, slots := 0, locals := 0 } : Room)) (fun a U => a = #[(.long q1), (.int k2)] ∧ Z.Warmed39 U.vm ∧ U.heap = h0) (fun _ _ _ _ _ => True) (fun _ U o U' => ∃ vR LR, o = .returned vR ∧ QRot q1 k2 h0 n0 vR U'.heap LR ∧ FrameEnd U o U' LR ({ frames := 0, cells := 0, slots := 0, locals := 0 } : Room).cells ({ frames := 0, cells := 0, slots := 0, locals := 0 } : Room).slots) := by
  refine MetFree.of_bodySF (plainFor_of_name pn_java_lang_Long) hisR ?_
  intro p e s m args below meth c s₁ Bd hml0 hP hK
  obtain ⟨rfl, hZ, hh⟩ := hP
  have hx := Bd.exec
  have hby := Bd.bytes
  have hml : c.maxLocals = 3 := hml0
  have hown : s.vm.findClass "java/lang/Long" = some m.cls := findClass_of_methodNamed Bd.named
  have hnm := (name_of_methodNamed Bd.named Bd.method).1
  have X0 : Stand p l e ({ frames := 0, cells := 0, slots := 0, locals := 0 } : Room) s m #[(.long q1), (.int k2)] below meth c s₁ [] 0 0 := Stand.of_body Bd
  have e0 : s₁.heap = h0 := by rw [← hh, Bd.state]; rfl
  have N0 := Fr.nil n0
  obtain ⟨B0, c0, hB0⟩ : ∃ B0, Steps p.tables e below B0 (s₁.setTop (mkF m 0 #[.val (.long q1), .second, .val (.int k2)] [])) ∧ B0 = s₁.setTop (entryFrame m #[(.long q1), (.int k2)] 3) := ⟨_, castTop (ef_JI_3 m q1 k2) (Steps.refl _), rfl⟩
  have c101 : SS p e below B0 s₁ m 8 #[.val (.long q1), .second, .val (.int k2)] [(.long ((q1 <<< (k2 &&& 0x3f).toInt64) ||| ((q1.toUInt64 >>> ((-k2) &&& 0x3f).toInt64.toUInt64).toInt64)))] := Steps.trans c0 (by
      refine XS.lloadN X0.here hx rfl (own_d hby d1_0) rfl ?_
      refine XS.iloadN X0.here hx rfl (own_d hby d1_1) rfl ?_
      refine XS.lshl X0.here hx rfl (own_d hby d1_2) rfl ?_
      refine XS.lloadN X0.here hx rfl (own_d hby d1_3) rfl ?_
      refine XS.iloadN X0.here hx rfl (own_d hby d1_4) rfl ?_
      refine XS.ineg X0.here hx rfl (own_d hby d1_5) rfl ?_
      refine XS.lushr X0.here hx rfl (own_d hby d1_6) rfl ?_
      refine XS.lor X0.here hx rfl (own_d hby d1_7) rfl ?_
      exact Steps.refl _)
  obtain ⟨fs, hr, hrun, hended, hW, hsame⟩ := X0.leave (v := some (.long ((q1 <<< (k2 &&& 0x3f).toInt64) ||| ((q1.toUInt64 >>> ((-k2) &&& 0x3f).toInt64.toUInt64).toInt64)))) (fun h => by rw [Bd.returns] at h; cases h)
  subst hB0
  refine ⟨_, _, Steps.trans c101 ?_, hrun, hended, _, _, rfl, ?_, ⟨_, rfl⟩, hW, hsame.mono (by decide) (by decide)⟩
  · exact X0.lreturnOut hx Bd.returns (own_d hby d1_8) hr
  · show QRot q1 k2 h0 n0 _ s₁.heap _
    rw [e0]
    exact ⟨rfl, N0, rfl⟩
def QRd2 (Z : State) (a1 : Addr) (v : V4) (h0 : Heap) (n0 : Nat) (r : Option Value) (h : Heap) (L : List Loc) : Prop := r = none ∧ Fr n0 L ∧ Keep h0 h [a1] ∧ Fld Z h a1 "com/example/waban/waban/ItemHash$SipState" "v0" "J" (.long (rnd (rnd v)).1) ∧ Fld Z h a1 "com/example/waban/waban/ItemHash$SipState" "v1" "J" (.long (rnd (rnd v)).2.1) ∧ Fld Z h a1 "com/example/waban/waban/ItemHash$SipState" "v2" "J" (.long (rnd (rnd v)).2.2.1) ∧ Fld Z h a1 "com/example/waban/waban/ItemHash$SipState" "v3" "J" (.long (rnd (rnd v)).2.2.2)
set_option maxRecDepth 65536 in
set_option maxHeartbeats 40000000 in
theorem rmRd2 (l : Launch) (Z : State) (a0 : Array Value) (hw : ∀ d ∈ tables_1, d.before a0 Z = true) (ws : List Jvm.Cond) (a1 : Addr) (v : V4) (h0 : Heap) (n0 : Nat) (Z0 : n0 ≤ h0.size) (E1 : Exa Z h0 a1 "com/example/waban/waban/ItemHash$SipState") (F0 : Fld Z h0 a1 "com/example/waban/waban/ItemHash$SipState" "v0" "J" (.long v.1)) (F1 : Fld Z h0 a1 "com/example/waban/waban/ItemHash$SipState" "v1" "J" (.long v.2.1)) (F2 : Fld Z h0 a1 "com/example/waban/waban/ItemHash$SipState" "v2" "J" (.long v.2.2.1)) (F3 : Fld Z h0 a1 "com/example/waban/waban/ItemHash$SipState" "v3" "J" (.long v.2.2.2)) (g1 : n0 ≤ a1) :
    MetFree l (⟨"com/example/waban/waban/ItemHash$SipState", "rounds", "(I)V"⟩ : MethodName) (head1 (Jvm.Cond.code (⟨"com/example/waban/waban/ItemHash$SipState", "rounds", "(I)V"⟩ : MethodName) prog_13_method_7_code 3 none :: ws) ({ frames := 1, cells := 0, slots := 0, locals := 15 } : Room)) (fun a U => a = #[(.ref a1), (.int (2 : Int32))] ∧ Z.Warmed39 U.vm ∧ U.heap = h0) (fun _ _ _ _ _ => True) (fun _ U o U' => ∃ vR LR, o = .returned vR ∧ QRd2 Z a1 v h0 n0 vR U'.heap LR ∧ FrameEnd U o U' LR ({ frames := 1, cells := 0, slots := 0, locals := 15 } : Room).cells ({ frames := 1, cells := 0, slots := 0, locals := 15 } : Room).slots) := by
  refine MetFree.of_bodySF (plainFor_of_name pn_com_example_waban_waban_ItemHash_SipState) hisR ?_
  intro p e s m args below meth c s₁ Bd hml0 hP hK
  obtain ⟨rfl, hZ, hh⟩ := hP
  have hx := Bd.exec
  have hby := Bd.bytes
  have hml : c.maxLocals = 3 := hml0
  have hown : s.vm.findClass "com/example/waban/waban/ItemHash$SipState" = some m.cls := findClass_of_methodNamed Bd.named
  have hnm := (name_of_methodNamed Bd.named Bd.method).1
  have X0 : Stand p l e ({ frames := 1, cells := 0, slots := 0, locals := 15 } : Room) s m #[(.ref a1), (.int (2 : Int32))] below meth c s₁ [] 0 0 := Stand.of_body Bd
  have e0 : s₁.heap = h0 := by rw [← hh, Bd.state]; rfl
  have N0 := Fr.nil n0
  obtain ⟨B0, c0, hB0⟩ : ∃ B0, Steps p.tables e below B0 (s₁.setTop (mkF m 0 #[.val (.ref a1), .val (.int (2 : Int32)), .unset] [])) ∧ B0 = s₁.setTop (entryFrame m #[(.ref a1), (.int (2 : Int32))] 3) := ⟨_, castTop (ef_RI_3 m a1 (2 : Int32)) (Steps.refl _), rfl⟩
  have c101 : SS p e below B0 s₁ m 2 #[.val (.ref a1), .val (.int (2 : Int32)), .val (.int (0 : Int32))] [] := Steps.trans c0 (by
      refine XT.iconstV X0.here hx rfl (0 : Int32) (own_d hby d2_0) (by decide) ?_
      refine XS.istoreN X0.here hx rfl (own_d hby d2_1) rfl (l' := #[.val (.ref a1), .val (.int (2 : Int32)), .val (.int (0 : Int32))]) rfl ?_
      exact Steps.refl _)
  have lt_a1 : (@LT.lt Nat _ a1 h0.size) := E1.lt
  have turn : ∀ (i : Int32) (v : V4) (T : State) (h : Heap) (Lo : List Loc), i < (2 : Int32) → Stand p l e ({ frames := 1, cells := 0, slots := 0, locals := 15 } : Room) s m #[(.ref a1), (.int (2 : Int32))] below meth c T Lo 0 0 → T.heap = h → Fr n0 Lo → Keep h0 h [a1] → Exa Z h a1 "com/example/waban/waban/ItemHash$SipState" → Fld Z h a1 "com/example/waban/waban/ItemHash$SipState" "v0" "J" (.long v.1) → Fld Z h a1 "com/example/waban/waban/ItemHash$SipState" "v1" "J" (.long v.2.1) → Fld Z h a1 "com/example/waban/waban/ItemHash$SipState" "v2" "J" (.long v.2.2.1) → Fld Z h a1 "com/example/waban/waban/ItemHash$SipState" "v3" "J" (.long v.2.2.2) → SS p e below B0 T m 2 #[.val (.ref a1), .val (.int (2 : Int32)), .val (.int i)] [] →
      ∃ (T' : State) (h' : Heap) (Lo' : List Loc), Stand p l e ({ frames := 1, cells := 0, slots := 0, locals := 15 } : Room) s m #[(.ref a1), (.int (2 : Int32))] below meth c T' Lo' 0 0 ∧ T'.heap = h' ∧ Fr n0 Lo' ∧ Keep h0 h' [a1] ∧ Exa Z h' a1 "com/example/waban/waban/ItemHash$SipState" ∧ Fld Z h' a1 "com/example/waban/waban/ItemHash$SipState" "v0" "J" (.long (rnd v).1) ∧ Fld Z h' a1 "com/example/waban/waban/ItemHash$SipState" "v1" "J" (.long (rnd v).2.1) ∧ Fld Z h' a1 "com/example/waban/waban/ItemHash$SipState" "v2" "J" (.long (rnd v).2.2.1) ∧ Fld Z h' a1 "com/example/waban/waban/ItemHash$SipState" "v3" "J" (.long (rnd v).2.2.2) ∧ SS p e below B0 T' m 2 #[.val (.ref a1), .val (.int (2 : Int32)), .val (.int (i + (1 : Int32)))] [] := by
    intro i v T h Lo hi X00 e00 N00 K00 Ex G0 G1 G2 G3 c00
    have lz : (@LT.lt Nat _ a1 h.size) := Ex.lt
    have lk := K00.1
    have c102 : SS p e below B0 T m 9 #[.val (.ref a1), .val (.int (2 : Int32)), .val (.int i)] [(.ref a1), (.ref a1)] := Steps.trans c00 (by
        refine XS.iloadN X00.here hx rfl (own_d hby d2_2) rfl ?_
        refine XS.iloadN X00.here hx rfl (own_d hby d2_3) rfl ?_
        refine XS.icmpNo X00.here hx rfl (own_d hby d2_4) rfl (tlt hi).2.1 ?_
        refine XS.aloadN X00.here hx rfl (own_d hby d2_7) rfl rfl ?_
        refine XS.dup X00.here hx rfl (own_d hby d2_8) rfl rfl ?_
        exact Steps.refl _)
    obtain ⟨T103, X103, e103, st103⟩ := getF X00 hx hZ hown (host := "") (Or.inl (W hw 73)) Via.refl e00 G0 (g := (mkF m 9 #[.val (.ref a1), .val (.int (2 : Int32)), .val (.int i)] [(.ref a1), (.ref a1)])) rfl rfl (own_d hby d2_9)
    have c104 : SS p e below B0 T103 m 12 #[.val (.ref a1), .val (.int (2 : Int32)), .val (.int i)] [(.long (v.1)), (.ref a1)] := Steps.trans c102 (st103 _ (Steps.refl _))
    have c105 : SS p e below B0 T103 m 13 #[.val (.ref a1), .val (.int (2 : Int32)), .val (.int i)] [(.ref a1), (.long (v.1)), (.ref a1)] := Steps.trans c104 (by
        refine XS.aloadN X103.here hx rfl (own_d hby d2_12) rfl rfl ?_
        exact Steps.refl _)
    obtain ⟨T106, X106, e106, st106⟩ := getF X103 hx hZ hown (host := "") (Or.inl (W hw 77)) Via.refl e103 G1 (g := (mkF m 13 #[.val (.ref a1), .val (.int (2 : Int32)), .val (.int i)] [(.ref a1), (.long (v.1)), (.ref a1)])) rfl rfl (own_d hby d2_13)
    have c107 : SS p e below B0 T106 m 16 #[.val (.ref a1), .val (.int (2 : Int32)), .val (.int i)] [(.long (v.2.1)), (.long (v.1)), (.ref a1)] := Steps.trans c105 (st106 _ (Steps.refl _))
    have c108 : SS p e below B0 T106 m 17 #[.val (.ref a1), .val (.int (2 : Int32)), .val (.int i)] [(.long ((v.1) + (v.2.1))), (.ref a1)] := Steps.trans c107 (by
        refine XS.ladd X106.here hx rfl (own_d hby d2_16) rfl ?_
        exact Steps.refl _)
    obtain ⟨T109, h109, X109, e109, W109, st109⟩ := putF X106 hx hZ hown (host := "") (Or.inl (W hw 73)) Via.refl e106 G0 Ex (Or.inl (W hw 74)) (W hw 66) (ty := .long) (by decide) rfl rfl (g := (mkF m 17 #[.val (.ref a1), .val (.int (2 : Int32)), .val (.int i)] [(.long ((v.1) + (v.2.1))), (.ref a1)])) rfl rfl (own_d hby d2_17)
    have N109 := Fr.snoc X109 N00 (by omega)
    have F109 : Fld Z h109 a1 "com/example/waban/waban/ItemHash$SipState" "v0" "J" (.long ((v.1) + (v.2.1))) := G0.same W109
    have z109 : h109.size = h.size := W109.size
    have K109 := K00.wr W109 (Or.inl (List.mem_of_getElem? (i := 0) rfl))
    have c110 : SS p e below B0 T109 m 20 #[.val (.ref a1), .val (.int (2 : Int32)), .val (.int i)] [] := Steps.trans c108 (st109 _ (Steps.refl _))
    have c111 : SS p e below B0 T109 m 22 #[.val (.ref a1), .val (.int (2 : Int32)), .val (.int i)] [(.ref a1), (.ref a1)] := Steps.trans c110 (by
        refine XS.aloadN X109.here hx rfl (own_d hby d2_20) rfl rfl ?_
        refine XS.aloadN X109.here hx rfl (own_d hby d2_21) rfl rfl ?_
        exact Steps.refl _)
    have Fld113 : Fld Z h109 a1 "com/example/waban/waban/ItemHash$SipState" "v1" "J" (.long (v.2.1)) := (G1.other W109 (Or.inr (slot_ne (Or.inl (W hw 78)) (Or.inl (W hw 74)) (by decide) (t := .long) (t' := .long) (by decide) (by decide))))
    obtain ⟨T112, X112, e112, st112⟩ := getF X109 hx hZ hown (host := "") (Or.inl (W hw 77)) Via.refl e109 Fld113 (g := (mkF m 22 #[.val (.ref a1), .val (.int (2 : Int32)), .val (.int i)] [(.ref a1), (.ref a1)])) rfl rfl (own_d hby d2_22)
    have c114 : SS p e below B0 T112 m 25 #[.val (.ref a1), .val (.int (2 : Int32)), .val (.int i)] [(.long (v.2.1)), (.ref a1)] := Steps.trans c111 (st112 _ (Steps.refl _))
    have c115 : SS p e below B0 T112 m 27 #[.val (.ref a1), .val (.int (2 : Int32)), .val (.int i)] [(.int (13 : Int32)), (.long (v.2.1)), (.ref a1)] := Steps.trans c114 (by
        refine XT.bipushV X112.here hx rfl (13 : Int32) (own_d hby d2_25) (by decide) ?_
        exact Steps.refl _)
    obtain ⟨_, _, ⟨T116, Lp116, kp116, np116⟩, -, X116, ⟨Lc116, hQ116, lp116, yp116, zp116⟩, st116⟩ := Jvm.LawKit.callS X112 hx (y := (⟨"java/lang/Long", "rotateLeft", "(JI)J"⟩ : MethodName)) hown (mvT hZ (W hw 94)) (mvT hZ (W hw 95)) (mvT hZ (W hw 96)) (mvT hZ (W hw 97)) (by decide) (backOf (W := 1) (rmRot l Z a0 hw [] (v.2.1) (13 : Int32) h109 n0 (by omega)) hZ (W hw 97) (W hw 96) (by decide) (by decide)) (g := (mkF m 27 #[.val (.ref a1), .val (.int (2 : Int32)), .val (.int i)] [(.int (13 : Int32)), (.long (v.2.1)), (.ref a1)])) rfl (by rw [hml]; rfl) (argsL := [(.long (v.2.1)), (.int (13 : Int32))]) (rest := [(.ref a1)]) (lenOf pd__JI_J rfl) rfl (by show 2 * 0 + _ ≤ _; exact Nat.le_of_eq rfl) (own_d hby d2_27) (fun _ _ => ⟨rfl, e112, (by decide : 0 + 0 ≤ _), (by decide : 0 + 0 ≤ _)⟩)
    dsimp only [Pt.U, Pt.locs, Pt.cells, Pt.slots] at X116 lp116 yp116 zp116 st116 hQ116
    subst lp116 yp116 zp116
    obtain ⟨rfl, Nq116, eq116⟩ := hQ116
    have N116 := Fr.app N109 Nq116
    have c117 : SS p e below B0 T116 m 30 #[.val (.ref a1), .val (.int (2 : Int32)), .val (.int i)] [(.long (rotl (v.2.1) (13 : Int32))), (.ref a1)] := Steps.trans c115 (st116 _ (Steps.refl _))
    have Exa119 : Exa Z h109 a1 "com/example/waban/waban/ItemHash$SipState" := (Ex.wr W109)
    obtain ⟨T118, h118, X118, e118, W118, st118⟩ := putF X116 hx hZ hown (host := "") (Or.inl (W hw 77)) Via.refl eq116 Fld113 Exa119 (Or.inl (W hw 78)) (W hw 66) (ty := .long) (by decide) rfl rfl (g := (mkF m 30 #[.val (.ref a1), .val (.int (2 : Int32)), .val (.int i)] [(.long (rotl (v.2.1) (13 : Int32))), (.ref a1)])) rfl rfl (own_d hby d2_30)
    have N118 := Fr.snoc X118 N116 (by omega)
    have F118 : Fld Z h118 a1 "com/example/waban/waban/ItemHash$SipState" "v1" "J" (.long (rotl (v.2.1) (13 : Int32))) := Fld113.same W118
    have z118 : h118.size = h109.size := W118.size
    have K118 := K109.wr W118 (Or.inl (List.mem_of_getElem? (i := 0) rfl))
    have c120 : SS p e below B0 T118 m 33 #[.val (.ref a1), .val (.int (2 : Int32)), .val (.int i)] [] := Steps.trans c117 (st118 _ (Steps.refl _))
    have c121 : SS p e below B0 T118 m 35 #[.val (.ref a1), .val (.int (2 : Int32)), .val (.int i)] [(.ref a1), (.ref a1)] := Steps.trans c120 (by
        refine XS.aloadN X118.here hx rfl (own_d hby d2_33) rfl rfl ?_
        refine XS.dup X118.here hx rfl (own_d hby d2_34) rfl rfl ?_
        exact Steps.refl _)
    obtain ⟨T122, X122, e122, st122⟩ := getF X118 hx hZ hown (host := "") (Or.inl (W hw 77)) Via.refl e118 F118 (g := (mkF m 35 #[.val (.ref a1), .val (.int (2 : Int32)), .val (.int i)] [(.ref a1), (.ref a1)])) rfl rfl (own_d hby d2_35)
    have c123 : SS p e below B0 T122 m 38 #[.val (.ref a1), .val (.int (2 : Int32)), .val (.int i)] [(.long (rotl (v.2.1) (13 : Int32))), (.ref a1)] := Steps.trans c121 (st122 _ (Steps.refl _))
    have c124 : SS p e below B0 T122 m 39 #[.val (.ref a1), .val (.int (2 : Int32)), .val (.int i)] [(.ref a1), (.long (rotl (v.2.1) (13 : Int32))), (.ref a1)] := Steps.trans c123 (by
        refine XS.aloadN X122.here hx rfl (own_d hby d2_38) rfl rfl ?_
        exact Steps.refl _)
    have Fld126 : Fld Z h118 a1 "com/example/waban/waban/ItemHash$SipState" "v0" "J" (.long ((v.1) + (v.2.1))) := (F109.other W118 (Or.inr (slot_ne (Or.inl (W hw 74)) (Or.inl (W hw 78)) (by decide) (t := .long) (t' := .long) (by decide) (by decide))))
    obtain ⟨T125, X125, e125, st125⟩ := getF X122 hx hZ hown (host := "") (Or.inl (W hw 73)) Via.refl e122 Fld126 (g := (mkF m 39 #[.val (.ref a1), .val (.int (2 : Int32)), .val (.int i)] [(.ref a1), (.long (rotl (v.2.1) (13 : Int32))), (.ref a1)])) rfl rfl (own_d hby d2_39)
    have c127 : SS p e below B0 T125 m 42 #[.val (.ref a1), .val (.int (2 : Int32)), .val (.int i)] [(.long ((v.1) + (v.2.1))), (.long (rotl (v.2.1) (13 : Int32))), (.ref a1)] := Steps.trans c124 (st125 _ (Steps.refl _))
    have c128 : SS p e below B0 T125 m 43 #[.val (.ref a1), .val (.int (2 : Int32)), .val (.int i)] [(.long ((rotl (v.2.1) (13 : Int32)) ^^^ ((v.1) + (v.2.1)))), (.ref a1)] := Steps.trans c127 (by
        refine XS.lxor X125.here hx rfl (own_d hby d2_42) rfl ?_
        exact Steps.refl _)
    have Exa130 : Exa Z h118 a1 "com/example/waban/waban/ItemHash$SipState" := (Exa119.wr W118)
    obtain ⟨T129, h129, X129, e129, W129, st129⟩ := putF X125 hx hZ hown (host := "") (Or.inl (W hw 77)) Via.refl e125 F118 Exa130 (Or.inl (W hw 78)) (W hw 66) (ty := .long) (by decide) rfl rfl (g := (mkF m 43 #[.val (.ref a1), .val (.int (2 : Int32)), .val (.int i)] [(.long ((rotl (v.2.1) (13 : Int32)) ^^^ ((v.1) + (v.2.1)))), (.ref a1)])) rfl rfl (own_d hby d2_43)
    have N129 := Fr.snoc X129 N118 (by omega)
    have F129 : Fld Z h129 a1 "com/example/waban/waban/ItemHash$SipState" "v1" "J" (.long ((rotl (v.2.1) (13 : Int32)) ^^^ ((v.1) + (v.2.1)))) := F118.same W129
    have z129 : h129.size = h118.size := W129.size
    have K129 := K118.wr W129 (Or.inl (List.mem_of_getElem? (i := 0) rfl))
    have c131 : SS p e below B0 T129 m 46 #[.val (.ref a1), .val (.int (2 : Int32)), .val (.int i)] [] := Steps.trans c128 (st129 _ (Steps.refl _))
    have c132 : SS p e below B0 T129 m 48 #[.val (.ref a1), .val (.int (2 : Int32)), .val (.int i)] [(.ref a1), (.ref a1)] := Steps.trans c131 (by
        refine XS.aloadN X129.here hx rfl (own_d hby d2_46) rfl rfl ?_
        refine XS.aloadN X129.here hx rfl (own_d hby d2_47) rfl rfl ?_
        exact Steps.refl _)
    have Fld134 : Fld Z h129 a1 "com/example/waban/waban/ItemHash$SipState" "v0" "J" (.long ((v.1) + (v.2.1))) := (Fld126.other W129 (Or.inr (slot_ne (Or.inl (W hw 74)) (Or.inl (W hw 78)) (by decide) (t := .long) (t' := .long) (by decide) (by decide))))
    obtain ⟨T133, X133, e133, st133⟩ := getF X129 hx hZ hown (host := "") (Or.inl (W hw 73)) Via.refl e129 Fld134 (g := (mkF m 48 #[.val (.ref a1), .val (.int (2 : Int32)), .val (.int i)] [(.ref a1), (.ref a1)])) rfl rfl (own_d hby d2_48)
    have c135 : SS p e below B0 T133 m 51 #[.val (.ref a1), .val (.int (2 : Int32)), .val (.int i)] [(.long ((v.1) + (v.2.1))), (.ref a1)] := Steps.trans c132 (st133 _ (Steps.refl _))
    have c136 : SS p e below B0 T133 m 53 #[.val (.ref a1), .val (.int (2 : Int32)), .val (.int i)] [(.int (32 : Int32)), (.long ((v.1) + (v.2.1))), (.ref a1)] := Steps.trans c135 (by
        refine XT.bipushV X133.here hx rfl (32 : Int32) (own_d hby d2_51) (by decide) ?_
        exact Steps.refl _)
    obtain ⟨_, _, ⟨T137, Lp137, kp137, np137⟩, -, X137, ⟨Lc137, hQ137, lp137, yp137, zp137⟩, st137⟩ := Jvm.LawKit.callS X133 hx (y := (⟨"java/lang/Long", "rotateLeft", "(JI)J"⟩ : MethodName)) hown (mvT hZ (W hw 94)) (mvT hZ (W hw 95)) (mvT hZ (W hw 96)) (mvT hZ (W hw 97)) (by decide) (backOf (W := 1) (rmRot l Z a0 hw [] ((v.1) + (v.2.1)) (32 : Int32) h129 n0 (by omega)) hZ (W hw 97) (W hw 96) (by decide) (by decide)) (g := (mkF m 53 #[.val (.ref a1), .val (.int (2 : Int32)), .val (.int i)] [(.int (32 : Int32)), (.long ((v.1) + (v.2.1))), (.ref a1)])) rfl (by rw [hml]; rfl) (argsL := [(.long ((v.1) + (v.2.1))), (.int (32 : Int32))]) (rest := [(.ref a1)]) (lenOf pd__JI_J rfl) rfl (by show 2 * 0 + _ ≤ _; exact Nat.le_of_eq rfl) (own_d hby d2_53) (fun _ _ => ⟨rfl, e133, (by decide : 0 + 0 ≤ _), (by decide : 0 + 0 ≤ _)⟩)
    dsimp only [Pt.U, Pt.locs, Pt.cells, Pt.slots] at X137 lp137 yp137 zp137 st137 hQ137
    subst lp137 yp137 zp137
    obtain ⟨rfl, Nq137, eq137⟩ := hQ137
    have N137 := Fr.app N129 Nq137
    have c138 : SS p e below B0 T137 m 56 #[.val (.ref a1), .val (.int (2 : Int32)), .val (.int i)] [(.long (rotl ((v.1) + (v.2.1)) (32 : Int32))), (.ref a1)] := Steps.trans c136 (st137 _ (Steps.refl _))
    have Exa140 : Exa Z h129 a1 "com/example/waban/waban/ItemHash$SipState" := (Exa130.wr W129)
    obtain ⟨T139, h139, X139, e139, W139, st139⟩ := putF X137 hx hZ hown (host := "") (Or.inl (W hw 73)) Via.refl eq137 Fld134 Exa140 (Or.inl (W hw 74)) (W hw 66) (ty := .long) (by decide) rfl rfl (g := (mkF m 56 #[.val (.ref a1), .val (.int (2 : Int32)), .val (.int i)] [(.long (rotl ((v.1) + (v.2.1)) (32 : Int32))), (.ref a1)])) rfl rfl (own_d hby d2_56)
    have N139 := Fr.snoc X139 N137 (by omega)
    have F139 : Fld Z h139 a1 "com/example/waban/waban/ItemHash$SipState" "v0" "J" (.long (rotl ((v.1) + (v.2.1)) (32 : Int32))) := Fld134.same W139
    have z139 : h139.size = h129.size := W139.size
    have K139 := K129.wr W139 (Or.inl (List.mem_of_getElem? (i := 0) rfl))
    have c141 : SS p e below B0 T139 m 59 #[.val (.ref a1), .val (.int (2 : Int32)), .val (.int i)] [] := Steps.trans c138 (st139 _ (Steps.refl _))
    have c142 : SS p e below B0 T139 m 61 #[.val (.ref a1), .val (.int (2 : Int32)), .val (.int i)] [(.ref a1), (.ref a1)] := Steps.trans c141 (by
        refine XS.aloadN X139.here hx rfl (own_d hby d2_59) rfl rfl ?_
        refine XS.dup X139.here hx rfl (own_d hby d2_60) rfl rfl ?_
        exact Steps.refl _)
    have Fld144 : Fld Z h139 a1 "com/example/waban/waban/ItemHash$SipState" "v2" "J" (.long (v.2.2.1)) := ((((G2.other W109 (Or.inr (slot_ne (Or.inl (W hw 81)) (Or.inl (W hw 74)) (by decide) (t := .long) (t' := .long) (by decide) (by decide)))).other W118 (Or.inr (slot_ne (Or.inl (W hw 81)) (Or.inl (W hw 78)) (by decide) (t := .long) (t' := .long) (by decide) (by decide)))).other W129 (Or.inr (slot_ne (Or.inl (W hw 81)) (Or.inl (W hw 78)) (by decide) (t := .long) (t' := .long) (by decide) (by decide)))).other W139 (Or.inr (slot_ne (Or.inl (W hw 81)) (Or.inl (W hw 74)) (by decide) (t := .long) (t' := .long) (by decide) (by decide))))
    obtain ⟨T143, X143, e143, st143⟩ := getF X139 hx hZ hown (host := "") (Or.inl (W hw 80)) Via.refl e139 Fld144 (g := (mkF m 61 #[.val (.ref a1), .val (.int (2 : Int32)), .val (.int i)] [(.ref a1), (.ref a1)])) rfl rfl (own_d hby d2_61)
    have c145 : SS p e below B0 T143 m 64 #[.val (.ref a1), .val (.int (2 : Int32)), .val (.int i)] [(.long (v.2.2.1)), (.ref a1)] := Steps.trans c142 (st143 _ (Steps.refl _))
    have c146 : SS p e below B0 T143 m 65 #[.val (.ref a1), .val (.int (2 : Int32)), .val (.int i)] [(.ref a1), (.long (v.2.2.1)), (.ref a1)] := Steps.trans c145 (by
        refine XS.aloadN X143.here hx rfl (own_d hby d2_64) rfl rfl ?_
        exact Steps.refl _)
    have Fld148 : Fld Z h139 a1 "com/example/waban/waban/ItemHash$SipState" "v3" "J" (.long (v.2.2.2)) := ((((G3.other W109 (Or.inr (slot_ne (Or.inl (W hw 84)) (Or.inl (W hw 74)) (by decide) (t := .long) (t' := .long) (by decide) (by decide)))).other W118 (Or.inr (slot_ne (Or.inl (W hw 84)) (Or.inl (W hw 78)) (by decide) (t := .long) (t' := .long) (by decide) (by decide)))).other W129 (Or.inr (slot_ne (Or.inl (W hw 84)) (Or.inl (W hw 78)) (by decide) (t := .long) (t' := .long) (by decide) (by decide)))).other W139 (Or.inr (slot_ne (Or.inl (W hw 84)) (Or.inl (W hw 74)) (by decide) (t := .long) (t' := .long) (by decide) (by decide))))
    obtain ⟨T147, X147, e147, st147⟩ := getF X143 hx hZ hown (host := "") (Or.inl (W hw 83)) Via.refl e143 Fld148 (g := (mkF m 65 #[.val (.ref a1), .val (.int (2 : Int32)), .val (.int i)] [(.ref a1), (.long (v.2.2.1)), (.ref a1)])) rfl rfl (own_d hby d2_65)
    have c149 : SS p e below B0 T147 m 68 #[.val (.ref a1), .val (.int (2 : Int32)), .val (.int i)] [(.long (v.2.2.2)), (.long (v.2.2.1)), (.ref a1)] := Steps.trans c146 (st147 _ (Steps.refl _))
    have c150 : SS p e below B0 T147 m 69 #[.val (.ref a1), .val (.int (2 : Int32)), .val (.int i)] [(.long ((v.2.2.1) + (v.2.2.2))), (.ref a1)] := Steps.trans c149 (by
        refine XS.ladd X147.here hx rfl (own_d hby d2_68) rfl ?_
        exact Steps.refl _)
    have Exa152 : Exa Z h139 a1 "com/example/waban/waban/ItemHash$SipState" := (Exa140.wr W139)
    obtain ⟨T151, h151, X151, e151, W151, st151⟩ := putF X147 hx hZ hown (host := "") (Or.inl (W hw 80)) Via.refl e147 Fld144 Exa152 (Or.inl (W hw 81)) (W hw 66) (ty := .long) (by decide) rfl rfl (g := (mkF m 69 #[.val (.ref a1), .val (.int (2 : Int32)), .val (.int i)] [(.long ((v.2.2.1) + (v.2.2.2))), (.ref a1)])) rfl rfl (own_d hby d2_69)
    have N151 := Fr.snoc X151 N139 (by omega)
    have F151 : Fld Z h151 a1 "com/example/waban/waban/ItemHash$SipState" "v2" "J" (.long ((v.2.2.1) + (v.2.2.2))) := Fld144.same W151
    have z151 : h151.size = h139.size := W151.size
    have K151 := K139.wr W151 (Or.inl (List.mem_of_getElem? (i := 0) rfl))
    have c153 : SS p e below B0 T151 m 72 #[.val (.ref a1), .val (.int (2 : Int32)), .val (.int i)] [] := Steps.trans c150 (st151 _ (Steps.refl _))
    have c154 : SS p e below B0 T151 m 74 #[.val (.ref a1), .val (.int (2 : Int32)), .val (.int i)] [(.ref a1), (.ref a1)] := Steps.trans c153 (by
        refine XS.aloadN X151.here hx rfl (own_d hby d2_72) rfl rfl ?_
        refine XS.aloadN X151.here hx rfl (own_d hby d2_73) rfl rfl ?_
        exact Steps.refl _)
    have Fld156 : Fld Z h151 a1 "com/example/waban/waban/ItemHash$SipState" "v3" "J" (.long (v.2.2.2)) := (Fld148.other W151 (Or.inr (slot_ne (Or.inl (W hw 84)) (Or.inl (W hw 81)) (by decide) (t := .long) (t' := .long) (by decide) (by decide))))
    obtain ⟨T155, X155, e155, st155⟩ := getF X151 hx hZ hown (host := "") (Or.inl (W hw 83)) Via.refl e151 Fld156 (g := (mkF m 74 #[.val (.ref a1), .val (.int (2 : Int32)), .val (.int i)] [(.ref a1), (.ref a1)])) rfl rfl (own_d hby d2_74)
    have c157 : SS p e below B0 T155 m 77 #[.val (.ref a1), .val (.int (2 : Int32)), .val (.int i)] [(.long (v.2.2.2)), (.ref a1)] := Steps.trans c154 (st155 _ (Steps.refl _))
    have c158 : SS p e below B0 T155 m 79 #[.val (.ref a1), .val (.int (2 : Int32)), .val (.int i)] [(.int (16 : Int32)), (.long (v.2.2.2)), (.ref a1)] := Steps.trans c157 (by
        refine XT.bipushV X155.here hx rfl (16 : Int32) (own_d hby d2_77) (by decide) ?_
        exact Steps.refl _)
    obtain ⟨_, _, ⟨T159, Lp159, kp159, np159⟩, -, X159, ⟨Lc159, hQ159, lp159, yp159, zp159⟩, st159⟩ := Jvm.LawKit.callS X155 hx (y := (⟨"java/lang/Long", "rotateLeft", "(JI)J"⟩ : MethodName)) hown (mvT hZ (W hw 94)) (mvT hZ (W hw 95)) (mvT hZ (W hw 96)) (mvT hZ (W hw 97)) (by decide) (backOf (W := 1) (rmRot l Z a0 hw [] (v.2.2.2) (16 : Int32) h151 n0 (by omega)) hZ (W hw 97) (W hw 96) (by decide) (by decide)) (g := (mkF m 79 #[.val (.ref a1), .val (.int (2 : Int32)), .val (.int i)] [(.int (16 : Int32)), (.long (v.2.2.2)), (.ref a1)])) rfl (by rw [hml]; rfl) (argsL := [(.long (v.2.2.2)), (.int (16 : Int32))]) (rest := [(.ref a1)]) (lenOf pd__JI_J rfl) rfl (by show 2 * 0 + _ ≤ _; exact Nat.le_of_eq rfl) (own_d hby d2_79) (fun _ _ => ⟨rfl, e155, (by decide : 0 + 0 ≤ _), (by decide : 0 + 0 ≤ _)⟩)
    dsimp only [Pt.U, Pt.locs, Pt.cells, Pt.slots] at X159 lp159 yp159 zp159 st159 hQ159
    subst lp159 yp159 zp159
    obtain ⟨rfl, Nq159, eq159⟩ := hQ159
    have N159 := Fr.app N151 Nq159
    have c160 : SS p e below B0 T159 m 82 #[.val (.ref a1), .val (.int (2 : Int32)), .val (.int i)] [(.long (rotl (v.2.2.2) (16 : Int32))), (.ref a1)] := Steps.trans c158 (st159 _ (Steps.refl _))
    have Exa162 : Exa Z h151 a1 "com/example/waban/waban/ItemHash$SipState" := (Exa152.wr W151)
    obtain ⟨T161, h161, X161, e161, W161, st161⟩ := putF X159 hx hZ hown (host := "") (Or.inl (W hw 83)) Via.refl eq159 Fld156 Exa162 (Or.inl (W hw 84)) (W hw 66) (ty := .long) (by decide) rfl rfl (g := (mkF m 82 #[.val (.ref a1), .val (.int (2 : Int32)), .val (.int i)] [(.long (rotl (v.2.2.2) (16 : Int32))), (.ref a1)])) rfl rfl (own_d hby d2_82)
    have N161 := Fr.snoc X161 N159 (by omega)
    have F161 : Fld Z h161 a1 "com/example/waban/waban/ItemHash$SipState" "v3" "J" (.long (rotl (v.2.2.2) (16 : Int32))) := Fld156.same W161
    have z161 : h161.size = h151.size := W161.size
    have K161 := K151.wr W161 (Or.inl (List.mem_of_getElem? (i := 0) rfl))
    have c163 : SS p e below B0 T161 m 85 #[.val (.ref a1), .val (.int (2 : Int32)), .val (.int i)] [] := Steps.trans c160 (st161 _ (Steps.refl _))
    have c164 : SS p e below B0 T161 m 87 #[.val (.ref a1), .val (.int (2 : Int32)), .val (.int i)] [(.ref a1), (.ref a1)] := Steps.trans c163 (by
        refine XS.aloadN X161.here hx rfl (own_d hby d2_85) rfl rfl ?_
        refine XS.dup X161.here hx rfl (own_d hby d2_86) rfl rfl ?_
        exact Steps.refl _)
    obtain ⟨T165, X165, e165, st165⟩ := getF X161 hx hZ hown (host := "") (Or.inl (W hw 83)) Via.refl e161 F161 (g := (mkF m 87 #[.val (.ref a1), .val (.int (2 : Int32)), .val (.int i)] [(.ref a1), (.ref a1)])) rfl rfl (own_d hby d2_87)
    have c166 : SS p e below B0 T165 m 90 #[.val (.ref a1), .val (.int (2 : Int32)), .val (.int i)] [(.long (rotl (v.2.2.2) (16 : Int32))), (.ref a1)] := Steps.trans c164 (st165 _ (Steps.refl _))
    have c167 : SS p e below B0 T165 m 91 #[.val (.ref a1), .val (.int (2 : Int32)), .val (.int i)] [(.ref a1), (.long (rotl (v.2.2.2) (16 : Int32))), (.ref a1)] := Steps.trans c166 (by
        refine XS.aloadN X165.here hx rfl (own_d hby d2_90) rfl rfl ?_
        exact Steps.refl _)
    have Fld169 : Fld Z h161 a1 "com/example/waban/waban/ItemHash$SipState" "v2" "J" (.long ((v.2.2.1) + (v.2.2.2))) := (F151.other W161 (Or.inr (slot_ne (Or.inl (W hw 81)) (Or.inl (W hw 84)) (by decide) (t := .long) (t' := .long) (by decide) (by decide))))
    obtain ⟨T168, X168, e168, st168⟩ := getF X165 hx hZ hown (host := "") (Or.inl (W hw 80)) Via.refl e165 Fld169 (g := (mkF m 91 #[.val (.ref a1), .val (.int (2 : Int32)), .val (.int i)] [(.ref a1), (.long (rotl (v.2.2.2) (16 : Int32))), (.ref a1)])) rfl rfl (own_d hby d2_91)
    have c170 : SS p e below B0 T168 m 94 #[.val (.ref a1), .val (.int (2 : Int32)), .val (.int i)] [(.long ((v.2.2.1) + (v.2.2.2))), (.long (rotl (v.2.2.2) (16 : Int32))), (.ref a1)] := Steps.trans c167 (st168 _ (Steps.refl _))
    have c171 : SS p e below B0 T168 m 95 #[.val (.ref a1), .val (.int (2 : Int32)), .val (.int i)] [(.long ((rotl (v.2.2.2) (16 : Int32)) ^^^ ((v.2.2.1) + (v.2.2.2)))), (.ref a1)] := Steps.trans c170 (by
        refine XS.lxor X168.here hx rfl (own_d hby d2_94) rfl ?_
        exact Steps.refl _)
    have Exa173 : Exa Z h161 a1 "com/example/waban/waban/ItemHash$SipState" := (Exa162.wr W161)
    obtain ⟨T172, h172, X172, e172, W172, st172⟩ := putF X168 hx hZ hown (host := "") (Or.inl (W hw 83)) Via.refl e168 F161 Exa173 (Or.inl (W hw 84)) (W hw 66) (ty := .long) (by decide) rfl rfl (g := (mkF m 95 #[.val (.ref a1), .val (.int (2 : Int32)), .val (.int i)] [(.long ((rotl (v.2.2.2) (16 : Int32)) ^^^ ((v.2.2.1) + (v.2.2.2)))), (.ref a1)])) rfl rfl (own_d hby d2_95)
    have N172 := Fr.snoc X172 N161 (by omega)
    have F172 : Fld Z h172 a1 "com/example/waban/waban/ItemHash$SipState" "v3" "J" (.long ((rotl (v.2.2.2) (16 : Int32)) ^^^ ((v.2.2.1) + (v.2.2.2)))) := F161.same W172
    have z172 : h172.size = h161.size := W172.size
    have K172 := K161.wr W172 (Or.inl (List.mem_of_getElem? (i := 0) rfl))
    have c174 : SS p e below B0 T172 m 98 #[.val (.ref a1), .val (.int (2 : Int32)), .val (.int i)] [] := Steps.trans c171 (st172 _ (Steps.refl _))
    have c175 : SS p e below B0 T172 m 100 #[.val (.ref a1), .val (.int (2 : Int32)), .val (.int i)] [(.ref a1), (.ref a1)] := Steps.trans c174 (by
        refine XS.aloadN X172.here hx rfl (own_d hby d2_98) rfl rfl ?_
        refine XS.dup X172.here hx rfl (own_d hby d2_99) rfl rfl ?_
        exact Steps.refl _)
    have Fld177 : Fld Z h172 a1 "com/example/waban/waban/ItemHash$SipState" "v0" "J" (.long (rotl ((v.1) + (v.2.1)) (32 : Int32))) := (((F139.other W151 (Or.inr (slot_ne (Or.inl (W hw 74)) (Or.inl (W hw 81)) (by decide) (t := .long) (t' := .long) (by decide) (by decide)))).other W161 (Or.inr (slot_ne (Or.inl (W hw 74)) (Or.inl (W hw 84)) (by decide) (t := .long) (t' := .long) (by decide) (by decide)))).other W172 (Or.inr (slot_ne (Or.inl (W hw 74)) (Or.inl (W hw 84)) (by decide) (t := .long) (t' := .long) (by decide) (by decide))))
    obtain ⟨T176, X176, e176, st176⟩ := getF X172 hx hZ hown (host := "") (Or.inl (W hw 73)) Via.refl e172 Fld177 (g := (mkF m 100 #[.val (.ref a1), .val (.int (2 : Int32)), .val (.int i)] [(.ref a1), (.ref a1)])) rfl rfl (own_d hby d2_100)
    have c178 : SS p e below B0 T176 m 103 #[.val (.ref a1), .val (.int (2 : Int32)), .val (.int i)] [(.long (rotl ((v.1) + (v.2.1)) (32 : Int32))), (.ref a1)] := Steps.trans c175 (st176 _ (Steps.refl _))
    have c179 : SS p e below B0 T176 m 104 #[.val (.ref a1), .val (.int (2 : Int32)), .val (.int i)] [(.ref a1), (.long (rotl ((v.1) + (v.2.1)) (32 : Int32))), (.ref a1)] := Steps.trans c178 (by
        refine XS.aloadN X176.here hx rfl (own_d hby d2_103) rfl rfl ?_
        exact Steps.refl _)
    obtain ⟨T180, X180, e180, st180⟩ := getF X176 hx hZ hown (host := "") (Or.inl (W hw 83)) Via.refl e176 F172 (g := (mkF m 104 #[.val (.ref a1), .val (.int (2 : Int32)), .val (.int i)] [(.ref a1), (.long (rotl ((v.1) + (v.2.1)) (32 : Int32))), (.ref a1)])) rfl rfl (own_d hby d2_104)
    have c181 : SS p e below B0 T180 m 107 #[.val (.ref a1), .val (.int (2 : Int32)), .val (.int i)] [(.long ((rotl (v.2.2.2) (16 : Int32)) ^^^ ((v.2.2.1) + (v.2.2.2)))), (.long (rotl ((v.1) + (v.2.1)) (32 : Int32))), (.ref a1)] := Steps.trans c179 (st180 _ (Steps.refl _))
    have c182 : SS p e below B0 T180 m 108 #[.val (.ref a1), .val (.int (2 : Int32)), .val (.int i)] [(.long ((rotl ((v.1) + (v.2.1)) (32 : Int32)) + ((rotl (v.2.2.2) (16 : Int32)) ^^^ ((v.2.2.1) + (v.2.2.2))))), (.ref a1)] := Steps.trans c181 (by
        refine XS.ladd X180.here hx rfl (own_d hby d2_107) rfl ?_
        exact Steps.refl _)
    have Exa184 : Exa Z h172 a1 "com/example/waban/waban/ItemHash$SipState" := (Exa173.wr W172)
    obtain ⟨T183, h183, X183, e183, W183, st183⟩ := putF X180 hx hZ hown (host := "") (Or.inl (W hw 73)) Via.refl e180 Fld177 Exa184 (Or.inl (W hw 74)) (W hw 66) (ty := .long) (by decide) rfl rfl (g := (mkF m 108 #[.val (.ref a1), .val (.int (2 : Int32)), .val (.int i)] [(.long ((rotl ((v.1) + (v.2.1)) (32 : Int32)) + ((rotl (v.2.2.2) (16 : Int32)) ^^^ ((v.2.2.1) + (v.2.2.2))))), (.ref a1)])) rfl rfl (own_d hby d2_108)
    have N183 := Fr.snoc X183 N172 (by omega)
    have F183 : Fld Z h183 a1 "com/example/waban/waban/ItemHash$SipState" "v0" "J" (.long ((rotl ((v.1) + (v.2.1)) (32 : Int32)) + ((rotl (v.2.2.2) (16 : Int32)) ^^^ ((v.2.2.1) + (v.2.2.2))))) := Fld177.same W183
    have z183 : h183.size = h172.size := W183.size
    have K183 := K172.wr W183 (Or.inl (List.mem_of_getElem? (i := 0) rfl))
    have c185 : SS p e below B0 T183 m 111 #[.val (.ref a1), .val (.int (2 : Int32)), .val (.int i)] [] := Steps.trans c182 (st183 _ (Steps.refl _))
    have c186 : SS p e below B0 T183 m 113 #[.val (.ref a1), .val (.int (2 : Int32)), .val (.int i)] [(.ref a1), (.ref a1)] := Steps.trans c185 (by
        refine XS.aloadN X183.here hx rfl (own_d hby d2_111) rfl rfl ?_
        refine XS.aloadN X183.here hx rfl (own_d hby d2_112) rfl rfl ?_
        exact Steps.refl _)
    have Fld188 : Fld Z h183 a1 "com/example/waban/waban/ItemHash$SipState" "v3" "J" (.long ((rotl (v.2.2.2) (16 : Int32)) ^^^ ((v.2.2.1) + (v.2.2.2)))) := (F172.other W183 (Or.inr (slot_ne (Or.inl (W hw 84)) (Or.inl (W hw 74)) (by decide) (t := .long) (t' := .long) (by decide) (by decide))))
    obtain ⟨T187, X187, e187, st187⟩ := getF X183 hx hZ hown (host := "") (Or.inl (W hw 83)) Via.refl e183 Fld188 (g := (mkF m 113 #[.val (.ref a1), .val (.int (2 : Int32)), .val (.int i)] [(.ref a1), (.ref a1)])) rfl rfl (own_d hby d2_113)
    have c189 : SS p e below B0 T187 m 116 #[.val (.ref a1), .val (.int (2 : Int32)), .val (.int i)] [(.long ((rotl (v.2.2.2) (16 : Int32)) ^^^ ((v.2.2.1) + (v.2.2.2)))), (.ref a1)] := Steps.trans c186 (st187 _ (Steps.refl _))
    have c190 : SS p e below B0 T187 m 118 #[.val (.ref a1), .val (.int (2 : Int32)), .val (.int i)] [(.int (21 : Int32)), (.long ((rotl (v.2.2.2) (16 : Int32)) ^^^ ((v.2.2.1) + (v.2.2.2)))), (.ref a1)] := Steps.trans c189 (by
        refine XT.bipushV X187.here hx rfl (21 : Int32) (own_d hby d2_116) (by decide) ?_
        exact Steps.refl _)
    obtain ⟨_, _, ⟨T191, Lp191, kp191, np191⟩, -, X191, ⟨Lc191, hQ191, lp191, yp191, zp191⟩, st191⟩ := Jvm.LawKit.callS X187 hx (y := (⟨"java/lang/Long", "rotateLeft", "(JI)J"⟩ : MethodName)) hown (mvT hZ (W hw 94)) (mvT hZ (W hw 95)) (mvT hZ (W hw 96)) (mvT hZ (W hw 97)) (by decide) (backOf (W := 1) (rmRot l Z a0 hw [] ((rotl (v.2.2.2) (16 : Int32)) ^^^ ((v.2.2.1) + (v.2.2.2))) (21 : Int32) h183 n0 (by omega)) hZ (W hw 97) (W hw 96) (by decide) (by decide)) (g := (mkF m 118 #[.val (.ref a1), .val (.int (2 : Int32)), .val (.int i)] [(.int (21 : Int32)), (.long ((rotl (v.2.2.2) (16 : Int32)) ^^^ ((v.2.2.1) + (v.2.2.2)))), (.ref a1)])) rfl (by rw [hml]; rfl) (argsL := [(.long ((rotl (v.2.2.2) (16 : Int32)) ^^^ ((v.2.2.1) + (v.2.2.2)))), (.int (21 : Int32))]) (rest := [(.ref a1)]) (lenOf pd__JI_J rfl) rfl (by show 2 * 0 + _ ≤ _; exact Nat.le_of_eq rfl) (own_d hby d2_118) (fun _ _ => ⟨rfl, e187, (by decide : 0 + 0 ≤ _), (by decide : 0 + 0 ≤ _)⟩)
    dsimp only [Pt.U, Pt.locs, Pt.cells, Pt.slots] at X191 lp191 yp191 zp191 st191 hQ191
    subst lp191 yp191 zp191
    obtain ⟨rfl, Nq191, eq191⟩ := hQ191
    have N191 := Fr.app N183 Nq191
    have c192 : SS p e below B0 T191 m 121 #[.val (.ref a1), .val (.int (2 : Int32)), .val (.int i)] [(.long (rotl ((rotl (v.2.2.2) (16 : Int32)) ^^^ ((v.2.2.1) + (v.2.2.2))) (21 : Int32))), (.ref a1)] := Steps.trans c190 (st191 _ (Steps.refl _))
    have Exa194 : Exa Z h183 a1 "com/example/waban/waban/ItemHash$SipState" := (Exa184.wr W183)
    obtain ⟨T193, h193, X193, e193, W193, st193⟩ := putF X191 hx hZ hown (host := "") (Or.inl (W hw 83)) Via.refl eq191 Fld188 Exa194 (Or.inl (W hw 84)) (W hw 66) (ty := .long) (by decide) rfl rfl (g := (mkF m 121 #[.val (.ref a1), .val (.int (2 : Int32)), .val (.int i)] [(.long (rotl ((rotl (v.2.2.2) (16 : Int32)) ^^^ ((v.2.2.1) + (v.2.2.2))) (21 : Int32))), (.ref a1)])) rfl rfl (own_d hby d2_121)
    have N193 := Fr.snoc X193 N191 (by omega)
    have F193 : Fld Z h193 a1 "com/example/waban/waban/ItemHash$SipState" "v3" "J" (.long (rotl ((rotl (v.2.2.2) (16 : Int32)) ^^^ ((v.2.2.1) + (v.2.2.2))) (21 : Int32))) := Fld188.same W193
    have z193 : h193.size = h183.size := W193.size
    have K193 := K183.wr W193 (Or.inl (List.mem_of_getElem? (i := 0) rfl))
    have c195 : SS p e below B0 T193 m 124 #[.val (.ref a1), .val (.int (2 : Int32)), .val (.int i)] [] := Steps.trans c192 (st193 _ (Steps.refl _))
    have c196 : SS p e below B0 T193 m 126 #[.val (.ref a1), .val (.int (2 : Int32)), .val (.int i)] [(.ref a1), (.ref a1)] := Steps.trans c195 (by
        refine XS.aloadN X193.here hx rfl (own_d hby d2_124) rfl rfl ?_
        refine XS.dup X193.here hx rfl (own_d hby d2_125) rfl rfl ?_
        exact Steps.refl _)
    obtain ⟨T197, X197, e197, st197⟩ := getF X193 hx hZ hown (host := "") (Or.inl (W hw 83)) Via.refl e193 F193 (g := (mkF m 126 #[.val (.ref a1), .val (.int (2 : Int32)), .val (.int i)] [(.ref a1), (.ref a1)])) rfl rfl (own_d hby d2_126)
    have c198 : SS p e below B0 T197 m 129 #[.val (.ref a1), .val (.int (2 : Int32)), .val (.int i)] [(.long (rotl ((rotl (v.2.2.2) (16 : Int32)) ^^^ ((v.2.2.1) + (v.2.2.2))) (21 : Int32))), (.ref a1)] := Steps.trans c196 (st197 _ (Steps.refl _))
    have c199 : SS p e below B0 T197 m 130 #[.val (.ref a1), .val (.int (2 : Int32)), .val (.int i)] [(.ref a1), (.long (rotl ((rotl (v.2.2.2) (16 : Int32)) ^^^ ((v.2.2.1) + (v.2.2.2))) (21 : Int32))), (.ref a1)] := Steps.trans c198 (by
        refine XS.aloadN X197.here hx rfl (own_d hby d2_129) rfl rfl ?_
        exact Steps.refl _)
    have Fld201 : Fld Z h193 a1 "com/example/waban/waban/ItemHash$SipState" "v0" "J" (.long ((rotl ((v.1) + (v.2.1)) (32 : Int32)) + ((rotl (v.2.2.2) (16 : Int32)) ^^^ ((v.2.2.1) + (v.2.2.2))))) := (F183.other W193 (Or.inr (slot_ne (Or.inl (W hw 74)) (Or.inl (W hw 84)) (by decide) (t := .long) (t' := .long) (by decide) (by decide))))
    obtain ⟨T200, X200, e200, st200⟩ := getF X197 hx hZ hown (host := "") (Or.inl (W hw 73)) Via.refl e197 Fld201 (g := (mkF m 130 #[.val (.ref a1), .val (.int (2 : Int32)), .val (.int i)] [(.ref a1), (.long (rotl ((rotl (v.2.2.2) (16 : Int32)) ^^^ ((v.2.2.1) + (v.2.2.2))) (21 : Int32))), (.ref a1)])) rfl rfl (own_d hby d2_130)
    have c202 : SS p e below B0 T200 m 133 #[.val (.ref a1), .val (.int (2 : Int32)), .val (.int i)] [(.long ((rotl ((v.1) + (v.2.1)) (32 : Int32)) + ((rotl (v.2.2.2) (16 : Int32)) ^^^ ((v.2.2.1) + (v.2.2.2))))), (.long (rotl ((rotl (v.2.2.2) (16 : Int32)) ^^^ ((v.2.2.1) + (v.2.2.2))) (21 : Int32))), (.ref a1)] := Steps.trans c199 (st200 _ (Steps.refl _))
    have c203 : SS p e below B0 T200 m 134 #[.val (.ref a1), .val (.int (2 : Int32)), .val (.int i)] [(.long ((rotl ((rotl (v.2.2.2) (16 : Int32)) ^^^ ((v.2.2.1) + (v.2.2.2))) (21 : Int32)) ^^^ ((rotl ((v.1) + (v.2.1)) (32 : Int32)) + ((rotl (v.2.2.2) (16 : Int32)) ^^^ ((v.2.2.1) + (v.2.2.2)))))), (.ref a1)] := Steps.trans c202 (by
        refine XS.lxor X200.here hx rfl (own_d hby d2_133) rfl ?_
        exact Steps.refl _)
    have Exa205 : Exa Z h193 a1 "com/example/waban/waban/ItemHash$SipState" := (Exa194.wr W193)
    obtain ⟨T204, h204, X204, e204, W204, st204⟩ := putF X200 hx hZ hown (host := "") (Or.inl (W hw 83)) Via.refl e200 F193 Exa205 (Or.inl (W hw 84)) (W hw 66) (ty := .long) (by decide) rfl rfl (g := (mkF m 134 #[.val (.ref a1), .val (.int (2 : Int32)), .val (.int i)] [(.long ((rotl ((rotl (v.2.2.2) (16 : Int32)) ^^^ ((v.2.2.1) + (v.2.2.2))) (21 : Int32)) ^^^ ((rotl ((v.1) + (v.2.1)) (32 : Int32)) + ((rotl (v.2.2.2) (16 : Int32)) ^^^ ((v.2.2.1) + (v.2.2.2)))))), (.ref a1)])) rfl rfl (own_d hby d2_134)
    have N204 := Fr.snoc X204 N193 (by omega)
    have F204 : Fld Z h204 a1 "com/example/waban/waban/ItemHash$SipState" "v3" "J" (.long ((rotl ((rotl (v.2.2.2) (16 : Int32)) ^^^ ((v.2.2.1) + (v.2.2.2))) (21 : Int32)) ^^^ ((rotl ((v.1) + (v.2.1)) (32 : Int32)) + ((rotl (v.2.2.2) (16 : Int32)) ^^^ ((v.2.2.1) + (v.2.2.2)))))) := F193.same W204
    have z204 : h204.size = h193.size := W204.size
    have K204 := K193.wr W204 (Or.inl (List.mem_of_getElem? (i := 0) rfl))
    have c206 : SS p e below B0 T204 m 137 #[.val (.ref a1), .val (.int (2 : Int32)), .val (.int i)] [] := Steps.trans c203 (st204 _ (Steps.refl _))
    have c207 : SS p e below B0 T204 m 139 #[.val (.ref a1), .val (.int (2 : Int32)), .val (.int i)] [(.ref a1), (.ref a1)] := Steps.trans c206 (by
        refine XS.aloadN X204.here hx rfl (own_d hby d2_137) rfl rfl ?_
        refine XS.dup X204.here hx rfl (own_d hby d2_138) rfl rfl ?_
        exact Steps.refl _)
    have Fld209 : Fld Z h204 a1 "com/example/waban/waban/ItemHash$SipState" "v2" "J" (.long ((v.2.2.1) + (v.2.2.2))) := ((((Fld169.other W172 (Or.inr (slot_ne (Or.inl (W hw 81)) (Or.inl (W hw 84)) (by decide) (t := .long) (t' := .long) (by decide) (by decide)))).other W183 (Or.inr (slot_ne (Or.inl (W hw 81)) (Or.inl (W hw 74)) (by decide) (t := .long) (t' := .long) (by decide) (by decide)))).other W193 (Or.inr (slot_ne (Or.inl (W hw 81)) (Or.inl (W hw 84)) (by decide) (t := .long) (t' := .long) (by decide) (by decide)))).other W204 (Or.inr (slot_ne (Or.inl (W hw 81)) (Or.inl (W hw 84)) (by decide) (t := .long) (t' := .long) (by decide) (by decide))))
    obtain ⟨T208, X208, e208, st208⟩ := getF X204 hx hZ hown (host := "") (Or.inl (W hw 80)) Via.refl e204 Fld209 (g := (mkF m 139 #[.val (.ref a1), .val (.int (2 : Int32)), .val (.int i)] [(.ref a1), (.ref a1)])) rfl rfl (own_d hby d2_139)
    have c210 : SS p e below B0 T208 m 142 #[.val (.ref a1), .val (.int (2 : Int32)), .val (.int i)] [(.long ((v.2.2.1) + (v.2.2.2))), (.ref a1)] := Steps.trans c207 (st208 _ (Steps.refl _))
    have c211 : SS p e below B0 T208 m 143 #[.val (.ref a1), .val (.int (2 : Int32)), .val (.int i)] [(.ref a1), (.long ((v.2.2.1) + (v.2.2.2))), (.ref a1)] := Steps.trans c210 (by
        refine XS.aloadN X208.here hx rfl (own_d hby d2_142) rfl rfl ?_
        exact Steps.refl _)
    have Fld213 : Fld Z h204 a1 "com/example/waban/waban/ItemHash$SipState" "v1" "J" (.long ((rotl (v.2.1) (13 : Int32)) ^^^ ((v.1) + (v.2.1)))) := (((((((F129.other W139 (Or.inr (slot_ne (Or.inl (W hw 78)) (Or.inl (W hw 74)) (by decide) (t := .long) (t' := .long) (by decide) (by decide)))).other W151 (Or.inr (slot_ne (Or.inl (W hw 78)) (Or.inl (W hw 81)) (by decide) (t := .long) (t' := .long) (by decide) (by decide)))).other W161 (Or.inr (slot_ne (Or.inl (W hw 78)) (Or.inl (W hw 84)) (by decide) (t := .long) (t' := .long) (by decide) (by decide)))).other W172 (Or.inr (slot_ne (Or.inl (W hw 78)) (Or.inl (W hw 84)) (by decide) (t := .long) (t' := .long) (by decide) (by decide)))).other W183 (Or.inr (slot_ne (Or.inl (W hw 78)) (Or.inl (W hw 74)) (by decide) (t := .long) (t' := .long) (by decide) (by decide)))).other W193 (Or.inr (slot_ne (Or.inl (W hw 78)) (Or.inl (W hw 84)) (by decide) (t := .long) (t' := .long) (by decide) (by decide)))).other W204 (Or.inr (slot_ne (Or.inl (W hw 78)) (Or.inl (W hw 84)) (by decide) (t := .long) (t' := .long) (by decide) (by decide))))
    obtain ⟨T212, X212, e212, st212⟩ := getF X208 hx hZ hown (host := "") (Or.inl (W hw 77)) Via.refl e208 Fld213 (g := (mkF m 143 #[.val (.ref a1), .val (.int (2 : Int32)), .val (.int i)] [(.ref a1), (.long ((v.2.2.1) + (v.2.2.2))), (.ref a1)])) rfl rfl (own_d hby d2_143)
    have c214 : SS p e below B0 T212 m 146 #[.val (.ref a1), .val (.int (2 : Int32)), .val (.int i)] [(.long ((rotl (v.2.1) (13 : Int32)) ^^^ ((v.1) + (v.2.1)))), (.long ((v.2.2.1) + (v.2.2.2))), (.ref a1)] := Steps.trans c211 (st212 _ (Steps.refl _))
    have c215 : SS p e below B0 T212 m 147 #[.val (.ref a1), .val (.int (2 : Int32)), .val (.int i)] [(.long (((v.2.2.1) + (v.2.2.2)) + ((rotl (v.2.1) (13 : Int32)) ^^^ ((v.1) + (v.2.1))))), (.ref a1)] := Steps.trans c214 (by
        refine XS.ladd X212.here hx rfl (own_d hby d2_146) rfl ?_
        exact Steps.refl _)
    have Exa217 : Exa Z h204 a1 "com/example/waban/waban/ItemHash$SipState" := (Exa205.wr W204)
    obtain ⟨T216, h216, X216, e216, W216, st216⟩ := putF X212 hx hZ hown (host := "") (Or.inl (W hw 80)) Via.refl e212 Fld209 Exa217 (Or.inl (W hw 81)) (W hw 66) (ty := .long) (by decide) rfl rfl (g := (mkF m 147 #[.val (.ref a1), .val (.int (2 : Int32)), .val (.int i)] [(.long (((v.2.2.1) + (v.2.2.2)) + ((rotl (v.2.1) (13 : Int32)) ^^^ ((v.1) + (v.2.1))))), (.ref a1)])) rfl rfl (own_d hby d2_147)
    have N216 := Fr.snoc X216 N204 (by omega)
    have F216 : Fld Z h216 a1 "com/example/waban/waban/ItemHash$SipState" "v2" "J" (.long (((v.2.2.1) + (v.2.2.2)) + ((rotl (v.2.1) (13 : Int32)) ^^^ ((v.1) + (v.2.1))))) := Fld209.same W216
    have z216 : h216.size = h204.size := W216.size
    have K216 := K204.wr W216 (Or.inl (List.mem_of_getElem? (i := 0) rfl))
    have c218 : SS p e below B0 T216 m 150 #[.val (.ref a1), .val (.int (2 : Int32)), .val (.int i)] [] := Steps.trans c215 (st216 _ (Steps.refl _))
    have c219 : SS p e below B0 T216 m 152 #[.val (.ref a1), .val (.int (2 : Int32)), .val (.int i)] [(.ref a1), (.ref a1)] := Steps.trans c218 (by
        refine XS.aloadN X216.here hx rfl (own_d hby d2_150) rfl rfl ?_
        refine XS.aloadN X216.here hx rfl (own_d hby d2_151) rfl rfl ?_
        exact Steps.refl _)
    have Fld221 : Fld Z h216 a1 "com/example/waban/waban/ItemHash$SipState" "v1" "J" (.long ((rotl (v.2.1) (13 : Int32)) ^^^ ((v.1) + (v.2.1)))) := (Fld213.other W216 (Or.inr (slot_ne (Or.inl (W hw 78)) (Or.inl (W hw 81)) (by decide) (t := .long) (t' := .long) (by decide) (by decide))))
    obtain ⟨T220, X220, e220, st220⟩ := getF X216 hx hZ hown (host := "") (Or.inl (W hw 77)) Via.refl e216 Fld221 (g := (mkF m 152 #[.val (.ref a1), .val (.int (2 : Int32)), .val (.int i)] [(.ref a1), (.ref a1)])) rfl rfl (own_d hby d2_152)
    have c222 : SS p e below B0 T220 m 155 #[.val (.ref a1), .val (.int (2 : Int32)), .val (.int i)] [(.long ((rotl (v.2.1) (13 : Int32)) ^^^ ((v.1) + (v.2.1)))), (.ref a1)] := Steps.trans c219 (st220 _ (Steps.refl _))
    have c223 : SS p e below B0 T220 m 157 #[.val (.ref a1), .val (.int (2 : Int32)), .val (.int i)] [(.int (17 : Int32)), (.long ((rotl (v.2.1) (13 : Int32)) ^^^ ((v.1) + (v.2.1)))), (.ref a1)] := Steps.trans c222 (by
        refine XT.bipushV X220.here hx rfl (17 : Int32) (own_d hby d2_155) (by decide) ?_
        exact Steps.refl _)
    obtain ⟨_, _, ⟨T224, Lp224, kp224, np224⟩, -, X224, ⟨Lc224, hQ224, lp224, yp224, zp224⟩, st224⟩ := Jvm.LawKit.callS X220 hx (y := (⟨"java/lang/Long", "rotateLeft", "(JI)J"⟩ : MethodName)) hown (mvT hZ (W hw 94)) (mvT hZ (W hw 95)) (mvT hZ (W hw 96)) (mvT hZ (W hw 97)) (by decide) (backOf (W := 1) (rmRot l Z a0 hw [] ((rotl (v.2.1) (13 : Int32)) ^^^ ((v.1) + (v.2.1))) (17 : Int32) h216 n0 (by omega)) hZ (W hw 97) (W hw 96) (by decide) (by decide)) (g := (mkF m 157 #[.val (.ref a1), .val (.int (2 : Int32)), .val (.int i)] [(.int (17 : Int32)), (.long ((rotl (v.2.1) (13 : Int32)) ^^^ ((v.1) + (v.2.1)))), (.ref a1)])) rfl (by rw [hml]; rfl) (argsL := [(.long ((rotl (v.2.1) (13 : Int32)) ^^^ ((v.1) + (v.2.1)))), (.int (17 : Int32))]) (rest := [(.ref a1)]) (lenOf pd__JI_J rfl) rfl (by show 2 * 0 + _ ≤ _; exact Nat.le_of_eq rfl) (own_d hby d2_157) (fun _ _ => ⟨rfl, e220, (by decide : 0 + 0 ≤ _), (by decide : 0 + 0 ≤ _)⟩)
    dsimp only [Pt.U, Pt.locs, Pt.cells, Pt.slots] at X224 lp224 yp224 zp224 st224 hQ224
    subst lp224 yp224 zp224
    obtain ⟨rfl, Nq224, eq224⟩ := hQ224
    have N224 := Fr.app N216 Nq224
    have c225 : SS p e below B0 T224 m 160 #[.val (.ref a1), .val (.int (2 : Int32)), .val (.int i)] [(.long (rotl ((rotl (v.2.1) (13 : Int32)) ^^^ ((v.1) + (v.2.1))) (17 : Int32))), (.ref a1)] := Steps.trans c223 (st224 _ (Steps.refl _))
    have Exa227 : Exa Z h216 a1 "com/example/waban/waban/ItemHash$SipState" := (Exa217.wr W216)
    obtain ⟨T226, h226, X226, e226, W226, st226⟩ := putF X224 hx hZ hown (host := "") (Or.inl (W hw 77)) Via.refl eq224 Fld221 Exa227 (Or.inl (W hw 78)) (W hw 66) (ty := .long) (by decide) rfl rfl (g := (mkF m 160 #[.val (.ref a1), .val (.int (2 : Int32)), .val (.int i)] [(.long (rotl ((rotl (v.2.1) (13 : Int32)) ^^^ ((v.1) + (v.2.1))) (17 : Int32))), (.ref a1)])) rfl rfl (own_d hby d2_160)
    have N226 := Fr.snoc X226 N224 (by omega)
    have F226 : Fld Z h226 a1 "com/example/waban/waban/ItemHash$SipState" "v1" "J" (.long (rotl ((rotl (v.2.1) (13 : Int32)) ^^^ ((v.1) + (v.2.1))) (17 : Int32))) := Fld221.same W226
    have z226 : h226.size = h216.size := W226.size
    have K226 := K216.wr W226 (Or.inl (List.mem_of_getElem? (i := 0) rfl))
    have c228 : SS p e below B0 T226 m 163 #[.val (.ref a1), .val (.int (2 : Int32)), .val (.int i)] [] := Steps.trans c225 (st226 _ (Steps.refl _))
    have c229 : SS p e below B0 T226 m 165 #[.val (.ref a1), .val (.int (2 : Int32)), .val (.int i)] [(.ref a1), (.ref a1)] := Steps.trans c228 (by
        refine XS.aloadN X226.here hx rfl (own_d hby d2_163) rfl rfl ?_
        refine XS.dup X226.here hx rfl (own_d hby d2_164) rfl rfl ?_
        exact Steps.refl _)
    obtain ⟨T230, X230, e230, st230⟩ := getF X226 hx hZ hown (host := "") (Or.inl (W hw 77)) Via.refl e226 F226 (g := (mkF m 165 #[.val (.ref a1), .val (.int (2 : Int32)), .val (.int i)] [(.ref a1), (.ref a1)])) rfl rfl (own_d hby d2_165)
    have c231 : SS p e below B0 T230 m 168 #[.val (.ref a1), .val (.int (2 : Int32)), .val (.int i)] [(.long (rotl ((rotl (v.2.1) (13 : Int32)) ^^^ ((v.1) + (v.2.1))) (17 : Int32))), (.ref a1)] := Steps.trans c229 (st230 _ (Steps.refl _))
    have c232 : SS p e below B0 T230 m 169 #[.val (.ref a1), .val (.int (2 : Int32)), .val (.int i)] [(.ref a1), (.long (rotl ((rotl (v.2.1) (13 : Int32)) ^^^ ((v.1) + (v.2.1))) (17 : Int32))), (.ref a1)] := Steps.trans c231 (by
        refine XS.aloadN X230.here hx rfl (own_d hby d2_168) rfl rfl ?_
        exact Steps.refl _)
    have Fld234 : Fld Z h226 a1 "com/example/waban/waban/ItemHash$SipState" "v2" "J" (.long (((v.2.2.1) + (v.2.2.2)) + ((rotl (v.2.1) (13 : Int32)) ^^^ ((v.1) + (v.2.1))))) := (F216.other W226 (Or.inr (slot_ne (Or.inl (W hw 81)) (Or.inl (W hw 78)) (by decide) (t := .long) (t' := .long) (by decide) (by decide))))
    obtain ⟨T233, X233, e233, st233⟩ := getF X230 hx hZ hown (host := "") (Or.inl (W hw 80)) Via.refl e230 Fld234 (g := (mkF m 169 #[.val (.ref a1), .val (.int (2 : Int32)), .val (.int i)] [(.ref a1), (.long (rotl ((rotl (v.2.1) (13 : Int32)) ^^^ ((v.1) + (v.2.1))) (17 : Int32))), (.ref a1)])) rfl rfl (own_d hby d2_169)
    have c235 : SS p e below B0 T233 m 172 #[.val (.ref a1), .val (.int (2 : Int32)), .val (.int i)] [(.long (((v.2.2.1) + (v.2.2.2)) + ((rotl (v.2.1) (13 : Int32)) ^^^ ((v.1) + (v.2.1))))), (.long (rotl ((rotl (v.2.1) (13 : Int32)) ^^^ ((v.1) + (v.2.1))) (17 : Int32))), (.ref a1)] := Steps.trans c232 (st233 _ (Steps.refl _))
    have c236 : SS p e below B0 T233 m 173 #[.val (.ref a1), .val (.int (2 : Int32)), .val (.int i)] [(.long ((rotl ((rotl (v.2.1) (13 : Int32)) ^^^ ((v.1) + (v.2.1))) (17 : Int32)) ^^^ (((v.2.2.1) + (v.2.2.2)) + ((rotl (v.2.1) (13 : Int32)) ^^^ ((v.1) + (v.2.1)))))), (.ref a1)] := Steps.trans c235 (by
        refine XS.lxor X233.here hx rfl (own_d hby d2_172) rfl ?_
        exact Steps.refl _)
    have Exa238 : Exa Z h226 a1 "com/example/waban/waban/ItemHash$SipState" := (Exa227.wr W226)
    obtain ⟨T237, h237, X237, e237, W237, st237⟩ := putF X233 hx hZ hown (host := "") (Or.inl (W hw 77)) Via.refl e233 F226 Exa238 (Or.inl (W hw 78)) (W hw 66) (ty := .long) (by decide) rfl rfl (g := (mkF m 173 #[.val (.ref a1), .val (.int (2 : Int32)), .val (.int i)] [(.long ((rotl ((rotl (v.2.1) (13 : Int32)) ^^^ ((v.1) + (v.2.1))) (17 : Int32)) ^^^ (((v.2.2.1) + (v.2.2.2)) + ((rotl (v.2.1) (13 : Int32)) ^^^ ((v.1) + (v.2.1)))))), (.ref a1)])) rfl rfl (own_d hby d2_173)
    have N237 := Fr.snoc X237 N226 (by omega)
    have F237 : Fld Z h237 a1 "com/example/waban/waban/ItemHash$SipState" "v1" "J" (.long ((rotl ((rotl (v.2.1) (13 : Int32)) ^^^ ((v.1) + (v.2.1))) (17 : Int32)) ^^^ (((v.2.2.1) + (v.2.2.2)) + ((rotl (v.2.1) (13 : Int32)) ^^^ ((v.1) + (v.2.1)))))) := F226.same W237
    have z237 : h237.size = h226.size := W237.size
    have K237 := K226.wr W237 (Or.inl (List.mem_of_getElem? (i := 0) rfl))
    have c239 : SS p e below B0 T237 m 176 #[.val (.ref a1), .val (.int (2 : Int32)), .val (.int i)] [] := Steps.trans c236 (st237 _ (Steps.refl _))
    have c240 : SS p e below B0 T237 m 178 #[.val (.ref a1), .val (.int (2 : Int32)), .val (.int i)] [(.ref a1), (.ref a1)] := Steps.trans c239 (by
        refine XS.aloadN X237.here hx rfl (own_d hby d2_176) rfl rfl ?_
        refine XS.aloadN X237.here hx rfl (own_d hby d2_177) rfl rfl ?_
        exact Steps.refl _)
    have Fld242 : Fld Z h237 a1 "com/example/waban/waban/ItemHash$SipState" "v2" "J" (.long (((v.2.2.1) + (v.2.2.2)) + ((rotl (v.2.1) (13 : Int32)) ^^^ ((v.1) + (v.2.1))))) := (Fld234.other W237 (Or.inr (slot_ne (Or.inl (W hw 81)) (Or.inl (W hw 78)) (by decide) (t := .long) (t' := .long) (by decide) (by decide))))
    obtain ⟨T241, X241, e241, st241⟩ := getF X237 hx hZ hown (host := "") (Or.inl (W hw 80)) Via.refl e237 Fld242 (g := (mkF m 178 #[.val (.ref a1), .val (.int (2 : Int32)), .val (.int i)] [(.ref a1), (.ref a1)])) rfl rfl (own_d hby d2_178)
    have c243 : SS p e below B0 T241 m 181 #[.val (.ref a1), .val (.int (2 : Int32)), .val (.int i)] [(.long (((v.2.2.1) + (v.2.2.2)) + ((rotl (v.2.1) (13 : Int32)) ^^^ ((v.1) + (v.2.1))))), (.ref a1)] := Steps.trans c240 (st241 _ (Steps.refl _))
    have c244 : SS p e below B0 T241 m 183 #[.val (.ref a1), .val (.int (2 : Int32)), .val (.int i)] [(.int (32 : Int32)), (.long (((v.2.2.1) + (v.2.2.2)) + ((rotl (v.2.1) (13 : Int32)) ^^^ ((v.1) + (v.2.1))))), (.ref a1)] := Steps.trans c243 (by
        refine XT.bipushV X241.here hx rfl (32 : Int32) (own_d hby d2_181) (by decide) ?_
        exact Steps.refl _)
    obtain ⟨_, _, ⟨T245, Lp245, kp245, np245⟩, -, X245, ⟨Lc245, hQ245, lp245, yp245, zp245⟩, st245⟩ := Jvm.LawKit.callS X241 hx (y := (⟨"java/lang/Long", "rotateLeft", "(JI)J"⟩ : MethodName)) hown (mvT hZ (W hw 94)) (mvT hZ (W hw 95)) (mvT hZ (W hw 96)) (mvT hZ (W hw 97)) (by decide) (backOf (W := 1) (rmRot l Z a0 hw [] (((v.2.2.1) + (v.2.2.2)) + ((rotl (v.2.1) (13 : Int32)) ^^^ ((v.1) + (v.2.1)))) (32 : Int32) h237 n0 (by omega)) hZ (W hw 97) (W hw 96) (by decide) (by decide)) (g := (mkF m 183 #[.val (.ref a1), .val (.int (2 : Int32)), .val (.int i)] [(.int (32 : Int32)), (.long (((v.2.2.1) + (v.2.2.2)) + ((rotl (v.2.1) (13 : Int32)) ^^^ ((v.1) + (v.2.1))))), (.ref a1)])) rfl (by rw [hml]; rfl) (argsL := [(.long (((v.2.2.1) + (v.2.2.2)) + ((rotl (v.2.1) (13 : Int32)) ^^^ ((v.1) + (v.2.1))))), (.int (32 : Int32))]) (rest := [(.ref a1)]) (lenOf pd__JI_J rfl) rfl (by show 2 * 0 + _ ≤ _; exact Nat.le_of_eq rfl) (own_d hby d2_183) (fun _ _ => ⟨rfl, e241, (by decide : 0 + 0 ≤ _), (by decide : 0 + 0 ≤ _)⟩)
    dsimp only [Pt.U, Pt.locs, Pt.cells, Pt.slots] at X245 lp245 yp245 zp245 st245 hQ245
    subst lp245 yp245 zp245
    obtain ⟨rfl, Nq245, eq245⟩ := hQ245
    have N245 := Fr.app N237 Nq245
    have c246 : SS p e below B0 T245 m 186 #[.val (.ref a1), .val (.int (2 : Int32)), .val (.int i)] [(.long (rotl (((v.2.2.1) + (v.2.2.2)) + ((rotl (v.2.1) (13 : Int32)) ^^^ ((v.1) + (v.2.1)))) (32 : Int32))), (.ref a1)] := Steps.trans c244 (st245 _ (Steps.refl _))
    have Exa248 : Exa Z h237 a1 "com/example/waban/waban/ItemHash$SipState" := (Exa238.wr W237)
    obtain ⟨T247, h247, X247, e247, W247, st247⟩ := putF X245 hx hZ hown (host := "") (Or.inl (W hw 80)) Via.refl eq245 Fld242 Exa248 (Or.inl (W hw 81)) (W hw 66) (ty := .long) (by decide) rfl rfl (g := (mkF m 186 #[.val (.ref a1), .val (.int (2 : Int32)), .val (.int i)] [(.long (rotl (((v.2.2.1) + (v.2.2.2)) + ((rotl (v.2.1) (13 : Int32)) ^^^ ((v.1) + (v.2.1)))) (32 : Int32))), (.ref a1)])) rfl rfl (own_d hby d2_186)
    have N247 := Fr.snoc X247 N245 (by omega)
    have F247 : Fld Z h247 a1 "com/example/waban/waban/ItemHash$SipState" "v2" "J" (.long (rotl (((v.2.2.1) + (v.2.2.2)) + ((rotl (v.2.1) (13 : Int32)) ^^^ ((v.1) + (v.2.1)))) (32 : Int32))) := Fld242.same W247
    have z247 : h247.size = h237.size := W247.size
    have K247 := K237.wr W247 (Or.inl (List.mem_of_getElem? (i := 0) rfl))
    have c249 : SS p e below B0 T247 m 189 #[.val (.ref a1), .val (.int (2 : Int32)), .val (.int i)] [] := Steps.trans c246 (st247 _ (Steps.refl _))
    have c250 : SS p e below B0 T247 m 2 #[.val (.ref a1), .val (.int (2 : Int32)), .val (.int (i + (1 : Int32)))] [] := Steps.trans c249 (by
        refine XT.iincV X247.here hx rfl (1 : Int32) (own_d hby d2_189) (by decide) rfl (l' := #[.val (.ref a1), .val (.int (2 : Int32)), .val (.int (i + (1 : Int32)))]) rfl ?_
        refine XS.goto X247.here hx rfl (pc0 := 192) (pc' := 2) rfl (own_d hby d2_192) (by decide) (by decide) ?_
        exact Steps.refl _)
    have Fld251 : Fld Z h247 a1 "com/example/waban/waban/ItemHash$SipState" "v0" "J" (.long ((rotl ((v.1) + (v.2.1)) (32 : Int32)) + ((rotl (v.2.2.2) (16 : Int32)) ^^^ ((v.2.2.1) + (v.2.2.2))))) := (((((Fld201.other W204 (Or.inr (slot_ne (Or.inl (W hw 74)) (Or.inl (W hw 84)) (by decide) (t := .long) (t' := .long) (by decide) (by decide)))).other W216 (Or.inr (slot_ne (Or.inl (W hw 74)) (Or.inl (W hw 81)) (by decide) (t := .long) (t' := .long) (by decide) (by decide)))).other W226 (Or.inr (slot_ne (Or.inl (W hw 74)) (Or.inl (W hw 78)) (by decide) (t := .long) (t' := .long) (by decide) (by decide)))).other W237 (Or.inr (slot_ne (Or.inl (W hw 74)) (Or.inl (W hw 78)) (by decide) (t := .long) (t' := .long) (by decide) (by decide)))).other W247 (Or.inr (slot_ne (Or.inl (W hw 74)) (Or.inl (W hw 81)) (by decide) (t := .long) (t' := .long) (by decide) (by decide))))
    have Fld252 : Fld Z h247 a1 "com/example/waban/waban/ItemHash$SipState" "v1" "J" (.long ((rotl ((rotl (v.2.1) (13 : Int32)) ^^^ ((v.1) + (v.2.1))) (17 : Int32)) ^^^ (((v.2.2.1) + (v.2.2.2)) + ((rotl (v.2.1) (13 : Int32)) ^^^ ((v.1) + (v.2.1)))))) := (F237.other W247 (Or.inr (slot_ne (Or.inl (W hw 78)) (Or.inl (W hw 81)) (by decide) (t := .long) (t' := .long) (by decide) (by decide))))
    have Fld253 : Fld Z h247 a1 "com/example/waban/waban/ItemHash$SipState" "v3" "J" (.long ((rotl ((rotl (v.2.2.2) (16 : Int32)) ^^^ ((v.2.2.1) + (v.2.2.2))) (21 : Int32)) ^^^ ((rotl ((v.1) + (v.2.1)) (32 : Int32)) + ((rotl (v.2.2.2) (16 : Int32)) ^^^ ((v.2.2.1) + (v.2.2.2)))))) := ((((F204.other W216 (Or.inr (slot_ne (Or.inl (W hw 84)) (Or.inl (W hw 81)) (by decide) (t := .long) (t' := .long) (by decide) (by decide)))).other W226 (Or.inr (slot_ne (Or.inl (W hw 84)) (Or.inl (W hw 78)) (by decide) (t := .long) (t' := .long) (by decide) (by decide)))).other W237 (Or.inr (slot_ne (Or.inl (W hw 84)) (Or.inl (W hw 78)) (by decide) (t := .long) (t' := .long) (by decide) (by decide)))).other W247 (Or.inr (slot_ne (Or.inl (W hw 84)) (Or.inl (W hw 81)) (by decide) (t := .long) (t' := .long) (by decide) (by decide))))
    have Exa254 : Exa Z h247 a1 "com/example/waban/waban/ItemHash$SipState" := (Exa248.wr W247)
    exact ⟨_, _, _, X247, e247, N247, K247, Exa254, Fld251, Fld252, F247, Fld253, c250⟩
  obtain ⟨T_0, h_0, L_0, X_0, e_0, N_0, K_0, E_0, F0_0, F1_0, F2_0, F3_0, c_0⟩ := turn (0 : Int32) v _ _ _ (by decide) X0 e0 N0 (Keep.refl _ _) E1 F0 F1 F2 F3 c101
  obtain ⟨T_1, h_1, L_1, X_1, e_1, N_1, K_1, E_1, F0_1, F1_1, F2_1, F3_1, c_1⟩ := turn (1 : Int32) (rnd v) _ _ _ (by decide) X_0 e_0 N_0 K_0 E_0 F0_0 F1_0 F2_0 F3_0 c_0
  have cz : SS p e below B0 T_1 m 2 #[.val (.ref a1), .val (.int (2 : Int32)), .val (.int (2 : Int32))] [] := c_1
  have c102 : SS p e below B0 T_1 m 195 #[.val (.ref a1), .val (.int (2 : Int32)), .val (.int (2 : Int32))] [] := Steps.trans cz (by
      refine XS.iloadN X_1.here hx rfl (own_d hby d2_2) rfl ?_
      refine XS.iloadN X_1.here hx rfl (own_d hby d2_3) rfl ?_
      refine XS.icmpYes X_1.here hx rfl (pc0 := 4) (pc' := 195) rfl (own_d hby d2_4) rfl (flt (by decide : ¬ (2 : Int32) < (2 : Int32))).2.1 (by decide) (by decide) ?_
      exact Steps.refl _)
  obtain ⟨fs, hr, hrun, hended, hW, hsame⟩ := X_1.leave (v := none) (fun _ => rfl)
  subst hB0
  refine ⟨_, _, Steps.trans c102 ?_, hrun, hended, _, _, rfl, ?_, ⟨_, rfl⟩, hW, hsame.mono (by decide) (by decide)⟩
  · exact X_1.returnOut hx Bd.returns (own_d hby d2_195) hr
  · show QRd2 Z a1 v h0 n0 _ T_1.heap _
    rw [e_1]
    exact ⟨rfl, N_1, K_1, F0_1, F1_1, F2_1, F3_1⟩
def QRd4 (Z : State) (a1 : Addr) (v : V4) (h0 : Heap) (n0 : Nat) (r : Option Value) (h : Heap) (L : List Loc) : Prop := r = none ∧ Fr n0 L ∧ Keep h0 h [a1] ∧ Fld Z h a1 "com/example/waban/waban/ItemHash$SipState" "v0" "J" (.long (rnd (rnd (rnd (rnd v)))).1) ∧ Fld Z h a1 "com/example/waban/waban/ItemHash$SipState" "v1" "J" (.long (rnd (rnd (rnd (rnd v)))).2.1) ∧ Fld Z h a1 "com/example/waban/waban/ItemHash$SipState" "v2" "J" (.long (rnd (rnd (rnd (rnd v)))).2.2.1) ∧ Fld Z h a1 "com/example/waban/waban/ItemHash$SipState" "v3" "J" (.long (rnd (rnd (rnd (rnd v)))).2.2.2)
set_option maxRecDepth 65536 in
set_option maxHeartbeats 40000000 in
theorem rmRd4 (l : Launch) (Z : State) (a0 : Array Value) (hw : ∀ d ∈ tables_1, d.before a0 Z = true) (ws : List Jvm.Cond) (a1 : Addr) (v : V4) (h0 : Heap) (n0 : Nat) (Z0 : n0 ≤ h0.size) (E1 : Exa Z h0 a1 "com/example/waban/waban/ItemHash$SipState") (F0 : Fld Z h0 a1 "com/example/waban/waban/ItemHash$SipState" "v0" "J" (.long v.1)) (F1 : Fld Z h0 a1 "com/example/waban/waban/ItemHash$SipState" "v1" "J" (.long v.2.1)) (F2 : Fld Z h0 a1 "com/example/waban/waban/ItemHash$SipState" "v2" "J" (.long v.2.2.1)) (F3 : Fld Z h0 a1 "com/example/waban/waban/ItemHash$SipState" "v3" "J" (.long v.2.2.2)) (g1 : n0 ≤ a1) :
    MetFree l (⟨"com/example/waban/waban/ItemHash$SipState", "rounds", "(I)V"⟩ : MethodName) (head1 (Jvm.Cond.code (⟨"com/example/waban/waban/ItemHash$SipState", "rounds", "(I)V"⟩ : MethodName) prog_13_method_7_code 3 none :: ws) ({ frames := 1, cells := 0, slots := 0, locals := 15 } : Room)) (fun a U => a = #[(.ref a1), (.int (4 : Int32))] ∧ Z.Warmed39 U.vm ∧ U.heap = h0) (fun _ _ _ _ _ => True) (fun _ U o U' => ∃ vR LR, o = .returned vR ∧ QRd4 Z a1 v h0 n0 vR U'.heap LR ∧ FrameEnd U o U' LR ({ frames := 1, cells := 0, slots := 0, locals := 15 } : Room).cells ({ frames := 1, cells := 0, slots := 0, locals := 15 } : Room).slots) := by
  refine MetFree.of_bodySF (plainFor_of_name pn_com_example_waban_waban_ItemHash_SipState) hisR ?_
  intro p e s m args below meth c s₁ Bd hml0 hP hK
  obtain ⟨rfl, hZ, hh⟩ := hP
  have hx := Bd.exec
  have hby := Bd.bytes
  have hml : c.maxLocals = 3 := hml0
  have hown : s.vm.findClass "com/example/waban/waban/ItemHash$SipState" = some m.cls := findClass_of_methodNamed Bd.named
  have hnm := (name_of_methodNamed Bd.named Bd.method).1
  have X0 : Stand p l e ({ frames := 1, cells := 0, slots := 0, locals := 15 } : Room) s m #[(.ref a1), (.int (4 : Int32))] below meth c s₁ [] 0 0 := Stand.of_body Bd
  have e0 : s₁.heap = h0 := by rw [← hh, Bd.state]; rfl
  have N0 := Fr.nil n0
  obtain ⟨B0, c0, hB0⟩ : ∃ B0, Steps p.tables e below B0 (s₁.setTop (mkF m 0 #[.val (.ref a1), .val (.int (4 : Int32)), .unset] [])) ∧ B0 = s₁.setTop (entryFrame m #[(.ref a1), (.int (4 : Int32))] 3) := ⟨_, castTop (ef_RI_3 m a1 (4 : Int32)) (Steps.refl _), rfl⟩
  have c101 : SS p e below B0 s₁ m 2 #[.val (.ref a1), .val (.int (4 : Int32)), .val (.int (0 : Int32))] [] := Steps.trans c0 (by
      refine XT.iconstV X0.here hx rfl (0 : Int32) (own_d hby d2_0) (by decide) ?_
      refine XS.istoreN X0.here hx rfl (own_d hby d2_1) rfl (l' := #[.val (.ref a1), .val (.int (4 : Int32)), .val (.int (0 : Int32))]) rfl ?_
      exact Steps.refl _)
  have lt_a1 : (@LT.lt Nat _ a1 h0.size) := E1.lt
  have turn : ∀ (i : Int32) (v : V4) (T : State) (h : Heap) (Lo : List Loc), i < (4 : Int32) → Stand p l e ({ frames := 1, cells := 0, slots := 0, locals := 15 } : Room) s m #[(.ref a1), (.int (4 : Int32))] below meth c T Lo 0 0 → T.heap = h → Fr n0 Lo → Keep h0 h [a1] → Exa Z h a1 "com/example/waban/waban/ItemHash$SipState" → Fld Z h a1 "com/example/waban/waban/ItemHash$SipState" "v0" "J" (.long v.1) → Fld Z h a1 "com/example/waban/waban/ItemHash$SipState" "v1" "J" (.long v.2.1) → Fld Z h a1 "com/example/waban/waban/ItemHash$SipState" "v2" "J" (.long v.2.2.1) → Fld Z h a1 "com/example/waban/waban/ItemHash$SipState" "v3" "J" (.long v.2.2.2) → SS p e below B0 T m 2 #[.val (.ref a1), .val (.int (4 : Int32)), .val (.int i)] [] →
      ∃ (T' : State) (h' : Heap) (Lo' : List Loc), Stand p l e ({ frames := 1, cells := 0, slots := 0, locals := 15 } : Room) s m #[(.ref a1), (.int (4 : Int32))] below meth c T' Lo' 0 0 ∧ T'.heap = h' ∧ Fr n0 Lo' ∧ Keep h0 h' [a1] ∧ Exa Z h' a1 "com/example/waban/waban/ItemHash$SipState" ∧ Fld Z h' a1 "com/example/waban/waban/ItemHash$SipState" "v0" "J" (.long (rnd v).1) ∧ Fld Z h' a1 "com/example/waban/waban/ItemHash$SipState" "v1" "J" (.long (rnd v).2.1) ∧ Fld Z h' a1 "com/example/waban/waban/ItemHash$SipState" "v2" "J" (.long (rnd v).2.2.1) ∧ Fld Z h' a1 "com/example/waban/waban/ItemHash$SipState" "v3" "J" (.long (rnd v).2.2.2) ∧ SS p e below B0 T' m 2 #[.val (.ref a1), .val (.int (4 : Int32)), .val (.int (i + (1 : Int32)))] [] := by
    intro i v T h Lo hi X00 e00 N00 K00 Ex G0 G1 G2 G3 c00
    have lz : (@LT.lt Nat _ a1 h.size) := Ex.lt
    have lk := K00.1
    have c102 : SS p e below B0 T m 9 #[.val (.ref a1), .val (.int (4 : Int32)), .val (.int i)] [(.ref a1), (.ref a1)] := Steps.trans c00 (by
        refine XS.iloadN X00.here hx rfl (own_d hby d2_2) rfl ?_
        refine XS.iloadN X00.here hx rfl (own_d hby d2_3) rfl ?_
        refine XS.icmpNo X00.here hx rfl (own_d hby d2_4) rfl (tlt hi).2.1 ?_
        refine XS.aloadN X00.here hx rfl (own_d hby d2_7) rfl rfl ?_
        refine XS.dup X00.here hx rfl (own_d hby d2_8) rfl rfl ?_
        exact Steps.refl _)
    obtain ⟨T103, X103, e103, st103⟩ := getF X00 hx hZ hown (host := "") (Or.inl (W hw 73)) Via.refl e00 G0 (g := (mkF m 9 #[.val (.ref a1), .val (.int (4 : Int32)), .val (.int i)] [(.ref a1), (.ref a1)])) rfl rfl (own_d hby d2_9)
    have c104 : SS p e below B0 T103 m 12 #[.val (.ref a1), .val (.int (4 : Int32)), .val (.int i)] [(.long (v.1)), (.ref a1)] := Steps.trans c102 (st103 _ (Steps.refl _))
    have c105 : SS p e below B0 T103 m 13 #[.val (.ref a1), .val (.int (4 : Int32)), .val (.int i)] [(.ref a1), (.long (v.1)), (.ref a1)] := Steps.trans c104 (by
        refine XS.aloadN X103.here hx rfl (own_d hby d2_12) rfl rfl ?_
        exact Steps.refl _)
    obtain ⟨T106, X106, e106, st106⟩ := getF X103 hx hZ hown (host := "") (Or.inl (W hw 77)) Via.refl e103 G1 (g := (mkF m 13 #[.val (.ref a1), .val (.int (4 : Int32)), .val (.int i)] [(.ref a1), (.long (v.1)), (.ref a1)])) rfl rfl (own_d hby d2_13)
    have c107 : SS p e below B0 T106 m 16 #[.val (.ref a1), .val (.int (4 : Int32)), .val (.int i)] [(.long (v.2.1)), (.long (v.1)), (.ref a1)] := Steps.trans c105 (st106 _ (Steps.refl _))
    have c108 : SS p e below B0 T106 m 17 #[.val (.ref a1), .val (.int (4 : Int32)), .val (.int i)] [(.long ((v.1) + (v.2.1))), (.ref a1)] := Steps.trans c107 (by
        refine XS.ladd X106.here hx rfl (own_d hby d2_16) rfl ?_
        exact Steps.refl _)
    obtain ⟨T109, h109, X109, e109, W109, st109⟩ := putF X106 hx hZ hown (host := "") (Or.inl (W hw 73)) Via.refl e106 G0 Ex (Or.inl (W hw 74)) (W hw 66) (ty := .long) (by decide) rfl rfl (g := (mkF m 17 #[.val (.ref a1), .val (.int (4 : Int32)), .val (.int i)] [(.long ((v.1) + (v.2.1))), (.ref a1)])) rfl rfl (own_d hby d2_17)
    have N109 := Fr.snoc X109 N00 (by omega)
    have F109 : Fld Z h109 a1 "com/example/waban/waban/ItemHash$SipState" "v0" "J" (.long ((v.1) + (v.2.1))) := G0.same W109
    have z109 : h109.size = h.size := W109.size
    have K109 := K00.wr W109 (Or.inl (List.mem_of_getElem? (i := 0) rfl))
    have c110 : SS p e below B0 T109 m 20 #[.val (.ref a1), .val (.int (4 : Int32)), .val (.int i)] [] := Steps.trans c108 (st109 _ (Steps.refl _))
    have c111 : SS p e below B0 T109 m 22 #[.val (.ref a1), .val (.int (4 : Int32)), .val (.int i)] [(.ref a1), (.ref a1)] := Steps.trans c110 (by
        refine XS.aloadN X109.here hx rfl (own_d hby d2_20) rfl rfl ?_
        refine XS.aloadN X109.here hx rfl (own_d hby d2_21) rfl rfl ?_
        exact Steps.refl _)
    have Fld113 : Fld Z h109 a1 "com/example/waban/waban/ItemHash$SipState" "v1" "J" (.long (v.2.1)) := (G1.other W109 (Or.inr (slot_ne (Or.inl (W hw 78)) (Or.inl (W hw 74)) (by decide) (t := .long) (t' := .long) (by decide) (by decide))))
    obtain ⟨T112, X112, e112, st112⟩ := getF X109 hx hZ hown (host := "") (Or.inl (W hw 77)) Via.refl e109 Fld113 (g := (mkF m 22 #[.val (.ref a1), .val (.int (4 : Int32)), .val (.int i)] [(.ref a1), (.ref a1)])) rfl rfl (own_d hby d2_22)
    have c114 : SS p e below B0 T112 m 25 #[.val (.ref a1), .val (.int (4 : Int32)), .val (.int i)] [(.long (v.2.1)), (.ref a1)] := Steps.trans c111 (st112 _ (Steps.refl _))
    have c115 : SS p e below B0 T112 m 27 #[.val (.ref a1), .val (.int (4 : Int32)), .val (.int i)] [(.int (13 : Int32)), (.long (v.2.1)), (.ref a1)] := Steps.trans c114 (by
        refine XT.bipushV X112.here hx rfl (13 : Int32) (own_d hby d2_25) (by decide) ?_
        exact Steps.refl _)
    obtain ⟨_, _, ⟨T116, Lp116, kp116, np116⟩, -, X116, ⟨Lc116, hQ116, lp116, yp116, zp116⟩, st116⟩ := Jvm.LawKit.callS X112 hx (y := (⟨"java/lang/Long", "rotateLeft", "(JI)J"⟩ : MethodName)) hown (mvT hZ (W hw 94)) (mvT hZ (W hw 95)) (mvT hZ (W hw 96)) (mvT hZ (W hw 97)) (by decide) (backOf (W := 1) (rmRot l Z a0 hw [] (v.2.1) (13 : Int32) h109 n0 (by omega)) hZ (W hw 97) (W hw 96) (by decide) (by decide)) (g := (mkF m 27 #[.val (.ref a1), .val (.int (4 : Int32)), .val (.int i)] [(.int (13 : Int32)), (.long (v.2.1)), (.ref a1)])) rfl (by rw [hml]; rfl) (argsL := [(.long (v.2.1)), (.int (13 : Int32))]) (rest := [(.ref a1)]) (lenOf pd__JI_J rfl) rfl (by show 2 * 0 + _ ≤ _; exact Nat.le_of_eq rfl) (own_d hby d2_27) (fun _ _ => ⟨rfl, e112, (by decide : 0 + 0 ≤ _), (by decide : 0 + 0 ≤ _)⟩)
    dsimp only [Pt.U, Pt.locs, Pt.cells, Pt.slots] at X116 lp116 yp116 zp116 st116 hQ116
    subst lp116 yp116 zp116
    obtain ⟨rfl, Nq116, eq116⟩ := hQ116
    have N116 := Fr.app N109 Nq116
    have c117 : SS p e below B0 T116 m 30 #[.val (.ref a1), .val (.int (4 : Int32)), .val (.int i)] [(.long (rotl (v.2.1) (13 : Int32))), (.ref a1)] := Steps.trans c115 (st116 _ (Steps.refl _))
    have Exa119 : Exa Z h109 a1 "com/example/waban/waban/ItemHash$SipState" := (Ex.wr W109)
    obtain ⟨T118, h118, X118, e118, W118, st118⟩ := putF X116 hx hZ hown (host := "") (Or.inl (W hw 77)) Via.refl eq116 Fld113 Exa119 (Or.inl (W hw 78)) (W hw 66) (ty := .long) (by decide) rfl rfl (g := (mkF m 30 #[.val (.ref a1), .val (.int (4 : Int32)), .val (.int i)] [(.long (rotl (v.2.1) (13 : Int32))), (.ref a1)])) rfl rfl (own_d hby d2_30)
    have N118 := Fr.snoc X118 N116 (by omega)
    have F118 : Fld Z h118 a1 "com/example/waban/waban/ItemHash$SipState" "v1" "J" (.long (rotl (v.2.1) (13 : Int32))) := Fld113.same W118
    have z118 : h118.size = h109.size := W118.size
    have K118 := K109.wr W118 (Or.inl (List.mem_of_getElem? (i := 0) rfl))
    have c120 : SS p e below B0 T118 m 33 #[.val (.ref a1), .val (.int (4 : Int32)), .val (.int i)] [] := Steps.trans c117 (st118 _ (Steps.refl _))
    have c121 : SS p e below B0 T118 m 35 #[.val (.ref a1), .val (.int (4 : Int32)), .val (.int i)] [(.ref a1), (.ref a1)] := Steps.trans c120 (by
        refine XS.aloadN X118.here hx rfl (own_d hby d2_33) rfl rfl ?_
        refine XS.dup X118.here hx rfl (own_d hby d2_34) rfl rfl ?_
        exact Steps.refl _)
    obtain ⟨T122, X122, e122, st122⟩ := getF X118 hx hZ hown (host := "") (Or.inl (W hw 77)) Via.refl e118 F118 (g := (mkF m 35 #[.val (.ref a1), .val (.int (4 : Int32)), .val (.int i)] [(.ref a1), (.ref a1)])) rfl rfl (own_d hby d2_35)
    have c123 : SS p e below B0 T122 m 38 #[.val (.ref a1), .val (.int (4 : Int32)), .val (.int i)] [(.long (rotl (v.2.1) (13 : Int32))), (.ref a1)] := Steps.trans c121 (st122 _ (Steps.refl _))
    have c124 : SS p e below B0 T122 m 39 #[.val (.ref a1), .val (.int (4 : Int32)), .val (.int i)] [(.ref a1), (.long (rotl (v.2.1) (13 : Int32))), (.ref a1)] := Steps.trans c123 (by
        refine XS.aloadN X122.here hx rfl (own_d hby d2_38) rfl rfl ?_
        exact Steps.refl _)
    have Fld126 : Fld Z h118 a1 "com/example/waban/waban/ItemHash$SipState" "v0" "J" (.long ((v.1) + (v.2.1))) := (F109.other W118 (Or.inr (slot_ne (Or.inl (W hw 74)) (Or.inl (W hw 78)) (by decide) (t := .long) (t' := .long) (by decide) (by decide))))
    obtain ⟨T125, X125, e125, st125⟩ := getF X122 hx hZ hown (host := "") (Or.inl (W hw 73)) Via.refl e122 Fld126 (g := (mkF m 39 #[.val (.ref a1), .val (.int (4 : Int32)), .val (.int i)] [(.ref a1), (.long (rotl (v.2.1) (13 : Int32))), (.ref a1)])) rfl rfl (own_d hby d2_39)
    have c127 : SS p e below B0 T125 m 42 #[.val (.ref a1), .val (.int (4 : Int32)), .val (.int i)] [(.long ((v.1) + (v.2.1))), (.long (rotl (v.2.1) (13 : Int32))), (.ref a1)] := Steps.trans c124 (st125 _ (Steps.refl _))
    have c128 : SS p e below B0 T125 m 43 #[.val (.ref a1), .val (.int (4 : Int32)), .val (.int i)] [(.long ((rotl (v.2.1) (13 : Int32)) ^^^ ((v.1) + (v.2.1)))), (.ref a1)] := Steps.trans c127 (by
        refine XS.lxor X125.here hx rfl (own_d hby d2_42) rfl ?_
        exact Steps.refl _)
    have Exa130 : Exa Z h118 a1 "com/example/waban/waban/ItemHash$SipState" := (Exa119.wr W118)
    obtain ⟨T129, h129, X129, e129, W129, st129⟩ := putF X125 hx hZ hown (host := "") (Or.inl (W hw 77)) Via.refl e125 F118 Exa130 (Or.inl (W hw 78)) (W hw 66) (ty := .long) (by decide) rfl rfl (g := (mkF m 43 #[.val (.ref a1), .val (.int (4 : Int32)), .val (.int i)] [(.long ((rotl (v.2.1) (13 : Int32)) ^^^ ((v.1) + (v.2.1)))), (.ref a1)])) rfl rfl (own_d hby d2_43)
    have N129 := Fr.snoc X129 N118 (by omega)
    have F129 : Fld Z h129 a1 "com/example/waban/waban/ItemHash$SipState" "v1" "J" (.long ((rotl (v.2.1) (13 : Int32)) ^^^ ((v.1) + (v.2.1)))) := F118.same W129
    have z129 : h129.size = h118.size := W129.size
    have K129 := K118.wr W129 (Or.inl (List.mem_of_getElem? (i := 0) rfl))
    have c131 : SS p e below B0 T129 m 46 #[.val (.ref a1), .val (.int (4 : Int32)), .val (.int i)] [] := Steps.trans c128 (st129 _ (Steps.refl _))
    have c132 : SS p e below B0 T129 m 48 #[.val (.ref a1), .val (.int (4 : Int32)), .val (.int i)] [(.ref a1), (.ref a1)] := Steps.trans c131 (by
        refine XS.aloadN X129.here hx rfl (own_d hby d2_46) rfl rfl ?_
        refine XS.aloadN X129.here hx rfl (own_d hby d2_47) rfl rfl ?_
        exact Steps.refl _)
    have Fld134 : Fld Z h129 a1 "com/example/waban/waban/ItemHash$SipState" "v0" "J" (.long ((v.1) + (v.2.1))) := (Fld126.other W129 (Or.inr (slot_ne (Or.inl (W hw 74)) (Or.inl (W hw 78)) (by decide) (t := .long) (t' := .long) (by decide) (by decide))))
    obtain ⟨T133, X133, e133, st133⟩ := getF X129 hx hZ hown (host := "") (Or.inl (W hw 73)) Via.refl e129 Fld134 (g := (mkF m 48 #[.val (.ref a1), .val (.int (4 : Int32)), .val (.int i)] [(.ref a1), (.ref a1)])) rfl rfl (own_d hby d2_48)
    have c135 : SS p e below B0 T133 m 51 #[.val (.ref a1), .val (.int (4 : Int32)), .val (.int i)] [(.long ((v.1) + (v.2.1))), (.ref a1)] := Steps.trans c132 (st133 _ (Steps.refl _))
    have c136 : SS p e below B0 T133 m 53 #[.val (.ref a1), .val (.int (4 : Int32)), .val (.int i)] [(.int (32 : Int32)), (.long ((v.1) + (v.2.1))), (.ref a1)] := Steps.trans c135 (by
        refine XT.bipushV X133.here hx rfl (32 : Int32) (own_d hby d2_51) (by decide) ?_
        exact Steps.refl _)
    obtain ⟨_, _, ⟨T137, Lp137, kp137, np137⟩, -, X137, ⟨Lc137, hQ137, lp137, yp137, zp137⟩, st137⟩ := Jvm.LawKit.callS X133 hx (y := (⟨"java/lang/Long", "rotateLeft", "(JI)J"⟩ : MethodName)) hown (mvT hZ (W hw 94)) (mvT hZ (W hw 95)) (mvT hZ (W hw 96)) (mvT hZ (W hw 97)) (by decide) (backOf (W := 1) (rmRot l Z a0 hw [] ((v.1) + (v.2.1)) (32 : Int32) h129 n0 (by omega)) hZ (W hw 97) (W hw 96) (by decide) (by decide)) (g := (mkF m 53 #[.val (.ref a1), .val (.int (4 : Int32)), .val (.int i)] [(.int (32 : Int32)), (.long ((v.1) + (v.2.1))), (.ref a1)])) rfl (by rw [hml]; rfl) (argsL := [(.long ((v.1) + (v.2.1))), (.int (32 : Int32))]) (rest := [(.ref a1)]) (lenOf pd__JI_J rfl) rfl (by show 2 * 0 + _ ≤ _; exact Nat.le_of_eq rfl) (own_d hby d2_53) (fun _ _ => ⟨rfl, e133, (by decide : 0 + 0 ≤ _), (by decide : 0 + 0 ≤ _)⟩)
    dsimp only [Pt.U, Pt.locs, Pt.cells, Pt.slots] at X137 lp137 yp137 zp137 st137 hQ137
    subst lp137 yp137 zp137
    obtain ⟨rfl, Nq137, eq137⟩ := hQ137
    have N137 := Fr.app N129 Nq137
    have c138 : SS p e below B0 T137 m 56 #[.val (.ref a1), .val (.int (4 : Int32)), .val (.int i)] [(.long (rotl ((v.1) + (v.2.1)) (32 : Int32))), (.ref a1)] := Steps.trans c136 (st137 _ (Steps.refl _))
    have Exa140 : Exa Z h129 a1 "com/example/waban/waban/ItemHash$SipState" := (Exa130.wr W129)
    obtain ⟨T139, h139, X139, e139, W139, st139⟩ := putF X137 hx hZ hown (host := "") (Or.inl (W hw 73)) Via.refl eq137 Fld134 Exa140 (Or.inl (W hw 74)) (W hw 66) (ty := .long) (by decide) rfl rfl (g := (mkF m 56 #[.val (.ref a1), .val (.int (4 : Int32)), .val (.int i)] [(.long (rotl ((v.1) + (v.2.1)) (32 : Int32))), (.ref a1)])) rfl rfl (own_d hby d2_56)
    have N139 := Fr.snoc X139 N137 (by omega)
    have F139 : Fld Z h139 a1 "com/example/waban/waban/ItemHash$SipState" "v0" "J" (.long (rotl ((v.1) + (v.2.1)) (32 : Int32))) := Fld134.same W139
    have z139 : h139.size = h129.size := W139.size
    have K139 := K129.wr W139 (Or.inl (List.mem_of_getElem? (i := 0) rfl))
    have c141 : SS p e below B0 T139 m 59 #[.val (.ref a1), .val (.int (4 : Int32)), .val (.int i)] [] := Steps.trans c138 (st139 _ (Steps.refl _))
    have c142 : SS p e below B0 T139 m 61 #[.val (.ref a1), .val (.int (4 : Int32)), .val (.int i)] [(.ref a1), (.ref a1)] := Steps.trans c141 (by
        refine XS.aloadN X139.here hx rfl (own_d hby d2_59) rfl rfl ?_
        refine XS.dup X139.here hx rfl (own_d hby d2_60) rfl rfl ?_
        exact Steps.refl _)
    have Fld144 : Fld Z h139 a1 "com/example/waban/waban/ItemHash$SipState" "v2" "J" (.long (v.2.2.1)) := ((((G2.other W109 (Or.inr (slot_ne (Or.inl (W hw 81)) (Or.inl (W hw 74)) (by decide) (t := .long) (t' := .long) (by decide) (by decide)))).other W118 (Or.inr (slot_ne (Or.inl (W hw 81)) (Or.inl (W hw 78)) (by decide) (t := .long) (t' := .long) (by decide) (by decide)))).other W129 (Or.inr (slot_ne (Or.inl (W hw 81)) (Or.inl (W hw 78)) (by decide) (t := .long) (t' := .long) (by decide) (by decide)))).other W139 (Or.inr (slot_ne (Or.inl (W hw 81)) (Or.inl (W hw 74)) (by decide) (t := .long) (t' := .long) (by decide) (by decide))))
    obtain ⟨T143, X143, e143, st143⟩ := getF X139 hx hZ hown (host := "") (Or.inl (W hw 80)) Via.refl e139 Fld144 (g := (mkF m 61 #[.val (.ref a1), .val (.int (4 : Int32)), .val (.int i)] [(.ref a1), (.ref a1)])) rfl rfl (own_d hby d2_61)
    have c145 : SS p e below B0 T143 m 64 #[.val (.ref a1), .val (.int (4 : Int32)), .val (.int i)] [(.long (v.2.2.1)), (.ref a1)] := Steps.trans c142 (st143 _ (Steps.refl _))
    have c146 : SS p e below B0 T143 m 65 #[.val (.ref a1), .val (.int (4 : Int32)), .val (.int i)] [(.ref a1), (.long (v.2.2.1)), (.ref a1)] := Steps.trans c145 (by
        refine XS.aloadN X143.here hx rfl (own_d hby d2_64) rfl rfl ?_
        exact Steps.refl _)
    have Fld148 : Fld Z h139 a1 "com/example/waban/waban/ItemHash$SipState" "v3" "J" (.long (v.2.2.2)) := ((((G3.other W109 (Or.inr (slot_ne (Or.inl (W hw 84)) (Or.inl (W hw 74)) (by decide) (t := .long) (t' := .long) (by decide) (by decide)))).other W118 (Or.inr (slot_ne (Or.inl (W hw 84)) (Or.inl (W hw 78)) (by decide) (t := .long) (t' := .long) (by decide) (by decide)))).other W129 (Or.inr (slot_ne (Or.inl (W hw 84)) (Or.inl (W hw 78)) (by decide) (t := .long) (t' := .long) (by decide) (by decide)))).other W139 (Or.inr (slot_ne (Or.inl (W hw 84)) (Or.inl (W hw 74)) (by decide) (t := .long) (t' := .long) (by decide) (by decide))))
    obtain ⟨T147, X147, e147, st147⟩ := getF X143 hx hZ hown (host := "") (Or.inl (W hw 83)) Via.refl e143 Fld148 (g := (mkF m 65 #[.val (.ref a1), .val (.int (4 : Int32)), .val (.int i)] [(.ref a1), (.long (v.2.2.1)), (.ref a1)])) rfl rfl (own_d hby d2_65)
    have c149 : SS p e below B0 T147 m 68 #[.val (.ref a1), .val (.int (4 : Int32)), .val (.int i)] [(.long (v.2.2.2)), (.long (v.2.2.1)), (.ref a1)] := Steps.trans c146 (st147 _ (Steps.refl _))
    have c150 : SS p e below B0 T147 m 69 #[.val (.ref a1), .val (.int (4 : Int32)), .val (.int i)] [(.long ((v.2.2.1) + (v.2.2.2))), (.ref a1)] := Steps.trans c149 (by
        refine XS.ladd X147.here hx rfl (own_d hby d2_68) rfl ?_
        exact Steps.refl _)
    have Exa152 : Exa Z h139 a1 "com/example/waban/waban/ItemHash$SipState" := (Exa140.wr W139)
    obtain ⟨T151, h151, X151, e151, W151, st151⟩ := putF X147 hx hZ hown (host := "") (Or.inl (W hw 80)) Via.refl e147 Fld144 Exa152 (Or.inl (W hw 81)) (W hw 66) (ty := .long) (by decide) rfl rfl (g := (mkF m 69 #[.val (.ref a1), .val (.int (4 : Int32)), .val (.int i)] [(.long ((v.2.2.1) + (v.2.2.2))), (.ref a1)])) rfl rfl (own_d hby d2_69)
    have N151 := Fr.snoc X151 N139 (by omega)
    have F151 : Fld Z h151 a1 "com/example/waban/waban/ItemHash$SipState" "v2" "J" (.long ((v.2.2.1) + (v.2.2.2))) := Fld144.same W151
    have z151 : h151.size = h139.size := W151.size
    have K151 := K139.wr W151 (Or.inl (List.mem_of_getElem? (i := 0) rfl))
    have c153 : SS p e below B0 T151 m 72 #[.val (.ref a1), .val (.int (4 : Int32)), .val (.int i)] [] := Steps.trans c150 (st151 _ (Steps.refl _))
    have c154 : SS p e below B0 T151 m 74 #[.val (.ref a1), .val (.int (4 : Int32)), .val (.int i)] [(.ref a1), (.ref a1)] := Steps.trans c153 (by
        refine XS.aloadN X151.here hx rfl (own_d hby d2_72) rfl rfl ?_
        refine XS.aloadN X151.here hx rfl (own_d hby d2_73) rfl rfl ?_
        exact Steps.refl _)
    have Fld156 : Fld Z h151 a1 "com/example/waban/waban/ItemHash$SipState" "v3" "J" (.long (v.2.2.2)) := (Fld148.other W151 (Or.inr (slot_ne (Or.inl (W hw 84)) (Or.inl (W hw 81)) (by decide) (t := .long) (t' := .long) (by decide) (by decide))))
    obtain ⟨T155, X155, e155, st155⟩ := getF X151 hx hZ hown (host := "") (Or.inl (W hw 83)) Via.refl e151 Fld156 (g := (mkF m 74 #[.val (.ref a1), .val (.int (4 : Int32)), .val (.int i)] [(.ref a1), (.ref a1)])) rfl rfl (own_d hby d2_74)
    have c157 : SS p e below B0 T155 m 77 #[.val (.ref a1), .val (.int (4 : Int32)), .val (.int i)] [(.long (v.2.2.2)), (.ref a1)] := Steps.trans c154 (st155 _ (Steps.refl _))
    have c158 : SS p e below B0 T155 m 79 #[.val (.ref a1), .val (.int (4 : Int32)), .val (.int i)] [(.int (16 : Int32)), (.long (v.2.2.2)), (.ref a1)] := Steps.trans c157 (by
        refine XT.bipushV X155.here hx rfl (16 : Int32) (own_d hby d2_77) (by decide) ?_
        exact Steps.refl _)
    obtain ⟨_, _, ⟨T159, Lp159, kp159, np159⟩, -, X159, ⟨Lc159, hQ159, lp159, yp159, zp159⟩, st159⟩ := Jvm.LawKit.callS X155 hx (y := (⟨"java/lang/Long", "rotateLeft", "(JI)J"⟩ : MethodName)) hown (mvT hZ (W hw 94)) (mvT hZ (W hw 95)) (mvT hZ (W hw 96)) (mvT hZ (W hw 97)) (by decide) (backOf (W := 1) (rmRot l Z a0 hw [] (v.2.2.2) (16 : Int32) h151 n0 (by omega)) hZ (W hw 97) (W hw 96) (by decide) (by decide)) (g := (mkF m 79 #[.val (.ref a1), .val (.int (4 : Int32)), .val (.int i)] [(.int (16 : Int32)), (.long (v.2.2.2)), (.ref a1)])) rfl (by rw [hml]; rfl) (argsL := [(.long (v.2.2.2)), (.int (16 : Int32))]) (rest := [(.ref a1)]) (lenOf pd__JI_J rfl) rfl (by show 2 * 0 + _ ≤ _; exact Nat.le_of_eq rfl) (own_d hby d2_79) (fun _ _ => ⟨rfl, e155, (by decide : 0 + 0 ≤ _), (by decide : 0 + 0 ≤ _)⟩)
    dsimp only [Pt.U, Pt.locs, Pt.cells, Pt.slots] at X159 lp159 yp159 zp159 st159 hQ159
    subst lp159 yp159 zp159
    obtain ⟨rfl, Nq159, eq159⟩ := hQ159
    have N159 := Fr.app N151 Nq159
    have c160 : SS p e below B0 T159 m 82 #[.val (.ref a1), .val (.int (4 : Int32)), .val (.int i)] [(.long (rotl (v.2.2.2) (16 : Int32))), (.ref a1)] := Steps.trans c158 (st159 _ (Steps.refl _))
    have Exa162 : Exa Z h151 a1 "com/example/waban/waban/ItemHash$SipState" := (Exa152.wr W151)
    obtain ⟨T161, h161, X161, e161, W161, st161⟩ := putF X159 hx hZ hown (host := "") (Or.inl (W hw 83)) Via.refl eq159 Fld156 Exa162 (Or.inl (W hw 84)) (W hw 66) (ty := .long) (by decide) rfl rfl (g := (mkF m 82 #[.val (.ref a1), .val (.int (4 : Int32)), .val (.int i)] [(.long (rotl (v.2.2.2) (16 : Int32))), (.ref a1)])) rfl rfl (own_d hby d2_82)
    have N161 := Fr.snoc X161 N159 (by omega)
    have F161 : Fld Z h161 a1 "com/example/waban/waban/ItemHash$SipState" "v3" "J" (.long (rotl (v.2.2.2) (16 : Int32))) := Fld156.same W161
    have z161 : h161.size = h151.size := W161.size
    have K161 := K151.wr W161 (Or.inl (List.mem_of_getElem? (i := 0) rfl))
    have c163 : SS p e below B0 T161 m 85 #[.val (.ref a1), .val (.int (4 : Int32)), .val (.int i)] [] := Steps.trans c160 (st161 _ (Steps.refl _))
    have c164 : SS p e below B0 T161 m 87 #[.val (.ref a1), .val (.int (4 : Int32)), .val (.int i)] [(.ref a1), (.ref a1)] := Steps.trans c163 (by
        refine XS.aloadN X161.here hx rfl (own_d hby d2_85) rfl rfl ?_
        refine XS.dup X161.here hx rfl (own_d hby d2_86) rfl rfl ?_
        exact Steps.refl _)
    obtain ⟨T165, X165, e165, st165⟩ := getF X161 hx hZ hown (host := "") (Or.inl (W hw 83)) Via.refl e161 F161 (g := (mkF m 87 #[.val (.ref a1), .val (.int (4 : Int32)), .val (.int i)] [(.ref a1), (.ref a1)])) rfl rfl (own_d hby d2_87)
    have c166 : SS p e below B0 T165 m 90 #[.val (.ref a1), .val (.int (4 : Int32)), .val (.int i)] [(.long (rotl (v.2.2.2) (16 : Int32))), (.ref a1)] := Steps.trans c164 (st165 _ (Steps.refl _))
    have c167 : SS p e below B0 T165 m 91 #[.val (.ref a1), .val (.int (4 : Int32)), .val (.int i)] [(.ref a1), (.long (rotl (v.2.2.2) (16 : Int32))), (.ref a1)] := Steps.trans c166 (by
        refine XS.aloadN X165.here hx rfl (own_d hby d2_90) rfl rfl ?_
        exact Steps.refl _)
    have Fld169 : Fld Z h161 a1 "com/example/waban/waban/ItemHash$SipState" "v2" "J" (.long ((v.2.2.1) + (v.2.2.2))) := (F151.other W161 (Or.inr (slot_ne (Or.inl (W hw 81)) (Or.inl (W hw 84)) (by decide) (t := .long) (t' := .long) (by decide) (by decide))))
    obtain ⟨T168, X168, e168, st168⟩ := getF X165 hx hZ hown (host := "") (Or.inl (W hw 80)) Via.refl e165 Fld169 (g := (mkF m 91 #[.val (.ref a1), .val (.int (4 : Int32)), .val (.int i)] [(.ref a1), (.long (rotl (v.2.2.2) (16 : Int32))), (.ref a1)])) rfl rfl (own_d hby d2_91)
    have c170 : SS p e below B0 T168 m 94 #[.val (.ref a1), .val (.int (4 : Int32)), .val (.int i)] [(.long ((v.2.2.1) + (v.2.2.2))), (.long (rotl (v.2.2.2) (16 : Int32))), (.ref a1)] := Steps.trans c167 (st168 _ (Steps.refl _))
    have c171 : SS p e below B0 T168 m 95 #[.val (.ref a1), .val (.int (4 : Int32)), .val (.int i)] [(.long ((rotl (v.2.2.2) (16 : Int32)) ^^^ ((v.2.2.1) + (v.2.2.2)))), (.ref a1)] := Steps.trans c170 (by
        refine XS.lxor X168.here hx rfl (own_d hby d2_94) rfl ?_
        exact Steps.refl _)
    have Exa173 : Exa Z h161 a1 "com/example/waban/waban/ItemHash$SipState" := (Exa162.wr W161)
    obtain ⟨T172, h172, X172, e172, W172, st172⟩ := putF X168 hx hZ hown (host := "") (Or.inl (W hw 83)) Via.refl e168 F161 Exa173 (Or.inl (W hw 84)) (W hw 66) (ty := .long) (by decide) rfl rfl (g := (mkF m 95 #[.val (.ref a1), .val (.int (4 : Int32)), .val (.int i)] [(.long ((rotl (v.2.2.2) (16 : Int32)) ^^^ ((v.2.2.1) + (v.2.2.2)))), (.ref a1)])) rfl rfl (own_d hby d2_95)
    have N172 := Fr.snoc X172 N161 (by omega)
    have F172 : Fld Z h172 a1 "com/example/waban/waban/ItemHash$SipState" "v3" "J" (.long ((rotl (v.2.2.2) (16 : Int32)) ^^^ ((v.2.2.1) + (v.2.2.2)))) := F161.same W172
    have z172 : h172.size = h161.size := W172.size
    have K172 := K161.wr W172 (Or.inl (List.mem_of_getElem? (i := 0) rfl))
    have c174 : SS p e below B0 T172 m 98 #[.val (.ref a1), .val (.int (4 : Int32)), .val (.int i)] [] := Steps.trans c171 (st172 _ (Steps.refl _))
    have c175 : SS p e below B0 T172 m 100 #[.val (.ref a1), .val (.int (4 : Int32)), .val (.int i)] [(.ref a1), (.ref a1)] := Steps.trans c174 (by
        refine XS.aloadN X172.here hx rfl (own_d hby d2_98) rfl rfl ?_
        refine XS.dup X172.here hx rfl (own_d hby d2_99) rfl rfl ?_
        exact Steps.refl _)
    have Fld177 : Fld Z h172 a1 "com/example/waban/waban/ItemHash$SipState" "v0" "J" (.long (rotl ((v.1) + (v.2.1)) (32 : Int32))) := (((F139.other W151 (Or.inr (slot_ne (Or.inl (W hw 74)) (Or.inl (W hw 81)) (by decide) (t := .long) (t' := .long) (by decide) (by decide)))).other W161 (Or.inr (slot_ne (Or.inl (W hw 74)) (Or.inl (W hw 84)) (by decide) (t := .long) (t' := .long) (by decide) (by decide)))).other W172 (Or.inr (slot_ne (Or.inl (W hw 74)) (Or.inl (W hw 84)) (by decide) (t := .long) (t' := .long) (by decide) (by decide))))
    obtain ⟨T176, X176, e176, st176⟩ := getF X172 hx hZ hown (host := "") (Or.inl (W hw 73)) Via.refl e172 Fld177 (g := (mkF m 100 #[.val (.ref a1), .val (.int (4 : Int32)), .val (.int i)] [(.ref a1), (.ref a1)])) rfl rfl (own_d hby d2_100)
    have c178 : SS p e below B0 T176 m 103 #[.val (.ref a1), .val (.int (4 : Int32)), .val (.int i)] [(.long (rotl ((v.1) + (v.2.1)) (32 : Int32))), (.ref a1)] := Steps.trans c175 (st176 _ (Steps.refl _))
    have c179 : SS p e below B0 T176 m 104 #[.val (.ref a1), .val (.int (4 : Int32)), .val (.int i)] [(.ref a1), (.long (rotl ((v.1) + (v.2.1)) (32 : Int32))), (.ref a1)] := Steps.trans c178 (by
        refine XS.aloadN X176.here hx rfl (own_d hby d2_103) rfl rfl ?_
        exact Steps.refl _)
    obtain ⟨T180, X180, e180, st180⟩ := getF X176 hx hZ hown (host := "") (Or.inl (W hw 83)) Via.refl e176 F172 (g := (mkF m 104 #[.val (.ref a1), .val (.int (4 : Int32)), .val (.int i)] [(.ref a1), (.long (rotl ((v.1) + (v.2.1)) (32 : Int32))), (.ref a1)])) rfl rfl (own_d hby d2_104)
    have c181 : SS p e below B0 T180 m 107 #[.val (.ref a1), .val (.int (4 : Int32)), .val (.int i)] [(.long ((rotl (v.2.2.2) (16 : Int32)) ^^^ ((v.2.2.1) + (v.2.2.2)))), (.long (rotl ((v.1) + (v.2.1)) (32 : Int32))), (.ref a1)] := Steps.trans c179 (st180 _ (Steps.refl _))
    have c182 : SS p e below B0 T180 m 108 #[.val (.ref a1), .val (.int (4 : Int32)), .val (.int i)] [(.long ((rotl ((v.1) + (v.2.1)) (32 : Int32)) + ((rotl (v.2.2.2) (16 : Int32)) ^^^ ((v.2.2.1) + (v.2.2.2))))), (.ref a1)] := Steps.trans c181 (by
        refine XS.ladd X180.here hx rfl (own_d hby d2_107) rfl ?_
        exact Steps.refl _)
    have Exa184 : Exa Z h172 a1 "com/example/waban/waban/ItemHash$SipState" := (Exa173.wr W172)
    obtain ⟨T183, h183, X183, e183, W183, st183⟩ := putF X180 hx hZ hown (host := "") (Or.inl (W hw 73)) Via.refl e180 Fld177 Exa184 (Or.inl (W hw 74)) (W hw 66) (ty := .long) (by decide) rfl rfl (g := (mkF m 108 #[.val (.ref a1), .val (.int (4 : Int32)), .val (.int i)] [(.long ((rotl ((v.1) + (v.2.1)) (32 : Int32)) + ((rotl (v.2.2.2) (16 : Int32)) ^^^ ((v.2.2.1) + (v.2.2.2))))), (.ref a1)])) rfl rfl (own_d hby d2_108)
    have N183 := Fr.snoc X183 N172 (by omega)
    have F183 : Fld Z h183 a1 "com/example/waban/waban/ItemHash$SipState" "v0" "J" (.long ((rotl ((v.1) + (v.2.1)) (32 : Int32)) + ((rotl (v.2.2.2) (16 : Int32)) ^^^ ((v.2.2.1) + (v.2.2.2))))) := Fld177.same W183
    have z183 : h183.size = h172.size := W183.size
    have K183 := K172.wr W183 (Or.inl (List.mem_of_getElem? (i := 0) rfl))
    have c185 : SS p e below B0 T183 m 111 #[.val (.ref a1), .val (.int (4 : Int32)), .val (.int i)] [] := Steps.trans c182 (st183 _ (Steps.refl _))
    have c186 : SS p e below B0 T183 m 113 #[.val (.ref a1), .val (.int (4 : Int32)), .val (.int i)] [(.ref a1), (.ref a1)] := Steps.trans c185 (by
        refine XS.aloadN X183.here hx rfl (own_d hby d2_111) rfl rfl ?_
        refine XS.aloadN X183.here hx rfl (own_d hby d2_112) rfl rfl ?_
        exact Steps.refl _)
    have Fld188 : Fld Z h183 a1 "com/example/waban/waban/ItemHash$SipState" "v3" "J" (.long ((rotl (v.2.2.2) (16 : Int32)) ^^^ ((v.2.2.1) + (v.2.2.2)))) := (F172.other W183 (Or.inr (slot_ne (Or.inl (W hw 84)) (Or.inl (W hw 74)) (by decide) (t := .long) (t' := .long) (by decide) (by decide))))
    obtain ⟨T187, X187, e187, st187⟩ := getF X183 hx hZ hown (host := "") (Or.inl (W hw 83)) Via.refl e183 Fld188 (g := (mkF m 113 #[.val (.ref a1), .val (.int (4 : Int32)), .val (.int i)] [(.ref a1), (.ref a1)])) rfl rfl (own_d hby d2_113)
    have c189 : SS p e below B0 T187 m 116 #[.val (.ref a1), .val (.int (4 : Int32)), .val (.int i)] [(.long ((rotl (v.2.2.2) (16 : Int32)) ^^^ ((v.2.2.1) + (v.2.2.2)))), (.ref a1)] := Steps.trans c186 (st187 _ (Steps.refl _))
    have c190 : SS p e below B0 T187 m 118 #[.val (.ref a1), .val (.int (4 : Int32)), .val (.int i)] [(.int (21 : Int32)), (.long ((rotl (v.2.2.2) (16 : Int32)) ^^^ ((v.2.2.1) + (v.2.2.2)))), (.ref a1)] := Steps.trans c189 (by
        refine XT.bipushV X187.here hx rfl (21 : Int32) (own_d hby d2_116) (by decide) ?_
        exact Steps.refl _)
    obtain ⟨_, _, ⟨T191, Lp191, kp191, np191⟩, -, X191, ⟨Lc191, hQ191, lp191, yp191, zp191⟩, st191⟩ := Jvm.LawKit.callS X187 hx (y := (⟨"java/lang/Long", "rotateLeft", "(JI)J"⟩ : MethodName)) hown (mvT hZ (W hw 94)) (mvT hZ (W hw 95)) (mvT hZ (W hw 96)) (mvT hZ (W hw 97)) (by decide) (backOf (W := 1) (rmRot l Z a0 hw [] ((rotl (v.2.2.2) (16 : Int32)) ^^^ ((v.2.2.1) + (v.2.2.2))) (21 : Int32) h183 n0 (by omega)) hZ (W hw 97) (W hw 96) (by decide) (by decide)) (g := (mkF m 118 #[.val (.ref a1), .val (.int (4 : Int32)), .val (.int i)] [(.int (21 : Int32)), (.long ((rotl (v.2.2.2) (16 : Int32)) ^^^ ((v.2.2.1) + (v.2.2.2)))), (.ref a1)])) rfl (by rw [hml]; rfl) (argsL := [(.long ((rotl (v.2.2.2) (16 : Int32)) ^^^ ((v.2.2.1) + (v.2.2.2)))), (.int (21 : Int32))]) (rest := [(.ref a1)]) (lenOf pd__JI_J rfl) rfl (by show 2 * 0 + _ ≤ _; exact Nat.le_of_eq rfl) (own_d hby d2_118) (fun _ _ => ⟨rfl, e187, (by decide : 0 + 0 ≤ _), (by decide : 0 + 0 ≤ _)⟩)
    dsimp only [Pt.U, Pt.locs, Pt.cells, Pt.slots] at X191 lp191 yp191 zp191 st191 hQ191
    subst lp191 yp191 zp191
    obtain ⟨rfl, Nq191, eq191⟩ := hQ191
    have N191 := Fr.app N183 Nq191
    have c192 : SS p e below B0 T191 m 121 #[.val (.ref a1), .val (.int (4 : Int32)), .val (.int i)] [(.long (rotl ((rotl (v.2.2.2) (16 : Int32)) ^^^ ((v.2.2.1) + (v.2.2.2))) (21 : Int32))), (.ref a1)] := Steps.trans c190 (st191 _ (Steps.refl _))
    have Exa194 : Exa Z h183 a1 "com/example/waban/waban/ItemHash$SipState" := (Exa184.wr W183)
    obtain ⟨T193, h193, X193, e193, W193, st193⟩ := putF X191 hx hZ hown (host := "") (Or.inl (W hw 83)) Via.refl eq191 Fld188 Exa194 (Or.inl (W hw 84)) (W hw 66) (ty := .long) (by decide) rfl rfl (g := (mkF m 121 #[.val (.ref a1), .val (.int (4 : Int32)), .val (.int i)] [(.long (rotl ((rotl (v.2.2.2) (16 : Int32)) ^^^ ((v.2.2.1) + (v.2.2.2))) (21 : Int32))), (.ref a1)])) rfl rfl (own_d hby d2_121)
    have N193 := Fr.snoc X193 N191 (by omega)
    have F193 : Fld Z h193 a1 "com/example/waban/waban/ItemHash$SipState" "v3" "J" (.long (rotl ((rotl (v.2.2.2) (16 : Int32)) ^^^ ((v.2.2.1) + (v.2.2.2))) (21 : Int32))) := Fld188.same W193
    have z193 : h193.size = h183.size := W193.size
    have K193 := K183.wr W193 (Or.inl (List.mem_of_getElem? (i := 0) rfl))
    have c195 : SS p e below B0 T193 m 124 #[.val (.ref a1), .val (.int (4 : Int32)), .val (.int i)] [] := Steps.trans c192 (st193 _ (Steps.refl _))
    have c196 : SS p e below B0 T193 m 126 #[.val (.ref a1), .val (.int (4 : Int32)), .val (.int i)] [(.ref a1), (.ref a1)] := Steps.trans c195 (by
        refine XS.aloadN X193.here hx rfl (own_d hby d2_124) rfl rfl ?_
        refine XS.dup X193.here hx rfl (own_d hby d2_125) rfl rfl ?_
        exact Steps.refl _)
    obtain ⟨T197, X197, e197, st197⟩ := getF X193 hx hZ hown (host := "") (Or.inl (W hw 83)) Via.refl e193 F193 (g := (mkF m 126 #[.val (.ref a1), .val (.int (4 : Int32)), .val (.int i)] [(.ref a1), (.ref a1)])) rfl rfl (own_d hby d2_126)
    have c198 : SS p e below B0 T197 m 129 #[.val (.ref a1), .val (.int (4 : Int32)), .val (.int i)] [(.long (rotl ((rotl (v.2.2.2) (16 : Int32)) ^^^ ((v.2.2.1) + (v.2.2.2))) (21 : Int32))), (.ref a1)] := Steps.trans c196 (st197 _ (Steps.refl _))
    have c199 : SS p e below B0 T197 m 130 #[.val (.ref a1), .val (.int (4 : Int32)), .val (.int i)] [(.ref a1), (.long (rotl ((rotl (v.2.2.2) (16 : Int32)) ^^^ ((v.2.2.1) + (v.2.2.2))) (21 : Int32))), (.ref a1)] := Steps.trans c198 (by
        refine XS.aloadN X197.here hx rfl (own_d hby d2_129) rfl rfl ?_
        exact Steps.refl _)
    have Fld201 : Fld Z h193 a1 "com/example/waban/waban/ItemHash$SipState" "v0" "J" (.long ((rotl ((v.1) + (v.2.1)) (32 : Int32)) + ((rotl (v.2.2.2) (16 : Int32)) ^^^ ((v.2.2.1) + (v.2.2.2))))) := (F183.other W193 (Or.inr (slot_ne (Or.inl (W hw 74)) (Or.inl (W hw 84)) (by decide) (t := .long) (t' := .long) (by decide) (by decide))))
    obtain ⟨T200, X200, e200, st200⟩ := getF X197 hx hZ hown (host := "") (Or.inl (W hw 73)) Via.refl e197 Fld201 (g := (mkF m 130 #[.val (.ref a1), .val (.int (4 : Int32)), .val (.int i)] [(.ref a1), (.long (rotl ((rotl (v.2.2.2) (16 : Int32)) ^^^ ((v.2.2.1) + (v.2.2.2))) (21 : Int32))), (.ref a1)])) rfl rfl (own_d hby d2_130)
    have c202 : SS p e below B0 T200 m 133 #[.val (.ref a1), .val (.int (4 : Int32)), .val (.int i)] [(.long ((rotl ((v.1) + (v.2.1)) (32 : Int32)) + ((rotl (v.2.2.2) (16 : Int32)) ^^^ ((v.2.2.1) + (v.2.2.2))))), (.long (rotl ((rotl (v.2.2.2) (16 : Int32)) ^^^ ((v.2.2.1) + (v.2.2.2))) (21 : Int32))), (.ref a1)] := Steps.trans c199 (st200 _ (Steps.refl _))
    have c203 : SS p e below B0 T200 m 134 #[.val (.ref a1), .val (.int (4 : Int32)), .val (.int i)] [(.long ((rotl ((rotl (v.2.2.2) (16 : Int32)) ^^^ ((v.2.2.1) + (v.2.2.2))) (21 : Int32)) ^^^ ((rotl ((v.1) + (v.2.1)) (32 : Int32)) + ((rotl (v.2.2.2) (16 : Int32)) ^^^ ((v.2.2.1) + (v.2.2.2)))))), (.ref a1)] := Steps.trans c202 (by
        refine XS.lxor X200.here hx rfl (own_d hby d2_133) rfl ?_
        exact Steps.refl _)
    have Exa205 : Exa Z h193 a1 "com/example/waban/waban/ItemHash$SipState" := (Exa194.wr W193)
    obtain ⟨T204, h204, X204, e204, W204, st204⟩ := putF X200 hx hZ hown (host := "") (Or.inl (W hw 83)) Via.refl e200 F193 Exa205 (Or.inl (W hw 84)) (W hw 66) (ty := .long) (by decide) rfl rfl (g := (mkF m 134 #[.val (.ref a1), .val (.int (4 : Int32)), .val (.int i)] [(.long ((rotl ((rotl (v.2.2.2) (16 : Int32)) ^^^ ((v.2.2.1) + (v.2.2.2))) (21 : Int32)) ^^^ ((rotl ((v.1) + (v.2.1)) (32 : Int32)) + ((rotl (v.2.2.2) (16 : Int32)) ^^^ ((v.2.2.1) + (v.2.2.2)))))), (.ref a1)])) rfl rfl (own_d hby d2_134)
    have N204 := Fr.snoc X204 N193 (by omega)
    have F204 : Fld Z h204 a1 "com/example/waban/waban/ItemHash$SipState" "v3" "J" (.long ((rotl ((rotl (v.2.2.2) (16 : Int32)) ^^^ ((v.2.2.1) + (v.2.2.2))) (21 : Int32)) ^^^ ((rotl ((v.1) + (v.2.1)) (32 : Int32)) + ((rotl (v.2.2.2) (16 : Int32)) ^^^ ((v.2.2.1) + (v.2.2.2)))))) := F193.same W204
    have z204 : h204.size = h193.size := W204.size
    have K204 := K193.wr W204 (Or.inl (List.mem_of_getElem? (i := 0) rfl))
    have c206 : SS p e below B0 T204 m 137 #[.val (.ref a1), .val (.int (4 : Int32)), .val (.int i)] [] := Steps.trans c203 (st204 _ (Steps.refl _))
    have c207 : SS p e below B0 T204 m 139 #[.val (.ref a1), .val (.int (4 : Int32)), .val (.int i)] [(.ref a1), (.ref a1)] := Steps.trans c206 (by
        refine XS.aloadN X204.here hx rfl (own_d hby d2_137) rfl rfl ?_
        refine XS.dup X204.here hx rfl (own_d hby d2_138) rfl rfl ?_
        exact Steps.refl _)
    have Fld209 : Fld Z h204 a1 "com/example/waban/waban/ItemHash$SipState" "v2" "J" (.long ((v.2.2.1) + (v.2.2.2))) := ((((Fld169.other W172 (Or.inr (slot_ne (Or.inl (W hw 81)) (Or.inl (W hw 84)) (by decide) (t := .long) (t' := .long) (by decide) (by decide)))).other W183 (Or.inr (slot_ne (Or.inl (W hw 81)) (Or.inl (W hw 74)) (by decide) (t := .long) (t' := .long) (by decide) (by decide)))).other W193 (Or.inr (slot_ne (Or.inl (W hw 81)) (Or.inl (W hw 84)) (by decide) (t := .long) (t' := .long) (by decide) (by decide)))).other W204 (Or.inr (slot_ne (Or.inl (W hw 81)) (Or.inl (W hw 84)) (by decide) (t := .long) (t' := .long) (by decide) (by decide))))
    obtain ⟨T208, X208, e208, st208⟩ := getF X204 hx hZ hown (host := "") (Or.inl (W hw 80)) Via.refl e204 Fld209 (g := (mkF m 139 #[.val (.ref a1), .val (.int (4 : Int32)), .val (.int i)] [(.ref a1), (.ref a1)])) rfl rfl (own_d hby d2_139)
    have c210 : SS p e below B0 T208 m 142 #[.val (.ref a1), .val (.int (4 : Int32)), .val (.int i)] [(.long ((v.2.2.1) + (v.2.2.2))), (.ref a1)] := Steps.trans c207 (st208 _ (Steps.refl _))
    have c211 : SS p e below B0 T208 m 143 #[.val (.ref a1), .val (.int (4 : Int32)), .val (.int i)] [(.ref a1), (.long ((v.2.2.1) + (v.2.2.2))), (.ref a1)] := Steps.trans c210 (by
        refine XS.aloadN X208.here hx rfl (own_d hby d2_142) rfl rfl ?_
        exact Steps.refl _)
    have Fld213 : Fld Z h204 a1 "com/example/waban/waban/ItemHash$SipState" "v1" "J" (.long ((rotl (v.2.1) (13 : Int32)) ^^^ ((v.1) + (v.2.1)))) := (((((((F129.other W139 (Or.inr (slot_ne (Or.inl (W hw 78)) (Or.inl (W hw 74)) (by decide) (t := .long) (t' := .long) (by decide) (by decide)))).other W151 (Or.inr (slot_ne (Or.inl (W hw 78)) (Or.inl (W hw 81)) (by decide) (t := .long) (t' := .long) (by decide) (by decide)))).other W161 (Or.inr (slot_ne (Or.inl (W hw 78)) (Or.inl (W hw 84)) (by decide) (t := .long) (t' := .long) (by decide) (by decide)))).other W172 (Or.inr (slot_ne (Or.inl (W hw 78)) (Or.inl (W hw 84)) (by decide) (t := .long) (t' := .long) (by decide) (by decide)))).other W183 (Or.inr (slot_ne (Or.inl (W hw 78)) (Or.inl (W hw 74)) (by decide) (t := .long) (t' := .long) (by decide) (by decide)))).other W193 (Or.inr (slot_ne (Or.inl (W hw 78)) (Or.inl (W hw 84)) (by decide) (t := .long) (t' := .long) (by decide) (by decide)))).other W204 (Or.inr (slot_ne (Or.inl (W hw 78)) (Or.inl (W hw 84)) (by decide) (t := .long) (t' := .long) (by decide) (by decide))))
    obtain ⟨T212, X212, e212, st212⟩ := getF X208 hx hZ hown (host := "") (Or.inl (W hw 77)) Via.refl e208 Fld213 (g := (mkF m 143 #[.val (.ref a1), .val (.int (4 : Int32)), .val (.int i)] [(.ref a1), (.long ((v.2.2.1) + (v.2.2.2))), (.ref a1)])) rfl rfl (own_d hby d2_143)
    have c214 : SS p e below B0 T212 m 146 #[.val (.ref a1), .val (.int (4 : Int32)), .val (.int i)] [(.long ((rotl (v.2.1) (13 : Int32)) ^^^ ((v.1) + (v.2.1)))), (.long ((v.2.2.1) + (v.2.2.2))), (.ref a1)] := Steps.trans c211 (st212 _ (Steps.refl _))
    have c215 : SS p e below B0 T212 m 147 #[.val (.ref a1), .val (.int (4 : Int32)), .val (.int i)] [(.long (((v.2.2.1) + (v.2.2.2)) + ((rotl (v.2.1) (13 : Int32)) ^^^ ((v.1) + (v.2.1))))), (.ref a1)] := Steps.trans c214 (by
        refine XS.ladd X212.here hx rfl (own_d hby d2_146) rfl ?_
        exact Steps.refl _)
    have Exa217 : Exa Z h204 a1 "com/example/waban/waban/ItemHash$SipState" := (Exa205.wr W204)
    obtain ⟨T216, h216, X216, e216, W216, st216⟩ := putF X212 hx hZ hown (host := "") (Or.inl (W hw 80)) Via.refl e212 Fld209 Exa217 (Or.inl (W hw 81)) (W hw 66) (ty := .long) (by decide) rfl rfl (g := (mkF m 147 #[.val (.ref a1), .val (.int (4 : Int32)), .val (.int i)] [(.long (((v.2.2.1) + (v.2.2.2)) + ((rotl (v.2.1) (13 : Int32)) ^^^ ((v.1) + (v.2.1))))), (.ref a1)])) rfl rfl (own_d hby d2_147)
    have N216 := Fr.snoc X216 N204 (by omega)
    have F216 : Fld Z h216 a1 "com/example/waban/waban/ItemHash$SipState" "v2" "J" (.long (((v.2.2.1) + (v.2.2.2)) + ((rotl (v.2.1) (13 : Int32)) ^^^ ((v.1) + (v.2.1))))) := Fld209.same W216
    have z216 : h216.size = h204.size := W216.size
    have K216 := K204.wr W216 (Or.inl (List.mem_of_getElem? (i := 0) rfl))
    have c218 : SS p e below B0 T216 m 150 #[.val (.ref a1), .val (.int (4 : Int32)), .val (.int i)] [] := Steps.trans c215 (st216 _ (Steps.refl _))
    have c219 : SS p e below B0 T216 m 152 #[.val (.ref a1), .val (.int (4 : Int32)), .val (.int i)] [(.ref a1), (.ref a1)] := Steps.trans c218 (by
        refine XS.aloadN X216.here hx rfl (own_d hby d2_150) rfl rfl ?_
        refine XS.aloadN X216.here hx rfl (own_d hby d2_151) rfl rfl ?_
        exact Steps.refl _)
    have Fld221 : Fld Z h216 a1 "com/example/waban/waban/ItemHash$SipState" "v1" "J" (.long ((rotl (v.2.1) (13 : Int32)) ^^^ ((v.1) + (v.2.1)))) := (Fld213.other W216 (Or.inr (slot_ne (Or.inl (W hw 78)) (Or.inl (W hw 81)) (by decide) (t := .long) (t' := .long) (by decide) (by decide))))
    obtain ⟨T220, X220, e220, st220⟩ := getF X216 hx hZ hown (host := "") (Or.inl (W hw 77)) Via.refl e216 Fld221 (g := (mkF m 152 #[.val (.ref a1), .val (.int (4 : Int32)), .val (.int i)] [(.ref a1), (.ref a1)])) rfl rfl (own_d hby d2_152)
    have c222 : SS p e below B0 T220 m 155 #[.val (.ref a1), .val (.int (4 : Int32)), .val (.int i)] [(.long ((rotl (v.2.1) (13 : Int32)) ^^^ ((v.1) + (v.2.1)))), (.ref a1)] := Steps.trans c219 (st220 _ (Steps.refl _))
    have c223 : SS p e below B0 T220 m 157 #[.val (.ref a1), .val (.int (4 : Int32)), .val (.int i)] [(.int (17 : Int32)), (.long ((rotl (v.2.1) (13 : Int32)) ^^^ ((v.1) + (v.2.1)))), (.ref a1)] := Steps.trans c222 (by
        refine XT.bipushV X220.here hx rfl (17 : Int32) (own_d hby d2_155) (by decide) ?_
        exact Steps.refl _)
    obtain ⟨_, _, ⟨T224, Lp224, kp224, np224⟩, -, X224, ⟨Lc224, hQ224, lp224, yp224, zp224⟩, st224⟩ := Jvm.LawKit.callS X220 hx (y := (⟨"java/lang/Long", "rotateLeft", "(JI)J"⟩ : MethodName)) hown (mvT hZ (W hw 94)) (mvT hZ (W hw 95)) (mvT hZ (W hw 96)) (mvT hZ (W hw 97)) (by decide) (backOf (W := 1) (rmRot l Z a0 hw [] ((rotl (v.2.1) (13 : Int32)) ^^^ ((v.1) + (v.2.1))) (17 : Int32) h216 n0 (by omega)) hZ (W hw 97) (W hw 96) (by decide) (by decide)) (g := (mkF m 157 #[.val (.ref a1), .val (.int (4 : Int32)), .val (.int i)] [(.int (17 : Int32)), (.long ((rotl (v.2.1) (13 : Int32)) ^^^ ((v.1) + (v.2.1)))), (.ref a1)])) rfl (by rw [hml]; rfl) (argsL := [(.long ((rotl (v.2.1) (13 : Int32)) ^^^ ((v.1) + (v.2.1)))), (.int (17 : Int32))]) (rest := [(.ref a1)]) (lenOf pd__JI_J rfl) rfl (by show 2 * 0 + _ ≤ _; exact Nat.le_of_eq rfl) (own_d hby d2_157) (fun _ _ => ⟨rfl, e220, (by decide : 0 + 0 ≤ _), (by decide : 0 + 0 ≤ _)⟩)
    dsimp only [Pt.U, Pt.locs, Pt.cells, Pt.slots] at X224 lp224 yp224 zp224 st224 hQ224
    subst lp224 yp224 zp224
    obtain ⟨rfl, Nq224, eq224⟩ := hQ224
    have N224 := Fr.app N216 Nq224
    have c225 : SS p e below B0 T224 m 160 #[.val (.ref a1), .val (.int (4 : Int32)), .val (.int i)] [(.long (rotl ((rotl (v.2.1) (13 : Int32)) ^^^ ((v.1) + (v.2.1))) (17 : Int32))), (.ref a1)] := Steps.trans c223 (st224 _ (Steps.refl _))
    have Exa227 : Exa Z h216 a1 "com/example/waban/waban/ItemHash$SipState" := (Exa217.wr W216)
    obtain ⟨T226, h226, X226, e226, W226, st226⟩ := putF X224 hx hZ hown (host := "") (Or.inl (W hw 77)) Via.refl eq224 Fld221 Exa227 (Or.inl (W hw 78)) (W hw 66) (ty := .long) (by decide) rfl rfl (g := (mkF m 160 #[.val (.ref a1), .val (.int (4 : Int32)), .val (.int i)] [(.long (rotl ((rotl (v.2.1) (13 : Int32)) ^^^ ((v.1) + (v.2.1))) (17 : Int32))), (.ref a1)])) rfl rfl (own_d hby d2_160)
    have N226 := Fr.snoc X226 N224 (by omega)
    have F226 : Fld Z h226 a1 "com/example/waban/waban/ItemHash$SipState" "v1" "J" (.long (rotl ((rotl (v.2.1) (13 : Int32)) ^^^ ((v.1) + (v.2.1))) (17 : Int32))) := Fld221.same W226
    have z226 : h226.size = h216.size := W226.size
    have K226 := K216.wr W226 (Or.inl (List.mem_of_getElem? (i := 0) rfl))
    have c228 : SS p e below B0 T226 m 163 #[.val (.ref a1), .val (.int (4 : Int32)), .val (.int i)] [] := Steps.trans c225 (st226 _ (Steps.refl _))
    have c229 : SS p e below B0 T226 m 165 #[.val (.ref a1), .val (.int (4 : Int32)), .val (.int i)] [(.ref a1), (.ref a1)] := Steps.trans c228 (by
        refine XS.aloadN X226.here hx rfl (own_d hby d2_163) rfl rfl ?_
        refine XS.dup X226.here hx rfl (own_d hby d2_164) rfl rfl ?_
        exact Steps.refl _)
    obtain ⟨T230, X230, e230, st230⟩ := getF X226 hx hZ hown (host := "") (Or.inl (W hw 77)) Via.refl e226 F226 (g := (mkF m 165 #[.val (.ref a1), .val (.int (4 : Int32)), .val (.int i)] [(.ref a1), (.ref a1)])) rfl rfl (own_d hby d2_165)
    have c231 : SS p e below B0 T230 m 168 #[.val (.ref a1), .val (.int (4 : Int32)), .val (.int i)] [(.long (rotl ((rotl (v.2.1) (13 : Int32)) ^^^ ((v.1) + (v.2.1))) (17 : Int32))), (.ref a1)] := Steps.trans c229 (st230 _ (Steps.refl _))
    have c232 : SS p e below B0 T230 m 169 #[.val (.ref a1), .val (.int (4 : Int32)), .val (.int i)] [(.ref a1), (.long (rotl ((rotl (v.2.1) (13 : Int32)) ^^^ ((v.1) + (v.2.1))) (17 : Int32))), (.ref a1)] := Steps.trans c231 (by
        refine XS.aloadN X230.here hx rfl (own_d hby d2_168) rfl rfl ?_
        exact Steps.refl _)
    have Fld234 : Fld Z h226 a1 "com/example/waban/waban/ItemHash$SipState" "v2" "J" (.long (((v.2.2.1) + (v.2.2.2)) + ((rotl (v.2.1) (13 : Int32)) ^^^ ((v.1) + (v.2.1))))) := (F216.other W226 (Or.inr (slot_ne (Or.inl (W hw 81)) (Or.inl (W hw 78)) (by decide) (t := .long) (t' := .long) (by decide) (by decide))))
    obtain ⟨T233, X233, e233, st233⟩ := getF X230 hx hZ hown (host := "") (Or.inl (W hw 80)) Via.refl e230 Fld234 (g := (mkF m 169 #[.val (.ref a1), .val (.int (4 : Int32)), .val (.int i)] [(.ref a1), (.long (rotl ((rotl (v.2.1) (13 : Int32)) ^^^ ((v.1) + (v.2.1))) (17 : Int32))), (.ref a1)])) rfl rfl (own_d hby d2_169)
    have c235 : SS p e below B0 T233 m 172 #[.val (.ref a1), .val (.int (4 : Int32)), .val (.int i)] [(.long (((v.2.2.1) + (v.2.2.2)) + ((rotl (v.2.1) (13 : Int32)) ^^^ ((v.1) + (v.2.1))))), (.long (rotl ((rotl (v.2.1) (13 : Int32)) ^^^ ((v.1) + (v.2.1))) (17 : Int32))), (.ref a1)] := Steps.trans c232 (st233 _ (Steps.refl _))
    have c236 : SS p e below B0 T233 m 173 #[.val (.ref a1), .val (.int (4 : Int32)), .val (.int i)] [(.long ((rotl ((rotl (v.2.1) (13 : Int32)) ^^^ ((v.1) + (v.2.1))) (17 : Int32)) ^^^ (((v.2.2.1) + (v.2.2.2)) + ((rotl (v.2.1) (13 : Int32)) ^^^ ((v.1) + (v.2.1)))))), (.ref a1)] := Steps.trans c235 (by
        refine XS.lxor X233.here hx rfl (own_d hby d2_172) rfl ?_
        exact Steps.refl _)
    have Exa238 : Exa Z h226 a1 "com/example/waban/waban/ItemHash$SipState" := (Exa227.wr W226)
    obtain ⟨T237, h237, X237, e237, W237, st237⟩ := putF X233 hx hZ hown (host := "") (Or.inl (W hw 77)) Via.refl e233 F226 Exa238 (Or.inl (W hw 78)) (W hw 66) (ty := .long) (by decide) rfl rfl (g := (mkF m 173 #[.val (.ref a1), .val (.int (4 : Int32)), .val (.int i)] [(.long ((rotl ((rotl (v.2.1) (13 : Int32)) ^^^ ((v.1) + (v.2.1))) (17 : Int32)) ^^^ (((v.2.2.1) + (v.2.2.2)) + ((rotl (v.2.1) (13 : Int32)) ^^^ ((v.1) + (v.2.1)))))), (.ref a1)])) rfl rfl (own_d hby d2_173)
    have N237 := Fr.snoc X237 N226 (by omega)
    have F237 : Fld Z h237 a1 "com/example/waban/waban/ItemHash$SipState" "v1" "J" (.long ((rotl ((rotl (v.2.1) (13 : Int32)) ^^^ ((v.1) + (v.2.1))) (17 : Int32)) ^^^ (((v.2.2.1) + (v.2.2.2)) + ((rotl (v.2.1) (13 : Int32)) ^^^ ((v.1) + (v.2.1)))))) := F226.same W237
    have z237 : h237.size = h226.size := W237.size
    have K237 := K226.wr W237 (Or.inl (List.mem_of_getElem? (i := 0) rfl))
    have c239 : SS p e below B0 T237 m 176 #[.val (.ref a1), .val (.int (4 : Int32)), .val (.int i)] [] := Steps.trans c236 (st237 _ (Steps.refl _))
    have c240 : SS p e below B0 T237 m 178 #[.val (.ref a1), .val (.int (4 : Int32)), .val (.int i)] [(.ref a1), (.ref a1)] := Steps.trans c239 (by
        refine XS.aloadN X237.here hx rfl (own_d hby d2_176) rfl rfl ?_
        refine XS.aloadN X237.here hx rfl (own_d hby d2_177) rfl rfl ?_
        exact Steps.refl _)
    have Fld242 : Fld Z h237 a1 "com/example/waban/waban/ItemHash$SipState" "v2" "J" (.long (((v.2.2.1) + (v.2.2.2)) + ((rotl (v.2.1) (13 : Int32)) ^^^ ((v.1) + (v.2.1))))) := (Fld234.other W237 (Or.inr (slot_ne (Or.inl (W hw 81)) (Or.inl (W hw 78)) (by decide) (t := .long) (t' := .long) (by decide) (by decide))))
    obtain ⟨T241, X241, e241, st241⟩ := getF X237 hx hZ hown (host := "") (Or.inl (W hw 80)) Via.refl e237 Fld242 (g := (mkF m 178 #[.val (.ref a1), .val (.int (4 : Int32)), .val (.int i)] [(.ref a1), (.ref a1)])) rfl rfl (own_d hby d2_178)
    have c243 : SS p e below B0 T241 m 181 #[.val (.ref a1), .val (.int (4 : Int32)), .val (.int i)] [(.long (((v.2.2.1) + (v.2.2.2)) + ((rotl (v.2.1) (13 : Int32)) ^^^ ((v.1) + (v.2.1))))), (.ref a1)] := Steps.trans c240 (st241 _ (Steps.refl _))
    have c244 : SS p e below B0 T241 m 183 #[.val (.ref a1), .val (.int (4 : Int32)), .val (.int i)] [(.int (32 : Int32)), (.long (((v.2.2.1) + (v.2.2.2)) + ((rotl (v.2.1) (13 : Int32)) ^^^ ((v.1) + (v.2.1))))), (.ref a1)] := Steps.trans c243 (by
        refine XT.bipushV X241.here hx rfl (32 : Int32) (own_d hby d2_181) (by decide) ?_
        exact Steps.refl _)
    obtain ⟨_, _, ⟨T245, Lp245, kp245, np245⟩, -, X245, ⟨Lc245, hQ245, lp245, yp245, zp245⟩, st245⟩ := Jvm.LawKit.callS X241 hx (y := (⟨"java/lang/Long", "rotateLeft", "(JI)J"⟩ : MethodName)) hown (mvT hZ (W hw 94)) (mvT hZ (W hw 95)) (mvT hZ (W hw 96)) (mvT hZ (W hw 97)) (by decide) (backOf (W := 1) (rmRot l Z a0 hw [] (((v.2.2.1) + (v.2.2.2)) + ((rotl (v.2.1) (13 : Int32)) ^^^ ((v.1) + (v.2.1)))) (32 : Int32) h237 n0 (by omega)) hZ (W hw 97) (W hw 96) (by decide) (by decide)) (g := (mkF m 183 #[.val (.ref a1), .val (.int (4 : Int32)), .val (.int i)] [(.int (32 : Int32)), (.long (((v.2.2.1) + (v.2.2.2)) + ((rotl (v.2.1) (13 : Int32)) ^^^ ((v.1) + (v.2.1))))), (.ref a1)])) rfl (by rw [hml]; rfl) (argsL := [(.long (((v.2.2.1) + (v.2.2.2)) + ((rotl (v.2.1) (13 : Int32)) ^^^ ((v.1) + (v.2.1))))), (.int (32 : Int32))]) (rest := [(.ref a1)]) (lenOf pd__JI_J rfl) rfl (by show 2 * 0 + _ ≤ _; exact Nat.le_of_eq rfl) (own_d hby d2_183) (fun _ _ => ⟨rfl, e241, (by decide : 0 + 0 ≤ _), (by decide : 0 + 0 ≤ _)⟩)
    dsimp only [Pt.U, Pt.locs, Pt.cells, Pt.slots] at X245 lp245 yp245 zp245 st245 hQ245
    subst lp245 yp245 zp245
    obtain ⟨rfl, Nq245, eq245⟩ := hQ245
    have N245 := Fr.app N237 Nq245
    have c246 : SS p e below B0 T245 m 186 #[.val (.ref a1), .val (.int (4 : Int32)), .val (.int i)] [(.long (rotl (((v.2.2.1) + (v.2.2.2)) + ((rotl (v.2.1) (13 : Int32)) ^^^ ((v.1) + (v.2.1)))) (32 : Int32))), (.ref a1)] := Steps.trans c244 (st245 _ (Steps.refl _))
    have Exa248 : Exa Z h237 a1 "com/example/waban/waban/ItemHash$SipState" := (Exa238.wr W237)
    obtain ⟨T247, h247, X247, e247, W247, st247⟩ := putF X245 hx hZ hown (host := "") (Or.inl (W hw 80)) Via.refl eq245 Fld242 Exa248 (Or.inl (W hw 81)) (W hw 66) (ty := .long) (by decide) rfl rfl (g := (mkF m 186 #[.val (.ref a1), .val (.int (4 : Int32)), .val (.int i)] [(.long (rotl (((v.2.2.1) + (v.2.2.2)) + ((rotl (v.2.1) (13 : Int32)) ^^^ ((v.1) + (v.2.1)))) (32 : Int32))), (.ref a1)])) rfl rfl (own_d hby d2_186)
    have N247 := Fr.snoc X247 N245 (by omega)
    have F247 : Fld Z h247 a1 "com/example/waban/waban/ItemHash$SipState" "v2" "J" (.long (rotl (((v.2.2.1) + (v.2.2.2)) + ((rotl (v.2.1) (13 : Int32)) ^^^ ((v.1) + (v.2.1)))) (32 : Int32))) := Fld242.same W247
    have z247 : h247.size = h237.size := W247.size
    have K247 := K237.wr W247 (Or.inl (List.mem_of_getElem? (i := 0) rfl))
    have c249 : SS p e below B0 T247 m 189 #[.val (.ref a1), .val (.int (4 : Int32)), .val (.int i)] [] := Steps.trans c246 (st247 _ (Steps.refl _))
    have c250 : SS p e below B0 T247 m 2 #[.val (.ref a1), .val (.int (4 : Int32)), .val (.int (i + (1 : Int32)))] [] := Steps.trans c249 (by
        refine XT.iincV X247.here hx rfl (1 : Int32) (own_d hby d2_189) (by decide) rfl (l' := #[.val (.ref a1), .val (.int (4 : Int32)), .val (.int (i + (1 : Int32)))]) rfl ?_
        refine XS.goto X247.here hx rfl (pc0 := 192) (pc' := 2) rfl (own_d hby d2_192) (by decide) (by decide) ?_
        exact Steps.refl _)
    have Fld251 : Fld Z h247 a1 "com/example/waban/waban/ItemHash$SipState" "v0" "J" (.long ((rotl ((v.1) + (v.2.1)) (32 : Int32)) + ((rotl (v.2.2.2) (16 : Int32)) ^^^ ((v.2.2.1) + (v.2.2.2))))) := (((((Fld201.other W204 (Or.inr (slot_ne (Or.inl (W hw 74)) (Or.inl (W hw 84)) (by decide) (t := .long) (t' := .long) (by decide) (by decide)))).other W216 (Or.inr (slot_ne (Or.inl (W hw 74)) (Or.inl (W hw 81)) (by decide) (t := .long) (t' := .long) (by decide) (by decide)))).other W226 (Or.inr (slot_ne (Or.inl (W hw 74)) (Or.inl (W hw 78)) (by decide) (t := .long) (t' := .long) (by decide) (by decide)))).other W237 (Or.inr (slot_ne (Or.inl (W hw 74)) (Or.inl (W hw 78)) (by decide) (t := .long) (t' := .long) (by decide) (by decide)))).other W247 (Or.inr (slot_ne (Or.inl (W hw 74)) (Or.inl (W hw 81)) (by decide) (t := .long) (t' := .long) (by decide) (by decide))))
    have Fld252 : Fld Z h247 a1 "com/example/waban/waban/ItemHash$SipState" "v1" "J" (.long ((rotl ((rotl (v.2.1) (13 : Int32)) ^^^ ((v.1) + (v.2.1))) (17 : Int32)) ^^^ (((v.2.2.1) + (v.2.2.2)) + ((rotl (v.2.1) (13 : Int32)) ^^^ ((v.1) + (v.2.1)))))) := (F237.other W247 (Or.inr (slot_ne (Or.inl (W hw 78)) (Or.inl (W hw 81)) (by decide) (t := .long) (t' := .long) (by decide) (by decide))))
    have Fld253 : Fld Z h247 a1 "com/example/waban/waban/ItemHash$SipState" "v3" "J" (.long ((rotl ((rotl (v.2.2.2) (16 : Int32)) ^^^ ((v.2.2.1) + (v.2.2.2))) (21 : Int32)) ^^^ ((rotl ((v.1) + (v.2.1)) (32 : Int32)) + ((rotl (v.2.2.2) (16 : Int32)) ^^^ ((v.2.2.1) + (v.2.2.2)))))) := ((((F204.other W216 (Or.inr (slot_ne (Or.inl (W hw 84)) (Or.inl (W hw 81)) (by decide) (t := .long) (t' := .long) (by decide) (by decide)))).other W226 (Or.inr (slot_ne (Or.inl (W hw 84)) (Or.inl (W hw 78)) (by decide) (t := .long) (t' := .long) (by decide) (by decide)))).other W237 (Or.inr (slot_ne (Or.inl (W hw 84)) (Or.inl (W hw 78)) (by decide) (t := .long) (t' := .long) (by decide) (by decide)))).other W247 (Or.inr (slot_ne (Or.inl (W hw 84)) (Or.inl (W hw 81)) (by decide) (t := .long) (t' := .long) (by decide) (by decide))))
    have Exa254 : Exa Z h247 a1 "com/example/waban/waban/ItemHash$SipState" := (Exa248.wr W247)
    exact ⟨_, _, _, X247, e247, N247, K247, Exa254, Fld251, Fld252, F247, Fld253, c250⟩
  obtain ⟨T_0, h_0, L_0, X_0, e_0, N_0, K_0, E_0, F0_0, F1_0, F2_0, F3_0, c_0⟩ := turn (0 : Int32) v _ _ _ (by decide) X0 e0 N0 (Keep.refl _ _) E1 F0 F1 F2 F3 c101
  obtain ⟨T_1, h_1, L_1, X_1, e_1, N_1, K_1, E_1, F0_1, F1_1, F2_1, F3_1, c_1⟩ := turn (1 : Int32) (rnd v) _ _ _ (by decide) X_0 e_0 N_0 K_0 E_0 F0_0 F1_0 F2_0 F3_0 c_0
  obtain ⟨T_2, h_2, L_2, X_2, e_2, N_2, K_2, E_2, F0_2, F1_2, F2_2, F3_2, c_2⟩ := turn (2 : Int32) (rnd (rnd v)) _ _ _ (by decide) X_1 e_1 N_1 K_1 E_1 F0_1 F1_1 F2_1 F3_1 c_1
  obtain ⟨T_3, h_3, L_3, X_3, e_3, N_3, K_3, E_3, F0_3, F1_3, F2_3, F3_3, c_3⟩ := turn (3 : Int32) (rnd (rnd (rnd v))) _ _ _ (by decide) X_2 e_2 N_2 K_2 E_2 F0_2 F1_2 F2_2 F3_2 c_2
  have cz : SS p e below B0 T_3 m 2 #[.val (.ref a1), .val (.int (4 : Int32)), .val (.int (4 : Int32))] [] := c_3
  have c102 : SS p e below B0 T_3 m 195 #[.val (.ref a1), .val (.int (4 : Int32)), .val (.int (4 : Int32))] [] := Steps.trans cz (by
      refine XS.iloadN X_3.here hx rfl (own_d hby d2_2) rfl ?_
      refine XS.iloadN X_3.here hx rfl (own_d hby d2_3) rfl ?_
      refine XS.icmpYes X_3.here hx rfl (pc0 := 4) (pc' := 195) rfl (own_d hby d2_4) rfl (flt (by decide : ¬ (4 : Int32) < (4 : Int32))).2.1 (by decide) (by decide) ?_
      exact Steps.refl _)
  obtain ⟨fs, hr, hrun, hended, hW, hsame⟩ := X_3.leave (v := none) (fun _ => rfl)
  subst hB0
  refine ⟨_, _, Steps.trans c102 ?_, hrun, hended, _, _, rfl, ?_, ⟨_, rfl⟩, hW, hsame.mono (by decide) (by decide)⟩
  · exact X_3.returnOut hx Bd.returns (own_d hby d2_195) hr
  · show QRd4 Z a1 v h0 n0 _ T_3.heap _
    rw [e_3]
    exact ⟨rfl, N_3, K_3, F0_3, F1_3, F2_3, F3_3⟩
def QSi (Z : State) (a1 : Addr) (q1 q2 : Int64) (h0 : Heap) (n0 : Nat) (r : Option Value) (h : Heap) (L : List Loc) : Prop := r = none ∧ Fr n0 L ∧ Keep h0 h [a1] ∧ Fld Z h a1 "com/example/waban/waban/ItemHash$SipState" "v0" "J" (.long (sip0 q1 q2).1) ∧ Fld Z h a1 "com/example/waban/waban/ItemHash$SipState" "v1" "J" (.long (sip0 q1 q2).2.1) ∧ Fld Z h a1 "com/example/waban/waban/ItemHash$SipState" "v2" "J" (.long (sip0 q1 q2).2.2.1) ∧ Fld Z h a1 "com/example/waban/waban/ItemHash$SipState" "v3" "J" (.long (sip0 q1 q2).2.2.2)
set_option maxRecDepth 65536 in
set_option maxHeartbeats 40000000 in
theorem rmSi (l : Launch) (Z : State) (a0 : Array Value) (hw : ∀ d ∈ tables_1, d.before a0 Z = true) (ws : List Jvm.Cond) (a1 : Addr) (q1 q2 : Int64) (u0 u1 u2 u3 : Value) (h0 : Heap) (n0 : Nat) (Z0 : n0 ≤ h0.size) (E1 : Exa Z h0 a1 "com/example/waban/waban/ItemHash$SipState") (F0 : Fld Z h0 a1 "com/example/waban/waban/ItemHash$SipState" "v0" "J" u0) (F1 : Fld Z h0 a1 "com/example/waban/waban/ItemHash$SipState" "v1" "J" u1) (F2 : Fld Z h0 a1 "com/example/waban/waban/ItemHash$SipState" "v2" "J" u2) (F3 : Fld Z h0 a1 "com/example/waban/waban/ItemHash$SipState" "v3" "J" u3) (g1 : n0 ≤ a1) :
    MetFree l (⟨"com/example/waban/waban/ItemHash$SipState", "<init>", "(JJ)V"⟩ : MethodName) (head1 (Jvm.Cond.code (⟨"com/example/waban/waban/ItemHash$SipState", "<init>", "(JJ)V"⟩ : MethodName) prog_13_method_1_code 5 none :: ws) ({ frames := 1, cells := 0, slots := 0, locals := 12 } : Room)) (fun a U => a = #[(.ref a1), (.long q1), (.long q2)] ∧ Z.Warmed39 U.vm ∧ U.heap = h0) (fun _ _ _ _ _ => True) (fun _ U o U' => ∃ vR LR, o = .returned vR ∧ QSi Z a1 q1 q2 h0 n0 vR U'.heap LR ∧ FrameEnd U o U' LR ({ frames := 1, cells := 0, slots := 0, locals := 12 } : Room).cells ({ frames := 1, cells := 0, slots := 0, locals := 12 } : Room).slots) := by
  refine MetFree.of_bodySF (plainFor_of_name pn_com_example_waban_waban_ItemHash_SipState) hisR ?_
  intro p e s m args below meth c s₁ Bd hml0 hP hK
  obtain ⟨rfl, hZ, hh⟩ := hP
  have hx := Bd.exec
  have hby := Bd.bytes
  have hml : c.maxLocals = 5 := hml0
  have hown : s.vm.findClass "com/example/waban/waban/ItemHash$SipState" = some m.cls := findClass_of_methodNamed Bd.named
  have hnm := (name_of_methodNamed Bd.named Bd.method).1
  have X0 : Stand p l e ({ frames := 1, cells := 0, slots := 0, locals := 12 } : Room) s m #[(.ref a1), (.long q1), (.long q2)] below meth c s₁ [] 0 0 := Stand.of_body Bd
  have e0 : s₁.heap = h0 := by rw [← hh, Bd.state]; rfl
  have N0 := Fr.nil n0
  obtain ⟨B0, c0, hB0⟩ : ∃ B0, Steps p.tables e below B0 (s₁.setTop (mkF m 0 #[.val (.ref a1), .val (.long q1), .second, .val (.long q2), .second] [])) ∧ B0 = s₁.setTop (entryFrame m #[(.ref a1), (.long q1), (.long q2)] 5) := ⟨_, castTop (ef_RJJ_5 m a1 q1 q2) (Steps.refl _), rfl⟩
  have lt_a1 : (@LT.lt Nat _ a1 h0.size) := E1.lt
  have c101 : SS p e below B0 s₁ m 1 #[.val (.ref a1), .val (.long q1), .second, .val (.long q2), .second] [(.ref a1)] := Steps.trans c0 (by
      refine XS.aloadN X0.here hx rfl (own_d hby d3_0) rfl rfl ?_
      exact Steps.refl _)
  obtain ⟨T102, X102, e102, st102⟩ := initO X0 hx hZ hown (W hw 71) (W hw 8) (W hw 9) e0 (g := (mkF m 1 #[.val (.ref a1), .val (.long q1), .second, .val (.long q2), .second] [(.ref a1)])) rfl (by rw [hml]; rfl) rfl (own_d hby d3_1) (by decide) (W := 0) (by show 2 * 0 + _ ≤ _; exact Nat.le_of_eq rfl) (by decide)
  have c103 : SS p e below B0 T102 m 4 #[.val (.ref a1), .val (.long q1), .second, .val (.long q2), .second] [] := Steps.trans c101 (st102 _ (Steps.refl _))
  have c104 : SS p e below B0 T102 m 10 #[.val (.ref a1), .val (.long q1), .second, .val (.long q2), .second] [(.long (q1 ^^^ (8317987319222330741 : Int64))), (.ref a1)] := Steps.trans c103 (by
      refine XS.aloadN X102.here hx rfl (own_d hby d3_4) rfl rfl ?_
      refine XS.lloadN X102.here hx rfl (own_d hby d3_5) rfl ?_
      refine X102.ldc2J hx hown (mvT hZ (W hw 72)) rfl (own_d hby d3_6) ?_
      refine XS.lxor X102.here hx rfl (own_d hby d3_9) rfl ?_
      exact Steps.refl _)
  obtain ⟨T105, h105, X105, e105, W105, st105⟩ := putF X102 hx hZ hown (host := "") (Or.inl (W hw 73)) Via.refl e102 F0 E1 (Or.inl (W hw 74)) (W hw 66) (ty := .long) (by decide) rfl rfl (g := (mkF m 10 #[.val (.ref a1), .val (.long q1), .second, .val (.long q2), .second] [(.long (q1 ^^^ (8317987319222330741 : Int64))), (.ref a1)])) rfl rfl (own_d hby d3_10)
  have N105 := Fr.snoc X105 N0 (by omega)
  have F105 : Fld Z h105 a1 "com/example/waban/waban/ItemHash$SipState" "v0" "J" (.long (q1 ^^^ (8317987319222330741 : Int64))) := F0.same W105
  have z105 : h105.size = h0.size := W105.size
  have K105 := (Keep.refl h0 [a1]).wr W105 (Or.inl (List.mem_of_getElem? (i := 0) rfl))
  have c106 : SS p e below B0 T105 m 13 #[.val (.ref a1), .val (.long q1), .second, .val (.long q2), .second] [] := Steps.trans c104 (st105 _ (Steps.refl _))
  have c107 : SS p e below B0 T105 m 23 #[.val (.ref a1), .val (.long q1), .second, .val (.long q2), .second] [(.long ((q2 ^^^ (7237128888997146477 : Int64)) ^^^ (238 : Int64))), (.ref a1)] := Steps.trans c106 (by
      refine XS.aloadN X105.here hx rfl (own_d hby d3_13) rfl rfl ?_
      refine XS.lloadN X105.here hx rfl (own_d hby d3_14) rfl ?_
      refine X105.ldc2J hx hown (mvT hZ (W hw 75)) rfl (own_d hby d3_15) ?_
      refine XS.lxor X105.here hx rfl (own_d hby d3_18) rfl ?_
      refine X105.ldc2J hx hown (mvT hZ (W hw 76)) rfl (own_d hby d3_19) ?_
      refine XS.lxor X105.here hx rfl (own_d hby d3_22) rfl ?_
      exact Steps.refl _)
  have Fld109 : Fld Z h105 a1 "com/example/waban/waban/ItemHash$SipState" "v1" "J" u1 := (F1.other W105 (Or.inr (slot_ne (Or.inl (W hw 78)) (Or.inl (W hw 74)) (by decide) (t := .long) (t' := .long) (by decide) (by decide))))
  have Exa110 : Exa Z h105 a1 "com/example/waban/waban/ItemHash$SipState" := (E1.wr W105)
  obtain ⟨T108, h108, X108, e108, W108, st108⟩ := putF X105 hx hZ hown (host := "") (Or.inl (W hw 77)) Via.refl e105 Fld109 Exa110 (Or.inl (W hw 78)) (W hw 66) (ty := .long) (by decide) rfl rfl (g := (mkF m 23 #[.val (.ref a1), .val (.long q1), .second, .val (.long q2), .second] [(.long ((q2 ^^^ (7237128888997146477 : Int64)) ^^^ (238 : Int64))), (.ref a1)])) rfl rfl (own_d hby d3_23)
  have N108 := Fr.snoc X108 N105 (by omega)
  have F108 : Fld Z h108 a1 "com/example/waban/waban/ItemHash$SipState" "v1" "J" (.long ((q2 ^^^ (7237128888997146477 : Int64)) ^^^ (238 : Int64))) := Fld109.same W108
  have z108 : h108.size = h105.size := W108.size
  have K108 := K105.wr W108 (Or.inl (List.mem_of_getElem? (i := 0) rfl))
  have c111 : SS p e below B0 T108 m 26 #[.val (.ref a1), .val (.long q1), .second, .val (.long q2), .second] [] := Steps.trans c107 (st108 _ (Steps.refl _))
  have c112 : SS p e below B0 T108 m 32 #[.val (.ref a1), .val (.long q1), .second, .val (.long q2), .second] [(.long (q1 ^^^ (7816392313619706465 : Int64))), (.ref a1)] := Steps.trans c111 (by
      refine XS.aloadN X108.here hx rfl (own_d hby d3_26) rfl rfl ?_
      refine XS.lloadN X108.here hx rfl (own_d hby d3_27) rfl ?_
      refine X108.ldc2J hx hown (mvT hZ (W hw 79)) rfl (own_d hby d3_28) ?_
      refine XS.lxor X108.here hx rfl (own_d hby d3_31) rfl ?_
      exact Steps.refl _)
  have Fld114 : Fld Z h108 a1 "com/example/waban/waban/ItemHash$SipState" "v2" "J" u2 := ((F2.other W105 (Or.inr (slot_ne (Or.inl (W hw 81)) (Or.inl (W hw 74)) (by decide) (t := .long) (t' := .long) (by decide) (by decide)))).other W108 (Or.inr (slot_ne (Or.inl (W hw 81)) (Or.inl (W hw 78)) (by decide) (t := .long) (t' := .long) (by decide) (by decide))))
  have Exa115 : Exa Z h108 a1 "com/example/waban/waban/ItemHash$SipState" := (Exa110.wr W108)
  obtain ⟨T113, h113, X113, e113, W113, st113⟩ := putF X108 hx hZ hown (host := "") (Or.inl (W hw 80)) Via.refl e108 Fld114 Exa115 (Or.inl (W hw 81)) (W hw 66) (ty := .long) (by decide) rfl rfl (g := (mkF m 32 #[.val (.ref a1), .val (.long q1), .second, .val (.long q2), .second] [(.long (q1 ^^^ (7816392313619706465 : Int64))), (.ref a1)])) rfl rfl (own_d hby d3_32)
  have N113 := Fr.snoc X113 N108 (by omega)
  have F113 : Fld Z h113 a1 "com/example/waban/waban/ItemHash$SipState" "v2" "J" (.long (q1 ^^^ (7816392313619706465 : Int64))) := Fld114.same W113
  have z113 : h113.size = h108.size := W113.size
  have K113 := K108.wr W113 (Or.inl (List.mem_of_getElem? (i := 0) rfl))
  have c116 : SS p e below B0 T113 m 35 #[.val (.ref a1), .val (.long q1), .second, .val (.long q2), .second] [] := Steps.trans c112 (st113 _ (Steps.refl _))
  have c117 : SS p e below B0 T113 m 41 #[.val (.ref a1), .val (.long q1), .second, .val (.long q2), .second] [(.long (q2 ^^^ (8387220255154660723 : Int64))), (.ref a1)] := Steps.trans c116 (by
      refine XS.aloadN X113.here hx rfl (own_d hby d3_35) rfl rfl ?_
      refine XS.lloadN X113.here hx rfl (own_d hby d3_36) rfl ?_
      refine X113.ldc2J hx hown (mvT hZ (W hw 82)) rfl (own_d hby d3_37) ?_
      refine XS.lxor X113.here hx rfl (own_d hby d3_40) rfl ?_
      exact Steps.refl _)
  have Fld119 : Fld Z h113 a1 "com/example/waban/waban/ItemHash$SipState" "v3" "J" u3 := (((F3.other W105 (Or.inr (slot_ne (Or.inl (W hw 84)) (Or.inl (W hw 74)) (by decide) (t := .long) (t' := .long) (by decide) (by decide)))).other W108 (Or.inr (slot_ne (Or.inl (W hw 84)) (Or.inl (W hw 78)) (by decide) (t := .long) (t' := .long) (by decide) (by decide)))).other W113 (Or.inr (slot_ne (Or.inl (W hw 84)) (Or.inl (W hw 81)) (by decide) (t := .long) (t' := .long) (by decide) (by decide))))
  have Exa120 : Exa Z h113 a1 "com/example/waban/waban/ItemHash$SipState" := (Exa115.wr W113)
  obtain ⟨T118, h118, X118, e118, W118, st118⟩ := putF X113 hx hZ hown (host := "") (Or.inl (W hw 83)) Via.refl e113 Fld119 Exa120 (Or.inl (W hw 84)) (W hw 66) (ty := .long) (by decide) rfl rfl (g := (mkF m 41 #[.val (.ref a1), .val (.long q1), .second, .val (.long q2), .second] [(.long (q2 ^^^ (8387220255154660723 : Int64))), (.ref a1)])) rfl rfl (own_d hby d3_41)
  have N118 := Fr.snoc X118 N113 (by omega)
  have F118 : Fld Z h118 a1 "com/example/waban/waban/ItemHash$SipState" "v3" "J" (.long (q2 ^^^ (8387220255154660723 : Int64))) := Fld119.same W118
  have z118 : h118.size = h113.size := W118.size
  have K118 := K113.wr W118 (Or.inl (List.mem_of_getElem? (i := 0) rfl))
  have c121 : SS p e below B0 T118 m 44 #[.val (.ref a1), .val (.long q1), .second, .val (.long q2), .second] [] := Steps.trans c117 (st118 _ (Steps.refl _))
  have Fld122 : Fld Z h118 a1 "com/example/waban/waban/ItemHash$SipState" "v0" "J" (.long (q1 ^^^ (8317987319222330741 : Int64))) := (((F105.other W108 (Or.inr (slot_ne (Or.inl (W hw 74)) (Or.inl (W hw 78)) (by decide) (t := .long) (t' := .long) (by decide) (by decide)))).other W113 (Or.inr (slot_ne (Or.inl (W hw 74)) (Or.inl (W hw 81)) (by decide) (t := .long) (t' := .long) (by decide) (by decide)))).other W118 (Or.inr (slot_ne (Or.inl (W hw 74)) (Or.inl (W hw 84)) (by decide) (t := .long) (t' := .long) (by decide) (by decide))))
  have Fld123 : Fld Z h118 a1 "com/example/waban/waban/ItemHash$SipState" "v1" "J" (.long ((q2 ^^^ (7237128888997146477 : Int64)) ^^^ (238 : Int64))) := ((F108.other W113 (Or.inr (slot_ne (Or.inl (W hw 78)) (Or.inl (W hw 81)) (by decide) (t := .long) (t' := .long) (by decide) (by decide)))).other W118 (Or.inr (slot_ne (Or.inl (W hw 78)) (Or.inl (W hw 84)) (by decide) (t := .long) (t' := .long) (by decide) (by decide))))
  have Fld124 : Fld Z h118 a1 "com/example/waban/waban/ItemHash$SipState" "v2" "J" (.long (q1 ^^^ (7816392313619706465 : Int64))) := (F113.other W118 (Or.inr (slot_ne (Or.inl (W hw 81)) (Or.inl (W hw 84)) (by decide) (t := .long) (t' := .long) (by decide) (by decide))))
  obtain ⟨fs, hr, hrun, hended, hW, hsame⟩ := X118.leave (v := none) (fun _ => rfl)
  subst hB0
  refine ⟨_, _, Steps.trans c121 ?_, hrun, hended, _, _, rfl, ?_, ⟨_, rfl⟩, hW, hsame.mono (by decide) (by decide)⟩
  · exact X118.returnOut hx Bd.returns (own_d hby d3_44) hr
  · show QSi Z a1 q1 q2 h0 n0 _ T118.heap _
    rw [e118]
    exact ⟨rfl, N118, K118, Fld122, Fld123, Fld124, F118⟩
def QAb (Z : State) (a1 : Addr) (q1 : Int64) (v : V4) (h0 : Heap) (n0 : Nat) (r : Option Value) (h : Heap) (L : List Loc) : Prop := r = none ∧ Fr n0 L ∧ Keep h0 h [a1] ∧ Fld Z h a1 "com/example/waban/waban/ItemHash$SipState" "v0" "J" (.long (absb q1 v).1) ∧ Fld Z h a1 "com/example/waban/waban/ItemHash$SipState" "v1" "J" (.long (absb q1 v).2.1) ∧ Fld Z h a1 "com/example/waban/waban/ItemHash$SipState" "v2" "J" (.long (absb q1 v).2.2.1) ∧ Fld Z h a1 "com/example/waban/waban/ItemHash$SipState" "v3" "J" (.long (absb q1 v).2.2.2)
set_option maxRecDepth 65536 in
set_option maxHeartbeats 40000000 in
theorem rmAb (l : Launch) (Z : State) (a0 : Array Value) (hw : ∀ d ∈ tables_1, d.before a0 Z = true) (ws : List Jvm.Cond) (a1 : Addr) (q1 : Int64) (v : V4) (h0 : Heap) (n0 : Nat) (Z0 : n0 ≤ h0.size) (E1 : Exa Z h0 a1 "com/example/waban/waban/ItemHash$SipState") (F0 : Fld Z h0 a1 "com/example/waban/waban/ItemHash$SipState" "v0" "J" (.long v.1)) (F1 : Fld Z h0 a1 "com/example/waban/waban/ItemHash$SipState" "v1" "J" (.long v.2.1)) (F2 : Fld Z h0 a1 "com/example/waban/waban/ItemHash$SipState" "v2" "J" (.long v.2.2.1)) (F3 : Fld Z h0 a1 "com/example/waban/waban/ItemHash$SipState" "v3" "J" (.long v.2.2.2)) (g1 : n0 ≤ a1) :
    MetFree l (⟨"com/example/waban/waban/ItemHash$SipState", "absorb", "(J)V"⟩ : MethodName) (head1 (Jvm.Cond.code (⟨"com/example/waban/waban/ItemHash$SipState", "absorb", "(J)V"⟩ : MethodName) prog_13_method_2_code 3 none :: ws) ({ frames := 2, cells := 0, slots := 0, locals := 29 } : Room)) (fun a U => a = #[(.ref a1), (.long q1)] ∧ Z.Warmed39 U.vm ∧ U.heap = h0) (fun _ _ _ _ _ => True) (fun _ U o U' => ∃ vR LR, o = .returned vR ∧ QAb Z a1 q1 v h0 n0 vR U'.heap LR ∧ FrameEnd U o U' LR ({ frames := 2, cells := 0, slots := 0, locals := 29 } : Room).cells ({ frames := 2, cells := 0, slots := 0, locals := 29 } : Room).slots) := by
  refine MetFree.of_bodySF (plainFor_of_name pn_com_example_waban_waban_ItemHash_SipState) hisR ?_
  intro p e s m args below meth c s₁ Bd hml0 hP hK
  obtain ⟨rfl, hZ, hh⟩ := hP
  have hx := Bd.exec
  have hby := Bd.bytes
  have hml : c.maxLocals = 3 := hml0
  have hown : s.vm.findClass "com/example/waban/waban/ItemHash$SipState" = some m.cls := findClass_of_methodNamed Bd.named
  have hnm := (name_of_methodNamed Bd.named Bd.method).1
  have X0 : Stand p l e ({ frames := 2, cells := 0, slots := 0, locals := 29 } : Room) s m #[(.ref a1), (.long q1)] below meth c s₁ [] 0 0 := Stand.of_body Bd
  have e0 : s₁.heap = h0 := by rw [← hh, Bd.state]; rfl
  have N0 := Fr.nil n0
  obtain ⟨B0, c0, hB0⟩ : ∃ B0, Steps p.tables e below B0 (s₁.setTop (mkF m 0 #[.val (.ref a1), .val (.long q1), .second] [])) ∧ B0 = s₁.setTop (entryFrame m #[(.ref a1), (.long q1)] 3) := ⟨_, castTop (ef_RJ_3 m a1 q1) (Steps.refl _), rfl⟩
  have lt_a1 : (@LT.lt Nat _ a1 h0.size) := E1.lt
  have c101 : SS p e below B0 s₁ m 2 #[.val (.ref a1), .val (.long q1), .second] [(.ref a1), (.ref a1)] := Steps.trans c0 (by
      refine XS.aloadN X0.here hx rfl (own_d hby d4_0) rfl rfl ?_
      refine XS.dup X0.here hx rfl (own_d hby d4_1) rfl rfl ?_
      exact Steps.refl _)
  obtain ⟨T102, X102, e102, st102⟩ := getF X0 hx hZ hown (host := "") (Or.inl (W hw 83)) Via.refl e0 F3 (g := (mkF m 2 #[.val (.ref a1), .val (.long q1), .second] [(.ref a1), (.ref a1)])) rfl rfl (own_d hby d4_2)
  have c103 : SS p e below B0 T102 m 5 #[.val (.ref a1), .val (.long q1), .second] [(.long (v.2.2.2)), (.ref a1)] := Steps.trans c101 (st102 _ (Steps.refl _))
  have c104 : SS p e below B0 T102 m 7 #[.val (.ref a1), .val (.long q1), .second] [(.long ((v.2.2.2) ^^^ q1)), (.ref a1)] := Steps.trans c103 (by
      refine XS.lloadN X102.here hx rfl (own_d hby d4_5) rfl ?_
      refine XS.lxor X102.here hx rfl (own_d hby d4_6) rfl ?_
      exact Steps.refl _)
  obtain ⟨T105, h105, X105, e105, W105, st105⟩ := putF X102 hx hZ hown (host := "") (Or.inl (W hw 83)) Via.refl e102 F3 E1 (Or.inl (W hw 84)) (W hw 66) (ty := .long) (by decide) rfl rfl (g := (mkF m 7 #[.val (.ref a1), .val (.long q1), .second] [(.long ((v.2.2.2) ^^^ q1)), (.ref a1)])) rfl rfl (own_d hby d4_7)
  have N105 := Fr.snoc X105 N0 (by omega)
  have F105 : Fld Z h105 a1 "com/example/waban/waban/ItemHash$SipState" "v3" "J" (.long ((v.2.2.2) ^^^ q1)) := F3.same W105
  have z105 : h105.size = h0.size := W105.size
  have K105 := (Keep.refl h0 [a1]).wr W105 (Or.inl (List.mem_of_getElem? (i := 0) rfl))
  have c106 : SS p e below B0 T105 m 10 #[.val (.ref a1), .val (.long q1), .second] [] := Steps.trans c104 (st105 _ (Steps.refl _))
  have c107 : SS p e below B0 T105 m 12 #[.val (.ref a1), .val (.long q1), .second] [(.int (2 : Int32)), (.ref a1)] := Steps.trans c106 (by
      refine XS.aloadN X105.here hx rfl (own_d hby d4_10) rfl rfl ?_
      refine XT.iconstV X105.here hx rfl (2 : Int32) (own_d hby d4_11) (by decide) ?_
      exact Steps.refl _)
  have Exa108 : Exa Z h105 a1 "com/example/waban/waban/ItemHash$SipState" := (E1.wr W105)
  have Fld109 : Fld Z h105 a1 "com/example/waban/waban/ItemHash$SipState" "v0" "J" (.long (v.1)) := (F0.other W105 (Or.inr (slot_ne (Or.inl (W hw 74)) (Or.inl (W hw 84)) (by decide) (t := .long) (t' := .long) (by decide) (by decide))))
  have Fld110 : Fld Z h105 a1 "com/example/waban/waban/ItemHash$SipState" "v1" "J" (.long (v.2.1)) := (F1.other W105 (Or.inr (slot_ne (Or.inl (W hw 78)) (Or.inl (W hw 84)) (by decide) (t := .long) (t' := .long) (by decide) (by decide))))
  have Fld111 : Fld Z h105 a1 "com/example/waban/waban/ItemHash$SipState" "v2" "J" (.long (v.2.2.1)) := (F2.other W105 (Or.inr (slot_ne (Or.inl (W hw 81)) (Or.inl (W hw 84)) (by decide) (t := .long) (t' := .long) (by decide) (by decide))))
  obtain ⟨cc112, hc112, ho112_⟩ := Exa108.cell
  obtain ⟨_, _, ⟨T112, Lp112, kp112, np112⟩, -, X112, ⟨Lc112, hQ112, lp112, yp112, zp112⟩, st112⟩ := X105.privateBack hx (y := (⟨"com/example/waban/waban/ItemHash$SipState", "rounds", "(I)V"⟩ : MethodName)) hown (mvT hZ (W hw 90)) (mvT hZ (W hw 91)) (own_selp hZ (W hw 66) (W hw 92) (W hw 91) (by decide)) (Cond.privateMethod_at (mvP hZ (W hw 92) (args := #[]))) (mvT hZ (W hw 93)) (by decide) (backOf (W := 0) (rmRd2 l Z a0 hw [] a1 (((v.1), (v.2.1), (v.2.2.1), ((v.2.2.2) ^^^ q1)) : V4) h105 n0 (by omega) Exa108 Fld109 Fld110 Fld111 F105 (by omega)) hZ (W hw 93) (W hw 67) (by decide) (by decide)) (g := (mkF m 12 #[.val (.ref a1), .val (.long q1), .second] [(.int (2 : Int32)), (.ref a1)])) rfl (by rw [hml]; rfl) c107 (a := a1) (by rw [e105]; exact hc112) ho112_ (argsL := [(.int (2 : Int32))]) (rest := []) (lenOf pd__I_V rfl) rfl (by show 2 * 0 + _ ≤ _; exact Nat.le_of_eq rfl) (own_d hby d4_12) (fun _ _ => ⟨rfl, e105, (by decide : 0 + 0 ≤ _), (by decide : 0 + 0 ≤ _)⟩)
  dsimp only [Pt.U, Pt.locs, Pt.cells, Pt.slots] at X112 lp112 yp112 zp112 st112 hQ112
  subst lp112 yp112 zp112
  obtain ⟨rfl, Nq112, Kq112, fa112, fb112, fc112, fd112⟩ := hQ112
  have N112 := Fr.app N105 Nq112
  obtain ⟨h112, e112⟩ : ∃ z, T112.heap = z := ⟨_, rfl⟩
  rw [e112] at Kq112 fa112 fb112 fc112 fd112
  have z112 : h105.size ≤ h112.size := Kq112.1
  have K112 := K105.trans Kq112 (allS (Or.inl (List.mem_of_getElem? (i := 0) rfl)) all0)
  have c113 : SS p e below B0 T112 m 15 #[.val (.ref a1), .val (.long q1), .second] [] := st112
  have c114 : SS p e below B0 T112 m 17 #[.val (.ref a1), .val (.long q1), .second] [(.ref a1), (.ref a1)] := Steps.trans c113 (by
      refine XS.aloadN X112.here hx rfl (own_d hby d4_15) rfl rfl ?_
      refine XS.dup X112.here hx rfl (own_d hby d4_16) rfl rfl ?_
      exact Steps.refl _)
  obtain ⟨T115, X115, e115, st115⟩ := getF X112 hx hZ hown (host := "") (Or.inl (W hw 73)) Via.refl e112 fa112 (g := (mkF m 17 #[.val (.ref a1), .val (.long q1), .second] [(.ref a1), (.ref a1)])) rfl rfl (own_d hby d4_17)
  have c116 : SS p e below B0 T115 m 20 #[.val (.ref a1), .val (.long q1), .second] [(.long ((rnd (rnd (((v.1), (v.2.1), (v.2.2.1), ((v.2.2.2) ^^^ q1)) : V4))).1)), (.ref a1)] := Steps.trans c114 (st115 _ (Steps.refl _))
  have c117 : SS p e below B0 T115 m 22 #[.val (.ref a1), .val (.long q1), .second] [(.long (((rnd (rnd (((v.1), (v.2.1), (v.2.2.1), ((v.2.2.2) ^^^ q1)) : V4))).1) ^^^ q1)), (.ref a1)] := Steps.trans c116 (by
      refine XS.lloadN X115.here hx rfl (own_d hby d4_20) rfl ?_
      refine XS.lxor X115.here hx rfl (own_d hby d4_21) rfl ?_
      exact Steps.refl _)
  have Exa119 : Exa Z h112 a1 "com/example/waban/waban/ItemHash$SipState" := (Exa108.keep Kq112)
  obtain ⟨T118, h118, X118, e118, W118, st118⟩ := putF X115 hx hZ hown (host := "") (Or.inl (W hw 73)) Via.refl e115 fa112 Exa119 (Or.inl (W hw 74)) (W hw 66) (ty := .long) (by decide) rfl rfl (g := (mkF m 22 #[.val (.ref a1), .val (.long q1), .second] [(.long (((rnd (rnd (((v.1), (v.2.1), (v.2.2.1), ((v.2.2.2) ^^^ q1)) : V4))).1) ^^^ q1)), (.ref a1)])) rfl rfl (own_d hby d4_22)
  have N118 := Fr.snoc X118 N112 (by omega)
  have F118 : Fld Z h118 a1 "com/example/waban/waban/ItemHash$SipState" "v0" "J" (.long (((rnd (rnd (((v.1), (v.2.1), (v.2.2.1), ((v.2.2.2) ^^^ q1)) : V4))).1) ^^^ q1)) := fa112.same W118
  have z118 : h118.size = h112.size := W118.size
  have K118 := K112.wr W118 (Or.inl (List.mem_of_getElem? (i := 0) rfl))
  have c120 : SS p e below B0 T118 m 25 #[.val (.ref a1), .val (.long q1), .second] [] := Steps.trans c117 (st118 _ (Steps.refl _))
  have Fld121 : Fld Z h118 a1 "com/example/waban/waban/ItemHash$SipState" "v1" "J" (.long ((rnd (rnd (((v.1), (v.2.1), (v.2.2.1), ((v.2.2.2) ^^^ q1)) : V4))).2.1)) := (fb112.other W118 (Or.inr (slot_ne (Or.inl (W hw 78)) (Or.inl (W hw 74)) (by decide) (t := .long) (t' := .long) (by decide) (by decide))))
  have Fld122 : Fld Z h118 a1 "com/example/waban/waban/ItemHash$SipState" "v2" "J" (.long ((rnd (rnd (((v.1), (v.2.1), (v.2.2.1), ((v.2.2.2) ^^^ q1)) : V4))).2.2.1)) := (fc112.other W118 (Or.inr (slot_ne (Or.inl (W hw 81)) (Or.inl (W hw 74)) (by decide) (t := .long) (t' := .long) (by decide) (by decide))))
  have Fld123 : Fld Z h118 a1 "com/example/waban/waban/ItemHash$SipState" "v3" "J" (.long ((rnd (rnd (((v.1), (v.2.1), (v.2.2.1), ((v.2.2.2) ^^^ q1)) : V4))).2.2.2)) := (fd112.other W118 (Or.inr (slot_ne (Or.inl (W hw 84)) (Or.inl (W hw 74)) (by decide) (t := .long) (t' := .long) (by decide) (by decide))))
  obtain ⟨fs, hr, hrun, hended, hW, hsame⟩ := X118.leave (v := none) (fun _ => rfl)
  subst hB0
  refine ⟨_, _, Steps.trans c120 ?_, hrun, hended, _, _, rfl, ?_, ⟨_, rfl⟩, hW, hsame.mono (by decide) (by decide)⟩
  · exact X118.returnOut hx Bd.returns (own_d hby d4_25) hr
  · show QAb Z a1 q1 v h0 n0 _ T118.heap _
    rw [e118]
    exact ⟨rfl, N118, K118, F118, Fld121, Fld122, Fld123⟩
def QfinL (Z : State) (a1 : Addr) (v : V4) (h0 : Heap) (n0 : Nat) (r : Option Value) (h : Heap) (L : List Loc) : Prop := r = some (.long (finL_r v)) ∧ Fr n0 L ∧ Keep h0 h [a1] ∧ Fld Z h a1 "com/example/waban/waban/ItemHash$SipState" "v0" "J" (.long (finL_s v).1) ∧ Fld Z h a1 "com/example/waban/waban/ItemHash$SipState" "v1" "J" (.long (finL_s v).2.1) ∧ Fld Z h a1 "com/example/waban/waban/ItemHash$SipState" "v2" "J" (.long (finL_s v).2.2.1) ∧ Fld Z h a1 "com/example/waban/waban/ItemHash$SipState" "v3" "J" (.long (finL_s v).2.2.2)
set_option maxRecDepth 65536 in
set_option maxHeartbeats 40000000 in
theorem rmfinL (l : Launch) (Z : State) (a0 : Array Value) (hw : ∀ d ∈ tables_1, d.before a0 Z = true) (ws : List Jvm.Cond) (a1 : Addr) (v : V4) (h0 : Heap) (n0 : Nat) (Z0 : n0 ≤ h0.size) (E1 : Exa Z h0 a1 "com/example/waban/waban/ItemHash$SipState") (F0 : Fld Z h0 a1 "com/example/waban/waban/ItemHash$SipState" "v0" "J" (.long v.1)) (F1 : Fld Z h0 a1 "com/example/waban/waban/ItemHash$SipState" "v1" "J" (.long v.2.1)) (F2 : Fld Z h0 a1 "com/example/waban/waban/ItemHash$SipState" "v2" "J" (.long v.2.2.1)) (F3 : Fld Z h0 a1 "com/example/waban/waban/ItemHash$SipState" "v3" "J" (.long v.2.2.2)) (g1 : n0 ≤ a1) :
    MetFree l (⟨"com/example/waban/waban/ItemHash$SipState", "finishLow", "()J"⟩ : MethodName) (head1 (Jvm.Cond.code (⟨"com/example/waban/waban/ItemHash$SipState", "finishLow", "()J"⟩ : MethodName) prog_13_method_5_code 1 (some .long) :: ws) ({ frames := 2, cells := 0, slots := 0, locals := 29 } : Room)) (fun a U => a = #[(.ref a1)] ∧ Z.Warmed39 U.vm ∧ U.heap = h0) (fun _ _ _ _ _ => True) (fun _ U o U' => ∃ vR LR, o = .returned vR ∧ QfinL Z a1 v h0 n0 vR U'.heap LR ∧ FrameEnd U o U' LR ({ frames := 2, cells := 0, slots := 0, locals := 29 } : Room).cells ({ frames := 2, cells := 0, slots := 0, locals := 29 } : Room).slots) := by
  refine MetFree.of_bodySF (plainFor_of_name pn_com_example_waban_waban_ItemHash_SipState) hisR ?_
  intro p e s m args below meth c s₁ Bd hml0 hP hK
  obtain ⟨rfl, hZ, hh⟩ := hP
  have hx := Bd.exec
  have hby := Bd.bytes
  have hml : c.maxLocals = 1 := hml0
  have hown : s.vm.findClass "com/example/waban/waban/ItemHash$SipState" = some m.cls := findClass_of_methodNamed Bd.named
  have hnm := (name_of_methodNamed Bd.named Bd.method).1
  have X0 : Stand p l e ({ frames := 2, cells := 0, slots := 0, locals := 29 } : Room) s m #[(.ref a1)] below meth c s₁ [] 0 0 := Stand.of_body Bd
  have e0 : s₁.heap = h0 := by rw [← hh, Bd.state]; rfl
  have N0 := Fr.nil n0
  obtain ⟨B0, c0, hB0⟩ : ∃ B0, Steps p.tables e below B0 (s₁.setTop (mkF m 0 #[.val (.ref a1)] [])) ∧ B0 = s₁.setTop (entryFrame m #[(.ref a1)] 1) := ⟨_, castTop (ef_R_1 m a1) (Steps.refl _), rfl⟩
  have lt_a1 : (@LT.lt Nat _ a1 h0.size) := E1.lt
  have c101 : SS p e below B0 s₁ m 2 #[.val (.ref a1)] [(.ref a1), (.ref a1)] := Steps.trans c0 (by
      refine XS.aloadN X0.here hx rfl (own_d hby d5_0) rfl rfl ?_
      refine XS.dup X0.here hx rfl (own_d hby d5_1) rfl rfl ?_
      exact Steps.refl _)
  obtain ⟨T102, X102, e102, st102⟩ := getF X0 hx hZ hown (host := "") (Or.inl (W hw 80)) Via.refl e0 F2 (g := (mkF m 2 #[.val (.ref a1)] [(.ref a1), (.ref a1)])) rfl rfl (own_d hby d5_2)
  have c103 : SS p e below B0 T102 m 5 #[.val (.ref a1)] [(.long (v.2.2.1)), (.ref a1)] := Steps.trans c101 (st102 _ (Steps.refl _))
  have c104 : SS p e below B0 T102 m 9 #[.val (.ref a1)] [(.long ((v.2.2.1) ^^^ (238 : Int64))), (.ref a1)] := Steps.trans c103 (by
      refine X102.ldc2J hx hown (mvT hZ (W hw 76)) rfl (own_d hby d5_5) ?_
      refine XS.lxor X102.here hx rfl (own_d hby d5_8) rfl ?_
      exact Steps.refl _)
  obtain ⟨T105, h105, X105, e105, W105, st105⟩ := putF X102 hx hZ hown (host := "") (Or.inl (W hw 80)) Via.refl e102 F2 E1 (Or.inl (W hw 81)) (W hw 66) (ty := .long) (by decide) rfl rfl (g := (mkF m 9 #[.val (.ref a1)] [(.long ((v.2.2.1) ^^^ (238 : Int64))), (.ref a1)])) rfl rfl (own_d hby d5_9)
  have N105 := Fr.snoc X105 N0 (by omega)
  have F105 : Fld Z h105 a1 "com/example/waban/waban/ItemHash$SipState" "v2" "J" (.long ((v.2.2.1) ^^^ (238 : Int64))) := F2.same W105
  have z105 : h105.size = h0.size := W105.size
  have K105 := (Keep.refl h0 [a1]).wr W105 (Or.inl (List.mem_of_getElem? (i := 0) rfl))
  have c106 : SS p e below B0 T105 m 12 #[.val (.ref a1)] [] := Steps.trans c104 (st105 _ (Steps.refl _))
  have c107 : SS p e below B0 T105 m 14 #[.val (.ref a1)] [(.int (4 : Int32)), (.ref a1)] := Steps.trans c106 (by
      refine XS.aloadN X105.here hx rfl (own_d hby d5_12) rfl rfl ?_
      refine XT.iconstV X105.here hx rfl (4 : Int32) (own_d hby d5_13) (by decide) ?_
      exact Steps.refl _)
  have Exa108 : Exa Z h105 a1 "com/example/waban/waban/ItemHash$SipState" := (E1.wr W105)
  have Fld109 : Fld Z h105 a1 "com/example/waban/waban/ItemHash$SipState" "v0" "J" (.long (v.1)) := (F0.other W105 (Or.inr (slot_ne (Or.inl (W hw 74)) (Or.inl (W hw 81)) (by decide) (t := .long) (t' := .long) (by decide) (by decide))))
  have Fld110 : Fld Z h105 a1 "com/example/waban/waban/ItemHash$SipState" "v1" "J" (.long (v.2.1)) := (F1.other W105 (Or.inr (slot_ne (Or.inl (W hw 78)) (Or.inl (W hw 81)) (by decide) (t := .long) (t' := .long) (by decide) (by decide))))
  have Fld111 : Fld Z h105 a1 "com/example/waban/waban/ItemHash$SipState" "v3" "J" (.long (v.2.2.2)) := (F3.other W105 (Or.inr (slot_ne (Or.inl (W hw 84)) (Or.inl (W hw 81)) (by decide) (t := .long) (t' := .long) (by decide) (by decide))))
  obtain ⟨cc112, hc112, ho112_⟩ := Exa108.cell
  obtain ⟨_, _, ⟨T112, Lp112, kp112, np112⟩, -, X112, ⟨Lc112, hQ112, lp112, yp112, zp112⟩, st112⟩ := X105.privateBack hx (y := (⟨"com/example/waban/waban/ItemHash$SipState", "rounds", "(I)V"⟩ : MethodName)) hown (mvT hZ (W hw 90)) (mvT hZ (W hw 91)) (own_selp hZ (W hw 66) (W hw 92) (W hw 91) (by decide)) (Cond.privateMethod_at (mvP hZ (W hw 92) (args := #[]))) (mvT hZ (W hw 93)) (by decide) (backOf (W := 0) (rmRd4 l Z a0 hw [] a1 (((v.1), (v.2.1), ((v.2.2.1) ^^^ (238 : Int64)), (v.2.2.2)) : V4) h105 n0 (by omega) Exa108 Fld109 Fld110 F105 Fld111 (by omega)) hZ (W hw 93) (W hw 67) (by decide) (by decide)) (g := (mkF m 14 #[.val (.ref a1)] [(.int (4 : Int32)), (.ref a1)])) rfl (by rw [hml]; rfl) c107 (a := a1) (by rw [e105]; exact hc112) ho112_ (argsL := [(.int (4 : Int32))]) (rest := []) (lenOf pd__I_V rfl) rfl (by show 2 * 0 + _ ≤ _; exact Nat.le_of_eq rfl) (own_d hby d5_14) (fun _ _ => ⟨rfl, e105, (by decide : 0 + 0 ≤ _), (by decide : 0 + 0 ≤ _)⟩)
  dsimp only [Pt.U, Pt.locs, Pt.cells, Pt.slots] at X112 lp112 yp112 zp112 st112 hQ112
  subst lp112 yp112 zp112
  obtain ⟨rfl, Nq112, Kq112, fa112, fb112, fc112, fd112⟩ := hQ112
  have N112 := Fr.app N105 Nq112
  obtain ⟨h112, e112⟩ : ∃ z, T112.heap = z := ⟨_, rfl⟩
  rw [e112] at Kq112 fa112 fb112 fc112 fd112
  have z112 : h105.size ≤ h112.size := Kq112.1
  have K112 := K105.trans Kq112 (allS (Or.inl (List.mem_of_getElem? (i := 0) rfl)) all0)
  have c113 : SS p e below B0 T112 m 17 #[.val (.ref a1)] [] := st112
  have c114 : SS p e below B0 T112 m 18 #[.val (.ref a1)] [(.ref a1)] := Steps.trans c113 (by
      refine XS.aloadN X112.here hx rfl (own_d hby d5_17) rfl rfl ?_
      exact Steps.refl _)
  obtain ⟨T115, X115, e115, st115⟩ := getF X112 hx hZ hown (host := "") (Or.inl (W hw 73)) Via.refl e112 fa112 (g := (mkF m 18 #[.val (.ref a1)] [(.ref a1)])) rfl rfl (own_d hby d5_18)
  have c116 : SS p e below B0 T115 m 21 #[.val (.ref a1)] [(.long ((rnd (rnd (rnd (rnd (((v.1), (v.2.1), ((v.2.2.1) ^^^ (238 : Int64)), (v.2.2.2)) : V4))))).1))] := Steps.trans c114 (st115 _ (Steps.refl _))
  have c117 : SS p e below B0 T115 m 22 #[.val (.ref a1)] [(.ref a1), (.long ((rnd (rnd (rnd (rnd (((v.1), (v.2.1), ((v.2.2.1) ^^^ (238 : Int64)), (v.2.2.2)) : V4))))).1))] := Steps.trans c116 (by
      refine XS.aloadN X115.here hx rfl (own_d hby d5_21) rfl rfl ?_
      exact Steps.refl _)
  obtain ⟨T118, X118, e118, st118⟩ := getF X115 hx hZ hown (host := "") (Or.inl (W hw 77)) Via.refl e115 fb112 (g := (mkF m 22 #[.val (.ref a1)] [(.ref a1), (.long ((rnd (rnd (rnd (rnd (((v.1), (v.2.1), ((v.2.2.1) ^^^ (238 : Int64)), (v.2.2.2)) : V4))))).1))])) rfl rfl (own_d hby d5_22)
  have c119 : SS p e below B0 T118 m 25 #[.val (.ref a1)] [(.long ((rnd (rnd (rnd (rnd (((v.1), (v.2.1), ((v.2.2.1) ^^^ (238 : Int64)), (v.2.2.2)) : V4))))).2.1)), (.long ((rnd (rnd (rnd (rnd (((v.1), (v.2.1), ((v.2.2.1) ^^^ (238 : Int64)), (v.2.2.2)) : V4))))).1))] := Steps.trans c117 (st118 _ (Steps.refl _))
  have c120 : SS p e below B0 T118 m 27 #[.val (.ref a1)] [(.ref a1), (.long (((rnd (rnd (rnd (rnd (((v.1), (v.2.1), ((v.2.2.1) ^^^ (238 : Int64)), (v.2.2.2)) : V4))))).1) ^^^ ((rnd (rnd (rnd (rnd (((v.1), (v.2.1), ((v.2.2.1) ^^^ (238 : Int64)), (v.2.2.2)) : V4))))).2.1)))] := Steps.trans c119 (by
      refine XS.lxor X118.here hx rfl (own_d hby d5_25) rfl ?_
      refine XS.aloadN X118.here hx rfl (own_d hby d5_26) rfl rfl ?_
      exact Steps.refl _)
  obtain ⟨T121, X121, e121, st121⟩ := getF X118 hx hZ hown (host := "") (Or.inl (W hw 80)) Via.refl e118 fc112 (g := (mkF m 27 #[.val (.ref a1)] [(.ref a1), (.long (((rnd (rnd (rnd (rnd (((v.1), (v.2.1), ((v.2.2.1) ^^^ (238 : Int64)), (v.2.2.2)) : V4))))).1) ^^^ ((rnd (rnd (rnd (rnd (((v.1), (v.2.1), ((v.2.2.1) ^^^ (238 : Int64)), (v.2.2.2)) : V4))))).2.1)))])) rfl rfl (own_d hby d5_27)
  have c122 : SS p e below B0 T121 m 30 #[.val (.ref a1)] [(.long ((rnd (rnd (rnd (rnd (((v.1), (v.2.1), ((v.2.2.1) ^^^ (238 : Int64)), (v.2.2.2)) : V4))))).2.2.1)), (.long (((rnd (rnd (rnd (rnd (((v.1), (v.2.1), ((v.2.2.1) ^^^ (238 : Int64)), (v.2.2.2)) : V4))))).1) ^^^ ((rnd (rnd (rnd (rnd (((v.1), (v.2.1), ((v.2.2.1) ^^^ (238 : Int64)), (v.2.2.2)) : V4))))).2.1)))] := Steps.trans c120 (st121 _ (Steps.refl _))
  have c123 : SS p e below B0 T121 m 32 #[.val (.ref a1)] [(.ref a1), (.long ((((rnd (rnd (rnd (rnd (((v.1), (v.2.1), ((v.2.2.1) ^^^ (238 : Int64)), (v.2.2.2)) : V4))))).1) ^^^ ((rnd (rnd (rnd (rnd (((v.1), (v.2.1), ((v.2.2.1) ^^^ (238 : Int64)), (v.2.2.2)) : V4))))).2.1)) ^^^ ((rnd (rnd (rnd (rnd (((v.1), (v.2.1), ((v.2.2.1) ^^^ (238 : Int64)), (v.2.2.2)) : V4))))).2.2.1)))] := Steps.trans c122 (by
      refine XS.lxor X121.here hx rfl (own_d hby d5_30) rfl ?_
      refine XS.aloadN X121.here hx rfl (own_d hby d5_31) rfl rfl ?_
      exact Steps.refl _)
  obtain ⟨T124, X124, e124, st124⟩ := getF X121 hx hZ hown (host := "") (Or.inl (W hw 83)) Via.refl e121 fd112 (g := (mkF m 32 #[.val (.ref a1)] [(.ref a1), (.long ((((rnd (rnd (rnd (rnd (((v.1), (v.2.1), ((v.2.2.1) ^^^ (238 : Int64)), (v.2.2.2)) : V4))))).1) ^^^ ((rnd (rnd (rnd (rnd (((v.1), (v.2.1), ((v.2.2.1) ^^^ (238 : Int64)), (v.2.2.2)) : V4))))).2.1)) ^^^ ((rnd (rnd (rnd (rnd (((v.1), (v.2.1), ((v.2.2.1) ^^^ (238 : Int64)), (v.2.2.2)) : V4))))).2.2.1)))])) rfl rfl (own_d hby d5_32)
  have c125 : SS p e below B0 T124 m 35 #[.val (.ref a1)] [(.long ((rnd (rnd (rnd (rnd (((v.1), (v.2.1), ((v.2.2.1) ^^^ (238 : Int64)), (v.2.2.2)) : V4))))).2.2.2)), (.long ((((rnd (rnd (rnd (rnd (((v.1), (v.2.1), ((v.2.2.1) ^^^ (238 : Int64)), (v.2.2.2)) : V4))))).1) ^^^ ((rnd (rnd (rnd (rnd (((v.1), (v.2.1), ((v.2.2.1) ^^^ (238 : Int64)), (v.2.2.2)) : V4))))).2.1)) ^^^ ((rnd (rnd (rnd (rnd (((v.1), (v.2.1), ((v.2.2.1) ^^^ (238 : Int64)), (v.2.2.2)) : V4))))).2.2.1)))] := Steps.trans c123 (st124 _ (Steps.refl _))
  have c126 : SS p e below B0 T124 m 36 #[.val (.ref a1)] [(.long (((((rnd (rnd (rnd (rnd (((v.1), (v.2.1), ((v.2.2.1) ^^^ (238 : Int64)), (v.2.2.2)) : V4))))).1) ^^^ ((rnd (rnd (rnd (rnd (((v.1), (v.2.1), ((v.2.2.1) ^^^ (238 : Int64)), (v.2.2.2)) : V4))))).2.1)) ^^^ ((rnd (rnd (rnd (rnd (((v.1), (v.2.1), ((v.2.2.1) ^^^ (238 : Int64)), (v.2.2.2)) : V4))))).2.2.1)) ^^^ ((rnd (rnd (rnd (rnd (((v.1), (v.2.1), ((v.2.2.1) ^^^ (238 : Int64)), (v.2.2.2)) : V4))))).2.2.2)))] := Steps.trans c125 (by
      refine XS.lxor X124.here hx rfl (own_d hby d5_35) rfl ?_
      exact Steps.refl _)
  obtain ⟨fs, hr, hrun, hended, hW, hsame⟩ := X124.leave (v := some (.long (((((rnd (rnd (rnd (rnd (((v.1), (v.2.1), ((v.2.2.1) ^^^ (238 : Int64)), (v.2.2.2)) : V4))))).1) ^^^ ((rnd (rnd (rnd (rnd (((v.1), (v.2.1), ((v.2.2.1) ^^^ (238 : Int64)), (v.2.2.2)) : V4))))).2.1)) ^^^ ((rnd (rnd (rnd (rnd (((v.1), (v.2.1), ((v.2.2.1) ^^^ (238 : Int64)), (v.2.2.2)) : V4))))).2.2.1)) ^^^ ((rnd (rnd (rnd (rnd (((v.1), (v.2.1), ((v.2.2.1) ^^^ (238 : Int64)), (v.2.2.2)) : V4))))).2.2.2)))) (fun h => by rw [Bd.returns] at h; cases h)
  subst hB0
  refine ⟨_, _, Steps.trans c126 ?_, hrun, hended, _, _, rfl, ?_, ⟨_, rfl⟩, hW, hsame.mono (by decide) (by decide)⟩
  · exact X124.lreturnOut hx Bd.returns (own_d hby d5_36) hr
  · show QfinL Z a1 v h0 n0 _ T124.heap _
    rw [e124]
    exact ⟨rfl, N112, K112, fa112, fb112, fc112, fd112⟩
def QfinH (Z : State) (a1 : Addr) (v : V4) (h0 : Heap) (n0 : Nat) (r : Option Value) (h : Heap) (L : List Loc) : Prop := r = some (.long (finH_r v)) ∧ Fr n0 L ∧ Keep h0 h [a1] ∧ Fld Z h a1 "com/example/waban/waban/ItemHash$SipState" "v0" "J" (.long (finH_s v).1) ∧ Fld Z h a1 "com/example/waban/waban/ItemHash$SipState" "v1" "J" (.long (finH_s v).2.1) ∧ Fld Z h a1 "com/example/waban/waban/ItemHash$SipState" "v2" "J" (.long (finH_s v).2.2.1) ∧ Fld Z h a1 "com/example/waban/waban/ItemHash$SipState" "v3" "J" (.long (finH_s v).2.2.2)
set_option maxRecDepth 65536 in
set_option maxHeartbeats 40000000 in
theorem rmfinH (l : Launch) (Z : State) (a0 : Array Value) (hw : ∀ d ∈ tables_1, d.before a0 Z = true) (ws : List Jvm.Cond) (a1 : Addr) (v : V4) (h0 : Heap) (n0 : Nat) (Z0 : n0 ≤ h0.size) (E1 : Exa Z h0 a1 "com/example/waban/waban/ItemHash$SipState") (F0 : Fld Z h0 a1 "com/example/waban/waban/ItemHash$SipState" "v0" "J" (.long v.1)) (F1 : Fld Z h0 a1 "com/example/waban/waban/ItemHash$SipState" "v1" "J" (.long v.2.1)) (F2 : Fld Z h0 a1 "com/example/waban/waban/ItemHash$SipState" "v2" "J" (.long v.2.2.1)) (F3 : Fld Z h0 a1 "com/example/waban/waban/ItemHash$SipState" "v3" "J" (.long v.2.2.2)) (g1 : n0 ≤ a1) :
    MetFree l (⟨"com/example/waban/waban/ItemHash$SipState", "finishHigh", "()J"⟩ : MethodName) (head1 (Jvm.Cond.code (⟨"com/example/waban/waban/ItemHash$SipState", "finishHigh", "()J"⟩ : MethodName) prog_13_method_6_code 1 (some .long) :: ws) ({ frames := 2, cells := 0, slots := 0, locals := 29 } : Room)) (fun a U => a = #[(.ref a1)] ∧ Z.Warmed39 U.vm ∧ U.heap = h0) (fun _ _ _ _ _ => True) (fun _ U o U' => ∃ vR LR, o = .returned vR ∧ QfinH Z a1 v h0 n0 vR U'.heap LR ∧ FrameEnd U o U' LR ({ frames := 2, cells := 0, slots := 0, locals := 29 } : Room).cells ({ frames := 2, cells := 0, slots := 0, locals := 29 } : Room).slots) := by
  refine MetFree.of_bodySF (plainFor_of_name pn_com_example_waban_waban_ItemHash_SipState) hisR ?_
  intro p e s m args below meth c s₁ Bd hml0 hP hK
  obtain ⟨rfl, hZ, hh⟩ := hP
  have hx := Bd.exec
  have hby := Bd.bytes
  have hml : c.maxLocals = 1 := hml0
  have hown : s.vm.findClass "com/example/waban/waban/ItemHash$SipState" = some m.cls := findClass_of_methodNamed Bd.named
  have hnm := (name_of_methodNamed Bd.named Bd.method).1
  have X0 : Stand p l e ({ frames := 2, cells := 0, slots := 0, locals := 29 } : Room) s m #[(.ref a1)] below meth c s₁ [] 0 0 := Stand.of_body Bd
  have e0 : s₁.heap = h0 := by rw [← hh, Bd.state]; rfl
  have N0 := Fr.nil n0
  obtain ⟨B0, c0, hB0⟩ : ∃ B0, Steps p.tables e below B0 (s₁.setTop (mkF m 0 #[.val (.ref a1)] [])) ∧ B0 = s₁.setTop (entryFrame m #[(.ref a1)] 1) := ⟨_, castTop (ef_R_1 m a1) (Steps.refl _), rfl⟩
  have lt_a1 : (@LT.lt Nat _ a1 h0.size) := E1.lt
  have c101 : SS p e below B0 s₁ m 2 #[.val (.ref a1)] [(.ref a1), (.ref a1)] := Steps.trans c0 (by
      refine XS.aloadN X0.here hx rfl (own_d hby d6_0) rfl rfl ?_
      refine XS.dup X0.here hx rfl (own_d hby d6_1) rfl rfl ?_
      exact Steps.refl _)
  obtain ⟨T102, X102, e102, st102⟩ := getF X0 hx hZ hown (host := "") (Or.inl (W hw 77)) Via.refl e0 F1 (g := (mkF m 2 #[.val (.ref a1)] [(.ref a1), (.ref a1)])) rfl rfl (own_d hby d6_2)
  have c103 : SS p e below B0 T102 m 5 #[.val (.ref a1)] [(.long (v.2.1)), (.ref a1)] := Steps.trans c101 (st102 _ (Steps.refl _))
  have c104 : SS p e below B0 T102 m 9 #[.val (.ref a1)] [(.long ((v.2.1) ^^^ (221 : Int64))), (.ref a1)] := Steps.trans c103 (by
      refine X102.ldc2J hx hown (mvT hZ (W hw 119)) rfl (own_d hby d6_5) ?_
      refine XS.lxor X102.here hx rfl (own_d hby d6_8) rfl ?_
      exact Steps.refl _)
  obtain ⟨T105, h105, X105, e105, W105, st105⟩ := putF X102 hx hZ hown (host := "") (Or.inl (W hw 77)) Via.refl e102 F1 E1 (Or.inl (W hw 78)) (W hw 66) (ty := .long) (by decide) rfl rfl (g := (mkF m 9 #[.val (.ref a1)] [(.long ((v.2.1) ^^^ (221 : Int64))), (.ref a1)])) rfl rfl (own_d hby d6_9)
  have N105 := Fr.snoc X105 N0 (by omega)
  have F105 : Fld Z h105 a1 "com/example/waban/waban/ItemHash$SipState" "v1" "J" (.long ((v.2.1) ^^^ (221 : Int64))) := F1.same W105
  have z105 : h105.size = h0.size := W105.size
  have K105 := (Keep.refl h0 [a1]).wr W105 (Or.inl (List.mem_of_getElem? (i := 0) rfl))
  have c106 : SS p e below B0 T105 m 12 #[.val (.ref a1)] [] := Steps.trans c104 (st105 _ (Steps.refl _))
  have c107 : SS p e below B0 T105 m 14 #[.val (.ref a1)] [(.int (4 : Int32)), (.ref a1)] := Steps.trans c106 (by
      refine XS.aloadN X105.here hx rfl (own_d hby d6_12) rfl rfl ?_
      refine XT.iconstV X105.here hx rfl (4 : Int32) (own_d hby d6_13) (by decide) ?_
      exact Steps.refl _)
  have Exa108 : Exa Z h105 a1 "com/example/waban/waban/ItemHash$SipState" := (E1.wr W105)
  have Fld109 : Fld Z h105 a1 "com/example/waban/waban/ItemHash$SipState" "v0" "J" (.long (v.1)) := (F0.other W105 (Or.inr (slot_ne (Or.inl (W hw 74)) (Or.inl (W hw 78)) (by decide) (t := .long) (t' := .long) (by decide) (by decide))))
  have Fld110 : Fld Z h105 a1 "com/example/waban/waban/ItemHash$SipState" "v2" "J" (.long (v.2.2.1)) := (F2.other W105 (Or.inr (slot_ne (Or.inl (W hw 81)) (Or.inl (W hw 78)) (by decide) (t := .long) (t' := .long) (by decide) (by decide))))
  have Fld111 : Fld Z h105 a1 "com/example/waban/waban/ItemHash$SipState" "v3" "J" (.long (v.2.2.2)) := (F3.other W105 (Or.inr (slot_ne (Or.inl (W hw 84)) (Or.inl (W hw 78)) (by decide) (t := .long) (t' := .long) (by decide) (by decide))))
  obtain ⟨cc112, hc112, ho112_⟩ := Exa108.cell
  obtain ⟨_, _, ⟨T112, Lp112, kp112, np112⟩, -, X112, ⟨Lc112, hQ112, lp112, yp112, zp112⟩, st112⟩ := X105.privateBack hx (y := (⟨"com/example/waban/waban/ItemHash$SipState", "rounds", "(I)V"⟩ : MethodName)) hown (mvT hZ (W hw 90)) (mvT hZ (W hw 91)) (own_selp hZ (W hw 66) (W hw 92) (W hw 91) (by decide)) (Cond.privateMethod_at (mvP hZ (W hw 92) (args := #[]))) (mvT hZ (W hw 93)) (by decide) (backOf (W := 0) (rmRd4 l Z a0 hw [] a1 (((v.1), ((v.2.1) ^^^ (221 : Int64)), (v.2.2.1), (v.2.2.2)) : V4) h105 n0 (by omega) Exa108 Fld109 F105 Fld110 Fld111 (by omega)) hZ (W hw 93) (W hw 67) (by decide) (by decide)) (g := (mkF m 14 #[.val (.ref a1)] [(.int (4 : Int32)), (.ref a1)])) rfl (by rw [hml]; rfl) c107 (a := a1) (by rw [e105]; exact hc112) ho112_ (argsL := [(.int (4 : Int32))]) (rest := []) (lenOf pd__I_V rfl) rfl (by show 2 * 0 + _ ≤ _; exact Nat.le_of_eq rfl) (own_d hby d6_14) (fun _ _ => ⟨rfl, e105, (by decide : 0 + 0 ≤ _), (by decide : 0 + 0 ≤ _)⟩)
  dsimp only [Pt.U, Pt.locs, Pt.cells, Pt.slots] at X112 lp112 yp112 zp112 st112 hQ112
  subst lp112 yp112 zp112
  obtain ⟨rfl, Nq112, Kq112, fa112, fb112, fc112, fd112⟩ := hQ112
  have N112 := Fr.app N105 Nq112
  obtain ⟨h112, e112⟩ : ∃ z, T112.heap = z := ⟨_, rfl⟩
  rw [e112] at Kq112 fa112 fb112 fc112 fd112
  have z112 : h105.size ≤ h112.size := Kq112.1
  have K112 := K105.trans Kq112 (allS (Or.inl (List.mem_of_getElem? (i := 0) rfl)) all0)
  have c113 : SS p e below B0 T112 m 17 #[.val (.ref a1)] [] := st112
  have c114 : SS p e below B0 T112 m 18 #[.val (.ref a1)] [(.ref a1)] := Steps.trans c113 (by
      refine XS.aloadN X112.here hx rfl (own_d hby d6_17) rfl rfl ?_
      exact Steps.refl _)
  obtain ⟨T115, X115, e115, st115⟩ := getF X112 hx hZ hown (host := "") (Or.inl (W hw 73)) Via.refl e112 fa112 (g := (mkF m 18 #[.val (.ref a1)] [(.ref a1)])) rfl rfl (own_d hby d6_18)
  have c116 : SS p e below B0 T115 m 21 #[.val (.ref a1)] [(.long ((rnd (rnd (rnd (rnd (((v.1), ((v.2.1) ^^^ (221 : Int64)), (v.2.2.1), (v.2.2.2)) : V4))))).1))] := Steps.trans c114 (st115 _ (Steps.refl _))
  have c117 : SS p e below B0 T115 m 22 #[.val (.ref a1)] [(.ref a1), (.long ((rnd (rnd (rnd (rnd (((v.1), ((v.2.1) ^^^ (221 : Int64)), (v.2.2.1), (v.2.2.2)) : V4))))).1))] := Steps.trans c116 (by
      refine XS.aloadN X115.here hx rfl (own_d hby d6_21) rfl rfl ?_
      exact Steps.refl _)
  obtain ⟨T118, X118, e118, st118⟩ := getF X115 hx hZ hown (host := "") (Or.inl (W hw 77)) Via.refl e115 fb112 (g := (mkF m 22 #[.val (.ref a1)] [(.ref a1), (.long ((rnd (rnd (rnd (rnd (((v.1), ((v.2.1) ^^^ (221 : Int64)), (v.2.2.1), (v.2.2.2)) : V4))))).1))])) rfl rfl (own_d hby d6_22)
  have c119 : SS p e below B0 T118 m 25 #[.val (.ref a1)] [(.long ((rnd (rnd (rnd (rnd (((v.1), ((v.2.1) ^^^ (221 : Int64)), (v.2.2.1), (v.2.2.2)) : V4))))).2.1)), (.long ((rnd (rnd (rnd (rnd (((v.1), ((v.2.1) ^^^ (221 : Int64)), (v.2.2.1), (v.2.2.2)) : V4))))).1))] := Steps.trans c117 (st118 _ (Steps.refl _))
  have c120 : SS p e below B0 T118 m 27 #[.val (.ref a1)] [(.ref a1), (.long (((rnd (rnd (rnd (rnd (((v.1), ((v.2.1) ^^^ (221 : Int64)), (v.2.2.1), (v.2.2.2)) : V4))))).1) ^^^ ((rnd (rnd (rnd (rnd (((v.1), ((v.2.1) ^^^ (221 : Int64)), (v.2.2.1), (v.2.2.2)) : V4))))).2.1)))] := Steps.trans c119 (by
      refine XS.lxor X118.here hx rfl (own_d hby d6_25) rfl ?_
      refine XS.aloadN X118.here hx rfl (own_d hby d6_26) rfl rfl ?_
      exact Steps.refl _)
  obtain ⟨T121, X121, e121, st121⟩ := getF X118 hx hZ hown (host := "") (Or.inl (W hw 80)) Via.refl e118 fc112 (g := (mkF m 27 #[.val (.ref a1)] [(.ref a1), (.long (((rnd (rnd (rnd (rnd (((v.1), ((v.2.1) ^^^ (221 : Int64)), (v.2.2.1), (v.2.2.2)) : V4))))).1) ^^^ ((rnd (rnd (rnd (rnd (((v.1), ((v.2.1) ^^^ (221 : Int64)), (v.2.2.1), (v.2.2.2)) : V4))))).2.1)))])) rfl rfl (own_d hby d6_27)
  have c122 : SS p e below B0 T121 m 30 #[.val (.ref a1)] [(.long ((rnd (rnd (rnd (rnd (((v.1), ((v.2.1) ^^^ (221 : Int64)), (v.2.2.1), (v.2.2.2)) : V4))))).2.2.1)), (.long (((rnd (rnd (rnd (rnd (((v.1), ((v.2.1) ^^^ (221 : Int64)), (v.2.2.1), (v.2.2.2)) : V4))))).1) ^^^ ((rnd (rnd (rnd (rnd (((v.1), ((v.2.1) ^^^ (221 : Int64)), (v.2.2.1), (v.2.2.2)) : V4))))).2.1)))] := Steps.trans c120 (st121 _ (Steps.refl _))
  have c123 : SS p e below B0 T121 m 32 #[.val (.ref a1)] [(.ref a1), (.long ((((rnd (rnd (rnd (rnd (((v.1), ((v.2.1) ^^^ (221 : Int64)), (v.2.2.1), (v.2.2.2)) : V4))))).1) ^^^ ((rnd (rnd (rnd (rnd (((v.1), ((v.2.1) ^^^ (221 : Int64)), (v.2.2.1), (v.2.2.2)) : V4))))).2.1)) ^^^ ((rnd (rnd (rnd (rnd (((v.1), ((v.2.1) ^^^ (221 : Int64)), (v.2.2.1), (v.2.2.2)) : V4))))).2.2.1)))] := Steps.trans c122 (by
      refine XS.lxor X121.here hx rfl (own_d hby d6_30) rfl ?_
      refine XS.aloadN X121.here hx rfl (own_d hby d6_31) rfl rfl ?_
      exact Steps.refl _)
  obtain ⟨T124, X124, e124, st124⟩ := getF X121 hx hZ hown (host := "") (Or.inl (W hw 83)) Via.refl e121 fd112 (g := (mkF m 32 #[.val (.ref a1)] [(.ref a1), (.long ((((rnd (rnd (rnd (rnd (((v.1), ((v.2.1) ^^^ (221 : Int64)), (v.2.2.1), (v.2.2.2)) : V4))))).1) ^^^ ((rnd (rnd (rnd (rnd (((v.1), ((v.2.1) ^^^ (221 : Int64)), (v.2.2.1), (v.2.2.2)) : V4))))).2.1)) ^^^ ((rnd (rnd (rnd (rnd (((v.1), ((v.2.1) ^^^ (221 : Int64)), (v.2.2.1), (v.2.2.2)) : V4))))).2.2.1)))])) rfl rfl (own_d hby d6_32)
  have c125 : SS p e below B0 T124 m 35 #[.val (.ref a1)] [(.long ((rnd (rnd (rnd (rnd (((v.1), ((v.2.1) ^^^ (221 : Int64)), (v.2.2.1), (v.2.2.2)) : V4))))).2.2.2)), (.long ((((rnd (rnd (rnd (rnd (((v.1), ((v.2.1) ^^^ (221 : Int64)), (v.2.2.1), (v.2.2.2)) : V4))))).1) ^^^ ((rnd (rnd (rnd (rnd (((v.1), ((v.2.1) ^^^ (221 : Int64)), (v.2.2.1), (v.2.2.2)) : V4))))).2.1)) ^^^ ((rnd (rnd (rnd (rnd (((v.1), ((v.2.1) ^^^ (221 : Int64)), (v.2.2.1), (v.2.2.2)) : V4))))).2.2.1)))] := Steps.trans c123 (st124 _ (Steps.refl _))
  have c126 : SS p e below B0 T124 m 36 #[.val (.ref a1)] [(.long (((((rnd (rnd (rnd (rnd (((v.1), ((v.2.1) ^^^ (221 : Int64)), (v.2.2.1), (v.2.2.2)) : V4))))).1) ^^^ ((rnd (rnd (rnd (rnd (((v.1), ((v.2.1) ^^^ (221 : Int64)), (v.2.2.1), (v.2.2.2)) : V4))))).2.1)) ^^^ ((rnd (rnd (rnd (rnd (((v.1), ((v.2.1) ^^^ (221 : Int64)), (v.2.2.1), (v.2.2.2)) : V4))))).2.2.1)) ^^^ ((rnd (rnd (rnd (rnd (((v.1), ((v.2.1) ^^^ (221 : Int64)), (v.2.2.1), (v.2.2.2)) : V4))))).2.2.2)))] := Steps.trans c125 (by
      refine XS.lxor X124.here hx rfl (own_d hby d6_35) rfl ?_
      exact Steps.refl _)
  obtain ⟨fs, hr, hrun, hended, hW, hsame⟩ := X124.leave (v := some (.long (((((rnd (rnd (rnd (rnd (((v.1), ((v.2.1) ^^^ (221 : Int64)), (v.2.2.1), (v.2.2.2)) : V4))))).1) ^^^ ((rnd (rnd (rnd (rnd (((v.1), ((v.2.1) ^^^ (221 : Int64)), (v.2.2.1), (v.2.2.2)) : V4))))).2.1)) ^^^ ((rnd (rnd (rnd (rnd (((v.1), ((v.2.1) ^^^ (221 : Int64)), (v.2.2.1), (v.2.2.2)) : V4))))).2.2.1)) ^^^ ((rnd (rnd (rnd (rnd (((v.1), ((v.2.1) ^^^ (221 : Int64)), (v.2.2.1), (v.2.2.2)) : V4))))).2.2.2)))) (fun h => by rw [Bd.returns] at h; cases h)
  subst hB0
  refine ⟨_, _, Steps.trans c126 ?_, hrun, hended, _, _, rfl, ?_, ⟨_, rfl⟩, hW, hsame.mono (by decide) (by decide)⟩
  · exact X124.lreturnOut hx Bd.returns (own_d hby d6_36) hr
  · show QfinH Z a1 v h0 n0 _ T124.heap _
    rw [e124]
    exact ⟨rfl, N112, K112, fa112, fb112, fc112, fd112⟩
def QH (Z : State) (a1 : Addr) (q1 q2 : Int64) (h0 : Heap) (n0 : Nat) (r : Option Value) (h : Heap) (L : List Loc) : Prop := r = none ∧ Fr n0 L ∧ Keep h0 h [a1] ∧ Fld Z h a1 "com/example/waban/waban/Hash128" "low" "J" (.long q1) ∧ Fld Z h a1 "com/example/waban/waban/Hash128" "high" "J" (.long q2)
set_option maxRecDepth 65536 in
set_option maxHeartbeats 40000000 in
theorem rmH (l : Launch) (Z : State) (a0 : Array Value) (hw : ∀ d ∈ tables_1, d.before a0 Z = true) (ws : List Jvm.Cond) (a1 : Addr) (q1 q2 : Int64) (u0 u1 : Value) (h0 : Heap) (n0 : Nat) (Z0 : n0 ≤ h0.size) (E1 : Exa Z h0 a1 "com/example/waban/waban/Hash128") (F0 : Fld Z h0 a1 "com/example/waban/waban/Hash128" "low" "J" u0) (F1 : Fld Z h0 a1 "com/example/waban/waban/Hash128" "high" "J" u1) (g1 : n0 ≤ a1) :
    MetFree l (⟨"com/example/waban/waban/Hash128", "<init>", "(JJ)V"⟩ : MethodName) (head1 (Jvm.Cond.code (⟨"com/example/waban/waban/Hash128", "<init>", "(JJ)V"⟩ : MethodName) prog_10_method_1_code 5 none :: ws) ({ frames := 2, cells := 0, slots := 0, locals := 24 } : Room)) (fun a U => a = #[(.ref a1), (.long q1), (.long q2)] ∧ Z.Warmed39 U.vm ∧ U.heap = h0) (fun _ _ _ _ _ => True) (fun _ U o U' => ∃ vR LR, o = .returned vR ∧ QH Z a1 q1 q2 h0 n0 vR U'.heap LR ∧ FrameEnd U o U' LR ({ frames := 2, cells := 0, slots := 0, locals := 24 } : Room).cells ({ frames := 2, cells := 0, slots := 0, locals := 24 } : Room).slots) := by
  refine MetFree.of_bodySF (plainFor_of_name pn_com_example_waban_waban_Hash128) hisR ?_
  intro p e s m args below meth c s₁ Bd hml0 hP hK
  obtain ⟨rfl, hZ, hh⟩ := hP
  have hx := Bd.exec
  have hby := Bd.bytes
  have hml : c.maxLocals = 5 := hml0
  have hown : s.vm.findClass "com/example/waban/waban/Hash128" = some m.cls := findClass_of_methodNamed Bd.named
  have hnm := (name_of_methodNamed Bd.named Bd.method).1
  have X0 : Stand p l e ({ frames := 2, cells := 0, slots := 0, locals := 24 } : Room) s m #[(.ref a1), (.long q1), (.long q2)] below meth c s₁ [] 0 0 := Stand.of_body Bd
  have e0 : s₁.heap = h0 := by rw [← hh, Bd.state]; rfl
  have N0 := Fr.nil n0
  obtain ⟨B0, c0, hB0⟩ : ∃ B0, Steps p.tables e below B0 (s₁.setTop (mkF m 0 #[.val (.ref a1), .val (.long q1), .second, .val (.long q2), .second] [])) ∧ B0 = s₁.setTop (entryFrame m #[(.ref a1), (.long q1), (.long q2)] 5) := ⟨_, castTop (ef_RJJ_5 m a1 q1 q2) (Steps.refl _), rfl⟩
  have lt_a1 : (@LT.lt Nat _ a1 h0.size) := E1.lt
  have c101 : SS p e below B0 s₁ m 1 #[.val (.ref a1), .val (.long q1), .second, .val (.long q2), .second] [(.ref a1)] := Steps.trans c0 (by
      refine XS.aloadN X0.here hx rfl (own_d hby d7_0) rfl rfl ?_
      exact Steps.refl _)
  obtain ⟨_, _, ⟨T102, Lp102, kp102, np102⟩, -, X102, ⟨Lc102, hQ102, lp102, yp102, zp102⟩, st102⟩ := X0.specialBack hx (y := (⟨"java/lang/Record", "<init>", "()V"⟩ : MethodName)) rfl hown (mvT hZ (W hw 123)) (mvT hZ (W hw 124)) (mvT hZ (W hw 127)) (by decide) (backOf (W := 0) (rmR l Z a0 hw [] a1 h0 n0 Z0) hZ (W hw 127) (W hw 126) (by decide) (by decide)) (g := (mkF m 1 #[.val (.ref a1), .val (.long q1), .second, .val (.long q2), .second] [(.ref a1)])) rfl (by rw [hml]; rfl) c101 (a := a1) (argsL := []) (rest := []) (lenOf pd___V rfl) rfl (by show 2 * 0 + _ ≤ _; exact Nat.le_of_eq rfl) (own_d hby d7_1) (fun _ _ => ⟨rfl, e0, (by decide : 0 + 0 ≤ _), (by decide : 0 + 0 ≤ _)⟩)
  dsimp only [Pt.U, Pt.locs, Pt.cells, Pt.slots] at X102 lp102 yp102 zp102 st102 hQ102
  subst lp102 yp102 zp102
  obtain ⟨rfl, Nq102, eq102⟩ := hQ102
  have N102 := Fr.app N0 Nq102
  have c103 : SS p e below B0 T102 m 4 #[.val (.ref a1), .val (.long q1), .second, .val (.long q2), .second] [] := st102
  have c104 : SS p e below B0 T102 m 6 #[.val (.ref a1), .val (.long q1), .second, .val (.long q2), .second] [(.long q1), (.ref a1)] := Steps.trans c103 (by
      refine XS.aloadN X102.here hx rfl (own_d hby d7_4) rfl rfl ?_
      refine XS.lloadN X102.here hx rfl (own_d hby d7_5) rfl ?_
      exact Steps.refl _)
  obtain ⟨T105, h105, X105, e105, W105, st105⟩ := putF X102 hx hZ hown (host := "") (Or.inl (W hw 129)) Via.refl eq102 F0 E1 (Or.inr ⟨(W hw 130), rfl, hnm⟩) (W hw 107) (ty := .long) (by decide) rfl rfl (g := (mkF m 6 #[.val (.ref a1), .val (.long q1), .second, .val (.long q2), .second] [(.long q1), (.ref a1)])) rfl rfl (own_d hby d7_6)
  have N105 := Fr.snoc X105 N102 (by omega)
  have F105 : Fld Z h105 a1 "com/example/waban/waban/Hash128" "low" "J" (.long q1) := F0.same W105
  have z105 : h105.size = h0.size := W105.size
  have K105 := (Keep.refl h0 [a1]).wr W105 (Or.inl (List.mem_of_getElem? (i := 0) rfl))
  have c106 : SS p e below B0 T105 m 9 #[.val (.ref a1), .val (.long q1), .second, .val (.long q2), .second] [] := Steps.trans c104 (st105 _ (Steps.refl _))
  have c107 : SS p e below B0 T105 m 11 #[.val (.ref a1), .val (.long q1), .second, .val (.long q2), .second] [(.long q2), (.ref a1)] := Steps.trans c106 (by
      refine XS.aloadN X105.here hx rfl (own_d hby d7_9) rfl rfl ?_
      refine XS.lloadN X105.here hx rfl (own_d hby d7_10) rfl ?_
      exact Steps.refl _)
  have Fld109 : Fld Z h105 a1 "com/example/waban/waban/Hash128" "high" "J" u1 := (F1.other W105 (Or.inr (slot_ne (Or.inr (W hw 132)) (Or.inr (W hw 130)) (by decide) (t := .long) (t' := .long) (by decide) (by decide))))
  have Exa110 : Exa Z h105 a1 "com/example/waban/waban/Hash128" := (E1.wr W105)
  obtain ⟨T108, h108, X108, e108, W108, st108⟩ := putF X105 hx hZ hown (host := "") (Or.inl (W hw 131)) Via.refl e105 Fld109 Exa110 (Or.inr ⟨(W hw 132), rfl, hnm⟩) (W hw 107) (ty := .long) (by decide) rfl rfl (g := (mkF m 11 #[.val (.ref a1), .val (.long q1), .second, .val (.long q2), .second] [(.long q2), (.ref a1)])) rfl rfl (own_d hby d7_11)
  have N108 := Fr.snoc X108 N105 (by omega)
  have F108 : Fld Z h108 a1 "com/example/waban/waban/Hash128" "high" "J" (.long q2) := Fld109.same W108
  have z108 : h108.size = h105.size := W108.size
  have K108 := K105.wr W108 (Or.inl (List.mem_of_getElem? (i := 0) rfl))
  have c111 : SS p e below B0 T108 m 14 #[.val (.ref a1), .val (.long q1), .second, .val (.long q2), .second] [] := Steps.trans c107 (st108 _ (Steps.refl _))
  have Fld112 : Fld Z h108 a1 "com/example/waban/waban/Hash128" "low" "J" (.long q1) := (F105.other W108 (Or.inr (slot_ne (Or.inr (W hw 130)) (Or.inr (W hw 132)) (by decide) (t := .long) (t' := .long) (by decide) (by decide))))
  obtain ⟨fs, hr, hrun, hended, hW, hsame⟩ := X108.leave (v := none) (fun _ => rfl)
  subst hB0
  refine ⟨_, _, Steps.trans c111 ?_, hrun, hended, _, _, rfl, ?_, ⟨_, rfl⟩, hW, hsame.mono (by decide) (by decide)⟩
  · exact X108.returnOut hx Bd.returns (own_d hby d7_14) hr
  · show QH Z a1 q1 q2 h0 n0 _ T108.heap _
    rw [e108]
    exact ⟨rfl, N108, K108, Fld112, F108⟩
def QF (Z : State) (a1 : Addr) (v : V4) (h0 : Heap) (n0 : Nat) (r : Option Value) (h : Heap) (L : List Loc) : Prop := ∃ b : Addr, r = some (.ref b) ∧ Fr n0 L ∧ Keep h0 h [a1] ∧ (@Eq Nat b h0.size) ∧ Exa Z h b "com/example/waban/waban/Hash128" ∧ Fld Z h b "com/example/waban/waban/Hash128" "low" "J" (.long (finL_r v)) ∧ Fld Z h b "com/example/waban/waban/Hash128" "high" "J" (.long (finH_r (finL_s v)))
set_option maxRecDepth 65536 in
set_option maxHeartbeats 40000000 in
theorem rmF (l : Launch) (Z : State) (a0 : Array Value) (hw : ∀ d ∈ tables_1, d.before a0 Z = true) (ws : List Jvm.Cond) (a1 : Addr) (v : V4) (h0 : Heap) (n0 : Nat) (Z0 : n0 ≤ h0.size) (E1 : Exa Z h0 a1 "com/example/waban/waban/ItemHash$SipState") (F0 : Fld Z h0 a1 "com/example/waban/waban/ItemHash$SipState" "v0" "J" (.long v.1)) (F1 : Fld Z h0 a1 "com/example/waban/waban/ItemHash$SipState" "v1" "J" (.long v.2.1)) (F2 : Fld Z h0 a1 "com/example/waban/waban/ItemHash$SipState" "v2" "J" (.long v.2.2.1)) (F3 : Fld Z h0 a1 "com/example/waban/waban/ItemHash$SipState" "v3" "J" (.long v.2.2.2)) (g1 : n0 ≤ a1) :
    MetFree l (⟨"com/example/waban/waban/ItemHash$SipState", "finish", "()Lcom/example/waban/waban/Hash128;"⟩ : MethodName) (head1 (Jvm.Cond.code (⟨"com/example/waban/waban/ItemHash$SipState", "finish", "()Lcom/example/waban/waban/Hash128;"⟩ : MethodName) prog_13_method_4_code 1 (some (.object "com/example/waban/waban/Hash128")) :: ws) ({ frames := 3, cells := 1, slots := 2, locals := 45 } : Room)) (fun a U => a = #[(.ref a1)] ∧ Z.Warmed39 U.vm ∧ U.heap = h0) (fun _ _ _ _ _ => True) (fun _ U o U' => ∃ vR LR, o = .returned vR ∧ QF Z a1 v h0 n0 vR U'.heap LR ∧ FrameEnd U o U' LR ({ frames := 3, cells := 1, slots := 2, locals := 45 } : Room).cells ({ frames := 3, cells := 1, slots := 2, locals := 45 } : Room).slots) := by
  refine MetFree.of_bodySF (plainFor_of_name pn_com_example_waban_waban_ItemHash_SipState) hisR ?_
  intro p e s m args below meth c s₁ Bd hml0 hP hK
  obtain ⟨rfl, hZ, hh⟩ := hP
  have hx := Bd.exec
  have hby := Bd.bytes
  have hml : c.maxLocals = 1 := hml0
  have hown : s.vm.findClass "com/example/waban/waban/ItemHash$SipState" = some m.cls := findClass_of_methodNamed Bd.named
  have hnm := (name_of_methodNamed Bd.named Bd.method).1
  have X0 : Stand p l e ({ frames := 3, cells := 1, slots := 2, locals := 45 } : Room) s m #[(.ref a1)] below meth c s₁ [] 0 0 := Stand.of_body Bd
  have e0 : s₁.heap = h0 := by rw [← hh, Bd.state]; rfl
  have N0 := Fr.nil n0
  obtain ⟨B0, c0, hB0⟩ : ∃ B0, Steps p.tables e below B0 (s₁.setTop (mkF m 0 #[.val (.ref a1)] [])) ∧ B0 = s₁.setTop (entryFrame m #[(.ref a1)] 1) := ⟨_, castTop (ef_R_1 m a1) (Steps.refl _), rfl⟩
  have lt_a1 : (@LT.lt Nat _ a1 h0.size) := E1.lt
  obtain ⟨T101, h101, X101, e101, E101, A101, D101, -, st101⟩ := newO X0 hx hZ hown (W hw 106) (W hw 107) (W hw 108) e0 (g := (mkF m 0 #[.val (.ref a1)] [])) rfl (own_d hby d8_0) (by decide) (by decide)
  obtain ⟨b1, g101⟩ : ∃ z, z = h0.size := ⟨_, rfl⟩
  rw [← g101] at A101 D101 st101
  have z101 : h0.size ≤ h101.size := E101.1
  have l101 : (@LT.lt Nat _ b1 h101.size) := A101.lt
  have K101 := (Keep.refl h0 [a1]).ext E101
  have c102 : SS p e below B0 T101 m 3 #[.val (.ref a1)] [(.ref b1)] := Steps.trans c0 (st101 _ (Steps.refl _))
  have c103 : SS p e below B0 T101 m 5 #[.val (.ref a1)] [(.ref a1), (.ref b1), (.ref b1)] := Steps.trans c102 (by
      refine XS.dup X101.here hx rfl (own_d hby d8_3) rfl rfl ?_
      refine XS.aloadN X101.here hx rfl (own_d hby d8_4) rfl rfl ?_
      exact Steps.refl _)
  have Exa104 : Exa Z h101 a1 "com/example/waban/waban/ItemHash$SipState" := (E1.ext E101)
  have Fld105 : Fld Z h101 a1 "com/example/waban/waban/ItemHash$SipState" "v0" "J" (.long (v.1)) := (F0.ext E101)
  have Fld106 : Fld Z h101 a1 "com/example/waban/waban/ItemHash$SipState" "v1" "J" (.long (v.2.1)) := (F1.ext E101)
  have Fld107 : Fld Z h101 a1 "com/example/waban/waban/ItemHash$SipState" "v2" "J" (.long (v.2.2.1)) := (F2.ext E101)
  have Fld108 : Fld Z h101 a1 "com/example/waban/waban/ItemHash$SipState" "v3" "J" (.long (v.2.2.2)) := (F3.ext E101)
  obtain ⟨cq109, kq109, qa109, qb109, qc109⟩ := isOf hZ e101 Exa104
  obtain ⟨_, _, ⟨T109, Lp109, kp109, np109⟩, -, X109, ⟨Lc109, hQ109, lp109, yp109, zp109⟩, st109⟩ := X101.virtualBack hx (y := (⟨"com/example/waban/waban/ItemHash$SipState", "finishLow", "()J"⟩ : MethodName)) (z := (⟨"com/example/waban/waban/ItemHash$SipState", "finishLow", "()J"⟩ : MethodName)) hown (mvT hZ (W hw 109)) (mvT hZ (W hw 110)) (notFace_of_selects (args := #[]) (mvT hZ (W hw 112))) (mvT hZ (W hw 112)) (mvT hZ (W hw 111)) (by decide) (backOf (W := 2) (rmfinL l Z a0 hw [] a1 v h101 n0 (by omega) Exa104 Fld105 Fld106 Fld107 Fld108 (by omega)) hZ (W hw 113) (W hw 67) (by decide) (by decide)) qa109 qc109 (g := (mkF m 5 #[.val (.ref a1)] [(.ref a1), (.ref b1), (.ref b1)])) rfl (by rw [hml]; rfl) c103 (argsL := []) (rest := [(.ref b1), (.ref b1)]) (lenOf pd___J rfl) rfl (by show 2 * 0 + _ ≤ _; exact Nat.le_of_eq rfl) (own_d hby d8_5) (fun _ _ => ⟨rfl, e101, (by decide : 1 + 0 ≤ _), (by decide : 2 + 0 ≤ _)⟩)
  dsimp only [Pt.U, Pt.locs, Pt.cells, Pt.slots] at X109 lp109 yp109 zp109 st109 hQ109
  subst lp109 yp109 zp109
  obtain ⟨rfl, Nq109, Kq109, fa109, fb109, fc109, fd109⟩ := hQ109
  have N109 := Fr.app N0 Nq109
  obtain ⟨h109, e109⟩ : ∃ z, T109.heap = z := ⟨_, rfl⟩
  rw [e109] at Kq109 fa109 fb109 fc109 fd109
  have z109 : h101.size ≤ h109.size := Kq109.1
  have K109 := K101.trans Kq109 (allS (Or.inl (List.mem_of_getElem? (i := 0) rfl)) all0)
  have c110 : SS p e below B0 T109 m 8 #[.val (.ref a1)] [(.long (finL_r v)), (.ref b1), (.ref b1)] := st109
  have c111 : SS p e below B0 T109 m 9 #[.val (.ref a1)] [(.ref a1), (.long (finL_r v)), (.ref b1), (.ref b1)] := Steps.trans c110 (by
      refine XS.aloadN X109.here hx rfl (own_d hby d8_8) rfl rfl ?_
      exact Steps.refl _)
  have Exa112 : Exa Z h109 a1 "com/example/waban/waban/ItemHash$SipState" := (Exa104.keep Kq109)
  obtain ⟨cq113, kq113, qa113, qb113, qc113⟩ := isOf hZ e109 Exa112
  obtain ⟨_, _, ⟨T113, Lp113, kp113, np113⟩, -, X113, ⟨Lc113, hQ113, lp113, yp113, zp113⟩, st113⟩ := X109.virtualBack hx (y := (⟨"com/example/waban/waban/ItemHash$SipState", "finishHigh", "()J"⟩ : MethodName)) (z := (⟨"com/example/waban/waban/ItemHash$SipState", "finishHigh", "()J"⟩ : MethodName)) hown (mvT hZ (W hw 114)) (mvT hZ (W hw 115)) (notFace_of_selects (args := #[]) (mvT hZ (W hw 117))) (mvT hZ (W hw 117)) (mvT hZ (W hw 116)) (by decide) (backOf (W := 4) (rmfinH l Z a0 hw [] a1 (finL_s v) h109 n0 (by omega) Exa112 fa109 fb109 fc109 fd109 (by omega)) hZ (W hw 118) (W hw 67) (by decide) (by decide)) qa113 qc113 (g := (mkF m 9 #[.val (.ref a1)] [(.ref a1), (.long (finL_r v)), (.ref b1), (.ref b1)])) rfl (by rw [hml]; rfl) c111 (argsL := []) (rest := [(.long (finL_r v)), (.ref b1), (.ref b1)]) (lenOf pd___J rfl) rfl (by show 2 * 0 + _ ≤ _; exact Nat.le_of_eq rfl) (own_d hby d8_9) (fun _ _ => ⟨rfl, e109, (by decide : 1 + 0 ≤ _), (by decide : 2 + 0 ≤ _)⟩)
  dsimp only [Pt.U, Pt.locs, Pt.cells, Pt.slots] at X113 lp113 yp113 zp113 st113 hQ113
  subst lp113 yp113 zp113
  obtain ⟨rfl, Nq113, Kq113, fa113, fb113, fc113, fd113⟩ := hQ113
  have N113 := Fr.app N109 Nq113
  obtain ⟨h113, e113⟩ : ∃ z, T113.heap = z := ⟨_, rfl⟩
  rw [e113] at Kq113 fa113 fb113 fc113 fd113
  have z113 : h109.size ≤ h113.size := Kq113.1
  have K113 := K109.trans Kq113 (allS (Or.inl (List.mem_of_getElem? (i := 0) rfl)) all0)
  have c114 : SS p e below B0 T113 m 12 #[.val (.ref a1)] [(.long (finH_r (finL_s v))), (.long (finL_r v)), (.ref b1), (.ref b1)] := st113
  have Exa115 : Exa Z h113 b1 "com/example/waban/waban/Hash128" := ((A101.keep Kq109).keep Kq113)
  have Fld116 : Fld Z h113 b1 "com/example/waban/waban/Hash128" "low" "J" (.long (0 : Int64)) := (((D101 (O := "com/example/waban/waban/Hash128") (nm := "low") (d := "J") (Or.inr (W hw 130)) (ty := .long) (by decide)).keep Kq109 (ninS (own_ne (by omega)) nin0)).keep Kq113 (ninS (own_ne (by omega)) nin0))
  have Fld117 : Fld Z h113 b1 "com/example/waban/waban/Hash128" "high" "J" (.long (0 : Int64)) := (((D101 (O := "com/example/waban/waban/Hash128") (nm := "high") (d := "J") (Or.inr (W hw 132)) (ty := .long) (by decide)).keep Kq109 (ninS (own_ne (by omega)) nin0)).keep Kq113 (ninS (own_ne (by omega)) nin0))
  obtain ⟨_, _, ⟨T118, Lp118, kp118, np118⟩, -, X118, ⟨Lc118, hQ118, lp118, yp118, zp118⟩, st118⟩ := X113.specialBack hx (y := (⟨"com/example/waban/waban/Hash128", "<init>", "(JJ)V"⟩ : MethodName)) rfl hown (mvT hZ (W hw 120)) (mvT hZ (W hw 121)) (mvT hZ (W hw 122)) (by decide) (backOf (W := 1) (rmH l Z a0 hw [] b1 (finL_r v) (finH_r (finL_s v)) _ _ h113 n0 (by omega) Exa115 Fld116 Fld117 (by omega)) hZ (W hw 122) (W hw 108) (by decide) (by decide)) (g := (mkF m 12 #[.val (.ref a1)] [(.long (finH_r (finL_s v))), (.long (finL_r v)), (.ref b1), (.ref b1)])) rfl (by rw [hml]; rfl) c114 (a := b1) (argsL := [(.long (finL_r v)), (.long (finH_r (finL_s v)))]) (rest := [(.ref b1)]) (lenOf pd__JJ_V rfl) rfl (by show 2 * 0 + _ ≤ _; exact Nat.le_of_eq rfl) (own_d hby d8_12) (fun _ _ => ⟨rfl, e113, (by decide : 1 + 0 ≤ _), (by decide : 2 + 0 ≤ _)⟩)
  dsimp only [Pt.U, Pt.locs, Pt.cells, Pt.slots] at X118 lp118 yp118 zp118 st118 hQ118
  subst lp118 yp118 zp118
  obtain ⟨rfl, Nq118, Kq118, fl118, fh118⟩ := hQ118
  have N118 := Fr.app N113 Nq118
  obtain ⟨h118, e118⟩ : ∃ z, T118.heap = z := ⟨_, rfl⟩
  rw [e118] at Kq118 fl118 fh118
  have z118 : h113.size ≤ h118.size := Kq118.1
  have K118 := K113.trans Kq118 (allS (Or.inr (by omega)) all0)
  have c119 : SS p e below B0 T118 m 15 #[.val (.ref a1)] [(.ref b1)] := st118
  have Exa120 : Exa Z h118 b1 "com/example/waban/waban/Hash128" := (Exa115.keep Kq118)
  obtain ⟨fs, hr, hrun, hended, hW, hsame⟩ := X118.leave (v := some (.ref b1)) (fun h => by rw [Bd.returns] at h; cases h)
  subst hB0
  refine ⟨_, _, Steps.trans c119 ?_, hrun, hended, _, _, rfl, ?_, ⟨_, rfl⟩, hW, hsame.mono (by decide) (by decide)⟩
  · exact retR X118 hx Bd.returns rfl rfl rfl (own_d hby d8_15) hr
  · show QF Z a1 v h0 n0 _ T118.heap _
    rw [e118]
    exact ⟨b1, rfl, N118, K118, (by omega), Exa120, fl118, fh118⟩
def QLw (p1 : Int32) (q1 : Int64) (h0 : Heap) (n0 : Nat) (v : Option Value) (h : Heap) (L : List Loc) : Prop := v = some (.long (lastw p1 q1)) ∧ Fr n0 L ∧ h = h0
set_option maxRecDepth 65536 in
set_option maxHeartbeats 40000000 in
theorem rmLw (l : Launch) (Z : State) (a0 : Array Value) (hw : ∀ d ∈ tables_1, d.before a0 Z = true) (ws : List Jvm.Cond) (p1 : Int32) (q1 : Int64) (h0 : Heap) (n0 : Nat) (Z0 : n0 ≤ h0.size)  :
    MetFree l (⟨"com/example/waban/waban/ItemHash", "lastWord", "(IJ)J"⟩ : MethodName) (head1 (Jvm.Cond.code (⟨"com/example/waban/waban/ItemHash", "lastWord", "(IJ)J"⟩ : MethodName) prog_11_method_14_code 3 (some .long) :: ws) ({ frames := 0, cells := 0, slots := 0, locals := 0 } : Room)) (fun a U => a = #[(.int p1), (.long q1)] ∧ Z.Warmed39 U.vm ∧ U.heap = h0) (fun _ _ _ _ _ => True) (fun _ U o U' => ∃ vR LR, o = .returned vR ∧ QLw p1 q1 h0 n0 vR U'.heap LR ∧ FrameEnd U o U' LR ({ frames := 0, cells := 0, slots := 0, locals := 0 } : Room).cells ({ frames := 0, cells := 0, slots := 0, locals := 0 } : Room).slots) := by
  refine MetFree.of_bodySF (plainFor_of_name pn_com_example_waban_waban_ItemHash) hisR ?_
  intro p e s m args below meth c s₁ Bd hml0 hP hK
  obtain ⟨rfl, hZ, hh⟩ := hP
  have hx := Bd.exec
  have hby := Bd.bytes
  have hml : c.maxLocals = 3 := hml0
  have hown : s.vm.findClass "com/example/waban/waban/ItemHash" = some m.cls := findClass_of_methodNamed Bd.named
  have hnm := (name_of_methodNamed Bd.named Bd.method).1
  have X0 : Stand p l e ({ frames := 0, cells := 0, slots := 0, locals := 0 } : Room) s m #[(.int p1), (.long q1)] below meth c s₁ [] 0 0 := Stand.of_body Bd
  have e0 : s₁.heap = h0 := by rw [← hh, Bd.state]; rfl
  have N0 := Fr.nil n0
  obtain ⟨B0, c0, hB0⟩ : ∃ B0, Steps p.tables e below B0 (s₁.setTop (mkF m 0 #[.val (.int p1), .val (.long q1), .second] [])) ∧ B0 = s₁.setTop (entryFrame m #[(.int p1), (.long q1)] 3) := ⟨_, castTop (ef_IJ_3 m p1 q1) (Steps.refl _), rfl⟩
  have c101 : SS p e below B0 s₁ m 7 #[.val (.int p1), .val (.long q1), .second] [(.long (((p1.toInt64) <<< ((56 : Int32) &&& 0x3f).toInt64) ||| q1))] := Steps.trans c0 (by
      refine XS.iloadN X0.here hx rfl (own_d hby d9_0) rfl ?_
      refine XS.i2l X0.here hx rfl (own_d hby d9_1) rfl ?_
      refine XT.bipushV X0.here hx rfl (56 : Int32) (own_d hby d9_2) (by decide) ?_
      refine XS.lshl X0.here hx rfl (own_d hby d9_4) rfl ?_
      refine XS.lloadN X0.here hx rfl (own_d hby d9_5) rfl ?_
      refine XS.lor X0.here hx rfl (own_d hby d9_6) rfl ?_
      exact Steps.refl _)
  obtain ⟨fs, hr, hrun, hended, hW, hsame⟩ := X0.leave (v := some (.long (((p1.toInt64) <<< ((56 : Int32) &&& 0x3f).toInt64) ||| q1))) (fun h => by rw [Bd.returns] at h; cases h)
  subst hB0
  refine ⟨_, _, Steps.trans c101 ?_, hrun, hended, _, _, rfl, ?_, ⟨_, rfl⟩, hW, hsame.mono (by decide) (by decide)⟩
  · exact X0.lreturnOut hx Bd.returns (own_d hby d9_7) hr
  · show QLw p1 q1 h0 n0 _ s₁.heap _
    rw [e0]
    exact ⟨rfl, N0, rfl⟩
def QHa (Z : State) (sd it : Int64) (h0 : Heap) (n0 : Nat) (r : Option Value) (h : Heap) (L : List Loc) : Prop := ∃ b : Addr, r = some (.ref b) ∧ Fr n0 L ∧ Keep h0 h [] ∧ h0.size ≤ b ∧ Exa Z h b "com/example/waban/waban/Hash128" ∧ Fld Z h b "com/example/waban/waban/Hash128" "low" "J" (.long (finL_r (hst sd it))) ∧ Fld Z h b "com/example/waban/waban/Hash128" "high" "J" (.long (finH_r (finL_s (hst sd it))))
set_option maxRecDepth 65536 in
set_option maxHeartbeats 40000000 in
theorem rmHa (l : Launch) (Z : State) (a0 : Array Value) (hw : ∀ d ∈ tables_1, d.before a0 Z = true) (ws : List Jvm.Cond) (a1 : Addr) (it sd : Int64) (h0 : Heap) (n0 : Nat) (Z0 : n0 ≤ h0.size) (E1 : Exa Z h0 a1 "com/example/waban/waban/ItemHash") (Fs : Fld Z h0 a1 "com/example/waban/waban/ItemHash" "seed" "J" (.long sd)) :
    MetFree l (⟨"com/example/waban/waban/ItemHash", "hash", "(J)Lcom/example/waban/waban/Hash128;"⟩ : MethodName) (head1 (Jvm.Cond.code (⟨"com/example/waban/waban/ItemHash", "hash", "(J)Lcom/example/waban/waban/Hash128;"⟩ : MethodName) prog_11_method_5_code 4 (some (.object "com/example/waban/waban/Hash128")) :: ws) ({ frames := 4, cells := 2, slots := 6, locals := 57 } : Room)) (fun a U => a = #[(.ref a1), (.long it)] ∧ Z.Warmed39 U.vm ∧ U.heap = h0) (fun _ _ _ _ _ => True) (fun _ U o U' => ∃ vR LR, o = .returned vR ∧ QHa Z sd it h0 n0 vR U'.heap LR ∧ FrameEnd U o U' LR ({ frames := 4, cells := 2, slots := 6, locals := 57 } : Room).cells ({ frames := 4, cells := 2, slots := 6, locals := 57 } : Room).slots) := by
  refine MetFree.of_bodySF (plainFor_of_name pn_com_example_waban_waban_ItemHash) hisR ?_
  intro p e s m args below meth c s₁ Bd hml0 hP hK
  obtain ⟨rfl, hZ, hh⟩ := hP
  have hx := Bd.exec
  have hby := Bd.bytes
  have hml : c.maxLocals = 4 := hml0
  have hown : s.vm.findClass "com/example/waban/waban/ItemHash" = some m.cls := findClass_of_methodNamed Bd.named
  have hnm := (name_of_methodNamed Bd.named Bd.method).1
  have X0 : Stand p l e ({ frames := 4, cells := 2, slots := 6, locals := 57 } : Room) s m #[(.ref a1), (.long it)] below meth c s₁ [] 0 0 := Stand.of_body Bd
  have e0 : s₁.heap = h0 := by rw [← hh, Bd.state]; rfl
  have N0 := Fr.nil n0
  obtain ⟨B0, c0, hB0⟩ : ∃ B0, Steps p.tables e below B0 (s₁.setTop (mkF m 0 #[.val (.ref a1), .val (.long it), .second, .unset] [])) ∧ B0 = s₁.setTop (entryFrame m #[(.ref a1), (.long it)] 4) := ⟨_, castTop (ef_RJ_4 m a1 it) (Steps.refl _), rfl⟩
  have lt_a1 : (@LT.lt Nat _ a1 h0.size) := E1.lt
  obtain ⟨T101, h101, X101, e101, E101, A101, D101, -, st101⟩ := newO X0 hx hZ hown (W hw 65) (W hw 66) (W hw 67) e0 (g := (mkF m 0 #[.val (.ref a1), .val (.long it), .second, .unset] [])) rfl (own_d hby d10_0) (by decide) (by decide)
  obtain ⟨s1, g101⟩ : ∃ z, z = h0.size := ⟨_, rfl⟩
  rw [← g101] at A101 D101 st101
  have z101 : h0.size ≤ h101.size := E101.1
  have l101 : (@LT.lt Nat _ s1 h101.size) := A101.lt
  have K101 := (Keep.refl h0 []).ext E101
  have c102 : SS p e below B0 T101 m 3 #[.val (.ref a1), .val (.long it), .second, .unset] [(.ref s1)] := Steps.trans c0 (st101 _ (Steps.refl _))
  have c103 : SS p e below B0 T101 m 5 #[.val (.ref a1), .val (.long it), .second, .unset] [(.ref a1), (.ref s1), (.ref s1)] := Steps.trans c102 (by
      refine XS.dup X101.here hx rfl (own_d hby d10_3) rfl rfl ?_
      refine XS.aloadN X101.here hx rfl (own_d hby d10_4) rfl rfl ?_
      exact Steps.refl _)
  have Fld105 : Fld Z h101 a1 "com/example/waban/waban/ItemHash" "seed" "J" (.long sd) := (Fs.ext E101)
  obtain ⟨T104, X104, e104, st104⟩ := getF X101 hx hZ hown (host := "") (Or.inl (W hw 42)) Via.refl e101 Fld105 (g := (mkF m 5 #[.val (.ref a1), .val (.long it), .second, .unset] [(.ref a1), (.ref s1), (.ref s1)])) rfl rfl (own_d hby d10_5)
  have c106 : SS p e below B0 T104 m 8 #[.val (.ref a1), .val (.long it), .second, .unset] [(.long sd), (.ref s1), (.ref s1)] := Steps.trans c103 (st104 _ (Steps.refl _))
  have c107 : SS p e below B0 T104 m 9 #[.val (.ref a1), .val (.long it), .second, .unset] [(.ref a1), (.long sd), (.ref s1), (.ref s1)] := Steps.trans c106 (by
      refine XS.aloadN X104.here hx rfl (own_d hby d10_8) rfl rfl ?_
      exact Steps.refl _)
  obtain ⟨T108, X108, e108, st108⟩ := getF X104 hx hZ hown (host := "") (Or.inl (W hw 42)) Via.refl e104 Fld105 (g := (mkF m 9 #[.val (.ref a1), .val (.long it), .second, .unset] [(.ref a1), (.long sd), (.ref s1), (.ref s1)])) rfl rfl (own_d hby d10_9)
  have c109 : SS p e below B0 T108 m 12 #[.val (.ref a1), .val (.long it), .second, .unset] [(.long sd), (.long sd), (.ref s1), (.ref s1)] := Steps.trans c107 (st108 _ (Steps.refl _))
  obtain ⟨_, _, ⟨T110, Lp110, kp110, np110⟩, -, X110, ⟨Lc110, hQ110, lp110, yp110, zp110⟩, st110⟩ := X108.specialBack hx (y := (⟨"com/example/waban/waban/ItemHash$SipState", "<init>", "(JJ)V"⟩ : MethodName)) rfl hown (mvT hZ (W hw 68)) (mvT hZ (W hw 69)) (mvT hZ (W hw 70)) (by decide) (backOf (W := 1) (rmSi l Z a0 hw [] s1 sd sd _ _ _ _ h101 n0 (by omega) A101 (D101 (O := "com/example/waban/waban/ItemHash$SipState") (nm := "v0") (d := "J") (Or.inl (W hw 74)) (ty := .long) (by decide)) (D101 (O := "com/example/waban/waban/ItemHash$SipState") (nm := "v1") (d := "J") (Or.inl (W hw 78)) (ty := .long) (by decide)) (D101 (O := "com/example/waban/waban/ItemHash$SipState") (nm := "v2") (d := "J") (Or.inl (W hw 81)) (ty := .long) (by decide)) (D101 (O := "com/example/waban/waban/ItemHash$SipState") (nm := "v3") (d := "J") (Or.inl (W hw 84)) (ty := .long) (by decide)) (by omega)) hZ (W hw 70) (W hw 67) (by decide) (by decide)) (g := (mkF m 12 #[.val (.ref a1), .val (.long it), .second, .unset] [(.long sd), (.long sd), (.ref s1), (.ref s1)])) rfl (by rw [hml]; rfl) c109 (a := s1) (argsL := [(.long sd), (.long sd)]) (rest := [(.ref s1)]) (lenOf pd__JJ_V rfl) rfl (by show 2 * 0 + _ ≤ _; exact Nat.le_of_eq rfl) (own_d hby d10_12) (fun _ _ => ⟨rfl, e108, (by decide : 1 + 0 ≤ _), (by decide : 4 + 0 ≤ _)⟩)
  dsimp only [Pt.U, Pt.locs, Pt.cells, Pt.slots] at X110 lp110 yp110 zp110 st110 hQ110
  subst lp110 yp110 zp110
  obtain ⟨rfl, Nq110, Kq110, fa110, fb110, fc110, fd110⟩ := hQ110
  have N110 := Fr.app N0 Nq110
  obtain ⟨h110, e110⟩ : ∃ z, T110.heap = z := ⟨_, rfl⟩
  rw [e110] at Kq110 fa110 fb110 fc110 fd110
  have z110 : h101.size ≤ h110.size := Kq110.1
  have K110 := K101.trans Kq110 (allS (Or.inr (by omega)) all0)
  have c111 : SS p e below B0 T110 m 15 #[.val (.ref a1), .val (.long it), .second, .unset] [(.ref s1)] := st110
  have c112 : SS p e below B0 T110 m 18 #[.val (.ref a1), .val (.long it), .second, .val (.ref s1)] [(.long it), (.ref s1)] := Steps.trans c111 (by
      refine XS.astoreN X110.here hx rfl (own_d hby d10_15) rfl rfl (l' := #[.val (.ref a1), .val (.long it), .second, .val (.ref s1)]) rfl ?_
      refine XS.aloadN X110.here hx rfl (own_d hby d10_16) rfl rfl ?_
      refine XS.lloadN X110.here hx rfl (own_d hby d10_17) rfl ?_
      exact Steps.refl _)
  have Exa113 : Exa Z h110 s1 "com/example/waban/waban/ItemHash$SipState" := (A101.keep Kq110)
  obtain ⟨cq114, kq114, qa114, qb114, qc114⟩ := isOf hZ e110 Exa113
  obtain ⟨_, _, ⟨T114, Lp114, kp114, np114⟩, -, X114, ⟨Lc114, hQ114, lp114, yp114, zp114⟩, st114⟩ := X110.virtualBack hx (y := (⟨"com/example/waban/waban/ItemHash$SipState", "absorb", "(J)V"⟩ : MethodName)) (z := (⟨"com/example/waban/waban/ItemHash$SipState", "absorb", "(J)V"⟩ : MethodName)) hown (mvT hZ (W hw 85)) (mvT hZ (W hw 86)) (notFace_of_selects (args := #[]) (mvT hZ (W hw 88))) (mvT hZ (W hw 88)) (mvT hZ (W hw 87)) (by decide) (backOf (W := 0) (rmAb l Z a0 hw [] s1 it (sip0 sd sd) h110 n0 (by omega) Exa113 fa110 fb110 fc110 fd110 (by omega)) hZ (W hw 89) (W hw 67) (by decide) (by decide)) qa114 qc114 (g := (mkF m 18 #[.val (.ref a1), .val (.long it), .second, .val (.ref s1)] [(.long it), (.ref s1)])) rfl (by rw [hml]; rfl) c112 (argsL := [(.long it)]) (rest := []) (lenOf pd__J_V rfl) rfl (by show 2 * 0 + _ ≤ _; exact Nat.le_of_eq rfl) (own_d hby d10_18) (fun _ _ => ⟨rfl, e110, (by decide : 1 + 0 ≤ _), (by decide : 4 + 0 ≤ _)⟩)
  dsimp only [Pt.U, Pt.locs, Pt.cells, Pt.slots] at X114 lp114 yp114 zp114 st114 hQ114
  subst lp114 yp114 zp114
  obtain ⟨rfl, Nq114, Kq114, fa114, fb114, fc114, fd114⟩ := hQ114
  have N114 := Fr.app N110 Nq114
  obtain ⟨h114, e114⟩ : ∃ z, T114.heap = z := ⟨_, rfl⟩
  rw [e114] at Kq114 fa114 fb114 fc114 fd114
  have z114 : h110.size ≤ h114.size := Kq114.1
  have K114 := K110.trans Kq114 (allS (Or.inr (by omega)) all0)
  have c115 : SS p e below B0 T114 m 21 #[.val (.ref a1), .val (.long it), .second, .val (.ref s1)] [] := st114
  have c116 : SS p e below B0 T114 m 25 #[.val (.ref a1), .val (.long it), .second, .val (.ref s1)] [(.long (0 : Int64)), (.int (8 : Int32)), (.ref s1)] := Steps.trans c115 (by
      refine XS.aloadN X114.here hx rfl (own_d hby d10_21) rfl rfl ?_
      refine XT.bipushV X114.here hx rfl (8 : Int32) (own_d hby d10_22) (by decide) ?_
      refine XT.lconstV X114.here hx rfl (0 : Int64) (own_d hby d10_24) (by decide) ?_
      exact Steps.refl _)
  obtain ⟨_, _, ⟨T117, Lp117, kp117, np117⟩, -, X117, ⟨Lc117, hQ117, lp117, yp117, zp117⟩, st117⟩ := Jvm.LawKit.callS X114 hx (y := (⟨"com/example/waban/waban/ItemHash", "lastWord", "(IJ)J"⟩ : MethodName)) hown (mvT hZ (W hw 98)) (mvT hZ (W hw 99)) (mvT hZ (W hw 37)) (mvT hZ (W hw 100)) (by decide) (backOf (W := 1) (rmLw l Z a0 hw [] (8 : Int32) (0 : Int64) h114 n0 (by omega)) hZ (W hw 100) (W hw 37) (by decide) (by decide)) (g := (mkF m 25 #[.val (.ref a1), .val (.long it), .second, .val (.ref s1)] [(.long (0 : Int64)), (.int (8 : Int32)), (.ref s1)])) rfl (by rw [hml]; rfl) (argsL := [(.int (8 : Int32)), (.long (0 : Int64))]) (rest := [(.ref s1)]) (lenOf pd__IJ_J rfl) rfl (by show 2 * 0 + _ ≤ _; exact Nat.le_of_eq rfl) (own_d hby d10_25) (fun _ _ => ⟨rfl, e114, (by decide : 1 + 0 ≤ _), (by decide : 4 + 0 ≤ _)⟩)
  dsimp only [Pt.U, Pt.locs, Pt.cells, Pt.slots] at X117 lp117 yp117 zp117 st117 hQ117
  subst lp117 yp117 zp117
  obtain ⟨rfl, Nq117, eq117⟩ := hQ117
  have N117 := Fr.app N114 Nq117
  have c118 : SS p e below B0 T117 m 28 #[.val (.ref a1), .val (.long it), .second, .val (.ref s1)] [(.long (lastw (8 : Int32) (0 : Int64))), (.ref s1)] := Steps.trans c116 (st117 _ (Steps.refl _))
  have Exa119 : Exa Z h114 s1 "com/example/waban/waban/ItemHash$SipState" := (Exa113.keep Kq114)
  obtain ⟨cq120, kq120, qa120, qb120, qc120⟩ := isOf hZ eq117 Exa119
  obtain ⟨_, _, ⟨T120, Lp120, kp120, np120⟩, -, X120, ⟨Lc120, hQ120, lp120, yp120, zp120⟩, st120⟩ := X117.virtualBack hx (y := (⟨"com/example/waban/waban/ItemHash$SipState", "absorb", "(J)V"⟩ : MethodName)) (z := (⟨"com/example/waban/waban/ItemHash$SipState", "absorb", "(J)V"⟩ : MethodName)) hown (mvT hZ (W hw 85)) (mvT hZ (W hw 86)) (notFace_of_selects (args := #[]) (mvT hZ (W hw 88))) (mvT hZ (W hw 88)) (mvT hZ (W hw 87)) (by decide) (backOf (W := 0) (rmAb l Z a0 hw [] s1 (lastw (8 : Int32) (0 : Int64)) (absb it (sip0 sd sd)) h114 n0 (by omega) Exa119 fa114 fb114 fc114 fd114 (by omega)) hZ (W hw 89) (W hw 67) (by decide) (by decide)) qa120 qc120 (g := (mkF m 28 #[.val (.ref a1), .val (.long it), .second, .val (.ref s1)] [(.long (lastw (8 : Int32) (0 : Int64))), (.ref s1)])) rfl (by rw [hml]; rfl) c118 (argsL := [(.long (lastw (8 : Int32) (0 : Int64)))]) (rest := []) (lenOf pd__J_V rfl) rfl (by show 2 * 0 + _ ≤ _; exact Nat.le_of_eq rfl) (own_d hby d10_28) (fun _ _ => ⟨rfl, eq117, (by decide : 1 + 0 ≤ _), (by decide : 4 + 0 ≤ _)⟩)
  dsimp only [Pt.U, Pt.locs, Pt.cells, Pt.slots] at X120 lp120 yp120 zp120 st120 hQ120
  subst lp120 yp120 zp120
  obtain ⟨rfl, Nq120, Kq120, fa120, fb120, fc120, fd120⟩ := hQ120
  have N120 := Fr.app N117 Nq120
  obtain ⟨h120, e120⟩ : ∃ z, T120.heap = z := ⟨_, rfl⟩
  rw [e120] at Kq120 fa120 fb120 fc120 fd120
  have z120 : h114.size ≤ h120.size := Kq120.1
  have K120 := K114.trans Kq120 (allS (Or.inr (by omega)) all0)
  have c121 : SS p e below B0 T120 m 31 #[.val (.ref a1), .val (.long it), .second, .val (.ref s1)] [] := st120
  have c122 : SS p e below B0 T120 m 32 #[.val (.ref a1), .val (.long it), .second, .val (.ref s1)] [(.ref s1)] := Steps.trans c121 (by
      refine XS.aloadN X120.here hx rfl (own_d hby d10_31) rfl rfl ?_
      exact Steps.refl _)
  have Exa123 : Exa Z h120 s1 "com/example/waban/waban/ItemHash$SipState" := (Exa119.keep Kq120)
  obtain ⟨cq124, kq124, qa124, qb124, qc124⟩ := isOf hZ e120 Exa123
  obtain ⟨_, _, ⟨T124, Lp124, kp124, np124⟩, -, X124, ⟨Lc124, hQ124, lp124, yp124, zp124⟩, st124⟩ := X120.virtualBack hx (y := (⟨"com/example/waban/waban/ItemHash$SipState", "finish", "()Lcom/example/waban/waban/Hash128;"⟩ : MethodName)) (z := (⟨"com/example/waban/waban/ItemHash$SipState", "finish", "()Lcom/example/waban/waban/Hash128;"⟩ : MethodName)) hown (mvT hZ (W hw 101)) (mvT hZ (W hw 102)) (notFace_of_selects (args := #[]) (mvT hZ (W hw 104))) (mvT hZ (W hw 104)) (mvT hZ (W hw 103)) (by decide) (backOf (W := 0) (rmF l Z a0 hw [] s1 (hst sd it) h120 n0 (by omega) Exa123 fa120 fb120 fc120 fd120 (by omega)) hZ (W hw 105) (W hw 67) (by decide) (by decide)) qa124 qc124 (g := (mkF m 32 #[.val (.ref a1), .val (.long it), .second, .val (.ref s1)] [(.ref s1)])) rfl (by rw [hml]; rfl) c122 (argsL := []) (rest := []) (lenOf pd___Lcom_example_waban_waban_Hash128_ rfl) rfl (by show 2 * 0 + _ ≤ _; exact Nat.le_of_eq rfl) (own_d hby d10_32) (fun _ _ => ⟨rfl, e120, (by decide : 1 + 1 ≤ _), (by decide : 4 + 2 ≤ _)⟩)
  dsimp only [Pt.U, Pt.locs, Pt.cells, Pt.slots] at X124 lp124 yp124 zp124 st124 hQ124
  subst lp124 yp124 zp124
  obtain ⟨b1, rfl, Nq124, Kq124, gb124, eb124, fl124, fh124⟩ := hQ124
  have N124 := Fr.app N120 Nq124
  obtain ⟨h124, e124⟩ : ∃ z, T124.heap = z := ⟨_, rfl⟩
  rw [e124] at Kq124 eb124 fl124 fh124
  have z124 : h120.size ≤ h124.size := Kq124.1
  have K124 := K120.trans Kq124 (allS (Or.inr (by omega)) all0)
  have c125 : SS p e below B0 T124 m 35 #[.val (.ref a1), .val (.long it), .second, .val (.ref s1)] [(.ref b1)] := st124
  obtain ⟨fs, hr, hrun, hended, hW, hsame⟩ := X124.leave (v := some (.ref b1)) (fun h => by rw [Bd.returns] at h; cases h)
  subst hB0
  refine ⟨_, _, Steps.trans c125 ?_, hrun, hended, _, _, rfl, ?_, ⟨_, rfl⟩, hW, hsame.mono (by decide) (by decide)⟩
  · exact retR X124 hx Bd.returns rfl rfl rfl (own_d hby d10_35) hr
  · show QHa Z sd it h0 n0 _ T124.heap _
    rw [e124]
    exact ⟨b1, rfl, N124, K124, (by omega), eb124, fl124, fh124⟩
def Q_low (q1 : Int64) (h0 : Heap) (n0 : Nat) (v : Option Value) (h : Heap) (L : List Loc) : Prop := v = some (.long q1) ∧ Fr n0 L ∧ h = h0
set_option maxRecDepth 65536 in
set_option maxHeartbeats 40000000 in
theorem rm_low (l : Launch) (Z : State) (a0 : Array Value) (hw : ∀ d ∈ tables_1, d.before a0 Z = true) (ws : List Jvm.Cond) (a1 : Addr) (q1 : Int64) (h0 : Heap) (n0 : Nat) (Z0 : n0 ≤ h0.size) (F1 : Fld Z h0 a1 "com/example/waban/waban/Hash128" "low" "J" (.long q1)) :
    MetFree l (⟨"com/example/waban/waban/Hash128", "low", "()J"⟩ : MethodName) (head1 (Jvm.Cond.code (⟨"com/example/waban/waban/Hash128", "low", "()J"⟩ : MethodName) prog_10_method_5_code 1 (some .long) :: ws) ({ frames := 0, cells := 0, slots := 0, locals := 0 } : Room)) (fun a U => a = #[(.ref a1)] ∧ Z.Warmed39 U.vm ∧ U.heap = h0) (fun _ _ _ _ _ => True) (fun _ U o U' => ∃ vR LR, o = .returned vR ∧ Q_low q1 h0 n0 vR U'.heap LR ∧ FrameEnd U o U' LR ({ frames := 0, cells := 0, slots := 0, locals := 0 } : Room).cells ({ frames := 0, cells := 0, slots := 0, locals := 0 } : Room).slots) := by
  refine MetFree.of_bodySF (plainFor_of_name pn_com_example_waban_waban_Hash128) hisR ?_
  intro p e s m args below meth c s₁ Bd hml0 hP hK
  obtain ⟨rfl, hZ, hh⟩ := hP
  have hx := Bd.exec
  have hby := Bd.bytes
  have hml : c.maxLocals = 1 := hml0
  have hown : s.vm.findClass "com/example/waban/waban/Hash128" = some m.cls := findClass_of_methodNamed Bd.named
  have hnm := (name_of_methodNamed Bd.named Bd.method).1
  have X0 : Stand p l e ({ frames := 0, cells := 0, slots := 0, locals := 0 } : Room) s m #[(.ref a1)] below meth c s₁ [] 0 0 := Stand.of_body Bd
  have e0 : s₁.heap = h0 := by rw [← hh, Bd.state]; rfl
  have N0 := Fr.nil n0
  obtain ⟨B0, c0, hB0⟩ : ∃ B0, Steps p.tables e below B0 (s₁.setTop (mkF m 0 #[.val (.ref a1)] [])) ∧ B0 = s₁.setTop (entryFrame m #[(.ref a1)] 1) := ⟨_, castTop (ef_R_1 m a1) (Steps.refl _), rfl⟩
  have c101 : SS p e below B0 s₁ m 1 #[.val (.ref a1)] [(.ref a1)] := Steps.trans c0 (by
      refine XS.aloadN X0.here hx rfl (own_d hby d11_0) rfl rfl ?_
      exact Steps.refl _)
  obtain ⟨T102, X102, e102, st102⟩ := getF X0 hx hZ hown (host := "") (Or.inl (W hw 129)) Via.refl e0 F1 (g := (mkF m 1 #[.val (.ref a1)] [(.ref a1)])) rfl rfl (own_d hby d11_1)
  have c103 : SS p e below B0 T102 m 4 #[.val (.ref a1)] [(.long q1)] := Steps.trans c101 (st102 _ (Steps.refl _))
  obtain ⟨fs, hr, hrun, hended, hW, hsame⟩ := X102.leave (v := some (.long q1)) (fun h => by rw [Bd.returns] at h; cases h)
  subst hB0
  refine ⟨_, _, Steps.trans c103 ?_, hrun, hended, _, _, rfl, ?_, ⟨_, rfl⟩, hW, hsame.mono (by decide) (by decide)⟩
  · exact X102.lreturnOut hx Bd.returns (own_d hby d11_4) hr
  · show Q_low q1 h0 n0 _ T102.heap _
    rw [e102]
    exact ⟨rfl, N0, rfl⟩
def Q_high (q1 : Int64) (h0 : Heap) (n0 : Nat) (v : Option Value) (h : Heap) (L : List Loc) : Prop := v = some (.long q1) ∧ Fr n0 L ∧ h = h0
set_option maxRecDepth 65536 in
set_option maxHeartbeats 40000000 in
theorem rm_high (l : Launch) (Z : State) (a0 : Array Value) (hw : ∀ d ∈ tables_1, d.before a0 Z = true) (ws : List Jvm.Cond) (a1 : Addr) (q1 : Int64) (h0 : Heap) (n0 : Nat) (Z0 : n0 ≤ h0.size) (F1 : Fld Z h0 a1 "com/example/waban/waban/Hash128" "high" "J" (.long q1)) :
    MetFree l (⟨"com/example/waban/waban/Hash128", "high", "()J"⟩ : MethodName) (head1 (Jvm.Cond.code (⟨"com/example/waban/waban/Hash128", "high", "()J"⟩ : MethodName) prog_10_method_6_code 1 (some .long) :: ws) ({ frames := 0, cells := 0, slots := 0, locals := 0 } : Room)) (fun a U => a = #[(.ref a1)] ∧ Z.Warmed39 U.vm ∧ U.heap = h0) (fun _ _ _ _ _ => True) (fun _ U o U' => ∃ vR LR, o = .returned vR ∧ Q_high q1 h0 n0 vR U'.heap LR ∧ FrameEnd U o U' LR ({ frames := 0, cells := 0, slots := 0, locals := 0 } : Room).cells ({ frames := 0, cells := 0, slots := 0, locals := 0 } : Room).slots) := by
  refine MetFree.of_bodySF (plainFor_of_name pn_com_example_waban_waban_Hash128) hisR ?_
  intro p e s m args below meth c s₁ Bd hml0 hP hK
  obtain ⟨rfl, hZ, hh⟩ := hP
  have hx := Bd.exec
  have hby := Bd.bytes
  have hml : c.maxLocals = 1 := hml0
  have hown : s.vm.findClass "com/example/waban/waban/Hash128" = some m.cls := findClass_of_methodNamed Bd.named
  have hnm := (name_of_methodNamed Bd.named Bd.method).1
  have X0 : Stand p l e ({ frames := 0, cells := 0, slots := 0, locals := 0 } : Room) s m #[(.ref a1)] below meth c s₁ [] 0 0 := Stand.of_body Bd
  have e0 : s₁.heap = h0 := by rw [← hh, Bd.state]; rfl
  have N0 := Fr.nil n0
  obtain ⟨B0, c0, hB0⟩ : ∃ B0, Steps p.tables e below B0 (s₁.setTop (mkF m 0 #[.val (.ref a1)] [])) ∧ B0 = s₁.setTop (entryFrame m #[(.ref a1)] 1) := ⟨_, castTop (ef_R_1 m a1) (Steps.refl _), rfl⟩
  have c101 : SS p e below B0 s₁ m 1 #[.val (.ref a1)] [(.ref a1)] := Steps.trans c0 (by
      refine XS.aloadN X0.here hx rfl (own_d hby d12_0) rfl rfl ?_
      exact Steps.refl _)
  obtain ⟨T102, X102, e102, st102⟩ := getF X0 hx hZ hown (host := "") (Or.inl (W hw 131)) Via.refl e0 F1 (g := (mkF m 1 #[.val (.ref a1)] [(.ref a1)])) rfl rfl (own_d hby d12_1)
  have c103 : SS p e below B0 T102 m 4 #[.val (.ref a1)] [(.long q1)] := Steps.trans c101 (st102 _ (Steps.refl _))
  obtain ⟨fs, hr, hrun, hended, hW, hsame⟩ := X102.leave (v := some (.long q1)) (fun h => by rw [Bd.returns] at h; cases h)
  subst hB0
  refine ⟨_, _, Steps.trans c103 ?_, hrun, hended, _, _, rfl, ?_, ⟨_, rfl⟩, hW, hsame.mono (by decide) (by decide)⟩
  · exact X102.lreturnOut hx Bd.returns (own_d hby d12_4) hr
  · show Q_high q1 h0 n0 _ T102.heap _
    rw [e102]
    exact ⟨rfl, N0, rfl⟩
def QP (Z : State) (a1 : Addr) (q1 q2 : Int64) (h0 : Heap) (n0 : Nat) (r : Option Value) (h : Heap) (L : List Loc) : Prop := r = none ∧ Fr n0 L ∧ Keep h0 h [a1] ∧ Fld Z h a1 "com/example/waban/waban/ItemHash$Points" "sum" "J" (.long q1) ∧ Fld Z h a1 "com/example/waban/waban/ItemHash$Points" "step" "J" (.long (q2 ||| (1 : Int64)))
set_option maxRecDepth 65536 in
set_option maxHeartbeats 40000000 in
theorem rmP (l : Launch) (Z : State) (a0 : Array Value) (hw : ∀ d ∈ tables_1, d.before a0 Z = true) (ws : List Jvm.Cond) (a1 b1 : Addr) (q1 q2 : Int64) (u0 u1 : Value) (h0 : Heap) (n0 : Nat) (Z0 : n0 ≤ h0.size) (E1 : Exa Z h0 a1 "com/example/waban/waban/ItemHash$Points") (F0 : Fld Z h0 a1 "com/example/waban/waban/ItemHash$Points" "sum" "J" u0) (F1 : Fld Z h0 a1 "com/example/waban/waban/ItemHash$Points" "step" "J" u1) (Eb : Exa Z h0 b1 "com/example/waban/waban/Hash128") (Fl : Fld Z h0 b1 "com/example/waban/waban/Hash128" "low" "J" (.long q1)) (Fh : Fld Z h0 b1 "com/example/waban/waban/Hash128" "high" "J" (.long q2)) (g1 : n0 ≤ a1) (hne : (@Ne Nat a1 b1)) :
    MetFree l (⟨"com/example/waban/waban/ItemHash$Points", "<init>", "(Lcom/example/waban/waban/Hash128;)V"⟩ : MethodName) (head1 (Jvm.Cond.code (⟨"com/example/waban/waban/ItemHash$Points", "<init>", "(Lcom/example/waban/waban/Hash128;)V"⟩ : MethodName) prog_12_method_1_code 2 none :: ws) ({ frames := 1, cells := 0, slots := 0, locals := 13 } : Room)) (fun a U => a = #[(.ref a1), (.ref b1)] ∧ Z.Warmed39 U.vm ∧ U.heap = h0) (fun _ _ _ _ _ => True) (fun _ U o U' => ∃ vR LR, o = .returned vR ∧ QP Z a1 q1 q2 h0 n0 vR U'.heap LR ∧ FrameEnd U o U' LR ({ frames := 1, cells := 0, slots := 0, locals := 13 } : Room).cells ({ frames := 1, cells := 0, slots := 0, locals := 13 } : Room).slots) := by
  refine MetFree.of_bodySF (plainFor_of_name pn_com_example_waban_waban_ItemHash_Points) hisR ?_
  intro p e s m args below meth c s₁ Bd hml0 hP hK
  obtain ⟨rfl, hZ, hh⟩ := hP
  have hx := Bd.exec
  have hby := Bd.bytes
  have hml : c.maxLocals = 2 := hml0
  have hown : s.vm.findClass "com/example/waban/waban/ItemHash$Points" = some m.cls := findClass_of_methodNamed Bd.named
  have hnm := (name_of_methodNamed Bd.named Bd.method).1
  have X0 : Stand p l e ({ frames := 1, cells := 0, slots := 0, locals := 13 } : Room) s m #[(.ref a1), (.ref b1)] below meth c s₁ [] 0 0 := Stand.of_body Bd
  have e0 : s₁.heap = h0 := by rw [← hh, Bd.state]; rfl
  have N0 := Fr.nil n0
  obtain ⟨B0, c0, hB0⟩ : ∃ B0, Steps p.tables e below B0 (s₁.setTop (mkF m 0 #[.val (.ref a1), .val (.ref b1)] [])) ∧ B0 = s₁.setTop (entryFrame m #[(.ref a1), (.ref b1)] 2) := ⟨_, castTop (ef_RR_2 m a1 b1) (Steps.refl _), rfl⟩
  have lt_a1 : (@LT.lt Nat _ a1 h0.size) := E1.lt
  have lt_b1 : (@LT.lt Nat _ b1 h0.size) := Eb.lt
  have c101 : SS p e below B0 s₁ m 1 #[.val (.ref a1), .val (.ref b1)] [(.ref a1)] := Steps.trans c0 (by
      refine XS.aloadN X0.here hx rfl (own_d hby d13_0) rfl rfl ?_
      exact Steps.refl _)
  obtain ⟨T102, X102, e102, st102⟩ := initO X0 hx hZ hown (W hw 136) (W hw 8) (W hw 9) e0 (g := (mkF m 1 #[.val (.ref a1), .val (.ref b1)] [(.ref a1)])) rfl (by rw [hml]; rfl) rfl (own_d hby d13_1) (by decide) (W := 0) (by show 2 * 0 + _ ≤ _; exact Nat.le_of_eq rfl) (by decide)
  have c103 : SS p e below B0 T102 m 4 #[.val (.ref a1), .val (.ref b1)] [] := Steps.trans c101 (st102 _ (Steps.refl _))
  have c104 : SS p e below B0 T102 m 6 #[.val (.ref a1), .val (.ref b1)] [(.ref b1), (.ref a1)] := Steps.trans c103 (by
      refine XS.aloadN X102.here hx rfl (own_d hby d13_4) rfl rfl ?_
      refine XS.aloadN X102.here hx rfl (own_d hby d13_5) rfl rfl ?_
      exact Steps.refl _)
  obtain ⟨cq105, kq105, qa105, qb105, qc105⟩ := isOf hZ e102 Eb
  obtain ⟨_, _, ⟨T105, Lp105, kp105, np105⟩, -, X105, ⟨Lc105, hQ105, lp105, yp105, zp105⟩, st105⟩ := X102.virtualBack hx (y := (⟨"com/example/waban/waban/Hash128", "low", "()J"⟩ : MethodName)) (z := (⟨"com/example/waban/waban/Hash128", "low", "()J"⟩ : MethodName)) hown (mvT hZ (W hw 137)) (mvT hZ (W hw 138)) (notFace_of_selects (args := #[]) (mvT hZ (W hw 140))) (mvT hZ (W hw 140)) (mvT hZ (W hw 139)) (by decide) (backOf (W := 1) (rm_low l Z a0 hw [] b1 q1 h0 n0 (by omega) Fl) hZ (W hw 141) (W hw 108) (by decide) (by decide)) qa105 qc105 (g := (mkF m 6 #[.val (.ref a1), .val (.ref b1)] [(.ref b1), (.ref a1)])) rfl (by rw [hml]; rfl) c104 (argsL := []) (rest := [(.ref a1)]) (lenOf pd___J rfl) rfl (by show 2 * 0 + _ ≤ _; exact Nat.le_of_eq rfl) (own_d hby d13_6) (fun _ _ => ⟨rfl, e102, (by decide : 0 + 0 ≤ _), (by decide : 0 + 0 ≤ _)⟩)
  dsimp only [Pt.U, Pt.locs, Pt.cells, Pt.slots] at X105 lp105 yp105 zp105 st105 hQ105
  subst lp105 yp105 zp105
  obtain ⟨rfl, Nq105, eq105⟩ := hQ105
  have N105 := Fr.app N0 Nq105
  have c106 : SS p e below B0 T105 m 9 #[.val (.ref a1), .val (.ref b1)] [(.long q1), (.ref a1)] := st105
  obtain ⟨T107, h107, X107, e107, W107, st107⟩ := putF X105 hx hZ hown (host := "") (Or.inl (W hw 142)) Via.refl eq105 F0 E1 (Or.inl (W hw 143)) (W hw 58) (ty := .long) (by decide) rfl rfl (g := (mkF m 9 #[.val (.ref a1), .val (.ref b1)] [(.long q1), (.ref a1)])) rfl rfl (own_d hby d13_9)
  have N107 := Fr.snoc X107 N105 (by omega)
  have F107 : Fld Z h107 a1 "com/example/waban/waban/ItemHash$Points" "sum" "J" (.long q1) := F0.same W107
  have z107 : h107.size = h0.size := W107.size
  have K107 := (Keep.refl h0 [a1]).wr W107 (Or.inl (List.mem_of_getElem? (i := 0) rfl))
  have c108 : SS p e below B0 T107 m 12 #[.val (.ref a1), .val (.ref b1)] [] := Steps.trans c106 (st107 _ (Steps.refl _))
  have c109 : SS p e below B0 T107 m 14 #[.val (.ref a1), .val (.ref b1)] [(.ref b1), (.ref a1)] := Steps.trans c108 (by
      refine XS.aloadN X107.here hx rfl (own_d hby d13_12) rfl rfl ?_
      refine XS.aloadN X107.here hx rfl (own_d hby d13_13) rfl rfl ?_
      exact Steps.refl _)
  have Fld110 : Fld Z h107 b1 "com/example/waban/waban/Hash128" "high" "J" (.long q2) := (Fh.other W107 (Or.inl (own_ne (by omega))))
  have Exa112 : Exa Z h107 b1 "com/example/waban/waban/Hash128" := (Eb.wr W107)
  obtain ⟨cq111, kq111, qa111, qb111, qc111⟩ := isOf hZ e107 Exa112
  obtain ⟨_, _, ⟨T111, Lp111, kp111, np111⟩, -, X111, ⟨Lc111, hQ111, lp111, yp111, zp111⟩, st111⟩ := X107.virtualBack hx (y := (⟨"com/example/waban/waban/Hash128", "high", "()J"⟩ : MethodName)) (z := (⟨"com/example/waban/waban/Hash128", "high", "()J"⟩ : MethodName)) hown (mvT hZ (W hw 144)) (mvT hZ (W hw 145)) (notFace_of_selects (args := #[]) (mvT hZ (W hw 147))) (mvT hZ (W hw 147)) (mvT hZ (W hw 146)) (by decide) (backOf (W := 1) (rm_high l Z a0 hw [] b1 q2 h107 n0 (by omega) Fld110) hZ (W hw 148) (W hw 108) (by decide) (by decide)) qa111 qc111 (g := (mkF m 14 #[.val (.ref a1), .val (.ref b1)] [(.ref b1), (.ref a1)])) rfl (by rw [hml]; rfl) c109 (argsL := []) (rest := [(.ref a1)]) (lenOf pd___J rfl) rfl (by show 2 * 0 + _ ≤ _; exact Nat.le_of_eq rfl) (own_d hby d13_14) (fun _ _ => ⟨rfl, e107, (by decide : 0 + 0 ≤ _), (by decide : 0 + 0 ≤ _)⟩)
  dsimp only [Pt.U, Pt.locs, Pt.cells, Pt.slots] at X111 lp111 yp111 zp111 st111 hQ111
  subst lp111 yp111 zp111
  obtain ⟨rfl, Nq111, eq111⟩ := hQ111
  have N111 := Fr.app N107 Nq111
  have c113 : SS p e below B0 T111 m 17 #[.val (.ref a1), .val (.ref b1)] [(.long q2), (.ref a1)] := st111
  have c114 : SS p e below B0 T111 m 19 #[.val (.ref a1), .val (.ref b1)] [(.long (q2 ||| (1 : Int64))), (.ref a1)] := Steps.trans c113 (by
      refine XT.lconstV X111.here hx rfl (1 : Int64) (own_d hby d13_17) (by decide) ?_
      refine XS.lor X111.here hx rfl (own_d hby d13_18) rfl ?_
      exact Steps.refl _)
  have Fld116 : Fld Z h107 a1 "com/example/waban/waban/ItemHash$Points" "step" "J" u1 := (F1.other W107 (Or.inr (slot_ne (Or.inr (W hw 150)) (Or.inl (W hw 143)) (by decide) (t := .long) (t' := .long) (by decide) (by decide))))
  have Exa117 : Exa Z h107 a1 "com/example/waban/waban/ItemHash$Points" := (E1.wr W107)
  obtain ⟨T115, h115, X115, e115, W115, st115⟩ := putF X111 hx hZ hown (host := "") (Or.inl (W hw 149)) Via.refl eq111 Fld116 Exa117 (Or.inr ⟨(W hw 150), rfl, hnm⟩) (W hw 58) (ty := .long) (by decide) rfl rfl (g := (mkF m 19 #[.val (.ref a1), .val (.ref b1)] [(.long (q2 ||| (1 : Int64))), (.ref a1)])) rfl rfl (own_d hby d13_19)
  have N115 := Fr.snoc X115 N111 (by omega)
  have F115 : Fld Z h115 a1 "com/example/waban/waban/ItemHash$Points" "step" "J" (.long (q2 ||| (1 : Int64))) := Fld116.same W115
  have z115 : h115.size = h107.size := W115.size
  have K115 := K107.wr W115 (Or.inl (List.mem_of_getElem? (i := 0) rfl))
  have c118 : SS p e below B0 T115 m 22 #[.val (.ref a1), .val (.ref b1)] [] := Steps.trans c114 (st115 _ (Steps.refl _))
  have Fld119 : Fld Z h115 a1 "com/example/waban/waban/ItemHash$Points" "sum" "J" (.long q1) := (F107.other W115 (Or.inr (slot_ne (Or.inl (W hw 143)) (Or.inr (W hw 150)) (by decide) (t := .long) (t' := .long) (by decide) (by decide))))
  obtain ⟨fs, hr, hrun, hended, hW, hsame⟩ := X115.leave (v := none) (fun _ => rfl)
  subst hB0
  refine ⟨_, _, Steps.trans c118 ?_, hrun, hended, _, _, rfl, ?_, ⟨_, rfl⟩, hW, hsame.mono (by decide) (by decide)⟩
  · exact X115.returnOut hx Bd.returns (own_d hby d13_22) hr
  · show QP Z a1 q1 q2 h0 n0 _ T115.heap _
    rw [e115]
    exact ⟨rfl, N115, K115, Fld119, F115⟩
def QPs (Z : State) (sd it : Int64) (h0 : Heap) (n0 : Nat) (r : Option Value) (h : Heap) (L : List Loc) : Prop := ∃ b : Addr, r = some (.ref b) ∧ Fr n0 L ∧ Keep h0 h [] ∧ (@Eq Nat b h0.size) ∧ Exa Z h b "com/example/waban/waban/ItemHash$Points" ∧ Fld Z h b "com/example/waban/waban/ItemHash$Points" "sum" "J" (.long (lowOf sd it)) ∧ Fld Z h b "com/example/waban/waban/ItemHash$Points" "step" "J" (.long (stepOf sd it))
set_option maxRecDepth 65536 in
set_option maxHeartbeats 40000000 in
theorem rmPs (l : Launch) (Z : State) (a0 : Array Value) (hw : ∀ d ∈ tables_1, d.before a0 Z = true) (ws : List Jvm.Cond) (a1 : Addr) (it sd : Int64) (h0 : Heap) (n0 : Nat) (Z0 : n0 ≤ h0.size) (E1 : Exa Z h0 a1 "com/example/waban/waban/ItemHash") (Fs : Fld Z h0 a1 "com/example/waban/waban/ItemHash" "seed" "J" (.long sd)) :
    MetFree l (⟨"com/example/waban/waban/ItemHash", "points", "(J)Lcom/example/waban/waban/ItemHash$Points;"⟩ : MethodName) (head1 (Jvm.Cond.code (⟨"com/example/waban/waban/ItemHash", "points", "(J)Lcom/example/waban/waban/ItemHash$Points;"⟩ : MethodName) prog_11_method_9_code 3 (some (.object "com/example/waban/waban/ItemHash$Points")) :: ws) ({ frames := 5, cells := 3, slots := 8, locals := 74 } : Room)) (fun a U => a = #[(.ref a1), (.long it)] ∧ Z.Warmed39 U.vm ∧ U.heap = h0) (fun _ _ _ _ _ => True) (fun _ U o U' => ∃ vR LR, o = .returned vR ∧ QPs Z sd it h0 n0 vR U'.heap LR ∧ FrameEnd U o U' LR ({ frames := 5, cells := 3, slots := 8, locals := 74 } : Room).cells ({ frames := 5, cells := 3, slots := 8, locals := 74 } : Room).slots) := by
  refine MetFree.of_bodySF (plainFor_of_name pn_com_example_waban_waban_ItemHash) hisR ?_
  intro p e s m args below meth c s₁ Bd hml0 hP hK
  obtain ⟨rfl, hZ, hh⟩ := hP
  have hx := Bd.exec
  have hby := Bd.bytes
  have hml : c.maxLocals = 3 := hml0
  have hown : s.vm.findClass "com/example/waban/waban/ItemHash" = some m.cls := findClass_of_methodNamed Bd.named
  have hnm := (name_of_methodNamed Bd.named Bd.method).1
  have X0 : Stand p l e ({ frames := 5, cells := 3, slots := 8, locals := 74 } : Room) s m #[(.ref a1), (.long it)] below meth c s₁ [] 0 0 := Stand.of_body Bd
  have e0 : s₁.heap = h0 := by rw [← hh, Bd.state]; rfl
  have N0 := Fr.nil n0
  obtain ⟨B0, c0, hB0⟩ : ∃ B0, Steps p.tables e below B0 (s₁.setTop (mkF m 0 #[.val (.ref a1), .val (.long it), .second] [])) ∧ B0 = s₁.setTop (entryFrame m #[(.ref a1), (.long it)] 3) := ⟨_, castTop (ef_RJ_3 m a1 it) (Steps.refl _), rfl⟩
  have lt_a1 : (@LT.lt Nat _ a1 h0.size) := E1.lt
  obtain ⟨T101, h101, X101, e101, E101, A101, D101, -, st101⟩ := newO X0 hx hZ hown (W hw 57) (W hw 58) (W hw 59) e0 (g := (mkF m 0 #[.val (.ref a1), .val (.long it), .second] [])) rfl (own_d hby d14_0) (by decide) (by decide)
  obtain ⟨b1, g101⟩ : ∃ z, z = h0.size := ⟨_, rfl⟩
  rw [← g101] at A101 D101 st101
  have z101 : h0.size ≤ h101.size := E101.1
  have l101 : (@LT.lt Nat _ b1 h101.size) := A101.lt
  have K101 := (Keep.refl h0 []).ext E101
  have c102 : SS p e below B0 T101 m 3 #[.val (.ref a1), .val (.long it), .second] [(.ref b1)] := Steps.trans c0 (st101 _ (Steps.refl _))
  have c103 : SS p e below B0 T101 m 6 #[.val (.ref a1), .val (.long it), .second] [(.long it), (.ref a1), (.ref b1), (.ref b1)] := Steps.trans c102 (by
      refine XS.dup X101.here hx rfl (own_d hby d14_3) rfl rfl ?_
      refine XS.aloadN X101.here hx rfl (own_d hby d14_4) rfl rfl ?_
      refine XS.lloadN X101.here hx rfl (own_d hby d14_5) rfl ?_
      exact Steps.refl _)
  have Exa104 : Exa Z h101 a1 "com/example/waban/waban/ItemHash" := (E1.ext E101)
  have Fld105 : Fld Z h101 a1 "com/example/waban/waban/ItemHash" "seed" "J" (.long sd) := (Fs.ext E101)
  obtain ⟨cq106, kq106, qa106, qb106, qc106⟩ := isOf hZ e101 Exa104
  obtain ⟨_, _, ⟨T106, Lp106, kp106, np106⟩, -, X106, ⟨Lc106, hQ106, lp106, yp106, zp106⟩, st106⟩ := X101.virtualBack hx (y := (⟨"com/example/waban/waban/ItemHash", "hash", "(J)Lcom/example/waban/waban/Hash128;"⟩ : MethodName)) (z := (⟨"com/example/waban/waban/ItemHash", "hash", "(J)Lcom/example/waban/waban/Hash128;"⟩ : MethodName)) hown (mvT hZ (W hw 60)) (mvT hZ (W hw 61)) (notFace_of_selects (args := #[]) (mvT hZ (W hw 63))) (mvT hZ (W hw 63)) (mvT hZ (W hw 62)) (by decide) (backOf (W := 2) (rmHa l Z a0 hw [] a1 it sd h101 n0 (by omega) Exa104 Fld105) hZ (W hw 64) (W hw 37) (by decide) (by decide)) qa106 qc106 (g := (mkF m 6 #[.val (.ref a1), .val (.long it), .second] [(.long it), (.ref a1), (.ref b1), (.ref b1)])) rfl (by rw [hml]; rfl) c103 (argsL := [(.long it)]) (rest := [(.ref b1), (.ref b1)]) (lenOf pd__J_Lcom_example_waban_waban_Hash128_ rfl) rfl (by show 2 * 0 + _ ≤ _; exact Nat.le_of_eq rfl) (own_d hby d14_6) (fun _ _ => ⟨rfl, e101, (by decide : 1 + 2 ≤ _), (by decide : 2 + 6 ≤ _)⟩)
  dsimp only [Pt.U, Pt.locs, Pt.cells, Pt.slots] at X106 lp106 yp106 zp106 st106 hQ106
  subst lp106 yp106 zp106
  obtain ⟨hb, rfl, Nq106, Kq106, gb106, eb106, fl106, fh106⟩ := hQ106
  have N106 := Fr.app N0 Nq106
  obtain ⟨h106, e106⟩ : ∃ z, T106.heap = z := ⟨_, rfl⟩
  rw [e106] at Kq106 eb106 fl106 fh106
  have z106 : h101.size ≤ h106.size := Kq106.1
  have K106 := K101.trans Kq106 all0
  have c107 : SS p e below B0 T106 m 9 #[.val (.ref a1), .val (.long it), .second] [(.ref hb), (.ref b1), (.ref b1)] := st106
  have lt_hb : (@LT.lt Nat _ hb h106.size) := eb106.lt
  have Exa108 : Exa Z h106 b1 "com/example/waban/waban/ItemHash$Points" := (A101.keep Kq106)
  have Fld109 : Fld Z h106 b1 "com/example/waban/waban/ItemHash$Points" "sum" "J" (.long (0 : Int64)) := ((D101 (O := "com/example/waban/waban/ItemHash$Points") (nm := "sum") (d := "J") (Or.inl (W hw 143)) (ty := .long) (by decide)).keep Kq106 nin0)
  have Fld110 : Fld Z h106 b1 "com/example/waban/waban/ItemHash$Points" "step" "J" (.long (0 : Int64)) := ((D101 (O := "com/example/waban/waban/ItemHash$Points") (nm := "step") (d := "J") (Or.inr (W hw 150)) (ty := .long) (by decide)).keep Kq106 nin0)
  obtain ⟨_, _, ⟨T111, Lp111, kp111, np111⟩, -, X111, ⟨Lc111, hQ111, lp111, yp111, zp111⟩, st111⟩ := own_specialRef X106 hx (y := (⟨"com/example/waban/waban/ItemHash$Points", "<init>", "(Lcom/example/waban/waban/Hash128;)V"⟩ : MethodName)) rfl hown (own_mvRef hZ (W hw 134) (W hw 133) (by decide)) (mvT hZ (W hw 134)) (mvT hZ (W hw 135)) (by decide) (backOf (W := 1) (rmP l Z a0 hw [] b1 hb _ _ _ _ h106 n0 (by omega) Exa108 Fld109 Fld110 eb106 fl106 fh106 (by omega) (by omega)) hZ (W hw 135) (W hw 59) (by decide) (by decide)) (g := (mkF m 9 #[.val (.ref a1), .val (.long it), .second] [(.ref hb), (.ref b1), (.ref b1)])) rfl (by rw [hml]; rfl) c107 (a := b1) (argsL := [(.ref hb)]) (rest := [(.ref b1)]) (lenOf pd__Lcom_example_waban_waban_Hash128__V rfl) rfl (by show 2 * 0 + _ ≤ _; exact Nat.le_of_eq rfl) (own_d hby d14_9) (fun _ _ => ⟨rfl, e106, (by decide : 3 + 0 ≤ _), (by decide : 8 + 0 ≤ _)⟩)
  dsimp only [Pt.U, Pt.locs, Pt.cells, Pt.slots] at X111 lp111 yp111 zp111 st111 hQ111
  subst lp111 yp111 zp111
  obtain ⟨rfl, Nq111, Kq111, fs111, ft111⟩ := hQ111
  have N111 := Fr.app N106 Nq111
  obtain ⟨h111, e111⟩ : ∃ z, T111.heap = z := ⟨_, rfl⟩
  rw [e111] at Kq111 fs111 ft111
  have z111 : h106.size ≤ h111.size := Kq111.1
  have K111 := K106.trans Kq111 (allS (Or.inr (by omega)) all0)
  have c112 : SS p e below B0 T111 m 12 #[.val (.ref a1), .val (.long it), .second] [(.ref b1)] := st111
  have Exa113 : Exa Z h111 b1 "com/example/waban/waban/ItemHash$Points" := (Exa108.keep Kq111)
  obtain ⟨fs, hr, hrun, hended, hW, hsame⟩ := X111.leave (v := some (.ref b1)) (fun h => by rw [Bd.returns] at h; cases h)
  subst hB0
  refine ⟨_, _, Steps.trans c112 ?_, hrun, hended, _, _, rfl, ?_, ⟨_, rfl⟩, hW, hsame.mono (by decide) (by decide)⟩
  · exact retR X111 hx Bd.returns rfl rfl rfl (own_d hby d14_12) hr
  · show QPs Z sd it h0 n0 _ T111.heap _
    rw [e111]
    exact ⟨b1, rfl, N111, K111, (by omega), Exa113, fs111, ft111⟩
def QM (q1 : Int64) (h0 : Heap) (n0 : Nat) (v : Option Value) (h : Heap) (L : List Loc) : Prop := v = some (.long (mix q1)) ∧ Fr n0 L ∧ h = h0
set_option maxRecDepth 65536 in
set_option maxHeartbeats 40000000 in
theorem rmM (l : Launch) (Z : State) (a0 : Array Value) (hw : ∀ d ∈ tables_1, d.before a0 Z = true) (ws : List Jvm.Cond) (q1 : Int64) (h0 : Heap) (n0 : Nat) (Z0 : n0 ≤ h0.size)  :
    MetFree l (⟨"com/example/waban/waban/ItemHash$Points", "mix", "(J)J"⟩ : MethodName) (head1 (Jvm.Cond.code (⟨"com/example/waban/waban/ItemHash$Points", "mix", "(J)J"⟩ : MethodName) prog_12_method_4_code 4 (some .long) :: ws) ({ frames := 0, cells := 0, slots := 0, locals := 0 } : Room)) (fun a U => a = #[(.long q1)] ∧ Z.Warmed39 U.vm ∧ U.heap = h0) (fun _ _ _ _ _ => True) (fun _ U o U' => ∃ vR LR, o = .returned vR ∧ QM q1 h0 n0 vR U'.heap LR ∧ FrameEnd U o U' LR ({ frames := 0, cells := 0, slots := 0, locals := 0 } : Room).cells ({ frames := 0, cells := 0, slots := 0, locals := 0 } : Room).slots) := by
  refine MetFree.of_bodySF (plainFor_of_name pn_com_example_waban_waban_ItemHash_Points) hisR ?_
  intro p e s m args below meth c s₁ Bd hml0 hP hK
  obtain ⟨rfl, hZ, hh⟩ := hP
  have hx := Bd.exec
  have hby := Bd.bytes
  have hml : c.maxLocals = 4 := hml0
  have hown : s.vm.findClass "com/example/waban/waban/ItemHash$Points" = some m.cls := findClass_of_methodNamed Bd.named
  have hnm := (name_of_methodNamed Bd.named Bd.method).1
  have X0 : Stand p l e ({ frames := 0, cells := 0, slots := 0, locals := 0 } : Room) s m #[(.long q1)] below meth c s₁ [] 0 0 := Stand.of_body Bd
  have e0 : s₁.heap = h0 := by rw [← hh, Bd.state]; rfl
  have N0 := Fr.nil n0
  obtain ⟨B0, c0, hB0⟩ : ∃ B0, Steps p.tables e below B0 (s₁.setTop (mkF m 0 #[.val (.long q1), .second, .unset, .unset] [])) ∧ B0 = s₁.setTop (entryFrame m #[(.long q1)] 4) := ⟨_, castTop (ef_J_4 m q1) (Steps.refl _), rfl⟩
  have c101 : SS p e below B0 s₁ m 28 #[.val (.long q1), .second, .val (.long ((((q1 ^^^ ((q1.toUInt64 >>> ((30 : Int32) &&& 0x3f).toInt64.toUInt64).toInt64)) * (-4658895280553007687 : Int64)) ^^^ ((((q1 ^^^ ((q1.toUInt64 >>> ((30 : Int32) &&& 0x3f).toInt64.toUInt64).toInt64)) * (-4658895280553007687 : Int64)).toUInt64 >>> ((27 : Int32) &&& 0x3f).toInt64.toUInt64).toInt64)) * (-7723592293110705685 : Int64))), .second] [(.long (((((q1 ^^^ ((q1.toUInt64 >>> ((30 : Int32) &&& 0x3f).toInt64.toUInt64).toInt64)) * (-4658895280553007687 : Int64)) ^^^ ((((q1 ^^^ ((q1.toUInt64 >>> ((30 : Int32) &&& 0x3f).toInt64.toUInt64).toInt64)) * (-4658895280553007687 : Int64)).toUInt64 >>> ((27 : Int32) &&& 0x3f).toInt64.toUInt64).toInt64)) * (-7723592293110705685 : Int64)) ^^^ ((((((q1 ^^^ ((q1.toUInt64 >>> ((30 : Int32) &&& 0x3f).toInt64.toUInt64).toInt64)) * (-4658895280553007687 : Int64)) ^^^ ((((q1 ^^^ ((q1.toUInt64 >>> ((30 : Int32) &&& 0x3f).toInt64.toUInt64).toInt64)) * (-4658895280553007687 : Int64)).toUInt64 >>> ((27 : Int32) &&& 0x3f).toInt64.toUInt64).toInt64)) * (-7723592293110705685 : Int64)).toUInt64 >>> ((31 : Int32) &&& 0x3f).toInt64.toUInt64).toInt64)))] := Steps.trans c0 (by
      refine XS.lloadN X0.here hx rfl (own_d hby d15_0) rfl ?_
      refine XS.lloadN X0.here hx rfl (own_d hby d15_1) rfl ?_
      refine XT.bipushV X0.here hx rfl (30 : Int32) (own_d hby d15_2) (by decide) ?_
      refine XS.lushr X0.here hx rfl (own_d hby d15_4) rfl ?_
      refine XS.lxor X0.here hx rfl (own_d hby d15_5) rfl ?_
      refine X0.ldc2J hx hown (mvT hZ (W hw 159)) rfl (own_d hby d15_6) ?_
      refine XS.lmul X0.here hx rfl (own_d hby d15_9) rfl ?_
      refine XS.lstoreN X0.here hx rfl (own_d hby d15_10) rfl (l' := #[.val (.long q1), .second, .val (.long ((q1 ^^^ ((q1.toUInt64 >>> ((30 : Int32) &&& 0x3f).toInt64.toUInt64).toInt64)) * (-4658895280553007687 : Int64))), .second]) rfl ?_
      refine XS.lloadN X0.here hx rfl (own_d hby d15_11) rfl ?_
      refine XS.lloadN X0.here hx rfl (own_d hby d15_12) rfl ?_
      refine XT.bipushV X0.here hx rfl (27 : Int32) (own_d hby d15_13) (by decide) ?_
      refine XS.lushr X0.here hx rfl (own_d hby d15_15) rfl ?_
      refine XS.lxor X0.here hx rfl (own_d hby d15_16) rfl ?_
      refine X0.ldc2J hx hown (mvT hZ (W hw 160)) rfl (own_d hby d15_17) ?_
      refine XS.lmul X0.here hx rfl (own_d hby d15_20) rfl ?_
      refine XS.lstoreN X0.here hx rfl (own_d hby d15_21) rfl (l' := #[.val (.long q1), .second, .val (.long ((((q1 ^^^ ((q1.toUInt64 >>> ((30 : Int32) &&& 0x3f).toInt64.toUInt64).toInt64)) * (-4658895280553007687 : Int64)) ^^^ ((((q1 ^^^ ((q1.toUInt64 >>> ((30 : Int32) &&& 0x3f).toInt64.toUInt64).toInt64)) * (-4658895280553007687 : Int64)).toUInt64 >>> ((27 : Int32) &&& 0x3f).toInt64.toUInt64).toInt64)) * (-7723592293110705685 : Int64))), .second]) rfl ?_
      refine XS.lloadN X0.here hx rfl (own_d hby d15_22) rfl ?_
      refine XS.lloadN X0.here hx rfl (own_d hby d15_23) rfl ?_
      refine XT.bipushV X0.here hx rfl (31 : Int32) (own_d hby d15_24) (by decide) ?_
      refine XS.lushr X0.here hx rfl (own_d hby d15_26) rfl ?_
      refine XS.lxor X0.here hx rfl (own_d hby d15_27) rfl ?_
      exact Steps.refl _)
  obtain ⟨fs, hr, hrun, hended, hW, hsame⟩ := X0.leave (v := some (.long (((((q1 ^^^ ((q1.toUInt64 >>> ((30 : Int32) &&& 0x3f).toInt64.toUInt64).toInt64)) * (-4658895280553007687 : Int64)) ^^^ ((((q1 ^^^ ((q1.toUInt64 >>> ((30 : Int32) &&& 0x3f).toInt64.toUInt64).toInt64)) * (-4658895280553007687 : Int64)).toUInt64 >>> ((27 : Int32) &&& 0x3f).toInt64.toUInt64).toInt64)) * (-7723592293110705685 : Int64)) ^^^ ((((((q1 ^^^ ((q1.toUInt64 >>> ((30 : Int32) &&& 0x3f).toInt64.toUInt64).toInt64)) * (-4658895280553007687 : Int64)) ^^^ ((((q1 ^^^ ((q1.toUInt64 >>> ((30 : Int32) &&& 0x3f).toInt64.toUInt64).toInt64)) * (-4658895280553007687 : Int64)).toUInt64 >>> ((27 : Int32) &&& 0x3f).toInt64.toUInt64).toInt64)) * (-7723592293110705685 : Int64)).toUInt64 >>> ((31 : Int32) &&& 0x3f).toInt64.toUInt64).toInt64)))) (fun h => by rw [Bd.returns] at h; cases h)
  subst hB0
  refine ⟨_, _, Steps.trans c101 ?_, hrun, hended, _, _, rfl, ?_, ⟨_, rfl⟩, hW, hsame.mono (by decide) (by decide)⟩
  · exact X0.lreturnOut hx Bd.returns (own_d hby d15_28) hr
  · show QM q1 h0 n0 _ s₁.heap _
    rw [e0]
    exact ⟨rfl, N0, rfl⟩
def QN (a1 : Addr) (q1 : Int64) (h0 : Heap) (n0 : Nat) (r : Option Value) (h : Heap) (L : List Loc) : Prop := r = some (.long (mix q1)) ∧ Fr n0 L ∧ Keep h0 h [a1]
set_option maxRecDepth 65536 in
set_option maxHeartbeats 40000000 in
theorem rmN (l : Launch) (Z : State) (a0 : Array Value) (hw : ∀ d ∈ tables_1, d.before a0 Z = true) (ws : List Jvm.Cond) (a1 : Addr) (q1 q2 : Int64) (h0 : Heap) (n0 : Nat) (Z0 : n0 ≤ h0.size) (E1 : Exa Z h0 a1 "com/example/waban/waban/ItemHash$Points") (F0 : Fld Z h0 a1 "com/example/waban/waban/ItemHash$Points" "sum" "J" (.long q1)) (F1 : Fld Z h0 a1 "com/example/waban/waban/ItemHash$Points" "step" "J" (.long q2)) (g1 : n0 ≤ a1) :
    MetFree l (⟨"com/example/waban/waban/ItemHash$Points", "next", "()J"⟩ : MethodName) (head1 (Jvm.Cond.code (⟨"com/example/waban/waban/ItemHash$Points", "next", "()J"⟩ : MethodName) prog_12_method_2_code 3 (some .long) :: ws) ({ frames := 1, cells := 0, slots := 0, locals := 15 } : Room)) (fun a U => a = #[(.ref a1)] ∧ Z.Warmed39 U.vm ∧ U.heap = h0) (fun _ _ _ _ _ => True) (fun _ U o U' => ∃ vR LR, o = .returned vR ∧ QN a1 q1 h0 n0 vR U'.heap LR ∧ FrameEnd U o U' LR ({ frames := 1, cells := 0, slots := 0, locals := 15 } : Room).cells ({ frames := 1, cells := 0, slots := 0, locals := 15 } : Room).slots) := by
  refine MetFree.of_bodySF (plainFor_of_name pn_com_example_waban_waban_ItemHash_Points) hisR ?_
  intro p e s m args below meth c s₁ Bd hml0 hP hK
  obtain ⟨rfl, hZ, hh⟩ := hP
  have hx := Bd.exec
  have hby := Bd.bytes
  have hml : c.maxLocals = 3 := hml0
  have hown : s.vm.findClass "com/example/waban/waban/ItemHash$Points" = some m.cls := findClass_of_methodNamed Bd.named
  have hnm := (name_of_methodNamed Bd.named Bd.method).1
  have X0 : Stand p l e ({ frames := 1, cells := 0, slots := 0, locals := 15 } : Room) s m #[(.ref a1)] below meth c s₁ [] 0 0 := Stand.of_body Bd
  have e0 : s₁.heap = h0 := by rw [← hh, Bd.state]; rfl
  have N0 := Fr.nil n0
  obtain ⟨B0, c0, hB0⟩ : ∃ B0, Steps p.tables e below B0 (s₁.setTop (mkF m 0 #[.val (.ref a1), .unset, .unset] [])) ∧ B0 = s₁.setTop (entryFrame m #[(.ref a1)] 3) := ⟨_, castTop (ef_R_3 m a1) (Steps.refl _), rfl⟩
  have lt_a1 : (@LT.lt Nat _ a1 h0.size) := E1.lt
  have c101 : SS p e below B0 s₁ m 1 #[.val (.ref a1), .unset, .unset] [(.ref a1)] := Steps.trans c0 (by
      refine XS.aloadN X0.here hx rfl (own_d hby d16_0) rfl rfl ?_
      exact Steps.refl _)
  obtain ⟨T102, X102, e102, st102⟩ := getF X0 hx hZ hown (host := "") (Or.inl (W hw 142)) Via.refl e0 F0 (g := (mkF m 1 #[.val (.ref a1), .unset, .unset] [(.ref a1)])) rfl rfl (own_d hby d16_1)
  have c103 : SS p e below B0 T102 m 4 #[.val (.ref a1), .unset, .unset] [(.long q1)] := Steps.trans c101 (st102 _ (Steps.refl _))
  obtain ⟨_, _, ⟨T104, Lp104, kp104, np104⟩, -, X104, ⟨Lc104, hQ104, lp104, yp104, zp104⟩, st104⟩ := Jvm.LawKit.callS X102 hx (y := (⟨"com/example/waban/waban/ItemHash$Points", "mix", "(J)J"⟩ : MethodName)) hown (mvT hZ (W hw 156)) (mvT hZ (W hw 157)) (mvT hZ (W hw 59)) (mvT hZ (W hw 158)) (by decide) (backOf (W := 0) (rmM l Z a0 hw [] q1 h0 n0 Z0) hZ (W hw 158) (W hw 59) (by decide) (by decide)) (g := (mkF m 4 #[.val (.ref a1), .unset, .unset] [(.long q1)])) rfl (by rw [hml]; rfl) (argsL := [(.long q1)]) (rest := []) (lenOf pd__J_J rfl) rfl (by show 2 * 0 + _ ≤ _; exact Nat.le_of_eq rfl) (own_d hby d16_4) (fun _ _ => ⟨rfl, e102, (by decide : 0 + 0 ≤ _), (by decide : 0 + 0 ≤ _)⟩)
  dsimp only [Pt.U, Pt.locs, Pt.cells, Pt.slots] at X104 lp104 yp104 zp104 st104 hQ104
  subst lp104 yp104 zp104
  obtain ⟨rfl, Nq104, eq104⟩ := hQ104
  have N104 := Fr.app N0 Nq104
  have c105 : SS p e below B0 T104 m 7 #[.val (.ref a1), .unset, .unset] [(.long (mix q1))] := Steps.trans c103 (st104 _ (Steps.refl _))
  have c106 : SS p e below B0 T104 m 10 #[.val (.ref a1), .val (.long (mix q1)), .second] [(.ref a1), (.ref a1)] := Steps.trans c105 (by
      refine XS.lstoreN X104.here hx rfl (own_d hby d16_7) rfl (l' := #[.val (.ref a1), .val (.long (mix q1)), .second]) rfl ?_
      refine XS.aloadN X104.here hx rfl (own_d hby d16_8) rfl rfl ?_
      refine XS.dup X104.here hx rfl (own_d hby d16_9) rfl rfl ?_
      exact Steps.refl _)
  obtain ⟨T107, X107, e107, st107⟩ := getF X104 hx hZ hown (host := "") (Or.inl (W hw 142)) Via.refl eq104 F0 (g := (mkF m 10 #[.val (.ref a1), .val (.long (mix q1)), .second] [(.ref a1), (.ref a1)])) rfl rfl (own_d hby d16_10)
  have c108 : SS p e below B0 T107 m 13 #[.val (.ref a1), .val (.long (mix q1)), .second] [(.long q1), (.ref a1)] := Steps.trans c106 (st107 _ (Steps.refl _))
  have c109 : SS p e below B0 T107 m 14 #[.val (.ref a1), .val (.long (mix q1)), .second] [(.ref a1), (.long q1), (.ref a1)] := Steps.trans c108 (by
      refine XS.aloadN X107.here hx rfl (own_d hby d16_13) rfl rfl ?_
      exact Steps.refl _)
  obtain ⟨T110, X110, e110, st110⟩ := getF X107 hx hZ hown (host := "") (Or.inl (W hw 149)) Via.refl e107 F1 (g := (mkF m 14 #[.val (.ref a1), .val (.long (mix q1)), .second] [(.ref a1), (.long q1), (.ref a1)])) rfl rfl (own_d hby d16_14)
  have c111 : SS p e below B0 T110 m 17 #[.val (.ref a1), .val (.long (mix q1)), .second] [(.long q2), (.long q1), (.ref a1)] := Steps.trans c109 (st110 _ (Steps.refl _))
  have c112 : SS p e below B0 T110 m 18 #[.val (.ref a1), .val (.long (mix q1)), .second] [(.long (q1 + q2)), (.ref a1)] := Steps.trans c111 (by
      refine XS.ladd X110.here hx rfl (own_d hby d16_17) rfl ?_
      exact Steps.refl _)
  obtain ⟨T113, h113, X113, e113, W113, st113⟩ := putF X110 hx hZ hown (host := "") (Or.inl (W hw 142)) Via.refl e110 F0 E1 (Or.inl (W hw 143)) (W hw 58) (ty := .long) (by decide) rfl rfl (g := (mkF m 18 #[.val (.ref a1), .val (.long (mix q1)), .second] [(.long (q1 + q2)), (.ref a1)])) rfl rfl (own_d hby d16_18)
  have N113 := Fr.snoc X113 N104 (by omega)
  have F113 : Fld Z h113 a1 "com/example/waban/waban/ItemHash$Points" "sum" "J" (.long (q1 + q2)) := F0.same W113
  have z113 : h113.size = h0.size := W113.size
  have K113 := (Keep.refl h0 [a1]).wr W113 (Or.inl (List.mem_of_getElem? (i := 0) rfl))
  have c114 : SS p e below B0 T113 m 21 #[.val (.ref a1), .val (.long (mix q1)), .second] [] := Steps.trans c112 (st113 _ (Steps.refl _))
  have c115 : SS p e below B0 T113 m 22 #[.val (.ref a1), .val (.long (mix q1)), .second] [(.long (mix q1))] := Steps.trans c114 (by
      refine XS.lloadN X113.here hx rfl (own_d hby d16_21) rfl ?_
      exact Steps.refl _)
  obtain ⟨fs, hr, hrun, hended, hW, hsame⟩ := X113.leave (v := some (.long (mix q1))) (fun h => by rw [Bd.returns] at h; cases h)
  subst hB0
  refine ⟨_, _, Steps.trans c115 ?_, hrun, hended, _, _, rfl, ?_, ⟨_, rfl⟩, hW, hsame.mono (by decide) (by decide)⟩
  · exact X113.lreturnOut hx Bd.returns (own_d hby d16_22) hr
  · show QN a1 q1 h0 n0 _ T113.heap _
    rw [e113]
    exact ⟨rfl, N113, K113⟩
def QMh (q1 q2 : Int64) (h0 : Heap) (n0 : Nat) (v : Option Value) (h : Heap) (L : List Loc) : Prop := v = some (.long (mulh q1 q2)) ∧ Fr n0 L ∧ h = h0
set_option maxRecDepth 65536 in
set_option maxHeartbeats 40000000 in
theorem rmMh (l : Launch) (Z : State) (a0 : Array Value) (hw : ∀ d ∈ tables_1, d.before a0 Z = true) (ws : List Jvm.Cond) (q1 q2 : Int64) (h0 : Heap) (n0 : Nat) (Z0 : n0 ≤ h0.size)  :
    MetFree l (⟨"java/lang/Math", "multiplyHigh", "(JJ)J"⟩ : MethodName) (head1 (Jvm.Cond.code (⟨"java/lang/Math", "multiplyHigh", "(JJ)J"⟩ : MethodName) jdk_29_method_45_code 20 (some .long) :: ws) ({ frames := 0, cells := 0, slots := 0, locals := 0 } : Room)) (fun a U => a = #[(.long q1), (.long q2)] ∧ Z.Warmed39 U.vm ∧ U.heap = h0) (fun _ _ _ _ _ => True) (fun _ U o U' => ∃ vR LR, o = .returned vR ∧ QMh q1 q2 h0 n0 vR U'.heap LR ∧ FrameEnd U o U' LR ({ frames := 0, cells := 0, slots := 0, locals := 0 } : Room).cells ({ frames := 0, cells := 0, slots := 0, locals := 0 } : Room).slots) := by
  refine MetFree.of_bodySF pf_multiplyHigh_JJ_J hisR ?_
  intro p e s m args below meth c s₁ Bd hml0 hP hK
  obtain ⟨rfl, hZ, hh⟩ := hP
  have hx := Bd.exec
  have hby := Bd.bytes
  have hml : c.maxLocals = 20 := hml0
  have hown : s.vm.findClass "java/lang/Math" = some m.cls := findClass_of_methodNamed Bd.named
  have hnm := (name_of_methodNamed Bd.named Bd.method).1
  have X0 : Stand p l e ({ frames := 0, cells := 0, slots := 0, locals := 0 } : Room) s m #[(.long q1), (.long q2)] below meth c s₁ [] 0 0 := Stand.of_body Bd
  have e0 : s₁.heap = h0 := by rw [← hh, Bd.state]; rfl
  have N0 := Fr.nil n0
  obtain ⟨B0, c0, hB0⟩ : ∃ B0, Steps p.tables e below B0 (s₁.setTop (mkF m 0 #[.val (.long q1), .second, .val (.long q2), .second, .unset, .unset, .unset, .unset, .unset, .unset, .unset, .unset, .unset, .unset, .unset, .unset, .unset, .unset, .unset, .unset] [])) ∧ B0 = s₁.setTop (entryFrame m #[(.long q1), (.long q2)] 20) := ⟨_, castTop (ef_JJ_20 m q1 q2) (Steps.refl _), rfl⟩
  have c101 : SS p e below B0 s₁ m 85 #[.val (.long q1), .second, .val (.long q2), .second, .val (.long (q1 >>> ((32 : Int32) &&& 0x3f).toInt64)), .second, .val (.long (q1 &&& (4294967295 : Int64))), .second, .val (.long (q2 >>> ((32 : Int32) &&& 0x3f).toInt64)), .second, .val (.long (q2 &&& (4294967295 : Int64))), .second, .val (.long ((q1 &&& (4294967295 : Int64)) * (q2 &&& (4294967295 : Int64)))), .second, .val (.long (((q1 >>> ((32 : Int32) &&& 0x3f).toInt64) * (q2 &&& (4294967295 : Int64))) + ((((q1 &&& (4294967295 : Int64)) * (q2 &&& (4294967295 : Int64))).toUInt64 >>> ((32 : Int32) &&& 0x3f).toInt64.toUInt64).toInt64))), .second, .val (.long (((((q1 >>> ((32 : Int32) &&& 0x3f).toInt64) * (q2 &&& (4294967295 : Int64))) + ((((q1 &&& (4294967295 : Int64)) * (q2 &&& (4294967295 : Int64))).toUInt64 >>> ((32 : Int32) &&& 0x3f).toInt64.toUInt64).toInt64)) &&& (4294967295 : Int64)) + ((q1 &&& (4294967295 : Int64)) * (q2 >>> ((32 : Int32) &&& 0x3f).toInt64)))), .second, .val (.long ((((q1 >>> ((32 : Int32) &&& 0x3f).toInt64) * (q2 &&& (4294967295 : Int64))) + ((((q1 &&& (4294967295 : Int64)) * (q2 &&& (4294967295 : Int64))).toUInt64 >>> ((32 : Int32) &&& 0x3f).toInt64.toUInt64).toInt64)) >>> ((32 : Int32) &&& 0x3f).toInt64)), .second] [(.long ((((q1 >>> ((32 : Int32) &&& 0x3f).toInt64) * (q2 >>> ((32 : Int32) &&& 0x3f).toInt64)) + ((((q1 >>> ((32 : Int32) &&& 0x3f).toInt64) * (q2 &&& (4294967295 : Int64))) + ((((q1 &&& (4294967295 : Int64)) * (q2 &&& (4294967295 : Int64))).toUInt64 >>> ((32 : Int32) &&& 0x3f).toInt64.toUInt64).toInt64)) >>> ((32 : Int32) &&& 0x3f).toInt64)) + ((((((q1 >>> ((32 : Int32) &&& 0x3f).toInt64) * (q2 &&& (4294967295 : Int64))) + ((((q1 &&& (4294967295 : Int64)) * (q2 &&& (4294967295 : Int64))).toUInt64 >>> ((32 : Int32) &&& 0x3f).toInt64.toUInt64).toInt64)) &&& (4294967295 : Int64)) + ((q1 &&& (4294967295 : Int64)) * (q2 >>> ((32 : Int32) &&& 0x3f).toInt64))) >>> ((32 : Int32) &&& 0x3f).toInt64)))] := Steps.trans c0 (by
      refine XS.lloadN X0.here hx rfl (own_d hby d17_0) rfl ?_
      refine XT.bipushV X0.here hx rfl (32 : Int32) (own_d hby d17_1) (by decide) ?_
      refine XS.lshr X0.here hx rfl (own_d hby d17_3) rfl ?_
      refine XS.lstore X0.here hx rfl (own_d hby d17_4) rfl (l' := #[.val (.long q1), .second, .val (.long q2), .second, .val (.long (q1 >>> ((32 : Int32) &&& 0x3f).toInt64)), .second, .unset, .unset, .unset, .unset, .unset, .unset, .unset, .unset, .unset, .unset, .unset, .unset, .unset, .unset]) rfl ?_
      refine XS.lloadN X0.here hx rfl (own_d hby d17_6) rfl ?_
      refine X0.ldc2J hx hown (mvT hZ (W hw 168)) rfl (own_d hby d17_7) ?_
      refine XS.land X0.here hx rfl (own_d hby d17_10) rfl ?_
      refine XS.lstore X0.here hx rfl (own_d hby d17_11) rfl (l' := #[.val (.long q1), .second, .val (.long q2), .second, .val (.long (q1 >>> ((32 : Int32) &&& 0x3f).toInt64)), .second, .val (.long (q1 &&& (4294967295 : Int64))), .second, .unset, .unset, .unset, .unset, .unset, .unset, .unset, .unset, .unset, .unset, .unset, .unset]) rfl ?_
      refine XS.lloadN X0.here hx rfl (own_d hby d17_13) rfl ?_
      refine XT.bipushV X0.here hx rfl (32 : Int32) (own_d hby d17_14) (by decide) ?_
      refine XS.lshr X0.here hx rfl (own_d hby d17_16) rfl ?_
      refine XS.lstore X0.here hx rfl (own_d hby d17_17) rfl (l' := #[.val (.long q1), .second, .val (.long q2), .second, .val (.long (q1 >>> ((32 : Int32) &&& 0x3f).toInt64)), .second, .val (.long (q1 &&& (4294967295 : Int64))), .second, .val (.long (q2 >>> ((32 : Int32) &&& 0x3f).toInt64)), .second, .unset, .unset, .unset, .unset, .unset, .unset, .unset, .unset, .unset, .unset]) rfl ?_
      refine XS.lloadN X0.here hx rfl (own_d hby d17_19) rfl ?_
      refine X0.ldc2J hx hown (mvT hZ (W hw 168)) rfl (own_d hby d17_20) ?_
      refine XS.land X0.here hx rfl (own_d hby d17_23) rfl ?_
      refine XS.lstore X0.here hx rfl (own_d hby d17_24) rfl (l' := #[.val (.long q1), .second, .val (.long q2), .second, .val (.long (q1 >>> ((32 : Int32) &&& 0x3f).toInt64)), .second, .val (.long (q1 &&& (4294967295 : Int64))), .second, .val (.long (q2 >>> ((32 : Int32) &&& 0x3f).toInt64)), .second, .val (.long (q2 &&& (4294967295 : Int64))), .second, .unset, .unset, .unset, .unset, .unset, .unset, .unset, .unset]) rfl ?_
      refine XS.lload X0.here hx rfl (own_d hby d17_26) rfl ?_
      refine XS.lload X0.here hx rfl (own_d hby d17_28) rfl ?_
      refine XS.lmul X0.here hx rfl (own_d hby d17_30) rfl ?_
      refine XS.lstore X0.here hx rfl (own_d hby d17_31) rfl (l' := #[.val (.long q1), .second, .val (.long q2), .second, .val (.long (q1 >>> ((32 : Int32) &&& 0x3f).toInt64)), .second, .val (.long (q1 &&& (4294967295 : Int64))), .second, .val (.long (q2 >>> ((32 : Int32) &&& 0x3f).toInt64)), .second, .val (.long (q2 &&& (4294967295 : Int64))), .second, .val (.long ((q1 &&& (4294967295 : Int64)) * (q2 &&& (4294967295 : Int64)))), .second, .unset, .unset, .unset, .unset, .unset, .unset]) rfl ?_
      refine XS.lload X0.here hx rfl (own_d hby d17_33) rfl ?_
      refine XS.lload X0.here hx rfl (own_d hby d17_35) rfl ?_
      refine XS.lmul X0.here hx rfl (own_d hby d17_37) rfl ?_
      refine XS.lload X0.here hx rfl (own_d hby d17_38) rfl ?_
      refine XT.bipushV X0.here hx rfl (32 : Int32) (own_d hby d17_40) (by decide) ?_
      refine XS.lushr X0.here hx rfl (own_d hby d17_42) rfl ?_
      refine XS.ladd X0.here hx rfl (own_d hby d17_43) rfl ?_
      refine XS.lstore X0.here hx rfl (own_d hby d17_44) rfl (l' := #[.val (.long q1), .second, .val (.long q2), .second, .val (.long (q1 >>> ((32 : Int32) &&& 0x3f).toInt64)), .second, .val (.long (q1 &&& (4294967295 : Int64))), .second, .val (.long (q2 >>> ((32 : Int32) &&& 0x3f).toInt64)), .second, .val (.long (q2 &&& (4294967295 : Int64))), .second, .val (.long ((q1 &&& (4294967295 : Int64)) * (q2 &&& (4294967295 : Int64)))), .second, .val (.long (((q1 >>> ((32 : Int32) &&& 0x3f).toInt64) * (q2 &&& (4294967295 : Int64))) + ((((q1 &&& (4294967295 : Int64)) * (q2 &&& (4294967295 : Int64))).toUInt64 >>> ((32 : Int32) &&& 0x3f).toInt64.toUInt64).toInt64))), .second, .unset, .unset, .unset, .unset]) rfl ?_
      refine XS.lload X0.here hx rfl (own_d hby d17_46) rfl ?_
      refine X0.ldc2J hx hown (mvT hZ (W hw 168)) rfl (own_d hby d17_48) ?_
      refine XS.land X0.here hx rfl (own_d hby d17_51) rfl ?_
      refine XS.lstore X0.here hx rfl (own_d hby d17_52) rfl (l' := #[.val (.long q1), .second, .val (.long q2), .second, .val (.long (q1 >>> ((32 : Int32) &&& 0x3f).toInt64)), .second, .val (.long (q1 &&& (4294967295 : Int64))), .second, .val (.long (q2 >>> ((32 : Int32) &&& 0x3f).toInt64)), .second, .val (.long (q2 &&& (4294967295 : Int64))), .second, .val (.long ((q1 &&& (4294967295 : Int64)) * (q2 &&& (4294967295 : Int64)))), .second, .val (.long (((q1 >>> ((32 : Int32) &&& 0x3f).toInt64) * (q2 &&& (4294967295 : Int64))) + ((((q1 &&& (4294967295 : Int64)) * (q2 &&& (4294967295 : Int64))).toUInt64 >>> ((32 : Int32) &&& 0x3f).toInt64.toUInt64).toInt64))), .second, .val (.long ((((q1 >>> ((32 : Int32) &&& 0x3f).toInt64) * (q2 &&& (4294967295 : Int64))) + ((((q1 &&& (4294967295 : Int64)) * (q2 &&& (4294967295 : Int64))).toUInt64 >>> ((32 : Int32) &&& 0x3f).toInt64.toUInt64).toInt64)) &&& (4294967295 : Int64))), .second, .unset, .unset]) rfl ?_
      refine XS.lload X0.here hx rfl (own_d hby d17_54) rfl ?_
      refine XT.bipushV X0.here hx rfl (32 : Int32) (own_d hby d17_56) (by decide) ?_
      refine XS.lshr X0.here hx rfl (own_d hby d17_58) rfl ?_
      refine XS.lstore X0.here hx rfl (own_d hby d17_59) rfl (l' := #[.val (.long q1), .second, .val (.long q2), .second, .val (.long (q1 >>> ((32 : Int32) &&& 0x3f).toInt64)), .second, .val (.long (q1 &&& (4294967295 : Int64))), .second, .val (.long (q2 >>> ((32 : Int32) &&& 0x3f).toInt64)), .second, .val (.long (q2 &&& (4294967295 : Int64))), .second, .val (.long ((q1 &&& (4294967295 : Int64)) * (q2 &&& (4294967295 : Int64)))), .second, .val (.long (((q1 >>> ((32 : Int32) &&& 0x3f).toInt64) * (q2 &&& (4294967295 : Int64))) + ((((q1 &&& (4294967295 : Int64)) * (q2 &&& (4294967295 : Int64))).toUInt64 >>> ((32 : Int32) &&& 0x3f).toInt64.toUInt64).toInt64))), .second, .val (.long ((((q1 >>> ((32 : Int32) &&& 0x3f).toInt64) * (q2 &&& (4294967295 : Int64))) + ((((q1 &&& (4294967295 : Int64)) * (q2 &&& (4294967295 : Int64))).toUInt64 >>> ((32 : Int32) &&& 0x3f).toInt64.toUInt64).toInt64)) &&& (4294967295 : Int64))), .second, .val (.long ((((q1 >>> ((32 : Int32) &&& 0x3f).toInt64) * (q2 &&& (4294967295 : Int64))) + ((((q1 &&& (4294967295 : Int64)) * (q2 &&& (4294967295 : Int64))).toUInt64 >>> ((32 : Int32) &&& 0x3f).toInt64.toUInt64).toInt64)) >>> ((32 : Int32) &&& 0x3f).toInt64)), .second]) rfl ?_
      refine XS.lload X0.here hx rfl (own_d hby d17_61) rfl ?_
      refine XS.lload X0.here hx rfl (own_d hby d17_63) rfl ?_
      refine XS.lload X0.here hx rfl (own_d hby d17_65) rfl ?_
      refine XS.lmul X0.here hx rfl (own_d hby d17_67) rfl ?_
      refine XS.ladd X0.here hx rfl (own_d hby d17_68) rfl ?_
      refine XS.lstore X0.here hx rfl (own_d hby d17_69) rfl (l' := #[.val (.long q1), .second, .val (.long q2), .second, .val (.long (q1 >>> ((32 : Int32) &&& 0x3f).toInt64)), .second, .val (.long (q1 &&& (4294967295 : Int64))), .second, .val (.long (q2 >>> ((32 : Int32) &&& 0x3f).toInt64)), .second, .val (.long (q2 &&& (4294967295 : Int64))), .second, .val (.long ((q1 &&& (4294967295 : Int64)) * (q2 &&& (4294967295 : Int64)))), .second, .val (.long (((q1 >>> ((32 : Int32) &&& 0x3f).toInt64) * (q2 &&& (4294967295 : Int64))) + ((((q1 &&& (4294967295 : Int64)) * (q2 &&& (4294967295 : Int64))).toUInt64 >>> ((32 : Int32) &&& 0x3f).toInt64.toUInt64).toInt64))), .second, .val (.long (((((q1 >>> ((32 : Int32) &&& 0x3f).toInt64) * (q2 &&& (4294967295 : Int64))) + ((((q1 &&& (4294967295 : Int64)) * (q2 &&& (4294967295 : Int64))).toUInt64 >>> ((32 : Int32) &&& 0x3f).toInt64.toUInt64).toInt64)) &&& (4294967295 : Int64)) + ((q1 &&& (4294967295 : Int64)) * (q2 >>> ((32 : Int32) &&& 0x3f).toInt64)))), .second, .val (.long ((((q1 >>> ((32 : Int32) &&& 0x3f).toInt64) * (q2 &&& (4294967295 : Int64))) + ((((q1 &&& (4294967295 : Int64)) * (q2 &&& (4294967295 : Int64))).toUInt64 >>> ((32 : Int32) &&& 0x3f).toInt64.toUInt64).toInt64)) >>> ((32 : Int32) &&& 0x3f).toInt64)), .second]) rfl ?_
      refine XS.lload X0.here hx rfl (own_d hby d17_71) rfl ?_
      refine XS.lload X0.here hx rfl (own_d hby d17_73) rfl ?_
      refine XS.lmul X0.here hx rfl (own_d hby d17_75) rfl ?_
      refine XS.lload X0.here hx rfl (own_d hby d17_76) rfl ?_
      refine XS.ladd X0.here hx rfl (own_d hby d17_78) rfl ?_
      refine XS.lload X0.here hx rfl (own_d hby d17_79) rfl ?_
      refine XT.bipushV X0.here hx rfl (32 : Int32) (own_d hby d17_81) (by decide) ?_
      refine XS.lshr X0.here hx rfl (own_d hby d17_83) rfl ?_
      refine XS.ladd X0.here hx rfl (own_d hby d17_84) rfl ?_
      exact Steps.refl _)
  obtain ⟨fs, hr, hrun, hended, hW, hsame⟩ := X0.leave (v := some (.long ((((q1 >>> ((32 : Int32) &&& 0x3f).toInt64) * (q2 >>> ((32 : Int32) &&& 0x3f).toInt64)) + ((((q1 >>> ((32 : Int32) &&& 0x3f).toInt64) * (q2 &&& (4294967295 : Int64))) + ((((q1 &&& (4294967295 : Int64)) * (q2 &&& (4294967295 : Int64))).toUInt64 >>> ((32 : Int32) &&& 0x3f).toInt64.toUInt64).toInt64)) >>> ((32 : Int32) &&& 0x3f).toInt64)) + ((((((q1 >>> ((32 : Int32) &&& 0x3f).toInt64) * (q2 &&& (4294967295 : Int64))) + ((((q1 &&& (4294967295 : Int64)) * (q2 &&& (4294967295 : Int64))).toUInt64 >>> ((32 : Int32) &&& 0x3f).toInt64.toUInt64).toInt64)) &&& (4294967295 : Int64)) + ((q1 &&& (4294967295 : Int64)) * (q2 >>> ((32 : Int32) &&& 0x3f).toInt64))) >>> ((32 : Int32) &&& 0x3f).toInt64)))) (fun h => by rw [Bd.returns] at h; cases h)
  subst hB0
  refine ⟨_, _, Steps.trans c101 ?_, hrun, hended, _, _, rfl, ?_, ⟨_, rfl⟩, hW, hsame.mono (by decide) (by decide)⟩
  · exact X0.lreturnOut hx Bd.returns (own_d hby d17_85) hr
  · show QMh q1 q2 h0 n0 _ s₁.heap _
    rw [e0]
    exact ⟨rfl, N0, rfl⟩
def QC (q1 q2 : Int64) (h0 : Heap) (n0 : Nat) (v : Option Value) (h : Heap) (L : List Loc) : Prop := v = some (.long (cellOf q1 q2)) ∧ Fr n0 L ∧ h = h0
set_option maxRecDepth 65536 in
set_option maxHeartbeats 40000000 in
theorem rmC (l : Launch) (Z : State) (a0 : Array Value) (hw : ∀ d ∈ tables_1, d.before a0 Z = true) (ws : List Jvm.Cond) (q1 q2 : Int64) (h0 : Heap) (n0 : Nat) (Z0 : n0 ≤ h0.size)  :
    MetFree l (⟨"com/example/waban/waban/ItemHash", "cell", "(JJ)J"⟩ : MethodName) (head1 (Jvm.Cond.code (⟨"com/example/waban/waban/ItemHash", "cell", "(JJ)J"⟩ : MethodName) prog_11_method_10_code 4 (some .long) :: ws) ({ frames := 1, cells := 0, slots := 0, locals := 31 } : Room)) (fun a U => a = #[(.long q1), (.long q2)] ∧ Z.Warmed39 U.vm ∧ U.heap = h0) (fun _ _ _ _ _ => True) (fun _ U o U' => ∃ vR LR, o = .returned vR ∧ QC q1 q2 h0 n0 vR U'.heap LR ∧ FrameEnd U o U' LR ({ frames := 1, cells := 0, slots := 0, locals := 31 } : Room).cells ({ frames := 1, cells := 0, slots := 0, locals := 31 } : Room).slots) := by
  refine MetFree.of_bodySF (plainFor_of_name pn_com_example_waban_waban_ItemHash) hisR ?_
  intro p e s m args below meth c s₁ Bd hml0 hP hK
  obtain ⟨rfl, hZ, hh⟩ := hP
  have hx := Bd.exec
  have hby := Bd.bytes
  have hml : c.maxLocals = 4 := hml0
  have hown : s.vm.findClass "com/example/waban/waban/ItemHash" = some m.cls := findClass_of_methodNamed Bd.named
  have hnm := (name_of_methodNamed Bd.named Bd.method).1
  have X0 : Stand p l e ({ frames := 1, cells := 0, slots := 0, locals := 31 } : Room) s m #[(.long q1), (.long q2)] below meth c s₁ [] 0 0 := Stand.of_body Bd
  have e0 : s₁.heap = h0 := by rw [← hh, Bd.state]; rfl
  have N0 := Fr.nil n0
  obtain ⟨B0, c0, hB0⟩ : ∃ B0, Steps p.tables e below B0 (s₁.setTop (mkF m 0 #[.val (.long q1), .second, .val (.long q2), .second] [])) ∧ B0 = s₁.setTop (entryFrame m #[(.long q1), (.long q2)] 4) := ⟨_, castTop (ef_JJ_4 m q1 q2) (Steps.refl _), rfl⟩
  have c101 : SS p e below B0 s₁ m 2 #[.val (.long q1), .second, .val (.long q2), .second] [(.long q2), (.long q1)] := Steps.trans c0 (by
      refine XS.lloadN X0.here hx rfl (own_d hby d18_0) rfl ?_
      refine XS.lloadN X0.here hx rfl (own_d hby d18_1) rfl ?_
      exact Steps.refl _)
  obtain ⟨_, _, ⟨T102, Lp102, kp102, np102⟩, -, X102, ⟨Lc102, hQ102, lp102, yp102, zp102⟩, st102⟩ := Jvm.LawKit.callS X0 hx (y := (⟨"java/lang/Math", "multiplyHigh", "(JJ)J"⟩ : MethodName)) hown (mvT hZ (W hw 164)) (mvT hZ (W hw 165)) (mvT hZ (W hw 166)) (mvT hZ (W hw 167)) (by decide) (backOf (W := 0) (rmMh l Z a0 hw [] q1 q2 h0 n0 Z0) hZ (W hw 167) (W hw 166) (by decide) (by decide)) (g := (mkF m 2 #[.val (.long q1), .second, .val (.long q2), .second] [(.long q2), (.long q1)])) rfl (by rw [hml]; rfl) (argsL := [(.long q1), (.long q2)]) (rest := []) (lenOf pd__JJ_J rfl) rfl (by show 2 * 0 + _ ≤ _; exact Nat.le_of_eq rfl) (own_d hby d18_2) (fun _ _ => ⟨rfl, e0, (by decide : 0 + 0 ≤ _), (by decide : 0 + 0 ≤ _)⟩)
  dsimp only [Pt.U, Pt.locs, Pt.cells, Pt.slots] at X102 lp102 yp102 zp102 st102 hQ102
  subst lp102 yp102 zp102
  obtain ⟨rfl, Nq102, eq102⟩ := hQ102
  have N102 := Fr.app N0 Nq102
  have c103 : SS p e below B0 T102 m 5 #[.val (.long q1), .second, .val (.long q2), .second] [(.long (mulh q1 q2))] := Steps.trans c101 (st102 _ (Steps.refl _))
  have c104 : SS p e below B0 T102 m 12 #[.val (.long q1), .second, .val (.long q2), .second] [(.long ((mulh q1 q2) + ((q1 >>> ((63 : Int32) &&& 0x3f).toInt64) &&& q2)))] := Steps.trans c103 (by
      refine XS.lloadN X102.here hx rfl (own_d hby d18_5) rfl ?_
      refine XT.bipushV X102.here hx rfl (63 : Int32) (own_d hby d18_6) (by decide) ?_
      refine XS.lshr X102.here hx rfl (own_d hby d18_8) rfl ?_
      refine XS.lloadN X102.here hx rfl (own_d hby d18_9) rfl ?_
      refine XS.land X102.here hx rfl (own_d hby d18_10) rfl ?_
      refine XS.ladd X102.here hx rfl (own_d hby d18_11) rfl ?_
      exact Steps.refl _)
  obtain ⟨fs, hr, hrun, hended, hW, hsame⟩ := X102.leave (v := some (.long ((mulh q1 q2) + ((q1 >>> ((63 : Int32) &&& 0x3f).toInt64) &&& q2)))) (fun h => by rw [Bd.returns] at h; cases h)
  subst hB0
  refine ⟨_, _, Steps.trans c104 ?_, hrun, hended, _, _, rfl, ?_, ⟨_, rfl⟩, hW, hsame.mono (by decide) (by decide)⟩
  · exact X102.lreturnOut hx Bd.returns (own_d hby d18_12) hr
  · show QC q1 q2 h0 n0 _ T102.heap _
    rw [eq102]
    exact ⟨rfl, N102, rfl⟩
def QI (Z : State) (a1 : Addr) (q1 : Int64) (h0 : Heap) (n0 : Nat) (r : Option Value) (h : Heap) (L : List Loc) : Prop := r = none ∧ Fr n0 L ∧ Keep h0 h [a1] ∧ Fld Z h a1 "com/example/waban/waban/ItemHash" "seed" "J" (.long q1)
set_option maxRecDepth 65536 in
set_option maxHeartbeats 40000000 in
theorem rmI (l : Launch) (Z : State) (a0 : Array Value) (hw : ∀ d ∈ tables_1, d.before a0 Z = true) (ws : List Jvm.Cond) (a1 : Addr) (q1 : Int64) (u0 : Value) (h0 : Heap) (n0 : Nat) (Z0 : n0 ≤ h0.size) (E1 : Exa Z h0 a1 "com/example/waban/waban/ItemHash") (F0 : Fld Z h0 a1 "com/example/waban/waban/ItemHash" "seed" "J" u0) (g1 : n0 ≤ a1) :
    MetFree l (⟨"com/example/waban/waban/ItemHash", "<init>", "(J)V"⟩ : MethodName) (head1 (Jvm.Cond.code (⟨"com/example/waban/waban/ItemHash", "<init>", "(J)V"⟩ : MethodName) prog_11_method_1_code 3 none :: ws) ({ frames := 1, cells := 0, slots := 0, locals := 12 } : Room)) (fun a U => a = #[(.ref a1), (.long q1)] ∧ Z.Warmed39 U.vm ∧ U.heap = h0) (fun _ _ _ _ _ => True) (fun _ U o U' => ∃ vR LR, o = .returned vR ∧ QI Z a1 q1 h0 n0 vR U'.heap LR ∧ FrameEnd U o U' LR ({ frames := 1, cells := 0, slots := 0, locals := 12 } : Room).cells ({ frames := 1, cells := 0, slots := 0, locals := 12 } : Room).slots) := by
  refine MetFree.of_bodySF (plainFor_of_name pn_com_example_waban_waban_ItemHash) hisR ?_
  intro p e s m args below meth c s₁ Bd hml0 hP hK
  obtain ⟨rfl, hZ, hh⟩ := hP
  have hx := Bd.exec
  have hby := Bd.bytes
  have hml : c.maxLocals = 3 := hml0
  have hown : s.vm.findClass "com/example/waban/waban/ItemHash" = some m.cls := findClass_of_methodNamed Bd.named
  have hnm := (name_of_methodNamed Bd.named Bd.method).1
  have X0 : Stand p l e ({ frames := 1, cells := 0, slots := 0, locals := 12 } : Room) s m #[(.ref a1), (.long q1)] below meth c s₁ [] 0 0 := Stand.of_body Bd
  have e0 : s₁.heap = h0 := by rw [← hh, Bd.state]; rfl
  have N0 := Fr.nil n0
  obtain ⟨B0, c0, hB0⟩ : ∃ B0, Steps p.tables e below B0 (s₁.setTop (mkF m 0 #[.val (.ref a1), .val (.long q1), .second] [])) ∧ B0 = s₁.setTop (entryFrame m #[(.ref a1), (.long q1)] 3) := ⟨_, castTop (ef_RJ_3 m a1 q1) (Steps.refl _), rfl⟩
  have lt_a1 : (@LT.lt Nat _ a1 h0.size) := E1.lt
  have c101 : SS p e below B0 s₁ m 1 #[.val (.ref a1), .val (.long q1), .second] [(.ref a1)] := Steps.trans c0 (by
      refine XS.aloadN X0.here hx rfl (own_d hby d19_0) rfl rfl ?_
      exact Steps.refl _)
  obtain ⟨T102, X102, e102, st102⟩ := initO X0 hx hZ hown (W hw 41) (W hw 8) (W hw 9) e0 (g := (mkF m 1 #[.val (.ref a1), .val (.long q1), .second] [(.ref a1)])) rfl (by rw [hml]; rfl) rfl (own_d hby d19_1) (by decide) (W := 0) (by show 2 * 0 + _ ≤ _; exact Nat.le_of_eq rfl) (by decide)
  have c103 : SS p e below B0 T102 m 4 #[.val (.ref a1), .val (.long q1), .second] [] := Steps.trans c101 (st102 _ (Steps.refl _))
  have c104 : SS p e below B0 T102 m 6 #[.val (.ref a1), .val (.long q1), .second] [(.long q1), (.ref a1)] := Steps.trans c103 (by
      refine XS.aloadN X102.here hx rfl (own_d hby d19_4) rfl rfl ?_
      refine XS.lloadN X102.here hx rfl (own_d hby d19_5) rfl ?_
      exact Steps.refl _)
  obtain ⟨T105, h105, X105, e105, W105, st105⟩ := putF X102 hx hZ hown (host := "") (Or.inl (W hw 42)) Via.refl e102 F0 E1 (Or.inr ⟨(W hw 43), rfl, hnm⟩) (W hw 36) (ty := .long) (by decide) rfl rfl (g := (mkF m 6 #[.val (.ref a1), .val (.long q1), .second] [(.long q1), (.ref a1)])) rfl rfl (own_d hby d19_6)
  have N105 := Fr.snoc X105 N0 (by omega)
  have F105 : Fld Z h105 a1 "com/example/waban/waban/ItemHash" "seed" "J" (.long q1) := F0.same W105
  have z105 : h105.size = h0.size := W105.size
  have K105 := (Keep.refl h0 [a1]).wr W105 (Or.inl (List.mem_of_getElem? (i := 0) rfl))
  have c106 : SS p e below B0 T105 m 9 #[.val (.ref a1), .val (.long q1), .second] [] := Steps.trans c104 (st105 _ (Steps.refl _))
  obtain ⟨fs, hr, hrun, hended, hW, hsame⟩ := X105.leave (v := none) (fun _ => rfl)
  subst hB0
  refine ⟨_, _, Steps.trans c106 ?_, hrun, hended, _, _, rfl, ?_, ⟨_, rfl⟩, hW, hsame.mono (by decide) (by decide)⟩
  · exact X105.returnOut hx Bd.returns (own_d hby d19_9) hr
  · show QI Z a1 q1 h0 n0 _ T105.heap _
    rw [e105]
    exact ⟨rfl, N105, K105, F105⟩
def QRe  (h0 : Heap) (n0 : Nat) (v : Option Value) (h : Heap) (L : List Loc) : Prop := v = some .null ∧ Fr n0 L ∧ h = h0
set_option maxRecDepth 65536 in
set_option maxHeartbeats 40000000 in
theorem rmRe (l : Launch) (Z : State) (a0 : Array Value) (hw : ∀ d ∈ tables_1, d.before a0 Z = true) (ws : List Jvm.Cond) (a1 : Addr) (q1 q2 q3 : Int64) (h0 : Heap) (n0 : Nat) (Z0 : n0 ≤ h0.size) (hp1 : ¬ q2 < q1) (hp2 : ¬ q3 < q2) :
    MetFree l (⟨"com/example/waban/waban/ArgumentChecks", "rangeError", "(Ljava/lang/String;JJJ)Ljava/lang/String;"⟩ : MethodName) (head1 (Jvm.Cond.code (⟨"com/example/waban/waban/ArgumentChecks", "rangeError", "(Ljava/lang/String;JJJ)Ljava/lang/String;"⟩ : MethodName) prog_1_method_4_code 8 (some (.object "java/lang/String")) :: ws) ({ frames := 0, cells := 0, slots := 0, locals := 0 } : Room)) (fun a U => a = #[(.ref a1), (.long q1), (.long q2), (.long q3)] ∧ Z.Warmed39 U.vm ∧ U.heap = h0) (fun _ _ _ _ _ => True) (fun _ U o U' => ∃ vR LR, o = .returned vR ∧ QRe h0 n0 vR U'.heap LR ∧ FrameEnd U o U' LR ({ frames := 0, cells := 0, slots := 0, locals := 0 } : Room).cells ({ frames := 0, cells := 0, slots := 0, locals := 0 } : Room).slots) := by
  refine MetFree.of_bodySF (plainFor_of_name pn_com_example_waban_waban_ArgumentChecks) hisR ?_
  intro p e s m args below meth c s₁ Bd hml0 hP hK
  obtain ⟨rfl, hZ, hh⟩ := hP
  have hx := Bd.exec
  have hby := Bd.bytes
  have hml : c.maxLocals = 8 := hml0
  have hown : s.vm.findClass "com/example/waban/waban/ArgumentChecks" = some m.cls := findClass_of_methodNamed Bd.named
  have hnm := (name_of_methodNamed Bd.named Bd.method).1
  have X0 : Stand p l e ({ frames := 0, cells := 0, slots := 0, locals := 0 } : Room) s m #[(.ref a1), (.long q1), (.long q2), (.long q3)] below meth c s₁ [] 0 0 := Stand.of_body Bd
  have e0 : s₁.heap = h0 := by rw [← hh, Bd.state]; rfl
  have N0 := Fr.nil n0
  obtain ⟨B0, c0, hB0⟩ : ∃ B0, Steps p.tables e below B0 (s₁.setTop (mkF m 0 #[.val (.ref a1), .val (.long q1), .second, .val (.long q2), .second, .val (.long q3), .second, .unset] [])) ∧ B0 = s₁.setTop (entryFrame m #[(.ref a1), (.long q1), (.long q2), (.long q3)] 8) := ⟨_, castTop (ef_RJJJ_8 m a1 q1 q2 q3) (Steps.refl _), rfl⟩
  have c101 : SS p e below B0 s₁ m 30 #[.val (.ref a1), .val (.long q1), .second, .val (.long q2), .second, .val (.long q3), .second, .val .null] [.null] := Steps.trans c0 (by
      refine XS.aconstNull X0.here hx rfl (own_d hby d20_0) ?_
      refine XS.astore X0.here hx rfl (own_d hby d20_1) rfl rfl (l' := #[.val (.ref a1), .val (.long q1), .second, .val (.long q2), .second, .val (.long q3), .second, .val .null]) rfl ?_
      refine XS.lloadN X0.here hx rfl (own_d hby d20_3) rfl ?_
      refine XS.lloadN X0.here hx rfl (own_d hby d20_4) rfl ?_
      refine XS.lcmp X0.here hx rfl (own_d hby d20_5) rfl ?_
      refine XS.ifNo X0.here hx rfl (own_d hby d20_6) rfl ((if0 _ _).trans (flt (fun z => hp1 ((lw_lt _ _).mp z))).1) ?_
      refine XS.lloadN X0.here hx rfl (own_d hby d20_9) rfl ?_
      refine XS.lload X0.here hx rfl (own_d hby d20_10) rfl ?_
      refine XS.lcmp X0.here hx rfl (own_d hby d20_12) rfl ?_
      refine XS.ifYes X0.here hx rfl (pc0 := 13) (pc' := 28) rfl (own_d hby d20_13) rfl ((if0 _ _).trans (flt (fun z => hp2 ((lw_gt _ _).mp z))).2.2.2) (by decide) (by decide) ?_
      refine XS.aload X0.here hx rfl (own_d hby d20_28) rfl rfl ?_
      exact Steps.refl _)
  obtain ⟨fs, hr, hrun, hended, hW, hsame⟩ := X0.leave (v := some .null) (fun h => by rw [Bd.returns] at h; cases h)
  subst hB0
  refine ⟨_, _, Steps.trans c101 ?_, hrun, hended, _, _, rfl, ?_, ⟨_, rfl⟩, hW, hsame.mono (by decide) (by decide)⟩
  · exact retR X0 hx Bd.returns rfl rfl rfl (own_d hby d20_30) hr
  · show QRe h0 n0 _ s₁.heap _
    rw [e0]
    exact ⟨rfl, N0, rfl⟩
def QS3  (h0 : Heap) (n0 : Nat) (v : Option Value) (h : Heap) (L : List Loc) : Prop := v = some .null ∧ Fr n0 L ∧ h = h0
set_option maxRecDepth 65536 in
set_option maxHeartbeats 40000000 in
theorem rmS3 (l : Launch) (Z : State) (a0 : Array Value) (hw : ∀ d ∈ tables_1, d.before a0 Z = true) (ws : List Jvm.Cond) (a1 a2 : Addr) (q1 q2 q3 : Int64) (h0 : Heap) (n0 : Nat) (Z0 : n0 ≤ h0.size) (hp1 : ¬ q2 < q1) (hp2 : ¬ q3 < q2) :
    MetFree l (⟨"com/example/waban/waban/ArgumentChecks", "sizeError", "(Ljava/lang/String;JJJLjava/lang/String;I)Ljava/lang/String;"⟩ : MethodName) (head1 (Jvm.Cond.code (⟨"com/example/waban/waban/ArgumentChecks", "sizeError", "(Ljava/lang/String;JJJLjava/lang/String;I)Ljava/lang/String;"⟩ : MethodName) prog_1_method_3_code 10 (some (.object "java/lang/String")) :: ws) ({ frames := 1, cells := 0, slots := 0, locals := 19 } : Room)) (fun a U => a = #[(.ref a1), (.long q1), (.long q2), (.long q3), (.ref a2), (.int (1 : Int32))] ∧ Z.Warmed39 U.vm ∧ U.heap = h0) (fun _ _ _ _ _ => True) (fun _ U o U' => ∃ vR LR, o = .returned vR ∧ QS3 h0 n0 vR U'.heap LR ∧ FrameEnd U o U' LR ({ frames := 1, cells := 0, slots := 0, locals := 19 } : Room).cells ({ frames := 1, cells := 0, slots := 0, locals := 19 } : Room).slots) := by
  refine MetFree.of_bodySF (plainFor_of_name pn_com_example_waban_waban_ArgumentChecks) hisR ?_
  intro p e s m args below meth c s₁ Bd hml0 hP hK
  obtain ⟨rfl, hZ, hh⟩ := hP
  have hx := Bd.exec
  have hby := Bd.bytes
  have hml : c.maxLocals = 10 := hml0
  have hown : s.vm.findClass "com/example/waban/waban/ArgumentChecks" = some m.cls := findClass_of_methodNamed Bd.named
  have hnm := (name_of_methodNamed Bd.named Bd.method).1
  have X0 : Stand p l e ({ frames := 1, cells := 0, slots := 0, locals := 19 } : Room) s m #[(.ref a1), (.long q1), (.long q2), (.long q3), (.ref a2), (.int (1 : Int32))] below meth c s₁ [] 0 0 := Stand.of_body Bd
  have e0 : s₁.heap = h0 := by rw [← hh, Bd.state]; rfl
  have N0 := Fr.nil n0
  obtain ⟨B0, c0, hB0⟩ : ∃ B0, Steps p.tables e below B0 (s₁.setTop (mkF m 0 #[.val (.ref a1), .val (.long q1), .second, .val (.long q2), .second, .val (.long q3), .second, .val (.ref a2), .val (.int (1 : Int32)), .unset] [])) ∧ B0 = s₁.setTop (entryFrame m #[(.ref a1), (.long q1), (.long q2), (.long q3), (.ref a2), (.int (1 : Int32))] 10) := ⟨_, castTop (ef_RJJJRI_10 m a1 q1 q2 q3 a2 (1 : Int32)) (Steps.refl _), rfl⟩
  have c101 : SS p e below B0 s₁ m 5 #[.val (.ref a1), .val (.long q1), .second, .val (.long q2), .second, .val (.long q3), .second, .val (.ref a2), .val (.int (1 : Int32)), .unset] [(.long q3), (.long q2), (.long q1), (.ref a1)] := Steps.trans c0 (by
      refine XS.aloadN X0.here hx rfl (own_d hby d21_0) rfl rfl ?_
      refine XS.lloadN X0.here hx rfl (own_d hby d21_1) rfl ?_
      refine XS.lloadN X0.here hx rfl (own_d hby d21_2) rfl ?_
      refine XS.lload X0.here hx rfl (own_d hby d21_3) rfl ?_
      exact Steps.refl _)
  obtain ⟨_, _, ⟨T102, Lp102, kp102, np102⟩, -, X102, ⟨Lc102, hQ102, lp102, yp102, zp102⟩, st102⟩ := Jvm.LawKit.callS X0 hx (y := (⟨"com/example/waban/waban/ArgumentChecks", "rangeError", "(Ljava/lang/String;JJJ)Ljava/lang/String;"⟩ : MethodName)) hown (mvT hZ (W hw 27)) (mvT hZ (W hw 28)) (mvT hZ (W hw 22)) (mvT hZ (W hw 29)) (by decide) (backOf (W := 0) (rmRe l Z a0 hw [] a1 q1 q2 q3 h0 n0 Z0 hp1 hp2) hZ (W hw 29) (W hw 22) (by decide) (by decide)) (g := (mkF m 5 #[.val (.ref a1), .val (.long q1), .second, .val (.long q2), .second, .val (.long q3), .second, .val (.ref a2), .val (.int (1 : Int32)), .unset] [(.long q3), (.long q2), (.long q1), (.ref a1)])) rfl (by rw [hml]; rfl) (argsL := [(.ref a1), (.long q1), (.long q2), (.long q3)]) (rest := []) (lenOf pd__Ljava_lang_String_JJJ_Ljava_lang_String_ rfl) rfl (by show 2 * 0 + _ ≤ _; exact Nat.le_of_eq rfl) (own_d hby d21_5) (fun _ _ => ⟨rfl, e0, (by decide : 0 + 0 ≤ _), (by decide : 0 + 0 ≤ _)⟩)
  dsimp only [Pt.U, Pt.locs, Pt.cells, Pt.slots] at X102 lp102 yp102 zp102 st102 hQ102
  subst lp102 yp102 zp102
  obtain ⟨rfl, Nq102, eq102⟩ := hQ102
  have N102 := Fr.app N0 Nq102
  have c103 : SS p e below B0 T102 m 8 #[.val (.ref a1), .val (.long q1), .second, .val (.long q2), .second, .val (.long q3), .second, .val (.ref a2), .val (.int (1 : Int32)), .unset] [.null] := Steps.trans c101 (st102 _ (Steps.refl _))
  have c104 : SS p e below B0 T102 m 24 #[.val (.ref a1), .val (.long q1), .second, .val (.long q2), .second, .val (.long q3), .second, .val (.ref a2), .val (.int (1 : Int32)), .val .null] [(.long (4096 : Int64)), (.long ((1 : Int32).toInt64)), (.long (1 : Int64)), (.ref a2)] := Steps.trans c103 (by
      refine XS.astore X102.here hx rfl (own_d hby d21_8) rfl rfl (l' := #[.val (.ref a1), .val (.long q1), .second, .val (.long q2), .second, .val (.long q3), .second, .val (.ref a2), .val (.int (1 : Int32)), .val .null]) rfl ?_
      refine XS.aload X102.here hx rfl (own_d hby d21_10) rfl rfl ?_
      refine XS.ifnonnullNo X102.here hx rfl (own_d hby d21_12) rfl ?_
      refine XS.aload X102.here hx rfl (own_d hby d21_15) rfl rfl ?_
      refine XT.lconstV X102.here hx rfl (1 : Int64) (own_d hby d21_17) (by decide) ?_
      refine XS.iload X102.here hx rfl (own_d hby d21_18) rfl ?_
      refine XS.i2l X102.here hx rfl (own_d hby d21_20) rfl ?_
      refine X102.ldc2J hx hown (mvT hZ (W hw 30)) rfl (own_d hby d21_21) ?_
      exact Steps.refl _)
  obtain ⟨_, _, ⟨T105, Lp105, kp105, np105⟩, -, X105, ⟨Lc105, hQ105, lp105, yp105, zp105⟩, st105⟩ := Jvm.LawKit.callS X102 hx (y := (⟨"com/example/waban/waban/ArgumentChecks", "rangeError", "(Ljava/lang/String;JJJ)Ljava/lang/String;"⟩ : MethodName)) hown (mvT hZ (W hw 27)) (mvT hZ (W hw 28)) (mvT hZ (W hw 22)) (mvT hZ (W hw 29)) (by decide) (backOf (W := 0) (rmRe l Z a0 hw [] a2 1 ((1 : Int32).toInt64) 4096 h0 n0 Z0 (by decide) (by decide)) hZ (W hw 29) (W hw 22) (by decide) (by decide)) (g := (mkF m 24 #[.val (.ref a1), .val (.long q1), .second, .val (.long q2), .second, .val (.long q3), .second, .val (.ref a2), .val (.int (1 : Int32)), .val .null] [(.long (4096 : Int64)), (.long ((1 : Int32).toInt64)), (.long (1 : Int64)), (.ref a2)])) rfl (by rw [hml]; rfl) (argsL := [(.ref a2), (.long (1 : Int64)), (.long ((1 : Int32).toInt64)), (.long (4096 : Int64))]) (rest := []) (lenOf pd__Ljava_lang_String_JJJ_Ljava_lang_String_ rfl) rfl (by show 2 * 0 + _ ≤ _; exact Nat.le_of_eq rfl) (own_d hby d21_24) (fun _ _ => ⟨rfl, eq102, (by decide : 0 + 0 ≤ _), (by decide : 0 + 0 ≤ _)⟩)
  dsimp only [Pt.U, Pt.locs, Pt.cells, Pt.slots] at X105 lp105 yp105 zp105 st105 hQ105
  subst lp105 yp105 zp105
  obtain ⟨rfl, Nq105, eq105⟩ := hQ105
  have N105 := Fr.app N102 Nq105
  have c106 : SS p e below B0 T105 m 27 #[.val (.ref a1), .val (.long q1), .second, .val (.long q2), .second, .val (.long q3), .second, .val (.ref a2), .val (.int (1 : Int32)), .val .null] [.null] := Steps.trans c104 (st105 _ (Steps.refl _))
  have c107 : SS p e below B0 T105 m 31 #[.val (.ref a1), .val (.long q1), .second, .val (.long q2), .second, .val (.long q3), .second, .val (.ref a2), .val (.int (1 : Int32)), .val .null] [.null] := Steps.trans c106 (by
      refine XS.astore X105.here hx rfl (own_d hby d21_27) rfl rfl (l' := #[.val (.ref a1), .val (.long q1), .second, .val (.long q2), .second, .val (.long q3), .second, .val (.ref a2), .val (.int (1 : Int32)), .val .null]) rfl ?_
      refine XS.aload X105.here hx rfl (own_d hby d21_29) rfl rfl ?_
      exact Steps.refl _)
  obtain ⟨fs, hr, hrun, hended, hW, hsame⟩ := X105.leave (v := some .null) (fun h => by rw [Bd.returns] at h; cases h)
  subst hB0
  refine ⟨_, _, Steps.trans c107 ?_, hrun, hended, _, _, rfl, ?_, ⟨_, rfl⟩, hW, hsame.mono (by decide) (by decide)⟩
  · exact retR X105 hx Bd.returns rfl rfl rfl (own_d hby d21_31) hr
  · show QS3 h0 n0 _ T105.heap _
    rw [eq105]
    exact ⟨rfl, N105, rfl⟩
def QS2  (h0 : Heap) (n0 : Nat) (v : Option Value) (h : Heap) (L : List Loc) : Prop := v = some .null ∧ Fr n0 L ∧ h = h0
set_option maxRecDepth 65536 in
set_option maxHeartbeats 40000000 in
theorem rmS2 (l : Launch) (Z : State) (a0 : Array Value) (hw : ∀ d ∈ tables_1, d.before a0 Z = true) (ws : List Jvm.Cond) (a1 a2 : Addr) (q2 q3 : Int64) (h0 : Heap) (n0 : Nat) (Z0 : n0 ≤ h0.size) (hp1 : ¬ q2 < (1 : Int64)) (hp2 : ¬ q3 < q2) :
    MetFree l (⟨"com/example/waban/waban/ArgumentChecks", "sizeError", "(Ljava/lang/String;JJLjava/lang/String;I)Ljava/lang/String;"⟩ : MethodName) (head1 (Jvm.Cond.code (⟨"com/example/waban/waban/ArgumentChecks", "sizeError", "(Ljava/lang/String;JJLjava/lang/String;I)Ljava/lang/String;"⟩ : MethodName) prog_1_method_2_code 7 (some (.object "java/lang/String")) :: ws) ({ frames := 2, cells := 0, slots := 0, locals := 40 } : Room)) (fun a U => a = #[(.ref a1), (.long q2), (.long q3), (.ref a2), (.int (1 : Int32))] ∧ Z.Warmed39 U.vm ∧ U.heap = h0) (fun _ _ _ _ _ => True) (fun _ U o U' => ∃ vR LR, o = .returned vR ∧ QS2 h0 n0 vR U'.heap LR ∧ FrameEnd U o U' LR ({ frames := 2, cells := 0, slots := 0, locals := 40 } : Room).cells ({ frames := 2, cells := 0, slots := 0, locals := 40 } : Room).slots) := by
  refine MetFree.of_bodySF (plainFor_of_name pn_com_example_waban_waban_ArgumentChecks) hisR ?_
  intro p e s m args below meth c s₁ Bd hml0 hP hK
  obtain ⟨rfl, hZ, hh⟩ := hP
  have hx := Bd.exec
  have hby := Bd.bytes
  have hml : c.maxLocals = 7 := hml0
  have hown : s.vm.findClass "com/example/waban/waban/ArgumentChecks" = some m.cls := findClass_of_methodNamed Bd.named
  have hnm := (name_of_methodNamed Bd.named Bd.method).1
  have X0 : Stand p l e ({ frames := 2, cells := 0, slots := 0, locals := 40 } : Room) s m #[(.ref a1), (.long q2), (.long q3), (.ref a2), (.int (1 : Int32))] below meth c s₁ [] 0 0 := Stand.of_body Bd
  have e0 : s₁.heap = h0 := by rw [← hh, Bd.state]; rfl
  have N0 := Fr.nil n0
  obtain ⟨B0, c0, hB0⟩ : ∃ B0, Steps p.tables e below B0 (s₁.setTop (mkF m 0 #[.val (.ref a1), .val (.long q2), .second, .val (.long q3), .second, .val (.ref a2), .val (.int (1 : Int32))] [])) ∧ B0 = s₁.setTop (entryFrame m #[(.ref a1), (.long q2), (.long q3), (.ref a2), (.int (1 : Int32))] 7) := ⟨_, castTop (ef_RJJRI_7 m a1 q2 q3 a2 (1 : Int32)) (Steps.refl _), rfl⟩
  have c101 : SS p e below B0 s₁ m 8 #[.val (.ref a1), .val (.long q2), .second, .val (.long q3), .second, .val (.ref a2), .val (.int (1 : Int32))] [(.int (1 : Int32)), (.ref a2), (.long q3), (.long q2), (.long (1 : Int64)), (.ref a1)] := Steps.trans c0 (by
      refine XS.aloadN X0.here hx rfl (own_d hby d22_0) rfl rfl ?_
      refine XT.lconstV X0.here hx rfl (1 : Int64) (own_d hby d22_1) (by decide) ?_
      refine XS.lloadN X0.here hx rfl (own_d hby d22_2) rfl ?_
      refine XS.lloadN X0.here hx rfl (own_d hby d22_3) rfl ?_
      refine XS.aload X0.here hx rfl (own_d hby d22_4) rfl rfl ?_
      refine XS.iload X0.here hx rfl (own_d hby d22_6) rfl ?_
      exact Steps.refl _)
  obtain ⟨_, _, ⟨T102, Lp102, kp102, np102⟩, -, X102, ⟨Lc102, hQ102, lp102, yp102, zp102⟩, st102⟩ := Jvm.LawKit.callS X0 hx (y := (⟨"com/example/waban/waban/ArgumentChecks", "sizeError", "(Ljava/lang/String;JJJLjava/lang/String;I)Ljava/lang/String;"⟩ : MethodName)) hown (mvT hZ (W hw 24)) (mvT hZ (W hw 25)) (mvT hZ (W hw 22)) (mvT hZ (W hw 26)) (by decide) (backOf (W := 0) (rmS3 l Z a0 hw [] a1 a2 1 q2 q3 h0 n0 Z0 hp1 hp2) hZ (W hw 26) (W hw 22) (by decide) (by decide)) (g := (mkF m 8 #[.val (.ref a1), .val (.long q2), .second, .val (.long q3), .second, .val (.ref a2), .val (.int (1 : Int32))] [(.int (1 : Int32)), (.ref a2), (.long q3), (.long q2), (.long (1 : Int64)), (.ref a1)])) rfl (by rw [hml]; rfl) (argsL := [(.ref a1), (.long (1 : Int64)), (.long q2), (.long q3), (.ref a2), (.int (1 : Int32))]) (rest := []) (lenOf pd__Ljava_lang_String_JJJLjava_lang_String_I_Ljava_lang_String_ rfl) rfl (by show 2 * 0 + _ ≤ _; exact Nat.le_of_eq rfl) (own_d hby d22_8) (fun _ _ => ⟨rfl, e0, (by decide : 0 + 0 ≤ _), (by decide : 0 + 0 ≤ _)⟩)
  dsimp only [Pt.U, Pt.locs, Pt.cells, Pt.slots] at X102 lp102 yp102 zp102 st102 hQ102
  subst lp102 yp102 zp102
  obtain ⟨rfl, Nq102, eq102⟩ := hQ102
  have N102 := Fr.app N0 Nq102
  have c103 : SS p e below B0 T102 m 11 #[.val (.ref a1), .val (.long q2), .second, .val (.long q3), .second, .val (.ref a2), .val (.int (1 : Int32))] [.null] := Steps.trans c101 (st102 _ (Steps.refl _))
  obtain ⟨fs, hr, hrun, hended, hW, hsame⟩ := X102.leave (v := some .null) (fun h => by rw [Bd.returns] at h; cases h)
  subst hB0
  refine ⟨_, _, Steps.trans c103 ?_, hrun, hended, _, _, rfl, ?_, ⟨_, rfl⟩, hW, hsame.mono (by decide) (by decide)⟩
  · exact retR X102 hx Bd.returns rfl rfl rfl (own_d hby d22_11) hr
  · show QS2 h0 n0 _ T102.heap _
    rw [eq102]
    exact ⟨rfl, N102, rfl⟩
def QB (Z : State) (a1 : Addr) (mm sd : Int64) (u4 : Value) (h0 : Heap) (n0 : Nat) (r : Option Value) (h : Heap) (L : List Loc) : Prop := r = none ∧ Fr n0 L ∧ Keep h0 h [a1] ∧ ∃ (ih wd : Addr) (kw : ClassId), h0.size ≤ ih ∧ h0.size ≤ wd ∧ (@Ne Nat ih wd) ∧ Fld Z h a1 "com/example/waban/waban/BloomFilter" "bitCount" "J" (.long mm) ∧ Fld Z h a1 "com/example/waban/waban/BloomFilter" "hashCount" "I" (.int (1 : Int32)) ∧ Fld Z h a1 "com/example/waban/waban/BloomFilter" "itemHash" "Lcom/example/waban/waban/ItemHash;" (.ref ih) ∧ Fld Z h a1 "com/example/waban/waban/BloomFilter" "words" "[J" (.ref wd) ∧ Exa Z h ih "com/example/waban/waban/ItemHash" ∧ Fld Z h ih "com/example/waban/waban/ItemHash" "seed" "J" (.long sd) ∧ Arv Z h wd kw .long (nwords mm) [] (.long (0 : Int64)) ∧ Fld Z h a1 "com/example/waban/waban/BloomFilter" "itemCount" "J" u4
set_option maxRecDepth 65536 in
set_option maxHeartbeats 40000000 in
theorem rmB (l : Launch) (Z : State) (a0 : Array Value) (hw : ∀ d ∈ tables_1, d.before a0 Z = true) (ws : List Jvm.Cond) (a1 : Addr) (mm sd : Int64) (u0 u1 u2 u3 u4 : Value) (h0 : Heap) (n0 : Nat) (Z0 : n0 ≤ h0.size) (E1 : Exa Z h0 a1 "com/example/waban/waban/BloomFilter") (F0 : Fld Z h0 a1 "com/example/waban/waban/BloomFilter" "bitCount" "J" u0) (F1 : Fld Z h0 a1 "com/example/waban/waban/BloomFilter" "hashCount" "I" u1) (F2 : Fld Z h0 a1 "com/example/waban/waban/BloomFilter" "itemHash" "Lcom/example/waban/waban/ItemHash;" u2) (F3 : Fld Z h0 a1 "com/example/waban/waban/BloomFilter" "words" "[J" u3) (F4 : Fld Z h0 a1 "com/example/waban/waban/BloomFilter" "itemCount" "J" u4) (g1 : n0 ≤ a1) (hm1 : ¬ mm < (1 : Int64)) (hm2 : ¬ (137438952896 : Int64) < mm) (hn1 : ¬ nwords mm < 0) (hn2 : (nwords mm).toNatClampNeg ≤ 64) (hEL : EW Z a0 consts_1) :
    MetFree l (⟨"com/example/waban/waban/BloomFilter", "<init>", "(JIJ)V"⟩ : MethodName) (head1 (Jvm.Cond.code (⟨"com/example/waban/waban/BloomFilter", "<init>", "(JIJ)V"⟩ : MethodName) prog_2_method_1_code 7 none :: ws) ({ frames := 3, cells := 6, slots := 141, locals := 58 } : Room)) (fun a U => a = #[(.ref a1), (.long mm), (.int (1 : Int32)), (.long sd)] ∧ Z.Warmed39 U.vm ∧ U.heap = h0 ∧ CHv Z consts_1 U.vm h0) (fun _ _ _ _ _ => True) (fun _ U o U' => ∃ vR LR, o = .returned vR ∧ QB Z a1 mm sd u4 h0 n0 vR U'.heap LR ∧ CHr Z consts_1 U.vm U.heap U'.vm U'.heap ∧ ReturnedEndW U o U' LR ({ frames := 3, cells := 6, slots := 141, locals := 58 } : Room).cells ({ frames := 3, cells := 6, slots := 141, locals := 58 } : Room).slots) := by
  refine MetFree.of_bodySF (plainFor_of_name pn_com_example_waban_waban_BloomFilter) hisR ?_
  intro p e s m args below meth c s₁ Bd hml0 hP hK
  obtain ⟨rfl, hZ, hh, H0⟩ := hP
  have hx := Bd.exec
  have hby := Bd.bytes
  have hml : c.maxLocals = 7 := hml0
  have hown : s.vm.findClass "com/example/waban/waban/BloomFilter" = some m.cls := findClass_of_methodNamed Bd.named
  have hnm := (name_of_methodNamed Bd.named Bd.method).1
  have hown : (s.setVm s.vm).vm.findClass "com/example/waban/waban/BloomFilter" = some m.cls := hown
  have hZ : Z.Warmed39 (s.setVm s.vm).vm := hZ
  have X0 : Stand p l e ({ frames := 3, cells := 6, slots := 141, locals := 58 } : Room) (s.setVm s.vm) m #[(.ref a1), (.long mm), (.int (1 : Int32)), (.long sd)] below meth c s₁ [] 0 0 := Stand.of_body Bd
  have C0 := CHr.refl H0
  have hS0 : s.Since s.vm h0.size := (State.WarmedH.refl s).since _
  have hk0 : h0.size ≤ h0.size := Nat.le_refl _
  have wS : ∀ a ∈ Bundle.stringAtoms, a.before a0 Z = true := fun d hd => hw d ((by decide +kernel : ∀ d ∈ Bundle.stringAtoms, d ∈ tables_1) d hd)
  have e0 : s₁.heap = h0 := by rw [← hh, Bd.state]; rfl
  have N0 := Fr.nil n0
  obtain ⟨B0, c0, hB0⟩ : ∃ B0, Steps p.tables e below B0 (s₁.setTop (mkF m 0 #[.val (.ref a1), .val (.long mm), .second, .val (.int (1 : Int32)), .val (.long sd), .second, .unset] [])) ∧ B0 = s₁.setTop (entryFrame m #[(.ref a1), (.long mm), (.int (1 : Int32)), (.long sd)] 7) := ⟨_, castTop (ef_RJIJ_7 m a1 mm (1 : Int32) sd) (Steps.refl _), rfl⟩
  have lt_a1 : (@LT.lt Nat _ a1 h0.size) := E1.lt
  have c101 : SS p e below B0 s₁ m 1 #[.val (.ref a1), .val (.long mm), .second, .val (.int (1 : Int32)), .val (.long sd), .second, .unset] [(.ref a1)] := Steps.trans c0 (by
      refine XS.aloadN X0.here hx rfl (own_d hby d23_0) rfl rfl ?_
      exact Steps.refl _)
  obtain ⟨T102, X102, e102, st102⟩ := initO X0 hx hZ hown (W hw 7) (W hw 8) (W hw 9) e0 (g := (mkF m 1 #[.val (.ref a1), .val (.long mm), .second, .val (.int (1 : Int32)), .val (.long sd), .second, .unset] [(.ref a1)])) rfl (by rw [hml]; rfl) rfl (own_d hby d23_1) (by decide) (W := 0) (by show 2 * 0 + _ ≤ _; exact Nat.le_of_eq rfl) (by decide)
  have c103 : SS p e below B0 T102 m 4 #[.val (.ref a1), .val (.long mm), .second, .val (.int (1 : Int32)), .val (.long sd), .second, .unset] [] := Steps.trans c101 (st102 _ (Steps.refl _))
  obtain ⟨l1, T104, h104, k1_104, X104, e104, E104, hS104, hk104, hZ104, ho104, ch104, li104, st104⟩ := ldcOH X102 hx hZ hown (W hw 10) wS e102 hS0 (by omega) hEL H0 (g := (mkF m 4 #[.val (.ref a1), .val (.long mm), .second, .val (.int (1 : Int32)), .val (.long sd), .second, .unset] [])) rfl (own_d hby d23_4) (n := 32) (by decide +kernel) (by decide) (by decide) (by decide)
  have z104 : h0.size ≤ h104.size := E104.1
  have H104 : CHv Z consts_1 T104.vm h104 := ch104.1
  have C104 := CHr.trans C0 ch104
  have K104 := (Keep.refl h0 [a1]).ext E104
  have c105 : SS p e below B0 T104 m 6 #[.val (.ref a1), .val (.long mm), .second, .val (.int (1 : Int32)), .val (.long sd), .second, .unset] [(.ref l1)] := Steps.trans c103 (st104 _ (Steps.refl _))
  have c106 : SS p e below B0 T104 m 10 #[.val (.ref a1), .val (.long mm), .second, .val (.int (1 : Int32)), .val (.long sd), .second, .unset] [(.long (137438952896 : Int64)), (.long mm), (.ref l1)] := Steps.trans c105 (by
      refine XS.lloadN X104.here hx rfl (own_d hby d23_6) rfl ?_
      refine X104.ldc2J hx ho104 (mvT hZ104 (W hw 18)) rfl (own_d hby d23_7) ?_
      exact Steps.refl _)
  obtain ⟨l2, T107, h107, k1_107, X107, e107, E107, hS107, hk107, hZ107, ho107, ch107, li107, st107⟩ := ldcOH X104 hx hZ104 ho104 (W hw 19) wS e104 hS104 (by omega) hEL H104 (g := (mkF m 10 #[.val (.ref a1), .val (.long mm), .second, .val (.int (1 : Int32)), .val (.long sd), .second, .unset] [(.long (137438952896 : Int64)), (.long mm), (.ref l1)])) rfl (own_d hby d23_10) (n := 36) (by decide +kernel) (by decide) (by decide) (by decide)
  have z107 : h104.size ≤ h107.size := E107.1
  have H107 : CHv Z consts_1 T107.vm h107 := ch107.1
  have C107 := CHr.trans C104 ch107
  have K107 := K104.ext E107
  have c108 : SS p e below B0 T107 m 12 #[.val (.ref a1), .val (.long mm), .second, .val (.int (1 : Int32)), .val (.long sd), .second, .unset] [(.ref l2), (.long (137438952896 : Int64)), (.long mm), (.ref l1)] := Steps.trans c106 (st107 _ (Steps.refl _))
  have c109 : SS p e below B0 T107 m 13 #[.val (.ref a1), .val (.long mm), .second, .val (.int (1 : Int32)), .val (.long sd), .second, .unset] [(.int (1 : Int32)), (.ref l2), (.long (137438952896 : Int64)), (.long mm), (.ref l1)] := Steps.trans c108 (by
      refine XS.iloadN X107.here hx rfl (own_d hby d23_12) rfl ?_
      exact Steps.refl _)
  obtain ⟨_, _, ⟨T110, Lp110, kp110, np110⟩, -, X110, ⟨Lc110, hQ110, lp110, yp110, zp110⟩, st110⟩ := Jvm.LawKit.callS X107 hx (y := (⟨"com/example/waban/waban/ArgumentChecks", "sizeError", "(Ljava/lang/String;JJLjava/lang/String;I)Ljava/lang/String;"⟩ : MethodName)) ho107 (mvT hZ107 (W hw 20)) (mvT hZ107 (W hw 21)) (mvT hZ107 (W hw 22)) (mvT hZ107 (W hw 23)) (by decide) (backOf (W := 0) (rmS2 l Z a0 hw [] l1 l2 mm 137438952896 h107 n0 (by omega) hm1 hm2) hZ107 (W hw 23) (W hw 22) (by decide) (by decide)) (g := (mkF m 13 #[.val (.ref a1), .val (.long mm), .second, .val (.int (1 : Int32)), .val (.long sd), .second, .unset] [(.int (1 : Int32)), (.ref l2), (.long (137438952896 : Int64)), (.long mm), (.ref l1)])) rfl (by rw [hml]; rfl) (argsL := [(.ref l1), (.long mm), (.long (137438952896 : Int64)), (.ref l2), (.int (1 : Int32))]) (rest := []) (lenOf pd__Ljava_lang_String_JJLjava_lang_String_I_Ljava_lang_String_ rfl) rfl (by show 2 * 0 + _ ≤ _; exact Nat.le_of_eq rfl) (own_d hby d23_13) (fun _ _ => ⟨rfl, e107, (by decide : 4 + 0 ≤ _), (by decide : 76 + 0 ≤ _)⟩)
  dsimp only [Pt.U, Pt.locs, Pt.cells, Pt.slots] at X110 lp110 yp110 zp110 st110 hQ110
  subst lp110 yp110 zp110
  obtain ⟨rfl, Nq110, eq110⟩ := hQ110
  have N110 := Fr.app N0 Nq110
  have c111 : SS p e below B0 T110 m 16 #[.val (.ref a1), .val (.long mm), .second, .val (.int (1 : Int32)), .val (.long sd), .second, .unset] [.null] := Steps.trans c109 (st110 _ (Steps.refl _))
  have c112 : SS p e below B0 T110 m 35 #[.val (.ref a1), .val (.long mm), .second, .val (.int (1 : Int32)), .val (.long sd), .second, .val .null] [(.long mm), (.ref a1)] := Steps.trans c111 (by
      refine XS.astore X110.here hx rfl (own_d hby d23_16) rfl rfl (l' := #[.val (.ref a1), .val (.long mm), .second, .val (.int (1 : Int32)), .val (.long sd), .second, .val .null]) rfl ?_
      refine XS.aload X110.here hx rfl (own_d hby d23_18) rfl rfl ?_
      refine XS.ifnullYes X110.here hx rfl (pc0 := 20) (pc' := 33) rfl (own_d hby d23_20) rfl (by decide) (by decide) ?_
      refine XS.aloadN X110.here hx rfl (own_d hby d23_33) rfl rfl ?_
      refine XS.lloadN X110.here hx rfl (own_d hby d23_34) rfl ?_
      exact Steps.refl _)
  have Fld114 : Fld Z h107 a1 "com/example/waban/waban/BloomFilter" "bitCount" "J" u0 := ((F0.ext E104).ext E107)
  have Exa115 : Exa Z h107 a1 "com/example/waban/waban/BloomFilter" := ((E1.ext E104).ext E107)
  obtain ⟨T113, h113, X113, e113, W113, st113⟩ := putF X110 hx hZ107 ho107 (host := "") (Or.inl (W hw 31)) Via.refl eq110 Fld114 Exa115 (Or.inr ⟨(W hw 32), rfl, hnm⟩) (W hw 2) (ty := .long) (by decide) rfl rfl (g := (mkF m 35 #[.val (.ref a1), .val (.long mm), .second, .val (.int (1 : Int32)), .val (.long sd), .second, .val .null] [(.long mm), (.ref a1)])) rfl rfl (own_d hby d23_35)
  have N113 := Fr.snoc X113 N110 (by omega)
  have F113 : Fld Z h113 a1 "com/example/waban/waban/BloomFilter" "bitCount" "J" (.long mm) := Fld114.same W113
  have z113 : h113.size = h107.size := W113.size
  have K113 := K107.wr W113 (Or.inl (List.mem_of_getElem? (i := 0) rfl))
  have H113 : CHv Z consts_1 T107.vm h113 := CHv.wr W113 own_safe H107
  have C113 := CHr.trans C107 (CHr.wr W113 own_safe H107)
  have c116 : SS p e below B0 T113 m 38 #[.val (.ref a1), .val (.long mm), .second, .val (.int (1 : Int32)), .val (.long sd), .second, .val .null] [] := Steps.trans c112 (st113 _ (Steps.refl _))
  have c117 : SS p e below B0 T113 m 40 #[.val (.ref a1), .val (.long mm), .second, .val (.int (1 : Int32)), .val (.long sd), .second, .val .null] [(.int (1 : Int32)), (.ref a1)] := Steps.trans c116 (by
      refine XS.aloadN X113.here hx rfl (own_d hby d23_38) rfl rfl ?_
      refine XS.iloadN X113.here hx rfl (own_d hby d23_39) rfl ?_
      exact Steps.refl _)
  have Fld119 : Fld Z h113 a1 "com/example/waban/waban/BloomFilter" "hashCount" "I" u1 := (((F1.ext E104).ext E107).other W113 (Or.inr (slot_ne (Or.inr (W hw 34)) (Or.inr (W hw 32)) (by decide) (t := .int) (t' := .long) (by decide) (by decide))))
  have Exa120 : Exa Z h113 a1 "com/example/waban/waban/BloomFilter" := (Exa115.wr W113)
  obtain ⟨T118, h118, X118, e118, W118, st118⟩ := putF X113 hx hZ107 ho107 (host := "") (Or.inl (W hw 33)) Via.refl e113 Fld119 Exa120 (Or.inr ⟨(W hw 34), rfl, hnm⟩) (W hw 2) (ty := .int) (by decide) rfl rfl (g := (mkF m 40 #[.val (.ref a1), .val (.long mm), .second, .val (.int (1 : Int32)), .val (.long sd), .second, .val .null] [(.int (1 : Int32)), (.ref a1)])) rfl rfl (own_d hby d23_40)
  have N118 := Fr.snoc X118 N113 (by omega)
  have F118 : Fld Z h118 a1 "com/example/waban/waban/BloomFilter" "hashCount" "I" (.int (1 : Int32)) := Fld119.same W118
  have z118 : h118.size = h113.size := W118.size
  have K118 := K113.wr W118 (Or.inl (List.mem_of_getElem? (i := 0) rfl))
  have H118 : CHv Z consts_1 T107.vm h118 := CHv.wr W118 own_safe H113
  have C118 := CHr.trans C113 (CHr.wr W118 own_safe H113)
  have c121 : SS p e below B0 T118 m 43 #[.val (.ref a1), .val (.long mm), .second, .val (.int (1 : Int32)), .val (.long sd), .second, .val .null] [] := Steps.trans c117 (st118 _ (Steps.refl _))
  have c122 : SS p e below B0 T118 m 44 #[.val (.ref a1), .val (.long mm), .second, .val (.int (1 : Int32)), .val (.long sd), .second, .val .null] [(.ref a1)] := Steps.trans c121 (by
      refine XS.aloadN X118.here hx rfl (own_d hby d23_43) rfl rfl ?_
      exact Steps.refl _)
  obtain ⟨T123, h123, X123, e123, E123, A123, D123, -, st123⟩ := newO X118 hx hZ107 ho107 (W hw 35) (W hw 36) (W hw 37) e118 (g := (mkF m 44 #[.val (.ref a1), .val (.long mm), .second, .val (.int (1 : Int32)), .val (.long sd), .second, .val .null] [(.ref a1)])) rfl (own_d hby d23_44) (by decide) (by decide)
  obtain ⟨ih, g123⟩ : ∃ z, z = h118.size := ⟨_, rfl⟩
  rw [← g123] at A123 D123 st123
  have z123 : h118.size ≤ h123.size := E123.1
  have l123 : (@LT.lt Nat _ ih h123.size) := A123.lt
  have H123 : CHv Z consts_1 T107.vm h123 := CHv.ext E123 H118
  have C123 := CHr.trans C118 (CHr.ext E123 H118)
  have K123 := K118.ext E123
  have c124 : SS p e below B0 T123 m 47 #[.val (.ref a1), .val (.long mm), .second, .val (.int (1 : Int32)), .val (.long sd), .second, .val .null] [(.ref ih), (.ref a1)] := Steps.trans c122 (st123 _ (Steps.refl _))
  have c125 : SS p e below B0 T123 m 50 #[.val (.ref a1), .val (.long mm), .second, .val (.int (1 : Int32)), .val (.long sd), .second, .val .null] [(.long sd), (.ref ih), (.ref ih), (.ref a1)] := Steps.trans c124 (by
      refine XS.dup X123.here hx rfl (own_d hby d23_47) rfl rfl ?_
      refine XS.lload X123.here hx rfl (own_d hby d23_48) rfl ?_
      exact Steps.refl _)
  obtain ⟨_, _, ⟨T126, Lp126, kp126, np126⟩, -, X126, ⟨Lc126, hQ126, lp126, yp126, zp126⟩, st126⟩ := X123.specialBack hx (y := (⟨"com/example/waban/waban/ItemHash", "<init>", "(J)V"⟩ : MethodName)) rfl ho107 (mvT hZ107 (W hw 38)) (mvT hZ107 (W hw 39)) (mvT hZ107 (W hw 40)) (by decide) (backOf (W := 2) (rmI l Z a0 hw [] ih sd _ h123 n0 (by omega) A123 (D123 (O := "com/example/waban/waban/ItemHash") (nm := "seed") (d := "J") (Or.inr (W hw 43)) (ty := .long) (by decide)) (by omega)) hZ107 (W hw 40) (W hw 37) (by decide) (by decide)) (g := (mkF m 50 #[.val (.ref a1), .val (.long mm), .second, .val (.int (1 : Int32)), .val (.long sd), .second, .val .null] [(.long sd), (.ref ih), (.ref ih), (.ref a1)])) rfl (by rw [hml]; rfl) c125 (a := ih) (argsL := [(.long sd)]) (rest := [(.ref ih), (.ref a1)]) (lenOf pd__J_V rfl) rfl (by show 2 * 0 + _ ≤ _; exact Nat.le_of_eq rfl) (own_d hby d23_50) (fun _ _ => ⟨rfl, e123, (by decide : 5 + 0 ≤ _), (by decide : 77 + 0 ≤ _)⟩)
  dsimp only [Pt.U, Pt.locs, Pt.cells, Pt.slots] at X126 lp126 yp126 zp126 st126 hQ126
  subst lp126 yp126 zp126
  obtain ⟨rfl, Nq126, Kq126, fs126⟩ := hQ126
  have N126 := Fr.app N118 Nq126
  obtain ⟨h126, e126⟩ : ∃ z, T126.heap = z := ⟨_, rfl⟩
  rw [e126] at Kq126 fs126
  have z126 : h123.size ≤ h126.size := Kq126.1
  have K126 := K123.trans Kq126 (allS (Or.inr (by omega)) all0)
  have H126 : CHv Z consts_1 T107.vm h126 := CHv.keep Kq126 (sfS own_safe sf0) H123
  have C126 := CHr.trans C123 (CHr.keep Kq126 (sfS own_safe sf0) H123)
  have c127 : SS p e below B0 T126 m 53 #[.val (.ref a1), .val (.long mm), .second, .val (.int (1 : Int32)), .val (.long sd), .second, .val .null] [(.ref ih), (.ref a1)] := st126
  have Fld129 : Fld Z h126 a1 "com/example/waban/waban/BloomFilter" "itemHash" "Lcom/example/waban/waban/ItemHash;" u2 := ((((((F2.ext E104).ext E107).other W113 (Or.inr (slot_ne (Or.inr (W hw 45)) (Or.inr (W hw 32)) (by decide) (t := (.object "com/example/waban/waban/ItemHash")) (t' := .long) (by decide) (by decide)))).other W118 (Or.inr (slot_ne (Or.inr (W hw 45)) (Or.inr (W hw 34)) (by decide) (t := (.object "com/example/waban/waban/ItemHash")) (t' := .int) (by decide) (by decide)))).ext E123).keep Kq126 (ninS (own_ne (by omega)) nin0))
  have Exa130 : Exa Z h126 a1 "com/example/waban/waban/BloomFilter" := (((Exa120.wr W118).ext E123).keep Kq126)
  obtain ⟨T128, h128, X128, e128, W128, st128⟩ := putF X126 hx hZ107 ho107 (host := "") (Or.inl (W hw 44)) Via.refl e126 Fld129 Exa130 (Or.inr ⟨(W hw 45), rfl, hnm⟩) (W hw 2) (ty := (.object "com/example/waban/waban/ItemHash")) (by decide) rfl rfl (g := (mkF m 53 #[.val (.ref a1), .val (.long mm), .second, .val (.int (1 : Int32)), .val (.long sd), .second, .val .null] [(.ref ih), (.ref a1)])) rfl rfl (own_d hby d23_53)
  have N128 := Fr.snoc X128 N126 (by omega)
  have F128 : Fld Z h128 a1 "com/example/waban/waban/BloomFilter" "itemHash" "Lcom/example/waban/waban/ItemHash;" (.ref ih) := Fld129.same W128
  have z128 : h128.size = h126.size := W128.size
  have K128 := K126.wr W128 (Or.inl (List.mem_of_getElem? (i := 0) rfl))
  have H128 : CHv Z consts_1 T107.vm h128 := CHv.wr W128 own_safe H126
  have C128 := CHr.trans C126 (CHr.wr W128 own_safe H126)
  have c131 : SS p e below B0 T128 m 56 #[.val (.ref a1), .val (.long mm), .second, .val (.int (1 : Int32)), .val (.long sd), .second, .val .null] [] := Steps.trans c127 (st128 _ (Steps.refl _))
  have c132 : SS p e below B0 T128 m 69 #[.val (.ref a1), .val (.long mm), .second, .val (.int (1 : Int32)), .val (.long sd), .second, .val .null] [(.int ((((mm + (64 : Int64)) - (1 : Int64)) / (64 : Int64)).toInt32)), (.ref a1)] := Steps.trans c131 (by
      refine XS.aloadN X128.here hx rfl (own_d hby d23_56) rfl rfl ?_
      refine XS.lloadN X128.here hx rfl (own_d hby d23_57) rfl ?_
      refine X128.ldc2J hx ho107 (mvT hZ107 (W hw 46)) rfl (own_d hby d23_58) ?_
      refine XS.ladd X128.here hx rfl (own_d hby d23_61) rfl ?_
      refine XT.lconstV X128.here hx rfl (1 : Int64) (own_d hby d23_62) (by decide) ?_
      refine XS.lsub X128.here hx rfl (own_d hby d23_63) rfl ?_
      refine X128.ldc2J hx ho107 (mvT hZ107 (W hw 46)) rfl (own_d hby d23_64) ?_
      refine XS.ldiv X128.here hx rfl (own_d hby d23_67) rfl (by decide) ?_
      refine XS.l2i X128.here hx rfl (own_d hby d23_68) rfl ?_
      exact Steps.refl _)
  have c133 : SS p e below B0 T128 m 69 #[.val (.ref a1), .val (.long mm), .second, .val (.int (1 : Int32)), .val (.long sd), .second, .val .null] [(.int (nwords mm)), (.ref a1)] := c132
  obtain ⟨T134, h134, kw, X134, e134, E134, A134, st134⟩ := newP X128 hx hZ107 (W hw 47) e128 (g := (mkF m 69 #[.val (.ref a1), .val (.long mm), .second, .val (.int (1 : Int32)), .val (.long sd), .second, .val .null] [(.int (nwords mm)), (.ref a1)])) rfl (own_d hby d23_69) rfl hn1 (cap := 64) hn2 (by decide) (by decide) (by decide)
  obtain ⟨wd, g134⟩ : ∃ z, z = h128.size := ⟨_, rfl⟩
  rw [← g134] at A134 st134
  have z134 : h128.size ≤ h134.size := E134.1
  have l134 : (@LT.lt Nat _ wd h134.size) := A134.lt
  have H134 : CHv Z consts_1 T107.vm h134 := CHv.ext E134 H128
  have C134 := CHr.trans C128 (CHr.ext E134 H128)
  have K134 := K128.ext E134
  have V134 : Arv Z h134 wd kw .long (nwords mm) [] (.long (0 : Int64)) := Arv.new A134 hn1
  have c135 : SS p e below B0 T134 m 71 #[.val (.ref a1), .val (.long mm), .second, .val (.int (1 : Int32)), .val (.long sd), .second, .val .null] [(.ref wd), (.ref a1)] := Steps.trans c133 (st134 _ (Steps.refl _))
  have Fld137 : Fld Z h134 a1 "com/example/waban/waban/BloomFilter" "words" "[J" u3 := ((((((((F3.ext E104).ext E107).other W113 (Or.inr (slot_ne (Or.inr (W hw 49)) (Or.inr (W hw 32)) (by decide) (t := (.array .long)) (t' := .long) (by decide) (by decide)))).other W118 (Or.inr (slot_ne (Or.inr (W hw 49)) (Or.inr (W hw 34)) (by decide) (t := (.array .long)) (t' := .int) (by decide) (by decide)))).ext E123).keep Kq126 (ninS (own_ne (by omega)) nin0)).other W128 (Or.inr (slot_ne (Or.inr (W hw 49)) (Or.inr (W hw 45)) (by decide) (t := (.array .long)) (t' := (.object "com/example/waban/waban/ItemHash")) (by decide) (by decide)))).ext E134)
  have Exa138 : Exa Z h134 a1 "com/example/waban/waban/BloomFilter" := ((Exa130.wr W128).ext E134)
  obtain ⟨T136, h136, X136, e136, W136, st136⟩ := putF X134 hx hZ107 ho107 (host := "") (Or.inl (W hw 48)) Via.refl e134 Fld137 Exa138 (Or.inr ⟨(W hw 49), rfl, hnm⟩) (W hw 2) (ty := (.array .long)) (by decide) rfl rfl (g := (mkF m 71 #[.val (.ref a1), .val (.long mm), .second, .val (.int (1 : Int32)), .val (.long sd), .second, .val .null] [(.ref wd), (.ref a1)])) rfl rfl (own_d hby d23_71)
  have N136 := Fr.snoc X136 N128 (by omega)
  have F136 : Fld Z h136 a1 "com/example/waban/waban/BloomFilter" "words" "[J" (.ref wd) := Fld137.same W136
  have z136 : h136.size = h134.size := W136.size
  have K136 := K134.wr W136 (Or.inl (List.mem_of_getElem? (i := 0) rfl))
  have H136 : CHv Z consts_1 T107.vm h136 := CHv.wr W136 own_safe H134
  have C136 := CHr.trans C134 (CHr.wr W136 own_safe H134)
  have c139 : SS p e below B0 T136 m 74 #[.val (.ref a1), .val (.long mm), .second, .val (.int (1 : Int32)), .val (.long sd), .second, .val .null] [] := Steps.trans c135 (st136 _ (Steps.refl _))
  have Fld140 : Fld Z h136 a1 "com/example/waban/waban/BloomFilter" "bitCount" "J" (.long mm) := ((((((F113.other W118 (Or.inr (slot_ne (Or.inr (W hw 32)) (Or.inr (W hw 34)) (by decide) (t := .long) (t' := .int) (by decide) (by decide)))).ext E123).keep Kq126 (ninS (own_ne (by omega)) nin0)).other W128 (Or.inr (slot_ne (Or.inr (W hw 32)) (Or.inr (W hw 45)) (by decide) (t := .long) (t' := (.object "com/example/waban/waban/ItemHash")) (by decide) (by decide)))).ext E134).other W136 (Or.inr (slot_ne (Or.inr (W hw 32)) (Or.inr (W hw 49)) (by decide) (t := .long) (t' := (.array .long)) (by decide) (by decide))))
  have Fld141 : Fld Z h136 a1 "com/example/waban/waban/BloomFilter" "hashCount" "I" (.int (1 : Int32)) := (((((F118.ext E123).keep Kq126 (ninS (own_ne (by omega)) nin0)).other W128 (Or.inr (slot_ne (Or.inr (W hw 34)) (Or.inr (W hw 45)) (by decide) (t := .int) (t' := (.object "com/example/waban/waban/ItemHash")) (by decide) (by decide)))).ext E134).other W136 (Or.inr (slot_ne (Or.inr (W hw 34)) (Or.inr (W hw 49)) (by decide) (t := .int) (t' := (.array .long)) (by decide) (by decide))))
  have Fld142 : Fld Z h136 a1 "com/example/waban/waban/BloomFilter" "itemHash" "Lcom/example/waban/waban/ItemHash;" (.ref ih) := ((F128.ext E134).other W136 (Or.inr (slot_ne (Or.inr (W hw 45)) (Or.inr (W hw 49)) (by decide) (t := (.object "com/example/waban/waban/ItemHash")) (t' := (.array .long)) (by decide) (by decide))))
  have Exa143 : Exa Z h136 ih "com/example/waban/waban/ItemHash" := ((((A123.keep Kq126).wr W128).ext E134).wr W136)
  have Fld144 : Fld Z h136 ih "com/example/waban/waban/ItemHash" "seed" "J" (.long sd) := (((fs126.other W128 (Or.inl (own_ne (by omega)))).ext E134).other W136 (Or.inl (own_ne (by omega))))
  have Arv145 : Arv Z h136 wd kw .long (nwords mm) [] (.long (0 : Int64)) := (V134.other W136 (own_ne (by omega)))
  have Fld146 : Fld Z h136 a1 "com/example/waban/waban/BloomFilter" "itemCount" "J" u4 := (((((((((F4.ext E104).ext E107).other W113 (Or.inr (slot_ne (Or.inl (W hw 187)) (Or.inr (W hw 32)) (by decide) (t := .long) (t' := .long) (by decide) (by decide)))).other W118 (Or.inr (slot_ne (Or.inl (W hw 187)) (Or.inr (W hw 34)) (by decide) (t := .long) (t' := .int) (by decide) (by decide)))).ext E123).keep Kq126 (ninS (own_ne (by omega)) nin0)).other W128 (Or.inr (slot_ne (Or.inl (W hw 187)) (Or.inr (W hw 45)) (by decide) (t := .long) (t' := (.object "com/example/waban/waban/ItemHash")) (by decide) (by decide)))).ext E134).other W136 (Or.inr (slot_ne (Or.inl (W hw 187)) (Or.inr (W hw 49)) (by decide) (t := .long) (t' := (.array .long)) (by decide) (by decide))))
  obtain ⟨fs, hr, hrun, hended, hW⟩ := X136.leaveW hS107 (by rw [e136]; omega) (v := none) (fun _ => rfl)
  have hC : CHr Z consts_1 s.vm s.heap T136.vm T136.heap := by rw [hh, e136]; exact CHr.trans C136 (CHv.at X136 hZ107 hEL H136)
  subst hB0
  refine ⟨_, _, Steps.trans c139 ?_, hrun, hended, _, _, rfl, ?_, hC, hW.1, hW.2.1, hW.2.2.1, hW.2.2.2.mono (by decide) (by decide)⟩
  · exact X136.returnOut hx Bd.returns (own_d hby d23_74) hr
  · show QB Z a1 mm sd u4 h0 n0 _ T136.heap _
    rw [e136]
    exact ⟨rfl, N136, K136, ih, wd, kw, (by omega), (by omega), (by omega), Fld140, Fld141, Fld142, F136, Exa143, Fld144, Arv145, Fld146⟩
def QIs0  (h0 : Heap) (n0 : Nat) (v : Option Value) (h : Heap) (L : List Loc) : Prop := v = some (.int (0 : Int32)) ∧ Fr n0 L ∧ h = h0
set_option maxRecDepth 65536 in
set_option maxHeartbeats 40000000 in
theorem rmIs0 (l : Launch) (Z : State) (a0 : Array Value) (hw : ∀ d ∈ tables_1, d.before a0 Z = true) (ws : List Jvm.Cond) (a1 wd : Addr) (kw : ClassId) (x wv : Int64) (N_ : Int32) (hs : List (Int32 × Value)) (h0 : Heap) (n0 : Nat) (Z0 : n0 ≤ h0.size) (F1 : Fld Z h0 a1 "com/example/waban/waban/BloomFilter" "words" "[J" (.ref wd)) (V1 : Arh Z h0 wd kw .long N_ hs [] (.long (0 : Int64))) (hi : ¬ widx x < 0 ∧ widx x < N_) (hat : getH hs [] (.long (0 : Int64)) (widx x).toNatClampNeg = .long wv) (hb : (wv &&& bit x) = (0 : Int64)) :
    MetFree l (⟨"com/example/waban/waban/BloomFilter", "isSet", "(J)Z"⟩ : MethodName) (head1 (Jvm.Cond.code (⟨"com/example/waban/waban/BloomFilter", "isSet", "(J)Z"⟩ : MethodName) prog_2_method_20_code 3 (some .boolean) :: ws) ({ frames := 0, cells := 0, slots := 0, locals := 0 } : Room)) (fun a U => a = #[(.ref a1), (.long x)] ∧ Z.Warmed39 U.vm ∧ U.heap = h0) (fun _ _ _ _ _ => True) (fun _ U o U' => ∃ vR LR, o = .returned vR ∧ QIs0 h0 n0 vR U'.heap LR ∧ FrameEnd U o U' LR ({ frames := 0, cells := 0, slots := 0, locals := 0 } : Room).cells ({ frames := 0, cells := 0, slots := 0, locals := 0 } : Room).slots) := by
  refine MetFree.of_bodySF (plainFor_of_name pn_com_example_waban_waban_BloomFilter) hisR ?_
  intro p e s m args below meth c s₁ Bd hml0 hP hK
  obtain ⟨rfl, hZ, hh⟩ := hP
  have hx := Bd.exec
  have hby := Bd.bytes
  have hml : c.maxLocals = 3 := hml0
  have hown : s.vm.findClass "com/example/waban/waban/BloomFilter" = some m.cls := findClass_of_methodNamed Bd.named
  have hnm := (name_of_methodNamed Bd.named Bd.method).1
  have X0 : Stand p l e ({ frames := 0, cells := 0, slots := 0, locals := 0 } : Room) s m #[(.ref a1), (.long x)] below meth c s₁ [] 0 0 := Stand.of_body Bd
  have e0 : s₁.heap = h0 := by rw [← hh, Bd.state]; rfl
  have N0 := Fr.nil n0
  obtain ⟨B0, c0, hB0⟩ : ∃ B0, Steps p.tables e below B0 (s₁.setTop (mkF m 0 #[.val (.ref a1), .val (.long x), .second] [])) ∧ B0 = s₁.setTop (entryFrame m #[(.ref a1), (.long x)] 3) := ⟨_, castTop (ef_RJ_3 m a1 x) (Steps.refl _), rfl⟩
  have c101 : SS p e below B0 s₁ m 1 #[.val (.ref a1), .val (.long x), .second] [(.ref a1)] := Steps.trans c0 (by
      refine XS.aloadN X0.here hx rfl (own_d hby d24_0) rfl rfl ?_
      exact Steps.refl _)
  obtain ⟨T102, X102, e102, st102⟩ := getF X0 hx hZ hown (host := "") (Or.inl (W hw 48)) Via.refl e0 F1 (g := (mkF m 1 #[.val (.ref a1), .val (.long x), .second] [(.ref a1)])) rfl rfl (own_d hby d24_1)
  have c103 : SS p e below B0 T102 m 4 #[.val (.ref a1), .val (.long x), .second] [(.ref wd)] := Steps.trans c101 (st102 _ (Steps.refl _))
  have c104 : SS p e below B0 T102 m 9 #[.val (.ref a1), .val (.long x), .second] [(.int (((x.toUInt64 >>> ((6 : Int32) &&& 0x3f).toInt64.toUInt64).toInt64).toInt32)), (.ref wd)] := Steps.trans c103 (by
      refine XS.lloadN X102.here hx rfl (own_d hby d24_4) rfl ?_
      refine XT.bipushV X102.here hx rfl (6 : Int32) (own_d hby d24_5) (by decide) ?_
      refine XS.lushr X102.here hx rfl (own_d hby d24_7) rfl ?_
      refine XS.l2i X102.here hx rfl (own_d hby d24_8) rfl ?_
      exact Steps.refl _)
  have c105 : SS p e below B0 T102 m 9 #[.val (.ref a1), .val (.long x), .second] [(.int (widx x)), (.ref wd)] := c104
  obtain ⟨cl106, Ar106, q106, Sz106, M106, Hs106, U106⟩ := id V1
  have in106 := inb_of (j := (widx x)) Sz106 hi
  have c107 : SS p e below B0 T102 m 10 #[.val (.ref a1), .val (.long x), .second] [(.long wv)] := Steps.trans c105 (by
      refine X102.laload hx (j := (widx x)) (v := (.long wv)) (by rw [e102]; exact Ar106.1) (State.isArrayOf_alike hZ.alike Ar106.2.1) Ar106.2.2 in106 (atH Hs106 in106 hat) (g := (mkF m 9 #[.val (.ref a1), .val (.long x), .second] [(.int (widx x)), (.ref wd)])) rfl rfl (own_d hby d24_9) _ ?_
      exact Steps.refl _)
  have c108 : SS p e below B0 T102 m 25 #[.val (.ref a1), .val (.long x), .second] [(.int (0 : Int32))] := Steps.trans c107 (by
      refine XT.lconstV X102.here hx rfl (1 : Int64) (own_d hby d24_10) (by decide) ?_
      refine XS.lloadN X102.here hx rfl (own_d hby d24_11) rfl ?_
      refine XS.l2i X102.here hx rfl (own_d hby d24_12) rfl ?_
      refine XS.lshl X102.here hx rfl (own_d hby d24_13) rfl ?_
      refine XS.land X102.here hx rfl (own_d hby d24_14) rfl ?_
      refine XT.lconstV X102.here hx rfl (0 : Int64) (own_d hby d24_15) (by decide) ?_
      refine XS.lcmp X102.here hx rfl (own_d hby d24_16) rfl ?_
      refine XS.ifYes X102.here hx rfl (pc0 := 17) (pc' := 24) rfl (own_d hby d24_17) rfl ((if0 _ _).trans (teq ((lw_eq _ _).mpr hb)).1) (by decide) (by decide) ?_
      refine XT.iconstV X102.here hx rfl (0 : Int32) (own_d hby d24_24) (by decide) ?_
      exact Steps.refl _)
  obtain ⟨fs, hr, hrun, hended, hW, hsame⟩ := X102.leave (v := some (.int (0 : Int32))) (fun h => by rw [Bd.returns] at h; cases h)
  subst hB0
  refine ⟨_, _, Steps.trans c108 ?_, hrun, hended, _, _, rfl, ?_, ⟨_, rfl⟩, hW, hsame.mono (by decide) (by decide)⟩
  · exact retN X102 hx (t := .boolean) Bd.returns (by simp) (own_d hby d24_25) hr
  · show QIs0 h0 n0 _ T102.heap _
    rw [e102]
    exact ⟨rfl, N0, rfl⟩
def QIs1  (h0 : Heap) (n0 : Nat) (v : Option Value) (h : Heap) (L : List Loc) : Prop := v = some (.int (1 : Int32)) ∧ Fr n0 L ∧ h = h0
set_option maxRecDepth 65536 in
set_option maxHeartbeats 40000000 in
theorem rmIs1 (l : Launch) (Z : State) (a0 : Array Value) (hw : ∀ d ∈ tables_1, d.before a0 Z = true) (ws : List Jvm.Cond) (a1 wd : Addr) (kw : ClassId) (x wv : Int64) (N_ : Int32) (hs : List (Int32 × Value)) (h0 : Heap) (n0 : Nat) (Z0 : n0 ≤ h0.size) (F1 : Fld Z h0 a1 "com/example/waban/waban/BloomFilter" "words" "[J" (.ref wd)) (V1 : Arh Z h0 wd kw .long N_ hs [] (.long (0 : Int64))) (hi : ¬ widx x < 0 ∧ widx x < N_) (hat : getH hs [] (.long (0 : Int64)) (widx x).toNatClampNeg = .long wv) (hb : ¬ (wv &&& bit x) = (0 : Int64)) :
    MetFree l (⟨"com/example/waban/waban/BloomFilter", "isSet", "(J)Z"⟩ : MethodName) (head1 (Jvm.Cond.code (⟨"com/example/waban/waban/BloomFilter", "isSet", "(J)Z"⟩ : MethodName) prog_2_method_20_code 3 (some .boolean) :: ws) ({ frames := 0, cells := 0, slots := 0, locals := 0 } : Room)) (fun a U => a = #[(.ref a1), (.long x)] ∧ Z.Warmed39 U.vm ∧ U.heap = h0) (fun _ _ _ _ _ => True) (fun _ U o U' => ∃ vR LR, o = .returned vR ∧ QIs1 h0 n0 vR U'.heap LR ∧ FrameEnd U o U' LR ({ frames := 0, cells := 0, slots := 0, locals := 0 } : Room).cells ({ frames := 0, cells := 0, slots := 0, locals := 0 } : Room).slots) := by
  refine MetFree.of_bodySF (plainFor_of_name pn_com_example_waban_waban_BloomFilter) hisR ?_
  intro p e s m args below meth c s₁ Bd hml0 hP hK
  obtain ⟨rfl, hZ, hh⟩ := hP
  have hx := Bd.exec
  have hby := Bd.bytes
  have hml : c.maxLocals = 3 := hml0
  have hown : s.vm.findClass "com/example/waban/waban/BloomFilter" = some m.cls := findClass_of_methodNamed Bd.named
  have hnm := (name_of_methodNamed Bd.named Bd.method).1
  have X0 : Stand p l e ({ frames := 0, cells := 0, slots := 0, locals := 0 } : Room) s m #[(.ref a1), (.long x)] below meth c s₁ [] 0 0 := Stand.of_body Bd
  have e0 : s₁.heap = h0 := by rw [← hh, Bd.state]; rfl
  have N0 := Fr.nil n0
  obtain ⟨B0, c0, hB0⟩ : ∃ B0, Steps p.tables e below B0 (s₁.setTop (mkF m 0 #[.val (.ref a1), .val (.long x), .second] [])) ∧ B0 = s₁.setTop (entryFrame m #[(.ref a1), (.long x)] 3) := ⟨_, castTop (ef_RJ_3 m a1 x) (Steps.refl _), rfl⟩
  have c101 : SS p e below B0 s₁ m 1 #[.val (.ref a1), .val (.long x), .second] [(.ref a1)] := Steps.trans c0 (by
      refine XS.aloadN X0.here hx rfl (own_d hby d24_0) rfl rfl ?_
      exact Steps.refl _)
  obtain ⟨T102, X102, e102, st102⟩ := getF X0 hx hZ hown (host := "") (Or.inl (W hw 48)) Via.refl e0 F1 (g := (mkF m 1 #[.val (.ref a1), .val (.long x), .second] [(.ref a1)])) rfl rfl (own_d hby d24_1)
  have c103 : SS p e below B0 T102 m 4 #[.val (.ref a1), .val (.long x), .second] [(.ref wd)] := Steps.trans c101 (st102 _ (Steps.refl _))
  have c104 : SS p e below B0 T102 m 9 #[.val (.ref a1), .val (.long x), .second] [(.int (((x.toUInt64 >>> ((6 : Int32) &&& 0x3f).toInt64.toUInt64).toInt64).toInt32)), (.ref wd)] := Steps.trans c103 (by
      refine XS.lloadN X102.here hx rfl (own_d hby d24_4) rfl ?_
      refine XT.bipushV X102.here hx rfl (6 : Int32) (own_d hby d24_5) (by decide) ?_
      refine XS.lushr X102.here hx rfl (own_d hby d24_7) rfl ?_
      refine XS.l2i X102.here hx rfl (own_d hby d24_8) rfl ?_
      exact Steps.refl _)
  have c105 : SS p e below B0 T102 m 9 #[.val (.ref a1), .val (.long x), .second] [(.int (widx x)), (.ref wd)] := c104
  obtain ⟨cl106, Ar106, q106, Sz106, M106, Hs106, U106⟩ := id V1
  have in106 := inb_of (j := (widx x)) Sz106 hi
  have c107 : SS p e below B0 T102 m 10 #[.val (.ref a1), .val (.long x), .second] [(.long wv)] := Steps.trans c105 (by
      refine X102.laload hx (j := (widx x)) (v := (.long wv)) (by rw [e102]; exact Ar106.1) (State.isArrayOf_alike hZ.alike Ar106.2.1) Ar106.2.2 in106 (atH Hs106 in106 hat) (g := (mkF m 9 #[.val (.ref a1), .val (.long x), .second] [(.int (widx x)), (.ref wd)])) rfl rfl (own_d hby d24_9) _ ?_
      exact Steps.refl _)
  have c108 : SS p e below B0 T102 m 25 #[.val (.ref a1), .val (.long x), .second] [(.int (1 : Int32))] := Steps.trans c107 (by
      refine XT.lconstV X102.here hx rfl (1 : Int64) (own_d hby d24_10) (by decide) ?_
      refine XS.lloadN X102.here hx rfl (own_d hby d24_11) rfl ?_
      refine XS.l2i X102.here hx rfl (own_d hby d24_12) rfl ?_
      refine XS.lshl X102.here hx rfl (own_d hby d24_13) rfl ?_
      refine XS.land X102.here hx rfl (own_d hby d24_14) rfl ?_
      refine XT.lconstV X102.here hx rfl (0 : Int64) (own_d hby d24_15) (by decide) ?_
      refine XS.lcmp X102.here hx rfl (own_d hby d24_16) rfl ?_
      refine XS.ifNo X102.here hx rfl (own_d hby d24_17) rfl ((if0 _ _).trans (feq (fun z => hb ((lw_eq _ _).mp z))).1) ?_
      refine XT.iconstV X102.here hx rfl (1 : Int32) (own_d hby d24_20) (by decide) ?_
      refine XS.goto X102.here hx rfl (pc0 := 21) (pc' := 25) rfl (own_d hby d24_21) (by decide) (by decide) ?_
      exact Steps.refl _)
  obtain ⟨fs, hr, hrun, hended, hW, hsame⟩ := X102.leave (v := some (.int (1 : Int32))) (fun h => by rw [Bd.returns] at h; cases h)
  subst hB0
  refine ⟨_, _, Steps.trans c108 ?_, hrun, hended, _, _, rfl, ?_, ⟨_, rfl⟩, hW, hsame.mono (by decide) (by decide)⟩
  · exact retN X102 hx (t := .boolean) Bd.returns (by simp) (own_d hby d24_25) hr
  · show QIs1 h0 n0 _ T102.heap _
    rw [e102]
    exact ⟨rfl, N0, rfl⟩
def QA2 (Z : State) (a1 pt wd : Addr) (kw : ClassId) (mm q1 : Int64) (h0 : Heap) (n0 : Nat) (r : Option Value) (h : Heap) (L : List Loc) : Prop := r = none ∧ Fr n0 L ∧ Keep h0 h [a1, pt, wd] ∧ Fld Z h a1 "com/example/waban/waban/BloomFilter" "words" "[J" (.ref wd) ∧ Arh Z h wd kw .long (nwords mm) [(widx (cellOf (mix q1) mm), .long ((0 : Int64) ||| bit (cellOf (mix q1) mm)))] [] (.long (0 : Int64))
set_option maxRecDepth 65536 in
set_option maxHeartbeats 40000000 in
theorem rmA2 (l : Launch) (Z : State) (a0 : Array Value) (hw : ∀ d ∈ tables_1, d.before a0 Z = true) (ws : List Jvm.Cond) (a1 pt wd : Addr) (kw : ClassId) (mm ic q1 q2 : Int64) (h0 : Heap) (n0 : Nat) (Z0 : n0 ≤ h0.size) (E1 : Exa Z h0 a1 "com/example/waban/waban/BloomFilter") (F0 : Fld Z h0 a1 "com/example/waban/waban/BloomFilter" "bitCount" "J" (.long mm)) (F1 : Fld Z h0 a1 "com/example/waban/waban/BloomFilter" "hashCount" "I" (.int (1 : Int32))) (F2 : Fld Z h0 a1 "com/example/waban/waban/BloomFilter" "words" "[J" (.ref wd)) (F3 : Fld Z h0 a1 "com/example/waban/waban/BloomFilter" "itemCount" "J" (.long ic)) (V1 : Arv Z h0 wd kw .long (nwords mm) [] (.long (0 : Int64))) (g1 : n0 ≤ a1) (gw : n0 ≤ wd) (nw : (@Ne Nat a1 wd)) (Ep : Exa Z h0 pt "com/example/waban/waban/ItemHash$Points") (Fp : Fld Z h0 pt "com/example/waban/waban/ItemHash$Points" "sum" "J" (.long q1)) (Fq : Fld Z h0 pt "com/example/waban/waban/ItemHash$Points" "step" "J" (.long q2)) (gp : n0 ≤ pt) (n1 : (@Ne Nat pt a1)) (n2 : (@Ne Nat pt wd)) (hi : ¬ widx (cellOf (mix q1) mm) < 0 ∧ widx (cellOf (mix q1) mm) < nwords mm) :
    MetFree l (⟨"com/example/waban/waban/BloomFilter", "add", "(Lcom/example/waban/waban/ItemHash$Points;)V"⟩ : MethodName) (head1 (Jvm.Cond.code (⟨"com/example/waban/waban/BloomFilter", "add", "(Lcom/example/waban/waban/ItemHash$Points;)V"⟩ : MethodName) prog_2_method_21_code 5 none :: ws) ({ frames := 2, cells := 0, slots := 0, locals := 46 } : Room)) (fun a U => a = #[(.ref a1), (.ref pt)] ∧ Z.Warmed39 U.vm ∧ U.heap = h0) (fun _ _ _ _ _ => True) (fun _ U o U' => ∃ vR LR, o = .returned vR ∧ QA2 Z a1 pt wd kw mm q1 h0 n0 vR U'.heap LR ∧ FrameEnd U o U' LR ({ frames := 2, cells := 0, slots := 0, locals := 46 } : Room).cells ({ frames := 2, cells := 0, slots := 0, locals := 46 } : Room).slots) := by
  refine MetFree.of_bodySF (plainFor_of_name pn_com_example_waban_waban_BloomFilter) hisR ?_
  intro p e s m args below meth c s₁ Bd hml0 hP hK
  obtain ⟨rfl, hZ, hh⟩ := hP
  have hx := Bd.exec
  have hby := Bd.bytes
  have hml : c.maxLocals = 5 := hml0
  have hown : s.vm.findClass "com/example/waban/waban/BloomFilter" = some m.cls := findClass_of_methodNamed Bd.named
  have hnm := (name_of_methodNamed Bd.named Bd.method).1
  have X0 : Stand p l e ({ frames := 2, cells := 0, slots := 0, locals := 46 } : Room) s m #[(.ref a1), (.ref pt)] below meth c s₁ [] 0 0 := Stand.of_body Bd
  have e0 : s₁.heap = h0 := by rw [← hh, Bd.state]; rfl
  have N0 := Fr.nil n0
  obtain ⟨B0, c0, hB0⟩ : ∃ B0, Steps p.tables e below B0 (s₁.setTop (mkF m 0 #[.val (.ref a1), .val (.ref pt), .unset, .unset, .unset] [])) ∧ B0 = s₁.setTop (entryFrame m #[(.ref a1), (.ref pt)] 5) := ⟨_, castTop (ef_RR_5 m a1 pt) (Steps.refl _), rfl⟩
  have lt_a1 : (@LT.lt Nat _ a1 h0.size) := E1.lt
  have lt_pt : (@LT.lt Nat _ pt h0.size) := Ep.lt
  have lt_wd : (@LT.lt Nat _ wd h0.size) := V1.lt
  have c101 : SS p e below B0 s₁ m 4 #[.val (.ref a1), .val (.ref pt), .val (.int (0 : Int32)), .unset, .unset] [(.ref a1), (.int (0 : Int32))] := Steps.trans c0 (by
      refine XT.iconstV X0.here hx rfl (0 : Int32) (own_d hby d25_0) (by decide) ?_
      refine XS.istoreN X0.here hx rfl (own_d hby d25_1) rfl (l' := #[.val (.ref a1), .val (.ref pt), .val (.int (0 : Int32)), .unset, .unset]) rfl ?_
      refine XS.iloadN X0.here hx rfl (own_d hby d25_2) rfl ?_
      refine XS.aloadN X0.here hx rfl (own_d hby d25_3) rfl rfl ?_
      exact Steps.refl _)
  obtain ⟨T102, X102, e102, st102⟩ := getF X0 hx hZ hown (host := "") (Or.inl (W hw 33)) Via.refl e0 F1 (g := (mkF m 4 #[.val (.ref a1), .val (.ref pt), .val (.int (0 : Int32)), .unset, .unset] [(.ref a1), (.int (0 : Int32))])) rfl rfl (own_d hby d25_4)
  have c103 : SS p e below B0 T102 m 7 #[.val (.ref a1), .val (.ref pt), .val (.int (0 : Int32)), .unset, .unset] [(.int (1 : Int32)), (.int (0 : Int32))] := Steps.trans c101 (st102 _ (Steps.refl _))
  have c104 : SS p e below B0 T102 m 11 #[.val (.ref a1), .val (.ref pt), .val (.int (0 : Int32)), .unset, .unset] [(.ref pt)] := Steps.trans c103 (by
      refine XS.icmpNo X102.here hx rfl (own_d hby d25_7) rfl (tlt (by decide : (0 : Int32) < (1 : Int32))).2.1 ?_
      refine XS.aloadN X102.here hx rfl (own_d hby d25_10) rfl rfl ?_
      exact Steps.refl _)
  obtain ⟨cq105, kq105, qa105, qb105, qc105⟩ := isOf hZ e102 Ep
  obtain ⟨_, _, ⟨T105, Lp105, kp105, np105⟩, -, X105, ⟨Lc105, hQ105, lp105, yp105, zp105⟩, st105⟩ := X102.virtualBack hx (y := (⟨"com/example/waban/waban/ItemHash$Points", "next", "()J"⟩ : MethodName)) (z := (⟨"com/example/waban/waban/ItemHash$Points", "next", "()J"⟩ : MethodName)) hown (mvT hZ (W hw 184)) (mvT hZ (W hw 152)) (notFace_of_selects (args := #[]) (mvT hZ (W hw 154))) (mvT hZ (W hw 154)) (mvT hZ (W hw 153)) (by decide) (backOf (W := 0) (rmN l Z a0 hw [] pt q1 q2 h0 n0 (by omega) Ep Fp Fq (by omega)) hZ (W hw 155) (W hw 59) (by decide) (by decide)) qa105 qc105 (g := (mkF m 11 #[.val (.ref a1), .val (.ref pt), .val (.int (0 : Int32)), .unset, .unset] [(.ref pt)])) rfl (by rw [hml]; rfl) c104 (argsL := []) (rest := []) (lenOf pd___J rfl) rfl (by show 2 * 0 + _ ≤ _; exact Nat.le_of_eq rfl) (own_d hby d25_11) (fun _ _ => ⟨rfl, e102, (by decide : 0 + 0 ≤ _), (by decide : 0 + 0 ≤ _)⟩)
  dsimp only [Pt.U, Pt.locs, Pt.cells, Pt.slots] at X105 lp105 yp105 zp105 st105 hQ105
  subst lp105 yp105 zp105
  obtain ⟨rfl, Nq105, Kq105⟩ := hQ105
  have N105 := Fr.app N0 Nq105
  obtain ⟨h105, e105⟩ : ∃ z, T105.heap = z := ⟨_, rfl⟩
  rw [e105] at Kq105
  have z105 : h0.size ≤ h105.size := Kq105.1
  have K105 := (Keep.refl h0 [a1, pt, wd]).trans Kq105 (allS (Or.inl (List.mem_of_getElem? (i := 1) rfl)) all0)
  have c106 : SS p e below B0 T105 m 14 #[.val (.ref a1), .val (.ref pt), .val (.int (0 : Int32)), .unset, .unset] [(.long (mix q1))] := st105
  have c107 : SS p e below B0 T105 m 15 #[.val (.ref a1), .val (.ref pt), .val (.int (0 : Int32)), .unset, .unset] [(.ref a1), (.long (mix q1))] := Steps.trans c106 (by
      refine XS.aloadN X105.here hx rfl (own_d hby d25_14) rfl rfl ?_
      exact Steps.refl _)
  have Fld109 : Fld Z h105 a1 "com/example/waban/waban/BloomFilter" "bitCount" "J" (.long mm) := (F0.keep Kq105 (ninS (own_ne (by omega)) nin0))
  obtain ⟨T108, X108, e108, st108⟩ := getF X105 hx hZ hown (host := "") (Or.inl (W hw 31)) Via.refl e105 Fld109 (g := (mkF m 15 #[.val (.ref a1), .val (.ref pt), .val (.int (0 : Int32)), .unset, .unset] [(.ref a1), (.long (mix q1))])) rfl rfl (own_d hby d25_15)
  have c110 : SS p e below B0 T108 m 18 #[.val (.ref a1), .val (.ref pt), .val (.int (0 : Int32)), .unset, .unset] [(.long mm), (.long (mix q1))] := Steps.trans c107 (st108 _ (Steps.refl _))
  obtain ⟨_, _, ⟨T111, Lp111, kp111, np111⟩, -, X111, ⟨Lc111, hQ111, lp111, yp111, zp111⟩, st111⟩ := Jvm.LawKit.callS X108 hx (y := (⟨"com/example/waban/waban/ItemHash", "cell", "(JJ)J"⟩ : MethodName)) hown (mvT hZ (W hw 185)) (mvT hZ (W hw 162)) (mvT hZ (W hw 37)) (mvT hZ (W hw 163)) (by decide) (backOf (W := 0) (rmC l Z a0 hw [] (mix q1) mm h105 n0 (by omega)) hZ (W hw 163) (W hw 37) (by decide) (by decide)) (g := (mkF m 18 #[.val (.ref a1), .val (.ref pt), .val (.int (0 : Int32)), .unset, .unset] [(.long mm), (.long (mix q1))])) rfl (by rw [hml]; rfl) (argsL := [(.long (mix q1)), (.long mm)]) (rest := []) (lenOf pd__JJ_J rfl) rfl (by show 2 * 0 + _ ≤ _; exact Nat.le_of_eq rfl) (own_d hby d25_18) (fun _ _ => ⟨rfl, e108, (by decide : 0 + 0 ≤ _), (by decide : 0 + 0 ≤ _)⟩)
  dsimp only [Pt.U, Pt.locs, Pt.cells, Pt.slots] at X111 lp111 yp111 zp111 st111 hQ111
  subst lp111 yp111 zp111
  obtain ⟨rfl, Nq111, eq111⟩ := hQ111
  have N111 := Fr.app N105 Nq111
  have c112 : SS p e below B0 T111 m 21 #[.val (.ref a1), .val (.ref pt), .val (.int (0 : Int32)), .unset, .unset] [(.long (cellOf (mix q1) mm))] := Steps.trans c110 (st111 _ (Steps.refl _))
  have c113 : SS p e below B0 T111 m 23 #[.val (.ref a1), .val (.ref pt), .val (.int (0 : Int32)), .val (.long (cellOf (mix q1) mm)), .second] [(.ref a1)] := Steps.trans c112 (by
      refine XS.lstoreN X111.here hx rfl (own_d hby d25_21) rfl (l' := #[.val (.ref a1), .val (.ref pt), .val (.int (0 : Int32)), .val (.long (cellOf (mix q1) mm)), .second]) rfl ?_
      refine XS.aloadN X111.here hx rfl (own_d hby d25_22) rfl rfl ?_
      exact Steps.refl _)
  have Fld115 : Fld Z h105 a1 "com/example/waban/waban/BloomFilter" "words" "[J" (.ref wd) := (F2.keep Kq105 (ninS (own_ne (by omega)) nin0))
  obtain ⟨T114, X114, e114, st114⟩ := getF X111 hx hZ hown (host := "") (Or.inl (W hw 48)) Via.refl eq111 Fld115 (g := (mkF m 23 #[.val (.ref a1), .val (.ref pt), .val (.int (0 : Int32)), .val (.long (cellOf (mix q1) mm)), .second] [(.ref a1)])) rfl rfl (own_d hby d25_23)
  have c116 : SS p e below B0 T114 m 26 #[.val (.ref a1), .val (.ref pt), .val (.int (0 : Int32)), .val (.long (cellOf (mix q1) mm)), .second] [(.ref wd)] := Steps.trans c113 (st114 _ (Steps.refl _))
  have c117 : SS p e below B0 T114 m 32 #[.val (.ref a1), .val (.ref pt), .val (.int (0 : Int32)), .val (.long (cellOf (mix q1) mm)), .second] [(.int ((((cellOf (mix q1) mm).toUInt64 >>> ((6 : Int32) &&& 0x3f).toInt64.toUInt64).toInt64).toInt32)), (.ref wd), (.int ((((cellOf (mix q1) mm).toUInt64 >>> ((6 : Int32) &&& 0x3f).toInt64.toUInt64).toInt64).toInt32)), (.ref wd)] := Steps.trans c116 (by
      refine XS.lloadN X114.here hx rfl (own_d hby d25_26) rfl ?_
      refine XT.bipushV X114.here hx rfl (6 : Int32) (own_d hby d25_27) (by decide) ?_
      refine XS.lushr X114.here hx rfl (own_d hby d25_29) rfl ?_
      refine XS.l2i X114.here hx rfl (own_d hby d25_30) rfl ?_
      refine XT.dup2 X114.here hx rfl (own_d hby d25_31) rfl rfl rfl ?_
      exact Steps.refl _)
  have c118 : SS p e below B0 T114 m 32 #[.val (.ref a1), .val (.ref pt), .val (.int (0 : Int32)), .val (.long (cellOf (mix q1) mm)), .second] [(.int (widx (cellOf (mix q1) mm))), (.ref wd), (.int (widx (cellOf (mix q1) mm))), (.ref wd)] := c117
  have Arh120 : Arh Z h105 wd kw .long (nwords mm) [] [] (.long (0 : Int64)) := (V1.arh.keep Kq105 (ninS (own_ne (by omega)) nin0))
  obtain ⟨cl119, Ar119, q119, Sz119, M119, Hs119, U119⟩ := id Arh120
  have in119 := inb_of (j := (widx (cellOf (mix q1) mm))) Sz119 hi
  have c121 : SS p e below B0 T114 m 33 #[.val (.ref a1), .val (.ref pt), .val (.int (0 : Int32)), .val (.long (cellOf (mix q1) mm)), .second] [(.long (0 : Int64)), (.int (widx (cellOf (mix q1) mm))), (.ref wd)] := Steps.trans c118 (by
      refine X114.laload hx (j := (widx (cellOf (mix q1) mm))) (v := (.long (0 : Int64))) (by rw [e114]; exact Ar119.1) (State.isArrayOf_alike hZ.alike Ar119.2.1) Ar119.2.2 in119 (atH Hs119 in119 rfl) (g := (mkF m 32 #[.val (.ref a1), .val (.ref pt), .val (.int (0 : Int32)), .val (.long (cellOf (mix q1) mm)), .second] [(.int (widx (cellOf (mix q1) mm))), (.ref wd), (.int (widx (cellOf (mix q1) mm))), (.ref wd)])) rfl rfl (own_d hby d25_32) _ ?_
      exact Steps.refl _)
  have c122 : SS p e below B0 T114 m 38 #[.val (.ref a1), .val (.ref pt), .val (.int (0 : Int32)), .val (.long (cellOf (mix q1) mm)), .second] [(.long ((0 : Int64) ||| ((1 : Int64) <<< (((cellOf (mix q1) mm).toInt32) &&& 0x3f).toInt64))), (.int (widx (cellOf (mix q1) mm))), (.ref wd)] := Steps.trans c121 (by
      refine XT.lconstV X114.here hx rfl (1 : Int64) (own_d hby d25_33) (by decide) ?_
      refine XS.lloadN X114.here hx rfl (own_d hby d25_34) rfl ?_
      refine XS.l2i X114.here hx rfl (own_d hby d25_35) rfl ?_
      refine XS.lshl X114.here hx rfl (own_d hby d25_36) rfl ?_
      refine XS.lor X114.here hx rfl (own_d hby d25_37) rfl ?_
      exact Steps.refl _)
  have c123 : SS p e below B0 T114 m 38 #[.val (.ref a1), .val (.ref pt), .val (.int (0 : Int32)), .val (.long (cellOf (mix q1) mm)), .second] [(.long ((0 : Int64) ||| bit (cellOf (mix q1) mm))), (.int (widx (cellOf (mix q1) mm))), (.ref wd)] := c122
  obtain ⟨cl124, Ar124, q124, Sz124, M124, Hs124, U124⟩ := id Arh120
  have in124 := inb_of (j := (widx (cellOf (mix q1) mm))) Sz124 hi
  obtain ⟨T124, h124, X124, e124, W124, st124⟩ := stJ X114 hx hZ e114 Ar124 (j := (widx (cellOf (mix q1) mm))) in124 (g := (mkF m 38 #[.val (.ref a1), .val (.ref pt), .val (.int (0 : Int32)), .val (.long (cellOf (mix q1) mm)), .second] [(.long ((0 : Int64) ||| bit (cellOf (mix q1) mm))), (.int (widx (cellOf (mix q1) mm))), (.ref wd)])) rfl rfl (own_d hby d25_38)
  have N124 := Fr.snoc X124 N111 (by omega)
  have V124 : Arh Z h124 wd kw .long (nwords mm) (((widx (cellOf (mix q1) mm)), (.long ((0 : Int64) ||| bit (cellOf (mix q1) mm)))) :: []) [] (.long (0 : Int64)) := Arh.push Ar124 q124 Sz124 M124 Hs124 U124 rfl W124 in124
  have z124 : h124.size = h105.size := W124.size
  have K124 := K105.wr W124 (Or.inl (List.mem_of_getElem? (i := 2) rfl))
  have c125 : SS p e below B0 T124 m 39 #[.val (.ref a1), .val (.ref pt), .val (.int (0 : Int32)), .val (.long (cellOf (mix q1) mm)), .second] [] := Steps.trans c123 (st124 _ (Steps.refl _))
  have c126 : SS p e below B0 T124 m 4 #[.val (.ref a1), .val (.ref pt), .val (.int (1 : Int32)), .val (.long (cellOf (mix q1) mm)), .second] [(.ref a1), (.int (1 : Int32))] := Steps.trans c125 (by
      refine XT.iincV X124.here hx rfl (1 : Int32) (own_d hby d25_39) (by decide) rfl (l' := #[.val (.ref a1), .val (.ref pt), .val (.int (1 : Int32)), .val (.long (cellOf (mix q1) mm)), .second]) rfl ?_
      refine XS.goto X124.here hx rfl (pc0 := 42) (pc' := 2) rfl (own_d hby d25_42) (by decide) (by decide) ?_
      refine XS.iloadN X124.here hx rfl (own_d hby d25_2) rfl ?_
      refine XS.aloadN X124.here hx rfl (own_d hby d25_3) rfl rfl ?_
      exact Steps.refl _)
  have Fld128 : Fld Z h124 a1 "com/example/waban/waban/BloomFilter" "hashCount" "I" (.int (1 : Int32)) := ((F1.keep Kq105 (ninS (own_ne (by omega)) nin0)).other W124 (Or.inl (own_ne (by omega))))
  obtain ⟨T127, X127, e127, st127⟩ := getF X124 hx hZ hown (host := "") (Or.inl (W hw 33)) Via.refl e124 Fld128 (g := (mkF m 4 #[.val (.ref a1), .val (.ref pt), .val (.int (1 : Int32)), .val (.long (cellOf (mix q1) mm)), .second] [(.ref a1), (.int (1 : Int32))])) rfl rfl (own_d hby d25_4)
  have c129 : SS p e below B0 T127 m 7 #[.val (.ref a1), .val (.ref pt), .val (.int (1 : Int32)), .val (.long (cellOf (mix q1) mm)), .second] [(.int (1 : Int32)), (.int (1 : Int32))] := Steps.trans c126 (st127 _ (Steps.refl _))
  have c130 : SS p e below B0 T127 m 47 #[.val (.ref a1), .val (.ref pt), .val (.int (1 : Int32)), .val (.long (cellOf (mix q1) mm)), .second] [(.ref a1), (.ref a1)] := Steps.trans c129 (by
      refine XS.icmpYes X127.here hx rfl (pc0 := 7) (pc' := 45) rfl (own_d hby d25_7) rfl (flt (by decide : ¬ (1 : Int32) < (1 : Int32))).2.1 (by decide) (by decide) ?_
      refine XS.aloadN X127.here hx rfl (own_d hby d25_45) rfl rfl ?_
      refine XS.dup X127.here hx rfl (own_d hby d25_46) rfl rfl ?_
      exact Steps.refl _)
  have Fld132 : Fld Z h124 a1 "com/example/waban/waban/BloomFilter" "itemCount" "J" (.long ic) := ((F3.keep Kq105 (ninS (own_ne (by omega)) nin0)).other W124 (Or.inl (own_ne (by omega))))
  obtain ⟨T131, X131, e131, st131⟩ := getF X127 hx hZ hown (host := "") (Or.inl (W hw 186)) Via.refl e127 Fld132 (g := (mkF m 47 #[.val (.ref a1), .val (.ref pt), .val (.int (1 : Int32)), .val (.long (cellOf (mix q1) mm)), .second] [(.ref a1), (.ref a1)])) rfl rfl (own_d hby d25_47)
  have c133 : SS p e below B0 T131 m 50 #[.val (.ref a1), .val (.ref pt), .val (.int (1 : Int32)), .val (.long (cellOf (mix q1) mm)), .second] [(.long ic), (.ref a1)] := Steps.trans c130 (st131 _ (Steps.refl _))
  have c134 : SS p e below B0 T131 m 52 #[.val (.ref a1), .val (.ref pt), .val (.int (1 : Int32)), .val (.long (cellOf (mix q1) mm)), .second] [(.long (ic + (1 : Int64))), (.ref a1)] := Steps.trans c133 (by
      refine XT.lconstV X131.here hx rfl (1 : Int64) (own_d hby d25_50) (by decide) ?_
      refine XS.ladd X131.here hx rfl (own_d hby d25_51) rfl ?_
      exact Steps.refl _)
  have Exa136 : Exa Z h124 a1 "com/example/waban/waban/BloomFilter" := ((E1.keep Kq105).wr W124)
  obtain ⟨T135, h135, X135, e135, W135, st135⟩ := putF X131 hx hZ hown (host := "") (Or.inl (W hw 186)) Via.refl e131 Fld132 Exa136 (Or.inl (W hw 187)) (W hw 2) (ty := .long) (by decide) rfl rfl (g := (mkF m 52 #[.val (.ref a1), .val (.ref pt), .val (.int (1 : Int32)), .val (.long (cellOf (mix q1) mm)), .second] [(.long (ic + (1 : Int64))), (.ref a1)])) rfl rfl (own_d hby d25_52)
  have N135 := Fr.snoc X135 N124 (by omega)
  have F135 : Fld Z h135 a1 "com/example/waban/waban/BloomFilter" "itemCount" "J" (.long (ic + (1 : Int64))) := Fld132.same W135
  have z135 : h135.size = h124.size := W135.size
  have K135 := K124.wr W135 (Or.inl (List.mem_of_getElem? (i := 0) rfl))
  have c137 : SS p e below B0 T135 m 55 #[.val (.ref a1), .val (.ref pt), .val (.int (1 : Int32)), .val (.long (cellOf (mix q1) mm)), .second] [] := Steps.trans c134 (st135 _ (Steps.refl _))
  have Fld138 : Fld Z h135 a1 "com/example/waban/waban/BloomFilter" "words" "[J" (.ref wd) := ((Fld115.other W124 (Or.inl (own_ne (by omega)))).other W135 (Or.inr (slot_ne (Or.inr (W hw 49)) (Or.inl (W hw 187)) (by decide) (t := (.array .long)) (t' := .long) (by decide) (by decide))))
  have Arh139 : Arh Z h135 wd kw .long (nwords mm) (((widx (cellOf (mix q1) mm)), (.long ((0 : Int64) ||| bit (cellOf (mix q1) mm)))) :: []) [] (.long (0 : Int64)) := (V124.other W135 (own_ne (by omega)))
  obtain ⟨fs, hr, hrun, hended, hW, hsame⟩ := X135.leave (v := none) (fun _ => rfl)
  subst hB0
  refine ⟨_, _, Steps.trans c137 ?_, hrun, hended, _, _, rfl, ?_, ⟨_, rfl⟩, hW, hsame.mono (by decide) (by decide)⟩
  · exact X135.returnOut hx Bd.returns (own_d hby d25_55) hr
  · show QA2 Z a1 pt wd kw mm q1 h0 n0 _ T135.heap _
    rw [e135]
    exact ⟨rfl, N135, K135, Fld138, Arh139⟩
def QA1 (Z : State) (a1 wd : Addr) (kw : ClassId) (mm it sd : Int64) (h0 : Heap) (n0 : Nat) (r : Option Value) (h : Heap) (L : List Loc) : Prop := r = none ∧ Fr n0 L ∧ Keep h0 h [a1, wd] ∧ Fld Z h a1 "com/example/waban/waban/BloomFilter" "words" "[J" (.ref wd) ∧ Arh Z h wd kw .long (nwords mm) [(widx (cellOf (mix (lowOf sd it)) mm), .long ((0 : Int64) ||| bit (cellOf (mix (lowOf sd it)) mm)))] [] (.long (0 : Int64))
set_option maxRecDepth 65536 in
set_option maxHeartbeats 40000000 in
theorem rmA1 (l : Launch) (Z : State) (a0 : Array Value) (hw : ∀ d ∈ tables_1, d.before a0 Z = true) (ws : List Jvm.Cond) (a1 wd ih : Addr) (kw : ClassId) (mm ic it sd : Int64) (h0 : Heap) (n0 : Nat) (Z0 : n0 ≤ h0.size) (E1 : Exa Z h0 a1 "com/example/waban/waban/BloomFilter") (F0 : Fld Z h0 a1 "com/example/waban/waban/BloomFilter" "bitCount" "J" (.long mm)) (F1 : Fld Z h0 a1 "com/example/waban/waban/BloomFilter" "hashCount" "I" (.int (1 : Int32))) (F2 : Fld Z h0 a1 "com/example/waban/waban/BloomFilter" "words" "[J" (.ref wd)) (F3 : Fld Z h0 a1 "com/example/waban/waban/BloomFilter" "itemCount" "J" (.long ic)) (V1 : Arv Z h0 wd kw .long (nwords mm) [] (.long (0 : Int64))) (g1 : n0 ≤ a1) (gw : n0 ≤ wd) (nw : (@Ne Nat a1 wd)) (F4 : Fld Z h0 a1 "com/example/waban/waban/BloomFilter" "itemHash" "Lcom/example/waban/waban/ItemHash;" (.ref ih)) (Ei : Exa Z h0 ih "com/example/waban/waban/ItemHash") (Fi : Fld Z h0 ih "com/example/waban/waban/ItemHash" "seed" "J" (.long sd)) (hi : ¬ widx (cellOf (mix (lowOf sd it)) mm) < 0 ∧ widx (cellOf (mix (lowOf sd it)) mm) < nwords mm) :
    MetFree l (⟨"com/example/waban/waban/BloomFilter", "add", "(J)V"⟩ : MethodName) (head1 (Jvm.Cond.code (⟨"com/example/waban/waban/BloomFilter", "add", "(J)V"⟩ : MethodName) prog_2_method_13_code 3 none :: ws) ({ frames := 6, cells := 3, slots := 8, locals := 89 } : Room)) (fun a U => a = #[(.ref a1), (.long it)] ∧ Z.Warmed39 U.vm ∧ U.heap = h0) (fun _ _ _ _ _ => True) (fun _ U o U' => ∃ vR LR, o = .returned vR ∧ QA1 Z a1 wd kw mm it sd h0 n0 vR U'.heap LR ∧ FrameEnd U o U' LR ({ frames := 6, cells := 3, slots := 8, locals := 89 } : Room).cells ({ frames := 6, cells := 3, slots := 8, locals := 89 } : Room).slots) := by
  refine MetFree.of_bodySF (plainFor_of_name pn_com_example_waban_waban_BloomFilter) hisR ?_
  intro p e s m args below meth c s₁ Bd hml0 hP hK
  obtain ⟨rfl, hZ, hh⟩ := hP
  have hx := Bd.exec
  have hby := Bd.bytes
  have hml : c.maxLocals = 3 := hml0
  have hown : s.vm.findClass "com/example/waban/waban/BloomFilter" = some m.cls := findClass_of_methodNamed Bd.named
  have hnm := (name_of_methodNamed Bd.named Bd.method).1
  have X0 : Stand p l e ({ frames := 6, cells := 3, slots := 8, locals := 89 } : Room) s m #[(.ref a1), (.long it)] below meth c s₁ [] 0 0 := Stand.of_body Bd
  have e0 : s₁.heap = h0 := by rw [← hh, Bd.state]; rfl
  have N0 := Fr.nil n0
  obtain ⟨B0, c0, hB0⟩ : ∃ B0, Steps p.tables e below B0 (s₁.setTop (mkF m 0 #[.val (.ref a1), .val (.long it), .second] [])) ∧ B0 = s₁.setTop (entryFrame m #[(.ref a1), (.long it)] 3) := ⟨_, castTop (ef_RJ_3 m a1 it) (Steps.refl _), rfl⟩
  have lt_a1 : (@LT.lt Nat _ a1 h0.size) := E1.lt
  have lt_ih : (@LT.lt Nat _ ih h0.size) := Ei.lt
  have lt_wd : (@LT.lt Nat _ wd h0.size) := V1.lt
  have c101 : SS p e below B0 s₁ m 2 #[.val (.ref a1), .val (.long it), .second] [(.ref a1), (.ref a1)] := Steps.trans c0 (by
      refine XS.aloadN X0.here hx rfl (own_d hby d26_0) rfl rfl ?_
      refine XS.aloadN X0.here hx rfl (own_d hby d26_1) rfl rfl ?_
      exact Steps.refl _)
  obtain ⟨T102, X102, e102, st102⟩ := getF X0 hx hZ hown (host := "") (Or.inl (W hw 44)) Via.refl e0 F4 (g := (mkF m 2 #[.val (.ref a1), .val (.long it), .second] [(.ref a1), (.ref a1)])) rfl rfl (own_d hby d26_2)
  have c103 : SS p e below B0 T102 m 5 #[.val (.ref a1), .val (.long it), .second] [(.ref ih), (.ref a1)] := Steps.trans c101 (st102 _ (Steps.refl _))
  have c104 : SS p e below B0 T102 m 6 #[.val (.ref a1), .val (.long it), .second] [(.long it), (.ref ih), (.ref a1)] := Steps.trans c103 (by
      refine XS.lloadN X102.here hx rfl (own_d hby d26_5) rfl ?_
      exact Steps.refl _)
  obtain ⟨cq105, kq105, qa105, qb105, qc105⟩ := isOf hZ e102 Ei
  obtain ⟨_, _, ⟨T105, Lp105, kp105, np105⟩, -, X105, ⟨Lc105, hQ105, lp105, yp105, zp105⟩, st105⟩ := X102.virtualBack hx (y := (⟨"com/example/waban/waban/ItemHash", "points", "(J)Lcom/example/waban/waban/ItemHash$Points;"⟩ : MethodName)) (z := (⟨"com/example/waban/waban/ItemHash", "points", "(J)Lcom/example/waban/waban/ItemHash$Points;"⟩ : MethodName)) hown (mvT hZ (W hw 179)) (mvT hZ (W hw 53)) (notFace_of_selects (args := #[]) (mvT hZ (W hw 55))) (mvT hZ (W hw 55)) (mvT hZ (W hw 54)) (by decide) (backOf (W := 1) (rmPs l Z a0 hw [] ih it sd h0 n0 (by omega) Ei Fi) hZ (W hw 56) (W hw 37) (by decide) (by decide)) qa105 qc105 (g := (mkF m 6 #[.val (.ref a1), .val (.long it), .second] [(.long it), (.ref ih), (.ref a1)])) rfl (by rw [hml]; rfl) c104 (argsL := [(.long it)]) (rest := [(.ref a1)]) (lenOf pd__J_Lcom_example_waban_waban_ItemHash_Points_ rfl) rfl (by show 2 * 0 + _ ≤ _; exact Nat.le_of_eq rfl) (own_d hby d26_6) (fun _ _ => ⟨rfl, e102, (by decide : 0 + 3 ≤ _), (by decide : 0 + 8 ≤ _)⟩)
  dsimp only [Pt.U, Pt.locs, Pt.cells, Pt.slots] at X105 lp105 yp105 zp105 st105 hQ105
  subst lp105 yp105 zp105
  obtain ⟨pt, rfl, Nq105, Kq105, gb105, eb105, fl105, fh105⟩ := hQ105
  have N105 := Fr.app N0 Nq105
  obtain ⟨h105, e105⟩ : ∃ z, T105.heap = z := ⟨_, rfl⟩
  rw [e105] at Kq105 eb105 fl105 fh105
  have z105 : h0.size ≤ h105.size := Kq105.1
  have K105 := (Keep.refl h0 [a1, wd]).trans Kq105 all0
  have c106 : SS p e below B0 T105 m 9 #[.val (.ref a1), .val (.long it), .second] [(.ref pt), (.ref a1)] := st105
  have lt_pt : (@LT.lt Nat _ pt h105.size) := eb105.lt
  have Exa107 : Exa Z h105 a1 "com/example/waban/waban/BloomFilter" := (E1.keep Kq105)
  have Fld108 : Fld Z h105 a1 "com/example/waban/waban/BloomFilter" "bitCount" "J" (.long mm) := (F0.keep Kq105 nin0)
  have Fld109 : Fld Z h105 a1 "com/example/waban/waban/BloomFilter" "hashCount" "I" (.int (1 : Int32)) := (F1.keep Kq105 nin0)
  have Fld110 : Fld Z h105 a1 "com/example/waban/waban/BloomFilter" "words" "[J" (.ref wd) := (F2.keep Kq105 nin0)
  have Fld111 : Fld Z h105 a1 "com/example/waban/waban/BloomFilter" "itemCount" "J" (.long ic) := (F3.keep Kq105 nin0)
  have Arv112 : Arv Z h105 wd kw .long (nwords mm) [] (.long (0 : Int64)) := (V1.keep Kq105 nin0)
  obtain ⟨cc113, hc113, ho113_⟩ := Exa107.cell
  obtain ⟨_, _, ⟨T113, Lp113, kp113, np113⟩, -, X113, ⟨Lc113, hQ113, lp113, yp113, zp113⟩, st113⟩ := X105.privateBack hx (y := (⟨"com/example/waban/waban/BloomFilter", "add", "(Lcom/example/waban/waban/ItemHash$Points;)V"⟩ : MethodName)) hown (mvT hZ (W hw 180)) (mvT hZ (W hw 181)) (own_selp hZ (W hw 2) (W hw 182) (W hw 181) (by decide)) (Cond.privateMethod_at (mvP hZ (W hw 182) (args := #[]))) (mvT hZ (W hw 183)) (by decide) (backOf (W := 0) (rmA2 l Z a0 hw [] a1 pt wd kw mm ic (lowOf sd it) (stepOf sd it) h105 n0 (by omega) Exa107 Fld108 Fld109 Fld110 Fld111 Arv112 (by omega) (by omega) nw eb105 fl105 fh105 (by omega) (by omega) (by omega) hi) hZ (W hw 183) (W hw 3) (by decide) (by decide)) (g := (mkF m 9 #[.val (.ref a1), .val (.long it), .second] [(.ref pt), (.ref a1)])) rfl (by rw [hml]; rfl) c106 (a := a1) (by rw [e105]; exact hc113) ho113_ (argsL := [(.ref pt)]) (rest := []) (lenOf pd__Lcom_example_waban_waban_ItemHash_Points__V rfl) rfl (by show 2 * 0 + _ ≤ _; exact Nat.le_of_eq rfl) (own_d hby d26_9) (fun _ _ => ⟨rfl, e105, (by decide : 3 + 0 ≤ _), (by decide : 8 + 0 ≤ _)⟩)
  dsimp only [Pt.U, Pt.locs, Pt.cells, Pt.slots] at X113 lp113 yp113 zp113 st113 hQ113
  subst lp113 yp113 zp113
  obtain ⟨rfl, Nq113, Kq113, fw113, vw113⟩ := hQ113
  have N113 := Fr.app N105 Nq113
  obtain ⟨h113, e113⟩ : ∃ z, T113.heap = z := ⟨_, rfl⟩
  rw [e113] at Kq113 fw113 vw113
  have z113 : h105.size ≤ h113.size := Kq113.1
  have K113 := K105.trans Kq113 (allS (Or.inl (List.mem_of_getElem? (i := 0) rfl)) (allS (Or.inr (by omega)) (allS (Or.inl (List.mem_of_getElem? (i := 1) rfl)) all0)))
  have c114 : SS p e below B0 T113 m 12 #[.val (.ref a1), .val (.long it), .second] [] := st113
  obtain ⟨fs, hr, hrun, hended, hW, hsame⟩ := X113.leave (v := none) (fun _ => rfl)
  subst hB0
  refine ⟨_, _, Steps.trans c114 ?_, hrun, hended, _, _, rfl, ?_, ⟨_, rfl⟩, hW, hsame.mono (by decide) (by decide)⟩
  · exact X113.returnOut hx Bd.returns (own_d hby d26_12) hr
  · show QA1 Z a1 wd kw mm it sd h0 n0 _ T113.heap _
    rw [e113]
    exact ⟨rfl, N113, K113, fw113, vw113⟩
def QL (n0 : Nat) (v : Option Value) (h : Heap) (L : List Loc) : Prop := v = some (.int 1) ∧ Fr n0 L
set_option maxRecDepth 65536 in
set_option maxHeartbeats 40000000 in
theorem rmL (l : Launch) (Z : State) (a0 : Array Value) (hw : ∀ d ∈ tables_1, d.before a0 Z = true) (ws : List Jvm.Cond) (q1 q2 q3 q4 : Int64) (p5 : Int32) (h0 : Heap) (n0 : Nat) (Z0 : n0 ≤ h0.size) (hEL : EW Z a0 consts_1) :
    MetFree l x (head1 (Jvm.Cond.code x code maxLocals ret :: ws) room_1) (fun a U => a = #[(.long q1), (.long q2), (.long q3), (.long q4), (.int p5)] ∧ Z.Warmed39 U.vm ∧ U.heap = h0 ∧ CHv Z consts_1 U.vm h0) (fun _ _ _ _ _ => True) (fun _ U o U' => ∃ vR LR, o = .returned vR ∧ QL n0 vR U'.heap LR ∧ CHr Z consts_1 U.vm U.heap U'.vm U'.heap ∧ ReturnedEndW U o U' LR room_1.cells room_1.slots) := by
  refine MetFree.of_bodySF (plainFor_of_name pn_com_example_waban_waban_BloomFilterIsSetPinLaw) hisR ?_
  intro p e s m args below meth c s₁ Bd hml0 hP hK
  obtain ⟨rfl, hZ, hh, H0⟩ := hP
  have hx := Bd.exec
  have hby := Bd.bytes
  have hml : c.maxLocals = 19 := hml0
  have hown : s.vm.findClass "com/example/waban/waban/BloomFilterIsSetPinLaw" = some m.cls := findClass_of_methodNamed Bd.named
  have hnm := (name_of_methodNamed Bd.named Bd.method).1
  have hown : (s.setVm s.vm).vm.findClass "com/example/waban/waban/BloomFilterIsSetPinLaw" = some m.cls := hown
  have hZ : Z.Warmed39 (s.setVm s.vm).vm := hZ
  have X0 : Stand p l e room_1 (s.setVm s.vm) m #[(.long q1), (.long q2), (.long q3), (.long q4), (.int p5)] below meth c s₁ [] 0 0 := Stand.of_body Bd
  have C0 := CHr.refl H0
  have hS0 : s.Since s.vm h0.size := (State.WarmedH.refl s).since _
  have hk0 : h0.size ≤ h0.size := Nat.le_refl _
  have wS : ∀ a ∈ Bundle.stringAtoms, a.before a0 Z = true := fun d hd => hw d ((by decide +kernel : ∀ d ∈ Bundle.stringAtoms, d ∈ tables_1) d hd)
  have e0 : s₁.heap = h0 := by rw [← hh, Bd.state]; rfl
  have N0 := Fr.nil n0
  obtain ⟨B0, c0, hB0⟩ : ∃ B0, Steps p.tables e below B0 (s₁.setTop (mkF m 0 #[.val (.long q1), .second, .val (.long q2), .second, .val (.long q3), .second, .val (.long q4), .second, .val (.int p5), .unset, .unset, .unset, .unset, .unset, .unset, .unset, .unset, .unset, .unset] [])) ∧ B0 = s₁.setTop (entryFrame m #[(.long q1), (.long q2), (.long q3), (.long q4), (.int p5)] maxLocals) := ⟨_, castTop (ef_JJJJI_19m m q1 q2 q3 q4 p5) (Steps.refl _), rfl⟩
  have c101 : SS p e below B0 s₁ m 9 #[.val (.long q1), .second, .val (.long q2), .second, .val (.long q3), .second, .val (.long q4), .second, .val (.int p5), .val (.long ((1 : Int64) + (q1 &&& (4095 : Int64)))), .second, .unset, .unset, .unset, .unset, .unset, .unset, .unset, .unset] [] := Steps.trans c0 (by
      refine XT.lconstV X0.here hx rfl (1 : Int64) (own_d hby at_0) (by decide) ?_
      refine XS.lloadN X0.here hx rfl (own_d hby at_1) rfl ?_
      refine X0.ldc2J hx hown (mvT hZ (W hw 0)) rfl (own_d hby at_2) ?_
      refine XS.land X0.here hx rfl (own_d hby at_5) rfl ?_
      refine XS.ladd X0.here hx rfl (own_d hby at_6) rfl ?_
      refine XS.lstore X0.here hx rfl (own_d hby at_7) rfl (l' := #[.val (.long q1), .second, .val (.long q2), .second, .val (.long q3), .second, .val (.long q4), .second, .val (.int p5), .val (.long ((1 : Int64) + (q1 &&& (4095 : Int64)))), .second, .unset, .unset, .unset, .unset, .unset, .unset, .unset, .unset]) rfl ?_
      exact Steps.refl _)
  obtain ⟨mm, hmm⟩ : ∃ z : Int64, z = ((1 : Int64) + (q1 &&& (4095 : Int64))) := ⟨_, rfl⟩
  rw [← hmm] at c101
  have hM := own_mm hmm
  obtain ⟨hm1, hm2, hn1, hn2⟩ := own_m hM
  obtain ⟨T102, h102, X102, e102, E102, A102, D102, -, st102⟩ := newO X0 hx hZ hown (W hw 1) (W hw 2) (W hw 3) e0 (g := (mkF m 9 #[.val (.long q1), .second, .val (.long q2), .second, .val (.long q3), .second, .val (.long q4), .second, .val (.int p5), .val (.long mm), .second, .unset, .unset, .unset, .unset, .unset, .unset, .unset, .unset] [])) rfl (own_d hby at_9) (by decide) (by decide)
  obtain ⟨f1, g102⟩ : ∃ z, z = h0.size := ⟨_, rfl⟩
  rw [← g102] at A102 D102 st102
  have z102 : h0.size ≤ h102.size := E102.1
  have l102 : (@LT.lt Nat _ f1 h102.size) := A102.lt
  have H102 : CHv Z consts_1 s.vm h102 := CHv.ext E102 H0
  have C102 := CHr.trans C0 (CHr.ext E102 H0)
  have K102 := (Keep.refl h0 []).ext E102
  have c103 : SS p e below B0 T102 m 12 #[.val (.long q1), .second, .val (.long q2), .second, .val (.long q3), .second, .val (.long q4), .second, .val (.int p5), .val (.long mm), .second, .unset, .unset, .unset, .unset, .unset, .unset, .unset, .unset] [(.ref f1)] := Steps.trans c101 (st102 _ (Steps.refl _))
  have c104 : SS p e below B0 T102 m 17 #[.val (.long q1), .second, .val (.long q2), .second, .val (.long q3), .second, .val (.long q4), .second, .val (.int p5), .val (.long mm), .second, .unset, .unset, .unset, .unset, .unset, .unset, .unset, .unset] [(.long q2), (.int (1 : Int32)), (.long mm), (.ref f1), (.ref f1)] := Steps.trans c103 (by
      refine XS.dup X102.here hx rfl (own_d hby at_12) rfl rfl ?_
      refine XS.lload X102.here hx rfl (own_d hby at_13) rfl ?_
      refine XT.iconstV X102.here hx rfl (1 : Int32) (own_d hby at_15) (by decide) ?_
      refine XS.lloadN X102.here hx rfl (own_d hby at_16) rfl ?_
      exact Steps.refl _)
  obtain ⟨_, _, ⟨T105, Lp105, kp105, np105⟩, -, X105, hs105, hg105, ⟨Lc105, hQ105, lp105, yp105, zp105, ch105⟩, st105⟩ := X102.specialBackS hx (y := (⟨"com/example/waban/waban/BloomFilter", "<init>", "(JIJ)V"⟩ : MethodName)) rfl hown (mvT hZ (W hw 4)) (mvT hZ (W hw 5)) (mvT hZ (W hw 6)) (by decide) (backOfSH (W := 1) (rmB l Z a0 hw [] f1 mm q2 _ _ _ _ _ h102 n0 (by omega) A102 (D102 (O := "com/example/waban/waban/BloomFilter") (nm := "bitCount") (d := "J") (Or.inr (W hw 32)) (ty := .long) (by decide)) (D102 (O := "com/example/waban/waban/BloomFilter") (nm := "hashCount") (d := "I") (Or.inr (W hw 34)) (ty := .int) (by decide)) (D102 (O := "com/example/waban/waban/BloomFilter") (nm := "itemHash") (d := "Lcom/example/waban/waban/ItemHash;") (Or.inr (W hw 45)) (ty := (.object "com/example/waban/waban/ItemHash")) (by decide)) (D102 (O := "com/example/waban/waban/BloomFilter") (nm := "words") (d := "[J") (Or.inr (W hw 49)) (ty := (.array .long)) (by decide)) (D102 (O := "com/example/waban/waban/BloomFilter") (nm := "itemCount") (d := "J") (Or.inl (W hw 187)) (ty := .long) (by decide)) (by omega) hm1 hm2 hn1 hn2 hEL) hZ (W hw 6) (W hw 3) (by decide) (by decide) hEL H102) (g := (mkF m 17 #[.val (.long q1), .second, .val (.long q2), .second, .val (.long q3), .second, .val (.long q4), .second, .val (.int p5), .val (.long mm), .second, .unset, .unset, .unset, .unset, .unset, .unset, .unset, .unset] [(.long q2), (.int (1 : Int32)), (.long mm), (.ref f1), (.ref f1)])) rfl (by rw [hml]; rfl) c104 (a := f1) (argsL := [(.long mm), (.int (1 : Int32)), (.long q2)]) (rest := [(.ref f1)]) (lenOf pd__JIJ_V rfl) rfl (by show 2 * 0 + _ ≤ _; exact Nat.le_of_eq rfl) (own_d hby at_17) (fun _ _ => ⟨rfl, e102, (by decide : 1 + 6 ≤ _), (by decide : 5 + 141 ≤ _)⟩)
  dsimp only [Pt.U, Pt.locs, Pt.cells, Pt.slots] at X105 lp105 yp105 zp105 st105 hQ105 hs105 hg105 ch105
  subst lp105 yp105 zp105
  obtain ⟨rfl, Nq105, Kq105, ih, wd, kw, gi105, gw105, niw, fb105, fh105, fi105, fw105, ei105, fs105, vw105, fc105⟩ := hQ105
  have N105 := Fr.app N0 Nq105
  obtain ⟨X105, hS105, hZ105, ho105⟩ := rebS hS0 (by rw [e102]; omega) X105 hs105 hg105 hZ hown
  obtain ⟨h105, e105⟩ : ∃ z, T105.heap = z := ⟨_, rfl⟩
  rw [e105] at Kq105 fb105 fh105 fi105 fw105 ei105 fs105 vw105 fc105 ch105
  have hk105 : T105.heap.size ≤ h105.size := by rw [e105]; exact Nat.le_refl _
  have z105 : h102.size ≤ h105.size := Kq105.1
  have K105 := K102.trans Kq105 (allS (Or.inr (by omega)) all0)
  have H105 : CHv Z consts_1 T105.vm h105 := ch105.1
  have C105 := CHr.trans C102 ch105
  have c106 : SS p e below B0 T105 m 20 #[.val (.long q1), .second, .val (.long q2), .second, .val (.long q3), .second, .val (.long q4), .second, .val (.int p5), .val (.long mm), .second, .unset, .unset, .unset, .unset, .unset, .unset, .unset, .unset] [(.ref f1)] := st105
  have lt_ih : (@LT.lt Nat _ ih h105.size) := ei105.lt
  have lt_wd : (@LT.lt Nat _ wd h105.size) := vw105.lt
  have c107 : SS p e below B0 T105 m 22 #[.val (.long q1), .second, .val (.long q2), .second, .val (.long q3), .second, .val (.long q4), .second, .val (.int p5), .val (.long mm), .second, .val (.ref f1), .unset, .unset, .unset, .unset, .unset, .unset, .unset] [] := Steps.trans c106 (by
      refine XS.astore X105.here hx rfl (own_d hby at_20) rfl rfl (l' := #[.val (.long q1), .second, .val (.long q2), .second, .val (.long q3), .second, .val (.long q4), .second, .val (.int p5), .val (.long mm), .second, .val (.ref f1), .unset, .unset, .unset, .unset, .unset, .unset, .unset]) rfl ?_
      exact Steps.refl _)
  obtain ⟨T108, h108, X108, e108, E108, A108, D108, -, st108⟩ := newO X105 hx hZ105 ho105 (W hw 50) (W hw 36) (W hw 37) e105 (g := (mkF m 22 #[.val (.long q1), .second, .val (.long q2), .second, .val (.long q3), .second, .val (.long q4), .second, .val (.int p5), .val (.long mm), .second, .val (.ref f1), .unset, .unset, .unset, .unset, .unset, .unset, .unset] [])) rfl (own_d hby at_22) (by decide) (by decide)
  obtain ⟨i1, g108⟩ : ∃ z, z = h105.size := ⟨_, rfl⟩
  rw [← g108] at A108 D108 st108
  have z108 : h105.size ≤ h108.size := E108.1
  have l108 : (@LT.lt Nat _ i1 h108.size) := A108.lt
  have H108 : CHv Z consts_1 T105.vm h108 := CHv.ext E108 H105
  have C108 := CHr.trans C105 (CHr.ext E108 H105)
  have K108 := K105.ext E108
  have c109 : SS p e below B0 T108 m 25 #[.val (.long q1), .second, .val (.long q2), .second, .val (.long q3), .second, .val (.long q4), .second, .val (.int p5), .val (.long mm), .second, .val (.ref f1), .unset, .unset, .unset, .unset, .unset, .unset, .unset] [(.ref i1)] := Steps.trans c107 (st108 _ (Steps.refl _))
  have c110 : SS p e below B0 T108 m 27 #[.val (.long q1), .second, .val (.long q2), .second, .val (.long q3), .second, .val (.long q4), .second, .val (.int p5), .val (.long mm), .second, .val (.ref f1), .unset, .unset, .unset, .unset, .unset, .unset, .unset] [(.long q2), (.ref i1), (.ref i1)] := Steps.trans c109 (by
      refine XS.dup X108.here hx rfl (own_d hby at_25) rfl rfl ?_
      refine XS.lloadN X108.here hx rfl (own_d hby at_26) rfl ?_
      exact Steps.refl _)
  obtain ⟨_, _, ⟨T111, Lp111, kp111, np111⟩, -, X111, ⟨Lc111, hQ111, lp111, yp111, zp111⟩, st111⟩ := X108.specialBack hx (y := (⟨"com/example/waban/waban/ItemHash", "<init>", "(J)V"⟩ : MethodName)) rfl ho105 (mvT hZ105 (W hw 51)) (mvT hZ105 (W hw 39)) (mvT hZ105 (W hw 40)) (by decide) (backOf (W := 1) (rmI l Z a0 hw [] i1 q2 _ h108 n0 (by omega) A108 (D108 (O := "com/example/waban/waban/ItemHash") (nm := "seed") (d := "J") (Or.inr (W hw 43)) (ty := .long) (by decide)) (by omega)) hZ105 (W hw 40) (W hw 37) (by decide) (by decide)) (g := (mkF m 27 #[.val (.long q1), .second, .val (.long q2), .second, .val (.long q3), .second, .val (.long q4), .second, .val (.int p5), .val (.long mm), .second, .val (.ref f1), .unset, .unset, .unset, .unset, .unset, .unset, .unset] [(.long q2), (.ref i1), (.ref i1)])) rfl (by rw [hml]; rfl) c110 (a := i1) (argsL := [(.long q2)]) (rest := [(.ref i1)]) (lenOf pd__J_V rfl) rfl (by show 2 * 0 + _ ≤ _; exact Nat.le_of_eq rfl) (own_d hby at_27) (fun _ _ => ⟨rfl, e108, (by decide : 8 + 0 ≤ _), (by decide : 147 + 0 ≤ _)⟩)
  dsimp only [Pt.U, Pt.locs, Pt.cells, Pt.slots] at X111 lp111 yp111 zp111 st111 hQ111
  subst lp111 yp111 zp111
  obtain ⟨rfl, Nq111, Kq111, fs111⟩ := hQ111
  have N111 := Fr.app N105 Nq111
  obtain ⟨h111, e111⟩ : ∃ z, T111.heap = z := ⟨_, rfl⟩
  rw [e111] at Kq111 fs111
  have z111 : h108.size ≤ h111.size := Kq111.1
  have K111 := K108.trans Kq111 (allS (Or.inr (by omega)) all0)
  have H111 : CHv Z consts_1 T105.vm h111 := CHv.keep Kq111 (sfS own_safe sf0) H108
  have C111 := CHr.trans C108 (CHr.keep Kq111 (sfS own_safe sf0) H108)
  have c112 : SS p e below B0 T111 m 30 #[.val (.long q1), .second, .val (.long q2), .second, .val (.long q3), .second, .val (.long q4), .second, .val (.int p5), .val (.long mm), .second, .val (.ref f1), .unset, .unset, .unset, .unset, .unset, .unset, .unset] [(.ref i1)] := st111
  have c113 : SS p e below B0 T111 m 32 #[.val (.long q1), .second, .val (.long q2), .second, .val (.long q3), .second, .val (.long q4), .second, .val (.int p5), .val (.long mm), .second, .val (.ref f1), .unset, .unset, .unset, .unset, .unset, .unset, .unset] [(.long q3), (.ref i1)] := Steps.trans c112 (by
      refine XS.lload X111.here hx rfl (own_d hby at_30) rfl ?_
      exact Steps.refl _)
  have Exa114 : Exa Z h111 i1 "com/example/waban/waban/ItemHash" := (A108.keep Kq111)
  obtain ⟨cq115, kq115, qa115, qb115, qc115⟩ := isOf hZ105 e111 Exa114
  obtain ⟨_, _, ⟨T115, Lp115, kp115, np115⟩, -, X115, ⟨Lc115, hQ115, lp115, yp115, zp115⟩, st115⟩ := X111.virtualBack hx (y := (⟨"com/example/waban/waban/ItemHash", "points", "(J)Lcom/example/waban/waban/ItemHash$Points;"⟩ : MethodName)) (z := (⟨"com/example/waban/waban/ItemHash", "points", "(J)Lcom/example/waban/waban/ItemHash$Points;"⟩ : MethodName)) ho105 (mvT hZ105 (W hw 52)) (mvT hZ105 (W hw 53)) (notFace_of_selects (args := #[]) (mvT hZ105 (W hw 55))) (mvT hZ105 (W hw 55)) (mvT hZ105 (W hw 54)) (by decide) (backOf (W := 0) (rmPs l Z a0 hw [] i1 q3 q2 h111 n0 (by omega) Exa114 fs111) hZ105 (W hw 56) (W hw 37) (by decide) (by decide)) qa115 qc115 (g := (mkF m 32 #[.val (.long q1), .second, .val (.long q2), .second, .val (.long q3), .second, .val (.long q4), .second, .val (.int p5), .val (.long mm), .second, .val (.ref f1), .unset, .unset, .unset, .unset, .unset, .unset, .unset] [(.long q3), (.ref i1)])) rfl (by rw [hml]; rfl) c113 (argsL := [(.long q3)]) (rest := []) (lenOf pd__J_Lcom_example_waban_waban_ItemHash_Points_ rfl) rfl (by show 2 * 0 + _ ≤ _; exact Nat.le_of_eq rfl) (own_d hby at_32) (fun _ _ => ⟨rfl, e111, (by decide : 8 + 3 ≤ _), (by decide : 147 + 8 ≤ _)⟩)
  dsimp only [Pt.U, Pt.locs, Pt.cells, Pt.slots] at X115 lp115 yp115 zp115 st115 hQ115
  subst lp115 yp115 zp115
  obtain ⟨pt, rfl, Nq115, Kq115, gb115, eb115, fl115, fh115⟩ := hQ115
  have N115 := Fr.app N111 Nq115
  obtain ⟨h115, e115⟩ : ∃ z, T115.heap = z := ⟨_, rfl⟩
  rw [e115] at Kq115 eb115 fl115 fh115
  have z115 : h111.size ≤ h115.size := Kq115.1
  have K115 := K111.trans Kq115 all0
  have H115 : CHv Z consts_1 T105.vm h115 := CHv.keep Kq115 sf0 H111
  have C115 := CHr.trans C111 (CHr.keep Kq115 sf0 H111)
  have c116 : SS p e below B0 T115 m 35 #[.val (.long q1), .second, .val (.long q2), .second, .val (.long q3), .second, .val (.long q4), .second, .val (.int p5), .val (.long mm), .second, .val (.ref f1), .unset, .unset, .unset, .unset, .unset, .unset, .unset] [(.ref pt)] := st115
  have lt_pt : (@LT.lt Nat _ pt h115.size) := eb115.lt
  obtain ⟨cq117, kq117, qa117, qb117, qc117⟩ := isOf hZ105 e115 eb115
  obtain ⟨_, _, ⟨T117, Lp117, kp117, np117⟩, -, X117, ⟨Lc117, hQ117, lp117, yp117, zp117⟩, st117⟩ := X115.virtualBack hx (y := (⟨"com/example/waban/waban/ItemHash$Points", "next", "()J"⟩ : MethodName)) (z := (⟨"com/example/waban/waban/ItemHash$Points", "next", "()J"⟩ : MethodName)) ho105 (mvT hZ105 (W hw 151)) (mvT hZ105 (W hw 152)) (notFace_of_selects (args := #[]) (mvT hZ105 (W hw 154))) (mvT hZ105 (W hw 154)) (mvT hZ105 (W hw 153)) (by decide) (backOf (W := 0) (rmN l Z a0 hw [] pt (lowOf q2 q3) (stepOf q2 q3) h115 n0 (by omega) eb115 fl115 fh115 (by omega)) hZ105 (W hw 155) (W hw 59) (by decide) (by decide)) qa117 qc117 (g := (mkF m 35 #[.val (.long q1), .second, .val (.long q2), .second, .val (.long q3), .second, .val (.long q4), .second, .val (.int p5), .val (.long mm), .second, .val (.ref f1), .unset, .unset, .unset, .unset, .unset, .unset, .unset] [(.ref pt)])) rfl (by rw [hml]; rfl) c116 (argsL := []) (rest := []) (lenOf pd___J rfl) rfl (by show 2 * 0 + _ ≤ _; exact Nat.le_of_eq rfl) (own_d hby at_35) (fun _ _ => ⟨rfl, e115, (by decide : 11 + 0 ≤ _), (by decide : 155 + 0 ≤ _)⟩)
  dsimp only [Pt.U, Pt.locs, Pt.cells, Pt.slots] at X117 lp117 yp117 zp117 st117 hQ117
  subst lp117 yp117 zp117
  obtain ⟨rfl, Nq117, Kq117⟩ := hQ117
  have N117 := Fr.app N115 Nq117
  obtain ⟨h117, e117⟩ : ∃ z, T117.heap = z := ⟨_, rfl⟩
  rw [e117] at Kq117
  have z117 : h115.size ≤ h117.size := Kq117.1
  have K117 := K115.trans Kq117 (allS (Or.inr (by omega)) all0)
  have H117 : CHv Z consts_1 T105.vm h117 := CHv.keep Kq117 (sfS own_safe sf0) H115
  have C117 := CHr.trans C115 (CHr.keep Kq117 (sfS own_safe sf0) H115)
  have c118 : SS p e below B0 T117 m 38 #[.val (.long q1), .second, .val (.long q2), .second, .val (.long q3), .second, .val (.long q4), .second, .val (.int p5), .val (.long mm), .second, .val (.ref f1), .unset, .unset, .unset, .unset, .unset, .unset, .unset] [(.long (mix (lowOf q2 q3)))] := st117
  have c119 : SS p e below B0 T117 m 40 #[.val (.long q1), .second, .val (.long q2), .second, .val (.long q3), .second, .val (.long q4), .second, .val (.int p5), .val (.long mm), .second, .val (.ref f1), .unset, .unset, .unset, .unset, .unset, .unset, .unset] [(.long mm), (.long (mix (lowOf q2 q3)))] := Steps.trans c118 (by
      refine XS.lload X117.here hx rfl (own_d hby at_38) rfl ?_
      exact Steps.refl _)
  obtain ⟨_, _, ⟨T120, Lp120, kp120, np120⟩, -, X120, ⟨Lc120, hQ120, lp120, yp120, zp120⟩, st120⟩ := Jvm.LawKit.callS X117 hx (y := (⟨"com/example/waban/waban/ItemHash", "cell", "(JJ)J"⟩ : MethodName)) ho105 (mvT hZ105 (W hw 161)) (mvT hZ105 (W hw 162)) (mvT hZ105 (W hw 37)) (mvT hZ105 (W hw 163)) (by decide) (backOf (W := 0) (rmC l Z a0 hw [] (mix (lowOf q2 q3)) mm h117 n0 (by omega)) hZ105 (W hw 163) (W hw 37) (by decide) (by decide)) (g := (mkF m 40 #[.val (.long q1), .second, .val (.long q2), .second, .val (.long q3), .second, .val (.long q4), .second, .val (.int p5), .val (.long mm), .second, .val (.ref f1), .unset, .unset, .unset, .unset, .unset, .unset, .unset] [(.long mm), (.long (mix (lowOf q2 q3)))])) rfl (by rw [hml]; rfl) (argsL := [(.long (mix (lowOf q2 q3))), (.long mm)]) (rest := []) (lenOf pd__JJ_J rfl) rfl (by show 2 * 0 + _ ≤ _; exact Nat.le_of_eq rfl) (own_d hby at_40) (fun _ _ => ⟨rfl, e117, (by decide : 11 + 0 ≤ _), (by decide : 155 + 0 ≤ _)⟩)
  dsimp only [Pt.U, Pt.locs, Pt.cells, Pt.slots] at X120 lp120 yp120 zp120 st120 hQ120
  subst lp120 yp120 zp120
  obtain ⟨rfl, Nq120, eq120⟩ := hQ120
  have N120 := Fr.app N117 Nq120
  have c121 : SS p e below B0 T120 m 43 #[.val (.long q1), .second, .val (.long q2), .second, .val (.long q3), .second, .val (.long q4), .second, .val (.int p5), .val (.long mm), .second, .val (.ref f1), .unset, .unset, .unset, .unset, .unset, .unset, .unset] [(.long (cellOf (mix (lowOf q2 q3)) mm))] := Steps.trans c119 (st120 _ (Steps.refl _))
  have hP := own_cell (mix (lowOf q2 q3)) hM
  have iP := own_idx hM hP.1 hP.2
  have c122 : SS p e below B0 T120 m 49 #[.val (.long q1), .second, .val (.long q2), .second, .val (.long q3), .second, .val (.long q4), .second, .val (.int p5), .val (.long mm), .second, .val (.ref f1), .val (.long (cellOf (mix (lowOf q2 q3)) mm)), .second, .unset, .unset, .unset, .unset, .unset] [(.long (cellOf (mix (lowOf q2 q3)) mm)), (.ref f1)] := Steps.trans c121 (by
      refine XS.lstore X120.here hx rfl (own_d hby at_43) rfl (l' := #[.val (.long q1), .second, .val (.long q2), .second, .val (.long q3), .second, .val (.long q4), .second, .val (.int p5), .val (.long mm), .second, .val (.ref f1), .val (.long (cellOf (mix (lowOf q2 q3)) mm)), .second, .unset, .unset, .unset, .unset, .unset]) rfl ?_
      refine XS.aload X120.here hx rfl (own_d hby at_45) rfl rfl ?_
      refine XS.lload X120.here hx rfl (own_d hby at_47) rfl ?_
      exact Steps.refl _)
  have Fld123 : Fld Z h117 f1 "com/example/waban/waban/BloomFilter" "words" "[J" (.ref wd) := ((((fw105.ext E108).keep Kq111 (ninS (own_ne (by omega)) nin0)).keep Kq115 nin0).keep Kq117 (ninS (own_ne (by omega)) nin0))
  have Arv124 : Arv Z h117 wd kw .long (nwords mm) [] (.long (0 : Int64)) := ((((vw105.ext E108).keep Kq111 (ninS (own_ne (by omega)) nin0)).keep Kq115 nin0).keep Kq117 (ninS (own_ne (by omega)) nin0))
  have Exa126 : Exa Z h117 f1 "com/example/waban/waban/BloomFilter" := (((((A102.keep Kq105).ext E108).keep Kq111).keep Kq115).keep Kq117)
  obtain ⟨cq125, kq125, qa125, qb125, qc125⟩ := isOf hZ105 eq120 Exa126
  obtain ⟨_, _, ⟨T125, Lp125, kp125, np125⟩, -, X125, ⟨Lc125, hQ125, lp125, yp125, zp125⟩, st125⟩ := X120.virtualBack hx (y := (⟨"com/example/waban/waban/BloomFilter", "isSet", "(J)Z"⟩ : MethodName)) (z := (⟨"com/example/waban/waban/BloomFilter", "isSet", "(J)Z"⟩ : MethodName)) ho105 (mvT hZ105 (W hw 169)) (mvT hZ105 (W hw 170)) (notFace_of_selects (args := #[]) (mvT hZ105 (W hw 172))) (mvT hZ105 (W hw 172)) (mvT hZ105 (W hw 171)) (by decide) (backOf (W := 0) (rmIs0 l Z a0 hw [] f1 wd kw (cellOf (mix (lowOf q2 q3)) mm) 0 (nwords mm) [] h117 n0 (by omega) Fld123 Arv124.arh iP rfl (own_z _)) hZ105 (W hw 173) (W hw 3) (by decide) (by decide)) qa125 qc125 (g := (mkF m 49 #[.val (.long q1), .second, .val (.long q2), .second, .val (.long q3), .second, .val (.long q4), .second, .val (.int p5), .val (.long mm), .second, .val (.ref f1), .val (.long (cellOf (mix (lowOf q2 q3)) mm)), .second, .unset, .unset, .unset, .unset, .unset] [(.long (cellOf (mix (lowOf q2 q3)) mm)), (.ref f1)])) rfl (by rw [hml]; rfl) c122 (argsL := [(.long (cellOf (mix (lowOf q2 q3)) mm))]) (rest := []) (lenOf pd__J_Z rfl) rfl (by show 2 * 0 + _ ≤ _; exact Nat.le_of_eq rfl) (own_d hby at_49) (fun _ _ => ⟨rfl, eq120, (by decide : 11 + 0 ≤ _), (by decide : 155 + 0 ≤ _)⟩)
  dsimp only [Pt.U, Pt.locs, Pt.cells, Pt.slots] at X125 lp125 yp125 zp125 st125 hQ125
  subst lp125 yp125 zp125
  obtain ⟨rfl, Nq125, eq125⟩ := hQ125
  have N125 := Fr.app N120 Nq125
  have c127 : SS p e below B0 T125 m 52 #[.val (.long q1), .second, .val (.long q2), .second, .val (.long q3), .second, .val (.long q4), .second, .val (.int p5), .val (.long mm), .second, .val (.ref f1), .val (.long (cellOf (mix (lowOf q2 q3)) mm)), .second, .unset, .unset, .unset, .unset, .unset] [(.int (0 : Int32))] := st125
  have c128 : SS p e below B0 T125 m 58 #[.val (.long q1), .second, .val (.long q2), .second, .val (.long q3), .second, .val (.long q4), .second, .val (.int p5), .val (.long mm), .second, .val (.ref f1), .val (.long (cellOf (mix (lowOf q2 q3)) mm)), .second, .val (.int (0 : Int32)), .unset, .unset, .unset, .unset] [(.long q3), (.ref f1)] := Steps.trans c127 (by
      refine XS.istore X125.here hx rfl (own_d hby at_52) rfl (l' := #[.val (.long q1), .second, .val (.long q2), .second, .val (.long q3), .second, .val (.long q4), .second, .val (.int p5), .val (.long mm), .second, .val (.ref f1), .val (.long (cellOf (mix (lowOf q2 q3)) mm)), .second, .val (.int (0 : Int32)), .unset, .unset, .unset, .unset]) rfl ?_
      refine XS.aload X125.here hx rfl (own_d hby at_54) rfl rfl ?_
      refine XS.lload X125.here hx rfl (own_d hby at_56) rfl ?_
      exact Steps.refl _)
  have Fld129 : Fld Z h117 f1 "com/example/waban/waban/BloomFilter" "bitCount" "J" (.long mm) := ((((fb105.ext E108).keep Kq111 (ninS (own_ne (by omega)) nin0)).keep Kq115 nin0).keep Kq117 (ninS (own_ne (by omega)) nin0))
  have Fld130 : Fld Z h117 f1 "com/example/waban/waban/BloomFilter" "hashCount" "I" (.int (1 : Int32)) := ((((fh105.ext E108).keep Kq111 (ninS (own_ne (by omega)) nin0)).keep Kq115 nin0).keep Kq117 (ninS (own_ne (by omega)) nin0))
  have Fld131 : Fld Z h117 f1 "com/example/waban/waban/BloomFilter" "itemCount" "J" (.long (0 : Int64)) := ((((fc105.ext E108).keep Kq111 (ninS (own_ne (by omega)) nin0)).keep Kq115 nin0).keep Kq117 (ninS (own_ne (by omega)) nin0))
  have Fld132 : Fld Z h117 f1 "com/example/waban/waban/BloomFilter" "itemHash" "Lcom/example/waban/waban/ItemHash;" (.ref ih) := ((((fi105.ext E108).keep Kq111 (ninS (own_ne (by omega)) nin0)).keep Kq115 nin0).keep Kq117 (ninS (own_ne (by omega)) nin0))
  have Exa133 : Exa Z h117 ih "com/example/waban/waban/ItemHash" := ((((ei105.ext E108).keep Kq111).keep Kq115).keep Kq117)
  have Fld134 : Fld Z h117 ih "com/example/waban/waban/ItemHash" "seed" "J" (.long q2) := ((((fs105.ext E108).keep Kq111 (ninS (own_ne (by omega)) nin0)).keep Kq115 nin0).keep Kq117 (ninS (own_ne (by omega)) nin0))
  obtain ⟨cq135, kq135, qa135, qb135, qc135⟩ := isOf hZ105 eq125 Exa126
  obtain ⟨_, _, ⟨T135, Lp135, kp135, np135⟩, -, X135, ⟨Lc135, hQ135, lp135, yp135, zp135⟩, st135⟩ := X125.virtualBack hx (y := (⟨"com/example/waban/waban/BloomFilter", "add", "(J)V"⟩ : MethodName)) (z := (⟨"com/example/waban/waban/BloomFilter", "add", "(J)V"⟩ : MethodName)) ho105 (mvT hZ105 (W hw 174)) (mvT hZ105 (W hw 175)) (notFace_of_selects (args := #[]) (mvT hZ105 (W hw 177))) (mvT hZ105 (W hw 177)) (mvT hZ105 (W hw 176)) (by decide) (backOf (W := 0) (rmA1 l Z a0 hw [] f1 wd ih kw mm 0 q3 q2 h117 n0 (by omega) Exa126 Fld129 Fld130 Fld123 Fld131 Arv124 (by omega) (by omega) (by omega) Fld132 Exa133 Fld134 iP) hZ105 (W hw 178) (W hw 3) (by decide) (by decide)) qa135 qc135 (g := (mkF m 58 #[.val (.long q1), .second, .val (.long q2), .second, .val (.long q3), .second, .val (.long q4), .second, .val (.int p5), .val (.long mm), .second, .val (.ref f1), .val (.long (cellOf (mix (lowOf q2 q3)) mm)), .second, .val (.int (0 : Int32)), .unset, .unset, .unset, .unset] [(.long q3), (.ref f1)])) rfl (by rw [hml]; rfl) c128 (argsL := [(.long q3)]) (rest := []) (lenOf pd__J_V rfl) rfl (by show 2 * 0 + _ ≤ _; exact Nat.le_of_eq rfl) (own_d hby at_58) (fun _ _ => ⟨rfl, eq125, (by decide : 11 + 3 ≤ _), (by decide : 155 + 8 ≤ _)⟩)
  dsimp only [Pt.U, Pt.locs, Pt.cells, Pt.slots] at X135 lp135 yp135 zp135 st135 hQ135
  subst lp135 yp135 zp135
  obtain ⟨rfl, Nq135, Kq135, fw135, vw135⟩ := hQ135
  have N135 := Fr.app N125 Nq135
  obtain ⟨h135, e135⟩ : ∃ z, T135.heap = z := ⟨_, rfl⟩
  rw [e135] at Kq135 fw135 vw135
  have z135 : h117.size ≤ h135.size := Kq135.1
  have K135 := K117.trans Kq135 (allS (Or.inr (by omega)) (allS (Or.inr (by omega)) all0))
  have H135 : CHv Z consts_1 T105.vm h135 := CHv.keep Kq135 (sfS own_safe (sfS own_safe sf0)) H117
  have C135 := CHr.trans C117 (CHr.keep Kq135 (sfS own_safe (sfS own_safe sf0)) H117)
  have c136 : SS p e below B0 T135 m 61 #[.val (.long q1), .second, .val (.long q2), .second, .val (.long q3), .second, .val (.long q4), .second, .val (.int p5), .val (.long mm), .second, .val (.ref f1), .val (.long (cellOf (mix (lowOf q2 q3)) mm)), .second, .val (.int (0 : Int32)), .unset, .unset, .unset, .unset] [] := st135
  have c137 : SS p e below B0 T135 m 70 #[.val (.long q1), .second, .val (.long q2), .second, .val (.long q3), .second, .val (.long q4), .second, .val (.int p5), .val (.long mm), .second, .val (.ref f1), .val (.long (cellOf (mix (lowOf q2 q3)) mm)), .second, .val (.int (0 : Int32)), .unset, .unset, .unset, .unset] [(.long ((q4 &&& (9223372036854775807 : Int64)) - ((q4 &&& (9223372036854775807 : Int64)) / mm) * mm))] := Steps.trans c136 (by
      refine XS.lload X135.here hx rfl (own_d hby at_61) rfl ?_
      refine X135.ldc2J hx ho105 (mvT hZ105 (W hw 188)) rfl (own_d hby at_63) ?_
      refine XS.land X135.here hx rfl (own_d hby at_66) rfl ?_
      refine XS.lload X135.here hx rfl (own_d hby at_67) rfl ?_
      refine XS.lrem X135.here hx rfl (own_d hby at_69) rfl (own_m0 hM) ?_
      exact Steps.refl _)
  obtain ⟨qq, hqq⟩ : ∃ z : Int64, z = ((q4 &&& (9223372036854775807 : Int64)) - ((q4 &&& (9223372036854775807 : Int64)) / mm) * mm) := ⟨_, rfl⟩
  rw [← hqq] at c137
  have hQ := own_rem (q4 &&& 9223372036854775807) hM hqq (own_and q4)
  have iQ := own_idx hM hQ.1 hQ.2
  have c138 : SS p e below B0 T135 m 85 #[.val (.long q1), .second, .val (.long q2), .second, .val (.long q3), .second, .val (.long q4), .second, .val (.int p5), .val (.long mm), .second, .val (.ref f1), .val (.long (cellOf (mix (lowOf q2 q3)) mm)), .second, .val (.int (0 : Int32)), .val (.long qq), .second, .unset, .unset] [(.long (((cellOf (mix (lowOf q2 q3)) mm) &&& (-64 : Int64)) ||| ((p5 &&& (63 : Int32)).toInt64)))] := Steps.trans c137 (by
      refine XS.lstore X135.here hx rfl (own_d hby at_70) rfl (l' := #[.val (.long q1), .second, .val (.long q2), .second, .val (.long q3), .second, .val (.long q4), .second, .val (.int p5), .val (.long mm), .second, .val (.ref f1), .val (.long (cellOf (mix (lowOf q2 q3)) mm)), .second, .val (.int (0 : Int32)), .val (.long qq), .second, .unset, .unset]) rfl ?_
      refine XS.lload X135.here hx rfl (own_d hby at_72) rfl ?_
      refine X135.ldc2J hx ho105 (mvT hZ105 (W hw 189)) rfl (own_d hby at_74) ?_
      refine XS.land X135.here hx rfl (own_d hby at_77) rfl ?_
      refine XS.iload X135.here hx rfl (own_d hby at_78) rfl ?_
      refine XT.bipushV X135.here hx rfl (63 : Int32) (own_d hby at_80) (by decide) ?_
      refine XS.iand X135.here hx rfl (own_d hby at_82) rfl ?_
      refine XS.i2l X135.here hx rfl (own_d hby at_83) rfl ?_
      refine XS.lor X135.here hx rfl (own_d hby at_84) rfl ?_
      exact Steps.refl _)
  obtain ⟨w0, hw0⟩ : ∃ z : Int64, z = (((cellOf (mix (lowOf q2 q3)) mm) &&& (-64 : Int64)) ||| ((p5 &&& (63 : Int32)).toInt64)) := ⟨_, rfl⟩
  rw [← hw0] at c138
  have c139 : SS p e below B0 T135 m 92 #[.val (.long q1), .second, .val (.long q2), .second, .val (.long q3), .second, .val (.long q4), .second, .val (.int p5), .val (.long mm), .second, .val (.ref f1), .val (.long (cellOf (mix (lowOf q2 q3)) mm)), .second, .val (.int (0 : Int32)), .val (.long qq), .second, .val (.long w0), .second] [(.int (lcmpW w0 mm))] := Steps.trans c138 (by
      refine XS.lstore X135.here hx rfl (own_d hby at_85) rfl (l' := #[.val (.long q1), .second, .val (.long q2), .second, .val (.long q3), .second, .val (.long q4), .second, .val (.int p5), .val (.long mm), .second, .val (.ref f1), .val (.long (cellOf (mix (lowOf q2 q3)) mm)), .second, .val (.int (0 : Int32)), .val (.long qq), .second, .val (.long w0), .second]) rfl ?_
      refine XS.lload X135.here hx rfl (own_d hby at_87) rfl ?_
      refine XS.lload X135.here hx rfl (own_d hby at_89) rfl ?_
      refine XS.lcmp X135.here hx rfl (own_d hby at_91) rfl ?_
      exact Steps.refl _)
  obtain ⟨ww, hy_ww, c140⟩ : ∃ (ww : Int64), ((ww = w0 ∧ (lcmpW w0 mm) < (0 : Int32)) ∨ (ww = (cellOf (mix (lowOf q2 q3)) mm) ∧ ¬ ((lcmpW w0 mm) < (0 : Int32)))) ∧ SS p e below B0 T135 m 99 #[.val (.long q1), .second, .val (.long q2), .second, .val (.long q3), .second, .val (.long q4), .second, .val (.int p5), .val (.long mm), .second, .val (.ref f1), .val (.long (cellOf (mix (lowOf q2 q3)) mm)), .second, .val (.int (0 : Int32)), .val (.long qq), .second, .val (.long ww), .second] [] := by
    by_cases h_ww : (lcmpW w0 mm) < (0 : Int32)
    · refine ⟨w0, Or.inl ⟨rfl, h_ww⟩, Steps.trans c139 (by
        refine XS.ifYes X135.here hx rfl (pc0 := 92) (pc' := 99) rfl (own_d hby at_92) rfl ((if0 _ _).trans (tlt h_ww).1) (by decide) (by decide) ?_
        exact Steps.refl _)⟩
    · refine ⟨(cellOf (mix (lowOf q2 q3)) mm), Or.inr ⟨rfl, h_ww⟩, Steps.trans c139 (by
        refine XS.ifNo X135.here hx rfl (own_d hby at_92) rfl ((if0 _ _).trans (flt h_ww).1) ?_
        refine XS.lload X135.here hx rfl (own_d hby at_95) rfl ?_
        refine XS.lstore X135.here hx rfl (own_d hby at_97) rfl (l' := #[.val (.long q1), .second, .val (.long q2), .second, .val (.long q3), .second, .val (.long q4), .second, .val (.int p5), .val (.long mm), .second, .val (.ref f1), .val (.long (cellOf (mix (lowOf q2 q3)) mm)), .second, .val (.int (0 : Int32)), .val (.long qq), .second, .val (.long (cellOf (mix (lowOf q2 q3)) mm)), .second]) rfl ?_
        exact Steps.refl _)⟩
  have hW : 0 ≤ ww.toInt ∧ ww.toInt < mm.toInt := by
    rcases hy_ww with ⟨rfl, hl⟩ | ⟨rfl, -⟩
    · exact ⟨by rw [hw0]; exact own_w hP.1 p5, by have := (lw_lt _ _).mp hl; rwa [Int64.lt_iff_toInt_lt] at this⟩
    · exact hP
  have iW := own_idx hM hW.1 hW.2
  have c141 : SS p e below B0 T135 m 108 #[.val (.long q1), .second, .val (.long q2), .second, .val (.long q3), .second, .val (.long q4), .second, .val (.int p5), .val (.long mm), .second, .val (.ref f1), .val (.long (cellOf (mix (lowOf q2 q3)) mm)), .second, .val (.int (0 : Int32)), .val (.long qq), .second, .val (.long ww), .second] [(.long (cellOf (mix (lowOf q2 q3)) mm)), (.ref f1)] := Steps.trans c140 (by
      refine XS.iload X135.here hx rfl (own_d hby at_99) rfl ?_
      refine XS.ifNo X135.here hx rfl (own_d hby at_101) rfl ((if0 _ _).trans (teq (by decide : (0 : Int32) = (0 : Int32))).2) ?_
      refine XS.aload X135.here hx rfl (own_d hby at_104) rfl rfl ?_
      refine XS.lload X135.here hx rfl (own_d hby at_106) rfl ?_
      exact Steps.refl _)
  have Exa143 : Exa Z h135 f1 "com/example/waban/waban/BloomFilter" := (Exa126.keep Kq135)
  obtain ⟨cq142, kq142, qa142, qb142, qc142⟩ := isOf hZ105 e135 Exa143
  obtain ⟨_, _, ⟨T142, Lp142, kp142, np142⟩, -, X142, ⟨Lc142, hQ142, lp142, yp142, zp142⟩, st142⟩ := X135.virtualBack hx (y := (⟨"com/example/waban/waban/BloomFilter", "isSet", "(J)Z"⟩ : MethodName)) (z := (⟨"com/example/waban/waban/BloomFilter", "isSet", "(J)Z"⟩ : MethodName)) ho105 (mvT hZ105 (W hw 169)) (mvT hZ105 (W hw 170)) (notFace_of_selects (args := #[]) (mvT hZ105 (W hw 172))) (mvT hZ105 (W hw 172)) (mvT hZ105 (W hw 171)) (by decide) (backOf (W := 0) (rmIs1 l Z a0 hw [] f1 wd kw (cellOf (mix (lowOf q2 q3)) mm) ((0 : Int64) ||| bit (cellOf (mix (lowOf q2 q3)) mm)) (nwords mm) [(widx (cellOf (mix (lowOf q2 q3)) mm), .long ((0 : Int64) ||| bit (cellOf (mix (lowOf q2 q3)) mm)))] h135 n0 (by omega) fw135 vw135 iP (own_hit iP.1) (own_bit (cellOf (mix (lowOf q2 q3)) mm))) hZ105 (W hw 173) (W hw 3) (by decide) (by decide)) qa142 qc142 (g := (mkF m 108 #[.val (.long q1), .second, .val (.long q2), .second, .val (.long q3), .second, .val (.long q4), .second, .val (.int p5), .val (.long mm), .second, .val (.ref f1), .val (.long (cellOf (mix (lowOf q2 q3)) mm)), .second, .val (.int (0 : Int32)), .val (.long qq), .second, .val (.long ww), .second] [(.long (cellOf (mix (lowOf q2 q3)) mm)), (.ref f1)])) rfl (by rw [hml]; rfl) c141 (argsL := [(.long (cellOf (mix (lowOf q2 q3)) mm))]) (rest := []) (lenOf pd__J_Z rfl) rfl (by show 2 * 0 + _ ≤ _; exact Nat.le_of_eq rfl) (own_d hby at_108) (fun _ _ => ⟨rfl, e135, (by decide : 14 + 0 ≤ _), (by decide : 163 + 0 ≤ _)⟩)
  dsimp only [Pt.U, Pt.locs, Pt.cells, Pt.slots] at X142 lp142 yp142 zp142 st142 hQ142
  subst lp142 yp142 zp142
  obtain ⟨rfl, Nq142, eq142⟩ := hQ142
  have N142 := Fr.app N135 Nq142
  have c144 : SS p e below B0 T142 m 111 #[.val (.long q1), .second, .val (.long q2), .second, .val (.long q3), .second, .val (.long q4), .second, .val (.int p5), .val (.long mm), .second, .val (.ref f1), .val (.long (cellOf (mix (lowOf q2 q3)) mm)), .second, .val (.int (0 : Int32)), .val (.long qq), .second, .val (.long ww), .second] [(.int (1 : Int32))] := st142
  have c145 : SS p e below B0 T142 m 118 #[.val (.long q1), .second, .val (.long q2), .second, .val (.long q3), .second, .val (.long q4), .second, .val (.int p5), .val (.long mm), .second, .val (.ref f1), .val (.long (cellOf (mix (lowOf q2 q3)) mm)), .second, .val (.int (0 : Int32)), .val (.long qq), .second, .val (.long ww), .second] [(.long qq), (.ref f1)] := Steps.trans c144 (by
      refine XS.ifNo X142.here hx rfl (own_d hby at_111) rfl ((if0 _ _).trans (feq (by decide : ¬ (1 : Int32) = (0 : Int32))).1) ?_
      refine XS.aload X142.here hx rfl (own_d hby at_114) rfl rfl ?_
      refine XS.lload X142.here hx rfl (own_d hby at_116) rfl ?_
      exact Steps.refl _)
  by_cases ne_qq : qq = (cellOf (mix (lowOf q2 q3)) mm)
  · have hdummy := Z0
    have ea := own_eqbit ne_qq
    obtain ⟨cq146, kq146, qa146, qb146, qc146⟩ := isOf hZ105 eq142 Exa143
    obtain ⟨_, _, ⟨T146, Lp146, kp146, np146⟩, -, X146, ⟨Lc146, hQ146, lp146, yp146, zp146⟩, st146⟩ := X142.virtualBack hx (y := (⟨"com/example/waban/waban/BloomFilter", "isSet", "(J)Z"⟩ : MethodName)) (z := (⟨"com/example/waban/waban/BloomFilter", "isSet", "(J)Z"⟩ : MethodName)) ho105 (mvT hZ105 (W hw 169)) (mvT hZ105 (W hw 170)) (notFace_of_selects (args := #[]) (mvT hZ105 (W hw 172))) (mvT hZ105 (W hw 172)) (mvT hZ105 (W hw 171)) (by decide) (backOf (W := 0) (rmIs1 l Z a0 hw [] f1 wd kw qq _ (nwords mm) [(widx (cellOf (mix (lowOf q2 q3)) mm), .long ((0 : Int64) ||| bit (cellOf (mix (lowOf q2 q3)) mm)))] h135 n0 (by omega) fw135 vw135 iQ (own_hit2 ne_qq iQ.1) ea) hZ105 (W hw 173) (W hw 3) (by decide) (by decide)) qa146 qc146 (g := (mkF m 118 #[.val (.long q1), .second, .val (.long q2), .second, .val (.long q3), .second, .val (.long q4), .second, .val (.int p5), .val (.long mm), .second, .val (.ref f1), .val (.long (cellOf (mix (lowOf q2 q3)) mm)), .second, .val (.int (0 : Int32)), .val (.long qq), .second, .val (.long ww), .second] [(.long qq), (.ref f1)])) rfl (by rw [hml]; rfl) c145 (argsL := [(.long qq)]) (rest := []) (lenOf pd__J_Z rfl) rfl (by show 2 * 0 + _ ≤ _; exact Nat.le_of_eq rfl) (own_d hby at_118) (fun _ _ => ⟨rfl, eq142, (by decide : 14 + 0 ≤ _), (by decide : 163 + 0 ≤ _)⟩)
    dsimp only [Pt.U, Pt.locs, Pt.cells, Pt.slots] at X146 lp146 yp146 zp146 st146 hQ146
    subst lp146 yp146 zp146
    obtain ⟨rfl, Nq146, eq146⟩ := hQ146
    have N146 := Fr.app N142 Nq146
    have c147 : SS p e below B0 T146 m 121 #[.val (.long q1), .second, .val (.long q2), .second, .val (.long q3), .second, .val (.long q4), .second, .val (.int p5), .val (.long mm), .second, .val (.ref f1), .val (.long (cellOf (mix (lowOf q2 q3)) mm)), .second, .val (.int (0 : Int32)), .val (.long qq), .second, .val (.long ww), .second] [(.int (1 : Int32))] := st146
    have c148 : SS p e below B0 T146 m 141 #[.val (.long q1), .second, .val (.long q2), .second, .val (.long q3), .second, .val (.long q4), .second, .val (.int p5), .val (.long mm), .second, .val (.ref f1), .val (.long (cellOf (mix (lowOf q2 q3)) mm)), .second, .val (.int (0 : Int32)), .val (.long qq), .second, .val (.long ww), .second] [(.long ww), (.ref f1)] := Steps.trans c147 (by
        refine XS.lload X146.here hx rfl (own_d hby at_121) rfl ?_
        refine XS.lload X146.here hx rfl (own_d hby at_123) rfl ?_
        refine XS.lcmp X146.here hx rfl (own_d hby at_125) rfl ?_
        refine XS.ifNo X146.here hx rfl (own_d hby at_126) rfl ((if0 _ _).trans (teq ((lw_eq _ _).mpr ne_qq)).2) ?_
        refine XT.iconstV X146.here hx rfl (1 : Int32) (own_d hby at_129) (by decide) ?_
        refine XS.goto X146.here hx rfl (pc0 := 130) (pc' := 134) rfl (own_d hby at_130) (by decide) (by decide) ?_
        refine XS.icmpNo X146.here hx rfl (own_d hby at_134) rfl (teq (by decide : (1 : Int32) = (1 : Int32))).2 ?_
        refine XS.aload X146.here hx rfl (own_d hby at_137) rfl rfl ?_
        refine XS.lload X146.here hx rfl (own_d hby at_139) rfl ?_
        exact Steps.refl _)
    by_cases ne_ww : ww = (cellOf (mix (lowOf q2 q3)) mm)
    · have hdummy := Z0
      have ea := own_eqbit ne_ww
      obtain ⟨cq149, kq149, qa149, qb149, qc149⟩ := isOf hZ105 eq146 Exa143
      obtain ⟨_, _, ⟨T149, Lp149, kp149, np149⟩, -, X149, ⟨Lc149, hQ149, lp149, yp149, zp149⟩, st149⟩ := X146.virtualBack hx (y := (⟨"com/example/waban/waban/BloomFilter", "isSet", "(J)Z"⟩ : MethodName)) (z := (⟨"com/example/waban/waban/BloomFilter", "isSet", "(J)Z"⟩ : MethodName)) ho105 (mvT hZ105 (W hw 169)) (mvT hZ105 (W hw 170)) (notFace_of_selects (args := #[]) (mvT hZ105 (W hw 172))) (mvT hZ105 (W hw 172)) (mvT hZ105 (W hw 171)) (by decide) (backOf (W := 0) (rmIs1 l Z a0 hw [] f1 wd kw ww _ (nwords mm) [(widx (cellOf (mix (lowOf q2 q3)) mm), .long ((0 : Int64) ||| bit (cellOf (mix (lowOf q2 q3)) mm)))] h135 n0 (by omega) fw135 vw135 iW (own_hit2 ne_ww iW.1) ea) hZ105 (W hw 173) (W hw 3) (by decide) (by decide)) qa149 qc149 (g := (mkF m 141 #[.val (.long q1), .second, .val (.long q2), .second, .val (.long q3), .second, .val (.long q4), .second, .val (.int p5), .val (.long mm), .second, .val (.ref f1), .val (.long (cellOf (mix (lowOf q2 q3)) mm)), .second, .val (.int (0 : Int32)), .val (.long qq), .second, .val (.long ww), .second] [(.long ww), (.ref f1)])) rfl (by rw [hml]; rfl) c148 (argsL := [(.long ww)]) (rest := []) (lenOf pd__J_Z rfl) rfl (by show 2 * 0 + _ ≤ _; exact Nat.le_of_eq rfl) (own_d hby at_141) (fun _ _ => ⟨rfl, eq146, (by decide : 14 + 0 ≤ _), (by decide : 163 + 0 ≤ _)⟩)
      dsimp only [Pt.U, Pt.locs, Pt.cells, Pt.slots] at X149 lp149 yp149 zp149 st149 hQ149
      subst lp149 yp149 zp149
      obtain ⟨rfl, Nq149, eq149⟩ := hQ149
      have N149 := Fr.app N146 Nq149
      have c150 : SS p e below B0 T149 m 144 #[.val (.long q1), .second, .val (.long q2), .second, .val (.long q3), .second, .val (.long q4), .second, .val (.int p5), .val (.long mm), .second, .val (.ref f1), .val (.long (cellOf (mix (lowOf q2 q3)) mm)), .second, .val (.int (0 : Int32)), .val (.long qq), .second, .val (.long ww), .second] [(.int (1 : Int32))] := st149
      have c151 : SS p e below B0 T149 m 165 #[.val (.long q1), .second, .val (.long q2), .second, .val (.long q3), .second, .val (.long q4), .second, .val (.int p5), .val (.long mm), .second, .val (.ref f1), .val (.long (cellOf (mix (lowOf q2 q3)) mm)), .second, .val (.int (0 : Int32)), .val (.long qq), .second, .val (.long ww), .second] [(.int (1 : Int32))] := Steps.trans c150 (by
          refine XS.lload X149.here hx rfl (own_d hby at_144) rfl ?_
          refine XS.lload X149.here hx rfl (own_d hby at_146) rfl ?_
          refine XS.lcmp X149.here hx rfl (own_d hby at_148) rfl ?_
          refine XS.ifNo X149.here hx rfl (own_d hby at_149) rfl ((if0 _ _).trans (teq ((lw_eq _ _).mpr ne_ww)).2) ?_
          refine XT.iconstV X149.here hx rfl (1 : Int32) (own_d hby at_152) (by decide) ?_
          refine XS.goto X149.here hx rfl (pc0 := 153) (pc' := 157) rfl (own_d hby at_153) (by decide) (by decide) ?_
          refine XS.icmpNo X149.here hx rfl (own_d hby at_157) rfl (teq (by decide : (1 : Int32) = (1 : Int32))).2 ?_
          refine XT.iconstV X149.here hx rfl (1 : Int32) (own_d hby at_160) (by decide) ?_
          refine XS.goto X149.here hx rfl (pc0 := 161) (pc' := 165) rfl (own_d hby at_161) (by decide) (by decide) ?_
          exact Steps.refl _)
      obtain ⟨fs, hr, hrun, hended, hW⟩ := X149.leaveW hS105 (by rw [eq149]; omega) (v := some (.int (1 : Int32))) (fun h => by rw [Bd.returns] at h; cases h)
      have hC : CHr Z consts_1 s.vm s.heap T149.vm T149.heap := by rw [hh, eq149]; exact CHr.trans C135 (CHv.at X149 hZ105 hEL H135)
      subst hB0
      refine ⟨_, _, Steps.trans c151 ?_, hrun, hended, _, _, rfl, ?_, hC, hW.1, hW.2.1, hW.2.2.1, hW.2.2.2.mono (by decide) (by decide)⟩
      · exact retN X149 hx (t := .boolean) Bd.returns (by simp) (own_d hby at_165) hr
      · show QL n0 _ T149.heap _
        rw [eq149]
        exact ⟨rfl, N149⟩
    · have hdummy := Z0
      obtain ⟨wv_ww, ga_ww, gb_ww⟩ := own_miss hM hW hP ne_ww iW.1
      obtain ⟨cq149, kq149, qa149, qb149, qc149⟩ := isOf hZ105 eq146 Exa143
      obtain ⟨_, _, ⟨T149, Lp149, kp149, np149⟩, -, X149, ⟨Lc149, hQ149, lp149, yp149, zp149⟩, st149⟩ := X146.virtualBack hx (y := (⟨"com/example/waban/waban/BloomFilter", "isSet", "(J)Z"⟩ : MethodName)) (z := (⟨"com/example/waban/waban/BloomFilter", "isSet", "(J)Z"⟩ : MethodName)) ho105 (mvT hZ105 (W hw 169)) (mvT hZ105 (W hw 170)) (notFace_of_selects (args := #[]) (mvT hZ105 (W hw 172))) (mvT hZ105 (W hw 172)) (mvT hZ105 (W hw 171)) (by decide) (backOf (W := 0) (rmIs0 l Z a0 hw [] f1 wd kw ww wv_ww (nwords mm) [(widx (cellOf (mix (lowOf q2 q3)) mm), .long ((0 : Int64) ||| bit (cellOf (mix (lowOf q2 q3)) mm)))] h135 n0 (by omega) fw135 vw135 iW ga_ww gb_ww) hZ105 (W hw 173) (W hw 3) (by decide) (by decide)) qa149 qc149 (g := (mkF m 141 #[.val (.long q1), .second, .val (.long q2), .second, .val (.long q3), .second, .val (.long q4), .second, .val (.int p5), .val (.long mm), .second, .val (.ref f1), .val (.long (cellOf (mix (lowOf q2 q3)) mm)), .second, .val (.int (0 : Int32)), .val (.long qq), .second, .val (.long ww), .second] [(.long ww), (.ref f1)])) rfl (by rw [hml]; rfl) c148 (argsL := [(.long ww)]) (rest := []) (lenOf pd__J_Z rfl) rfl (by show 2 * 0 + _ ≤ _; exact Nat.le_of_eq rfl) (own_d hby at_141) (fun _ _ => ⟨rfl, eq146, (by decide : 14 + 0 ≤ _), (by decide : 163 + 0 ≤ _)⟩)
      dsimp only [Pt.U, Pt.locs, Pt.cells, Pt.slots] at X149 lp149 yp149 zp149 st149 hQ149
      subst lp149 yp149 zp149
      obtain ⟨rfl, Nq149, eq149⟩ := hQ149
      have N149 := Fr.app N146 Nq149
      have c150 : SS p e below B0 T149 m 144 #[.val (.long q1), .second, .val (.long q2), .second, .val (.long q3), .second, .val (.long q4), .second, .val (.int p5), .val (.long mm), .second, .val (.ref f1), .val (.long (cellOf (mix (lowOf q2 q3)) mm)), .second, .val (.int (0 : Int32)), .val (.long qq), .second, .val (.long ww), .second] [(.int (0 : Int32))] := st149
      have c151 : SS p e below B0 T149 m 165 #[.val (.long q1), .second, .val (.long q2), .second, .val (.long q3), .second, .val (.long q4), .second, .val (.int p5), .val (.long mm), .second, .val (.ref f1), .val (.long (cellOf (mix (lowOf q2 q3)) mm)), .second, .val (.int (0 : Int32)), .val (.long qq), .second, .val (.long ww), .second] [(.int (1 : Int32))] := Steps.trans c150 (by
          refine XS.lload X149.here hx rfl (own_d hby at_144) rfl ?_
          refine XS.lload X149.here hx rfl (own_d hby at_146) rfl ?_
          refine XS.lcmp X149.here hx rfl (own_d hby at_148) rfl ?_
          refine XS.ifYes X149.here hx rfl (pc0 := 149) (pc' := 156) rfl (own_d hby at_149) rfl ((if0 _ _).trans (feq (fun z => ne_ww ((lw_eq _ _).mp z))).2) (by decide) (by decide) ?_
          refine XT.iconstV X149.here hx rfl (0 : Int32) (own_d hby at_156) (by decide) ?_
          refine XS.icmpNo X149.here hx rfl (own_d hby at_157) rfl (teq (by decide : (0 : Int32) = (0 : Int32))).2 ?_
          refine XT.iconstV X149.here hx rfl (1 : Int32) (own_d hby at_160) (by decide) ?_
          refine XS.goto X149.here hx rfl (pc0 := 161) (pc' := 165) rfl (own_d hby at_161) (by decide) (by decide) ?_
          exact Steps.refl _)
      obtain ⟨fs, hr, hrun, hended, hW⟩ := X149.leaveW hS105 (by rw [eq149]; omega) (v := some (.int (1 : Int32))) (fun h => by rw [Bd.returns] at h; cases h)
      have hC : CHr Z consts_1 s.vm s.heap T149.vm T149.heap := by rw [hh, eq149]; exact CHr.trans C135 (CHv.at X149 hZ105 hEL H135)
      subst hB0
      refine ⟨_, _, Steps.trans c151 ?_, hrun, hended, _, _, rfl, ?_, hC, hW.1, hW.2.1, hW.2.2.1, hW.2.2.2.mono (by decide) (by decide)⟩
      · exact retN X149 hx (t := .boolean) Bd.returns (by simp) (own_d hby at_165) hr
      · show QL n0 _ T149.heap _
        rw [eq149]
        exact ⟨rfl, N149⟩
  · have hdummy := Z0
    obtain ⟨wv_qq, ga_qq, gb_qq⟩ := own_miss hM hQ hP ne_qq iQ.1
    obtain ⟨cq146, kq146, qa146, qb146, qc146⟩ := isOf hZ105 eq142 Exa143
    obtain ⟨_, _, ⟨T146, Lp146, kp146, np146⟩, -, X146, ⟨Lc146, hQ146, lp146, yp146, zp146⟩, st146⟩ := X142.virtualBack hx (y := (⟨"com/example/waban/waban/BloomFilter", "isSet", "(J)Z"⟩ : MethodName)) (z := (⟨"com/example/waban/waban/BloomFilter", "isSet", "(J)Z"⟩ : MethodName)) ho105 (mvT hZ105 (W hw 169)) (mvT hZ105 (W hw 170)) (notFace_of_selects (args := #[]) (mvT hZ105 (W hw 172))) (mvT hZ105 (W hw 172)) (mvT hZ105 (W hw 171)) (by decide) (backOf (W := 0) (rmIs0 l Z a0 hw [] f1 wd kw qq wv_qq (nwords mm) [(widx (cellOf (mix (lowOf q2 q3)) mm), .long ((0 : Int64) ||| bit (cellOf (mix (lowOf q2 q3)) mm)))] h135 n0 (by omega) fw135 vw135 iQ ga_qq gb_qq) hZ105 (W hw 173) (W hw 3) (by decide) (by decide)) qa146 qc146 (g := (mkF m 118 #[.val (.long q1), .second, .val (.long q2), .second, .val (.long q3), .second, .val (.long q4), .second, .val (.int p5), .val (.long mm), .second, .val (.ref f1), .val (.long (cellOf (mix (lowOf q2 q3)) mm)), .second, .val (.int (0 : Int32)), .val (.long qq), .second, .val (.long ww), .second] [(.long qq), (.ref f1)])) rfl (by rw [hml]; rfl) c145 (argsL := [(.long qq)]) (rest := []) (lenOf pd__J_Z rfl) rfl (by show 2 * 0 + _ ≤ _; exact Nat.le_of_eq rfl) (own_d hby at_118) (fun _ _ => ⟨rfl, eq142, (by decide : 14 + 0 ≤ _), (by decide : 163 + 0 ≤ _)⟩)
    dsimp only [Pt.U, Pt.locs, Pt.cells, Pt.slots] at X146 lp146 yp146 zp146 st146 hQ146
    subst lp146 yp146 zp146
    obtain ⟨rfl, Nq146, eq146⟩ := hQ146
    have N146 := Fr.app N142 Nq146
    have c147 : SS p e below B0 T146 m 121 #[.val (.long q1), .second, .val (.long q2), .second, .val (.long q3), .second, .val (.long q4), .second, .val (.int p5), .val (.long mm), .second, .val (.ref f1), .val (.long (cellOf (mix (lowOf q2 q3)) mm)), .second, .val (.int (0 : Int32)), .val (.long qq), .second, .val (.long ww), .second] [(.int (0 : Int32))] := st146
    have c148 : SS p e below B0 T146 m 141 #[.val (.long q1), .second, .val (.long q2), .second, .val (.long q3), .second, .val (.long q4), .second, .val (.int p5), .val (.long mm), .second, .val (.ref f1), .val (.long (cellOf (mix (lowOf q2 q3)) mm)), .second, .val (.int (0 : Int32)), .val (.long qq), .second, .val (.long ww), .second] [(.long ww), (.ref f1)] := Steps.trans c147 (by
        refine XS.lload X146.here hx rfl (own_d hby at_121) rfl ?_
        refine XS.lload X146.here hx rfl (own_d hby at_123) rfl ?_
        refine XS.lcmp X146.here hx rfl (own_d hby at_125) rfl ?_
        refine XS.ifYes X146.here hx rfl (pc0 := 126) (pc' := 133) rfl (own_d hby at_126) rfl ((if0 _ _).trans (feq (fun z => ne_qq ((lw_eq _ _).mp z))).2) (by decide) (by decide) ?_
        refine XT.iconstV X146.here hx rfl (0 : Int32) (own_d hby at_133) (by decide) ?_
        refine XS.icmpNo X146.here hx rfl (own_d hby at_134) rfl (teq (by decide : (0 : Int32) = (0 : Int32))).2 ?_
        refine XS.aload X146.here hx rfl (own_d hby at_137) rfl rfl ?_
        refine XS.lload X146.here hx rfl (own_d hby at_139) rfl ?_
        exact Steps.refl _)
    by_cases ne_ww : ww = (cellOf (mix (lowOf q2 q3)) mm)
    · have hdummy := Z0
      have ea := own_eqbit ne_ww
      obtain ⟨cq149, kq149, qa149, qb149, qc149⟩ := isOf hZ105 eq146 Exa143
      obtain ⟨_, _, ⟨T149, Lp149, kp149, np149⟩, -, X149, ⟨Lc149, hQ149, lp149, yp149, zp149⟩, st149⟩ := X146.virtualBack hx (y := (⟨"com/example/waban/waban/BloomFilter", "isSet", "(J)Z"⟩ : MethodName)) (z := (⟨"com/example/waban/waban/BloomFilter", "isSet", "(J)Z"⟩ : MethodName)) ho105 (mvT hZ105 (W hw 169)) (mvT hZ105 (W hw 170)) (notFace_of_selects (args := #[]) (mvT hZ105 (W hw 172))) (mvT hZ105 (W hw 172)) (mvT hZ105 (W hw 171)) (by decide) (backOf (W := 0) (rmIs1 l Z a0 hw [] f1 wd kw ww _ (nwords mm) [(widx (cellOf (mix (lowOf q2 q3)) mm), .long ((0 : Int64) ||| bit (cellOf (mix (lowOf q2 q3)) mm)))] h135 n0 (by omega) fw135 vw135 iW (own_hit2 ne_ww iW.1) ea) hZ105 (W hw 173) (W hw 3) (by decide) (by decide)) qa149 qc149 (g := (mkF m 141 #[.val (.long q1), .second, .val (.long q2), .second, .val (.long q3), .second, .val (.long q4), .second, .val (.int p5), .val (.long mm), .second, .val (.ref f1), .val (.long (cellOf (mix (lowOf q2 q3)) mm)), .second, .val (.int (0 : Int32)), .val (.long qq), .second, .val (.long ww), .second] [(.long ww), (.ref f1)])) rfl (by rw [hml]; rfl) c148 (argsL := [(.long ww)]) (rest := []) (lenOf pd__J_Z rfl) rfl (by show 2 * 0 + _ ≤ _; exact Nat.le_of_eq rfl) (own_d hby at_141) (fun _ _ => ⟨rfl, eq146, (by decide : 14 + 0 ≤ _), (by decide : 163 + 0 ≤ _)⟩)
      dsimp only [Pt.U, Pt.locs, Pt.cells, Pt.slots] at X149 lp149 yp149 zp149 st149 hQ149
      subst lp149 yp149 zp149
      obtain ⟨rfl, Nq149, eq149⟩ := hQ149
      have N149 := Fr.app N146 Nq149
      have c150 : SS p e below B0 T149 m 144 #[.val (.long q1), .second, .val (.long q2), .second, .val (.long q3), .second, .val (.long q4), .second, .val (.int p5), .val (.long mm), .second, .val (.ref f1), .val (.long (cellOf (mix (lowOf q2 q3)) mm)), .second, .val (.int (0 : Int32)), .val (.long qq), .second, .val (.long ww), .second] [(.int (1 : Int32))] := st149
      have c151 : SS p e below B0 T149 m 165 #[.val (.long q1), .second, .val (.long q2), .second, .val (.long q3), .second, .val (.long q4), .second, .val (.int p5), .val (.long mm), .second, .val (.ref f1), .val (.long (cellOf (mix (lowOf q2 q3)) mm)), .second, .val (.int (0 : Int32)), .val (.long qq), .second, .val (.long ww), .second] [(.int (1 : Int32))] := Steps.trans c150 (by
          refine XS.lload X149.here hx rfl (own_d hby at_144) rfl ?_
          refine XS.lload X149.here hx rfl (own_d hby at_146) rfl ?_
          refine XS.lcmp X149.here hx rfl (own_d hby at_148) rfl ?_
          refine XS.ifNo X149.here hx rfl (own_d hby at_149) rfl ((if0 _ _).trans (teq ((lw_eq _ _).mpr ne_ww)).2) ?_
          refine XT.iconstV X149.here hx rfl (1 : Int32) (own_d hby at_152) (by decide) ?_
          refine XS.goto X149.here hx rfl (pc0 := 153) (pc' := 157) rfl (own_d hby at_153) (by decide) (by decide) ?_
          refine XS.icmpNo X149.here hx rfl (own_d hby at_157) rfl (teq (by decide : (1 : Int32) = (1 : Int32))).2 ?_
          refine XT.iconstV X149.here hx rfl (1 : Int32) (own_d hby at_160) (by decide) ?_
          refine XS.goto X149.here hx rfl (pc0 := 161) (pc' := 165) rfl (own_d hby at_161) (by decide) (by decide) ?_
          exact Steps.refl _)
      obtain ⟨fs, hr, hrun, hended, hW⟩ := X149.leaveW hS105 (by rw [eq149]; omega) (v := some (.int (1 : Int32))) (fun h => by rw [Bd.returns] at h; cases h)
      have hC : CHr Z consts_1 s.vm s.heap T149.vm T149.heap := by rw [hh, eq149]; exact CHr.trans C135 (CHv.at X149 hZ105 hEL H135)
      subst hB0
      refine ⟨_, _, Steps.trans c151 ?_, hrun, hended, _, _, rfl, ?_, hC, hW.1, hW.2.1, hW.2.2.1, hW.2.2.2.mono (by decide) (by decide)⟩
      · exact retN X149 hx (t := .boolean) Bd.returns (by simp) (own_d hby at_165) hr
      · show QL n0 _ T149.heap _
        rw [eq149]
        exact ⟨rfl, N149⟩
    · have hdummy := Z0
      obtain ⟨wv_ww, ga_ww, gb_ww⟩ := own_miss hM hW hP ne_ww iW.1
      obtain ⟨cq149, kq149, qa149, qb149, qc149⟩ := isOf hZ105 eq146 Exa143
      obtain ⟨_, _, ⟨T149, Lp149, kp149, np149⟩, -, X149, ⟨Lc149, hQ149, lp149, yp149, zp149⟩, st149⟩ := X146.virtualBack hx (y := (⟨"com/example/waban/waban/BloomFilter", "isSet", "(J)Z"⟩ : MethodName)) (z := (⟨"com/example/waban/waban/BloomFilter", "isSet", "(J)Z"⟩ : MethodName)) ho105 (mvT hZ105 (W hw 169)) (mvT hZ105 (W hw 170)) (notFace_of_selects (args := #[]) (mvT hZ105 (W hw 172))) (mvT hZ105 (W hw 172)) (mvT hZ105 (W hw 171)) (by decide) (backOf (W := 0) (rmIs0 l Z a0 hw [] f1 wd kw ww wv_ww (nwords mm) [(widx (cellOf (mix (lowOf q2 q3)) mm), .long ((0 : Int64) ||| bit (cellOf (mix (lowOf q2 q3)) mm)))] h135 n0 (by omega) fw135 vw135 iW ga_ww gb_ww) hZ105 (W hw 173) (W hw 3) (by decide) (by decide)) qa149 qc149 (g := (mkF m 141 #[.val (.long q1), .second, .val (.long q2), .second, .val (.long q3), .second, .val (.long q4), .second, .val (.int p5), .val (.long mm), .second, .val (.ref f1), .val (.long (cellOf (mix (lowOf q2 q3)) mm)), .second, .val (.int (0 : Int32)), .val (.long qq), .second, .val (.long ww), .second] [(.long ww), (.ref f1)])) rfl (by rw [hml]; rfl) c148 (argsL := [(.long ww)]) (rest := []) (lenOf pd__J_Z rfl) rfl (by show 2 * 0 + _ ≤ _; exact Nat.le_of_eq rfl) (own_d hby at_141) (fun _ _ => ⟨rfl, eq146, (by decide : 14 + 0 ≤ _), (by decide : 163 + 0 ≤ _)⟩)
      dsimp only [Pt.U, Pt.locs, Pt.cells, Pt.slots] at X149 lp149 yp149 zp149 st149 hQ149
      subst lp149 yp149 zp149
      obtain ⟨rfl, Nq149, eq149⟩ := hQ149
      have N149 := Fr.app N146 Nq149
      have c150 : SS p e below B0 T149 m 144 #[.val (.long q1), .second, .val (.long q2), .second, .val (.long q3), .second, .val (.long q4), .second, .val (.int p5), .val (.long mm), .second, .val (.ref f1), .val (.long (cellOf (mix (lowOf q2 q3)) mm)), .second, .val (.int (0 : Int32)), .val (.long qq), .second, .val (.long ww), .second] [(.int (0 : Int32))] := st149
      have c151 : SS p e below B0 T149 m 165 #[.val (.long q1), .second, .val (.long q2), .second, .val (.long q3), .second, .val (.long q4), .second, .val (.int p5), .val (.long mm), .second, .val (.ref f1), .val (.long (cellOf (mix (lowOf q2 q3)) mm)), .second, .val (.int (0 : Int32)), .val (.long qq), .second, .val (.long ww), .second] [(.int (1 : Int32))] := Steps.trans c150 (by
          refine XS.lload X149.here hx rfl (own_d hby at_144) rfl ?_
          refine XS.lload X149.here hx rfl (own_d hby at_146) rfl ?_
          refine XS.lcmp X149.here hx rfl (own_d hby at_148) rfl ?_
          refine XS.ifYes X149.here hx rfl (pc0 := 149) (pc' := 156) rfl (own_d hby at_149) rfl ((if0 _ _).trans (feq (fun z => ne_ww ((lw_eq _ _).mp z))).2) (by decide) (by decide) ?_
          refine XT.iconstV X149.here hx rfl (0 : Int32) (own_d hby at_156) (by decide) ?_
          refine XS.icmpNo X149.here hx rfl (own_d hby at_157) rfl (teq (by decide : (0 : Int32) = (0 : Int32))).2 ?_
          refine XT.iconstV X149.here hx rfl (1 : Int32) (own_d hby at_160) (by decide) ?_
          refine XS.goto X149.here hx rfl (pc0 := 161) (pc' := 165) rfl (own_d hby at_161) (by decide) (by decide) ?_
          exact Steps.refl _)
      obtain ⟨fs, hr, hrun, hended, hW⟩ := X149.leaveW hS105 (by rw [eq149]; omega) (v := some (.int (1 : Int32))) (fun h => by rw [Bd.returns] at h; cases h)
      have hC : CHr Z consts_1 s.vm s.heap T149.vm T149.heap := by rw [hh, eq149]; exact CHr.trans C135 (CHv.at X149 hZ105 hEL H135)
      subst hB0
      refine ⟨_, _, Steps.trans c151 ?_, hrun, hended, _, _, rfl, ?_, hC, hW.1, hW.2.1, hW.2.2.1, hW.2.2.2.mono (by decide) (by decide)⟩
      · exact retN X149 hx (t := .boolean) Bd.returns (by simp) (own_d hby at_165) hr
      · show QL n0 _ T149.heap _
        rw [eq149]
        exact ⟨rfl, N149⟩
set_option maxRecDepth 65536 in
set_option maxHeartbeats 40000000 in
theorem comes_1 {Post : Tables → Env → Array Value → State → Outcome → State → Prop} (hpost : ∀ tb e args s v u, (limb_1_1.after args s (.returned v) u = true ∧ limb_1_2.after args s (.returned v) u = true ∧ True) → ReturnedEndW s (.returned v) u (Jvm.fieldLocs frame_1_writes args s ++ Jvm.arrayLocs frame_1_arrays args s ++ Jvm.staticLocs frame_1_statics s) room_1.cells room_1.slots → Post tb e args s (.returned v) u) :
    ArmFor flags0 classFile x code maxLocals ret World_1 tables_1 room_1 Calls_1 rest_1 Pre_1 Post := by
  intro l hfl _ _ p e ha hc hk s m args below hf hA hF happ hP
  obtain ⟨hcalls, hrest, hpre⟩ := hP
  obtain ⟨-, -, -, hnamed, -, -, -, hat⟩ := (Spec.applies_iff hf).mp happ
  obtain ⟨hg, hn⟩ := and_e (Cond.before_iff.mp (show (Jvm.Cond.and given_1 narrow_1).before args s = true from hpre))
  obtain ⟨hcount, hr_0⟩ := and_e hg
  obtain ⟨ha_0, hr_1⟩ := and_e hr_0
  obtain ⟨ha_1, hr_2⟩ := and_e hr_1
  obtain ⟨ha_2, hr_3⟩ := and_e hr_2
  obtain ⟨ha_3, hr_4⟩ := and_e hr_3
  have ha_4 := hr_4
  obtain ⟨w0, w1, w2, w3, w4, rfl⟩ : ∃ w0 w1 w2 w3 w4 : Value, args = #[w0, w1, w2, w3, w4] := by
    have hs : args.size = 5 := by simpa [Cond.value, given_1] using hcount
    obtain ⟨L⟩ := args
    match L, hs with
    | [w0, w1, w2, w3, w4], _ => exact ⟨w0, w1, w2, w3, w4, rfl⟩
  have hw := fun d (hd : d ∈ tables_1) => atoms_spec (ws := Jvm.Cond.code x code maxLocals ret :: tables_1) hat d (List.mem_cons_of_mem _ hd)
  have hfit : Fit s := fun {y c} hc i hi => by
    obtain ⟨ha, rfl⟩ := Array.getElem?_eq_some_iff.mp hc
    have q := List.all_eq_true.mp ((Array.all_eq_true_iff_forall_mem.mp hF) _ (Array.getElem_mem ha)) i (List.mem_range.mpr hi)
    simpa [Array.getElem?_eq_getElem hi] using q
  obtain ⟨i_0, ea_0⟩ := isL_v ha_0
  obtain rfl : w0 = (.long i_0) := Option.some.inj ea_0
  obtain ⟨i_1, ea_1⟩ := isL_v ha_1
  obtain rfl : w1 = (.long i_1) := Option.some.inj ea_1
  obtain ⟨i_2, ea_2⟩ := isL_v ha_2
  obtain rfl : w2 = (.long i_2) := Option.some.inj ea_2
  obtain ⟨i_3, ea_3⟩ := isL_v ha_3
  obtain rfl : w3 = (.long i_3) := Option.some.inj ea_3
  obtain ⟨i_4, ea_4⟩ := is_v ha_4
  obtain rfl : w4 = (.int i_4) := Option.some.inj ea_4
  have hEL : EW s (#[.long i_0, .long i_1, .long i_2, .long i_3, .int i_4] : Array Value) consts_1 := EW.nil
  have hCH : CHv s consts_1 s.vm s.heap := fun p hp => nomatch hp
  obtain ⟨n, o, h1, h2, h3, _, L, rfl, ⟨rfl, N⟩, -, hq⟩ := rmL l s _ hw tables_1 i_0 i_1 i_2 i_3 i_4  s.heap s.heap.size (Nat.le_refl _) hEL p e ha hc hk s m _ below hf ((Spec.applies_iff_loose hf).mp happ).1 ⟨rfl, State.Warmed39.refl s, rfl, hCH⟩ trivial
  refine ⟨n, _, h1, h2, h3, hpost _ _ _ _ _ _ ⟨Cond.after_iff.mpr rfl, Cond.after_iff.mpr (eq_i res_at (Term.int_eval (1)) rfl), trivial⟩ ⟨hq.1, hq.2.1, hq.2.2.1, (hq.2.2.2.sift fun y hy => Or.inr (N y hy)).mono (by decide) (by decide)⟩⟩
theorem main_1_1 : Claimed_1_1 := comes_1 fun _ _ _ _ _ _ h hF => ⟨h.1, hF⟩
theorem main_1_2 : Claimed_1_2 := comes_1 fun _ _ _ _ _ _ h hF => ⟨h.2.1, hF⟩
end Jvm.Pilot.@@N@@
namespace Jvm.Pilot.@@N@@
open Jvm Jvm.ClassFile Sem Op Lib Jvm.Free Jvm.Stand Jvm.Pilot.@@N@@.Jvm.D
/-! MADE BY PROGRAM (witnessworld.py) out of the Statement's table words and the real class files: 25 classes; the members and pool entries that the words name. The judged class is class 1, her method 1. -/
namespace start1
open Jvm.ClassFile
def u (s : String) : CpInfo := .utf8 (stringToUtf16 s)
/-- a pool by its gaps: so many unusable entries, then the entry; so many at the end -/
def gap : Nat → List CpInfo → List CpInfo
  | 0, r => r
  | n + 1, r => .unusable :: gap n r
def poolList (es : List (Nat × CpInfo)) (last : Nat) : List CpInfo := es.foldr (fun e r => gap e.1 (e.2 :: r)) (gap last [])
def pool (es : List (Nat × CpInfo)) (last : Nat) : Array CpInfo := ⟨poolList es last⟩
def fileOf (pool : Array CpInfo) (this : Nat) (attrs : Array Attribute := #[]) (ms : Array MethodInfo := #[]) (fl : Nat := 33) (sup : Nat := 0) (ifs : Array Nat := #[]) (fds : Array FieldInfo := #[]) : ClassFile where
  minorVersion := 0
  majorVersion := 65
  constantPool := pool
  accessFlags := fl
  thisClass := this
  superClass := sup
  interfaces := ifs
  fields := fds
  methods := ms
  attributes := attrs
def plain (name : String) (sup : Option ClassId) : Class where
  name := name
  kind := .ordinary
  loader := none
  accessFlags := 33
  super := sup
  interfaces := #[]
  cf := none
  fields := #[]
  methods := #[]
  instanceTypes := #[]
  staticTypes := #[]
  resolved := #[]
  callSites := []
  init := .initialized
  statics := none
  mirror := none

def pool0 : Array CpInfo := pool [(5, u "<init>"), (0, u "()V"), (1, .class_ 10), (1, u "java/lang/Object")] 113

def k0c0 : Code := { maxStack := 0, maxLocals := 1, code := object_method_1_code, exceptionTable := #[], attributes := #[] }
def k0m0 : Method := { name := "<init>", desc := "()V", sig := { parameters := [], returnType := none }, accessFlags := 1, code := some k0c0 }
/-- java/lang/Object -/
def k0 : Class := { plain "java/lang/Object" none with
  accessFlags := 33
  interfaces := #[]
  cf := some (fileOf pool0 8 #[] #[{ accessFlags := 1, nameIndex := 5, descriptorIndex := 6, attributes := #[] }] 33 0 #[] #[])
  fields := #[]
  methods := #[k0m0]
  instanceTypes := #[]
  staticTypes := #[]
  resolved := Array.replicate 124 none
  statics := none }

def pool1 : Array CpInfo := pool [(2, .class_ 4), (1, u "java/lang/Object"), (0, u "<init>"), (0, u "()V"), (0, .long 4095), (1, .class_ 10), (0, u "com/example/waban/waban/BloomFilter"), (0, .methodref 9 12), (0, .nameAndType 5 13), (0, u "(JIJ)V"), (0, .class_ 15), (0, u "com/example/waban/waban/ItemHash"), (0, .methodref 14 17), (0, .nameAndType 5 18), (0, u "(J)V"), (0, .methodref 14 20), (0, .nameAndType 21 22), (0, u "points"), (0, u "(J)Lcom/example/waban/waban/ItemHash$Points;"), (0, .methodref 24 25), (0, .class_ 26), (0, .nameAndType 27 28), (0, u "com/example/waban/waban/ItemHash$Points"), (0, u "next"), (0, u "()J"), (0, .methodref 14 30), (0, .nameAndType 31 32), (0, u "cell"), (0, u "(JJ)J"), (0, .methodref 9 34), (0, .nameAndType 35 36), (0, u "isSet"), (0, u "(J)Z"), (0, .methodref 9 38), (0, .nameAndType 39 18), (0, u "add"), (2, .long 9223372036854775807), (1, .long 18446744073709551552), (1, .class_ 47), (0, u "com/example/waban/waban/BloomFilterIsSetPinLaw"), (2, u "law"), (0, u "(JJJJI)Z")] 5

def k1m0 : Method := { name := "<init>", desc := "()V", sig := { parameters := [], returnType := none }, accessFlags := 1, code := none }
def k1c1 : Code := { maxStack := 7, maxLocals := 19, code := code, exceptionTable := #[], attributes := #[] }
def k1m1 : Method := { name := "law", desc := "(JJJJI)Z", sig := { parameters := [.long, .long, .long, .long, .int], returnType := some .boolean }, accessFlags := 9, code := some k1c1 }
/-- com/example/waban/waban/BloomFilterIsSetPinLaw -/
def k1 : Class := { plain "com/example/waban/waban/BloomFilterIsSetPinLaw" (some 0) with
  accessFlags := 49
  interfaces := #[]
  cf := some (fileOf pool1 46 #[] #[{ accessFlags := 1, nameIndex := 5, descriptorIndex := 6, attributes := #[] }, { accessFlags := 9, nameIndex := 50, descriptorIndex := 51, attributes := #[] }] 49 2 #[] #[])
  fields := #[]
  methods := #[k1m0, k1m1]
  instanceTypes := #[]
  staticTypes := #[]
  resolved := Array.replicate 57 none
  statics := none }

def pool2 : Array CpInfo := pool [(1, .class_ 2), (0, u "com/example/waban/waban/ArgumentChecks"), (2, .methodref 6 7), (0, .class_ 8), (0, .nameAndType 9 10), (0, u "java/lang/Object"), (0, u "<init>"), (0, u "()V"), (0, .string 12), (0, u "bitCount"), (0, .class_ 14), (0, u "com/example/waban/waban/BloomFilter"), (0, .long 137438952896), (1, .string 18), (0, u "hashCount"), (0, .methodref 1 20), (0, .nameAndType 21 22), (0, u "sizeError"), (0, u "(Ljava/lang/String;JJLjava/lang/String;I)Ljava/lang/String;"), (5, .fieldref 13 29), (0, .nameAndType 12 30), (0, u "J"), (0, .fieldref 13 32), (0, .nameAndType 18 33), (0, u "I"), (0, .class_ 35), (0, u "com/example/waban/waban/ItemHash"), (0, .methodref 34 37), (0, .nameAndType 9 38), (0, u "(J)V"), (0, .fieldref 13 40), (0, .nameAndType 41 42), (0, u "itemHash"), (0, u "Lcom/example/waban/waban/ItemHash;"), (0, .long 64), (1, .fieldref 13 46), (0, .nameAndType 47 48), (0, u "words"), (0, u "[J"), (5, u "()J"), (11, u "itemCount"), (0, .fieldref 13 68), (0, .nameAndType 66 30), (38, u "(JIJ)V"), (12, u "points"), (1, .methodref 13 123), (0, .nameAndType 124 125), (0, u "add"), (0, u "(Lcom/example/waban/waban/ItemHash$Points;)V"), (3, .methodref 34 130), (0, .nameAndType 120 131), (0, u "(J)Lcom/example/waban/waban/ItemHash$Points;"), (32, .methodref 165 166), (0, .class_ 167), (0, .nameAndType 168 54), (0, u "com/example/waban/waban/ItemHash$Points"), (0, u "next"), (0, .methodref 34 170), (0, .nameAndType 171 172), (0, u "cell"), (0, u "(JJ)J"), (2, u "isSet"), (0, u "(J)Z"), (0, u "MAX_BIT_COUNT"), (1, u "MAX_HASH_COUNT"), (1, u "CELL_BITS")] 52

def k2c0 : Code := { maxStack := 7, maxLocals := 7, code := prog_2_method_1_code, exceptionTable := #[], attributes := #[] }
def k2m0 : Method := { name := "<init>", desc := "(JIJ)V", sig := { parameters := [.long, .int, .long], returnType := none }, accessFlags := 1, code := some k2c0 }
def k2c1 : Code := { maxStack := 4, maxLocals := 3, code := prog_2_method_13_code, exceptionTable := #[], attributes := #[] }
def k2m1 : Method := { name := "add", desc := "(J)V", sig := { parameters := [.long], returnType := none }, accessFlags := 1, code := some k2c1 }
def k2c2 : Code := { maxStack := 6, maxLocals := 3, code := prog_2_method_20_code, exceptionTable := #[], attributes := #[] }
def k2m2 : Method := { name := "isSet", desc := "(J)Z", sig := { parameters := [.long], returnType := some .boolean }, accessFlags := 0, code := some k2c2 }
def k2c3 : Code := { maxStack := 8, maxLocals := 5, code := prog_2_method_21_code, exceptionTable := #[], attributes := #[] }
def k2m3 : Method := { name := "add", desc := "(Lcom/example/waban/waban/ItemHash$Points;)V", sig := { parameters := [(.object "com/example/waban/waban/ItemHash$Points")], returnType := none }, accessFlags := 2, code := some k2c3 }
/-- com/example/waban/waban/BloomFilter -/
def k2 : Class := { plain "com/example/waban/waban/BloomFilter" (some 0) with
  accessFlags := 33
  interfaces := #[]
  cf := some (fileOf pool2 13 #[] #[{ accessFlags := 1, nameIndex := 9, descriptorIndex := 107, attributes := #[] }, { accessFlags := 1, nameIndex := 124, descriptorIndex := 38, attributes := #[] }, { accessFlags := 0, nameIndex := 175, descriptorIndex := 176, attributes := #[] }, { accessFlags := 2, nameIndex := 124, descriptorIndex := 125, attributes := #[] }] 33 6 #[] #[{ accessFlags := 25, nameIndex := 177, descriptorIndex := 30, attributes := #[] }, { accessFlags := 25, nameIndex := 179, descriptorIndex := 33, attributes := #[] }, { accessFlags := 26, nameIndex := 181, descriptorIndex := 33, attributes := #[] }, { accessFlags := 18, nameIndex := 12, descriptorIndex := 30, attributes := #[] }, { accessFlags := 18, nameIndex := 18, descriptorIndex := 33, attributes := #[] }, { accessFlags := 18, nameIndex := 41, descriptorIndex := 42, attributes := #[] }, { accessFlags := 18, nameIndex := 47, descriptorIndex := 48, attributes := #[] }, { accessFlags := 2, nameIndex := 66, descriptorIndex := 30, attributes := #[] }])
  fields := #[{ name := "MAX_BIT_COUNT", type := .long, accessFlags := 25, slot := 0, constantValue := 0 }, { name := "MAX_HASH_COUNT", type := .int, accessFlags := 25, slot := 1, constantValue := 0 }, { name := "CELL_BITS", type := .int, accessFlags := 26, slot := 2, constantValue := 0 }, { name := "bitCount", type := .long, accessFlags := 18, slot := 0, constantValue := 0 }, { name := "hashCount", type := .int, accessFlags := 18, slot := 1, constantValue := 0 }, { name := "itemHash", type := (.object "com/example/waban/waban/ItemHash"), accessFlags := 18, slot := 2, constantValue := 0 }, { name := "words", type := (.array .long), accessFlags := 18, slot := 3, constantValue := 0 }, { name := "itemCount", type := .long, accessFlags := 2, slot := 4, constantValue := 0 }]
  methods := #[k2m0, k2m1, k2m2, k2m3]
  instanceTypes := #[.long, .int, (.object "com/example/waban/waban/ItemHash"), (.array .long), .long]
  staticTypes := #[.long, .int, .int]
  resolved := Array.replicate 234 none
  statics := none }

def pool3 : Array CpInfo := pool [(1, .class_ 2), (0, u "java/io/Serializable"), (0, .class_ 4), (0, u "java/lang/Object")] 2

/-- java/io/Serializable -/
def k3 : Class := { plain "java/io/Serializable" (some 0) with
  accessFlags := 1537
  interfaces := #[]
  cf := some (fileOf pool3 1 #[] #[] 1537 3 #[] #[])
  fields := #[]
  methods := #[]
  instanceTypes := #[]
  staticTypes := #[]
  resolved := Array.replicate 7 none
  statics := none }

def pool4 : Array CpInfo := pool [(1, .class_ 2), (0, u "java/lang/Comparable"), (0, .class_ 4), (0, u "java/lang/Object")] 7

/-- java/lang/Comparable -/
def k4 : Class := { plain "java/lang/Comparable" (some 0) with
  accessFlags := 1537
  interfaces := #[]
  cf := some (fileOf pool4 1 #[] #[] 1537 3 #[] #[])
  fields := #[]
  methods := #[]
  instanceTypes := #[]
  staticTypes := #[]
  resolved := Array.replicate 12 none
  statics := none }

def pool5 : Array CpInfo := pool [(2, .class_ 4), (1, u "java/lang/CharSequence"), (42, .class_ 48), (0, u "java/lang/CharSequence$1CodePointIterator"), (10, .class_ 60), (0, u "java/lang/CharSequence$1CharIterator"), (5, .class_ 67), (0, u "java/lang/Object")] 63

/-- java/lang/CharSequence -/
def k5 : Class := { plain "java/lang/CharSequence" (some 0) with
  accessFlags := 1537
  interfaces := #[]
  cf := some (fileOf pool5 2 #[.nestMembers #[47, 59]] #[] 1537 66 #[] #[])
  fields := #[]
  methods := #[]
  instanceTypes := #[]
  staticTypes := #[]
  resolved := Array.replicate 131 none
  statics := none }

def pool6 : Array CpInfo := pool [(1, .class_ 2), (0, u "java/lang/constant/Constable"), (0, .class_ 4), (0, u "java/lang/Object")] 6

/-- java/lang/constant/Constable -/
def k6 : Class := { plain "java/lang/constant/Constable" (some 0) with
  accessFlags := 1537
  interfaces := #[]
  cf := some (fileOf pool6 1 #[] #[] 1537 3 #[] #[])
  fields := #[]
  methods := #[]
  instanceTypes := #[]
  staticTypes := #[]
  resolved := Array.replicate 11 none
  statics := none }

def pool7 : Array CpInfo := pool [(1, .class_ 2), (0, u "java/lang/constant/ConstantDesc"), (0, .class_ 4), (0, u "java/lang/Object")] 32

/-- java/lang/constant/ConstantDesc -/
def k7 : Class := { plain "java/lang/constant/ConstantDesc" (some 0) with
  accessFlags := 1537
  interfaces := #[]
  cf := some (fileOf pool7 1 #[] #[] 1537 3 #[] #[])
  fields := #[]
  methods := #[]
  instanceTypes := #[]
  staticTypes := #[]
  resolved := Array.replicate 37 none
  statics := none }

def pool8 : Array CpInfo := pool [(2, .class_ 4), (1, u "java/lang/Object"), (0, u "<init>"), (0, u "()V"), (3, .class_ 12), (1, u "java/lang/String"), (0, u "value"), (0, u "[B"), (2, u "coder"), (0, u "B"), (2, u "hash"), (0, u "I"), (2, u "hashIsZero"), (0, u "Z"), (13, u "COMPACT_STRINGS"), (534, .class_ 576), (0, u "java/lang/CharSequence"), (22, u "CASE_INSENSITIVE_ORDER"), (0, u "Ljava/util/Comparator;"), (500, u "serialPersistentFields"), (0, u "[Ljava/io/ObjectStreamField;"), (0, .class_ 1104), (0, u "java/lang/String$CaseInsensitiveComparator"), (1, .class_ 1107), (0, u "java/io/Serializable"), (0, .class_ 1109), (0, u "java/lang/Comparable"), (0, .class_ 1111), (0, u "java/lang/constant/Constable"), (0, .class_ 1113), (0, u "java/lang/constant/ConstantDesc"), (2, u "serialVersionUID"), (0, u "J"), (3, u "REPL"), (0, u "C"), (2, u "LATIN1"), (1, u "UTF16")] 323

def k8m0 : Method := { name := "<init>", desc := "()V", sig := { parameters := [], returnType := none }, accessFlags := 1, code := none }
/-- java/lang/String -/
def k8 : Class := { plain "java/lang/String" (some 0) with
  accessFlags := 49
  interfaces := #[3, 4, 5, 6, 7]
  cf := some (fileOf pool8 10 #[.nestMembers #[1103]] #[{ accessFlags := 1, nameIndex := 5, descriptorIndex := 6, attributes := #[] }] 49 2 #[1106, 1108, 575, 1110, 1112] #[{ accessFlags := 18, nameIndex := 13, descriptorIndex := 14, attributes := #[] }, { accessFlags := 18, nameIndex := 17, descriptorIndex := 18, attributes := #[] }, { accessFlags := 2, nameIndex := 21, descriptorIndex := 22, attributes := #[] }, { accessFlags := 2, nameIndex := 25, descriptorIndex := 26, attributes := #[] }, { accessFlags := 26, nameIndex := 1116, descriptorIndex := 1117, attributes := #[] }, { accessFlags := 24, nameIndex := 40, descriptorIndex := 26, attributes := #[] }, { accessFlags := 26, nameIndex := 1101, descriptorIndex := 1102, attributes := #[] }, { accessFlags := 26, nameIndex := 1121, descriptorIndex := 1122, attributes := #[] }, { accessFlags := 25, nameIndex := 599, descriptorIndex := 600, attributes := #[] }, { accessFlags := 24, nameIndex := 1125, descriptorIndex := 18, attributes := #[] }, { accessFlags := 24, nameIndex := 1127, descriptorIndex := 18, attributes := #[] }])
  fields := #[{ name := "value", type := (.array .byte), accessFlags := 18, slot := 0, constantValue := 0 }, { name := "coder", type := .byte, accessFlags := 18, slot := 1, constantValue := 0 }, { name := "hash", type := .int, accessFlags := 2, slot := 2, constantValue := 0 }, { name := "hashIsZero", type := .boolean, accessFlags := 2, slot := 3, constantValue := 0 }, { name := "serialVersionUID", type := .long, accessFlags := 26, slot := 0, constantValue := 0 }, { name := "COMPACT_STRINGS", type := .boolean, accessFlags := 24, slot := 1, constantValue := 0 }, { name := "serialPersistentFields", type := (.array (.object "java/io/ObjectStreamField")), accessFlags := 26, slot := 2, constantValue := 0 }, { name := "REPL", type := .char, accessFlags := 26, slot := 3, constantValue := 0 }, { name := "CASE_INSENSITIVE_ORDER", type := (.object "java/util/Comparator"), accessFlags := 25, slot := 4, constantValue := 0 }, { name := "LATIN1", type := .byte, accessFlags := 24, slot := 5, constantValue := 0 }, { name := "UTF16", type := .byte, accessFlags := 24, slot := 6, constantValue := 0 }]
  methods := #[k8m0]
  instanceTypes := #[(.array .byte), .byte, .int, .boolean]
  staticTypes := #[.long, .boolean, (.array (.object "java/io/ObjectStreamField")), .char, (.object "java/util/Comparator"), .byte, .byte]
  resolved := Array.replicate 1451 none
  statics := none }

def pool9 : Array CpInfo := pool [(4, .class_ 6), (1, u "java/lang/Object"), (0, u "<init>"), (0, u "()V"), (0, .methodref 10 11), (0, .class_ 12), (0, .nameAndType 13 14), (0, u "com/example/waban/waban/ArgumentChecks"), (0, u "sizeError"), (0, u "(Ljava/lang/String;JJJLjava/lang/String;I)Ljava/lang/String;"), (0, .methodref 10 16), (0, .nameAndType 17 18), (0, u "rangeError"), (0, u "(Ljava/lang/String;JJJ)Ljava/lang/String;"), (0, .long 4096), (12, u "MAX_PLACE_COUNT"), (0, u "I"), (2, u "MAX_ARRAY_LENGTH"), (3, u "(Ljava/lang/String;JJLjava/lang/String;I)Ljava/lang/String;")] 24

def k9m0 : Method := { name := "<init>", desc := "()V", sig := { parameters := [], returnType := none }, accessFlags := 2, code := none }
def k9c1 : Code := { maxStack := 9, maxLocals := 7, code := prog_1_method_2_code, exceptionTable := #[], attributes := #[] }
def k9m1 : Method := { name := "sizeError", desc := "(Ljava/lang/String;JJLjava/lang/String;I)Ljava/lang/String;", sig := { parameters := [(.object "java/lang/String"), .long, .long, (.object "java/lang/String"), .int], returnType := some (.object "java/lang/String") }, accessFlags := 8, code := some k9c1 }
def k9c2 : Code := { maxStack := 7, maxLocals := 10, code := prog_1_method_3_code, exceptionTable := #[], attributes := #[] }
def k9m2 : Method := { name := "sizeError", desc := "(Ljava/lang/String;JJJLjava/lang/String;I)Ljava/lang/String;", sig := { parameters := [(.object "java/lang/String"), .long, .long, .long, (.object "java/lang/String"), .int], returnType := some (.object "java/lang/String") }, accessFlags := 8, code := some k9c2 }
def k9c3 : Code := { maxStack := 7, maxLocals := 8, code := prog_1_method_4_code, exceptionTable := #[], attributes := #[] }
def k9m3 : Method := { name := "rangeError", desc := "(Ljava/lang/String;JJJ)Ljava/lang/String;", sig := { parameters := [(.object "java/lang/String"), .long, .long, .long], returnType := some (.object "java/lang/String") }, accessFlags := 8, code := some k9c3 }
/-- com/example/waban/waban/ArgumentChecks -/
def k9 : Class := { plain "com/example/waban/waban/ArgumentChecks" (some 0) with
  accessFlags := 32
  interfaces := #[]
  cf := some (fileOf pool9 10 #[] #[{ accessFlags := 2, nameIndex := 7, descriptorIndex := 8, attributes := #[] }, { accessFlags := 8, nameIndex := 13, descriptorIndex := 40, attributes := #[] }, { accessFlags := 8, nameIndex := 13, descriptorIndex := 14, attributes := #[] }, { accessFlags := 8, nameIndex := 17, descriptorIndex := 18, attributes := #[] }] 32 4 #[] #[{ accessFlags := 24, nameIndex := 32, descriptorIndex := 33, attributes := #[] }, { accessFlags := 24, nameIndex := 36, descriptorIndex := 33, attributes := #[] }])
  fields := #[{ name := "MAX_PLACE_COUNT", type := .int, accessFlags := 24, slot := 0, constantValue := 0 }, { name := "MAX_ARRAY_LENGTH", type := .int, accessFlags := 24, slot := 1, constantValue := 0 }]
  methods := #[k9m0, k9m1, k9m2, k9m3]
  instanceTypes := #[]
  staticTypes := #[.int, .int]
  resolved := Array.replicate 65 none
  statics := none }

def pool10 : Array CpInfo := pool [(1, .methodref 2 3), (0, .class_ 4), (0, .nameAndType 5 6), (0, u "java/lang/Object"), (0, u "<init>"), (0, u "()V"), (0, .fieldref 8 9), (0, .class_ 10), (0, .nameAndType 11 12), (0, u "com/example/waban/waban/ItemHash"), (0, u "seed"), (0, u "J"), (10, u "hash"), (1, .class_ 26), (0, u "com/example/waban/waban/ItemHash$SipState"), (0, .methodref 25 28), (0, .nameAndType 5 29), (0, u "(JJ)V"), (0, .methodref 25 31), (0, .nameAndType 32 33), (0, u "absorb"), (0, u "(J)V"), (2, .methodref 8 37), (0, .nameAndType 38 39), (0, u "lastWord"), (0, u "(IJ)J"), (0, .methodref 25 41), (0, .nameAndType 42 43), (0, u "finish"), (0, u "()Lcom/example/waban/waban/Hash128;"), (0, .class_ 45), (0, u "com/example/waban/waban/ItemHash$Points"), (0, .methodref 44 47), (0, .nameAndType 5 48), (0, u "(Lcom/example/waban/waban/Hash128;)V"), (2, u "points"), (1, .methodref 8 54), (0, .nameAndType 23 55), (0, u "(J)Lcom/example/waban/waban/Hash128;"), (0, .methodref 57 58), (0, .class_ 59), (0, .nameAndType 60 61), (0, u "java/lang/Math"), (0, u "multiplyHigh"), (0, u "(JJ)J"), (14, u "LITTLE_ENDIAN_LONG"), (0, u "Ljava/lang/invoke/VarHandle;"), (31, u "(J)Lcom/example/waban/waban/ItemHash$Points;"), (0, u "cell")] 8

def k10c0 : Code := { maxStack := 3, maxLocals := 3, code := prog_11_method_1_code, exceptionTable := #[], attributes := #[] }
def k10m0 : Method := { name := "<init>", desc := "(J)V", sig := { parameters := [.long], returnType := none }, accessFlags := 1, code := some k10c0 }
def k10c1 : Code := { maxStack := 6, maxLocals := 4, code := prog_11_method_5_code, exceptionTable := #[], attributes := #[] }
def k10m1 : Method := { name := "hash", desc := "(J)Lcom/example/waban/waban/Hash128;", sig := { parameters := [.long], returnType := some (.object "com/example/waban/waban/Hash128") }, accessFlags := 1, code := some k10c1 }
def k10c2 : Code := { maxStack := 5, maxLocals := 3, code := prog_11_method_9_code, exceptionTable := #[], attributes := #[] }
def k10m2 : Method := { name := "points", desc := "(J)Lcom/example/waban/waban/ItemHash$Points;", sig := { parameters := [.long], returnType := some (.object "com/example/waban/waban/ItemHash$Points") }, accessFlags := 0, code := some k10c2 }
def k10c3 : Code := { maxStack := 6, maxLocals := 4, code := prog_11_method_10_code, exceptionTable := #[], attributes := #[] }
def k10m3 : Method := { name := "cell", desc := "(JJ)J", sig := { parameters := [.long, .long], returnType := some .long }, accessFlags := 8, code := some k10c3 }
def k10c4 : Code := { maxStack := 4, maxLocals := 3, code := prog_11_method_14_code, exceptionTable := #[], attributes := #[] }
def k10m4 : Method := { name := "lastWord", desc := "(IJ)J", sig := { parameters := [.int, .long], returnType := some .long }, accessFlags := 10, code := some k10c4 }
/-- com/example/waban/waban/ItemHash -/
def k10 : Class := { plain "com/example/waban/waban/ItemHash" (some 0) with
  accessFlags := 33
  interfaces := #[]
  cf := some (fileOf pool10 8 #[.nestMembers #[25, 44]] #[{ accessFlags := 1, nameIndex := 5, descriptorIndex := 33, attributes := #[] }, { accessFlags := 1, nameIndex := 23, descriptorIndex := 55, attributes := #[] }, { accessFlags := 0, nameIndex := 51, descriptorIndex := 109, attributes := #[] }, { accessFlags := 8, nameIndex := 110, descriptorIndex := 61, attributes := #[] }, { accessFlags := 10, nameIndex := 38, descriptorIndex := 39, attributes := #[] }] 33 2 #[] #[{ accessFlags := 26, nameIndex := 76, descriptorIndex := 77, attributes := #[] }, { accessFlags := 18, nameIndex := 11, descriptorIndex := 12, attributes := #[] }])
  fields := #[{ name := "LITTLE_ENDIAN_LONG", type := (.object "java/lang/invoke/VarHandle"), accessFlags := 26, slot := 0, constantValue := 0 }, { name := "seed", type := .long, accessFlags := 18, slot := 0, constantValue := 0 }]
  methods := #[k10m0, k10m1, k10m2, k10m3, k10m4]
  instanceTypes := #[.long]
  staticTypes := #[(.object "java/lang/invoke/VarHandle")]
  resolved := ((Array.replicate 119 none).setIfInBounds 44 (some (.cls 11))).setIfInBounds 46 (some (.method ⟨11, 0⟩))
  statics := none }

def pool11 : Array CpInfo := pool [(1, .methodref 2 3), (0, .class_ 4), (0, .nameAndType 5 6), (0, u "java/lang/Object"), (0, u "<init>"), (0, u "()V"), (0, .methodref 8 9), (0, .class_ 10), (0, .nameAndType 11 12), (0, u "com/example/waban/waban/Hash128"), (0, u "low"), (0, u "()J"), (0, .fieldref 14 15), (0, .class_ 16), (0, .nameAndType 17 18), (0, u "com/example/waban/waban/ItemHash$Points"), (0, u "sum"), (0, u "J"), (0, .methodref 8 20), (0, .nameAndType 21 12), (0, u "high"), (0, .fieldref 14 23), (0, .nameAndType 24 18), (0, u "step"), (0, .methodref 14 26), (0, .nameAndType 27 28), (0, u "mix"), (0, u "(J)J"), (2, u "next"), (0, .long 13787848793156543929), (1, .long 10723151780598845931), (1, u "(Lcom/example/waban/waban/Hash128;)V"), (9, .class_ 47), (0, u "com/example/waban/waban/ItemHash")] 2

def k11c0 : Code := { maxStack := 5, maxLocals := 2, code := prog_12_method_1_code, exceptionTable := #[], attributes := #[] }
def k11m0 : Method := { name := "<init>", desc := "(Lcom/example/waban/waban/Hash128;)V", sig := { parameters := [(.object "com/example/waban/waban/Hash128")], returnType := none }, accessFlags := 2, code := some k11c0 }
def k11c1 : Code := { maxStack := 5, maxLocals := 3, code := prog_12_method_2_code, exceptionTable := #[], attributes := #[] }
def k11m1 : Method := { name := "next", desc := "()J", sig := { parameters := [], returnType := some .long }, accessFlags := 0, code := some k11c1 }
def k11c2 : Code := { maxStack := 5, maxLocals := 4, code := prog_12_method_4_code, exceptionTable := #[], attributes := #[] }
def k11m2 : Method := { name := "mix", desc := "(J)J", sig := { parameters := [.long], returnType := some .long }, accessFlags := 10, code := some k11c2 }
/-- com/example/waban/waban/ItemHash$Points -/
def k11 : Class := { plain "com/example/waban/waban/ItemHash$Points" (some 0) with
  accessFlags := 32
  interfaces := #[]
  cf := some (fileOf pool11 14 #[.nestHost 46] #[{ accessFlags := 2, nameIndex := 5, descriptorIndex := 36, attributes := #[] }, { accessFlags := 0, nameIndex := 31, descriptorIndex := 12, attributes := #[] }, { accessFlags := 10, nameIndex := 27, descriptorIndex := 28, attributes := #[] }] 32 2 #[] #[{ accessFlags := 2, nameIndex := 17, descriptorIndex := 18, attributes := #[] }, { accessFlags := 18, nameIndex := 24, descriptorIndex := 18, attributes := #[] }])
  fields := #[{ name := "sum", type := .long, accessFlags := 2, slot := 0, constantValue := 0 }, { name := "step", type := .long, accessFlags := 18, slot := 1, constantValue := 0 }]
  methods := #[k11m0, k11m1, k11m2]
  instanceTypes := #[.long, .long]
  staticTypes := #[]
  resolved := Array.replicate 50 none
  statics := none }

def pool12 : Array CpInfo := pool [(1, .methodref 2 3), (0, .class_ 4), (0, .nameAndType 5 6), (0, u "java/lang/Object"), (0, u "<init>"), (0, u "()V"), (0, .long 8317987319222330741), (1, .fieldref 10 11), (0, .class_ 12), (0, .nameAndType 13 14), (0, u "com/example/waban/waban/ItemHash$SipState"), (0, u "v0"), (0, u "J"), (0, .long 7237128888997146477), (1, .long 238), (1, .fieldref 10 20), (0, .nameAndType 21 14), (0, u "v1"), (0, .long 7816392313619706465), (1, .fieldref 10 25), (0, .nameAndType 26 14), (0, u "v2"), (0, .long 8387220255154660723), (1, .fieldref 10 30), (0, .nameAndType 31 14), (0, u "v3"), (0, .methodref 10 33), (0, .nameAndType 34 35), (0, u "rounds"), (0, u "(I)V"), (0, .class_ 37), (0, u "java/lang/Long"), (1, .class_ 41), (1, u "com/example/waban/waban/ItemHash"), (10, u "absorb"), (0, u "(J)V"), (4, .class_ 59), (0, u "com/example/waban/waban/Hash128"), (0, .methodref 10 61), (0, .nameAndType 62 63), (0, u "finishLow"), (0, u "()J"), (0, .methodref 10 65), (0, .nameAndType 66 63), (0, u "finishHigh"), (0, .methodref 58 68), (0, .nameAndType 5 69), (0, u "(JJ)V"), (0, .long 221), (1, .methodref 36 73), (0, .nameAndType 74 75), (0, u "rotateLeft"), (0, u "(JI)J"), (0, u "COMPRESSION_ROUNDS"), (0, u "I"), (2, u "FINALIZATION_ROUNDS"), (6, u "finish"), (0, u "()Lcom/example/waban/waban/Hash128;")] 5

def k12c0 : Code := { maxStack := 5, maxLocals := 5, code := prog_13_method_1_code, exceptionTable := #[], attributes := #[] }
def k12m0 : Method := { name := "<init>", desc := "(JJ)V", sig := { parameters := [.long, .long], returnType := none }, accessFlags := 0, code := some k12c0 }
def k12c1 : Code := { maxStack := 5, maxLocals := 3, code := prog_13_method_2_code, exceptionTable := #[], attributes := #[] }
def k12m1 : Method := { name := "absorb", desc := "(J)V", sig := { parameters := [.long], returnType := none }, accessFlags := 0, code := some k12c1 }
def k12c2 : Code := { maxStack := 6, maxLocals := 1, code := prog_13_method_4_code, exceptionTable := #[], attributes := #[] }
def k12m2 : Method := { name := "finish", desc := "()Lcom/example/waban/waban/Hash128;", sig := { parameters := [], returnType := some (.object "com/example/waban/waban/Hash128") }, accessFlags := 0, code := some k12c2 }
def k12c3 : Code := { maxStack := 5, maxLocals := 1, code := prog_13_method_5_code, exceptionTable := #[], attributes := #[] }
def k12m3 : Method := { name := "finishLow", desc := "()J", sig := { parameters := [], returnType := some .long }, accessFlags := 0, code := some k12c3 }
def k12c4 : Code := { maxStack := 5, maxLocals := 1, code := prog_13_method_6_code, exceptionTable := #[], attributes := #[] }
def k12m4 : Method := { name := "finishHigh", desc := "()J", sig := { parameters := [], returnType := some .long }, accessFlags := 0, code := some k12c4 }
def k12c5 : Code := { maxStack := 5, maxLocals := 3, code := prog_13_method_7_code, exceptionTable := #[], attributes := #[] }
def k12m5 : Method := { name := "rounds", desc := "(I)V", sig := { parameters := [.int], returnType := none }, accessFlags := 2, code := some k12c5 }
/-- com/example/waban/waban/ItemHash$SipState -/
def k12 : Class := { plain "com/example/waban/waban/ItemHash$SipState" (some 0) with
  accessFlags := 32
  interfaces := #[]
  cf := some (fileOf pool12 10 #[.nestHost 39] #[{ accessFlags := 0, nameIndex := 5, descriptorIndex := 69, attributes := #[] }, { accessFlags := 0, nameIndex := 52, descriptorIndex := 53, attributes := #[] }, { accessFlags := 0, nameIndex := 87, descriptorIndex := 88, attributes := #[] }, { accessFlags := 0, nameIndex := 62, descriptorIndex := 63, attributes := #[] }, { accessFlags := 0, nameIndex := 66, descriptorIndex := 63, attributes := #[] }, { accessFlags := 2, nameIndex := 34, descriptorIndex := 35, attributes := #[] }] 32 2 #[] #[{ accessFlags := 26, nameIndex := 76, descriptorIndex := 77, attributes := #[] }, { accessFlags := 26, nameIndex := 80, descriptorIndex := 77, attributes := #[] }, { accessFlags := 2, nameIndex := 13, descriptorIndex := 14, attributes := #[] }, { accessFlags := 2, nameIndex := 21, descriptorIndex := 14, attributes := #[] }, { accessFlags := 2, nameIndex := 26, descriptorIndex := 14, attributes := #[] }, { accessFlags := 2, nameIndex := 31, descriptorIndex := 14, attributes := #[] }])
  fields := #[{ name := "COMPRESSION_ROUNDS", type := .int, accessFlags := 26, slot := 0, constantValue := 0 }, { name := "FINALIZATION_ROUNDS", type := .int, accessFlags := 26, slot := 1, constantValue := 0 }, { name := "v0", type := .long, accessFlags := 2, slot := 0, constantValue := 0 }, { name := "v1", type := .long, accessFlags := 2, slot := 1, constantValue := 0 }, { name := "v2", type := .long, accessFlags := 2, slot := 2, constantValue := 0 }, { name := "v3", type := .long, accessFlags := 2, slot := 3, constantValue := 0 }]
  methods := #[k12m0, k12m1, k12m2, k12m3, k12m4, k12m5]
  instanceTypes := #[.long, .long, .long, .long]
  staticTypes := #[.int, .int]
  resolved := Array.replicate 94 none
  statics := none }

def pool13 : Array CpInfo := pool [(2, .class_ 4), (1, u "java/lang/Object"), (0, u "<init>"), (0, u "()V"), (1, .class_ 10), (1, u "java/lang/Number"), (2, .class_ 14), (0, u "java/io/Serializable"), (0, u "serialVersionUID"), (0, u "J")] 20

def k13m0 : Method := { name := "<init>", desc := "()V", sig := { parameters := [], returnType := none }, accessFlags := 1, code := none }
/-- java/lang/Number -/
def k13 : Class := { plain "java/lang/Number" (some 0) with
  accessFlags := 1057
  interfaces := #[3]
  cf := some (fileOf pool13 8 #[] #[{ accessFlags := 1, nameIndex := 5, descriptorIndex := 6, attributes := #[] }] 1057 2 #[13] #[{ accessFlags := 26, nameIndex := 15, descriptorIndex := 16, attributes := #[] }])
  fields := #[{ name := "serialVersionUID", type := .long, accessFlags := 26, slot := 0, constantValue := 0 }]
  methods := #[k13m0]
  instanceTypes := #[]
  staticTypes := #[.long]
  resolved := Array.replicate 37 none
  statics := none }

def pool14 : Array CpInfo := pool [(1, .class_ 2), (0, u "java/lang/Long"), (232, .class_ 237), (1, u "java/lang/Long$LongCache"), (33, .class_ 272), (0, u "java/lang/Number"), (2, u "value"), (0, u "J"), (84, u "TYPE"), (0, u "Ljava/lang/Class;"), (0, .class_ 364), (0, u "java/lang/Comparable"), (0, .class_ 366), (0, u "java/lang/constant/Constable"), (0, .class_ 368), (0, u "java/lang/constant/ConstantDesc"), (0, u "MIN_VALUE"), (1, u "MAX_VALUE"), (4, u "SIZE"), (0, u "I"), (1, u "BYTES"), (1, u "serialVersionUID"), (95, u "rotateLeft"), (0, u "(JI)J")] 45

def k14c0 : Code := { maxStack := 5, maxLocals := 3, code := jdk_35_method_51_code, exceptionTable := #[], attributes := #[] }
def k14m0 : Method := { name := "rotateLeft", desc := "(JI)J", sig := { parameters := [.long, .int], returnType := some .long }, accessFlags := 9, code := some k14c0 }
/-- java/lang/Long -/
def k14 : Class := { plain "java/lang/Long" (some 13) with
  accessFlags := 49
  interfaces := #[4, 6, 7]
  cf := some (fileOf pool14 1 #[.nestMembers #[235]] #[{ accessFlags := 9, nameIndex := 477, descriptorIndex := 478, attributes := #[] }] 49 271 #[363, 365, 367] #[{ accessFlags := 25, nameIndex := 369, descriptorIndex := 276, attributes := #[] }, { accessFlags := 25, nameIndex := 371, descriptorIndex := 276, attributes := #[] }, { accessFlags := 25, nameIndex := 361, descriptorIndex := 362, attributes := #[] }, { accessFlags := 18, nameIndex := 275, descriptorIndex := 276, attributes := #[] }, { accessFlags := 25, nameIndex := 376, descriptorIndex := 377, attributes := #[] }, { accessFlags := 25, nameIndex := 379, descriptorIndex := 377, attributes := #[] }, { accessFlags := 26, nameIndex := 381, descriptorIndex := 276, attributes := #[] }])
  fields := #[{ name := "MIN_VALUE", type := .long, accessFlags := 25, slot := 0, constantValue := 0 }, { name := "MAX_VALUE", type := .long, accessFlags := 25, slot := 1, constantValue := 0 }, { name := "TYPE", type := (.object "java/lang/Class"), accessFlags := 25, slot := 2, constantValue := 0 }, { name := "value", type := .long, accessFlags := 18, slot := 0, constantValue := 0 }, { name := "SIZE", type := .int, accessFlags := 25, slot := 3, constantValue := 0 }, { name := "BYTES", type := .int, accessFlags := 25, slot := 4, constantValue := 0 }, { name := "serialVersionUID", type := .long, accessFlags := 26, slot := 5, constantValue := 0 }]
  methods := #[k14m0]
  instanceTypes := #[.long]
  staticTypes := #[.long, .long, (.object "java/lang/Class"), .int, .int, .long]
  resolved := Array.replicate 524 none
  statics := none }

def pool15 : Array CpInfo := pool [(1, .methodref 2 3), (0, .class_ 4), (0, .nameAndType 5 6), (0, u "java/lang/Object"), (0, u "<init>"), (0, u "()V"), (0, .class_ 8), (0, u "java/lang/Record")] 13

def k15c0 : Code := { maxStack := 1, maxLocals := 1, code := jdk_30_method_1_code, exceptionTable := #[], attributes := #[] }
def k15m0 : Method := { name := "<init>", desc := "()V", sig := { parameters := [], returnType := none }, accessFlags := 4, code := some k15c0 }
/-- java/lang/Record -/
def k15 : Class := { plain "java/lang/Record" (some 0) with
  accessFlags := 1057
  interfaces := #[]
  cf := some (fileOf pool15 7 #[] #[{ accessFlags := 4, nameIndex := 5, descriptorIndex := 6, attributes := #[] }] 1057 2 #[] #[])
  fields := #[]
  methods := #[k15m0]
  instanceTypes := #[]
  staticTypes := #[]
  resolved := Array.replicate 22 none
  statics := none }

def pool16 : Array CpInfo := pool [(1, .methodref 2 3), (0, .class_ 4), (0, .nameAndType 5 6), (0, u "java/lang/Record"), (0, u "<init>"), (0, u "()V"), (0, .fieldref 8 9), (0, .class_ 10), (0, .nameAndType 11 12), (0, u "com/example/waban/waban/Hash128"), (0, u "low"), (0, u "J"), (0, .fieldref 8 14), (0, .nameAndType 15 12), (0, u "high"), (12, u "(JJ)V"), (6, u "()J")] 21

def k16c0 : Code := { maxStack := 3, maxLocals := 5, code := prog_10_method_1_code, exceptionTable := #[], attributes := #[] }
def k16m0 : Method := { name := "<init>", desc := "(JJ)V", sig := { parameters := [.long, .long], returnType := none }, accessFlags := 1, code := some k16c0 }
def k16c1 : Code := { maxStack := 2, maxLocals := 1, code := prog_10_method_5_code, exceptionTable := #[], attributes := #[] }
def k16m1 : Method := { name := "low", desc := "()J", sig := { parameters := [], returnType := some .long }, accessFlags := 1, code := some k16c1 }
def k16c2 : Code := { maxStack := 2, maxLocals := 1, code := prog_10_method_6_code, exceptionTable := #[], attributes := #[] }
def k16m2 : Method := { name := "high", desc := "()J", sig := { parameters := [], returnType := some .long }, accessFlags := 1, code := some k16c2 }
/-- com/example/waban/waban/Hash128 -/
def k16 : Class := { plain "com/example/waban/waban/Hash128" (some 15) with
  accessFlags := 49
  interfaces := #[]
  cf := some (fileOf pool16 8 #[] #[{ accessFlags := 1, nameIndex := 5, descriptorIndex := 28, attributes := #[] }, { accessFlags := 1, nameIndex := 11, descriptorIndex := 35, attributes := #[] }, { accessFlags := 1, nameIndex := 15, descriptorIndex := 35, attributes := #[] }] 49 2 #[] #[{ accessFlags := 18, nameIndex := 11, descriptorIndex := 12, attributes := #[] }, { accessFlags := 18, nameIndex := 15, descriptorIndex := 12, attributes := #[] }])
  fields := #[{ name := "low", type := .long, accessFlags := 18, slot := 0, constantValue := 0 }, { name := "high", type := .long, accessFlags := 18, slot := 1, constantValue := 0 }]
  methods := #[k16m0, k16m1, k16m2]
  instanceTypes := #[.long, .long]
  staticTypes := #[]
  resolved := Array.replicate 57 none
  statics := none }

def pool17 : Array CpInfo := pool [(1, .class_ 2), (0, u "java/lang/Math"), (1, .class_ 6), (1, u "java/lang/Object"), (0, u "<init>"), (0, u "()V"), (89, .class_ 100), (1, u "java/lang/Math$RandomNumberGeneratorHolder"), (20, u "(JJ)J"), (16, .long 4294967295), (3, u "multiplyHigh"), (29, u "negativeZeroFloatBits"), (0, u "J"), (2, u "negativeZeroDoubleBits"), (68, u "$assertionsDisabled"), (0, u "Z"), (91, u "twoToTheDoubleScaleDown"), (0, u "D"), (4, u "twoToTheDoubleScaleUp"), (9, u "E"), (3, u "PI"), (2, u "TAU"), (2, u "DEGREES_TO_RADIANS"), (0, u "RADIANS_TO_DEGREES")] 94

def k17m0 : Method := { name := "<init>", desc := "()V", sig := { parameters := [], returnType := none }, accessFlags := 2, code := none }
def k17c1 : Code := { maxStack := 6, maxLocals := 20, code := jdk_29_method_45_code, exceptionTable := #[], attributes := #[] }
def k17m1 : Method := { name := "multiplyHigh", desc := "(JJ)J", sig := { parameters := [.long, .long], returnType := some .long }, accessFlags := 9, code := some k17c1 }
/-- java/lang/Math -/
def k17 : Class := { plain "java/lang/Math" (some 0) with
  accessFlags := 49
  interfaces := #[]
  cf := some (fileOf pool17 1 #[.nestMembers #[98]] #[{ accessFlags := 2, nameIndex := 7, descriptorIndex := 8, attributes := #[] }, { accessFlags := 9, nameIndex := 142, descriptorIndex := 121, attributes := #[] }] 49 4 #[] #[{ accessFlags := 25, nameIndex := 354, descriptorIndex := 339, attributes := #[] }, { accessFlags := 25, nameIndex := 358, descriptorIndex := 339, attributes := #[] }, { accessFlags := 25, nameIndex := 361, descriptorIndex := 339, attributes := #[] }, { accessFlags := 26, nameIndex := 364, descriptorIndex := 339, attributes := #[] }, { accessFlags := 26, nameIndex := 365, descriptorIndex := 339, attributes := #[] }, { accessFlags := 26, nameIndex := 172, descriptorIndex := 173, attributes := #[] }, { accessFlags := 26, nameIndex := 176, descriptorIndex := 173, attributes := #[] }, { accessFlags := 8, nameIndex := 344, descriptorIndex := 339, attributes := #[] }, { accessFlags := 8, nameIndex := 338, descriptorIndex := 339, attributes := #[] }, { accessFlags := 4120, nameIndex := 245, descriptorIndex := 246, attributes := #[] }])
  fields := #[{ name := "E", type := .double, accessFlags := 25, slot := 0, constantValue := 0 }, { name := "PI", type := .double, accessFlags := 25, slot := 1, constantValue := 0 }, { name := "TAU", type := .double, accessFlags := 25, slot := 2, constantValue := 0 }, { name := "DEGREES_TO_RADIANS", type := .double, accessFlags := 26, slot := 3, constantValue := 0 }, { name := "RADIANS_TO_DEGREES", type := .double, accessFlags := 26, slot := 4, constantValue := 0 }, { name := "negativeZeroFloatBits", type := .long, accessFlags := 26, slot := 5, constantValue := 0 }, { name := "negativeZeroDoubleBits", type := .long, accessFlags := 26, slot := 6, constantValue := 0 }, { name := "twoToTheDoubleScaleUp", type := .double, accessFlags := 8, slot := 7, constantValue := 0 }, { name := "twoToTheDoubleScaleDown", type := .double, accessFlags := 8, slot := 8, constantValue := 0 }, { name := "$assertionsDisabled", type := .boolean, accessFlags := 4120, slot := 9, constantValue := 0 }]
  methods := #[k17m0, k17m1]
  instanceTypes := #[]
  staticTypes := #[.double, .double, .double, .double, .double, .long, .long, .double, .double, .boolean]
  resolved := Array.replicate 460 none
  statics := none }

def pool18 : Array CpInfo := pool [(1, u "java/lang/Cloneable"), (0, .class_ 1), (0, u "java/lang/Object"), (0, .class_ 3)] 3

/-- java/lang/Cloneable -/
def k18 : Class := { plain "java/lang/Cloneable" (some 0) with
  accessFlags := 1537
  interfaces := #[]
  cf := some (fileOf pool18 2 #[] #[] 1537 4 #[] #[])
  fields := #[]
  methods := #[]
  instanceTypes := #[]
  staticTypes := #[]
  resolved := Array.replicate 8 none
  statics := none }

/-- the primitive byte -/
def k19 : Class := { plain "byte" none with kind := .primitive 'B', accessFlags := 0x411 }
/-- [B -/
def k20 : Class := { plain "[B" (some 0) with kind := .array 19 .byte, interfaces := #[18, 3], accessFlags := 1041 }

/-- the primitive int -/
def k21 : Class := { plain "int" none with kind := .primitive 'I', accessFlags := 0x411 }
/-- [I -/
def k22 : Class := { plain "[I" (some 0) with kind := .array 21 .int, interfaces := #[18, 3], accessFlags := 1041 }

/-- the primitive long -/
def k23 : Class := { plain "long" none with kind := .primitive 'J', accessFlags := 0x411 }
/-- [J -/
def k24 : Class := { plain "[J" (some 0) with kind := .array 23 .long, interfaces := #[18, 3], accessFlags := 1041 }

def heap : Heap := #[]
def classes : Array Class := #[k0, k1, k2, k3, k4, k5, k6, k7, k8, k9, k10, k11, k12, k13, k14, k15, k16, k17, k18, k19, k20, k21, k22, k23, k24]
def interned : List (Array UInt16 × Addr) := []
def slotsUsed : Nat := 0
def theMethod : MethodId := ⟨1, 1⟩
def args0 : Array Value := #[.long 5, .long 5, .long 5, .long 5, .int 5]
def aboutOver (below : List Frame) : State where
  vm := { classes := classes, interned := interned.toArray }
  heap := heap
  slotsUsed := slotsUsed
  threads := #[{ frames := .invoking theMethod args0 :: below }]
def below0 : List Frame := [.native { method := ⟨0, 0⟩, args := #[] }]
def about1 : State := aboutOver below0
def p0 : Program := .bare "" "" ""
def e0 : Env := launch0.env 0 0 0
theorem w_frames : about1.frames = Frame.invoking theMethod args0 :: below0 := rfl
set_option maxRecDepth 65536 in
theorem w_args : argsFit about1.vm theMethod args0 = true := by decide +kernel
set_option maxRecDepth 65536 in
theorem w_heap : heapFits about1 = true := by decide +kernel
set_option maxRecDepth 65536 in
theorem w_runnable : about1.curStatus? = some .runnable := by decide +kernel
set_option maxRecDepth 65536 in
theorem w_alone : about1.alone = true := by decide +kernel
set_option maxRecDepth 65536 in
theorem w_named : about1.methodNamed? x = some theMethod := by decide +kernel
set_option maxRecDepth 65536 in
theorem w_hears : about1.hears theMethod below0 = true := by decide +kernel
set_option maxRecDepth 65536 in
theorem w_ripe : about1.ripe theMethod args0 below0 = true := by decide +kernel
theorem w_running : about1.status = .running := rfl
set_option maxRecDepth 65536 in
theorem w_room : about1.hasRoom e0.platform room_1 = true :=
  launch0.hasRoom_least _ room_1 (by decide +kernel) (by decide +kernel) (by decide +kernel) (by decide +kernel) (by decide +kernel) (by decide +kernel)
theorem allAtoms_all (ts : List Jvm.Cond) (a : Array Jvm.Value) (st : Jvm.State) : (allAtoms ts).before a st = ts.all (fun c => c.before a st) := by
  induction ts with
  | nil => rfl
  | cons c t ih =>
    show (Jvm.Cond.and c (allAtoms t)).before a st = _
    rw [Jvm.Cond.before_and, ih, List.all_cons]
def words1 : List Jvm.Cond := Jvm.Cond.code x code maxLocals ret :: tables_1
/-- a 'code' word, met by the world's own term for the bytes: nothing is compared byte by byte -/
theorem code_word {y : MethodName} {bytes : ByteArray} {mx : Nat} {rt : Option FieldType} {a : Array Value} {s : State} {m : MethodId} {meth : Method} {c : Code} (h1 : s.methodNamed? y = some m) (h2 : s.vm.method? m = some meth) (h3 : meth.code = some c) (h4 : c.code = bytes)
    (h5 : (c.maxLocals == mx && c.exceptionTable.isEmpty && decide (c.maxStack ≤ mostOperands) && decide (meth.sig.returnType = rt) && !meth.locks && decide (parseMethodDescriptor y.desc = some meth.sig)) = true) : (Jvm.Cond.code y bytes mx rt).before a s = true := by
  simp only [Bool.and_eq_true, beq_iff_eq, Bool.not_eq_true', decide_eq_true_eq] at h5
  obtain ⟨⟨⟨⟨⟨g1, g2⟩, g3⟩, g4⟩, g5⟩, g6⟩ := h5
  simp [Cond.before, Cond.holds, Cond.value, h1, h2, h3, h4, g1, g2, g3, g4, g5, g6]
def isCode : Jvm.Cond → Bool
  | .code _ _ _ _ => true
  | _ => false
theorem all_split {L : List Jvm.Cond} {P : Jvm.Cond → Bool} (h1 : L.all (fun c => isCode c || P c) = true) (h2 : ∀ c ∈ L.filter isCode, P c = true) : L.all P = true := by
  refine List.all_eq_true.mpr fun c hc => ?_
  have h := List.all_eq_true.mp h1 c hc
  rcases Bool.eq_false_or_eq_true (isCode c) with hi | hi
  · exact h2 c (List.mem_filter.mpr ⟨hc, hi⟩)
  · simpa [hi] using h
set_option maxRecDepth 65536 in
theorem w_c0 : (Jvm.Cond.code x code maxLocals ret).before args0 about1 = true := code_word (m := ⟨1, 1⟩) (meth := k1m1) (c := k1c1) (by decide +kernel) rfl rfl rfl (by decide +kernel)
set_option maxRecDepth 65536 in
theorem w_c1 : (Jvm.Cond.code ({ cls := "com/example/waban/waban/BloomFilter", name := "<init>", desc := "(JIJ)V" } : Jvm.MethodName) prog_2_method_1_code (7 : Nat) (Option.none : Option Jvm.ClassFile.FieldType)).before args0 about1 = true := code_word (m := ⟨2, 0⟩) (meth := k2m0) (c := k2c0) (by decide +kernel) rfl rfl rfl (by decide +kernel)
set_option maxRecDepth 65536 in
theorem w_c2 : (Jvm.Cond.code ({ cls := "java/lang/Object", name := "<init>", desc := "()V" } : Jvm.MethodName) object_method_1_code (1 : Nat) (Option.none : Option Jvm.ClassFile.FieldType)).before args0 about1 = true := code_word (m := ⟨0, 0⟩) (meth := k0m0) (c := k0c0) (by decide +kernel) rfl rfl rfl (by decide +kernel)
set_option maxRecDepth 65536 in
theorem w_c3 : (Jvm.Cond.code ({ cls := "com/example/waban/waban/ArgumentChecks", name := "sizeError", desc := "(Ljava/lang/String;JJLjava/lang/String;I)Ljava/lang/String;" } : Jvm.MethodName) prog_1_method_2_code (7 : Nat) (Option.some (Jvm.ClassFile.FieldType.object "java/lang/String"))).before args0 about1 = true := code_word (m := ⟨9, 1⟩) (meth := k9m1) (c := k9c1) (by decide +kernel) rfl rfl rfl (by decide +kernel)
set_option maxRecDepth 65536 in
theorem w_c4 : (Jvm.Cond.code ({ cls := "com/example/waban/waban/ArgumentChecks", name := "sizeError", desc := "(Ljava/lang/String;JJJLjava/lang/String;I)Ljava/lang/String;" } : Jvm.MethodName) prog_1_method_3_code (10 : Nat) (Option.some (Jvm.ClassFile.FieldType.object "java/lang/String"))).before args0 about1 = true := code_word (m := ⟨9, 2⟩) (meth := k9m2) (c := k9c2) (by decide +kernel) rfl rfl rfl (by decide +kernel)
set_option maxRecDepth 65536 in
theorem w_c5 : (Jvm.Cond.code ({ cls := "com/example/waban/waban/ArgumentChecks", name := "rangeError", desc := "(Ljava/lang/String;JJJ)Ljava/lang/String;" } : Jvm.MethodName) prog_1_method_4_code (8 : Nat) (Option.some (Jvm.ClassFile.FieldType.object "java/lang/String"))).before args0 about1 = true := code_word (m := ⟨9, 3⟩) (meth := k9m3) (c := k9c3) (by decide +kernel) rfl rfl rfl (by decide +kernel)
set_option maxRecDepth 65536 in
theorem w_c6 : (Jvm.Cond.code ({ cls := "com/example/waban/waban/ItemHash", name := "<init>", desc := "(J)V" } : Jvm.MethodName) prog_11_method_1_code (3 : Nat) (Option.none : Option Jvm.ClassFile.FieldType)).before args0 about1 = true := code_word (m := ⟨10, 0⟩) (meth := k10m0) (c := k10c0) (by decide +kernel) rfl rfl rfl (by decide +kernel)
set_option maxRecDepth 65536 in
theorem w_c7 : (Jvm.Cond.code ({ cls := "com/example/waban/waban/ItemHash", name := "points", desc := "(J)Lcom/example/waban/waban/ItemHash$Points;" } : Jvm.MethodName) prog_11_method_9_code (3 : Nat) (Option.some (Jvm.ClassFile.FieldType.object "com/example/waban/waban/ItemHash$Points"))).before args0 about1 = true := code_word (m := ⟨10, 2⟩) (meth := k10m2) (c := k10c2) (by decide +kernel) rfl rfl rfl (by decide +kernel)
set_option maxRecDepth 65536 in
theorem w_c8 : (Jvm.Cond.code ({ cls := "com/example/waban/waban/ItemHash", name := "hash", desc := "(J)Lcom/example/waban/waban/Hash128;" } : Jvm.MethodName) prog_11_method_5_code (4 : Nat) (Option.some (Jvm.ClassFile.FieldType.object "com/example/waban/waban/Hash128"))).before args0 about1 = true := code_word (m := ⟨10, 1⟩) (meth := k10m1) (c := k10c1) (by decide +kernel) rfl rfl rfl (by decide +kernel)
set_option maxRecDepth 65536 in
theorem w_c9 : (Jvm.Cond.code ({ cls := "com/example/waban/waban/ItemHash$SipState", name := "<init>", desc := "(JJ)V" } : Jvm.MethodName) prog_13_method_1_code (5 : Nat) (Option.none : Option Jvm.ClassFile.FieldType)).before args0 about1 = true := code_word (m := ⟨12, 0⟩) (meth := k12m0) (c := k12c0) (by decide +kernel) rfl rfl rfl (by decide +kernel)
set_option maxRecDepth 65536 in
theorem w_c10 : (Jvm.Cond.code ({ cls := "com/example/waban/waban/ItemHash$SipState", name := "absorb", desc := "(J)V" } : Jvm.MethodName) prog_13_method_2_code (3 : Nat) (Option.none : Option Jvm.ClassFile.FieldType)).before args0 about1 = true := code_word (m := ⟨12, 1⟩) (meth := k12m1) (c := k12c1) (by decide +kernel) rfl rfl rfl (by decide +kernel)
set_option maxRecDepth 65536 in
theorem w_c11 : (Jvm.Cond.code ({ cls := "com/example/waban/waban/ItemHash$SipState", name := "rounds", desc := "(I)V" } : Jvm.MethodName) prog_13_method_7_code (3 : Nat) (Option.none : Option Jvm.ClassFile.FieldType)).before args0 about1 = true := code_word (m := ⟨12, 5⟩) (meth := k12m5) (c := k12c5) (by decide +kernel) rfl rfl rfl (by decide +kernel)
set_option maxRecDepth 65536 in
theorem w_c12 : (Jvm.Cond.code ({ cls := "java/lang/Long", name := "rotateLeft", desc := "(JI)J" } : Jvm.MethodName) jdk_35_method_51_code (3 : Nat) (Option.some Jvm.ClassFile.FieldType.long)).before args0 about1 = true := code_word (m := ⟨14, 0⟩) (meth := k14m0) (c := k14c0) (by decide +kernel) rfl rfl rfl (by decide +kernel)
set_option maxRecDepth 65536 in
theorem w_c13 : (Jvm.Cond.code ({ cls := "com/example/waban/waban/ItemHash", name := "lastWord", desc := "(IJ)J" } : Jvm.MethodName) prog_11_method_14_code (3 : Nat) (Option.some Jvm.ClassFile.FieldType.long)).before args0 about1 = true := code_word (m := ⟨10, 4⟩) (meth := k10m4) (c := k10c4) (by decide +kernel) rfl rfl rfl (by decide +kernel)
set_option maxRecDepth 65536 in
theorem w_c14 : (Jvm.Cond.code ({ cls := "com/example/waban/waban/ItemHash$SipState", name := "finish", desc := "()Lcom/example/waban/waban/Hash128;" } : Jvm.MethodName) prog_13_method_4_code (1 : Nat) (Option.some (Jvm.ClassFile.FieldType.object "com/example/waban/waban/Hash128"))).before args0 about1 = true := code_word (m := ⟨12, 2⟩) (meth := k12m2) (c := k12c2) (by decide +kernel) rfl rfl rfl (by decide +kernel)
set_option maxRecDepth 65536 in
theorem w_c15 : (Jvm.Cond.code ({ cls := "com/example/waban/waban/ItemHash$SipState", name := "finishLow", desc := "()J" } : Jvm.MethodName) prog_13_method_5_code (1 : Nat) (Option.some Jvm.ClassFile.FieldType.long)).before args0 about1 = true := code_word (m := ⟨12, 3⟩) (meth := k12m3) (c := k12c3) (by decide +kernel) rfl rfl rfl (by decide +kernel)
set_option maxRecDepth 65536 in
theorem w_c16 : (Jvm.Cond.code ({ cls := "com/example/waban/waban/ItemHash$SipState", name := "finishHigh", desc := "()J" } : Jvm.MethodName) prog_13_method_6_code (1 : Nat) (Option.some Jvm.ClassFile.FieldType.long)).before args0 about1 = true := code_word (m := ⟨12, 4⟩) (meth := k12m4) (c := k12c4) (by decide +kernel) rfl rfl rfl (by decide +kernel)
set_option maxRecDepth 65536 in
theorem w_c17 : (Jvm.Cond.code ({ cls := "com/example/waban/waban/Hash128", name := "<init>", desc := "(JJ)V" } : Jvm.MethodName) prog_10_method_1_code (5 : Nat) (Option.none : Option Jvm.ClassFile.FieldType)).before args0 about1 = true := code_word (m := ⟨16, 0⟩) (meth := k16m0) (c := k16c0) (by decide +kernel) rfl rfl rfl (by decide +kernel)
set_option maxRecDepth 65536 in
theorem w_c18 : (Jvm.Cond.code ({ cls := "java/lang/Record", name := "<init>", desc := "()V" } : Jvm.MethodName) jdk_30_method_1_code (1 : Nat) (Option.none : Option Jvm.ClassFile.FieldType)).before args0 about1 = true := code_word (m := ⟨15, 0⟩) (meth := k15m0) (c := k15c0) (by decide +kernel) rfl rfl rfl (by decide +kernel)
set_option maxRecDepth 65536 in
theorem w_c19 : (Jvm.Cond.code ({ cls := "com/example/waban/waban/ItemHash$Points", name := "<init>", desc := "(Lcom/example/waban/waban/Hash128;)V" } : Jvm.MethodName) prog_12_method_1_code (2 : Nat) (Option.none : Option Jvm.ClassFile.FieldType)).before args0 about1 = true := code_word (m := ⟨11, 0⟩) (meth := k11m0) (c := k11c0) (by decide +kernel) rfl rfl rfl (by decide +kernel)
set_option maxRecDepth 65536 in
theorem w_c20 : (Jvm.Cond.code ({ cls := "com/example/waban/waban/Hash128", name := "low", desc := "()J" } : Jvm.MethodName) prog_10_method_5_code (1 : Nat) (Option.some Jvm.ClassFile.FieldType.long)).before args0 about1 = true := code_word (m := ⟨16, 1⟩) (meth := k16m1) (c := k16c1) (by decide +kernel) rfl rfl rfl (by decide +kernel)
set_option maxRecDepth 65536 in
theorem w_c21 : (Jvm.Cond.code ({ cls := "com/example/waban/waban/Hash128", name := "high", desc := "()J" } : Jvm.MethodName) prog_10_method_6_code (1 : Nat) (Option.some Jvm.ClassFile.FieldType.long)).before args0 about1 = true := code_word (m := ⟨16, 2⟩) (meth := k16m2) (c := k16c2) (by decide +kernel) rfl rfl rfl (by decide +kernel)
set_option maxRecDepth 65536 in
theorem w_c22 : (Jvm.Cond.code ({ cls := "com/example/waban/waban/ItemHash$Points", name := "next", desc := "()J" } : Jvm.MethodName) prog_12_method_2_code (3 : Nat) (Option.some Jvm.ClassFile.FieldType.long)).before args0 about1 = true := code_word (m := ⟨11, 1⟩) (meth := k11m1) (c := k11c1) (by decide +kernel) rfl rfl rfl (by decide +kernel)
set_option maxRecDepth 65536 in
theorem w_c23 : (Jvm.Cond.code ({ cls := "com/example/waban/waban/ItemHash$Points", name := "mix", desc := "(J)J" } : Jvm.MethodName) prog_12_method_4_code (4 : Nat) (Option.some Jvm.ClassFile.FieldType.long)).before args0 about1 = true := code_word (m := ⟨11, 2⟩) (meth := k11m2) (c := k11c2) (by decide +kernel) rfl rfl rfl (by decide +kernel)
set_option maxRecDepth 65536 in
theorem w_c24 : (Jvm.Cond.code ({ cls := "com/example/waban/waban/ItemHash", name := "cell", desc := "(JJ)J" } : Jvm.MethodName) prog_11_method_10_code (4 : Nat) (Option.some Jvm.ClassFile.FieldType.long)).before args0 about1 = true := code_word (m := ⟨10, 3⟩) (meth := k10m3) (c := k10c3) (by decide +kernel) rfl rfl rfl (by decide +kernel)
set_option maxRecDepth 65536 in
theorem w_c25 : (Jvm.Cond.code ({ cls := "java/lang/Math", name := "multiplyHigh", desc := "(JJ)J" } : Jvm.MethodName) jdk_29_method_45_code (20 : Nat) (Option.some Jvm.ClassFile.FieldType.long)).before args0 about1 = true := code_word (m := ⟨17, 1⟩) (meth := k17m1) (c := k17c1) (by decide +kernel) rfl rfl rfl (by decide +kernel)
set_option maxRecDepth 65536 in
theorem w_c26 : (Jvm.Cond.code ({ cls := "com/example/waban/waban/BloomFilter", name := "isSet", desc := "(J)Z" } : Jvm.MethodName) prog_2_method_20_code (3 : Nat) (Option.some Jvm.ClassFile.FieldType.boolean)).before args0 about1 = true := code_word (m := ⟨2, 2⟩) (meth := k2m2) (c := k2c2) (by decide +kernel) rfl rfl rfl (by decide +kernel)
set_option maxRecDepth 65536 in
theorem w_c27 : (Jvm.Cond.code ({ cls := "com/example/waban/waban/BloomFilter", name := "add", desc := "(J)V" } : Jvm.MethodName) prog_2_method_13_code (3 : Nat) (Option.none : Option Jvm.ClassFile.FieldType)).before args0 about1 = true := code_word (m := ⟨2, 1⟩) (meth := k2m1) (c := k2c1) (by decide +kernel) rfl rfl rfl (by decide +kernel)
set_option maxRecDepth 65536 in
theorem w_c28 : (Jvm.Cond.code ({ cls := "com/example/waban/waban/BloomFilter", name := "add", desc := "(Lcom/example/waban/waban/ItemHash$Points;)V" } : Jvm.MethodName) prog_2_method_21_code (5 : Nat) (Option.none : Option Jvm.ClassFile.FieldType)).before args0 about1 = true := code_word (m := ⟨2, 3⟩) (meth := k2m3) (c := k2c3) (by decide +kernel) rfl rfl rfl (by decide +kernel)
def codes1 : List Jvm.Cond := [Jvm.Cond.code x code maxLocals ret, Jvm.Cond.code ({ cls := "com/example/waban/waban/BloomFilter", name := "<init>", desc := "(JIJ)V" } : Jvm.MethodName) prog_2_method_1_code (7 : Nat) (Option.none : Option Jvm.ClassFile.FieldType), Jvm.Cond.code ({ cls := "java/lang/Object", name := "<init>", desc := "()V" } : Jvm.MethodName) object_method_1_code (1 : Nat) (Option.none : Option Jvm.ClassFile.FieldType), Jvm.Cond.code ({ cls := "com/example/waban/waban/ArgumentChecks", name := "sizeError", desc := "(Ljava/lang/String;JJLjava/lang/String;I)Ljava/lang/String;" } : Jvm.MethodName) prog_1_method_2_code (7 : Nat) (Option.some (Jvm.ClassFile.FieldType.object "java/lang/String")), Jvm.Cond.code ({ cls := "com/example/waban/waban/ArgumentChecks", name := "sizeError", desc := "(Ljava/lang/String;JJJLjava/lang/String;I)Ljava/lang/String;" } : Jvm.MethodName) prog_1_method_3_code (10 : Nat) (Option.some (Jvm.ClassFile.FieldType.object "java/lang/String")), Jvm.Cond.code ({ cls := "com/example/waban/waban/ArgumentChecks", name := "rangeError", desc := "(Ljava/lang/String;JJJ)Ljava/lang/String;" } : Jvm.MethodName) prog_1_method_4_code (8 : Nat) (Option.some (Jvm.ClassFile.FieldType.object "java/lang/String")), Jvm.Cond.code ({ cls := "com/example/waban/waban/ItemHash", name := "<init>", desc := "(J)V" } : Jvm.MethodName) prog_11_method_1_code (3 : Nat) (Option.none : Option Jvm.ClassFile.FieldType), Jvm.Cond.code ({ cls := "com/example/waban/waban/ItemHash", name := "points", desc := "(J)Lcom/example/waban/waban/ItemHash$Points;" } : Jvm.MethodName) prog_11_method_9_code (3 : Nat) (Option.some (Jvm.ClassFile.FieldType.object "com/example/waban/waban/ItemHash$Points")), Jvm.Cond.code ({ cls := "com/example/waban/waban/ItemHash", name := "hash", desc := "(J)Lcom/example/waban/waban/Hash128;" } : Jvm.MethodName) prog_11_method_5_code (4 : Nat) (Option.some (Jvm.ClassFile.FieldType.object "com/example/waban/waban/Hash128")), Jvm.Cond.code ({ cls := "com/example/waban/waban/ItemHash$SipState", name := "<init>", desc := "(JJ)V" } : Jvm.MethodName) prog_13_method_1_code (5 : Nat) (Option.none : Option Jvm.ClassFile.FieldType), Jvm.Cond.code ({ cls := "com/example/waban/waban/ItemHash$SipState", name := "absorb", desc := "(J)V" } : Jvm.MethodName) prog_13_method_2_code (3 : Nat) (Option.none : Option Jvm.ClassFile.FieldType), Jvm.Cond.code ({ cls := "com/example/waban/waban/ItemHash$SipState", name := "rounds", desc := "(I)V" } : Jvm.MethodName) prog_13_method_7_code (3 : Nat) (Option.none : Option Jvm.ClassFile.FieldType), Jvm.Cond.code ({ cls := "java/lang/Long", name := "rotateLeft", desc := "(JI)J" } : Jvm.MethodName) jdk_35_method_51_code (3 : Nat) (Option.some Jvm.ClassFile.FieldType.long), Jvm.Cond.code ({ cls := "com/example/waban/waban/ItemHash", name := "lastWord", desc := "(IJ)J" } : Jvm.MethodName) prog_11_method_14_code (3 : Nat) (Option.some Jvm.ClassFile.FieldType.long), Jvm.Cond.code ({ cls := "com/example/waban/waban/ItemHash$SipState", name := "finish", desc := "()Lcom/example/waban/waban/Hash128;" } : Jvm.MethodName) prog_13_method_4_code (1 : Nat) (Option.some (Jvm.ClassFile.FieldType.object "com/example/waban/waban/Hash128")), Jvm.Cond.code ({ cls := "com/example/waban/waban/ItemHash$SipState", name := "finishLow", desc := "()J" } : Jvm.MethodName) prog_13_method_5_code (1 : Nat) (Option.some Jvm.ClassFile.FieldType.long), Jvm.Cond.code ({ cls := "com/example/waban/waban/ItemHash$SipState", name := "finishHigh", desc := "()J" } : Jvm.MethodName) prog_13_method_6_code (1 : Nat) (Option.some Jvm.ClassFile.FieldType.long), Jvm.Cond.code ({ cls := "com/example/waban/waban/Hash128", name := "<init>", desc := "(JJ)V" } : Jvm.MethodName) prog_10_method_1_code (5 : Nat) (Option.none : Option Jvm.ClassFile.FieldType), Jvm.Cond.code ({ cls := "java/lang/Record", name := "<init>", desc := "()V" } : Jvm.MethodName) jdk_30_method_1_code (1 : Nat) (Option.none : Option Jvm.ClassFile.FieldType), Jvm.Cond.code ({ cls := "com/example/waban/waban/ItemHash$Points", name := "<init>", desc := "(Lcom/example/waban/waban/Hash128;)V" } : Jvm.MethodName) prog_12_method_1_code (2 : Nat) (Option.none : Option Jvm.ClassFile.FieldType), Jvm.Cond.code ({ cls := "com/example/waban/waban/Hash128", name := "low", desc := "()J" } : Jvm.MethodName) prog_10_method_5_code (1 : Nat) (Option.some Jvm.ClassFile.FieldType.long), Jvm.Cond.code ({ cls := "com/example/waban/waban/Hash128", name := "high", desc := "()J" } : Jvm.MethodName) prog_10_method_6_code (1 : Nat) (Option.some Jvm.ClassFile.FieldType.long), Jvm.Cond.code ({ cls := "com/example/waban/waban/ItemHash$Points", name := "next", desc := "()J" } : Jvm.MethodName) prog_12_method_2_code (3 : Nat) (Option.some Jvm.ClassFile.FieldType.long), Jvm.Cond.code ({ cls := "com/example/waban/waban/ItemHash$Points", name := "mix", desc := "(J)J" } : Jvm.MethodName) prog_12_method_4_code (4 : Nat) (Option.some Jvm.ClassFile.FieldType.long), Jvm.Cond.code ({ cls := "com/example/waban/waban/ItemHash", name := "cell", desc := "(JJ)J" } : Jvm.MethodName) prog_11_method_10_code (4 : Nat) (Option.some Jvm.ClassFile.FieldType.long), Jvm.Cond.code ({ cls := "java/lang/Math", name := "multiplyHigh", desc := "(JJ)J" } : Jvm.MethodName) jdk_29_method_45_code (20 : Nat) (Option.some Jvm.ClassFile.FieldType.long), Jvm.Cond.code ({ cls := "com/example/waban/waban/BloomFilter", name := "isSet", desc := "(J)Z" } : Jvm.MethodName) prog_2_method_20_code (3 : Nat) (Option.some Jvm.ClassFile.FieldType.boolean), Jvm.Cond.code ({ cls := "com/example/waban/waban/BloomFilter", name := "add", desc := "(J)V" } : Jvm.MethodName) prog_2_method_13_code (3 : Nat) (Option.none : Option Jvm.ClassFile.FieldType), Jvm.Cond.code ({ cls := "com/example/waban/waban/BloomFilter", name := "add", desc := "(Lcom/example/waban/waban/ItemHash$Points;)V" } : Jvm.MethodName) prog_2_method_21_code (5 : Nat) (Option.none : Option Jvm.ClassFile.FieldType)]
set_option maxRecDepth 65536 in
theorem codes_eq : words1.filter isCode = codes1 := rfl
theorem w_codes : ∀ c ∈ words1.filter isCode, c.before args0 about1 = true := by
  rw [codes_eq]
  intro c hc
  simp only [codes1, List.mem_cons, List.not_mem_nil, or_false] at hc
  rcases hc with rfl | rfl | rfl | rfl | rfl | rfl | rfl | rfl | rfl | rfl | rfl | rfl | rfl | rfl | rfl | rfl | rfl | rfl | rfl | rfl | rfl | rfl | rfl | rfl | rfl | rfl | rfl | rfl | rfl
  · exact w_c0
  · exact w_c1
  · exact w_c2
  · exact w_c3
  · exact w_c4
  · exact w_c5
  · exact w_c6
  · exact w_c7
  · exact w_c8
  · exact w_c9
  · exact w_c10
  · exact w_c11
  · exact w_c12
  · exact w_c13
  · exact w_c14
  · exact w_c15
  · exact w_c16
  · exact w_c17
  · exact w_c18
  · exact w_c19
  · exact w_c20
  · exact w_c21
  · exact w_c22
  · exact w_c23
  · exact w_c24
  · exact w_c25
  · exact w_c26
  · exact w_c27
  · exact w_c28
set_option maxRecDepth 65536 in
theorem w_t1 : (words1.take 24).all (fun c => isCode c || c.before args0 about1) = true := by decide +kernel
set_option maxRecDepth 65536 in
theorem w_t2 : ((words1.drop 24).take 24).all (fun c => isCode c || c.before args0 about1) = true := by decide +kernel
set_option maxRecDepth 65536 in
theorem w_t3 : (((words1.drop 24).drop 24).take 24).all (fun c => isCode c || c.before args0 about1) = true := by decide +kernel
set_option maxRecDepth 65536 in
theorem w_t4 : ((((words1.drop 24).drop 24).drop 24).take 24).all (fun c => isCode c || c.before args0 about1) = true := by decide +kernel
set_option maxRecDepth 65536 in
theorem w_t5 : (((((words1.drop 24).drop 24).drop 24).drop 24).take 24).all (fun c => isCode c || c.before args0 about1) = true := by decide +kernel
set_option maxRecDepth 65536 in
theorem w_t6 : ((((((words1.drop 24).drop 24).drop 24).drop 24).drop 24).take 24).all (fun c => isCode c || c.before args0 about1) = true := by decide +kernel
set_option maxRecDepth 65536 in
theorem w_t7 : (((((((words1.drop 24).drop 24).drop 24).drop 24).drop 24).drop 24).take 24).all (fun c => isCode c || c.before args0 about1) = true := by decide +kernel
set_option maxRecDepth 65536 in
theorem w_t8 : (((((((words1.drop 24).drop 24).drop 24).drop 24).drop 24).drop 24).drop 24).all (fun c => isCode c || c.before args0 about1) = true := by decide +kernel
theorem w_tables : (allAtoms (Jvm.Cond.code x code maxLocals ret :: tables_1)).before args0 about1 = true := by
  rw [allAtoms_all]
  show words1.all (fun c => c.before args0 about1) = true
  refine all_split ?_ w_codes
  rw [← List.take_append_drop 24 words1, List.all_append, w_t1, ← List.take_append_drop 24 (words1.drop 24), List.all_append, w_t2, ← List.take_append_drop 24 ((words1.drop 24).drop 24), List.all_append, w_t3, ← List.take_append_drop 24 (((words1.drop 24).drop 24).drop 24), List.all_append, w_t4, ← List.take_append_drop 24 ((((words1.drop 24).drop 24).drop 24).drop 24), List.all_append, w_t5, ← List.take_append_drop 24 (((((words1.drop 24).drop 24).drop 24).drop 24).drop 24), List.all_append, w_t6, ← List.take_append_drop 24 ((((((words1.drop 24).drop 24).drop 24).drop 24).drop 24).drop 24), List.all_append, w_t7, w_t8]
  rfl
set_option maxRecDepth 65536 in
theorem w_case : (Jvm.Cond.and given_1 narrow_1).before args0 about1 = true := by decide +kernel
theorem w_applies : (headSpec (Jvm.Cond.code x code maxLocals ret :: tables_1) room_1).applies x e0.platform about1 = true :=
  (Spec.applies_iff w_frames).mpr ⟨w_running, w_runnable, w_alone, w_named, w_hears, w_ripe, w_room, w_tables⟩
theorem atStart : AtStart classFile x code maxLocals ret World_1 tables_1 room_1 Calls_1 rest_1 Pre_1 launch0 p0 e0 about1 theMethod args0 below0 :=
  ⟨lists_1, trivial, launch0.admits_env _ _ _, launch0.least_env, fairChoices_fair.cas, fairChoices_fair.clock, w_frames, w_args, w_heap, w_applies, trivial, trivial, w_case⟩
end start1
theorem witness_1 : WitnessClaimed_1 := ⟨start1.p0, start1.e0, start1.about1, start1.theMethod, start1.args0, start1.below0, start1.atStart⟩
end Jvm.Pilot.@@N@@
