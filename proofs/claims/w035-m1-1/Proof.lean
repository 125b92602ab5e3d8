import JvmDerived
import JvmDerived.Pilot.@@N@@Statement
import JvmDerived.Pilot.@@N@@Code
set_option linter.unusedVariables false
set_option linter.unusedSimpArgs false
namespace Jvm.RoadKit
open Sem ClassFile Op Lib Jvm.Stand Jvm.Free Jvm.LawKit
section Own
variable {p : Program} {l : Launch} {e : Env} {R : Room} {s : State} {m : MethodId} {args : Array Value} {below : List Frame} {meth : Method} {c : Code} {T : State} {locs : List Loc} {cells slots : Nat}
/-- from U the run comes to a state of which G holds -/
def Gets (p : Program) (e : Env) (below : List Frame) (G : State → Prop) (U : State) : Prop := ∃ t, Steps p.tables e below U t ∧ G t
theorem Gets.of {G : State → Prop} {U U' : State} (k : ∀ t, Steps p.tables e below U' t → Steps p.tables e below U t) (h : Gets p e below G U') : Gets p e below G U := by
  obtain ⟨t, a, b⟩ := h; exact ⟨t, k t a, b⟩
theorem Gets.tr {G : State → Prop} {U U' : State} (k : Steps p.tables e below U U') (h : Gets p e below G U') : Gets p e below G U := by
  obtain ⟨t, a, b⟩ := h; exact ⟨t, k.trans a, b⟩
/-- what is owed at the end of a body -/
def Out (Q : Option Value → Heap → List Loc → Prop) (s : State) (below : List Frame) (C S : Nat) (t : State) : Prop := ∃ o, t.status = .running ∧ Ended t below o ∧ ∃ v L, o = .returned v ∧ Q v t.heap L ∧ FrameEnd s o t L C S
theorem Gets.out {Q : Option Value → Heap → List Loc → Prop} {C S : Nat} {U : State} (h : Gets p e below (Out Q s below C S) U) : ∃ s₂ o, Steps p.tables e below U s₂ ∧ s₂.status = .running ∧ Ended s₂ below o ∧ ∃ v L, o = .returned v ∧ Q v s₂.heap L ∧ FrameEnd s o s₂ L C S := by
  obtain ⟨t, a, o, b⟩ := h; exact ⟨t, o, a, b⟩
theorem Gets.fin {Q : Option Value → Heap → List Loc → Prop} {C S : Nat} {U : State} (X : Stand p l e R s m args below meth c T locs cells slots) {v : Option Value} (hv : meth.sig.returnType = none → v = none) (hlk : meth.locks = false)
    (k : ∀ fs, (∀ (f : JFrame) (acts : List Action), f.method = m → f.locked = none → f.entered = [] → (doReturn e (T.setTop f) acts v).1 = T.setFrames fs) → Steps p.tables e below U (T.setFrames fs)) (hQ : Q v T.heap locs) (h1 : cells ≤ C) (h2 : slots ≤ S) : Gets p e below (Out Q s below C S) U := by
  obtain ⟨fs, hr, hrun, hended, hW, hsame⟩ := X.leave (v := v) hv hlk
  exact ⟨_, k fs hr, _, hrun, hended, _, _, rfl, hQ, ⟨_, rfl⟩, hW, hsame.mono h1 h2⟩
theorem retI0 (X : Stand p l e R s m args below meth c T locs cells slots) (hx : p.tables.exec = Jvm.exec) {pc : Nat} {Ls : Array Slot} {z : Int32} {rest : List Value} (hret : meth.sig.returnType = some .int) (hd : decode c.code pc = .ok (.ireturn, 1)) {fs : List Frame}
    (hl : ∀ (f : JFrame) (acts : List Action), f.method = m → f.locked = none → f.entered = [] → (doReturn e (T.setTop f) acts (some (.int z))).1 = T.setFrames fs) : Steps p.tables e below (T.setTop (mkF m pc Ls (.int z :: rest))) (T.setFrames fs) :=
  retOut X hx hret rfl (Or.inl ⟨rfl, Or.inl rfl, z, rfl⟩) hd hl
theorem Gets.retI {Q : Option Value → Heap → List Loc → Prop} {C S : Nat} (X : Stand p l e R s m args below meth c T locs cells slots) (hx : p.tables.exec = Jvm.exec) {pc : Nat} {Ls : Array Slot} {z : Int32} {rest : List Value} (hret : meth.sig.returnType = some .int) (hd : decode c.code pc = .ok (.ireturn, 1))
    (hQ : Q (some (.int z)) T.heap locs) (h1 : cells ≤ C) (h2 : slots ≤ S) (hlk : meth.locks = false := by assumption) : Gets p e below (Out Q s below C S) (T.setTop (mkF m pc Ls (.int z :: rest))) :=
  Gets.fin X (fun h => by rw [hret] at h; cases h) hlk (fun fs hr => retI0 X hx hret hd hr) hQ h1 h2
theorem Gets.retN {Q : Option Value → Heap → List Loc → Prop} {C S : Nat} (X : Stand p l e R s m args below meth c T locs cells slots) (hx : p.tables.exec = Jvm.exec) {pc : Nat} {Ls : Array Slot} {z : Int32} {t : FieldType} {rest : List Value} (hret : meth.sig.returnType = some t) (ht : t = .boolean ∨ t = .byte ∨ t = .char ∨ t = .short) (hd : decode c.code pc = .ok (.ireturn, 1))
    (hQ : Q (some (.int (nar t z))) T.heap locs) (h1 : cells ≤ C) (h2 : slots ≤ S) (hlk : meth.locks = false := by assumption) : Gets p e below (Out Q s below C S) (T.setTop (mkF m pc Ls (.int z :: rest))) :=
  Gets.fin X (fun h => by rw [hret] at h; cases h) hlk (fun fs hr => Jvm.RoadKit.retN X hx hret ht hd hr) hQ h1 h2
theorem Gets.retJ {Q : Option Value → Heap → List Loc → Prop} {C S : Nat} (X : Stand p l e R s m args below meth c T locs cells slots) (hx : p.tables.exec = Jvm.exec) {pc : Nat} {Ls : Array Slot} {z : Int64} {rest : List Value} (hret : meth.sig.returnType = some .long) (hd : decode c.code pc = .ok (.lreturn, 1))
    (hQ : Q (some (.long z)) T.heap locs) (h1 : cells ≤ C) (h2 : slots ≤ S) (hlk : meth.locks = false := by assumption) : Gets p e below (Out Q s below C S) (T.setTop (mkF m pc Ls (.long z :: rest))) :=
  Gets.fin X (fun h => by rw [hret] at h; cases h) hlk (fun fs hr => retOut X hx hret rfl (Or.inr (Or.inl ⟨rfl, rfl, z, rfl⟩)) hd hr) hQ h1 h2
theorem Gets.retA {Q : Option Value → Heap → List Loc → Prop} {C S : Nat} (X : Stand p l e R s m args below meth c T locs cells slots) (hx : p.tables.exec = Jvm.exec) {pc : Nat} {Ls : Array Slot} {w : Value} {t : FieldType} {rest : List Value} (hret : meth.sig.returnType = some t) (ht : t.isReference = true) (hw : w.isRef = true) (hd : decode c.code pc = .ok (.areturn, 1))
    (hQ : Q (some w) T.heap locs) (h1 : cells ≤ C) (h2 : slots ≤ S) (hlk : meth.locks = false := by assumption) : Gets p e below (Out Q s below C S) (T.setTop (mkF m pc Ls (w :: rest))) :=
  Gets.fin X (fun h => by rw [hret] at h; cases h) hlk (fun fs hr => retOut X hx hret (by cases t <;> first | (cases ht; done) | (cases w <;> first | rfl | (cases hw))) (Or.inr (Or.inr (Or.inr (Or.inr ⟨rfl, ht, hw⟩)))) hd hr) hQ h1 h2
theorem Gets.retV {Q : Option Value → Heap → List Loc → Prop} {C S : Nat} (X : Stand p l e R s m args below meth c T locs cells slots) (hx : p.tables.exec = Jvm.exec) {pc : Nat} {Ls : Array Slot} (hret : meth.sig.returnType = none) (hd : decode c.code pc = .ok (.return_, 1))
    (hQ : Q none T.heap locs) (h1 : cells ≤ C) (h2 : slots ≤ S) (hlk : meth.locks = false := by assumption) : Gets p e below (Out Q s below C S) (T.setTop (mkF m pc Ls [])) :=
  Gets.fin X (fun _ => rfl) hlk (fun fs hr => X.returnOut hx hret hd hr) hQ h1 h2
/-- what is owed at the end of a body that may load String constants -/
def OutW (Q : Option Value → Heap → List Loc → Prop) (s : State) (below : List Frame) (C S : Nat) (t : State) : Prop := ∃ o, t.status = .running ∧ Ended t below o ∧ ∃ v L, o = .returned v ∧ Q v t.heap L ∧ ReturnedEndW s o t L C S
theorem GetsW.out {Q : Option Value → Heap → List Loc → Prop} {C S : Nat} {U : State} (h : Gets p e below (OutW Q s below C S) U) : ∃ s₂ o, Steps p.tables e below U s₂ ∧ s₂.status = .running ∧ Ended s₂ below o ∧ ∃ v L, o = .returned v ∧ Q v s₂.heap L ∧ ReturnedEndW s o s₂ L C S := by
  obtain ⟨t, a, o, b⟩ := h; exact ⟨t, o, a, b⟩
theorem GetsW.fin {Q : Option Value → Heap → List Loc → Prop} {C S : Nat} {U : State} {vm₁ : Vm} (X : Stand p l e R (s.setVm vm₁) m args below meth c T locs cells slots) {n : Nat} (hS : s.Since vm₁ n) (hn : n ≤ T.heap.size) {v : Option Value} (hv : meth.sig.returnType = none → v = none) (hlk : meth.locks = false)
    (k : ∀ fs, (∀ (f : JFrame) (acts : List Action), f.method = m → f.locked = none → f.entered = [] → (doReturn e (T.setTop f) acts v).1 = T.setFrames fs) → Steps p.tables e below U (T.setFrames fs)) (hQ : Q v T.heap locs) (h1 : cells ≤ C) (h2 : slots ≤ S) : Gets p e below (OutW Q s below C S) U := by
  obtain ⟨fs, hr, hrun, hended, w1, w2, w3, w4⟩ := X.leaveW hS hn (v := v) hv hlk
  exact ⟨_, k fs hr, _, hrun, hended, _, _, rfl, hQ, w1, w2, w3, w4.mono h1 h2⟩
theorem GetsW.retN {Q : Option Value → Heap → List Loc → Prop} {C S : Nat} {vm₁ : Vm} (X : Stand p l e R (s.setVm vm₁) m args below meth c T locs cells slots) (hx : p.tables.exec = Jvm.exec) {pc : Nat} {Ls : Array Slot} {z : Int32} {t : FieldType} {rest : List Value} (hret : meth.sig.returnType = some t) (ht : t = .boolean ∨ t = .byte ∨ t = .char ∨ t = .short) (hd : decode c.code pc = .ok (.ireturn, 1)) {n : Nat} (hS : s.Since vm₁ n) (hn : n ≤ T.heap.size)
    (hQ : Q (some (.int (nar t z))) T.heap locs) (h1 : cells ≤ C) (h2 : slots ≤ S) (hlk : meth.locks = false := by assumption) : Gets p e below (OutW Q s below C S) (T.setTop (mkF m pc Ls (.int z :: rest))) :=
  GetsW.fin X hS hn (fun h => by rw [hret] at h; cases h) hlk (fun fs hr => Jvm.RoadKit.retN X hx hret ht hd hr) hQ h1 h2
theorem GetsW.retI {Q : Option Value → Heap → List Loc → Prop} {C S : Nat} {vm₁ : Vm} (X : Stand p l e R (s.setVm vm₁) m args below meth c T locs cells slots) (hx : p.tables.exec = Jvm.exec) {pc : Nat} {Ls : Array Slot} {z : Int32} {rest : List Value} (hret : meth.sig.returnType = some .int) (hd : decode c.code pc = .ok (.ireturn, 1)) {n : Nat} (hS : s.Since vm₁ n) (hn : n ≤ T.heap.size)
    (hQ : Q (some (.int z)) T.heap locs) (h1 : cells ≤ C) (h2 : slots ≤ S) (hlk : meth.locks = false := by assumption) : Gets p e below (OutW Q s below C S) (T.setTop (mkF m pc Ls (.int z :: rest))) :=
  GetsW.fin X hS hn (fun h => by rw [hret] at h; cases h) hlk (fun fs hr => retI0 X hx hret hd hr) hQ h1 h2
theorem GetsW.retA {Q : Option Value → Heap → List Loc → Prop} {C S : Nat} {vm₁ : Vm} (X : Stand p l e R (s.setVm vm₁) m args below meth c T locs cells slots) (hx : p.tables.exec = Jvm.exec) {pc : Nat} {Ls : Array Slot} {w : Value} {t : FieldType} {rest : List Value} (hret : meth.sig.returnType = some t) (ht : t.isReference = true) (hw : w.isRef = true) (hd : decode c.code pc = .ok (.areturn, 1)) {n : Nat} (hS : s.Since vm₁ n) (hn : n ≤ T.heap.size)
    (hQ : Q (some w) T.heap locs) (h1 : cells ≤ C) (h2 : slots ≤ S) (hlk : meth.locks = false := by assumption) : Gets p e below (OutW Q s below C S) (T.setTop (mkF m pc Ls (w :: rest))) :=
  GetsW.fin X hS hn (fun h => by rw [hret] at h; cases h) hlk (fun fs hr => retOut X hx hret (by cases t <;> first | (cases ht; done) | (cases w <;> first | rfl | (cases hw))) (Or.inr (Or.inr (Or.inr (Or.inr ⟨rfl, ht, hw⟩)))) hd hr) hQ h1 h2
theorem GetsW.retV {Q : Option Value → Heap → List Loc → Prop} {C S : Nat} {vm₁ : Vm} (X : Stand p l e R (s.setVm vm₁) m args below meth c T locs cells slots) (hx : p.tables.exec = Jvm.exec) {pc : Nat} {Ls : Array Slot} (hret : meth.sig.returnType = none) (hd : decode c.code pc = .ok (.return_, 1)) {n : Nat} (hS : s.Since vm₁ n) (hn : n ≤ T.heap.size)
    (hQ : Q none T.heap locs) (h1 : cells ≤ C) (h2 : slots ≤ S) (hlk : meth.locks = false := by assumption) : Gets p e below (OutW Q s below C S) (T.setTop (mkF m pc Ls [])) :=
  GetsW.fin X hS hn (fun _ => rfl) hlk (fun fs hr => X.returnOut hx hret hd hr) hQ h1 h2
/-- the payer of a callee that may load String constants, the constants' invariant handed over at its start -/
theorem own_backC {Z : State} {a0 : Array Value} {EL : List (String × Nat)} {h : Heap} {vm0 : Vm} {y : MethodName} {bytes : ByteArray} {maxL : Nat} {ret : Option FieldType} {rm : Room} {len W : Nat} {as' : Array Value} {Q : Option Value → Heap → List Loc → Prop}
    (hM : MetFree l y (head1 [Cond.code y bytes maxL ret] rm) (fun a U => a = as' ∧ Z.Warmed39 U.vm ∧ U.heap = h ∧ CHv Z EL U.vm h) (fun _ _ _ _ _ => True) (fun _ U o U' => ∃ v L, o = .returned v ∧ Q v U'.heap L ∧ ReturnedEndW U o U' L rm.cells rm.slots))
    (hZ : Z.Warmed39 vm0) (wc : (Cond.code y bytes maxL ret).before a0 Z = true) (wz : (Cond.initialized y.cls).before a0 Z = true) (hf : rm.frames + 1 ≤ R.frames) (hl : W + (maxL + 11) + rm.locals ≤ R.locals) (hEL : EW Z a0 EL) (H : CHv Z EL vm0 h) :
    BackS l R p e below (s.setVm vm0) args y len W (fun A a => a = as' ∧ A.U.heap = h ∧ A.cells + rm.cells ≤ R.cells ∧ A.slots + rm.slots ≤ R.slots)
      (fun A _ v B => ∃ L, Q v B.U.heap L ∧ B.locs = A.locs ++ L ∧ B.cells = A.cells + rm.cells ∧ B.slots = A.slots + rm.slots) := by
  refine BackS.of_freeW (bytes := bytes) (maxL := maxL) (ret := ret) (E := fun _ _ o t L k n => k = rm.cells ∧ n = rm.slots ∧ ∃ v, o = .returned v ∧ Q v t.heap L) hM hf hl ?_ ?_ (fun _ _ _ _ _ _ _ _ _ => trivial) ?_ ?_
  · intro m meth c A a Y hp
    have hU : Z.Warmed39 A.U.vm := wtrans (s := s.setVm vm0) hZ Y.warmed
    exact ⟨by show (Cond.and _ .tt).before a A.U = true; rw [Cond.before_and, mv hU wc]; rfl, mv hU wc, mv hU wz, hp.2.2.1, hp.2.2.2⟩
  · intro m meth c A a g mk Y hp
    exact ⟨hp.1, wtrans (s := s.setVm vm0) hZ Y.warmed, hp.2.1, (CHv.at Y hZ hEL H).1⟩
  · rintro _ _ _ _ ⟨v, L, h1, h2, h3⟩
    exact ⟨L, _, _, h3, rfl, rfl, v, h1, h2⟩
  · rintro m meth c A a g mk v t L k n Y hp _ _ ⟨e1, e2, v', e3, e4⟩
    cases e3; subst e1 e2
    exact ⟨L, e4, rfl, rfl, rfl⟩
theorem own_mir {Z : State} {C : String} {mr : Addr} (hZ : Z.Warmed39 s.vm) (M : Mir Z C mr) : (Term.mirror C).eval args s none [] s = some (.ref mr) := by
  obtain ⟨c, k, h1, h2, h3, -⟩ := M
  obtain ⟨k', q, ek⟩ := hZ.alike.2.2 _ _ h2
  have h4 : s.vm.findClass C = some c := by rw [hZ.alike.findClass]; exact h1
  have h5 : k'.mirror = some mr := by rw [ek]; exact h3
  simp [Term.eval, h4, q, h5]
theorem own_narrow_ref {ty : FieldType} {w : Value} (hw : w.isRef = true) : narrow ty w = w := by
  rcases ref_cases hw with rfl | ⟨a, rfl⟩ <;> cases ty <;> rfl
theorem own_fits_obj {C : String} {w : Value} (hw : w.isRef = true) : fits (.object C) w = true := by
  rcases ref_cases hw with rfl | ⟨a, rfl⟩ <;> rfl
theorem own_fits_arr {t : FieldType} {w : Value} (hw : w.isRef = true) : fits (.array t) w = true := by
  rcases ref_cases hw with rfl | ⟨a, rfl⟩ <;> rfl
theorem own_NS_root {Z : State} {a0 : Array Value} {O K : String} {n : Nat} (w : (Cond.noSuperclass O).before a0 Z = true) (wk : (Cond.instantiable K n).before a0 Z = true) (hn : O ≠ K) : NS Z O K := by
  obtain ⟨c, k, h1, h2, h3, -, -⟩ := Cond.noSuperclass_spec w
  obtain ⟨t, kt, g1, -⟩ := Cond.instantiable_spec wk
  have ne := ids_ne h1 g1 hn
  refine ⟨c, t, h1, g1, fun fuel => ?_⟩
  cases fuel with
  | zero => rfl
  | succ f => simp [Vm.isSubclassAux, ne, h2, h3]
theorem own_NS_no {Z : State} {a0 : Array Value} {C S K : String} {n : Nat} (w : (Cond.superclass C S).before a0 Z = true) (wk : (Cond.instantiable K n).before a0 Z = true) (nn : NS Z C K) (hn : C ≠ K) : ∃ c t, Z.vm.findClass C = some c ∧ Z.vm.findClass K = some t ∧ Z.vm.assignable c t = false := by
  obtain ⟨c, t, h0, g0, n3⟩ := nn
  obtain ⟨p, k, kp, h1, h2, h3, h4, h5, -, h7⟩ := Cond.superclass_spec h0 w
  obtain ⟨t', kt, g1, g2, g3, g4, -⟩ := Cond.instantiable_spec wk
  cases g0.symm.trans g1
  have ne := ids_ne h0 g0 hn
  have g5 : kt.isInterface = false := by cases hq : kt.isInterface <;> simp_all
  refine ⟨c, t, h0, g0, ?_⟩
  show Z.vm.assignableAux (255 + 1) c t = false
  simp [Vm.assignableAux, ne, h2, g2, h5, g3, g5, Vm.isSubclass, n3]
end Own
end Jvm.RoadKit
namespace Jvm.Pilot.@@N@@
open Jvm Jvm.ClassFile Sem Op Lib Jvm.Free Jvm.Stand Jvm.LawKit Jvm.RoadKit Bundle Jvm.Pilot.@@N@@.Jvm.D
abbrev cn0 : String := "com/example/unea/unea/model/MarkovChain"

section Fp35
open Jvm.FP.Core
theorem own_nn_of {a : UInt64} (h : val64 a ≠ .nan) : Jvm.Free.Fl.NoNaN64 a := by
  unfold Jvm.Free.Fl.NoNaN64
  rw [UInt64.le_iff_toNat_le, mask_toNat]
  exact (ne_nan a).mp h
theorem own_n0 : val64 (0 : UInt64) ≠ .nan := by decide +kernel
theorem own_dneg {w : UInt64} (hn : val64 w ≠ .nan) (h : 2 ^ 63 ≤ w.toNat) (hz : w.toNat % 2 ^ 63 ≠ 0) : dcmp w 0 = some .lt := by
  rw [dcmp_lt_key hn own_n0]
  have k0 : dkey 0 = 0 := by decide +kernel
  rw [k0]; unfold dkey; rw [if_pos h]; have := w.toNat_lt; omega
theorem own_dpos {w : UInt64} (hn : val64 w ≠ .nan) (h : w.toNat < 2 ^ 63) : dcmp w 0 = some .gt ∨ dcmp w 0 = some .eq := by
  rw [dcmp_gt_key hn own_n0, dcmp_eq_key hn own_n0]
  have k0 : dkey 0 = 0 := by decide +kernel
  rw [k0]; unfold dkey; rw [if_neg (by omega)]; omega
theorem own_lo_lt {w : UInt64} (h : dcmp w 0 = some .lt) : (Jvm.Op.cmpValue (Jvm.FP.dcmp w Jvm.FP.dconst0) .l) < (0 : Int32) := by
  have h' : Jvm.FP.dcmp w Jvm.FP.dconst0 = some .lt := h
  rw [h']; decide
theorem own_lo_ge {w : UInt64} (h : dcmp w 0 = some .gt ∨ dcmp w 0 = some .eq) : ¬ ((Jvm.Op.cmpValue (Jvm.FP.dcmp w Jvm.FP.dconst0) .l) < (0 : Int32)) := by
  rcases h with h | h
  · have h' : Jvm.FP.dcmp w Jvm.FP.dconst0 = some .gt := h
    rw [h']; decide
  · have h' : Jvm.FP.dcmp w Jvm.FP.dconst0 = some .eq := h
    rw [h']; decide
theorem own_hi_fin {w : UInt64} (h : DFin w) : (Jvm.Op.cmpValue (Jvm.FP.dcmp w (9218868437227405312 : UInt64)) .g) < (0 : Int32) := by
  have h' : Jvm.FP.dcmp w 9218868437227405312 = some .lt := (fin_lt_inf h).1
  rw [h']; decide
theorem own_q_neg {q : Int64} (h : q < (0 : Int64)) : q.toInt < 0 := by
  have := Int64.lt_iff_toInt_lt.mp h; simpa using this
theorem own_q_pos {q : Int64} (h : ¬ (q < (0 : Int64))) : ¬ q.toInt < 0 := fun a => h (Int64.lt_iff_toInt_lt.mpr (by simpa using a))
theorem own_q_ne {q : Int64} (h : q < (0 : Int64)) : q ≠ 0 := by
  intro h0; subst h0; exact absurd h (by decide)
theorem own_sgn_l2d (q : Int64) : sgn (val64 (l2d q)) = decide (q.toInt < 0) := by
  obtain ⟨c, r, h⟩ := l2d_shape q; rw [h]; rfl
theorem own_sign_neg {w : UInt64} (hn : val64 w ≠ .nan) (h : sgn (val64 w) = true) : 2 ^ 63 ≤ w.toNat := by
  rw [sgn_bits hn] at h; exact of_decide_eq_true h
theorem own_sign_pos {w : UInt64} (hn : val64 w ≠ .nan) (h : sgn (val64 w) = false) : w.toNat < 2 ^ 63 := by
  rw [sgn_bits hn] at h; have := of_decide_eq_false h; omega
theorem own_lo0_neg {q : Int64} (h : q < (0 : Int64)) : (Jvm.Op.cmpValue (Jvm.FP.dcmp (Jvm.FP.l2d q) Jvm.FP.dconst0) .l) < (0 : Int32) := by
  have hn := (l2d_fin q).ne_nan
  exact own_lo_lt (own_dneg hn (own_sign_neg hn (by rw [own_sgn_l2d]; exact decide_eq_true (own_q_neg h))) (l2d_ne_zero (own_q_ne h)))
theorem own_lo0_pos {q : Int64} (h : ¬ (q < (0 : Int64))) : ¬ ((Jvm.Op.cmpValue (Jvm.FP.dcmp (Jvm.FP.l2d q) Jvm.FP.dconst0) .l) < (0 : Int32)) := by
  have hn := (l2d_fin q).ne_nan
  exact own_lo_ge (own_dpos hn (own_sign_pos hn (by rw [own_sgn_l2d]; exact decide_eq_false (own_q_pos h))))
theorem own_hi0 (q : Int64) : (Jvm.Op.cmpValue (Jvm.FP.dcmp (Jvm.FP.l2d q) (9218868437227405312 : UInt64)) .g) < (0 : Int32) := own_hi_fin (l2d_fin q)
/- the constants -/
theorem own_vC1 : ∃ d r, val64 (9094988921128908188 : UInt64) = .fin false d r ∧ d ≠ 0 := ⟨6724873095247260, 944, by decide +kernel⟩
theorem own_vC2 : val64 (4652218415073722368 : UInt64) = .fin false (2 ^ 52) (-42) := by decide +kernel
theorem own_vINF : val64 (9218868437227405312 : UInt64) = .inf false := by decide +kernel
/- zero times q -/
theorem own_z2 (q : Int64) : DZero (Jvm.FP.dmul Jvm.FP.dconst0 (Jvm.FP.l2d q)) := dzero_mul (l2d_fin q) ⟨false, b64.qmin, val64_zero⟩
theorem own_lo2 (q : Int64) : ¬ ((Jvm.Op.cmpValue (Jvm.FP.dcmp (Jvm.FP.dmul Jvm.FP.dconst0 (Jvm.FP.l2d q)) Jvm.FP.dconst0) .l) < (0 : Int32)) := own_lo_ge (.inr (zero_iff.mpr (own_z2 q)))
theorem own_hi2 (q : Int64) : (Jvm.Op.cmpValue (Jvm.FP.dcmp (Jvm.FP.dmul Jvm.FP.dconst0 (Jvm.FP.l2d q)) (9218868437227405312 : UInt64)) .g) < (0 : Int32) := own_hi_fin (own_z2 q).fin
theorem own_nn3 (q : Int64) : Jvm.Free.Fl.NoNaN64 (Jvm.FP.dmul Jvm.FP.dconst0 (Jvm.FP.l2d q)) := own_nn_of (own_z2 q).fin.ne_nan
/- q by 1024 -/
theorem own_f3 (q : Int64) : DFin (Jvm.FP.ddiv (Jvm.FP.l2d q) (4652218415073722368 : UInt64)) := by
  have := ddiv_mag (a := l2d q) (b := 4652218415073722368) (K := 1088) (L := 1033) (l2d_mag q) (by decide) (by decide) (by decide) (by decide)
  exact fin_of_lt (K := 1079) this (by decide)
theorem own_hi3 (q : Int64) : (Jvm.Op.cmpValue (Jvm.FP.dcmp (Jvm.FP.ddiv (Jvm.FP.l2d q) (4652218415073722368 : UInt64)) (9218868437227405312 : UInt64)) .g) < (0 : Int32) := own_hi_fin (own_f3 q)
theorem own_nn4 (q : Int64) : Jvm.Free.Fl.NoNaN64 (Jvm.FP.ddiv (Jvm.FP.l2d q) (4652218415073722368 : UInt64)) := own_nn_of (own_f3 q).ne_nan
theorem own_v3 (q : Int64) : ∃ c r, val64 (l2d q) = .fin (decide (q.toInt < 0)) c r ∧ val64 (ddiv (l2d q) (4652218415073722368 : UInt64)) = roundRatio b64 (decide (q.toInt < 0)) c (2 ^ 52) (r + 42) := by
  obtain ⟨c, r, h⟩ := l2d_shape q
  refine ⟨c, r, h, ?_⟩
  rw [val64_ddiv, h, own_vC2]
  show (if (2 ^ 52 : Nat) = 0 then (if c = 0 then Datum.nan else Datum.inf (decide (q.toInt < 0) != false)) else roundRatio b64 (decide (q.toInt < 0) != false) c (2 ^ 52) (r - (-42))) = _
  rw [if_neg (by decide), Bool.bne_false, Int.sub_neg]
theorem own_one_le {q : Int64} (h : q ≠ 0) : 2 ^ 1074 ≤ zmag b64 (val64 (l2d q)) := by
  rw [zmag_bits (l2d_fin q).ne_nan]
  have h1 : unitsOf b64 (1023 * b64.tails) ≤ unitsOf b64 ((l2d q).toNat % 2 ^ 63) := unitsOf_le_iff.mpr (by rw [tails_b64]; exact (l2d_big (int64_ne h)).1)
  rw [unitsOf_start (by decide), tails_b64] at h1
  exact Nat.le_trans (by decide +kernel) h1
theorem own_nz3 {q : Int64} (h : q ≠ 0) : (ddiv (l2d q) (4652218415073722368 : UInt64)).toNat % 2 ^ 63 ≠ 0 := by
  obtain ⟨c, r, h1, h2⟩ := own_v3 q
  have hf := val64_fits (l2d q)
  rw [h1] at hf
  have hr := hf.2.1
  have h3 := own_one_le h
  rw [h1] at h3
  have h4 := mag_ge good_b64 (m := 1) (e0 := b64.qmin) (n := (ddiv (l2d q) (4652218415073722368 : UInt64)).toNat) h2 (by decide) (Int.le_refl _) (by omega) (by decide) (by
    have e1 : unitsOf b64 1 * 2 ^ (b64.qmin - b64.qmin).toNat * 2 ^ 52 = 2 ^ 52 := by decide +kernel
    rw [e1]
    refine Nat.le_trans (Nat.le_trans (by decide +kernel) h3) ?_
    show c * 2 ^ (r - b64.qmin).toNat ≤ c * 2 ^ (r + 42 - b64.qmin).toNat
    exact Nat.mul_le_mul_left _ (Nat.pow_le_pow_right (by decide) (by omega)))
  rw [mag_toNat64] at h4; omega
theorem own_sgn3 (q : Int64) : sgn (val64 (ddiv (l2d q) (4652218415073722368 : UInt64))) = decide (q.toInt < 0) := by
  obtain ⟨c, r, h1, h2⟩ := own_v3 q
  rw [h2, sgn_roundRatio]
theorem own_lo3_neg {q : Int64} (h : q < (0 : Int64)) : (Jvm.Op.cmpValue (Jvm.FP.dcmp (Jvm.FP.ddiv (Jvm.FP.l2d q) (4652218415073722368 : UInt64)) Jvm.FP.dconst0) .l) < (0 : Int32) := by
  have hn := (own_f3 q).ne_nan
  exact own_lo_lt (own_dneg hn (own_sign_neg hn ((own_sgn3 q).trans (decide_eq_true (own_q_neg h)))) (own_nz3 (own_q_ne h)))
theorem own_lo3_pos {q : Int64} (h : ¬ (q < (0 : Int64))) : ¬ ((Jvm.Op.cmpValue (Jvm.FP.dcmp (Jvm.FP.ddiv (Jvm.FP.l2d q) (4652218415073722368 : UInt64)) Jvm.FP.dconst0) .l) < (0 : Int32)) := by
  have hn := (own_f3 q).ne_nan
  exact own_lo_ge (own_dpos hn (own_sign_pos hn ((own_sgn3 q).trans (decide_eq_false (own_q_pos h)))))
/- q times 1e300, twice -/
theorem own_fC1 : DFin (9094988921128908188 : UInt64) := by obtain ⟨d, r, h, _⟩ := own_vC1; exact ⟨_, _, _, h⟩
theorem own_z1 : DZero (Jvm.FP.dmul (Jvm.FP.dmul (Jvm.FP.l2d 0) (9094988921128908188 : UInt64)) (9094988921128908188 : UInt64)) := by
  have h : l2d 0 = 0 := Jvm.FP.Core.l2d_zero
  show DZero (dmul (dmul (l2d 0) _) _)
  rw [h]
  exact dzero_mul own_fC1 (dzero_mul own_fC1 ⟨false, b64.qmin, val64_zero⟩)
theorem own_sq : (2 ^ (b64.p + 1) - 1) * 2 ^ (b64.qmax - 1 - 2 * b64.qmin).toNat * 1 ≤ zmag b64 (val64 9094988921128908188) * zmag b64 (val64 9094988921128908188) := by decide +kernel
theorem own_w1 {q : Int64} (h : q ≠ 0) : val64 (dmul (dmul (l2d q) (9094988921128908188 : UInt64)) (9094988921128908188 : UInt64)) = .inf (decide (q.toInt < 0)) := by
  obtain ⟨c, r, h1⟩ := l2d_shape q
  obtain ⟨d, u, hc, hd⟩ := own_vC1
  have fx := val64_fits (l2d q)
  have fc := val64_fits 9094988921128908188
  have h3 := own_one_le h
  have sq := own_sq
  have hqm : b64.qmin = -1074 := qmin_b64
  rw [h1] at fx h3
  rw [hc] at fc sq
  obtain ⟨p1, p2, p3⟩ := product_units fx fc
  have hw : val64 (dmul (l2d q) (9094988921128908188 : UInt64)) = roundRatio b64 (decide (q.toInt < 0)) (c * d) 1 (r + u) := by
    rw [val64_dmul, h1, hc, p1, Bool.bne_false]; rfl
  have hz : zmag b64 (.fin false d u) ≤ zmag b64 (val64 (dmul (l2d q) (9094988921128908188 : UInt64))) := by
    rw [hw]
    refine zmag_roundRatio_ge good_b64 (e0 := 2 * b64.qmin) (by decide) fc (by omega) p2 ?_
    rw [p3, Nat.mul_one, Nat.mul_comm]
    refine Nat.mul_le_mul_right _ (Nat.le_trans ?_ h3)
    exact Nat.pow_le_pow_right (by decide) (by omega)
  rw [val64_dmul, hc]
  rcases roundRatio_cases b64 (decide (q.toInt < 0)) (c * d) 1 (r + u) with ⟨c', r', h5⟩ | h5
  · have fw := val64_fits (dmul (l2d q) (9094988921128908188 : UInt64))
    rw [hw, h5] at fw hz ⊢
    obtain ⟨s1, s2, s3⟩ := product_units fw fc
    rw [s1, Bool.bne_false]
    show roundRatio b64 (decide (q.toInt < 0)) (c' * d) 1 (r' + u) = _
    rw [roundRatio_inf good_b64 (e0 := 2 * b64.qmin) (by decide) (by omega) s2, s3]
    exact Nat.le_trans sq (Nat.mul_le_mul_right _ hz)
  · rw [hw, h5]
    show round b64 (if d = 0 then .nan else .inf (decide (q.toInt < 0) != false)) = _
    rw [if_neg hd, Bool.bne_false]; rfl
theorem own_nn2 (q : Int64) : Jvm.Free.Fl.NoNaN64 (Jvm.FP.dmul (Jvm.FP.dmul (Jvm.FP.l2d q) (9094988921128908188 : UInt64)) (9094988921128908188 : UInt64)) := by
  by_cases h : q = 0
  · subst h; exact own_nn_of own_z1.fin.ne_nan
  · exact own_nn_of (by show val64 (dmul (dmul (l2d q) _) _) ≠ _; rw [own_w1 h]; exact Datum.noConfusion)
theorem own_nn1 (q : Int64) : Jvm.Free.Fl.NoNaN64 (Jvm.FP.dmul (Jvm.FP.l2d q) (9094988921128908188 : UInt64)) :=
  own_nn_of ((notNaN_iff _).mp (dmul_out (l2d_fin q) own_fC1))
theorem own_lo1_zero {q : Int64} (h : q = (0 : Int64)) : ¬ ((Jvm.Op.cmpValue (Jvm.FP.dcmp (Jvm.FP.dmul (Jvm.FP.dmul (Jvm.FP.l2d q) (9094988921128908188 : UInt64)) (9094988921128908188 : UInt64)) Jvm.FP.dconst0) .l) < (0 : Int32)) := by
  subst h; exact own_lo_ge (.inr (zero_iff.mpr own_z1))
theorem own_hi1_zero {q : Int64} (h : q = (0 : Int64)) : (Jvm.Op.cmpValue (Jvm.FP.dcmp (Jvm.FP.dmul (Jvm.FP.dmul (Jvm.FP.l2d q) (9094988921128908188 : UInt64)) (9094988921128908188 : UInt64)) (9218868437227405312 : UInt64)) .g) < (0 : Int32) := by
  subst h; exact own_hi_fin own_z1.fin
theorem own_lo1_neg {q : Int64} (h : q < (0 : Int64)) : (Jvm.Op.cmpValue (Jvm.FP.dcmp (Jvm.FP.dmul (Jvm.FP.dmul (Jvm.FP.l2d q) (9094988921128908188 : UInt64)) (9094988921128908188 : UInt64)) Jvm.FP.dconst0) .l) < (0 : Int32) := by
  refine own_lo_lt ?_
  show order (val64 (dmul (dmul (l2d q) _) _)) (val64 0) = _
  rw [own_w1 (own_q_ne h), decide_eq_true (own_q_neg h), val64_zero]; decide
theorem own_lo1_pos {q : Int64} (h0 : ¬ (q = (0 : Int64))) (h : ¬ (q < (0 : Int64))) : ¬ ((Jvm.Op.cmpValue (Jvm.FP.dcmp (Jvm.FP.dmul (Jvm.FP.dmul (Jvm.FP.l2d q) (9094988921128908188 : UInt64)) (9094988921128908188 : UInt64)) Jvm.FP.dconst0) .l) < (0 : Int32)) := by
  refine own_lo_ge (.inl ?_)
  show order (val64 (dmul (dmul (l2d q) _) _)) (val64 0) = _
  rw [own_w1 h0, decide_eq_false (own_q_pos h), val64_zero]; decide
theorem own_hi1_pos {q : Int64} (h0 : ¬ (q = (0 : Int64))) (h : ¬ (q < (0 : Int64))) : ¬ ((Jvm.Op.cmpValue (Jvm.FP.dcmp (Jvm.FP.dmul (Jvm.FP.dmul (Jvm.FP.l2d q) (9094988921128908188 : UInt64)) (9094988921128908188 : UInt64)) (9218868437227405312 : UInt64)) .g) < (0 : Int32)) := by
  have h' : Jvm.FP.dcmp (Jvm.FP.dmul (Jvm.FP.dmul (Jvm.FP.l2d q) (9094988921128908188 : UInt64)) (9094988921128908188 : UInt64)) (9218868437227405312 : UInt64) = some .eq := by
    show order (val64 (dmul (dmul (l2d q) _) _)) (val64 9218868437227405312) = _
    rw [own_w1 h0, decide_eq_false (own_q_pos h), own_vINF]; decide
  rw [h']; decide
end Fp35

theorem w0 {Z : State} {a0 : Array Value} (hw : ∀ d ∈ tables_1, d.before a0 Z = true) : (Jvm.Cond.methodLink "com/example/unea/unea/model/MarkovChainIsAcceptedValuePinLaw" (11 : Nat) ({ cls := cn0, name := "isAcceptedValue", desc := "(D)Z" } : Jvm.MethodName)).before a0 Z = true := hw _ (List.mem_of_getElem? (i := 0) rfl)
theorem d1_0 : decode prog_22_method_6_code 0 = .ok (.dload_n 0, 1) := by decide +kernel
theorem d1_1 : decode prog_22_method_6_code 1 = .ok (.dconst 0, 1) := by decide +kernel
theorem d1_2 : decode prog_22_method_6_code 2 = .ok (.dcmp .l, 1) := by decide +kernel
theorem d1_3 : decode prog_22_method_6_code 3 = .ok (.ifCond .lt 15, 3) := by decide +kernel
theorem d1_18 : decode prog_22_method_6_code 18 = .ok (.iconst 0, 1) := by decide +kernel
theorem d1_19 : decode prog_22_method_6_code 19 = .ok (.ireturn, 1) := by decide +kernel
def Q_r1_isAcceptedValue (Z : State) (yi1 : UInt64) (h0 : Heap) (n0 : Nat) (v : Option Value) (h : Heap) (L : List Loc) : Prop := Fr n0 L ∧ h = h0 ∧ ((v = some (.int (0 : Int32))))
theorem pn_com_example_unea_unea_model_MarkovChain : plainName "com/example/unea/unea/model/MarkovChain" = true := by first | (simp [plainName, overriddenIn]; done) | decide +kernel
set_option maxRecDepth 65536 in
set_option maxHeartbeats 40000000 in
theorem r1_isAcceptedValue (l : Launch) (Z : State) (a0 : Array Value) (hw : ∀ d ∈ tables_1, d.before a0 Z = true) (ws : List Jvm.Cond) (yi1 : UInt64) (h0 : Heap) (n0 : Nat) (O0 : Old Z n0 h0) (hy1 : (cmpValue (FP.dcmp yi1 FP.dconst0) .l) < (0 : Int32)) :
    MetFree l (⟨cn0, "isAcceptedValue", "(D)Z"⟩ : MethodName) (head1 (Jvm.Cond.code (⟨"com/example/unea/unea/model/MarkovChain", "isAcceptedValue", "(D)Z"⟩ : MethodName) prog_22_method_6_code 2 (some .boolean) :: ws) ({ frames := 0, cells := 0, slots := 0, locals := 0 } : Room)) (fun a U => a = #[(.double yi1)] ∧ Z.Warmed39 U.vm ∧ U.heap = h0) (fun _ _ _ _ _ => True) (fun _ U o U' => ∃ v L, o = .returned v ∧ Q_r1_isAcceptedValue Z yi1 h0 n0 v U'.heap L ∧ FrameEnd U o U' L ({ frames := 0, cells := 0, slots := 0, locals := 0 } : Room).cells ({ frames := 0, cells := 0, slots := 0, locals := 0 } : Room).slots) := by
  refine MetFree.of_bodySF (plainFor_of_name pn_com_example_unea_unea_model_MarkovChain) hisR ?_
  intro p e s m args below meth c s₁ Bd hml0 hP hK
  obtain ⟨rfl, hZ, hh⟩ := hP
  have hx := Bd.exec
  have hby := Bd.bytes
  have hlk := Bd.notSynchronized
  have hml : c.maxLocals = 2 := hml0
  have hown : s.vm.findClass cn0 = some m.cls := findClass_of_methodNamed Bd.named
  have hnm := (name_of_methodNamed Bd.named Bd.method).1
  have X0 : Stand p l e ({ frames := 0, cells := 0, slots := 0, locals := 0 } : Room) s m #[(.double yi1)] below meth c s₁ [] 0 0 := Stand.of_body Bd
  have e0 : s₁.heap = h0 := by rw [← hh, Bd.state]; rfl
  have N0 := Fr.nil n0
  have K0 := Keep.refl h0 []
  have Z0 : n0 ≤ h0.size := O0.1 ▸ O0.2.1
  have hef : entryFrame m #[(.double yi1)] 2 = mkF m 0 #[.val (.double yi1), .second] [] := by first | (simp [entryFrame, mkF, argsToLocals, Value.category]; done) | rfl
  rw [hef]
  refine Gets.out (Q := Q_r1_isAcceptedValue Z yi1 h0 n0) ?_
  show Gets p e below _ (s₁.setTop (mkF m 0 #[.val (.double yi1), .second] []))
  refine Gets.of (fun t k => XS.dloadN X0.here hx rfl (hb hby d1_0) rfl k) ?_
  show Gets p e below _ (s₁.setTop (mkF m 1 #[.val (.double yi1), .second] [(.double yi1)]))
  refine Gets.of (fun t k => XS.dconst0 X0.here hx rfl (hb hby d1_1) rfl k) ?_
  show Gets p e below _ (s₁.setTop (mkF m 2 #[.val (.double yi1), .second] [(.double FP.dconst0), (.double yi1)]))
  refine Gets.of (fun t k => XS.dcmpS X0.here hx rfl (hb hby d1_2) rfl rfl k) ?_
  show Gets p e below _ (s₁.setTop (mkF m 3 #[.val (.double yi1), .second] [(.int (cmpValue (FP.dcmp yi1 FP.dconst0) .l))]))
  refine Gets.of (fun t k => XS.ifYes X0.here hx rfl (pc0 := 3) (pc' := 18) rfl (hb hby d1_3) rfl ((if0 _ _).trans (tlt hy1).1) (by decide) (by decide) k) ?_
  show Gets p e below _ (s₁.setTop (mkF m 18 #[.val (.double yi1), .second] []))
  refine Gets.of (fun t k => XS.iconst X0.here hx rfl (hb hby d1_18) k) ?_
  refine Gets.retN X0 hx (t := .boolean) Bd.returns (by simp) (hb hby d1_19) ?_ (by decide) (by decide)
  rw [e0]
  exact ⟨N0, rfl, rfl⟩
theorem w3 {Z : State} {a0 : Array Value} (hw : ∀ d ∈ tables_1, d.before a0 Z = true) : (Jvm.Cond.code ({ cls := cn0, name := "isAcceptedValue", desc := "(D)Z" } : Jvm.MethodName) prog_22_method_6_code (2 : Nat) (Option.some Jvm.ClassFile.FieldType.boolean)).before a0 Z = true := hw _ (List.mem_of_getElem? (i := 3) rfl)
theorem w2 {Z : State} {a0 : Array Value} (hw : ∀ d ∈ tables_1, d.before a0 Z = true) : (Jvm.Cond.initialized cn0).before a0 Z = true := hw _ (List.mem_of_getElem? (i := 2) rfl)
theorem pd__D_Z : parseMethodDescriptor "(D)Z" = some ⟨[.double], some .boolean⟩ := by decide +kernel
theorem w1 {Z : State} {a0 : Array Value} (hw : ∀ d ∈ tables_1, d.before a0 Z = true) : (Jvm.Cond.static ({ cls := cn0, name := "isAcceptedValue", desc := "(D)Z" } : Jvm.MethodName)).before a0 Z = true := hw _ (List.mem_of_getElem? (i := 1) rfl)
theorem d1_6 : decode prog_22_method_6_code 6 = .ok (.dload_n 0, 1) := by decide +kernel
theorem d1_7 : decode prog_22_method_6_code 7 = .ok (.ldc2_w 93, 3) := by decide +kernel
theorem w4 {Z : State} {a0 : Array Value} (hw : ∀ d ∈ tables_1, d.before a0 Z = true) : (Jvm.Cond.constantDouble cn0 (93 : Nat) (9218868437227405312 : UInt64)).before a0 Z = true := hw _ (List.mem_of_getElem? (i := 4) rfl)
theorem d1_10 : decode prog_22_method_6_code 10 = .ok (.dcmp .g, 1) := by decide +kernel
theorem d1_11 : decode prog_22_method_6_code 11 = .ok (.ifCond .ge 7, 3) := by decide +kernel
theorem d1_14 : decode prog_22_method_6_code 14 = .ok (.iconst 1, 1) := by decide +kernel
theorem d1_15 : decode prog_22_method_6_code 15 = .ok (.goto 4, 3) := by decide +kernel
def Q_r2_isAcceptedValue (Z : State) (yi1 : UInt64) (h0 : Heap) (n0 : Nat) (v : Option Value) (h : Heap) (L : List Loc) : Prop := Fr n0 L ∧ h = h0 ∧ ((v = some (.int (1 : Int32))))
set_option maxRecDepth 65536 in
set_option maxHeartbeats 40000000 in
theorem r2_isAcceptedValue (l : Launch) (Z : State) (a0 : Array Value) (hw : ∀ d ∈ tables_1, d.before a0 Z = true) (ws : List Jvm.Cond) (yi1 : UInt64) (h0 : Heap) (n0 : Nat) (O0 : Old Z n0 h0) (hy1 : ¬ ((cmpValue (FP.dcmp yi1 FP.dconst0) .l) < (0 : Int32))) (hy2 : (cmpValue (FP.dcmp yi1 (9218868437227405312 : UInt64)) .g) < (0 : Int32)) :
    MetFree l (⟨cn0, "isAcceptedValue", "(D)Z"⟩ : MethodName) (head1 (Jvm.Cond.code (⟨"com/example/unea/unea/model/MarkovChain", "isAcceptedValue", "(D)Z"⟩ : MethodName) prog_22_method_6_code 2 (some .boolean) :: ws) ({ frames := 0, cells := 0, slots := 0, locals := 0 } : Room)) (fun a U => a = #[(.double yi1)] ∧ Z.Warmed39 U.vm ∧ U.heap = h0) (fun _ _ _ _ _ => True) (fun _ U o U' => ∃ v L, o = .returned v ∧ Q_r2_isAcceptedValue Z yi1 h0 n0 v U'.heap L ∧ FrameEnd U o U' L ({ frames := 0, cells := 0, slots := 0, locals := 0 } : Room).cells ({ frames := 0, cells := 0, slots := 0, locals := 0 } : Room).slots) := by
  refine MetFree.of_bodySF (plainFor_of_name pn_com_example_unea_unea_model_MarkovChain) hisR ?_
  intro p e s m args below meth c s₁ Bd hml0 hP hK
  obtain ⟨rfl, hZ, hh⟩ := hP
  have hx := Bd.exec
  have hby := Bd.bytes
  have hlk := Bd.notSynchronized
  have hml : c.maxLocals = 2 := hml0
  have hown : s.vm.findClass cn0 = some m.cls := findClass_of_methodNamed Bd.named
  have hnm := (name_of_methodNamed Bd.named Bd.method).1
  have X0 : Stand p l e ({ frames := 0, cells := 0, slots := 0, locals := 0 } : Room) s m #[(.double yi1)] below meth c s₁ [] 0 0 := Stand.of_body Bd
  have e0 : s₁.heap = h0 := by rw [← hh, Bd.state]; rfl
  have N0 := Fr.nil n0
  have K0 := Keep.refl h0 []
  have Z0 : n0 ≤ h0.size := O0.1 ▸ O0.2.1
  have hef : entryFrame m #[(.double yi1)] 2 = mkF m 0 #[.val (.double yi1), .second] [] := by first | (simp [entryFrame, mkF, argsToLocals, Value.category]; done) | rfl
  rw [hef]
  refine Gets.out (Q := Q_r2_isAcceptedValue Z yi1 h0 n0) ?_
  show Gets p e below _ (s₁.setTop (mkF m 0 #[.val (.double yi1), .second] []))
  refine Gets.of (fun t k => XS.dloadN X0.here hx rfl (hb hby d1_0) rfl k) ?_
  show Gets p e below _ (s₁.setTop (mkF m 1 #[.val (.double yi1), .second] [(.double yi1)]))
  refine Gets.of (fun t k => XS.dconst0 X0.here hx rfl (hb hby d1_1) rfl k) ?_
  show Gets p e below _ (s₁.setTop (mkF m 2 #[.val (.double yi1), .second] [(.double FP.dconst0), (.double yi1)]))
  refine Gets.of (fun t k => XS.dcmpS X0.here hx rfl (hb hby d1_2) rfl rfl k) ?_
  show Gets p e below _ (s₁.setTop (mkF m 3 #[.val (.double yi1), .second] [(.int (cmpValue (FP.dcmp yi1 FP.dconst0) .l))]))
  refine Gets.of (fun t k => XS.ifNo X0.here hx rfl (hb hby d1_3) rfl ((if0 _ _).trans (flt hy1).1) k) ?_
  show Gets p e below _ (s₁.setTop (mkF m 6 #[.val (.double yi1), .second] []))
  refine Gets.of (fun t k => XS.dloadN X0.here hx rfl (hb hby d1_6) rfl k) ?_
  show Gets p e below _ (s₁.setTop (mkF m 7 #[.val (.double yi1), .second] [(.double yi1)]))
  refine Gets.of (fun t k => X0.ldc2DoubleC hx hown (mvT hZ (w4 hw)) (g := (mkF m 7 #[.val (.double yi1), .second] [(.double yi1)])) rfl (hb hby d1_7) t k) ?_
  show Gets p e below _ (s₁.setTop (mkF m 10 #[.val (.double yi1), .second] [(.double (9218868437227405312 : UInt64)), (.double yi1)]))
  refine Gets.of (fun t k => XS.dcmpS X0.here hx rfl (hb hby d1_10) rfl rfl k) ?_
  show Gets p e below _ (s₁.setTop (mkF m 11 #[.val (.double yi1), .second] [(.int (cmpValue (FP.dcmp yi1 (9218868437227405312 : UInt64)) .g))]))
  refine Gets.of (fun t k => XS.ifNo X0.here hx rfl (hb hby d1_11) rfl ((if0 _ _).trans (tlt hy2).2.1) k) ?_
  show Gets p e below _ (s₁.setTop (mkF m 14 #[.val (.double yi1), .second] []))
  refine Gets.of (fun t k => XS.iconst X0.here hx rfl (hb hby d1_14) k) ?_
  refine Gets.of (fun t k => XS.goto X0.here hx rfl (pc0 := 15) (pc' := 19) rfl (hb hby d1_15) (by decide) (by decide) k) ?_
  show Gets p e below _ (s₁.setTop (mkF m 19 #[.val (.double yi1), .second] [(.int (1 : Int32))]))
  refine Gets.retN X0 hx (t := .boolean) Bd.returns (by simp) (hb hby d1_19) ?_ (by decide) (by decide)
  rw [e0]
  exact ⟨N0, rfl, rfl⟩
theorem w6 {Z : State} {a0 : Array Value} (hw : ∀ d ∈ tables_1, d.before a0 Z = true) : (Jvm.Cond.constantDouble "com/example/unea/unea/model/MarkovChainIsAcceptedValuePinLaw" (7 : Nat) (9094988921128908188 : UInt64)).before a0 Z = true := hw _ (List.mem_of_getElem? (i := 6) rfl)
def Q_r3_isAcceptedValue (Z : State) (yi1 : UInt64) (h0 : Heap) (n0 : Nat) (v : Option Value) (h : Heap) (L : List Loc) : Prop := Fr n0 L ∧ h = h0 ∧ ((v = some (.int (0 : Int32))))
set_option maxRecDepth 65536 in
set_option maxHeartbeats 40000000 in
theorem r3_isAcceptedValue (l : Launch) (Z : State) (a0 : Array Value) (hw : ∀ d ∈ tables_1, d.before a0 Z = true) (ws : List Jvm.Cond) (yi1 : UInt64) (h0 : Heap) (n0 : Nat) (O0 : Old Z n0 h0) (hy1 : ¬ ((cmpValue (FP.dcmp yi1 FP.dconst0) .l) < (0 : Int32))) (hy2 : ¬ ((cmpValue (FP.dcmp yi1 (9218868437227405312 : UInt64)) .g) < (0 : Int32))) :
    MetFree l (⟨cn0, "isAcceptedValue", "(D)Z"⟩ : MethodName) (head1 (Jvm.Cond.code (⟨"com/example/unea/unea/model/MarkovChain", "isAcceptedValue", "(D)Z"⟩ : MethodName) prog_22_method_6_code 2 (some .boolean) :: ws) ({ frames := 0, cells := 0, slots := 0, locals := 0 } : Room)) (fun a U => a = #[(.double yi1)] ∧ Z.Warmed39 U.vm ∧ U.heap = h0) (fun _ _ _ _ _ => True) (fun _ U o U' => ∃ v L, o = .returned v ∧ Q_r3_isAcceptedValue Z yi1 h0 n0 v U'.heap L ∧ FrameEnd U o U' L ({ frames := 0, cells := 0, slots := 0, locals := 0 } : Room).cells ({ frames := 0, cells := 0, slots := 0, locals := 0 } : Room).slots) := by
  refine MetFree.of_bodySF (plainFor_of_name pn_com_example_unea_unea_model_MarkovChain) hisR ?_
  intro p e s m args below meth c s₁ Bd hml0 hP hK
  obtain ⟨rfl, hZ, hh⟩ := hP
  have hx := Bd.exec
  have hby := Bd.bytes
  have hlk := Bd.notSynchronized
  have hml : c.maxLocals = 2 := hml0
  have hown : s.vm.findClass cn0 = some m.cls := findClass_of_methodNamed Bd.named
  have hnm := (name_of_methodNamed Bd.named Bd.method).1
  have X0 : Stand p l e ({ frames := 0, cells := 0, slots := 0, locals := 0 } : Room) s m #[(.double yi1)] below meth c s₁ [] 0 0 := Stand.of_body Bd
  have e0 : s₁.heap = h0 := by rw [← hh, Bd.state]; rfl
  have N0 := Fr.nil n0
  have K0 := Keep.refl h0 []
  have Z0 : n0 ≤ h0.size := O0.1 ▸ O0.2.1
  have hef : entryFrame m #[(.double yi1)] 2 = mkF m 0 #[.val (.double yi1), .second] [] := by first | (simp [entryFrame, mkF, argsToLocals, Value.category]; done) | rfl
  rw [hef]
  refine Gets.out (Q := Q_r3_isAcceptedValue Z yi1 h0 n0) ?_
  show Gets p e below _ (s₁.setTop (mkF m 0 #[.val (.double yi1), .second] []))
  refine Gets.of (fun t k => XS.dloadN X0.here hx rfl (hb hby d1_0) rfl k) ?_
  show Gets p e below _ (s₁.setTop (mkF m 1 #[.val (.double yi1), .second] [(.double yi1)]))
  refine Gets.of (fun t k => XS.dconst0 X0.here hx rfl (hb hby d1_1) rfl k) ?_
  show Gets p e below _ (s₁.setTop (mkF m 2 #[.val (.double yi1), .second] [(.double FP.dconst0), (.double yi1)]))
  refine Gets.of (fun t k => XS.dcmpS X0.here hx rfl (hb hby d1_2) rfl rfl k) ?_
  show Gets p e below _ (s₁.setTop (mkF m 3 #[.val (.double yi1), .second] [(.int (cmpValue (FP.dcmp yi1 FP.dconst0) .l))]))
  refine Gets.of (fun t k => XS.ifNo X0.here hx rfl (hb hby d1_3) rfl ((if0 _ _).trans (flt hy1).1) k) ?_
  show Gets p e below _ (s₁.setTop (mkF m 6 #[.val (.double yi1), .second] []))
  refine Gets.of (fun t k => XS.dloadN X0.here hx rfl (hb hby d1_6) rfl k) ?_
  show Gets p e below _ (s₁.setTop (mkF m 7 #[.val (.double yi1), .second] [(.double yi1)]))
  refine Gets.of (fun t k => X0.ldc2DoubleC hx hown (mvT hZ (w4 hw)) (g := (mkF m 7 #[.val (.double yi1), .second] [(.double yi1)])) rfl (hb hby d1_7) t k) ?_
  show Gets p e below _ (s₁.setTop (mkF m 10 #[.val (.double yi1), .second] [(.double (9218868437227405312 : UInt64)), (.double yi1)]))
  refine Gets.of (fun t k => XS.dcmpS X0.here hx rfl (hb hby d1_10) rfl rfl k) ?_
  show Gets p e below _ (s₁.setTop (mkF m 11 #[.val (.double yi1), .second] [(.int (cmpValue (FP.dcmp yi1 (9218868437227405312 : UInt64)) .g))]))
  refine Gets.of (fun t k => XS.ifYes X0.here hx rfl (pc0 := 11) (pc' := 18) rfl (hb hby d1_11) rfl ((if0 _ _).trans (flt hy2).2.1) (by decide) (by decide) k) ?_
  show Gets p e below _ (s₁.setTop (mkF m 18 #[.val (.double yi1), .second] []))
  refine Gets.of (fun t k => XS.iconst X0.here hx rfl (hb hby d1_18) k) ?_
  refine Gets.retN X0 hx (t := .boolean) Bd.returns (by simp) (hb hby d1_19) ?_ (by decide) (by decide)
  rw [e0]
  exact ⟨N0, rfl, rfl⟩
theorem w5 {Z : State} {a0 : Array Value} (hw : ∀ d ∈ tables_1, d.before a0 Z = true) : (Jvm.Cond.constantDouble "com/example/unea/unea/model/MarkovChainIsAcceptedValuePinLaw" (9 : Nat) (4652218415073722368 : UInt64)).before a0 Z = true := hw _ (List.mem_of_getElem? (i := 5) rfl)
def Q_rm_law (Z : State) (q1 : Int64) (p2 : Int32) (h0 : Heap) (n0 : Nat) (v : Option Value) (h : Heap) (L : List Loc) : Prop := Fr n0 L ∧ h = h0 ∧ ((v = some (.int (1 : Int32))))
theorem pn_com_example_unea_unea_model_MarkovChainIsAcceptedValuePinLaw : plainName "com/example/unea/unea/model/MarkovChainIsAcceptedValuePinLaw" = true := by first | (simp [plainName, overriddenIn]; done) | decide +kernel
set_option maxRecDepth 65536 in
set_option maxHeartbeats 40000000 in
theorem rm_law (l : Launch) (Z : State) (a0 : Array Value) (hw : ∀ d ∈ tables_1, d.before a0 Z = true) (ws : List Jvm.Cond) (q1 : Int64) (p2 : Int32) (h0 : Heap) (n0 : Nat) (O0 : Old Z n0 h0) :
    MetFree l x (head1 (Jvm.Cond.code x code maxLocals ret :: ws) room_1) (fun a U => a = #[(.long q1), (.int p2)] ∧ Z.Warmed39 U.vm ∧ U.heap = h0) (fun _ _ _ _ _ => True) (fun _ U o U' => ∃ v L, o = .returned v ∧ Q_rm_law Z q1 p2 h0 n0 v U'.heap L ∧ FrameEnd U o U' L room_1.cells room_1.slots) := by
  refine MetFree.of_bodySF (plainFor_of_name pn_com_example_unea_unea_model_MarkovChainIsAcceptedValuePinLaw) hisR ?_
  intro p e s m args below meth c s₁ Bd hml0 hP hK
  obtain ⟨rfl, hZ, hh⟩ := hP
  have hx := Bd.exec
  have hby := Bd.bytes
  have hlk := Bd.notSynchronized
  have hml : c.maxLocals = 7 := hml0
  have hown : s.vm.findClass "com/example/unea/unea/model/MarkovChainIsAcceptedValuePinLaw" = some m.cls := findClass_of_methodNamed Bd.named
  have hnm := (name_of_methodNamed Bd.named Bd.method).1
  have X0 : Stand p l e room_1 s m #[(.long q1), (.int p2)] below meth c s₁ [] 0 0 := Stand.of_body Bd
  have e0 : s₁.heap = h0 := by rw [← hh, Bd.state]; rfl
  have N0 := Fr.nil n0
  have K0 := Keep.refl h0 []
  have Z0 : n0 ≤ h0.size := O0.1 ▸ O0.2.1
  have hef : entryFrame m #[(.long q1), (.int p2)] maxLocals = mkF m 0 #[.val (.long q1), .second, .val (.int p2), .unset, .unset, .unset, .unset] [] := by first | (simp [entryFrame, mkF, argsToLocals, Value.category, maxLocals]; done) | rfl
  rw [hef]
  refine Gets.out (Q := Q_rm_law Z q1 p2 h0 n0) ?_
  show Gets p e below _ (s₁.setTop (mkF m 0 #[.val (.long q1), .second, .val (.int p2), .unset, .unset, .unset, .unset] []))
  refine Gets.of (fun t k => XS.iloadN X0.here hx rfl (hb hby at_0) rfl  k) ?_
  refine Gets.of (fun t k => XS.iconst X0.here hx rfl (hb hby at_1) k) ?_
  refine Gets.of (fun t k => XS.iand X0.here hx rfl (hb hby at_2) rfl k) ?_
  show Gets p e below _ (s₁.setTop (mkF m 3 #[.val (.long q1), .second, .val (.int p2), .unset, .unset, .unset, .unset] [(.int (p2 &&& (3 : Int32)))]))
  refine Gets.of (fun t k => XS.istoreN X0.here hx rfl (hb hby at_3) rfl (l' := #[.val (.long q1), .second, .val (.int p2), .val (.int (p2 &&& (3 : Int32))), .unset, .unset, .unset]) rfl k) ?_
  show Gets p e below _ (s₁.setTop (mkF m 4 #[.val (.long q1), .second, .val (.int p2), .val (.int (p2 &&& (3 : Int32))), .unset, .unset, .unset] []))
  refine Gets.of (fun t k => XS.iloadN X0.here hx rfl (hb hby at_4) rfl  k) ?_
  by_cases hc1 : (p2 &&& (3 : Int32)) = (0 : Int32)
  · skip
    refine Gets.of (fun t k => XS.ifNo X0.here hx rfl (hb hby at_5) rfl ((if0 _ _).trans (teq hc1).2) k) ?_
    show Gets p e below _ (s₁.setTop (mkF m 8 #[.val (.long q1), .second, .val (.int p2), .val (.int (p2 &&& (3 : Int32))), .unset, .unset, .unset] []))
    refine Gets.of (fun t k => XS.lloadN X0.here hx rfl (hb hby at_8) rfl  k) ?_
    refine Gets.of (fun t k => XS.l2dS X0.here hx rfl (hb hby at_9) rfl rfl k) ?_
    show Gets p e below _ (s₁.setTop (mkF m 10 #[.val (.long q1), .second, .val (.int p2), .val (.int (p2 &&& (3 : Int32))), .unset, .unset, .unset] [(.double (FP.l2d q1))]))
    refine Gets.of (fun t k => XS.dstore X0.here hx rfl (hb hby at_10) rfl (l' := #[.val (.long q1), .second, .val (.int p2), .val (.int (p2 &&& (3 : Int32))), .val (.double (FP.l2d q1)), .second, .unset]) rfl k) ?_
    show Gets p e below _ (s₁.setTop (mkF m 12 #[.val (.long q1), .second, .val (.int p2), .val (.int (p2 &&& (3 : Int32))), .val (.double (FP.l2d q1)), .second, .unset] []))
    refine Gets.of (fun t k => XS.lloadN X0.here hx rfl (hb hby at_12) rfl  k) ?_
    refine Gets.of (fun t k => XS.lconst X0.here hx rfl (hb hby at_13) k) ?_
    refine Gets.of (fun t k => XS.lcmp X0.here hx rfl (hb hby at_14) rfl k) ?_
    show Gets p e below _ (s₁.setTop (mkF m 15 #[.val (.long q1), .second, .val (.int p2), .val (.int (p2 &&& (3 : Int32))), .val (.double (FP.l2d q1)), .second, .unset] [(.int (lcmpW q1 (0 : Int64)))]))
    by_cases hc2 : q1 < (0 : Int64)
    · skip
      refine Gets.of (fun t k => XS.ifYes X0.here hx rfl (pc0 := 15) (pc' := 22) rfl (hb hby at_15) rfl ((if0 _ _).trans (tlt ((lw_lt _ _).mpr hc2)).1) (by decide) (by decide) k) ?_
      show Gets p e below _ (s₁.setTop (mkF m 22 #[.val (.long q1), .second, .val (.int p2), .val (.int (p2 &&& (3 : Int32))), .val (.double (FP.l2d q1)), .second, .unset] []))
      refine Gets.of (fun t k => XS.iconst X0.here hx rfl (hb hby at_22) k) ?_
      refine Gets.of (fun t k => XS.istore X0.here hx rfl (hb hby at_23) rfl (l' := #[.val (.long q1), .second, .val (.int p2), .val (.int (p2 &&& (3 : Int32))), .val (.double (FP.l2d q1)), .second, .val (.int (0 : Int32))]) rfl k) ?_
      show Gets p e below _ (s₁.setTop (mkF m 25 #[.val (.long q1), .second, .val (.int p2), .val (.int (p2 &&& (3 : Int32))), .val (.double (FP.l2d q1)), .second, .val (.int (0 : Int32))] []))
      refine Gets.of (fun t k => XS.goto X0.here hx rfl (pc0 := 25) (pc' := 99) rfl (hb hby at_25) (by decide) (by decide) k) ?_
      show Gets p e below _ (s₁.setTop (mkF m 99 #[.val (.long q1), .second, .val (.int p2), .val (.int (p2 &&& (3 : Int32))), .val (.double (FP.l2d q1)), .second, .val (.int (0 : Int32))] []))
      refine Gets.of (fun t k => XS.dload X0.here hx rfl (hb hby at_99) rfl k) ?_
      show Gets p e below _ (s₁.setTop (mkF m 101 #[.val (.long q1), .second, .val (.int p2), .val (.int (p2 &&& (3 : Int32))), .val (.double (FP.l2d q1)), .second, .val (.int (0 : Int32))] [(.double (FP.l2d q1))]))
      obtain ⟨_, _, ⟨T3, L3, k3, n3⟩, -, X3, ⟨Lc3, hQ3, l3, y3, z3⟩, st3⟩ := Jvm.LawKit.callS X0 hx (y := (⟨cn0, "isAcceptedValue", "(D)Z"⟩ : MethodName)) hown (mvT hZ (w0 hw)) (mvT hZ (w1 hw)) (mvT hZ (w2 hw)) (mvT hZ (w3 hw)) (by decide) (backOf (W := 0) (r1_isAcceptedValue l Z a0 hw [] (FP.l2d q1) h0 n0 O0 (own_lo0_neg hc2)) hZ (w3 hw) (w2 hw) (by decide) (by decide)) (g := (mkF m 101 #[.val (.long q1), .second, .val (.int p2), .val (.int (p2 &&& (3 : Int32))), .val (.double (FP.l2d q1)), .second, .val (.int (0 : Int32))] [(.double (FP.l2d q1))])) rfl (by rw [hml]; rfl) (argsL := [(.double (FP.l2d q1))]) (rest := []) (lenOf pd__D_Z rfl) rfl (by show 2 * 0 + _ ≤ _; exact Nat.le_of_eq rfl) (hb hby at_101) (fun _ _ => ⟨rfl, e0, (by decide : 0 + 0 ≤ _), (by decide : 0 + 0 ≤ _)⟩)
      dsimp only [Pt.U, Pt.locs, Pt.cells, Pt.slots] at X3 l3 y3 z3 st3 hQ3
      subst l3 y3 z3
      obtain ⟨Nq3, eq3, hR3⟩ := hQ3
      have N3 := Fr.app N0 Nq3
      obtain rfl := hR3
      refine Gets.of st3 ?_
      show Gets p e below _ (T3.setTop (mkF m 104 #[.val (.long q1), .second, .val (.int p2), .val (.int (p2 &&& (3 : Int32))), .val (.double (FP.l2d q1)), .second, .val (.int (0 : Int32))] [(.int (0 : Int32))]))
      refine Gets.of (fun t k => XS.iload X3.here hx rfl (hb hby at_104) rfl  k) ?_
      refine Gets.of (fun t k => XS.icmpNo X3.here hx rfl (hb hby at_106) rfl (teq (by decide : (0 : Int32) = (0 : Int32))).2 k) ?_
      show Gets p e below _ (T3.setTop (mkF m 109 #[.val (.long q1), .second, .val (.int p2), .val (.int (p2 &&& (3 : Int32))), .val (.double (FP.l2d q1)), .second, .val (.int (0 : Int32))] []))
      refine Gets.of (fun t k => XS.iconst X3.here hx rfl (hb hby at_109) k) ?_
      refine Gets.of (fun t k => XS.goto X3.here hx rfl (pc0 := 110) (pc' := 114) rfl (hb hby at_110) (by decide) (by decide) k) ?_
      show Gets p e below _ (T3.setTop (mkF m 114 #[.val (.long q1), .second, .val (.int p2), .val (.int (p2 &&& (3 : Int32))), .val (.double (FP.l2d q1)), .second, .val (.int (0 : Int32))] [(.int (1 : Int32))]))
      refine Gets.retN X3 hx (t := .boolean) Bd.returns (by simp) (hb hby at_114) ?_ (by decide) (by decide)
      rw [eq3]
      exact ⟨N3, rfl, rfl⟩
    · skip
      refine Gets.of (fun t k => XS.ifNo X0.here hx rfl (hb hby at_15) rfl ((if0 _ _).trans (flt (mt (lw_lt _ _).mp hc2)).1) k) ?_
      show Gets p e below _ (s₁.setTop (mkF m 18 #[.val (.long q1), .second, .val (.int p2), .val (.int (p2 &&& (3 : Int32))), .val (.double (FP.l2d q1)), .second, .unset] []))
      refine Gets.of (fun t k => XS.iconst X0.here hx rfl (hb hby at_18) k) ?_
      refine Gets.of (fun t k => XS.goto X0.here hx rfl (pc0 := 19) (pc' := 23) rfl (hb hby at_19) (by decide) (by decide) k) ?_
      show Gets p e below _ (s₁.setTop (mkF m 23 #[.val (.long q1), .second, .val (.int p2), .val (.int (p2 &&& (3 : Int32))), .val (.double (FP.l2d q1)), .second, .unset] [(.int (1 : Int32))]))
      refine Gets.of (fun t k => XS.istore X0.here hx rfl (hb hby at_23) rfl (l' := #[.val (.long q1), .second, .val (.int p2), .val (.int (p2 &&& (3 : Int32))), .val (.double (FP.l2d q1)), .second, .val (.int (1 : Int32))]) rfl k) ?_
      show Gets p e below _ (s₁.setTop (mkF m 25 #[.val (.long q1), .second, .val (.int p2), .val (.int (p2 &&& (3 : Int32))), .val (.double (FP.l2d q1)), .second, .val (.int (1 : Int32))] []))
      refine Gets.of (fun t k => XS.goto X0.here hx rfl (pc0 := 25) (pc' := 99) rfl (hb hby at_25) (by decide) (by decide) k) ?_
      show Gets p e below _ (s₁.setTop (mkF m 99 #[.val (.long q1), .second, .val (.int p2), .val (.int (p2 &&& (3 : Int32))), .val (.double (FP.l2d q1)), .second, .val (.int (1 : Int32))] []))
      refine Gets.of (fun t k => XS.dload X0.here hx rfl (hb hby at_99) rfl k) ?_
      show Gets p e below _ (s₁.setTop (mkF m 101 #[.val (.long q1), .second, .val (.int p2), .val (.int (p2 &&& (3 : Int32))), .val (.double (FP.l2d q1)), .second, .val (.int (1 : Int32))] [(.double (FP.l2d q1))]))
      obtain ⟨_, _, ⟨T4, L4, k4, n4⟩, -, X4, ⟨Lc4, hQ4, l4, y4, z4⟩, st4⟩ := Jvm.LawKit.callS X0 hx (y := (⟨cn0, "isAcceptedValue", "(D)Z"⟩ : MethodName)) hown (mvT hZ (w0 hw)) (mvT hZ (w1 hw)) (mvT hZ (w2 hw)) (mvT hZ (w3 hw)) (by decide) (backOf (W := 0) (r2_isAcceptedValue l Z a0 hw [] (FP.l2d q1) h0 n0 O0 (own_lo0_pos hc2) (own_hi0 q1)) hZ (w3 hw) (w2 hw) (by decide) (by decide)) (g := (mkF m 101 #[.val (.long q1), .second, .val (.int p2), .val (.int (p2 &&& (3 : Int32))), .val (.double (FP.l2d q1)), .second, .val (.int (1 : Int32))] [(.double (FP.l2d q1))])) rfl (by rw [hml]; rfl) (argsL := [(.double (FP.l2d q1))]) (rest := []) (lenOf pd__D_Z rfl) rfl (by show 2 * 0 + _ ≤ _; exact Nat.le_of_eq rfl) (hb hby at_101) (fun _ _ => ⟨rfl, e0, (by decide : 0 + 0 ≤ _), (by decide : 0 + 0 ≤ _)⟩)
      dsimp only [Pt.U, Pt.locs, Pt.cells, Pt.slots] at X4 l4 y4 z4 st4 hQ4
      subst l4 y4 z4
      obtain ⟨Nq4, eq4, hR4⟩ := hQ4
      have N4 := Fr.app N0 Nq4
      obtain rfl := hR4
      refine Gets.of st4 ?_
      show Gets p e below _ (T4.setTop (mkF m 104 #[.val (.long q1), .second, .val (.int p2), .val (.int (p2 &&& (3 : Int32))), .val (.double (FP.l2d q1)), .second, .val (.int (1 : Int32))] [(.int (1 : Int32))]))
      refine Gets.of (fun t k => XS.iload X4.here hx rfl (hb hby at_104) rfl  k) ?_
      refine Gets.of (fun t k => XS.icmpNo X4.here hx rfl (hb hby at_106) rfl (teq (by decide : (1 : Int32) = (1 : Int32))).2 k) ?_
      show Gets p e below _ (T4.setTop (mkF m 109 #[.val (.long q1), .second, .val (.int p2), .val (.int (p2 &&& (3 : Int32))), .val (.double (FP.l2d q1)), .second, .val (.int (1 : Int32))] []))
      refine Gets.of (fun t k => XS.iconst X4.here hx rfl (hb hby at_109) k) ?_
      refine Gets.of (fun t k => XS.goto X4.here hx rfl (pc0 := 110) (pc' := 114) rfl (hb hby at_110) (by decide) (by decide) k) ?_
      show Gets p e below _ (T4.setTop (mkF m 114 #[.val (.long q1), .second, .val (.int p2), .val (.int (p2 &&& (3 : Int32))), .val (.double (FP.l2d q1)), .second, .val (.int (1 : Int32))] [(.int (1 : Int32))]))
      refine Gets.retN X4 hx (t := .boolean) Bd.returns (by simp) (hb hby at_114) ?_ (by decide) (by decide)
      rw [eq4]
      exact ⟨N4, rfl, rfl⟩
  · skip
    refine Gets.of (fun t k => XS.ifYes X0.here hx rfl (pc0 := 5) (pc' := 28) rfl (hb hby at_5) rfl ((if0 _ _).trans (feq hc1).2) (by decide) (by decide) k) ?_
    show Gets p e below _ (s₁.setTop (mkF m 28 #[.val (.long q1), .second, .val (.int p2), .val (.int (p2 &&& (3 : Int32))), .unset, .unset, .unset] []))
    refine Gets.of (fun t k => XS.iloadN X0.here hx rfl (hb hby at_28) rfl  k) ?_
    refine Gets.of (fun t k => XS.iconst X0.here hx rfl (hb hby at_29) k) ?_
    by_cases hc5 : (p2 &&& (3 : Int32)) = (1 : Int32)
    · skip
      refine Gets.of (fun t k => XS.icmpNo X0.here hx rfl (hb hby at_30) rfl (teq hc5).2 k) ?_
      show Gets p e below _ (s₁.setTop (mkF m 33 #[.val (.long q1), .second, .val (.int p2), .val (.int (p2 &&& (3 : Int32))), .unset, .unset, .unset] []))
      refine Gets.of (fun t k => XS.lloadN X0.here hx rfl (hb hby at_33) rfl  k) ?_
      refine Gets.of (fun t k => XS.l2dS X0.here hx rfl (hb hby at_34) rfl rfl k) ?_
      show Gets p e below _ (s₁.setTop (mkF m 35 #[.val (.long q1), .second, .val (.int p2), .val (.int (p2 &&& (3 : Int32))), .unset, .unset, .unset] [(.double (FP.l2d q1))]))
      refine Gets.of (fun t k => X0.ldc2DoubleC hx hown (mvT hZ (w6 hw)) (g := (mkF m 35 #[.val (.long q1), .second, .val (.int p2), .val (.int (p2 &&& (3 : Int32))), .unset, .unset, .unset] [(.double (FP.l2d q1))])) rfl (hb hby at_35) t k) ?_
      show Gets p e below _ (s₁.setTop (mkF m 38 #[.val (.long q1), .second, .val (.int p2), .val (.int (p2 &&& (3 : Int32))), .unset, .unset, .unset] [(.double (9094988921128908188 : UInt64)), (.double (FP.l2d q1))]))
      refine Gets.of (fun t k => XS.dmulS X0.here hx rfl (hb hby at_38) rfl (own_nn1 q1) rfl k) ?_
      show Gets p e below _ (s₁.setTop (mkF m 39 #[.val (.long q1), .second, .val (.int p2), .val (.int (p2 &&& (3 : Int32))), .unset, .unset, .unset] [(.double (FP.dmul (FP.l2d q1) (9094988921128908188 : UInt64)))]))
      refine Gets.of (fun t k => X0.ldc2DoubleC hx hown (mvT hZ (w6 hw)) (g := (mkF m 39 #[.val (.long q1), .second, .val (.int p2), .val (.int (p2 &&& (3 : Int32))), .unset, .unset, .unset] [(.double (FP.dmul (FP.l2d q1) (9094988921128908188 : UInt64)))])) rfl (hb hby at_39) t k) ?_
      show Gets p e below _ (s₁.setTop (mkF m 42 #[.val (.long q1), .second, .val (.int p2), .val (.int (p2 &&& (3 : Int32))), .unset, .unset, .unset] [(.double (9094988921128908188 : UInt64)), (.double (FP.dmul (FP.l2d q1) (9094988921128908188 : UInt64)))]))
      refine Gets.of (fun t k => XS.dmulS X0.here hx rfl (hb hby at_42) rfl (own_nn2 q1) rfl k) ?_
      show Gets p e below _ (s₁.setTop (mkF m 43 #[.val (.long q1), .second, .val (.int p2), .val (.int (p2 &&& (3 : Int32))), .unset, .unset, .unset] [(.double (FP.dmul (FP.dmul (FP.l2d q1) (9094988921128908188 : UInt64)) (9094988921128908188 : UInt64)))]))
      refine Gets.of (fun t k => XS.dstore X0.here hx rfl (hb hby at_43) rfl (l' := #[.val (.long q1), .second, .val (.int p2), .val (.int (p2 &&& (3 : Int32))), .val (.double (FP.dmul (FP.dmul (FP.l2d q1) (9094988921128908188 : UInt64)) (9094988921128908188 : UInt64))), .second, .unset]) rfl k) ?_
      show Gets p e below _ (s₁.setTop (mkF m 45 #[.val (.long q1), .second, .val (.int p2), .val (.int (p2 &&& (3 : Int32))), .val (.double (FP.dmul (FP.dmul (FP.l2d q1) (9094988921128908188 : UInt64)) (9094988921128908188 : UInt64))), .second, .unset] []))
      refine Gets.of (fun t k => XS.lloadN X0.here hx rfl (hb hby at_45) rfl  k) ?_
      refine Gets.of (fun t k => XS.lconst X0.here hx rfl (hb hby at_46) k) ?_
      refine Gets.of (fun t k => XS.lcmp X0.here hx rfl (hb hby at_47) rfl k) ?_
      show Gets p e below _ (s₁.setTop (mkF m 48 #[.val (.long q1), .second, .val (.int p2), .val (.int (p2 &&& (3 : Int32))), .val (.double (FP.dmul (FP.dmul (FP.l2d q1) (9094988921128908188 : UInt64)) (9094988921128908188 : UInt64))), .second, .unset] [(.int (lcmpW q1 (0 : Int64)))]))
      by_cases hc6 : q1 = (0 : Int64)
      · skip
        refine Gets.of (fun t k => XS.ifNo X0.here hx rfl (hb hby at_48) rfl ((if0 _ _).trans (teq ((lw_eq _ _).mpr hc6)).2) k) ?_
        show Gets p e below _ (s₁.setTop (mkF m 51 #[.val (.long q1), .second, .val (.int p2), .val (.int (p2 &&& (3 : Int32))), .val (.double (FP.dmul (FP.dmul (FP.l2d q1) (9094988921128908188 : UInt64)) (9094988921128908188 : UInt64))), .second, .unset] []))
        refine Gets.of (fun t k => XS.iconst X0.here hx rfl (hb hby at_51) k) ?_
        refine Gets.of (fun t k => XS.goto X0.here hx rfl (pc0 := 52) (pc' := 56) rfl (hb hby at_52) (by decide) (by decide) k) ?_
        show Gets p e below _ (s₁.setTop (mkF m 56 #[.val (.long q1), .second, .val (.int p2), .val (.int (p2 &&& (3 : Int32))), .val (.double (FP.dmul (FP.dmul (FP.l2d q1) (9094988921128908188 : UInt64)) (9094988921128908188 : UInt64))), .second, .unset] [(.int (1 : Int32))]))
        refine Gets.of (fun t k => XS.istore X0.here hx rfl (hb hby at_56) rfl (l' := #[.val (.long q1), .second, .val (.int p2), .val (.int (p2 &&& (3 : Int32))), .val (.double (FP.dmul (FP.dmul (FP.l2d q1) (9094988921128908188 : UInt64)) (9094988921128908188 : UInt64))), .second, .val (.int (1 : Int32))]) rfl k) ?_
        show Gets p e below _ (s₁.setTop (mkF m 58 #[.val (.long q1), .second, .val (.int p2), .val (.int (p2 &&& (3 : Int32))), .val (.double (FP.dmul (FP.dmul (FP.l2d q1) (9094988921128908188 : UInt64)) (9094988921128908188 : UInt64))), .second, .val (.int (1 : Int32))] []))
        refine Gets.of (fun t k => XS.goto X0.here hx rfl (pc0 := 58) (pc' := 99) rfl (hb hby at_58) (by decide) (by decide) k) ?_
        show Gets p e below _ (s₁.setTop (mkF m 99 #[.val (.long q1), .second, .val (.int p2), .val (.int (p2 &&& (3 : Int32))), .val (.double (FP.dmul (FP.dmul (FP.l2d q1) (9094988921128908188 : UInt64)) (9094988921128908188 : UInt64))), .second, .val (.int (1 : Int32))] []))
        refine Gets.of (fun t k => XS.dload X0.here hx rfl (hb hby at_99) rfl k) ?_
        show Gets p e below _ (s₁.setTop (mkF m 101 #[.val (.long q1), .second, .val (.int p2), .val (.int (p2 &&& (3 : Int32))), .val (.double (FP.dmul (FP.dmul (FP.l2d q1) (9094988921128908188 : UInt64)) (9094988921128908188 : UInt64))), .second, .val (.int (1 : Int32))] [(.double (FP.dmul (FP.dmul (FP.l2d q1) (9094988921128908188 : UInt64)) (9094988921128908188 : UInt64)))]))
        obtain ⟨_, _, ⟨T7, L7, k7, n7⟩, -, X7, ⟨Lc7, hQ7, l7, y7, z7⟩, st7⟩ := Jvm.LawKit.callS X0 hx (y := (⟨cn0, "isAcceptedValue", "(D)Z"⟩ : MethodName)) hown (mvT hZ (w0 hw)) (mvT hZ (w1 hw)) (mvT hZ (w2 hw)) (mvT hZ (w3 hw)) (by decide) (backOf (W := 0) (r2_isAcceptedValue l Z a0 hw [] (FP.dmul (FP.dmul (FP.l2d q1) (9094988921128908188 : UInt64)) (9094988921128908188 : UInt64)) h0 n0 O0 (own_lo1_zero hc6) (own_hi1_zero hc6)) hZ (w3 hw) (w2 hw) (by decide) (by decide)) (g := (mkF m 101 #[.val (.long q1), .second, .val (.int p2), .val (.int (p2 &&& (3 : Int32))), .val (.double (FP.dmul (FP.dmul (FP.l2d q1) (9094988921128908188 : UInt64)) (9094988921128908188 : UInt64))), .second, .val (.int (1 : Int32))] [(.double (FP.dmul (FP.dmul (FP.l2d q1) (9094988921128908188 : UInt64)) (9094988921128908188 : UInt64)))])) rfl (by rw [hml]; rfl) (argsL := [(.double (FP.dmul (FP.dmul (FP.l2d q1) (9094988921128908188 : UInt64)) (9094988921128908188 : UInt64)))]) (rest := []) (lenOf pd__D_Z rfl) rfl (by show 2 * 0 + _ ≤ _; exact Nat.le_of_eq rfl) (hb hby at_101) (fun _ _ => ⟨rfl, e0, (by decide : 0 + 0 ≤ _), (by decide : 0 + 0 ≤ _)⟩)
        dsimp only [Pt.U, Pt.locs, Pt.cells, Pt.slots] at X7 l7 y7 z7 st7 hQ7
        subst l7 y7 z7
        obtain ⟨Nq7, eq7, hR7⟩ := hQ7
        have N7 := Fr.app N0 Nq7
        obtain rfl := hR7
        refine Gets.of st7 ?_
        show Gets p e below _ (T7.setTop (mkF m 104 #[.val (.long q1), .second, .val (.int p2), .val (.int (p2 &&& (3 : Int32))), .val (.double (FP.dmul (FP.dmul (FP.l2d q1) (9094988921128908188 : UInt64)) (9094988921128908188 : UInt64))), .second, .val (.int (1 : Int32))] [(.int (1 : Int32))]))
        refine Gets.of (fun t k => XS.iload X7.here hx rfl (hb hby at_104) rfl  k) ?_
        refine Gets.of (fun t k => XS.icmpNo X7.here hx rfl (hb hby at_106) rfl (teq (by decide : (1 : Int32) = (1 : Int32))).2 k) ?_
        show Gets p e below _ (T7.setTop (mkF m 109 #[.val (.long q1), .second, .val (.int p2), .val (.int (p2 &&& (3 : Int32))), .val (.double (FP.dmul (FP.dmul (FP.l2d q1) (9094988921128908188 : UInt64)) (9094988921128908188 : UInt64))), .second, .val (.int (1 : Int32))] []))
        refine Gets.of (fun t k => XS.iconst X7.here hx rfl (hb hby at_109) k) ?_
        refine Gets.of (fun t k => XS.goto X7.here hx rfl (pc0 := 110) (pc' := 114) rfl (hb hby at_110) (by decide) (by decide) k) ?_
        show Gets p e below _ (T7.setTop (mkF m 114 #[.val (.long q1), .second, .val (.int p2), .val (.int (p2 &&& (3 : Int32))), .val (.double (FP.dmul (FP.dmul (FP.l2d q1) (9094988921128908188 : UInt64)) (9094988921128908188 : UInt64))), .second, .val (.int (1 : Int32))] [(.int (1 : Int32))]))
        refine Gets.retN X7 hx (t := .boolean) Bd.returns (by simp) (hb hby at_114) ?_ (by decide) (by decide)
        rw [eq7]
        exact ⟨N7, rfl, rfl⟩
      · skip
        refine Gets.of (fun t k => XS.ifYes X0.here hx rfl (pc0 := 48) (pc' := 55) rfl (hb hby at_48) rfl ((if0 _ _).trans (feq (mt (lw_eq _ _).mp hc6)).2) (by decide) (by decide) k) ?_
        show Gets p e below _ (s₁.setTop (mkF m 55 #[.val (.long q1), .second, .val (.int p2), .val (.int (p2 &&& (3 : Int32))), .val (.double (FP.dmul (FP.dmul (FP.l2d q1) (9094988921128908188 : UInt64)) (9094988921128908188 : UInt64))), .second, .unset] []))
        refine Gets.of (fun t k => XS.iconst X0.here hx rfl (hb hby at_55) k) ?_
        refine Gets.of (fun t k => XS.istore X0.here hx rfl (hb hby at_56) rfl (l' := #[.val (.long q1), .second, .val (.int p2), .val (.int (p2 &&& (3 : Int32))), .val (.double (FP.dmul (FP.dmul (FP.l2d q1) (9094988921128908188 : UInt64)) (9094988921128908188 : UInt64))), .second, .val (.int (0 : Int32))]) rfl k) ?_
        show Gets p e below _ (s₁.setTop (mkF m 58 #[.val (.long q1), .second, .val (.int p2), .val (.int (p2 &&& (3 : Int32))), .val (.double (FP.dmul (FP.dmul (FP.l2d q1) (9094988921128908188 : UInt64)) (9094988921128908188 : UInt64))), .second, .val (.int (0 : Int32))] []))
        refine Gets.of (fun t k => XS.goto X0.here hx rfl (pc0 := 58) (pc' := 99) rfl (hb hby at_58) (by decide) (by decide) k) ?_
        show Gets p e below _ (s₁.setTop (mkF m 99 #[.val (.long q1), .second, .val (.int p2), .val (.int (p2 &&& (3 : Int32))), .val (.double (FP.dmul (FP.dmul (FP.l2d q1) (9094988921128908188 : UInt64)) (9094988921128908188 : UInt64))), .second, .val (.int (0 : Int32))] []))
        refine Gets.of (fun t k => XS.dload X0.here hx rfl (hb hby at_99) rfl k) ?_
        show Gets p e below _ (s₁.setTop (mkF m 101 #[.val (.long q1), .second, .val (.int p2), .val (.int (p2 &&& (3 : Int32))), .val (.double (FP.dmul (FP.dmul (FP.l2d q1) (9094988921128908188 : UInt64)) (9094988921128908188 : UInt64))), .second, .val (.int (0 : Int32))] [(.double (FP.dmul (FP.dmul (FP.l2d q1) (9094988921128908188 : UInt64)) (9094988921128908188 : UInt64)))]))
        by_cases hc8 : q1 < (0 : Int64)
        · skip
          obtain ⟨_, _, ⟨T9, L9, k9, n9⟩, -, X9, ⟨Lc9, hQ9, l9, y9, z9⟩, st9⟩ := Jvm.LawKit.callS X0 hx (y := (⟨cn0, "isAcceptedValue", "(D)Z"⟩ : MethodName)) hown (mvT hZ (w0 hw)) (mvT hZ (w1 hw)) (mvT hZ (w2 hw)) (mvT hZ (w3 hw)) (by decide) (backOf (W := 0) (r1_isAcceptedValue l Z a0 hw [] (FP.dmul (FP.dmul (FP.l2d q1) (9094988921128908188 : UInt64)) (9094988921128908188 : UInt64)) h0 n0 O0 (own_lo1_neg hc8)) hZ (w3 hw) (w2 hw) (by decide) (by decide)) (g := (mkF m 101 #[.val (.long q1), .second, .val (.int p2), .val (.int (p2 &&& (3 : Int32))), .val (.double (FP.dmul (FP.dmul (FP.l2d q1) (9094988921128908188 : UInt64)) (9094988921128908188 : UInt64))), .second, .val (.int (0 : Int32))] [(.double (FP.dmul (FP.dmul (FP.l2d q1) (9094988921128908188 : UInt64)) (9094988921128908188 : UInt64)))])) rfl (by rw [hml]; rfl) (argsL := [(.double (FP.dmul (FP.dmul (FP.l2d q1) (9094988921128908188 : UInt64)) (9094988921128908188 : UInt64)))]) (rest := []) (lenOf pd__D_Z rfl) rfl (by show 2 * 0 + _ ≤ _; exact Nat.le_of_eq rfl) (hb hby at_101) (fun _ _ => ⟨rfl, e0, (by decide : 0 + 0 ≤ _), (by decide : 0 + 0 ≤ _)⟩)
          dsimp only [Pt.U, Pt.locs, Pt.cells, Pt.slots] at X9 l9 y9 z9 st9 hQ9
          subst l9 y9 z9
          obtain ⟨Nq9, eq9, hR9⟩ := hQ9
          have N9 := Fr.app N0 Nq9
          obtain rfl := hR9
          refine Gets.of st9 ?_
          show Gets p e below _ (T9.setTop (mkF m 104 #[.val (.long q1), .second, .val (.int p2), .val (.int (p2 &&& (3 : Int32))), .val (.double (FP.dmul (FP.dmul (FP.l2d q1) (9094988921128908188 : UInt64)) (9094988921128908188 : UInt64))), .second, .val (.int (0 : Int32))] [(.int (0 : Int32))]))
          refine Gets.of (fun t k => XS.iload X9.here hx rfl (hb hby at_104) rfl  k) ?_
          refine Gets.of (fun t k => XS.icmpNo X9.here hx rfl (hb hby at_106) rfl (teq (by decide : (0 : Int32) = (0 : Int32))).2 k) ?_
          show Gets p e below _ (T9.setTop (mkF m 109 #[.val (.long q1), .second, .val (.int p2), .val (.int (p2 &&& (3 : Int32))), .val (.double (FP.dmul (FP.dmul (FP.l2d q1) (9094988921128908188 : UInt64)) (9094988921128908188 : UInt64))), .second, .val (.int (0 : Int32))] []))
          refine Gets.of (fun t k => XS.iconst X9.here hx rfl (hb hby at_109) k) ?_
          refine Gets.of (fun t k => XS.goto X9.here hx rfl (pc0 := 110) (pc' := 114) rfl (hb hby at_110) (by decide) (by decide) k) ?_
          show Gets p e below _ (T9.setTop (mkF m 114 #[.val (.long q1), .second, .val (.int p2), .val (.int (p2 &&& (3 : Int32))), .val (.double (FP.dmul (FP.dmul (FP.l2d q1) (9094988921128908188 : UInt64)) (9094988921128908188 : UInt64))), .second, .val (.int (0 : Int32))] [(.int (1 : Int32))]))
          refine Gets.retN X9 hx (t := .boolean) Bd.returns (by simp) (hb hby at_114) ?_ (by decide) (by decide)
          rw [eq9]
          exact ⟨N9, rfl, rfl⟩
        · skip
          obtain ⟨_, _, ⟨T10, L10, k10, n10⟩, -, X10, ⟨Lc10, hQ10, l10, y10, z10⟩, st10⟩ := Jvm.LawKit.callS X0 hx (y := (⟨cn0, "isAcceptedValue", "(D)Z"⟩ : MethodName)) hown (mvT hZ (w0 hw)) (mvT hZ (w1 hw)) (mvT hZ (w2 hw)) (mvT hZ (w3 hw)) (by decide) (backOf (W := 0) (r3_isAcceptedValue l Z a0 hw [] (FP.dmul (FP.dmul (FP.l2d q1) (9094988921128908188 : UInt64)) (9094988921128908188 : UInt64)) h0 n0 O0 (own_lo1_pos hc6 hc8) (own_hi1_pos hc6 hc8)) hZ (w3 hw) (w2 hw) (by decide) (by decide)) (g := (mkF m 101 #[.val (.long q1), .second, .val (.int p2), .val (.int (p2 &&& (3 : Int32))), .val (.double (FP.dmul (FP.dmul (FP.l2d q1) (9094988921128908188 : UInt64)) (9094988921128908188 : UInt64))), .second, .val (.int (0 : Int32))] [(.double (FP.dmul (FP.dmul (FP.l2d q1) (9094988921128908188 : UInt64)) (9094988921128908188 : UInt64)))])) rfl (by rw [hml]; rfl) (argsL := [(.double (FP.dmul (FP.dmul (FP.l2d q1) (9094988921128908188 : UInt64)) (9094988921128908188 : UInt64)))]) (rest := []) (lenOf pd__D_Z rfl) rfl (by show 2 * 0 + _ ≤ _; exact Nat.le_of_eq rfl) (hb hby at_101) (fun _ _ => ⟨rfl, e0, (by decide : 0 + 0 ≤ _), (by decide : 0 + 0 ≤ _)⟩)
          dsimp only [Pt.U, Pt.locs, Pt.cells, Pt.slots] at X10 l10 y10 z10 st10 hQ10
          subst l10 y10 z10
          obtain ⟨Nq10, eq10, hR10⟩ := hQ10
          have N10 := Fr.app N0 Nq10
          obtain rfl := hR10
          refine Gets.of st10 ?_
          show Gets p e below _ (T10.setTop (mkF m 104 #[.val (.long q1), .second, .val (.int p2), .val (.int (p2 &&& (3 : Int32))), .val (.double (FP.dmul (FP.dmul (FP.l2d q1) (9094988921128908188 : UInt64)) (9094988921128908188 : UInt64))), .second, .val (.int (0 : Int32))] [(.int (0 : Int32))]))
          refine Gets.of (fun t k => XS.iload X10.here hx rfl (hb hby at_104) rfl  k) ?_
          refine Gets.of (fun t k => XS.icmpNo X10.here hx rfl (hb hby at_106) rfl (teq (by decide : (0 : Int32) = (0 : Int32))).2 k) ?_
          show Gets p e below _ (T10.setTop (mkF m 109 #[.val (.long q1), .second, .val (.int p2), .val (.int (p2 &&& (3 : Int32))), .val (.double (FP.dmul (FP.dmul (FP.l2d q1) (9094988921128908188 : UInt64)) (9094988921128908188 : UInt64))), .second, .val (.int (0 : Int32))] []))
          refine Gets.of (fun t k => XS.iconst X10.here hx rfl (hb hby at_109) k) ?_
          refine Gets.of (fun t k => XS.goto X10.here hx rfl (pc0 := 110) (pc' := 114) rfl (hb hby at_110) (by decide) (by decide) k) ?_
          show Gets p e below _ (T10.setTop (mkF m 114 #[.val (.long q1), .second, .val (.int p2), .val (.int (p2 &&& (3 : Int32))), .val (.double (FP.dmul (FP.dmul (FP.l2d q1) (9094988921128908188 : UInt64)) (9094988921128908188 : UInt64))), .second, .val (.int (0 : Int32))] [(.int (1 : Int32))]))
          refine Gets.retN X10 hx (t := .boolean) Bd.returns (by simp) (hb hby at_114) ?_ (by decide) (by decide)
          rw [eq10]
          exact ⟨N10, rfl, rfl⟩
    · skip
      refine Gets.of (fun t k => XS.icmpYes X0.here hx rfl (pc0 := 30) (pc' := 61) rfl (hb hby at_30) rfl (feq hc5).2 (by decide) (by decide) k) ?_
      show Gets p e below _ (s₁.setTop (mkF m 61 #[.val (.long q1), .second, .val (.int p2), .val (.int (p2 &&& (3 : Int32))), .unset, .unset, .unset] []))
      refine Gets.of (fun t k => XS.iloadN X0.here hx rfl (hb hby at_61) rfl  k) ?_
      refine Gets.of (fun t k => XS.iconst X0.here hx rfl (hb hby at_62) k) ?_
      by_cases hc11 : (p2 &&& (3 : Int32)) = (2 : Int32)
      · skip
        refine Gets.of (fun t k => XS.icmpNo X0.here hx rfl (hb hby at_63) rfl (teq hc11).2 k) ?_
        show Gets p e below _ (s₁.setTop (mkF m 66 #[.val (.long q1), .second, .val (.int p2), .val (.int (p2 &&& (3 : Int32))), .unset, .unset, .unset] []))
        refine Gets.of (fun t k => XS.dconst0 X0.here hx rfl (hb hby at_66) rfl k) ?_
        show Gets p e below _ (s₁.setTop (mkF m 67 #[.val (.long q1), .second, .val (.int p2), .val (.int (p2 &&& (3 : Int32))), .unset, .unset, .unset] [(.double FP.dconst0)]))
        refine Gets.of (fun t k => XS.lloadN X0.here hx rfl (hb hby at_67) rfl  k) ?_
        refine Gets.of (fun t k => XS.l2dS X0.here hx rfl (hb hby at_68) rfl rfl k) ?_
        show Gets p e below _ (s₁.setTop (mkF m 69 #[.val (.long q1), .second, .val (.int p2), .val (.int (p2 &&& (3 : Int32))), .unset, .unset, .unset] [(.double (FP.l2d q1)), (.double FP.dconst0)]))
        refine Gets.of (fun t k => XS.dmulS X0.here hx rfl (hb hby at_69) rfl (own_nn3 q1) rfl k) ?_
        show Gets p e below _ (s₁.setTop (mkF m 70 #[.val (.long q1), .second, .val (.int p2), .val (.int (p2 &&& (3 : Int32))), .unset, .unset, .unset] [(.double (FP.dmul FP.dconst0 (FP.l2d q1)))]))
        refine Gets.of (fun t k => XS.dstore X0.here hx rfl (hb hby at_70) rfl (l' := #[.val (.long q1), .second, .val (.int p2), .val (.int (p2 &&& (3 : Int32))), .val (.double (FP.dmul FP.dconst0 (FP.l2d q1))), .second, .unset]) rfl k) ?_
        show Gets p e below _ (s₁.setTop (mkF m 72 #[.val (.long q1), .second, .val (.int p2), .val (.int (p2 &&& (3 : Int32))), .val (.double (FP.dmul FP.dconst0 (FP.l2d q1))), .second, .unset] []))
        refine Gets.of (fun t k => XS.iconst X0.here hx rfl (hb hby at_72) k) ?_
        refine Gets.of (fun t k => XS.istore X0.here hx rfl (hb hby at_73) rfl (l' := #[.val (.long q1), .second, .val (.int p2), .val (.int (p2 &&& (3 : Int32))), .val (.double (FP.dmul FP.dconst0 (FP.l2d q1))), .second, .val (.int (1 : Int32))]) rfl k) ?_
        show Gets p e below _ (s₁.setTop (mkF m 75 #[.val (.long q1), .second, .val (.int p2), .val (.int (p2 &&& (3 : Int32))), .val (.double (FP.dmul FP.dconst0 (FP.l2d q1))), .second, .val (.int (1 : Int32))] []))
        refine Gets.of (fun t k => XS.goto X0.here hx rfl (pc0 := 75) (pc' := 99) rfl (hb hby at_75) (by decide) (by decide) k) ?_
        show Gets p e below _ (s₁.setTop (mkF m 99 #[.val (.long q1), .second, .val (.int p2), .val (.int (p2 &&& (3 : Int32))), .val (.double (FP.dmul FP.dconst0 (FP.l2d q1))), .second, .val (.int (1 : Int32))] []))
        refine Gets.of (fun t k => XS.dload X0.here hx rfl (hb hby at_99) rfl k) ?_
        show Gets p e below _ (s₁.setTop (mkF m 101 #[.val (.long q1), .second, .val (.int p2), .val (.int (p2 &&& (3 : Int32))), .val (.double (FP.dmul FP.dconst0 (FP.l2d q1))), .second, .val (.int (1 : Int32))] [(.double (FP.dmul FP.dconst0 (FP.l2d q1)))]))
        obtain ⟨_, _, ⟨T12, L12, k12, n12⟩, -, X12, ⟨Lc12, hQ12, l12, y12, z12⟩, st12⟩ := Jvm.LawKit.callS X0 hx (y := (⟨cn0, "isAcceptedValue", "(D)Z"⟩ : MethodName)) hown (mvT hZ (w0 hw)) (mvT hZ (w1 hw)) (mvT hZ (w2 hw)) (mvT hZ (w3 hw)) (by decide) (backOf (W := 0) (r2_isAcceptedValue l Z a0 hw [] (FP.dmul FP.dconst0 (FP.l2d q1)) h0 n0 O0 (own_lo2 q1) (own_hi2 q1)) hZ (w3 hw) (w2 hw) (by decide) (by decide)) (g := (mkF m 101 #[.val (.long q1), .second, .val (.int p2), .val (.int (p2 &&& (3 : Int32))), .val (.double (FP.dmul FP.dconst0 (FP.l2d q1))), .second, .val (.int (1 : Int32))] [(.double (FP.dmul FP.dconst0 (FP.l2d q1)))])) rfl (by rw [hml]; rfl) (argsL := [(.double (FP.dmul FP.dconst0 (FP.l2d q1)))]) (rest := []) (lenOf pd__D_Z rfl) rfl (by show 2 * 0 + _ ≤ _; exact Nat.le_of_eq rfl) (hb hby at_101) (fun _ _ => ⟨rfl, e0, (by decide : 0 + 0 ≤ _), (by decide : 0 + 0 ≤ _)⟩)
        dsimp only [Pt.U, Pt.locs, Pt.cells, Pt.slots] at X12 l12 y12 z12 st12 hQ12
        subst l12 y12 z12
        obtain ⟨Nq12, eq12, hR12⟩ := hQ12
        have N12 := Fr.app N0 Nq12
        obtain rfl := hR12
        refine Gets.of st12 ?_
        show Gets p e below _ (T12.setTop (mkF m 104 #[.val (.long q1), .second, .val (.int p2), .val (.int (p2 &&& (3 : Int32))), .val (.double (FP.dmul FP.dconst0 (FP.l2d q1))), .second, .val (.int (1 : Int32))] [(.int (1 : Int32))]))
        refine Gets.of (fun t k => XS.iload X12.here hx rfl (hb hby at_104) rfl  k) ?_
        refine Gets.of (fun t k => XS.icmpNo X12.here hx rfl (hb hby at_106) rfl (teq (by decide : (1 : Int32) = (1 : Int32))).2 k) ?_
        show Gets p e below _ (T12.setTop (mkF m 109 #[.val (.long q1), .second, .val (.int p2), .val (.int (p2 &&& (3 : Int32))), .val (.double (FP.dmul FP.dconst0 (FP.l2d q1))), .second, .val (.int (1 : Int32))] []))
        refine Gets.of (fun t k => XS.iconst X12.here hx rfl (hb hby at_109) k) ?_
        refine Gets.of (fun t k => XS.goto X12.here hx rfl (pc0 := 110) (pc' := 114) rfl (hb hby at_110) (by decide) (by decide) k) ?_
        show Gets p e below _ (T12.setTop (mkF m 114 #[.val (.long q1), .second, .val (.int p2), .val (.int (p2 &&& (3 : Int32))), .val (.double (FP.dmul FP.dconst0 (FP.l2d q1))), .second, .val (.int (1 : Int32))] [(.int (1 : Int32))]))
        refine Gets.retN X12 hx (t := .boolean) Bd.returns (by simp) (hb hby at_114) ?_ (by decide) (by decide)
        rw [eq12]
        exact ⟨N12, rfl, rfl⟩
      · skip
        refine Gets.of (fun t k => XS.icmpYes X0.here hx rfl (pc0 := 63) (pc' := 78) rfl (hb hby at_63) rfl (feq hc11).2 (by decide) (by decide) k) ?_
        show Gets p e below _ (s₁.setTop (mkF m 78 #[.val (.long q1), .second, .val (.int p2), .val (.int (p2 &&& (3 : Int32))), .unset, .unset, .unset] []))
        refine Gets.of (fun t k => XS.lloadN X0.here hx rfl (hb hby at_78) rfl  k) ?_
        refine Gets.of (fun t k => XS.l2dS X0.here hx rfl (hb hby at_79) rfl rfl k) ?_
        show Gets p e below _ (s₁.setTop (mkF m 80 #[.val (.long q1), .second, .val (.int p2), .val (.int (p2 &&& (3 : Int32))), .unset, .unset, .unset] [(.double (FP.l2d q1))]))
        refine Gets.of (fun t k => X0.ldc2DoubleC hx hown (mvT hZ (w5 hw)) (g := (mkF m 80 #[.val (.long q1), .second, .val (.int p2), .val (.int (p2 &&& (3 : Int32))), .unset, .unset, .unset] [(.double (FP.l2d q1))])) rfl (hb hby at_80) t k) ?_
        show Gets p e below _ (s₁.setTop (mkF m 83 #[.val (.long q1), .second, .val (.int p2), .val (.int (p2 &&& (3 : Int32))), .unset, .unset, .unset] [(.double (4652218415073722368 : UInt64)), (.double (FP.l2d q1))]))
        refine Gets.of (fun t k => XS.ddivS X0.here hx rfl (hb hby at_83) rfl (own_nn4 q1) rfl k) ?_
        show Gets p e below _ (s₁.setTop (mkF m 84 #[.val (.long q1), .second, .val (.int p2), .val (.int (p2 &&& (3 : Int32))), .unset, .unset, .unset] [(.double (FP.ddiv (FP.l2d q1) (4652218415073722368 : UInt64)))]))
        refine Gets.of (fun t k => XS.dstore X0.here hx rfl (hb hby at_84) rfl (l' := #[.val (.long q1), .second, .val (.int p2), .val (.int (p2 &&& (3 : Int32))), .val (.double (FP.ddiv (FP.l2d q1) (4652218415073722368 : UInt64))), .second, .unset]) rfl k) ?_
        show Gets p e below _ (s₁.setTop (mkF m 86 #[.val (.long q1), .second, .val (.int p2), .val (.int (p2 &&& (3 : Int32))), .val (.double (FP.ddiv (FP.l2d q1) (4652218415073722368 : UInt64))), .second, .unset] []))
        refine Gets.of (fun t k => XS.lloadN X0.here hx rfl (hb hby at_86) rfl  k) ?_
        refine Gets.of (fun t k => XS.lconst X0.here hx rfl (hb hby at_87) k) ?_
        refine Gets.of (fun t k => XS.lcmp X0.here hx rfl (hb hby at_88) rfl k) ?_
        show Gets p e below _ (s₁.setTop (mkF m 89 #[.val (.long q1), .second, .val (.int p2), .val (.int (p2 &&& (3 : Int32))), .val (.double (FP.ddiv (FP.l2d q1) (4652218415073722368 : UInt64))), .second, .unset] [(.int (lcmpW q1 (0 : Int64)))]))
        by_cases hc13 : q1 < (0 : Int64)
        · skip
          refine Gets.of (fun t k => XS.ifYes X0.here hx rfl (pc0 := 89) (pc' := 96) rfl (hb hby at_89) rfl ((if0 _ _).trans (tlt ((lw_lt _ _).mpr hc13)).1) (by decide) (by decide) k) ?_
          show Gets p e below _ (s₁.setTop (mkF m 96 #[.val (.long q1), .second, .val (.int p2), .val (.int (p2 &&& (3 : Int32))), .val (.double (FP.ddiv (FP.l2d q1) (4652218415073722368 : UInt64))), .second, .unset] []))
          refine Gets.of (fun t k => XS.iconst X0.here hx rfl (hb hby at_96) k) ?_
          refine Gets.of (fun t k => XS.istore X0.here hx rfl (hb hby at_97) rfl (l' := #[.val (.long q1), .second, .val (.int p2), .val (.int (p2 &&& (3 : Int32))), .val (.double (FP.ddiv (FP.l2d q1) (4652218415073722368 : UInt64))), .second, .val (.int (0 : Int32))]) rfl k) ?_
          show Gets p e below _ (s₁.setTop (mkF m 99 #[.val (.long q1), .second, .val (.int p2), .val (.int (p2 &&& (3 : Int32))), .val (.double (FP.ddiv (FP.l2d q1) (4652218415073722368 : UInt64))), .second, .val (.int (0 : Int32))] []))
          refine Gets.of (fun t k => XS.dload X0.here hx rfl (hb hby at_99) rfl k) ?_
          show Gets p e below _ (s₁.setTop (mkF m 101 #[.val (.long q1), .second, .val (.int p2), .val (.int (p2 &&& (3 : Int32))), .val (.double (FP.ddiv (FP.l2d q1) (4652218415073722368 : UInt64))), .second, .val (.int (0 : Int32))] [(.double (FP.ddiv (FP.l2d q1) (4652218415073722368 : UInt64)))]))
          obtain ⟨_, _, ⟨T14, L14, k14, n14⟩, -, X14, ⟨Lc14, hQ14, l14, y14, z14⟩, st14⟩ := Jvm.LawKit.callS X0 hx (y := (⟨cn0, "isAcceptedValue", "(D)Z"⟩ : MethodName)) hown (mvT hZ (w0 hw)) (mvT hZ (w1 hw)) (mvT hZ (w2 hw)) (mvT hZ (w3 hw)) (by decide) (backOf (W := 0) (r1_isAcceptedValue l Z a0 hw [] (FP.ddiv (FP.l2d q1) (4652218415073722368 : UInt64)) h0 n0 O0 (own_lo3_neg hc13)) hZ (w3 hw) (w2 hw) (by decide) (by decide)) (g := (mkF m 101 #[.val (.long q1), .second, .val (.int p2), .val (.int (p2 &&& (3 : Int32))), .val (.double (FP.ddiv (FP.l2d q1) (4652218415073722368 : UInt64))), .second, .val (.int (0 : Int32))] [(.double (FP.ddiv (FP.l2d q1) (4652218415073722368 : UInt64)))])) rfl (by rw [hml]; rfl) (argsL := [(.double (FP.ddiv (FP.l2d q1) (4652218415073722368 : UInt64)))]) (rest := []) (lenOf pd__D_Z rfl) rfl (by show 2 * 0 + _ ≤ _; exact Nat.le_of_eq rfl) (hb hby at_101) (fun _ _ => ⟨rfl, e0, (by decide : 0 + 0 ≤ _), (by decide : 0 + 0 ≤ _)⟩)
          dsimp only [Pt.U, Pt.locs, Pt.cells, Pt.slots] at X14 l14 y14 z14 st14 hQ14
          subst l14 y14 z14
          obtain ⟨Nq14, eq14, hR14⟩ := hQ14
          have N14 := Fr.app N0 Nq14
          obtain rfl := hR14
          refine Gets.of st14 ?_
          show Gets p e below _ (T14.setTop (mkF m 104 #[.val (.long q1), .second, .val (.int p2), .val (.int (p2 &&& (3 : Int32))), .val (.double (FP.ddiv (FP.l2d q1) (4652218415073722368 : UInt64))), .second, .val (.int (0 : Int32))] [(.int (0 : Int32))]))
          refine Gets.of (fun t k => XS.iload X14.here hx rfl (hb hby at_104) rfl  k) ?_
          refine Gets.of (fun t k => XS.icmpNo X14.here hx rfl (hb hby at_106) rfl (teq (by decide : (0 : Int32) = (0 : Int32))).2 k) ?_
          show Gets p e below _ (T14.setTop (mkF m 109 #[.val (.long q1), .second, .val (.int p2), .val (.int (p2 &&& (3 : Int32))), .val (.double (FP.ddiv (FP.l2d q1) (4652218415073722368 : UInt64))), .second, .val (.int (0 : Int32))] []))
          refine Gets.of (fun t k => XS.iconst X14.here hx rfl (hb hby at_109) k) ?_
          refine Gets.of (fun t k => XS.goto X14.here hx rfl (pc0 := 110) (pc' := 114) rfl (hb hby at_110) (by decide) (by decide) k) ?_
          show Gets p e below _ (T14.setTop (mkF m 114 #[.val (.long q1), .second, .val (.int p2), .val (.int (p2 &&& (3 : Int32))), .val (.double (FP.ddiv (FP.l2d q1) (4652218415073722368 : UInt64))), .second, .val (.int (0 : Int32))] [(.int (1 : Int32))]))
          refine Gets.retN X14 hx (t := .boolean) Bd.returns (by simp) (hb hby at_114) ?_ (by decide) (by decide)
          rw [eq14]
          exact ⟨N14, rfl, rfl⟩
        · skip
          refine Gets.of (fun t k => XS.ifNo X0.here hx rfl (hb hby at_89) rfl ((if0 _ _).trans (flt (mt (lw_lt _ _).mp hc13)).1) k) ?_
          show Gets p e below _ (s₁.setTop (mkF m 92 #[.val (.long q1), .second, .val (.int p2), .val (.int (p2 &&& (3 : Int32))), .val (.double (FP.ddiv (FP.l2d q1) (4652218415073722368 : UInt64))), .second, .unset] []))
          refine Gets.of (fun t k => XS.iconst X0.here hx rfl (hb hby at_92) k) ?_
          refine Gets.of (fun t k => XS.goto X0.here hx rfl (pc0 := 93) (pc' := 97) rfl (hb hby at_93) (by decide) (by decide) k) ?_
          show Gets p e below _ (s₁.setTop (mkF m 97 #[.val (.long q1), .second, .val (.int p2), .val (.int (p2 &&& (3 : Int32))), .val (.double (FP.ddiv (FP.l2d q1) (4652218415073722368 : UInt64))), .second, .unset] [(.int (1 : Int32))]))
          refine Gets.of (fun t k => XS.istore X0.here hx rfl (hb hby at_97) rfl (l' := #[.val (.long q1), .second, .val (.int p2), .val (.int (p2 &&& (3 : Int32))), .val (.double (FP.ddiv (FP.l2d q1) (4652218415073722368 : UInt64))), .second, .val (.int (1 : Int32))]) rfl k) ?_
          show Gets p e below _ (s₁.setTop (mkF m 99 #[.val (.long q1), .second, .val (.int p2), .val (.int (p2 &&& (3 : Int32))), .val (.double (FP.ddiv (FP.l2d q1) (4652218415073722368 : UInt64))), .second, .val (.int (1 : Int32))] []))
          refine Gets.of (fun t k => XS.dload X0.here hx rfl (hb hby at_99) rfl k) ?_
          show Gets p e below _ (s₁.setTop (mkF m 101 #[.val (.long q1), .second, .val (.int p2), .val (.int (p2 &&& (3 : Int32))), .val (.double (FP.ddiv (FP.l2d q1) (4652218415073722368 : UInt64))), .second, .val (.int (1 : Int32))] [(.double (FP.ddiv (FP.l2d q1) (4652218415073722368 : UInt64)))]))
          obtain ⟨_, _, ⟨T15, L15, k15, n15⟩, -, X15, ⟨Lc15, hQ15, l15, y15, z15⟩, st15⟩ := Jvm.LawKit.callS X0 hx (y := (⟨cn0, "isAcceptedValue", "(D)Z"⟩ : MethodName)) hown (mvT hZ (w0 hw)) (mvT hZ (w1 hw)) (mvT hZ (w2 hw)) (mvT hZ (w3 hw)) (by decide) (backOf (W := 0) (r2_isAcceptedValue l Z a0 hw [] (FP.ddiv (FP.l2d q1) (4652218415073722368 : UInt64)) h0 n0 O0 (own_lo3_pos hc13) (own_hi3 q1)) hZ (w3 hw) (w2 hw) (by decide) (by decide)) (g := (mkF m 101 #[.val (.long q1), .second, .val (.int p2), .val (.int (p2 &&& (3 : Int32))), .val (.double (FP.ddiv (FP.l2d q1) (4652218415073722368 : UInt64))), .second, .val (.int (1 : Int32))] [(.double (FP.ddiv (FP.l2d q1) (4652218415073722368 : UInt64)))])) rfl (by rw [hml]; rfl) (argsL := [(.double (FP.ddiv (FP.l2d q1) (4652218415073722368 : UInt64)))]) (rest := []) (lenOf pd__D_Z rfl) rfl (by show 2 * 0 + _ ≤ _; exact Nat.le_of_eq rfl) (hb hby at_101) (fun _ _ => ⟨rfl, e0, (by decide : 0 + 0 ≤ _), (by decide : 0 + 0 ≤ _)⟩)
          dsimp only [Pt.U, Pt.locs, Pt.cells, Pt.slots] at X15 l15 y15 z15 st15 hQ15
          subst l15 y15 z15
          obtain ⟨Nq15, eq15, hR15⟩ := hQ15
          have N15 := Fr.app N0 Nq15
          obtain rfl := hR15
          refine Gets.of st15 ?_
          show Gets p e below _ (T15.setTop (mkF m 104 #[.val (.long q1), .second, .val (.int p2), .val (.int (p2 &&& (3 : Int32))), .val (.double (FP.ddiv (FP.l2d q1) (4652218415073722368 : UInt64))), .second, .val (.int (1 : Int32))] [(.int (1 : Int32))]))
          refine Gets.of (fun t k => XS.iload X15.here hx rfl (hb hby at_104) rfl  k) ?_
          refine Gets.of (fun t k => XS.icmpNo X15.here hx rfl (hb hby at_106) rfl (teq (by decide : (1 : Int32) = (1 : Int32))).2 k) ?_
          show Gets p e below _ (T15.setTop (mkF m 109 #[.val (.long q1), .second, .val (.int p2), .val (.int (p2 &&& (3 : Int32))), .val (.double (FP.ddiv (FP.l2d q1) (4652218415073722368 : UInt64))), .second, .val (.int (1 : Int32))] []))
          refine Gets.of (fun t k => XS.iconst X15.here hx rfl (hb hby at_109) k) ?_
          refine Gets.of (fun t k => XS.goto X15.here hx rfl (pc0 := 110) (pc' := 114) rfl (hb hby at_110) (by decide) (by decide) k) ?_
          show Gets p e below _ (T15.setTop (mkF m 114 #[.val (.long q1), .second, .val (.int p2), .val (.int (p2 &&& (3 : Int32))), .val (.double (FP.ddiv (FP.l2d q1) (4652218415073722368 : UInt64))), .second, .val (.int (1 : Int32))] [(.int (1 : Int32))]))
          refine Gets.retN X15 hx (t := .boolean) Bd.returns (by simp) (hb hby at_114) ?_ (by decide) (by decide)
          rw [eq15]
          exact ⟨N15, rfl, rfl⟩
set_option maxRecDepth 65536 in
set_option maxHeartbeats 40000000 in
theorem comes_1 {Post : Tables → Env → Array Value → State → Outcome → State → Prop} (hpost : ∀ tb e args s v u, (limb_1_1.after args s (.returned v) u = true ∧ limb_1_2.after args s (.returned v) u = true ∧ True) → FrameEnd s (.returned v) u (Jvm.fieldLocs frame_1_writes args s ++ Jvm.arrayLocs frame_1_arrays args s ++ Jvm.staticLocs frame_1_statics s) 0 0 → Post tb e args s (.returned v) u) :
    ArmFor flags0 classFile x code maxLocals ret World_1 tables_1 room_1 Calls_1 rest_1 Pre_1 Post := by
  intro l hfl _ _ p e ha hc hk s m args below hf hA hF happ hP
  obtain ⟨hcalls, hrest, hpre⟩ := hP
  obtain ⟨-, -, -, hnamed, -, -, -, hat⟩ := (Spec.applies_iff hf).mp happ
  obtain ⟨hg, hn⟩ := and_e (Cond.before_iff.mp (show (Jvm.Cond.and given_1 narrow_1).before args s = true from hpre))
  obtain ⟨hcount, hk0⟩ := and_e hg
  obtain ⟨hi0, hk1⟩ := and_e hk0
  have hi1 := hk1
  obtain ⟨w0, w1, rfl⟩ : ∃ w0 w1 : Value, args = #[w0, w1] := by
    have hs : args.size = 2 := by simpa [Cond.value, given_1] using hcount
    obtain ⟨L⟩ := args
    match L, hs with
    | [w0, w1], _ => exact ⟨w0, w1, rfl⟩
  have hw := fun d (hd : d ∈ tables_1) => atoms_spec (ws := Jvm.Cond.code x code maxLocals ret :: tables_1) hat d (List.mem_cons_of_mem _ hd)
  have hfit : Fit s := fun {y c} hc i hi => by
    obtain ⟨ha, rfl⟩ := Array.getElem?_eq_some_iff.mp hc
    have q := List.all_eq_true.mp ((Array.all_eq_true_iff_forall_mem.mp hF) _ (Array.getElem_mem ha)) i (List.mem_range.mpr hi)
    simpa [Array.getElem?_eq_getElem hi] using q
  obtain ⟨i0, ei0⟩ := isL_v hi0
  obtain rfl : w0 = (.long i0) := Option.some.inj ei0
  obtain ⟨i1, ei1⟩ := is_v hi1
  obtain rfl : w1 = (.int i1) := Option.some.inj ei1
  obtain ⟨n, o, h1, h2, h3, _, L, rfl, ⟨N, -, hR⟩, hq⟩ := rm_law l s _ hw tables_1 i0 i1 s.heap s.heap.size (Old.start s)  p e ha hc hk s m _ below hf ((Spec.applies_iff_loose hf).mp happ).1 ⟨rfl, State.Warmed39.refl s, rfl⟩ trivial
  obtain rfl := hR
  refine ⟨n, _, h1, h2, h3, hpost _ _ _ _ _ _ ⟨Cond.after_iff.mpr rfl, Cond.after_iff.mpr (eq_i res_at (Term.int_eval (1)) rfl), trivial⟩ ⟨hq.1, hq.2.1, (hq.2.2.sift fun y hy => Or.inr (N y hy)).mono (by decide) (by decide)⟩⟩
theorem main_1_1 : Claimed_1_1 := comes_1 fun _ _ _ _ _ _ h hF => ⟨h.1, hF⟩
theorem main_1_2 : Claimed_1_2 := comes_1 fun _ _ _ _ _ _ h hF => ⟨h.2.1, hF⟩
end Jvm.Pilot.@@N@@
namespace Jvm.Pilot.@@N@@
open Jvm Jvm.ClassFile Sem Op Lib Jvm.Free Jvm.Stand Jvm.Pilot.@@N@@.Jvm.D
/-! MADE BY PROGRAM (witnessworld.py) out of the Statement's table words and the real class files: 9 classes; the members and pool entries that the words name. The judged class is class 1, her method 1. -/
namespace start1
open Jvm.ClassFile
def u (s : String) : CpInfo := .utf8 (stringToUtf16 s)
/-- a pool by its gaps: so many unusable entries, then the entry; so many at the end -/
def gap : Nat → List CpInfo → List CpInfo
  | 0, r => r
  | n + 1, r => .unusable :: gap n r
def poolList (es : List (Nat × CpInfo)) (last : Nat) : List CpInfo := es.foldr (fun e r => gap e.1 (e.2 :: r)) (gap last [])
def pool (es : List (Nat × CpInfo)) (last : Nat) : Array CpInfo := ⟨poolList es last⟩
def fileOf (pool : Array CpInfo) (this : Nat) (attrs : Array Attribute := #[]) (ms : Array MethodInfo := #[]) (fl : Nat := 33) (sup : Nat := 0) (ifs : Array Nat := #[]) (fds : Array FieldInfo := #[]) : ClassFile where
  minorVersion := 0
  majorVersion := 65
  constantPool := pool
  accessFlags := fl
  thisClass := this
  superClass := sup
  interfaces := ifs
  fields := fds
  methods := ms
  attributes := attrs
def plain (name : String) (sup : Option ClassId) : Class where
  name := name
  kind := .ordinary
  loader := none
  accessFlags := 33
  super := sup
  interfaces := #[]
  cf := none
  fields := #[]
  methods := #[]
  instanceTypes := #[]
  staticTypes := #[]
  resolved := #[]
  callSites := []
  init := .initialized
  statics := none
  mirror := none

def pool0 : Array CpInfo := pool [(5, u "<init>"), (0, u "()V"), (1, .class_ 10), (1, u "java/lang/Object")] 113

def k0m0 : Method := { name := "<init>", desc := "()V", sig := { parameters := [], returnType := none }, accessFlags := 1, code := none }
/-- java/lang/Object -/
def k0 : Class := { plain "java/lang/Object" none with
  accessFlags := 33
  interfaces := #[]
  cf := some (fileOf pool0 8 #[] #[{ accessFlags := 1, nameIndex := 5, descriptorIndex := 6, attributes := #[] }] 33 0 #[] #[])
  fields := #[]
  methods := #[k0m0]
  instanceTypes := #[]
  staticTypes := #[]
  resolved := Array.replicate 124 none
  statics := none }

def pool1 : Array CpInfo := pool [(2, .class_ 4), (1, u "java/lang/Object"), (0, u "<init>"), (0, u "()V"), (0, .double 9094988921128908188), (1, .double 4652218415073722368), (1, .methodref 12 13), (0, .class_ 14), (0, .nameAndType 15 16), (0, u "com/example/unea/unea/model/MarkovChain"), (0, u "isAcceptedValue"), (0, u "(D)Z"), (0, .class_ 18), (0, u "com/example/unea/unea/model/MarkovChainIsAcceptedValuePinLaw"), (2, u "law"), (0, u "(JI)Z")] 3

def k1m0 : Method := { name := "<init>", desc := "()V", sig := { parameters := [], returnType := none }, accessFlags := 1, code := none }
def k1c1 : Code := { maxStack := 4, maxLocals := 7, code := code, exceptionTable := #[], attributes := #[] }
def k1m1 : Method := { name := "law", desc := "(JI)Z", sig := { parameters := [.long, .int], returnType := some .boolean }, accessFlags := 9, code := some k1c1 }
/-- com/example/unea/unea/model/MarkovChainIsAcceptedValuePinLaw -/
def k1 : Class := { plain "com/example/unea/unea/model/MarkovChainIsAcceptedValuePinLaw" (some 0) with
  accessFlags := 49
  interfaces := #[]
  cf := some (fileOf pool1 17 #[] #[{ accessFlags := 1, nameIndex := 5, descriptorIndex := 6, attributes := #[] }, { accessFlags := 9, nameIndex := 21, descriptorIndex := 22, attributes := #[] }] 49 2 #[] #[])
  fields := #[]
  methods := #[k1m0, k1m1]
  instanceTypes := #[]
  staticTypes := #[]
  resolved := Array.replicate 26 none
  statics := none }

def pool2 : Array CpInfo := pool [(2, .class_ 4), (1, u "java/lang/Object"), (3, .class_ 10), (1, u "com/example/unea/unea/model/MarkovChain"), (0, u "kind"), (0, u "Lcom/example/unea/unea/model/MarkovChain$Kind;"), (2, u "stateCount"), (0, u "I"), (2, u "transitionCount"), (2, u "rowStart"), (0, u "[I"), (2, u "successor"), (2, u "probability"), (0, u "[D"), (2, u "jumpRate"), (1, .class_ 37), (1, u "com/example/unea/unea/model/MarkovChain$Kind"), (16, u "isAcceptedValue"), (0, u "(D)Z"), (37, .double 9218868437227405312), (12, u "ROW_SUM_TOLERANCE"), (0, u "D")] 38

def k2c0 : Code := { maxStack := 4, maxLocals := 2, code := prog_22_method_6_code, exceptionTable := #[], attributes := #[] }
def k2m0 : Method := { name := "isAcceptedValue", desc := "(D)Z", sig := { parameters := [.double], returnType := some .boolean }, accessFlags := 8, code := some k2c0 }
/-- com/example/unea/unea/model/MarkovChain -/
def k2 : Class := { plain "com/example/unea/unea/model/MarkovChain" (some 0) with
  accessFlags := 49
  interfaces := #[]
  cf := some (fileOf pool2 8 #[.nestMembers #[35]] #[{ accessFlags := 8, nameIndex := 54, descriptorIndex := 55, attributes := #[] }] 49 2 #[] #[{ accessFlags := 25, nameIndex := 106, descriptorIndex := 107, attributes := #[] }, { accessFlags := 18, nameIndex := 11, descriptorIndex := 12, attributes := #[] }, { accessFlags := 18, nameIndex := 15, descriptorIndex := 16, attributes := #[] }, { accessFlags := 18, nameIndex := 19, descriptorIndex := 16, attributes := #[] }, { accessFlags := 18, nameIndex := 22, descriptorIndex := 23, attributes := #[] }, { accessFlags := 18, nameIndex := 26, descriptorIndex := 23, attributes := #[] }, { accessFlags := 18, nameIndex := 29, descriptorIndex := 30, attributes := #[] }, { accessFlags := 18, nameIndex := 33, descriptorIndex := 30, attributes := #[] }])
  fields := #[{ name := "ROW_SUM_TOLERANCE", type := .double, accessFlags := 25, slot := 0, constantValue := 0 }, { name := "kind", type := (.object "com/example/unea/unea/model/MarkovChain$Kind"), accessFlags := 18, slot := 0, constantValue := 0 }, { name := "stateCount", type := .int, accessFlags := 18, slot := 1, constantValue := 0 }, { name := "transitionCount", type := .int, accessFlags := 18, slot := 2, constantValue := 0 }, { name := "rowStart", type := (.array .int), accessFlags := 18, slot := 3, constantValue := 0 }, { name := "successor", type := (.array .int), accessFlags := 18, slot := 4, constantValue := 0 }, { name := "probability", type := (.array .double), accessFlags := 18, slot := 5, constantValue := 0 }, { name := "jumpRate", type := (.array .double), accessFlags := 18, slot := 6, constantValue := 0 }]
  methods := #[k2m0]
  instanceTypes := #[(.object "com/example/unea/unea/model/MarkovChain$Kind"), .int, .int, (.array .int), (.array .int), (.array .double), (.array .double)]
  staticTypes := #[.double]
  resolved := Array.replicate 146 none
  statics := none }

def pool3 : Array CpInfo := pool [(1, u "java/lang/Cloneable"), (0, .class_ 1), (0, u "java/lang/Object"), (0, .class_ 3)] 3

/-- java/lang/Cloneable -/
def k3 : Class := { plain "java/lang/Cloneable" (some 0) with
  accessFlags := 1537
  interfaces := #[]
  cf := some (fileOf pool3 2 #[] #[] 1537 4 #[] #[])
  fields := #[]
  methods := #[]
  instanceTypes := #[]
  staticTypes := #[]
  resolved := Array.replicate 8 none
  statics := none }

def pool4 : Array CpInfo := pool [(1, u "java/io/Serializable"), (0, .class_ 1), (0, u "java/lang/Object"), (0, .class_ 3)] 3

/-- java/io/Serializable -/
def k4 : Class := { plain "java/io/Serializable" (some 0) with
  accessFlags := 1537
  interfaces := #[]
  cf := some (fileOf pool4 2 #[] #[] 1537 4 #[] #[])
  fields := #[]
  methods := #[]
  instanceTypes := #[]
  staticTypes := #[]
  resolved := Array.replicate 8 none
  statics := none }

/-- the primitive byte -/
def k5 : Class := { plain "byte" none with kind := .primitive 'B', accessFlags := 0x411 }
/-- [B -/
def k6 : Class := { plain "[B" (some 0) with kind := .array 5 .byte, interfaces := #[3, 4], accessFlags := 1041 }

/-- the primitive int -/
def k7 : Class := { plain "int" none with kind := .primitive 'I', accessFlags := 0x411 }
/-- [I -/
def k8 : Class := { plain "[I" (some 0) with kind := .array 7 .int, interfaces := #[3, 4], accessFlags := 1041 }

def heap : Heap := #[]
def classes : Array Class := #[k0, k1, k2, k3, k4, k5, k6, k7, k8]
def interned : List (Array UInt16 × Addr) := []
def slotsUsed : Nat := 0
def theMethod : MethodId := ⟨1, 1⟩
def args0 : Array Value := #[.long 5, .int 5]
def aboutOver (below : List Frame) : State where
  vm := { classes := classes, interned := interned.toArray }
  heap := heap
  slotsUsed := slotsUsed
  threads := #[{ frames := .invoking theMethod args0 :: below }]
def below0 : List Frame := [.native { method := ⟨0, 0⟩, args := #[] }]
def about1 : State := aboutOver below0
def p0 : Program := .bare "" "" ""
def e0 : Env := launch0.env 0 0 0
theorem w_frames : about1.frames = Frame.invoking theMethod args0 :: below0 := rfl
set_option maxRecDepth 65536 in
theorem w_args : argsFit about1.vm theMethod args0 = true := by decide +kernel
set_option maxRecDepth 65536 in
theorem w_heap : heapFits about1 = true := by decide +kernel
set_option maxRecDepth 65536 in
theorem w_runnable : about1.curStatus? = some .runnable := by decide +kernel
set_option maxRecDepth 65536 in
theorem w_alone : about1.alone = true := by decide +kernel
set_option maxRecDepth 65536 in
theorem w_named : about1.methodNamed? x = some theMethod := by decide +kernel
set_option maxRecDepth 65536 in
theorem w_hears : about1.hears theMethod below0 = true := by decide +kernel
set_option maxRecDepth 65536 in
theorem w_ripe : about1.ripe theMethod args0 below0 = true := by decide +kernel
theorem w_running : about1.status = .running := rfl
set_option maxRecDepth 65536 in
theorem w_room : about1.hasRoom e0.platform room_1 = true :=
  launch0.hasRoom_least _ room_1 (by decide +kernel) (by decide +kernel) (by decide +kernel) (by decide +kernel) (by decide +kernel) (by decide +kernel)
theorem allAtoms_all (ts : List Jvm.Cond) (a : Array Jvm.Value) (st : Jvm.State) : (allAtoms ts).before a st = ts.all (fun c => c.before a st) := by
  induction ts with
  | nil => rfl
  | cons c t ih =>
    show (Jvm.Cond.and c (allAtoms t)).before a st = _
    rw [Jvm.Cond.before_and, ih, List.all_cons]
def words1 : List Jvm.Cond := Jvm.Cond.code x code maxLocals ret :: tables_1
/-- a 'code' word, met by the world's own term for the bytes: nothing is compared byte by byte -/
theorem code_word {y : MethodName} {bytes : ByteArray} {mx : Nat} {rt : Option FieldType} {a : Array Value} {s : State} {m : MethodId} {meth : Method} {c : Code} (h1 : s.methodNamed? y = some m) (h2 : s.vm.method? m = some meth) (h3 : meth.code = some c) (h4 : c.code = bytes)
    (h5 : (c.maxLocals == mx && c.exceptionTable.isEmpty && decide (c.maxStack ≤ mostOperands) && decide (meth.sig.returnType = rt) && !meth.locks && decide (parseMethodDescriptor y.desc = some meth.sig)) = true) : (Jvm.Cond.code y bytes mx rt).before a s = true := by
  simp only [Bool.and_eq_true, beq_iff_eq, Bool.not_eq_true', decide_eq_true_eq] at h5
  obtain ⟨⟨⟨⟨⟨g1, g2⟩, g3⟩, g4⟩, g5⟩, g6⟩ := h5
  simp [Cond.before, Cond.holds, Cond.value, h1, h2, h3, h4, g1, g2, g3, g4, g5, g6]
def isCode : Jvm.Cond → Bool
  | .code _ _ _ _ => true
  | _ => false
theorem all_split {L : List Jvm.Cond} {P : Jvm.Cond → Bool} (h1 : L.all (fun c => isCode c || P c) = true) (h2 : ∀ c ∈ L.filter isCode, P c = true) : L.all P = true := by
  refine List.all_eq_true.mpr fun c hc => ?_
  have h := List.all_eq_true.mp h1 c hc
  rcases Bool.eq_false_or_eq_true (isCode c) with hi | hi
  · exact h2 c (List.mem_filter.mpr ⟨hc, hi⟩)
  · simpa [hi] using h
set_option maxRecDepth 65536 in
theorem w_c0 : (Jvm.Cond.code x code maxLocals ret).before args0 about1 = true := code_word (m := ⟨1, 1⟩) (meth := k1m1) (c := k1c1) (by decide +kernel) rfl rfl rfl (by decide +kernel)
set_option maxRecDepth 65536 in
theorem w_c1 : (Jvm.Cond.code ({ cls := "com/example/unea/unea/model/MarkovChain", name := "isAcceptedValue", desc := "(D)Z" } : Jvm.MethodName) prog_22_method_6_code (2 : Nat) (Option.some Jvm.ClassFile.FieldType.boolean)).before args0 about1 = true := code_word (m := ⟨2, 0⟩) (meth := k2m0) (c := k2c0) (by decide +kernel) rfl rfl rfl (by decide +kernel)
def codes1 : List Jvm.Cond := [Jvm.Cond.code x code maxLocals ret, Jvm.Cond.code ({ cls := "com/example/unea/unea/model/MarkovChain", name := "isAcceptedValue", desc := "(D)Z" } : Jvm.MethodName) prog_22_method_6_code (2 : Nat) (Option.some Jvm.ClassFile.FieldType.boolean)]
set_option maxRecDepth 65536 in
theorem codes_eq : words1.filter isCode = codes1 := rfl
theorem w_codes : ∀ c ∈ words1.filter isCode, c.before args0 about1 = true := by
  rw [codes_eq]
  intro c hc
  simp only [codes1, List.mem_cons, List.not_mem_nil, or_false] at hc
  rcases hc with rfl | rfl
  · exact w_c0
  · exact w_c1
set_option maxRecDepth 65536 in
theorem w_t1 : words1.all (fun c => isCode c || c.before args0 about1) = true := by decide +kernel
theorem w_tables : (allAtoms (Jvm.Cond.code x code maxLocals ret :: tables_1)).before args0 about1 = true := by
  rw [allAtoms_all]
  show words1.all (fun c => c.before args0 about1) = true
  refine all_split ?_ w_codes
  rw [w_t1]
set_option maxRecDepth 65536 in
theorem w_case : (Jvm.Cond.and given_1 narrow_1).before args0 about1 = true := by decide +kernel
theorem w_applies : (headSpec (Jvm.Cond.code x code maxLocals ret :: tables_1) room_1).applies x e0.platform about1 = true :=
  (Spec.applies_iff w_frames).mpr ⟨w_running, w_runnable, w_alone, w_named, w_hears, w_ripe, w_room, w_tables⟩
theorem atStart : AtStart classFile x code maxLocals ret World_1 tables_1 room_1 Calls_1 rest_1 Pre_1 launch0 p0 e0 about1 theMethod args0 below0 :=
  ⟨lists_1, trivial, launch0.admits_env _ _ _, launch0.least_env, fairChoices_fair.cas, fairChoices_fair.clock, w_frames, w_args, w_heap, w_applies, trivial, trivial, w_case⟩
end start1
theorem witness_1 : WitnessClaimed_1 := ⟨start1.p0, start1.e0, start1.about1, start1.theMethod, start1.args0, start1.below0, start1.atStart⟩
end Jvm.Pilot.@@N@@
