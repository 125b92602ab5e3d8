import JvmDerived
import JvmDerived.Pilot.@@N@@Statement
import JvmDerived.Pilot.@@N@@Code
set_option linter.unusedVariables false
set_option linter.unusedSimpArgs false
@@BLOCK:NumsL.lean.txt@@
namespace Jvm.RoadKit
open Sem ClassFile Op Lib Jvm.Stand Jvm.Free Jvm.LawKit
section Own
variable {p : Program} {l : Launch} {e : Env} {R : Room} {s : State} {m : MethodId} {args : Array Value} {below : List Frame} {meth : Method} {c : Code} {T : State} {locs : List Loc} {cells slots : Nat}
/-- from U the run comes to a state of which G holds -/
def Gets (p : Program) (e : Env) (below : List Frame) (G : State → Prop) (U : State) : Prop := ∃ t, Steps p.tables e below U t ∧ G t
theorem Gets.of {G : State → Prop} {U U' : State} (k : ∀ t, Steps p.tables e below U' t → Steps p.tables e below U t) (h : Gets p e below G U') : Gets p e below G U := by
  obtain ⟨t, a, b⟩ := h; exact ⟨t, k t a, b⟩
theorem Gets.tr {G : State → Prop} {U U' : State} (k : Steps p.tables e below U U') (h : Gets p e below G U') : Gets p e below G U := by
  obtain ⟨t, a, b⟩ := h; exact ⟨t, k.trans a, b⟩
/-- what is owed at the end of a body -/
def Out (Q : Option Value → Heap → List Loc → Prop) (s : State) (below : List Frame) (C S : Nat) (t : State) : Prop := ∃ o, t.status = .running ∧ Ended t below o ∧ ∃ v L, o = .returned v ∧ Q v t.heap L ∧ FrameEnd s o t L C S
theorem Gets.out {Q : Option Value → Heap → List Loc → Prop} {C S : Nat} {U : State} (h : Gets p e below (Out Q s below C S) U) : ∃ s₂ o, Steps p.tables e below U s₂ ∧ s₂.status = .running ∧ Ended s₂ below o ∧ ∃ v L, o = .returned v ∧ Q v s₂.heap L ∧ FrameEnd s o s₂ L C S := by
  obtain ⟨t, a, o, b⟩ := h; exact ⟨t, o, a, b⟩
theorem Gets.fin {Q : Option Value → Heap → List Loc → Prop} {C S : Nat} {U : State} (X : Stand p l e R s m args below meth c T locs cells slots) {v : Option Value} (hv : meth.sig.returnType = none → v = none) (hlk : meth.locks = false)
    (k : ∀ fs, (∀ (f : JFrame) (acts : List Action), f.method = m → f.locked = none → f.entered = [] → (doReturn e (T.setTop f) acts v).1 = T.setFrames fs) → Steps p.tables e below U (T.setFrames fs)) (hQ : Q v T.heap locs) (h1 : cells ≤ C) (h2 : slots ≤ S) : Gets p e below (Out Q s below C S) U := by
  obtain ⟨fs, hr, hrun, hended, hW, hsame⟩ := X.leave (v := v) hv hlk
  exact ⟨_, k fs hr, _, hrun, hended, _, _, rfl, hQ, ⟨_, rfl⟩, hW, hsame.mono h1 h2⟩
theorem retI0 (X : Stand p l e R s m args below meth c T locs cells slots) (hx : p.tables.exec = Jvm.exec) {pc : Nat} {Ls : Array Slot} {z : Int32} {rest : List Value} (hret : meth.sig.returnType = some .int) (hd : decode c.code pc = .ok (.ireturn, 1)) {fs : List Frame}
    (hl : ∀ (f : JFrame) (acts : List Action), f.method = m → f.locked = none → f.entered = [] → (doReturn e (T.setTop f) acts (some (.int z))).1 = T.setFrames fs) : Steps p.tables e below (T.setTop (mkF m pc Ls (.int z :: rest))) (T.setFrames fs) :=
  retOut X hx hret rfl (Or.inl ⟨rfl, Or.inl rfl, z, rfl⟩) hd hl
theorem Gets.retI {Q : Option Value → Heap → List Loc → Prop} {C S : Nat} (X : Stand p l e R s m args below meth c T locs cells slots) (hx : p.tables.exec = Jvm.exec) {pc : Nat} {Ls : Array Slot} {z : Int32} {rest : List Value} (hret : meth.sig.returnType = some .int) (hd : decode c.code pc = .ok (.ireturn, 1))
    (hQ : Q (some (.int z)) T.heap locs) (h1 : cells ≤ C) (h2 : slots ≤ S) (hlk : meth.locks = false := by assumption) : Gets p e below (Out Q s below C S) (T.setTop (mkF m pc Ls (.int z :: rest))) :=
  Gets.fin X (fun h => by rw [hret] at h; cases h) hlk (fun fs hr => retI0 X hx hret hd hr) hQ h1 h2
theorem Gets.retN {Q : Option Value → Heap → List Loc → Prop} {C S : Nat} (X : Stand p l e R s m args below meth c T locs cells slots) (hx : p.tables.exec = Jvm.exec) {pc : Nat} {Ls : Array Slot} {z : Int32} {t : FieldType} {rest : List Value} (hret : meth.sig.returnType = some t) (ht : t = .boolean ∨ t = .byte ∨ t = .char ∨ t = .short) (hd : decode c.code pc = .ok (.ireturn, 1))
    (hQ : Q (some (.int (nar t z))) T.heap locs) (h1 : cells ≤ C) (h2 : slots ≤ S) (hlk : meth.locks = false := by assumption) : Gets p e below (Out Q s below C S) (T.setTop (mkF m pc Ls (.int z :: rest))) :=
  Gets.fin X (fun h => by rw [hret] at h; cases h) hlk (fun fs hr => Jvm.RoadKit.retN X hx hret ht hd hr) hQ h1 h2
theorem Gets.retJ {Q : Option Value → Heap → List Loc → Prop} {C S : Nat} (X : Stand p l e R s m args below meth c T locs cells slots) (hx : p.tables.exec = Jvm.exec) {pc : Nat} {Ls : Array Slot} {z : Int64} {rest : List Value} (hret : meth.sig.returnType = some .long) (hd : decode c.code pc = .ok (.lreturn, 1))
    (hQ : Q (some (.long z)) T.heap locs) (h1 : cells ≤ C) (h2 : slots ≤ S) (hlk : meth.locks = false := by assumption) : Gets p e below (Out Q s below C S) (T.setTop (mkF m pc Ls (.long z :: rest))) :=
  Gets.fin X (fun h => by rw [hret] at h; cases h) hlk (fun fs hr => retOut X hx hret rfl (Or.inr (Or.inl ⟨rfl, rfl, z, rfl⟩)) hd hr) hQ h1 h2
theorem Gets.retA {Q : Option Value → Heap → List Loc → Prop} {C S : Nat} (X : Stand p l e R s m args below meth c T locs cells slots) (hx : p.tables.exec = Jvm.exec) {pc : Nat} {Ls : Array Slot} {w : Value} {t : FieldType} {rest : List Value} (hret : meth.sig.returnType = some t) (ht : t.isReference = true) (hw : w.isRef = true) (hd : decode c.code pc = .ok (.areturn, 1))
    (hQ : Q (some w) T.heap locs) (h1 : cells ≤ C) (h2 : slots ≤ S) (hlk : meth.locks = false := by assumption) : Gets p e below (Out Q s below C S) (T.setTop (mkF m pc Ls (w :: rest))) :=
  Gets.fin X (fun h => by rw [hret] at h; cases h) hlk (fun fs hr => retOut X hx hret (by cases t <;> first | (cases ht; done) | (cases w <;> first | rfl | (cases hw))) (Or.inr (Or.inr (Or.inr (Or.inr ⟨rfl, ht, hw⟩)))) hd hr) hQ h1 h2
theorem Gets.retV {Q : Option Value → Heap → List Loc → Prop} {C S : Nat} (X : Stand p l e R s m args below meth c T locs cells slots) (hx : p.tables.exec = Jvm.exec) {pc : Nat} {Ls : Array Slot} (hret : meth.sig.returnType = none) (hd : decode c.code pc = .ok (.return_, 1))
    (hQ : Q none T.heap locs) (h1 : cells ≤ C) (h2 : slots ≤ S) (hlk : meth.locks = false := by assumption) : Gets p e below (Out Q s below C S) (T.setTop (mkF m pc Ls [])) :=
  Gets.fin X (fun _ => rfl) hlk (fun fs hr => X.returnOut hx hret hd hr) hQ h1 h2
/-- what is owed at the end of a body that may load String constants -/
def OutW (Q : Option Value → Heap → List Loc → Prop) (s : State) (below : List Frame) (C S : Nat) (t : State) : Prop := ∃ o, t.status = .running ∧ Ended t below o ∧ ∃ v L, o = .returned v ∧ Q v t.heap L ∧ ReturnedEndW s o t L C S
theorem GetsW.out {Q : Option Value → Heap → List Loc → Prop} {C S : Nat} {U : State} (h : Gets p e below (OutW Q s below C S) U) : ∃ s₂ o, Steps p.tables e below U s₂ ∧ s₂.status = .running ∧ Ended s₂ below o ∧ ∃ v L, o = .returned v ∧ Q v s₂.heap L ∧ ReturnedEndW s o s₂ L C S := by
  obtain ⟨t, a, o, b⟩ := h; exact ⟨t, o, a, b⟩
theorem GetsW.fin {Q : Option Value → Heap → List Loc → Prop} {C S : Nat} {U : State} {vm₁ : Vm} (X : Stand p l e R (s.setVm vm₁) m args below meth c T locs cells slots) {n : Nat} (hS : s.Since vm₁ n) (hn : n ≤ T.heap.size) {v : Option Value} (hv : meth.sig.returnType = none → v = none) (hlk : meth.locks = false)
    (k : ∀ fs, (∀ (f : JFrame) (acts : List Action), f.method = m → f.locked = none → f.entered = [] → (doReturn e (T.setTop f) acts v).1 = T.setFrames fs) → Steps p.tables e below U (T.setFrames fs)) (hQ : Q v T.heap locs) (h1 : cells ≤ C) (h2 : slots ≤ S) : Gets p e below (OutW Q s below C S) U := by
  obtain ⟨fs, hr, hrun, hended, w1, w2, w3, w4⟩ := X.leaveW hS hn (v := v) hv hlk
  exact ⟨_, k fs hr, _, hrun, hended, _, _, rfl, hQ, w1, w2, w3, w4.mono h1 h2⟩
theorem GetsW.retN {Q : Option Value → Heap → List Loc → Prop} {C S : Nat} {vm₁ : Vm} (X : Stand p l e R (s.setVm vm₁) m args below meth c T locs cells slots) (hx : p.tables.exec = Jvm.exec) {pc : Nat} {Ls : Array Slot} {z : Int32} {t : FieldType} {rest : List Value} (hret : meth.sig.returnType = some t) (ht : t = .boolean ∨ t = .byte ∨ t = .char ∨ t = .short) (hd : decode c.code pc = .ok (.ireturn, 1)) {n : Nat} (hS : s.Since vm₁ n) (hn : n ≤ T.heap.size)
    (hQ : Q (some (.int (nar t z))) T.heap locs) (h1 : cells ≤ C) (h2 : slots ≤ S) (hlk : meth.locks = false := by assumption) : Gets p e below (OutW Q s below C S) (T.setTop (mkF m pc Ls (.int z :: rest))) :=
  GetsW.fin X hS hn (fun h => by rw [hret] at h; cases h) hlk (fun fs hr => Jvm.RoadKit.retN X hx hret ht hd hr) hQ h1 h2
theorem GetsW.retI {Q : Option Value → Heap → List Loc → Prop} {C S : Nat} {vm₁ : Vm} (X : Stand p l e R (s.setVm vm₁) m args below meth c T locs cells slots) (hx : p.tables.exec = Jvm.exec) {pc : Nat} {Ls : Array Slot} {z : Int32} {rest : List Value} (hret : meth.sig.returnType = some .int) (hd : decode c.code pc = .ok (.ireturn, 1)) {n : Nat} (hS : s.Since vm₁ n) (hn : n ≤ T.heap.size)
    (hQ : Q (some (.int z)) T.heap locs) (h1 : cells ≤ C) (h2 : slots ≤ S) (hlk : meth.locks = false := by assumption) : Gets p e below (OutW Q s below C S) (T.setTop (mkF m pc Ls (.int z :: rest))) :=
  GetsW.fin X hS hn (fun h => by rw [hret] at h; cases h) hlk (fun fs hr => retI0 X hx hret hd hr) hQ h1 h2
theorem GetsW.retA {Q : Option Value → Heap → List Loc → Prop} {C S : Nat} {vm₁ : Vm} (X : Stand p l e R (s.setVm vm₁) m args below meth c T locs cells slots) (hx : p.tables.exec = Jvm.exec) {pc : Nat} {Ls : Array Slot} {w : Value} {t : FieldType} {rest : List Value} (hret : meth.sig.returnType = some t) (ht : t.isReference = true) (hw : w.isRef = true) (hd : decode c.code pc = .ok (.areturn, 1)) {n : Nat} (hS : s.Since vm₁ n) (hn : n ≤ T.heap.size)
    (hQ : Q (some w) T.heap locs) (h1 : cells ≤ C) (h2 : slots ≤ S) (hlk : meth.locks = false := by assumption) : Gets p e below (OutW Q s below C S) (T.setTop (mkF m pc Ls (w :: rest))) :=
  GetsW.fin X hS hn (fun h => by rw [hret] at h; cases h) hlk (fun fs hr => retOut X hx hret (by cases t <;> first | (cases ht; done) | (cases w <;> first | rfl | (cases hw))) (Or.inr (Or.inr (Or.inr (Or.inr ⟨rfl, ht, hw⟩)))) hd hr) hQ h1 h2
theorem GetsW.retV {Q : Option Value → Heap → List Loc → Prop} {C S : Nat} {vm₁ : Vm} (X : Stand p l e R (s.setVm vm₁) m args below meth c T locs cells slots) (hx : p.tables.exec = Jvm.exec) {pc : Nat} {Ls : Array Slot} (hret : meth.sig.returnType = none) (hd : decode c.code pc = .ok (.return_, 1)) {n : Nat} (hS : s.Since vm₁ n) (hn : n ≤ T.heap.size)
    (hQ : Q none T.heap locs) (h1 : cells ≤ C) (h2 : slots ≤ S) (hlk : meth.locks = false := by assumption) : Gets p e below (OutW Q s below C S) (T.setTop (mkF m pc Ls [])) :=
  GetsW.fin X hS hn (fun _ => rfl) hlk (fun fs hr => X.returnOut hx hret hd hr) hQ h1 h2
/-- the payer of a callee that may load String constants, the constants' invariant handed over at its start -/
theorem own_backC {Z : State} {a0 : Array Value} {EL : List (String × Nat)} {h : Heap} {vm0 : Vm} {y : MethodName} {bytes : ByteArray} {maxL : Nat} {ret : Option FieldType} {rm : Room} {len W : Nat} {as' : Array Value} {Q : Option Value → Heap → List Loc → Prop}
    (hM : MetFree l y (head1 [Cond.code y bytes maxL ret] rm) (fun a U => a = as' ∧ Z.Warmed39 U.vm ∧ U.heap = h ∧ CHv Z EL U.vm h) (fun _ _ _ _ _ => True) (fun _ U o U' => ∃ v L, o = .returned v ∧ Q v U'.heap L ∧ ReturnedEndW U o U' L rm.cells rm.slots))
    (hZ : Z.Warmed39 vm0) (wc : (Cond.code y bytes maxL ret).before a0 Z = true) (wz : (Cond.initialized y.cls).before a0 Z = true) (hf : rm.frames + 1 ≤ R.frames) (hl : W + (maxL + 11) + rm.locals ≤ R.locals) (hEL : EW Z a0 EL) (H : CHv Z EL vm0 h) :
    BackS l R p e below (s.setVm vm0) args y len W (fun A a => a = as' ∧ A.U.heap = h ∧ A.cells + rm.cells ≤ R.cells ∧ A.slots + rm.slots ≤ R.slots)
      (fun A _ v B => ∃ L, Q v B.U.heap L ∧ B.locs = A.locs ++ L ∧ B.cells = A.cells + rm.cells ∧ B.slots = A.slots + rm.slots) := by
  refine BackS.of_freeW (bytes := bytes) (maxL := maxL) (ret := ret) (E := fun _ _ o t L k n => k = rm.cells ∧ n = rm.slots ∧ ∃ v, o = .returned v ∧ Q v t.heap L) hM hf hl ?_ ?_ (fun _ _ _ _ _ _ _ _ _ => trivial) ?_ ?_
  · intro m meth c A a Y hp
    have hU : Z.Warmed39 A.U.vm := wtrans (s := s.setVm vm0) hZ Y.warmed
    exact ⟨by show (Cond.and _ .tt).before a A.U = true; rw [Cond.before_and, mv hU wc]; rfl, mv hU wc, mv hU wz, hp.2.2.1, hp.2.2.2⟩
  · intro m meth c A a g mk Y hp
    exact ⟨hp.1, wtrans (s := s.setVm vm0) hZ Y.warmed, hp.2.1, (CHv.at Y hZ hEL H).1⟩
  · rintro _ _ _ _ ⟨v, L, h1, h2, h3⟩
    exact ⟨L, _, _, h3, rfl, rfl, v, h1, h2⟩
  · rintro m meth c A a g mk v t L k n Y hp _ _ ⟨e1, e2, v', e3, e4⟩
    cases e3; subst e1 e2
    exact ⟨L, e4, rfl, rfl, rfl⟩
theorem own_mir {Z : State} {C : String} {mr : Addr} (hZ : Z.Warmed39 s.vm) (M : Mir Z C mr) : (Term.mirror C).eval args s none [] s = some (.ref mr) := by
  obtain ⟨c, k, h1, h2, h3, -⟩ := M
  obtain ⟨k', q, ek⟩ := hZ.alike.2.2 _ _ h2
  have h4 : s.vm.findClass C = some c := by rw [hZ.alike.findClass]; exact h1
  have h5 : k'.mirror = some mr := by rw [ek]; exact h3
  simp [Term.eval, h4, q, h5]
theorem own_catR {w : Value} (hw : w.isRef = true) : w.category = 1 := by
  cases w <;> first | rfl | cases hw
theorem own_narrow_ref {ty : FieldType} {w : Value} (hw : w.isRef = true) : narrow ty w = w := by
  rcases ref_cases hw with rfl | ⟨a, rfl⟩ <;> cases ty <;> rfl
theorem own_fits_obj {C : String} {w : Value} (hw : w.isRef = true) : fits (.object C) w = true := by
  rcases ref_cases hw with rfl | ⟨a, rfl⟩ <;> rfl
theorem own_fits_arr {t : FieldType} {w : Value} (hw : w.isRef = true) : fits (.array t) w = true := by
  rcases ref_cases hw with rfl | ⟨a, rfl⟩ <;> rfl
theorem own_NS_root {Z : State} {a0 : Array Value} {O K : String} {n : Nat} (w : (Cond.noSuperclass O).before a0 Z = true) (wk : (Cond.instantiable K n).before a0 Z = true) (hn : O ≠ K) : NS Z O K := by
  obtain ⟨c, k, h1, h2, h3, -, -⟩ := Cond.noSuperclass_spec w
  obtain ⟨t, kt, g1, -⟩ := Cond.instantiable_spec wk
  have ne := ids_ne h1 g1 hn
  refine ⟨c, t, h1, g1, fun fuel => ?_⟩
  cases fuel with
  | zero => rfl
  | succ f => simp [Vm.isSubclassAux, ne, h2, h3]
theorem own_NS_no {Z : State} {a0 : Array Value} {C S K : String} {n : Nat} (w : (Cond.superclass C S).before a0 Z = true) (wk : (Cond.instantiable K n).before a0 Z = true) (nn : NS Z C K) (hn : C ≠ K) : ∃ c t, Z.vm.findClass C = some c ∧ Z.vm.findClass K = some t ∧ Z.vm.assignable c t = false := by
  obtain ⟨c, t, h0, g0, n3⟩ := nn
  obtain ⟨p, k, kp, h1, h2, h3, h4, h5, -, h7⟩ := Cond.superclass_spec h0 w
  obtain ⟨t', kt, g1, g2, g3, g4, -⟩ := Cond.instantiable_spec wk
  cases g0.symm.trans g1
  have ne := ids_ne h0 g0 hn
  have g5 : kt.isInterface = false := by cases hq : kt.isInterface <;> simp_all
  refine ⟨c, t, h0, g0, ?_⟩
  show Z.vm.assignableAux (255 + 1) c t = false
  simp [Vm.assignableAux, ne, h2, g2, h5, g3, g5, Vm.isSubclass, n3]
end Own
end Jvm.RoadKit
namespace Jvm.Pilot.@@N@@
open Jvm Jvm.ClassFile Sem Op Lib Jvm.Free Jvm.Stand Jvm.LawKit Jvm.RoadKit Bundle Jvm.Pilot.@@N@@.Jvm.D
abbrev cn0 : String := "com/example/unea/unea/analysis/SparsePattern"

theorem own_acs (a b : Int32) : (a + b) - a = b := by rw [Int32.add_comm, Int32.add_sub_cancel]
theorem own_tot (b n0 n1 n2 n3 : Int32) : n0 + n1 + n2 + n3 = (b + n0 + n1 + n2 + n3) - b := by
  have h : b + n0 + n1 + n2 + n3 = b + (n0 + n1 + n2 + n3) := by simp only [Int32.add_assoc]
  rw [h, own_acs]
theorem own_len (b c0 c1 c2 c3 : Int32) : ¬ ((((b &&& (3 : Int32)) + (c0 &&& (7 : Int32))) + (c1 &&& (7 : Int32))) + (c2 &&& (7 : Int32)) + (c3 &&& (7 : Int32))) < 0 ∧ ((((b &&& (3 : Int32)) + (c0 &&& (7 : Int32))) + (c1 &&& (7 : Int32))) + (c2 &&& (7 : Int32)) + (c3 &&& (7 : Int32))).toNatClampNeg ≤ 31 := by
  have m3 : (b &&& 3).toInt = b.toInt % 2 ^ 2 := Jvm.Kit.i32_mask b 3 (k := 2) (by decide) (by decide)
  have m7 : ∀ x : Int32, (x &&& 7).toInt = x.toInt % 2 ^ 3 := fun x => Jvm.Kit.i32_mask x 7 (k := 3) (by decide) (by decide)
  have h0 := m7 c0; have h1 := m7 c1; have h2 := m7 c2; have h3 := m7 c3
  have s1 : ((b &&& 3) + (c0 &&& 7)).toInt = (b &&& 3).toInt + (c0 &&& 7).toInt := Jvm.Kit.i32_add (by omega) (by omega)
  have s2 : ((b &&& 3) + (c0 &&& 7) + (c1 &&& 7)).toInt = ((b &&& 3) + (c0 &&& 7)).toInt + (c1 &&& 7).toInt := Jvm.Kit.i32_add (by omega) (by omega)
  have s3 : ((b &&& 3) + (c0 &&& 7) + (c1 &&& 7) + (c2 &&& 7)).toInt = ((b &&& 3) + (c0 &&& 7) + (c1 &&& 7)).toInt + (c2 &&& 7).toInt := Jvm.Kit.i32_add (by omega) (by omega)
  have s4 : ((b &&& 3) + (c0 &&& 7) + (c1 &&& 7) + (c2 &&& 7) + (c3 &&& 7)).toInt = ((b &&& 3) + (c0 &&& 7) + (c1 &&& 7) + (c2 &&& 7)).toInt + (c3 &&& 7).toInt := Jvm.Kit.i32_add (by omega) (by omega)
  constructor
  · rw [Int32.lt_iff_toInt_lt, s4]; simp only [Int32.reduceToInt]; omega
  · simp only [Int32.toNatClampNeg]; rw [s4]; omega
theorem d1_0 : decode prog_14_method_1_code 0 = .ok (.aload_n 0, 1) := by decide +kernel
theorem d1_1 : decode prog_14_method_1_code 1 = .ok (.invokespecial 1, 3) := by decide +kernel
theorem w7 {Z : State} {a0 : Array Value} (hw : ∀ d ∈ tables_1, d.before a0 Z = true) : (Jvm.Cond.methodLink cn0 (1 : Nat) ({ cls := "java/lang/Object", name := "<init>", desc := "()V" } : Jvm.MethodName)).before a0 Z = true := hw _ (List.mem_of_getElem? (i := 7) rfl)
theorem w8 {Z : State} {a0 : Array Value} (hw : ∀ d ∈ tables_1, d.before a0 Z = true) : (Jvm.Cond.instanceMethod ({ cls := "java/lang/Object", name := "<init>", desc := "()V" } : Jvm.MethodName)).before a0 Z = true := hw _ (List.mem_of_getElem? (i := 8) rfl)
theorem w9 {Z : State} {a0 : Array Value} (hw : ∀ d ∈ tables_1, d.before a0 Z = true) : (Jvm.Cond.code ({ cls := "java/lang/Object", name := "<init>", desc := "()V" } : Jvm.MethodName) object_method_1_code (1 : Nat) (Option.none : Option Jvm.ClassFile.FieldType)).before a0 Z = true := hw _ (List.mem_of_getElem? (i := 9) rfl)
theorem d1_4 : decode prog_14_method_1_code 4 = .ok (.aload_n 0, 1) := by decide +kernel
theorem d1_5 : decode prog_14_method_1_code 5 = .ok (.aload_n 1, 1) := by decide +kernel
theorem d1_6 : decode prog_14_method_1_code 6 = .ok (.putfield 7, 3) := by decide +kernel
theorem w10 {Z : State} {a0 : Array Value} (hw : ∀ d ∈ tables_1, d.before a0 Z = true) : (Jvm.Cond.fieldLink cn0 (7 : Nat) cn0 "start" "[I").before a0 Z = true := hw _ (List.mem_of_getElem? (i := 10) rfl)
theorem w11 {Z : State} {a0 : Array Value} (hw : ∀ d ∈ tables_1, d.before a0 Z = true) : (Jvm.Cond.laysFinal cn0 cn0 "start" "[I").before a0 Z = true := hw _ (List.mem_of_getElem? (i := 11) rfl)
theorem w2 {Z : State} {a0 : Array Value} (hw : ∀ d ∈ tables_1, d.before a0 Z = true) : (Jvm.Cond.instantiable cn0 (2 : Nat)).before a0 Z = true := hw _ (List.mem_of_getElem? (i := 2) rfl)
theorem d1_9 : decode prog_14_method_1_code 9 = .ok (.aload_n 0, 1) := by decide +kernel
theorem d1_10 : decode prog_14_method_1_code 10 = .ok (.aload_n 2, 1) := by decide +kernel
theorem d1_11 : decode prog_14_method_1_code 11 = .ok (.putfield 13, 3) := by decide +kernel
theorem w12 {Z : State} {a0 : Array Value} (hw : ∀ d ∈ tables_1, d.before a0 Z = true) : (Jvm.Cond.fieldLink cn0 (13 : Nat) cn0 "neighbour" "[I").before a0 Z = true := hw _ (List.mem_of_getElem? (i := 12) rfl)
theorem w13 {Z : State} {a0 : Array Value} (hw : ∀ d ∈ tables_1, d.before a0 Z = true) : (Jvm.Cond.laysFinal cn0 cn0 "neighbour" "[I").before a0 Z = true := hw _ (List.mem_of_getElem? (i := 13) rfl)
theorem d1_14 : decode prog_14_method_1_code 14 = .ok (.return_, 1) := by decide +kernel
def Q_rm_init (Z : State) (ya : Addr) (ys : Addr) (yt : Addr) (h0 : Heap) (n0 : Nat) (v : Option Value) (h : Heap) (L : List Loc) : Prop := Fr n0 L ∧ Keep h0 h [ya] ∧ ((v = none ∧ Fld Z h ya cn0 "start" "[I" (.ref ys) ∧ Fld Z h ya cn0 "neighbour" "[I" (.ref yt)))
theorem pn_com_example_unea_unea_analysis_SparsePattern : plainName "com/example/unea/unea/analysis/SparsePattern" = true := by first | (simp [plainName, overriddenIn]; done) | decide +kernel
set_option maxRecDepth 65536 in
set_option maxHeartbeats 40000000 in
theorem rm_init (l : Launch) (Z : State) (a0 : Array Value) (hw : ∀ d ∈ tables_1, d.before a0 Z = true) (ws : List Jvm.Cond) (ya : Addr) (ys : Addr) (yt : Addr) (h0 : Heap) (n0 : Nat) (O0 : Old Z n0 h0) (F0 : Exa Z h0 ya cn0) (F1 : Fld Z h0 ya cn0 "start" "[I" .null) (F2 : Fld Z h0 ya cn0 "neighbour" "[I" .null) (gya : n0 ≤ ya) :
    MetFree l (⟨cn0, "<init>", "([I[I)V"⟩ : MethodName) (head1 (Jvm.Cond.code (⟨cn0, "<init>", "([I[I)V"⟩ : MethodName) prog_14_method_1_code 3 none :: ws) ({ frames := 1, cells := 0, slots := 0, locals := 12 } : Room)) (fun a U => a = #[(.ref ya), (.ref ys), (.ref yt)] ∧ Z.Warmed39 U.vm ∧ U.heap = h0) (fun _ _ _ _ _ => True) (fun _ U o U' => ∃ v L, o = .returned v ∧ Q_rm_init Z ya ys yt h0 n0 v U'.heap L ∧ FrameEnd U o U' L ({ frames := 1, cells := 0, slots := 0, locals := 12 } : Room).cells ({ frames := 1, cells := 0, slots := 0, locals := 12 } : Room).slots) := by
  refine MetFree.of_bodySF (plainFor_of_name pn_com_example_unea_unea_analysis_SparsePattern) hisR ?_
  intro p e s m args below meth c s₁ Bd hml0 hP hK
  obtain ⟨rfl, hZ, hh⟩ := hP
  have hx := Bd.exec
  have hby := Bd.bytes
  have hlk := Bd.notSynchronized
  have hml : c.maxLocals = 3 := hml0
  have hown : s.vm.findClass cn0 = some m.cls := findClass_of_methodNamed Bd.named
  have hnm := (name_of_methodNamed Bd.named Bd.method).1
  have X0 : Stand p l e ({ frames := 1, cells := 0, slots := 0, locals := 12 } : Room) s m #[(.ref ya), (.ref ys), (.ref yt)] below meth c s₁ [] 0 0 := Stand.of_body Bd
  have e0 : s₁.heap = h0 := by rw [← hh, Bd.state]; rfl
  have N0 := Fr.nil n0
  have K0 := Keep.refl h0 [ya]
  have Z0 : n0 ≤ h0.size := O0.1 ▸ O0.2.1
  have hef : entryFrame m #[(.ref ya), (.ref ys), (.ref yt)] 3 = mkF m 0 #[.val (.ref ya), .val (.ref ys), .val (.ref yt)] [] := by first | (simp [entryFrame, mkF, argsToLocals, Value.category]; done) | rfl
  rw [hef]
  refine Gets.out (Q := Q_rm_init Z ya ys yt h0 n0) ?_
  show Gets p e below _ (s₁.setTop (mkF m 0 #[.val (.ref ya), .val (.ref ys), .val (.ref yt)] []))
  refine Gets.of (fun t k => XS.aloadN X0.here hx rfl (hb hby d1_0) rfl rfl  k) ?_
  obtain ⟨T1, X1, e1, st1⟩ := initO X0 hx hZ hown (w7 hw) (w8 hw) (w9 hw) e0 (g := (mkF m 1 #[.val (.ref ya), .val (.ref ys), .val (.ref yt)] [(.ref ya)])) rfl (by rw [hml]; rfl) rfl (hb hby d1_1) (by decide) (W := 0) (by show 2 * 0 + _ ≤ _; exact Nat.le_of_eq rfl) (by decide)
  refine Gets.of st1 ?_
  show Gets p e below _ (T1.setTop (mkF m 4 #[.val (.ref ya), .val (.ref ys), .val (.ref yt)] []))
  refine Gets.of (fun t k => XS.aloadN X1.here hx rfl (hb hby d1_4) rfl rfl  k) ?_
  refine Gets.of (fun t k => XS.aloadN X1.here hx rfl (hb hby d1_5) rfl rfl  k) ?_
  obtain ⟨T2, h2, X2, e2, W2, st2⟩ := putF X1 hx hZ hown (host := "") (Or.inl (w10 hw)) Via.refl e1 F1 F0 (Or.inr ⟨(w11 hw), rfl, hnm⟩) (w2 hw) (ty := (.array .int)) (by decide) rfl rfl (g := (mkF m 6 #[.val (.ref ya), .val (.ref ys), .val (.ref yt)] [(.ref ys), (.ref ya)])) rfl rfl (hb hby d1_6)
  have N2 := Fr.snoc X2 N0 gya
  have Fw2 : Fld Z h2 ya cn0 "start" "[I" (.ref ys) := (F1).same W2
  have K3 : Keep h0 _ [ya] := K0.wr W2 (Or.inl (by simp))
  have O3 := O0.wr W2 gya
  refine Gets.of st2 ?_
  show Gets p e below _ (T2.setTop (mkF m 9 #[.val (.ref ya), .val (.ref ys), .val (.ref yt)] []))
  refine Gets.of (fun t k => XS.aloadN X2.here hx rfl (hb hby d1_9) rfl rfl  k) ?_
  refine Gets.of (fun t k => XS.aloadN X2.here hx rfl (hb hby d1_10) rfl rfl  k) ?_
  have f4 : Exa Z h2 ya cn0 := (F0.wr W2)
  have f5 : Fld Z h2 ya cn0 "neighbour" "[I" .null := (F2.other W2 (Or.inr (slot_ne (Or.inr (w13 hw)) (Or.inr (w11 hw)) (by decide) (t := (.array .int)) (t' := (.array .int)) (by decide) (by decide))))
  obtain ⟨T6, h6, X6, e6, W6, st6⟩ := putF X2 hx hZ hown (host := "") (Or.inl (w12 hw)) Via.refl e2 f5 f4 (Or.inr ⟨(w13 hw), rfl, hnm⟩) (w2 hw) (ty := (.array .int)) (by decide) rfl rfl (g := (mkF m 11 #[.val (.ref ya), .val (.ref ys), .val (.ref yt)] [(.ref yt), (.ref ya)])) rfl rfl (hb hby d1_11)
  have N6 := Fr.snoc X6 N2 gya
  have Fw6 : Fld Z h6 ya cn0 "neighbour" "[I" (.ref yt) := (f5).same W6
  have K7 : Keep h0 _ [ya] := K3.wr W6 (Or.inl (by simp))
  have O7 := O3.wr W6 gya
  refine Gets.of st6 ?_
  show Gets p e below _ (T6.setTop (mkF m 14 #[.val (.ref ya), .val (.ref ys), .val (.ref yt)] []))
  refine Gets.retV X6 hx Bd.returns (hb hby d1_14) ?_ (by decide) (by decide)
  rw [e6]
  have f8 : Fld Z h6 ya cn0 "start" "[I" (.ref ys) := (Fw2.other W6 (Or.inr (slot_ne (Or.inr (w11 hw)) (Or.inr (w13 hw)) (by decide) (t := (.array .int)) (t' := (.array .int)) (by decide) (by decide))))
  exact ⟨N6, K7, ⟨rfl, f8, Fw6⟩⟩
theorem d3_0 : decode prog_14_method_3_code 0 = .ok (.aload_n 0, 1) := by decide +kernel
theorem d3_1 : decode prog_14_method_3_code 1 = .ok (.getfield 7, 3) := by decide +kernel
theorem d3_4 : decode prog_14_method_3_code 4 = .ok (.iload_n 1, 1) := by decide +kernel
theorem d3_5 : decode prog_14_method_3_code 5 = .ok (.iconst 1, 1) := by decide +kernel
theorem d3_6 : decode prog_14_method_3_code 6 = .ok (.iadd, 1) := by decide +kernel
theorem d3_7 : decode prog_14_method_3_code 7 = .ok (.iaload, 1) := by decide +kernel
theorem d3_8 : decode prog_14_method_3_code 8 = .ok (.aload_n 0, 1) := by decide +kernel
theorem d3_9 : decode prog_14_method_3_code 9 = .ok (.getfield 7, 3) := by decide +kernel
theorem d3_12 : decode prog_14_method_3_code 12 = .ok (.iload_n 1, 1) := by decide +kernel
theorem d3_13 : decode prog_14_method_3_code 13 = .ok (.iaload, 1) := by decide +kernel
theorem d3_14 : decode prog_14_method_3_code 14 = .ok (.isub, 1) := by decide +kernel
theorem d3_15 : decode prog_14_method_3_code 15 = .ok (.ireturn, 1) := by decide +kernel
def Q_rm_deg0 (Z : State) (ya : Addr) (ys : Addr) (yk : ClassId) (x0 : Int32) (x1 : Int32) (x2 : Int32) (x3 : Int32) (x4 : Int32) (h0 : Heap) (n0 : Nat) (v : Option Value) (h : Heap) (L : List Loc) : Prop := Fr n0 L ∧ h = h0 ∧ ((v = some (.int (x1 - x0))))
set_option maxRecDepth 65536 in
set_option maxHeartbeats 40000000 in
theorem rm_deg0 (l : Launch) (Z : State) (a0 : Array Value) (hw : ∀ d ∈ tables_1, d.before a0 Z = true) (ws : List Jvm.Cond) (ya : Addr) (ys : Addr) (yk : ClassId) (x0 : Int32) (x1 : Int32) (x2 : Int32) (x3 : Int32) (x4 : Int32) (h0 : Heap) (n0 : Nat) (O0 : Old Z n0 h0) (F0 : Fld Z h0 ya cn0 "start" "[I" (.ref ys)) (F1 : Arv Z h0 ys yk .int (5 : Int32) [(.int x0), (.int x1), (.int x2), (.int x3), (.int x4)] (.int (0 : Int32))) :
    MetFree l (⟨cn0, "degree", "(I)I"⟩ : MethodName) (head1 (Jvm.Cond.code (⟨cn0, "degree", "(I)I"⟩ : MethodName) prog_14_method_3_code 2 (some .int) :: ws) ({ frames := 0, cells := 0, slots := 0, locals := 0 } : Room)) (fun a U => a = #[(.ref ya), (.int (0 : Int32))] ∧ Z.Warmed39 U.vm ∧ U.heap = h0) (fun _ _ _ _ _ => True) (fun _ U o U' => ∃ v L, o = .returned v ∧ Q_rm_deg0 Z ya ys yk x0 x1 x2 x3 x4 h0 n0 v U'.heap L ∧ FrameEnd U o U' L ({ frames := 0, cells := 0, slots := 0, locals := 0 } : Room).cells ({ frames := 0, cells := 0, slots := 0, locals := 0 } : Room).slots) := by
  refine MetFree.of_bodySF (plainFor_of_name pn_com_example_unea_unea_analysis_SparsePattern) hisR ?_
  intro p e s m args below meth c s₁ Bd hml0 hP hK
  obtain ⟨rfl, hZ, hh⟩ := hP
  have hx := Bd.exec
  have hby := Bd.bytes
  have hlk := Bd.notSynchronized
  have hml : c.maxLocals = 2 := hml0
  have hown : s.vm.findClass cn0 = some m.cls := findClass_of_methodNamed Bd.named
  have hnm := (name_of_methodNamed Bd.named Bd.method).1
  have X0 : Stand p l e ({ frames := 0, cells := 0, slots := 0, locals := 0 } : Room) s m #[(.ref ya), (.int (0 : Int32))] below meth c s₁ [] 0 0 := Stand.of_body Bd
  have e0 : s₁.heap = h0 := by rw [← hh, Bd.state]; rfl
  have N0 := Fr.nil n0
  have K0 := Keep.refl h0 []
  have Z0 : n0 ≤ h0.size := O0.1 ▸ O0.2.1
  have hef : entryFrame m #[(.ref ya), (.int (0 : Int32))] 2 = mkF m 0 #[.val (.ref ya), .val (.int (0 : Int32))] [] := by first | (simp [entryFrame, mkF, argsToLocals, Value.category]; done) | rfl
  rw [hef]
  refine Gets.out (Q := Q_rm_deg0 Z ya ys yk x0 x1 x2 x3 x4 h0 n0) ?_
  show Gets p e below _ (s₁.setTop (mkF m 0 #[.val (.ref ya), .val (.int (0 : Int32))] []))
  refine Gets.of (fun t k => XS.aloadN X0.here hx rfl (hb hby d3_0) rfl rfl  k) ?_
  obtain ⟨T1, X1, e1, st1⟩ := getF X0 hx hZ hown (host := "") (Or.inl (w10 hw)) Via.refl e0 F0 (g := (mkF m 1 #[.val (.ref ya), .val (.int (0 : Int32))] [(.ref ya)])) rfl rfl (hb hby d3_1)
  refine Gets.of st1 ?_
  show Gets p e below _ (T1.setTop (mkF m 4 #[.val (.ref ya), .val (.int (0 : Int32))] [(.ref ys)]))
  refine Gets.of (fun t k => XS.iloadN X1.here hx rfl (hb hby d3_4) rfl  k) ?_
  refine Gets.of (fun t k => XS.iconst X1.here hx rfl (hb hby d3_5) k) ?_
  refine Gets.of (fun t k => XS.iadd X1.here hx rfl (hb hby d3_6) rfl k) ?_
  show Gets p e below _ (T1.setTop (mkF m 7 #[.val (.ref ya), .val (.int (0 : Int32))] [(.int (1 : Int32)), (.ref ys)]))
  obtain ⟨cl2, Ar2, q2, S2, N_2, H2, G2⟩ := id (F1)
  have hin2 : ¬ ((1 : Int32) < 0 ∨ cl2.slots.size ≤ ((1 : Int32)).toNatClampNeg) := inb_of S2 ⟨by decide, by decide⟩
  refine Gets.of (fun t k => X1.iaload hx (j := (1 : Int32)) (v := (.int x1)) (by rw [e1]; exact Ar2.1) (State.isArrayOf_alike hZ.alike Ar2.2.1) Ar2.2.2 hin2 (Has.at H2 hin2 rfl) (g := (mkF m 7 #[.val (.ref ya), .val (.int (0 : Int32))] [(.int (1 : Int32)), (.ref ys)])) rfl rfl (hb hby d3_7) t k) ?_
  show Gets p e below _ (T1.setTop (mkF m 8 #[.val (.ref ya), .val (.int (0 : Int32))] [(.int x1)]))
  refine Gets.of (fun t k => XS.aloadN X1.here hx rfl (hb hby d3_8) rfl rfl  k) ?_
  obtain ⟨T3, X3, e3, st3⟩ := getF X1 hx hZ hown (host := "") (Or.inl (w10 hw)) Via.refl e1 F0 (g := (mkF m 9 #[.val (.ref ya), .val (.int (0 : Int32))] [(.ref ya), (.int x1)])) rfl rfl (hb hby d3_9)
  refine Gets.of st3 ?_
  show Gets p e below _ (T3.setTop (mkF m 12 #[.val (.ref ya), .val (.int (0 : Int32))] [(.ref ys), (.int x1)]))
  refine Gets.of (fun t k => XS.iloadN X3.here hx rfl (hb hby d3_12) rfl  k) ?_
  obtain ⟨cl4, Ar4, q4, S4, N_4, H4, G4⟩ := id (F1)
  have hin4 : ¬ ((0 : Int32) < 0 ∨ cl4.slots.size ≤ ((0 : Int32)).toNatClampNeg) := inb_of S4 ⟨by decide, by decide⟩
  refine Gets.of (fun t k => X3.iaload hx (j := (0 : Int32)) (v := (.int x0)) (by rw [e3]; exact Ar4.1) (State.isArrayOf_alike hZ.alike Ar4.2.1) Ar4.2.2 hin4 (Has.at H4 hin4 rfl) (g := (mkF m 13 #[.val (.ref ya), .val (.int (0 : Int32))] [(.int (0 : Int32)), (.ref ys), (.int x1)])) rfl rfl (hb hby d3_13) t k) ?_
  show Gets p e below _ (T3.setTop (mkF m 14 #[.val (.ref ya), .val (.int (0 : Int32))] [(.int x0), (.int x1)]))
  refine Gets.of (fun t k => XS.isub X3.here hx rfl (hb hby d3_14) rfl k) ?_
  show Gets p e below _ (T3.setTop (mkF m 15 #[.val (.ref ya), .val (.int (0 : Int32))] [(.int (x1 - x0))]))
  refine Gets.retI X3 hx Bd.returns (hb hby d3_15) ?_ (by decide) (by decide)
  rw [e3]
  exact ⟨N0, rfl, rfl⟩
def Q_rm_deg1 (Z : State) (ya : Addr) (ys : Addr) (yk : ClassId) (x0 : Int32) (x1 : Int32) (x2 : Int32) (x3 : Int32) (x4 : Int32) (h0 : Heap) (n0 : Nat) (v : Option Value) (h : Heap) (L : List Loc) : Prop := Fr n0 L ∧ h = h0 ∧ ((v = some (.int (x2 - x1))))
set_option maxRecDepth 65536 in
set_option maxHeartbeats 40000000 in
theorem rm_deg1 (l : Launch) (Z : State) (a0 : Array Value) (hw : ∀ d ∈ tables_1, d.before a0 Z = true) (ws : List Jvm.Cond) (ya : Addr) (ys : Addr) (yk : ClassId) (x0 : Int32) (x1 : Int32) (x2 : Int32) (x3 : Int32) (x4 : Int32) (h0 : Heap) (n0 : Nat) (O0 : Old Z n0 h0) (F0 : Fld Z h0 ya cn0 "start" "[I" (.ref ys)) (F1 : Arv Z h0 ys yk .int (5 : Int32) [(.int x0), (.int x1), (.int x2), (.int x3), (.int x4)] (.int (0 : Int32))) :
    MetFree l (⟨cn0, "degree", "(I)I"⟩ : MethodName) (head1 (Jvm.Cond.code (⟨cn0, "degree", "(I)I"⟩ : MethodName) prog_14_method_3_code 2 (some .int) :: ws) ({ frames := 0, cells := 0, slots := 0, locals := 0 } : Room)) (fun a U => a = #[(.ref ya), (.int (1 : Int32))] ∧ Z.Warmed39 U.vm ∧ U.heap = h0) (fun _ _ _ _ _ => True) (fun _ U o U' => ∃ v L, o = .returned v ∧ Q_rm_deg1 Z ya ys yk x0 x1 x2 x3 x4 h0 n0 v U'.heap L ∧ FrameEnd U o U' L ({ frames := 0, cells := 0, slots := 0, locals := 0 } : Room).cells ({ frames := 0, cells := 0, slots := 0, locals := 0 } : Room).slots) := by
  refine MetFree.of_bodySF (plainFor_of_name pn_com_example_unea_unea_analysis_SparsePattern) hisR ?_
  intro p e s m args below meth c s₁ Bd hml0 hP hK
  obtain ⟨rfl, hZ, hh⟩ := hP
  have hx := Bd.exec
  have hby := Bd.bytes
  have hlk := Bd.notSynchronized
  have hml : c.maxLocals = 2 := hml0
  have hown : s.vm.findClass cn0 = some m.cls := findClass_of_methodNamed Bd.named
  have hnm := (name_of_methodNamed Bd.named Bd.method).1
  have X0 : Stand p l e ({ frames := 0, cells := 0, slots := 0, locals := 0 } : Room) s m #[(.ref ya), (.int (1 : Int32))] below meth c s₁ [] 0 0 := Stand.of_body Bd
  have e0 : s₁.heap = h0 := by rw [← hh, Bd.state]; rfl
  have N0 := Fr.nil n0
  have K0 := Keep.refl h0 []
  have Z0 : n0 ≤ h0.size := O0.1 ▸ O0.2.1
  have hef : entryFrame m #[(.ref ya), (.int (1 : Int32))] 2 = mkF m 0 #[.val (.ref ya), .val (.int (1 : Int32))] [] := by first | (simp [entryFrame, mkF, argsToLocals, Value.category]; done) | rfl
  rw [hef]
  refine Gets.out (Q := Q_rm_deg1 Z ya ys yk x0 x1 x2 x3 x4 h0 n0) ?_
  show Gets p e below _ (s₁.setTop (mkF m 0 #[.val (.ref ya), .val (.int (1 : Int32))] []))
  refine Gets.of (fun t k => XS.aloadN X0.here hx rfl (hb hby d3_0) rfl rfl  k) ?_
  obtain ⟨T1, X1, e1, st1⟩ := getF X0 hx hZ hown (host := "") (Or.inl (w10 hw)) Via.refl e0 F0 (g := (mkF m 1 #[.val (.ref ya), .val (.int (1 : Int32))] [(.ref ya)])) rfl rfl (hb hby d3_1)
  refine Gets.of st1 ?_
  show Gets p e below _ (T1.setTop (mkF m 4 #[.val (.ref ya), .val (.int (1 : Int32))] [(.ref ys)]))
  refine Gets.of (fun t k => XS.iloadN X1.here hx rfl (hb hby d3_4) rfl  k) ?_
  refine Gets.of (fun t k => XS.iconst X1.here hx rfl (hb hby d3_5) k) ?_
  refine Gets.of (fun t k => XS.iadd X1.here hx rfl (hb hby d3_6) rfl k) ?_
  show Gets p e below _ (T1.setTop (mkF m 7 #[.val (.ref ya), .val (.int (1 : Int32))] [(.int (2 : Int32)), (.ref ys)]))
  obtain ⟨cl2, Ar2, q2, S2, N_2, H2, G2⟩ := id (F1)
  have hin2 : ¬ ((2 : Int32) < 0 ∨ cl2.slots.size ≤ ((2 : Int32)).toNatClampNeg) := inb_of S2 ⟨by decide, by decide⟩
  refine Gets.of (fun t k => X1.iaload hx (j := (2 : Int32)) (v := (.int x2)) (by rw [e1]; exact Ar2.1) (State.isArrayOf_alike hZ.alike Ar2.2.1) Ar2.2.2 hin2 (Has.at H2 hin2 rfl) (g := (mkF m 7 #[.val (.ref ya), .val (.int (1 : Int32))] [(.int (2 : Int32)), (.ref ys)])) rfl rfl (hb hby d3_7) t k) ?_
  show Gets p e below _ (T1.setTop (mkF m 8 #[.val (.ref ya), .val (.int (1 : Int32))] [(.int x2)]))
  refine Gets.of (fun t k => XS.aloadN X1.here hx rfl (hb hby d3_8) rfl rfl  k) ?_
  obtain ⟨T3, X3, e3, st3⟩ := getF X1 hx hZ hown (host := "") (Or.inl (w10 hw)) Via.refl e1 F0 (g := (mkF m 9 #[.val (.ref ya), .val (.int (1 : Int32))] [(.ref ya), (.int x2)])) rfl rfl (hb hby d3_9)
  refine Gets.of st3 ?_
  show Gets p e below _ (T3.setTop (mkF m 12 #[.val (.ref ya), .val (.int (1 : Int32))] [(.ref ys), (.int x2)]))
  refine Gets.of (fun t k => XS.iloadN X3.here hx rfl (hb hby d3_12) rfl  k) ?_
  obtain ⟨cl4, Ar4, q4, S4, N_4, H4, G4⟩ := id (F1)
  have hin4 : ¬ ((1 : Int32) < 0 ∨ cl4.slots.size ≤ ((1 : Int32)).toNatClampNeg) := inb_of S4 ⟨by decide, by decide⟩
  refine Gets.of (fun t k => X3.iaload hx (j := (1 : Int32)) (v := (.int x1)) (by rw [e3]; exact Ar4.1) (State.isArrayOf_alike hZ.alike Ar4.2.1) Ar4.2.2 hin4 (Has.at H4 hin4 rfl) (g := (mkF m 13 #[.val (.ref ya), .val (.int (1 : Int32))] [(.int (1 : Int32)), (.ref ys), (.int x2)])) rfl rfl (hb hby d3_13) t k) ?_
  show Gets p e below _ (T3.setTop (mkF m 14 #[.val (.ref ya), .val (.int (1 : Int32))] [(.int x1), (.int x2)]))
  refine Gets.of (fun t k => XS.isub X3.here hx rfl (hb hby d3_14) rfl k) ?_
  show Gets p e below _ (T3.setTop (mkF m 15 #[.val (.ref ya), .val (.int (1 : Int32))] [(.int (x2 - x1))]))
  refine Gets.retI X3 hx Bd.returns (hb hby d3_15) ?_ (by decide) (by decide)
  rw [e3]
  exact ⟨N0, rfl, rfl⟩
def Q_rm_deg2 (Z : State) (ya : Addr) (ys : Addr) (yk : ClassId) (x0 : Int32) (x1 : Int32) (x2 : Int32) (x3 : Int32) (x4 : Int32) (h0 : Heap) (n0 : Nat) (v : Option Value) (h : Heap) (L : List Loc) : Prop := Fr n0 L ∧ h = h0 ∧ ((v = some (.int (x3 - x2))))
set_option maxRecDepth 65536 in
set_option maxHeartbeats 40000000 in
theorem rm_deg2 (l : Launch) (Z : State) (a0 : Array Value) (hw : ∀ d ∈ tables_1, d.before a0 Z = true) (ws : List Jvm.Cond) (ya : Addr) (ys : Addr) (yk : ClassId) (x0 : Int32) (x1 : Int32) (x2 : Int32) (x3 : Int32) (x4 : Int32) (h0 : Heap) (n0 : Nat) (O0 : Old Z n0 h0) (F0 : Fld Z h0 ya cn0 "start" "[I" (.ref ys)) (F1 : Arv Z h0 ys yk .int (5 : Int32) [(.int x0), (.int x1), (.int x2), (.int x3), (.int x4)] (.int (0 : Int32))) :
    MetFree l (⟨cn0, "degree", "(I)I"⟩ : MethodName) (head1 (Jvm.Cond.code (⟨cn0, "degree", "(I)I"⟩ : MethodName) prog_14_method_3_code 2 (some .int) :: ws) ({ frames := 0, cells := 0, slots := 0, locals := 0 } : Room)) (fun a U => a = #[(.ref ya), (.int (2 : Int32))] ∧ Z.Warmed39 U.vm ∧ U.heap = h0) (fun _ _ _ _ _ => True) (fun _ U o U' => ∃ v L, o = .returned v ∧ Q_rm_deg2 Z ya ys yk x0 x1 x2 x3 x4 h0 n0 v U'.heap L ∧ FrameEnd U o U' L ({ frames := 0, cells := 0, slots := 0, locals := 0 } : Room).cells ({ frames := 0, cells := 0, slots := 0, locals := 0 } : Room).slots) := by
  refine MetFree.of_bodySF (plainFor_of_name pn_com_example_unea_unea_analysis_SparsePattern) hisR ?_
  intro p e s m args below meth c s₁ Bd hml0 hP hK
  obtain ⟨rfl, hZ, hh⟩ := hP
  have hx := Bd.exec
  have hby := Bd.bytes
  have hlk := Bd.notSynchronized
  have hml : c.maxLocals = 2 := hml0
  have hown : s.vm.findClass cn0 = some m.cls := findClass_of_methodNamed Bd.named
  have hnm := (name_of_methodNamed Bd.named Bd.method).1
  have X0 : Stand p l e ({ frames := 0, cells := 0, slots := 0, locals := 0 } : Room) s m #[(.ref ya), (.int (2 : Int32))] below meth c s₁ [] 0 0 := Stand.of_body Bd
  have e0 : s₁.heap = h0 := by rw [← hh, Bd.state]; rfl
  have N0 := Fr.nil n0
  have K0 := Keep.refl h0 []
  have Z0 : n0 ≤ h0.size := O0.1 ▸ O0.2.1
  have hef : entryFrame m #[(.ref ya), (.int (2 : Int32))] 2 = mkF m 0 #[.val (.ref ya), .val (.int (2 : Int32))] [] := by first | (simp [entryFrame, mkF, argsToLocals, Value.category]; done) | rfl
  rw [hef]
  refine Gets.out (Q := Q_rm_deg2 Z ya ys yk x0 x1 x2 x3 x4 h0 n0) ?_
  show Gets p e below _ (s₁.setTop (mkF m 0 #[.val (.ref ya), .val (.int (2 : Int32))] []))
  refine Gets.of (fun t k => XS.aloadN X0.here hx rfl (hb hby d3_0) rfl rfl  k) ?_
  obtain ⟨T1, X1, e1, st1⟩ := getF X0 hx hZ hown (host := "") (Or.inl (w10 hw)) Via.refl e0 F0 (g := (mkF m 1 #[.val (.ref ya), .val (.int (2 : Int32))] [(.ref ya)])) rfl rfl (hb hby d3_1)
  refine Gets.of st1 ?_
  show Gets p e below _ (T1.setTop (mkF m 4 #[.val (.ref ya), .val (.int (2 : Int32))] [(.ref ys)]))
  refine Gets.of (fun t k => XS.iloadN X1.here hx rfl (hb hby d3_4) rfl  k) ?_
  refine Gets.of (fun t k => XS.iconst X1.here hx rfl (hb hby d3_5) k) ?_
  refine Gets.of (fun t k => XS.iadd X1.here hx rfl (hb hby d3_6) rfl k) ?_
  show Gets p e below _ (T1.setTop (mkF m 7 #[.val (.ref ya), .val (.int (2 : Int32))] [(.int (3 : Int32)), (.ref ys)]))
  obtain ⟨cl2, Ar2, q2, S2, N_2, H2, G2⟩ := id (F1)
  have hin2 : ¬ ((3 : Int32) < 0 ∨ cl2.slots.size ≤ ((3 : Int32)).toNatClampNeg) := inb_of S2 ⟨by decide, by decide⟩
  refine Gets.of (fun t k => X1.iaload hx (j := (3 : Int32)) (v := (.int x3)) (by rw [e1]; exact Ar2.1) (State.isArrayOf_alike hZ.alike Ar2.2.1) Ar2.2.2 hin2 (Has.at H2 hin2 rfl) (g := (mkF m 7 #[.val (.ref ya), .val (.int (2 : Int32))] [(.int (3 : Int32)), (.ref ys)])) rfl rfl (hb hby d3_7) t k) ?_
  show Gets p e below _ (T1.setTop (mkF m 8 #[.val (.ref ya), .val (.int (2 : Int32))] [(.int x3)]))
  refine Gets.of (fun t k => XS.aloadN X1.here hx rfl (hb hby d3_8) rfl rfl  k) ?_
  obtain ⟨T3, X3, e3, st3⟩ := getF X1 hx hZ hown (host := "") (Or.inl (w10 hw)) Via.refl e1 F0 (g := (mkF m 9 #[.val (.ref ya), .val (.int (2 : Int32))] [(.ref ya), (.int x3)])) rfl rfl (hb hby d3_9)
  refine Gets.of st3 ?_
  show Gets p e below _ (T3.setTop (mkF m 12 #[.val (.ref ya), .val (.int (2 : Int32))] [(.ref ys), (.int x3)]))
  refine Gets.of (fun t k => XS.iloadN X3.here hx rfl (hb hby d3_12) rfl  k) ?_
  obtain ⟨cl4, Ar4, q4, S4, N_4, H4, G4⟩ := id (F1)
  have hin4 : ¬ ((2 : Int32) < 0 ∨ cl4.slots.size ≤ ((2 : Int32)).toNatClampNeg) := inb_of S4 ⟨by decide, by decide⟩
  refine Gets.of (fun t k => X3.iaload hx (j := (2 : Int32)) (v := (.int x2)) (by rw [e3]; exact Ar4.1) (State.isArrayOf_alike hZ.alike Ar4.2.1) Ar4.2.2 hin4 (Has.at H4 hin4 rfl) (g := (mkF m 13 #[.val (.ref ya), .val (.int (2 : Int32))] [(.int (2 : Int32)), (.ref ys), (.int x3)])) rfl rfl (hb hby d3_13) t k) ?_
  show Gets p e below _ (T3.setTop (mkF m 14 #[.val (.ref ya), .val (.int (2 : Int32))] [(.int x2), (.int x3)]))
  refine Gets.of (fun t k => XS.isub X3.here hx rfl (hb hby d3_14) rfl k) ?_
  show Gets p e below _ (T3.setTop (mkF m 15 #[.val (.ref ya), .val (.int (2 : Int32))] [(.int (x3 - x2))]))
  refine Gets.retI X3 hx Bd.returns (hb hby d3_15) ?_ (by decide) (by decide)
  rw [e3]
  exact ⟨N0, rfl, rfl⟩
def Q_rm_deg3 (Z : State) (ya : Addr) (ys : Addr) (yk : ClassId) (x0 : Int32) (x1 : Int32) (x2 : Int32) (x3 : Int32) (x4 : Int32) (h0 : Heap) (n0 : Nat) (v : Option Value) (h : Heap) (L : List Loc) : Prop := Fr n0 L ∧ h = h0 ∧ ((v = some (.int (x4 - x3))))
set_option maxRecDepth 65536 in
set_option maxHeartbeats 40000000 in
theorem rm_deg3 (l : Launch) (Z : State) (a0 : Array Value) (hw : ∀ d ∈ tables_1, d.before a0 Z = true) (ws : List Jvm.Cond) (ya : Addr) (ys : Addr) (yk : ClassId) (x0 : Int32) (x1 : Int32) (x2 : Int32) (x3 : Int32) (x4 : Int32) (h0 : Heap) (n0 : Nat) (O0 : Old Z n0 h0) (F0 : Fld Z h0 ya cn0 "start" "[I" (.ref ys)) (F1 : Arv Z h0 ys yk .int (5 : Int32) [(.int x0), (.int x1), (.int x2), (.int x3), (.int x4)] (.int (0 : Int32))) :
    MetFree l (⟨cn0, "degree", "(I)I"⟩ : MethodName) (head1 (Jvm.Cond.code (⟨cn0, "degree", "(I)I"⟩ : MethodName) prog_14_method_3_code 2 (some .int) :: ws) ({ frames := 0, cells := 0, slots := 0, locals := 0 } : Room)) (fun a U => a = #[(.ref ya), (.int (3 : Int32))] ∧ Z.Warmed39 U.vm ∧ U.heap = h0) (fun _ _ _ _ _ => True) (fun _ U o U' => ∃ v L, o = .returned v ∧ Q_rm_deg3 Z ya ys yk x0 x1 x2 x3 x4 h0 n0 v U'.heap L ∧ FrameEnd U o U' L ({ frames := 0, cells := 0, slots := 0, locals := 0 } : Room).cells ({ frames := 0, cells := 0, slots := 0, locals := 0 } : Room).slots) := by
  refine MetFree.of_bodySF (plainFor_of_name pn_com_example_unea_unea_analysis_SparsePattern) hisR ?_
  intro p e s m args below meth c s₁ Bd hml0 hP hK
  obtain ⟨rfl, hZ, hh⟩ := hP
  have hx := Bd.exec
  have hby := Bd.bytes
  have hlk := Bd.notSynchronized
  have hml : c.maxLocals = 2 := hml0
  have hown : s.vm.findClass cn0 = some m.cls := findClass_of_methodNamed Bd.named
  have hnm := (name_of_methodNamed Bd.named Bd.method).1
  have X0 : Stand p l e ({ frames := 0, cells := 0, slots := 0, locals := 0 } : Room) s m #[(.ref ya), (.int (3 : Int32))] below meth c s₁ [] 0 0 := Stand.of_body Bd
  have e0 : s₁.heap = h0 := by rw [← hh, Bd.state]; rfl
  have N0 := Fr.nil n0
  have K0 := Keep.refl h0 []
  have Z0 : n0 ≤ h0.size := O0.1 ▸ O0.2.1
  have hef : entryFrame m #[(.ref ya), (.int (3 : Int32))] 2 = mkF m 0 #[.val (.ref ya), .val (.int (3 : Int32))] [] := by first | (simp [entryFrame, mkF, argsToLocals, Value.category]; done) | rfl
  rw [hef]
  refine Gets.out (Q := Q_rm_deg3 Z ya ys yk x0 x1 x2 x3 x4 h0 n0) ?_
  show Gets p e below _ (s₁.setTop (mkF m 0 #[.val (.ref ya), .val (.int (3 : Int32))] []))
  refine Gets.of (fun t k => XS.aloadN X0.here hx rfl (hb hby d3_0) rfl rfl  k) ?_
  obtain ⟨T1, X1, e1, st1⟩ := getF X0 hx hZ hown (host := "") (Or.inl (w10 hw)) Via.refl e0 F0 (g := (mkF m 1 #[.val (.ref ya), .val (.int (3 : Int32))] [(.ref ya)])) rfl rfl (hb hby d3_1)
  refine Gets.of st1 ?_
  show Gets p e below _ (T1.setTop (mkF m 4 #[.val (.ref ya), .val (.int (3 : Int32))] [(.ref ys)]))
  refine Gets.of (fun t k => XS.iloadN X1.here hx rfl (hb hby d3_4) rfl  k) ?_
  refine Gets.of (fun t k => XS.iconst X1.here hx rfl (hb hby d3_5) k) ?_
  refine Gets.of (fun t k => XS.iadd X1.here hx rfl (hb hby d3_6) rfl k) ?_
  show Gets p e below _ (T1.setTop (mkF m 7 #[.val (.ref ya), .val (.int (3 : Int32))] [(.int (4 : Int32)), (.ref ys)]))
  obtain ⟨cl2, Ar2, q2, S2, N_2, H2, G2⟩ := id (F1)
  have hin2 : ¬ ((4 : Int32) < 0 ∨ cl2.slots.size ≤ ((4 : Int32)).toNatClampNeg) := inb_of S2 ⟨by decide, by decide⟩
  refine Gets.of (fun t k => X1.iaload hx (j := (4 : Int32)) (v := (.int x4)) (by rw [e1]; exact Ar2.1) (State.isArrayOf_alike hZ.alike Ar2.2.1) Ar2.2.2 hin2 (Has.at H2 hin2 rfl) (g := (mkF m 7 #[.val (.ref ya), .val (.int (3 : Int32))] [(.int (4 : Int32)), (.ref ys)])) rfl rfl (hb hby d3_7) t k) ?_
  show Gets p e below _ (T1.setTop (mkF m 8 #[.val (.ref ya), .val (.int (3 : Int32))] [(.int x4)]))
  refine Gets.of (fun t k => XS.aloadN X1.here hx rfl (hb hby d3_8) rfl rfl  k) ?_
  obtain ⟨T3, X3, e3, st3⟩ := getF X1 hx hZ hown (host := "") (Or.inl (w10 hw)) Via.refl e1 F0 (g := (mkF m 9 #[.val (.ref ya), .val (.int (3 : Int32))] [(.ref ya), (.int x4)])) rfl rfl (hb hby d3_9)
  refine Gets.of st3 ?_
  show Gets p e below _ (T3.setTop (mkF m 12 #[.val (.ref ya), .val (.int (3 : Int32))] [(.ref ys), (.int x4)]))
  refine Gets.of (fun t k => XS.iloadN X3.here hx rfl (hb hby d3_12) rfl  k) ?_
  obtain ⟨cl4, Ar4, q4, S4, N_4, H4, G4⟩ := id (F1)
  have hin4 : ¬ ((3 : Int32) < 0 ∨ cl4.slots.size ≤ ((3 : Int32)).toNatClampNeg) := inb_of S4 ⟨by decide, by decide⟩
  refine Gets.of (fun t k => X3.iaload hx (j := (3 : Int32)) (v := (.int x3)) (by rw [e3]; exact Ar4.1) (State.isArrayOf_alike hZ.alike Ar4.2.1) Ar4.2.2 hin4 (Has.at H4 hin4 rfl) (g := (mkF m 13 #[.val (.ref ya), .val (.int (3 : Int32))] [(.int (3 : Int32)), (.ref ys), (.int x4)])) rfl rfl (hb hby d3_13) t k) ?_
  show Gets p e below _ (T3.setTop (mkF m 14 #[.val (.ref ya), .val (.int (3 : Int32))] [(.int x3), (.int x4)]))
  refine Gets.of (fun t k => XS.isub X3.here hx rfl (hb hby d3_14) rfl k) ?_
  show Gets p e below _ (T3.setTop (mkF m 15 #[.val (.ref ya), .val (.int (3 : Int32))] [(.int (x4 - x3))]))
  refine Gets.retI X3 hx Bd.returns (hb hby d3_15) ?_ (by decide) (by decide)
  rw [e3]
  exact ⟨N0, rfl, rfl⟩
theorem w0 {Z : State} {a0 : Array Value} (hw : ∀ d ∈ tables_1, d.before a0 Z = true) : (Jvm.Cond.arrayClass Jvm.ClassFile.FieldType.int).before a0 Z = true := hw _ (List.mem_of_getElem? (i := 0) rfl)
theorem w1 {Z : State} {a0 : Array Value} (hw : ∀ d ∈ tables_1, d.before a0 Z = true) : (Jvm.Cond.classLink "com/example/unea/unea/analysis/SparsePatternDegreePinLaw" (7 : Nat) cn0).before a0 Z = true := hw _ (List.mem_of_getElem? (i := 1) rfl)
theorem w3 {Z : State} {a0 : Array Value} (hw : ∀ d ∈ tables_1, d.before a0 Z = true) : (Jvm.Cond.initialized cn0).before a0 Z = true := hw _ (List.mem_of_getElem? (i := 3) rfl)
theorem w4 {Z : State} {a0 : Array Value} (hw : ∀ d ∈ tables_1, d.before a0 Z = true) : (Jvm.Cond.methodLink "com/example/unea/unea/analysis/SparsePatternDegreePinLaw" (9 : Nat) ({ cls := cn0, name := "<init>", desc := "([I[I)V" } : Jvm.MethodName)).before a0 Z = true := hw _ (List.mem_of_getElem? (i := 4) rfl)
theorem w6 {Z : State} {a0 : Array Value} (hw : ∀ d ∈ tables_1, d.before a0 Z = true) : (Jvm.Cond.code ({ cls := cn0, name := "<init>", desc := "([I[I)V" } : Jvm.MethodName) prog_14_method_1_code (3 : Nat) (Option.none : Option Jvm.ClassFile.FieldType)).before a0 Z = true := hw _ (List.mem_of_getElem? (i := 6) rfl)
theorem pd__I_I_V : parseMethodDescriptor "([I[I)V" = some ⟨[(.array .int), (.array .int)], none⟩ := by decide +kernel
theorem w5 {Z : State} {a0 : Array Value} (hw : ∀ d ∈ tables_1, d.before a0 Z = true) : (Jvm.Cond.instanceMethod ({ cls := cn0, name := "<init>", desc := "([I[I)V" } : Jvm.MethodName)).before a0 Z = true := hw _ (List.mem_of_getElem? (i := 5) rfl)
theorem w14 {Z : State} {a0 : Array Value} (hw : ∀ d ∈ tables_1, d.before a0 Z = true) : (Jvm.Cond.methodLink "com/example/unea/unea/analysis/SparsePatternDegreePinLaw" (12 : Nat) ({ cls := cn0, name := "degree", desc := "(I)I" } : Jvm.MethodName)).before a0 Z = true := hw _ (List.mem_of_getElem? (i := 14) rfl)
theorem w18 {Z : State} {a0 : Array Value} (hw : ∀ d ∈ tables_1, d.before a0 Z = true) : (Jvm.Cond.code ({ cls := cn0, name := "degree", desc := "(I)I" } : Jvm.MethodName) prog_14_method_3_code (2 : Nat) (Option.some Jvm.ClassFile.FieldType.int)).before a0 Z = true := hw _ (List.mem_of_getElem? (i := 18) rfl)
theorem pd__I_I : parseMethodDescriptor "(I)I" = some ⟨[.int], some .int⟩ := by decide +kernel
theorem w17 {Z : State} {a0 : Array Value} (hw : ∀ d ∈ tables_1, d.before a0 Z = true) : (Jvm.Cond.selects cn0 ({ cls := cn0, name := "degree", desc := "(I)I" } : Jvm.MethodName) ({ cls := cn0, name := "degree", desc := "(I)I" } : Jvm.MethodName)).before a0 Z = true := hw _ (List.mem_of_getElem? (i := 17) rfl)
theorem w15 {Z : State} {a0 : Array Value} (hw : ∀ d ∈ tables_1, d.before a0 Z = true) : (Jvm.Cond.declares ({ cls := cn0, name := "degree", desc := "(I)I" } : Jvm.MethodName)).before a0 Z = true := hw _ (List.mem_of_getElem? (i := 15) rfl)
theorem w16 {Z : State} {a0 : Array Value} (hw : ∀ d ∈ tables_1, d.before a0 Z = true) : (Jvm.Cond.instanceMethod ({ cls := cn0, name := "degree", desc := "(I)I" } : Jvm.MethodName)).before a0 Z = true := hw _ (List.mem_of_getElem? (i := 16) rfl)
def Q_rm_law (Z : State) (p1 : Int32) (p2 : Int32) (p3 : Int32) (p4 : Int32) (p5 : Int32) (h0 : Heap) (n0 : Nat) (v : Option Value) (h : Heap) (L : List Loc) : Prop := Fr n0 L ∧ Keep h0 h [] ∧ ((v = some (.int (1 : Int32))))
theorem pn_com_example_unea_unea_analysis_SparsePatternDegreePinLaw : plainName "com/example/unea/unea/analysis/SparsePatternDegreePinLaw" = true := by first | (simp [plainName, overriddenIn]; done) | decide +kernel
set_option maxRecDepth 65536 in
set_option maxHeartbeats 40000000 in
theorem rm_law (l : Launch) (Z : State) (a0 : Array Value) (hw : ∀ d ∈ tables_1, d.before a0 Z = true) (ws : List Jvm.Cond) (p1 : Int32) (p2 : Int32) (p3 : Int32) (p4 : Int32) (p5 : Int32) (h0 : Heap) (n0 : Nat) (O0 : Old Z n0 h0) :
    MetFree l x (head1 (Jvm.Cond.code x code maxLocals ret :: ws) room_1) (fun a U => a = #[(.int p1), (.int p2), (.int p3), (.int p4), (.int p5)] ∧ Z.Warmed39 U.vm ∧ U.heap = h0) (fun _ _ _ _ _ => True) (fun _ U o U' => ∃ v L, o = .returned v ∧ Q_rm_law Z p1 p2 p3 p4 p5 h0 n0 v U'.heap L ∧ FrameEnd U o U' L room_1.cells room_1.slots) := by
  refine MetFree.of_bodySF (plainFor_of_name pn_com_example_unea_unea_analysis_SparsePatternDegreePinLaw) hisR ?_
  intro p e s m args below meth c s₁ Bd hml0 hP hK
  obtain ⟨rfl, hZ, hh⟩ := hP
  have hx := Bd.exec
  have hby := Bd.bytes
  have hlk := Bd.notSynchronized
  have hml : c.maxLocals = 19 := hml0
  have hown : s.vm.findClass "com/example/unea/unea/analysis/SparsePatternDegreePinLaw" = some m.cls := findClass_of_methodNamed Bd.named
  have hnm := (name_of_methodNamed Bd.named Bd.method).1
  have X0 : Stand p l e room_1 s m #[(.int p1), (.int p2), (.int p3), (.int p4), (.int p5)] below meth c s₁ [] 0 0 := Stand.of_body Bd
  have e0 : s₁.heap = h0 := by rw [← hh, Bd.state]; rfl
  have N0 := Fr.nil n0
  have K0 := Keep.refl h0 []
  have Z0 : n0 ≤ h0.size := O0.1 ▸ O0.2.1
  have hef : entryFrame m #[(.int p1), (.int p2), (.int p3), (.int p4), (.int p5)] maxLocals = mkF m 0 #[.val (.int p1), .val (.int p2), .val (.int p3), .val (.int p4), .val (.int p5), .unset, .unset, .unset, .unset, .unset, .unset, .unset, .unset, .unset, .unset, .unset, .unset, .unset, .unset] [] := by first | (simp [entryFrame, mkF, argsToLocals, Value.category, maxLocals]; done) | rfl
  rw [hef]
  refine Gets.out (Q := Q_rm_law Z p1 p2 p3 p4 p5 h0 n0) ?_
  show Gets p e below _ (s₁.setTop (mkF m 0 #[.val (.int p1), .val (.int p2), .val (.int p3), .val (.int p4), .val (.int p5), .unset, .unset, .unset, .unset, .unset, .unset, .unset, .unset, .unset, .unset, .unset, .unset, .unset, .unset] []))
  refine Gets.of (fun t k => XS.iloadN X0.here hx rfl (hb hby at_0) rfl  k) ?_
  refine Gets.of (fun t k => XS.iconst X0.here hx rfl (hb hby at_1) k) ?_
  refine Gets.of (fun t k => XS.iand X0.here hx rfl (hb hby at_2) rfl k) ?_
  show Gets p e below _ (s₁.setTop (mkF m 3 #[.val (.int p1), .val (.int p2), .val (.int p3), .val (.int p4), .val (.int p5), .unset, .unset, .unset, .unset, .unset, .unset, .unset, .unset, .unset, .unset, .unset, .unset, .unset, .unset] [(.int (p1 &&& (3 : Int32)))]))
  refine Gets.of (fun t k => XS.istore X0.here hx rfl (hb hby at_3) rfl (l' := #[.val (.int p1), .val (.int p2), .val (.int p3), .val (.int p4), .val (.int p5), .val (.int (p1 &&& (3 : Int32))), .unset, .unset, .unset, .unset, .unset, .unset, .unset, .unset, .unset, .unset, .unset, .unset, .unset]) rfl k) ?_
  show Gets p e below _ (s₁.setTop (mkF m 5 #[.val (.int p1), .val (.int p2), .val (.int p3), .val (.int p4), .val (.int p5), .val (.int (p1 &&& (3 : Int32))), .unset, .unset, .unset, .unset, .unset, .unset, .unset, .unset, .unset, .unset, .unset, .unset, .unset] []))
  refine Gets.of (fun t k => XS.iloadN X0.here hx rfl (hb hby at_5) rfl  k) ?_
  refine Gets.of (fun t k => XS.bipush X0.here hx rfl (hb hby at_6) k) ?_
  refine Gets.of (fun t k => XS.iand X0.here hx rfl (hb hby at_8) rfl k) ?_
  show Gets p e below _ (s₁.setTop (mkF m 9 #[.val (.int p1), .val (.int p2), .val (.int p3), .val (.int p4), .val (.int p5), .val (.int (p1 &&& (3 : Int32))), .unset, .unset, .unset, .unset, .unset, .unset, .unset, .unset, .unset, .unset, .unset, .unset, .unset] [(.int (p2 &&& (7 : Int32)))]))
  refine Gets.of (fun t k => XS.istore X0.here hx rfl (hb hby at_9) rfl (l' := #[.val (.int p1), .val (.int p2), .val (.int p3), .val (.int p4), .val (.int p5), .val (.int (p1 &&& (3 : Int32))), .val (.int (p2 &&& (7 : Int32))), .unset, .unset, .unset, .unset, .unset, .unset, .unset, .unset, .unset, .unset, .unset, .unset]) rfl k) ?_
  show Gets p e below _ (s₁.setTop (mkF m 11 #[.val (.int p1), .val (.int p2), .val (.int p3), .val (.int p4), .val (.int p5), .val (.int (p1 &&& (3 : Int32))), .val (.int (p2 &&& (7 : Int32))), .unset, .unset, .unset, .unset, .unset, .unset, .unset, .unset, .unset, .unset, .unset, .unset] []))
  refine Gets.of (fun t k => XS.iloadN X0.here hx rfl (hb hby at_11) rfl  k) ?_
  refine Gets.of (fun t k => XS.bipush X0.here hx rfl (hb hby at_12) k) ?_
  refine Gets.of (fun t k => XS.iand X0.here hx rfl (hb hby at_14) rfl k) ?_
  show Gets p e below _ (s₁.setTop (mkF m 15 #[.val (.int p1), .val (.int p2), .val (.int p3), .val (.int p4), .val (.int p5), .val (.int (p1 &&& (3 : Int32))), .val (.int (p2 &&& (7 : Int32))), .unset, .unset, .unset, .unset, .unset, .unset, .unset, .unset, .unset, .unset, .unset, .unset] [(.int (p3 &&& (7 : Int32)))]))
  refine Gets.of (fun t k => XS.istore X0.here hx rfl (hb hby at_15) rfl (l' := #[.val (.int p1), .val (.int p2), .val (.int p3), .val (.int p4), .val (.int p5), .val (.int (p1 &&& (3 : Int32))), .val (.int (p2 &&& (7 : Int32))), .val (.int (p3 &&& (7 : Int32))), .unset, .unset, .unset, .unset, .unset, .unset, .unset, .unset, .unset, .unset, .unset]) rfl k) ?_
  show Gets p e below _ (s₁.setTop (mkF m 17 #[.val (.int p1), .val (.int p2), .val (.int p3), .val (.int p4), .val (.int p5), .val (.int (p1 &&& (3 : Int32))), .val (.int (p2 &&& (7 : Int32))), .val (.int (p3 &&& (7 : Int32))), .unset, .unset, .unset, .unset, .unset, .unset, .unset, .unset, .unset, .unset, .unset] []))
  refine Gets.of (fun t k => XS.iloadN X0.here hx rfl (hb hby at_17) rfl  k) ?_
  refine Gets.of (fun t k => XS.bipush X0.here hx rfl (hb hby at_18) k) ?_
  refine Gets.of (fun t k => XS.iand X0.here hx rfl (hb hby at_20) rfl k) ?_
  show Gets p e below _ (s₁.setTop (mkF m 21 #[.val (.int p1), .val (.int p2), .val (.int p3), .val (.int p4), .val (.int p5), .val (.int (p1 &&& (3 : Int32))), .val (.int (p2 &&& (7 : Int32))), .val (.int (p3 &&& (7 : Int32))), .unset, .unset, .unset, .unset, .unset, .unset, .unset, .unset, .unset, .unset, .unset] [(.int (p4 &&& (7 : Int32)))]))
  refine Gets.of (fun t k => XS.istore X0.here hx rfl (hb hby at_21) rfl (l' := #[.val (.int p1), .val (.int p2), .val (.int p3), .val (.int p4), .val (.int p5), .val (.int (p1 &&& (3 : Int32))), .val (.int (p2 &&& (7 : Int32))), .val (.int (p3 &&& (7 : Int32))), .val (.int (p4 &&& (7 : Int32))), .unset, .unset, .unset, .unset, .unset, .unset, .unset, .unset, .unset, .unset]) rfl k) ?_
  show Gets p e below _ (s₁.setTop (mkF m 23 #[.val (.int p1), .val (.int p2), .val (.int p3), .val (.int p4), .val (.int p5), .val (.int (p1 &&& (3 : Int32))), .val (.int (p2 &&& (7 : Int32))), .val (.int (p3 &&& (7 : Int32))), .val (.int (p4 &&& (7 : Int32))), .unset, .unset, .unset, .unset, .unset, .unset, .unset, .unset, .unset, .unset] []))
  refine Gets.of (fun t k => XS.iload X0.here hx rfl (hb hby at_23) rfl  k) ?_
  refine Gets.of (fun t k => XS.bipush X0.here hx rfl (hb hby at_25) k) ?_
  refine Gets.of (fun t k => XS.iand X0.here hx rfl (hb hby at_27) rfl k) ?_
  show Gets p e below _ (s₁.setTop (mkF m 28 #[.val (.int p1), .val (.int p2), .val (.int p3), .val (.int p4), .val (.int p5), .val (.int (p1 &&& (3 : Int32))), .val (.int (p2 &&& (7 : Int32))), .val (.int (p3 &&& (7 : Int32))), .val (.int (p4 &&& (7 : Int32))), .unset, .unset, .unset, .unset, .unset, .unset, .unset, .unset, .unset, .unset] [(.int (p5 &&& (7 : Int32)))]))
  refine Gets.of (fun t k => XS.istore X0.here hx rfl (hb hby at_28) rfl (l' := #[.val (.int p1), .val (.int p2), .val (.int p3), .val (.int p4), .val (.int p5), .val (.int (p1 &&& (3 : Int32))), .val (.int (p2 &&& (7 : Int32))), .val (.int (p3 &&& (7 : Int32))), .val (.int (p4 &&& (7 : Int32))), .val (.int (p5 &&& (7 : Int32))), .unset, .unset, .unset, .unset, .unset, .unset, .unset, .unset, .unset]) rfl k) ?_
  show Gets p e below _ (s₁.setTop (mkF m 30 #[.val (.int p1), .val (.int p2), .val (.int p3), .val (.int p4), .val (.int p5), .val (.int (p1 &&& (3 : Int32))), .val (.int (p2 &&& (7 : Int32))), .val (.int (p3 &&& (7 : Int32))), .val (.int (p4 &&& (7 : Int32))), .val (.int (p5 &&& (7 : Int32))), .unset, .unset, .unset, .unset, .unset, .unset, .unset, .unset, .unset] []))
  refine Gets.of (fun t k => XS.iconst X0.here hx rfl (hb hby at_30) k) ?_
  obtain ⟨T1, h1, k1, X1, e1, E1, A1, Ex1, st1⟩ := newPE X0 hx hZ (aty := .int) (w0 hw) e0 (g := (mkF m 31 #[.val (.int p1), .val (.int p2), .val (.int p3), .val (.int p4), .val (.int p5), .val (.int (p1 &&& (3 : Int32))), .val (.int (p2 &&& (7 : Int32))), .val (.int (p3 &&& (7 : Int32))), .val (.int (p4 &&& (7 : Int32))), .val (.int (p5 &&& (7 : Int32))), .unset, .unset, .unset, .unset, .unset, .unset, .unset, .unset, .unset] [(.int (5 : Int32))])) rfl (hb hby at_31) rfl (by decide) (cap := 5) (by decide) (by decide) (by decide) (by decide) (ad := "[I") rfl
  obtain ⟨b1, g1⟩ : ∃ z, z = h0.size := ⟨_, rfl⟩
  rw [← g1] at A1 Ex1 st1
  have sz_b1 : h0.size ≤ b1 := Nat.le_trans K0.1 (Nat.le_of_eq g1.symm)
  have g_b1 : n0 ≤ b1 := Nat.le_trans Z0 sz_b1
  have K2 := K0.ext E1
  have O2 := O0.ext E1
  have V1 : Arv Z h1 b1 k1 .int (5 : Int32) [(.int (0 : Int32)), (.int (0 : Int32)), (.int (0 : Int32)), (.int (0 : Int32)), (.int (0 : Int32))] (.int (0 : Int32)) := (Arv.new A1 (by decide)).pad (pad_rep [] (.int (0 : Int32)) 5)
  refine Gets.of st1 ?_
  show Gets p e below _ (T1.setTop (mkF m 33 #[.val (.int p1), .val (.int p2), .val (.int p3), .val (.int p4), .val (.int p5), .val (.int (p1 &&& (3 : Int32))), .val (.int (p2 &&& (7 : Int32))), .val (.int (p3 &&& (7 : Int32))), .val (.int (p4 &&& (7 : Int32))), .val (.int (p5 &&& (7 : Int32))), .unset, .unset, .unset, .unset, .unset, .unset, .unset, .unset, .unset] [(.ref b1)]))
  refine Gets.of (fun t k => XS.astore X1.here hx rfl (hb hby at_33) rfl rfl (l' := #[.val (.int p1), .val (.int p2), .val (.int p3), .val (.int p4), .val (.int p5), .val (.int (p1 &&& (3 : Int32))), .val (.int (p2 &&& (7 : Int32))), .val (.int (p3 &&& (7 : Int32))), .val (.int (p4 &&& (7 : Int32))), .val (.int (p5 &&& (7 : Int32))), .val (.ref b1), .unset, .unset, .unset, .unset, .unset, .unset, .unset, .unset]) rfl k) ?_
  show Gets p e below _ (T1.setTop (mkF m 35 #[.val (.int p1), .val (.int p2), .val (.int p3), .val (.int p4), .val (.int p5), .val (.int (p1 &&& (3 : Int32))), .val (.int (p2 &&& (7 : Int32))), .val (.int (p3 &&& (7 : Int32))), .val (.int (p4 &&& (7 : Int32))), .val (.int (p5 &&& (7 : Int32))), .val (.ref b1), .unset, .unset, .unset, .unset, .unset, .unset, .unset, .unset] []))
  refine Gets.of (fun t k => XS.aload X1.here hx rfl (hb hby at_35) rfl rfl  k) ?_
  refine Gets.of (fun t k => XS.iconst X1.here hx rfl (hb hby at_37) k) ?_
  refine Gets.of (fun t k => XS.iload X1.here hx rfl (hb hby at_38) rfl  k) ?_
  obtain ⟨cl3, Ar3, q3, S3, N_3, H3, G3⟩ := id (V1)
  have hin3 : ¬ ((0 : Int32) < 0 ∨ cl3.slots.size ≤ ((0 : Int32)).toNatClampNeg) := inb_of S3 ⟨by decide, by decide⟩
  obtain ⟨T4, h4, X4, e4, W4, st4⟩ := stI X1 hx hZ e1 Ar3 (j := (0 : Int32)) hin3 (g := (mkF m 40 #[.val (.int p1), .val (.int p2), .val (.int p3), .val (.int p4), .val (.int p5), .val (.int (p1 &&& (3 : Int32))), .val (.int (p2 &&& (7 : Int32))), .val (.int (p3 &&& (7 : Int32))), .val (.int (p4 &&& (7 : Int32))), .val (.int (p5 &&& (7 : Int32))), .val (.ref b1), .unset, .unset, .unset, .unset, .unset, .unset, .unset, .unset] [(.int (p1 &&& (3 : Int32))), (.int (0 : Int32)), (.ref b1)])) rfl rfl (hb hby at_40)
  have V4 : Arv Z h4 b1 k1 .int (5 : Int32) [(.int (p1 &&& (3 : Int32))), (.int (0 : Int32)), (.int (0 : Int32)), (.int (0 : Int32)), (.int (0 : Int32))] (.int (0 : Int32)) := Arv.set Ar3 q3 S3 N_3 H3 G3 rfl W4 0 rfl (Nat.le_of_ble_eq_true rfl)
  have N4 := Fr.snoc X4 N0 g_b1
  have K5 : Keep h0 _ [] := K2.wr W4 (Or.inr sz_b1)
  have O5 := O2.wr W4 g_b1
  refine Gets.of st4 ?_
  show Gets p e below _ (T4.setTop (mkF m 41 #[.val (.int p1), .val (.int p2), .val (.int p3), .val (.int p4), .val (.int p5), .val (.int (p1 &&& (3 : Int32))), .val (.int (p2 &&& (7 : Int32))), .val (.int (p3 &&& (7 : Int32))), .val (.int (p4 &&& (7 : Int32))), .val (.int (p5 &&& (7 : Int32))), .val (.ref b1), .unset, .unset, .unset, .unset, .unset, .unset, .unset, .unset] []))
  refine Gets.of (fun t k => XS.aload X4.here hx rfl (hb hby at_41) rfl rfl  k) ?_
  refine Gets.of (fun t k => XS.iconst X4.here hx rfl (hb hby at_43) k) ?_
  refine Gets.of (fun t k => XS.iload X4.here hx rfl (hb hby at_44) rfl  k) ?_
  refine Gets.of (fun t k => XS.iload X4.here hx rfl (hb hby at_46) rfl  k) ?_
  show Gets p e below _ (T4.setTop (mkF m 48 #[.val (.int p1), .val (.int p2), .val (.int p3), .val (.int p4), .val (.int p5), .val (.int (p1 &&& (3 : Int32))), .val (.int (p2 &&& (7 : Int32))), .val (.int (p3 &&& (7 : Int32))), .val (.int (p4 &&& (7 : Int32))), .val (.int (p5 &&& (7 : Int32))), .val (.ref b1), .unset, .unset, .unset, .unset, .unset, .unset, .unset, .unset] [(.int (p2 &&& (7 : Int32))), (.int (p1 &&& (3 : Int32))), (.int (1 : Int32)), (.ref b1)]))
  refine Gets.of (fun t k => XS.iadd X4.here hx rfl (hb hby at_48) rfl k) ?_
  show Gets p e below _ (T4.setTop (mkF m 49 #[.val (.int p1), .val (.int p2), .val (.int p3), .val (.int p4), .val (.int p5), .val (.int (p1 &&& (3 : Int32))), .val (.int (p2 &&& (7 : Int32))), .val (.int (p3 &&& (7 : Int32))), .val (.int (p4 &&& (7 : Int32))), .val (.int (p5 &&& (7 : Int32))), .val (.ref b1), .unset, .unset, .unset, .unset, .unset, .unset, .unset, .unset] [(.int ((p1 &&& (3 : Int32)) + (p2 &&& (7 : Int32)))), (.int (1 : Int32)), (.ref b1)]))
  obtain ⟨cl6, Ar6, q6, S6, N_6, H6, G6⟩ := id (V4)
  have hin6 : ¬ ((1 : Int32) < 0 ∨ cl6.slots.size ≤ ((1 : Int32)).toNatClampNeg) := inb_of S6 ⟨by decide, by decide⟩
  obtain ⟨T7, h7, X7, e7, W7, st7⟩ := stI X4 hx hZ e4 Ar6 (j := (1 : Int32)) hin6 (g := (mkF m 49 #[.val (.int p1), .val (.int p2), .val (.int p3), .val (.int p4), .val (.int p5), .val (.int (p1 &&& (3 : Int32))), .val (.int (p2 &&& (7 : Int32))), .val (.int (p3 &&& (7 : Int32))), .val (.int (p4 &&& (7 : Int32))), .val (.int (p5 &&& (7 : Int32))), .val (.ref b1), .unset, .unset, .unset, .unset, .unset, .unset, .unset, .unset] [(.int ((p1 &&& (3 : Int32)) + (p2 &&& (7 : Int32)))), (.int (1 : Int32)), (.ref b1)])) rfl rfl (hb hby at_49)
  have V7 : Arv Z h7 b1 k1 .int (5 : Int32) [(.int (p1 &&& (3 : Int32))), (.int ((p1 &&& (3 : Int32)) + (p2 &&& (7 : Int32)))), (.int (0 : Int32)), (.int (0 : Int32)), (.int (0 : Int32))] (.int (0 : Int32)) := Arv.set Ar6 q6 S6 N_6 H6 G6 rfl W7 1 rfl (Nat.le_of_ble_eq_true rfl)
  have N7 := Fr.snoc X7 N4 g_b1
  have K8 : Keep h0 _ [] := K5.wr W7 (Or.inr sz_b1)
  have O8 := O5.wr W7 g_b1
  refine Gets.of st7 ?_
  show Gets p e below _ (T7.setTop (mkF m 50 #[.val (.int p1), .val (.int p2), .val (.int p3), .val (.int p4), .val (.int p5), .val (.int (p1 &&& (3 : Int32))), .val (.int (p2 &&& (7 : Int32))), .val (.int (p3 &&& (7 : Int32))), .val (.int (p4 &&& (7 : Int32))), .val (.int (p5 &&& (7 : Int32))), .val (.ref b1), .unset, .unset, .unset, .unset, .unset, .unset, .unset, .unset] []))
  refine Gets.of (fun t k => XS.aload X7.here hx rfl (hb hby at_50) rfl rfl  k) ?_
  refine Gets.of (fun t k => XS.iconst X7.here hx rfl (hb hby at_52) k) ?_
  refine Gets.of (fun t k => XS.iload X7.here hx rfl (hb hby at_53) rfl  k) ?_
  refine Gets.of (fun t k => XS.iload X7.here hx rfl (hb hby at_55) rfl  k) ?_
  show Gets p e below _ (T7.setTop (mkF m 57 #[.val (.int p1), .val (.int p2), .val (.int p3), .val (.int p4), .val (.int p5), .val (.int (p1 &&& (3 : Int32))), .val (.int (p2 &&& (7 : Int32))), .val (.int (p3 &&& (7 : Int32))), .val (.int (p4 &&& (7 : Int32))), .val (.int (p5 &&& (7 : Int32))), .val (.ref b1), .unset, .unset, .unset, .unset, .unset, .unset, .unset, .unset] [(.int (p2 &&& (7 : Int32))), (.int (p1 &&& (3 : Int32))), (.int (2 : Int32)), (.ref b1)]))
  refine Gets.of (fun t k => XS.iadd X7.here hx rfl (hb hby at_57) rfl k) ?_
  show Gets p e below _ (T7.setTop (mkF m 58 #[.val (.int p1), .val (.int p2), .val (.int p3), .val (.int p4), .val (.int p5), .val (.int (p1 &&& (3 : Int32))), .val (.int (p2 &&& (7 : Int32))), .val (.int (p3 &&& (7 : Int32))), .val (.int (p4 &&& (7 : Int32))), .val (.int (p5 &&& (7 : Int32))), .val (.ref b1), .unset, .unset, .unset, .unset, .unset, .unset, .unset, .unset] [(.int ((p1 &&& (3 : Int32)) + (p2 &&& (7 : Int32)))), (.int (2 : Int32)), (.ref b1)]))
  refine Gets.of (fun t k => XS.iload X7.here hx rfl (hb hby at_58) rfl  k) ?_
  refine Gets.of (fun t k => XS.iadd X7.here hx rfl (hb hby at_60) rfl k) ?_
  show Gets p e below _ (T7.setTop (mkF m 61 #[.val (.int p1), .val (.int p2), .val (.int p3), .val (.int p4), .val (.int p5), .val (.int (p1 &&& (3 : Int32))), .val (.int (p2 &&& (7 : Int32))), .val (.int (p3 &&& (7 : Int32))), .val (.int (p4 &&& (7 : Int32))), .val (.int (p5 &&& (7 : Int32))), .val (.ref b1), .unset, .unset, .unset, .unset, .unset, .unset, .unset, .unset] [(.int (((p1 &&& (3 : Int32)) + (p2 &&& (7 : Int32))) + (p3 &&& (7 : Int32)))), (.int (2 : Int32)), (.ref b1)]))
  obtain ⟨cl9, Ar9, q9, S9, N_9, H9, G9⟩ := id (V7)
  have hin9 : ¬ ((2 : Int32) < 0 ∨ cl9.slots.size ≤ ((2 : Int32)).toNatClampNeg) := inb_of S9 ⟨by decide, by decide⟩
  obtain ⟨T10, h10, X10, e10, W10, st10⟩ := stI X7 hx hZ e7 Ar9 (j := (2 : Int32)) hin9 (g := (mkF m 61 #[.val (.int p1), .val (.int p2), .val (.int p3), .val (.int p4), .val (.int p5), .val (.int (p1 &&& (3 : Int32))), .val (.int (p2 &&& (7 : Int32))), .val (.int (p3 &&& (7 : Int32))), .val (.int (p4 &&& (7 : Int32))), .val (.int (p5 &&& (7 : Int32))), .val (.ref b1), .unset, .unset, .unset, .unset, .unset, .unset, .unset, .unset] [(.int (((p1 &&& (3 : Int32)) + (p2 &&& (7 : Int32))) + (p3 &&& (7 : Int32)))), (.int (2 : Int32)), (.ref b1)])) rfl rfl (hb hby at_61)
  have V10 : Arv Z h10 b1 k1 .int (5 : Int32) [(.int (p1 &&& (3 : Int32))), (.int ((p1 &&& (3 : Int32)) + (p2 &&& (7 : Int32)))), (.int (((p1 &&& (3 : Int32)) + (p2 &&& (7 : Int32))) + (p3 &&& (7 : Int32)))), (.int (0 : Int32)), (.int (0 : Int32))] (.int (0 : Int32)) := Arv.set Ar9 q9 S9 N_9 H9 G9 rfl W10 2 rfl (Nat.le_of_ble_eq_true rfl)
  have N10 := Fr.snoc X10 N7 g_b1
  have K11 : Keep h0 _ [] := K8.wr W10 (Or.inr sz_b1)
  have O11 := O8.wr W10 g_b1
  refine Gets.of st10 ?_
  show Gets p e below _ (T10.setTop (mkF m 62 #[.val (.int p1), .val (.int p2), .val (.int p3), .val (.int p4), .val (.int p5), .val (.int (p1 &&& (3 : Int32))), .val (.int (p2 &&& (7 : Int32))), .val (.int (p3 &&& (7 : Int32))), .val (.int (p4 &&& (7 : Int32))), .val (.int (p5 &&& (7 : Int32))), .val (.ref b1), .unset, .unset, .unset, .unset, .unset, .unset, .unset, .unset] []))
  refine Gets.of (fun t k => XS.aload X10.here hx rfl (hb hby at_62) rfl rfl  k) ?_
  refine Gets.of (fun t k => XS.iconst X10.here hx rfl (hb hby at_64) k) ?_
  refine Gets.of (fun t k => XS.iload X10.here hx rfl (hb hby at_65) rfl  k) ?_
  refine Gets.of (fun t k => XS.iload X10.here hx rfl (hb hby at_67) rfl  k) ?_
  show Gets p e below _ (T10.setTop (mkF m 69 #[.val (.int p1), .val (.int p2), .val (.int p3), .val (.int p4), .val (.int p5), .val (.int (p1 &&& (3 : Int32))), .val (.int (p2 &&& (7 : Int32))), .val (.int (p3 &&& (7 : Int32))), .val (.int (p4 &&& (7 : Int32))), .val (.int (p5 &&& (7 : Int32))), .val (.ref b1), .unset, .unset, .unset, .unset, .unset, .unset, .unset, .unset] [(.int (p2 &&& (7 : Int32))), (.int (p1 &&& (3 : Int32))), (.int (3 : Int32)), (.ref b1)]))
  refine Gets.of (fun t k => XS.iadd X10.here hx rfl (hb hby at_69) rfl k) ?_
  show Gets p e below _ (T10.setTop (mkF m 70 #[.val (.int p1), .val (.int p2), .val (.int p3), .val (.int p4), .val (.int p5), .val (.int (p1 &&& (3 : Int32))), .val (.int (p2 &&& (7 : Int32))), .val (.int (p3 &&& (7 : Int32))), .val (.int (p4 &&& (7 : Int32))), .val (.int (p5 &&& (7 : Int32))), .val (.ref b1), .unset, .unset, .unset, .unset, .unset, .unset, .unset, .unset] [(.int ((p1 &&& (3 : Int32)) + (p2 &&& (7 : Int32)))), (.int (3 : Int32)), (.ref b1)]))
  refine Gets.of (fun t k => XS.iload X10.here hx rfl (hb hby at_70) rfl  k) ?_
  refine Gets.of (fun t k => XS.iadd X10.here hx rfl (hb hby at_72) rfl k) ?_
  show Gets p e below _ (T10.setTop (mkF m 73 #[.val (.int p1), .val (.int p2), .val (.int p3), .val (.int p4), .val (.int p5), .val (.int (p1 &&& (3 : Int32))), .val (.int (p2 &&& (7 : Int32))), .val (.int (p3 &&& (7 : Int32))), .val (.int (p4 &&& (7 : Int32))), .val (.int (p5 &&& (7 : Int32))), .val (.ref b1), .unset, .unset, .unset, .unset, .unset, .unset, .unset, .unset] [(.int (((p1 &&& (3 : Int32)) + (p2 &&& (7 : Int32))) + (p3 &&& (7 : Int32)))), (.int (3 : Int32)), (.ref b1)]))
  refine Gets.of (fun t k => XS.iload X10.here hx rfl (hb hby at_73) rfl  k) ?_
  refine Gets.of (fun t k => XS.iadd X10.here hx rfl (hb hby at_75) rfl k) ?_
  show Gets p e below _ (T10.setTop (mkF m 76 #[.val (.int p1), .val (.int p2), .val (.int p3), .val (.int p4), .val (.int p5), .val (.int (p1 &&& (3 : Int32))), .val (.int (p2 &&& (7 : Int32))), .val (.int (p3 &&& (7 : Int32))), .val (.int (p4 &&& (7 : Int32))), .val (.int (p5 &&& (7 : Int32))), .val (.ref b1), .unset, .unset, .unset, .unset, .unset, .unset, .unset, .unset] [(.int ((((p1 &&& (3 : Int32)) + (p2 &&& (7 : Int32))) + (p3 &&& (7 : Int32))) + (p4 &&& (7 : Int32)))), (.int (3 : Int32)), (.ref b1)]))
  obtain ⟨cl12, Ar12, q12, S12, N_12, H12, G12⟩ := id (V10)
  have hin12 : ¬ ((3 : Int32) < 0 ∨ cl12.slots.size ≤ ((3 : Int32)).toNatClampNeg) := inb_of S12 ⟨by decide, by decide⟩
  obtain ⟨T13, h13, X13, e13, W13, st13⟩ := stI X10 hx hZ e10 Ar12 (j := (3 : Int32)) hin12 (g := (mkF m 76 #[.val (.int p1), .val (.int p2), .val (.int p3), .val (.int p4), .val (.int p5), .val (.int (p1 &&& (3 : Int32))), .val (.int (p2 &&& (7 : Int32))), .val (.int (p3 &&& (7 : Int32))), .val (.int (p4 &&& (7 : Int32))), .val (.int (p5 &&& (7 : Int32))), .val (.ref b1), .unset, .unset, .unset, .unset, .unset, .unset, .unset, .unset] [(.int ((((p1 &&& (3 : Int32)) + (p2 &&& (7 : Int32))) + (p3 &&& (7 : Int32))) + (p4 &&& (7 : Int32)))), (.int (3 : Int32)), (.ref b1)])) rfl rfl (hb hby at_76)
  have V13 : Arv Z h13 b1 k1 .int (5 : Int32) [(.int (p1 &&& (3 : Int32))), (.int ((p1 &&& (3 : Int32)) + (p2 &&& (7 : Int32)))), (.int (((p1 &&& (3 : Int32)) + (p2 &&& (7 : Int32))) + (p3 &&& (7 : Int32)))), (.int ((((p1 &&& (3 : Int32)) + (p2 &&& (7 : Int32))) + (p3 &&& (7 : Int32))) + (p4 &&& (7 : Int32)))), (.int (0 : Int32))] (.int (0 : Int32)) := Arv.set Ar12 q12 S12 N_12 H12 G12 rfl W13 3 rfl (Nat.le_of_ble_eq_true rfl)
  have N13 := Fr.snoc X13 N10 g_b1
  have K14 : Keep h0 _ [] := K11.wr W13 (Or.inr sz_b1)
  have O14 := O11.wr W13 g_b1
  refine Gets.of st13 ?_
  show Gets p e below _ (T13.setTop (mkF m 77 #[.val (.int p1), .val (.int p2), .val (.int p3), .val (.int p4), .val (.int p5), .val (.int (p1 &&& (3 : Int32))), .val (.int (p2 &&& (7 : Int32))), .val (.int (p3 &&& (7 : Int32))), .val (.int (p4 &&& (7 : Int32))), .val (.int (p5 &&& (7 : Int32))), .val (.ref b1), .unset, .unset, .unset, .unset, .unset, .unset, .unset, .unset] []))
  refine Gets.of (fun t k => XS.aload X13.here hx rfl (hb hby at_77) rfl rfl  k) ?_
  refine Gets.of (fun t k => XS.iconst X13.here hx rfl (hb hby at_79) k) ?_
  refine Gets.of (fun t k => XS.iload X13.here hx rfl (hb hby at_80) rfl  k) ?_
  refine Gets.of (fun t k => XS.iload X13.here hx rfl (hb hby at_82) rfl  k) ?_
  show Gets p e below _ (T13.setTop (mkF m 84 #[.val (.int p1), .val (.int p2), .val (.int p3), .val (.int p4), .val (.int p5), .val (.int (p1 &&& (3 : Int32))), .val (.int (p2 &&& (7 : Int32))), .val (.int (p3 &&& (7 : Int32))), .val (.int (p4 &&& (7 : Int32))), .val (.int (p5 &&& (7 : Int32))), .val (.ref b1), .unset, .unset, .unset, .unset, .unset, .unset, .unset, .unset] [(.int (p2 &&& (7 : Int32))), (.int (p1 &&& (3 : Int32))), (.int (4 : Int32)), (.ref b1)]))
  refine Gets.of (fun t k => XS.iadd X13.here hx rfl (hb hby at_84) rfl k) ?_
  show Gets p e below _ (T13.setTop (mkF m 85 #[.val (.int p1), .val (.int p2), .val (.int p3), .val (.int p4), .val (.int p5), .val (.int (p1 &&& (3 : Int32))), .val (.int (p2 &&& (7 : Int32))), .val (.int (p3 &&& (7 : Int32))), .val (.int (p4 &&& (7 : Int32))), .val (.int (p5 &&& (7 : Int32))), .val (.ref b1), .unset, .unset, .unset, .unset, .unset, .unset, .unset, .unset] [(.int ((p1 &&& (3 : Int32)) + (p2 &&& (7 : Int32)))), (.int (4 : Int32)), (.ref b1)]))
  refine Gets.of (fun t k => XS.iload X13.here hx rfl (hb hby at_85) rfl  k) ?_
  refine Gets.of (fun t k => XS.iadd X13.here hx rfl (hb hby at_87) rfl k) ?_
  show Gets p e below _ (T13.setTop (mkF m 88 #[.val (.int p1), .val (.int p2), .val (.int p3), .val (.int p4), .val (.int p5), .val (.int (p1 &&& (3 : Int32))), .val (.int (p2 &&& (7 : Int32))), .val (.int (p3 &&& (7 : Int32))), .val (.int (p4 &&& (7 : Int32))), .val (.int (p5 &&& (7 : Int32))), .val (.ref b1), .unset, .unset, .unset, .unset, .unset, .unset, .unset, .unset] [(.int (((p1 &&& (3 : Int32)) + (p2 &&& (7 : Int32))) + (p3 &&& (7 : Int32)))), (.int (4 : Int32)), (.ref b1)]))
  refine Gets.of (fun t k => XS.iload X13.here hx rfl (hb hby at_88) rfl  k) ?_
  refine Gets.of (fun t k => XS.iadd X13.here hx rfl (hb hby at_90) rfl k) ?_
  show Gets p e below _ (T13.setTop (mkF m 91 #[.val (.int p1), .val (.int p2), .val (.int p3), .val (.int p4), .val (.int p5), .val (.int (p1 &&& (3 : Int32))), .val (.int (p2 &&& (7 : Int32))), .val (.int (p3 &&& (7 : Int32))), .val (.int (p4 &&& (7 : Int32))), .val (.int (p5 &&& (7 : Int32))), .val (.ref b1), .unset, .unset, .unset, .unset, .unset, .unset, .unset, .unset] [(.int ((((p1 &&& (3 : Int32)) + (p2 &&& (7 : Int32))) + (p3 &&& (7 : Int32))) + (p4 &&& (7 : Int32)))), (.int (4 : Int32)), (.ref b1)]))
  refine Gets.of (fun t k => XS.iload X13.here hx rfl (hb hby at_91) rfl  k) ?_
  refine Gets.of (fun t k => XS.iadd X13.here hx rfl (hb hby at_93) rfl k) ?_
  show Gets p e below _ (T13.setTop (mkF m 94 #[.val (.int p1), .val (.int p2), .val (.int p3), .val (.int p4), .val (.int p5), .val (.int (p1 &&& (3 : Int32))), .val (.int (p2 &&& (7 : Int32))), .val (.int (p3 &&& (7 : Int32))), .val (.int (p4 &&& (7 : Int32))), .val (.int (p5 &&& (7 : Int32))), .val (.ref b1), .unset, .unset, .unset, .unset, .unset, .unset, .unset, .unset] [(.int (((((p1 &&& (3 : Int32)) + (p2 &&& (7 : Int32))) + (p3 &&& (7 : Int32))) + (p4 &&& (7 : Int32))) + (p5 &&& (7 : Int32)))), (.int (4 : Int32)), (.ref b1)]))
  obtain ⟨cl15, Ar15, q15, S15, N_15, H15, G15⟩ := id (V13)
  have hin15 : ¬ ((4 : Int32) < 0 ∨ cl15.slots.size ≤ ((4 : Int32)).toNatClampNeg) := inb_of S15 ⟨by decide, by decide⟩
  obtain ⟨T16, h16, X16, e16, W16, st16⟩ := stI X13 hx hZ e13 Ar15 (j := (4 : Int32)) hin15 (g := (mkF m 94 #[.val (.int p1), .val (.int p2), .val (.int p3), .val (.int p4), .val (.int p5), .val (.int (p1 &&& (3 : Int32))), .val (.int (p2 &&& (7 : Int32))), .val (.int (p3 &&& (7 : Int32))), .val (.int (p4 &&& (7 : Int32))), .val (.int (p5 &&& (7 : Int32))), .val (.ref b1), .unset, .unset, .unset, .unset, .unset, .unset, .unset, .unset] [(.int (((((p1 &&& (3 : Int32)) + (p2 &&& (7 : Int32))) + (p3 &&& (7 : Int32))) + (p4 &&& (7 : Int32))) + (p5 &&& (7 : Int32)))), (.int (4 : Int32)), (.ref b1)])) rfl rfl (hb hby at_94)
  have V16 : Arv Z h16 b1 k1 .int (5 : Int32) [(.int (p1 &&& (3 : Int32))), (.int ((p1 &&& (3 : Int32)) + (p2 &&& (7 : Int32)))), (.int (((p1 &&& (3 : Int32)) + (p2 &&& (7 : Int32))) + (p3 &&& (7 : Int32)))), (.int ((((p1 &&& (3 : Int32)) + (p2 &&& (7 : Int32))) + (p3 &&& (7 : Int32))) + (p4 &&& (7 : Int32)))), (.int (((((p1 &&& (3 : Int32)) + (p2 &&& (7 : Int32))) + (p3 &&& (7 : Int32))) + (p4 &&& (7 : Int32))) + (p5 &&& (7 : Int32))))] (.int (0 : Int32)) := Arv.set Ar15 q15 S15 N_15 H15 G15 rfl W16 4 rfl (Nat.le_of_ble_eq_true rfl)
  have N16 := Fr.snoc X16 N13 g_b1
  have K17 : Keep h0 _ [] := K14.wr W16 (Or.inr sz_b1)
  have O17 := O14.wr W16 g_b1
  refine Gets.of st16 ?_
  show Gets p e below _ (T16.setTop (mkF m 95 #[.val (.int p1), .val (.int p2), .val (.int p3), .val (.int p4), .val (.int p5), .val (.int (p1 &&& (3 : Int32))), .val (.int (p2 &&& (7 : Int32))), .val (.int (p3 &&& (7 : Int32))), .val (.int (p4 &&& (7 : Int32))), .val (.int (p5 &&& (7 : Int32))), .val (.ref b1), .unset, .unset, .unset, .unset, .unset, .unset, .unset, .unset] []))
  refine Gets.of (fun t k => XS.aload X16.here hx rfl (hb hby at_95) rfl rfl  k) ?_
  refine Gets.of (fun t k => XS.iconst X16.here hx rfl (hb hby at_97) k) ?_
  obtain ⟨cl18, Ar18, q18, S18, N_18, H18, G18⟩ := id (V16)
  have hin18 : ¬ ((4 : Int32) < 0 ∨ cl18.slots.size ≤ ((4 : Int32)).toNatClampNeg) := inb_of S18 ⟨by decide, by decide⟩
  refine Gets.of (fun t k => X16.iaload hx (j := (4 : Int32)) (v := (.int (((((p1 &&& (3 : Int32)) + (p2 &&& (7 : Int32))) + (p3 &&& (7 : Int32))) + (p4 &&& (7 : Int32))) + (p5 &&& (7 : Int32))))) (by rw [e16]; exact Ar18.1) (State.isArrayOf_alike hZ.alike Ar18.2.1) Ar18.2.2 hin18 (Has.at H18 hin18 rfl) (g := (mkF m 98 #[.val (.int p1), .val (.int p2), .val (.int p3), .val (.int p4), .val (.int p5), .val (.int (p1 &&& (3 : Int32))), .val (.int (p2 &&& (7 : Int32))), .val (.int (p3 &&& (7 : Int32))), .val (.int (p4 &&& (7 : Int32))), .val (.int (p5 &&& (7 : Int32))), .val (.ref b1), .unset, .unset, .unset, .unset, .unset, .unset, .unset, .unset] [(.int (4 : Int32)), (.ref b1)])) rfl rfl (hb hby at_98) t k) ?_
  show Gets p e below _ (T16.setTop (mkF m 99 #[.val (.int p1), .val (.int p2), .val (.int p3), .val (.int p4), .val (.int p5), .val (.int (p1 &&& (3 : Int32))), .val (.int (p2 &&& (7 : Int32))), .val (.int (p3 &&& (7 : Int32))), .val (.int (p4 &&& (7 : Int32))), .val (.int (p5 &&& (7 : Int32))), .val (.ref b1), .unset, .unset, .unset, .unset, .unset, .unset, .unset, .unset] [(.int (((((p1 &&& (3 : Int32)) + (p2 &&& (7 : Int32))) + (p3 &&& (7 : Int32))) + (p4 &&& (7 : Int32))) + (p5 &&& (7 : Int32))))]))
  obtain ⟨T19, h19, k19, X19, e19, E19, A19, Ex19, st19⟩ := newPE X16 hx hZ (aty := .int) (w0 hw) e16 (g := (mkF m 99 #[.val (.int p1), .val (.int p2), .val (.int p3), .val (.int p4), .val (.int p5), .val (.int (p1 &&& (3 : Int32))), .val (.int (p2 &&& (7 : Int32))), .val (.int (p3 &&& (7 : Int32))), .val (.int (p4 &&& (7 : Int32))), .val (.int (p5 &&& (7 : Int32))), .val (.ref b1), .unset, .unset, .unset, .unset, .unset, .unset, .unset, .unset] [(.int (((((p1 &&& (3 : Int32)) + (p2 &&& (7 : Int32))) + (p3 &&& (7 : Int32))) + (p4 &&& (7 : Int32))) + (p5 &&& (7 : Int32))))])) rfl (hb hby at_99) rfl (own_len p1 p2 p3 p4 p5).1 (cap := 31) (own_len p1 p2 p3 p4 p5).2 (by decide) (by decide) (by decide) (ad := "[I") rfl
  obtain ⟨b19, g19⟩ : ∃ z, z = h16.size := ⟨_, rfl⟩
  rw [← g19] at A19 Ex19 st19
  have up20 := (Nat.le_trans (Nat.le_trans (Nat.le_trans (Nat.le_trans (Nat.le_of_eq W4.size.symm) (Nat.le_of_eq W7.size.symm)) (Nat.le_of_eq W10.size.symm)) (Nat.le_of_eq W13.size.symm)) (Nat.le_of_eq W16.size.symm))
  have sz_b19 : h0.size ≤ b19 := Nat.le_trans K17.1 (Nat.le_of_eq g19.symm)
  have g_b19 : n0 ≤ b19 := Nat.le_trans Z0 sz_b19
  have K21 := K17.ext E19
  have O21 := O17.ext E19
  have V19 : Arh Z h19 b19 k19 .int (((((p1 &&& (3 : Int32)) + (p2 &&& (7 : Int32))) + (p3 &&& (7 : Int32))) + (p4 &&& (7 : Int32))) + (p5 &&& (7 : Int32))) [] [] (.int (0 : Int32)) := Arv.new A19 (own_len p1 p2 p3 p4 p5).1
  refine Gets.of st19 ?_
  show Gets p e below _ (T19.setTop (mkF m 101 #[.val (.int p1), .val (.int p2), .val (.int p3), .val (.int p4), .val (.int p5), .val (.int (p1 &&& (3 : Int32))), .val (.int (p2 &&& (7 : Int32))), .val (.int (p3 &&& (7 : Int32))), .val (.int (p4 &&& (7 : Int32))), .val (.int (p5 &&& (7 : Int32))), .val (.ref b1), .unset, .unset, .unset, .unset, .unset, .unset, .unset, .unset] [(.ref b19)]))
  refine Gets.of (fun t k => XS.astore X19.here hx rfl (hb hby at_101) rfl rfl (l' := #[.val (.int p1), .val (.int p2), .val (.int p3), .val (.int p4), .val (.int p5), .val (.int (p1 &&& (3 : Int32))), .val (.int (p2 &&& (7 : Int32))), .val (.int (p3 &&& (7 : Int32))), .val (.int (p4 &&& (7 : Int32))), .val (.int (p5 &&& (7 : Int32))), .val (.ref b1), .val (.ref b19), .unset, .unset, .unset, .unset, .unset, .unset, .unset]) rfl k) ?_
  show Gets p e below _ (T19.setTop (mkF m 103 #[.val (.int p1), .val (.int p2), .val (.int p3), .val (.int p4), .val (.int p5), .val (.int (p1 &&& (3 : Int32))), .val (.int (p2 &&& (7 : Int32))), .val (.int (p3 &&& (7 : Int32))), .val (.int (p4 &&& (7 : Int32))), .val (.int (p5 &&& (7 : Int32))), .val (.ref b1), .val (.ref b19), .unset, .unset, .unset, .unset, .unset, .unset, .unset] []))
  obtain ⟨T22, h22, X22, e22, E22, A22, D22, -, st22⟩ := newO X19 hx hZ hown (w1 hw) (w2 hw) (w3 hw) e19 (g := (mkF m 103 #[.val (.int p1), .val (.int p2), .val (.int p3), .val (.int p4), .val (.int p5), .val (.int (p1 &&& (3 : Int32))), .val (.int (p2 &&& (7 : Int32))), .val (.int (p3 &&& (7 : Int32))), .val (.int (p4 &&& (7 : Int32))), .val (.int (p5 &&& (7 : Int32))), .val (.ref b1), .val (.ref b19), .unset, .unset, .unset, .unset, .unset, .unset, .unset] [])) rfl (hb hby at_103) (by decide) (by decide)
  obtain ⟨b22, g22⟩ : ∃ z, z = h19.size := ⟨_, rfl⟩
  rw [← g22] at A22 D22 st22
  have sz_b22 : h0.size ≤ b22 := Nat.le_trans K21.1 (Nat.le_of_eq g22.symm)
  have g_b22 : n0 ≤ b22 := Nat.le_trans Z0 sz_b22
  have K23 := K21.ext E22
  have O23 := O21.ext E22
  have F22_11 : Fld Z h22 b22 cn0 "start" "[I" .null := D22 (Or.inr (w11 hw)) (ty := (.array .int)) (by decide)
  have F22_13 : Fld Z h22 b22 cn0 "neighbour" "[I" .null := D22 (Or.inr (w13 hw)) (ty := (.array .int)) (by decide)
  refine Gets.of st22 ?_
  show Gets p e below _ (T22.setTop (mkF m 106 #[.val (.int p1), .val (.int p2), .val (.int p3), .val (.int p4), .val (.int p5), .val (.int (p1 &&& (3 : Int32))), .val (.int (p2 &&& (7 : Int32))), .val (.int (p3 &&& (7 : Int32))), .val (.int (p4 &&& (7 : Int32))), .val (.int (p5 &&& (7 : Int32))), .val (.ref b1), .val (.ref b19), .unset, .unset, .unset, .unset, .unset, .unset, .unset] [(.ref b22)]))
  refine Gets.of (fun t k => XS.dup X22.here hx rfl (hb hby at_106) rfl rfl k) ?_
  refine Gets.of (fun t k => XS.aload X22.here hx rfl (hb hby at_107) rfl rfl  k) ?_
  refine Gets.of (fun t k => XS.aload X22.here hx rfl (hb hby at_109) rfl rfl  k) ?_
  obtain ⟨_, _, ⟨T24, L24, k24, n24⟩, -, X24, ⟨Lc24, hQ24, l24, y24, z24⟩, st24⟩ := X22.specialBack hx (y := (⟨cn0, "<init>", "([I[I)V"⟩ : MethodName)) rfl hown (mvT hZ (w4 hw)) (mvT hZ (w5 hw)) (mvT hZ (w6 hw)) (by decide) (backOf (W := 1) (rm_init l Z a0 hw [] b22 b1 b19 h22 n0 O23 A22 F22_11 F22_13 g_b22) hZ (w6 hw) (w3 hw) (by decide) (by decide)) (g := (mkF m 111 #[.val (.int p1), .val (.int p2), .val (.int p3), .val (.int p4), .val (.int p5), .val (.int (p1 &&& (3 : Int32))), .val (.int (p2 &&& (7 : Int32))), .val (.int (p3 &&& (7 : Int32))), .val (.int (p4 &&& (7 : Int32))), .val (.int (p5 &&& (7 : Int32))), .val (.ref b1), .val (.ref b19), .unset, .unset, .unset, .unset, .unset, .unset, .unset] [(.ref b19), (.ref b1), (.ref b22), (.ref b22)])) rfl (by rw [hml]; rfl) (Steps.refl _) (a := b22) (argsL := [(.ref b1), (.ref b19)]) (rest := [(.ref b22)]) (lenOf pd__I_I_V rfl) rfl (by show 2 * 0 + _ ≤ _; exact Nat.le_of_eq rfl) (hb hby at_111) (fun _ _ => ⟨rfl, e22, (by decide : 3 + 0 ≤ _), (by decide : 38 + 0 ≤ _)⟩)
  dsimp only [Pt.U, Pt.locs, Pt.cells, Pt.slots] at X24 l24 y24 z24 st24 hQ24
  subst l24 y24 z24
  obtain ⟨Nq24, Kq24, hR24⟩ := hQ24
  have N24 := Fr.app N16 Nq24
  have K25 : Keep h0 _ [] := K23.trans Kq24 (allS (Or.inr sz_b22) all0)
  have O25 := O23.keep Kq24 (allS g_b22 all0)
  obtain ⟨rfl, bf24_0, bf24_1⟩ := hR24
  refine Gets.tr st24 ?_
  show Gets p e below _ (T24.setTop (mkF m 114 #[.val (.int p1), .val (.int p2), .val (.int p3), .val (.int p4), .val (.int p5), .val (.int (p1 &&& (3 : Int32))), .val (.int (p2 &&& (7 : Int32))), .val (.int (p3 &&& (7 : Int32))), .val (.int (p4 &&& (7 : Int32))), .val (.int (p5 &&& (7 : Int32))), .val (.ref b1), .val (.ref b19), .unset, .unset, .unset, .unset, .unset, .unset, .unset] [(.ref b22)]))
  refine Gets.of (fun t k => XS.astore X24.here hx rfl (hb hby at_114) rfl rfl (l' := #[.val (.int p1), .val (.int p2), .val (.int p3), .val (.int p4), .val (.int p5), .val (.int (p1 &&& (3 : Int32))), .val (.int (p2 &&& (7 : Int32))), .val (.int (p3 &&& (7 : Int32))), .val (.int (p4 &&& (7 : Int32))), .val (.int (p5 &&& (7 : Int32))), .val (.ref b1), .val (.ref b19), .val (.ref b22), .unset, .unset, .unset, .unset, .unset, .unset]) rfl k) ?_
  show Gets p e below _ (T24.setTop (mkF m 116 #[.val (.int p1), .val (.int p2), .val (.int p3), .val (.int p4), .val (.int p5), .val (.int (p1 &&& (3 : Int32))), .val (.int (p2 &&& (7 : Int32))), .val (.int (p3 &&& (7 : Int32))), .val (.int (p4 &&& (7 : Int32))), .val (.int (p5 &&& (7 : Int32))), .val (.ref b1), .val (.ref b19), .val (.ref b22), .unset, .unset, .unset, .unset, .unset, .unset] []))
  refine Gets.of (fun t k => XS.aload X24.here hx rfl (hb hby at_116) rfl rfl  k) ?_
  refine Gets.of (fun t k => XS.iconst X24.here hx rfl (hb hby at_118) k) ?_
  have f26 : Arv Z T24.heap b1 k1 .int (5 : Int32) [(.int (p1 &&& (3 : Int32))), (.int ((p1 &&& (3 : Int32)) + (p2 &&& (7 : Int32)))), (.int (((p1 &&& (3 : Int32)) + (p2 &&& (7 : Int32))) + (p3 &&& (7 : Int32)))), (.int ((((p1 &&& (3 : Int32)) + (p2 &&& (7 : Int32))) + (p3 &&& (7 : Int32))) + (p4 &&& (7 : Int32)))), (.int (((((p1 &&& (3 : Int32)) + (p2 &&& (7 : Int32))) + (p3 &&& (7 : Int32))) + (p4 &&& (7 : Int32))) + (p5 &&& (7 : Int32))))] (.int (0 : Int32)) := (((V16.ext E19).ext E22).keep Kq24 (ninS (Nat.ne_of_lt (Nat.lt_of_lt_of_le (Nat.lt_of_lt_of_le (Nat.lt_of_lt_of_le V1.lt up20) E19.1) (Nat.le_of_eq g22.symm))) nin0))
  have f28 : Exa Z T24.heap b22 cn0 := (A22.keep Kq24)
  obtain ⟨cq27, kq27, q27a, q27b, q27c⟩ := isOf hZ rfl f28
  obtain ⟨_, _, ⟨T27, L27, k27, n27⟩, -, X27, ⟨Lc27, hQ27, l27, y27, z27⟩, st27⟩ := X24.virtualBack hx (y := (⟨cn0, "degree", "(I)I"⟩ : MethodName)) (z := (⟨cn0, "degree", "(I)I"⟩ : MethodName)) hown (mvT hZ (w14 hw)) (mvT hZ (w15 hw)) (notFace_of_selects (args := #[]) (mvT hZ (w17 hw))) (mvT hZ (w17 hw)) (mvT hZ (w16 hw)) (by decide) (backOf (W := 0) (rm_deg0 l Z a0 hw [] b22 b1 k1 (p1 &&& (3 : Int32)) ((p1 &&& (3 : Int32)) + (p2 &&& (7 : Int32))) (((p1 &&& (3 : Int32)) + (p2 &&& (7 : Int32))) + (p3 &&& (7 : Int32))) ((((p1 &&& (3 : Int32)) + (p2 &&& (7 : Int32))) + (p3 &&& (7 : Int32))) + (p4 &&& (7 : Int32))) (((((p1 &&& (3 : Int32)) + (p2 &&& (7 : Int32))) + (p3 &&& (7 : Int32))) + (p4 &&& (7 : Int32))) + (p5 &&& (7 : Int32))) T24.heap n0 O25 bf24_0 f26) hZ (w18 hw) (w3 hw) (by decide) (by decide)) q27a q27c (g := (mkF m 119 #[.val (.int p1), .val (.int p2), .val (.int p3), .val (.int p4), .val (.int p5), .val (.int (p1 &&& (3 : Int32))), .val (.int (p2 &&& (7 : Int32))), .val (.int (p3 &&& (7 : Int32))), .val (.int (p4 &&& (7 : Int32))), .val (.int (p5 &&& (7 : Int32))), .val (.ref b1), .val (.ref b19), .val (.ref b22), .unset, .unset, .unset, .unset, .unset, .unset] [(.int (0 : Int32)), (.ref b22)])) rfl (by rw [hml]; rfl) (Steps.refl _) (argsL := [(.int (0 : Int32))]) (rest := []) (lenOf pd__I_I rfl) rfl (by show 2 * 0 + _ ≤ _; exact Nat.le_of_eq rfl) (hb hby at_119) (fun _ _ => ⟨rfl, rfl, (by decide : 3 + 0 ≤ _), (by decide : 38 + 0 ≤ _)⟩)
  dsimp only [Pt.U, Pt.locs, Pt.cells, Pt.slots] at X27 l27 y27 z27 st27 hQ27
  subst l27 y27 z27
  obtain ⟨Nq27, eq27, hR27⟩ := hQ27
  have N27 := Fr.app N24 Nq27
  obtain rfl := hR27
  refine Gets.tr st27 ?_
  show Gets p e below _ (T27.setTop (mkF m 122 #[.val (.int p1), .val (.int p2), .val (.int p3), .val (.int p4), .val (.int p5), .val (.int (p1 &&& (3 : Int32))), .val (.int (p2 &&& (7 : Int32))), .val (.int (p3 &&& (7 : Int32))), .val (.int (p4 &&& (7 : Int32))), .val (.int (p5 &&& (7 : Int32))), .val (.ref b1), .val (.ref b19), .val (.ref b22), .unset, .unset, .unset, .unset, .unset, .unset] [(.int (((p1 &&& (3 : Int32)) + (p2 &&& (7 : Int32))) - (p1 &&& (3 : Int32))))]))
  refine Gets.of (fun t k => XS.istore X27.here hx rfl (hb hby at_122) rfl (l' := #[.val (.int p1), .val (.int p2), .val (.int p3), .val (.int p4), .val (.int p5), .val (.int (p1 &&& (3 : Int32))), .val (.int (p2 &&& (7 : Int32))), .val (.int (p3 &&& (7 : Int32))), .val (.int (p4 &&& (7 : Int32))), .val (.int (p5 &&& (7 : Int32))), .val (.ref b1), .val (.ref b19), .val (.ref b22), .val (.int (((p1 &&& (3 : Int32)) + (p2 &&& (7 : Int32))) - (p1 &&& (3 : Int32)))), .unset, .unset, .unset, .unset, .unset]) rfl k) ?_
  show Gets p e below _ (T27.setTop (mkF m 124 #[.val (.int p1), .val (.int p2), .val (.int p3), .val (.int p4), .val (.int p5), .val (.int (p1 &&& (3 : Int32))), .val (.int (p2 &&& (7 : Int32))), .val (.int (p3 &&& (7 : Int32))), .val (.int (p4 &&& (7 : Int32))), .val (.int (p5 &&& (7 : Int32))), .val (.ref b1), .val (.ref b19), .val (.ref b22), .val (.int (((p1 &&& (3 : Int32)) + (p2 &&& (7 : Int32))) - (p1 &&& (3 : Int32)))), .unset, .unset, .unset, .unset, .unset] []))
  refine Gets.of (fun t k => XS.aload X27.here hx rfl (hb hby at_124) rfl rfl  k) ?_
  refine Gets.of (fun t k => XS.iconst X27.here hx rfl (hb hby at_126) k) ?_
  obtain ⟨cq29, kq29, q29a, q29b, q29c⟩ := isOf hZ eq27 f28
  obtain ⟨_, _, ⟨T29, L29, k29, n29⟩, -, X29, ⟨Lc29, hQ29, l29, y29, z29⟩, st29⟩ := X27.virtualBack hx (y := (⟨cn0, "degree", "(I)I"⟩ : MethodName)) (z := (⟨cn0, "degree", "(I)I"⟩ : MethodName)) hown (mvT hZ (w14 hw)) (mvT hZ (w15 hw)) (notFace_of_selects (args := #[]) (mvT hZ (w17 hw))) (mvT hZ (w17 hw)) (mvT hZ (w16 hw)) (by decide) (backOf (W := 0) (rm_deg1 l Z a0 hw [] b22 b1 k1 (p1 &&& (3 : Int32)) ((p1 &&& (3 : Int32)) + (p2 &&& (7 : Int32))) (((p1 &&& (3 : Int32)) + (p2 &&& (7 : Int32))) + (p3 &&& (7 : Int32))) ((((p1 &&& (3 : Int32)) + (p2 &&& (7 : Int32))) + (p3 &&& (7 : Int32))) + (p4 &&& (7 : Int32))) (((((p1 &&& (3 : Int32)) + (p2 &&& (7 : Int32))) + (p3 &&& (7 : Int32))) + (p4 &&& (7 : Int32))) + (p5 &&& (7 : Int32))) T24.heap n0 O25 bf24_0 f26) hZ (w18 hw) (w3 hw) (by decide) (by decide)) q29a q29c (g := (mkF m 127 #[.val (.int p1), .val (.int p2), .val (.int p3), .val (.int p4), .val (.int p5), .val (.int (p1 &&& (3 : Int32))), .val (.int (p2 &&& (7 : Int32))), .val (.int (p3 &&& (7 : Int32))), .val (.int (p4 &&& (7 : Int32))), .val (.int (p5 &&& (7 : Int32))), .val (.ref b1), .val (.ref b19), .val (.ref b22), .val (.int (((p1 &&& (3 : Int32)) + (p2 &&& (7 : Int32))) - (p1 &&& (3 : Int32)))), .unset, .unset, .unset, .unset, .unset] [(.int (1 : Int32)), (.ref b22)])) rfl (by rw [hml]; rfl) (Steps.refl _) (argsL := [(.int (1 : Int32))]) (rest := []) (lenOf pd__I_I rfl) rfl (by show 2 * 0 + _ ≤ _; exact Nat.le_of_eq rfl) (hb hby at_127) (fun _ _ => ⟨rfl, eq27, (by decide : 3 + 0 ≤ _), (by decide : 38 + 0 ≤ _)⟩)
  dsimp only [Pt.U, Pt.locs, Pt.cells, Pt.slots] at X29 l29 y29 z29 st29 hQ29
  subst l29 y29 z29
  obtain ⟨Nq29, eq29, hR29⟩ := hQ29
  have N29 := Fr.app N27 Nq29
  obtain rfl := hR29
  refine Gets.tr st29 ?_
  show Gets p e below _ (T29.setTop (mkF m 130 #[.val (.int p1), .val (.int p2), .val (.int p3), .val (.int p4), .val (.int p5), .val (.int (p1 &&& (3 : Int32))), .val (.int (p2 &&& (7 : Int32))), .val (.int (p3 &&& (7 : Int32))), .val (.int (p4 &&& (7 : Int32))), .val (.int (p5 &&& (7 : Int32))), .val (.ref b1), .val (.ref b19), .val (.ref b22), .val (.int (((p1 &&& (3 : Int32)) + (p2 &&& (7 : Int32))) - (p1 &&& (3 : Int32)))), .unset, .unset, .unset, .unset, .unset] [(.int ((((p1 &&& (3 : Int32)) + (p2 &&& (7 : Int32))) + (p3 &&& (7 : Int32))) - ((p1 &&& (3 : Int32)) + (p2 &&& (7 : Int32)))))]))
  refine Gets.of (fun t k => XS.istore X29.here hx rfl (hb hby at_130) rfl (l' := #[.val (.int p1), .val (.int p2), .val (.int p3), .val (.int p4), .val (.int p5), .val (.int (p1 &&& (3 : Int32))), .val (.int (p2 &&& (7 : Int32))), .val (.int (p3 &&& (7 : Int32))), .val (.int (p4 &&& (7 : Int32))), .val (.int (p5 &&& (7 : Int32))), .val (.ref b1), .val (.ref b19), .val (.ref b22), .val (.int (((p1 &&& (3 : Int32)) + (p2 &&& (7 : Int32))) - (p1 &&& (3 : Int32)))), .val (.int ((((p1 &&& (3 : Int32)) + (p2 &&& (7 : Int32))) + (p3 &&& (7 : Int32))) - ((p1 &&& (3 : Int32)) + (p2 &&& (7 : Int32))))), .unset, .unset, .unset, .unset]) rfl k) ?_
  show Gets p e below _ (T29.setTop (mkF m 132 #[.val (.int p1), .val (.int p2), .val (.int p3), .val (.int p4), .val (.int p5), .val (.int (p1 &&& (3 : Int32))), .val (.int (p2 &&& (7 : Int32))), .val (.int (p3 &&& (7 : Int32))), .val (.int (p4 &&& (7 : Int32))), .val (.int (p5 &&& (7 : Int32))), .val (.ref b1), .val (.ref b19), .val (.ref b22), .val (.int (((p1 &&& (3 : Int32)) + (p2 &&& (7 : Int32))) - (p1 &&& (3 : Int32)))), .val (.int ((((p1 &&& (3 : Int32)) + (p2 &&& (7 : Int32))) + (p3 &&& (7 : Int32))) - ((p1 &&& (3 : Int32)) + (p2 &&& (7 : Int32))))), .unset, .unset, .unset, .unset] []))
  refine Gets.of (fun t k => XS.aload X29.here hx rfl (hb hby at_132) rfl rfl  k) ?_
  refine Gets.of (fun t k => XS.iconst X29.here hx rfl (hb hby at_134) k) ?_
  obtain ⟨cq30, kq30, q30a, q30b, q30c⟩ := isOf hZ eq29 f28
  obtain ⟨_, _, ⟨T30, L30, k30, n30⟩, -, X30, ⟨Lc30, hQ30, l30, y30, z30⟩, st30⟩ := X29.virtualBack hx (y := (⟨cn0, "degree", "(I)I"⟩ : MethodName)) (z := (⟨cn0, "degree", "(I)I"⟩ : MethodName)) hown (mvT hZ (w14 hw)) (mvT hZ (w15 hw)) (notFace_of_selects (args := #[]) (mvT hZ (w17 hw))) (mvT hZ (w17 hw)) (mvT hZ (w16 hw)) (by decide) (backOf (W := 0) (rm_deg2 l Z a0 hw [] b22 b1 k1 (p1 &&& (3 : Int32)) ((p1 &&& (3 : Int32)) + (p2 &&& (7 : Int32))) (((p1 &&& (3 : Int32)) + (p2 &&& (7 : Int32))) + (p3 &&& (7 : Int32))) ((((p1 &&& (3 : Int32)) + (p2 &&& (7 : Int32))) + (p3 &&& (7 : Int32))) + (p4 &&& (7 : Int32))) (((((p1 &&& (3 : Int32)) + (p2 &&& (7 : Int32))) + (p3 &&& (7 : Int32))) + (p4 &&& (7 : Int32))) + (p5 &&& (7 : Int32))) T24.heap n0 O25 bf24_0 f26) hZ (w18 hw) (w3 hw) (by decide) (by decide)) q30a q30c (g := (mkF m 135 #[.val (.int p1), .val (.int p2), .val (.int p3), .val (.int p4), .val (.int p5), .val (.int (p1 &&& (3 : Int32))), .val (.int (p2 &&& (7 : Int32))), .val (.int (p3 &&& (7 : Int32))), .val (.int (p4 &&& (7 : Int32))), .val (.int (p5 &&& (7 : Int32))), .val (.ref b1), .val (.ref b19), .val (.ref b22), .val (.int (((p1 &&& (3 : Int32)) + (p2 &&& (7 : Int32))) - (p1 &&& (3 : Int32)))), .val (.int ((((p1 &&& (3 : Int32)) + (p2 &&& (7 : Int32))) + (p3 &&& (7 : Int32))) - ((p1 &&& (3 : Int32)) + (p2 &&& (7 : Int32))))), .unset, .unset, .unset, .unset] [(.int (2 : Int32)), (.ref b22)])) rfl (by rw [hml]; rfl) (Steps.refl _) (argsL := [(.int (2 : Int32))]) (rest := []) (lenOf pd__I_I rfl) rfl (by show 2 * 0 + _ ≤ _; exact Nat.le_of_eq rfl) (hb hby at_135) (fun _ _ => ⟨rfl, eq29, (by decide : 3 + 0 ≤ _), (by decide : 38 + 0 ≤ _)⟩)
  dsimp only [Pt.U, Pt.locs, Pt.cells, Pt.slots] at X30 l30 y30 z30 st30 hQ30
  subst l30 y30 z30
  obtain ⟨Nq30, eq30, hR30⟩ := hQ30
  have N30 := Fr.app N29 Nq30
  obtain rfl := hR30
  refine Gets.tr st30 ?_
  show Gets p e below _ (T30.setTop (mkF m 138 #[.val (.int p1), .val (.int p2), .val (.int p3), .val (.int p4), .val (.int p5), .val (.int (p1 &&& (3 : Int32))), .val (.int (p2 &&& (7 : Int32))), .val (.int (p3 &&& (7 : Int32))), .val (.int (p4 &&& (7 : Int32))), .val (.int (p5 &&& (7 : Int32))), .val (.ref b1), .val (.ref b19), .val (.ref b22), .val (.int (((p1 &&& (3 : Int32)) + (p2 &&& (7 : Int32))) - (p1 &&& (3 : Int32)))), .val (.int ((((p1 &&& (3 : Int32)) + (p2 &&& (7 : Int32))) + (p3 &&& (7 : Int32))) - ((p1 &&& (3 : Int32)) + (p2 &&& (7 : Int32))))), .unset, .unset, .unset, .unset] [(.int (((((p1 &&& (3 : Int32)) + (p2 &&& (7 : Int32))) + (p3 &&& (7 : Int32))) + (p4 &&& (7 : Int32))) - (((p1 &&& (3 : Int32)) + (p2 &&& (7 : Int32))) + (p3 &&& (7 : Int32)))))]))
  refine Gets.of (fun t k => XS.istore X30.here hx rfl (hb hby at_138) rfl (l' := #[.val (.int p1), .val (.int p2), .val (.int p3), .val (.int p4), .val (.int p5), .val (.int (p1 &&& (3 : Int32))), .val (.int (p2 &&& (7 : Int32))), .val (.int (p3 &&& (7 : Int32))), .val (.int (p4 &&& (7 : Int32))), .val (.int (p5 &&& (7 : Int32))), .val (.ref b1), .val (.ref b19), .val (.ref b22), .val (.int (((p1 &&& (3 : Int32)) + (p2 &&& (7 : Int32))) - (p1 &&& (3 : Int32)))), .val (.int ((((p1 &&& (3 : Int32)) + (p2 &&& (7 : Int32))) + (p3 &&& (7 : Int32))) - ((p1 &&& (3 : Int32)) + (p2 &&& (7 : Int32))))), .val (.int (((((p1 &&& (3 : Int32)) + (p2 &&& (7 : Int32))) + (p3 &&& (7 : Int32))) + (p4 &&& (7 : Int32))) - (((p1 &&& (3 : Int32)) + (p2 &&& (7 : Int32))) + (p3 &&& (7 : Int32))))), .unset, .unset, .unset]) rfl k) ?_
  show Gets p e below _ (T30.setTop (mkF m 140 #[.val (.int p1), .val (.int p2), .val (.int p3), .val (.int p4), .val (.int p5), .val (.int (p1 &&& (3 : Int32))), .val (.int (p2 &&& (7 : Int32))), .val (.int (p3 &&& (7 : Int32))), .val (.int (p4 &&& (7 : Int32))), .val (.int (p5 &&& (7 : Int32))), .val (.ref b1), .val (.ref b19), .val (.ref b22), .val (.int (((p1 &&& (3 : Int32)) + (p2 &&& (7 : Int32))) - (p1 &&& (3 : Int32)))), .val (.int ((((p1 &&& (3 : Int32)) + (p2 &&& (7 : Int32))) + (p3 &&& (7 : Int32))) - ((p1 &&& (3 : Int32)) + (p2 &&& (7 : Int32))))), .val (.int (((((p1 &&& (3 : Int32)) + (p2 &&& (7 : Int32))) + (p3 &&& (7 : Int32))) + (p4 &&& (7 : Int32))) - (((p1 &&& (3 : Int32)) + (p2 &&& (7 : Int32))) + (p3 &&& (7 : Int32))))), .unset, .unset, .unset] []))
  refine Gets.of (fun t k => XS.aload X30.here hx rfl (hb hby at_140) rfl rfl  k) ?_
  refine Gets.of (fun t k => XS.iconst X30.here hx rfl (hb hby at_142) k) ?_
  obtain ⟨cq31, kq31, q31a, q31b, q31c⟩ := isOf hZ eq30 f28
  obtain ⟨_, _, ⟨T31, L31, k31, n31⟩, -, X31, ⟨Lc31, hQ31, l31, y31, z31⟩, st31⟩ := X30.virtualBack hx (y := (⟨cn0, "degree", "(I)I"⟩ : MethodName)) (z := (⟨cn0, "degree", "(I)I"⟩ : MethodName)) hown (mvT hZ (w14 hw)) (mvT hZ (w15 hw)) (notFace_of_selects (args := #[]) (mvT hZ (w17 hw))) (mvT hZ (w17 hw)) (mvT hZ (w16 hw)) (by decide) (backOf (W := 0) (rm_deg3 l Z a0 hw [] b22 b1 k1 (p1 &&& (3 : Int32)) ((p1 &&& (3 : Int32)) + (p2 &&& (7 : Int32))) (((p1 &&& (3 : Int32)) + (p2 &&& (7 : Int32))) + (p3 &&& (7 : Int32))) ((((p1 &&& (3 : Int32)) + (p2 &&& (7 : Int32))) + (p3 &&& (7 : Int32))) + (p4 &&& (7 : Int32))) (((((p1 &&& (3 : Int32)) + (p2 &&& (7 : Int32))) + (p3 &&& (7 : Int32))) + (p4 &&& (7 : Int32))) + (p5 &&& (7 : Int32))) T24.heap n0 O25 bf24_0 f26) hZ (w18 hw) (w3 hw) (by decide) (by decide)) q31a q31c (g := (mkF m 143 #[.val (.int p1), .val (.int p2), .val (.int p3), .val (.int p4), .val (.int p5), .val (.int (p1 &&& (3 : Int32))), .val (.int (p2 &&& (7 : Int32))), .val (.int (p3 &&& (7 : Int32))), .val (.int (p4 &&& (7 : Int32))), .val (.int (p5 &&& (7 : Int32))), .val (.ref b1), .val (.ref b19), .val (.ref b22), .val (.int (((p1 &&& (3 : Int32)) + (p2 &&& (7 : Int32))) - (p1 &&& (3 : Int32)))), .val (.int ((((p1 &&& (3 : Int32)) + (p2 &&& (7 : Int32))) + (p3 &&& (7 : Int32))) - ((p1 &&& (3 : Int32)) + (p2 &&& (7 : Int32))))), .val (.int (((((p1 &&& (3 : Int32)) + (p2 &&& (7 : Int32))) + (p3 &&& (7 : Int32))) + (p4 &&& (7 : Int32))) - (((p1 &&& (3 : Int32)) + (p2 &&& (7 : Int32))) + (p3 &&& (7 : Int32))))), .unset, .unset, .unset] [(.int (3 : Int32)), (.ref b22)])) rfl (by rw [hml]; rfl) (Steps.refl _) (argsL := [(.int (3 : Int32))]) (rest := []) (lenOf pd__I_I rfl) rfl (by show 2 * 0 + _ ≤ _; exact Nat.le_of_eq rfl) (hb hby at_143) (fun _ _ => ⟨rfl, eq30, (by decide : 3 + 0 ≤ _), (by decide : 38 + 0 ≤ _)⟩)
  dsimp only [Pt.U, Pt.locs, Pt.cells, Pt.slots] at X31 l31 y31 z31 st31 hQ31
  subst l31 y31 z31
  obtain ⟨Nq31, eq31, hR31⟩ := hQ31
  have N31 := Fr.app N30 Nq31
  obtain rfl := hR31
  refine Gets.tr st31 ?_
  show Gets p e below _ (T31.setTop (mkF m 146 #[.val (.int p1), .val (.int p2), .val (.int p3), .val (.int p4), .val (.int p5), .val (.int (p1 &&& (3 : Int32))), .val (.int (p2 &&& (7 : Int32))), .val (.int (p3 &&& (7 : Int32))), .val (.int (p4 &&& (7 : Int32))), .val (.int (p5 &&& (7 : Int32))), .val (.ref b1), .val (.ref b19), .val (.ref b22), .val (.int (((p1 &&& (3 : Int32)) + (p2 &&& (7 : Int32))) - (p1 &&& (3 : Int32)))), .val (.int ((((p1 &&& (3 : Int32)) + (p2 &&& (7 : Int32))) + (p3 &&& (7 : Int32))) - ((p1 &&& (3 : Int32)) + (p2 &&& (7 : Int32))))), .val (.int (((((p1 &&& (3 : Int32)) + (p2 &&& (7 : Int32))) + (p3 &&& (7 : Int32))) + (p4 &&& (7 : Int32))) - (((p1 &&& (3 : Int32)) + (p2 &&& (7 : Int32))) + (p3 &&& (7 : Int32))))), .unset, .unset, .unset] [(.int ((((((p1 &&& (3 : Int32)) + (p2 &&& (7 : Int32))) + (p3 &&& (7 : Int32))) + (p4 &&& (7 : Int32))) + (p5 &&& (7 : Int32))) - ((((p1 &&& (3 : Int32)) + (p2 &&& (7 : Int32))) + (p3 &&& (7 : Int32))) + (p4 &&& (7 : Int32)))))]))
  refine Gets.of (fun t k => XS.istore X31.here hx rfl (hb hby at_146) rfl (l' := #[.val (.int p1), .val (.int p2), .val (.int p3), .val (.int p4), .val (.int p5), .val (.int (p1 &&& (3 : Int32))), .val (.int (p2 &&& (7 : Int32))), .val (.int (p3 &&& (7 : Int32))), .val (.int (p4 &&& (7 : Int32))), .val (.int (p5 &&& (7 : Int32))), .val (.ref b1), .val (.ref b19), .val (.ref b22), .val (.int (((p1 &&& (3 : Int32)) + (p2 &&& (7 : Int32))) - (p1 &&& (3 : Int32)))), .val (.int ((((p1 &&& (3 : Int32)) + (p2 &&& (7 : Int32))) + (p3 &&& (7 : Int32))) - ((p1 &&& (3 : Int32)) + (p2 &&& (7 : Int32))))), .val (.int (((((p1 &&& (3 : Int32)) + (p2 &&& (7 : Int32))) + (p3 &&& (7 : Int32))) + (p4 &&& (7 : Int32))) - (((p1 &&& (3 : Int32)) + (p2 &&& (7 : Int32))) + (p3 &&& (7 : Int32))))), .val (.int ((((((p1 &&& (3 : Int32)) + (p2 &&& (7 : Int32))) + (p3 &&& (7 : Int32))) + (p4 &&& (7 : Int32))) + (p5 &&& (7 : Int32))) - ((((p1 &&& (3 : Int32)) + (p2 &&& (7 : Int32))) + (p3 &&& (7 : Int32))) + (p4 &&& (7 : Int32))))), .unset, .unset]) rfl k) ?_
  show Gets p e below _ (T31.setTop (mkF m 148 #[.val (.int p1), .val (.int p2), .val (.int p3), .val (.int p4), .val (.int p5), .val (.int (p1 &&& (3 : Int32))), .val (.int (p2 &&& (7 : Int32))), .val (.int (p3 &&& (7 : Int32))), .val (.int (p4 &&& (7 : Int32))), .val (.int (p5 &&& (7 : Int32))), .val (.ref b1), .val (.ref b19), .val (.ref b22), .val (.int (((p1 &&& (3 : Int32)) + (p2 &&& (7 : Int32))) - (p1 &&& (3 : Int32)))), .val (.int ((((p1 &&& (3 : Int32)) + (p2 &&& (7 : Int32))) + (p3 &&& (7 : Int32))) - ((p1 &&& (3 : Int32)) + (p2 &&& (7 : Int32))))), .val (.int (((((p1 &&& (3 : Int32)) + (p2 &&& (7 : Int32))) + (p3 &&& (7 : Int32))) + (p4 &&& (7 : Int32))) - (((p1 &&& (3 : Int32)) + (p2 &&& (7 : Int32))) + (p3 &&& (7 : Int32))))), .val (.int ((((((p1 &&& (3 : Int32)) + (p2 &&& (7 : Int32))) + (p3 &&& (7 : Int32))) + (p4 &&& (7 : Int32))) + (p5 &&& (7 : Int32))) - ((((p1 &&& (3 : Int32)) + (p2 &&& (7 : Int32))) + (p3 &&& (7 : Int32))) + (p4 &&& (7 : Int32))))), .unset, .unset] []))
  refine Gets.of (fun t k => XS.iload X31.here hx rfl (hb hby at_148) rfl  k) ?_
  refine Gets.of (fun t k => XS.iload X31.here hx rfl (hb hby at_150) rfl  k) ?_
  have ho32 : (((p1 &&& (3 : Int32)) + (p2 &&& (7 : Int32))) - (p1 &&& (3 : Int32))) = (p2 &&& (7 : Int32)) := own_acs _ _
  refine Gets.of (fun t k => XS.icmpNo X31.here hx rfl (hb hby at_152) rfl (teq ho32).2 k) ?_
  show Gets p e below _ (T31.setTop (mkF m 155 #[.val (.int p1), .val (.int p2), .val (.int p3), .val (.int p4), .val (.int p5), .val (.int (p1 &&& (3 : Int32))), .val (.int (p2 &&& (7 : Int32))), .val (.int (p3 &&& (7 : Int32))), .val (.int (p4 &&& (7 : Int32))), .val (.int (p5 &&& (7 : Int32))), .val (.ref b1), .val (.ref b19), .val (.ref b22), .val (.int (((p1 &&& (3 : Int32)) + (p2 &&& (7 : Int32))) - (p1 &&& (3 : Int32)))), .val (.int ((((p1 &&& (3 : Int32)) + (p2 &&& (7 : Int32))) + (p3 &&& (7 : Int32))) - ((p1 &&& (3 : Int32)) + (p2 &&& (7 : Int32))))), .val (.int (((((p1 &&& (3 : Int32)) + (p2 &&& (7 : Int32))) + (p3 &&& (7 : Int32))) + (p4 &&& (7 : Int32))) - (((p1 &&& (3 : Int32)) + (p2 &&& (7 : Int32))) + (p3 &&& (7 : Int32))))), .val (.int ((((((p1 &&& (3 : Int32)) + (p2 &&& (7 : Int32))) + (p3 &&& (7 : Int32))) + (p4 &&& (7 : Int32))) + (p5 &&& (7 : Int32))) - ((((p1 &&& (3 : Int32)) + (p2 &&& (7 : Int32))) + (p3 &&& (7 : Int32))) + (p4 &&& (7 : Int32))))), .unset, .unset] []))
  refine Gets.of (fun t k => XS.iload X31.here hx rfl (hb hby at_155) rfl  k) ?_
  refine Gets.of (fun t k => XS.iload X31.here hx rfl (hb hby at_157) rfl  k) ?_
  have ho33 : ((((p1 &&& (3 : Int32)) + (p2 &&& (7 : Int32))) + (p3 &&& (7 : Int32))) - ((p1 &&& (3 : Int32)) + (p2 &&& (7 : Int32)))) = (p3 &&& (7 : Int32)) := own_acs _ _
  refine Gets.of (fun t k => XS.icmpNo X31.here hx rfl (hb hby at_159) rfl (teq ho33).2 k) ?_
  show Gets p e below _ (T31.setTop (mkF m 162 #[.val (.int p1), .val (.int p2), .val (.int p3), .val (.int p4), .val (.int p5), .val (.int (p1 &&& (3 : Int32))), .val (.int (p2 &&& (7 : Int32))), .val (.int (p3 &&& (7 : Int32))), .val (.int (p4 &&& (7 : Int32))), .val (.int (p5 &&& (7 : Int32))), .val (.ref b1), .val (.ref b19), .val (.ref b22), .val (.int (((p1 &&& (3 : Int32)) + (p2 &&& (7 : Int32))) - (p1 &&& (3 : Int32)))), .val (.int ((((p1 &&& (3 : Int32)) + (p2 &&& (7 : Int32))) + (p3 &&& (7 : Int32))) - ((p1 &&& (3 : Int32)) + (p2 &&& (7 : Int32))))), .val (.int (((((p1 &&& (3 : Int32)) + (p2 &&& (7 : Int32))) + (p3 &&& (7 : Int32))) + (p4 &&& (7 : Int32))) - (((p1 &&& (3 : Int32)) + (p2 &&& (7 : Int32))) + (p3 &&& (7 : Int32))))), .val (.int ((((((p1 &&& (3 : Int32)) + (p2 &&& (7 : Int32))) + (p3 &&& (7 : Int32))) + (p4 &&& (7 : Int32))) + (p5 &&& (7 : Int32))) - ((((p1 &&& (3 : Int32)) + (p2 &&& (7 : Int32))) + (p3 &&& (7 : Int32))) + (p4 &&& (7 : Int32))))), .unset, .unset] []))
  refine Gets.of (fun t k => XS.iload X31.here hx rfl (hb hby at_162) rfl  k) ?_
  refine Gets.of (fun t k => XS.iload X31.here hx rfl (hb hby at_164) rfl  k) ?_
  have ho34 : (((((p1 &&& (3 : Int32)) + (p2 &&& (7 : Int32))) + (p3 &&& (7 : Int32))) + (p4 &&& (7 : Int32))) - (((p1 &&& (3 : Int32)) + (p2 &&& (7 : Int32))) + (p3 &&& (7 : Int32)))) = (p4 &&& (7 : Int32)) := own_acs _ _
  refine Gets.of (fun t k => XS.icmpNo X31.here hx rfl (hb hby at_166) rfl (teq ho34).2 k) ?_
  show Gets p e below _ (T31.setTop (mkF m 169 #[.val (.int p1), .val (.int p2), .val (.int p3), .val (.int p4), .val (.int p5), .val (.int (p1 &&& (3 : Int32))), .val (.int (p2 &&& (7 : Int32))), .val (.int (p3 &&& (7 : Int32))), .val (.int (p4 &&& (7 : Int32))), .val (.int (p5 &&& (7 : Int32))), .val (.ref b1), .val (.ref b19), .val (.ref b22), .val (.int (((p1 &&& (3 : Int32)) + (p2 &&& (7 : Int32))) - (p1 &&& (3 : Int32)))), .val (.int ((((p1 &&& (3 : Int32)) + (p2 &&& (7 : Int32))) + (p3 &&& (7 : Int32))) - ((p1 &&& (3 : Int32)) + (p2 &&& (7 : Int32))))), .val (.int (((((p1 &&& (3 : Int32)) + (p2 &&& (7 : Int32))) + (p3 &&& (7 : Int32))) + (p4 &&& (7 : Int32))) - (((p1 &&& (3 : Int32)) + (p2 &&& (7 : Int32))) + (p3 &&& (7 : Int32))))), .val (.int ((((((p1 &&& (3 : Int32)) + (p2 &&& (7 : Int32))) + (p3 &&& (7 : Int32))) + (p4 &&& (7 : Int32))) + (p5 &&& (7 : Int32))) - ((((p1 &&& (3 : Int32)) + (p2 &&& (7 : Int32))) + (p3 &&& (7 : Int32))) + (p4 &&& (7 : Int32))))), .unset, .unset] []))
  refine Gets.of (fun t k => XS.iload X31.here hx rfl (hb hby at_169) rfl  k) ?_
  refine Gets.of (fun t k => XS.iload X31.here hx rfl (hb hby at_171) rfl  k) ?_
  have ho35 : ((((((p1 &&& (3 : Int32)) + (p2 &&& (7 : Int32))) + (p3 &&& (7 : Int32))) + (p4 &&& (7 : Int32))) + (p5 &&& (7 : Int32))) - ((((p1 &&& (3 : Int32)) + (p2 &&& (7 : Int32))) + (p3 &&& (7 : Int32))) + (p4 &&& (7 : Int32)))) = (p5 &&& (7 : Int32)) := own_acs _ _
  refine Gets.of (fun t k => XS.icmpNo X31.here hx rfl (hb hby at_173) rfl (teq ho35).2 k) ?_
  show Gets p e below _ (T31.setTop (mkF m 176 #[.val (.int p1), .val (.int p2), .val (.int p3), .val (.int p4), .val (.int p5), .val (.int (p1 &&& (3 : Int32))), .val (.int (p2 &&& (7 : Int32))), .val (.int (p3 &&& (7 : Int32))), .val (.int (p4 &&& (7 : Int32))), .val (.int (p5 &&& (7 : Int32))), .val (.ref b1), .val (.ref b19), .val (.ref b22), .val (.int (((p1 &&& (3 : Int32)) + (p2 &&& (7 : Int32))) - (p1 &&& (3 : Int32)))), .val (.int ((((p1 &&& (3 : Int32)) + (p2 &&& (7 : Int32))) + (p3 &&& (7 : Int32))) - ((p1 &&& (3 : Int32)) + (p2 &&& (7 : Int32))))), .val (.int (((((p1 &&& (3 : Int32)) + (p2 &&& (7 : Int32))) + (p3 &&& (7 : Int32))) + (p4 &&& (7 : Int32))) - (((p1 &&& (3 : Int32)) + (p2 &&& (7 : Int32))) + (p3 &&& (7 : Int32))))), .val (.int ((((((p1 &&& (3 : Int32)) + (p2 &&& (7 : Int32))) + (p3 &&& (7 : Int32))) + (p4 &&& (7 : Int32))) + (p5 &&& (7 : Int32))) - ((((p1 &&& (3 : Int32)) + (p2 &&& (7 : Int32))) + (p3 &&& (7 : Int32))) + (p4 &&& (7 : Int32))))), .unset, .unset] []))
  refine Gets.of (fun t k => XS.iconst X31.here hx rfl (hb hby at_176) k) ?_
  refine Gets.of (fun t k => XS.goto X31.here hx rfl (pc0 := 177) (pc' := 181) rfl (hb hby at_177) (by decide) (by decide) k) ?_
  show Gets p e below _ (T31.setTop (mkF m 181 #[.val (.int p1), .val (.int p2), .val (.int p3), .val (.int p4), .val (.int p5), .val (.int (p1 &&& (3 : Int32))), .val (.int (p2 &&& (7 : Int32))), .val (.int (p3 &&& (7 : Int32))), .val (.int (p4 &&& (7 : Int32))), .val (.int (p5 &&& (7 : Int32))), .val (.ref b1), .val (.ref b19), .val (.ref b22), .val (.int (((p1 &&& (3 : Int32)) + (p2 &&& (7 : Int32))) - (p1 &&& (3 : Int32)))), .val (.int ((((p1 &&& (3 : Int32)) + (p2 &&& (7 : Int32))) + (p3 &&& (7 : Int32))) - ((p1 &&& (3 : Int32)) + (p2 &&& (7 : Int32))))), .val (.int (((((p1 &&& (3 : Int32)) + (p2 &&& (7 : Int32))) + (p3 &&& (7 : Int32))) + (p4 &&& (7 : Int32))) - (((p1 &&& (3 : Int32)) + (p2 &&& (7 : Int32))) + (p3 &&& (7 : Int32))))), .val (.int ((((((p1 &&& (3 : Int32)) + (p2 &&& (7 : Int32))) + (p3 &&& (7 : Int32))) + (p4 &&& (7 : Int32))) + (p5 &&& (7 : Int32))) - ((((p1 &&& (3 : Int32)) + (p2 &&& (7 : Int32))) + (p3 &&& (7 : Int32))) + (p4 &&& (7 : Int32))))), .unset, .unset] [(.int (1 : Int32))]))
  refine Gets.of (fun t k => XS.istore X31.here hx rfl (hb hby at_181) rfl (l' := #[.val (.int p1), .val (.int p2), .val (.int p3), .val (.int p4), .val (.int p5), .val (.int (p1 &&& (3 : Int32))), .val (.int (p2 &&& (7 : Int32))), .val (.int (p3 &&& (7 : Int32))), .val (.int (p4 &&& (7 : Int32))), .val (.int (p5 &&& (7 : Int32))), .val (.ref b1), .val (.ref b19), .val (.ref b22), .val (.int (((p1 &&& (3 : Int32)) + (p2 &&& (7 : Int32))) - (p1 &&& (3 : Int32)))), .val (.int ((((p1 &&& (3 : Int32)) + (p2 &&& (7 : Int32))) + (p3 &&& (7 : Int32))) - ((p1 &&& (3 : Int32)) + (p2 &&& (7 : Int32))))), .val (.int (((((p1 &&& (3 : Int32)) + (p2 &&& (7 : Int32))) + (p3 &&& (7 : Int32))) + (p4 &&& (7 : Int32))) - (((p1 &&& (3 : Int32)) + (p2 &&& (7 : Int32))) + (p3 &&& (7 : Int32))))), .val (.int ((((((p1 &&& (3 : Int32)) + (p2 &&& (7 : Int32))) + (p3 &&& (7 : Int32))) + (p4 &&& (7 : Int32))) + (p5 &&& (7 : Int32))) - ((((p1 &&& (3 : Int32)) + (p2 &&& (7 : Int32))) + (p3 &&& (7 : Int32))) + (p4 &&& (7 : Int32))))), .val (.int (1 : Int32)), .unset]) rfl k) ?_
  show Gets p e below _ (T31.setTop (mkF m 183 #[.val (.int p1), .val (.int p2), .val (.int p3), .val (.int p4), .val (.int p5), .val (.int (p1 &&& (3 : Int32))), .val (.int (p2 &&& (7 : Int32))), .val (.int (p3 &&& (7 : Int32))), .val (.int (p4 &&& (7 : Int32))), .val (.int (p5 &&& (7 : Int32))), .val (.ref b1), .val (.ref b19), .val (.ref b22), .val (.int (((p1 &&& (3 : Int32)) + (p2 &&& (7 : Int32))) - (p1 &&& (3 : Int32)))), .val (.int ((((p1 &&& (3 : Int32)) + (p2 &&& (7 : Int32))) + (p3 &&& (7 : Int32))) - ((p1 &&& (3 : Int32)) + (p2 &&& (7 : Int32))))), .val (.int (((((p1 &&& (3 : Int32)) + (p2 &&& (7 : Int32))) + (p3 &&& (7 : Int32))) + (p4 &&& (7 : Int32))) - (((p1 &&& (3 : Int32)) + (p2 &&& (7 : Int32))) + (p3 &&& (7 : Int32))))), .val (.int ((((((p1 &&& (3 : Int32)) + (p2 &&& (7 : Int32))) + (p3 &&& (7 : Int32))) + (p4 &&& (7 : Int32))) + (p5 &&& (7 : Int32))) - ((((p1 &&& (3 : Int32)) + (p2 &&& (7 : Int32))) + (p3 &&& (7 : Int32))) + (p4 &&& (7 : Int32))))), .val (.int (1 : Int32)), .unset] []))
  refine Gets.of (fun t k => XS.iload X31.here hx rfl (hb hby at_183) rfl  k) ?_
  refine Gets.of (fun t k => XS.iload X31.here hx rfl (hb hby at_185) rfl  k) ?_
  refine Gets.of (fun t k => XS.iadd X31.here hx rfl (hb hby at_187) rfl k) ?_
  show Gets p e below _ (T31.setTop (mkF m 188 #[.val (.int p1), .val (.int p2), .val (.int p3), .val (.int p4), .val (.int p5), .val (.int (p1 &&& (3 : Int32))), .val (.int (p2 &&& (7 : Int32))), .val (.int (p3 &&& (7 : Int32))), .val (.int (p4 &&& (7 : Int32))), .val (.int (p5 &&& (7 : Int32))), .val (.ref b1), .val (.ref b19), .val (.ref b22), .val (.int (((p1 &&& (3 : Int32)) + (p2 &&& (7 : Int32))) - (p1 &&& (3 : Int32)))), .val (.int ((((p1 &&& (3 : Int32)) + (p2 &&& (7 : Int32))) + (p3 &&& (7 : Int32))) - ((p1 &&& (3 : Int32)) + (p2 &&& (7 : Int32))))), .val (.int (((((p1 &&& (3 : Int32)) + (p2 &&& (7 : Int32))) + (p3 &&& (7 : Int32))) + (p4 &&& (7 : Int32))) - (((p1 &&& (3 : Int32)) + (p2 &&& (7 : Int32))) + (p3 &&& (7 : Int32))))), .val (.int ((((((p1 &&& (3 : Int32)) + (p2 &&& (7 : Int32))) + (p3 &&& (7 : Int32))) + (p4 &&& (7 : Int32))) + (p5 &&& (7 : Int32))) - ((((p1 &&& (3 : Int32)) + (p2 &&& (7 : Int32))) + (p3 &&& (7 : Int32))) + (p4 &&& (7 : Int32))))), .val (.int (1 : Int32)), .unset] [(.int ((((p1 &&& (3 : Int32)) + (p2 &&& (7 : Int32))) - (p1 &&& (3 : Int32))) + ((((p1 &&& (3 : Int32)) + (p2 &&& (7 : Int32))) + (p3 &&& (7 : Int32))) - ((p1 &&& (3 : Int32)) + (p2 &&& (7 : Int32))))))]))
  refine Gets.of (fun t k => XS.iload X31.here hx rfl (hb hby at_188) rfl  k) ?_
  refine Gets.of (fun t k => XS.iadd X31.here hx rfl (hb hby at_190) rfl k) ?_
  show Gets p e below _ (T31.setTop (mkF m 191 #[.val (.int p1), .val (.int p2), .val (.int p3), .val (.int p4), .val (.int p5), .val (.int (p1 &&& (3 : Int32))), .val (.int (p2 &&& (7 : Int32))), .val (.int (p3 &&& (7 : Int32))), .val (.int (p4 &&& (7 : Int32))), .val (.int (p5 &&& (7 : Int32))), .val (.ref b1), .val (.ref b19), .val (.ref b22), .val (.int (((p1 &&& (3 : Int32)) + (p2 &&& (7 : Int32))) - (p1 &&& (3 : Int32)))), .val (.int ((((p1 &&& (3 : Int32)) + (p2 &&& (7 : Int32))) + (p3 &&& (7 : Int32))) - ((p1 &&& (3 : Int32)) + (p2 &&& (7 : Int32))))), .val (.int (((((p1 &&& (3 : Int32)) + (p2 &&& (7 : Int32))) + (p3 &&& (7 : Int32))) + (p4 &&& (7 : Int32))) - (((p1 &&& (3 : Int32)) + (p2 &&& (7 : Int32))) + (p3 &&& (7 : Int32))))), .val (.int ((((((p1 &&& (3 : Int32)) + (p2 &&& (7 : Int32))) + (p3 &&& (7 : Int32))) + (p4 &&& (7 : Int32))) + (p5 &&& (7 : Int32))) - ((((p1 &&& (3 : Int32)) + (p2 &&& (7 : Int32))) + (p3 &&& (7 : Int32))) + (p4 &&& (7 : Int32))))), .val (.int (1 : Int32)), .unset] [(.int (((((p1 &&& (3 : Int32)) + (p2 &&& (7 : Int32))) - (p1 &&& (3 : Int32))) + ((((p1 &&& (3 : Int32)) + (p2 &&& (7 : Int32))) + (p3 &&& (7 : Int32))) - ((p1 &&& (3 : Int32)) + (p2 &&& (7 : Int32))))) + (((((p1 &&& (3 : Int32)) + (p2 &&& (7 : Int32))) + (p3 &&& (7 : Int32))) + (p4 &&& (7 : Int32))) - (((p1 &&& (3 : Int32)) + (p2 &&& (7 : Int32))) + (p3 &&& (7 : Int32))))))]))
  refine Gets.of (fun t k => XS.iload X31.here hx rfl (hb hby at_191) rfl  k) ?_
  refine Gets.of (fun t k => XS.iadd X31.here hx rfl (hb hby at_193) rfl k) ?_
  show Gets p e below _ (T31.setTop (mkF m 194 #[.val (.int p1), .val (.int p2), .val (.int p3), .val (.int p4), .val (.int p5), .val (.int (p1 &&& (3 : Int32))), .val (.int (p2 &&& (7 : Int32))), .val (.int (p3 &&& (7 : Int32))), .val (.int (p4 &&& (7 : Int32))), .val (.int (p5 &&& (7 : Int32))), .val (.ref b1), .val (.ref b19), .val (.ref b22), .val (.int (((p1 &&& (3 : Int32)) + (p2 &&& (7 : Int32))) - (p1 &&& (3 : Int32)))), .val (.int ((((p1 &&& (3 : Int32)) + (p2 &&& (7 : Int32))) + (p3 &&& (7 : Int32))) - ((p1 &&& (3 : Int32)) + (p2 &&& (7 : Int32))))), .val (.int (((((p1 &&& (3 : Int32)) + (p2 &&& (7 : Int32))) + (p3 &&& (7 : Int32))) + (p4 &&& (7 : Int32))) - (((p1 &&& (3 : Int32)) + (p2 &&& (7 : Int32))) + (p3 &&& (7 : Int32))))), .val (.int ((((((p1 &&& (3 : Int32)) + (p2 &&& (7 : Int32))) + (p3 &&& (7 : Int32))) + (p4 &&& (7 : Int32))) + (p5 &&& (7 : Int32))) - ((((p1 &&& (3 : Int32)) + (p2 &&& (7 : Int32))) + (p3 &&& (7 : Int32))) + (p4 &&& (7 : Int32))))), .val (.int (1 : Int32)), .unset] [(.int ((((((p1 &&& (3 : Int32)) + (p2 &&& (7 : Int32))) - (p1 &&& (3 : Int32))) + ((((p1 &&& (3 : Int32)) + (p2 &&& (7 : Int32))) + (p3 &&& (7 : Int32))) - ((p1 &&& (3 : Int32)) + (p2 &&& (7 : Int32))))) + (((((p1 &&& (3 : Int32)) + (p2 &&& (7 : Int32))) + (p3 &&& (7 : Int32))) + (p4 &&& (7 : Int32))) - (((p1 &&& (3 : Int32)) + (p2 &&& (7 : Int32))) + (p3 &&& (7 : Int32))))) + ((((((p1 &&& (3 : Int32)) + (p2 &&& (7 : Int32))) + (p3 &&& (7 : Int32))) + (p4 &&& (7 : Int32))) + (p5 &&& (7 : Int32))) - ((((p1 &&& (3 : Int32)) + (p2 &&& (7 : Int32))) + (p3 &&& (7 : Int32))) + (p4 &&& (7 : Int32))))))]))
  refine Gets.of (fun t k => XS.aload X31.here hx rfl (hb hby at_194) rfl rfl  k) ?_
  have f36 : Arh Z T24.heap b19 k19 .int (((((p1 &&& (3 : Int32)) + (p2 &&& (7 : Int32))) + (p3 &&& (7 : Int32))) + (p4 &&& (7 : Int32))) + (p5 &&& (7 : Int32))) [] [] (.int (0 : Int32)) := ((V19.ext E22).keep Kq24 (ninS (Nat.ne_of_lt (Nat.lt_of_lt_of_le V19.lt (Nat.le_of_eq g22.symm))) nin0))
  obtain ⟨cl37, Ar37, -, S37, N_37, -, -⟩ := id (f36)
  refine Gets.of (X31.arraylength hx (by rw [eq31]; exact Ar37.1) (State.isArrayOf_alike hZ.alike Ar37.2.1) (g := (mkF m 196 #[.val (.int p1), .val (.int p2), .val (.int p3), .val (.int p4), .val (.int p5), .val (.int (p1 &&& (3 : Int32))), .val (.int (p2 &&& (7 : Int32))), .val (.int (p3 &&& (7 : Int32))), .val (.int (p4 &&& (7 : Int32))), .val (.int (p5 &&& (7 : Int32))), .val (.ref b1), .val (.ref b19), .val (.ref b22), .val (.int (((p1 &&& (3 : Int32)) + (p2 &&& (7 : Int32))) - (p1 &&& (3 : Int32)))), .val (.int ((((p1 &&& (3 : Int32)) + (p2 &&& (7 : Int32))) + (p3 &&& (7 : Int32))) - ((p1 &&& (3 : Int32)) + (p2 &&& (7 : Int32))))), .val (.int (((((p1 &&& (3 : Int32)) + (p2 &&& (7 : Int32))) + (p3 &&& (7 : Int32))) + (p4 &&& (7 : Int32))) - (((p1 &&& (3 : Int32)) + (p2 &&& (7 : Int32))) + (p3 &&& (7 : Int32))))), .val (.int ((((((p1 &&& (3 : Int32)) + (p2 &&& (7 : Int32))) + (p3 &&& (7 : Int32))) + (p4 &&& (7 : Int32))) + (p5 &&& (7 : Int32))) - ((((p1 &&& (3 : Int32)) + (p2 &&& (7 : Int32))) + (p3 &&& (7 : Int32))) + (p4 &&& (7 : Int32))))), .val (.int (1 : Int32)), .unset] [(.ref b19), (.int ((((((p1 &&& (3 : Int32)) + (p2 &&& (7 : Int32))) - (p1 &&& (3 : Int32))) + ((((p1 &&& (3 : Int32)) + (p2 &&& (7 : Int32))) + (p3 &&& (7 : Int32))) - ((p1 &&& (3 : Int32)) + (p2 &&& (7 : Int32))))) + (((((p1 &&& (3 : Int32)) + (p2 &&& (7 : Int32))) + (p3 &&& (7 : Int32))) + (p4 &&& (7 : Int32))) - (((p1 &&& (3 : Int32)) + (p2 &&& (7 : Int32))) + (p3 &&& (7 : Int32))))) + ((((((p1 &&& (3 : Int32)) + (p2 &&& (7 : Int32))) + (p3 &&& (7 : Int32))) + (p4 &&& (7 : Int32))) + (p5 &&& (7 : Int32))) - ((((p1 &&& (3 : Int32)) + (p2 &&& (7 : Int32))) + (p3 &&& (7 : Int32))) + (p4 &&& (7 : Int32))))))])) rfl rfl (hb hby at_196)) ?_
  rw [len_of S37 N_37]
  show Gets p e below _ (T31.setTop (mkF m 197 #[.val (.int p1), .val (.int p2), .val (.int p3), .val (.int p4), .val (.int p5), .val (.int (p1 &&& (3 : Int32))), .val (.int (p2 &&& (7 : Int32))), .val (.int (p3 &&& (7 : Int32))), .val (.int (p4 &&& (7 : Int32))), .val (.int (p5 &&& (7 : Int32))), .val (.ref b1), .val (.ref b19), .val (.ref b22), .val (.int (((p1 &&& (3 : Int32)) + (p2 &&& (7 : Int32))) - (p1 &&& (3 : Int32)))), .val (.int ((((p1 &&& (3 : Int32)) + (p2 &&& (7 : Int32))) + (p3 &&& (7 : Int32))) - ((p1 &&& (3 : Int32)) + (p2 &&& (7 : Int32))))), .val (.int (((((p1 &&& (3 : Int32)) + (p2 &&& (7 : Int32))) + (p3 &&& (7 : Int32))) + (p4 &&& (7 : Int32))) - (((p1 &&& (3 : Int32)) + (p2 &&& (7 : Int32))) + (p3 &&& (7 : Int32))))), .val (.int ((((((p1 &&& (3 : Int32)) + (p2 &&& (7 : Int32))) + (p3 &&& (7 : Int32))) + (p4 &&& (7 : Int32))) + (p5 &&& (7 : Int32))) - ((((p1 &&& (3 : Int32)) + (p2 &&& (7 : Int32))) + (p3 &&& (7 : Int32))) + (p4 &&& (7 : Int32))))), .val (.int (1 : Int32)), .unset] [(.int (((((p1 &&& (3 : Int32)) + (p2 &&& (7 : Int32))) + (p3 &&& (7 : Int32))) + (p4 &&& (7 : Int32))) + (p5 &&& (7 : Int32)))), (.int ((((((p1 &&& (3 : Int32)) + (p2 &&& (7 : Int32))) - (p1 &&& (3 : Int32))) + ((((p1 &&& (3 : Int32)) + (p2 &&& (7 : Int32))) + (p3 &&& (7 : Int32))) - ((p1 &&& (3 : Int32)) + (p2 &&& (7 : Int32))))) + (((((p1 &&& (3 : Int32)) + (p2 &&& (7 : Int32))) + (p3 &&& (7 : Int32))) + (p4 &&& (7 : Int32))) - (((p1 &&& (3 : Int32)) + (p2 &&& (7 : Int32))) + (p3 &&& (7 : Int32))))) + ((((((p1 &&& (3 : Int32)) + (p2 &&& (7 : Int32))) + (p3 &&& (7 : Int32))) + (p4 &&& (7 : Int32))) + (p5 &&& (7 : Int32))) - ((((p1 &&& (3 : Int32)) + (p2 &&& (7 : Int32))) + (p3 &&& (7 : Int32))) + (p4 &&& (7 : Int32))))))]))
  refine Gets.of (fun t k => XS.iload X31.here hx rfl (hb hby at_197) rfl  k) ?_
  refine Gets.of (fun t k => XS.isub X31.here hx rfl (hb hby at_199) rfl k) ?_
  show Gets p e below _ (T31.setTop (mkF m 200 #[.val (.int p1), .val (.int p2), .val (.int p3), .val (.int p4), .val (.int p5), .val (.int (p1 &&& (3 : Int32))), .val (.int (p2 &&& (7 : Int32))), .val (.int (p3 &&& (7 : Int32))), .val (.int (p4 &&& (7 : Int32))), .val (.int (p5 &&& (7 : Int32))), .val (.ref b1), .val (.ref b19), .val (.ref b22), .val (.int (((p1 &&& (3 : Int32)) + (p2 &&& (7 : Int32))) - (p1 &&& (3 : Int32)))), .val (.int ((((p1 &&& (3 : Int32)) + (p2 &&& (7 : Int32))) + (p3 &&& (7 : Int32))) - ((p1 &&& (3 : Int32)) + (p2 &&& (7 : Int32))))), .val (.int (((((p1 &&& (3 : Int32)) + (p2 &&& (7 : Int32))) + (p3 &&& (7 : Int32))) + (p4 &&& (7 : Int32))) - (((p1 &&& (3 : Int32)) + (p2 &&& (7 : Int32))) + (p3 &&& (7 : Int32))))), .val (.int ((((((p1 &&& (3 : Int32)) + (p2 &&& (7 : Int32))) + (p3 &&& (7 : Int32))) + (p4 &&& (7 : Int32))) + (p5 &&& (7 : Int32))) - ((((p1 &&& (3 : Int32)) + (p2 &&& (7 : Int32))) + (p3 &&& (7 : Int32))) + (p4 &&& (7 : Int32))))), .val (.int (1 : Int32)), .unset] [(.int ((((((p1 &&& (3 : Int32)) + (p2 &&& (7 : Int32))) + (p3 &&& (7 : Int32))) + (p4 &&& (7 : Int32))) + (p5 &&& (7 : Int32))) - (p1 &&& (3 : Int32)))), (.int ((((((p1 &&& (3 : Int32)) + (p2 &&& (7 : Int32))) - (p1 &&& (3 : Int32))) + ((((p1 &&& (3 : Int32)) + (p2 &&& (7 : Int32))) + (p3 &&& (7 : Int32))) - ((p1 &&& (3 : Int32)) + (p2 &&& (7 : Int32))))) + (((((p1 &&& (3 : Int32)) + (p2 &&& (7 : Int32))) + (p3 &&& (7 : Int32))) + (p4 &&& (7 : Int32))) - (((p1 &&& (3 : Int32)) + (p2 &&& (7 : Int32))) + (p3 &&& (7 : Int32))))) + ((((((p1 &&& (3 : Int32)) + (p2 &&& (7 : Int32))) + (p3 &&& (7 : Int32))) + (p4 &&& (7 : Int32))) + (p5 &&& (7 : Int32))) - ((((p1 &&& (3 : Int32)) + (p2 &&& (7 : Int32))) + (p3 &&& (7 : Int32))) + (p4 &&& (7 : Int32))))))]))
  have ho38 : ((((((p1 &&& (3 : Int32)) + (p2 &&& (7 : Int32))) - (p1 &&& (3 : Int32))) + ((((p1 &&& (3 : Int32)) + (p2 &&& (7 : Int32))) + (p3 &&& (7 : Int32))) - ((p1 &&& (3 : Int32)) + (p2 &&& (7 : Int32))))) + (((((p1 &&& (3 : Int32)) + (p2 &&& (7 : Int32))) + (p3 &&& (7 : Int32))) + (p4 &&& (7 : Int32))) - (((p1 &&& (3 : Int32)) + (p2 &&& (7 : Int32))) + (p3 &&& (7 : Int32))))) + ((((((p1 &&& (3 : Int32)) + (p2 &&& (7 : Int32))) + (p3 &&& (7 : Int32))) + (p4 &&& (7 : Int32))) + (p5 &&& (7 : Int32))) - ((((p1 &&& (3 : Int32)) + (p2 &&& (7 : Int32))) + (p3 &&& (7 : Int32))) + (p4 &&& (7 : Int32))))) = ((((((p1 &&& (3 : Int32)) + (p2 &&& (7 : Int32))) + (p3 &&& (7 : Int32))) + (p4 &&& (7 : Int32))) + (p5 &&& (7 : Int32))) - (p1 &&& (3 : Int32))) := by rw [own_acs, own_acs, own_acs, own_acs]; exact own_tot _ _ _ _ _
  refine Gets.of (fun t k => XS.icmpNo X31.here hx rfl (hb hby at_200) rfl (teq ho38).2 k) ?_
  show Gets p e below _ (T31.setTop (mkF m 203 #[.val (.int p1), .val (.int p2), .val (.int p3), .val (.int p4), .val (.int p5), .val (.int (p1 &&& (3 : Int32))), .val (.int (p2 &&& (7 : Int32))), .val (.int (p3 &&& (7 : Int32))), .val (.int (p4 &&& (7 : Int32))), .val (.int (p5 &&& (7 : Int32))), .val (.ref b1), .val (.ref b19), .val (.ref b22), .val (.int (((p1 &&& (3 : Int32)) + (p2 &&& (7 : Int32))) - (p1 &&& (3 : Int32)))), .val (.int ((((p1 &&& (3 : Int32)) + (p2 &&& (7 : Int32))) + (p3 &&& (7 : Int32))) - ((p1 &&& (3 : Int32)) + (p2 &&& (7 : Int32))))), .val (.int (((((p1 &&& (3 : Int32)) + (p2 &&& (7 : Int32))) + (p3 &&& (7 : Int32))) + (p4 &&& (7 : Int32))) - (((p1 &&& (3 : Int32)) + (p2 &&& (7 : Int32))) + (p3 &&& (7 : Int32))))), .val (.int ((((((p1 &&& (3 : Int32)) + (p2 &&& (7 : Int32))) + (p3 &&& (7 : Int32))) + (p4 &&& (7 : Int32))) + (p5 &&& (7 : Int32))) - ((((p1 &&& (3 : Int32)) + (p2 &&& (7 : Int32))) + (p3 &&& (7 : Int32))) + (p4 &&& (7 : Int32))))), .val (.int (1 : Int32)), .unset] []))
  refine Gets.of (fun t k => XS.iconst X31.here hx rfl (hb hby at_203) k) ?_
  refine Gets.of (fun t k => XS.goto X31.here hx rfl (pc0 := 204) (pc' := 208) rfl (hb hby at_204) (by decide) (by decide) k) ?_
  show Gets p e below _ (T31.setTop (mkF m 208 #[.val (.int p1), .val (.int p2), .val (.int p3), .val (.int p4), .val (.int p5), .val (.int (p1 &&& (3 : Int32))), .val (.int (p2 &&& (7 : Int32))), .val (.int (p3 &&& (7 : Int32))), .val (.int (p4 &&& (7 : Int32))), .val (.int (p5 &&& (7 : Int32))), .val (.ref b1), .val (.ref b19), .val (.ref b22), .val (.int (((p1 &&& (3 : Int32)) + (p2 &&& (7 : Int32))) - (p1 &&& (3 : Int32)))), .val (.int ((((p1 &&& (3 : Int32)) + (p2 &&& (7 : Int32))) + (p3 &&& (7 : Int32))) - ((p1 &&& (3 : Int32)) + (p2 &&& (7 : Int32))))), .val (.int (((((p1 &&& (3 : Int32)) + (p2 &&& (7 : Int32))) + (p3 &&& (7 : Int32))) + (p4 &&& (7 : Int32))) - (((p1 &&& (3 : Int32)) + (p2 &&& (7 : Int32))) + (p3 &&& (7 : Int32))))), .val (.int ((((((p1 &&& (3 : Int32)) + (p2 &&& (7 : Int32))) + (p3 &&& (7 : Int32))) + (p4 &&& (7 : Int32))) + (p5 &&& (7 : Int32))) - ((((p1 &&& (3 : Int32)) + (p2 &&& (7 : Int32))) + (p3 &&& (7 : Int32))) + (p4 &&& (7 : Int32))))), .val (.int (1 : Int32)), .unset] [(.int (1 : Int32))]))
  refine Gets.of (fun t k => XS.istore X31.here hx rfl (hb hby at_208) rfl (l' := #[.val (.int p1), .val (.int p2), .val (.int p3), .val (.int p4), .val (.int p5), .val (.int (p1 &&& (3 : Int32))), .val (.int (p2 &&& (7 : Int32))), .val (.int (p3 &&& (7 : Int32))), .val (.int (p4 &&& (7 : Int32))), .val (.int (p5 &&& (7 : Int32))), .val (.ref b1), .val (.ref b19), .val (.ref b22), .val (.int (((p1 &&& (3 : Int32)) + (p2 &&& (7 : Int32))) - (p1 &&& (3 : Int32)))), .val (.int ((((p1 &&& (3 : Int32)) + (p2 &&& (7 : Int32))) + (p3 &&& (7 : Int32))) - ((p1 &&& (3 : Int32)) + (p2 &&& (7 : Int32))))), .val (.int (((((p1 &&& (3 : Int32)) + (p2 &&& (7 : Int32))) + (p3 &&& (7 : Int32))) + (p4 &&& (7 : Int32))) - (((p1 &&& (3 : Int32)) + (p2 &&& (7 : Int32))) + (p3 &&& (7 : Int32))))), .val (.int ((((((p1 &&& (3 : Int32)) + (p2 &&& (7 : Int32))) + (p3 &&& (7 : Int32))) + (p4 &&& (7 : Int32))) + (p5 &&& (7 : Int32))) - ((((p1 &&& (3 : Int32)) + (p2 &&& (7 : Int32))) + (p3 &&& (7 : Int32))) + (p4 &&& (7 : Int32))))), .val (.int (1 : Int32)), .val (.int (1 : Int32))]) rfl k) ?_
  show Gets p e below _ (T31.setTop (mkF m 210 #[.val (.int p1), .val (.int p2), .val (.int p3), .val (.int p4), .val (.int p5), .val (.int (p1 &&& (3 : Int32))), .val (.int (p2 &&& (7 : Int32))), .val (.int (p3 &&& (7 : Int32))), .val (.int (p4 &&& (7 : Int32))), .val (.int (p5 &&& (7 : Int32))), .val (.ref b1), .val (.ref b19), .val (.ref b22), .val (.int (((p1 &&& (3 : Int32)) + (p2 &&& (7 : Int32))) - (p1 &&& (3 : Int32)))), .val (.int ((((p1 &&& (3 : Int32)) + (p2 &&& (7 : Int32))) + (p3 &&& (7 : Int32))) - ((p1 &&& (3 : Int32)) + (p2 &&& (7 : Int32))))), .val (.int (((((p1 &&& (3 : Int32)) + (p2 &&& (7 : Int32))) + (p3 &&& (7 : Int32))) + (p4 &&& (7 : Int32))) - (((p1 &&& (3 : Int32)) + (p2 &&& (7 : Int32))) + (p3 &&& (7 : Int32))))), .val (.int ((((((p1 &&& (3 : Int32)) + (p2 &&& (7 : Int32))) + (p3 &&& (7 : Int32))) + (p4 &&& (7 : Int32))) + (p5 &&& (7 : Int32))) - ((((p1 &&& (3 : Int32)) + (p2 &&& (7 : Int32))) + (p3 &&& (7 : Int32))) + (p4 &&& (7 : Int32))))), .val (.int (1 : Int32)), .val (.int (1 : Int32))] []))
  refine Gets.of (fun t k => XS.iload X31.here hx rfl (hb hby at_210) rfl  k) ?_
  refine Gets.of (fun t k => XS.ifNo X31.here hx rfl (hb hby at_212) rfl ((if0 _ _).trans (feq (by decide : ¬ ((1 : Int32) = (0 : Int32)))).1) k) ?_
  show Gets p e below _ (T31.setTop (mkF m 215 #[.val (.int p1), .val (.int p2), .val (.int p3), .val (.int p4), .val (.int p5), .val (.int (p1 &&& (3 : Int32))), .val (.int (p2 &&& (7 : Int32))), .val (.int (p3 &&& (7 : Int32))), .val (.int (p4 &&& (7 : Int32))), .val (.int (p5 &&& (7 : Int32))), .val (.ref b1), .val (.ref b19), .val (.ref b22), .val (.int (((p1 &&& (3 : Int32)) + (p2 &&& (7 : Int32))) - (p1 &&& (3 : Int32)))), .val (.int ((((p1 &&& (3 : Int32)) + (p2 &&& (7 : Int32))) + (p3 &&& (7 : Int32))) - ((p1 &&& (3 : Int32)) + (p2 &&& (7 : Int32))))), .val (.int (((((p1 &&& (3 : Int32)) + (p2 &&& (7 : Int32))) + (p3 &&& (7 : Int32))) + (p4 &&& (7 : Int32))) - (((p1 &&& (3 : Int32)) + (p2 &&& (7 : Int32))) + (p3 &&& (7 : Int32))))), .val (.int ((((((p1 &&& (3 : Int32)) + (p2 &&& (7 : Int32))) + (p3 &&& (7 : Int32))) + (p4 &&& (7 : Int32))) + (p5 &&& (7 : Int32))) - ((((p1 &&& (3 : Int32)) + (p2 &&& (7 : Int32))) + (p3 &&& (7 : Int32))) + (p4 &&& (7 : Int32))))), .val (.int (1 : Int32)), .val (.int (1 : Int32))] []))
  refine Gets.of (fun t k => XS.iload X31.here hx rfl (hb hby at_215) rfl  k) ?_
  refine Gets.of (fun t k => XS.ifNo X31.here hx rfl (hb hby at_217) rfl ((if0 _ _).trans (feq (by decide : ¬ ((1 : Int32) = (0 : Int32)))).1) k) ?_
  show Gets p e below _ (T31.setTop (mkF m 220 #[.val (.int p1), .val (.int p2), .val (.int p3), .val (.int p4), .val (.int p5), .val (.int (p1 &&& (3 : Int32))), .val (.int (p2 &&& (7 : Int32))), .val (.int (p3 &&& (7 : Int32))), .val (.int (p4 &&& (7 : Int32))), .val (.int (p5 &&& (7 : Int32))), .val (.ref b1), .val (.ref b19), .val (.ref b22), .val (.int (((p1 &&& (3 : Int32)) + (p2 &&& (7 : Int32))) - (p1 &&& (3 : Int32)))), .val (.int ((((p1 &&& (3 : Int32)) + (p2 &&& (7 : Int32))) + (p3 &&& (7 : Int32))) - ((p1 &&& (3 : Int32)) + (p2 &&& (7 : Int32))))), .val (.int (((((p1 &&& (3 : Int32)) + (p2 &&& (7 : Int32))) + (p3 &&& (7 : Int32))) + (p4 &&& (7 : Int32))) - (((p1 &&& (3 : Int32)) + (p2 &&& (7 : Int32))) + (p3 &&& (7 : Int32))))), .val (.int ((((((p1 &&& (3 : Int32)) + (p2 &&& (7 : Int32))) + (p3 &&& (7 : Int32))) + (p4 &&& (7 : Int32))) + (p5 &&& (7 : Int32))) - ((((p1 &&& (3 : Int32)) + (p2 &&& (7 : Int32))) + (p3 &&& (7 : Int32))) + (p4 &&& (7 : Int32))))), .val (.int (1 : Int32)), .val (.int (1 : Int32))] []))
  refine Gets.of (fun t k => XS.iconst X31.here hx rfl (hb hby at_220) k) ?_
  refine Gets.of (fun t k => XS.goto X31.here hx rfl (pc0 := 221) (pc' := 225) rfl (hb hby at_221) (by decide) (by decide) k) ?_
  show Gets p e below _ (T31.setTop (mkF m 225 #[.val (.int p1), .val (.int p2), .val (.int p3), .val (.int p4), .val (.int p5), .val (.int (p1 &&& (3 : Int32))), .val (.int (p2 &&& (7 : Int32))), .val (.int (p3 &&& (7 : Int32))), .val (.int (p4 &&& (7 : Int32))), .val (.int (p5 &&& (7 : Int32))), .val (.ref b1), .val (.ref b19), .val (.ref b22), .val (.int (((p1 &&& (3 : Int32)) + (p2 &&& (7 : Int32))) - (p1 &&& (3 : Int32)))), .val (.int ((((p1 &&& (3 : Int32)) + (p2 &&& (7 : Int32))) + (p3 &&& (7 : Int32))) - ((p1 &&& (3 : Int32)) + (p2 &&& (7 : Int32))))), .val (.int (((((p1 &&& (3 : Int32)) + (p2 &&& (7 : Int32))) + (p3 &&& (7 : Int32))) + (p4 &&& (7 : Int32))) - (((p1 &&& (3 : Int32)) + (p2 &&& (7 : Int32))) + (p3 &&& (7 : Int32))))), .val (.int ((((((p1 &&& (3 : Int32)) + (p2 &&& (7 : Int32))) + (p3 &&& (7 : Int32))) + (p4 &&& (7 : Int32))) + (p5 &&& (7 : Int32))) - ((((p1 &&& (3 : Int32)) + (p2 &&& (7 : Int32))) + (p3 &&& (7 : Int32))) + (p4 &&& (7 : Int32))))), .val (.int (1 : Int32)), .val (.int (1 : Int32))] [(.int (1 : Int32))]))
  refine Gets.retN X31 hx (t := .boolean) Bd.returns (by simp) (hb hby at_225) ?_ (by decide) (by decide)
  rw [eq31]
  exact ⟨N31, K25, rfl⟩
set_option maxRecDepth 65536 in
set_option maxHeartbeats 40000000 in
theorem comes_1 {Post : Tables → Env → Array Value → State → Outcome → State → Prop} (hpost : ∀ tb e args s v u, (limb_1_1.after args s (.returned v) u = true ∧ limb_1_2.after args s (.returned v) u = true ∧ True) → FrameEnd s (.returned v) u (Jvm.fieldLocs frame_1_writes args s ++ Jvm.arrayLocs frame_1_arrays args s ++ Jvm.staticLocs frame_1_statics s) 16 192 → Post tb e args s (.returned v) u) :
    ArmFor flags0 classFile x code maxLocals ret World_1 tables_1 room_1 Calls_1 rest_1 Pre_1 Post := by
  intro l hfl _ _ p e ha hc hk s m args below hf hA hF happ hP
  obtain ⟨hcalls, hrest, hpre⟩ := hP
  obtain ⟨-, -, -, hnamed, -, -, -, hat⟩ := (Spec.applies_iff hf).mp happ
  obtain ⟨hg, hn⟩ := and_e (Cond.before_iff.mp (show (Jvm.Cond.and given_1 narrow_1).before args s = true from hpre))
  obtain ⟨hcount, hk0⟩ := and_e hg
  obtain ⟨hi0, hk1⟩ := and_e hk0
  obtain ⟨hi1, hk2⟩ := and_e hk1
  obtain ⟨hi2, hk3⟩ := and_e hk2
  obtain ⟨hi3, hk4⟩ := and_e hk3
  have hi4 := hk4
  obtain ⟨w0, w1, w2, w3, w4, rfl⟩ : ∃ w0 w1 w2 w3 w4 : Value, args = #[w0, w1, w2, w3, w4] := by
    have hs : args.size = 5 := by simpa [Cond.value, given_1] using hcount
    obtain ⟨L⟩ := args
    match L, hs with
    | [w0, w1, w2, w3, w4], _ => exact ⟨w0, w1, w2, w3, w4, rfl⟩
  have hw := fun d (hd : d ∈ tables_1) => atoms_spec (ws := Jvm.Cond.code x code maxLocals ret :: tables_1) hat d (List.mem_cons_of_mem _ hd)
  have hfit : Fit s := fun {y c} hc i hi => by
    obtain ⟨ha, rfl⟩ := Array.getElem?_eq_some_iff.mp hc
    have q := List.all_eq_true.mp ((Array.all_eq_true_iff_forall_mem.mp hF) _ (Array.getElem_mem ha)) i (List.mem_range.mpr hi)
    simpa [Array.getElem?_eq_getElem hi] using q
  obtain ⟨i0, ei0⟩ := is_v hi0
  obtain rfl : w0 = (.int i0) := Option.some.inj ei0
  obtain ⟨i1, ei1⟩ := is_v hi1
  obtain rfl : w1 = (.int i1) := Option.some.inj ei1
  obtain ⟨i2, ei2⟩ := is_v hi2
  obtain rfl : w2 = (.int i2) := Option.some.inj ei2
  obtain ⟨i3, ei3⟩ := is_v hi3
  obtain rfl : w3 = (.int i3) := Option.some.inj ei3
  obtain ⟨i4, ei4⟩ := is_v hi4
  obtain rfl : w4 = (.int i4) := Option.some.inj ei4
  obtain ⟨n, o, h1, h2, h3, _, L, rfl, ⟨N, -, hR⟩, hq⟩ := rm_law l s _ hw tables_1 i0 i1 i2 i3 i4 s.heap s.heap.size (Old.start s)  p e ha hc hk s m _ below hf ((Spec.applies_iff_loose hf).mp happ).1 ⟨rfl, State.Warmed39.refl s, rfl⟩ trivial
  obtain rfl := hR
  refine ⟨n, _, h1, h2, h3, hpost _ _ _ _ _ _ ⟨Cond.after_iff.mpr rfl, Cond.after_iff.mpr (eq_i res_at (Term.int_eval (1)) rfl), trivial⟩ ⟨hq.1, hq.2.1, (hq.2.2.sift fun y hy => Or.inr (N y hy)).mono (by decide) (by decide)⟩⟩
theorem main_1_1 : Claimed_1_1 := comes_1 fun _ _ _ _ _ _ h hF => ⟨h.1, hF⟩
theorem main_1_2 : Claimed_1_2 := comes_1 fun _ _ _ _ _ _ h hF => ⟨h.2.1, hF⟩
end Jvm.Pilot.@@N@@
namespace Jvm.Pilot.@@N@@
open Jvm Jvm.ClassFile Sem Op Lib Jvm.Free Jvm.Stand Jvm.Pilot.@@N@@.Jvm.D
/-! MADE BY PROGRAM (witnessworld.py) out of the Statement's table words and the real class files: 9 classes; the members and pool entries that the words name. The judged class is class 1, her method 1. -/
namespace start1
open Jvm.ClassFile
def u (s : String) : CpInfo := .utf8 (stringToUtf16 s)
/-- a pool by its gaps: so many unusable entries, then the entry; so many at the end -/
def gap : Nat → List CpInfo → List CpInfo
  | 0, r => r
  | n + 1, r => .unusable :: gap n r
def poolList (es : List (Nat × CpInfo)) (last : Nat) : List CpInfo := es.foldr (fun e r => gap e.1 (e.2 :: r)) (gap last [])
def pool (es : List (Nat × CpInfo)) (last : Nat) : Array CpInfo := ⟨poolList es last⟩
def fileOf (pool : Array CpInfo) (this : Nat) (attrs : Array Attribute := #[]) (ms : Array MethodInfo := #[]) (fl : Nat := 33) (sup : Nat := 0) (ifs : Array Nat := #[]) (fds : Array FieldInfo := #[]) : ClassFile where
  minorVersion := 0
  majorVersion := 65
  constantPool := pool
  accessFlags := fl
  thisClass := this
  superClass := sup
  interfaces := ifs
  fields := fds
  methods := ms
  attributes := attrs
def plain (name : String) (sup : Option ClassId) : Class where
  name := name
  kind := .ordinary
  loader := none
  accessFlags := 33
  super := sup
  interfaces := #[]
  cf := none
  fields := #[]
  methods := #[]
  instanceTypes := #[]
  staticTypes := #[]
  resolved := #[]
  callSites := []
  init := .initialized
  statics := none
  mirror := none

def pool0 : Array CpInfo := pool [(5, u "<init>"), (0, u "()V"), (1, .class_ 10), (1, u "java/lang/Object")] 113

def k0c0 : Code := { maxStack := 0, maxLocals := 1, code := object_method_1_code, exceptionTable := #[], attributes := #[] }
def k0m0 : Method := { name := "<init>", desc := "()V", sig := { parameters := [], returnType := none }, accessFlags := 1, code := some k0c0 }
/-- java/lang/Object -/
def k0 : Class := { plain "java/lang/Object" none with
  accessFlags := 33
  interfaces := #[]
  cf := some (fileOf pool0 8 #[] #[{ accessFlags := 1, nameIndex := 5, descriptorIndex := 6, attributes := #[] }] 33 0 #[] #[])
  fields := #[]
  methods := #[k0m0]
  instanceTypes := #[]
  staticTypes := #[]
  resolved := Array.replicate 124 none
  statics := none }

def pool1 : Array CpInfo := pool [(2, .class_ 4), (1, u "java/lang/Object"), (0, u "<init>"), (0, u "()V"), (0, .class_ 8), (0, u "com/example/unea/unea/analysis/SparsePattern"), (0, .methodref 7 10), (0, .nameAndType 5 11), (0, u "([I[I)V"), (0, .methodref 7 13), (0, .nameAndType 14 15), (0, u "degree"), (0, u "(I)I"), (0, .class_ 17), (0, u "com/example/unea/unea/analysis/SparsePatternDegreePinLaw"), (2, u "law"), (0, u "(IIIII)Z")] 5

def k1m0 : Method := { name := "<init>", desc := "()V", sig := { parameters := [], returnType := none }, accessFlags := 1, code := none }
def k1c1 : Code := { maxStack := 4, maxLocals := 19, code := code, exceptionTable := #[], attributes := #[] }
def k1m1 : Method := { name := "law", desc := "(IIIII)Z", sig := { parameters := [.int, .int, .int, .int, .int], returnType := some .boolean }, accessFlags := 9, code := some k1c1 }
/-- com/example/unea/unea/analysis/SparsePatternDegreePinLaw -/
def k1 : Class := { plain "com/example/unea/unea/analysis/SparsePatternDegreePinLaw" (some 0) with
  accessFlags := 49
  interfaces := #[]
  cf := some (fileOf pool1 16 #[] #[{ accessFlags := 1, nameIndex := 5, descriptorIndex := 6, attributes := #[] }, { accessFlags := 9, nameIndex := 20, descriptorIndex := 21, attributes := #[] }] 49 2 #[] #[])
  fields := #[]
  methods := #[k1m0, k1m1]
  instanceTypes := #[]
  staticTypes := #[]
  resolved := Array.replicate 27 none
  statics := none }

def pool2 : Array CpInfo := pool [(1, .methodref 2 3), (0, .class_ 4), (0, .nameAndType 5 6), (0, u "java/lang/Object"), (0, u "<init>"), (0, u "()V"), (0, .fieldref 8 9), (0, .class_ 10), (0, .nameAndType 11 12), (0, u "com/example/unea/unea/analysis/SparsePattern"), (0, u "start"), (0, u "[I"), (0, .fieldref 8 14), (0, .nameAndType 15 12), (0, u "neighbour"), (0, u "([I[I)V"), (4, u "degree"), (0, u "(I)I")] 2

def k2c0 : Code := { maxStack := 2, maxLocals := 3, code := prog_14_method_1_code, exceptionTable := #[], attributes := #[] }
def k2m0 : Method := { name := "<init>", desc := "([I[I)V", sig := { parameters := [(.array .int), (.array .int)], returnType := none }, accessFlags := 0, code := some k2c0 }
def k2c1 : Code := { maxStack := 3, maxLocals := 2, code := prog_14_method_3_code, exceptionTable := #[], attributes := #[] }
def k2m1 : Method := { name := "degree", desc := "(I)I", sig := { parameters := [.int], returnType := some .int }, accessFlags := 0, code := some k2c1 }
/-- com/example/unea/unea/analysis/SparsePattern -/
def k2 : Class := { plain "com/example/unea/unea/analysis/SparsePattern" (some 0) with
  accessFlags := 48
  interfaces := #[]
  cf := some (fileOf pool2 8 #[] #[{ accessFlags := 0, nameIndex := 5, descriptorIndex := 16, attributes := #[] }, { accessFlags := 0, nameIndex := 21, descriptorIndex := 22, attributes := #[] }] 48 2 #[] #[{ accessFlags := 16, nameIndex := 11, descriptorIndex := 12, attributes := #[] }, { accessFlags := 16, nameIndex := 15, descriptorIndex := 12, attributes := #[] }])
  fields := #[{ name := "start", type := (.array .int), accessFlags := 16, slot := 0, constantValue := 0 }, { name := "neighbour", type := (.array .int), accessFlags := 16, slot := 1, constantValue := 0 }]
  methods := #[k2m0, k2m1]
  instanceTypes := #[(.array .int), (.array .int)]
  staticTypes := #[]
  resolved := Array.replicate 25 none
  statics := none }

def pool3 : Array CpInfo := pool [(1, u "java/lang/Cloneable"), (0, .class_ 1), (0, u "java/lang/Object"), (0, .class_ 3)] 3

/-- java/lang/Cloneable -/
def k3 : Class := { plain "java/lang/Cloneable" (some 0) with
  accessFlags := 1537
  interfaces := #[]
  cf := some (fileOf pool3 2 #[] #[] 1537 4 #[] #[])
  fields := #[]
  methods := #[]
  instanceTypes := #[]
  staticTypes := #[]
  resolved := Array.replicate 8 none
  statics := none }

def pool4 : Array CpInfo := pool [(1, u "java/io/Serializable"), (0, .class_ 1), (0, u "java/lang/Object"), (0, .class_ 3)] 3

/-- java/io/Serializable -/
def k4 : Class := { plain "java/io/Serializable" (some 0) with
  accessFlags := 1537
  interfaces := #[]
  cf := some (fileOf pool4 2 #[] #[] 1537 4 #[] #[])
  fields := #[]
  methods := #[]
  instanceTypes := #[]
  staticTypes := #[]
  resolved := Array.replicate 8 none
  statics := none }

/-- the primitive byte -/
def k5 : Class := { plain "byte" none with kind := .primitive 'B', accessFlags := 0x411 }
/-- [B -/
def k6 : Class := { plain "[B" (some 0) with kind := .array 5 .byte, interfaces := #[3, 4], accessFlags := 1041 }

/-- the primitive int -/
def k7 : Class := { plain "int" none with kind := .primitive 'I', accessFlags := 0x411 }
/-- [I -/
def k8 : Class := { plain "[I" (some 0) with kind := .array 7 .int, interfaces := #[3, 4], accessFlags := 1041 }

def heap : Heap := #[]
def classes : Array Class := #[k0, k1, k2, k3, k4, k5, k6, k7, k8]
def interned : List (Array UInt16 × Addr) := []
def slotsUsed : Nat := 0
def theMethod : MethodId := ⟨1, 1⟩
def args0 : Array Value := #[.int 5, .int 5, .int 5, .int 5, .int 5]
def aboutOver (below : List Frame) : State where
  vm := { classes := classes, interned := interned.toArray }
  heap := heap
  slotsUsed := slotsUsed
  threads := #[{ frames := .invoking theMethod args0 :: below }]
def below0 : List Frame := [.native { method := ⟨0, 0⟩, args := #[] }]
def about1 : State := aboutOver below0
def p0 : Program := .bare "" "" ""
def e0 : Env := launch0.env 0 0 0
theorem w_frames : about1.frames = Frame.invoking theMethod args0 :: below0 := rfl
set_option maxRecDepth 65536 in
theorem w_args : argsFit about1.vm theMethod args0 = true := by decide +kernel
set_option maxRecDepth 65536 in
theorem w_heap : heapFits about1 = true := by decide +kernel
set_option maxRecDepth 65536 in
theorem w_runnable : about1.curStatus? = some .runnable := by decide +kernel
set_option maxRecDepth 65536 in
theorem w_alone : about1.alone = true := by decide +kernel
set_option maxRecDepth 65536 in
theorem w_named : about1.methodNamed? x = some theMethod := by decide +kernel
set_option maxRecDepth 65536 in
theorem w_hears : about1.hears theMethod below0 = true := by decide +kernel
set_option maxRecDepth 65536 in
theorem w_ripe : about1.ripe theMethod args0 below0 = true := by decide +kernel
theorem w_running : about1.status = .running := rfl
set_option maxRecDepth 65536 in
theorem w_room : about1.hasRoom e0.platform room_1 = true :=
  launch0.hasRoom_least _ room_1 (by decide +kernel) (by decide +kernel) (by decide +kernel) (by decide +kernel) (by decide +kernel) (by decide +kernel)
theorem allAtoms_all (ts : List Jvm.Cond) (a : Array Jvm.Value) (st : Jvm.State) : (allAtoms ts).before a st = ts.all (fun c => c.before a st) := by
  induction ts with
  | nil => rfl
  | cons c t ih =>
    show (Jvm.Cond.and c (allAtoms t)).before a st = _
    rw [Jvm.Cond.before_and, ih, List.all_cons]
def words1 : List Jvm.Cond := Jvm.Cond.code x code maxLocals ret :: tables_1
/-- a 'code' word, met by the world's own term for the bytes: nothing is compared byte by byte -/
theorem code_word {y : MethodName} {bytes : ByteArray} {mx : Nat} {rt : Option FieldType} {a : Array Value} {s : State} {m : MethodId} {meth : Method} {c : Code} (h1 : s.methodNamed? y = some m) (h2 : s.vm.method? m = some meth) (h3 : meth.code = some c) (h4 : c.code = bytes)
    (h5 : (c.maxLocals == mx && c.exceptionTable.isEmpty && decide (c.maxStack ≤ mostOperands) && decide (meth.sig.returnType = rt) && !meth.locks && decide (parseMethodDescriptor y.desc = some meth.sig)) = true) : (Jvm.Cond.code y bytes mx rt).before a s = true := by
  simp only [Bool.and_eq_true, beq_iff_eq, Bool.not_eq_true', decide_eq_true_eq] at h5
  obtain ⟨⟨⟨⟨⟨g1, g2⟩, g3⟩, g4⟩, g5⟩, g6⟩ := h5
  simp [Cond.before, Cond.holds, Cond.value, h1, h2, h3, h4, g1, g2, g3, g4, g5, g6]
def isCode : Jvm.Cond → Bool
  | .code _ _ _ _ => true
  | _ => false
theorem all_split {L : List Jvm.Cond} {P : Jvm.Cond → Bool} (h1 : L.all (fun c => isCode c || P c) = true) (h2 : ∀ c ∈ L.filter isCode, P c = true) : L.all P = true := by
  refine List.all_eq_true.mpr fun c hc => ?_
  have h := List.all_eq_true.mp h1 c hc
  rcases Bool.eq_false_or_eq_true (isCode c) with hi | hi
  · exact h2 c (List.mem_filter.mpr ⟨hc, hi⟩)
  · simpa [hi] using h
set_option maxRecDepth 65536 in
theorem w_c0 : (Jvm.Cond.code x code maxLocals ret).before args0 about1 = true := code_word (m := ⟨1, 1⟩) (meth := k1m1) (c := k1c1) (by decide +kernel) rfl rfl rfl (by decide +kernel)
set_option maxRecDepth 65536 in
theorem w_c1 : (Jvm.Cond.code ({ cls := "com/example/unea/unea/analysis/SparsePattern", name := "<init>", desc := "([I[I)V" } : Jvm.MethodName) prog_14_method_1_code (3 : Nat) (Option.none : Option Jvm.ClassFile.FieldType)).before args0 about1 = true := code_word (m := ⟨2, 0⟩) (meth := k2m0) (c := k2c0) (by decide +kernel) rfl rfl rfl (by decide +kernel)
set_option maxRecDepth 65536 in
theorem w_c2 : (Jvm.Cond.code ({ cls := "java/lang/Object", name := "<init>", desc := "()V" } : Jvm.MethodName) object_method_1_code (1 : Nat) (Option.none : Option Jvm.ClassFile.FieldType)).before args0 about1 = true := code_word (m := ⟨0, 0⟩) (meth := k0m0) (c := k0c0) (by decide +kernel) rfl rfl rfl (by decide +kernel)
set_option maxRecDepth 65536 in
theorem w_c3 : (Jvm.Cond.code ({ cls := "com/example/unea/unea/analysis/SparsePattern", name := "degree", desc := "(I)I" } : Jvm.MethodName) prog_14_method_3_code (2 : Nat) (Option.some Jvm.ClassFile.FieldType.int)).before args0 about1 = true := code_word (m := ⟨2, 1⟩) (meth := k2m1) (c := k2c1) (by decide +kernel) rfl rfl rfl (by decide +kernel)
def codes1 : List Jvm.Cond := [Jvm.Cond.code x code maxLocals ret, Jvm.Cond.code ({ cls := "com/example/unea/unea/analysis/SparsePattern", name := "<init>", desc := "([I[I)V" } : Jvm.MethodName) prog_14_method_1_code (3 : Nat) (Option.none : Option Jvm.ClassFile.FieldType), Jvm.Cond.code ({ cls := "java/lang/Object", name := "<init>", desc := "()V" } : Jvm.MethodName) object_method_1_code (1 : Nat) (Option.none : Option Jvm.ClassFile.FieldType), Jvm.Cond.code ({ cls := "com/example/unea/unea/analysis/SparsePattern", name := "degree", desc := "(I)I" } : Jvm.MethodName) prog_14_method_3_code (2 : Nat) (Option.some Jvm.ClassFile.FieldType.int)]
set_option maxRecDepth 65536 in
theorem codes_eq : words1.filter isCode = codes1 := rfl
theorem w_codes : ∀ c ∈ words1.filter isCode, c.before args0 about1 = true := by
  rw [codes_eq]
  intro c hc
  simp only [codes1, List.mem_cons, List.not_mem_nil, or_false] at hc
  rcases hc with rfl | rfl | rfl | rfl
  · exact w_c0
  · exact w_c1
  · exact w_c2
  · exact w_c3
set_option maxRecDepth 65536 in
theorem w_t1 : words1.all (fun c => isCode c || c.before args0 about1) = true := by decide +kernel
theorem w_tables : (allAtoms (Jvm.Cond.code x code maxLocals ret :: tables_1)).before args0 about1 = true := by
  rw [allAtoms_all]
  show words1.all (fun c => c.before args0 about1) = true
  refine all_split ?_ w_codes
  rw [w_t1]
set_option maxRecDepth 65536 in
theorem w_case : (Jvm.Cond.and given_1 narrow_1).before args0 about1 = true := by decide +kernel
theorem w_applies : (headSpec (Jvm.Cond.code x code maxLocals ret :: tables_1) room_1).applies x e0.platform about1 = true :=
  (Spec.applies_iff w_frames).mpr ⟨w_running, w_runnable, w_alone, w_named, w_hears, w_ripe, w_room, w_tables⟩
theorem atStart : AtStart classFile x code maxLocals ret World_1 tables_1 room_1 Calls_1 rest_1 Pre_1 launch0 p0 e0 about1 theMethod args0 below0 :=
  ⟨lists_1, trivial, launch0.admits_env _ _ _, launch0.least_env, fairChoices_fair.cas, fairChoices_fair.clock, w_frames, w_args, w_heap, w_applies, trivial, trivial, w_case⟩
end start1
theorem witness_1 : WitnessClaimed_1 := ⟨start1.p0, start1.e0, start1.about1, start1.theMethod, start1.args0, start1.below0, start1.atStart⟩
end Jvm.Pilot.@@N@@
