import JvmDerived
import JvmDerived.Pilot.@@N@@Statement
import JvmDerived.Pilot.@@N@@Code
set_option linter.unusedVariables false
set_option linter.unusedSimpArgs false
namespace Jvm.RoadKit
open Sem ClassFile Op Lib Jvm.Stand Jvm.Free Jvm.LawKit
section Own
variable {p : Program} {l : Launch} {e : Env} {R : Room} {s : State} {m : MethodId} {args : Array Value} {below : List Frame} {meth : Method} {c : Code} {T : State} {locs : List Loc} {cells slots : Nat}
/-- from U the run comes to a state of which G holds -/
def Gets (p : Program) (e : Env) (below : List Frame) (G : State → Prop) (U : State) : Prop := ∃ t, Steps p.tables e below U t ∧ G t
theorem Gets.of {G : State → Prop} {U U' : State} (k : ∀ t, Steps p.tables e below U' t → Steps p.tables e below U t) (h : Gets p e below G U') : Gets p e below G U := by
  obtain ⟨t, a, b⟩ := h; exact ⟨t, k t a, b⟩
theorem Gets.tr {G : State → Prop} {U U' : State} (k : Steps p.tables e below U U') (h : Gets p e below G U') : Gets p e below G U := by
  obtain ⟨t, a, b⟩ := h; exact ⟨t, k.trans a, b⟩
/-- what is owed at the end of a body -/
def Out (Q : Option Value → Heap → List Loc → Prop) (s : State) (below : List Frame) (C S : Nat) (t : State) : Prop := ∃ o, t.status = .running ∧ Ended t below o ∧ ∃ v L, o = .returned v ∧ Q v t.heap L ∧ FrameEnd s o t L C S
theorem Gets.out {Q : Option Value → Heap → List Loc → Prop} {C S : Nat} {U : State} (h : Gets p e below (Out Q s below C S) U) : ∃ s₂ o, Steps p.tables e below U s₂ ∧ s₂.status = .running ∧ Ended s₂ below o ∧ ∃ v L, o = .returned v ∧ Q v s₂.heap L ∧ FrameEnd s o s₂ L C S := by
  obtain ⟨t, a, o, b⟩ := h; exact ⟨t, o, a, b⟩
theorem Gets.fin {Q : Option Value → Heap → List Loc → Prop} {C S : Nat} {U : State} (X : Stand p l e R s m args below meth c T locs cells slots) {v : Option Value} (hv : meth.sig.returnType = none → v = none) (hlk : meth.locks = false)
    (k : ∀ fs, (∀ (f : JFrame) (acts : List Action), f.method = m → f.locked = none → f.entered = [] → (doReturn e (T.setTop f) acts v).1 = T.setFrames fs) → Steps p.tables e below U (T.setFrames fs)) (hQ : Q v T.heap locs) (h1 : cells ≤ C) (h2 : slots ≤ S) : Gets p e below (Out Q s below C S) U := by
  obtain ⟨fs, hr, hrun, hended, hW, hsame⟩ := X.leave (v := v) hv hlk
  exact ⟨_, k fs hr, _, hrun, hended, _, _, rfl, hQ, ⟨_, rfl⟩, hW, hsame.mono h1 h2⟩
theorem retI0 (X : Stand p l e R s m args below meth c T locs cells slots) (hx : p.tables.exec = Jvm.exec) {pc : Nat} {Ls : Array Slot} {z : Int32} {rest : List Value} (hret : meth.sig.returnType = some .int) (hd : decode c.code pc = .ok (.ireturn, 1)) {fs : List Frame}
    (hl : ∀ (f : JFrame) (acts : List Action), f.method = m → f.locked = none → f.entered = [] → (doReturn e (T.setTop f) acts (some (.int z))).1 = T.setFrames fs) : Steps p.tables e below (T.setTop (mkF m pc Ls (.int z :: rest))) (T.setFrames fs) :=
  retOut X hx hret rfl (Or.inl ⟨rfl, Or.inl rfl, z, rfl⟩) hd hl
theorem Gets.retI {Q : Option Value → Heap → List Loc → Prop} {C S : Nat} (X : Stand p l e R s m args below meth c T locs cells slots) (hx : p.tables.exec = Jvm.exec) {pc : Nat} {Ls : Array Slot} {z : Int32} {rest : List Value} (hret : meth.sig.returnType = some .int) (hd : decode c.code pc = .ok (.ireturn, 1))
    (hQ : Q (some (.int z)) T.heap locs) (h1 : cells ≤ C) (h2 : slots ≤ S) (hlk : meth.locks = false := by assumption) : Gets p e below (Out Q s below C S) (T.setTop (mkF m pc Ls (.int z :: rest))) :=
  Gets.fin X (fun h => by rw [hret] at h; cases h) hlk (fun fs hr => retI0 X hx hret hd hr) hQ h1 h2
theorem Gets.retN {Q : Option Value → Heap → List Loc → Prop} {C S : Nat} (X : Stand p l e R s m args below meth c T locs cells slots) (hx : p.tables.exec = Jvm.exec) {pc : Nat} {Ls : Array Slot} {z : Int32} {t : FieldType} {rest : List Value} (hret : meth.sig.returnType = some t) (ht : t = .boolean ∨ t = .byte ∨ t = .char ∨ t = .short) (hd : decode c.code pc = .ok (.ireturn, 1))
    (hQ : Q (some (.int (nar t z))) T.heap locs) (h1 : cells ≤ C) (h2 : slots ≤ S) (hlk : meth.locks = false := by assumption) : Gets p e below (Out Q s below C S) (T.setTop (mkF m pc Ls (.int z :: rest))) :=
  Gets.fin X (fun h => by rw [hret] at h; cases h) hlk (fun fs hr => Jvm.RoadKit.retN X hx hret ht hd hr) hQ h1 h2
theorem Gets.retJ {Q : Option Value → Heap → List Loc → Prop} {C S : Nat} (X : Stand p l e R s m args below meth c T locs cells slots) (hx : p.tables.exec = Jvm.exec) {pc : Nat} {Ls : Array Slot} {z : Int64} {rest : List Value} (hret : meth.sig.returnType = some .long) (hd : decode c.code pc = .ok (.lreturn, 1))
    (hQ : Q (some (.long z)) T.heap locs) (h1 : cells ≤ C) (h2 : slots ≤ S) (hlk : meth.locks = false := by assumption) : Gets p e below (Out Q s below C S) (T.setTop (mkF m pc Ls (.long z :: rest))) :=
  Gets.fin X (fun h => by rw [hret] at h; cases h) hlk (fun fs hr => retOut X hx hret rfl (Or.inr (Or.inl ⟨rfl, rfl, z, rfl⟩)) hd hr) hQ h1 h2
theorem Gets.retA {Q : Option Value → Heap → List Loc → Prop} {C S : Nat} (X : Stand p l e R s m args below meth c T locs cells slots) (hx : p.tables.exec = Jvm.exec) {pc : Nat} {Ls : Array Slot} {w : Value} {t : FieldType} {rest : List Value} (hret : meth.sig.returnType = some t) (ht : t.isReference = true) (hw : w.isRef = true) (hd : decode c.code pc = .ok (.areturn, 1))
    (hQ : Q (some w) T.heap locs) (h1 : cells ≤ C) (h2 : slots ≤ S) (hlk : meth.locks = false := by assumption) : Gets p e below (Out Q s below C S) (T.setTop (mkF m pc Ls (w :: rest))) :=
  Gets.fin X (fun h => by rw [hret] at h; cases h) hlk (fun fs hr => retOut X hx hret (by cases t <;> first | (cases ht; done) | (cases w <;> first | rfl | (cases hw))) (Or.inr (Or.inr (Or.inr (Or.inr ⟨rfl, ht, hw⟩)))) hd hr) hQ h1 h2
theorem Gets.retV {Q : Option Value → Heap → List Loc → Prop} {C S : Nat} (X : Stand p l e R s m args below meth c T locs cells slots) (hx : p.tables.exec = Jvm.exec) {pc : Nat} {Ls : Array Slot} (hret : meth.sig.returnType = none) (hd : decode c.code pc = .ok (.return_, 1))
    (hQ : Q none T.heap locs) (h1 : cells ≤ C) (h2 : slots ≤ S) (hlk : meth.locks = false := by assumption) : Gets p e below (Out Q s below C S) (T.setTop (mkF m pc Ls [])) :=
  Gets.fin X (fun _ => rfl) hlk (fun fs hr => X.returnOut hx hret hd hr) hQ h1 h2
/-- what is owed at the end of a body that may load String constants -/
def OutW (Q : Option Value → Heap → List Loc → Prop) (s : State) (below : List Frame) (C S : Nat) (t : State) : Prop := ∃ o, t.status = .running ∧ Ended t below o ∧ ∃ v L, o = .returned v ∧ Q v t.heap L ∧ ReturnedEndW s o t L C S
theorem GetsW.out {Q : Option Value → Heap → List Loc → Prop} {C S : Nat} {U : State} (h : Gets p e below (OutW Q s below C S) U) : ∃ s₂ o, Steps p.tables e below U s₂ ∧ s₂.status = .running ∧ Ended s₂ below o ∧ ∃ v L, o = .returned v ∧ Q v s₂.heap L ∧ ReturnedEndW s o s₂ L C S := by
  obtain ⟨t, a, o, b⟩ := h; exact ⟨t, o, a, b⟩
theorem GetsW.fin {Q : Option Value → Heap → List Loc → Prop} {C S : Nat} {U : State} {vm₁ : Vm} (X : Stand p l e R (s.setVm vm₁) m args below meth c T locs cells slots) {n : Nat} (hS : s.Since vm₁ n) (hn : n ≤ T.heap.size) {v : Option Value} (hv : meth.sig.returnType = none → v = none) (hlk : meth.locks = false)
    (k : ∀ fs, (∀ (f : JFrame) (acts : List Action), f.method = m → f.locked = none → f.entered = [] → (doReturn e (T.setTop f) acts v).1 = T.setFrames fs) → Steps p.tables e below U (T.setFrames fs)) (hQ : Q v T.heap locs) (h1 : cells ≤ C) (h2 : slots ≤ S) : Gets p e below (OutW Q s below C S) U := by
  obtain ⟨fs, hr, hrun, hended, w1, w2, w3, w4⟩ := X.leaveW hS hn (v := v) hv hlk
  exact ⟨_, k fs hr, _, hrun, hended, _, _, rfl, hQ, w1, w2, w3, w4.mono h1 h2⟩
theorem GetsW.retN {Q : Option Value → Heap → List Loc → Prop} {C S : Nat} {vm₁ : Vm} (X : Stand p l e R (s.setVm vm₁) m args below meth c T locs cells slots) (hx : p.tables.exec = Jvm.exec) {pc : Nat} {Ls : Array Slot} {z : Int32} {t : FieldType} {rest : List Value} (hret : meth.sig.returnType = some t) (ht : t = .boolean ∨ t = .byte ∨ t = .char ∨ t = .short) (hd : decode c.code pc = .ok (.ireturn, 1)) {n : Nat} (hS : s.Since vm₁ n) (hn : n ≤ T.heap.size)
    (hQ : Q (some (.int (nar t z))) T.heap locs) (h1 : cells ≤ C) (h2 : slots ≤ S) (hlk : meth.locks = false := by assumption) : Gets p e below (OutW Q s below C S) (T.setTop (mkF m pc Ls (.int z :: rest))) :=
  GetsW.fin X hS hn (fun h => by rw [hret] at h; cases h) hlk (fun fs hr => Jvm.RoadKit.retN X hx hret ht hd hr) hQ h1 h2
theorem GetsW.retI {Q : Option Value → Heap → List Loc → Prop} {C S : Nat} {vm₁ : Vm} (X : Stand p l e R (s.setVm vm₁) m args below meth c T locs cells slots) (hx : p.tables.exec = Jvm.exec) {pc : Nat} {Ls : Array Slot} {z : Int32} {rest : List Value} (hret : meth.sig.returnType = some .int) (hd : decode c.code pc = .ok (.ireturn, 1)) {n : Nat} (hS : s.Since vm₁ n) (hn : n ≤ T.heap.size)
    (hQ : Q (some (.int z)) T.heap locs) (h1 : cells ≤ C) (h2 : slots ≤ S) (hlk : meth.locks = false := by assumption) : Gets p e below (OutW Q s below C S) (T.setTop (mkF m pc Ls (.int z :: rest))) :=
  GetsW.fin X hS hn (fun h => by rw [hret] at h; cases h) hlk (fun fs hr => retI0 X hx hret hd hr) hQ h1 h2
theorem GetsW.retA {Q : Option Value → Heap → List Loc → Prop} {C S : Nat} {vm₁ : Vm} (X : Stand p l e R (s.setVm vm₁) m args below meth c T locs cells slots) (hx : p.tables.exec = Jvm.exec) {pc : Nat} {Ls : Array Slot} {w : Value} {t : FieldType} {rest : List Value} (hret : meth.sig.returnType = some t) (ht : t.isReference = true) (hw : w.isRef = true) (hd : decode c.code pc = .ok (.areturn, 1)) {n : Nat} (hS : s.Since vm₁ n) (hn : n ≤ T.heap.size)
    (hQ : Q (some w) T.heap locs) (h1 : cells ≤ C) (h2 : slots ≤ S) (hlk : meth.locks = false := by assumption) : Gets p e below (OutW Q s below C S) (T.setTop (mkF m pc Ls (w :: rest))) :=
  GetsW.fin X hS hn (fun h => by rw [hret] at h; cases h) hlk (fun fs hr => retOut X hx hret (by cases t <;> first | (cases ht; done) | (cases w <;> first | rfl | (cases hw))) (Or.inr (Or.inr (Or.inr (Or.inr ⟨rfl, ht, hw⟩)))) hd hr) hQ h1 h2
theorem GetsW.retV {Q : Option Value → Heap → List Loc → Prop} {C S : Nat} {vm₁ : Vm} (X : Stand p l e R (s.setVm vm₁) m args below meth c T locs cells slots) (hx : p.tables.exec = Jvm.exec) {pc : Nat} {Ls : Array Slot} (hret : meth.sig.returnType = none) (hd : decode c.code pc = .ok (.return_, 1)) {n : Nat} (hS : s.Since vm₁ n) (hn : n ≤ T.heap.size)
    (hQ : Q none T.heap locs) (h1 : cells ≤ C) (h2 : slots ≤ S) (hlk : meth.locks = false := by assumption) : Gets p e below (OutW Q s below C S) (T.setTop (mkF m pc Ls [])) :=
  GetsW.fin X hS hn (fun _ => rfl) hlk (fun fs hr => X.returnOut hx hret hd hr) hQ h1 h2
/-- the payer of a callee that may load String constants, the constants' invariant handed over at its start -/
theorem own_backC {Z : State} {a0 : Array Value} {EL : List (String × Nat)} {h : Heap} {vm0 : Vm} {y : MethodName} {bytes : ByteArray} {maxL : Nat} {ret : Option FieldType} {rm : Room} {len W : Nat} {as' : Array Value} {Q : Option Value → Heap → List Loc → Prop}
    (hM : MetFree l y (head1 [Cond.code y bytes maxL ret] rm) (fun a U => a = as' ∧ Z.Warmed39 U.vm ∧ U.heap = h ∧ CHv Z EL U.vm h) (fun _ _ _ _ _ => True) (fun _ U o U' => ∃ v L, o = .returned v ∧ Q v U'.heap L ∧ ReturnedEndW U o U' L rm.cells rm.slots))
    (hZ : Z.Warmed39 vm0) (wc : (Cond.code y bytes maxL ret).before a0 Z = true) (wz : (Cond.initialized y.cls).before a0 Z = true) (hf : rm.frames + 1 ≤ R.frames) (hl : W + (maxL + 11) + rm.locals ≤ R.locals) (hEL : EW Z a0 EL) (H : CHv Z EL vm0 h) :
    BackS l R p e below (s.setVm vm0) args y len W (fun A a => a = as' ∧ A.U.heap = h ∧ A.cells + rm.cells ≤ R.cells ∧ A.slots + rm.slots ≤ R.slots)
      (fun A _ v B => ∃ L, Q v B.U.heap L ∧ B.locs = A.locs ++ L ∧ B.cells = A.cells + rm.cells ∧ B.slots = A.slots + rm.slots) := by
  refine BackS.of_freeW (bytes := bytes) (maxL := maxL) (ret := ret) (E := fun _ _ o t L k n => k = rm.cells ∧ n = rm.slots ∧ ∃ v, o = .returned v ∧ Q v t.heap L) hM hf hl ?_ ?_ (fun _ _ _ _ _ _ _ _ _ => trivial) ?_ ?_
  · intro m meth c A a Y hp
    have hU : Z.Warmed39 A.U.vm := wtrans (s := s.setVm vm0) hZ Y.warmed
    exact ⟨by show (Cond.and _ .tt).before a A.U = true; rw [Cond.before_and, mv hU wc]; rfl, mv hU wc, mv hU wz, hp.2.2.1, hp.2.2.2⟩
  · intro m meth c A a g mk Y hp
    exact ⟨hp.1, wtrans (s := s.setVm vm0) hZ Y.warmed, hp.2.1, (CHv.at Y hZ hEL H).1⟩
  · rintro _ _ _ _ ⟨v, L, h1, h2, h3⟩
    exact ⟨L, _, _, h3, rfl, rfl, v, h1, h2⟩
  · rintro m meth c A a g mk v t L k n Y hp _ _ ⟨e1, e2, v', e3, e4⟩
    cases e3; subst e1 e2
    exact ⟨L, e4, rfl, rfl, rfl⟩
theorem own_mir {Z : State} {C : String} {mr : Addr} (hZ : Z.Warmed39 s.vm) (M : Mir Z C mr) : (Term.mirror C).eval args s none [] s = some (.ref mr) := by
  obtain ⟨c, k, h1, h2, h3, -⟩ := M
  obtain ⟨k', q, ek⟩ := hZ.alike.2.2 _ _ h2
  have h4 : s.vm.findClass C = some c := by rw [hZ.alike.findClass]; exact h1
  have h5 : k'.mirror = some mr := by rw [ek]; exact h3
  simp [Term.eval, h4, q, h5]
theorem own_catR {w : Value} (hw : w.isRef = true) : w.category = 1 := by
  cases w <;> first | rfl | cases hw
theorem own_narrow_ref {ty : FieldType} {w : Value} (hw : w.isRef = true) : narrow ty w = w := by
  rcases ref_cases hw with rfl | ⟨a, rfl⟩ <;> cases ty <;> rfl
theorem own_fits_obj {C : String} {w : Value} (hw : w.isRef = true) : fits (.object C) w = true := by
  rcases ref_cases hw with rfl | ⟨a, rfl⟩ <;> rfl
theorem own_fits_arr {t : FieldType} {w : Value} (hw : w.isRef = true) : fits (.array t) w = true := by
  rcases ref_cases hw with rfl | ⟨a, rfl⟩ <;> rfl
theorem own_NS_root {Z : State} {a0 : Array Value} {O K : String} {n : Nat} (w : (Cond.noSuperclass O).before a0 Z = true) (wk : (Cond.instantiable K n).before a0 Z = true) (hn : O ≠ K) : NS Z O K := by
  obtain ⟨c, k, h1, h2, h3, -, -⟩ := Cond.noSuperclass_spec w
  obtain ⟨t, kt, g1, -⟩ := Cond.instantiable_spec wk
  have ne := ids_ne h1 g1 hn
  refine ⟨c, t, h1, g1, fun fuel => ?_⟩
  cases fuel with
  | zero => rfl
  | succ f => simp [Vm.isSubclassAux, ne, h2, h3]
theorem own_NS_no {Z : State} {a0 : Array Value} {C S K : String} {n : Nat} (w : (Cond.superclass C S).before a0 Z = true) (wk : (Cond.instantiable K n).before a0 Z = true) (nn : NS Z C K) (hn : C ≠ K) : ∃ c t, Z.vm.findClass C = some c ∧ Z.vm.findClass K = some t ∧ Z.vm.assignable c t = false := by
  obtain ⟨c, t, h0, g0, n3⟩ := nn
  obtain ⟨p, k, kp, h1, h2, h3, h4, h5, -, h7⟩ := Cond.superclass_spec h0 w
  obtain ⟨t', kt, g1, g2, g3, g4, -⟩ := Cond.instantiable_spec wk
  cases g0.symm.trans g1
  have ne := ids_ne h0 g0 hn
  have g5 : kt.isInterface = false := by cases hq : kt.isInterface <;> simp_all
  refine ⟨c, t, h0, g0, ?_⟩
  show Z.vm.assignableAux (255 + 1) c t = false
  simp [Vm.assignableAux, ne, h2, g2, h5, g3, g5, Vm.isSubclass, n3]
end Own
end Jvm.RoadKit
namespace Jvm.Pilot.@@N@@
open Jvm Jvm.ClassFile Sem Op Lib Jvm.Free Jvm.Stand Jvm.LawKit Jvm.RoadKit Bundle Jvm.Pilot.@@N@@.Jvm.D
abbrev cn0 : String := "com/example/unea/unea/analysis/Supernodes"
abbrev cn1 : String := "com/example/unea/unea/analysis/SparsePattern"
abbrev cn2 : String := "java/util/Arrays"
abbrev cn3 : String := "com/example/unea/unea/analysis/SupernodesSinglePinLaw"
abbrev cn4 : String := "java/util/DualPivotQuicksort"
abbrev cn5 : String := "(Lcom/example/unea/unea/analysis/SparsePattern;[I)Lcom/example/unea/unea/analysis/Supernodes;"
abbrev cn6 : String := "(Lcom/example/unea/unea/analysis/SparsePattern;[I[I[I)Lcom/example/unea/unea/analysis/Supernodes;"

theorem w0 {Z : State} {a0 : Array Value} (hw : ∀ d ∈ tables_1, d.before a0 Z = true) : (Jvm.Cond.classLink cn3 (7 : Nat) cn1).before a0 Z = true := hw _ (List.mem_of_getElem? (i := 0) rfl)
theorem w1 {Z : State} {a0 : Array Value} (hw : ∀ d ∈ tables_1, d.before a0 Z = true) : (Jvm.Cond.instantiable cn1 (2 : Nat)).before a0 Z = true := hw _ (List.mem_of_getElem? (i := 1) rfl)
theorem w2 {Z : State} {a0 : Array Value} (hw : ∀ d ∈ tables_1, d.before a0 Z = true) : (Jvm.Cond.initialized cn1).before a0 Z = true := hw _ (List.mem_of_getElem? (i := 2) rfl)
theorem w11 {Z : State} {a0 : Array Value} (hw : ∀ d ∈ tables_1, d.before a0 Z = true) : (Jvm.Cond.laysFinal cn1 cn1 "start" "[I").before a0 Z = true := hw _ (List.mem_of_getElem? (i := 11) rfl)
theorem w13 {Z : State} {a0 : Array Value} (hw : ∀ d ∈ tables_1, d.before a0 Z = true) : (Jvm.Cond.laysFinal cn1 cn1 "neighbour" "[I").before a0 Z = true := hw _ (List.mem_of_getElem? (i := 13) rfl)
theorem w3 {Z : State} {a0 : Array Value} (hw : ∀ d ∈ tables_1, d.before a0 Z = true) : (Jvm.Cond.arrayClass Jvm.ClassFile.FieldType.int).before a0 Z = true := hw _ (List.mem_of_getElem? (i := 3) rfl)
theorem w4 {Z : State} {a0 : Array Value} (hw : ∀ d ∈ tables_1, d.before a0 Z = true) : (Jvm.Cond.methodLink cn3 (9 : Nat) ({ cls := cn1, name := "<init>", desc := "([I[I)V" } : Jvm.MethodName)).before a0 Z = true := hw _ (List.mem_of_getElem? (i := 4) rfl)
theorem d1_0 : decode prog_14_method_1_code 0 = .ok (.aload_n 0, 1) := by decide +kernel
theorem d1_1 : decode prog_14_method_1_code 1 = .ok (.invokespecial 1, 3) := by decide +kernel
theorem w7 {Z : State} {a0 : Array Value} (hw : ∀ d ∈ tables_1, d.before a0 Z = true) : (Jvm.Cond.methodLink cn1 (1 : Nat) ({ cls := "java/lang/Object", name := "<init>", desc := "()V" } : Jvm.MethodName)).before a0 Z = true := hw _ (List.mem_of_getElem? (i := 7) rfl)
theorem w8 {Z : State} {a0 : Array Value} (hw : ∀ d ∈ tables_1, d.before a0 Z = true) : (Jvm.Cond.instanceMethod ({ cls := "java/lang/Object", name := "<init>", desc := "()V" } : Jvm.MethodName)).before a0 Z = true := hw _ (List.mem_of_getElem? (i := 8) rfl)
theorem w9 {Z : State} {a0 : Array Value} (hw : ∀ d ∈ tables_1, d.before a0 Z = true) : (Jvm.Cond.code ({ cls := "java/lang/Object", name := "<init>", desc := "()V" } : Jvm.MethodName) object_method_1_code (1 : Nat) (Option.none : Option Jvm.ClassFile.FieldType)).before a0 Z = true := hw _ (List.mem_of_getElem? (i := 9) rfl)
theorem d1_4 : decode prog_14_method_1_code 4 = .ok (.aload_n 0, 1) := by decide +kernel
theorem d1_5 : decode prog_14_method_1_code 5 = .ok (.aload_n 1, 1) := by decide +kernel
theorem d1_6 : decode prog_14_method_1_code 6 = .ok (.putfield 7, 3) := by decide +kernel
theorem w10 {Z : State} {a0 : Array Value} (hw : ∀ d ∈ tables_1, d.before a0 Z = true) : (Jvm.Cond.fieldLink cn1 (7 : Nat) cn1 "start" "[I").before a0 Z = true := hw _ (List.mem_of_getElem? (i := 10) rfl)
theorem d1_9 : decode prog_14_method_1_code 9 = .ok (.aload_n 0, 1) := by decide +kernel
theorem d1_10 : decode prog_14_method_1_code 10 = .ok (.aload_n 2, 1) := by decide +kernel
theorem d1_11 : decode prog_14_method_1_code 11 = .ok (.putfield 13, 3) := by decide +kernel
theorem w12 {Z : State} {a0 : Array Value} (hw : ∀ d ∈ tables_1, d.before a0 Z = true) : (Jvm.Cond.fieldLink cn1 (13 : Nat) cn1 "neighbour" "[I").before a0 Z = true := hw _ (List.mem_of_getElem? (i := 12) rfl)
theorem d1_14 : decode prog_14_method_1_code 14 = .ok (.return_, 1) := by decide +kernel
def Q_r1_init (Z : State) (ya1 : Addr) (ya2 : Addr) (ya3 : Addr) (h0 : Heap) (n0 : Nat) (v : Option Value) (h : Heap) (L : List Loc) : Prop := Fr n0 L ∧ Keep h0 h [ya1] ∧ ((v = none ∧ Fld Z h ya1 cn1 "start" "[I" (.ref ya2) ∧ Fld Z h ya1 cn1 "neighbour" "[I" (.ref ya3)))
theorem pn_com_example_unea_unea_analysis_SparsePattern : plainName "com/example/unea/unea/analysis/SparsePattern" = true := by first | (simp [plainName, overriddenIn]; done) | decide +kernel
set_option maxRecDepth 65536 in
set_option maxHeartbeats 40000000 in
theorem r1_init (l : Launch) (Z : State) (a0 : Array Value) (hw : ∀ d ∈ tables_1, d.before a0 Z = true) (ws : List Jvm.Cond) (ya1 : Addr) (ya2 : Addr) (ya3 : Addr) (h0 : Heap) (n0 : Nat) (O0 : Old Z n0 h0) (F0 : Exa Z h0 ya1 cn1) (F1 : Fld Z h0 ya1 cn1 "start" "[I" .null) (F2 : Fld Z h0 ya1 cn1 "neighbour" "[I" .null) (gq_ya1 : n0 ≤ ya1) :
    MetFree l (⟨cn1, "<init>", "([I[I)V"⟩ : MethodName) (head1 (Jvm.Cond.code (⟨cn1, "<init>", "([I[I)V"⟩ : MethodName) prog_14_method_1_code 3 none :: ws) ({ frames := 1, cells := 0, slots := 0, locals := 12 } : Room)) (fun a U => a = #[(.ref ya1), (.ref ya2), (.ref ya3)] ∧ Z.Warmed39 U.vm ∧ U.heap = h0) (fun _ _ _ _ _ => True) (fun _ U o U' => ∃ v L, o = .returned v ∧ Q_r1_init Z ya1 ya2 ya3 h0 n0 v U'.heap L ∧ FrameEnd U o U' L ({ frames := 1, cells := 0, slots := 0, locals := 12 } : Room).cells ({ frames := 1, cells := 0, slots := 0, locals := 12 } : Room).slots) := by
  refine MetFree.of_bodySF (plainFor_of_name pn_com_example_unea_unea_analysis_SparsePattern) hisR ?_
  intro p e s m args below meth c s₁ Bd hml0 hP hK
  obtain ⟨rfl, hZ, hh⟩ := hP
  have hx := Bd.exec
  have hby := Bd.bytes
  have hlk := Bd.notSynchronized
  have hml : c.maxLocals = 3 := hml0
  have hown : s.vm.findClass cn1 = some m.cls := findClass_of_methodNamed Bd.named
  have hnm := (name_of_methodNamed Bd.named Bd.method).1
  have X0 : Stand p l e ({ frames := 1, cells := 0, slots := 0, locals := 12 } : Room) s m #[(.ref ya1), (.ref ya2), (.ref ya3)] below meth c s₁ [] 0 0 := Stand.of_body Bd
  have e0 : s₁.heap = h0 := by rw [← hh, Bd.state]; rfl
  have N0 := Fr.nil n0
  have K0 := Keep.refl h0 [ya1]
  have Z0 : n0 ≤ h0.size := O0.1 ▸ O0.2.1
  have hef : entryFrame m #[(.ref ya1), (.ref ya2), (.ref ya3)] 3 = mkF m 0 #[.val (.ref ya1), .val (.ref ya2), .val (.ref ya3)] [] := by first | (simp [entryFrame, mkF, argsToLocals, Value.category]; done) | rfl
  rw [hef]
  refine Gets.out (Q := Q_r1_init Z ya1 ya2 ya3 h0 n0) ?_
  show Gets p e below _ (s₁.setTop (mkF m 0 #[.val (.ref ya1), .val (.ref ya2), .val (.ref ya3)] []))
  refine Gets.of (fun t k => XS.aloadN X0.here hx rfl (hb hby d1_0) rfl rfl  k) ?_
  obtain ⟨T1, X1, e1, st1⟩ := initO X0 hx hZ hown (w7 hw) (w8 hw) (w9 hw) e0 (g := (mkF m 1 #[.val (.ref ya1), .val (.ref ya2), .val (.ref ya3)] [(.ref ya1)])) rfl (by rw [hml]; rfl) rfl (hb hby d1_1) (by decide) (W := 0) (by show 2 * 0 + _ ≤ _; exact Nat.le_of_eq rfl) (by decide)
  refine Gets.of st1 ?_
  show Gets p e below _ (T1.setTop (mkF m 4 #[.val (.ref ya1), .val (.ref ya2), .val (.ref ya3)] []))
  refine Gets.of (fun t k => XS.aloadN X1.here hx rfl (hb hby d1_4) rfl rfl  k) ?_
  refine Gets.of (fun t k => XS.aloadN X1.here hx rfl (hb hby d1_5) rfl rfl  k) ?_
  obtain ⟨T2, h2, X2, e2, W2, st2⟩ := putF X1 hx hZ hown (host := "") (Or.inl (w10 hw)) Via.refl e1 F1 F0 (Or.inr ⟨(w11 hw), rfl, hnm⟩) (w1 hw) (ty := (.array .int)) (by decide) rfl rfl (g := (mkF m 6 #[.val (.ref ya1), .val (.ref ya2), .val (.ref ya3)] [(.ref ya2), (.ref ya1)])) rfl rfl (hb hby d1_6)
  have N2 := Fr.snoc X2 N0 gq_ya1
  have Fw2 : Fld Z h2 ya1 cn1 "start" "[I" (.ref ya2) := (F1).same W2
  have K3 : Keep h0 _ [ya1] := K0.wr W2 (Or.inl (by simp))
  have O3 := O0.wr W2 gq_ya1
  refine Gets.of st2 ?_
  show Gets p e below _ (T2.setTop (mkF m 9 #[.val (.ref ya1), .val (.ref ya2), .val (.ref ya3)] []))
  refine Gets.of (fun t k => XS.aloadN X2.here hx rfl (hb hby d1_9) rfl rfl  k) ?_
  refine Gets.of (fun t k => XS.aloadN X2.here hx rfl (hb hby d1_10) rfl rfl  k) ?_
  have f4 : Exa Z h2 ya1 cn1 := (F0.wr W2)
  have f5 : Fld Z h2 ya1 cn1 "neighbour" "[I" .null := (F2.other W2 (Or.inr (slot_ne (Or.inr (w13 hw)) (Or.inr (w11 hw)) (by decide) (t := (.array .int)) (t' := (.array .int)) (by decide) (by decide))))
  obtain ⟨T6, h6, X6, e6, W6, st6⟩ := putF X2 hx hZ hown (host := "") (Or.inl (w12 hw)) Via.refl e2 f5 f4 (Or.inr ⟨(w13 hw), rfl, hnm⟩) (w1 hw) (ty := (.array .int)) (by decide) rfl rfl (g := (mkF m 11 #[.val (.ref ya1), .val (.ref ya2), .val (.ref ya3)] [(.ref ya3), (.ref ya1)])) rfl rfl (hb hby d1_11)
  have N6 := Fr.snoc X6 N2 gq_ya1
  have Fw6 : Fld Z h6 ya1 cn1 "neighbour" "[I" (.ref ya3) := (f5).same W6
  have K7 : Keep h0 _ [ya1] := K3.wr W6 (Or.inl (by simp))
  have O7 := O3.wr W6 gq_ya1
  refine Gets.of st6 ?_
  show Gets p e below _ (T6.setTop (mkF m 14 #[.val (.ref ya1), .val (.ref ya2), .val (.ref ya3)] []))
  refine Gets.retV X6 hx Bd.returns (hb hby d1_14) ?_ (by decide) (by decide)
  rw [e6]
  have f8 : Fld Z h6 ya1 cn1 "start" "[I" (.ref ya2) := (Fw2.other W6 (Or.inr (slot_ne (Or.inr (w11 hw)) (Or.inr (w13 hw)) (by decide) (t := (.array .int)) (t' := (.array .int)) (by decide) (by decide))))
  exact ⟨N6, K7, ⟨rfl, f8, Fw6⟩⟩
theorem w6 {Z : State} {a0 : Array Value} (hw : ∀ d ∈ tables_1, d.before a0 Z = true) : (Jvm.Cond.code ({ cls := cn1, name := "<init>", desc := "([I[I)V" } : Jvm.MethodName) prog_14_method_1_code (3 : Nat) (Option.none : Option Jvm.ClassFile.FieldType)).before a0 Z = true := hw _ (List.mem_of_getElem? (i := 6) rfl)
theorem pd__I_I_V : parseMethodDescriptor "([I[I)V" = some ⟨[(.array .int), (.array .int)], none⟩ := by decide +kernel
theorem w5 {Z : State} {a0 : Array Value} (hw : ∀ d ∈ tables_1, d.before a0 Z = true) : (Jvm.Cond.instanceMethod ({ cls := cn1, name := "<init>", desc := "([I[I)V" } : Jvm.MethodName)).before a0 Z = true := hw _ (List.mem_of_getElem? (i := 5) rfl)
theorem w14 {Z : State} {a0 : Array Value} (hw : ∀ d ∈ tables_1, d.before a0 Z = true) : (Jvm.Cond.methodLink cn3 (12 : Nat) ({ cls := cn0, name := "of", desc := cn5 } : Jvm.MethodName)).before a0 Z = true := hw _ (List.mem_of_getElem? (i := 14) rfl)
theorem d3_0 : decode prog_15_method_2_code 0 = .ok (.aload_n 0, 1) := by decide +kernel
theorem d3_1 : decode prog_15_method_2_code 1 = .ok (.invokevirtual 32, 3) := by decide +kernel
theorem w18 {Z : State} {a0 : Array Value} (hw : ∀ d ∈ tables_1, d.before a0 Z = true) : (Jvm.Cond.methodLink cn0 (32 : Nat) ({ cls := cn1, name := "size", desc := "()I" } : Jvm.MethodName)).before a0 Z = true := hw _ (List.mem_of_getElem? (i := 18) rfl)
theorem d4_0 : decode prog_14_method_2_code 0 = .ok (.aload_n 0, 1) := by decide +kernel
theorem d4_1 : decode prog_14_method_2_code 1 = .ok (.getfield 7, 3) := by decide +kernel
theorem d4_4 : decode prog_14_method_2_code 4 = .ok (.arraylength, 1) := by decide +kernel
theorem d4_5 : decode prog_14_method_2_code 5 = .ok (.iconst 1, 1) := by decide +kernel
theorem d4_6 : decode prog_14_method_2_code 6 = .ok (.isub, 1) := by decide +kernel
theorem d4_7 : decode prog_14_method_2_code 7 = .ok (.ireturn, 1) := by decide +kernel
def Q_r3_size (Z : State) (ya1 : Addr) (ya2 : Addr) (yk4 : ClassId) (h0 : Heap) (n0 : Nat) (v : Option Value) (h : Heap) (L : List Loc) : Prop := Fr n0 L ∧ h = h0 ∧ ((v = some (.int (1 : Int32))))
set_option maxRecDepth 65536 in
set_option maxHeartbeats 40000000 in
theorem r3_size (l : Launch) (Z : State) (a0 : Array Value) (hw : ∀ d ∈ tables_1, d.before a0 Z = true) (ws : List Jvm.Cond) (ya1 : Addr) (ya2 : Addr) (yk4 : ClassId) (h0 : Heap) (n0 : Nat) (O0 : Old Z n0 h0) (F0 : Fld Z h0 ya1 cn1 "start" "[I" (.ref ya2)) (F1 : Arv Z h0 ya2 yk4 .int (2 : Int32) [(.int (0 : Int32)), (.int (0 : Int32))] (.int (0 : Int32))) :
    MetFree l (⟨cn1, "size", "()I"⟩ : MethodName) (head1 (Jvm.Cond.code (⟨cn1, "size", "()I"⟩ : MethodName) prog_14_method_2_code 1 (some .int) :: ws) ({ frames := 0, cells := 0, slots := 0, locals := 0 } : Room)) (fun a U => a = #[(.ref ya1)] ∧ Z.Warmed39 U.vm ∧ U.heap = h0) (fun _ _ _ _ _ => True) (fun _ U o U' => ∃ v L, o = .returned v ∧ Q_r3_size Z ya1 ya2 yk4 h0 n0 v U'.heap L ∧ FrameEnd U o U' L ({ frames := 0, cells := 0, slots := 0, locals := 0 } : Room).cells ({ frames := 0, cells := 0, slots := 0, locals := 0 } : Room).slots) := by
  refine MetFree.of_bodySF (plainFor_of_name pn_com_example_unea_unea_analysis_SparsePattern) hisR ?_
  intro p e s m args below meth c s₁ Bd hml0 hP hK
  obtain ⟨rfl, hZ, hh⟩ := hP
  have hx := Bd.exec
  have hby := Bd.bytes
  have hlk := Bd.notSynchronized
  have hml : c.maxLocals = 1 := hml0
  have hown : s.vm.findClass cn1 = some m.cls := findClass_of_methodNamed Bd.named
  have hnm := (name_of_methodNamed Bd.named Bd.method).1
  have X0 : Stand p l e ({ frames := 0, cells := 0, slots := 0, locals := 0 } : Room) s m #[(.ref ya1)] below meth c s₁ [] 0 0 := Stand.of_body Bd
  have e0 : s₁.heap = h0 := by rw [← hh, Bd.state]; rfl
  have N0 := Fr.nil n0
  have K0 := Keep.refl h0 []
  have Z0 : n0 ≤ h0.size := O0.1 ▸ O0.2.1
  have hef : entryFrame m #[(.ref ya1)] 1 = mkF m 0 #[.val (.ref ya1)] [] := by first | (simp [entryFrame, mkF, argsToLocals, Value.category]; done) | rfl
  rw [hef]
  refine Gets.out (Q := Q_r3_size Z ya1 ya2 yk4 h0 n0) ?_
  show Gets p e below _ (s₁.setTop (mkF m 0 #[.val (.ref ya1)] []))
  refine Gets.of (fun t k => XS.aloadN X0.here hx rfl (hb hby d4_0) rfl rfl  k) ?_
  obtain ⟨T1, X1, e1, st1⟩ := getF X0 hx hZ hown (host := "") (Or.inl (w10 hw)) Via.refl e0 F0 (g := (mkF m 1 #[.val (.ref ya1)] [(.ref ya1)])) rfl rfl (hb hby d4_1)
  refine Gets.of st1 ?_
  show Gets p e below _ (T1.setTop (mkF m 4 #[.val (.ref ya1)] [(.ref ya2)]))
  obtain ⟨cl2, Ar2, -, S2, N_2, -, -⟩ := id (F1)
  refine Gets.of (X1.arraylength hx (by rw [e1]; exact Ar2.1) (State.isArrayOf_alike hZ.alike Ar2.2.1) (g := (mkF m 4 #[.val (.ref ya1)] [(.ref ya2)])) rfl rfl (hb hby d4_4)) ?_
  rw [len_of S2 N_2]
  show Gets p e below _ (T1.setTop (mkF m 5 #[.val (.ref ya1)] [(.int (2 : Int32))]))
  refine Gets.of (fun t k => XS.iconst X1.here hx rfl (hb hby d4_5) k) ?_
  refine Gets.of (fun t k => XS.isub X1.here hx rfl (hb hby d4_6) rfl k) ?_
  show Gets p e below _ (T1.setTop (mkF m 7 #[.val (.ref ya1)] [(.int (1 : Int32))]))
  refine Gets.retI X1 hx Bd.returns (hb hby d4_7) ?_ (by decide) (by decide)
  rw [e1]
  exact ⟨N0, rfl, rfl⟩
theorem w22 {Z : State} {a0 : Array Value} (hw : ∀ d ∈ tables_1, d.before a0 Z = true) : (Jvm.Cond.code ({ cls := cn1, name := "size", desc := "()I" } : Jvm.MethodName) prog_14_method_2_code (1 : Nat) (Option.some Jvm.ClassFile.FieldType.int)).before a0 Z = true := hw _ (List.mem_of_getElem? (i := 22) rfl)
theorem pd__I : parseMethodDescriptor "()I" = some ⟨[], some .int⟩ := by decide +kernel
theorem w21 {Z : State} {a0 : Array Value} (hw : ∀ d ∈ tables_1, d.before a0 Z = true) : (Jvm.Cond.selects cn1 ({ cls := cn1, name := "size", desc := "()I" } : Jvm.MethodName) ({ cls := cn1, name := "size", desc := "()I" } : Jvm.MethodName)).before a0 Z = true := hw _ (List.mem_of_getElem? (i := 21) rfl)
theorem w19 {Z : State} {a0 : Array Value} (hw : ∀ d ∈ tables_1, d.before a0 Z = true) : (Jvm.Cond.declares ({ cls := cn1, name := "size", desc := "()I" } : Jvm.MethodName)).before a0 Z = true := hw _ (List.mem_of_getElem? (i := 19) rfl)
theorem w20 {Z : State} {a0 : Array Value} (hw : ∀ d ∈ tables_1, d.before a0 Z = true) : (Jvm.Cond.instanceMethod ({ cls := cn1, name := "size", desc := "()I" } : Jvm.MethodName)).before a0 Z = true := hw _ (List.mem_of_getElem? (i := 20) rfl)
theorem d3_4 : decode prog_15_method_2_code 4 = .ok (.istore_n 2, 1) := by decide +kernel
theorem d3_5 : decode prog_15_method_2_code 5 = .ok (.aload_n 0, 1) := by decide +kernel
theorem d3_6 : decode prog_15_method_2_code 6 = .ok (.aload_n 1, 1) := by decide +kernel
theorem d3_7 : decode prog_15_method_2_code 7 = .ok (.aload_n 1, 1) := by decide +kernel
theorem d3_8 : decode prog_15_method_2_code 8 = .ok (.invokestatic 38, 3) := by decide +kernel
theorem w23 {Z : State} {a0 : Array Value} (hw : ∀ d ∈ tables_1, d.before a0 Z = true) : (Jvm.Cond.methodLink cn0 (38 : Nat) ({ cls := cn0, name := "inverse", desc := "([I)[I" } : Jvm.MethodName)).before a0 Z = true := hw _ (List.mem_of_getElem? (i := 23) rfl)
theorem d5_0 : decode prog_15_method_7_code 0 = .ok (.aload_n 0, 1) := by decide +kernel
theorem d5_1 : decode prog_15_method_7_code 1 = .ok (.arraylength, 1) := by decide +kernel
theorem d5_2 : decode prog_15_method_7_code 2 = .ok (.newarray .int, 2) := by decide +kernel
theorem d5_4 : decode prog_15_method_7_code 4 = .ok (.astore_n 1, 1) := by decide +kernel
theorem d5_5 : decode prog_15_method_7_code 5 = .ok (.iconst 0, 1) := by decide +kernel
theorem d5_6 : decode prog_15_method_7_code 6 = .ok (.istore_n 2, 1) := by decide +kernel
theorem d5_7 : decode prog_15_method_7_code 7 = .ok (.iload_n 2, 1) := by decide +kernel
theorem d5_8 : decode prog_15_method_7_code 8 = .ok (.aload_n 0, 1) := by decide +kernel
theorem d5_9 : decode prog_15_method_7_code 9 = .ok (.arraylength, 1) := by decide +kernel
theorem d5_10 : decode prog_15_method_7_code 10 = .ok (.if_icmp .ge 15, 3) := by decide +kernel
theorem d5_13 : decode prog_15_method_7_code 13 = .ok (.aload_n 1, 1) := by decide +kernel
theorem d5_14 : decode prog_15_method_7_code 14 = .ok (.aload_n 0, 1) := by decide +kernel
theorem d5_15 : decode prog_15_method_7_code 15 = .ok (.iload_n 2, 1) := by decide +kernel
theorem d5_16 : decode prog_15_method_7_code 16 = .ok (.iaload, 1) := by decide +kernel
theorem d5_17 : decode prog_15_method_7_code 17 = .ok (.iload_n 2, 1) := by decide +kernel
theorem d5_18 : decode prog_15_method_7_code 18 = .ok (.iastore, 1) := by decide +kernel
theorem d5_19 : decode prog_15_method_7_code 19 = .ok (.iinc 2 1, 3) := by decide +kernel
theorem d5_22 : decode prog_15_method_7_code 22 = .ok (.goto (-15), 3) := by decide +kernel
theorem d5_25 : decode prog_15_method_7_code 25 = .ok (.aload_n 1, 1) := by decide +kernel
theorem d5_26 : decode prog_15_method_7_code 26 = .ok (.areturn, 1) := by decide +kernel
def Q_r4_inverse (Z : State) (ya1 : Addr) (yk2 : ClassId) (h0 : Heap) (n0 : Nat) (v : Option Value) (h : Heap) (L : List Loc) : Prop := Fr n0 L ∧ Keep h0 h [] ∧ ((∃ (b2 : Addr) (k2 : ClassId), v = some (.ref b2) ∧ h0.size ≤ b2 ∧ Arv Z h b2 k2 .int (1 : Int32) [(.int (0 : Int32))] (.int (0 : Int32)) ∧ Exa Z h b2 "[I"))
theorem pn_com_example_unea_unea_analysis_Supernodes : plainName "com/example/unea/unea/analysis/Supernodes" = true := by first | (simp [plainName, overriddenIn]; done) | decide +kernel
set_option maxRecDepth 65536 in
set_option maxHeartbeats 40000000 in
theorem r4_inverse (l : Launch) (Z : State) (a0 : Array Value) (hw : ∀ d ∈ tables_1, d.before a0 Z = true) (ws : List Jvm.Cond) (ya1 : Addr) (yk2 : ClassId) (h0 : Heap) (n0 : Nat) (O0 : Old Z n0 h0) (F0 : Arv Z h0 ya1 yk2 .int (1 : Int32) [(.int (0 : Int32))] (.int (0 : Int32))) :
    MetFree l (⟨cn0, "inverse", "([I)[I"⟩ : MethodName) (head1 (Jvm.Cond.code (⟨cn0, "inverse", "([I)[I"⟩ : MethodName) prog_15_method_7_code 3 (some (.array .int)) :: ws) ({ frames := 0, cells := 1, slots := 1, locals := 0 } : Room)) (fun a U => a = #[(.ref ya1)] ∧ Z.Warmed39 U.vm ∧ U.heap = h0) (fun _ _ _ _ _ => True) (fun _ U o U' => ∃ v L, o = .returned v ∧ Q_r4_inverse Z ya1 yk2 h0 n0 v U'.heap L ∧ FrameEnd U o U' L ({ frames := 0, cells := 1, slots := 1, locals := 0 } : Room).cells ({ frames := 0, cells := 1, slots := 1, locals := 0 } : Room).slots) := by
  refine MetFree.of_bodySF (plainFor_of_name pn_com_example_unea_unea_analysis_Supernodes) hisR ?_
  intro p e s m args below meth c s₁ Bd hml0 hP hK
  obtain ⟨rfl, hZ, hh⟩ := hP
  have hx := Bd.exec
  have hby := Bd.bytes
  have hlk := Bd.notSynchronized
  have hml : c.maxLocals = 3 := hml0
  have hown : s.vm.findClass cn0 = some m.cls := findClass_of_methodNamed Bd.named
  have hnm := (name_of_methodNamed Bd.named Bd.method).1
  have X0 : Stand p l e ({ frames := 0, cells := 1, slots := 1, locals := 0 } : Room) s m #[(.ref ya1)] below meth c s₁ [] 0 0 := Stand.of_body Bd
  have e0 : s₁.heap = h0 := by rw [← hh, Bd.state]; rfl
  have N0 := Fr.nil n0
  have K0 := Keep.refl h0 []
  have Z0 : n0 ≤ h0.size := O0.1 ▸ O0.2.1
  have hef : entryFrame m #[(.ref ya1)] 3 = mkF m 0 #[.val (.ref ya1), .unset, .unset] [] := by first | (simp [entryFrame, mkF, argsToLocals, Value.category]; done) | rfl
  rw [hef]
  refine Gets.out (Q := Q_r4_inverse Z ya1 yk2 h0 n0) ?_
  show Gets p e below _ (s₁.setTop (mkF m 0 #[.val (.ref ya1), .unset, .unset] []))
  refine Gets.of (fun t k => XS.aloadN X0.here hx rfl (hb hby d5_0) rfl rfl  k) ?_
  obtain ⟨cl1, Ar1, -, S1, N_1, -, -⟩ := id (F0)
  refine Gets.of (X0.arraylength hx (by rw [e0]; exact Ar1.1) (State.isArrayOf_alike hZ.alike Ar1.2.1) (g := (mkF m 1 #[.val (.ref ya1), .unset, .unset] [(.ref ya1)])) rfl rfl (hb hby d5_1)) ?_
  rw [len_of S1 N_1]
  show Gets p e below _ (s₁.setTop (mkF m 2 #[.val (.ref ya1), .unset, .unset] [(.int (1 : Int32))]))
  obtain ⟨T2, h2, k2, X2, e2, E2, A2, Ex2, st2⟩ := newPE X0 hx hZ (aty := .int) (w3 hw) e0 (g := (mkF m 2 #[.val (.ref ya1), .unset, .unset] [(.int (1 : Int32))])) rfl (hb hby d5_2) rfl (by decide) (cap := 1) (by decide) (by decide) (by decide) (by decide) (ad := "[I") rfl
  obtain ⟨b2, g2⟩ : ∃ z, z = h0.size := ⟨_, rfl⟩
  rw [← g2] at A2 Ex2 st2
  have sz_b2 : h0.size ≤ b2 := Nat.le_trans K0.1 (Nat.le_of_eq g2.symm)
  have g_b2 : n0 ≤ b2 := Nat.le_trans Z0 sz_b2
  have K3 := K0.ext E2
  have O3 := O0.ext E2
  have V2 : Arv Z h2 b2 k2 .int (1 : Int32) [(.int (0 : Int32))] (.int (0 : Int32)) := (Arv.new A2 (by decide)).pad (pad_rep [] (.int (0 : Int32)) 1)
  refine Gets.of st2 ?_
  show Gets p e below _ (T2.setTop (mkF m 4 #[.val (.ref ya1), .unset, .unset] [(.ref b2)]))
  refine Gets.of (fun t k => XS.astoreN X2.here hx rfl (hb hby d5_4) rfl rfl (l' := #[.val (.ref ya1), .val (.ref b2), .unset]) rfl k) ?_
  show Gets p e below _ (T2.setTop (mkF m 5 #[.val (.ref ya1), .val (.ref b2), .unset] []))
  refine Gets.of (fun t k => XS.iconst X2.here hx rfl (hb hby d5_5) k) ?_
  refine Gets.of (fun t k => XS.istoreN X2.here hx rfl (hb hby d5_6) rfl (l' := #[.val (.ref ya1), .val (.ref b2), .val (.int (0 : Int32))]) rfl k) ?_
  show Gets p e below _ (T2.setTop (mkF m 7 #[.val (.ref ya1), .val (.ref b2), .val (.int (0 : Int32))] []))
  refine Gets.of (fun t k => XS.iloadN X2.here hx rfl (hb hby d5_7) rfl  k) ?_
  refine Gets.of (fun t k => XS.aloadN X2.here hx rfl (hb hby d5_8) rfl rfl  k) ?_
  have f4 : Arv Z h2 ya1 yk2 .int (1 : Int32) [(.int (0 : Int32))] (.int (0 : Int32)) := (F0.ext E2)
  obtain ⟨cl5, Ar5, -, S5, N_5, -, -⟩ := id (f4)
  refine Gets.of (X2.arraylength hx (by rw [e2]; exact Ar5.1) (State.isArrayOf_alike hZ.alike Ar5.2.1) (g := (mkF m 9 #[.val (.ref ya1), .val (.ref b2), .val (.int (0 : Int32))] [(.ref ya1), (.int (0 : Int32))])) rfl rfl (hb hby d5_9)) ?_
  rw [len_of S5 N_5]
  show Gets p e below _ (T2.setTop (mkF m 10 #[.val (.ref ya1), .val (.ref b2), .val (.int (0 : Int32))] [(.int (1 : Int32)), (.int (0 : Int32))]))
  refine Gets.of (fun t k => XS.icmpNo X2.here hx rfl (hb hby d5_10) rfl (tlt (by decide : (0 : Int32) < (1 : Int32))).2.1 k) ?_
  show Gets p e below _ (T2.setTop (mkF m 13 #[.val (.ref ya1), .val (.ref b2), .val (.int (0 : Int32))] []))
  refine Gets.of (fun t k => XS.aloadN X2.here hx rfl (hb hby d5_13) rfl rfl  k) ?_
  refine Gets.of (fun t k => XS.aloadN X2.here hx rfl (hb hby d5_14) rfl rfl  k) ?_
  refine Gets.of (fun t k => XS.iloadN X2.here hx rfl (hb hby d5_15) rfl  k) ?_
  obtain ⟨cl6, Ar6, q6, S6, N_6, H6, G6⟩ := id (f4)
  have hin6 : ¬ ((0 : Int32) < 0 ∨ cl6.slots.size ≤ ((0 : Int32)).toNatClampNeg) := inb_of S6 ⟨by decide, by decide⟩
  refine Gets.of (fun t k => X2.iaload hx (j := (0 : Int32)) (v := (.int (0 : Int32))) (by rw [e2]; exact Ar6.1) (State.isArrayOf_alike hZ.alike Ar6.2.1) Ar6.2.2 hin6 (Has.at H6 hin6 rfl) (g := (mkF m 16 #[.val (.ref ya1), .val (.ref b2), .val (.int (0 : Int32))] [(.int (0 : Int32)), (.ref ya1), (.ref b2)])) rfl rfl (hb hby d5_16) t k) ?_
  show Gets p e below _ (T2.setTop (mkF m 17 #[.val (.ref ya1), .val (.ref b2), .val (.int (0 : Int32))] [(.int (0 : Int32)), (.ref b2)]))
  refine Gets.of (fun t k => XS.iloadN X2.here hx rfl (hb hby d5_17) rfl  k) ?_
  obtain ⟨cl7, Ar7, q7, S7, N_7, H7, G7⟩ := id (V2)
  have hin7 : ¬ ((0 : Int32) < 0 ∨ cl7.slots.size ≤ ((0 : Int32)).toNatClampNeg) := inb_of S7 ⟨by decide, by decide⟩
  obtain ⟨T8, h8, X8, e8, W8, st8⟩ := stI X2 hx hZ e2 Ar7 (j := (0 : Int32)) hin7 (g := (mkF m 18 #[.val (.ref ya1), .val (.ref b2), .val (.int (0 : Int32))] [(.int (0 : Int32)), (.int (0 : Int32)), (.ref b2)])) rfl rfl (hb hby d5_18)
  have V8 : Arv Z h8 b2 k2 .int (1 : Int32) [(.int (0 : Int32))] (.int (0 : Int32)) := Arv.set Ar7 q7 S7 N_7 H7 G7 rfl W8 0 rfl (Nat.le_of_ble_eq_true rfl)
  have N8 := Fr.snoc X8 N0 g_b2
  have K9 : Keep h0 _ [] := K3.wr W8 (Or.inr sz_b2)
  have O9 := O3.wr W8 g_b2
  refine Gets.of st8 ?_
  show Gets p e below _ (T8.setTop (mkF m 19 #[.val (.ref ya1), .val (.ref b2), .val (.int (0 : Int32))] []))
  refine Gets.of (fun t k => XS.iinc X8.here hx rfl (hb hby d5_19) rfl (l' := #[.val (.ref ya1), .val (.ref b2), .val (.int (1 : Int32))]) rfl k) ?_
  show Gets p e below _ (T8.setTop (mkF m 22 #[.val (.ref ya1), .val (.ref b2), .val (.int (1 : Int32))] []))
  refine Gets.of (fun t k => XS.goto X8.here hx rfl (pc0 := 22) (pc' := 7) rfl (hb hby d5_22) (by decide) (by decide) k) ?_
  show Gets p e below _ (T8.setTop (mkF m 7 #[.val (.ref ya1), .val (.ref b2), .val (.int (1 : Int32))] []))
  refine Gets.of (fun t k => XS.iloadN X8.here hx rfl (hb hby d5_7) rfl  k) ?_
  refine Gets.of (fun t k => XS.aloadN X8.here hx rfl (hb hby d5_8) rfl rfl  k) ?_
  have f10 : Arv Z h8 ya1 yk2 .int (1 : Int32) [(.int (0 : Int32))] (.int (0 : Int32)) := (f4.other W8 (Nat.ne_of_lt (Nat.lt_of_lt_of_le F0.lt sz_b2)))
  obtain ⟨cl11, Ar11, -, S11, N_11, -, -⟩ := id (f10)
  refine Gets.of (X8.arraylength hx (by rw [e8]; exact Ar11.1) (State.isArrayOf_alike hZ.alike Ar11.2.1) (g := (mkF m 9 #[.val (.ref ya1), .val (.ref b2), .val (.int (1 : Int32))] [(.ref ya1), (.int (1 : Int32))])) rfl rfl (hb hby d5_9)) ?_
  rw [len_of S11 N_11]
  show Gets p e below _ (T8.setTop (mkF m 10 #[.val (.ref ya1), .val (.ref b2), .val (.int (1 : Int32))] [(.int (1 : Int32)), (.int (1 : Int32))]))
  refine Gets.of (fun t k => XS.icmpYes X8.here hx rfl (pc0 := 10) (pc' := 25) rfl (hb hby d5_10) rfl (flt (by decide : ¬ ((1 : Int32) < (1 : Int32)))).2.1 (by decide) (by decide) k) ?_
  show Gets p e below _ (T8.setTop (mkF m 25 #[.val (.ref ya1), .val (.ref b2), .val (.int (1 : Int32))] []))
  refine Gets.of (fun t k => XS.aloadN X8.here hx rfl (hb hby d5_25) rfl rfl  k) ?_
  refine Gets.retA X8 hx Bd.returns rfl rfl (hb hby d5_26) ?_ (by decide) (by decide)
  rw [e8]
  have f12 : Exa Z h8 b2 "[I" := (Ex2.wr W8)
  exact ⟨N8, K9, ⟨b2, k2, rfl, sz_b2, V8, f12⟩⟩
theorem w25 {Z : State} {a0 : Array Value} (hw : ∀ d ∈ tables_1, d.before a0 Z = true) : (Jvm.Cond.code ({ cls := cn0, name := "inverse", desc := "([I)[I" } : Jvm.MethodName) prog_15_method_7_code (3 : Nat) (Option.some (Jvm.ClassFile.FieldType.array Jvm.ClassFile.FieldType.int))).before a0 Z = true := hw _ (List.mem_of_getElem? (i := 25) rfl)
theorem w16 {Z : State} {a0 : Array Value} (hw : ∀ d ∈ tables_1, d.before a0 Z = true) : (Jvm.Cond.initialized cn0).before a0 Z = true := hw _ (List.mem_of_getElem? (i := 16) rfl)
theorem pd__I_I : parseMethodDescriptor "([I)[I" = some ⟨[(.array .int)], some (.array .int)⟩ := by decide +kernel
theorem w24 {Z : State} {a0 : Array Value} (hw : ∀ d ∈ tables_1, d.before a0 Z = true) : (Jvm.Cond.static ({ cls := cn0, name := "inverse", desc := "([I)[I" } : Jvm.MethodName)).before a0 Z = true := hw _ (List.mem_of_getElem? (i := 24) rfl)
theorem d3_11 : decode prog_15_method_2_code 11 = .ok (.invokestatic 42, 3) := by decide +kernel
theorem w26 {Z : State} {a0 : Array Value} (hw : ∀ d ∈ tables_1, d.before a0 Z = true) : (Jvm.Cond.methodLink cn0 (42 : Nat) ({ cls := cn0, name := "eliminationTree", desc := "(Lcom/example/unea/unea/analysis/SparsePattern;[I[I)[I" } : Jvm.MethodName)).before a0 Z = true := hw _ (List.mem_of_getElem? (i := 26) rfl)
theorem d6_0 : decode prog_15_method_8_code 0 = .ok (.aload_n 1, 1) := by decide +kernel
theorem d6_1 : decode prog_15_method_8_code 1 = .ok (.arraylength, 1) := by decide +kernel
theorem d6_2 : decode prog_15_method_8_code 2 = .ok (.istore_n 3, 1) := by decide +kernel
theorem d6_3 : decode prog_15_method_8_code 3 = .ok (.iload_n 3, 1) := by decide +kernel
theorem d6_4 : decode prog_15_method_8_code 4 = .ok (.newarray .int, 2) := by decide +kernel
theorem d6_6 : decode prog_15_method_8_code 6 = .ok (.astore 4, 2) := by decide +kernel
theorem d6_8 : decode prog_15_method_8_code 8 = .ok (.iload_n 3, 1) := by decide +kernel
theorem d6_9 : decode prog_15_method_8_code 9 = .ok (.newarray .int, 2) := by decide +kernel
theorem d6_11 : decode prog_15_method_8_code 11 = .ok (.astore 5, 2) := by decide +kernel
theorem d6_13 : decode prog_15_method_8_code 13 = .ok (.aload 4, 2) := by decide +kernel
theorem d6_15 : decode prog_15_method_8_code 15 = .ok (.iconst (-1), 1) := by decide +kernel
theorem d6_16 : decode prog_15_method_8_code 16 = .ok (.invokestatic 74, 3) := by decide +kernel
theorem w29 {Z : State} {a0 : Array Value} (hw : ∀ d ∈ tables_1, d.before a0 Z = true) : (Jvm.Cond.methodLink cn0 (74 : Nat) ({ cls := cn2, name := "fill", desc := "([II)V" } : Jvm.MethodName)).before a0 Z = true := hw _ (List.mem_of_getElem? (i := 29) rfl)
theorem d7_0 : decode jdk_65_method_103_code 0 = .ok (.iconst 0, 1) := by decide +kernel
theorem d7_1 : decode jdk_65_method_103_code 1 = .ok (.istore_n 2, 1) := by decide +kernel
theorem d7_2 : decode jdk_65_method_103_code 2 = .ok (.aload_n 0, 1) := by decide +kernel
theorem d7_3 : decode jdk_65_method_103_code 3 = .ok (.arraylength, 1) := by decide +kernel
theorem d7_4 : decode jdk_65_method_103_code 4 = .ok (.istore_n 3, 1) := by decide +kernel
theorem d7_5 : decode jdk_65_method_103_code 5 = .ok (.iload_n 2, 1) := by decide +kernel
theorem d7_6 : decode jdk_65_method_103_code 6 = .ok (.iload_n 3, 1) := by decide +kernel
theorem d7_7 : decode jdk_65_method_103_code 7 = .ok (.if_icmp .ge 13, 3) := by decide +kernel
theorem d7_10 : decode jdk_65_method_103_code 10 = .ok (.aload_n 0, 1) := by decide +kernel
theorem d7_11 : decode jdk_65_method_103_code 11 = .ok (.iload_n 2, 1) := by decide +kernel
theorem d7_12 : decode jdk_65_method_103_code 12 = .ok (.iload_n 1, 1) := by decide +kernel
theorem d7_13 : decode jdk_65_method_103_code 13 = .ok (.iastore, 1) := by decide +kernel
theorem d7_14 : decode jdk_65_method_103_code 14 = .ok (.iinc 2 1, 3) := by decide +kernel
theorem d7_17 : decode jdk_65_method_103_code 17 = .ok (.goto (-12), 3) := by decide +kernel
theorem d7_20 : decode jdk_65_method_103_code 20 = .ok (.return_, 1) := by decide +kernel
def Q_r6_fill (Z : State) (ya1 : Addr) (yk2 : ClassId) (h0 : Heap) (n0 : Nat) (v : Option Value) (h : Heap) (L : List Loc) : Prop := Fr n0 L ∧ Keep h0 h [ya1] ∧ ((v = none ∧ Arv Z h ya1 yk2 .int (1 : Int32) [(.int (-1 : Int32))] (.int (0 : Int32))))
theorem pn_java_util_Arrays : plainName "java/util/Arrays" = true := by first | (simp [plainName, overriddenIn]; done) | decide +kernel
set_option maxRecDepth 65536 in
set_option maxHeartbeats 40000000 in
theorem r6_fill (l : Launch) (Z : State) (a0 : Array Value) (hw : ∀ d ∈ tables_1, d.before a0 Z = true) (ws : List Jvm.Cond) (ya1 : Addr) (yk2 : ClassId) (h0 : Heap) (n0 : Nat) (O0 : Old Z n0 h0) (F0 : Arv Z h0 ya1 yk2 .int (1 : Int32) [(.int (0 : Int32))] (.int (0 : Int32))) (gq_ya1 : n0 ≤ ya1) :
    MetFree l (⟨cn2, "fill", "([II)V"⟩ : MethodName) (head1 (Jvm.Cond.code (⟨cn2, "fill", "([II)V"⟩ : MethodName) jdk_65_method_103_code 4 none :: ws) ({ frames := 0, cells := 0, slots := 0, locals := 0 } : Room)) (fun a U => a = #[(.ref ya1), (.int (-1 : Int32))] ∧ Z.Warmed39 U.vm ∧ U.heap = h0) (fun _ _ _ _ _ => True) (fun _ U o U' => ∃ v L, o = .returned v ∧ Q_r6_fill Z ya1 yk2 h0 n0 v U'.heap L ∧ FrameEnd U o U' L ({ frames := 0, cells := 0, slots := 0, locals := 0 } : Room).cells ({ frames := 0, cells := 0, slots := 0, locals := 0 } : Room).slots) := by
  refine MetFree.of_bodySF (plainFor_of_name pn_java_util_Arrays) hisR ?_
  intro p e s m args below meth c s₁ Bd hml0 hP hK
  obtain ⟨rfl, hZ, hh⟩ := hP
  have hx := Bd.exec
  have hby := Bd.bytes
  have hlk := Bd.notSynchronized
  have hml : c.maxLocals = 4 := hml0
  have hown : s.vm.findClass cn2 = some m.cls := findClass_of_methodNamed Bd.named
  have hnm := (name_of_methodNamed Bd.named Bd.method).1
  have X0 : Stand p l e ({ frames := 0, cells := 0, slots := 0, locals := 0 } : Room) s m #[(.ref ya1), (.int (-1 : Int32))] below meth c s₁ [] 0 0 := Stand.of_body Bd
  have e0 : s₁.heap = h0 := by rw [← hh, Bd.state]; rfl
  have N0 := Fr.nil n0
  have K0 := Keep.refl h0 [ya1]
  have Z0 : n0 ≤ h0.size := O0.1 ▸ O0.2.1
  have hef : entryFrame m #[(.ref ya1), (.int (-1 : Int32))] 4 = mkF m 0 #[.val (.ref ya1), .val (.int (-1 : Int32)), .unset, .unset] [] := by first | (simp [entryFrame, mkF, argsToLocals, Value.category]; done) | rfl
  rw [hef]
  refine Gets.out (Q := Q_r6_fill Z ya1 yk2 h0 n0) ?_
  show Gets p e below _ (s₁.setTop (mkF m 0 #[.val (.ref ya1), .val (.int (-1 : Int32)), .unset, .unset] []))
  refine Gets.of (fun t k => XS.iconst X0.here hx rfl (hb hby d7_0) k) ?_
  refine Gets.of (fun t k => XS.istoreN X0.here hx rfl (hb hby d7_1) rfl (l' := #[.val (.ref ya1), .val (.int (-1 : Int32)), .val (.int (0 : Int32)), .unset]) rfl k) ?_
  show Gets p e below _ (s₁.setTop (mkF m 2 #[.val (.ref ya1), .val (.int (-1 : Int32)), .val (.int (0 : Int32)), .unset] []))
  refine Gets.of (fun t k => XS.aloadN X0.here hx rfl (hb hby d7_2) rfl rfl  k) ?_
  obtain ⟨cl1, Ar1, -, S1, N_1, -, -⟩ := id (F0)
  refine Gets.of (X0.arraylength hx (by rw [e0]; exact Ar1.1) (State.isArrayOf_alike hZ.alike Ar1.2.1) (g := (mkF m 3 #[.val (.ref ya1), .val (.int (-1 : Int32)), .val (.int (0 : Int32)), .unset] [(.ref ya1)])) rfl rfl (hb hby d7_3)) ?_
  rw [len_of S1 N_1]
  show Gets p e below _ (s₁.setTop (mkF m 4 #[.val (.ref ya1), .val (.int (-1 : Int32)), .val (.int (0 : Int32)), .unset] [(.int (1 : Int32))]))
  refine Gets.of (fun t k => XS.istoreN X0.here hx rfl (hb hby d7_4) rfl (l' := #[.val (.ref ya1), .val (.int (-1 : Int32)), .val (.int (0 : Int32)), .val (.int (1 : Int32))]) rfl k) ?_
  show Gets p e below _ (s₁.setTop (mkF m 5 #[.val (.ref ya1), .val (.int (-1 : Int32)), .val (.int (0 : Int32)), .val (.int (1 : Int32))] []))
  refine Gets.of (fun t k => XS.iloadN X0.here hx rfl (hb hby d7_5) rfl  k) ?_
  refine Gets.of (fun t k => XS.iloadN X0.here hx rfl (hb hby d7_6) rfl  k) ?_
  refine Gets.of (fun t k => XS.icmpNo X0.here hx rfl (hb hby d7_7) rfl (tlt (by decide : (0 : Int32) < (1 : Int32))).2.1 k) ?_
  show Gets p e below _ (s₁.setTop (mkF m 10 #[.val (.ref ya1), .val (.int (-1 : Int32)), .val (.int (0 : Int32)), .val (.int (1 : Int32))] []))
  refine Gets.of (fun t k => XS.aloadN X0.here hx rfl (hb hby d7_10) rfl rfl  k) ?_
  refine Gets.of (fun t k => XS.iloadN X0.here hx rfl (hb hby d7_11) rfl  k) ?_
  refine Gets.of (fun t k => XS.iloadN X0.here hx rfl (hb hby d7_12) rfl  k) ?_
  obtain ⟨cl2, Ar2, q2, S2, N_2, H2, G2⟩ := id (F0)
  have hin2 : ¬ ((0 : Int32) < 0 ∨ cl2.slots.size ≤ ((0 : Int32)).toNatClampNeg) := inb_of S2 ⟨by decide, by decide⟩
  obtain ⟨T3, h3, X3, e3, W3, st3⟩ := stI X0 hx hZ e0 Ar2 (j := (0 : Int32)) hin2 (g := (mkF m 13 #[.val (.ref ya1), .val (.int (-1 : Int32)), .val (.int (0 : Int32)), .val (.int (1 : Int32))] [(.int (-1 : Int32)), (.int (0 : Int32)), (.ref ya1)])) rfl rfl (hb hby d7_13)
  have V3 : Arv Z h3 ya1 yk2 .int (1 : Int32) [(.int (-1 : Int32))] (.int (0 : Int32)) := Arv.set Ar2 q2 S2 N_2 H2 G2 rfl W3 0 rfl (Nat.le_of_ble_eq_true rfl)
  have N3 := Fr.snoc X3 N0 gq_ya1
  have K4 : Keep h0 _ [ya1] := K0.wr W3 (Or.inl (by simp))
  have O4 := O0.wr W3 gq_ya1
  refine Gets.of st3 ?_
  show Gets p e below _ (T3.setTop (mkF m 14 #[.val (.ref ya1), .val (.int (-1 : Int32)), .val (.int (0 : Int32)), .val (.int (1 : Int32))] []))
  refine Gets.of (fun t k => XS.iinc X3.here hx rfl (hb hby d7_14) rfl (l' := #[.val (.ref ya1), .val (.int (-1 : Int32)), .val (.int (1 : Int32)), .val (.int (1 : Int32))]) rfl k) ?_
  show Gets p e below _ (T3.setTop (mkF m 17 #[.val (.ref ya1), .val (.int (-1 : Int32)), .val (.int (1 : Int32)), .val (.int (1 : Int32))] []))
  refine Gets.of (fun t k => XS.goto X3.here hx rfl (pc0 := 17) (pc' := 5) rfl (hb hby d7_17) (by decide) (by decide) k) ?_
  show Gets p e below _ (T3.setTop (mkF m 5 #[.val (.ref ya1), .val (.int (-1 : Int32)), .val (.int (1 : Int32)), .val (.int (1 : Int32))] []))
  refine Gets.of (fun t k => XS.iloadN X3.here hx rfl (hb hby d7_5) rfl  k) ?_
  refine Gets.of (fun t k => XS.iloadN X3.here hx rfl (hb hby d7_6) rfl  k) ?_
  refine Gets.of (fun t k => XS.icmpYes X3.here hx rfl (pc0 := 7) (pc' := 20) rfl (hb hby d7_7) rfl (flt (by decide : ¬ ((1 : Int32) < (1 : Int32)))).2.1 (by decide) (by decide) k) ?_
  show Gets p e below _ (T3.setTop (mkF m 20 #[.val (.ref ya1), .val (.int (-1 : Int32)), .val (.int (1 : Int32)), .val (.int (1 : Int32))] []))
  refine Gets.retV X3 hx Bd.returns (hb hby d7_20) ?_ (by decide) (by decide)
  rw [e3]
  exact ⟨N3, K4, ⟨rfl, V3⟩⟩
theorem w32 {Z : State} {a0 : Array Value} (hw : ∀ d ∈ tables_1, d.before a0 Z = true) : (Jvm.Cond.code ({ cls := cn2, name := "fill", desc := "([II)V" } : Jvm.MethodName) jdk_65_method_103_code (4 : Nat) (Option.none : Option Jvm.ClassFile.FieldType)).before a0 Z = true := hw _ (List.mem_of_getElem? (i := 32) rfl)
theorem w31 {Z : State} {a0 : Array Value} (hw : ∀ d ∈ tables_1, d.before a0 Z = true) : (Jvm.Cond.initialized cn2).before a0 Z = true := hw _ (List.mem_of_getElem? (i := 31) rfl)
theorem pd__II_V : parseMethodDescriptor "([II)V" = some ⟨[(.array .int), .int], none⟩ := by decide +kernel
theorem w30 {Z : State} {a0 : Array Value} (hw : ∀ d ∈ tables_1, d.before a0 Z = true) : (Jvm.Cond.static ({ cls := cn2, name := "fill", desc := "([II)V" } : Jvm.MethodName)).before a0 Z = true := hw _ (List.mem_of_getElem? (i := 30) rfl)
theorem d6_19 : decode prog_15_method_8_code 19 = .ok (.aload 5, 2) := by decide +kernel
theorem d6_21 : decode prog_15_method_8_code 21 = .ok (.iconst (-1), 1) := by decide +kernel
theorem d6_22 : decode prog_15_method_8_code 22 = .ok (.invokestatic 74, 3) := by decide +kernel
theorem d6_25 : decode prog_15_method_8_code 25 = .ok (.iconst 0, 1) := by decide +kernel
theorem d6_26 : decode prog_15_method_8_code 26 = .ok (.istore 6, 2) := by decide +kernel
theorem d6_28 : decode prog_15_method_8_code 28 = .ok (.iload 6, 2) := by decide +kernel
theorem d6_30 : decode prog_15_method_8_code 30 = .ok (.iload_n 3, 1) := by decide +kernel
theorem d6_31 : decode prog_15_method_8_code 31 = .ok (.if_icmp .ge 105, 3) := by decide +kernel
theorem d6_34 : decode prog_15_method_8_code 34 = .ok (.aload_n 1, 1) := by decide +kernel
theorem d6_35 : decode prog_15_method_8_code 35 = .ok (.iload 6, 2) := by decide +kernel
theorem d6_37 : decode prog_15_method_8_code 37 = .ok (.iaload, 1) := by decide +kernel
theorem d6_38 : decode prog_15_method_8_code 38 = .ok (.istore 7, 2) := by decide +kernel
theorem d6_40 : decode prog_15_method_8_code 40 = .ok (.aload_n 0, 1) := by decide +kernel
theorem d6_41 : decode prog_15_method_8_code 41 = .ok (.getfield 78, 3) := by decide +kernel
theorem w33 {Z : State} {a0 : Array Value} (hw : ∀ d ∈ tables_1, d.before a0 Z = true) : (Jvm.Cond.fieldLink cn0 (78 : Nat) cn1 "start" "[I").before a0 Z = true := hw _ (List.mem_of_getElem? (i := 33) rfl)
theorem d6_44 : decode prog_15_method_8_code 44 = .ok (.iload 7, 2) := by decide +kernel
theorem d6_46 : decode prog_15_method_8_code 46 = .ok (.iaload, 1) := by decide +kernel
theorem d6_47 : decode prog_15_method_8_code 47 = .ok (.istore 8, 2) := by decide +kernel
theorem d6_49 : decode prog_15_method_8_code 49 = .ok (.iload 8, 2) := by decide +kernel
theorem d6_51 : decode prog_15_method_8_code 51 = .ok (.aload_n 0, 1) := by decide +kernel
theorem d6_52 : decode prog_15_method_8_code 52 = .ok (.getfield 78, 3) := by decide +kernel
theorem d6_55 : decode prog_15_method_8_code 55 = .ok (.iload 7, 2) := by decide +kernel
theorem d6_57 : decode prog_15_method_8_code 57 = .ok (.iconst 1, 1) := by decide +kernel
theorem d6_58 : decode prog_15_method_8_code 58 = .ok (.iadd, 1) := by decide +kernel
theorem d6_59 : decode prog_15_method_8_code 59 = .ok (.iaload, 1) := by decide +kernel
theorem d6_60 : decode prog_15_method_8_code 60 = .ok (.if_icmp .ge 70, 3) := by decide +kernel
theorem d6_130 : decode prog_15_method_8_code 130 = .ok (.iinc 6 1, 3) := by decide +kernel
theorem d6_133 : decode prog_15_method_8_code 133 = .ok (.goto (-105), 3) := by decide +kernel
theorem d6_136 : decode prog_15_method_8_code 136 = .ok (.aload 4, 2) := by decide +kernel
theorem d6_138 : decode prog_15_method_8_code 138 = .ok (.areturn, 1) := by decide +kernel
def Q_r5_eliminationTree (Z : State) (ya1 : Addr) (ya2 : Addr) (ya3 : Addr) (yk6 : ClassId) (ya4 : Addr) (yk8 : ClassId) (h0 : Heap) (n0 : Nat) (v : Option Value) (h : Heap) (L : List Loc) : Prop := Fr n0 L ∧ Keep h0 h [] ∧ ((∃ (b2 : Addr) (k2 : ClassId), v = some (.ref b2) ∧ h0.size ≤ b2 ∧ Exa Z h b2 "[I" ∧ Arv Z h b2 k2 .int (1 : Int32) [(.int (-1 : Int32))] (.int (0 : Int32))))
set_option maxRecDepth 65536 in
set_option maxHeartbeats 40000000 in
theorem r5_eliminationTree (l : Launch) (Z : State) (a0 : Array Value) (hw : ∀ d ∈ tables_1, d.before a0 Z = true) (ws : List Jvm.Cond) (ya1 : Addr) (ya2 : Addr) (ya3 : Addr) (yk6 : ClassId) (ya4 : Addr) (yk8 : ClassId) (h0 : Heap) (n0 : Nat) (O0 : Old Z n0 h0) (F0 : Arv Z h0 ya2 yk6 .int (1 : Int32) [(.int (0 : Int32))] (.int (0 : Int32))) (F1 : Fld Z h0 ya1 cn1 "start" "[I" (.ref ya4)) (F2 : Arv Z h0 ya4 yk8 .int (2 : Int32) [(.int (0 : Int32)), (.int (0 : Int32))] (.int (0 : Int32))) :
    MetFree l (⟨cn0, "eliminationTree", "(Lcom/example/unea/unea/analysis/SparsePattern;[I[I)[I"⟩ : MethodName) (head1 (Jvm.Cond.code (⟨cn0, "eliminationTree", "(Lcom/example/unea/unea/analysis/SparsePattern;[I[I)[I"⟩ : MethodName) prog_15_method_8_code 11 (some (.array .int)) :: ws) ({ frames := 1, cells := 2, slots := 2, locals := 15 } : Room)) (fun a U => a = #[(.ref ya1), (.ref ya2), (.ref ya3)] ∧ Z.Warmed39 U.vm ∧ U.heap = h0) (fun _ _ _ _ _ => True) (fun _ U o U' => ∃ v L, o = .returned v ∧ Q_r5_eliminationTree Z ya1 ya2 ya3 yk6 ya4 yk8 h0 n0 v U'.heap L ∧ FrameEnd U o U' L ({ frames := 1, cells := 2, slots := 2, locals := 15 } : Room).cells ({ frames := 1, cells := 2, slots := 2, locals := 15 } : Room).slots) := by
  refine MetFree.of_bodySF (plainFor_of_name pn_com_example_unea_unea_analysis_Supernodes) hisR ?_
  intro p e s m args below meth c s₁ Bd hml0 hP hK
  obtain ⟨rfl, hZ, hh⟩ := hP
  have hx := Bd.exec
  have hby := Bd.bytes
  have hlk := Bd.notSynchronized
  have hml : c.maxLocals = 11 := hml0
  have hown : s.vm.findClass cn0 = some m.cls := findClass_of_methodNamed Bd.named
  have hnm := (name_of_methodNamed Bd.named Bd.method).1
  have X0 : Stand p l e ({ frames := 1, cells := 2, slots := 2, locals := 15 } : Room) s m #[(.ref ya1), (.ref ya2), (.ref ya3)] below meth c s₁ [] 0 0 := Stand.of_body Bd
  have e0 : s₁.heap = h0 := by rw [← hh, Bd.state]; rfl
  have N0 := Fr.nil n0
  have K0 := Keep.refl h0 []
  have Z0 : n0 ≤ h0.size := O0.1 ▸ O0.2.1
  have hef : entryFrame m #[(.ref ya1), (.ref ya2), (.ref ya3)] 11 = mkF m 0 #[.val (.ref ya1), .val (.ref ya2), .val (.ref ya3), .unset, .unset, .unset, .unset, .unset, .unset, .unset, .unset] [] := by first | (simp [entryFrame, mkF, argsToLocals, Value.category]; done) | rfl
  rw [hef]
  refine Gets.out (Q := Q_r5_eliminationTree Z ya1 ya2 ya3 yk6 ya4 yk8 h0 n0) ?_
  show Gets p e below _ (s₁.setTop (mkF m 0 #[.val (.ref ya1), .val (.ref ya2), .val (.ref ya3), .unset, .unset, .unset, .unset, .unset, .unset, .unset, .unset] []))
  refine Gets.of (fun t k => XS.aloadN X0.here hx rfl (hb hby d6_0) rfl rfl  k) ?_
  obtain ⟨cl1, Ar1, -, S1, N_1, -, -⟩ := id (F0)
  refine Gets.of (X0.arraylength hx (by rw [e0]; exact Ar1.1) (State.isArrayOf_alike hZ.alike Ar1.2.1) (g := (mkF m 1 #[.val (.ref ya1), .val (.ref ya2), .val (.ref ya3), .unset, .unset, .unset, .unset, .unset, .unset, .unset, .unset] [(.ref ya2)])) rfl rfl (hb hby d6_1)) ?_
  rw [len_of S1 N_1]
  show Gets p e below _ (s₁.setTop (mkF m 2 #[.val (.ref ya1), .val (.ref ya2), .val (.ref ya3), .unset, .unset, .unset, .unset, .unset, .unset, .unset, .unset] [(.int (1 : Int32))]))
  refine Gets.of (fun t k => XS.istoreN X0.here hx rfl (hb hby d6_2) rfl (l' := #[.val (.ref ya1), .val (.ref ya2), .val (.ref ya3), .val (.int (1 : Int32)), .unset, .unset, .unset, .unset, .unset, .unset, .unset]) rfl k) ?_
  show Gets p e below _ (s₁.setTop (mkF m 3 #[.val (.ref ya1), .val (.ref ya2), .val (.ref ya3), .val (.int (1 : Int32)), .unset, .unset, .unset, .unset, .unset, .unset, .unset] []))
  refine Gets.of (fun t k => XS.iloadN X0.here hx rfl (hb hby d6_3) rfl  k) ?_
  obtain ⟨T2, h2, k2, X2, e2, E2, A2, Ex2, st2⟩ := newPE X0 hx hZ (aty := .int) (w3 hw) e0 (g := (mkF m 4 #[.val (.ref ya1), .val (.ref ya2), .val (.ref ya3), .val (.int (1 : Int32)), .unset, .unset, .unset, .unset, .unset, .unset, .unset] [(.int (1 : Int32))])) rfl (hb hby d6_4) rfl (by decide) (cap := 1) (by decide) (by decide) (by decide) (by decide) (ad := "[I") rfl
  obtain ⟨b2, g2⟩ : ∃ z, z = h0.size := ⟨_, rfl⟩
  rw [← g2] at A2 Ex2 st2
  have sz_b2 : h0.size ≤ b2 := Nat.le_trans K0.1 (Nat.le_of_eq g2.symm)
  have g_b2 : n0 ≤ b2 := Nat.le_trans Z0 sz_b2
  have K3 := K0.ext E2
  have O3 := O0.ext E2
  have V2 : Arv Z h2 b2 k2 .int (1 : Int32) [(.int (0 : Int32))] (.int (0 : Int32)) := (Arv.new A2 (by decide)).pad (pad_rep [] (.int (0 : Int32)) 1)
  refine Gets.of st2 ?_
  show Gets p e below _ (T2.setTop (mkF m 6 #[.val (.ref ya1), .val (.ref ya2), .val (.ref ya3), .val (.int (1 : Int32)), .unset, .unset, .unset, .unset, .unset, .unset, .unset] [(.ref b2)]))
  refine Gets.of (fun t k => XS.astore X2.here hx rfl (hb hby d6_6) rfl rfl (l' := #[.val (.ref ya1), .val (.ref ya2), .val (.ref ya3), .val (.int (1 : Int32)), .val (.ref b2), .unset, .unset, .unset, .unset, .unset, .unset]) rfl k) ?_
  show Gets p e below _ (T2.setTop (mkF m 8 #[.val (.ref ya1), .val (.ref ya2), .val (.ref ya3), .val (.int (1 : Int32)), .val (.ref b2), .unset, .unset, .unset, .unset, .unset, .unset] []))
  refine Gets.of (fun t k => XS.iloadN X2.here hx rfl (hb hby d6_8) rfl  k) ?_
  obtain ⟨T4, h4, k4, X4, e4, E4, A4, Ex4, st4⟩ := newPE X2 hx hZ (aty := .int) (w3 hw) e2 (g := (mkF m 9 #[.val (.ref ya1), .val (.ref ya2), .val (.ref ya3), .val (.int (1 : Int32)), .val (.ref b2), .unset, .unset, .unset, .unset, .unset, .unset] [(.int (1 : Int32))])) rfl (hb hby d6_9) rfl (by decide) (cap := 1) (by decide) (by decide) (by decide) (by decide) (ad := "[I") rfl
  obtain ⟨b4, g4⟩ : ∃ z, z = h2.size := ⟨_, rfl⟩
  rw [← g4] at A4 Ex4 st4
  have sz_b4 : h0.size ≤ b4 := Nat.le_trans K3.1 (Nat.le_of_eq g4.symm)
  have g_b4 : n0 ≤ b4 := Nat.le_trans Z0 sz_b4
  have K5 := K3.ext E4
  have O5 := O3.ext E4
  have V4 : Arv Z h4 b4 k4 .int (1 : Int32) [(.int (0 : Int32))] (.int (0 : Int32)) := (Arv.new A4 (by decide)).pad (pad_rep [] (.int (0 : Int32)) 1)
  refine Gets.of st4 ?_
  show Gets p e below _ (T4.setTop (mkF m 11 #[.val (.ref ya1), .val (.ref ya2), .val (.ref ya3), .val (.int (1 : Int32)), .val (.ref b2), .unset, .unset, .unset, .unset, .unset, .unset] [(.ref b4)]))
  refine Gets.of (fun t k => XS.astore X4.here hx rfl (hb hby d6_11) rfl rfl (l' := #[.val (.ref ya1), .val (.ref ya2), .val (.ref ya3), .val (.int (1 : Int32)), .val (.ref b2), .val (.ref b4), .unset, .unset, .unset, .unset, .unset]) rfl k) ?_
  show Gets p e below _ (T4.setTop (mkF m 13 #[.val (.ref ya1), .val (.ref ya2), .val (.ref ya3), .val (.int (1 : Int32)), .val (.ref b2), .val (.ref b4), .unset, .unset, .unset, .unset, .unset] []))
  refine Gets.of (fun t k => XS.aload X4.here hx rfl (hb hby d6_13) rfl rfl  k) ?_
  refine Gets.of (fun t k => XS.iconst X4.here hx rfl (hb hby d6_15) k) ?_
  have f6 : Arv Z h4 b2 k2 .int (1 : Int32) [(.int (0 : Int32))] (.int (0 : Int32)) := (V2.ext E4)
  obtain ⟨_, _, ⟨T7, L7, k7, n7⟩, -, X7, ⟨Lc7, hQ7, l7, y7, z7⟩, st7⟩ := Jvm.LawKit.callS X4 hx (y := (⟨cn2, "fill", "([II)V"⟩ : MethodName)) hown (mvT hZ (w29 hw)) (mvT hZ (w30 hw)) (mvT hZ (w31 hw)) (mvT hZ (w32 hw)) (by decide) (backOf (W := 0) (r6_fill l Z a0 hw [] b2 k2 h4 n0 O5 f6 g_b2) hZ (w32 hw) (w31 hw) (by decide) (by decide)) (g := (mkF m 16 #[.val (.ref ya1), .val (.ref ya2), .val (.ref ya3), .val (.int (1 : Int32)), .val (.ref b2), .val (.ref b4), .unset, .unset, .unset, .unset, .unset] [(.int (-1 : Int32)), (.ref b2)])) rfl (by rw [hml]; rfl) (argsL := [(.ref b2), (.int (-1 : Int32))]) (rest := []) (lenOf pd__II_V rfl) rfl (by show 2 * 0 + _ ≤ _; exact Nat.le_of_eq rfl) (hb hby d6_16) (fun _ _ => ⟨rfl, e4, (by decide : 2 + 0 ≤ _), (by decide : 2 + 0 ≤ _)⟩)
  dsimp only [Pt.U, Pt.locs, Pt.cells, Pt.slots] at X7 l7 y7 z7 st7 hQ7
  subst l7 y7 z7
  obtain ⟨Nq7, Kq7, hR7⟩ := hQ7
  have N7 := Fr.app N0 Nq7
  have K8 : Keep h0 _ [] := K5.trans Kq7 (allS (Or.inr sz_b2) all0)
  have O8 := O5.keep Kq7 (allS g_b2 all0)
  obtain ⟨rfl, bf7_0⟩ := hR7
  refine Gets.of st7 ?_
  show Gets p e below _ (T7.setTop (mkF m 19 #[.val (.ref ya1), .val (.ref ya2), .val (.ref ya3), .val (.int (1 : Int32)), .val (.ref b2), .val (.ref b4), .unset, .unset, .unset, .unset, .unset] []))
  refine Gets.of (fun t k => XS.aload X7.here hx rfl (hb hby d6_19) rfl rfl  k) ?_
  refine Gets.of (fun t k => XS.iconst X7.here hx rfl (hb hby d6_21) k) ?_
  have f9 : Arv Z T7.heap b4 k4 .int (1 : Int32) [(.int (0 : Int32))] (.int (0 : Int32)) := (V4.keep Kq7 (ninS (Nat.ne_of_gt (Nat.lt_of_lt_of_le V2.lt (Nat.le_of_eq g4.symm))) nin0))
  obtain ⟨_, _, ⟨T10, L10, k10, n10⟩, -, X10, ⟨Lc10, hQ10, l10, y10, z10⟩, st10⟩ := Jvm.LawKit.callS X7 hx (y := (⟨cn2, "fill", "([II)V"⟩ : MethodName)) hown (mvT hZ (w29 hw)) (mvT hZ (w30 hw)) (mvT hZ (w31 hw)) (mvT hZ (w32 hw)) (by decide) (backOf (W := 0) (r6_fill l Z a0 hw [] b4 k4 T7.heap n0 O8 f9 g_b4) hZ (w32 hw) (w31 hw) (by decide) (by decide)) (g := (mkF m 22 #[.val (.ref ya1), .val (.ref ya2), .val (.ref ya3), .val (.int (1 : Int32)), .val (.ref b2), .val (.ref b4), .unset, .unset, .unset, .unset, .unset] [(.int (-1 : Int32)), (.ref b4)])) rfl (by rw [hml]; rfl) (argsL := [(.ref b4), (.int (-1 : Int32))]) (rest := []) (lenOf pd__II_V rfl) rfl (by show 2 * 0 + _ ≤ _; exact Nat.le_of_eq rfl) (hb hby d6_22) (fun _ _ => ⟨rfl, rfl, (by decide : 2 + 0 ≤ _), (by decide : 2 + 0 ≤ _)⟩)
  dsimp only [Pt.U, Pt.locs, Pt.cells, Pt.slots] at X10 l10 y10 z10 st10 hQ10
  subst l10 y10 z10
  obtain ⟨Nq10, Kq10, hR10⟩ := hQ10
  have N10 := Fr.app N7 Nq10
  have K11 : Keep h0 _ [] := K8.trans Kq10 (allS (Or.inr sz_b4) all0)
  have O11 := O8.keep Kq10 (allS g_b4 all0)
  obtain ⟨rfl, bf10_0⟩ := hR10
  refine Gets.of st10 ?_
  show Gets p e below _ (T10.setTop (mkF m 25 #[.val (.ref ya1), .val (.ref ya2), .val (.ref ya3), .val (.int (1 : Int32)), .val (.ref b2), .val (.ref b4), .unset, .unset, .unset, .unset, .unset] []))
  refine Gets.of (fun t k => XS.iconst X10.here hx rfl (hb hby d6_25) k) ?_
  refine Gets.of (fun t k => XS.istore X10.here hx rfl (hb hby d6_26) rfl (l' := #[.val (.ref ya1), .val (.ref ya2), .val (.ref ya3), .val (.int (1 : Int32)), .val (.ref b2), .val (.ref b4), .val (.int (0 : Int32)), .unset, .unset, .unset, .unset]) rfl k) ?_
  show Gets p e below _ (T10.setTop (mkF m 28 #[.val (.ref ya1), .val (.ref ya2), .val (.ref ya3), .val (.int (1 : Int32)), .val (.ref b2), .val (.ref b4), .val (.int (0 : Int32)), .unset, .unset, .unset, .unset] []))
  refine Gets.of (fun t k => XS.iload X10.here hx rfl (hb hby d6_28) rfl  k) ?_
  refine Gets.of (fun t k => XS.iloadN X10.here hx rfl (hb hby d6_30) rfl  k) ?_
  refine Gets.of (fun t k => XS.icmpNo X10.here hx rfl (hb hby d6_31) rfl (tlt (by decide : (0 : Int32) < (1 : Int32))).2.1 k) ?_
  show Gets p e below _ (T10.setTop (mkF m 34 #[.val (.ref ya1), .val (.ref ya2), .val (.ref ya3), .val (.int (1 : Int32)), .val (.ref b2), .val (.ref b4), .val (.int (0 : Int32)), .unset, .unset, .unset, .unset] []))
  refine Gets.of (fun t k => XS.aloadN X10.here hx rfl (hb hby d6_34) rfl rfl  k) ?_
  refine Gets.of (fun t k => XS.iload X10.here hx rfl (hb hby d6_35) rfl  k) ?_
  have f12 : Arv Z T10.heap ya2 yk6 .int (1 : Int32) [(.int (0 : Int32))] (.int (0 : Int32)) := ((((F0.ext E2).ext E4).keep Kq7 (ninS (Nat.ne_of_lt (Nat.lt_of_lt_of_le F0.lt sz_b2)) nin0)).keep Kq10 (ninS (Nat.ne_of_lt (Nat.lt_of_lt_of_le F0.lt sz_b4)) nin0))
  obtain ⟨cl13, Ar13, q13, S13, N_13, H13, G13⟩ := id (f12)
  have hin13 : ¬ ((0 : Int32) < 0 ∨ cl13.slots.size ≤ ((0 : Int32)).toNatClampNeg) := inb_of S13 ⟨by decide, by decide⟩
  refine Gets.of (fun t k => X10.iaload hx (j := (0 : Int32)) (v := (.int (0 : Int32))) Ar13.1 (State.isArrayOf_alike hZ.alike Ar13.2.1) Ar13.2.2 hin13 (Has.at H13 hin13 rfl) (g := (mkF m 37 #[.val (.ref ya1), .val (.ref ya2), .val (.ref ya3), .val (.int (1 : Int32)), .val (.ref b2), .val (.ref b4), .val (.int (0 : Int32)), .unset, .unset, .unset, .unset] [(.int (0 : Int32)), (.ref ya2)])) rfl rfl (hb hby d6_37) t k) ?_
  show Gets p e below _ (T10.setTop (mkF m 38 #[.val (.ref ya1), .val (.ref ya2), .val (.ref ya3), .val (.int (1 : Int32)), .val (.ref b2), .val (.ref b4), .val (.int (0 : Int32)), .unset, .unset, .unset, .unset] [(.int (0 : Int32))]))
  refine Gets.of (fun t k => XS.istore X10.here hx rfl (hb hby d6_38) rfl (l' := #[.val (.ref ya1), .val (.ref ya2), .val (.ref ya3), .val (.int (1 : Int32)), .val (.ref b2), .val (.ref b4), .val (.int (0 : Int32)), .val (.int (0 : Int32)), .unset, .unset, .unset]) rfl k) ?_
  show Gets p e below _ (T10.setTop (mkF m 40 #[.val (.ref ya1), .val (.ref ya2), .val (.ref ya3), .val (.int (1 : Int32)), .val (.ref b2), .val (.ref b4), .val (.int (0 : Int32)), .val (.int (0 : Int32)), .unset, .unset, .unset] []))
  refine Gets.of (fun t k => XS.aloadN X10.here hx rfl (hb hby d6_40) rfl rfl  k) ?_
  have f14 : Fld Z T10.heap ya1 cn1 "start" "[I" (.ref ya4) := ((((F1.ext E2).ext E4).keep Kq7 (ninS (Nat.ne_of_lt (Nat.lt_of_lt_of_le F1.lt sz_b2)) nin0)).keep Kq10 (ninS (Nat.ne_of_lt (Nat.lt_of_lt_of_le F1.lt sz_b4)) nin0))
  obtain ⟨T15, X15, e15, st15⟩ := getF X10 hx hZ hown (host := "") (Or.inl (w33 hw)) Via.refl rfl f14 (g := (mkF m 41 #[.val (.ref ya1), .val (.ref ya2), .val (.ref ya3), .val (.int (1 : Int32)), .val (.ref b2), .val (.ref b4), .val (.int (0 : Int32)), .val (.int (0 : Int32)), .unset, .unset, .unset] [(.ref ya1)])) rfl rfl (hb hby d6_41)
  refine Gets.of st15 ?_
  show Gets p e below _ (T15.setTop (mkF m 44 #[.val (.ref ya1), .val (.ref ya2), .val (.ref ya3), .val (.int (1 : Int32)), .val (.ref b2), .val (.ref b4), .val (.int (0 : Int32)), .val (.int (0 : Int32)), .unset, .unset, .unset] [(.ref ya4)]))
  refine Gets.of (fun t k => XS.iload X15.here hx rfl (hb hby d6_44) rfl  k) ?_
  have f16 : Arv Z T10.heap ya4 yk8 .int (2 : Int32) [(.int (0 : Int32)), (.int (0 : Int32))] (.int (0 : Int32)) := ((((F2.ext E2).ext E4).keep Kq7 (ninS (Nat.ne_of_lt (Nat.lt_of_lt_of_le F2.lt sz_b2)) nin0)).keep Kq10 (ninS (Nat.ne_of_lt (Nat.lt_of_lt_of_le F2.lt sz_b4)) nin0))
  obtain ⟨cl17, Ar17, q17, S17, N_17, H17, G17⟩ := id (f16)
  have hin17 : ¬ ((0 : Int32) < 0 ∨ cl17.slots.size ≤ ((0 : Int32)).toNatClampNeg) := inb_of S17 ⟨by decide, by decide⟩
  refine Gets.of (fun t k => X15.iaload hx (j := (0 : Int32)) (v := (.int (0 : Int32))) (by rw [e15]; exact Ar17.1) (State.isArrayOf_alike hZ.alike Ar17.2.1) Ar17.2.2 hin17 (Has.at H17 hin17 rfl) (g := (mkF m 46 #[.val (.ref ya1), .val (.ref ya2), .val (.ref ya3), .val (.int (1 : Int32)), .val (.ref b2), .val (.ref b4), .val (.int (0 : Int32)), .val (.int (0 : Int32)), .unset, .unset, .unset] [(.int (0 : Int32)), (.ref ya4)])) rfl rfl (hb hby d6_46) t k) ?_
  show Gets p e below _ (T15.setTop (mkF m 47 #[.val (.ref ya1), .val (.ref ya2), .val (.ref ya3), .val (.int (1 : Int32)), .val (.ref b2), .val (.ref b4), .val (.int (0 : Int32)), .val (.int (0 : Int32)), .unset, .unset, .unset] [(.int (0 : Int32))]))
  refine Gets.of (fun t k => XS.istore X15.here hx rfl (hb hby d6_47) rfl (l' := #[.val (.ref ya1), .val (.ref ya2), .val (.ref ya3), .val (.int (1 : Int32)), .val (.ref b2), .val (.ref b4), .val (.int (0 : Int32)), .val (.int (0 : Int32)), .val (.int (0 : Int32)), .unset, .unset]) rfl k) ?_
  show Gets p e below _ (T15.setTop (mkF m 49 #[.val (.ref ya1), .val (.ref ya2), .val (.ref ya3), .val (.int (1 : Int32)), .val (.ref b2), .val (.ref b4), .val (.int (0 : Int32)), .val (.int (0 : Int32)), .val (.int (0 : Int32)), .unset, .unset] []))
  refine Gets.of (fun t k => XS.iload X15.here hx rfl (hb hby d6_49) rfl  k) ?_
  refine Gets.of (fun t k => XS.aloadN X15.here hx rfl (hb hby d6_51) rfl rfl  k) ?_
  obtain ⟨T18, X18, e18, st18⟩ := getF X15 hx hZ hown (host := "") (Or.inl (w33 hw)) Via.refl e15 f14 (g := (mkF m 52 #[.val (.ref ya1), .val (.ref ya2), .val (.ref ya3), .val (.int (1 : Int32)), .val (.ref b2), .val (.ref b4), .val (.int (0 : Int32)), .val (.int (0 : Int32)), .val (.int (0 : Int32)), .unset, .unset] [(.ref ya1), (.int (0 : Int32))])) rfl rfl (hb hby d6_52)
  refine Gets.of st18 ?_
  show Gets p e below _ (T18.setTop (mkF m 55 #[.val (.ref ya1), .val (.ref ya2), .val (.ref ya3), .val (.int (1 : Int32)), .val (.ref b2), .val (.ref b4), .val (.int (0 : Int32)), .val (.int (0 : Int32)), .val (.int (0 : Int32)), .unset, .unset] [(.ref ya4), (.int (0 : Int32))]))
  refine Gets.of (fun t k => XS.iload X18.here hx rfl (hb hby d6_55) rfl  k) ?_
  refine Gets.of (fun t k => XS.iconst X18.here hx rfl (hb hby d6_57) k) ?_
  refine Gets.of (fun t k => XS.iadd X18.here hx rfl (hb hby d6_58) rfl k) ?_
  show Gets p e below _ (T18.setTop (mkF m 59 #[.val (.ref ya1), .val (.ref ya2), .val (.ref ya3), .val (.int (1 : Int32)), .val (.ref b2), .val (.ref b4), .val (.int (0 : Int32)), .val (.int (0 : Int32)), .val (.int (0 : Int32)), .unset, .unset] [(.int (1 : Int32)), (.ref ya4), (.int (0 : Int32))]))
  obtain ⟨cl19, Ar19, q19, S19, N_19, H19, G19⟩ := id (f16)
  have hin19 : ¬ ((1 : Int32) < 0 ∨ cl19.slots.size ≤ ((1 : Int32)).toNatClampNeg) := inb_of S19 ⟨by decide, by decide⟩
  refine Gets.of (fun t k => X18.iaload hx (j := (1 : Int32)) (v := (.int (0 : Int32))) (by rw [e18]; exact Ar19.1) (State.isArrayOf_alike hZ.alike Ar19.2.1) Ar19.2.2 hin19 (Has.at H19 hin19 rfl) (g := (mkF m 59 #[.val (.ref ya1), .val (.ref ya2), .val (.ref ya3), .val (.int (1 : Int32)), .val (.ref b2), .val (.ref b4), .val (.int (0 : Int32)), .val (.int (0 : Int32)), .val (.int (0 : Int32)), .unset, .unset] [(.int (1 : Int32)), (.ref ya4), (.int (0 : Int32))])) rfl rfl (hb hby d6_59) t k) ?_
  show Gets p e below _ (T18.setTop (mkF m 60 #[.val (.ref ya1), .val (.ref ya2), .val (.ref ya3), .val (.int (1 : Int32)), .val (.ref b2), .val (.ref b4), .val (.int (0 : Int32)), .val (.int (0 : Int32)), .val (.int (0 : Int32)), .unset, .unset] [(.int (0 : Int32)), (.int (0 : Int32))]))
  refine Gets.of (fun t k => XS.icmpYes X18.here hx rfl (pc0 := 60) (pc' := 130) rfl (hb hby d6_60) rfl (flt (by decide : ¬ ((0 : Int32) < (0 : Int32)))).2.1 (by decide) (by decide) k) ?_
  show Gets p e below _ (T18.setTop (mkF m 130 #[.val (.ref ya1), .val (.ref ya2), .val (.ref ya3), .val (.int (1 : Int32)), .val (.ref b2), .val (.ref b4), .val (.int (0 : Int32)), .val (.int (0 : Int32)), .val (.int (0 : Int32)), .unset, .unset] []))
  refine Gets.of (fun t k => XS.iinc X18.here hx rfl (hb hby d6_130) rfl (l' := #[.val (.ref ya1), .val (.ref ya2), .val (.ref ya3), .val (.int (1 : Int32)), .val (.ref b2), .val (.ref b4), .val (.int (1 : Int32)), .val (.int (0 : Int32)), .val (.int (0 : Int32)), .unset, .unset]) rfl k) ?_
  show Gets p e below _ (T18.setTop (mkF m 133 #[.val (.ref ya1), .val (.ref ya2), .val (.ref ya3), .val (.int (1 : Int32)), .val (.ref b2), .val (.ref b4), .val (.int (1 : Int32)), .val (.int (0 : Int32)), .val (.int (0 : Int32)), .unset, .unset] []))
  refine Gets.of (fun t k => XS.goto X18.here hx rfl (pc0 := 133) (pc' := 28) rfl (hb hby d6_133) (by decide) (by decide) k) ?_
  show Gets p e below _ (T18.setTop (mkF m 28 #[.val (.ref ya1), .val (.ref ya2), .val (.ref ya3), .val (.int (1 : Int32)), .val (.ref b2), .val (.ref b4), .val (.int (1 : Int32)), .val (.int (0 : Int32)), .val (.int (0 : Int32)), .unset, .unset] []))
  refine Gets.of (fun t k => XS.iload X18.here hx rfl (hb hby d6_28) rfl  k) ?_
  refine Gets.of (fun t k => XS.iloadN X18.here hx rfl (hb hby d6_30) rfl  k) ?_
  refine Gets.of (fun t k => XS.icmpYes X18.here hx rfl (pc0 := 31) (pc' := 136) rfl (hb hby d6_31) rfl (flt (by decide : ¬ ((1 : Int32) < (1 : Int32)))).2.1 (by decide) (by decide) k) ?_
  show Gets p e below _ (T18.setTop (mkF m 136 #[.val (.ref ya1), .val (.ref ya2), .val (.ref ya3), .val (.int (1 : Int32)), .val (.ref b2), .val (.ref b4), .val (.int (1 : Int32)), .val (.int (0 : Int32)), .val (.int (0 : Int32)), .unset, .unset] []))
  refine Gets.of (fun t k => XS.aload X18.here hx rfl (hb hby d6_136) rfl rfl  k) ?_
  refine Gets.retA X18 hx Bd.returns rfl rfl (hb hby d6_138) ?_ (by decide) (by decide)
  rw [e18]
  have f20 : Exa Z T10.heap b2 "[I" := (((Ex2.ext E4).keep Kq7).keep Kq10)
  have f21 : Arv Z T10.heap b2 k2 .int (1 : Int32) [(.int (-1 : Int32))] (.int (0 : Int32)) := (bf7_0.keep Kq10 (ninS (Nat.ne_of_lt (Nat.lt_of_lt_of_le V2.lt (Nat.le_of_eq g4.symm))) nin0))
  exact ⟨N10, K11, ⟨b2, k2, rfl, sz_b2, f20, f21⟩⟩
theorem w28 {Z : State} {a0 : Array Value} (hw : ∀ d ∈ tables_1, d.before a0 Z = true) : (Jvm.Cond.code ({ cls := cn0, name := "eliminationTree", desc := "(Lcom/example/unea/unea/analysis/SparsePattern;[I[I)[I" } : Jvm.MethodName) prog_15_method_8_code (11 : Nat) (Option.some (Jvm.ClassFile.FieldType.array Jvm.ClassFile.FieldType.int))).before a0 Z = true := hw _ (List.mem_of_getElem? (i := 28) rfl)
theorem pd__Lcom_example_unea_unea_analysis_SparsePattern_I_I_I : parseMethodDescriptor "(Lcom/example/unea/unea/analysis/SparsePattern;[I[I)[I" = some ⟨[(.object "com/example/unea/unea/analysis/SparsePattern"), (.array .int), (.array .int)], some (.array .int)⟩ := by decide +kernel
theorem w27 {Z : State} {a0 : Array Value} (hw : ∀ d ∈ tables_1, d.before a0 Z = true) : (Jvm.Cond.static ({ cls := cn0, name := "eliminationTree", desc := "(Lcom/example/unea/unea/analysis/SparsePattern;[I[I)[I" } : Jvm.MethodName)).before a0 Z = true := hw _ (List.mem_of_getElem? (i := 27) rfl)
theorem d3_14 : decode prog_15_method_2_code 14 = .ok (.astore_n 3, 1) := by decide +kernel
theorem d3_15 : decode prog_15_method_2_code 15 = .ok (.aload_n 3, 1) := by decide +kernel
theorem d3_16 : decode prog_15_method_2_code 16 = .ok (.invokestatic 46, 3) := by decide +kernel
theorem w34 {Z : State} {a0 : Array Value} (hw : ∀ d ∈ tables_1, d.before a0 Z = true) : (Jvm.Cond.methodLink cn0 (46 : Nat) ({ cls := cn0, name := "postorder", desc := "([I)[I" } : Jvm.MethodName)).before a0 Z = true := hw _ (List.mem_of_getElem? (i := 34) rfl)
theorem d8_0 : decode prog_15_method_9_code 0 = .ok (.aload_n 0, 1) := by decide +kernel
theorem d8_1 : decode prog_15_method_9_code 1 = .ok (.arraylength, 1) := by decide +kernel
theorem d8_2 : decode prog_15_method_9_code 2 = .ok (.istore_n 1, 1) := by decide +kernel
theorem d8_3 : decode prog_15_method_9_code 3 = .ok (.iload_n 1, 1) := by decide +kernel
theorem d8_4 : decode prog_15_method_9_code 4 = .ok (.newarray .int, 2) := by decide +kernel
theorem d8_6 : decode prog_15_method_9_code 6 = .ok (.astore_n 2, 1) := by decide +kernel
theorem d8_7 : decode prog_15_method_9_code 7 = .ok (.iload_n 1, 1) := by decide +kernel
theorem d8_8 : decode prog_15_method_9_code 8 = .ok (.newarray .int, 2) := by decide +kernel
theorem d8_10 : decode prog_15_method_9_code 10 = .ok (.astore_n 3, 1) := by decide +kernel
theorem d8_11 : decode prog_15_method_9_code 11 = .ok (.aload_n 2, 1) := by decide +kernel
theorem d8_12 : decode prog_15_method_9_code 12 = .ok (.iconst (-1), 1) := by decide +kernel
theorem d8_13 : decode prog_15_method_9_code 13 = .ok (.invokestatic 74, 3) := by decide +kernel
theorem d8_16 : decode prog_15_method_9_code 16 = .ok (.iload_n 1, 1) := by decide +kernel
theorem d8_17 : decode prog_15_method_9_code 17 = .ok (.iconst 1, 1) := by decide +kernel
theorem d8_18 : decode prog_15_method_9_code 18 = .ok (.isub, 1) := by decide +kernel
theorem d8_19 : decode prog_15_method_9_code 19 = .ok (.istore 4, 2) := by decide +kernel
theorem d8_21 : decode prog_15_method_9_code 21 = .ok (.iload 4, 2) := by decide +kernel
theorem d8_23 : decode prog_15_method_9_code 23 = .ok (.ifCond .lt 34, 3) := by decide +kernel
theorem d8_26 : decode prog_15_method_9_code 26 = .ok (.aload_n 0, 1) := by decide +kernel
theorem d8_27 : decode prog_15_method_9_code 27 = .ok (.iload 4, 2) := by decide +kernel
theorem d8_29 : decode prog_15_method_9_code 29 = .ok (.iaload, 1) := by decide +kernel
theorem d8_30 : decode prog_15_method_9_code 30 = .ok (.ifCond .lt 21, 3) := by decide +kernel
theorem d8_51 : decode prog_15_method_9_code 51 = .ok (.iinc 4 (-1), 3) := by decide +kernel
theorem d8_54 : decode prog_15_method_9_code 54 = .ok (.goto (-33), 3) := by decide +kernel
theorem d8_57 : decode prog_15_method_9_code 57 = .ok (.iload_n 1, 1) := by decide +kernel
theorem d8_58 : decode prog_15_method_9_code 58 = .ok (.newarray .int, 2) := by decide +kernel
theorem d8_60 : decode prog_15_method_9_code 60 = .ok (.astore 4, 2) := by decide +kernel
theorem d8_62 : decode prog_15_method_9_code 62 = .ok (.iconst 0, 1) := by decide +kernel
theorem d8_63 : decode prog_15_method_9_code 63 = .ok (.istore 5, 2) := by decide +kernel
theorem d8_65 : decode prog_15_method_9_code 65 = .ok (.iload_n 1, 1) := by decide +kernel
theorem d8_66 : decode prog_15_method_9_code 66 = .ok (.newarray .int, 2) := by decide +kernel
theorem d8_68 : decode prog_15_method_9_code 68 = .ok (.astore 6, 2) := by decide +kernel
theorem d8_70 : decode prog_15_method_9_code 70 = .ok (.iconst 0, 1) := by decide +kernel
theorem d8_71 : decode prog_15_method_9_code 71 = .ok (.istore 7, 2) := by decide +kernel
theorem d8_73 : decode prog_15_method_9_code 73 = .ok (.iload 7, 2) := by decide +kernel
theorem d8_75 : decode prog_15_method_9_code 75 = .ok (.iload_n 1, 1) := by decide +kernel
theorem d8_76 : decode prog_15_method_9_code 76 = .ok (.if_icmp .ge 94, 3) := by decide +kernel
theorem d8_79 : decode prog_15_method_9_code 79 = .ok (.aload_n 0, 1) := by decide +kernel
theorem d8_80 : decode prog_15_method_9_code 80 = .ok (.iload 7, 2) := by decide +kernel
theorem d8_82 : decode prog_15_method_9_code 82 = .ok (.iaload, 1) := by decide +kernel
theorem d8_83 : decode prog_15_method_9_code 83 = .ok (.ifCond .lt 6, 3) := by decide +kernel
theorem d8_89 : decode prog_15_method_9_code 89 = .ok (.iconst 0, 1) := by decide +kernel
theorem d8_90 : decode prog_15_method_9_code 90 = .ok (.istore 8, 2) := by decide +kernel
theorem d8_92 : decode prog_15_method_9_code 92 = .ok (.aload 6, 2) := by decide +kernel
theorem d8_94 : decode prog_15_method_9_code 94 = .ok (.iload 8, 2) := by decide +kernel
theorem d8_96 : decode prog_15_method_9_code 96 = .ok (.iinc 8 1, 3) := by decide +kernel
theorem d8_99 : decode prog_15_method_9_code 99 = .ok (.iload 7, 2) := by decide +kernel
theorem d8_101 : decode prog_15_method_9_code 101 = .ok (.iastore, 1) := by decide +kernel
theorem d8_102 : decode prog_15_method_9_code 102 = .ok (.iload 8, 2) := by decide +kernel
theorem d8_104 : decode prog_15_method_9_code 104 = .ok (.ifCond .le 60, 3) := by decide +kernel
theorem d8_107 : decode prog_15_method_9_code 107 = .ok (.aload 6, 2) := by decide +kernel
theorem d8_109 : decode prog_15_method_9_code 109 = .ok (.iload 8, 2) := by decide +kernel
theorem d8_111 : decode prog_15_method_9_code 111 = .ok (.iconst 1, 1) := by decide +kernel
theorem d8_112 : decode prog_15_method_9_code 112 = .ok (.isub, 1) := by decide +kernel
theorem d8_113 : decode prog_15_method_9_code 113 = .ok (.iaload, 1) := by decide +kernel
theorem d8_114 : decode prog_15_method_9_code 114 = .ok (.istore 9, 2) := by decide +kernel
theorem d8_116 : decode prog_15_method_9_code 116 = .ok (.aload_n 2, 1) := by decide +kernel
theorem d8_117 : decode prog_15_method_9_code 117 = .ok (.iload 9, 2) := by decide +kernel
theorem d8_119 : decode prog_15_method_9_code 119 = .ok (.iaload, 1) := by decide +kernel
theorem d8_120 : decode prog_15_method_9_code 120 = .ok (.istore 10, 2) := by decide +kernel
theorem d8_122 : decode prog_15_method_9_code 122 = .ok (.iload 10, 2) := by decide +kernel
theorem d8_124 : decode prog_15_method_9_code 124 = .ok (.ifCond .lt 24, 3) := by decide +kernel
theorem d8_148 : decode prog_15_method_9_code 148 = .ok (.iinc 8 (-1), 3) := by decide +kernel
theorem d8_151 : decode prog_15_method_9_code 151 = .ok (.aload 4, 2) := by decide +kernel
theorem d8_153 : decode prog_15_method_9_code 153 = .ok (.iload 5, 2) := by decide +kernel
theorem d8_155 : decode prog_15_method_9_code 155 = .ok (.iinc 5 1, 3) := by decide +kernel
theorem d8_158 : decode prog_15_method_9_code 158 = .ok (.iload 9, 2) := by decide +kernel
theorem d8_160 : decode prog_15_method_9_code 160 = .ok (.iastore, 1) := by decide +kernel
theorem d8_161 : decode prog_15_method_9_code 161 = .ok (.goto (-59), 3) := by decide +kernel
theorem d8_164 : decode prog_15_method_9_code 164 = .ok (.iinc 7 1, 3) := by decide +kernel
theorem d8_167 : decode prog_15_method_9_code 167 = .ok (.goto (-94), 3) := by decide +kernel
theorem d8_170 : decode prog_15_method_9_code 170 = .ok (.aload 4, 2) := by decide +kernel
theorem d8_172 : decode prog_15_method_9_code 172 = .ok (.areturn, 1) := by decide +kernel
def Q_r7_postorder (Z : State) (ya1 : Addr) (yk2 : ClassId) (h0 : Heap) (n0 : Nat) (v : Option Value) (h : Heap) (L : List Loc) : Prop := Fr n0 L ∧ Keep h0 h [] ∧ ((∃ (b11 : Addr) (k11 : ClassId), v = some (.ref b11) ∧ h0.size ≤ b11 ∧ Arv Z h b11 k11 .int (1 : Int32) [(.int (0 : Int32))] (.int (0 : Int32)) ∧ Exa Z h b11 "[I"))
set_option maxRecDepth 65536 in
set_option maxHeartbeats 40000000 in
theorem r7_postorder (l : Launch) (Z : State) (a0 : Array Value) (hw : ∀ d ∈ tables_1, d.before a0 Z = true) (ws : List Jvm.Cond) (ya1 : Addr) (yk2 : ClassId) (h0 : Heap) (n0 : Nat) (O0 : Old Z n0 h0) (F0 : Arv Z h0 ya1 yk2 .int (1 : Int32) [(.int (-1 : Int32))] (.int (0 : Int32))) :
    MetFree l (⟨cn0, "postorder", "([I)[I"⟩ : MethodName) (head1 (Jvm.Cond.code (⟨cn0, "postorder", "([I)[I"⟩ : MethodName) prog_15_method_9_code 11 (some (.array .int)) :: ws) ({ frames := 1, cells := 4, slots := 4, locals := 15 } : Room)) (fun a U => a = #[(.ref ya1)] ∧ Z.Warmed39 U.vm ∧ U.heap = h0) (fun _ _ _ _ _ => True) (fun _ U o U' => ∃ v L, o = .returned v ∧ Q_r7_postorder Z ya1 yk2 h0 n0 v U'.heap L ∧ FrameEnd U o U' L ({ frames := 1, cells := 4, slots := 4, locals := 15 } : Room).cells ({ frames := 1, cells := 4, slots := 4, locals := 15 } : Room).slots) := by
  refine MetFree.of_bodySF (plainFor_of_name pn_com_example_unea_unea_analysis_Supernodes) hisR ?_
  intro p e s m args below meth c s₁ Bd hml0 hP hK
  obtain ⟨rfl, hZ, hh⟩ := hP
  have hx := Bd.exec
  have hby := Bd.bytes
  have hlk := Bd.notSynchronized
  have hml : c.maxLocals = 11 := hml0
  have hown : s.vm.findClass cn0 = some m.cls := findClass_of_methodNamed Bd.named
  have hnm := (name_of_methodNamed Bd.named Bd.method).1
  have X0 : Stand p l e ({ frames := 1, cells := 4, slots := 4, locals := 15 } : Room) s m #[(.ref ya1)] below meth c s₁ [] 0 0 := Stand.of_body Bd
  have e0 : s₁.heap = h0 := by rw [← hh, Bd.state]; rfl
  have N0 := Fr.nil n0
  have K0 := Keep.refl h0 []
  have Z0 : n0 ≤ h0.size := O0.1 ▸ O0.2.1
  have hef : entryFrame m #[(.ref ya1)] 11 = mkF m 0 #[.val (.ref ya1), .unset, .unset, .unset, .unset, .unset, .unset, .unset, .unset, .unset, .unset] [] := by first | (simp [entryFrame, mkF, argsToLocals, Value.category]; done) | rfl
  rw [hef]
  refine Gets.out (Q := Q_r7_postorder Z ya1 yk2 h0 n0) ?_
  show Gets p e below _ (s₁.setTop (mkF m 0 #[.val (.ref ya1), .unset, .unset, .unset, .unset, .unset, .unset, .unset, .unset, .unset, .unset] []))
  refine Gets.of (fun t k => XS.aloadN X0.here hx rfl (hb hby d8_0) rfl rfl  k) ?_
  obtain ⟨cl1, Ar1, -, S1, N_1, -, -⟩ := id (F0)
  refine Gets.of (X0.arraylength hx (by rw [e0]; exact Ar1.1) (State.isArrayOf_alike hZ.alike Ar1.2.1) (g := (mkF m 1 #[.val (.ref ya1), .unset, .unset, .unset, .unset, .unset, .unset, .unset, .unset, .unset, .unset] [(.ref ya1)])) rfl rfl (hb hby d8_1)) ?_
  rw [len_of S1 N_1]
  show Gets p e below _ (s₁.setTop (mkF m 2 #[.val (.ref ya1), .unset, .unset, .unset, .unset, .unset, .unset, .unset, .unset, .unset, .unset] [(.int (1 : Int32))]))
  refine Gets.of (fun t k => XS.istoreN X0.here hx rfl (hb hby d8_2) rfl (l' := #[.val (.ref ya1), .val (.int (1 : Int32)), .unset, .unset, .unset, .unset, .unset, .unset, .unset, .unset, .unset]) rfl k) ?_
  show Gets p e below _ (s₁.setTop (mkF m 3 #[.val (.ref ya1), .val (.int (1 : Int32)), .unset, .unset, .unset, .unset, .unset, .unset, .unset, .unset, .unset] []))
  refine Gets.of (fun t k => XS.iloadN X0.here hx rfl (hb hby d8_3) rfl  k) ?_
  obtain ⟨T2, h2, k2, X2, e2, E2, A2, Ex2, st2⟩ := newPE X0 hx hZ (aty := .int) (w3 hw) e0 (g := (mkF m 4 #[.val (.ref ya1), .val (.int (1 : Int32)), .unset, .unset, .unset, .unset, .unset, .unset, .unset, .unset, .unset] [(.int (1 : Int32))])) rfl (hb hby d8_4) rfl (by decide) (cap := 1) (by decide) (by decide) (by decide) (by decide) (ad := "[I") rfl
  obtain ⟨b2, g2⟩ : ∃ z, z = h0.size := ⟨_, rfl⟩
  rw [← g2] at A2 Ex2 st2
  have sz_b2 : h0.size ≤ b2 := Nat.le_trans K0.1 (Nat.le_of_eq g2.symm)
  have g_b2 : n0 ≤ b2 := Nat.le_trans Z0 sz_b2
  have K3 := K0.ext E2
  have O3 := O0.ext E2
  have V2 : Arv Z h2 b2 k2 .int (1 : Int32) [(.int (0 : Int32))] (.int (0 : Int32)) := (Arv.new A2 (by decide)).pad (pad_rep [] (.int (0 : Int32)) 1)
  refine Gets.of st2 ?_
  show Gets p e below _ (T2.setTop (mkF m 6 #[.val (.ref ya1), .val (.int (1 : Int32)), .unset, .unset, .unset, .unset, .unset, .unset, .unset, .unset, .unset] [(.ref b2)]))
  refine Gets.of (fun t k => XS.astoreN X2.here hx rfl (hb hby d8_6) rfl rfl (l' := #[.val (.ref ya1), .val (.int (1 : Int32)), .val (.ref b2), .unset, .unset, .unset, .unset, .unset, .unset, .unset, .unset]) rfl k) ?_
  show Gets p e below _ (T2.setTop (mkF m 7 #[.val (.ref ya1), .val (.int (1 : Int32)), .val (.ref b2), .unset, .unset, .unset, .unset, .unset, .unset, .unset, .unset] []))
  refine Gets.of (fun t k => XS.iloadN X2.here hx rfl (hb hby d8_7) rfl  k) ?_
  obtain ⟨T4, h4, k4, X4, e4, E4, A4, Ex4, st4⟩ := newPE X2 hx hZ (aty := .int) (w3 hw) e2 (g := (mkF m 8 #[.val (.ref ya1), .val (.int (1 : Int32)), .val (.ref b2), .unset, .unset, .unset, .unset, .unset, .unset, .unset, .unset] [(.int (1 : Int32))])) rfl (hb hby d8_8) rfl (by decide) (cap := 1) (by decide) (by decide) (by decide) (by decide) (ad := "[I") rfl
  obtain ⟨b4, g4⟩ : ∃ z, z = h2.size := ⟨_, rfl⟩
  rw [← g4] at A4 Ex4 st4
  have sz_b4 : h0.size ≤ b4 := Nat.le_trans K3.1 (Nat.le_of_eq g4.symm)
  have g_b4 : n0 ≤ b4 := Nat.le_trans Z0 sz_b4
  have K5 := K3.ext E4
  have O5 := O3.ext E4
  have V4 : Arv Z h4 b4 k4 .int (1 : Int32) [(.int (0 : Int32))] (.int (0 : Int32)) := (Arv.new A4 (by decide)).pad (pad_rep [] (.int (0 : Int32)) 1)
  refine Gets.of st4 ?_
  show Gets p e below _ (T4.setTop (mkF m 10 #[.val (.ref ya1), .val (.int (1 : Int32)), .val (.ref b2), .unset, .unset, .unset, .unset, .unset, .unset, .unset, .unset] [(.ref b4)]))
  refine Gets.of (fun t k => XS.astoreN X4.here hx rfl (hb hby d8_10) rfl rfl (l' := #[.val (.ref ya1), .val (.int (1 : Int32)), .val (.ref b2), .val (.ref b4), .unset, .unset, .unset, .unset, .unset, .unset, .unset]) rfl k) ?_
  show Gets p e below _ (T4.setTop (mkF m 11 #[.val (.ref ya1), .val (.int (1 : Int32)), .val (.ref b2), .val (.ref b4), .unset, .unset, .unset, .unset, .unset, .unset, .unset] []))
  refine Gets.of (fun t k => XS.aloadN X4.here hx rfl (hb hby d8_11) rfl rfl  k) ?_
  refine Gets.of (fun t k => XS.iconst X4.here hx rfl (hb hby d8_12) k) ?_
  have f6 : Arv Z h4 b2 k2 .int (1 : Int32) [(.int (0 : Int32))] (.int (0 : Int32)) := (V2.ext E4)
  obtain ⟨_, _, ⟨T7, L7, k7, n7⟩, -, X7, ⟨Lc7, hQ7, l7, y7, z7⟩, st7⟩ := Jvm.LawKit.callS X4 hx (y := (⟨cn2, "fill", "([II)V"⟩ : MethodName)) hown (mvT hZ (w29 hw)) (mvT hZ (w30 hw)) (mvT hZ (w31 hw)) (mvT hZ (w32 hw)) (by decide) (backOf (W := 0) (r6_fill l Z a0 hw [] b2 k2 h4 n0 O5 f6 g_b2) hZ (w32 hw) (w31 hw) (by decide) (by decide)) (g := (mkF m 13 #[.val (.ref ya1), .val (.int (1 : Int32)), .val (.ref b2), .val (.ref b4), .unset, .unset, .unset, .unset, .unset, .unset, .unset] [(.int (-1 : Int32)), (.ref b2)])) rfl (by rw [hml]; rfl) (argsL := [(.ref b2), (.int (-1 : Int32))]) (rest := []) (lenOf pd__II_V rfl) rfl (by show 2 * 0 + _ ≤ _; exact Nat.le_of_eq rfl) (hb hby d8_13) (fun _ _ => ⟨rfl, e4, (by decide : 2 + 0 ≤ _), (by decide : 2 + 0 ≤ _)⟩)
  dsimp only [Pt.U, Pt.locs, Pt.cells, Pt.slots] at X7 l7 y7 z7 st7 hQ7
  subst l7 y7 z7
  obtain ⟨Nq7, Kq7, hR7⟩ := hQ7
  have N7 := Fr.app N0 Nq7
  have K8 : Keep h0 _ [] := K5.trans Kq7 (allS (Or.inr sz_b2) all0)
  have O8 := O5.keep Kq7 (allS g_b2 all0)
  obtain ⟨rfl, bf7_0⟩ := hR7
  refine Gets.of st7 ?_
  show Gets p e below _ (T7.setTop (mkF m 16 #[.val (.ref ya1), .val (.int (1 : Int32)), .val (.ref b2), .val (.ref b4), .unset, .unset, .unset, .unset, .unset, .unset, .unset] []))
  refine Gets.of (fun t k => XS.iloadN X7.here hx rfl (hb hby d8_16) rfl  k) ?_
  refine Gets.of (fun t k => XS.iconst X7.here hx rfl (hb hby d8_17) k) ?_
  refine Gets.of (fun t k => XS.isub X7.here hx rfl (hb hby d8_18) rfl k) ?_
  show Gets p e below _ (T7.setTop (mkF m 19 #[.val (.ref ya1), .val (.int (1 : Int32)), .val (.ref b2), .val (.ref b4), .unset, .unset, .unset, .unset, .unset, .unset, .unset] [(.int (0 : Int32))]))
  refine Gets.of (fun t k => XS.istore X7.here hx rfl (hb hby d8_19) rfl (l' := #[.val (.ref ya1), .val (.int (1 : Int32)), .val (.ref b2), .val (.ref b4), .val (.int (0 : Int32)), .unset, .unset, .unset, .unset, .unset, .unset]) rfl k) ?_
  show Gets p e below _ (T7.setTop (mkF m 21 #[.val (.ref ya1), .val (.int (1 : Int32)), .val (.ref b2), .val (.ref b4), .val (.int (0 : Int32)), .unset, .unset, .unset, .unset, .unset, .unset] []))
  refine Gets.of (fun t k => XS.iload X7.here hx rfl (hb hby d8_21) rfl  k) ?_
  refine Gets.of (fun t k => XS.ifNo X7.here hx rfl (hb hby d8_23) rfl ((if0 _ _).trans (flt (by decide : ¬ ((0 : Int32) < (0 : Int32)))).1) k) ?_
  show Gets p e below _ (T7.setTop (mkF m 26 #[.val (.ref ya1), .val (.int (1 : Int32)), .val (.ref b2), .val (.ref b4), .val (.int (0 : Int32)), .unset, .unset, .unset, .unset, .unset, .unset] []))
  refine Gets.of (fun t k => XS.aloadN X7.here hx rfl (hb hby d8_26) rfl rfl  k) ?_
  refine Gets.of (fun t k => XS.iload X7.here hx rfl (hb hby d8_27) rfl  k) ?_
  have f9 : Arv Z T7.heap ya1 yk2 .int (1 : Int32) [(.int (-1 : Int32))] (.int (0 : Int32)) := (((F0.ext E2).ext E4).keep Kq7 (ninS (Nat.ne_of_lt (Nat.lt_of_lt_of_le F0.lt sz_b2)) nin0))
  obtain ⟨cl10, Ar10, q10, S10, N_10, H10, G10⟩ := id (f9)
  have hin10 : ¬ ((0 : Int32) < 0 ∨ cl10.slots.size ≤ ((0 : Int32)).toNatClampNeg) := inb_of S10 ⟨by decide, by decide⟩
  refine Gets.of (fun t k => X7.iaload hx (j := (0 : Int32)) (v := (.int (-1 : Int32))) Ar10.1 (State.isArrayOf_alike hZ.alike Ar10.2.1) Ar10.2.2 hin10 (Has.at H10 hin10 rfl) (g := (mkF m 29 #[.val (.ref ya1), .val (.int (1 : Int32)), .val (.ref b2), .val (.ref b4), .val (.int (0 : Int32)), .unset, .unset, .unset, .unset, .unset, .unset] [(.int (0 : Int32)), (.ref ya1)])) rfl rfl (hb hby d8_29) t k) ?_
  show Gets p e below _ (T7.setTop (mkF m 30 #[.val (.ref ya1), .val (.int (1 : Int32)), .val (.ref b2), .val (.ref b4), .val (.int (0 : Int32)), .unset, .unset, .unset, .unset, .unset, .unset] [(.int (-1 : Int32))]))
  refine Gets.of (fun t k => XS.ifYes X7.here hx rfl (pc0 := 30) (pc' := 51) rfl (hb hby d8_30) rfl ((if0 _ _).trans (tlt (by decide : (-1 : Int32) < (0 : Int32))).1) (by decide) (by decide) k) ?_
  show Gets p e below _ (T7.setTop (mkF m 51 #[.val (.ref ya1), .val (.int (1 : Int32)), .val (.ref b2), .val (.ref b4), .val (.int (0 : Int32)), .unset, .unset, .unset, .unset, .unset, .unset] []))
  refine Gets.of (fun t k => XS.iinc X7.here hx rfl (hb hby d8_51) rfl (l' := #[.val (.ref ya1), .val (.int (1 : Int32)), .val (.ref b2), .val (.ref b4), .val (.int (-1 : Int32)), .unset, .unset, .unset, .unset, .unset, .unset]) rfl k) ?_
  show Gets p e below _ (T7.setTop (mkF m 54 #[.val (.ref ya1), .val (.int (1 : Int32)), .val (.ref b2), .val (.ref b4), .val (.int (-1 : Int32)), .unset, .unset, .unset, .unset, .unset, .unset] []))
  refine Gets.of (fun t k => XS.goto X7.here hx rfl (pc0 := 54) (pc' := 21) rfl (hb hby d8_54) (by decide) (by decide) k) ?_
  show Gets p e below _ (T7.setTop (mkF m 21 #[.val (.ref ya1), .val (.int (1 : Int32)), .val (.ref b2), .val (.ref b4), .val (.int (-1 : Int32)), .unset, .unset, .unset, .unset, .unset, .unset] []))
  refine Gets.of (fun t k => XS.iload X7.here hx rfl (hb hby d8_21) rfl  k) ?_
  refine Gets.of (fun t k => XS.ifYes X7.here hx rfl (pc0 := 23) (pc' := 57) rfl (hb hby d8_23) rfl ((if0 _ _).trans (tlt (by decide : (-1 : Int32) < (0 : Int32))).1) (by decide) (by decide) k) ?_
  show Gets p e below _ (T7.setTop (mkF m 57 #[.val (.ref ya1), .val (.int (1 : Int32)), .val (.ref b2), .val (.ref b4), .val (.int (-1 : Int32)), .unset, .unset, .unset, .unset, .unset, .unset] []))
  refine Gets.of (fun t k => XS.iloadN X7.here hx rfl (hb hby d8_57) rfl  k) ?_
  obtain ⟨T11, h11, k11, X11, e11, E11, A11, Ex11, st11⟩ := newPE X7 hx hZ (aty := .int) (w3 hw) rfl (g := (mkF m 58 #[.val (.ref ya1), .val (.int (1 : Int32)), .val (.ref b2), .val (.ref b4), .val (.int (-1 : Int32)), .unset, .unset, .unset, .unset, .unset, .unset] [(.int (1 : Int32))])) rfl (hb hby d8_58) rfl (by decide) (cap := 1) (by decide) (by decide) (by decide) (by decide) (ad := "[I") rfl
  obtain ⟨b11, g11⟩ : ∃ z, z = T7.heap.size := ⟨_, rfl⟩
  rw [← g11] at A11 Ex11 st11
  have up12 := Kq7.1
  have sz_b11 : h0.size ≤ b11 := Nat.le_trans K8.1 (Nat.le_of_eq g11.symm)
  have g_b11 : n0 ≤ b11 := Nat.le_trans Z0 sz_b11
  have K13 := K8.ext E11
  have O13 := O8.ext E11
  have V11 : Arv Z h11 b11 k11 .int (1 : Int32) [(.int (0 : Int32))] (.int (0 : Int32)) := (Arv.new A11 (by decide)).pad (pad_rep [] (.int (0 : Int32)) 1)
  refine Gets.of st11 ?_
  show Gets p e below _ (T11.setTop (mkF m 60 #[.val (.ref ya1), .val (.int (1 : Int32)), .val (.ref b2), .val (.ref b4), .val (.int (-1 : Int32)), .unset, .unset, .unset, .unset, .unset, .unset] [(.ref b11)]))
  refine Gets.of (fun t k => XS.astore X11.here hx rfl (hb hby d8_60) rfl rfl (l' := #[.val (.ref ya1), .val (.int (1 : Int32)), .val (.ref b2), .val (.ref b4), .val (.ref b11), .unset, .unset, .unset, .unset, .unset, .unset]) rfl k) ?_
  show Gets p e below _ (T11.setTop (mkF m 62 #[.val (.ref ya1), .val (.int (1 : Int32)), .val (.ref b2), .val (.ref b4), .val (.ref b11), .unset, .unset, .unset, .unset, .unset, .unset] []))
  refine Gets.of (fun t k => XS.iconst X11.here hx rfl (hb hby d8_62) k) ?_
  refine Gets.of (fun t k => XS.istore X11.here hx rfl (hb hby d8_63) rfl (l' := #[.val (.ref ya1), .val (.int (1 : Int32)), .val (.ref b2), .val (.ref b4), .val (.ref b11), .val (.int (0 : Int32)), .unset, .unset, .unset, .unset, .unset]) rfl k) ?_
  show Gets p e below _ (T11.setTop (mkF m 65 #[.val (.ref ya1), .val (.int (1 : Int32)), .val (.ref b2), .val (.ref b4), .val (.ref b11), .val (.int (0 : Int32)), .unset, .unset, .unset, .unset, .unset] []))
  refine Gets.of (fun t k => XS.iloadN X11.here hx rfl (hb hby d8_65) rfl  k) ?_
  obtain ⟨T14, h14, k14, X14, e14, E14, A14, Ex14, st14⟩ := newPE X11 hx hZ (aty := .int) (w3 hw) e11 (g := (mkF m 66 #[.val (.ref ya1), .val (.int (1 : Int32)), .val (.ref b2), .val (.ref b4), .val (.ref b11), .val (.int (0 : Int32)), .unset, .unset, .unset, .unset, .unset] [(.int (1 : Int32))])) rfl (hb hby d8_66) rfl (by decide) (cap := 1) (by decide) (by decide) (by decide) (by decide) (ad := "[I") rfl
  obtain ⟨b14, g14⟩ : ∃ z, z = h11.size := ⟨_, rfl⟩
  rw [← g14] at A14 Ex14 st14
  have sz_b14 : h0.size ≤ b14 := Nat.le_trans K13.1 (Nat.le_of_eq g14.symm)
  have g_b14 : n0 ≤ b14 := Nat.le_trans Z0 sz_b14
  have K15 := K13.ext E14
  have O15 := O13.ext E14
  have V14 : Arv Z h14 b14 k14 .int (1 : Int32) [(.int (0 : Int32))] (.int (0 : Int32)) := (Arv.new A14 (by decide)).pad (pad_rep [] (.int (0 : Int32)) 1)
  refine Gets.of st14 ?_
  show Gets p e below _ (T14.setTop (mkF m 68 #[.val (.ref ya1), .val (.int (1 : Int32)), .val (.ref b2), .val (.ref b4), .val (.ref b11), .val (.int (0 : Int32)), .unset, .unset, .unset, .unset, .unset] [(.ref b14)]))
  refine Gets.of (fun t k => XS.astore X14.here hx rfl (hb hby d8_68) rfl rfl (l' := #[.val (.ref ya1), .val (.int (1 : Int32)), .val (.ref b2), .val (.ref b4), .val (.ref b11), .val (.int (0 : Int32)), .val (.ref b14), .unset, .unset, .unset, .unset]) rfl k) ?_
  show Gets p e below _ (T14.setTop (mkF m 70 #[.val (.ref ya1), .val (.int (1 : Int32)), .val (.ref b2), .val (.ref b4), .val (.ref b11), .val (.int (0 : Int32)), .val (.ref b14), .unset, .unset, .unset, .unset] []))
  refine Gets.of (fun t k => XS.iconst X14.here hx rfl (hb hby d8_70) k) ?_
  refine Gets.of (fun t k => XS.istore X14.here hx rfl (hb hby d8_71) rfl (l' := #[.val (.ref ya1), .val (.int (1 : Int32)), .val (.ref b2), .val (.ref b4), .val (.ref b11), .val (.int (0 : Int32)), .val (.ref b14), .val (.int (0 : Int32)), .unset, .unset, .unset]) rfl k) ?_
  show Gets p e below _ (T14.setTop (mkF m 73 #[.val (.ref ya1), .val (.int (1 : Int32)), .val (.ref b2), .val (.ref b4), .val (.ref b11), .val (.int (0 : Int32)), .val (.ref b14), .val (.int (0 : Int32)), .unset, .unset, .unset] []))
  refine Gets.of (fun t k => XS.iload X14.here hx rfl (hb hby d8_73) rfl  k) ?_
  refine Gets.of (fun t k => XS.iloadN X14.here hx rfl (hb hby d8_75) rfl  k) ?_
  refine Gets.of (fun t k => XS.icmpNo X14.here hx rfl (hb hby d8_76) rfl (tlt (by decide : (0 : Int32) < (1 : Int32))).2.1 k) ?_
  show Gets p e below _ (T14.setTop (mkF m 79 #[.val (.ref ya1), .val (.int (1 : Int32)), .val (.ref b2), .val (.ref b4), .val (.ref b11), .val (.int (0 : Int32)), .val (.ref b14), .val (.int (0 : Int32)), .unset, .unset, .unset] []))
  refine Gets.of (fun t k => XS.aloadN X14.here hx rfl (hb hby d8_79) rfl rfl  k) ?_
  refine Gets.of (fun t k => XS.iload X14.here hx rfl (hb hby d8_80) rfl  k) ?_
  have f16 : Arv Z h14 ya1 yk2 .int (1 : Int32) [(.int (-1 : Int32))] (.int (0 : Int32)) := ((f9.ext E11).ext E14)
  obtain ⟨cl17, Ar17, q17, S17, N_17, H17, G17⟩ := id (f16)
  have hin17 : ¬ ((0 : Int32) < 0 ∨ cl17.slots.size ≤ ((0 : Int32)).toNatClampNeg) := inb_of S17 ⟨by decide, by decide⟩
  refine Gets.of (fun t k => X14.iaload hx (j := (0 : Int32)) (v := (.int (-1 : Int32))) (by rw [e14]; exact Ar17.1) (State.isArrayOf_alike hZ.alike Ar17.2.1) Ar17.2.2 hin17 (Has.at H17 hin17 rfl) (g := (mkF m 82 #[.val (.ref ya1), .val (.int (1 : Int32)), .val (.ref b2), .val (.ref b4), .val (.ref b11), .val (.int (0 : Int32)), .val (.ref b14), .val (.int (0 : Int32)), .unset, .unset, .unset] [(.int (0 : Int32)), (.ref ya1)])) rfl rfl (hb hby d8_82) t k) ?_
  show Gets p e below _ (T14.setTop (mkF m 83 #[.val (.ref ya1), .val (.int (1 : Int32)), .val (.ref b2), .val (.ref b4), .val (.ref b11), .val (.int (0 : Int32)), .val (.ref b14), .val (.int (0 : Int32)), .unset, .unset, .unset] [(.int (-1 : Int32))]))
  refine Gets.of (fun t k => XS.ifYes X14.here hx rfl (pc0 := 83) (pc' := 89) rfl (hb hby d8_83) rfl ((if0 _ _).trans (tlt (by decide : (-1 : Int32) < (0 : Int32))).1) (by decide) (by decide) k) ?_
  show Gets p e below _ (T14.setTop (mkF m 89 #[.val (.ref ya1), .val (.int (1 : Int32)), .val (.ref b2), .val (.ref b4), .val (.ref b11), .val (.int (0 : Int32)), .val (.ref b14), .val (.int (0 : Int32)), .unset, .unset, .unset] []))
  refine Gets.of (fun t k => XS.iconst X14.here hx rfl (hb hby d8_89) k) ?_
  refine Gets.of (fun t k => XS.istore X14.here hx rfl (hb hby d8_90) rfl (l' := #[.val (.ref ya1), .val (.int (1 : Int32)), .val (.ref b2), .val (.ref b4), .val (.ref b11), .val (.int (0 : Int32)), .val (.ref b14), .val (.int (0 : Int32)), .val (.int (0 : Int32)), .unset, .unset]) rfl k) ?_
  show Gets p e below _ (T14.setTop (mkF m 92 #[.val (.ref ya1), .val (.int (1 : Int32)), .val (.ref b2), .val (.ref b4), .val (.ref b11), .val (.int (0 : Int32)), .val (.ref b14), .val (.int (0 : Int32)), .val (.int (0 : Int32)), .unset, .unset] []))
  refine Gets.of (fun t k => XS.aload X14.here hx rfl (hb hby d8_92) rfl rfl  k) ?_
  refine Gets.of (fun t k => XS.iload X14.here hx rfl (hb hby d8_94) rfl  k) ?_
  refine Gets.of (fun t k => XS.iinc X14.here hx rfl (hb hby d8_96) rfl (l' := #[.val (.ref ya1), .val (.int (1 : Int32)), .val (.ref b2), .val (.ref b4), .val (.ref b11), .val (.int (0 : Int32)), .val (.ref b14), .val (.int (0 : Int32)), .val (.int (1 : Int32)), .unset, .unset]) rfl k) ?_
  show Gets p e below _ (T14.setTop (mkF m 99 #[.val (.ref ya1), .val (.int (1 : Int32)), .val (.ref b2), .val (.ref b4), .val (.ref b11), .val (.int (0 : Int32)), .val (.ref b14), .val (.int (0 : Int32)), .val (.int (1 : Int32)), .unset, .unset] [(.int (0 : Int32)), (.ref b14)]))
  refine Gets.of (fun t k => XS.iload X14.here hx rfl (hb hby d8_99) rfl  k) ?_
  obtain ⟨cl18, Ar18, q18, S18, N_18, H18, G18⟩ := id (V14)
  have hin18 : ¬ ((0 : Int32) < 0 ∨ cl18.slots.size ≤ ((0 : Int32)).toNatClampNeg) := inb_of S18 ⟨by decide, by decide⟩
  obtain ⟨T19, h19, X19, e19, W19, st19⟩ := stI X14 hx hZ e14 Ar18 (j := (0 : Int32)) hin18 (g := (mkF m 101 #[.val (.ref ya1), .val (.int (1 : Int32)), .val (.ref b2), .val (.ref b4), .val (.ref b11), .val (.int (0 : Int32)), .val (.ref b14), .val (.int (0 : Int32)), .val (.int (1 : Int32)), .unset, .unset] [(.int (0 : Int32)), (.int (0 : Int32)), (.ref b14)])) rfl rfl (hb hby d8_101)
  have V19 : Arv Z h19 b14 k14 .int (1 : Int32) [(.int (0 : Int32))] (.int (0 : Int32)) := Arv.set Ar18 q18 S18 N_18 H18 G18 rfl W19 0 rfl (Nat.le_of_ble_eq_true rfl)
  have N19 := Fr.snoc X19 N7 g_b14
  have K20 : Keep h0 _ [] := K15.wr W19 (Or.inr sz_b14)
  have O20 := O15.wr W19 g_b14
  refine Gets.of st19 ?_
  show Gets p e below _ (T19.setTop (mkF m 102 #[.val (.ref ya1), .val (.int (1 : Int32)), .val (.ref b2), .val (.ref b4), .val (.ref b11), .val (.int (0 : Int32)), .val (.ref b14), .val (.int (0 : Int32)), .val (.int (1 : Int32)), .unset, .unset] []))
  refine Gets.of (fun t k => XS.iload X19.here hx rfl (hb hby d8_102) rfl  k) ?_
  refine Gets.of (fun t k => XS.ifNo X19.here hx rfl (hb hby d8_104) rfl ((if0 _ _).trans (tlt (by decide : (0 : Int32) < (1 : Int32))).2.2.2) k) ?_
  show Gets p e below _ (T19.setTop (mkF m 107 #[.val (.ref ya1), .val (.int (1 : Int32)), .val (.ref b2), .val (.ref b4), .val (.ref b11), .val (.int (0 : Int32)), .val (.ref b14), .val (.int (0 : Int32)), .val (.int (1 : Int32)), .unset, .unset] []))
  refine Gets.of (fun t k => XS.aload X19.here hx rfl (hb hby d8_107) rfl rfl  k) ?_
  refine Gets.of (fun t k => XS.iload X19.here hx rfl (hb hby d8_109) rfl  k) ?_
  refine Gets.of (fun t k => XS.iconst X19.here hx rfl (hb hby d8_111) k) ?_
  refine Gets.of (fun t k => XS.isub X19.here hx rfl (hb hby d8_112) rfl k) ?_
  show Gets p e below _ (T19.setTop (mkF m 113 #[.val (.ref ya1), .val (.int (1 : Int32)), .val (.ref b2), .val (.ref b4), .val (.ref b11), .val (.int (0 : Int32)), .val (.ref b14), .val (.int (0 : Int32)), .val (.int (1 : Int32)), .unset, .unset] [(.int (0 : Int32)), (.ref b14)]))
  obtain ⟨cl21, Ar21, q21, S21, N_21, H21, G21⟩ := id (V19)
  have hin21 : ¬ ((0 : Int32) < 0 ∨ cl21.slots.size ≤ ((0 : Int32)).toNatClampNeg) := inb_of S21 ⟨by decide, by decide⟩
  refine Gets.of (fun t k => X19.iaload hx (j := (0 : Int32)) (v := (.int (0 : Int32))) (by rw [e19]; exact Ar21.1) (State.isArrayOf_alike hZ.alike Ar21.2.1) Ar21.2.2 hin21 (Has.at H21 hin21 rfl) (g := (mkF m 113 #[.val (.ref ya1), .val (.int (1 : Int32)), .val (.ref b2), .val (.ref b4), .val (.ref b11), .val (.int (0 : Int32)), .val (.ref b14), .val (.int (0 : Int32)), .val (.int (1 : Int32)), .unset, .unset] [(.int (0 : Int32)), (.ref b14)])) rfl rfl (hb hby d8_113) t k) ?_
  show Gets p e below _ (T19.setTop (mkF m 114 #[.val (.ref ya1), .val (.int (1 : Int32)), .val (.ref b2), .val (.ref b4), .val (.ref b11), .val (.int (0 : Int32)), .val (.ref b14), .val (.int (0 : Int32)), .val (.int (1 : Int32)), .unset, .unset] [(.int (0 : Int32))]))
  refine Gets.of (fun t k => XS.istore X19.here hx rfl (hb hby d8_114) rfl (l' := #[.val (.ref ya1), .val (.int (1 : Int32)), .val (.ref b2), .val (.ref b4), .val (.ref b11), .val (.int (0 : Int32)), .val (.ref b14), .val (.int (0 : Int32)), .val (.int (1 : Int32)), .val (.int (0 : Int32)), .unset]) rfl k) ?_
  show Gets p e below _ (T19.setTop (mkF m 116 #[.val (.ref ya1), .val (.int (1 : Int32)), .val (.ref b2), .val (.ref b4), .val (.ref b11), .val (.int (0 : Int32)), .val (.ref b14), .val (.int (0 : Int32)), .val (.int (1 : Int32)), .val (.int (0 : Int32)), .unset] []))
  refine Gets.of (fun t k => XS.aloadN X19.here hx rfl (hb hby d8_116) rfl rfl  k) ?_
  refine Gets.of (fun t k => XS.iload X19.here hx rfl (hb hby d8_117) rfl  k) ?_
  have f22 : Arv Z h19 b2 k2 .int (1 : Int32) [(.int (-1 : Int32))] (.int (0 : Int32)) := (((bf7_0.ext E11).ext E14).other W19 (Nat.ne_of_lt (Nat.lt_of_lt_of_le (Nat.lt_of_lt_of_le (Nat.lt_of_lt_of_le (Nat.lt_of_lt_of_le V2.lt E4.1) up12) E11.1) (Nat.le_of_eq g14.symm))))
  obtain ⟨cl23, Ar23, q23, S23, N_23, H23, G23⟩ := id (f22)
  have hin23 : ¬ ((0 : Int32) < 0 ∨ cl23.slots.size ≤ ((0 : Int32)).toNatClampNeg) := inb_of S23 ⟨by decide, by decide⟩
  refine Gets.of (fun t k => X19.iaload hx (j := (0 : Int32)) (v := (.int (-1 : Int32))) (by rw [e19]; exact Ar23.1) (State.isArrayOf_alike hZ.alike Ar23.2.1) Ar23.2.2 hin23 (Has.at H23 hin23 rfl) (g := (mkF m 119 #[.val (.ref ya1), .val (.int (1 : Int32)), .val (.ref b2), .val (.ref b4), .val (.ref b11), .val (.int (0 : Int32)), .val (.ref b14), .val (.int (0 : Int32)), .val (.int (1 : Int32)), .val (.int (0 : Int32)), .unset] [(.int (0 : Int32)), (.ref b2)])) rfl rfl (hb hby d8_119) t k) ?_
  show Gets p e below _ (T19.setTop (mkF m 120 #[.val (.ref ya1), .val (.int (1 : Int32)), .val (.ref b2), .val (.ref b4), .val (.ref b11), .val (.int (0 : Int32)), .val (.ref b14), .val (.int (0 : Int32)), .val (.int (1 : Int32)), .val (.int (0 : Int32)), .unset] [(.int (-1 : Int32))]))
  refine Gets.of (fun t k => XS.istore X19.here hx rfl (hb hby d8_120) rfl (l' := #[.val (.ref ya1), .val (.int (1 : Int32)), .val (.ref b2), .val (.ref b4), .val (.ref b11), .val (.int (0 : Int32)), .val (.ref b14), .val (.int (0 : Int32)), .val (.int (1 : Int32)), .val (.int (0 : Int32)), .val (.int (-1 : Int32))]) rfl k) ?_
  show Gets p e below _ (T19.setTop (mkF m 122 #[.val (.ref ya1), .val (.int (1 : Int32)), .val (.ref b2), .val (.ref b4), .val (.ref b11), .val (.int (0 : Int32)), .val (.ref b14), .val (.int (0 : Int32)), .val (.int (1 : Int32)), .val (.int (0 : Int32)), .val (.int (-1 : Int32))] []))
  refine Gets.of (fun t k => XS.iload X19.here hx rfl (hb hby d8_122) rfl  k) ?_
  refine Gets.of (fun t k => XS.ifYes X19.here hx rfl (pc0 := 124) (pc' := 148) rfl (hb hby d8_124) rfl ((if0 _ _).trans (tlt (by decide : (-1 : Int32) < (0 : Int32))).1) (by decide) (by decide) k) ?_
  show Gets p e below _ (T19.setTop (mkF m 148 #[.val (.ref ya1), .val (.int (1 : Int32)), .val (.ref b2), .val (.ref b4), .val (.ref b11), .val (.int (0 : Int32)), .val (.ref b14), .val (.int (0 : Int32)), .val (.int (1 : Int32)), .val (.int (0 : Int32)), .val (.int (-1 : Int32))] []))
  refine Gets.of (fun t k => XS.iinc X19.here hx rfl (hb hby d8_148) rfl (l' := #[.val (.ref ya1), .val (.int (1 : Int32)), .val (.ref b2), .val (.ref b4), .val (.ref b11), .val (.int (0 : Int32)), .val (.ref b14), .val (.int (0 : Int32)), .val (.int (0 : Int32)), .val (.int (0 : Int32)), .val (.int (-1 : Int32))]) rfl k) ?_
  show Gets p e below _ (T19.setTop (mkF m 151 #[.val (.ref ya1), .val (.int (1 : Int32)), .val (.ref b2), .val (.ref b4), .val (.ref b11), .val (.int (0 : Int32)), .val (.ref b14), .val (.int (0 : Int32)), .val (.int (0 : Int32)), .val (.int (0 : Int32)), .val (.int (-1 : Int32))] []))
  refine Gets.of (fun t k => XS.aload X19.here hx rfl (hb hby d8_151) rfl rfl  k) ?_
  refine Gets.of (fun t k => XS.iload X19.here hx rfl (hb hby d8_153) rfl  k) ?_
  refine Gets.of (fun t k => XS.iinc X19.here hx rfl (hb hby d8_155) rfl (l' := #[.val (.ref ya1), .val (.int (1 : Int32)), .val (.ref b2), .val (.ref b4), .val (.ref b11), .val (.int (1 : Int32)), .val (.ref b14), .val (.int (0 : Int32)), .val (.int (0 : Int32)), .val (.int (0 : Int32)), .val (.int (-1 : Int32))]) rfl k) ?_
  show Gets p e below _ (T19.setTop (mkF m 158 #[.val (.ref ya1), .val (.int (1 : Int32)), .val (.ref b2), .val (.ref b4), .val (.ref b11), .val (.int (1 : Int32)), .val (.ref b14), .val (.int (0 : Int32)), .val (.int (0 : Int32)), .val (.int (0 : Int32)), .val (.int (-1 : Int32))] [(.int (0 : Int32)), (.ref b11)]))
  refine Gets.of (fun t k => XS.iload X19.here hx rfl (hb hby d8_158) rfl  k) ?_
  have f24 : Arv Z h19 b11 k11 .int (1 : Int32) [(.int (0 : Int32))] (.int (0 : Int32)) := ((V11.ext E14).other W19 (Nat.ne_of_lt (Nat.lt_of_lt_of_le V11.lt (Nat.le_of_eq g14.symm))))
  obtain ⟨cl25, Ar25, q25, S25, N_25, H25, G25⟩ := id (f24)
  have hin25 : ¬ ((0 : Int32) < 0 ∨ cl25.slots.size ≤ ((0 : Int32)).toNatClampNeg) := inb_of S25 ⟨by decide, by decide⟩
  obtain ⟨T26, h26, X26, e26, W26, st26⟩ := stI X19 hx hZ e19 Ar25 (j := (0 : Int32)) hin25 (g := (mkF m 160 #[.val (.ref ya1), .val (.int (1 : Int32)), .val (.ref b2), .val (.ref b4), .val (.ref b11), .val (.int (1 : Int32)), .val (.ref b14), .val (.int (0 : Int32)), .val (.int (0 : Int32)), .val (.int (0 : Int32)), .val (.int (-1 : Int32))] [(.int (0 : Int32)), (.int (0 : Int32)), (.ref b11)])) rfl rfl (hb hby d8_160)
  have V26 : Arv Z h26 b11 k11 .int (1 : Int32) [(.int (0 : Int32))] (.int (0 : Int32)) := Arv.set Ar25 q25 S25 N_25 H25 G25 rfl W26 0 rfl (Nat.le_of_ble_eq_true rfl)
  have N26 := Fr.snoc X26 N19 g_b11
  have K27 : Keep h0 _ [] := K20.wr W26 (Or.inr sz_b11)
  have O27 := O20.wr W26 g_b11
  refine Gets.of st26 ?_
  show Gets p e below _ (T26.setTop (mkF m 161 #[.val (.ref ya1), .val (.int (1 : Int32)), .val (.ref b2), .val (.ref b4), .val (.ref b11), .val (.int (1 : Int32)), .val (.ref b14), .val (.int (0 : Int32)), .val (.int (0 : Int32)), .val (.int (0 : Int32)), .val (.int (-1 : Int32))] []))
  refine Gets.of (fun t k => XS.goto X26.here hx rfl (pc0 := 161) (pc' := 102) rfl (hb hby d8_161) (by decide) (by decide) k) ?_
  show Gets p e below _ (T26.setTop (mkF m 102 #[.val (.ref ya1), .val (.int (1 : Int32)), .val (.ref b2), .val (.ref b4), .val (.ref b11), .val (.int (1 : Int32)), .val (.ref b14), .val (.int (0 : Int32)), .val (.int (0 : Int32)), .val (.int (0 : Int32)), .val (.int (-1 : Int32))] []))
  refine Gets.of (fun t k => XS.iload X26.here hx rfl (hb hby d8_102) rfl  k) ?_
  refine Gets.of (fun t k => XS.ifYes X26.here hx rfl (pc0 := 104) (pc' := 164) rfl (hb hby d8_104) rfl ((if0 _ _).trans (flt (by decide : ¬ ((0 : Int32) < (0 : Int32)))).2.2.2) (by decide) (by decide) k) ?_
  show Gets p e below _ (T26.setTop (mkF m 164 #[.val (.ref ya1), .val (.int (1 : Int32)), .val (.ref b2), .val (.ref b4), .val (.ref b11), .val (.int (1 : Int32)), .val (.ref b14), .val (.int (0 : Int32)), .val (.int (0 : Int32)), .val (.int (0 : Int32)), .val (.int (-1 : Int32))] []))
  refine Gets.of (fun t k => XS.iinc X26.here hx rfl (hb hby d8_164) rfl (l' := #[.val (.ref ya1), .val (.int (1 : Int32)), .val (.ref b2), .val (.ref b4), .val (.ref b11), .val (.int (1 : Int32)), .val (.ref b14), .val (.int (1 : Int32)), .val (.int (0 : Int32)), .val (.int (0 : Int32)), .val (.int (-1 : Int32))]) rfl k) ?_
  show Gets p e below _ (T26.setTop (mkF m 167 #[.val (.ref ya1), .val (.int (1 : Int32)), .val (.ref b2), .val (.ref b4), .val (.ref b11), .val (.int (1 : Int32)), .val (.ref b14), .val (.int (1 : Int32)), .val (.int (0 : Int32)), .val (.int (0 : Int32)), .val (.int (-1 : Int32))] []))
  refine Gets.of (fun t k => XS.goto X26.here hx rfl (pc0 := 167) (pc' := 73) rfl (hb hby d8_167) (by decide) (by decide) k) ?_
  show Gets p e below _ (T26.setTop (mkF m 73 #[.val (.ref ya1), .val (.int (1 : Int32)), .val (.ref b2), .val (.ref b4), .val (.ref b11), .val (.int (1 : Int32)), .val (.ref b14), .val (.int (1 : Int32)), .val (.int (0 : Int32)), .val (.int (0 : Int32)), .val (.int (-1 : Int32))] []))
  refine Gets.of (fun t k => XS.iload X26.here hx rfl (hb hby d8_73) rfl  k) ?_
  refine Gets.of (fun t k => XS.iloadN X26.here hx rfl (hb hby d8_75) rfl  k) ?_
  refine Gets.of (fun t k => XS.icmpYes X26.here hx rfl (pc0 := 76) (pc' := 170) rfl (hb hby d8_76) rfl (flt (by decide : ¬ ((1 : Int32) < (1 : Int32)))).2.1 (by decide) (by decide) k) ?_
  show Gets p e below _ (T26.setTop (mkF m 170 #[.val (.ref ya1), .val (.int (1 : Int32)), .val (.ref b2), .val (.ref b4), .val (.ref b11), .val (.int (1 : Int32)), .val (.ref b14), .val (.int (1 : Int32)), .val (.int (0 : Int32)), .val (.int (0 : Int32)), .val (.int (-1 : Int32))] []))
  refine Gets.of (fun t k => XS.aload X26.here hx rfl (hb hby d8_170) rfl rfl  k) ?_
  refine Gets.retA X26 hx Bd.returns rfl rfl (hb hby d8_172) ?_ (by decide) (by decide)
  rw [e26]
  have f28 : Exa Z h26 b11 "[I" := (((Ex11.ext E14).wr W19).wr W26)
  exact ⟨N26, K27, ⟨b11, k11, rfl, sz_b11, V26, f28⟩⟩
theorem w36 {Z : State} {a0 : Array Value} (hw : ∀ d ∈ tables_1, d.before a0 Z = true) : (Jvm.Cond.code ({ cls := cn0, name := "postorder", desc := "([I)[I" } : Jvm.MethodName) prog_15_method_9_code (11 : Nat) (Option.some (Jvm.ClassFile.FieldType.array Jvm.ClassFile.FieldType.int))).before a0 Z = true := hw _ (List.mem_of_getElem? (i := 36) rfl)
theorem w35 {Z : State} {a0 : Array Value} (hw : ∀ d ∈ tables_1, d.before a0 Z = true) : (Jvm.Cond.static ({ cls := cn0, name := "postorder", desc := "([I)[I" } : Jvm.MethodName)).before a0 Z = true := hw _ (List.mem_of_getElem? (i := 35) rfl)
theorem d3_19 : decode prog_15_method_2_code 19 = .ok (.astore 4, 2) := by decide +kernel
theorem d3_21 : decode prog_15_method_2_code 21 = .ok (.aload 4, 2) := by decide +kernel
theorem d3_23 : decode prog_15_method_2_code 23 = .ok (.invokestatic 38, 3) := by decide +kernel
theorem d3_26 : decode prog_15_method_2_code 26 = .ok (.astore 5, 2) := by decide +kernel
theorem d3_28 : decode prog_15_method_2_code 28 = .ok (.iload_n 2, 1) := by decide +kernel
theorem d3_29 : decode prog_15_method_2_code 29 = .ok (.newarray .int, 2) := by decide +kernel
theorem d3_31 : decode prog_15_method_2_code 31 = .ok (.astore 6, 2) := by decide +kernel
theorem d3_33 : decode prog_15_method_2_code 33 = .ok (.iload_n 2, 1) := by decide +kernel
theorem d3_34 : decode prog_15_method_2_code 34 = .ok (.newarray .int, 2) := by decide +kernel
theorem d3_36 : decode prog_15_method_2_code 36 = .ok (.astore 7, 2) := by decide +kernel
theorem d3_38 : decode prog_15_method_2_code 38 = .ok (.iconst 0, 1) := by decide +kernel
theorem d3_39 : decode prog_15_method_2_code 39 = .ok (.istore 8, 2) := by decide +kernel
theorem d3_41 : decode prog_15_method_2_code 41 = .ok (.iload 8, 2) := by decide +kernel
theorem d3_43 : decode prog_15_method_2_code 43 = .ok (.iload_n 2, 1) := by decide +kernel
theorem d3_44 : decode prog_15_method_2_code 44 = .ok (.if_icmp .ge 49, 3) := by decide +kernel
theorem d3_47 : decode prog_15_method_2_code 47 = .ok (.aload 6, 2) := by decide +kernel
theorem d3_49 : decode prog_15_method_2_code 49 = .ok (.iload 8, 2) := by decide +kernel
theorem d3_51 : decode prog_15_method_2_code 51 = .ok (.aload_n 1, 1) := by decide +kernel
theorem d3_52 : decode prog_15_method_2_code 52 = .ok (.aload 4, 2) := by decide +kernel
theorem d3_54 : decode prog_15_method_2_code 54 = .ok (.iload 8, 2) := by decide +kernel
theorem d3_56 : decode prog_15_method_2_code 56 = .ok (.iaload, 1) := by decide +kernel
theorem d3_57 : decode prog_15_method_2_code 57 = .ok (.iaload, 1) := by decide +kernel
theorem d3_58 : decode prog_15_method_2_code 58 = .ok (.iastore, 1) := by decide +kernel
theorem d3_59 : decode prog_15_method_2_code 59 = .ok (.aload_n 3, 1) := by decide +kernel
theorem d3_60 : decode prog_15_method_2_code 60 = .ok (.aload 4, 2) := by decide +kernel
theorem d3_62 : decode prog_15_method_2_code 62 = .ok (.iload 8, 2) := by decide +kernel
theorem d3_64 : decode prog_15_method_2_code 64 = .ok (.iaload, 1) := by decide +kernel
theorem d3_65 : decode prog_15_method_2_code 65 = .ok (.iaload, 1) := by decide +kernel
theorem d3_66 : decode prog_15_method_2_code 66 = .ok (.istore 9, 2) := by decide +kernel
theorem d3_68 : decode prog_15_method_2_code 68 = .ok (.aload 7, 2) := by decide +kernel
theorem d3_70 : decode prog_15_method_2_code 70 = .ok (.iload 8, 2) := by decide +kernel
theorem d3_72 : decode prog_15_method_2_code 72 = .ok (.iload 9, 2) := by decide +kernel
theorem d3_74 : decode prog_15_method_2_code 74 = .ok (.ifCond .ge 7, 3) := by decide +kernel
theorem d3_77 : decode prog_15_method_2_code 77 = .ok (.iconst (-1), 1) := by decide +kernel
theorem d3_78 : decode prog_15_method_2_code 78 = .ok (.goto 8, 3) := by decide +kernel
theorem d3_86 : decode prog_15_method_2_code 86 = .ok (.iastore, 1) := by decide +kernel
theorem d3_87 : decode prog_15_method_2_code 87 = .ok (.iinc 8 1, 3) := by decide +kernel
theorem d3_90 : decode prog_15_method_2_code 90 = .ok (.goto (-49), 3) := by decide +kernel
theorem d3_93 : decode prog_15_method_2_code 93 = .ok (.aload 6, 2) := by decide +kernel
theorem d3_95 : decode prog_15_method_2_code 95 = .ok (.invokestatic 38, 3) := by decide +kernel
theorem d3_98 : decode prog_15_method_2_code 98 = .ok (.astore 8, 2) := by decide +kernel
theorem d3_100 : decode prog_15_method_2_code 100 = .ok (.aload_n 0, 1) := by decide +kernel
theorem d3_101 : decode prog_15_method_2_code 101 = .ok (.aload 6, 2) := by decide +kernel
theorem d3_103 : decode prog_15_method_2_code 103 = .ok (.aload 8, 2) := by decide +kernel
theorem d3_105 : decode prog_15_method_2_code 105 = .ok (.aload 7, 2) := by decide +kernel
theorem d3_107 : decode prog_15_method_2_code 107 = .ok (.invokestatic 49, 3) := by decide +kernel
theorem w37 {Z : State} {a0 : Array Value} (hw : ∀ d ∈ tables_1, d.before a0 Z = true) : (Jvm.Cond.methodLink cn0 (49 : Nat) ({ cls := cn0, name := "columnCounts", desc := "(Lcom/example/unea/unea/analysis/SparsePattern;[I[I[I)[I" } : Jvm.MethodName)).before a0 Z = true := hw _ (List.mem_of_getElem? (i := 37) rfl)
theorem d9_0 : decode prog_15_method_10_code 0 = .ok (.aload_n 1, 1) := by decide +kernel
theorem d9_1 : decode prog_15_method_10_code 1 = .ok (.arraylength, 1) := by decide +kernel
theorem d9_2 : decode prog_15_method_10_code 2 = .ok (.istore 4, 2) := by decide +kernel
theorem d9_4 : decode prog_15_method_10_code 4 = .ok (.iload 4, 2) := by decide +kernel
theorem d9_6 : decode prog_15_method_10_code 6 = .ok (.newarray .int, 2) := by decide +kernel
theorem d9_8 : decode prog_15_method_10_code 8 = .ok (.astore 5, 2) := by decide +kernel
theorem d9_10 : decode prog_15_method_10_code 10 = .ok (.iload 4, 2) := by decide +kernel
theorem d9_12 : decode prog_15_method_10_code 12 = .ok (.newarray .int, 2) := by decide +kernel
theorem d9_14 : decode prog_15_method_10_code 14 = .ok (.astore 6, 2) := by decide +kernel
theorem d9_16 : decode prog_15_method_10_code 16 = .ok (.aload 6, 2) := by decide +kernel
theorem d9_18 : decode prog_15_method_10_code 18 = .ok (.iconst (-1), 1) := by decide +kernel
theorem d9_19 : decode prog_15_method_10_code 19 = .ok (.invokestatic 74, 3) := by decide +kernel
theorem d9_22 : decode prog_15_method_10_code 22 = .ok (.iconst 0, 1) := by decide +kernel
theorem d9_23 : decode prog_15_method_10_code 23 = .ok (.istore 7, 2) := by decide +kernel
theorem d9_25 : decode prog_15_method_10_code 25 = .ok (.iload 7, 2) := by decide +kernel
theorem d9_27 : decode prog_15_method_10_code 27 = .ok (.iload 4, 2) := by decide +kernel
theorem d9_29 : decode prog_15_method_10_code 29 = .ok (.if_icmp .ge 110, 3) := by decide +kernel
theorem d9_32 : decode prog_15_method_10_code 32 = .ok (.aload 5, 2) := by decide +kernel
theorem d9_34 : decode prog_15_method_10_code 34 = .ok (.iload 7, 2) := by decide +kernel
theorem d9_36 : decode prog_15_method_10_code 36 = .ok (.dup2, 1) := by decide +kernel
theorem d9_37 : decode prog_15_method_10_code 37 = .ok (.iaload, 1) := by decide +kernel
theorem d9_38 : decode prog_15_method_10_code 38 = .ok (.iconst 1, 1) := by decide +kernel
theorem d9_39 : decode prog_15_method_10_code 39 = .ok (.iadd, 1) := by decide +kernel
theorem d9_40 : decode prog_15_method_10_code 40 = .ok (.iastore, 1) := by decide +kernel
theorem d9_41 : decode prog_15_method_10_code 41 = .ok (.aload_n 1, 1) := by decide +kernel
theorem d9_42 : decode prog_15_method_10_code 42 = .ok (.iload 7, 2) := by decide +kernel
theorem d9_44 : decode prog_15_method_10_code 44 = .ok (.iaload, 1) := by decide +kernel
theorem d9_45 : decode prog_15_method_10_code 45 = .ok (.istore 8, 2) := by decide +kernel
theorem d9_47 : decode prog_15_method_10_code 47 = .ok (.aload_n 0, 1) := by decide +kernel
theorem d9_48 : decode prog_15_method_10_code 48 = .ok (.getfield 78, 3) := by decide +kernel
theorem d9_51 : decode prog_15_method_10_code 51 = .ok (.iload 8, 2) := by decide +kernel
theorem d9_53 : decode prog_15_method_10_code 53 = .ok (.iaload, 1) := by decide +kernel
theorem d9_54 : decode prog_15_method_10_code 54 = .ok (.istore 9, 2) := by decide +kernel
theorem d9_56 : decode prog_15_method_10_code 56 = .ok (.iload 9, 2) := by decide +kernel
theorem d9_58 : decode prog_15_method_10_code 58 = .ok (.aload_n 0, 1) := by decide +kernel
theorem d9_59 : decode prog_15_method_10_code 59 = .ok (.getfield 78, 3) := by decide +kernel
theorem d9_62 : decode prog_15_method_10_code 62 = .ok (.iload 8, 2) := by decide +kernel
theorem d9_64 : decode prog_15_method_10_code 64 = .ok (.iconst 1, 1) := by decide +kernel
theorem d9_65 : decode prog_15_method_10_code 65 = .ok (.iadd, 1) := by decide +kernel
theorem d9_66 : decode prog_15_method_10_code 66 = .ok (.iaload, 1) := by decide +kernel
theorem d9_67 : decode prog_15_method_10_code 67 = .ok (.if_icmp .ge 66, 3) := by decide +kernel
theorem d9_133 : decode prog_15_method_10_code 133 = .ok (.iinc 7 1, 3) := by decide +kernel
theorem d9_136 : decode prog_15_method_10_code 136 = .ok (.goto (-111), 3) := by decide +kernel
theorem d9_139 : decode prog_15_method_10_code 139 = .ok (.aload 5, 2) := by decide +kernel
theorem d9_141 : decode prog_15_method_10_code 141 = .ok (.areturn, 1) := by decide +kernel
def Q_r8_columnCounts (Z : State) (ya1 : Addr) (ya2 : Addr) (ya3 : Addr) (ya4 : Addr) (yk7 : ClassId) (ya5 : Addr) (yk10 : ClassId) (h0 : Heap) (n0 : Nat) (v : Option Value) (h : Heap) (L : List Loc) : Prop := Fr n0 L ∧ Keep h0 h [] ∧ ((∃ (b2 : Addr) (k2 : ClassId), v = some (.ref b2) ∧ h0.size ≤ b2 ∧ Arv Z h b2 k2 .int (1 : Int32) [(.int (1 : Int32))] (.int (0 : Int32)) ∧ Exa Z h b2 "[I"))
set_option maxRecDepth 65536 in
set_option maxHeartbeats 40000000 in
theorem r8_columnCounts (l : Launch) (Z : State) (a0 : Array Value) (hw : ∀ d ∈ tables_1, d.before a0 Z = true) (ws : List Jvm.Cond) (ya1 : Addr) (ya2 : Addr) (ya3 : Addr) (ya4 : Addr) (yk7 : ClassId) (ya5 : Addr) (yk10 : ClassId) (h0 : Heap) (n0 : Nat) (O0 : Old Z n0 h0) (F0 : Arv Z h0 ya2 yk7 .int (1 : Int32) [(.int (0 : Int32))] (.int (0 : Int32))) (F1 : Fld Z h0 ya1 cn1 "start" "[I" (.ref ya5)) (F2 : Arv Z h0 ya5 yk10 .int (2 : Int32) [(.int (0 : Int32)), (.int (0 : Int32))] (.int (0 : Int32))) :
    MetFree l (⟨cn0, "columnCounts", "(Lcom/example/unea/unea/analysis/SparsePattern;[I[I[I)[I"⟩ : MethodName) (head1 (Jvm.Cond.code (⟨cn0, "columnCounts", "(Lcom/example/unea/unea/analysis/SparsePattern;[I[I[I)[I"⟩ : MethodName) prog_15_method_10_code 12 (some (.array .int)) :: ws) ({ frames := 1, cells := 2, slots := 2, locals := 15 } : Room)) (fun a U => a = #[(.ref ya1), (.ref ya2), (.ref ya3), (.ref ya4)] ∧ Z.Warmed39 U.vm ∧ U.heap = h0) (fun _ _ _ _ _ => True) (fun _ U o U' => ∃ v L, o = .returned v ∧ Q_r8_columnCounts Z ya1 ya2 ya3 ya4 yk7 ya5 yk10 h0 n0 v U'.heap L ∧ FrameEnd U o U' L ({ frames := 1, cells := 2, slots := 2, locals := 15 } : Room).cells ({ frames := 1, cells := 2, slots := 2, locals := 15 } : Room).slots) := by
  refine MetFree.of_bodySF (plainFor_of_name pn_com_example_unea_unea_analysis_Supernodes) hisR ?_
  intro p e s m args below meth c s₁ Bd hml0 hP hK
  obtain ⟨rfl, hZ, hh⟩ := hP
  have hx := Bd.exec
  have hby := Bd.bytes
  have hlk := Bd.notSynchronized
  have hml : c.maxLocals = 12 := hml0
  have hown : s.vm.findClass cn0 = some m.cls := findClass_of_methodNamed Bd.named
  have hnm := (name_of_methodNamed Bd.named Bd.method).1
  have X0 : Stand p l e ({ frames := 1, cells := 2, slots := 2, locals := 15 } : Room) s m #[(.ref ya1), (.ref ya2), (.ref ya3), (.ref ya4)] below meth c s₁ [] 0 0 := Stand.of_body Bd
  have e0 : s₁.heap = h0 := by rw [← hh, Bd.state]; rfl
  have N0 := Fr.nil n0
  have K0 := Keep.refl h0 []
  have Z0 : n0 ≤ h0.size := O0.1 ▸ O0.2.1
  have hef : entryFrame m #[(.ref ya1), (.ref ya2), (.ref ya3), (.ref ya4)] 12 = mkF m 0 #[.val (.ref ya1), .val (.ref ya2), .val (.ref ya3), .val (.ref ya4), .unset, .unset, .unset, .unset, .unset, .unset, .unset, .unset] [] := by first | (simp [entryFrame, mkF, argsToLocals, Value.category]; done) | rfl
  rw [hef]
  refine Gets.out (Q := Q_r8_columnCounts Z ya1 ya2 ya3 ya4 yk7 ya5 yk10 h0 n0) ?_
  show Gets p e below _ (s₁.setTop (mkF m 0 #[.val (.ref ya1), .val (.ref ya2), .val (.ref ya3), .val (.ref ya4), .unset, .unset, .unset, .unset, .unset, .unset, .unset, .unset] []))
  refine Gets.of (fun t k => XS.aloadN X0.here hx rfl (hb hby d9_0) rfl rfl  k) ?_
  obtain ⟨cl1, Ar1, -, S1, N_1, -, -⟩ := id (F0)
  refine Gets.of (X0.arraylength hx (by rw [e0]; exact Ar1.1) (State.isArrayOf_alike hZ.alike Ar1.2.1) (g := (mkF m 1 #[.val (.ref ya1), .val (.ref ya2), .val (.ref ya3), .val (.ref ya4), .unset, .unset, .unset, .unset, .unset, .unset, .unset, .unset] [(.ref ya2)])) rfl rfl (hb hby d9_1)) ?_
  rw [len_of S1 N_1]
  show Gets p e below _ (s₁.setTop (mkF m 2 #[.val (.ref ya1), .val (.ref ya2), .val (.ref ya3), .val (.ref ya4), .unset, .unset, .unset, .unset, .unset, .unset, .unset, .unset] [(.int (1 : Int32))]))
  refine Gets.of (fun t k => XS.istore X0.here hx rfl (hb hby d9_2) rfl (l' := #[.val (.ref ya1), .val (.ref ya2), .val (.ref ya3), .val (.ref ya4), .val (.int (1 : Int32)), .unset, .unset, .unset, .unset, .unset, .unset, .unset]) rfl k) ?_
  show Gets p e below _ (s₁.setTop (mkF m 4 #[.val (.ref ya1), .val (.ref ya2), .val (.ref ya3), .val (.ref ya4), .val (.int (1 : Int32)), .unset, .unset, .unset, .unset, .unset, .unset, .unset] []))
  refine Gets.of (fun t k => XS.iload X0.here hx rfl (hb hby d9_4) rfl  k) ?_
  obtain ⟨T2, h2, k2, X2, e2, E2, A2, Ex2, st2⟩ := newPE X0 hx hZ (aty := .int) (w3 hw) e0 (g := (mkF m 6 #[.val (.ref ya1), .val (.ref ya2), .val (.ref ya3), .val (.ref ya4), .val (.int (1 : Int32)), .unset, .unset, .unset, .unset, .unset, .unset, .unset] [(.int (1 : Int32))])) rfl (hb hby d9_6) rfl (by decide) (cap := 1) (by decide) (by decide) (by decide) (by decide) (ad := "[I") rfl
  obtain ⟨b2, g2⟩ : ∃ z, z = h0.size := ⟨_, rfl⟩
  rw [← g2] at A2 Ex2 st2
  have sz_b2 : h0.size ≤ b2 := Nat.le_trans K0.1 (Nat.le_of_eq g2.symm)
  have g_b2 : n0 ≤ b2 := Nat.le_trans Z0 sz_b2
  have K3 := K0.ext E2
  have O3 := O0.ext E2
  have V2 : Arv Z h2 b2 k2 .int (1 : Int32) [(.int (0 : Int32))] (.int (0 : Int32)) := (Arv.new A2 (by decide)).pad (pad_rep [] (.int (0 : Int32)) 1)
  refine Gets.of st2 ?_
  show Gets p e below _ (T2.setTop (mkF m 8 #[.val (.ref ya1), .val (.ref ya2), .val (.ref ya3), .val (.ref ya4), .val (.int (1 : Int32)), .unset, .unset, .unset, .unset, .unset, .unset, .unset] [(.ref b2)]))
  refine Gets.of (fun t k => XS.astore X2.here hx rfl (hb hby d9_8) rfl rfl (l' := #[.val (.ref ya1), .val (.ref ya2), .val (.ref ya3), .val (.ref ya4), .val (.int (1 : Int32)), .val (.ref b2), .unset, .unset, .unset, .unset, .unset, .unset]) rfl k) ?_
  show Gets p e below _ (T2.setTop (mkF m 10 #[.val (.ref ya1), .val (.ref ya2), .val (.ref ya3), .val (.ref ya4), .val (.int (1 : Int32)), .val (.ref b2), .unset, .unset, .unset, .unset, .unset, .unset] []))
  refine Gets.of (fun t k => XS.iload X2.here hx rfl (hb hby d9_10) rfl  k) ?_
  obtain ⟨T4, h4, k4, X4, e4, E4, A4, Ex4, st4⟩ := newPE X2 hx hZ (aty := .int) (w3 hw) e2 (g := (mkF m 12 #[.val (.ref ya1), .val (.ref ya2), .val (.ref ya3), .val (.ref ya4), .val (.int (1 : Int32)), .val (.ref b2), .unset, .unset, .unset, .unset, .unset, .unset] [(.int (1 : Int32))])) rfl (hb hby d9_12) rfl (by decide) (cap := 1) (by decide) (by decide) (by decide) (by decide) (ad := "[I") rfl
  obtain ⟨b4, g4⟩ : ∃ z, z = h2.size := ⟨_, rfl⟩
  rw [← g4] at A4 Ex4 st4
  have sz_b4 : h0.size ≤ b4 := Nat.le_trans K3.1 (Nat.le_of_eq g4.symm)
  have g_b4 : n0 ≤ b4 := Nat.le_trans Z0 sz_b4
  have K5 := K3.ext E4
  have O5 := O3.ext E4
  have V4 : Arv Z h4 b4 k4 .int (1 : Int32) [(.int (0 : Int32))] (.int (0 : Int32)) := (Arv.new A4 (by decide)).pad (pad_rep [] (.int (0 : Int32)) 1)
  refine Gets.of st4 ?_
  show Gets p e below _ (T4.setTop (mkF m 14 #[.val (.ref ya1), .val (.ref ya2), .val (.ref ya3), .val (.ref ya4), .val (.int (1 : Int32)), .val (.ref b2), .unset, .unset, .unset, .unset, .unset, .unset] [(.ref b4)]))
  refine Gets.of (fun t k => XS.astore X4.here hx rfl (hb hby d9_14) rfl rfl (l' := #[.val (.ref ya1), .val (.ref ya2), .val (.ref ya3), .val (.ref ya4), .val (.int (1 : Int32)), .val (.ref b2), .val (.ref b4), .unset, .unset, .unset, .unset, .unset]) rfl k) ?_
  show Gets p e below _ (T4.setTop (mkF m 16 #[.val (.ref ya1), .val (.ref ya2), .val (.ref ya3), .val (.ref ya4), .val (.int (1 : Int32)), .val (.ref b2), .val (.ref b4), .unset, .unset, .unset, .unset, .unset] []))
  refine Gets.of (fun t k => XS.aload X4.here hx rfl (hb hby d9_16) rfl rfl  k) ?_
  refine Gets.of (fun t k => XS.iconst X4.here hx rfl (hb hby d9_18) k) ?_
  obtain ⟨_, _, ⟨T6, L6, k6, n6⟩, -, X6, ⟨Lc6, hQ6, l6, y6, z6⟩, st6⟩ := Jvm.LawKit.callS X4 hx (y := (⟨cn2, "fill", "([II)V"⟩ : MethodName)) hown (mvT hZ (w29 hw)) (mvT hZ (w30 hw)) (mvT hZ (w31 hw)) (mvT hZ (w32 hw)) (by decide) (backOf (W := 0) (r6_fill l Z a0 hw [] b4 k4 h4 n0 O5 V4 g_b4) hZ (w32 hw) (w31 hw) (by decide) (by decide)) (g := (mkF m 19 #[.val (.ref ya1), .val (.ref ya2), .val (.ref ya3), .val (.ref ya4), .val (.int (1 : Int32)), .val (.ref b2), .val (.ref b4), .unset, .unset, .unset, .unset, .unset] [(.int (-1 : Int32)), (.ref b4)])) rfl (by rw [hml]; rfl) (argsL := [(.ref b4), (.int (-1 : Int32))]) (rest := []) (lenOf pd__II_V rfl) rfl (by show 2 * 0 + _ ≤ _; exact Nat.le_of_eq rfl) (hb hby d9_19) (fun _ _ => ⟨rfl, e4, (by decide : 2 + 0 ≤ _), (by decide : 2 + 0 ≤ _)⟩)
  dsimp only [Pt.U, Pt.locs, Pt.cells, Pt.slots] at X6 l6 y6 z6 st6 hQ6
  subst l6 y6 z6
  obtain ⟨Nq6, Kq6, hR6⟩ := hQ6
  have N6 := Fr.app N0 Nq6
  have K7 : Keep h0 _ [] := K5.trans Kq6 (allS (Or.inr sz_b4) all0)
  have O7 := O5.keep Kq6 (allS g_b4 all0)
  obtain ⟨rfl, bf6_0⟩ := hR6
  refine Gets.of st6 ?_
  show Gets p e below _ (T6.setTop (mkF m 22 #[.val (.ref ya1), .val (.ref ya2), .val (.ref ya3), .val (.ref ya4), .val (.int (1 : Int32)), .val (.ref b2), .val (.ref b4), .unset, .unset, .unset, .unset, .unset] []))
  refine Gets.of (fun t k => XS.iconst X6.here hx rfl (hb hby d9_22) k) ?_
  refine Gets.of (fun t k => XS.istore X6.here hx rfl (hb hby d9_23) rfl (l' := #[.val (.ref ya1), .val (.ref ya2), .val (.ref ya3), .val (.ref ya4), .val (.int (1 : Int32)), .val (.ref b2), .val (.ref b4), .val (.int (0 : Int32)), .unset, .unset, .unset, .unset]) rfl k) ?_
  show Gets p e below _ (T6.setTop (mkF m 25 #[.val (.ref ya1), .val (.ref ya2), .val (.ref ya3), .val (.ref ya4), .val (.int (1 : Int32)), .val (.ref b2), .val (.ref b4), .val (.int (0 : Int32)), .unset, .unset, .unset, .unset] []))
  refine Gets.of (fun t k => XS.iload X6.here hx rfl (hb hby d9_25) rfl  k) ?_
  refine Gets.of (fun t k => XS.iload X6.here hx rfl (hb hby d9_27) rfl  k) ?_
  refine Gets.of (fun t k => XS.icmpNo X6.here hx rfl (hb hby d9_29) rfl (tlt (by decide : (0 : Int32) < (1 : Int32))).2.1 k) ?_
  show Gets p e below _ (T6.setTop (mkF m 32 #[.val (.ref ya1), .val (.ref ya2), .val (.ref ya3), .val (.ref ya4), .val (.int (1 : Int32)), .val (.ref b2), .val (.ref b4), .val (.int (0 : Int32)), .unset, .unset, .unset, .unset] []))
  refine Gets.of (fun t k => XS.aload X6.here hx rfl (hb hby d9_32) rfl rfl  k) ?_
  refine Gets.of (fun t k => XS.iload X6.here hx rfl (hb hby d9_34) rfl  k) ?_
  refine Gets.of (U' := T6.setTop (mkF m 37 #[.val (.ref ya1), .val (.ref ya2), .val (.ref ya3), .val (.ref ya4), .val (.int (1 : Int32)), .val (.ref b2), .val (.ref b4), .val (.int (0 : Int32)), .unset, .unset, .unset, .unset] [(.int (0 : Int32)), (.ref b2), (.int (0 : Int32)), (.ref b2)])) (fun t k => by jvm_step X6.here [X6.here.top, hx, (hb hby d9_36), Value.category]; exact k) ?_
  have f8 : Arv Z T6.heap b2 k2 .int (1 : Int32) [(.int (0 : Int32))] (.int (0 : Int32)) := ((V2.ext E4).keep Kq6 (ninS (Nat.ne_of_lt (Nat.lt_of_lt_of_le V2.lt (Nat.le_of_eq g4.symm))) nin0))
  obtain ⟨cl9, Ar9, q9, S9, N_9, H9, G9⟩ := id (f8)
  have hin9 : ¬ ((0 : Int32) < 0 ∨ cl9.slots.size ≤ ((0 : Int32)).toNatClampNeg) := inb_of S9 ⟨by decide, by decide⟩
  refine Gets.of (fun t k => X6.iaload hx (j := (0 : Int32)) (v := (.int (0 : Int32))) Ar9.1 (State.isArrayOf_alike hZ.alike Ar9.2.1) Ar9.2.2 hin9 (Has.at H9 hin9 rfl) (g := (mkF m 37 #[.val (.ref ya1), .val (.ref ya2), .val (.ref ya3), .val (.ref ya4), .val (.int (1 : Int32)), .val (.ref b2), .val (.ref b4), .val (.int (0 : Int32)), .unset, .unset, .unset, .unset] [(.int (0 : Int32)), (.ref b2), (.int (0 : Int32)), (.ref b2)])) rfl rfl (hb hby d9_37) t k) ?_
  show Gets p e below _ (T6.setTop (mkF m 38 #[.val (.ref ya1), .val (.ref ya2), .val (.ref ya3), .val (.ref ya4), .val (.int (1 : Int32)), .val (.ref b2), .val (.ref b4), .val (.int (0 : Int32)), .unset, .unset, .unset, .unset] [(.int (0 : Int32)), (.int (0 : Int32)), (.ref b2)]))
  refine Gets.of (fun t k => XS.iconst X6.here hx rfl (hb hby d9_38) k) ?_
  refine Gets.of (fun t k => XS.iadd X6.here hx rfl (hb hby d9_39) rfl k) ?_
  show Gets p e below _ (T6.setTop (mkF m 40 #[.val (.ref ya1), .val (.ref ya2), .val (.ref ya3), .val (.ref ya4), .val (.int (1 : Int32)), .val (.ref b2), .val (.ref b4), .val (.int (0 : Int32)), .unset, .unset, .unset, .unset] [(.int (1 : Int32)), (.int (0 : Int32)), (.ref b2)]))
  obtain ⟨cl10, Ar10, q10, S10, N_10, H10, G10⟩ := id (f8)
  have hin10 : ¬ ((0 : Int32) < 0 ∨ cl10.slots.size ≤ ((0 : Int32)).toNatClampNeg) := inb_of S10 ⟨by decide, by decide⟩
  obtain ⟨T11, h11, X11, e11, W11, st11⟩ := stI X6 hx hZ rfl Ar10 (j := (0 : Int32)) hin10 (g := (mkF m 40 #[.val (.ref ya1), .val (.ref ya2), .val (.ref ya3), .val (.ref ya4), .val (.int (1 : Int32)), .val (.ref b2), .val (.ref b4), .val (.int (0 : Int32)), .unset, .unset, .unset, .unset] [(.int (1 : Int32)), (.int (0 : Int32)), (.ref b2)])) rfl rfl (hb hby d9_40)
  have V11 : Arv Z h11 b2 k2 .int (1 : Int32) [(.int (1 : Int32))] (.int (0 : Int32)) := Arv.set Ar10 q10 S10 N_10 H10 G10 rfl W11 0 rfl (Nat.le_of_ble_eq_true rfl)
  have N11 := Fr.snoc X11 N6 g_b2
  have K12 : Keep h0 _ [] := K7.wr W11 (Or.inr sz_b2)
  have O12 := O7.wr W11 g_b2
  refine Gets.of st11 ?_
  show Gets p e below _ (T11.setTop (mkF m 41 #[.val (.ref ya1), .val (.ref ya2), .val (.ref ya3), .val (.ref ya4), .val (.int (1 : Int32)), .val (.ref b2), .val (.ref b4), .val (.int (0 : Int32)), .unset, .unset, .unset, .unset] []))
  refine Gets.of (fun t k => XS.aloadN X11.here hx rfl (hb hby d9_41) rfl rfl  k) ?_
  refine Gets.of (fun t k => XS.iload X11.here hx rfl (hb hby d9_42) rfl  k) ?_
  have f13 : Arv Z h11 ya2 yk7 .int (1 : Int32) [(.int (0 : Int32))] (.int (0 : Int32)) := ((((F0.ext E2).ext E4).keep Kq6 (ninS (Nat.ne_of_lt (Nat.lt_of_lt_of_le F0.lt sz_b4)) nin0)).other W11 (Nat.ne_of_lt (Nat.lt_of_lt_of_le F0.lt sz_b2)))
  obtain ⟨cl14, Ar14, q14, S14, N_14, H14, G14⟩ := id (f13)
  have hin14 : ¬ ((0 : Int32) < 0 ∨ cl14.slots.size ≤ ((0 : Int32)).toNatClampNeg) := inb_of S14 ⟨by decide, by decide⟩
  refine Gets.of (fun t k => X11.iaload hx (j := (0 : Int32)) (v := (.int (0 : Int32))) (by rw [e11]; exact Ar14.1) (State.isArrayOf_alike hZ.alike Ar14.2.1) Ar14.2.2 hin14 (Has.at H14 hin14 rfl) (g := (mkF m 44 #[.val (.ref ya1), .val (.ref ya2), .val (.ref ya3), .val (.ref ya4), .val (.int (1 : Int32)), .val (.ref b2), .val (.ref b4), .val (.int (0 : Int32)), .unset, .unset, .unset, .unset] [(.int (0 : Int32)), (.ref ya2)])) rfl rfl (hb hby d9_44) t k) ?_
  show Gets p e below _ (T11.setTop (mkF m 45 #[.val (.ref ya1), .val (.ref ya2), .val (.ref ya3), .val (.ref ya4), .val (.int (1 : Int32)), .val (.ref b2), .val (.ref b4), .val (.int (0 : Int32)), .unset, .unset, .unset, .unset] [(.int (0 : Int32))]))
  refine Gets.of (fun t k => XS.istore X11.here hx rfl (hb hby d9_45) rfl (l' := #[.val (.ref ya1), .val (.ref ya2), .val (.ref ya3), .val (.ref ya4), .val (.int (1 : Int32)), .val (.ref b2), .val (.ref b4), .val (.int (0 : Int32)), .val (.int (0 : Int32)), .unset, .unset, .unset]) rfl k) ?_
  show Gets p e below _ (T11.setTop (mkF m 47 #[.val (.ref ya1), .val (.ref ya2), .val (.ref ya3), .val (.ref ya4), .val (.int (1 : Int32)), .val (.ref b2), .val (.ref b4), .val (.int (0 : Int32)), .val (.int (0 : Int32)), .unset, .unset, .unset] []))
  refine Gets.of (fun t k => XS.aloadN X11.here hx rfl (hb hby d9_47) rfl rfl  k) ?_
  have f15 : Fld Z h11 ya1 cn1 "start" "[I" (.ref ya5) := ((((F1.ext E2).ext E4).keep Kq6 (ninS (Nat.ne_of_lt (Nat.lt_of_lt_of_le F1.lt sz_b4)) nin0)).other W11 (Or.inl (Nat.ne_of_lt (Nat.lt_of_lt_of_le F1.lt sz_b2))))
  obtain ⟨T16, X16, e16, st16⟩ := getF X11 hx hZ hown (host := "") (Or.inl (w33 hw)) Via.refl e11 f15 (g := (mkF m 48 #[.val (.ref ya1), .val (.ref ya2), .val (.ref ya3), .val (.ref ya4), .val (.int (1 : Int32)), .val (.ref b2), .val (.ref b4), .val (.int (0 : Int32)), .val (.int (0 : Int32)), .unset, .unset, .unset] [(.ref ya1)])) rfl rfl (hb hby d9_48)
  refine Gets.of st16 ?_
  show Gets p e below _ (T16.setTop (mkF m 51 #[.val (.ref ya1), .val (.ref ya2), .val (.ref ya3), .val (.ref ya4), .val (.int (1 : Int32)), .val (.ref b2), .val (.ref b4), .val (.int (0 : Int32)), .val (.int (0 : Int32)), .unset, .unset, .unset] [(.ref ya5)]))
  refine Gets.of (fun t k => XS.iload X16.here hx rfl (hb hby d9_51) rfl  k) ?_
  have f17 : Arv Z h11 ya5 yk10 .int (2 : Int32) [(.int (0 : Int32)), (.int (0 : Int32))] (.int (0 : Int32)) := ((((F2.ext E2).ext E4).keep Kq6 (ninS (Nat.ne_of_lt (Nat.lt_of_lt_of_le F2.lt sz_b4)) nin0)).other W11 (Nat.ne_of_lt (Nat.lt_of_lt_of_le F2.lt sz_b2)))
  obtain ⟨cl18, Ar18, q18, S18, N_18, H18, G18⟩ := id (f17)
  have hin18 : ¬ ((0 : Int32) < 0 ∨ cl18.slots.size ≤ ((0 : Int32)).toNatClampNeg) := inb_of S18 ⟨by decide, by decide⟩
  refine Gets.of (fun t k => X16.iaload hx (j := (0 : Int32)) (v := (.int (0 : Int32))) (by rw [e16]; exact Ar18.1) (State.isArrayOf_alike hZ.alike Ar18.2.1) Ar18.2.2 hin18 (Has.at H18 hin18 rfl) (g := (mkF m 53 #[.val (.ref ya1), .val (.ref ya2), .val (.ref ya3), .val (.ref ya4), .val (.int (1 : Int32)), .val (.ref b2), .val (.ref b4), .val (.int (0 : Int32)), .val (.int (0 : Int32)), .unset, .unset, .unset] [(.int (0 : Int32)), (.ref ya5)])) rfl rfl (hb hby d9_53) t k) ?_
  show Gets p e below _ (T16.setTop (mkF m 54 #[.val (.ref ya1), .val (.ref ya2), .val (.ref ya3), .val (.ref ya4), .val (.int (1 : Int32)), .val (.ref b2), .val (.ref b4), .val (.int (0 : Int32)), .val (.int (0 : Int32)), .unset, .unset, .unset] [(.int (0 : Int32))]))
  refine Gets.of (fun t k => XS.istore X16.here hx rfl (hb hby d9_54) rfl (l' := #[.val (.ref ya1), .val (.ref ya2), .val (.ref ya3), .val (.ref ya4), .val (.int (1 : Int32)), .val (.ref b2), .val (.ref b4), .val (.int (0 : Int32)), .val (.int (0 : Int32)), .val (.int (0 : Int32)), .unset, .unset]) rfl k) ?_
  show Gets p e below _ (T16.setTop (mkF m 56 #[.val (.ref ya1), .val (.ref ya2), .val (.ref ya3), .val (.ref ya4), .val (.int (1 : Int32)), .val (.ref b2), .val (.ref b4), .val (.int (0 : Int32)), .val (.int (0 : Int32)), .val (.int (0 : Int32)), .unset, .unset] []))
  refine Gets.of (fun t k => XS.iload X16.here hx rfl (hb hby d9_56) rfl  k) ?_
  refine Gets.of (fun t k => XS.aloadN X16.here hx rfl (hb hby d9_58) rfl rfl  k) ?_
  obtain ⟨T19, X19, e19, st19⟩ := getF X16 hx hZ hown (host := "") (Or.inl (w33 hw)) Via.refl e16 f15 (g := (mkF m 59 #[.val (.ref ya1), .val (.ref ya2), .val (.ref ya3), .val (.ref ya4), .val (.int (1 : Int32)), .val (.ref b2), .val (.ref b4), .val (.int (0 : Int32)), .val (.int (0 : Int32)), .val (.int (0 : Int32)), .unset, .unset] [(.ref ya1), (.int (0 : Int32))])) rfl rfl (hb hby d9_59)
  refine Gets.of st19 ?_
  show Gets p e below _ (T19.setTop (mkF m 62 #[.val (.ref ya1), .val (.ref ya2), .val (.ref ya3), .val (.ref ya4), .val (.int (1 : Int32)), .val (.ref b2), .val (.ref b4), .val (.int (0 : Int32)), .val (.int (0 : Int32)), .val (.int (0 : Int32)), .unset, .unset] [(.ref ya5), (.int (0 : Int32))]))
  refine Gets.of (fun t k => XS.iload X19.here hx rfl (hb hby d9_62) rfl  k) ?_
  refine Gets.of (fun t k => XS.iconst X19.here hx rfl (hb hby d9_64) k) ?_
  refine Gets.of (fun t k => XS.iadd X19.here hx rfl (hb hby d9_65) rfl k) ?_
  show Gets p e below _ (T19.setTop (mkF m 66 #[.val (.ref ya1), .val (.ref ya2), .val (.ref ya3), .val (.ref ya4), .val (.int (1 : Int32)), .val (.ref b2), .val (.ref b4), .val (.int (0 : Int32)), .val (.int (0 : Int32)), .val (.int (0 : Int32)), .unset, .unset] [(.int (1 : Int32)), (.ref ya5), (.int (0 : Int32))]))
  obtain ⟨cl20, Ar20, q20, S20, N_20, H20, G20⟩ := id (f17)
  have hin20 : ¬ ((1 : Int32) < 0 ∨ cl20.slots.size ≤ ((1 : Int32)).toNatClampNeg) := inb_of S20 ⟨by decide, by decide⟩
  refine Gets.of (fun t k => X19.iaload hx (j := (1 : Int32)) (v := (.int (0 : Int32))) (by rw [e19]; exact Ar20.1) (State.isArrayOf_alike hZ.alike Ar20.2.1) Ar20.2.2 hin20 (Has.at H20 hin20 rfl) (g := (mkF m 66 #[.val (.ref ya1), .val (.ref ya2), .val (.ref ya3), .val (.ref ya4), .val (.int (1 : Int32)), .val (.ref b2), .val (.ref b4), .val (.int (0 : Int32)), .val (.int (0 : Int32)), .val (.int (0 : Int32)), .unset, .unset] [(.int (1 : Int32)), (.ref ya5), (.int (0 : Int32))])) rfl rfl (hb hby d9_66) t k) ?_
  show Gets p e below _ (T19.setTop (mkF m 67 #[.val (.ref ya1), .val (.ref ya2), .val (.ref ya3), .val (.ref ya4), .val (.int (1 : Int32)), .val (.ref b2), .val (.ref b4), .val (.int (0 : Int32)), .val (.int (0 : Int32)), .val (.int (0 : Int32)), .unset, .unset] [(.int (0 : Int32)), (.int (0 : Int32))]))
  refine Gets.of (fun t k => XS.icmpYes X19.here hx rfl (pc0 := 67) (pc' := 133) rfl (hb hby d9_67) rfl (flt (by decide : ¬ ((0 : Int32) < (0 : Int32)))).2.1 (by decide) (by decide) k) ?_
  show Gets p e below _ (T19.setTop (mkF m 133 #[.val (.ref ya1), .val (.ref ya2), .val (.ref ya3), .val (.ref ya4), .val (.int (1 : Int32)), .val (.ref b2), .val (.ref b4), .val (.int (0 : Int32)), .val (.int (0 : Int32)), .val (.int (0 : Int32)), .unset, .unset] []))
  refine Gets.of (fun t k => XS.iinc X19.here hx rfl (hb hby d9_133) rfl (l' := #[.val (.ref ya1), .val (.ref ya2), .val (.ref ya3), .val (.ref ya4), .val (.int (1 : Int32)), .val (.ref b2), .val (.ref b4), .val (.int (1 : Int32)), .val (.int (0 : Int32)), .val (.int (0 : Int32)), .unset, .unset]) rfl k) ?_
  show Gets p e below _ (T19.setTop (mkF m 136 #[.val (.ref ya1), .val (.ref ya2), .val (.ref ya3), .val (.ref ya4), .val (.int (1 : Int32)), .val (.ref b2), .val (.ref b4), .val (.int (1 : Int32)), .val (.int (0 : Int32)), .val (.int (0 : Int32)), .unset, .unset] []))
  refine Gets.of (fun t k => XS.goto X19.here hx rfl (pc0 := 136) (pc' := 25) rfl (hb hby d9_136) (by decide) (by decide) k) ?_
  show Gets p e below _ (T19.setTop (mkF m 25 #[.val (.ref ya1), .val (.ref ya2), .val (.ref ya3), .val (.ref ya4), .val (.int (1 : Int32)), .val (.ref b2), .val (.ref b4), .val (.int (1 : Int32)), .val (.int (0 : Int32)), .val (.int (0 : Int32)), .unset, .unset] []))
  refine Gets.of (fun t k => XS.iload X19.here hx rfl (hb hby d9_25) rfl  k) ?_
  refine Gets.of (fun t k => XS.iload X19.here hx rfl (hb hby d9_27) rfl  k) ?_
  refine Gets.of (fun t k => XS.icmpYes X19.here hx rfl (pc0 := 29) (pc' := 139) rfl (hb hby d9_29) rfl (flt (by decide : ¬ ((1 : Int32) < (1 : Int32)))).2.1 (by decide) (by decide) k) ?_
  show Gets p e below _ (T19.setTop (mkF m 139 #[.val (.ref ya1), .val (.ref ya2), .val (.ref ya3), .val (.ref ya4), .val (.int (1 : Int32)), .val (.ref b2), .val (.ref b4), .val (.int (1 : Int32)), .val (.int (0 : Int32)), .val (.int (0 : Int32)), .unset, .unset] []))
  refine Gets.of (fun t k => XS.aload X19.here hx rfl (hb hby d9_139) rfl rfl  k) ?_
  refine Gets.retA X19 hx Bd.returns rfl rfl (hb hby d9_141) ?_ (by decide) (by decide)
  rw [e19]
  have f21 : Exa Z h11 b2 "[I" := (((Ex2.ext E4).keep Kq6).wr W11)
  exact ⟨N11, K12, ⟨b2, k2, rfl, sz_b2, V11, f21⟩⟩
theorem w39 {Z : State} {a0 : Array Value} (hw : ∀ d ∈ tables_1, d.before a0 Z = true) : (Jvm.Cond.code ({ cls := cn0, name := "columnCounts", desc := "(Lcom/example/unea/unea/analysis/SparsePattern;[I[I[I)[I" } : Jvm.MethodName) prog_15_method_10_code (12 : Nat) (Option.some (Jvm.ClassFile.FieldType.array Jvm.ClassFile.FieldType.int))).before a0 Z = true := hw _ (List.mem_of_getElem? (i := 39) rfl)
theorem pd__Lcom_example_unea_unea_analysis_SparsePattern_I_I_I_I : parseMethodDescriptor "(Lcom/example/unea/unea/analysis/SparsePattern;[I[I[I)[I" = some ⟨[(.object "com/example/unea/unea/analysis/SparsePattern"), (.array .int), (.array .int), (.array .int)], some (.array .int)⟩ := by decide +kernel
theorem w38 {Z : State} {a0 : Array Value} (hw : ∀ d ∈ tables_1, d.before a0 Z = true) : (Jvm.Cond.static ({ cls := cn0, name := "columnCounts", desc := "(Lcom/example/unea/unea/analysis/SparsePattern;[I[I[I)[I" } : Jvm.MethodName)).before a0 Z = true := hw _ (List.mem_of_getElem? (i := 38) rfl)
theorem d3_110 : decode prog_15_method_2_code 110 = .ok (.astore 9, 2) := by decide +kernel
theorem d3_112 : decode prog_15_method_2_code 112 = .ok (.aload 7, 2) := by decide +kernel
theorem d3_114 : decode prog_15_method_2_code 114 = .ok (.aload 9, 2) := by decide +kernel
theorem d3_116 : decode prog_15_method_2_code 116 = .ok (.invokestatic 53, 3) := by decide +kernel
theorem w40 {Z : State} {a0 : Array Value} (hw : ∀ d ∈ tables_1, d.before a0 Z = true) : (Jvm.Cond.methodLink cn0 (53 : Nat) ({ cls := cn0, name := "fundamental", desc := "([I[I)[I" } : Jvm.MethodName)).before a0 Z = true := hw _ (List.mem_of_getElem? (i := 40) rfl)
theorem d10_0 : decode prog_15_method_11_code 0 = .ok (.aload_n 0, 1) := by decide +kernel
theorem d10_1 : decode prog_15_method_11_code 1 = .ok (.arraylength, 1) := by decide +kernel
theorem d10_2 : decode prog_15_method_11_code 2 = .ok (.istore_n 2, 1) := by decide +kernel
theorem d10_3 : decode prog_15_method_11_code 3 = .ok (.iload_n 2, 1) := by decide +kernel
theorem d10_4 : decode prog_15_method_11_code 4 = .ok (.newarray .int, 2) := by decide +kernel
theorem d10_6 : decode prog_15_method_11_code 6 = .ok (.astore_n 3, 1) := by decide +kernel
theorem d10_7 : decode prog_15_method_11_code 7 = .ok (.iconst 0, 1) := by decide +kernel
theorem d10_8 : decode prog_15_method_11_code 8 = .ok (.istore 4, 2) := by decide +kernel
theorem d10_10 : decode prog_15_method_11_code 10 = .ok (.iload 4, 2) := by decide +kernel
theorem d10_12 : decode prog_15_method_11_code 12 = .ok (.iload_n 2, 1) := by decide +kernel
theorem d10_13 : decode prog_15_method_11_code 13 = .ok (.if_icmp .ge 26, 3) := by decide +kernel
theorem d10_16 : decode prog_15_method_11_code 16 = .ok (.aload_n 0, 1) := by decide +kernel
theorem d10_17 : decode prog_15_method_11_code 17 = .ok (.iload 4, 2) := by decide +kernel
theorem d10_19 : decode prog_15_method_11_code 19 = .ok (.iaload, 1) := by decide +kernel
theorem d10_20 : decode prog_15_method_11_code 20 = .ok (.ifCond .lt 13, 3) := by decide +kernel
theorem d10_33 : decode prog_15_method_11_code 33 = .ok (.iinc 4 1, 3) := by decide +kernel
theorem d10_36 : decode prog_15_method_11_code 36 = .ok (.goto (-26), 3) := by decide +kernel
theorem d10_39 : decode prog_15_method_11_code 39 = .ok (.iload_n 2, 1) := by decide +kernel
theorem d10_40 : decode prog_15_method_11_code 40 = .ok (.iconst 1, 1) := by decide +kernel
theorem d10_41 : decode prog_15_method_11_code 41 = .ok (.iadd, 1) := by decide +kernel
theorem d10_42 : decode prog_15_method_11_code 42 = .ok (.newarray .int, 2) := by decide +kernel
theorem d10_44 : decode prog_15_method_11_code 44 = .ok (.astore 4, 2) := by decide +kernel
theorem d10_46 : decode prog_15_method_11_code 46 = .ok (.iconst 0, 1) := by decide +kernel
theorem d10_47 : decode prog_15_method_11_code 47 = .ok (.istore 5, 2) := by decide +kernel
theorem d10_49 : decode prog_15_method_11_code 49 = .ok (.iconst 0, 1) := by decide +kernel
theorem d10_50 : decode prog_15_method_11_code 50 = .ok (.istore 6, 2) := by decide +kernel
theorem d10_52 : decode prog_15_method_11_code 52 = .ok (.iload 6, 2) := by decide +kernel
theorem d10_54 : decode prog_15_method_11_code 54 = .ok (.iload_n 2, 1) := by decide +kernel
theorem d10_55 : decode prog_15_method_11_code 55 = .ok (.if_icmp .ge 70, 3) := by decide +kernel
theorem d10_58 : decode prog_15_method_11_code 58 = .ok (.iload 6, 2) := by decide +kernel
theorem d10_60 : decode prog_15_method_11_code 60 = .ok (.ifCond .le 41, 3) := by decide +kernel
theorem d10_101 : decode prog_15_method_11_code 101 = .ok (.iconst 0, 1) := by decide +kernel
theorem d10_102 : decode prog_15_method_11_code 102 = .ok (.istore 7, 2) := by decide +kernel
theorem d10_104 : decode prog_15_method_11_code 104 = .ok (.iload 7, 2) := by decide +kernel
theorem d10_106 : decode prog_15_method_11_code 106 = .ok (.ifCond .ne 13, 3) := by decide +kernel
theorem d10_109 : decode prog_15_method_11_code 109 = .ok (.aload 4, 2) := by decide +kernel
theorem d10_111 : decode prog_15_method_11_code 111 = .ok (.iload 5, 2) := by decide +kernel
theorem d10_113 : decode prog_15_method_11_code 113 = .ok (.iinc 5 1, 3) := by decide +kernel
theorem d10_116 : decode prog_15_method_11_code 116 = .ok (.iload 6, 2) := by decide +kernel
theorem d10_118 : decode prog_15_method_11_code 118 = .ok (.iastore, 1) := by decide +kernel
theorem d10_119 : decode prog_15_method_11_code 119 = .ok (.iinc 6 1, 3) := by decide +kernel
theorem d10_122 : decode prog_15_method_11_code 122 = .ok (.goto (-70), 3) := by decide +kernel
theorem d10_125 : decode prog_15_method_11_code 125 = .ok (.aload 4, 2) := by decide +kernel
theorem d10_127 : decode prog_15_method_11_code 127 = .ok (.iload 5, 2) := by decide +kernel
theorem d10_129 : decode prog_15_method_11_code 129 = .ok (.iload_n 2, 1) := by decide +kernel
theorem d10_130 : decode prog_15_method_11_code 130 = .ok (.iastore, 1) := by decide +kernel
theorem d10_131 : decode prog_15_method_11_code 131 = .ok (.aload 4, 2) := by decide +kernel
theorem d10_133 : decode prog_15_method_11_code 133 = .ok (.iload 5, 2) := by decide +kernel
theorem d10_135 : decode prog_15_method_11_code 135 = .ok (.iconst 1, 1) := by decide +kernel
theorem d10_136 : decode prog_15_method_11_code 136 = .ok (.iadd, 1) := by decide +kernel
theorem d10_137 : decode prog_15_method_11_code 137 = .ok (.invokestatic 84, 3) := by decide +kernel
theorem w43 {Z : State} {a0 : Array Value} (hw : ∀ d ∈ tables_1, d.before a0 Z = true) : (Jvm.Cond.methodLink cn0 (84 : Nat) ({ cls := cn2, name := "copyOf", desc := "([II)[I" } : Jvm.MethodName)).before a0 Z = true := hw _ (List.mem_of_getElem? (i := 43) rfl)
theorem d11_0 : decode jdk_65_method_123_code 0 = .ok (.iload_n 1, 1) := by decide +kernel
theorem d11_1 : decode jdk_65_method_123_code 1 = .ok (.aload_n 0, 1) := by decide +kernel
theorem d11_2 : decode jdk_65_method_123_code 2 = .ok (.arraylength, 1) := by decide +kernel
theorem d11_3 : decode jdk_65_method_123_code 3 = .ok (.if_icmp .ne 11, 3) := by decide +kernel
theorem d11_6 : decode jdk_65_method_123_code 6 = .ok (.aload_n 0, 1) := by decide +kernel
theorem d11_7 : decode jdk_65_method_123_code 7 = .ok (.invokevirtual 316, 3) := by decide +kernel
theorem w46 {Z : State} {a0 : Array Value} (hw : ∀ d ∈ tables_1, d.before a0 Z = true) : (Jvm.Cond.methodLink cn2 (316 : Nat) ({ cls := "[I", name := "clone", desc := "()Ljava/lang/Object;" } : Jvm.MethodName)).before a0 Z = true := hw _ (List.mem_of_getElem? (i := 46) rfl)
theorem w47 {Z : State} {a0 : Array Value} (hw : ∀ d ∈ tables_1, d.before a0 Z = true) : (Jvm.Cond.sameMethod "[I" "java/lang/Object" "clone" "()Ljava/lang/Object;").before a0 Z = true := hw _ (List.mem_of_getElem? (i := 47) rfl)
theorem w51 {Z : State} {a0 : Array Value} (hw : ∀ d ∈ tables_1, d.before a0 Z = true) : (Jvm.Cond.native ({ cls := "java/lang/Object", name := "clone", desc := "()Ljava/lang/Object;" } : Jvm.MethodName)).before a0 Z = true := hw _ (List.mem_of_getElem? (i := 51) rfl)
theorem w49 {Z : State} {a0 : Array Value} (hw : ∀ d ∈ tables_1, d.before a0 Z = true) : (Jvm.Cond.instanceMethod ({ cls := "java/lang/Object", name := "clone", desc := "()Ljava/lang/Object;" } : Jvm.MethodName)).before a0 Z = true := hw _ (List.mem_of_getElem? (i := 49) rfl)
theorem w50 {Z : State} {a0 : Array Value} (hw : ∀ d ∈ tables_1, d.before a0 Z = true) : (Jvm.Cond.selects "[I" ({ cls := "[I", name := "clone", desc := "()Ljava/lang/Object;" } : Jvm.MethodName) ({ cls := "java/lang/Object", name := "clone", desc := "()Ljava/lang/Object;" } : Jvm.MethodName)).before a0 Z = true := hw _ (List.mem_of_getElem? (i := 50) rfl)
theorem w52 {Z : State} {a0 : Array Value} (hw : ∀ d ∈ tables_1, d.before a0 Z = true) : (Jvm.Cond.castable "[I" "java/lang/Cloneable").before a0 Z = true := hw _ (List.mem_of_getElem? (i := 52) rfl)
theorem d11_10 : decode jdk_65_method_123_code 10 = .ok (.checkcast 317, 3) := by decide +kernel
theorem w53 {Z : State} {a0 : Array Value} (hw : ∀ d ∈ tables_1, d.before a0 Z = true) : (Jvm.Cond.classLink cn2 (317 : Nat) "[I").before a0 Z = true := hw _ (List.mem_of_getElem? (i := 53) rfl)
theorem d11_13 : decode jdk_65_method_123_code 13 = .ok (.areturn, 1) := by decide +kernel
def Q_r10_copyOf (Z : State) (ya1 : Addr) (yk2 : ClassId) (h0 : Heap) (n0 : Nat) (v : Option Value) (h : Heap) (L : List Loc) : Prop := Fr n0 L ∧ Keep h0 h [] ∧ ((∃ (b2 : Addr), v = some (.ref b2) ∧ h0.size ≤ b2 ∧ Arv Z h b2 yk2 .int (2 : Int32) [(.int (0 : Int32)), (.int (1 : Int32))] (.int (0 : Int32)) ∧ Exa Z h b2 "[I"))
set_option maxRecDepth 65536 in
set_option maxHeartbeats 40000000 in
theorem r10_copyOf (l : Launch) (Z : State) (a0 : Array Value) (hw : ∀ d ∈ tables_1, d.before a0 Z = true) (ws : List Jvm.Cond) (ya1 : Addr) (yk2 : ClassId) (h0 : Heap) (n0 : Nat) (O0 : Old Z n0 h0) (F0 : Arv Z h0 ya1 yk2 .int (2 : Int32) [(.int (0 : Int32)), (.int (1 : Int32))] (.int (0 : Int32))) (F1 : Exa Z h0 ya1 "[I") :
    MetFree l (⟨cn2, "copyOf", "([II)[I"⟩ : MethodName) (head1 (Jvm.Cond.code (⟨cn2, "copyOf", "([II)[I"⟩ : MethodName) jdk_65_method_123_code 3 (some (.array .int)) :: ws) ({ frames := 1, cells := 1, slots := 2, locals := 14 } : Room)) (fun a U => a = #[(.ref ya1), (.int (2 : Int32))] ∧ Z.Warmed39 U.vm ∧ U.heap = h0) (fun _ _ _ _ _ => True) (fun _ U o U' => ∃ v L, o = .returned v ∧ Q_r10_copyOf Z ya1 yk2 h0 n0 v U'.heap L ∧ FrameEnd U o U' L ({ frames := 1, cells := 1, slots := 2, locals := 14 } : Room).cells ({ frames := 1, cells := 1, slots := 2, locals := 14 } : Room).slots) := by
  refine MetFree.of_bodySF (plainFor_of_name pn_java_util_Arrays) hisR ?_
  intro p e s m args below meth c s₁ Bd hml0 hP hK
  obtain ⟨rfl, hZ, hh⟩ := hP
  have hx := Bd.exec
  have hby := Bd.bytes
  have hlk := Bd.notSynchronized
  have hml : c.maxLocals = 3 := hml0
  have hown : s.vm.findClass cn2 = some m.cls := findClass_of_methodNamed Bd.named
  have hnm := (name_of_methodNamed Bd.named Bd.method).1
  have X0 : Stand p l e ({ frames := 1, cells := 1, slots := 2, locals := 14 } : Room) s m #[(.ref ya1), (.int (2 : Int32))] below meth c s₁ [] 0 0 := Stand.of_body Bd
  have e0 : s₁.heap = h0 := by rw [← hh, Bd.state]; rfl
  have N0 := Fr.nil n0
  have K0 := Keep.refl h0 []
  have Z0 : n0 ≤ h0.size := O0.1 ▸ O0.2.1
  have hef : entryFrame m #[(.ref ya1), (.int (2 : Int32))] 3 = mkF m 0 #[.val (.ref ya1), .val (.int (2 : Int32)), .unset] [] := by first | (simp [entryFrame, mkF, argsToLocals, Value.category]; done) | rfl
  rw [hef]
  refine Gets.out (Q := Q_r10_copyOf Z ya1 yk2 h0 n0) ?_
  show Gets p e below _ (s₁.setTop (mkF m 0 #[.val (.ref ya1), .val (.int (2 : Int32)), .unset] []))
  refine Gets.of (fun t k => XS.iloadN X0.here hx rfl (hb hby d11_0) rfl  k) ?_
  refine Gets.of (fun t k => XS.aloadN X0.here hx rfl (hb hby d11_1) rfl rfl  k) ?_
  obtain ⟨cl1, Ar1, -, S1, N_1, -, -⟩ := id (F0)
  refine Gets.of (X0.arraylength hx (by rw [e0]; exact Ar1.1) (State.isArrayOf_alike hZ.alike Ar1.2.1) (g := (mkF m 2 #[.val (.ref ya1), .val (.int (2 : Int32)), .unset] [(.ref ya1), (.int (2 : Int32))])) rfl rfl (hb hby d11_2)) ?_
  rw [len_of S1 N_1]
  show Gets p e below _ (s₁.setTop (mkF m 3 #[.val (.ref ya1), .val (.int (2 : Int32)), .unset] [(.int (2 : Int32)), (.int (2 : Int32))]))
  refine Gets.of (fun t k => XS.icmpNo X0.here hx rfl (hb hby d11_3) rfl (teq (by decide : (2 : Int32) = (2 : Int32))).2 k) ?_
  show Gets p e below _ (s₁.setTop (mkF m 6 #[.val (.ref ya1), .val (.int (2 : Int32)), .unset] []))
  refine Gets.of (fun t k => XS.aloadN X0.here hx rfl (hb hby d11_6) rfl rfl  k) ?_
  obtain ⟨T2, h2, X2, e2, E2, A2, Ex2, st2⟩ := cloneH X0 hx hZ hown (w46 hw) (w47 hw) (w51 hw) (w49 hw) (w50 hw) (w52 hw) e0 (Arv.arh F0) F1 (g := (mkF m 7 #[.val (.ref ya1), .val (.int (2 : Int32)), .unset] [(.ref ya1)])) rfl (by rw [hml]; rfl) rfl (hb hby d11_7) (by decide) (W := 0) (cap := 2) (by show 2 * 0 + _ ≤ _; exact Nat.le_of_eq rfl) (by decide) (by decide) (by decide) (by decide)
  obtain ⟨b2, g2⟩ : ∃ z, z = h0.size := ⟨_, rfl⟩
  rw [← g2] at A2 Ex2 st2
  have sz_b2 : h0.size ≤ b2 := Nat.le_trans K0.1 (Nat.le_of_eq g2.symm)
  have g_b2 : n0 ≤ b2 := Nat.le_trans Z0 sz_b2
  have K3 := K0.ext E2
  have O3 := O0.ext E2
  have V2 : Arv Z h2 b2 yk2 .int (2 : Int32) [(.int (0 : Int32)), (.int (1 : Int32))] (.int (0 : Int32)) := A2
  refine Gets.of st2 ?_
  show Gets p e below _ (T2.setTop (mkF m 10 #[.val (.ref ya1), .val (.int (2 : Int32)), .unset] [(.ref b2)]))
  obtain ⟨T4, X4, e4, st4⟩ := castY X2 hx hZ hown (w53 hw) e2 (Ins.self Ex2) (g := (mkF m 10 #[.val (.ref ya1), .val (.int (2 : Int32)), .unset] [(.ref b2)])) rfl rfl (hb hby d11_10)
  refine Gets.of st4 ?_
  show Gets p e below _ (T4.setTop (mkF m 13 #[.val (.ref ya1), .val (.int (2 : Int32)), .unset] [(.ref b2)]))
  refine Gets.retA X4 hx Bd.returns rfl rfl (hb hby d11_13) ?_ (by decide) (by decide)
  rw [e4]
  exact ⟨N0, K3, ⟨b2, rfl, sz_b2, V2, Ex2⟩⟩
theorem w45 {Z : State} {a0 : Array Value} (hw : ∀ d ∈ tables_1, d.before a0 Z = true) : (Jvm.Cond.code ({ cls := cn2, name := "copyOf", desc := "([II)[I" } : Jvm.MethodName) jdk_65_method_123_code (3 : Nat) (Option.some (Jvm.ClassFile.FieldType.array Jvm.ClassFile.FieldType.int))).before a0 Z = true := hw _ (List.mem_of_getElem? (i := 45) rfl)
theorem pd__II_I : parseMethodDescriptor "([II)[I" = some ⟨[(.array .int), .int], some (.array .int)⟩ := by decide +kernel
theorem w44 {Z : State} {a0 : Array Value} (hw : ∀ d ∈ tables_1, d.before a0 Z = true) : (Jvm.Cond.static ({ cls := cn2, name := "copyOf", desc := "([II)[I" } : Jvm.MethodName)).before a0 Z = true := hw _ (List.mem_of_getElem? (i := 44) rfl)
theorem d10_140 : decode prog_15_method_11_code 140 = .ok (.areturn, 1) := by decide +kernel
def Q_r9_fundamental (Z : State) (ya1 : Addr) (ya2 : Addr) (yk3 : ClassId) (h0 : Heap) (n0 : Nat) (v : Option Value) (h : Heap) (L : List Loc) : Prop := Fr n0 L ∧ Keep h0 h [] ∧ ((∃ (b2_15 : Addr) (k6 : ClassId), v = some (.ref b2_15) ∧ h0.size ≤ b2_15 ∧ Arv Z h b2_15 k6 .int (2 : Int32) [(.int (0 : Int32)), (.int (1 : Int32))] (.int (0 : Int32)) ∧ Exa Z h b2_15 "[I"))
set_option maxRecDepth 65536 in
set_option maxHeartbeats 40000000 in
theorem r9_fundamental (l : Launch) (Z : State) (a0 : Array Value) (hw : ∀ d ∈ tables_1, d.before a0 Z = true) (ws : List Jvm.Cond) (ya1 : Addr) (ya2 : Addr) (yk3 : ClassId) (h0 : Heap) (n0 : Nat) (O0 : Old Z n0 h0) (F0 : Arv Z h0 ya1 yk3 .int (1 : Int32) [(.int (-1 : Int32))] (.int (0 : Int32))) :
    MetFree l (⟨cn0, "fundamental", "([I[I)[I"⟩ : MethodName) (head1 (Jvm.Cond.code (⟨cn0, "fundamental", "([I[I)[I"⟩ : MethodName) prog_15_method_11_code 8 (some (.array .int)) :: ws) ({ frames := 2, cells := 3, slots := 5, locals := 28 } : Room)) (fun a U => a = #[(.ref ya1), (.ref ya2)] ∧ Z.Warmed39 U.vm ∧ U.heap = h0) (fun _ _ _ _ _ => True) (fun _ U o U' => ∃ v L, o = .returned v ∧ Q_r9_fundamental Z ya1 ya2 yk3 h0 n0 v U'.heap L ∧ FrameEnd U o U' L ({ frames := 2, cells := 3, slots := 5, locals := 28 } : Room).cells ({ frames := 2, cells := 3, slots := 5, locals := 28 } : Room).slots) := by
  refine MetFree.of_bodySF (plainFor_of_name pn_com_example_unea_unea_analysis_Supernodes) hisR ?_
  intro p e s m args below meth c s₁ Bd hml0 hP hK
  obtain ⟨rfl, hZ, hh⟩ := hP
  have hx := Bd.exec
  have hby := Bd.bytes
  have hlk := Bd.notSynchronized
  have hml : c.maxLocals = 8 := hml0
  have hown : s.vm.findClass cn0 = some m.cls := findClass_of_methodNamed Bd.named
  have hnm := (name_of_methodNamed Bd.named Bd.method).1
  have X0 : Stand p l e ({ frames := 2, cells := 3, slots := 5, locals := 28 } : Room) s m #[(.ref ya1), (.ref ya2)] below meth c s₁ [] 0 0 := Stand.of_body Bd
  have e0 : s₁.heap = h0 := by rw [← hh, Bd.state]; rfl
  have N0 := Fr.nil n0
  have K0 := Keep.refl h0 []
  have Z0 : n0 ≤ h0.size := O0.1 ▸ O0.2.1
  have hef : entryFrame m #[(.ref ya1), (.ref ya2)] 8 = mkF m 0 #[.val (.ref ya1), .val (.ref ya2), .unset, .unset, .unset, .unset, .unset, .unset] [] := by first | (simp [entryFrame, mkF, argsToLocals, Value.category]; done) | rfl
  rw [hef]
  refine Gets.out (Q := Q_r9_fundamental Z ya1 ya2 yk3 h0 n0) ?_
  show Gets p e below _ (s₁.setTop (mkF m 0 #[.val (.ref ya1), .val (.ref ya2), .unset, .unset, .unset, .unset, .unset, .unset] []))
  refine Gets.of (fun t k => XS.aloadN X0.here hx rfl (hb hby d10_0) rfl rfl  k) ?_
  obtain ⟨cl1, Ar1, -, S1, N_1, -, -⟩ := id (F0)
  refine Gets.of (X0.arraylength hx (by rw [e0]; exact Ar1.1) (State.isArrayOf_alike hZ.alike Ar1.2.1) (g := (mkF m 1 #[.val (.ref ya1), .val (.ref ya2), .unset, .unset, .unset, .unset, .unset, .unset] [(.ref ya1)])) rfl rfl (hb hby d10_1)) ?_
  rw [len_of S1 N_1]
  show Gets p e below _ (s₁.setTop (mkF m 2 #[.val (.ref ya1), .val (.ref ya2), .unset, .unset, .unset, .unset, .unset, .unset] [(.int (1 : Int32))]))
  refine Gets.of (fun t k => XS.istoreN X0.here hx rfl (hb hby d10_2) rfl (l' := #[.val (.ref ya1), .val (.ref ya2), .val (.int (1 : Int32)), .unset, .unset, .unset, .unset, .unset]) rfl k) ?_
  show Gets p e below _ (s₁.setTop (mkF m 3 #[.val (.ref ya1), .val (.ref ya2), .val (.int (1 : Int32)), .unset, .unset, .unset, .unset, .unset] []))
  refine Gets.of (fun t k => XS.iloadN X0.here hx rfl (hb hby d10_3) rfl  k) ?_
  obtain ⟨T2, h2, k2, X2, e2, E2, A2, Ex2, st2⟩ := newPE X0 hx hZ (aty := .int) (w3 hw) e0 (g := (mkF m 4 #[.val (.ref ya1), .val (.ref ya2), .val (.int (1 : Int32)), .unset, .unset, .unset, .unset, .unset] [(.int (1 : Int32))])) rfl (hb hby d10_4) rfl (by decide) (cap := 1) (by decide) (by decide) (by decide) (by decide) (ad := "[I") rfl
  obtain ⟨b2, g2⟩ : ∃ z, z = h0.size := ⟨_, rfl⟩
  rw [← g2] at A2 Ex2 st2
  have sz_b2 : h0.size ≤ b2 := Nat.le_trans K0.1 (Nat.le_of_eq g2.symm)
  have g_b2 : n0 ≤ b2 := Nat.le_trans Z0 sz_b2
  have K3 := K0.ext E2
  have O3 := O0.ext E2
  have V2 : Arv Z h2 b2 k2 .int (1 : Int32) [(.int (0 : Int32))] (.int (0 : Int32)) := (Arv.new A2 (by decide)).pad (pad_rep [] (.int (0 : Int32)) 1)
  refine Gets.of st2 ?_
  show Gets p e below _ (T2.setTop (mkF m 6 #[.val (.ref ya1), .val (.ref ya2), .val (.int (1 : Int32)), .unset, .unset, .unset, .unset, .unset] [(.ref b2)]))
  refine Gets.of (fun t k => XS.astoreN X2.here hx rfl (hb hby d10_6) rfl rfl (l' := #[.val (.ref ya1), .val (.ref ya2), .val (.int (1 : Int32)), .val (.ref b2), .unset, .unset, .unset, .unset]) rfl k) ?_
  show Gets p e below _ (T2.setTop (mkF m 7 #[.val (.ref ya1), .val (.ref ya2), .val (.int (1 : Int32)), .val (.ref b2), .unset, .unset, .unset, .unset] []))
  refine Gets.of (fun t k => XS.iconst X2.here hx rfl (hb hby d10_7) k) ?_
  refine Gets.of (fun t k => XS.istore X2.here hx rfl (hb hby d10_8) rfl (l' := #[.val (.ref ya1), .val (.ref ya2), .val (.int (1 : Int32)), .val (.ref b2), .val (.int (0 : Int32)), .unset, .unset, .unset]) rfl k) ?_
  show Gets p e below _ (T2.setTop (mkF m 10 #[.val (.ref ya1), .val (.ref ya2), .val (.int (1 : Int32)), .val (.ref b2), .val (.int (0 : Int32)), .unset, .unset, .unset] []))
  refine Gets.of (fun t k => XS.iload X2.here hx rfl (hb hby d10_10) rfl  k) ?_
  refine Gets.of (fun t k => XS.iloadN X2.here hx rfl (hb hby d10_12) rfl  k) ?_
  refine Gets.of (fun t k => XS.icmpNo X2.here hx rfl (hb hby d10_13) rfl (tlt (by decide : (0 : Int32) < (1 : Int32))).2.1 k) ?_
  show Gets p e below _ (T2.setTop (mkF m 16 #[.val (.ref ya1), .val (.ref ya2), .val (.int (1 : Int32)), .val (.ref b2), .val (.int (0 : Int32)), .unset, .unset, .unset] []))
  refine Gets.of (fun t k => XS.aloadN X2.here hx rfl (hb hby d10_16) rfl rfl  k) ?_
  refine Gets.of (fun t k => XS.iload X2.here hx rfl (hb hby d10_17) rfl  k) ?_
  have f4 : Arv Z h2 ya1 yk3 .int (1 : Int32) [(.int (-1 : Int32))] (.int (0 : Int32)) := (F0.ext E2)
  obtain ⟨cl5, Ar5, q5, S5, N_5, H5, G5⟩ := id (f4)
  have hin5 : ¬ ((0 : Int32) < 0 ∨ cl5.slots.size ≤ ((0 : Int32)).toNatClampNeg) := inb_of S5 ⟨by decide, by decide⟩
  refine Gets.of (fun t k => X2.iaload hx (j := (0 : Int32)) (v := (.int (-1 : Int32))) (by rw [e2]; exact Ar5.1) (State.isArrayOf_alike hZ.alike Ar5.2.1) Ar5.2.2 hin5 (Has.at H5 hin5 rfl) (g := (mkF m 19 #[.val (.ref ya1), .val (.ref ya2), .val (.int (1 : Int32)), .val (.ref b2), .val (.int (0 : Int32)), .unset, .unset, .unset] [(.int (0 : Int32)), (.ref ya1)])) rfl rfl (hb hby d10_19) t k) ?_
  show Gets p e below _ (T2.setTop (mkF m 20 #[.val (.ref ya1), .val (.ref ya2), .val (.int (1 : Int32)), .val (.ref b2), .val (.int (0 : Int32)), .unset, .unset, .unset] [(.int (-1 : Int32))]))
  refine Gets.of (fun t k => XS.ifYes X2.here hx rfl (pc0 := 20) (pc' := 33) rfl (hb hby d10_20) rfl ((if0 _ _).trans (tlt (by decide : (-1 : Int32) < (0 : Int32))).1) (by decide) (by decide) k) ?_
  show Gets p e below _ (T2.setTop (mkF m 33 #[.val (.ref ya1), .val (.ref ya2), .val (.int (1 : Int32)), .val (.ref b2), .val (.int (0 : Int32)), .unset, .unset, .unset] []))
  refine Gets.of (fun t k => XS.iinc X2.here hx rfl (hb hby d10_33) rfl (l' := #[.val (.ref ya1), .val (.ref ya2), .val (.int (1 : Int32)), .val (.ref b2), .val (.int (1 : Int32)), .unset, .unset, .unset]) rfl k) ?_
  show Gets p e below _ (T2.setTop (mkF m 36 #[.val (.ref ya1), .val (.ref ya2), .val (.int (1 : Int32)), .val (.ref b2), .val (.int (1 : Int32)), .unset, .unset, .unset] []))
  refine Gets.of (fun t k => XS.goto X2.here hx rfl (pc0 := 36) (pc' := 10) rfl (hb hby d10_36) (by decide) (by decide) k) ?_
  show Gets p e below _ (T2.setTop (mkF m 10 #[.val (.ref ya1), .val (.ref ya2), .val (.int (1 : Int32)), .val (.ref b2), .val (.int (1 : Int32)), .unset, .unset, .unset] []))
  refine Gets.of (fun t k => XS.iload X2.here hx rfl (hb hby d10_10) rfl  k) ?_
  refine Gets.of (fun t k => XS.iloadN X2.here hx rfl (hb hby d10_12) rfl  k) ?_
  refine Gets.of (fun t k => XS.icmpYes X2.here hx rfl (pc0 := 13) (pc' := 39) rfl (hb hby d10_13) rfl (flt (by decide : ¬ ((1 : Int32) < (1 : Int32)))).2.1 (by decide) (by decide) k) ?_
  show Gets p e below _ (T2.setTop (mkF m 39 #[.val (.ref ya1), .val (.ref ya2), .val (.int (1 : Int32)), .val (.ref b2), .val (.int (1 : Int32)), .unset, .unset, .unset] []))
  refine Gets.of (fun t k => XS.iloadN X2.here hx rfl (hb hby d10_39) rfl  k) ?_
  refine Gets.of (fun t k => XS.iconst X2.here hx rfl (hb hby d10_40) k) ?_
  refine Gets.of (fun t k => XS.iadd X2.here hx rfl (hb hby d10_41) rfl k) ?_
  show Gets p e below _ (T2.setTop (mkF m 42 #[.val (.ref ya1), .val (.ref ya2), .val (.int (1 : Int32)), .val (.ref b2), .val (.int (1 : Int32)), .unset, .unset, .unset] [(.int (2 : Int32))]))
  obtain ⟨T6, h6, k6, X6, e6, E6, A6, Ex6, st6⟩ := newPE X2 hx hZ (aty := .int) (w3 hw) e2 (g := (mkF m 42 #[.val (.ref ya1), .val (.ref ya2), .val (.int (1 : Int32)), .val (.ref b2), .val (.int (1 : Int32)), .unset, .unset, .unset] [(.int (2 : Int32))])) rfl (hb hby d10_42) rfl (by decide) (cap := 2) (by decide) (by decide) (by decide) (by decide) (ad := "[I") rfl
  obtain ⟨b6, g6⟩ : ∃ z, z = h2.size := ⟨_, rfl⟩
  rw [← g6] at A6 Ex6 st6
  have sz_b6 : h0.size ≤ b6 := Nat.le_trans K3.1 (Nat.le_of_eq g6.symm)
  have g_b6 : n0 ≤ b6 := Nat.le_trans Z0 sz_b6
  have K7 := K3.ext E6
  have O7 := O3.ext E6
  have V6 : Arv Z h6 b6 k6 .int (2 : Int32) [(.int (0 : Int32)), (.int (0 : Int32))] (.int (0 : Int32)) := (Arv.new A6 (by decide)).pad (pad_rep [] (.int (0 : Int32)) 2)
  refine Gets.of st6 ?_
  show Gets p e below _ (T6.setTop (mkF m 44 #[.val (.ref ya1), .val (.ref ya2), .val (.int (1 : Int32)), .val (.ref b2), .val (.int (1 : Int32)), .unset, .unset, .unset] [(.ref b6)]))
  refine Gets.of (fun t k => XS.astore X6.here hx rfl (hb hby d10_44) rfl rfl (l' := #[.val (.ref ya1), .val (.ref ya2), .val (.int (1 : Int32)), .val (.ref b2), .val (.ref b6), .unset, .unset, .unset]) rfl k) ?_
  show Gets p e below _ (T6.setTop (mkF m 46 #[.val (.ref ya1), .val (.ref ya2), .val (.int (1 : Int32)), .val (.ref b2), .val (.ref b6), .unset, .unset, .unset] []))
  refine Gets.of (fun t k => XS.iconst X6.here hx rfl (hb hby d10_46) k) ?_
  refine Gets.of (fun t k => XS.istore X6.here hx rfl (hb hby d10_47) rfl (l' := #[.val (.ref ya1), .val (.ref ya2), .val (.int (1 : Int32)), .val (.ref b2), .val (.ref b6), .val (.int (0 : Int32)), .unset, .unset]) rfl k) ?_
  show Gets p e below _ (T6.setTop (mkF m 49 #[.val (.ref ya1), .val (.ref ya2), .val (.int (1 : Int32)), .val (.ref b2), .val (.ref b6), .val (.int (0 : Int32)), .unset, .unset] []))
  refine Gets.of (fun t k => XS.iconst X6.here hx rfl (hb hby d10_49) k) ?_
  refine Gets.of (fun t k => XS.istore X6.here hx rfl (hb hby d10_50) rfl (l' := #[.val (.ref ya1), .val (.ref ya2), .val (.int (1 : Int32)), .val (.ref b2), .val (.ref b6), .val (.int (0 : Int32)), .val (.int (0 : Int32)), .unset]) rfl k) ?_
  show Gets p e below _ (T6.setTop (mkF m 52 #[.val (.ref ya1), .val (.ref ya2), .val (.int (1 : Int32)), .val (.ref b2), .val (.ref b6), .val (.int (0 : Int32)), .val (.int (0 : Int32)), .unset] []))
  refine Gets.of (fun t k => XS.iload X6.here hx rfl (hb hby d10_52) rfl  k) ?_
  refine Gets.of (fun t k => XS.iloadN X6.here hx rfl (hb hby d10_54) rfl  k) ?_
  refine Gets.of (fun t k => XS.icmpNo X6.here hx rfl (hb hby d10_55) rfl (tlt (by decide : (0 : Int32) < (1 : Int32))).2.1 k) ?_
  show Gets p e below _ (T6.setTop (mkF m 58 #[.val (.ref ya1), .val (.ref ya2), .val (.int (1 : Int32)), .val (.ref b2), .val (.ref b6), .val (.int (0 : Int32)), .val (.int (0 : Int32)), .unset] []))
  refine Gets.of (fun t k => XS.iload X6.here hx rfl (hb hby d10_58) rfl  k) ?_
  refine Gets.of (fun t k => XS.ifYes X6.here hx rfl (pc0 := 60) (pc' := 101) rfl (hb hby d10_60) rfl ((if0 _ _).trans (flt (by decide : ¬ ((0 : Int32) < (0 : Int32)))).2.2.2) (by decide) (by decide) k) ?_
  show Gets p e below _ (T6.setTop (mkF m 101 #[.val (.ref ya1), .val (.ref ya2), .val (.int (1 : Int32)), .val (.ref b2), .val (.ref b6), .val (.int (0 : Int32)), .val (.int (0 : Int32)), .unset] []))
  refine Gets.of (fun t k => XS.iconst X6.here hx rfl (hb hby d10_101) k) ?_
  refine Gets.of (fun t k => XS.istore X6.here hx rfl (hb hby d10_102) rfl (l' := #[.val (.ref ya1), .val (.ref ya2), .val (.int (1 : Int32)), .val (.ref b2), .val (.ref b6), .val (.int (0 : Int32)), .val (.int (0 : Int32)), .val (.int (0 : Int32))]) rfl k) ?_
  show Gets p e below _ (T6.setTop (mkF m 104 #[.val (.ref ya1), .val (.ref ya2), .val (.int (1 : Int32)), .val (.ref b2), .val (.ref b6), .val (.int (0 : Int32)), .val (.int (0 : Int32)), .val (.int (0 : Int32))] []))
  refine Gets.of (fun t k => XS.iload X6.here hx rfl (hb hby d10_104) rfl  k) ?_
  refine Gets.of (fun t k => XS.ifNo X6.here hx rfl (hb hby d10_106) rfl ((if0 _ _).trans (teq (by decide : (0 : Int32) = (0 : Int32))).2) k) ?_
  show Gets p e below _ (T6.setTop (mkF m 109 #[.val (.ref ya1), .val (.ref ya2), .val (.int (1 : Int32)), .val (.ref b2), .val (.ref b6), .val (.int (0 : Int32)), .val (.int (0 : Int32)), .val (.int (0 : Int32))] []))
  refine Gets.of (fun t k => XS.aload X6.here hx rfl (hb hby d10_109) rfl rfl  k) ?_
  refine Gets.of (fun t k => XS.iload X6.here hx rfl (hb hby d10_111) rfl  k) ?_
  refine Gets.of (fun t k => XS.iinc X6.here hx rfl (hb hby d10_113) rfl (l' := #[.val (.ref ya1), .val (.ref ya2), .val (.int (1 : Int32)), .val (.ref b2), .val (.ref b6), .val (.int (1 : Int32)), .val (.int (0 : Int32)), .val (.int (0 : Int32))]) rfl k) ?_
  show Gets p e below _ (T6.setTop (mkF m 116 #[.val (.ref ya1), .val (.ref ya2), .val (.int (1 : Int32)), .val (.ref b2), .val (.ref b6), .val (.int (1 : Int32)), .val (.int (0 : Int32)), .val (.int (0 : Int32))] [(.int (0 : Int32)), (.ref b6)]))
  refine Gets.of (fun t k => XS.iload X6.here hx rfl (hb hby d10_116) rfl  k) ?_
  obtain ⟨cl8, Ar8, q8, S8, N_8, H8, G8⟩ := id (V6)
  have hin8 : ¬ ((0 : Int32) < 0 ∨ cl8.slots.size ≤ ((0 : Int32)).toNatClampNeg) := inb_of S8 ⟨by decide, by decide⟩
  obtain ⟨T9, h9, X9, e9, W9, st9⟩ := stI X6 hx hZ e6 Ar8 (j := (0 : Int32)) hin8 (g := (mkF m 118 #[.val (.ref ya1), .val (.ref ya2), .val (.int (1 : Int32)), .val (.ref b2), .val (.ref b6), .val (.int (1 : Int32)), .val (.int (0 : Int32)), .val (.int (0 : Int32))] [(.int (0 : Int32)), (.int (0 : Int32)), (.ref b6)])) rfl rfl (hb hby d10_118)
  have V9 : Arv Z h9 b6 k6 .int (2 : Int32) [(.int (0 : Int32)), (.int (0 : Int32))] (.int (0 : Int32)) := Arv.set Ar8 q8 S8 N_8 H8 G8 rfl W9 0 rfl (Nat.le_of_ble_eq_true rfl)
  have N9 := Fr.snoc X9 N0 g_b6
  have K10 : Keep h0 _ [] := K7.wr W9 (Or.inr sz_b6)
  have O10 := O7.wr W9 g_b6
  refine Gets.of st9 ?_
  show Gets p e below _ (T9.setTop (mkF m 119 #[.val (.ref ya1), .val (.ref ya2), .val (.int (1 : Int32)), .val (.ref b2), .val (.ref b6), .val (.int (1 : Int32)), .val (.int (0 : Int32)), .val (.int (0 : Int32))] []))
  refine Gets.of (fun t k => XS.iinc X9.here hx rfl (hb hby d10_119) rfl (l' := #[.val (.ref ya1), .val (.ref ya2), .val (.int (1 : Int32)), .val (.ref b2), .val (.ref b6), .val (.int (1 : Int32)), .val (.int (1 : Int32)), .val (.int (0 : Int32))]) rfl k) ?_
  show Gets p e below _ (T9.setTop (mkF m 122 #[.val (.ref ya1), .val (.ref ya2), .val (.int (1 : Int32)), .val (.ref b2), .val (.ref b6), .val (.int (1 : Int32)), .val (.int (1 : Int32)), .val (.int (0 : Int32))] []))
  refine Gets.of (fun t k => XS.goto X9.here hx rfl (pc0 := 122) (pc' := 52) rfl (hb hby d10_122) (by decide) (by decide) k) ?_
  show Gets p e below _ (T9.setTop (mkF m 52 #[.val (.ref ya1), .val (.ref ya2), .val (.int (1 : Int32)), .val (.ref b2), .val (.ref b6), .val (.int (1 : Int32)), .val (.int (1 : Int32)), .val (.int (0 : Int32))] []))
  refine Gets.of (fun t k => XS.iload X9.here hx rfl (hb hby d10_52) rfl  k) ?_
  refine Gets.of (fun t k => XS.iloadN X9.here hx rfl (hb hby d10_54) rfl  k) ?_
  refine Gets.of (fun t k => XS.icmpYes X9.here hx rfl (pc0 := 55) (pc' := 125) rfl (hb hby d10_55) rfl (flt (by decide : ¬ ((1 : Int32) < (1 : Int32)))).2.1 (by decide) (by decide) k) ?_
  show Gets p e below _ (T9.setTop (mkF m 125 #[.val (.ref ya1), .val (.ref ya2), .val (.int (1 : Int32)), .val (.ref b2), .val (.ref b6), .val (.int (1 : Int32)), .val (.int (1 : Int32)), .val (.int (0 : Int32))] []))
  refine Gets.of (fun t k => XS.aload X9.here hx rfl (hb hby d10_125) rfl rfl  k) ?_
  refine Gets.of (fun t k => XS.iload X9.here hx rfl (hb hby d10_127) rfl  k) ?_
  refine Gets.of (fun t k => XS.iloadN X9.here hx rfl (hb hby d10_129) rfl  k) ?_
  obtain ⟨cl11, Ar11, q11, S11, N_11, H11, G11⟩ := id (V9)
  have hin11 : ¬ ((1 : Int32) < 0 ∨ cl11.slots.size ≤ ((1 : Int32)).toNatClampNeg) := inb_of S11 ⟨by decide, by decide⟩
  obtain ⟨T12, h12, X12, e12, W12, st12⟩ := stI X9 hx hZ e9 Ar11 (j := (1 : Int32)) hin11 (g := (mkF m 130 #[.val (.ref ya1), .val (.ref ya2), .val (.int (1 : Int32)), .val (.ref b2), .val (.ref b6), .val (.int (1 : Int32)), .val (.int (1 : Int32)), .val (.int (0 : Int32))] [(.int (1 : Int32)), (.int (1 : Int32)), (.ref b6)])) rfl rfl (hb hby d10_130)
  have V12 : Arv Z h12 b6 k6 .int (2 : Int32) [(.int (0 : Int32)), (.int (1 : Int32))] (.int (0 : Int32)) := Arv.set Ar11 q11 S11 N_11 H11 G11 rfl W12 1 rfl (Nat.le_of_ble_eq_true rfl)
  have N12 := Fr.snoc X12 N9 g_b6
  have K13 : Keep h0 _ [] := K10.wr W12 (Or.inr sz_b6)
  have O13 := O10.wr W12 g_b6
  refine Gets.of st12 ?_
  show Gets p e below _ (T12.setTop (mkF m 131 #[.val (.ref ya1), .val (.ref ya2), .val (.int (1 : Int32)), .val (.ref b2), .val (.ref b6), .val (.int (1 : Int32)), .val (.int (1 : Int32)), .val (.int (0 : Int32))] []))
  refine Gets.of (fun t k => XS.aload X12.here hx rfl (hb hby d10_131) rfl rfl  k) ?_
  refine Gets.of (fun t k => XS.iload X12.here hx rfl (hb hby d10_133) rfl  k) ?_
  refine Gets.of (fun t k => XS.iconst X12.here hx rfl (hb hby d10_135) k) ?_
  refine Gets.of (fun t k => XS.iadd X12.here hx rfl (hb hby d10_136) rfl k) ?_
  show Gets p e below _ (T12.setTop (mkF m 137 #[.val (.ref ya1), .val (.ref ya2), .val (.int (1 : Int32)), .val (.ref b2), .val (.ref b6), .val (.int (1 : Int32)), .val (.int (1 : Int32)), .val (.int (0 : Int32))] [(.int (2 : Int32)), (.ref b6)]))
  have f14 : Exa Z h12 b6 "[I" := ((Ex6.wr W9).wr W12)
  obtain ⟨_, _, ⟨T15, L15, k15, n15⟩, -, X15, ⟨Lc15, hQ15, l15, y15, z15⟩, st15⟩ := Jvm.LawKit.callS X12 hx (y := (⟨cn2, "copyOf", "([II)[I"⟩ : MethodName)) hown (mvT hZ (w43 hw)) (mvT hZ (w44 hw)) (mvT hZ (w31 hw)) (mvT hZ (w45 hw)) (by decide) (backOf (W := 0) (r10_copyOf l Z a0 hw [] b6 k6 h12 n0 O13 V12 f14) hZ (w45 hw) (w31 hw) (by decide) (by decide)) (g := (mkF m 137 #[.val (.ref ya1), .val (.ref ya2), .val (.int (1 : Int32)), .val (.ref b2), .val (.ref b6), .val (.int (1 : Int32)), .val (.int (1 : Int32)), .val (.int (0 : Int32))] [(.int (2 : Int32)), (.ref b6)])) rfl (by rw [hml]; rfl) (argsL := [(.ref b6), (.int (2 : Int32))]) (rest := []) (lenOf pd__II_I rfl) rfl (by show 2 * 0 + _ ≤ _; exact Nat.le_of_eq rfl) (hb hby d10_137) (fun _ _ => ⟨rfl, e12, (by decide : 2 + 1 ≤ _), (by decide : 3 + 2 ≤ _)⟩)
  dsimp only [Pt.U, Pt.locs, Pt.cells, Pt.slots] at X15 l15 y15 z15 st15 hQ15
  subst l15 y15 z15
  obtain ⟨Nq15, Kq15, hR15⟩ := hQ15
  have N15 := Fr.app N12 Nq15
  have up16 := (Nat.le_trans (Nat.le_of_eq W9.size.symm) (Nat.le_of_eq W12.size.symm))
  have K17 : Keep h0 _ [] := K13.trans Kq15 all0
  have O17 := O13.keep Kq15 all0
  obtain ⟨b2_15, rfl, bz15_0, bf15_0, bf15_1⟩ := hR15
  have sz_b2_15 : h0.size ≤ b2_15 := Nat.le_trans K13.1 bz15_0
  have g_b2_15 : n0 ≤ b2_15 := Nat.le_trans Z0 sz_b2_15
  refine Gets.of st15 ?_
  show Gets p e below _ (T15.setTop (mkF m 140 #[.val (.ref ya1), .val (.ref ya2), .val (.int (1 : Int32)), .val (.ref b2), .val (.ref b6), .val (.int (1 : Int32)), .val (.int (1 : Int32)), .val (.int (0 : Int32))] [(.ref b2_15)]))
  refine Gets.retA X15 hx Bd.returns rfl rfl (hb hby d10_140) ?_ (by decide) (by decide)
  exact ⟨N15, K17, ⟨b2_15, k6, rfl, sz_b2_15, bf15_0, bf15_1⟩⟩
theorem w42 {Z : State} {a0 : Array Value} (hw : ∀ d ∈ tables_1, d.before a0 Z = true) : (Jvm.Cond.code ({ cls := cn0, name := "fundamental", desc := "([I[I)[I" } : Jvm.MethodName) prog_15_method_11_code (8 : Nat) (Option.some (Jvm.ClassFile.FieldType.array Jvm.ClassFile.FieldType.int))).before a0 Z = true := hw _ (List.mem_of_getElem? (i := 42) rfl)
theorem pd__I_I_I : parseMethodDescriptor "([I[I)[I" = some ⟨[(.array .int), (.array .int)], some (.array .int)⟩ := by decide +kernel
theorem w41 {Z : State} {a0 : Array Value} (hw : ∀ d ∈ tables_1, d.before a0 Z = true) : (Jvm.Cond.static ({ cls := cn0, name := "fundamental", desc := "([I[I)[I" } : Jvm.MethodName)).before a0 Z = true := hw _ (List.mem_of_getElem? (i := 41) rfl)
theorem d3_119 : decode prog_15_method_2_code 119 = .ok (.aload 7, 2) := by decide +kernel
theorem d3_121 : decode prog_15_method_2_code 121 = .ok (.aload 9, 2) := by decide +kernel
theorem d3_123 : decode prog_15_method_2_code 123 = .ok (.invokestatic 57, 3) := by decide +kernel
theorem w55 {Z : State} {a0 : Array Value} (hw : ∀ d ∈ tables_1, d.before a0 Z = true) : (Jvm.Cond.methodLink cn0 (57 : Nat) ({ cls := cn0, name := "amalgamate", desc := "([I[I[I)[I" } : Jvm.MethodName)).before a0 Z = true := hw _ (List.mem_of_getElem? (i := 55) rfl)
theorem d12_0 : decode prog_15_method_12_code 0 = .ok (.aload_n 0, 1) := by decide +kernel
theorem d12_1 : decode prog_15_method_12_code 1 = .ok (.arraylength, 1) := by decide +kernel
theorem d12_2 : decode prog_15_method_12_code 2 = .ok (.iconst 1, 1) := by decide +kernel
theorem d12_3 : decode prog_15_method_12_code 3 = .ok (.isub, 1) := by decide +kernel
theorem d12_4 : decode prog_15_method_12_code 4 = .ok (.istore_n 3, 1) := by decide +kernel
theorem d12_5 : decode prog_15_method_12_code 5 = .ok (.iload_n 3, 1) := by decide +kernel
theorem d12_6 : decode prog_15_method_12_code 6 = .ok (.iconst 1, 1) := by decide +kernel
theorem d12_7 : decode prog_15_method_12_code 7 = .ok (.iadd, 1) := by decide +kernel
theorem d12_8 : decode prog_15_method_12_code 8 = .ok (.newarray .int, 2) := by decide +kernel
theorem d12_10 : decode prog_15_method_12_code 10 = .ok (.astore 4, 2) := by decide +kernel
theorem d12_12 : decode prog_15_method_12_code 12 = .ok (.iconst 0, 1) := by decide +kernel
theorem d12_13 : decode prog_15_method_12_code 13 = .ok (.istore 5, 2) := by decide +kernel
theorem d12_15 : decode prog_15_method_12_code 15 = .ok (.lconst 0, 1) := by decide +kernel
theorem d12_16 : decode prog_15_method_12_code 16 = .ok (.lstore 6, 2) := by decide +kernel
theorem d12_18 : decode prog_15_method_12_code 18 = .ok (.lconst 0, 1) := by decide +kernel
theorem d12_19 : decode prog_15_method_12_code 19 = .ok (.lstore 8, 2) := by decide +kernel
theorem d12_21 : decode prog_15_method_12_code 21 = .ok (.lconst 0, 1) := by decide +kernel
theorem d12_22 : decode prog_15_method_12_code 22 = .ok (.lstore 10, 2) := by decide +kernel
theorem d12_24 : decode prog_15_method_12_code 24 = .ok (.iconst 0, 1) := by decide +kernel
theorem d12_25 : decode prog_15_method_12_code 25 = .ok (.istore 12, 2) := by decide +kernel
theorem d12_27 : decode prog_15_method_12_code 27 = .ok (.iload 12, 2) := by decide +kernel
theorem d12_29 : decode prog_15_method_12_code 29 = .ok (.iload_n 3, 1) := by decide +kernel
theorem d12_30 : decode prog_15_method_12_code 30 = .ok (.if_icmp .ge 147, 3) := by decide +kernel
theorem d12_33 : decode prog_15_method_12_code 33 = .ok (.aload_n 0, 1) := by decide +kernel
theorem d12_34 : decode prog_15_method_12_code 34 = .ok (.iload 12, 2) := by decide +kernel
theorem d12_36 : decode prog_15_method_12_code 36 = .ok (.iaload, 1) := by decide +kernel
theorem d12_37 : decode prog_15_method_12_code 37 = .ok (.istore 13, 2) := by decide +kernel
theorem d12_39 : decode prog_15_method_12_code 39 = .ok (.aload_n 0, 1) := by decide +kernel
theorem d12_40 : decode prog_15_method_12_code 40 = .ok (.iload 12, 2) := by decide +kernel
theorem d12_42 : decode prog_15_method_12_code 42 = .ok (.iconst 1, 1) := by decide +kernel
theorem d12_43 : decode prog_15_method_12_code 43 = .ok (.iadd, 1) := by decide +kernel
theorem d12_44 : decode prog_15_method_12_code 44 = .ok (.iaload, 1) := by decide +kernel
theorem d12_45 : decode prog_15_method_12_code 45 = .ok (.iload 13, 2) := by decide +kernel
theorem d12_47 : decode prog_15_method_12_code 47 = .ok (.isub, 1) := by decide +kernel
theorem d12_48 : decode prog_15_method_12_code 48 = .ok (.i2l, 1) := by decide +kernel
theorem d12_49 : decode prog_15_method_12_code 49 = .ok (.lstore 14, 2) := by decide +kernel
theorem d12_51 : decode prog_15_method_12_code 51 = .ok (.aload_n 2, 1) := by decide +kernel
theorem d12_52 : decode prog_15_method_12_code 52 = .ok (.iload 13, 2) := by decide +kernel
theorem d12_54 : decode prog_15_method_12_code 54 = .ok (.iaload, 1) := by decide +kernel
theorem d12_55 : decode prog_15_method_12_code 55 = .ok (.i2l, 1) := by decide +kernel
theorem d12_56 : decode prog_15_method_12_code 56 = .ok (.lstore 16, 2) := by decide +kernel
theorem d12_58 : decode prog_15_method_12_code 58 = .ok (.iload 5, 2) := by decide +kernel
theorem d12_60 : decode prog_15_method_12_code 60 = .ok (.ifCond .le 90, 3) := by decide +kernel
theorem d12_150 : decode prog_15_method_12_code 150 = .ok (.aload 4, 2) := by decide +kernel
theorem d12_152 : decode prog_15_method_12_code 152 = .ok (.iload 5, 2) := by decide +kernel
theorem d12_154 : decode prog_15_method_12_code 154 = .ok (.iinc 5 1, 3) := by decide +kernel
theorem d12_157 : decode prog_15_method_12_code 157 = .ok (.iload 13, 2) := by decide +kernel
theorem d12_159 : decode prog_15_method_12_code 159 = .ok (.iastore, 1) := by decide +kernel
theorem d12_160 : decode prog_15_method_12_code 160 = .ok (.lload 14, 2) := by decide +kernel
theorem d12_162 : decode prog_15_method_12_code 162 = .ok (.lstore 6, 2) := by decide +kernel
theorem d12_164 : decode prog_15_method_12_code 164 = .ok (.lload 16, 2) := by decide +kernel
theorem d12_166 : decode prog_15_method_12_code 166 = .ok (.lstore 8, 2) := by decide +kernel
theorem d12_168 : decode prog_15_method_12_code 168 = .ok (.lconst 0, 1) := by decide +kernel
theorem d12_169 : decode prog_15_method_12_code 169 = .ok (.lstore 10, 2) := by decide +kernel
theorem d12_171 : decode prog_15_method_12_code 171 = .ok (.iinc 12 1, 3) := by decide +kernel
theorem d12_174 : decode prog_15_method_12_code 174 = .ok (.goto (-147), 3) := by decide +kernel
theorem d12_177 : decode prog_15_method_12_code 177 = .ok (.aload 4, 2) := by decide +kernel
theorem d12_179 : decode prog_15_method_12_code 179 = .ok (.iload 5, 2) := by decide +kernel
theorem d12_181 : decode prog_15_method_12_code 181 = .ok (.aload_n 1, 1) := by decide +kernel
theorem d12_182 : decode prog_15_method_12_code 182 = .ok (.arraylength, 1) := by decide +kernel
theorem d12_183 : decode prog_15_method_12_code 183 = .ok (.iastore, 1) := by decide +kernel
theorem d12_184 : decode prog_15_method_12_code 184 = .ok (.aload 4, 2) := by decide +kernel
theorem d12_186 : decode prog_15_method_12_code 186 = .ok (.iload 5, 2) := by decide +kernel
theorem d12_188 : decode prog_15_method_12_code 188 = .ok (.iconst 1, 1) := by decide +kernel
theorem d12_189 : decode prog_15_method_12_code 189 = .ok (.iadd, 1) := by decide +kernel
theorem d12_190 : decode prog_15_method_12_code 190 = .ok (.invokestatic 84, 3) := by decide +kernel
theorem d12_193 : decode prog_15_method_12_code 193 = .ok (.areturn, 1) := by decide +kernel
def Q_r11_amalgamate (Z : State) (ya1 : Addr) (ya2 : Addr) (ya3 : Addr) (yk4 : ClassId) (yk6 : ClassId) (yk5 : ClassId) (h0 : Heap) (n0 : Nat) (v : Option Value) (h : Heap) (L : List Loc) : Prop := Fr n0 L ∧ Keep h0 h [] ∧ ((∃ (b2_18 : Addr) (k2 : ClassId), v = some (.ref b2_18) ∧ h0.size ≤ b2_18 ∧ Arv Z h b2_18 k2 .int (2 : Int32) [(.int (0 : Int32)), (.int (1 : Int32))] (.int (0 : Int32)) ∧ Exa Z h b2_18 "[I"))
set_option maxRecDepth 65536 in
set_option maxHeartbeats 40000000 in
theorem r11_amalgamate (l : Launch) (Z : State) (a0 : Array Value) (hw : ∀ d ∈ tables_1, d.before a0 Z = true) (ws : List Jvm.Cond) (ya1 : Addr) (ya2 : Addr) (ya3 : Addr) (yk4 : ClassId) (yk6 : ClassId) (yk5 : ClassId) (h0 : Heap) (n0 : Nat) (O0 : Old Z n0 h0) (F0 : Arv Z h0 ya1 yk4 .int (2 : Int32) [(.int (0 : Int32)), (.int (1 : Int32))] (.int (0 : Int32))) (F1 : Arv Z h0 ya3 yk6 .int (1 : Int32) [(.int (1 : Int32))] (.int (0 : Int32))) (F2 : Arv Z h0 ya2 yk5 .int (1 : Int32) [(.int (-1 : Int32))] (.int (0 : Int32))) :
    MetFree l (⟨cn0, "amalgamate", "([I[I[I)[I"⟩ : MethodName) (head1 (Jvm.Cond.code (⟨cn0, "amalgamate", "([I[I[I)[I"⟩ : MethodName) prog_15_method_12_code 26 (some (.array .int)) :: ws) ({ frames := 2, cells := 2, slots := 4, locals := 28 } : Room)) (fun a U => a = #[(.ref ya1), (.ref ya2), (.ref ya3)] ∧ Z.Warmed39 U.vm ∧ U.heap = h0) (fun _ _ _ _ _ => True) (fun _ U o U' => ∃ v L, o = .returned v ∧ Q_r11_amalgamate Z ya1 ya2 ya3 yk4 yk6 yk5 h0 n0 v U'.heap L ∧ FrameEnd U o U' L ({ frames := 2, cells := 2, slots := 4, locals := 28 } : Room).cells ({ frames := 2, cells := 2, slots := 4, locals := 28 } : Room).slots) := by
  refine MetFree.of_bodySF (plainFor_of_name pn_com_example_unea_unea_analysis_Supernodes) hisR ?_
  intro p e s m args below meth c s₁ Bd hml0 hP hK
  obtain ⟨rfl, hZ, hh⟩ := hP
  have hx := Bd.exec
  have hby := Bd.bytes
  have hlk := Bd.notSynchronized
  have hml : c.maxLocals = 26 := hml0
  have hown : s.vm.findClass cn0 = some m.cls := findClass_of_methodNamed Bd.named
  have hnm := (name_of_methodNamed Bd.named Bd.method).1
  have X0 : Stand p l e ({ frames := 2, cells := 2, slots := 4, locals := 28 } : Room) s m #[(.ref ya1), (.ref ya2), (.ref ya3)] below meth c s₁ [] 0 0 := Stand.of_body Bd
  have e0 : s₁.heap = h0 := by rw [← hh, Bd.state]; rfl
  have N0 := Fr.nil n0
  have K0 := Keep.refl h0 []
  have Z0 : n0 ≤ h0.size := O0.1 ▸ O0.2.1
  have hef : entryFrame m #[(.ref ya1), (.ref ya2), (.ref ya3)] 26 = mkF m 0 #[.val (.ref ya1), .val (.ref ya2), .val (.ref ya3), .unset, .unset, .unset, .unset, .unset, .unset, .unset, .unset, .unset, .unset, .unset, .unset, .unset, .unset, .unset, .unset, .unset, .unset, .unset, .unset, .unset, .unset, .unset] [] := by first | (simp [entryFrame, mkF, argsToLocals, Value.category]; done) | rfl
  rw [hef]
  refine Gets.out (Q := Q_r11_amalgamate Z ya1 ya2 ya3 yk4 yk6 yk5 h0 n0) ?_
  show Gets p e below _ (s₁.setTop (mkF m 0 #[.val (.ref ya1), .val (.ref ya2), .val (.ref ya3), .unset, .unset, .unset, .unset, .unset, .unset, .unset, .unset, .unset, .unset, .unset, .unset, .unset, .unset, .unset, .unset, .unset, .unset, .unset, .unset, .unset, .unset, .unset] []))
  refine Gets.of (fun t k => XS.aloadN X0.here hx rfl (hb hby d12_0) rfl rfl  k) ?_
  obtain ⟨cl1, Ar1, -, S1, N_1, -, -⟩ := id (F0)
  refine Gets.of (X0.arraylength hx (by rw [e0]; exact Ar1.1) (State.isArrayOf_alike hZ.alike Ar1.2.1) (g := (mkF m 1 #[.val (.ref ya1), .val (.ref ya2), .val (.ref ya3), .unset, .unset, .unset, .unset, .unset, .unset, .unset, .unset, .unset, .unset, .unset, .unset, .unset, .unset, .unset, .unset, .unset, .unset, .unset, .unset, .unset, .unset, .unset] [(.ref ya1)])) rfl rfl (hb hby d12_1)) ?_
  rw [len_of S1 N_1]
  show Gets p e below _ (s₁.setTop (mkF m 2 #[.val (.ref ya1), .val (.ref ya2), .val (.ref ya3), .unset, .unset, .unset, .unset, .unset, .unset, .unset, .unset, .unset, .unset, .unset, .unset, .unset, .unset, .unset, .unset, .unset, .unset, .unset, .unset, .unset, .unset, .unset] [(.int (2 : Int32))]))
  refine Gets.of (fun t k => XS.iconst X0.here hx rfl (hb hby d12_2) k) ?_
  refine Gets.of (fun t k => XS.isub X0.here hx rfl (hb hby d12_3) rfl k) ?_
  show Gets p e below _ (s₁.setTop (mkF m 4 #[.val (.ref ya1), .val (.ref ya2), .val (.ref ya3), .unset, .unset, .unset, .unset, .unset, .unset, .unset, .unset, .unset, .unset, .unset, .unset, .unset, .unset, .unset, .unset, .unset, .unset, .unset, .unset, .unset, .unset, .unset] [(.int (1 : Int32))]))
  refine Gets.of (fun t k => XS.istoreN X0.here hx rfl (hb hby d12_4) rfl (l' := #[.val (.ref ya1), .val (.ref ya2), .val (.ref ya3), .val (.int (1 : Int32)), .unset, .unset, .unset, .unset, .unset, .unset, .unset, .unset, .unset, .unset, .unset, .unset, .unset, .unset, .unset, .unset, .unset, .unset, .unset, .unset, .unset, .unset]) rfl k) ?_
  show Gets p e below _ (s₁.setTop (mkF m 5 #[.val (.ref ya1), .val (.ref ya2), .val (.ref ya3), .val (.int (1 : Int32)), .unset, .unset, .unset, .unset, .unset, .unset, .unset, .unset, .unset, .unset, .unset, .unset, .unset, .unset, .unset, .unset, .unset, .unset, .unset, .unset, .unset, .unset] []))
  refine Gets.of (fun t k => XS.iloadN X0.here hx rfl (hb hby d12_5) rfl  k) ?_
  refine Gets.of (fun t k => XS.iconst X0.here hx rfl (hb hby d12_6) k) ?_
  refine Gets.of (fun t k => XS.iadd X0.here hx rfl (hb hby d12_7) rfl k) ?_
  show Gets p e below _ (s₁.setTop (mkF m 8 #[.val (.ref ya1), .val (.ref ya2), .val (.ref ya3), .val (.int (1 : Int32)), .unset, .unset, .unset, .unset, .unset, .unset, .unset, .unset, .unset, .unset, .unset, .unset, .unset, .unset, .unset, .unset, .unset, .unset, .unset, .unset, .unset, .unset] [(.int (2 : Int32))]))
  obtain ⟨T2, h2, k2, X2, e2, E2, A2, Ex2, st2⟩ := newPE X0 hx hZ (aty := .int) (w3 hw) e0 (g := (mkF m 8 #[.val (.ref ya1), .val (.ref ya2), .val (.ref ya3), .val (.int (1 : Int32)), .unset, .unset, .unset, .unset, .unset, .unset, .unset, .unset, .unset, .unset, .unset, .unset, .unset, .unset, .unset, .unset, .unset, .unset, .unset, .unset, .unset, .unset] [(.int (2 : Int32))])) rfl (hb hby d12_8) rfl (by decide) (cap := 2) (by decide) (by decide) (by decide) (by decide) (ad := "[I") rfl
  obtain ⟨b2, g2⟩ : ∃ z, z = h0.size := ⟨_, rfl⟩
  rw [← g2] at A2 Ex2 st2
  have sz_b2 : h0.size ≤ b2 := Nat.le_trans K0.1 (Nat.le_of_eq g2.symm)
  have g_b2 : n0 ≤ b2 := Nat.le_trans Z0 sz_b2
  have K3 := K0.ext E2
  have O3 := O0.ext E2
  have V2 : Arv Z h2 b2 k2 .int (2 : Int32) [(.int (0 : Int32)), (.int (0 : Int32))] (.int (0 : Int32)) := (Arv.new A2 (by decide)).pad (pad_rep [] (.int (0 : Int32)) 2)
  refine Gets.of st2 ?_
  show Gets p e below _ (T2.setTop (mkF m 10 #[.val (.ref ya1), .val (.ref ya2), .val (.ref ya3), .val (.int (1 : Int32)), .unset, .unset, .unset, .unset, .unset, .unset, .unset, .unset, .unset, .unset, .unset, .unset, .unset, .unset, .unset, .unset, .unset, .unset, .unset, .unset, .unset, .unset] [(.ref b2)]))
  refine Gets.of (fun t k => XS.astore X2.here hx rfl (hb hby d12_10) rfl rfl (l' := #[.val (.ref ya1), .val (.ref ya2), .val (.ref ya3), .val (.int (1 : Int32)), .val (.ref b2), .unset, .unset, .unset, .unset, .unset, .unset, .unset, .unset, .unset, .unset, .unset, .unset, .unset, .unset, .unset, .unset, .unset, .unset, .unset, .unset, .unset]) rfl k) ?_
  show Gets p e below _ (T2.setTop (mkF m 12 #[.val (.ref ya1), .val (.ref ya2), .val (.ref ya3), .val (.int (1 : Int32)), .val (.ref b2), .unset, .unset, .unset, .unset, .unset, .unset, .unset, .unset, .unset, .unset, .unset, .unset, .unset, .unset, .unset, .unset, .unset, .unset, .unset, .unset, .unset] []))
  refine Gets.of (fun t k => XS.iconst X2.here hx rfl (hb hby d12_12) k) ?_
  refine Gets.of (fun t k => XS.istore X2.here hx rfl (hb hby d12_13) rfl (l' := #[.val (.ref ya1), .val (.ref ya2), .val (.ref ya3), .val (.int (1 : Int32)), .val (.ref b2), .val (.int (0 : Int32)), .unset, .unset, .unset, .unset, .unset, .unset, .unset, .unset, .unset, .unset, .unset, .unset, .unset, .unset, .unset, .unset, .unset, .unset, .unset, .unset]) rfl k) ?_
  show Gets p e below _ (T2.setTop (mkF m 15 #[.val (.ref ya1), .val (.ref ya2), .val (.ref ya3), .val (.int (1 : Int32)), .val (.ref b2), .val (.int (0 : Int32)), .unset, .unset, .unset, .unset, .unset, .unset, .unset, .unset, .unset, .unset, .unset, .unset, .unset, .unset, .unset, .unset, .unset, .unset, .unset, .unset] []))
  refine Gets.of (fun t k => XS.lconst X2.here hx rfl (hb hby d12_15) k) ?_
  refine Gets.of (fun t k => XS.lstore X2.here hx rfl (hb hby d12_16) rfl (l' := #[.val (.ref ya1), .val (.ref ya2), .val (.ref ya3), .val (.int (1 : Int32)), .val (.ref b2), .val (.int (0 : Int32)), .val (.long (0 : Int64)), .second, .unset, .unset, .unset, .unset, .unset, .unset, .unset, .unset, .unset, .unset, .unset, .unset, .unset, .unset, .unset, .unset, .unset, .unset]) rfl k) ?_
  show Gets p e below _ (T2.setTop (mkF m 18 #[.val (.ref ya1), .val (.ref ya2), .val (.ref ya3), .val (.int (1 : Int32)), .val (.ref b2), .val (.int (0 : Int32)), .val (.long (0 : Int64)), .second, .unset, .unset, .unset, .unset, .unset, .unset, .unset, .unset, .unset, .unset, .unset, .unset, .unset, .unset, .unset, .unset, .unset, .unset] []))
  refine Gets.of (fun t k => XS.lconst X2.here hx rfl (hb hby d12_18) k) ?_
  refine Gets.of (fun t k => XS.lstore X2.here hx rfl (hb hby d12_19) rfl (l' := #[.val (.ref ya1), .val (.ref ya2), .val (.ref ya3), .val (.int (1 : Int32)), .val (.ref b2), .val (.int (0 : Int32)), .val (.long (0 : Int64)), .second, .val (.long (0 : Int64)), .second, .unset, .unset, .unset, .unset, .unset, .unset, .unset, .unset, .unset, .unset, .unset, .unset, .unset, .unset, .unset, .unset]) rfl k) ?_
  show Gets p e below _ (T2.setTop (mkF m 21 #[.val (.ref ya1), .val (.ref ya2), .val (.ref ya3), .val (.int (1 : Int32)), .val (.ref b2), .val (.int (0 : Int32)), .val (.long (0 : Int64)), .second, .val (.long (0 : Int64)), .second, .unset, .unset, .unset, .unset, .unset, .unset, .unset, .unset, .unset, .unset, .unset, .unset, .unset, .unset, .unset, .unset] []))
  refine Gets.of (fun t k => XS.lconst X2.here hx rfl (hb hby d12_21) k) ?_
  refine Gets.of (fun t k => XS.lstore X2.here hx rfl (hb hby d12_22) rfl (l' := #[.val (.ref ya1), .val (.ref ya2), .val (.ref ya3), .val (.int (1 : Int32)), .val (.ref b2), .val (.int (0 : Int32)), .val (.long (0 : Int64)), .second, .val (.long (0 : Int64)), .second, .val (.long (0 : Int64)), .second, .unset, .unset, .unset, .unset, .unset, .unset, .unset, .unset, .unset, .unset, .unset, .unset, .unset, .unset]) rfl k) ?_
  show Gets p e below _ (T2.setTop (mkF m 24 #[.val (.ref ya1), .val (.ref ya2), .val (.ref ya3), .val (.int (1 : Int32)), .val (.ref b2), .val (.int (0 : Int32)), .val (.long (0 : Int64)), .second, .val (.long (0 : Int64)), .second, .val (.long (0 : Int64)), .second, .unset, .unset, .unset, .unset, .unset, .unset, .unset, .unset, .unset, .unset, .unset, .unset, .unset, .unset] []))
  refine Gets.of (fun t k => XS.iconst X2.here hx rfl (hb hby d12_24) k) ?_
  refine Gets.of (fun t k => XS.istore X2.here hx rfl (hb hby d12_25) rfl (l' := #[.val (.ref ya1), .val (.ref ya2), .val (.ref ya3), .val (.int (1 : Int32)), .val (.ref b2), .val (.int (0 : Int32)), .val (.long (0 : Int64)), .second, .val (.long (0 : Int64)), .second, .val (.long (0 : Int64)), .second, .val (.int (0 : Int32)), .unset, .unset, .unset, .unset, .unset, .unset, .unset, .unset, .unset, .unset, .unset, .unset, .unset]) rfl k) ?_
  show Gets p e below _ (T2.setTop (mkF m 27 #[.val (.ref ya1), .val (.ref ya2), .val (.ref ya3), .val (.int (1 : Int32)), .val (.ref b2), .val (.int (0 : Int32)), .val (.long (0 : Int64)), .second, .val (.long (0 : Int64)), .second, .val (.long (0 : Int64)), .second, .val (.int (0 : Int32)), .unset, .unset, .unset, .unset, .unset, .unset, .unset, .unset, .unset, .unset, .unset, .unset, .unset] []))
  refine Gets.of (fun t k => XS.iload X2.here hx rfl (hb hby d12_27) rfl  k) ?_
  refine Gets.of (fun t k => XS.iloadN X2.here hx rfl (hb hby d12_29) rfl  k) ?_
  refine Gets.of (fun t k => XS.icmpNo X2.here hx rfl (hb hby d12_30) rfl (tlt (by decide : (0 : Int32) < (1 : Int32))).2.1 k) ?_
  show Gets p e below _ (T2.setTop (mkF m 33 #[.val (.ref ya1), .val (.ref ya2), .val (.ref ya3), .val (.int (1 : Int32)), .val (.ref b2), .val (.int (0 : Int32)), .val (.long (0 : Int64)), .second, .val (.long (0 : Int64)), .second, .val (.long (0 : Int64)), .second, .val (.int (0 : Int32)), .unset, .unset, .unset, .unset, .unset, .unset, .unset, .unset, .unset, .unset, .unset, .unset, .unset] []))
  refine Gets.of (fun t k => XS.aloadN X2.here hx rfl (hb hby d12_33) rfl rfl  k) ?_
  refine Gets.of (fun t k => XS.iload X2.here hx rfl (hb hby d12_34) rfl  k) ?_
  have f4 : Arv Z h2 ya1 yk4 .int (2 : Int32) [(.int (0 : Int32)), (.int (1 : Int32))] (.int (0 : Int32)) := (F0.ext E2)
  obtain ⟨cl5, Ar5, q5, S5, N_5, H5, G5⟩ := id (f4)
  have hin5 : ¬ ((0 : Int32) < 0 ∨ cl5.slots.size ≤ ((0 : Int32)).toNatClampNeg) := inb_of S5 ⟨by decide, by decide⟩
  refine Gets.of (fun t k => X2.iaload hx (j := (0 : Int32)) (v := (.int (0 : Int32))) (by rw [e2]; exact Ar5.1) (State.isArrayOf_alike hZ.alike Ar5.2.1) Ar5.2.2 hin5 (Has.at H5 hin5 rfl) (g := (mkF m 36 #[.val (.ref ya1), .val (.ref ya2), .val (.ref ya3), .val (.int (1 : Int32)), .val (.ref b2), .val (.int (0 : Int32)), .val (.long (0 : Int64)), .second, .val (.long (0 : Int64)), .second, .val (.long (0 : Int64)), .second, .val (.int (0 : Int32)), .unset, .unset, .unset, .unset, .unset, .unset, .unset, .unset, .unset, .unset, .unset, .unset, .unset] [(.int (0 : Int32)), (.ref ya1)])) rfl rfl (hb hby d12_36) t k) ?_
  show Gets p e below _ (T2.setTop (mkF m 37 #[.val (.ref ya1), .val (.ref ya2), .val (.ref ya3), .val (.int (1 : Int32)), .val (.ref b2), .val (.int (0 : Int32)), .val (.long (0 : Int64)), .second, .val (.long (0 : Int64)), .second, .val (.long (0 : Int64)), .second, .val (.int (0 : Int32)), .unset, .unset, .unset, .unset, .unset, .unset, .unset, .unset, .unset, .unset, .unset, .unset, .unset] [(.int (0 : Int32))]))
  refine Gets.of (fun t k => XS.istore X2.here hx rfl (hb hby d12_37) rfl (l' := #[.val (.ref ya1), .val (.ref ya2), .val (.ref ya3), .val (.int (1 : Int32)), .val (.ref b2), .val (.int (0 : Int32)), .val (.long (0 : Int64)), .second, .val (.long (0 : Int64)), .second, .val (.long (0 : Int64)), .second, .val (.int (0 : Int32)), .val (.int (0 : Int32)), .unset, .unset, .unset, .unset, .unset, .unset, .unset, .unset, .unset, .unset, .unset, .unset]) rfl k) ?_
  show Gets p e below _ (T2.setTop (mkF m 39 #[.val (.ref ya1), .val (.ref ya2), .val (.ref ya3), .val (.int (1 : Int32)), .val (.ref b2), .val (.int (0 : Int32)), .val (.long (0 : Int64)), .second, .val (.long (0 : Int64)), .second, .val (.long (0 : Int64)), .second, .val (.int (0 : Int32)), .val (.int (0 : Int32)), .unset, .unset, .unset, .unset, .unset, .unset, .unset, .unset, .unset, .unset, .unset, .unset] []))
  refine Gets.of (fun t k => XS.aloadN X2.here hx rfl (hb hby d12_39) rfl rfl  k) ?_
  refine Gets.of (fun t k => XS.iload X2.here hx rfl (hb hby d12_40) rfl  k) ?_
  refine Gets.of (fun t k => XS.iconst X2.here hx rfl (hb hby d12_42) k) ?_
  refine Gets.of (fun t k => XS.iadd X2.here hx rfl (hb hby d12_43) rfl k) ?_
  show Gets p e below _ (T2.setTop (mkF m 44 #[.val (.ref ya1), .val (.ref ya2), .val (.ref ya3), .val (.int (1 : Int32)), .val (.ref b2), .val (.int (0 : Int32)), .val (.long (0 : Int64)), .second, .val (.long (0 : Int64)), .second, .val (.long (0 : Int64)), .second, .val (.int (0 : Int32)), .val (.int (0 : Int32)), .unset, .unset, .unset, .unset, .unset, .unset, .unset, .unset, .unset, .unset, .unset, .unset] [(.int (1 : Int32)), (.ref ya1)]))
  obtain ⟨cl6, Ar6, q6, S6, N_6, H6, G6⟩ := id (f4)
  have hin6 : ¬ ((1 : Int32) < 0 ∨ cl6.slots.size ≤ ((1 : Int32)).toNatClampNeg) := inb_of S6 ⟨by decide, by decide⟩
  refine Gets.of (fun t k => X2.iaload hx (j := (1 : Int32)) (v := (.int (1 : Int32))) (by rw [e2]; exact Ar6.1) (State.isArrayOf_alike hZ.alike Ar6.2.1) Ar6.2.2 hin6 (Has.at H6 hin6 rfl) (g := (mkF m 44 #[.val (.ref ya1), .val (.ref ya2), .val (.ref ya3), .val (.int (1 : Int32)), .val (.ref b2), .val (.int (0 : Int32)), .val (.long (0 : Int64)), .second, .val (.long (0 : Int64)), .second, .val (.long (0 : Int64)), .second, .val (.int (0 : Int32)), .val (.int (0 : Int32)), .unset, .unset, .unset, .unset, .unset, .unset, .unset, .unset, .unset, .unset, .unset, .unset] [(.int (1 : Int32)), (.ref ya1)])) rfl rfl (hb hby d12_44) t k) ?_
  show Gets p e below _ (T2.setTop (mkF m 45 #[.val (.ref ya1), .val (.ref ya2), .val (.ref ya3), .val (.int (1 : Int32)), .val (.ref b2), .val (.int (0 : Int32)), .val (.long (0 : Int64)), .second, .val (.long (0 : Int64)), .second, .val (.long (0 : Int64)), .second, .val (.int (0 : Int32)), .val (.int (0 : Int32)), .unset, .unset, .unset, .unset, .unset, .unset, .unset, .unset, .unset, .unset, .unset, .unset] [(.int (1 : Int32))]))
  refine Gets.of (fun t k => XS.iload X2.here hx rfl (hb hby d12_45) rfl  k) ?_
  refine Gets.of (fun t k => XS.isub X2.here hx rfl (hb hby d12_47) rfl k) ?_
  show Gets p e below _ (T2.setTop (mkF m 48 #[.val (.ref ya1), .val (.ref ya2), .val (.ref ya3), .val (.int (1 : Int32)), .val (.ref b2), .val (.int (0 : Int32)), .val (.long (0 : Int64)), .second, .val (.long (0 : Int64)), .second, .val (.long (0 : Int64)), .second, .val (.int (0 : Int32)), .val (.int (0 : Int32)), .unset, .unset, .unset, .unset, .unset, .unset, .unset, .unset, .unset, .unset, .unset, .unset] [(.int (1 : Int32))]))
  refine Gets.of (fun t k => XS.i2l X2.here hx rfl (hb hby d12_48) rfl k) ?_
  show Gets p e below _ (T2.setTop (mkF m 49 #[.val (.ref ya1), .val (.ref ya2), .val (.ref ya3), .val (.int (1 : Int32)), .val (.ref b2), .val (.int (0 : Int32)), .val (.long (0 : Int64)), .second, .val (.long (0 : Int64)), .second, .val (.long (0 : Int64)), .second, .val (.int (0 : Int32)), .val (.int (0 : Int32)), .unset, .unset, .unset, .unset, .unset, .unset, .unset, .unset, .unset, .unset, .unset, .unset] [(.long (1 : Int64))]))
  refine Gets.of (fun t k => XS.lstore X2.here hx rfl (hb hby d12_49) rfl (l' := #[.val (.ref ya1), .val (.ref ya2), .val (.ref ya3), .val (.int (1 : Int32)), .val (.ref b2), .val (.int (0 : Int32)), .val (.long (0 : Int64)), .second, .val (.long (0 : Int64)), .second, .val (.long (0 : Int64)), .second, .val (.int (0 : Int32)), .val (.int (0 : Int32)), .val (.long (1 : Int64)), .second, .unset, .unset, .unset, .unset, .unset, .unset, .unset, .unset, .unset, .unset]) rfl k) ?_
  show Gets p e below _ (T2.setTop (mkF m 51 #[.val (.ref ya1), .val (.ref ya2), .val (.ref ya3), .val (.int (1 : Int32)), .val (.ref b2), .val (.int (0 : Int32)), .val (.long (0 : Int64)), .second, .val (.long (0 : Int64)), .second, .val (.long (0 : Int64)), .second, .val (.int (0 : Int32)), .val (.int (0 : Int32)), .val (.long (1 : Int64)), .second, .unset, .unset, .unset, .unset, .unset, .unset, .unset, .unset, .unset, .unset] []))
  refine Gets.of (fun t k => XS.aloadN X2.here hx rfl (hb hby d12_51) rfl rfl  k) ?_
  refine Gets.of (fun t k => XS.iload X2.here hx rfl (hb hby d12_52) rfl  k) ?_
  have f7 : Arv Z h2 ya3 yk6 .int (1 : Int32) [(.int (1 : Int32))] (.int (0 : Int32)) := (F1.ext E2)
  obtain ⟨cl8, Ar8, q8, S8, N_8, H8, G8⟩ := id (f7)
  have hin8 : ¬ ((0 : Int32) < 0 ∨ cl8.slots.size ≤ ((0 : Int32)).toNatClampNeg) := inb_of S8 ⟨by decide, by decide⟩
  refine Gets.of (fun t k => X2.iaload hx (j := (0 : Int32)) (v := (.int (1 : Int32))) (by rw [e2]; exact Ar8.1) (State.isArrayOf_alike hZ.alike Ar8.2.1) Ar8.2.2 hin8 (Has.at H8 hin8 rfl) (g := (mkF m 54 #[.val (.ref ya1), .val (.ref ya2), .val (.ref ya3), .val (.int (1 : Int32)), .val (.ref b2), .val (.int (0 : Int32)), .val (.long (0 : Int64)), .second, .val (.long (0 : Int64)), .second, .val (.long (0 : Int64)), .second, .val (.int (0 : Int32)), .val (.int (0 : Int32)), .val (.long (1 : Int64)), .second, .unset, .unset, .unset, .unset, .unset, .unset, .unset, .unset, .unset, .unset] [(.int (0 : Int32)), (.ref ya3)])) rfl rfl (hb hby d12_54) t k) ?_
  show Gets p e below _ (T2.setTop (mkF m 55 #[.val (.ref ya1), .val (.ref ya2), .val (.ref ya3), .val (.int (1 : Int32)), .val (.ref b2), .val (.int (0 : Int32)), .val (.long (0 : Int64)), .second, .val (.long (0 : Int64)), .second, .val (.long (0 : Int64)), .second, .val (.int (0 : Int32)), .val (.int (0 : Int32)), .val (.long (1 : Int64)), .second, .unset, .unset, .unset, .unset, .unset, .unset, .unset, .unset, .unset, .unset] [(.int (1 : Int32))]))
  refine Gets.of (fun t k => XS.i2l X2.here hx rfl (hb hby d12_55) rfl k) ?_
  show Gets p e below _ (T2.setTop (mkF m 56 #[.val (.ref ya1), .val (.ref ya2), .val (.ref ya3), .val (.int (1 : Int32)), .val (.ref b2), .val (.int (0 : Int32)), .val (.long (0 : Int64)), .second, .val (.long (0 : Int64)), .second, .val (.long (0 : Int64)), .second, .val (.int (0 : Int32)), .val (.int (0 : Int32)), .val (.long (1 : Int64)), .second, .unset, .unset, .unset, .unset, .unset, .unset, .unset, .unset, .unset, .unset] [(.long (1 : Int64))]))
  refine Gets.of (fun t k => XS.lstore X2.here hx rfl (hb hby d12_56) rfl (l' := #[.val (.ref ya1), .val (.ref ya2), .val (.ref ya3), .val (.int (1 : Int32)), .val (.ref b2), .val (.int (0 : Int32)), .val (.long (0 : Int64)), .second, .val (.long (0 : Int64)), .second, .val (.long (0 : Int64)), .second, .val (.int (0 : Int32)), .val (.int (0 : Int32)), .val (.long (1 : Int64)), .second, .val (.long (1 : Int64)), .second, .unset, .unset, .unset, .unset, .unset, .unset, .unset, .unset]) rfl k) ?_
  show Gets p e below _ (T2.setTop (mkF m 58 #[.val (.ref ya1), .val (.ref ya2), .val (.ref ya3), .val (.int (1 : Int32)), .val (.ref b2), .val (.int (0 : Int32)), .val (.long (0 : Int64)), .second, .val (.long (0 : Int64)), .second, .val (.long (0 : Int64)), .second, .val (.int (0 : Int32)), .val (.int (0 : Int32)), .val (.long (1 : Int64)), .second, .val (.long (1 : Int64)), .second, .unset, .unset, .unset, .unset, .unset, .unset, .unset, .unset] []))
  refine Gets.of (fun t k => XS.iload X2.here hx rfl (hb hby d12_58) rfl  k) ?_
  refine Gets.of (fun t k => XS.ifYes X2.here hx rfl (pc0 := 60) (pc' := 150) rfl (hb hby d12_60) rfl ((if0 _ _).trans (flt (by decide : ¬ ((0 : Int32) < (0 : Int32)))).2.2.2) (by decide) (by decide) k) ?_
  show Gets p e below _ (T2.setTop (mkF m 150 #[.val (.ref ya1), .val (.ref ya2), .val (.ref ya3), .val (.int (1 : Int32)), .val (.ref b2), .val (.int (0 : Int32)), .val (.long (0 : Int64)), .second, .val (.long (0 : Int64)), .second, .val (.long (0 : Int64)), .second, .val (.int (0 : Int32)), .val (.int (0 : Int32)), .val (.long (1 : Int64)), .second, .val (.long (1 : Int64)), .second, .unset, .unset, .unset, .unset, .unset, .unset, .unset, .unset] []))
  refine Gets.of (fun t k => XS.aload X2.here hx rfl (hb hby d12_150) rfl rfl  k) ?_
  refine Gets.of (fun t k => XS.iload X2.here hx rfl (hb hby d12_152) rfl  k) ?_
  refine Gets.of (fun t k => XS.iinc X2.here hx rfl (hb hby d12_154) rfl (l' := #[.val (.ref ya1), .val (.ref ya2), .val (.ref ya3), .val (.int (1 : Int32)), .val (.ref b2), .val (.int (1 : Int32)), .val (.long (0 : Int64)), .second, .val (.long (0 : Int64)), .second, .val (.long (0 : Int64)), .second, .val (.int (0 : Int32)), .val (.int (0 : Int32)), .val (.long (1 : Int64)), .second, .val (.long (1 : Int64)), .second, .unset, .unset, .unset, .unset, .unset, .unset, .unset, .unset]) rfl k) ?_
  show Gets p e below _ (T2.setTop (mkF m 157 #[.val (.ref ya1), .val (.ref ya2), .val (.ref ya3), .val (.int (1 : Int32)), .val (.ref b2), .val (.int (1 : Int32)), .val (.long (0 : Int64)), .second, .val (.long (0 : Int64)), .second, .val (.long (0 : Int64)), .second, .val (.int (0 : Int32)), .val (.int (0 : Int32)), .val (.long (1 : Int64)), .second, .val (.long (1 : Int64)), .second, .unset, .unset, .unset, .unset, .unset, .unset, .unset, .unset] [(.int (0 : Int32)), (.ref b2)]))
  refine Gets.of (fun t k => XS.iload X2.here hx rfl (hb hby d12_157) rfl  k) ?_
  obtain ⟨cl9, Ar9, q9, S9, N_9, H9, G9⟩ := id (V2)
  have hin9 : ¬ ((0 : Int32) < 0 ∨ cl9.slots.size ≤ ((0 : Int32)).toNatClampNeg) := inb_of S9 ⟨by decide, by decide⟩
  obtain ⟨T10, h10, X10, e10, W10, st10⟩ := stI X2 hx hZ e2 Ar9 (j := (0 : Int32)) hin9 (g := (mkF m 159 #[.val (.ref ya1), .val (.ref ya2), .val (.ref ya3), .val (.int (1 : Int32)), .val (.ref b2), .val (.int (1 : Int32)), .val (.long (0 : Int64)), .second, .val (.long (0 : Int64)), .second, .val (.long (0 : Int64)), .second, .val (.int (0 : Int32)), .val (.int (0 : Int32)), .val (.long (1 : Int64)), .second, .val (.long (1 : Int64)), .second, .unset, .unset, .unset, .unset, .unset, .unset, .unset, .unset] [(.int (0 : Int32)), (.int (0 : Int32)), (.ref b2)])) rfl rfl (hb hby d12_159)
  have V10 : Arv Z h10 b2 k2 .int (2 : Int32) [(.int (0 : Int32)), (.int (0 : Int32))] (.int (0 : Int32)) := Arv.set Ar9 q9 S9 N_9 H9 G9 rfl W10 0 rfl (Nat.le_of_ble_eq_true rfl)
  have N10 := Fr.snoc X10 N0 g_b2
  have K11 : Keep h0 _ [] := K3.wr W10 (Or.inr sz_b2)
  have O11 := O3.wr W10 g_b2
  refine Gets.of st10 ?_
  show Gets p e below _ (T10.setTop (mkF m 160 #[.val (.ref ya1), .val (.ref ya2), .val (.ref ya3), .val (.int (1 : Int32)), .val (.ref b2), .val (.int (1 : Int32)), .val (.long (0 : Int64)), .second, .val (.long (0 : Int64)), .second, .val (.long (0 : Int64)), .second, .val (.int (0 : Int32)), .val (.int (0 : Int32)), .val (.long (1 : Int64)), .second, .val (.long (1 : Int64)), .second, .unset, .unset, .unset, .unset, .unset, .unset, .unset, .unset] []))
  refine Gets.of (fun t k => XS.lload X10.here hx rfl (hb hby d12_160) rfl  k) ?_
  refine Gets.of (fun t k => XS.lstore X10.here hx rfl (hb hby d12_162) rfl (l' := #[.val (.ref ya1), .val (.ref ya2), .val (.ref ya3), .val (.int (1 : Int32)), .val (.ref b2), .val (.int (1 : Int32)), .val (.long (1 : Int64)), .second, .val (.long (0 : Int64)), .second, .val (.long (0 : Int64)), .second, .val (.int (0 : Int32)), .val (.int (0 : Int32)), .val (.long (1 : Int64)), .second, .val (.long (1 : Int64)), .second, .unset, .unset, .unset, .unset, .unset, .unset, .unset, .unset]) rfl k) ?_
  show Gets p e below _ (T10.setTop (mkF m 164 #[.val (.ref ya1), .val (.ref ya2), .val (.ref ya3), .val (.int (1 : Int32)), .val (.ref b2), .val (.int (1 : Int32)), .val (.long (1 : Int64)), .second, .val (.long (0 : Int64)), .second, .val (.long (0 : Int64)), .second, .val (.int (0 : Int32)), .val (.int (0 : Int32)), .val (.long (1 : Int64)), .second, .val (.long (1 : Int64)), .second, .unset, .unset, .unset, .unset, .unset, .unset, .unset, .unset] []))
  refine Gets.of (fun t k => XS.lload X10.here hx rfl (hb hby d12_164) rfl  k) ?_
  refine Gets.of (fun t k => XS.lstore X10.here hx rfl (hb hby d12_166) rfl (l' := #[.val (.ref ya1), .val (.ref ya2), .val (.ref ya3), .val (.int (1 : Int32)), .val (.ref b2), .val (.int (1 : Int32)), .val (.long (1 : Int64)), .second, .val (.long (1 : Int64)), .second, .val (.long (0 : Int64)), .second, .val (.int (0 : Int32)), .val (.int (0 : Int32)), .val (.long (1 : Int64)), .second, .val (.long (1 : Int64)), .second, .unset, .unset, .unset, .unset, .unset, .unset, .unset, .unset]) rfl k) ?_
  show Gets p e below _ (T10.setTop (mkF m 168 #[.val (.ref ya1), .val (.ref ya2), .val (.ref ya3), .val (.int (1 : Int32)), .val (.ref b2), .val (.int (1 : Int32)), .val (.long (1 : Int64)), .second, .val (.long (1 : Int64)), .second, .val (.long (0 : Int64)), .second, .val (.int (0 : Int32)), .val (.int (0 : Int32)), .val (.long (1 : Int64)), .second, .val (.long (1 : Int64)), .second, .unset, .unset, .unset, .unset, .unset, .unset, .unset, .unset] []))
  refine Gets.of (fun t k => XS.lconst X10.here hx rfl (hb hby d12_168) k) ?_
  refine Gets.of (fun t k => XS.lstore X10.here hx rfl (hb hby d12_169) rfl (l' := #[.val (.ref ya1), .val (.ref ya2), .val (.ref ya3), .val (.int (1 : Int32)), .val (.ref b2), .val (.int (1 : Int32)), .val (.long (1 : Int64)), .second, .val (.long (1 : Int64)), .second, .val (.long (0 : Int64)), .second, .val (.int (0 : Int32)), .val (.int (0 : Int32)), .val (.long (1 : Int64)), .second, .val (.long (1 : Int64)), .second, .unset, .unset, .unset, .unset, .unset, .unset, .unset, .unset]) rfl k) ?_
  show Gets p e below _ (T10.setTop (mkF m 171 #[.val (.ref ya1), .val (.ref ya2), .val (.ref ya3), .val (.int (1 : Int32)), .val (.ref b2), .val (.int (1 : Int32)), .val (.long (1 : Int64)), .second, .val (.long (1 : Int64)), .second, .val (.long (0 : Int64)), .second, .val (.int (0 : Int32)), .val (.int (0 : Int32)), .val (.long (1 : Int64)), .second, .val (.long (1 : Int64)), .second, .unset, .unset, .unset, .unset, .unset, .unset, .unset, .unset] []))
  refine Gets.of (fun t k => XS.iinc X10.here hx rfl (hb hby d12_171) rfl (l' := #[.val (.ref ya1), .val (.ref ya2), .val (.ref ya3), .val (.int (1 : Int32)), .val (.ref b2), .val (.int (1 : Int32)), .val (.long (1 : Int64)), .second, .val (.long (1 : Int64)), .second, .val (.long (0 : Int64)), .second, .val (.int (1 : Int32)), .val (.int (0 : Int32)), .val (.long (1 : Int64)), .second, .val (.long (1 : Int64)), .second, .unset, .unset, .unset, .unset, .unset, .unset, .unset, .unset]) rfl k) ?_
  show Gets p e below _ (T10.setTop (mkF m 174 #[.val (.ref ya1), .val (.ref ya2), .val (.ref ya3), .val (.int (1 : Int32)), .val (.ref b2), .val (.int (1 : Int32)), .val (.long (1 : Int64)), .second, .val (.long (1 : Int64)), .second, .val (.long (0 : Int64)), .second, .val (.int (1 : Int32)), .val (.int (0 : Int32)), .val (.long (1 : Int64)), .second, .val (.long (1 : Int64)), .second, .unset, .unset, .unset, .unset, .unset, .unset, .unset, .unset] []))
  refine Gets.of (fun t k => XS.goto X10.here hx rfl (pc0 := 174) (pc' := 27) rfl (hb hby d12_174) (by decide) (by decide) k) ?_
  show Gets p e below _ (T10.setTop (mkF m 27 #[.val (.ref ya1), .val (.ref ya2), .val (.ref ya3), .val (.int (1 : Int32)), .val (.ref b2), .val (.int (1 : Int32)), .val (.long (1 : Int64)), .second, .val (.long (1 : Int64)), .second, .val (.long (0 : Int64)), .second, .val (.int (1 : Int32)), .val (.int (0 : Int32)), .val (.long (1 : Int64)), .second, .val (.long (1 : Int64)), .second, .unset, .unset, .unset, .unset, .unset, .unset, .unset, .unset] []))
  refine Gets.of (fun t k => XS.iload X10.here hx rfl (hb hby d12_27) rfl  k) ?_
  refine Gets.of (fun t k => XS.iloadN X10.here hx rfl (hb hby d12_29) rfl  k) ?_
  refine Gets.of (fun t k => XS.icmpYes X10.here hx rfl (pc0 := 30) (pc' := 177) rfl (hb hby d12_30) rfl (flt (by decide : ¬ ((1 : Int32) < (1 : Int32)))).2.1 (by decide) (by decide) k) ?_
  show Gets p e below _ (T10.setTop (mkF m 177 #[.val (.ref ya1), .val (.ref ya2), .val (.ref ya3), .val (.int (1 : Int32)), .val (.ref b2), .val (.int (1 : Int32)), .val (.long (1 : Int64)), .second, .val (.long (1 : Int64)), .second, .val (.long (0 : Int64)), .second, .val (.int (1 : Int32)), .val (.int (0 : Int32)), .val (.long (1 : Int64)), .second, .val (.long (1 : Int64)), .second, .unset, .unset, .unset, .unset, .unset, .unset, .unset, .unset] []))
  refine Gets.of (fun t k => XS.aload X10.here hx rfl (hb hby d12_177) rfl rfl  k) ?_
  refine Gets.of (fun t k => XS.iload X10.here hx rfl (hb hby d12_179) rfl  k) ?_
  refine Gets.of (fun t k => XS.aloadN X10.here hx rfl (hb hby d12_181) rfl rfl  k) ?_
  have f12 : Arv Z h10 ya2 yk5 .int (1 : Int32) [(.int (-1 : Int32))] (.int (0 : Int32)) := ((F2.ext E2).other W10 (Nat.ne_of_lt (Nat.lt_of_lt_of_le F2.lt sz_b2)))
  obtain ⟨cl13, Ar13, -, S13, N_13, -, -⟩ := id (f12)
  refine Gets.of (X10.arraylength hx (by rw [e10]; exact Ar13.1) (State.isArrayOf_alike hZ.alike Ar13.2.1) (g := (mkF m 182 #[.val (.ref ya1), .val (.ref ya2), .val (.ref ya3), .val (.int (1 : Int32)), .val (.ref b2), .val (.int (1 : Int32)), .val (.long (1 : Int64)), .second, .val (.long (1 : Int64)), .second, .val (.long (0 : Int64)), .second, .val (.int (1 : Int32)), .val (.int (0 : Int32)), .val (.long (1 : Int64)), .second, .val (.long (1 : Int64)), .second, .unset, .unset, .unset, .unset, .unset, .unset, .unset, .unset] [(.ref ya2), (.int (1 : Int32)), (.ref b2)])) rfl rfl (hb hby d12_182)) ?_
  rw [len_of S13 N_13]
  show Gets p e below _ (T10.setTop (mkF m 183 #[.val (.ref ya1), .val (.ref ya2), .val (.ref ya3), .val (.int (1 : Int32)), .val (.ref b2), .val (.int (1 : Int32)), .val (.long (1 : Int64)), .second, .val (.long (1 : Int64)), .second, .val (.long (0 : Int64)), .second, .val (.int (1 : Int32)), .val (.int (0 : Int32)), .val (.long (1 : Int64)), .second, .val (.long (1 : Int64)), .second, .unset, .unset, .unset, .unset, .unset, .unset, .unset, .unset] [(.int (1 : Int32)), (.int (1 : Int32)), (.ref b2)]))
  obtain ⟨cl14, Ar14, q14, S14, N_14, H14, G14⟩ := id (V10)
  have hin14 : ¬ ((1 : Int32) < 0 ∨ cl14.slots.size ≤ ((1 : Int32)).toNatClampNeg) := inb_of S14 ⟨by decide, by decide⟩
  obtain ⟨T15, h15, X15, e15, W15, st15⟩ := stI X10 hx hZ e10 Ar14 (j := (1 : Int32)) hin14 (g := (mkF m 183 #[.val (.ref ya1), .val (.ref ya2), .val (.ref ya3), .val (.int (1 : Int32)), .val (.ref b2), .val (.int (1 : Int32)), .val (.long (1 : Int64)), .second, .val (.long (1 : Int64)), .second, .val (.long (0 : Int64)), .second, .val (.int (1 : Int32)), .val (.int (0 : Int32)), .val (.long (1 : Int64)), .second, .val (.long (1 : Int64)), .second, .unset, .unset, .unset, .unset, .unset, .unset, .unset, .unset] [(.int (1 : Int32)), (.int (1 : Int32)), (.ref b2)])) rfl rfl (hb hby d12_183)
  have V15 : Arv Z h15 b2 k2 .int (2 : Int32) [(.int (0 : Int32)), (.int (1 : Int32))] (.int (0 : Int32)) := Arv.set Ar14 q14 S14 N_14 H14 G14 rfl W15 1 rfl (Nat.le_of_ble_eq_true rfl)
  have N15 := Fr.snoc X15 N10 g_b2
  have K16 : Keep h0 _ [] := K11.wr W15 (Or.inr sz_b2)
  have O16 := O11.wr W15 g_b2
  refine Gets.of st15 ?_
  show Gets p e below _ (T15.setTop (mkF m 184 #[.val (.ref ya1), .val (.ref ya2), .val (.ref ya3), .val (.int (1 : Int32)), .val (.ref b2), .val (.int (1 : Int32)), .val (.long (1 : Int64)), .second, .val (.long (1 : Int64)), .second, .val (.long (0 : Int64)), .second, .val (.int (1 : Int32)), .val (.int (0 : Int32)), .val (.long (1 : Int64)), .second, .val (.long (1 : Int64)), .second, .unset, .unset, .unset, .unset, .unset, .unset, .unset, .unset] []))
  refine Gets.of (fun t k => XS.aload X15.here hx rfl (hb hby d12_184) rfl rfl  k) ?_
  refine Gets.of (fun t k => XS.iload X15.here hx rfl (hb hby d12_186) rfl  k) ?_
  refine Gets.of (fun t k => XS.iconst X15.here hx rfl (hb hby d12_188) k) ?_
  refine Gets.of (fun t k => XS.iadd X15.here hx rfl (hb hby d12_189) rfl k) ?_
  show Gets p e below _ (T15.setTop (mkF m 190 #[.val (.ref ya1), .val (.ref ya2), .val (.ref ya3), .val (.int (1 : Int32)), .val (.ref b2), .val (.int (1 : Int32)), .val (.long (1 : Int64)), .second, .val (.long (1 : Int64)), .second, .val (.long (0 : Int64)), .second, .val (.int (1 : Int32)), .val (.int (0 : Int32)), .val (.long (1 : Int64)), .second, .val (.long (1 : Int64)), .second, .unset, .unset, .unset, .unset, .unset, .unset, .unset, .unset] [(.int (2 : Int32)), (.ref b2)]))
  have f17 : Exa Z h15 b2 "[I" := ((Ex2.wr W10).wr W15)
  obtain ⟨_, _, ⟨T18, L18, k18, n18⟩, -, X18, ⟨Lc18, hQ18, l18, y18, z18⟩, st18⟩ := Jvm.LawKit.callS X15 hx (y := (⟨cn2, "copyOf", "([II)[I"⟩ : MethodName)) hown (mvT hZ (w43 hw)) (mvT hZ (w44 hw)) (mvT hZ (w31 hw)) (mvT hZ (w45 hw)) (by decide) (backOf (W := 0) (r10_copyOf l Z a0 hw [] b2 k2 h15 n0 O16 V15 f17) hZ (w45 hw) (w31 hw) (by decide) (by decide)) (g := (mkF m 190 #[.val (.ref ya1), .val (.ref ya2), .val (.ref ya3), .val (.int (1 : Int32)), .val (.ref b2), .val (.int (1 : Int32)), .val (.long (1 : Int64)), .second, .val (.long (1 : Int64)), .second, .val (.long (0 : Int64)), .second, .val (.int (1 : Int32)), .val (.int (0 : Int32)), .val (.long (1 : Int64)), .second, .val (.long (1 : Int64)), .second, .unset, .unset, .unset, .unset, .unset, .unset, .unset, .unset] [(.int (2 : Int32)), (.ref b2)])) rfl (by rw [hml]; rfl) (argsL := [(.ref b2), (.int (2 : Int32))]) (rest := []) (lenOf pd__II_I rfl) rfl (by show 2 * 0 + _ ≤ _; exact Nat.le_of_eq rfl) (hb hby d12_190) (fun _ _ => ⟨rfl, e15, (by decide : 1 + 1 ≤ _), (by decide : 2 + 2 ≤ _)⟩)
  dsimp only [Pt.U, Pt.locs, Pt.cells, Pt.slots] at X18 l18 y18 z18 st18 hQ18
  subst l18 y18 z18
  obtain ⟨Nq18, Kq18, hR18⟩ := hQ18
  have N18 := Fr.app N15 Nq18
  have up19 := (Nat.le_trans (Nat.le_of_eq W10.size.symm) (Nat.le_of_eq W15.size.symm))
  have K20 : Keep h0 _ [] := K16.trans Kq18 all0
  have O20 := O16.keep Kq18 all0
  obtain ⟨b2_18, rfl, bz18_0, bf18_0, bf18_1⟩ := hR18
  have sz_b2_18 : h0.size ≤ b2_18 := Nat.le_trans K16.1 bz18_0
  have g_b2_18 : n0 ≤ b2_18 := Nat.le_trans Z0 sz_b2_18
  refine Gets.of st18 ?_
  show Gets p e below _ (T18.setTop (mkF m 193 #[.val (.ref ya1), .val (.ref ya2), .val (.ref ya3), .val (.int (1 : Int32)), .val (.ref b2), .val (.int (1 : Int32)), .val (.long (1 : Int64)), .second, .val (.long (1 : Int64)), .second, .val (.long (0 : Int64)), .second, .val (.int (1 : Int32)), .val (.int (0 : Int32)), .val (.long (1 : Int64)), .second, .val (.long (1 : Int64)), .second, .unset, .unset, .unset, .unset, .unset, .unset, .unset, .unset] [(.ref b2_18)]))
  refine Gets.retA X18 hx Bd.returns rfl rfl (hb hby d12_193) ?_ (by decide) (by decide)
  exact ⟨N18, K20, ⟨b2_18, k2, rfl, sz_b2_18, bf18_0, bf18_1⟩⟩
theorem w57 {Z : State} {a0 : Array Value} (hw : ∀ d ∈ tables_1, d.before a0 Z = true) : (Jvm.Cond.code ({ cls := cn0, name := "amalgamate", desc := "([I[I[I)[I" } : Jvm.MethodName) prog_15_method_12_code (26 : Nat) (Option.some (Jvm.ClassFile.FieldType.array Jvm.ClassFile.FieldType.int))).before a0 Z = true := hw _ (List.mem_of_getElem? (i := 57) rfl)
theorem pd__I_I_I_I : parseMethodDescriptor "([I[I[I)[I" = some ⟨[(.array .int), (.array .int), (.array .int)], some (.array .int)⟩ := by decide +kernel
theorem w56 {Z : State} {a0 : Array Value} (hw : ∀ d ∈ tables_1, d.before a0 Z = true) : (Jvm.Cond.static ({ cls := cn0, name := "amalgamate", desc := "([I[I[I)[I" } : Jvm.MethodName)).before a0 Z = true := hw _ (List.mem_of_getElem? (i := 56) rfl)
theorem d3_126 : decode prog_15_method_2_code 126 = .ok (.astore 10, 2) := by decide +kernel
theorem d3_128 : decode prog_15_method_2_code 128 = .ok (.aload_n 0, 1) := by decide +kernel
theorem d3_129 : decode prog_15_method_2_code 129 = .ok (.aload 6, 2) := by decide +kernel
theorem d3_131 : decode prog_15_method_2_code 131 = .ok (.aload 8, 2) := by decide +kernel
theorem d3_133 : decode prog_15_method_2_code 133 = .ok (.aload 10, 2) := by decide +kernel
theorem d3_135 : decode prog_15_method_2_code 135 = .ok (.invokestatic 61, 3) := by decide +kernel
theorem w58 {Z : State} {a0 : Array Value} (hw : ∀ d ∈ tables_1, d.before a0 Z = true) : (Jvm.Cond.methodLink cn0 (61 : Nat) ({ cls := cn0, name := "fronts", desc := cn6 } : Jvm.MethodName)).before a0 Z = true := hw _ (List.mem_of_getElem? (i := 58) rfl)
theorem d13_0 : decode prog_15_method_15_code 0 = .ok (.aload_n 1, 1) := by decide +kernel
theorem d13_1 : decode prog_15_method_15_code 1 = .ok (.arraylength, 1) := by decide +kernel
theorem d13_2 : decode prog_15_method_15_code 2 = .ok (.istore 4, 2) := by decide +kernel
theorem d13_4 : decode prog_15_method_15_code 4 = .ok (.aload_n 3, 1) := by decide +kernel
theorem d13_5 : decode prog_15_method_15_code 5 = .ok (.arraylength, 1) := by decide +kernel
theorem d13_6 : decode prog_15_method_15_code 6 = .ok (.iconst 1, 1) := by decide +kernel
theorem d13_7 : decode prog_15_method_15_code 7 = .ok (.isub, 1) := by decide +kernel
theorem d13_8 : decode prog_15_method_15_code 8 = .ok (.istore 5, 2) := by decide +kernel
theorem d13_10 : decode prog_15_method_15_code 10 = .ok (.iload 5, 2) := by decide +kernel
theorem d13_12 : decode prog_15_method_15_code 12 = .ok (.iconst 1, 1) := by decide +kernel
theorem d13_13 : decode prog_15_method_15_code 13 = .ok (.iadd, 1) := by decide +kernel
theorem d13_14 : decode prog_15_method_15_code 14 = .ok (.newarray .int, 2) := by decide +kernel
theorem d13_16 : decode prog_15_method_15_code 16 = .ok (.astore 6, 2) := by decide +kernel
theorem d13_18 : decode prog_15_method_15_code 18 = .ok (.bipush 16, 2) := by decide +kernel
theorem d13_20 : decode prog_15_method_15_code 20 = .ok (.iconst 2, 1) := by decide +kernel
theorem d13_21 : decode prog_15_method_15_code 21 = .ok (.iload 4, 2) := by decide +kernel
theorem d13_23 : decode prog_15_method_15_code 23 = .ok (.imul, 1) := by decide +kernel
theorem d13_24 : decode prog_15_method_15_code 24 = .ok (.invokestatic 110, 3) := by decide +kernel
theorem w61 {Z : State} {a0 : Array Value} (hw : ∀ d ∈ tables_1, d.before a0 Z = true) : (Jvm.Cond.methodLink cn0 (110 : Nat) ({ cls := "java/lang/Math", name := "max", desc := "(II)I" } : Jvm.MethodName)).before a0 Z = true := hw _ (List.mem_of_getElem? (i := 61) rfl)
theorem d14_0 : decode jdk_29_method_65_code 0 = .ok (.iload_n 0, 1) := by decide +kernel
theorem d14_1 : decode jdk_29_method_65_code 1 = .ok (.iload_n 1, 1) := by decide +kernel
theorem d14_2 : decode jdk_29_method_65_code 2 = .ok (.if_icmp .lt 7, 3) := by decide +kernel
theorem d14_5 : decode jdk_29_method_65_code 5 = .ok (.iload_n 0, 1) := by decide +kernel
theorem d14_6 : decode jdk_29_method_65_code 6 = .ok (.goto 4, 3) := by decide +kernel
theorem d14_10 : decode jdk_29_method_65_code 10 = .ok (.ireturn, 1) := by decide +kernel
def Q_r13_max (Z : State)  (h0 : Heap) (n0 : Nat) (v : Option Value) (h : Heap) (L : List Loc) : Prop := Fr n0 L ∧ h = h0 ∧ ((v = some (.int (16 : Int32))))
set_option maxRecDepth 65536 in
set_option maxHeartbeats 40000000 in
theorem r13_max (l : Launch) (Z : State) (a0 : Array Value) (hw : ∀ d ∈ tables_1, d.before a0 Z = true) (ws : List Jvm.Cond)  (h0 : Heap) (n0 : Nat) (O0 : Old Z n0 h0) :
    MetFree l (⟨"java/lang/Math", "max", "(II)I"⟩ : MethodName) (head1 (Jvm.Cond.code (⟨"java/lang/Math", "max", "(II)I"⟩ : MethodName) jdk_29_method_65_code 2 (some .int) :: ws) ({ frames := 0, cells := 0, slots := 0, locals := 0 } : Room)) (fun a U => a = #[(.int (16 : Int32)), (.int (2 : Int32))] ∧ Z.Warmed39 U.vm ∧ U.heap = h0) (fun _ _ _ _ _ => True) (fun _ U o U' => ∃ v L, o = .returned v ∧ Q_r13_max Z  h0 n0 v U'.heap L ∧ FrameEnd U o U' L ({ frames := 0, cells := 0, slots := 0, locals := 0 } : Room).cells ({ frames := 0, cells := 0, slots := 0, locals := 0 } : Room).slots) := by
  refine MetFree.of_bodySF (Jvm.Free.JP.mathPlain rfl (by decide +kernel)) hisR ?_
  intro p e s m args below meth c s₁ Bd hml0 hP hK
  obtain ⟨rfl, hZ, hh⟩ := hP
  have hx := Bd.exec
  have hby := Bd.bytes
  have hlk := Bd.notSynchronized
  have hml : c.maxLocals = 2 := hml0
  have hown : s.vm.findClass "java/lang/Math" = some m.cls := findClass_of_methodNamed Bd.named
  have hnm := (name_of_methodNamed Bd.named Bd.method).1
  have X0 : Stand p l e ({ frames := 0, cells := 0, slots := 0, locals := 0 } : Room) s m #[(.int (16 : Int32)), (.int (2 : Int32))] below meth c s₁ [] 0 0 := Stand.of_body Bd
  have e0 : s₁.heap = h0 := by rw [← hh, Bd.state]; rfl
  have N0 := Fr.nil n0
  have K0 := Keep.refl h0 []
  have Z0 : n0 ≤ h0.size := O0.1 ▸ O0.2.1
  have hef : entryFrame m #[(.int (16 : Int32)), (.int (2 : Int32))] 2 = mkF m 0 #[.val (.int (16 : Int32)), .val (.int (2 : Int32))] [] := by first | (simp [entryFrame, mkF, argsToLocals, Value.category]; done) | rfl
  rw [hef]
  refine Gets.out (Q := Q_r13_max Z  h0 n0) ?_
  show Gets p e below _ (s₁.setTop (mkF m 0 #[.val (.int (16 : Int32)), .val (.int (2 : Int32))] []))
  refine Gets.of (fun t k => XS.iloadN X0.here hx rfl (hb hby d14_0) rfl  k) ?_
  refine Gets.of (fun t k => XS.iloadN X0.here hx rfl (hb hby d14_1) rfl  k) ?_
  refine Gets.of (fun t k => XS.icmpNo X0.here hx rfl (hb hby d14_2) rfl (flt (by decide : ¬ ((16 : Int32) < (2 : Int32)))).1 k) ?_
  show Gets p e below _ (s₁.setTop (mkF m 5 #[.val (.int (16 : Int32)), .val (.int (2 : Int32))] []))
  refine Gets.of (fun t k => XS.iloadN X0.here hx rfl (hb hby d14_5) rfl  k) ?_
  refine Gets.of (fun t k => XS.goto X0.here hx rfl (pc0 := 6) (pc' := 10) rfl (hb hby d14_6) (by decide) (by decide) k) ?_
  show Gets p e below _ (s₁.setTop (mkF m 10 #[.val (.int (16 : Int32)), .val (.int (2 : Int32))] [(.int (16 : Int32))]))
  refine Gets.retI X0 hx Bd.returns (hb hby d14_10) ?_ (by decide) (by decide)
  rw [e0]
  exact ⟨N0, rfl, rfl⟩
theorem w64 {Z : State} {a0 : Array Value} (hw : ∀ d ∈ tables_1, d.before a0 Z = true) : (Jvm.Cond.code ({ cls := "java/lang/Math", name := "max", desc := "(II)I" } : Jvm.MethodName) jdk_29_method_65_code (2 : Nat) (Option.some Jvm.ClassFile.FieldType.int)).before a0 Z = true := hw _ (List.mem_of_getElem? (i := 64) rfl)
theorem w63 {Z : State} {a0 : Array Value} (hw : ∀ d ∈ tables_1, d.before a0 Z = true) : (Jvm.Cond.initialized "java/lang/Math").before a0 Z = true := hw _ (List.mem_of_getElem? (i := 63) rfl)
theorem pd__II_I_509 : parseMethodDescriptor "(II)I" = some ⟨[.int, .int], some .int⟩ := by decide +kernel
theorem w62 {Z : State} {a0 : Array Value} (hw : ∀ d ∈ tables_1, d.before a0 Z = true) : (Jvm.Cond.static ({ cls := "java/lang/Math", name := "max", desc := "(II)I" } : Jvm.MethodName)).before a0 Z = true := hw _ (List.mem_of_getElem? (i := 62) rfl)
theorem d13_27 : decode prog_15_method_15_code 27 = .ok (.newarray .int, 2) := by decide +kernel
theorem d13_29 : decode prog_15_method_15_code 29 = .ok (.astore 7, 2) := by decide +kernel
theorem d13_31 : decode prog_15_method_15_code 31 = .ok (.iload 4, 2) := by decide +kernel
theorem d13_33 : decode prog_15_method_15_code 33 = .ok (.newarray .int, 2) := by decide +kernel
theorem d13_35 : decode prog_15_method_15_code 35 = .ok (.astore 8, 2) := by decide +kernel
theorem d13_37 : decode prog_15_method_15_code 37 = .ok (.aload 8, 2) := by decide +kernel
theorem d13_39 : decode prog_15_method_15_code 39 = .ok (.iconst (-1), 1) := by decide +kernel
theorem d13_40 : decode prog_15_method_15_code 40 = .ok (.invokestatic 74, 3) := by decide +kernel
theorem d13_43 : decode prog_15_method_15_code 43 = .ok (.iload 5, 2) := by decide +kernel
theorem d13_45 : decode prog_15_method_15_code 45 = .ok (.newarray .int, 2) := by decide +kernel
theorem d13_47 : decode prog_15_method_15_code 47 = .ok (.astore 9, 2) := by decide +kernel
theorem d13_49 : decode prog_15_method_15_code 49 = .ok (.iload 5, 2) := by decide +kernel
theorem d13_51 : decode prog_15_method_15_code 51 = .ok (.newarray .int, 2) := by decide +kernel
theorem d13_53 : decode prog_15_method_15_code 53 = .ok (.astore 10, 2) := by decide +kernel
theorem d13_55 : decode prog_15_method_15_code 55 = .ok (.iload 5, 2) := by decide +kernel
theorem d13_57 : decode prog_15_method_15_code 57 = .ok (.newarray .int, 2) := by decide +kernel
theorem d13_59 : decode prog_15_method_15_code 59 = .ok (.astore 11, 2) := by decide +kernel
theorem d13_61 : decode prog_15_method_15_code 61 = .ok (.iload 5, 2) := by decide +kernel
theorem d13_63 : decode prog_15_method_15_code 63 = .ok (.newarray .int, 2) := by decide +kernel
theorem d13_65 : decode prog_15_method_15_code 65 = .ok (.astore 12, 2) := by decide +kernel
theorem d13_67 : decode prog_15_method_15_code 67 = .ok (.aload 10, 2) := by decide +kernel
theorem d13_69 : decode prog_15_method_15_code 69 = .ok (.iconst (-1), 1) := by decide +kernel
theorem d13_70 : decode prog_15_method_15_code 70 = .ok (.invokestatic 74, 3) := by decide +kernel
theorem d13_73 : decode prog_15_method_15_code 73 = .ok (.aload 11, 2) := by decide +kernel
theorem d13_75 : decode prog_15_method_15_code 75 = .ok (.iconst (-1), 1) := by decide +kernel
theorem d13_76 : decode prog_15_method_15_code 76 = .ok (.invokestatic 74, 3) := by decide +kernel
theorem d13_79 : decode prog_15_method_15_code 79 = .ok (.iconst 0, 1) := by decide +kernel
theorem d13_80 : decode prog_15_method_15_code 80 = .ok (.istore 13, 2) := by decide +kernel
theorem d13_82 : decode prog_15_method_15_code 82 = .ok (.iconst 0, 1) := by decide +kernel
theorem d13_83 : decode prog_15_method_15_code 83 = .ok (.istore 14, 2) := by decide +kernel
theorem d13_85 : decode prog_15_method_15_code 85 = .ok (.iload 14, 2) := by decide +kernel
theorem d13_87 : decode prog_15_method_15_code 87 = .ok (.iload 5, 2) := by decide +kernel
theorem d13_89 : decode prog_15_method_15_code 89 = .ok (.if_icmp .ge 377, 3) := by decide +kernel
theorem d13_92 : decode prog_15_method_15_code 92 = .ok (.aload_n 3, 1) := by decide +kernel
theorem d13_93 : decode prog_15_method_15_code 93 = .ok (.iload 14, 2) := by decide +kernel
theorem d13_95 : decode prog_15_method_15_code 95 = .ok (.iconst 1, 1) := by decide +kernel
theorem d13_96 : decode prog_15_method_15_code 96 = .ok (.iadd, 1) := by decide +kernel
theorem d13_97 : decode prog_15_method_15_code 97 = .ok (.iaload, 1) := by decide +kernel
theorem d13_98 : decode prog_15_method_15_code 98 = .ok (.iconst 1, 1) := by decide +kernel
theorem d13_99 : decode prog_15_method_15_code 99 = .ok (.isub, 1) := by decide +kernel
theorem d13_100 : decode prog_15_method_15_code 100 = .ok (.istore 15, 2) := by decide +kernel
theorem d13_102 : decode prog_15_method_15_code 102 = .ok (.aload 6, 2) := by decide +kernel
theorem d13_104 : decode prog_15_method_15_code 104 = .ok (.iload 14, 2) := by decide +kernel
theorem d13_106 : decode prog_15_method_15_code 106 = .ok (.iload 13, 2) := by decide +kernel
theorem d13_108 : decode prog_15_method_15_code 108 = .ok (.iastore, 1) := by decide +kernel
theorem d13_109 : decode prog_15_method_15_code 109 = .ok (.aload 7, 2) := by decide +kernel
theorem d13_111 : decode prog_15_method_15_code 111 = .ok (.iload 13, 2) := by decide +kernel
theorem d13_113 : decode prog_15_method_15_code 113 = .ok (.iload 15, 2) := by decide +kernel
theorem d13_115 : decode prog_15_method_15_code 115 = .ok (.iconst 1, 1) := by decide +kernel
theorem d13_116 : decode prog_15_method_15_code 116 = .ok (.iadd, 1) := by decide +kernel
theorem d13_117 : decode prog_15_method_15_code 117 = .ok (.aload_n 3, 1) := by decide +kernel
theorem d13_118 : decode prog_15_method_15_code 118 = .ok (.iload 14, 2) := by decide +kernel
theorem d13_120 : decode prog_15_method_15_code 120 = .ok (.iaload, 1) := by decide +kernel
theorem d13_121 : decode prog_15_method_15_code 121 = .ok (.isub, 1) := by decide +kernel
theorem d13_122 : decode prog_15_method_15_code 122 = .ok (.invokestatic 116, 3) := by decide +kernel
theorem w65 {Z : State} {a0 : Array Value} (hw : ∀ d ∈ tables_1, d.before a0 Z = true) : (Jvm.Cond.methodLink cn0 (116 : Nat) ({ cls := cn0, name := "room", desc := "([III)[I" } : Jvm.MethodName)).before a0 Z = true := hw _ (List.mem_of_getElem? (i := 65) rfl)
theorem d15_0 : decode prog_15_method_16_code 0 = .ok (.iload_n 1, 1) := by decide +kernel
theorem d15_1 : decode prog_15_method_16_code 1 = .ok (.iload_n 2, 1) := by decide +kernel
theorem d15_2 : decode prog_15_method_16_code 2 = .ok (.iadd, 1) := by decide +kernel
theorem d15_3 : decode prog_15_method_16_code 3 = .ok (.istore_n 3, 1) := by decide +kernel
theorem d15_4 : decode prog_15_method_16_code 4 = .ok (.iload_n 3, 1) := by decide +kernel
theorem d15_5 : decode prog_15_method_16_code 5 = .ok (.aload_n 0, 1) := by decide +kernel
theorem d15_6 : decode prog_15_method_16_code 6 = .ok (.arraylength, 1) := by decide +kernel
theorem d15_7 : decode prog_15_method_16_code 7 = .ok (.if_icmp .gt 7, 3) := by decide +kernel
theorem d15_10 : decode prog_15_method_16_code 10 = .ok (.aload_n 0, 1) := by decide +kernel
theorem d15_11 : decode prog_15_method_16_code 11 = .ok (.goto 18, 3) := by decide +kernel
theorem d15_29 : decode prog_15_method_16_code 29 = .ok (.areturn, 1) := by decide +kernel
def Q_r14_room (Z : State) (ya1 : Addr) (yk2 : ClassId) (h0 : Heap) (n0 : Nat) (v : Option Value) (h : Heap) (L : List Loc) : Prop := Fr n0 L ∧ h = h0 ∧ ((v = some (.ref ya1)))
set_option maxRecDepth 65536 in
set_option maxHeartbeats 40000000 in
theorem r14_room (l : Launch) (Z : State) (a0 : Array Value) (hw : ∀ d ∈ tables_1, d.before a0 Z = true) (ws : List Jvm.Cond) (ya1 : Addr) (yk2 : ClassId) (h0 : Heap) (n0 : Nat) (O0 : Old Z n0 h0) (F0 : Arv Z h0 ya1 yk2 .int (16 : Int32) [(.int (0 : Int32)), (.int (0 : Int32)), (.int (0 : Int32)), (.int (0 : Int32)), (.int (0 : Int32)), (.int (0 : Int32)), (.int (0 : Int32)), (.int (0 : Int32)), (.int (0 : Int32)), (.int (0 : Int32)), (.int (0 : Int32)), (.int (0 : Int32)), (.int (0 : Int32)), (.int (0 : Int32)), (.int (0 : Int32)), (.int (0 : Int32))] (.int (0 : Int32))) :
    MetFree l (⟨cn0, "room", "([III)[I"⟩ : MethodName) (head1 (Jvm.Cond.code (⟨cn0, "room", "([III)[I"⟩ : MethodName) prog_15_method_16_code 4 (some (.array .int)) :: ws) ({ frames := 0, cells := 0, slots := 0, locals := 0 } : Room)) (fun a U => a = #[(.ref ya1), (.int (0 : Int32)), (.int (1 : Int32))] ∧ Z.Warmed39 U.vm ∧ U.heap = h0) (fun _ _ _ _ _ => True) (fun _ U o U' => ∃ v L, o = .returned v ∧ Q_r14_room Z ya1 yk2 h0 n0 v U'.heap L ∧ FrameEnd U o U' L ({ frames := 0, cells := 0, slots := 0, locals := 0 } : Room).cells ({ frames := 0, cells := 0, slots := 0, locals := 0 } : Room).slots) := by
  refine MetFree.of_bodySF (plainFor_of_name pn_com_example_unea_unea_analysis_Supernodes) hisR ?_
  intro p e s m args below meth c s₁ Bd hml0 hP hK
  obtain ⟨rfl, hZ, hh⟩ := hP
  have hx := Bd.exec
  have hby := Bd.bytes
  have hlk := Bd.notSynchronized
  have hml : c.maxLocals = 4 := hml0
  have hown : s.vm.findClass cn0 = some m.cls := findClass_of_methodNamed Bd.named
  have hnm := (name_of_methodNamed Bd.named Bd.method).1
  have X0 : Stand p l e ({ frames := 0, cells := 0, slots := 0, locals := 0 } : Room) s m #[(.ref ya1), (.int (0 : Int32)), (.int (1 : Int32))] below meth c s₁ [] 0 0 := Stand.of_body Bd
  have e0 : s₁.heap = h0 := by rw [← hh, Bd.state]; rfl
  have N0 := Fr.nil n0
  have K0 := Keep.refl h0 []
  have Z0 : n0 ≤ h0.size := O0.1 ▸ O0.2.1
  have hef : entryFrame m #[(.ref ya1), (.int (0 : Int32)), (.int (1 : Int32))] 4 = mkF m 0 #[.val (.ref ya1), .val (.int (0 : Int32)), .val (.int (1 : Int32)), .unset] [] := by first | (simp [entryFrame, mkF, argsToLocals, Value.category]; done) | rfl
  rw [hef]
  refine Gets.out (Q := Q_r14_room Z ya1 yk2 h0 n0) ?_
  show Gets p e below _ (s₁.setTop (mkF m 0 #[.val (.ref ya1), .val (.int (0 : Int32)), .val (.int (1 : Int32)), .unset] []))
  refine Gets.of (fun t k => XS.iloadN X0.here hx rfl (hb hby d15_0) rfl  k) ?_
  refine Gets.of (fun t k => XS.iloadN X0.here hx rfl (hb hby d15_1) rfl  k) ?_
  refine Gets.of (fun t k => XS.iadd X0.here hx rfl (hb hby d15_2) rfl k) ?_
  show Gets p e below _ (s₁.setTop (mkF m 3 #[.val (.ref ya1), .val (.int (0 : Int32)), .val (.int (1 : Int32)), .unset] [(.int (1 : Int32))]))
  refine Gets.of (fun t k => XS.istoreN X0.here hx rfl (hb hby d15_3) rfl (l' := #[.val (.ref ya1), .val (.int (0 : Int32)), .val (.int (1 : Int32)), .val (.int (1 : Int32))]) rfl k) ?_
  show Gets p e below _ (s₁.setTop (mkF m 4 #[.val (.ref ya1), .val (.int (0 : Int32)), .val (.int (1 : Int32)), .val (.int (1 : Int32))] []))
  refine Gets.of (fun t k => XS.iloadN X0.here hx rfl (hb hby d15_4) rfl  k) ?_
  refine Gets.of (fun t k => XS.aloadN X0.here hx rfl (hb hby d15_5) rfl rfl  k) ?_
  obtain ⟨cl1, Ar1, -, S1, N_1, -, -⟩ := id (F0)
  refine Gets.of (X0.arraylength hx (by rw [e0]; exact Ar1.1) (State.isArrayOf_alike hZ.alike Ar1.2.1) (g := (mkF m 6 #[.val (.ref ya1), .val (.int (0 : Int32)), .val (.int (1 : Int32)), .val (.int (1 : Int32))] [(.ref ya1), (.int (1 : Int32))])) rfl rfl (hb hby d15_6)) ?_
  rw [len_of S1 N_1]
  show Gets p e below _ (s₁.setTop (mkF m 7 #[.val (.ref ya1), .val (.int (0 : Int32)), .val (.int (1 : Int32)), .val (.int (1 : Int32))] [(.int (16 : Int32)), (.int (1 : Int32))]))
  refine Gets.of (fun t k => XS.icmpNo X0.here hx rfl (hb hby d15_7) rfl (flt (by decide : ¬ ((16 : Int32) < (1 : Int32)))).2.2.1 k) ?_
  show Gets p e below _ (s₁.setTop (mkF m 10 #[.val (.ref ya1), .val (.int (0 : Int32)), .val (.int (1 : Int32)), .val (.int (1 : Int32))] []))
  refine Gets.of (fun t k => XS.aloadN X0.here hx rfl (hb hby d15_10) rfl rfl  k) ?_
  refine Gets.of (fun t k => XS.goto X0.here hx rfl (pc0 := 11) (pc' := 29) rfl (hb hby d15_11) (by decide) (by decide) k) ?_
  show Gets p e below _ (s₁.setTop (mkF m 29 #[.val (.ref ya1), .val (.int (0 : Int32)), .val (.int (1 : Int32)), .val (.int (1 : Int32))] [(.ref ya1)]))
  refine Gets.retA X0 hx Bd.returns rfl rfl (hb hby d15_29) ?_ (by decide) (by decide)
  rw [e0]
  exact ⟨N0, rfl, rfl⟩
theorem w67 {Z : State} {a0 : Array Value} (hw : ∀ d ∈ tables_1, d.before a0 Z = true) : (Jvm.Cond.code ({ cls := cn0, name := "room", desc := "([III)[I" } : Jvm.MethodName) prog_15_method_16_code (4 : Nat) (Option.some (Jvm.ClassFile.FieldType.array Jvm.ClassFile.FieldType.int))).before a0 Z = true := hw _ (List.mem_of_getElem? (i := 67) rfl)
theorem pd__III_I : parseMethodDescriptor "([III)[I" = some ⟨[(.array .int), .int, .int], some (.array .int)⟩ := by decide +kernel
theorem w66 {Z : State} {a0 : Array Value} (hw : ∀ d ∈ tables_1, d.before a0 Z = true) : (Jvm.Cond.static ({ cls := cn0, name := "room", desc := "([III)[I" } : Jvm.MethodName)).before a0 Z = true := hw _ (List.mem_of_getElem? (i := 66) rfl)
theorem d13_125 : decode prog_15_method_15_code 125 = .ok (.astore 7, 2) := by decide +kernel
theorem d13_127 : decode prog_15_method_15_code 127 = .ok (.aload_n 3, 1) := by decide +kernel
theorem d13_128 : decode prog_15_method_15_code 128 = .ok (.iload 14, 2) := by decide +kernel
theorem d13_130 : decode prog_15_method_15_code 130 = .ok (.iaload, 1) := by decide +kernel
theorem d13_131 : decode prog_15_method_15_code 131 = .ok (.istore 16, 2) := by decide +kernel
theorem d13_133 : decode prog_15_method_15_code 133 = .ok (.iload 16, 2) := by decide +kernel
theorem d13_135 : decode prog_15_method_15_code 135 = .ok (.iload 15, 2) := by decide +kernel
theorem d13_137 : decode prog_15_method_15_code 137 = .ok (.if_icmp .gt 26, 3) := by decide +kernel
theorem d13_140 : decode prog_15_method_15_code 140 = .ok (.aload 8, 2) := by decide +kernel
theorem d13_142 : decode prog_15_method_15_code 142 = .ok (.iload 16, 2) := by decide +kernel
theorem d13_144 : decode prog_15_method_15_code 144 = .ok (.iload 14, 2) := by decide +kernel
theorem d13_146 : decode prog_15_method_15_code 146 = .ok (.iastore, 1) := by decide +kernel
theorem d13_147 : decode prog_15_method_15_code 147 = .ok (.aload 7, 2) := by decide +kernel
theorem d13_149 : decode prog_15_method_15_code 149 = .ok (.iload 13, 2) := by decide +kernel
theorem d13_151 : decode prog_15_method_15_code 151 = .ok (.iinc 13 1, 3) := by decide +kernel
theorem d13_154 : decode prog_15_method_15_code 154 = .ok (.iload 16, 2) := by decide +kernel
theorem d13_156 : decode prog_15_method_15_code 156 = .ok (.iastore, 1) := by decide +kernel
theorem d13_157 : decode prog_15_method_15_code 157 = .ok (.iinc 16 1, 3) := by decide +kernel
theorem d13_160 : decode prog_15_method_15_code 160 = .ok (.goto (-27), 3) := by decide +kernel
theorem d13_163 : decode prog_15_method_15_code 163 = .ok (.iload 13, 2) := by decide +kernel
theorem d13_165 : decode prog_15_method_15_code 165 = .ok (.istore 16, 2) := by decide +kernel
theorem d13_167 : decode prog_15_method_15_code 167 = .ok (.aload_n 3, 1) := by decide +kernel
theorem d13_168 : decode prog_15_method_15_code 168 = .ok (.iload 14, 2) := by decide +kernel
theorem d13_170 : decode prog_15_method_15_code 170 = .ok (.iaload, 1) := by decide +kernel
theorem d13_171 : decode prog_15_method_15_code 171 = .ok (.istore 17, 2) := by decide +kernel
theorem d13_173 : decode prog_15_method_15_code 173 = .ok (.iload 17, 2) := by decide +kernel
theorem d13_175 : decode prog_15_method_15_code 175 = .ok (.iload 15, 2) := by decide +kernel
theorem d13_177 : decode prog_15_method_15_code 177 = .ok (.if_icmp .gt 104, 3) := by decide +kernel
theorem d13_180 : decode prog_15_method_15_code 180 = .ok (.aload_n 1, 1) := by decide +kernel
theorem d13_181 : decode prog_15_method_15_code 181 = .ok (.iload 17, 2) := by decide +kernel
theorem d13_183 : decode prog_15_method_15_code 183 = .ok (.iaload, 1) := by decide +kernel
theorem d13_184 : decode prog_15_method_15_code 184 = .ok (.istore 18, 2) := by decide +kernel
theorem d13_186 : decode prog_15_method_15_code 186 = .ok (.aload 7, 2) := by decide +kernel
theorem d13_188 : decode prog_15_method_15_code 188 = .ok (.iload 13, 2) := by decide +kernel
theorem d13_190 : decode prog_15_method_15_code 190 = .ok (.aload_n 0, 1) := by decide +kernel
theorem d13_191 : decode prog_15_method_15_code 191 = .ok (.iload 18, 2) := by decide +kernel
theorem d13_193 : decode prog_15_method_15_code 193 = .ok (.invokevirtual 120, 3) := by decide +kernel
theorem w68 {Z : State} {a0 : Array Value} (hw : ∀ d ∈ tables_1, d.before a0 Z = true) : (Jvm.Cond.methodLink cn0 (120 : Nat) ({ cls := cn1, name := "degree", desc := "(I)I" } : Jvm.MethodName)).before a0 Z = true := hw _ (List.mem_of_getElem? (i := 68) rfl)
theorem d16_0 : decode prog_14_method_3_code 0 = .ok (.aload_n 0, 1) := by decide +kernel
theorem d16_1 : decode prog_14_method_3_code 1 = .ok (.getfield 7, 3) := by decide +kernel
theorem d16_4 : decode prog_14_method_3_code 4 = .ok (.iload_n 1, 1) := by decide +kernel
theorem d16_5 : decode prog_14_method_3_code 5 = .ok (.iconst 1, 1) := by decide +kernel
theorem d16_6 : decode prog_14_method_3_code 6 = .ok (.iadd, 1) := by decide +kernel
theorem d16_7 : decode prog_14_method_3_code 7 = .ok (.iaload, 1) := by decide +kernel
theorem d16_8 : decode prog_14_method_3_code 8 = .ok (.aload_n 0, 1) := by decide +kernel
theorem d16_9 : decode prog_14_method_3_code 9 = .ok (.getfield 7, 3) := by decide +kernel
theorem d16_12 : decode prog_14_method_3_code 12 = .ok (.iload_n 1, 1) := by decide +kernel
theorem d16_13 : decode prog_14_method_3_code 13 = .ok (.iaload, 1) := by decide +kernel
theorem d16_14 : decode prog_14_method_3_code 14 = .ok (.isub, 1) := by decide +kernel
theorem d16_15 : decode prog_14_method_3_code 15 = .ok (.ireturn, 1) := by decide +kernel
def Q_r15_degree (Z : State) (ya1 : Addr) (ya2 : Addr) (yk4 : ClassId) (h0 : Heap) (n0 : Nat) (v : Option Value) (h : Heap) (L : List Loc) : Prop := Fr n0 L ∧ h = h0 ∧ ((v = some (.int (0 : Int32))))
set_option maxRecDepth 65536 in
set_option maxHeartbeats 40000000 in
theorem r15_degree (l : Launch) (Z : State) (a0 : Array Value) (hw : ∀ d ∈ tables_1, d.before a0 Z = true) (ws : List Jvm.Cond) (ya1 : Addr) (ya2 : Addr) (yk4 : ClassId) (h0 : Heap) (n0 : Nat) (O0 : Old Z n0 h0) (F0 : Fld Z h0 ya1 cn1 "start" "[I" (.ref ya2)) (F1 : Arv Z h0 ya2 yk4 .int (2 : Int32) [(.int (0 : Int32)), (.int (0 : Int32))] (.int (0 : Int32))) :
    MetFree l (⟨cn1, "degree", "(I)I"⟩ : MethodName) (head1 (Jvm.Cond.code (⟨cn1, "degree", "(I)I"⟩ : MethodName) prog_14_method_3_code 2 (some .int) :: ws) ({ frames := 0, cells := 0, slots := 0, locals := 0 } : Room)) (fun a U => a = #[(.ref ya1), (.int (0 : Int32))] ∧ Z.Warmed39 U.vm ∧ U.heap = h0) (fun _ _ _ _ _ => True) (fun _ U o U' => ∃ v L, o = .returned v ∧ Q_r15_degree Z ya1 ya2 yk4 h0 n0 v U'.heap L ∧ FrameEnd U o U' L ({ frames := 0, cells := 0, slots := 0, locals := 0 } : Room).cells ({ frames := 0, cells := 0, slots := 0, locals := 0 } : Room).slots) := by
  refine MetFree.of_bodySF (plainFor_of_name pn_com_example_unea_unea_analysis_SparsePattern) hisR ?_
  intro p e s m args below meth c s₁ Bd hml0 hP hK
  obtain ⟨rfl, hZ, hh⟩ := hP
  have hx := Bd.exec
  have hby := Bd.bytes
  have hlk := Bd.notSynchronized
  have hml : c.maxLocals = 2 := hml0
  have hown : s.vm.findClass cn1 = some m.cls := findClass_of_methodNamed Bd.named
  have hnm := (name_of_methodNamed Bd.named Bd.method).1
  have X0 : Stand p l e ({ frames := 0, cells := 0, slots := 0, locals := 0 } : Room) s m #[(.ref ya1), (.int (0 : Int32))] below meth c s₁ [] 0 0 := Stand.of_body Bd
  have e0 : s₁.heap = h0 := by rw [← hh, Bd.state]; rfl
  have N0 := Fr.nil n0
  have K0 := Keep.refl h0 []
  have Z0 : n0 ≤ h0.size := O0.1 ▸ O0.2.1
  have hef : entryFrame m #[(.ref ya1), (.int (0 : Int32))] 2 = mkF m 0 #[.val (.ref ya1), .val (.int (0 : Int32))] [] := by first | (simp [entryFrame, mkF, argsToLocals, Value.category]; done) | rfl
  rw [hef]
  refine Gets.out (Q := Q_r15_degree Z ya1 ya2 yk4 h0 n0) ?_
  show Gets p e below _ (s₁.setTop (mkF m 0 #[.val (.ref ya1), .val (.int (0 : Int32))] []))
  refine Gets.of (fun t k => XS.aloadN X0.here hx rfl (hb hby d16_0) rfl rfl  k) ?_
  obtain ⟨T1, X1, e1, st1⟩ := getF X0 hx hZ hown (host := "") (Or.inl (w10 hw)) Via.refl e0 F0 (g := (mkF m 1 #[.val (.ref ya1), .val (.int (0 : Int32))] [(.ref ya1)])) rfl rfl (hb hby d16_1)
  refine Gets.of st1 ?_
  show Gets p e below _ (T1.setTop (mkF m 4 #[.val (.ref ya1), .val (.int (0 : Int32))] [(.ref ya2)]))
  refine Gets.of (fun t k => XS.iloadN X1.here hx rfl (hb hby d16_4) rfl  k) ?_
  refine Gets.of (fun t k => XS.iconst X1.here hx rfl (hb hby d16_5) k) ?_
  refine Gets.of (fun t k => XS.iadd X1.here hx rfl (hb hby d16_6) rfl k) ?_
  show Gets p e below _ (T1.setTop (mkF m 7 #[.val (.ref ya1), .val (.int (0 : Int32))] [(.int (1 : Int32)), (.ref ya2)]))
  obtain ⟨cl2, Ar2, q2, S2, N_2, H2, G2⟩ := id (F1)
  have hin2 : ¬ ((1 : Int32) < 0 ∨ cl2.slots.size ≤ ((1 : Int32)).toNatClampNeg) := inb_of S2 ⟨by decide, by decide⟩
  refine Gets.of (fun t k => X1.iaload hx (j := (1 : Int32)) (v := (.int (0 : Int32))) (by rw [e1]; exact Ar2.1) (State.isArrayOf_alike hZ.alike Ar2.2.1) Ar2.2.2 hin2 (Has.at H2 hin2 rfl) (g := (mkF m 7 #[.val (.ref ya1), .val (.int (0 : Int32))] [(.int (1 : Int32)), (.ref ya2)])) rfl rfl (hb hby d16_7) t k) ?_
  show Gets p e below _ (T1.setTop (mkF m 8 #[.val (.ref ya1), .val (.int (0 : Int32))] [(.int (0 : Int32))]))
  refine Gets.of (fun t k => XS.aloadN X1.here hx rfl (hb hby d16_8) rfl rfl  k) ?_
  obtain ⟨T3, X3, e3, st3⟩ := getF X1 hx hZ hown (host := "") (Or.inl (w10 hw)) Via.refl e1 F0 (g := (mkF m 9 #[.val (.ref ya1), .val (.int (0 : Int32))] [(.ref ya1), (.int (0 : Int32))])) rfl rfl (hb hby d16_9)
  refine Gets.of st3 ?_
  show Gets p e below _ (T3.setTop (mkF m 12 #[.val (.ref ya1), .val (.int (0 : Int32))] [(.ref ya2), (.int (0 : Int32))]))
  refine Gets.of (fun t k => XS.iloadN X3.here hx rfl (hb hby d16_12) rfl  k) ?_
  obtain ⟨cl4, Ar4, q4, S4, N_4, H4, G4⟩ := id (F1)
  have hin4 : ¬ ((0 : Int32) < 0 ∨ cl4.slots.size ≤ ((0 : Int32)).toNatClampNeg) := inb_of S4 ⟨by decide, by decide⟩
  refine Gets.of (fun t k => X3.iaload hx (j := (0 : Int32)) (v := (.int (0 : Int32))) (by rw [e3]; exact Ar4.1) (State.isArrayOf_alike hZ.alike Ar4.2.1) Ar4.2.2 hin4 (Has.at H4 hin4 rfl) (g := (mkF m 13 #[.val (.ref ya1), .val (.int (0 : Int32))] [(.int (0 : Int32)), (.ref ya2), (.int (0 : Int32))])) rfl rfl (hb hby d16_13) t k) ?_
  show Gets p e below _ (T3.setTop (mkF m 14 #[.val (.ref ya1), .val (.int (0 : Int32))] [(.int (0 : Int32)), (.int (0 : Int32))]))
  refine Gets.of (fun t k => XS.isub X3.here hx rfl (hb hby d16_14) rfl k) ?_
  show Gets p e below _ (T3.setTop (mkF m 15 #[.val (.ref ya1), .val (.int (0 : Int32))] [(.int (0 : Int32))]))
  refine Gets.retI X3 hx Bd.returns (hb hby d16_15) ?_ (by decide) (by decide)
  rw [e3]
  exact ⟨N0, rfl, rfl⟩
theorem w72 {Z : State} {a0 : Array Value} (hw : ∀ d ∈ tables_1, d.before a0 Z = true) : (Jvm.Cond.code ({ cls := cn1, name := "degree", desc := "(I)I" } : Jvm.MethodName) prog_14_method_3_code (2 : Nat) (Option.some Jvm.ClassFile.FieldType.int)).before a0 Z = true := hw _ (List.mem_of_getElem? (i := 72) rfl)
theorem pd__I_I_634 : parseMethodDescriptor "(I)I" = some ⟨[.int], some .int⟩ := by decide +kernel
theorem w71 {Z : State} {a0 : Array Value} (hw : ∀ d ∈ tables_1, d.before a0 Z = true) : (Jvm.Cond.selects cn1 ({ cls := cn1, name := "degree", desc := "(I)I" } : Jvm.MethodName) ({ cls := cn1, name := "degree", desc := "(I)I" } : Jvm.MethodName)).before a0 Z = true := hw _ (List.mem_of_getElem? (i := 71) rfl)
theorem w69 {Z : State} {a0 : Array Value} (hw : ∀ d ∈ tables_1, d.before a0 Z = true) : (Jvm.Cond.declares ({ cls := cn1, name := "degree", desc := "(I)I" } : Jvm.MethodName)).before a0 Z = true := hw _ (List.mem_of_getElem? (i := 69) rfl)
theorem w70 {Z : State} {a0 : Array Value} (hw : ∀ d ∈ tables_1, d.before a0 Z = true) : (Jvm.Cond.instanceMethod ({ cls := cn1, name := "degree", desc := "(I)I" } : Jvm.MethodName)).before a0 Z = true := hw _ (List.mem_of_getElem? (i := 70) rfl)
theorem d13_196 : decode prog_15_method_15_code 196 = .ok (.invokestatic 116, 3) := by decide +kernel
def Q_r16_room (Z : State) (ya1 : Addr) (yk2 : ClassId) (h0 : Heap) (n0 : Nat) (v : Option Value) (h : Heap) (L : List Loc) : Prop := Fr n0 L ∧ h = h0 ∧ ((v = some (.ref ya1)))
set_option maxRecDepth 65536 in
set_option maxHeartbeats 40000000 in
theorem r16_room (l : Launch) (Z : State) (a0 : Array Value) (hw : ∀ d ∈ tables_1, d.before a0 Z = true) (ws : List Jvm.Cond) (ya1 : Addr) (yk2 : ClassId) (h0 : Heap) (n0 : Nat) (O0 : Old Z n0 h0) (F0 : Arv Z h0 ya1 yk2 .int (16 : Int32) [(.int (0 : Int32)), (.int (0 : Int32)), (.int (0 : Int32)), (.int (0 : Int32)), (.int (0 : Int32)), (.int (0 : Int32)), (.int (0 : Int32)), (.int (0 : Int32)), (.int (0 : Int32)), (.int (0 : Int32)), (.int (0 : Int32)), (.int (0 : Int32)), (.int (0 : Int32)), (.int (0 : Int32)), (.int (0 : Int32)), (.int (0 : Int32))] (.int (0 : Int32))) :
    MetFree l (⟨cn0, "room", "([III)[I"⟩ : MethodName) (head1 (Jvm.Cond.code (⟨cn0, "room", "([III)[I"⟩ : MethodName) prog_15_method_16_code 4 (some (.array .int)) :: ws) ({ frames := 0, cells := 0, slots := 0, locals := 0 } : Room)) (fun a U => a = #[(.ref ya1), (.int (1 : Int32)), (.int (0 : Int32))] ∧ Z.Warmed39 U.vm ∧ U.heap = h0) (fun _ _ _ _ _ => True) (fun _ U o U' => ∃ v L, o = .returned v ∧ Q_r16_room Z ya1 yk2 h0 n0 v U'.heap L ∧ FrameEnd U o U' L ({ frames := 0, cells := 0, slots := 0, locals := 0 } : Room).cells ({ frames := 0, cells := 0, slots := 0, locals := 0 } : Room).slots) := by
  refine MetFree.of_bodySF (plainFor_of_name pn_com_example_unea_unea_analysis_Supernodes) hisR ?_
  intro p e s m args below meth c s₁ Bd hml0 hP hK
  obtain ⟨rfl, hZ, hh⟩ := hP
  have hx := Bd.exec
  have hby := Bd.bytes
  have hlk := Bd.notSynchronized
  have hml : c.maxLocals = 4 := hml0
  have hown : s.vm.findClass cn0 = some m.cls := findClass_of_methodNamed Bd.named
  have hnm := (name_of_methodNamed Bd.named Bd.method).1
  have X0 : Stand p l e ({ frames := 0, cells := 0, slots := 0, locals := 0 } : Room) s m #[(.ref ya1), (.int (1 : Int32)), (.int (0 : Int32))] below meth c s₁ [] 0 0 := Stand.of_body Bd
  have e0 : s₁.heap = h0 := by rw [← hh, Bd.state]; rfl
  have N0 := Fr.nil n0
  have K0 := Keep.refl h0 []
  have Z0 : n0 ≤ h0.size := O0.1 ▸ O0.2.1
  have hef : entryFrame m #[(.ref ya1), (.int (1 : Int32)), (.int (0 : Int32))] 4 = mkF m 0 #[.val (.ref ya1), .val (.int (1 : Int32)), .val (.int (0 : Int32)), .unset] [] := by first | (simp [entryFrame, mkF, argsToLocals, Value.category]; done) | rfl
  rw [hef]
  refine Gets.out (Q := Q_r16_room Z ya1 yk2 h0 n0) ?_
  show Gets p e below _ (s₁.setTop (mkF m 0 #[.val (.ref ya1), .val (.int (1 : Int32)), .val (.int (0 : Int32)), .unset] []))
  refine Gets.of (fun t k => XS.iloadN X0.here hx rfl (hb hby d15_0) rfl  k) ?_
  refine Gets.of (fun t k => XS.iloadN X0.here hx rfl (hb hby d15_1) rfl  k) ?_
  refine Gets.of (fun t k => XS.iadd X0.here hx rfl (hb hby d15_2) rfl k) ?_
  show Gets p e below _ (s₁.setTop (mkF m 3 #[.val (.ref ya1), .val (.int (1 : Int32)), .val (.int (0 : Int32)), .unset] [(.int (1 : Int32))]))
  refine Gets.of (fun t k => XS.istoreN X0.here hx rfl (hb hby d15_3) rfl (l' := #[.val (.ref ya1), .val (.int (1 : Int32)), .val (.int (0 : Int32)), .val (.int (1 : Int32))]) rfl k) ?_
  show Gets p e below _ (s₁.setTop (mkF m 4 #[.val (.ref ya1), .val (.int (1 : Int32)), .val (.int (0 : Int32)), .val (.int (1 : Int32))] []))
  refine Gets.of (fun t k => XS.iloadN X0.here hx rfl (hb hby d15_4) rfl  k) ?_
  refine Gets.of (fun t k => XS.aloadN X0.here hx rfl (hb hby d15_5) rfl rfl  k) ?_
  obtain ⟨cl1, Ar1, -, S1, N_1, -, -⟩ := id (F0)
  refine Gets.of (X0.arraylength hx (by rw [e0]; exact Ar1.1) (State.isArrayOf_alike hZ.alike Ar1.2.1) (g := (mkF m 6 #[.val (.ref ya1), .val (.int (1 : Int32)), .val (.int (0 : Int32)), .val (.int (1 : Int32))] [(.ref ya1), (.int (1 : Int32))])) rfl rfl (hb hby d15_6)) ?_
  rw [len_of S1 N_1]
  show Gets p e below _ (s₁.setTop (mkF m 7 #[.val (.ref ya1), .val (.int (1 : Int32)), .val (.int (0 : Int32)), .val (.int (1 : Int32))] [(.int (16 : Int32)), (.int (1 : Int32))]))
  refine Gets.of (fun t k => XS.icmpNo X0.here hx rfl (hb hby d15_7) rfl (flt (by decide : ¬ ((16 : Int32) < (1 : Int32)))).2.2.1 k) ?_
  show Gets p e below _ (s₁.setTop (mkF m 10 #[.val (.ref ya1), .val (.int (1 : Int32)), .val (.int (0 : Int32)), .val (.int (1 : Int32))] []))
  refine Gets.of (fun t k => XS.aloadN X0.here hx rfl (hb hby d15_10) rfl rfl  k) ?_
  refine Gets.of (fun t k => XS.goto X0.here hx rfl (pc0 := 11) (pc' := 29) rfl (hb hby d15_11) (by decide) (by decide) k) ?_
  show Gets p e below _ (s₁.setTop (mkF m 29 #[.val (.ref ya1), .val (.int (1 : Int32)), .val (.int (0 : Int32)), .val (.int (1 : Int32))] [(.ref ya1)]))
  refine Gets.retA X0 hx Bd.returns rfl rfl (hb hby d15_29) ?_ (by decide) (by decide)
  rw [e0]
  exact ⟨N0, rfl, rfl⟩
theorem d13_199 : decode prog_15_method_15_code 199 = .ok (.astore 7, 2) := by decide +kernel
theorem d13_201 : decode prog_15_method_15_code 201 = .ok (.aload_n 0, 1) := by decide +kernel
theorem d13_202 : decode prog_15_method_15_code 202 = .ok (.getfield 78, 3) := by decide +kernel
theorem d13_205 : decode prog_15_method_15_code 205 = .ok (.iload 18, 2) := by decide +kernel
theorem d13_207 : decode prog_15_method_15_code 207 = .ok (.iaload, 1) := by decide +kernel
theorem d13_208 : decode prog_15_method_15_code 208 = .ok (.istore 19, 2) := by decide +kernel
theorem d13_210 : decode prog_15_method_15_code 210 = .ok (.iload 19, 2) := by decide +kernel
theorem d13_212 : decode prog_15_method_15_code 212 = .ok (.aload_n 0, 1) := by decide +kernel
theorem d13_213 : decode prog_15_method_15_code 213 = .ok (.getfield 78, 3) := by decide +kernel
theorem d13_216 : decode prog_15_method_15_code 216 = .ok (.iload 18, 2) := by decide +kernel
theorem d13_218 : decode prog_15_method_15_code 218 = .ok (.iconst 1, 1) := by decide +kernel
theorem d13_219 : decode prog_15_method_15_code 219 = .ok (.iadd, 1) := by decide +kernel
theorem d13_220 : decode prog_15_method_15_code 220 = .ok (.iaload, 1) := by decide +kernel
theorem d13_221 : decode prog_15_method_15_code 221 = .ok (.if_icmp .ge 54, 3) := by decide +kernel
theorem d13_275 : decode prog_15_method_15_code 275 = .ok (.iinc 17 1, 3) := by decide +kernel
theorem d13_278 : decode prog_15_method_15_code 278 = .ok (.goto (-105), 3) := by decide +kernel
theorem d13_281 : decode prog_15_method_15_code 281 = .ok (.aload 11, 2) := by decide +kernel
theorem d13_283 : decode prog_15_method_15_code 283 = .ok (.iload 14, 2) := by decide +kernel
theorem d13_285 : decode prog_15_method_15_code 285 = .ok (.iaload, 1) := by decide +kernel
theorem d13_286 : decode prog_15_method_15_code 286 = .ok (.istore 17, 2) := by decide +kernel
theorem d13_288 : decode prog_15_method_15_code 288 = .ok (.iload 17, 2) := by decide +kernel
theorem d13_290 : decode prog_15_method_15_code 290 = .ok (.ifCond .lt 101, 3) := by decide +kernel
theorem d13_391 : decode prog_15_method_15_code 391 = .ok (.aload 7, 2) := by decide +kernel
theorem d13_393 : decode prog_15_method_15_code 393 = .ok (.iload 16, 2) := by decide +kernel
theorem d13_395 : decode prog_15_method_15_code 395 = .ok (.iload 13, 2) := by decide +kernel
theorem d13_397 : decode prog_15_method_15_code 397 = .ok (.invokestatic 124, 3) := by decide +kernel
theorem w73 {Z : State} {a0 : Array Value} (hw : ∀ d ∈ tables_1, d.before a0 Z = true) : (Jvm.Cond.methodLink cn0 (124 : Nat) ({ cls := cn2, name := "sort", desc := "([III)V" } : Jvm.MethodName)).before a0 Z = true := hw _ (List.mem_of_getElem? (i := 73) rfl)
theorem d17_0 : decode jdk_65_method_3_code 0 = .ok (.aload_n 0, 1) := by decide +kernel
theorem d17_1 : decode jdk_65_method_3_code 1 = .ok (.arraylength, 1) := by decide +kernel
theorem d17_2 : decode jdk_65_method_3_code 2 = .ok (.iload_n 1, 1) := by decide +kernel
theorem d17_3 : decode jdk_65_method_3_code 3 = .ok (.iload_n 2, 1) := by decide +kernel
theorem d17_4 : decode jdk_65_method_3_code 4 = .ok (.invokestatic 13, 3) := by decide +kernel
theorem w76 {Z : State} {a0 : Array Value} (hw : ∀ d ∈ tables_1, d.before a0 Z = true) : (Jvm.Cond.methodLink cn2 (13 : Nat) ({ cls := cn2, name := "rangeCheck", desc := "(III)V" } : Jvm.MethodName)).before a0 Z = true := hw _ (List.mem_of_getElem? (i := 76) rfl)
theorem d18_0 : decode jdk_65_method_30_code 0 = .ok (.iload_n 1, 1) := by decide +kernel
theorem d18_1 : decode jdk_65_method_30_code 1 = .ok (.iload_n 2, 1) := by decide +kernel
theorem d18_2 : decode jdk_65_method_30_code 2 = .ok (.if_icmp .le 44, 3) := by decide +kernel
theorem d18_46 : decode jdk_65_method_30_code 46 = .ok (.iload_n 1, 1) := by decide +kernel
theorem d18_47 : decode jdk_65_method_30_code 47 = .ok (.ifCond .ge 12, 3) := by decide +kernel
theorem d18_59 : decode jdk_65_method_30_code 59 = .ok (.iload_n 2, 1) := by decide +kernel
theorem d18_60 : decode jdk_65_method_30_code 60 = .ok (.iload_n 0, 1) := by decide +kernel
theorem d18_61 : decode jdk_65_method_30_code 61 = .ok (.if_icmp .le 12, 3) := by decide +kernel
theorem d18_73 : decode jdk_65_method_30_code 73 = .ok (.return_, 1) := by decide +kernel
def Q_r18_rangeCheck (Z : State)  (h0 : Heap) (n0 : Nat) (v : Option Value) (h : Heap) (L : List Loc) : Prop := Fr n0 L ∧ h = h0 ∧ ((v = none))
set_option maxRecDepth 65536 in
set_option maxHeartbeats 40000000 in
theorem r18_rangeCheck (l : Launch) (Z : State) (a0 : Array Value) (hw : ∀ d ∈ tables_1, d.before a0 Z = true) (ws : List Jvm.Cond)  (h0 : Heap) (n0 : Nat) (O0 : Old Z n0 h0) :
    MetFree l (⟨cn2, "rangeCheck", "(III)V"⟩ : MethodName) (head1 (Jvm.Cond.code (⟨cn2, "rangeCheck", "(III)V"⟩ : MethodName) jdk_65_method_30_code 3 none :: ws) ({ frames := 0, cells := 0, slots := 0, locals := 0 } : Room)) (fun a U => a = #[(.int (16 : Int32)), (.int (1 : Int32)), (.int (1 : Int32))] ∧ Z.Warmed39 U.vm ∧ U.heap = h0) (fun _ _ _ _ _ => True) (fun _ U o U' => ∃ v L, o = .returned v ∧ Q_r18_rangeCheck Z  h0 n0 v U'.heap L ∧ FrameEnd U o U' L ({ frames := 0, cells := 0, slots := 0, locals := 0 } : Room).cells ({ frames := 0, cells := 0, slots := 0, locals := 0 } : Room).slots) := by
  refine MetFree.of_bodySF (plainFor_of_name pn_java_util_Arrays) hisR ?_
  intro p e s m args below meth c s₁ Bd hml0 hP hK
  obtain ⟨rfl, hZ, hh⟩ := hP
  have hx := Bd.exec
  have hby := Bd.bytes
  have hlk := Bd.notSynchronized
  have hml : c.maxLocals = 3 := hml0
  have hown : s.vm.findClass cn2 = some m.cls := findClass_of_methodNamed Bd.named
  have hnm := (name_of_methodNamed Bd.named Bd.method).1
  have X0 : Stand p l e ({ frames := 0, cells := 0, slots := 0, locals := 0 } : Room) s m #[(.int (16 : Int32)), (.int (1 : Int32)), (.int (1 : Int32))] below meth c s₁ [] 0 0 := Stand.of_body Bd
  have e0 : s₁.heap = h0 := by rw [← hh, Bd.state]; rfl
  have N0 := Fr.nil n0
  have K0 := Keep.refl h0 []
  have Z0 : n0 ≤ h0.size := O0.1 ▸ O0.2.1
  have hef : entryFrame m #[(.int (16 : Int32)), (.int (1 : Int32)), (.int (1 : Int32))] 3 = mkF m 0 #[.val (.int (16 : Int32)), .val (.int (1 : Int32)), .val (.int (1 : Int32))] [] := by first | (simp [entryFrame, mkF, argsToLocals, Value.category]; done) | rfl
  rw [hef]
  refine Gets.out (Q := Q_r18_rangeCheck Z  h0 n0) ?_
  show Gets p e below _ (s₁.setTop (mkF m 0 #[.val (.int (16 : Int32)), .val (.int (1 : Int32)), .val (.int (1 : Int32))] []))
  refine Gets.of (fun t k => XS.iloadN X0.here hx rfl (hb hby d18_0) rfl  k) ?_
  refine Gets.of (fun t k => XS.iloadN X0.here hx rfl (hb hby d18_1) rfl  k) ?_
  refine Gets.of (fun t k => XS.icmpYes X0.here hx rfl (pc0 := 2) (pc' := 46) rfl (hb hby d18_2) rfl (flt (by decide : ¬ ((1 : Int32) < (1 : Int32)))).2.2.2 (by decide) (by decide) k) ?_
  show Gets p e below _ (s₁.setTop (mkF m 46 #[.val (.int (16 : Int32)), .val (.int (1 : Int32)), .val (.int (1 : Int32))] []))
  refine Gets.of (fun t k => XS.iloadN X0.here hx rfl (hb hby d18_46) rfl  k) ?_
  refine Gets.of (fun t k => XS.ifYes X0.here hx rfl (pc0 := 47) (pc' := 59) rfl (hb hby d18_47) rfl ((if0 _ _).trans (flt (by decide : ¬ ((1 : Int32) < (0 : Int32)))).2.1) (by decide) (by decide) k) ?_
  show Gets p e below _ (s₁.setTop (mkF m 59 #[.val (.int (16 : Int32)), .val (.int (1 : Int32)), .val (.int (1 : Int32))] []))
  refine Gets.of (fun t k => XS.iloadN X0.here hx rfl (hb hby d18_59) rfl  k) ?_
  refine Gets.of (fun t k => XS.iloadN X0.here hx rfl (hb hby d18_60) rfl  k) ?_
  refine Gets.of (fun t k => XS.icmpYes X0.here hx rfl (pc0 := 61) (pc' := 73) rfl (hb hby d18_61) rfl (flt (by decide : ¬ ((16 : Int32) < (1 : Int32)))).2.2.2 (by decide) (by decide) k) ?_
  show Gets p e below _ (s₁.setTop (mkF m 73 #[.val (.int (16 : Int32)), .val (.int (1 : Int32)), .val (.int (1 : Int32))] []))
  refine Gets.retV X0 hx Bd.returns (hb hby d18_73) ?_ (by decide) (by decide)
  rw [e0]
  exact ⟨N0, rfl, rfl⟩
theorem w78 {Z : State} {a0 : Array Value} (hw : ∀ d ∈ tables_1, d.before a0 Z = true) : (Jvm.Cond.code ({ cls := cn2, name := "rangeCheck", desc := "(III)V" } : Jvm.MethodName) jdk_65_method_30_code (3 : Nat) (Option.none : Option Jvm.ClassFile.FieldType)).before a0 Z = true := hw _ (List.mem_of_getElem? (i := 78) rfl)
theorem pd__III_V : parseMethodDescriptor "(III)V" = some ⟨[.int, .int, .int], none⟩ := by decide +kernel
theorem w77 {Z : State} {a0 : Array Value} (hw : ∀ d ∈ tables_1, d.before a0 Z = true) : (Jvm.Cond.static ({ cls := cn2, name := "rangeCheck", desc := "(III)V" } : Jvm.MethodName)).before a0 Z = true := hw _ (List.mem_of_getElem? (i := 77) rfl)
theorem d17_7 : decode jdk_65_method_3_code 7 = .ok (.aload_n 0, 1) := by decide +kernel
theorem d17_8 : decode jdk_65_method_3_code 8 = .ok (.iconst 0, 1) := by decide +kernel
theorem d17_9 : decode jdk_65_method_3_code 9 = .ok (.iload_n 1, 1) := by decide +kernel
theorem d17_10 : decode jdk_65_method_3_code 10 = .ok (.iload_n 2, 1) := by decide +kernel
theorem d17_11 : decode jdk_65_method_3_code 11 = .ok (.invokestatic 7, 3) := by decide +kernel
theorem w79 {Z : State} {a0 : Array Value} (hw : ∀ d ∈ tables_1, d.before a0 Z = true) : (Jvm.Cond.methodLink cn2 (7 : Nat) ({ cls := cn4, name := "sort", desc := "([IIII)V" } : Jvm.MethodName)).before a0 Z = true := hw _ (List.mem_of_getElem? (i := 79) rfl)
theorem d19_0 : decode jdk_2529_method_3_code 0 = .ok (.iload_n 3, 1) := by decide +kernel
theorem d19_1 : decode jdk_2529_method_3_code 1 = .ok (.iload_n 2, 1) := by decide +kernel
theorem d19_2 : decode jdk_2529_method_3_code 2 = .ok (.isub, 1) := by decide +kernel
theorem d19_3 : decode jdk_2529_method_3_code 3 = .ok (.istore 4, 2) := by decide +kernel
theorem d19_5 : decode jdk_2529_method_3_code 5 = .ok (.iload_n 1, 1) := by decide +kernel
theorem d19_6 : decode jdk_2529_method_3_code 6 = .ok (.iconst 1, 1) := by decide +kernel
theorem d19_7 : decode jdk_2529_method_3_code 7 = .ok (.if_icmp .le 61, 3) := by decide +kernel
theorem d19_68 : decode jdk_2529_method_3_code 68 = .ok (.aconst_null, 1) := by decide +kernel
theorem d19_69 : decode jdk_2529_method_3_code 69 = .ok (.aload_n 0, 1) := by decide +kernel
theorem d19_70 : decode jdk_2529_method_3_code 70 = .ok (.iconst 0, 1) := by decide +kernel
theorem d19_71 : decode jdk_2529_method_3_code 71 = .ok (.iload_n 2, 1) := by decide +kernel
theorem d19_72 : decode jdk_2529_method_3_code 72 = .ok (.iload_n 3, 1) := by decide +kernel
theorem d19_73 : decode jdk_2529_method_3_code 73 = .ok (.invokestatic 26, 3) := by decide +kernel
theorem w83 {Z : State} {a0 : Array Value} (hw : ∀ d ∈ tables_1, d.before a0 Z = true) : (Jvm.Cond.methodLink cn4 (26 : Nat) ({ cls := cn4, name := "sort", desc := "(Ljava/util/DualPivotQuicksort$Sorter;[IIII)V" } : Jvm.MethodName)).before a0 Z = true := hw _ (List.mem_of_getElem? (i := 83) rfl)
theorem d20_0 : decode jdk_2529_method_4_code 0 = .ok (.iload 4, 2) := by decide +kernel
theorem d20_2 : decode jdk_2529_method_4_code 2 = .ok (.iconst 1, 1) := by decide +kernel
theorem d20_3 : decode jdk_2529_method_4_code 3 = .ok (.isub, 1) := by decide +kernel
theorem d20_4 : decode jdk_2529_method_4_code 4 = .ok (.istore 5, 2) := by decide +kernel
theorem d20_6 : decode jdk_2529_method_4_code 6 = .ok (.iload 4, 2) := by decide +kernel
theorem d20_8 : decode jdk_2529_method_4_code 8 = .ok (.iload_n 3, 1) := by decide +kernel
theorem d20_9 : decode jdk_2529_method_4_code 9 = .ok (.isub, 1) := by decide +kernel
theorem d20_10 : decode jdk_2529_method_4_code 10 = .ok (.istore 6, 2) := by decide +kernel
theorem d20_12 : decode jdk_2529_method_4_code 12 = .ok (.iload 6, 2) := by decide +kernel
theorem d20_14 : decode jdk_2529_method_4_code 14 = .ok (.bipush 65, 2) := by decide +kernel
theorem d20_16 : decode jdk_2529_method_4_code 16 = .ok (.iload_n 2, 1) := by decide +kernel
theorem d20_17 : decode jdk_2529_method_4_code 17 = .ok (.iadd, 1) := by decide +kernel
theorem d20_18 : decode jdk_2529_method_4_code 18 = .ok (.if_icmp .ge 28, 3) := by decide +kernel
theorem d20_21 : decode jdk_2529_method_4_code 21 = .ok (.iload_n 2, 1) := by decide +kernel
theorem d20_22 : decode jdk_2529_method_4_code 22 = .ok (.iconst 1, 1) := by decide +kernel
theorem d20_23 : decode jdk_2529_method_4_code 23 = .ok (.iand, 1) := by decide +kernel
theorem d20_24 : decode jdk_2529_method_4_code 24 = .ok (.ifCond .le 22, 3) := by decide +kernel
theorem d20_46 : decode jdk_2529_method_4_code 46 = .ok (.iload 6, 2) := by decide +kernel
theorem d20_48 : decode jdk_2529_method_4_code 48 = .ok (.bipush 44, 2) := by decide +kernel
theorem d20_50 : decode jdk_2529_method_4_code 50 = .ok (.if_icmp .ge 11, 3) := by decide +kernel
theorem d20_53 : decode jdk_2529_method_4_code 53 = .ok (.aload_n 1, 1) := by decide +kernel
theorem d20_54 : decode jdk_2529_method_4_code 54 = .ok (.iload_n 3, 1) := by decide +kernel
theorem d20_55 : decode jdk_2529_method_4_code 55 = .ok (.iload 4, 2) := by decide +kernel
theorem d20_57 : decode jdk_2529_method_4_code 57 = .ok (.invokestatic 34, 3) := by decide +kernel
theorem w86 {Z : State} {a0 : Array Value} (hw : ∀ d ∈ tables_1, d.before a0 Z = true) : (Jvm.Cond.methodLink cn4 (34 : Nat) ({ cls := cn4, name := "insertionSort", desc := "([III)V" } : Jvm.MethodName)).before a0 Z = true := hw _ (List.mem_of_getElem? (i := 86) rfl)
theorem d21_0 : decode jdk_2529_method_6_code 0 = .ok (.iload_n 1, 1) := by decide +kernel
theorem d21_1 : decode jdk_2529_method_6_code 1 = .ok (.istore 4, 2) := by decide +kernel
theorem d21_3 : decode jdk_2529_method_6_code 3 = .ok (.iinc 4 1, 3) := by decide +kernel
theorem d21_6 : decode jdk_2529_method_6_code 6 = .ok (.iload 4, 2) := by decide +kernel
theorem d21_8 : decode jdk_2529_method_6_code 8 = .ok (.iload_n 2, 1) := by decide +kernel
theorem d21_9 : decode jdk_2529_method_6_code 9 = .ok (.if_icmp .ge 58, 3) := by decide +kernel
theorem d21_67 : decode jdk_2529_method_6_code 67 = .ok (.return_, 1) := by decide +kernel
def Q_r21_insertionSort (Z : State) (ya1 : Addr) (h0 : Heap) (n0 : Nat) (v : Option Value) (h : Heap) (L : List Loc) : Prop := Fr n0 L ∧ h = h0 ∧ ((v = none))
theorem pn_java_util_DualPivotQuicksort : plainName "java/util/DualPivotQuicksort" = true := by first | (simp [plainName, overriddenIn]; done) | decide +kernel
set_option maxRecDepth 65536 in
set_option maxHeartbeats 40000000 in
theorem r21_insertionSort (l : Launch) (Z : State) (a0 : Array Value) (hw : ∀ d ∈ tables_1, d.before a0 Z = true) (ws : List Jvm.Cond) (ya1 : Addr) (h0 : Heap) (n0 : Nat) (O0 : Old Z n0 h0) :
    MetFree l (⟨cn4, "insertionSort", "([III)V"⟩ : MethodName) (head1 (Jvm.Cond.code (⟨cn4, "insertionSort", "([III)V"⟩ : MethodName) jdk_2529_method_6_code 6 none :: ws) ({ frames := 0, cells := 0, slots := 0, locals := 0 } : Room)) (fun a U => a = #[(.ref ya1), (.int (1 : Int32)), (.int (1 : Int32))] ∧ Z.Warmed39 U.vm ∧ U.heap = h0) (fun _ _ _ _ _ => True) (fun _ U o U' => ∃ v L, o = .returned v ∧ Q_r21_insertionSort Z ya1 h0 n0 v U'.heap L ∧ FrameEnd U o U' L ({ frames := 0, cells := 0, slots := 0, locals := 0 } : Room).cells ({ frames := 0, cells := 0, slots := 0, locals := 0 } : Room).slots) := by
  refine MetFree.of_bodySF (plainFor_of_name pn_java_util_DualPivotQuicksort) hisR ?_
  intro p e s m args below meth c s₁ Bd hml0 hP hK
  obtain ⟨rfl, hZ, hh⟩ := hP
  have hx := Bd.exec
  have hby := Bd.bytes
  have hlk := Bd.notSynchronized
  have hml : c.maxLocals = 6 := hml0
  have hown : s.vm.findClass cn4 = some m.cls := findClass_of_methodNamed Bd.named
  have hnm := (name_of_methodNamed Bd.named Bd.method).1
  have X0 : Stand p l e ({ frames := 0, cells := 0, slots := 0, locals := 0 } : Room) s m #[(.ref ya1), (.int (1 : Int32)), (.int (1 : Int32))] below meth c s₁ [] 0 0 := Stand.of_body Bd
  have e0 : s₁.heap = h0 := by rw [← hh, Bd.state]; rfl
  have N0 := Fr.nil n0
  have K0 := Keep.refl h0 []
  have Z0 : n0 ≤ h0.size := O0.1 ▸ O0.2.1
  have hef : entryFrame m #[(.ref ya1), (.int (1 : Int32)), (.int (1 : Int32))] 6 = mkF m 0 #[.val (.ref ya1), .val (.int (1 : Int32)), .val (.int (1 : Int32)), .unset, .unset, .unset] [] := by first | (simp [entryFrame, mkF, argsToLocals, Value.category]; done) | rfl
  rw [hef]
  refine Gets.out (Q := Q_r21_insertionSort Z ya1 h0 n0) ?_
  show Gets p e below _ (s₁.setTop (mkF m 0 #[.val (.ref ya1), .val (.int (1 : Int32)), .val (.int (1 : Int32)), .unset, .unset, .unset] []))
  refine Gets.of (fun t k => XS.iloadN X0.here hx rfl (hb hby d21_0) rfl  k) ?_
  refine Gets.of (fun t k => XS.istore X0.here hx rfl (hb hby d21_1) rfl (l' := #[.val (.ref ya1), .val (.int (1 : Int32)), .val (.int (1 : Int32)), .unset, .val (.int (1 : Int32)), .unset]) rfl k) ?_
  show Gets p e below _ (s₁.setTop (mkF m 3 #[.val (.ref ya1), .val (.int (1 : Int32)), .val (.int (1 : Int32)), .unset, .val (.int (1 : Int32)), .unset] []))
  refine Gets.of (fun t k => XS.iinc X0.here hx rfl (hb hby d21_3) rfl (l' := #[.val (.ref ya1), .val (.int (1 : Int32)), .val (.int (1 : Int32)), .unset, .val (.int (2 : Int32)), .unset]) rfl k) ?_
  show Gets p e below _ (s₁.setTop (mkF m 6 #[.val (.ref ya1), .val (.int (1 : Int32)), .val (.int (1 : Int32)), .unset, .val (.int (2 : Int32)), .unset] []))
  refine Gets.of (fun t k => XS.iload X0.here hx rfl (hb hby d21_6) rfl  k) ?_
  refine Gets.of (fun t k => XS.iloadN X0.here hx rfl (hb hby d21_8) rfl  k) ?_
  refine Gets.of (fun t k => XS.icmpYes X0.here hx rfl (pc0 := 9) (pc' := 67) rfl (hb hby d21_9) rfl (flt (by decide : ¬ ((2 : Int32) < (1 : Int32)))).2.1 (by decide) (by decide) k) ?_
  show Gets p e below _ (s₁.setTop (mkF m 67 #[.val (.ref ya1), .val (.int (1 : Int32)), .val (.int (1 : Int32)), .unset, .val (.int (2 : Int32)), .unset] []))
  refine Gets.retV X0 hx Bd.returns (hb hby d21_67) ?_ (by decide) (by decide)
  rw [e0]
  exact ⟨N0, rfl, rfl⟩
theorem w88 {Z : State} {a0 : Array Value} (hw : ∀ d ∈ tables_1, d.before a0 Z = true) : (Jvm.Cond.code ({ cls := cn4, name := "insertionSort", desc := "([III)V" } : Jvm.MethodName) jdk_2529_method_6_code (6 : Nat) (Option.none : Option Jvm.ClassFile.FieldType)).before a0 Z = true := hw _ (List.mem_of_getElem? (i := 88) rfl)
theorem w81 {Z : State} {a0 : Array Value} (hw : ∀ d ∈ tables_1, d.before a0 Z = true) : (Jvm.Cond.initialized cn4).before a0 Z = true := hw _ (List.mem_of_getElem? (i := 81) rfl)
theorem pd__III_V_741 : parseMethodDescriptor "([III)V" = some ⟨[(.array .int), .int, .int], none⟩ := by decide +kernel
theorem w87 {Z : State} {a0 : Array Value} (hw : ∀ d ∈ tables_1, d.before a0 Z = true) : (Jvm.Cond.static ({ cls := cn4, name := "insertionSort", desc := "([III)V" } : Jvm.MethodName)).before a0 Z = true := hw _ (List.mem_of_getElem? (i := 87) rfl)
theorem d20_60 : decode jdk_2529_method_4_code 60 = .ok (.return_, 1) := by decide +kernel
def Q_r20_sort (Z : State) (ya1 : Addr) (h0 : Heap) (n0 : Nat) (v : Option Value) (h : Heap) (L : List Loc) : Prop := Fr n0 L ∧ h = h0 ∧ ((v = none))
set_option maxRecDepth 65536 in
set_option maxHeartbeats 40000000 in
theorem r20_sort (l : Launch) (Z : State) (a0 : Array Value) (hw : ∀ d ∈ tables_1, d.before a0 Z = true) (ws : List Jvm.Cond) (ya1 : Addr) (h0 : Heap) (n0 : Nat) (O0 : Old Z n0 h0) :
    MetFree l (⟨cn4, "sort", "(Ljava/util/DualPivotQuicksort$Sorter;[IIII)V"⟩ : MethodName) (head1 (Jvm.Cond.code (⟨cn4, "sort", "(Ljava/util/DualPivotQuicksort$Sorter;[IIII)V"⟩ : MethodName) jdk_2529_method_4_code 21 none :: ws) ({ frames := 1, cells := 0, slots := 0, locals := 17 } : Room)) (fun a U => a = #[.null, (.ref ya1), (.int (0 : Int32)), (.int (1 : Int32)), (.int (1 : Int32))] ∧ Z.Warmed39 U.vm ∧ U.heap = h0) (fun _ _ _ _ _ => True) (fun _ U o U' => ∃ v L, o = .returned v ∧ Q_r20_sort Z ya1 h0 n0 v U'.heap L ∧ FrameEnd U o U' L ({ frames := 1, cells := 0, slots := 0, locals := 17 } : Room).cells ({ frames := 1, cells := 0, slots := 0, locals := 17 } : Room).slots) := by
  refine MetFree.of_bodySF (plainFor_of_name pn_java_util_DualPivotQuicksort) hisR ?_
  intro p e s m args below meth c s₁ Bd hml0 hP hK
  obtain ⟨rfl, hZ, hh⟩ := hP
  have hx := Bd.exec
  have hby := Bd.bytes
  have hlk := Bd.notSynchronized
  have hml : c.maxLocals = 21 := hml0
  have hown : s.vm.findClass cn4 = some m.cls := findClass_of_methodNamed Bd.named
  have hnm := (name_of_methodNamed Bd.named Bd.method).1
  have X0 : Stand p l e ({ frames := 1, cells := 0, slots := 0, locals := 17 } : Room) s m #[.null, (.ref ya1), (.int (0 : Int32)), (.int (1 : Int32)), (.int (1 : Int32))] below meth c s₁ [] 0 0 := Stand.of_body Bd
  have e0 : s₁.heap = h0 := by rw [← hh, Bd.state]; rfl
  have N0 := Fr.nil n0
  have K0 := Keep.refl h0 []
  have Z0 : n0 ≤ h0.size := O0.1 ▸ O0.2.1
  have hef : entryFrame m #[.null, (.ref ya1), (.int (0 : Int32)), (.int (1 : Int32)), (.int (1 : Int32))] 21 = mkF m 0 #[.val .null, .val (.ref ya1), .val (.int (0 : Int32)), .val (.int (1 : Int32)), .val (.int (1 : Int32)), .unset, .unset, .unset, .unset, .unset, .unset, .unset, .unset, .unset, .unset, .unset, .unset, .unset, .unset, .unset, .unset] [] := by first | (simp [entryFrame, mkF, argsToLocals, Value.category]; done) | rfl
  rw [hef]
  refine Gets.out (Q := Q_r20_sort Z ya1 h0 n0) ?_
  show Gets p e below _ (s₁.setTop (mkF m 0 #[.val .null, .val (.ref ya1), .val (.int (0 : Int32)), .val (.int (1 : Int32)), .val (.int (1 : Int32)), .unset, .unset, .unset, .unset, .unset, .unset, .unset, .unset, .unset, .unset, .unset, .unset, .unset, .unset, .unset, .unset] []))
  refine Gets.of (fun t k => XS.iload X0.here hx rfl (hb hby d20_0) rfl  k) ?_
  refine Gets.of (fun t k => XS.iconst X0.here hx rfl (hb hby d20_2) k) ?_
  refine Gets.of (fun t k => XS.isub X0.here hx rfl (hb hby d20_3) rfl k) ?_
  show Gets p e below _ (s₁.setTop (mkF m 4 #[.val .null, .val (.ref ya1), .val (.int (0 : Int32)), .val (.int (1 : Int32)), .val (.int (1 : Int32)), .unset, .unset, .unset, .unset, .unset, .unset, .unset, .unset, .unset, .unset, .unset, .unset, .unset, .unset, .unset, .unset] [(.int (0 : Int32))]))
  refine Gets.of (fun t k => XS.istore X0.here hx rfl (hb hby d20_4) rfl (l' := #[.val .null, .val (.ref ya1), .val (.int (0 : Int32)), .val (.int (1 : Int32)), .val (.int (1 : Int32)), .val (.int (0 : Int32)), .unset, .unset, .unset, .unset, .unset, .unset, .unset, .unset, .unset, .unset, .unset, .unset, .unset, .unset, .unset]) rfl k) ?_
  show Gets p e below _ (s₁.setTop (mkF m 6 #[.val .null, .val (.ref ya1), .val (.int (0 : Int32)), .val (.int (1 : Int32)), .val (.int (1 : Int32)), .val (.int (0 : Int32)), .unset, .unset, .unset, .unset, .unset, .unset, .unset, .unset, .unset, .unset, .unset, .unset, .unset, .unset, .unset] []))
  refine Gets.of (fun t k => XS.iload X0.here hx rfl (hb hby d20_6) rfl  k) ?_
  refine Gets.of (fun t k => XS.iloadN X0.here hx rfl (hb hby d20_8) rfl  k) ?_
  refine Gets.of (fun t k => XS.isub X0.here hx rfl (hb hby d20_9) rfl k) ?_
  show Gets p e below _ (s₁.setTop (mkF m 10 #[.val .null, .val (.ref ya1), .val (.int (0 : Int32)), .val (.int (1 : Int32)), .val (.int (1 : Int32)), .val (.int (0 : Int32)), .unset, .unset, .unset, .unset, .unset, .unset, .unset, .unset, .unset, .unset, .unset, .unset, .unset, .unset, .unset] [(.int (0 : Int32))]))
  refine Gets.of (fun t k => XS.istore X0.here hx rfl (hb hby d20_10) rfl (l' := #[.val .null, .val (.ref ya1), .val (.int (0 : Int32)), .val (.int (1 : Int32)), .val (.int (1 : Int32)), .val (.int (0 : Int32)), .val (.int (0 : Int32)), .unset, .unset, .unset, .unset, .unset, .unset, .unset, .unset, .unset, .unset, .unset, .unset, .unset, .unset]) rfl k) ?_
  show Gets p e below _ (s₁.setTop (mkF m 12 #[.val .null, .val (.ref ya1), .val (.int (0 : Int32)), .val (.int (1 : Int32)), .val (.int (1 : Int32)), .val (.int (0 : Int32)), .val (.int (0 : Int32)), .unset, .unset, .unset, .unset, .unset, .unset, .unset, .unset, .unset, .unset, .unset, .unset, .unset, .unset] []))
  refine Gets.of (fun t k => XS.iload X0.here hx rfl (hb hby d20_12) rfl  k) ?_
  refine Gets.of (fun t k => XS.bipush X0.here hx rfl (hb hby d20_14) k) ?_
  refine Gets.of (fun t k => XS.iloadN X0.here hx rfl (hb hby d20_16) rfl  k) ?_
  refine Gets.of (fun t k => XS.iadd X0.here hx rfl (hb hby d20_17) rfl k) ?_
  show Gets p e below _ (s₁.setTop (mkF m 18 #[.val .null, .val (.ref ya1), .val (.int (0 : Int32)), .val (.int (1 : Int32)), .val (.int (1 : Int32)), .val (.int (0 : Int32)), .val (.int (0 : Int32)), .unset, .unset, .unset, .unset, .unset, .unset, .unset, .unset, .unset, .unset, .unset, .unset, .unset, .unset] [(.int (65 : Int32)), (.int (0 : Int32))]))
  refine Gets.of (fun t k => XS.icmpNo X0.here hx rfl (hb hby d20_18) rfl (tlt (by decide : (0 : Int32) < (65 : Int32))).2.1 k) ?_
  show Gets p e below _ (s₁.setTop (mkF m 21 #[.val .null, .val (.ref ya1), .val (.int (0 : Int32)), .val (.int (1 : Int32)), .val (.int (1 : Int32)), .val (.int (0 : Int32)), .val (.int (0 : Int32)), .unset, .unset, .unset, .unset, .unset, .unset, .unset, .unset, .unset, .unset, .unset, .unset, .unset, .unset] []))
  refine Gets.of (fun t k => XS.iloadN X0.here hx rfl (hb hby d20_21) rfl  k) ?_
  refine Gets.of (fun t k => XS.iconst X0.here hx rfl (hb hby d20_22) k) ?_
  refine Gets.of (fun t k => XS.iand X0.here hx rfl (hb hby d20_23) rfl k) ?_
  show Gets p e below _ (s₁.setTop (mkF m 24 #[.val .null, .val (.ref ya1), .val (.int (0 : Int32)), .val (.int (1 : Int32)), .val (.int (1 : Int32)), .val (.int (0 : Int32)), .val (.int (0 : Int32)), .unset, .unset, .unset, .unset, .unset, .unset, .unset, .unset, .unset, .unset, .unset, .unset, .unset, .unset] [(.int (0 : Int32))]))
  refine Gets.of (fun t k => XS.ifYes X0.here hx rfl (pc0 := 24) (pc' := 46) rfl (hb hby d20_24) rfl ((if0 _ _).trans (flt (by decide : ¬ ((0 : Int32) < (0 : Int32)))).2.2.2) (by decide) (by decide) k) ?_
  show Gets p e below _ (s₁.setTop (mkF m 46 #[.val .null, .val (.ref ya1), .val (.int (0 : Int32)), .val (.int (1 : Int32)), .val (.int (1 : Int32)), .val (.int (0 : Int32)), .val (.int (0 : Int32)), .unset, .unset, .unset, .unset, .unset, .unset, .unset, .unset, .unset, .unset, .unset, .unset, .unset, .unset] []))
  refine Gets.of (fun t k => XS.iload X0.here hx rfl (hb hby d20_46) rfl  k) ?_
  refine Gets.of (fun t k => XS.bipush X0.here hx rfl (hb hby d20_48) k) ?_
  refine Gets.of (fun t k => XS.icmpNo X0.here hx rfl (hb hby d20_50) rfl (tlt (by decide : (0 : Int32) < (44 : Int32))).2.1 k) ?_
  show Gets p e below _ (s₁.setTop (mkF m 53 #[.val .null, .val (.ref ya1), .val (.int (0 : Int32)), .val (.int (1 : Int32)), .val (.int (1 : Int32)), .val (.int (0 : Int32)), .val (.int (0 : Int32)), .unset, .unset, .unset, .unset, .unset, .unset, .unset, .unset, .unset, .unset, .unset, .unset, .unset, .unset] []))
  refine Gets.of (fun t k => XS.aloadN X0.here hx rfl (hb hby d20_53) rfl rfl  k) ?_
  refine Gets.of (fun t k => XS.iloadN X0.here hx rfl (hb hby d20_54) rfl  k) ?_
  refine Gets.of (fun t k => XS.iload X0.here hx rfl (hb hby d20_55) rfl  k) ?_
  obtain ⟨_, _, ⟨T1, L1, k1, n1⟩, -, X1, ⟨Lc1, hQ1, l1, y1, z1⟩, st1⟩ := Jvm.LawKit.callS X0 hx (y := (⟨cn4, "insertionSort", "([III)V"⟩ : MethodName)) hown (mvT hZ (w86 hw)) (mvT hZ (w87 hw)) (mvT hZ (w81 hw)) (mvT hZ (w88 hw)) (by decide) (backOf (W := 0) (r21_insertionSort l Z a0 hw [] ya1 h0 n0 O0) hZ (w88 hw) (w81 hw) (by decide) (by decide)) (g := (mkF m 57 #[.val .null, .val (.ref ya1), .val (.int (0 : Int32)), .val (.int (1 : Int32)), .val (.int (1 : Int32)), .val (.int (0 : Int32)), .val (.int (0 : Int32)), .unset, .unset, .unset, .unset, .unset, .unset, .unset, .unset, .unset, .unset, .unset, .unset, .unset, .unset] [(.int (1 : Int32)), (.int (1 : Int32)), (.ref ya1)])) rfl (by rw [hml]; rfl) (argsL := [(.ref ya1), (.int (1 : Int32)), (.int (1 : Int32))]) (rest := []) (lenOf pd__III_V_741 rfl) rfl (by show 2 * 0 + _ ≤ _; exact Nat.le_of_eq rfl) (hb hby d20_57) (fun _ _ => ⟨rfl, e0, (by decide : 0 + 0 ≤ _), (by decide : 0 + 0 ≤ _)⟩)
  dsimp only [Pt.U, Pt.locs, Pt.cells, Pt.slots] at X1 l1 y1 z1 st1 hQ1
  subst l1 y1 z1
  obtain ⟨Nq1, eq1, hR1⟩ := hQ1
  have N1 := Fr.app N0 Nq1
  obtain rfl := hR1
  refine Gets.of st1 ?_
  show Gets p e below _ (T1.setTop (mkF m 60 #[.val .null, .val (.ref ya1), .val (.int (0 : Int32)), .val (.int (1 : Int32)), .val (.int (1 : Int32)), .val (.int (0 : Int32)), .val (.int (0 : Int32)), .unset, .unset, .unset, .unset, .unset, .unset, .unset, .unset, .unset, .unset, .unset, .unset, .unset, .unset] []))
  refine Gets.retV X1 hx Bd.returns (hb hby d20_60) ?_ (by decide) (by decide)
  rw [eq1]
  exact ⟨N1, rfl, rfl⟩
theorem w85 {Z : State} {a0 : Array Value} (hw : ∀ d ∈ tables_1, d.before a0 Z = true) : (Jvm.Cond.code ({ cls := cn4, name := "sort", desc := "(Ljava/util/DualPivotQuicksort$Sorter;[IIII)V" } : Jvm.MethodName) jdk_2529_method_4_code (21 : Nat) (Option.none : Option Jvm.ClassFile.FieldType)).before a0 Z = true := hw _ (List.mem_of_getElem? (i := 85) rfl)
theorem pd__Ljava_util_DualPivotQuicksort_Sorter_IIII_V : parseMethodDescriptor "(Ljava/util/DualPivotQuicksort$Sorter;[IIII)V" = some ⟨[(.object "java/util/DualPivotQuicksort$Sorter"), (.array .int), .int, .int, .int], none⟩ := by decide +kernel
theorem w84 {Z : State} {a0 : Array Value} (hw : ∀ d ∈ tables_1, d.before a0 Z = true) : (Jvm.Cond.static ({ cls := cn4, name := "sort", desc := "(Ljava/util/DualPivotQuicksort$Sorter;[IIII)V" } : Jvm.MethodName)).before a0 Z = true := hw _ (List.mem_of_getElem? (i := 84) rfl)
theorem d19_76 : decode jdk_2529_method_3_code 76 = .ok (.return_, 1) := by decide +kernel
def Q_r19_sort (Z : State) (ya1 : Addr) (h0 : Heap) (n0 : Nat) (v : Option Value) (h : Heap) (L : List Loc) : Prop := Fr n0 L ∧ h = h0 ∧ ((v = none))
set_option maxRecDepth 65536 in
set_option maxHeartbeats 40000000 in
theorem r19_sort (l : Launch) (Z : State) (a0 : Array Value) (hw : ∀ d ∈ tables_1, d.before a0 Z = true) (ws : List Jvm.Cond) (ya1 : Addr) (h0 : Heap) (n0 : Nat) (O0 : Old Z n0 h0) :
    MetFree l (⟨cn4, "sort", "([IIII)V"⟩ : MethodName) (head1 (Jvm.Cond.code (⟨cn4, "sort", "([IIII)V"⟩ : MethodName) jdk_2529_method_3_code 7 none :: ws) ({ frames := 2, cells := 0, slots := 0, locals := 49 } : Room)) (fun a U => a = #[(.ref ya1), (.int (0 : Int32)), (.int (1 : Int32)), (.int (1 : Int32))] ∧ Z.Warmed39 U.vm ∧ U.heap = h0) (fun _ _ _ _ _ => True) (fun _ U o U' => ∃ v L, o = .returned v ∧ Q_r19_sort Z ya1 h0 n0 v U'.heap L ∧ FrameEnd U o U' L ({ frames := 2, cells := 0, slots := 0, locals := 49 } : Room).cells ({ frames := 2, cells := 0, slots := 0, locals := 49 } : Room).slots) := by
  refine MetFree.of_bodySF (plainFor_of_name pn_java_util_DualPivotQuicksort) hisR ?_
  intro p e s m args below meth c s₁ Bd hml0 hP hK
  obtain ⟨rfl, hZ, hh⟩ := hP
  have hx := Bd.exec
  have hby := Bd.bytes
  have hlk := Bd.notSynchronized
  have hml : c.maxLocals = 7 := hml0
  have hown : s.vm.findClass cn4 = some m.cls := findClass_of_methodNamed Bd.named
  have hnm := (name_of_methodNamed Bd.named Bd.method).1
  have X0 : Stand p l e ({ frames := 2, cells := 0, slots := 0, locals := 49 } : Room) s m #[(.ref ya1), (.int (0 : Int32)), (.int (1 : Int32)), (.int (1 : Int32))] below meth c s₁ [] 0 0 := Stand.of_body Bd
  have e0 : s₁.heap = h0 := by rw [← hh, Bd.state]; rfl
  have N0 := Fr.nil n0
  have K0 := Keep.refl h0 []
  have Z0 : n0 ≤ h0.size := O0.1 ▸ O0.2.1
  have hef : entryFrame m #[(.ref ya1), (.int (0 : Int32)), (.int (1 : Int32)), (.int (1 : Int32))] 7 = mkF m 0 #[.val (.ref ya1), .val (.int (0 : Int32)), .val (.int (1 : Int32)), .val (.int (1 : Int32)), .unset, .unset, .unset] [] := by first | (simp [entryFrame, mkF, argsToLocals, Value.category]; done) | rfl
  rw [hef]
  refine Gets.out (Q := Q_r19_sort Z ya1 h0 n0) ?_
  show Gets p e below _ (s₁.setTop (mkF m 0 #[.val (.ref ya1), .val (.int (0 : Int32)), .val (.int (1 : Int32)), .val (.int (1 : Int32)), .unset, .unset, .unset] []))
  refine Gets.of (fun t k => XS.iloadN X0.here hx rfl (hb hby d19_0) rfl  k) ?_
  refine Gets.of (fun t k => XS.iloadN X0.here hx rfl (hb hby d19_1) rfl  k) ?_
  refine Gets.of (fun t k => XS.isub X0.here hx rfl (hb hby d19_2) rfl k) ?_
  show Gets p e below _ (s₁.setTop (mkF m 3 #[.val (.ref ya1), .val (.int (0 : Int32)), .val (.int (1 : Int32)), .val (.int (1 : Int32)), .unset, .unset, .unset] [(.int (0 : Int32))]))
  refine Gets.of (fun t k => XS.istore X0.here hx rfl (hb hby d19_3) rfl (l' := #[.val (.ref ya1), .val (.int (0 : Int32)), .val (.int (1 : Int32)), .val (.int (1 : Int32)), .val (.int (0 : Int32)), .unset, .unset]) rfl k) ?_
  show Gets p e below _ (s₁.setTop (mkF m 5 #[.val (.ref ya1), .val (.int (0 : Int32)), .val (.int (1 : Int32)), .val (.int (1 : Int32)), .val (.int (0 : Int32)), .unset, .unset] []))
  refine Gets.of (fun t k => XS.iloadN X0.here hx rfl (hb hby d19_5) rfl  k) ?_
  refine Gets.of (fun t k => XS.iconst X0.here hx rfl (hb hby d19_6) k) ?_
  refine Gets.of (fun t k => XS.icmpYes X0.here hx rfl (pc0 := 7) (pc' := 68) rfl (hb hby d19_7) rfl (flt (by decide : ¬ ((1 : Int32) < (0 : Int32)))).2.2.2 (by decide) (by decide) k) ?_
  show Gets p e below _ (s₁.setTop (mkF m 68 #[.val (.ref ya1), .val (.int (0 : Int32)), .val (.int (1 : Int32)), .val (.int (1 : Int32)), .val (.int (0 : Int32)), .unset, .unset] []))
  refine Gets.of (fun t k => XS.aconstNull X0.here hx rfl (hb hby d19_68) k) ?_
  refine Gets.of (fun t k => XS.aloadN X0.here hx rfl (hb hby d19_69) rfl rfl  k) ?_
  refine Gets.of (fun t k => XS.iconst X0.here hx rfl (hb hby d19_70) k) ?_
  refine Gets.of (fun t k => XS.iloadN X0.here hx rfl (hb hby d19_71) rfl  k) ?_
  show Gets p e below _ (s₁.setTop (mkF m 72 #[.val (.ref ya1), .val (.int (0 : Int32)), .val (.int (1 : Int32)), .val (.int (1 : Int32)), .val (.int (0 : Int32)), .unset, .unset] [(.int (1 : Int32)), (.int (0 : Int32)), (.ref ya1), .null]))
  refine Gets.of (fun t k => XS.iloadN X0.here hx rfl (hb hby d19_72) rfl  k) ?_
  obtain ⟨_, _, ⟨T1, L1, k1, n1⟩, -, X1, ⟨Lc1, hQ1, l1, y1, z1⟩, st1⟩ := Jvm.LawKit.callS X0 hx (y := (⟨cn4, "sort", "(Ljava/util/DualPivotQuicksort$Sorter;[IIII)V"⟩ : MethodName)) hown (mvT hZ (w83 hw)) (mvT hZ (w84 hw)) (mvT hZ (w81 hw)) (mvT hZ (w85 hw)) (by decide) (backOf (W := 0) (r20_sort l Z a0 hw [] ya1 h0 n0 O0) hZ (w85 hw) (w81 hw) (by decide) (by decide)) (g := (mkF m 73 #[.val (.ref ya1), .val (.int (0 : Int32)), .val (.int (1 : Int32)), .val (.int (1 : Int32)), .val (.int (0 : Int32)), .unset, .unset] [(.int (1 : Int32)), (.int (1 : Int32)), (.int (0 : Int32)), (.ref ya1), .null])) rfl (by rw [hml]; rfl) (argsL := [.null, (.ref ya1), (.int (0 : Int32)), (.int (1 : Int32)), (.int (1 : Int32))]) (rest := []) (lenOf pd__Ljava_util_DualPivotQuicksort_Sorter_IIII_V rfl) rfl (by show 2 * 0 + _ ≤ _; exact Nat.le_of_eq rfl) (hb hby d19_73) (fun _ _ => ⟨rfl, e0, (by decide : 0 + 0 ≤ _), (by decide : 0 + 0 ≤ _)⟩)
  dsimp only [Pt.U, Pt.locs, Pt.cells, Pt.slots] at X1 l1 y1 z1 st1 hQ1
  subst l1 y1 z1
  obtain ⟨Nq1, eq1, hR1⟩ := hQ1
  have N1 := Fr.app N0 Nq1
  obtain rfl := hR1
  refine Gets.of st1 ?_
  show Gets p e below _ (T1.setTop (mkF m 76 #[.val (.ref ya1), .val (.int (0 : Int32)), .val (.int (1 : Int32)), .val (.int (1 : Int32)), .val (.int (0 : Int32)), .unset, .unset] []))
  refine Gets.retV X1 hx Bd.returns (hb hby d19_76) ?_ (by decide) (by decide)
  rw [eq1]
  exact ⟨N1, rfl, rfl⟩
theorem w82 {Z : State} {a0 : Array Value} (hw : ∀ d ∈ tables_1, d.before a0 Z = true) : (Jvm.Cond.code ({ cls := cn4, name := "sort", desc := "([IIII)V" } : Jvm.MethodName) jdk_2529_method_3_code (7 : Nat) (Option.none : Option Jvm.ClassFile.FieldType)).before a0 Z = true := hw _ (List.mem_of_getElem? (i := 82) rfl)
theorem pd__IIII_V : parseMethodDescriptor "([IIII)V" = some ⟨[(.array .int), .int, .int, .int], none⟩ := by decide +kernel
theorem w80 {Z : State} {a0 : Array Value} (hw : ∀ d ∈ tables_1, d.before a0 Z = true) : (Jvm.Cond.static ({ cls := cn4, name := "sort", desc := "([IIII)V" } : Jvm.MethodName)).before a0 Z = true := hw _ (List.mem_of_getElem? (i := 80) rfl)
theorem d17_14 : decode jdk_65_method_3_code 14 = .ok (.return_, 1) := by decide +kernel
def Q_r17_sort (Z : State) (ya1 : Addr) (yk2 : ClassId) (h0 : Heap) (n0 : Nat) (v : Option Value) (h : Heap) (L : List Loc) : Prop := Fr n0 L ∧ h = h0 ∧ ((v = none))
set_option maxRecDepth 65536 in
set_option maxHeartbeats 40000000 in
theorem r17_sort (l : Launch) (Z : State) (a0 : Array Value) (hw : ∀ d ∈ tables_1, d.before a0 Z = true) (ws : List Jvm.Cond) (ya1 : Addr) (yk2 : ClassId) (h0 : Heap) (n0 : Nat) (O0 : Old Z n0 h0) (F0 : Arv Z h0 ya1 yk2 .int (16 : Int32) [(.int (0 : Int32)), (.int (0 : Int32)), (.int (0 : Int32)), (.int (0 : Int32)), (.int (0 : Int32)), (.int (0 : Int32)), (.int (0 : Int32)), (.int (0 : Int32)), (.int (0 : Int32)), (.int (0 : Int32)), (.int (0 : Int32)), (.int (0 : Int32)), (.int (0 : Int32)), (.int (0 : Int32)), (.int (0 : Int32)), (.int (0 : Int32))] (.int (0 : Int32))) :
    MetFree l (⟨cn2, "sort", "([III)V"⟩ : MethodName) (head1 (Jvm.Cond.code (⟨cn2, "sort", "([III)V"⟩ : MethodName) jdk_65_method_3_code 3 none :: ws) ({ frames := 3, cells := 0, slots := 0, locals := 67 } : Room)) (fun a U => a = #[(.ref ya1), (.int (1 : Int32)), (.int (1 : Int32))] ∧ Z.Warmed39 U.vm ∧ U.heap = h0) (fun _ _ _ _ _ => True) (fun _ U o U' => ∃ v L, o = .returned v ∧ Q_r17_sort Z ya1 yk2 h0 n0 v U'.heap L ∧ FrameEnd U o U' L ({ frames := 3, cells := 0, slots := 0, locals := 67 } : Room).cells ({ frames := 3, cells := 0, slots := 0, locals := 67 } : Room).slots) := by
  refine MetFree.of_bodySF (plainFor_of_name pn_java_util_Arrays) hisR ?_
  intro p e s m args below meth c s₁ Bd hml0 hP hK
  obtain ⟨rfl, hZ, hh⟩ := hP
  have hx := Bd.exec
  have hby := Bd.bytes
  have hlk := Bd.notSynchronized
  have hml : c.maxLocals = 3 := hml0
  have hown : s.vm.findClass cn2 = some m.cls := findClass_of_methodNamed Bd.named
  have hnm := (name_of_methodNamed Bd.named Bd.method).1
  have X0 : Stand p l e ({ frames := 3, cells := 0, slots := 0, locals := 67 } : Room) s m #[(.ref ya1), (.int (1 : Int32)), (.int (1 : Int32))] below meth c s₁ [] 0 0 := Stand.of_body Bd
  have e0 : s₁.heap = h0 := by rw [← hh, Bd.state]; rfl
  have N0 := Fr.nil n0
  have K0 := Keep.refl h0 []
  have Z0 : n0 ≤ h0.size := O0.1 ▸ O0.2.1
  have hef : entryFrame m #[(.ref ya1), (.int (1 : Int32)), (.int (1 : Int32))] 3 = mkF m 0 #[.val (.ref ya1), .val (.int (1 : Int32)), .val (.int (1 : Int32))] [] := by first | (simp [entryFrame, mkF, argsToLocals, Value.category]; done) | rfl
  rw [hef]
  refine Gets.out (Q := Q_r17_sort Z ya1 yk2 h0 n0) ?_
  show Gets p e below _ (s₁.setTop (mkF m 0 #[.val (.ref ya1), .val (.int (1 : Int32)), .val (.int (1 : Int32))] []))
  refine Gets.of (fun t k => XS.aloadN X0.here hx rfl (hb hby d17_0) rfl rfl  k) ?_
  obtain ⟨cl1, Ar1, -, S1, N_1, -, -⟩ := id (F0)
  refine Gets.of (X0.arraylength hx (by rw [e0]; exact Ar1.1) (State.isArrayOf_alike hZ.alike Ar1.2.1) (g := (mkF m 1 #[.val (.ref ya1), .val (.int (1 : Int32)), .val (.int (1 : Int32))] [(.ref ya1)])) rfl rfl (hb hby d17_1)) ?_
  rw [len_of S1 N_1]
  show Gets p e below _ (s₁.setTop (mkF m 2 #[.val (.ref ya1), .val (.int (1 : Int32)), .val (.int (1 : Int32))] [(.int (16 : Int32))]))
  refine Gets.of (fun t k => XS.iloadN X0.here hx rfl (hb hby d17_2) rfl  k) ?_
  refine Gets.of (fun t k => XS.iloadN X0.here hx rfl (hb hby d17_3) rfl  k) ?_
  obtain ⟨_, _, ⟨T2, L2, k2, n2⟩, -, X2, ⟨Lc2, hQ2, l2, y2, z2⟩, st2⟩ := Jvm.LawKit.callS X0 hx (y := (⟨cn2, "rangeCheck", "(III)V"⟩ : MethodName)) hown (mvT hZ (w76 hw)) (mvT hZ (w77 hw)) (mvT hZ (w31 hw)) (mvT hZ (w78 hw)) (by decide) (backOf (W := 0) (r18_rangeCheck l Z a0 hw []  h0 n0 O0) hZ (w78 hw) (w31 hw) (by decide) (by decide)) (g := (mkF m 4 #[.val (.ref ya1), .val (.int (1 : Int32)), .val (.int (1 : Int32))] [(.int (1 : Int32)), (.int (1 : Int32)), (.int (16 : Int32))])) rfl (by rw [hml]; rfl) (argsL := [(.int (16 : Int32)), (.int (1 : Int32)), (.int (1 : Int32))]) (rest := []) (lenOf pd__III_V rfl) rfl (by show 2 * 0 + _ ≤ _; exact Nat.le_of_eq rfl) (hb hby d17_4) (fun _ _ => ⟨rfl, e0, (by decide : 0 + 0 ≤ _), (by decide : 0 + 0 ≤ _)⟩)
  dsimp only [Pt.U, Pt.locs, Pt.cells, Pt.slots] at X2 l2 y2 z2 st2 hQ2
  subst l2 y2 z2
  obtain ⟨Nq2, eq2, hR2⟩ := hQ2
  have N2 := Fr.app N0 Nq2
  obtain rfl := hR2
  refine Gets.of st2 ?_
  show Gets p e below _ (T2.setTop (mkF m 7 #[.val (.ref ya1), .val (.int (1 : Int32)), .val (.int (1 : Int32))] []))
  refine Gets.of (fun t k => XS.aloadN X2.here hx rfl (hb hby d17_7) rfl rfl  k) ?_
  refine Gets.of (fun t k => XS.iconst X2.here hx rfl (hb hby d17_8) k) ?_
  refine Gets.of (fun t k => XS.iloadN X2.here hx rfl (hb hby d17_9) rfl  k) ?_
  refine Gets.of (fun t k => XS.iloadN X2.here hx rfl (hb hby d17_10) rfl  k) ?_
  show Gets p e below _ (T2.setTop (mkF m 11 #[.val (.ref ya1), .val (.int (1 : Int32)), .val (.int (1 : Int32))] [(.int (1 : Int32)), (.int (1 : Int32)), (.int (0 : Int32)), (.ref ya1)]))
  obtain ⟨_, _, ⟨T3, L3, k3, n3⟩, -, X3, ⟨Lc3, hQ3, l3, y3, z3⟩, st3⟩ := Jvm.LawKit.callS X2 hx (y := (⟨cn4, "sort", "([IIII)V"⟩ : MethodName)) hown (mvT hZ (w79 hw)) (mvT hZ (w80 hw)) (mvT hZ (w81 hw)) (mvT hZ (w82 hw)) (by decide) (backOf (W := 0) (r19_sort l Z a0 hw [] ya1 h0 n0 O0) hZ (w82 hw) (w81 hw) (by decide) (by decide)) (g := (mkF m 11 #[.val (.ref ya1), .val (.int (1 : Int32)), .val (.int (1 : Int32))] [(.int (1 : Int32)), (.int (1 : Int32)), (.int (0 : Int32)), (.ref ya1)])) rfl (by rw [hml]; rfl) (argsL := [(.ref ya1), (.int (0 : Int32)), (.int (1 : Int32)), (.int (1 : Int32))]) (rest := []) (lenOf pd__IIII_V rfl) rfl (by show 2 * 0 + _ ≤ _; exact Nat.le_of_eq rfl) (hb hby d17_11) (fun _ _ => ⟨rfl, eq2, (by decide : 0 + 0 ≤ _), (by decide : 0 + 0 ≤ _)⟩)
  dsimp only [Pt.U, Pt.locs, Pt.cells, Pt.slots] at X3 l3 y3 z3 st3 hQ3
  subst l3 y3 z3
  obtain ⟨Nq3, eq3, hR3⟩ := hQ3
  have N3 := Fr.app N2 Nq3
  obtain rfl := hR3
  refine Gets.of st3 ?_
  show Gets p e below _ (T3.setTop (mkF m 14 #[.val (.ref ya1), .val (.int (1 : Int32)), .val (.int (1 : Int32))] []))
  refine Gets.retV X3 hx Bd.returns (hb hby d17_14) ?_ (by decide) (by decide)
  rw [eq3]
  exact ⟨N3, rfl, rfl⟩
theorem w75 {Z : State} {a0 : Array Value} (hw : ∀ d ∈ tables_1, d.before a0 Z = true) : (Jvm.Cond.code ({ cls := cn2, name := "sort", desc := "([III)V" } : Jvm.MethodName) jdk_65_method_3_code (3 : Nat) (Option.none : Option Jvm.ClassFile.FieldType)).before a0 Z = true := hw _ (List.mem_of_getElem? (i := 75) rfl)
theorem w74 {Z : State} {a0 : Array Value} (hw : ∀ d ∈ tables_1, d.before a0 Z = true) : (Jvm.Cond.static ({ cls := cn2, name := "sort", desc := "([III)V" } : Jvm.MethodName)).before a0 Z = true := hw _ (List.mem_of_getElem? (i := 74) rfl)
theorem d13_400 : decode prog_15_method_15_code 400 = .ok (.aload 6, 2) := by decide +kernel
theorem d13_402 : decode prog_15_method_15_code 402 = .ok (.iload 14, 2) := by decide +kernel
theorem d13_404 : decode prog_15_method_15_code 404 = .ok (.iconst 1, 1) := by decide +kernel
theorem d13_405 : decode prog_15_method_15_code 405 = .ok (.iadd, 1) := by decide +kernel
theorem d13_406 : decode prog_15_method_15_code 406 = .ok (.iload 13, 2) := by decide +kernel
theorem d13_408 : decode prog_15_method_15_code 408 = .ok (.iastore, 1) := by decide +kernel
theorem d13_409 : decode prog_15_method_15_code 409 = .ok (.aload 9, 2) := by decide +kernel
theorem d13_411 : decode prog_15_method_15_code 411 = .ok (.iload 14, 2) := by decide +kernel
theorem d13_413 : decode prog_15_method_15_code 413 = .ok (.iload 16, 2) := by decide +kernel
theorem d13_415 : decode prog_15_method_15_code 415 = .ok (.iastore, 1) := by decide +kernel
theorem d13_416 : decode prog_15_method_15_code 416 = .ok (.iload 13, 2) := by decide +kernel
theorem d13_418 : decode prog_15_method_15_code 418 = .ok (.iload 16, 2) := by decide +kernel
theorem d13_420 : decode prog_15_method_15_code 420 = .ok (.if_icmp .le 40, 3) := by decide +kernel
theorem d13_460 : decode prog_15_method_15_code 460 = .ok (.iinc 14 1, 3) := by decide +kernel
theorem d13_463 : decode prog_15_method_15_code 463 = .ok (.goto (-378), 3) := by decide +kernel
theorem d13_466 : decode prog_15_method_15_code 466 = .ok (.new 8, 3) := by decide +kernel
theorem w89 {Z : State} {a0 : Array Value} (hw : ∀ d ∈ tables_1, d.before a0 Z = true) : (Jvm.Cond.classLink cn0 (8 : Nat) cn0).before a0 Z = true := hw _ (List.mem_of_getElem? (i := 89) rfl)
theorem w90 {Z : State} {a0 : Array Value} (hw : ∀ d ∈ tables_1, d.before a0 Z = true) : (Jvm.Cond.instantiable cn0 (7 : Nat)).before a0 Z = true := hw _ (List.mem_of_getElem? (i := 90) rfl)
theorem w103 {Z : State} {a0 : Array Value} (hw : ∀ d ∈ tables_1, d.before a0 Z = true) : (Jvm.Cond.laysFinal cn0 cn0 "order" "[I").before a0 Z = true := hw _ (List.mem_of_getElem? (i := 103) rfl)
theorem w105 {Z : State} {a0 : Array Value} (hw : ∀ d ∈ tables_1, d.before a0 Z = true) : (Jvm.Cond.laysFinal cn0 cn0 "step" "[I").before a0 Z = true := hw _ (List.mem_of_getElem? (i := 105) rfl)
theorem w107 {Z : State} {a0 : Array Value} (hw : ∀ d ∈ tables_1, d.before a0 Z = true) : (Jvm.Cond.laysFinal cn0 cn0 "count" "I").before a0 Z = true := hw _ (List.mem_of_getElem? (i := 107) rfl)
theorem w109 {Z : State} {a0 : Array Value} (hw : ∀ d ∈ tables_1, d.before a0 Z = true) : (Jvm.Cond.laysFinal cn0 cn0 "first" "[I").before a0 Z = true := hw _ (List.mem_of_getElem? (i := 109) rfl)
theorem w111 {Z : State} {a0 : Array Value} (hw : ∀ d ∈ tables_1, d.before a0 Z = true) : (Jvm.Cond.laysFinal cn0 cn0 "frontStart" "[I").before a0 Z = true := hw _ (List.mem_of_getElem? (i := 111) rfl)
theorem w113 {Z : State} {a0 : Array Value} (hw : ∀ d ∈ tables_1, d.before a0 Z = true) : (Jvm.Cond.laysFinal cn0 cn0 "front" "[I").before a0 Z = true := hw _ (List.mem_of_getElem? (i := 113) rfl)
theorem w115 {Z : State} {a0 : Array Value} (hw : ∀ d ∈ tables_1, d.before a0 Z = true) : (Jvm.Cond.laysFinal cn0 cn0 "parent" "[I").before a0 Z = true := hw _ (List.mem_of_getElem? (i := 115) rfl)
theorem d13_469 : decode prog_15_method_15_code 469 = .ok (.dup, 1) := by decide +kernel
theorem d13_470 : decode prog_15_method_15_code 470 = .ok (.aload_n 1, 1) := by decide +kernel
theorem d13_471 : decode prog_15_method_15_code 471 = .ok (.aload_n 2, 1) := by decide +kernel
theorem d13_472 : decode prog_15_method_15_code 472 = .ok (.aload_n 3, 1) := by decide +kernel
theorem d13_473 : decode prog_15_method_15_code 473 = .ok (.aload 6, 2) := by decide +kernel
theorem d13_475 : decode prog_15_method_15_code 475 = .ok (.aload 7, 2) := by decide +kernel
theorem d13_477 : decode prog_15_method_15_code 477 = .ok (.iload 13, 2) := by decide +kernel
theorem d13_479 : decode prog_15_method_15_code 479 = .ok (.invokestatic 84, 3) := by decide +kernel
theorem d11_14 : decode jdk_65_method_123_code 14 = .ok (.iload_n 1, 1) := by decide +kernel
theorem d11_15 : decode jdk_65_method_123_code 15 = .ok (.newarray .int, 2) := by decide +kernel
theorem d11_17 : decode jdk_65_method_123_code 17 = .ok (.astore_n 2, 1) := by decide +kernel
theorem d11_18 : decode jdk_65_method_123_code 18 = .ok (.aload_n 0, 1) := by decide +kernel
theorem d11_19 : decode jdk_65_method_123_code 19 = .ok (.iconst 0, 1) := by decide +kernel
theorem d11_20 : decode jdk_65_method_123_code 20 = .ok (.aload_n 2, 1) := by decide +kernel
theorem d11_21 : decode jdk_65_method_123_code 21 = .ok (.iconst 0, 1) := by decide +kernel
theorem d11_22 : decode jdk_65_method_123_code 22 = .ok (.aload_n 0, 1) := by decide +kernel
theorem d11_23 : decode jdk_65_method_123_code 23 = .ok (.arraylength, 1) := by decide +kernel
theorem d11_24 : decode jdk_65_method_123_code 24 = .ok (.iload_n 1, 1) := by decide +kernel
theorem d11_25 : decode jdk_65_method_123_code 25 = .ok (.invokestatic 304, 3) := by decide +kernel
theorem w91 {Z : State} {a0 : Array Value} (hw : ∀ d ∈ tables_1, d.before a0 Z = true) : (Jvm.Cond.methodLink cn2 (304 : Nat) ({ cls := "java/lang/Math", name := "min", desc := "(II)I" } : Jvm.MethodName)).before a0 Z = true := hw _ (List.mem_of_getElem? (i := 91) rfl)
theorem d22_0 : decode jdk_29_method_69_code 0 = .ok (.iload_n 0, 1) := by decide +kernel
theorem d22_1 : decode jdk_29_method_69_code 1 = .ok (.iload_n 1, 1) := by decide +kernel
theorem d22_2 : decode jdk_29_method_69_code 2 = .ok (.if_icmp .gt 7, 3) := by decide +kernel
theorem d22_9 : decode jdk_29_method_69_code 9 = .ok (.iload_n 1, 1) := by decide +kernel
theorem d22_10 : decode jdk_29_method_69_code 10 = .ok (.ireturn, 1) := by decide +kernel
def Q_r23_min (Z : State)  (h0 : Heap) (n0 : Nat) (v : Option Value) (h : Heap) (L : List Loc) : Prop := Fr n0 L ∧ h = h0 ∧ ((v = some (.int (1 : Int32))))
set_option maxRecDepth 65536 in
set_option maxHeartbeats 40000000 in
theorem r23_min (l : Launch) (Z : State) (a0 : Array Value) (hw : ∀ d ∈ tables_1, d.before a0 Z = true) (ws : List Jvm.Cond)  (h0 : Heap) (n0 : Nat) (O0 : Old Z n0 h0) :
    MetFree l (⟨"java/lang/Math", "min", "(II)I"⟩ : MethodName) (head1 (Jvm.Cond.code (⟨"java/lang/Math", "min", "(II)I"⟩ : MethodName) jdk_29_method_69_code 2 (some .int) :: ws) ({ frames := 0, cells := 0, slots := 0, locals := 0 } : Room)) (fun a U => a = #[(.int (16 : Int32)), (.int (1 : Int32))] ∧ Z.Warmed39 U.vm ∧ U.heap = h0) (fun _ _ _ _ _ => True) (fun _ U o U' => ∃ v L, o = .returned v ∧ Q_r23_min Z  h0 n0 v U'.heap L ∧ FrameEnd U o U' L ({ frames := 0, cells := 0, slots := 0, locals := 0 } : Room).cells ({ frames := 0, cells := 0, slots := 0, locals := 0 } : Room).slots) := by
  refine MetFree.of_bodySF (Jvm.Free.JP.mathPlain rfl (by decide +kernel)) hisR ?_
  intro p e s m args below meth c s₁ Bd hml0 hP hK
  obtain ⟨rfl, hZ, hh⟩ := hP
  have hx := Bd.exec
  have hby := Bd.bytes
  have hlk := Bd.notSynchronized
  have hml : c.maxLocals = 2 := hml0
  have hown : s.vm.findClass "java/lang/Math" = some m.cls := findClass_of_methodNamed Bd.named
  have hnm := (name_of_methodNamed Bd.named Bd.method).1
  have X0 : Stand p l e ({ frames := 0, cells := 0, slots := 0, locals := 0 } : Room) s m #[(.int (16 : Int32)), (.int (1 : Int32))] below meth c s₁ [] 0 0 := Stand.of_body Bd
  have e0 : s₁.heap = h0 := by rw [← hh, Bd.state]; rfl
  have N0 := Fr.nil n0
  have K0 := Keep.refl h0 []
  have Z0 : n0 ≤ h0.size := O0.1 ▸ O0.2.1
  have hef : entryFrame m #[(.int (16 : Int32)), (.int (1 : Int32))] 2 = mkF m 0 #[.val (.int (16 : Int32)), .val (.int (1 : Int32))] [] := by first | (simp [entryFrame, mkF, argsToLocals, Value.category]; done) | rfl
  rw [hef]
  refine Gets.out (Q := Q_r23_min Z  h0 n0) ?_
  show Gets p e below _ (s₁.setTop (mkF m 0 #[.val (.int (16 : Int32)), .val (.int (1 : Int32))] []))
  refine Gets.of (fun t k => XS.iloadN X0.here hx rfl (hb hby d22_0) rfl  k) ?_
  refine Gets.of (fun t k => XS.iloadN X0.here hx rfl (hb hby d22_1) rfl  k) ?_
  refine Gets.of (fun t k => XS.icmpYes X0.here hx rfl (pc0 := 2) (pc' := 9) rfl (hb hby d22_2) rfl (tlt (by decide : (1 : Int32) < (16 : Int32))).2.2.1 (by decide) (by decide) k) ?_
  show Gets p e below _ (s₁.setTop (mkF m 9 #[.val (.int (16 : Int32)), .val (.int (1 : Int32))] []))
  refine Gets.of (fun t k => XS.iloadN X0.here hx rfl (hb hby d22_9) rfl  k) ?_
  refine Gets.retI X0 hx Bd.returns (hb hby d22_10) ?_ (by decide) (by decide)
  rw [e0]
  exact ⟨N0, rfl, rfl⟩
theorem w93 {Z : State} {a0 : Array Value} (hw : ∀ d ∈ tables_1, d.before a0 Z = true) : (Jvm.Cond.code ({ cls := "java/lang/Math", name := "min", desc := "(II)I" } : Jvm.MethodName) jdk_29_method_69_code (2 : Nat) (Option.some Jvm.ClassFile.FieldType.int)).before a0 Z = true := hw _ (List.mem_of_getElem? (i := 93) rfl)
theorem w92 {Z : State} {a0 : Array Value} (hw : ∀ d ∈ tables_1, d.before a0 Z = true) : (Jvm.Cond.static ({ cls := "java/lang/Math", name := "min", desc := "(II)I" } : Jvm.MethodName)).before a0 Z = true := hw _ (List.mem_of_getElem? (i := 92) rfl)
theorem d11_28 : decode jdk_65_method_123_code 28 = .ok (.invokestatic 150, 3) := by decide +kernel
theorem w94 {Z : State} {a0 : Array Value} (hw : ∀ d ∈ tables_1, d.before a0 Z = true) : (Jvm.Cond.methodLink cn2 (150 : Nat) ({ cls := "java/lang/System", name := "arraycopy", desc := "(Ljava/lang/Object;ILjava/lang/Object;II)V" } : Jvm.MethodName)).before a0 Z = true := hw _ (List.mem_of_getElem? (i := 94) rfl)
theorem w97 {Z : State} {a0 : Array Value} (hw : ∀ d ∈ tables_1, d.before a0 Z = true) : (Jvm.Cond.native ({ cls := "java/lang/System", name := "arraycopy", desc := "(Ljava/lang/Object;ILjava/lang/Object;II)V" } : Jvm.MethodName)).before a0 Z = true := hw _ (List.mem_of_getElem? (i := 97) rfl)
theorem w95 {Z : State} {a0 : Array Value} (hw : ∀ d ∈ tables_1, d.before a0 Z = true) : (Jvm.Cond.static ({ cls := "java/lang/System", name := "arraycopy", desc := "(Ljava/lang/Object;ILjava/lang/Object;II)V" } : Jvm.MethodName)).before a0 Z = true := hw _ (List.mem_of_getElem? (i := 95) rfl)
theorem w96 {Z : State} {a0 : Array Value} (hw : ∀ d ∈ tables_1, d.before a0 Z = true) : (Jvm.Cond.initialized "java/lang/System").before a0 Z = true := hw _ (List.mem_of_getElem? (i := 96) rfl)
theorem d11_31 : decode jdk_65_method_123_code 31 = .ok (.aload_n 2, 1) := by decide +kernel
theorem d11_32 : decode jdk_65_method_123_code 32 = .ok (.areturn, 1) := by decide +kernel
def Q_r22_copyOf (Z : State) (ya1 : Addr) (yk2 : ClassId) (h0 : Heap) (n0 : Nat) (v : Option Value) (h : Heap) (L : List Loc) : Prop := Fr n0 L ∧ Keep h0 h [] ∧ ((∃ (b2 : Addr) (k2 : ClassId), v = some (.ref b2) ∧ h0.size ≤ b2 ∧ Arv Z h b2 k2 .int (1 : Int32) [(.int (0 : Int32))] (.int (0 : Int32)) ∧ Exa Z h b2 "[I"))
set_option maxRecDepth 65536 in
set_option maxHeartbeats 40000000 in
theorem r22_copyOf (l : Launch) (Z : State) (a0 : Array Value) (hw : ∀ d ∈ tables_1, d.before a0 Z = true) (ws : List Jvm.Cond) (ya1 : Addr) (yk2 : ClassId) (h0 : Heap) (n0 : Nat) (O0 : Old Z n0 h0) (F0 : Arv Z h0 ya1 yk2 .int (16 : Int32) [(.int (0 : Int32)), (.int (0 : Int32)), (.int (0 : Int32)), (.int (0 : Int32)), (.int (0 : Int32)), (.int (0 : Int32)), (.int (0 : Int32)), (.int (0 : Int32)), (.int (0 : Int32)), (.int (0 : Int32)), (.int (0 : Int32)), (.int (0 : Int32)), (.int (0 : Int32)), (.int (0 : Int32)), (.int (0 : Int32)), (.int (0 : Int32))] (.int (0 : Int32))) :
    MetFree l (⟨cn2, "copyOf", "([II)[I"⟩ : MethodName) (head1 (Jvm.Cond.code (⟨cn2, "copyOf", "([II)[I"⟩ : MethodName) jdk_65_method_123_code 3 (some (.array .int)) :: ws) ({ frames := 1, cells := 1, slots := 1, locals := 18 } : Room)) (fun a U => a = #[(.ref ya1), (.int (1 : Int32))] ∧ Z.Warmed39 U.vm ∧ U.heap = h0) (fun _ _ _ _ _ => True) (fun _ U o U' => ∃ v L, o = .returned v ∧ Q_r22_copyOf Z ya1 yk2 h0 n0 v U'.heap L ∧ FrameEnd U o U' L ({ frames := 1, cells := 1, slots := 1, locals := 18 } : Room).cells ({ frames := 1, cells := 1, slots := 1, locals := 18 } : Room).slots) := by
  refine MetFree.of_bodySF (plainFor_of_name pn_java_util_Arrays) hisR ?_
  intro p e s m args below meth c s₁ Bd hml0 hP hK
  obtain ⟨rfl, hZ, hh⟩ := hP
  have hx := Bd.exec
  have hby := Bd.bytes
  have hlk := Bd.notSynchronized
  have hml : c.maxLocals = 3 := hml0
  have hown : s.vm.findClass cn2 = some m.cls := findClass_of_methodNamed Bd.named
  have hnm := (name_of_methodNamed Bd.named Bd.method).1
  have X0 : Stand p l e ({ frames := 1, cells := 1, slots := 1, locals := 18 } : Room) s m #[(.ref ya1), (.int (1 : Int32))] below meth c s₁ [] 0 0 := Stand.of_body Bd
  have e0 : s₁.heap = h0 := by rw [← hh, Bd.state]; rfl
  have N0 := Fr.nil n0
  have K0 := Keep.refl h0 []
  have Z0 : n0 ≤ h0.size := O0.1 ▸ O0.2.1
  have hef : entryFrame m #[(.ref ya1), (.int (1 : Int32))] 3 = mkF m 0 #[.val (.ref ya1), .val (.int (1 : Int32)), .unset] [] := by first | (simp [entryFrame, mkF, argsToLocals, Value.category]; done) | rfl
  rw [hef]
  refine Gets.out (Q := Q_r22_copyOf Z ya1 yk2 h0 n0) ?_
  show Gets p e below _ (s₁.setTop (mkF m 0 #[.val (.ref ya1), .val (.int (1 : Int32)), .unset] []))
  refine Gets.of (fun t k => XS.iloadN X0.here hx rfl (hb hby d11_0) rfl  k) ?_
  refine Gets.of (fun t k => XS.aloadN X0.here hx rfl (hb hby d11_1) rfl rfl  k) ?_
  obtain ⟨cl1, Ar1, -, S1, N_1, -, -⟩ := id (F0)
  refine Gets.of (X0.arraylength hx (by rw [e0]; exact Ar1.1) (State.isArrayOf_alike hZ.alike Ar1.2.1) (g := (mkF m 2 #[.val (.ref ya1), .val (.int (1 : Int32)), .unset] [(.ref ya1), (.int (1 : Int32))])) rfl rfl (hb hby d11_2)) ?_
  rw [len_of S1 N_1]
  show Gets p e below _ (s₁.setTop (mkF m 3 #[.val (.ref ya1), .val (.int (1 : Int32)), .unset] [(.int (16 : Int32)), (.int (1 : Int32))]))
  refine Gets.of (fun t k => XS.icmpYes X0.here hx rfl (pc0 := 3) (pc' := 14) rfl (hb hby d11_3) rfl (feq (by decide : ¬ ((1 : Int32) = (16 : Int32)))).2 (by decide) (by decide) k) ?_
  show Gets p e below _ (s₁.setTop (mkF m 14 #[.val (.ref ya1), .val (.int (1 : Int32)), .unset] []))
  refine Gets.of (fun t k => XS.iloadN X0.here hx rfl (hb hby d11_14) rfl  k) ?_
  obtain ⟨T2, h2, k2, X2, e2, E2, A2, Ex2, st2⟩ := newPE X0 hx hZ (aty := .int) (w3 hw) e0 (g := (mkF m 15 #[.val (.ref ya1), .val (.int (1 : Int32)), .unset] [(.int (1 : Int32))])) rfl (hb hby d11_15) rfl (by decide) (cap := 1) (by decide) (by decide) (by decide) (by decide) (ad := "[I") rfl
  obtain ⟨b2, g2⟩ : ∃ z, z = h0.size := ⟨_, rfl⟩
  rw [← g2] at A2 Ex2 st2
  have sz_b2 : h0.size ≤ b2 := Nat.le_trans K0.1 (Nat.le_of_eq g2.symm)
  have g_b2 : n0 ≤ b2 := Nat.le_trans Z0 sz_b2
  have K3 := K0.ext E2
  have O3 := O0.ext E2
  have V2 : Arv Z h2 b2 k2 .int (1 : Int32) [(.int (0 : Int32))] (.int (0 : Int32)) := (Arv.new A2 (by decide)).pad (pad_rep [] (.int (0 : Int32)) 1)
  refine Gets.of st2 ?_
  show Gets p e below _ (T2.setTop (mkF m 17 #[.val (.ref ya1), .val (.int (1 : Int32)), .unset] [(.ref b2)]))
  refine Gets.of (fun t k => XS.astoreN X2.here hx rfl (hb hby d11_17) rfl rfl (l' := #[.val (.ref ya1), .val (.int (1 : Int32)), .val (.ref b2)]) rfl k) ?_
  show Gets p e below _ (T2.setTop (mkF m 18 #[.val (.ref ya1), .val (.int (1 : Int32)), .val (.ref b2)] []))
  refine Gets.of (fun t k => XS.aloadN X2.here hx rfl (hb hby d11_18) rfl rfl  k) ?_
  refine Gets.of (fun t k => XS.iconst X2.here hx rfl (hb hby d11_19) k) ?_
  refine Gets.of (fun t k => XS.aloadN X2.here hx rfl (hb hby d11_20) rfl rfl  k) ?_
  refine Gets.of (fun t k => XS.iconst X2.here hx rfl (hb hby d11_21) k) ?_
  show Gets p e below _ (T2.setTop (mkF m 22 #[.val (.ref ya1), .val (.int (1 : Int32)), .val (.ref b2)] [(.int (0 : Int32)), (.ref b2), (.int (0 : Int32)), (.ref ya1)]))
  refine Gets.of (fun t k => XS.aloadN X2.here hx rfl (hb hby d11_22) rfl rfl  k) ?_
  have f4 : Arv Z h2 ya1 yk2 .int (16 : Int32) [(.int (0 : Int32)), (.int (0 : Int32)), (.int (0 : Int32)), (.int (0 : Int32)), (.int (0 : Int32)), (.int (0 : Int32)), (.int (0 : Int32)), (.int (0 : Int32)), (.int (0 : Int32)), (.int (0 : Int32)), (.int (0 : Int32)), (.int (0 : Int32)), (.int (0 : Int32)), (.int (0 : Int32)), (.int (0 : Int32)), (.int (0 : Int32))] (.int (0 : Int32)) := (F0.ext E2)
  obtain ⟨cl5, Ar5, -, S5, N_5, -, -⟩ := id (f4)
  refine Gets.of (X2.arraylength hx (by rw [e2]; exact Ar5.1) (State.isArrayOf_alike hZ.alike Ar5.2.1) (g := (mkF m 23 #[.val (.ref ya1), .val (.int (1 : Int32)), .val (.ref b2)] [(.ref ya1), (.int (0 : Int32)), (.ref b2), (.int (0 : Int32)), (.ref ya1)])) rfl rfl (hb hby d11_23)) ?_
  rw [len_of S5 N_5]
  show Gets p e below _ (T2.setTop (mkF m 24 #[.val (.ref ya1), .val (.int (1 : Int32)), .val (.ref b2)] [(.int (16 : Int32)), (.int (0 : Int32)), (.ref b2), (.int (0 : Int32)), (.ref ya1)]))
  refine Gets.of (fun t k => XS.iloadN X2.here hx rfl (hb hby d11_24) rfl  k) ?_
  obtain ⟨_, _, ⟨T6, L6, k6, n6⟩, -, X6, ⟨Lc6, hQ6, l6, y6, z6⟩, st6⟩ := Jvm.LawKit.callS X2 hx (y := (⟨"java/lang/Math", "min", "(II)I"⟩ : MethodName)) hown (mvT hZ (w91 hw)) (mvT hZ (w92 hw)) (mvT hZ (w63 hw)) (mvT hZ (w93 hw)) (by decide) (backOf (W := 4) (r23_min l Z a0 hw []  h2 n0 O3) hZ (w93 hw) (w63 hw) (by decide) (by decide)) (g := (mkF m 25 #[.val (.ref ya1), .val (.int (1 : Int32)), .val (.ref b2)] [(.int (1 : Int32)), (.int (16 : Int32)), (.int (0 : Int32)), (.ref b2), (.int (0 : Int32)), (.ref ya1)])) rfl (by rw [hml]; rfl) (argsL := [(.int (16 : Int32)), (.int (1 : Int32))]) (rest := [(.int (0 : Int32)), (.ref b2), (.int (0 : Int32)), (.ref ya1)]) (lenOf pd__II_I_509 rfl) rfl (by show 2 * 0 + _ ≤ _; exact Nat.le_of_eq rfl) (hb hby d11_25) (fun _ _ => ⟨rfl, e2, (by decide : 1 + 0 ≤ _), (by decide : 1 + 0 ≤ _)⟩)
  dsimp only [Pt.U, Pt.locs, Pt.cells, Pt.slots] at X6 l6 y6 z6 st6 hQ6
  subst l6 y6 z6
  obtain ⟨Nq6, eq6, hR6⟩ := hQ6
  have N6 := Fr.app N0 Nq6
  obtain rfl := hR6
  refine Gets.of st6 ?_
  show Gets p e below _ (T6.setTop (mkF m 28 #[.val (.ref ya1), .val (.int (1 : Int32)), .val (.ref b2)] [(.int (1 : Int32)), (.int (0 : Int32)), (.ref b2), (.int (0 : Int32)), (.ref ya1)]))
  obtain ⟨T7, h7, L7, X7, e7, N7, Kq7, V7, st7⟩ := cpA X6 hx hZ hown (w94 hw) (w97 hw) (w95 hw) (w96 hw) eq6 (us := [(.int (0 : Int32))]) f4 V2 (Or.inl ⟨rfl, rfl⟩) (by decide) (by decide) (by decide) (by decide) (by decide) rfl (by decide) N6 g_b2 (g := (mkF m 28 #[.val (.ref ya1), .val (.int (1 : Int32)), .val (.ref b2)] [(.int (1 : Int32)), (.int (0 : Int32)), (.ref b2), (.int (0 : Int32)), (.ref ya1)])) rfl (by rw [hml]; rfl) rfl (hb hby d11_28) (by decide) (W := 0) (by show 2 * 0 + _ ≤ _; exact Nat.le_of_eq rfl) (by decide)
  have Vn7 : Arv Z h7 b2 k2 .int (1 : Int32) [(.int (0 : Int32))] (.int (0 : Int32)) := V7
  have K8 : Keep h0 _ [] := K3.trans Kq7 (allS (Or.inr sz_b2) all0)
  have O8 := O3.keep Kq7 (allS g_b2 all0)
  refine Gets.of st7 ?_
  show Gets p e below _ (T7.setTop (mkF m 31 #[.val (.ref ya1), .val (.int (1 : Int32)), .val (.ref b2)] []))
  refine Gets.of (fun t k => XS.aloadN X7.here hx rfl (hb hby d11_31) rfl rfl  k) ?_
  refine Gets.retA X7 hx Bd.returns rfl rfl (hb hby d11_32) ?_ (by decide) (by decide)
  rw [e7]
  have f9 : Exa Z h7 b2 "[I" := (Ex2.keep Kq7)
  exact ⟨N7, K8, ⟨b2, k2, rfl, sz_b2, Vn7, f9⟩⟩
theorem d13_482 : decode prog_15_method_15_code 482 = .ok (.aload 10, 2) := by decide +kernel
theorem d13_484 : decode prog_15_method_15_code 484 = .ok (.invokespecial 65, 3) := by decide +kernel
theorem w98 {Z : State} {a0 : Array Value} (hw : ∀ d ∈ tables_1, d.before a0 Z = true) : (Jvm.Cond.methodLink cn0 (65 : Nat) ({ cls := cn0, name := "<init>", desc := "([I[I[I[I[I[I)V" } : Jvm.MethodName)).before a0 Z = true := hw _ (List.mem_of_getElem? (i := 98) rfl)
theorem d23_0 : decode prog_15_method_1_code 0 = .ok (.aload_n 0, 1) := by decide +kernel
theorem d23_1 : decode prog_15_method_1_code 1 = .ok (.invokespecial 1, 3) := by decide +kernel
theorem w101 {Z : State} {a0 : Array Value} (hw : ∀ d ∈ tables_1, d.before a0 Z = true) : (Jvm.Cond.methodLink cn0 (1 : Nat) ({ cls := "java/lang/Object", name := "<init>", desc := "()V" } : Jvm.MethodName)).before a0 Z = true := hw _ (List.mem_of_getElem? (i := 101) rfl)
theorem d23_4 : decode prog_15_method_1_code 4 = .ok (.aload_n 0, 1) := by decide +kernel
theorem d23_5 : decode prog_15_method_1_code 5 = .ok (.aload_n 1, 1) := by decide +kernel
theorem d23_6 : decode prog_15_method_1_code 6 = .ok (.putfield 7, 3) := by decide +kernel
theorem w102 {Z : State} {a0 : Array Value} (hw : ∀ d ∈ tables_1, d.before a0 Z = true) : (Jvm.Cond.fieldLink cn0 (7 : Nat) cn0 "order" "[I").before a0 Z = true := hw _ (List.mem_of_getElem? (i := 102) rfl)
theorem d23_9 : decode prog_15_method_1_code 9 = .ok (.aload_n 0, 1) := by decide +kernel
theorem d23_10 : decode prog_15_method_1_code 10 = .ok (.aload_n 2, 1) := by decide +kernel
theorem d23_11 : decode prog_15_method_1_code 11 = .ok (.putfield 13, 3) := by decide +kernel
theorem w104 {Z : State} {a0 : Array Value} (hw : ∀ d ∈ tables_1, d.before a0 Z = true) : (Jvm.Cond.fieldLink cn0 (13 : Nat) cn0 "step" "[I").before a0 Z = true := hw _ (List.mem_of_getElem? (i := 104) rfl)
theorem d23_14 : decode prog_15_method_1_code 14 = .ok (.aload_n 0, 1) := by decide +kernel
theorem d23_15 : decode prog_15_method_1_code 15 = .ok (.aload_n 3, 1) := by decide +kernel
theorem d23_16 : decode prog_15_method_1_code 16 = .ok (.arraylength, 1) := by decide +kernel
theorem d23_17 : decode prog_15_method_1_code 17 = .ok (.iconst 1, 1) := by decide +kernel
theorem d23_18 : decode prog_15_method_1_code 18 = .ok (.isub, 1) := by decide +kernel
theorem d23_19 : decode prog_15_method_1_code 19 = .ok (.putfield 16, 3) := by decide +kernel
theorem w106 {Z : State} {a0 : Array Value} (hw : ∀ d ∈ tables_1, d.before a0 Z = true) : (Jvm.Cond.fieldLink cn0 (16 : Nat) cn0 "count" "I").before a0 Z = true := hw _ (List.mem_of_getElem? (i := 106) rfl)
theorem d23_22 : decode prog_15_method_1_code 22 = .ok (.aload_n 0, 1) := by decide +kernel
theorem d23_23 : decode prog_15_method_1_code 23 = .ok (.aload_n 3, 1) := by decide +kernel
theorem d23_24 : decode prog_15_method_1_code 24 = .ok (.putfield 20, 3) := by decide +kernel
theorem w108 {Z : State} {a0 : Array Value} (hw : ∀ d ∈ tables_1, d.before a0 Z = true) : (Jvm.Cond.fieldLink cn0 (20 : Nat) cn0 "first" "[I").before a0 Z = true := hw _ (List.mem_of_getElem? (i := 108) rfl)
theorem d23_27 : decode prog_15_method_1_code 27 = .ok (.aload_n 0, 1) := by decide +kernel
theorem d23_28 : decode prog_15_method_1_code 28 = .ok (.aload 4, 2) := by decide +kernel
theorem d23_30 : decode prog_15_method_1_code 30 = .ok (.putfield 23, 3) := by decide +kernel
theorem w110 {Z : State} {a0 : Array Value} (hw : ∀ d ∈ tables_1, d.before a0 Z = true) : (Jvm.Cond.fieldLink cn0 (23 : Nat) cn0 "frontStart" "[I").before a0 Z = true := hw _ (List.mem_of_getElem? (i := 110) rfl)
theorem d23_33 : decode prog_15_method_1_code 33 = .ok (.aload_n 0, 1) := by decide +kernel
theorem d23_34 : decode prog_15_method_1_code 34 = .ok (.aload 5, 2) := by decide +kernel
theorem d23_36 : decode prog_15_method_1_code 36 = .ok (.putfield 26, 3) := by decide +kernel
theorem w112 {Z : State} {a0 : Array Value} (hw : ∀ d ∈ tables_1, d.before a0 Z = true) : (Jvm.Cond.fieldLink cn0 (26 : Nat) cn0 "front" "[I").before a0 Z = true := hw _ (List.mem_of_getElem? (i := 112) rfl)
theorem d23_39 : decode prog_15_method_1_code 39 = .ok (.aload_n 0, 1) := by decide +kernel
theorem d23_40 : decode prog_15_method_1_code 40 = .ok (.aload 6, 2) := by decide +kernel
theorem d23_42 : decode prog_15_method_1_code 42 = .ok (.putfield 29, 3) := by decide +kernel
theorem w114 {Z : State} {a0 : Array Value} (hw : ∀ d ∈ tables_1, d.before a0 Z = true) : (Jvm.Cond.fieldLink cn0 (29 : Nat) cn0 "parent" "[I").before a0 Z = true := hw _ (List.mem_of_getElem? (i := 114) rfl)
theorem d23_45 : decode prog_15_method_1_code 45 = .ok (.return_, 1) := by decide +kernel
def Q_r24_init (Z : State) (ya1 : Addr) (ya2 : Addr) (ya3 : Addr) (ya4 : Addr) (ya5 : Addr) (ya6 : Addr) (ya7 : Addr) (yk10 : ClassId) (h0 : Heap) (n0 : Nat) (v : Option Value) (h : Heap) (L : List Loc) : Prop := Fr n0 L ∧ Keep h0 h [ya1] ∧ ((v = none ∧ Fld Z h ya1 cn0 "order" "[I" (.ref ya2) ∧ Fld Z h ya1 cn0 "step" "[I" (.ref ya3) ∧ Fld Z h ya1 cn0 "count" "I" (.int (1 : Int32)) ∧ Fld Z h ya1 cn0 "first" "[I" (.ref ya4) ∧ Fld Z h ya1 cn0 "frontStart" "[I" (.ref ya5) ∧ Fld Z h ya1 cn0 "front" "[I" (.ref ya6) ∧ Fld Z h ya1 cn0 "parent" "[I" (.ref ya7)))
set_option maxRecDepth 65536 in
set_option maxHeartbeats 40000000 in
theorem r24_init (l : Launch) (Z : State) (a0 : Array Value) (hw : ∀ d ∈ tables_1, d.before a0 Z = true) (ws : List Jvm.Cond) (ya1 : Addr) (ya2 : Addr) (ya3 : Addr) (ya4 : Addr) (ya5 : Addr) (ya6 : Addr) (ya7 : Addr) (yk10 : ClassId) (h0 : Heap) (n0 : Nat) (O0 : Old Z n0 h0) (F0 : Exa Z h0 ya1 cn0) (F1 : Fld Z h0 ya1 cn0 "order" "[I" .null) (F2 : Fld Z h0 ya1 cn0 "step" "[I" .null) (F3 : Arv Z h0 ya4 yk10 .int (2 : Int32) [(.int (0 : Int32)), (.int (1 : Int32))] (.int (0 : Int32))) (F4 : Exa Z h0 ya4 "[I") (F5 : Fld Z h0 ya1 cn0 "count" "I" (.int (0 : Int32))) (F6 : Fld Z h0 ya1 cn0 "first" "[I" .null) (F7 : Fld Z h0 ya1 cn0 "frontStart" "[I" .null) (F8 : Fld Z h0 ya1 cn0 "front" "[I" .null) (F9 : Fld Z h0 ya1 cn0 "parent" "[I" .null) (gq_ya1 : n0 ≤ ya1) :
    MetFree l (⟨cn0, "<init>", "([I[I[I[I[I[I)V"⟩ : MethodName) (head1 (Jvm.Cond.code (⟨cn0, "<init>", "([I[I[I[I[I[I)V"⟩ : MethodName) prog_15_method_1_code 7 none :: ws) ({ frames := 1, cells := 0, slots := 0, locals := 12 } : Room)) (fun a U => a = #[(.ref ya1), (.ref ya2), (.ref ya3), (.ref ya4), (.ref ya5), (.ref ya6), (.ref ya7)] ∧ Z.Warmed39 U.vm ∧ U.heap = h0) (fun _ _ _ _ _ => True) (fun _ U o U' => ∃ v L, o = .returned v ∧ Q_r24_init Z ya1 ya2 ya3 ya4 ya5 ya6 ya7 yk10 h0 n0 v U'.heap L ∧ FrameEnd U o U' L ({ frames := 1, cells := 0, slots := 0, locals := 12 } : Room).cells ({ frames := 1, cells := 0, slots := 0, locals := 12 } : Room).slots) := by
  refine MetFree.of_bodySF (plainFor_of_name pn_com_example_unea_unea_analysis_Supernodes) hisR ?_
  intro p e s m args below meth c s₁ Bd hml0 hP hK
  obtain ⟨rfl, hZ, hh⟩ := hP
  have hx := Bd.exec
  have hby := Bd.bytes
  have hlk := Bd.notSynchronized
  have hml : c.maxLocals = 7 := hml0
  have hown : s.vm.findClass cn0 = some m.cls := findClass_of_methodNamed Bd.named
  have hnm := (name_of_methodNamed Bd.named Bd.method).1
  have X0 : Stand p l e ({ frames := 1, cells := 0, slots := 0, locals := 12 } : Room) s m #[(.ref ya1), (.ref ya2), (.ref ya3), (.ref ya4), (.ref ya5), (.ref ya6), (.ref ya7)] below meth c s₁ [] 0 0 := Stand.of_body Bd
  have e0 : s₁.heap = h0 := by rw [← hh, Bd.state]; rfl
  have N0 := Fr.nil n0
  have K0 := Keep.refl h0 [ya1]
  have Z0 : n0 ≤ h0.size := O0.1 ▸ O0.2.1
  have hef : entryFrame m #[(.ref ya1), (.ref ya2), (.ref ya3), (.ref ya4), (.ref ya5), (.ref ya6), (.ref ya7)] 7 = mkF m 0 #[.val (.ref ya1), .val (.ref ya2), .val (.ref ya3), .val (.ref ya4), .val (.ref ya5), .val (.ref ya6), .val (.ref ya7)] [] := by first | (simp [entryFrame, mkF, argsToLocals, Value.category]; done) | rfl
  rw [hef]
  refine Gets.out (Q := Q_r24_init Z ya1 ya2 ya3 ya4 ya5 ya6 ya7 yk10 h0 n0) ?_
  show Gets p e below _ (s₁.setTop (mkF m 0 #[.val (.ref ya1), .val (.ref ya2), .val (.ref ya3), .val (.ref ya4), .val (.ref ya5), .val (.ref ya6), .val (.ref ya7)] []))
  refine Gets.of (fun t k => XS.aloadN X0.here hx rfl (hb hby d23_0) rfl rfl  k) ?_
  obtain ⟨T1, X1, e1, st1⟩ := initO X0 hx hZ hown (w101 hw) (w8 hw) (w9 hw) e0 (g := (mkF m 1 #[.val (.ref ya1), .val (.ref ya2), .val (.ref ya3), .val (.ref ya4), .val (.ref ya5), .val (.ref ya6), .val (.ref ya7)] [(.ref ya1)])) rfl (by rw [hml]; rfl) rfl (hb hby d23_1) (by decide) (W := 0) (by show 2 * 0 + _ ≤ _; exact Nat.le_of_eq rfl) (by decide)
  refine Gets.of st1 ?_
  show Gets p e below _ (T1.setTop (mkF m 4 #[.val (.ref ya1), .val (.ref ya2), .val (.ref ya3), .val (.ref ya4), .val (.ref ya5), .val (.ref ya6), .val (.ref ya7)] []))
  refine Gets.of (fun t k => XS.aloadN X1.here hx rfl (hb hby d23_4) rfl rfl  k) ?_
  refine Gets.of (fun t k => XS.aloadN X1.here hx rfl (hb hby d23_5) rfl rfl  k) ?_
  obtain ⟨T2, h2, X2, e2, W2, st2⟩ := putF X1 hx hZ hown (host := "") (Or.inl (w102 hw)) Via.refl e1 F1 F0 (Or.inr ⟨(w103 hw), rfl, hnm⟩) (w90 hw) (ty := (.array .int)) (by decide) rfl rfl (g := (mkF m 6 #[.val (.ref ya1), .val (.ref ya2), .val (.ref ya3), .val (.ref ya4), .val (.ref ya5), .val (.ref ya6), .val (.ref ya7)] [(.ref ya2), (.ref ya1)])) rfl rfl (hb hby d23_6)
  have N2 := Fr.snoc X2 N0 gq_ya1
  have Fw2 : Fld Z h2 ya1 cn0 "order" "[I" (.ref ya2) := (F1).same W2
  have K3 : Keep h0 _ [ya1] := K0.wr W2 (Or.inl (by simp))
  have O3 := O0.wr W2 gq_ya1
  refine Gets.of st2 ?_
  show Gets p e below _ (T2.setTop (mkF m 9 #[.val (.ref ya1), .val (.ref ya2), .val (.ref ya3), .val (.ref ya4), .val (.ref ya5), .val (.ref ya6), .val (.ref ya7)] []))
  refine Gets.of (fun t k => XS.aloadN X2.here hx rfl (hb hby d23_9) rfl rfl  k) ?_
  refine Gets.of (fun t k => XS.aloadN X2.here hx rfl (hb hby d23_10) rfl rfl  k) ?_
  have f4 : Exa Z h2 ya1 cn0 := (F0.wr W2)
  have f5 : Fld Z h2 ya1 cn0 "step" "[I" .null := (F2.other W2 (Or.inr (slot_ne (Or.inr (w105 hw)) (Or.inr (w103 hw)) (by decide) (t := (.array .int)) (t' := (.array .int)) (by decide) (by decide))))
  obtain ⟨T6, h6, X6, e6, W6, st6⟩ := putF X2 hx hZ hown (host := "") (Or.inl (w104 hw)) Via.refl e2 f5 f4 (Or.inr ⟨(w105 hw), rfl, hnm⟩) (w90 hw) (ty := (.array .int)) (by decide) rfl rfl (g := (mkF m 11 #[.val (.ref ya1), .val (.ref ya2), .val (.ref ya3), .val (.ref ya4), .val (.ref ya5), .val (.ref ya6), .val (.ref ya7)] [(.ref ya3), (.ref ya1)])) rfl rfl (hb hby d23_11)
  have N6 := Fr.snoc X6 N2 gq_ya1
  have Fw6 : Fld Z h6 ya1 cn0 "step" "[I" (.ref ya3) := (f5).same W6
  have K7 : Keep h0 _ [ya1] := K3.wr W6 (Or.inl (by simp))
  have O7 := O3.wr W6 gq_ya1
  refine Gets.of st6 ?_
  show Gets p e below _ (T6.setTop (mkF m 14 #[.val (.ref ya1), .val (.ref ya2), .val (.ref ya3), .val (.ref ya4), .val (.ref ya5), .val (.ref ya6), .val (.ref ya7)] []))
  refine Gets.of (fun t k => XS.aloadN X6.here hx rfl (hb hby d23_14) rfl rfl  k) ?_
  refine Gets.of (fun t k => XS.aloadN X6.here hx rfl (hb hby d23_15) rfl rfl  k) ?_
  have f8 : Exa Z h6 ya4 "[I" := ((F4.wr W2).wr W6)
  have f9 : Exa Z h6 ya1 cn0 := (f4.wr W6)
  have f10 : Arv Z h6 ya4 yk10 .int (2 : Int32) [(.int (0 : Int32)), (.int (1 : Int32))] (.int (0 : Int32)) := ((F3.other W2 (ne_exa f8 f9 (by decide))).other W6 (ne_exa F4 F0 (by decide)))
  obtain ⟨cl11, Ar11, -, S11, N_11, -, -⟩ := id (f10)
  refine Gets.of (X6.arraylength hx (by rw [e6]; exact Ar11.1) (State.isArrayOf_alike hZ.alike Ar11.2.1) (g := (mkF m 16 #[.val (.ref ya1), .val (.ref ya2), .val (.ref ya3), .val (.ref ya4), .val (.ref ya5), .val (.ref ya6), .val (.ref ya7)] [(.ref ya4), (.ref ya1)])) rfl rfl (hb hby d23_16)) ?_
  rw [len_of S11 N_11]
  show Gets p e below _ (T6.setTop (mkF m 17 #[.val (.ref ya1), .val (.ref ya2), .val (.ref ya3), .val (.ref ya4), .val (.ref ya5), .val (.ref ya6), .val (.ref ya7)] [(.int (2 : Int32)), (.ref ya1)]))
  refine Gets.of (fun t k => XS.iconst X6.here hx rfl (hb hby d23_17) k) ?_
  refine Gets.of (fun t k => XS.isub X6.here hx rfl (hb hby d23_18) rfl k) ?_
  show Gets p e below _ (T6.setTop (mkF m 19 #[.val (.ref ya1), .val (.ref ya2), .val (.ref ya3), .val (.ref ya4), .val (.ref ya5), .val (.ref ya6), .val (.ref ya7)] [(.int (1 : Int32)), (.ref ya1)]))
  have f12 : Fld Z h6 ya1 cn0 "count" "I" (.int (0 : Int32)) := ((F5.other W2 (Or.inr (slot_ne (Or.inr (w107 hw)) (Or.inr (w103 hw)) (by decide) (t := .int) (t' := (.array .int)) (by decide) (by decide)))).other W6 (Or.inr (slot_ne (Or.inr (w107 hw)) (Or.inr (w105 hw)) (by decide) (t := .int) (t' := (.array .int)) (by decide) (by decide))))
  obtain ⟨T13, h13, X13, e13, W13, st13⟩ := putF X6 hx hZ hown (host := "") (Or.inl (w106 hw)) Via.refl e6 f12 f9 (Or.inr ⟨(w107 hw), rfl, hnm⟩) (w90 hw) (ty := .int) (by decide) rfl rfl (g := (mkF m 19 #[.val (.ref ya1), .val (.ref ya2), .val (.ref ya3), .val (.ref ya4), .val (.ref ya5), .val (.ref ya6), .val (.ref ya7)] [(.int (1 : Int32)), (.ref ya1)])) rfl rfl (hb hby d23_19)
  have N13 := Fr.snoc X13 N6 gq_ya1
  have Fw13 : Fld Z h13 ya1 cn0 "count" "I" (.int (1 : Int32)) := (f12).same W13
  have K14 : Keep h0 _ [ya1] := K7.wr W13 (Or.inl (by simp))
  have O14 := O7.wr W13 gq_ya1
  refine Gets.of st13 ?_
  show Gets p e below _ (T13.setTop (mkF m 22 #[.val (.ref ya1), .val (.ref ya2), .val (.ref ya3), .val (.ref ya4), .val (.ref ya5), .val (.ref ya6), .val (.ref ya7)] []))
  refine Gets.of (fun t k => XS.aloadN X13.here hx rfl (hb hby d23_22) rfl rfl  k) ?_
  refine Gets.of (fun t k => XS.aloadN X13.here hx rfl (hb hby d23_23) rfl rfl  k) ?_
  have f15 : Exa Z h13 ya1 cn0 := (f9.wr W13)
  have f16 : Fld Z h13 ya1 cn0 "first" "[I" .null := (((F6.other W2 (Or.inr (slot_ne (Or.inr (w109 hw)) (Or.inr (w103 hw)) (by decide) (t := (.array .int)) (t' := (.array .int)) (by decide) (by decide)))).other W6 (Or.inr (slot_ne (Or.inr (w109 hw)) (Or.inr (w105 hw)) (by decide) (t := (.array .int)) (t' := (.array .int)) (by decide) (by decide)))).other W13 (Or.inr (slot_ne (Or.inr (w109 hw)) (Or.inr (w107 hw)) (by decide) (t := (.array .int)) (t' := .int) (by decide) (by decide))))
  obtain ⟨T17, h17, X17, e17, W17, st17⟩ := putF X13 hx hZ hown (host := "") (Or.inl (w108 hw)) Via.refl e13 f16 f15 (Or.inr ⟨(w109 hw), rfl, hnm⟩) (w90 hw) (ty := (.array .int)) (by decide) rfl rfl (g := (mkF m 24 #[.val (.ref ya1), .val (.ref ya2), .val (.ref ya3), .val (.ref ya4), .val (.ref ya5), .val (.ref ya6), .val (.ref ya7)] [(.ref ya4), (.ref ya1)])) rfl rfl (hb hby d23_24)
  have N17 := Fr.snoc X17 N13 gq_ya1
  have Fw17 : Fld Z h17 ya1 cn0 "first" "[I" (.ref ya4) := (f16).same W17
  have K18 : Keep h0 _ [ya1] := K14.wr W17 (Or.inl (by simp))
  have O18 := O14.wr W17 gq_ya1
  refine Gets.of st17 ?_
  show Gets p e below _ (T17.setTop (mkF m 27 #[.val (.ref ya1), .val (.ref ya2), .val (.ref ya3), .val (.ref ya4), .val (.ref ya5), .val (.ref ya6), .val (.ref ya7)] []))
  refine Gets.of (fun t k => XS.aloadN X17.here hx rfl (hb hby d23_27) rfl rfl  k) ?_
  refine Gets.of (fun t k => XS.aload X17.here hx rfl (hb hby d23_28) rfl rfl  k) ?_
  have f19 : Exa Z h17 ya1 cn0 := (f15.wr W17)
  have f20 : Fld Z h17 ya1 cn0 "frontStart" "[I" .null := ((((F7.other W2 (Or.inr (slot_ne (Or.inr (w111 hw)) (Or.inr (w103 hw)) (by decide) (t := (.array .int)) (t' := (.array .int)) (by decide) (by decide)))).other W6 (Or.inr (slot_ne (Or.inr (w111 hw)) (Or.inr (w105 hw)) (by decide) (t := (.array .int)) (t' := (.array .int)) (by decide) (by decide)))).other W13 (Or.inr (slot_ne (Or.inr (w111 hw)) (Or.inr (w107 hw)) (by decide) (t := (.array .int)) (t' := .int) (by decide) (by decide)))).other W17 (Or.inr (slot_ne (Or.inr (w111 hw)) (Or.inr (w109 hw)) (by decide) (t := (.array .int)) (t' := (.array .int)) (by decide) (by decide))))
  obtain ⟨T21, h21, X21, e21, W21, st21⟩ := putF X17 hx hZ hown (host := "") (Or.inl (w110 hw)) Via.refl e17 f20 f19 (Or.inr ⟨(w111 hw), rfl, hnm⟩) (w90 hw) (ty := (.array .int)) (by decide) rfl rfl (g := (mkF m 30 #[.val (.ref ya1), .val (.ref ya2), .val (.ref ya3), .val (.ref ya4), .val (.ref ya5), .val (.ref ya6), .val (.ref ya7)] [(.ref ya5), (.ref ya1)])) rfl rfl (hb hby d23_30)
  have N21 := Fr.snoc X21 N17 gq_ya1
  have Fw21 : Fld Z h21 ya1 cn0 "frontStart" "[I" (.ref ya5) := (f20).same W21
  have K22 : Keep h0 _ [ya1] := K18.wr W21 (Or.inl (by simp))
  have O22 := O18.wr W21 gq_ya1
  refine Gets.of st21 ?_
  show Gets p e below _ (T21.setTop (mkF m 33 #[.val (.ref ya1), .val (.ref ya2), .val (.ref ya3), .val (.ref ya4), .val (.ref ya5), .val (.ref ya6), .val (.ref ya7)] []))
  refine Gets.of (fun t k => XS.aloadN X21.here hx rfl (hb hby d23_33) rfl rfl  k) ?_
  refine Gets.of (fun t k => XS.aload X21.here hx rfl (hb hby d23_34) rfl rfl  k) ?_
  have f23 : Exa Z h21 ya1 cn0 := (f19.wr W21)
  have f24 : Fld Z h21 ya1 cn0 "front" "[I" .null := (((((F8.other W2 (Or.inr (slot_ne (Or.inr (w113 hw)) (Or.inr (w103 hw)) (by decide) (t := (.array .int)) (t' := (.array .int)) (by decide) (by decide)))).other W6 (Or.inr (slot_ne (Or.inr (w113 hw)) (Or.inr (w105 hw)) (by decide) (t := (.array .int)) (t' := (.array .int)) (by decide) (by decide)))).other W13 (Or.inr (slot_ne (Or.inr (w113 hw)) (Or.inr (w107 hw)) (by decide) (t := (.array .int)) (t' := .int) (by decide) (by decide)))).other W17 (Or.inr (slot_ne (Or.inr (w113 hw)) (Or.inr (w109 hw)) (by decide) (t := (.array .int)) (t' := (.array .int)) (by decide) (by decide)))).other W21 (Or.inr (slot_ne (Or.inr (w113 hw)) (Or.inr (w111 hw)) (by decide) (t := (.array .int)) (t' := (.array .int)) (by decide) (by decide))))
  obtain ⟨T25, h25, X25, e25, W25, st25⟩ := putF X21 hx hZ hown (host := "") (Or.inl (w112 hw)) Via.refl e21 f24 f23 (Or.inr ⟨(w113 hw), rfl, hnm⟩) (w90 hw) (ty := (.array .int)) (by decide) rfl rfl (g := (mkF m 36 #[.val (.ref ya1), .val (.ref ya2), .val (.ref ya3), .val (.ref ya4), .val (.ref ya5), .val (.ref ya6), .val (.ref ya7)] [(.ref ya6), (.ref ya1)])) rfl rfl (hb hby d23_36)
  have N25 := Fr.snoc X25 N21 gq_ya1
  have Fw25 : Fld Z h25 ya1 cn0 "front" "[I" (.ref ya6) := (f24).same W25
  have K26 : Keep h0 _ [ya1] := K22.wr W25 (Or.inl (by simp))
  have O26 := O22.wr W25 gq_ya1
  refine Gets.of st25 ?_
  show Gets p e below _ (T25.setTop (mkF m 39 #[.val (.ref ya1), .val (.ref ya2), .val (.ref ya3), .val (.ref ya4), .val (.ref ya5), .val (.ref ya6), .val (.ref ya7)] []))
  refine Gets.of (fun t k => XS.aloadN X25.here hx rfl (hb hby d23_39) rfl rfl  k) ?_
  refine Gets.of (fun t k => XS.aload X25.here hx rfl (hb hby d23_40) rfl rfl  k) ?_
  have f27 : Exa Z h25 ya1 cn0 := (f23.wr W25)
  have f28 : Fld Z h25 ya1 cn0 "parent" "[I" .null := ((((((F9.other W2 (Or.inr (slot_ne (Or.inr (w115 hw)) (Or.inr (w103 hw)) (by decide) (t := (.array .int)) (t' := (.array .int)) (by decide) (by decide)))).other W6 (Or.inr (slot_ne (Or.inr (w115 hw)) (Or.inr (w105 hw)) (by decide) (t := (.array .int)) (t' := (.array .int)) (by decide) (by decide)))).other W13 (Or.inr (slot_ne (Or.inr (w115 hw)) (Or.inr (w107 hw)) (by decide) (t := (.array .int)) (t' := .int) (by decide) (by decide)))).other W17 (Or.inr (slot_ne (Or.inr (w115 hw)) (Or.inr (w109 hw)) (by decide) (t := (.array .int)) (t' := (.array .int)) (by decide) (by decide)))).other W21 (Or.inr (slot_ne (Or.inr (w115 hw)) (Or.inr (w111 hw)) (by decide) (t := (.array .int)) (t' := (.array .int)) (by decide) (by decide)))).other W25 (Or.inr (slot_ne (Or.inr (w115 hw)) (Or.inr (w113 hw)) (by decide) (t := (.array .int)) (t' := (.array .int)) (by decide) (by decide))))
  obtain ⟨T29, h29, X29, e29, W29, st29⟩ := putF X25 hx hZ hown (host := "") (Or.inl (w114 hw)) Via.refl e25 f28 f27 (Or.inr ⟨(w115 hw), rfl, hnm⟩) (w90 hw) (ty := (.array .int)) (by decide) rfl rfl (g := (mkF m 42 #[.val (.ref ya1), .val (.ref ya2), .val (.ref ya3), .val (.ref ya4), .val (.ref ya5), .val (.ref ya6), .val (.ref ya7)] [(.ref ya7), (.ref ya1)])) rfl rfl (hb hby d23_42)
  have N29 := Fr.snoc X29 N25 gq_ya1
  have Fw29 : Fld Z h29 ya1 cn0 "parent" "[I" (.ref ya7) := (f28).same W29
  have K30 : Keep h0 _ [ya1] := K26.wr W29 (Or.inl (by simp))
  have O30 := O26.wr W29 gq_ya1
  refine Gets.of st29 ?_
  show Gets p e below _ (T29.setTop (mkF m 45 #[.val (.ref ya1), .val (.ref ya2), .val (.ref ya3), .val (.ref ya4), .val (.ref ya5), .val (.ref ya6), .val (.ref ya7)] []))
  refine Gets.retV X29 hx Bd.returns (hb hby d23_45) ?_ (by decide) (by decide)
  rw [e29]
  have f31 : Fld Z h29 ya1 cn0 "order" "[I" (.ref ya2) := ((((((Fw2.other W6 (Or.inr (slot_ne (Or.inr (w103 hw)) (Or.inr (w105 hw)) (by decide) (t := (.array .int)) (t' := (.array .int)) (by decide) (by decide)))).other W13 (Or.inr (slot_ne (Or.inr (w103 hw)) (Or.inr (w107 hw)) (by decide) (t := (.array .int)) (t' := .int) (by decide) (by decide)))).other W17 (Or.inr (slot_ne (Or.inr (w103 hw)) (Or.inr (w109 hw)) (by decide) (t := (.array .int)) (t' := (.array .int)) (by decide) (by decide)))).other W21 (Or.inr (slot_ne (Or.inr (w103 hw)) (Or.inr (w111 hw)) (by decide) (t := (.array .int)) (t' := (.array .int)) (by decide) (by decide)))).other W25 (Or.inr (slot_ne (Or.inr (w103 hw)) (Or.inr (w113 hw)) (by decide) (t := (.array .int)) (t' := (.array .int)) (by decide) (by decide)))).other W29 (Or.inr (slot_ne (Or.inr (w103 hw)) (Or.inr (w115 hw)) (by decide) (t := (.array .int)) (t' := (.array .int)) (by decide) (by decide))))
  have f32 : Fld Z h29 ya1 cn0 "step" "[I" (.ref ya3) := (((((Fw6.other W13 (Or.inr (slot_ne (Or.inr (w105 hw)) (Or.inr (w107 hw)) (by decide) (t := (.array .int)) (t' := .int) (by decide) (by decide)))).other W17 (Or.inr (slot_ne (Or.inr (w105 hw)) (Or.inr (w109 hw)) (by decide) (t := (.array .int)) (t' := (.array .int)) (by decide) (by decide)))).other W21 (Or.inr (slot_ne (Or.inr (w105 hw)) (Or.inr (w111 hw)) (by decide) (t := (.array .int)) (t' := (.array .int)) (by decide) (by decide)))).other W25 (Or.inr (slot_ne (Or.inr (w105 hw)) (Or.inr (w113 hw)) (by decide) (t := (.array .int)) (t' := (.array .int)) (by decide) (by decide)))).other W29 (Or.inr (slot_ne (Or.inr (w105 hw)) (Or.inr (w115 hw)) (by decide) (t := (.array .int)) (t' := (.array .int)) (by decide) (by decide))))
  have f33 : Fld Z h29 ya1 cn0 "count" "I" (.int (1 : Int32)) := ((((Fw13.other W17 (Or.inr (slot_ne (Or.inr (w107 hw)) (Or.inr (w109 hw)) (by decide) (t := .int) (t' := (.array .int)) (by decide) (by decide)))).other W21 (Or.inr (slot_ne (Or.inr (w107 hw)) (Or.inr (w111 hw)) (by decide) (t := .int) (t' := (.array .int)) (by decide) (by decide)))).other W25 (Or.inr (slot_ne (Or.inr (w107 hw)) (Or.inr (w113 hw)) (by decide) (t := .int) (t' := (.array .int)) (by decide) (by decide)))).other W29 (Or.inr (slot_ne (Or.inr (w107 hw)) (Or.inr (w115 hw)) (by decide) (t := .int) (t' := (.array .int)) (by decide) (by decide))))
  have f34 : Fld Z h29 ya1 cn0 "first" "[I" (.ref ya4) := (((Fw17.other W21 (Or.inr (slot_ne (Or.inr (w109 hw)) (Or.inr (w111 hw)) (by decide) (t := (.array .int)) (t' := (.array .int)) (by decide) (by decide)))).other W25 (Or.inr (slot_ne (Or.inr (w109 hw)) (Or.inr (w113 hw)) (by decide) (t := (.array .int)) (t' := (.array .int)) (by decide) (by decide)))).other W29 (Or.inr (slot_ne (Or.inr (w109 hw)) (Or.inr (w115 hw)) (by decide) (t := (.array .int)) (t' := (.array .int)) (by decide) (by decide))))
  have f35 : Fld Z h29 ya1 cn0 "frontStart" "[I" (.ref ya5) := ((Fw21.other W25 (Or.inr (slot_ne (Or.inr (w111 hw)) (Or.inr (w113 hw)) (by decide) (t := (.array .int)) (t' := (.array .int)) (by decide) (by decide)))).other W29 (Or.inr (slot_ne (Or.inr (w111 hw)) (Or.inr (w115 hw)) (by decide) (t := (.array .int)) (t' := (.array .int)) (by decide) (by decide))))
  have f36 : Fld Z h29 ya1 cn0 "front" "[I" (.ref ya6) := (Fw25.other W29 (Or.inr (slot_ne (Or.inr (w113 hw)) (Or.inr (w115 hw)) (by decide) (t := (.array .int)) (t' := (.array .int)) (by decide) (by decide))))
  exact ⟨N29, K30, ⟨rfl, f31, f32, f33, f34, f35, f36, Fw29⟩⟩
theorem w100 {Z : State} {a0 : Array Value} (hw : ∀ d ∈ tables_1, d.before a0 Z = true) : (Jvm.Cond.code ({ cls := cn0, name := "<init>", desc := "([I[I[I[I[I[I)V" } : Jvm.MethodName) prog_15_method_1_code (7 : Nat) (Option.none : Option Jvm.ClassFile.FieldType)).before a0 Z = true := hw _ (List.mem_of_getElem? (i := 100) rfl)
theorem pd__I_I_I_I_I_I_V : parseMethodDescriptor "([I[I[I[I[I[I)V" = some ⟨[(.array .int), (.array .int), (.array .int), (.array .int), (.array .int), (.array .int)], none⟩ := by decide +kernel
theorem w99 {Z : State} {a0 : Array Value} (hw : ∀ d ∈ tables_1, d.before a0 Z = true) : (Jvm.Cond.instanceMethod ({ cls := cn0, name := "<init>", desc := "([I[I[I[I[I[I)V" } : Jvm.MethodName)).before a0 Z = true := hw _ (List.mem_of_getElem? (i := 99) rfl)
theorem d13_487 : decode prog_15_method_15_code 487 = .ok (.areturn, 1) := by decide +kernel
def Q_r12_fronts (Z : State) (ya1 : Addr) (ya2 : Addr) (ya3 : Addr) (ya4 : Addr) (yk7 : ClassId) (yk9 : ClassId) (ya5 : Addr) (yk10 : ClassId) (h0 : Heap) (n0 : Nat) (v : Option Value) (h : Heap) (L : List Loc) : Prop := Fr n0 L ∧ Keep h0 h [] ∧ ((∃ (b70 : Addr) (b3 : Addr) (b2_74 : Addr) (b15 : Addr) (k3 : ClassId) (k15 : ClassId) (k2_74 : ClassId), v = some (.ref b70) ∧ h0.size ≤ b70 ∧ h0.size ≤ b3 ∧ h0.size ≤ b2_74 ∧ h0.size ≤ b15 ∧ b70 ≠ b3 ∧ b70 ≠ b2_74 ∧ b70 ≠ b15 ∧ b3 ≠ b2_74 ∧ b3 ≠ b15 ∧ b2_74 ≠ b15 ∧ Exa Z h b70 cn0 ∧ Fld Z h b70 cn0 "order" "[I" (.ref ya2) ∧ Fld Z h b70 cn0 "step" "[I" (.ref ya3) ∧ Fld Z h b70 cn0 "count" "I" (.int (1 : Int32)) ∧ Fld Z h b70 cn0 "first" "[I" (.ref ya4) ∧ Fld Z h b70 cn0 "frontStart" "[I" (.ref b3) ∧ Fld Z h b70 cn0 "front" "[I" (.ref b2_74) ∧ Fld Z h b70 cn0 "parent" "[I" (.ref b15) ∧ Arv Z h b3 k3 .int (2 : Int32) [(.int (0 : Int32)), (.int (1 : Int32))] (.int (0 : Int32)) ∧ Exa Z h b3 "[I" ∧ Arv Z h b2_74 k2_74 .int (1 : Int32) [(.int (0 : Int32))] (.int (0 : Int32)) ∧ Exa Z h b2_74 "[I" ∧ Exa Z h b15 "[I" ∧ Arv Z h b15 k15 .int (1 : Int32) [(.int (-1 : Int32))] (.int (0 : Int32))))
set_option maxRecDepth 65536 in
set_option maxHeartbeats 40000000 in
theorem r12_fronts (l : Launch) (Z : State) (a0 : Array Value) (hw : ∀ d ∈ tables_1, d.before a0 Z = true) (ws : List Jvm.Cond) (ya1 : Addr) (ya2 : Addr) (ya3 : Addr) (ya4 : Addr) (yk7 : ClassId) (yk9 : ClassId) (ya5 : Addr) (yk10 : ClassId) (h0 : Heap) (n0 : Nat) (O0 : Old Z n0 h0) (F0 : Arv Z h0 ya2 yk7 .int (1 : Int32) [(.int (0 : Int32))] (.int (0 : Int32))) (F1 : Arv Z h0 ya4 yk9 .int (2 : Int32) [(.int (0 : Int32)), (.int (1 : Int32))] (.int (0 : Int32))) (F2 : Exa Z h0 ya1 cn1) (F3 : Fld Z h0 ya1 cn1 "start" "[I" (.ref ya5)) (F4 : Arv Z h0 ya5 yk10 .int (2 : Int32) [(.int (0 : Int32)), (.int (0 : Int32))] (.int (0 : Int32))) (F5 : Exa Z h0 ya4 "[I") :
    MetFree l (⟨cn0, "fronts", cn6⟩ : MethodName) (head1 (Jvm.Cond.code (⟨cn0, "fronts", cn6⟩ : MethodName) prog_15_method_15_code 21 (some (.object cn0)) :: ws) ({ frames := 4, cells := 9, slots := 31, locals := 81 } : Room)) (fun a U => a = #[(.ref ya1), (.ref ya2), (.ref ya3), (.ref ya4)] ∧ Z.Warmed39 U.vm ∧ U.heap = h0) (fun _ _ _ _ _ => True) (fun _ U o U' => ∃ v L, o = .returned v ∧ Q_r12_fronts Z ya1 ya2 ya3 ya4 yk7 yk9 ya5 yk10 h0 n0 v U'.heap L ∧ FrameEnd U o U' L ({ frames := 4, cells := 9, slots := 31, locals := 81 } : Room).cells ({ frames := 4, cells := 9, slots := 31, locals := 81 } : Room).slots) := by
  refine MetFree.of_bodySF (plainFor_of_name pn_com_example_unea_unea_analysis_Supernodes) hisR ?_
  intro p e s m args below meth c s₁ Bd hml0 hP hK
  obtain ⟨rfl, hZ, hh⟩ := hP
  have hx := Bd.exec
  have hby := Bd.bytes
  have hlk := Bd.notSynchronized
  have hml : c.maxLocals = 21 := hml0
  have hown : s.vm.findClass cn0 = some m.cls := findClass_of_methodNamed Bd.named
  have hnm := (name_of_methodNamed Bd.named Bd.method).1
  have X0 : Stand p l e ({ frames := 4, cells := 9, slots := 31, locals := 81 } : Room) s m #[(.ref ya1), (.ref ya2), (.ref ya3), (.ref ya4)] below meth c s₁ [] 0 0 := Stand.of_body Bd
  have e0 : s₁.heap = h0 := by rw [← hh, Bd.state]; rfl
  have N0 := Fr.nil n0
  have K0 := Keep.refl h0 []
  have Z0 : n0 ≤ h0.size := O0.1 ▸ O0.2.1
  have hef : entryFrame m #[(.ref ya1), (.ref ya2), (.ref ya3), (.ref ya4)] 21 = mkF m 0 #[.val (.ref ya1), .val (.ref ya2), .val (.ref ya3), .val (.ref ya4), .unset, .unset, .unset, .unset, .unset, .unset, .unset, .unset, .unset, .unset, .unset, .unset, .unset, .unset, .unset, .unset, .unset] [] := by first | (simp [entryFrame, mkF, argsToLocals, Value.category]; done) | rfl
  rw [hef]
  refine Gets.out (Q := Q_r12_fronts Z ya1 ya2 ya3 ya4 yk7 yk9 ya5 yk10 h0 n0) ?_
  show Gets p e below _ (s₁.setTop (mkF m 0 #[.val (.ref ya1), .val (.ref ya2), .val (.ref ya3), .val (.ref ya4), .unset, .unset, .unset, .unset, .unset, .unset, .unset, .unset, .unset, .unset, .unset, .unset, .unset, .unset, .unset, .unset, .unset] []))
  refine Gets.of (fun t k => XS.aloadN X0.here hx rfl (hb hby d13_0) rfl rfl  k) ?_
  obtain ⟨cl1, Ar1, -, S1, N_1, -, -⟩ := id (F0)
  refine Gets.of (X0.arraylength hx (by rw [e0]; exact Ar1.1) (State.isArrayOf_alike hZ.alike Ar1.2.1) (g := (mkF m 1 #[.val (.ref ya1), .val (.ref ya2), .val (.ref ya3), .val (.ref ya4), .unset, .unset, .unset, .unset, .unset, .unset, .unset, .unset, .unset, .unset, .unset, .unset, .unset, .unset, .unset, .unset, .unset] [(.ref ya2)])) rfl rfl (hb hby d13_1)) ?_
  rw [len_of S1 N_1]
  show Gets p e below _ (s₁.setTop (mkF m 2 #[.val (.ref ya1), .val (.ref ya2), .val (.ref ya3), .val (.ref ya4), .unset, .unset, .unset, .unset, .unset, .unset, .unset, .unset, .unset, .unset, .unset, .unset, .unset, .unset, .unset, .unset, .unset] [(.int (1 : Int32))]))
  refine Gets.of (fun t k => XS.istore X0.here hx rfl (hb hby d13_2) rfl (l' := #[.val (.ref ya1), .val (.ref ya2), .val (.ref ya3), .val (.ref ya4), .val (.int (1 : Int32)), .unset, .unset, .unset, .unset, .unset, .unset, .unset, .unset, .unset, .unset, .unset, .unset, .unset, .unset, .unset, .unset]) rfl k) ?_
  show Gets p e below _ (s₁.setTop (mkF m 4 #[.val (.ref ya1), .val (.ref ya2), .val (.ref ya3), .val (.ref ya4), .val (.int (1 : Int32)), .unset, .unset, .unset, .unset, .unset, .unset, .unset, .unset, .unset, .unset, .unset, .unset, .unset, .unset, .unset, .unset] []))
  refine Gets.of (fun t k => XS.aloadN X0.here hx rfl (hb hby d13_4) rfl rfl  k) ?_
  obtain ⟨cl2, Ar2, -, S2, N_2, -, -⟩ := id (F1)
  refine Gets.of (X0.arraylength hx (by rw [e0]; exact Ar2.1) (State.isArrayOf_alike hZ.alike Ar2.2.1) (g := (mkF m 5 #[.val (.ref ya1), .val (.ref ya2), .val (.ref ya3), .val (.ref ya4), .val (.int (1 : Int32)), .unset, .unset, .unset, .unset, .unset, .unset, .unset, .unset, .unset, .unset, .unset, .unset, .unset, .unset, .unset, .unset] [(.ref ya4)])) rfl rfl (hb hby d13_5)) ?_
  rw [len_of S2 N_2]
  show Gets p e below _ (s₁.setTop (mkF m 6 #[.val (.ref ya1), .val (.ref ya2), .val (.ref ya3), .val (.ref ya4), .val (.int (1 : Int32)), .unset, .unset, .unset, .unset, .unset, .unset, .unset, .unset, .unset, .unset, .unset, .unset, .unset, .unset, .unset, .unset] [(.int (2 : Int32))]))
  refine Gets.of (fun t k => XS.iconst X0.here hx rfl (hb hby d13_6) k) ?_
  refine Gets.of (fun t k => XS.isub X0.here hx rfl (hb hby d13_7) rfl k) ?_
  show Gets p e below _ (s₁.setTop (mkF m 8 #[.val (.ref ya1), .val (.ref ya2), .val (.ref ya3), .val (.ref ya4), .val (.int (1 : Int32)), .unset, .unset, .unset, .unset, .unset, .unset, .unset, .unset, .unset, .unset, .unset, .unset, .unset, .unset, .unset, .unset] [(.int (1 : Int32))]))
  refine Gets.of (fun t k => XS.istore X0.here hx rfl (hb hby d13_8) rfl (l' := #[.val (.ref ya1), .val (.ref ya2), .val (.ref ya3), .val (.ref ya4), .val (.int (1 : Int32)), .val (.int (1 : Int32)), .unset, .unset, .unset, .unset, .unset, .unset, .unset, .unset, .unset, .unset, .unset, .unset, .unset, .unset, .unset]) rfl k) ?_
  show Gets p e below _ (s₁.setTop (mkF m 10 #[.val (.ref ya1), .val (.ref ya2), .val (.ref ya3), .val (.ref ya4), .val (.int (1 : Int32)), .val (.int (1 : Int32)), .unset, .unset, .unset, .unset, .unset, .unset, .unset, .unset, .unset, .unset, .unset, .unset, .unset, .unset, .unset] []))
  refine Gets.of (fun t k => XS.iload X0.here hx rfl (hb hby d13_10) rfl  k) ?_
  refine Gets.of (fun t k => XS.iconst X0.here hx rfl (hb hby d13_12) k) ?_
  refine Gets.of (fun t k => XS.iadd X0.here hx rfl (hb hby d13_13) rfl k) ?_
  show Gets p e below _ (s₁.setTop (mkF m 14 #[.val (.ref ya1), .val (.ref ya2), .val (.ref ya3), .val (.ref ya4), .val (.int (1 : Int32)), .val (.int (1 : Int32)), .unset, .unset, .unset, .unset, .unset, .unset, .unset, .unset, .unset, .unset, .unset, .unset, .unset, .unset, .unset] [(.int (2 : Int32))]))
  obtain ⟨T3, h3, k3, X3, e3, E3, A3, Ex3, st3⟩ := newPE X0 hx hZ (aty := .int) (w3 hw) e0 (g := (mkF m 14 #[.val (.ref ya1), .val (.ref ya2), .val (.ref ya3), .val (.ref ya4), .val (.int (1 : Int32)), .val (.int (1 : Int32)), .unset, .unset, .unset, .unset, .unset, .unset, .unset, .unset, .unset, .unset, .unset, .unset, .unset, .unset, .unset] [(.int (2 : Int32))])) rfl (hb hby d13_14) rfl (by decide) (cap := 2) (by decide) (by decide) (by decide) (by decide) (ad := "[I") rfl
  obtain ⟨b3, g3⟩ : ∃ z, z = h0.size := ⟨_, rfl⟩
  rw [← g3] at A3 Ex3 st3
  have sz_b3 : h0.size ≤ b3 := Nat.le_trans K0.1 (Nat.le_of_eq g3.symm)
  have g_b3 : n0 ≤ b3 := Nat.le_trans Z0 sz_b3
  have K4 := K0.ext E3
  have O4 := O0.ext E3
  have V3 : Arv Z h3 b3 k3 .int (2 : Int32) [(.int (0 : Int32)), (.int (0 : Int32))] (.int (0 : Int32)) := (Arv.new A3 (by decide)).pad (pad_rep [] (.int (0 : Int32)) 2)
  refine Gets.of st3 ?_
  show Gets p e below _ (T3.setTop (mkF m 16 #[.val (.ref ya1), .val (.ref ya2), .val (.ref ya3), .val (.ref ya4), .val (.int (1 : Int32)), .val (.int (1 : Int32)), .unset, .unset, .unset, .unset, .unset, .unset, .unset, .unset, .unset, .unset, .unset, .unset, .unset, .unset, .unset] [(.ref b3)]))
  refine Gets.of (fun t k => XS.astore X3.here hx rfl (hb hby d13_16) rfl rfl (l' := #[.val (.ref ya1), .val (.ref ya2), .val (.ref ya3), .val (.ref ya4), .val (.int (1 : Int32)), .val (.int (1 : Int32)), .val (.ref b3), .unset, .unset, .unset, .unset, .unset, .unset, .unset, .unset, .unset, .unset, .unset, .unset, .unset, .unset]) rfl k) ?_
  show Gets p e below _ (T3.setTop (mkF m 18 #[.val (.ref ya1), .val (.ref ya2), .val (.ref ya3), .val (.ref ya4), .val (.int (1 : Int32)), .val (.int (1 : Int32)), .val (.ref b3), .unset, .unset, .unset, .unset, .unset, .unset, .unset, .unset, .unset, .unset, .unset, .unset, .unset, .unset] []))
  refine Gets.of (fun t k => XS.bipush X3.here hx rfl (hb hby d13_18) k) ?_
  refine Gets.of (fun t k => XS.iconst X3.here hx rfl (hb hby d13_20) k) ?_
  refine Gets.of (fun t k => XS.iload X3.here hx rfl (hb hby d13_21) rfl  k) ?_
  refine Gets.of (fun t k => XS.imul X3.here hx rfl (hb hby d13_23) rfl k) ?_
  show Gets p e below _ (T3.setTop (mkF m 24 #[.val (.ref ya1), .val (.ref ya2), .val (.ref ya3), .val (.ref ya4), .val (.int (1 : Int32)), .val (.int (1 : Int32)), .val (.ref b3), .unset, .unset, .unset, .unset, .unset, .unset, .unset, .unset, .unset, .unset, .unset, .unset, .unset, .unset] [(.int (2 : Int32)), (.int (16 : Int32))]))
  obtain ⟨_, _, ⟨T5, L5, k5, n5⟩, -, X5, ⟨Lc5, hQ5, l5, y5, z5⟩, st5⟩ := Jvm.LawKit.callS X3 hx (y := (⟨"java/lang/Math", "max", "(II)I"⟩ : MethodName)) hown (mvT hZ (w61 hw)) (mvT hZ (w62 hw)) (mvT hZ (w63 hw)) (mvT hZ (w64 hw)) (by decide) (backOf (W := 0) (r13_max l Z a0 hw []  h3 n0 O4) hZ (w64 hw) (w63 hw) (by decide) (by decide)) (g := (mkF m 24 #[.val (.ref ya1), .val (.ref ya2), .val (.ref ya3), .val (.ref ya4), .val (.int (1 : Int32)), .val (.int (1 : Int32)), .val (.ref b3), .unset, .unset, .unset, .unset, .unset, .unset, .unset, .unset, .unset, .unset, .unset, .unset, .unset, .unset] [(.int (2 : Int32)), (.int (16 : Int32))])) rfl (by rw [hml]; rfl) (argsL := [(.int (16 : Int32)), (.int (2 : Int32))]) (rest := []) (lenOf pd__II_I_509 rfl) rfl (by show 2 * 0 + _ ≤ _; exact Nat.le_of_eq rfl) (hb hby d13_24) (fun _ _ => ⟨rfl, e3, (by decide : 1 + 0 ≤ _), (by decide : 2 + 0 ≤ _)⟩)
  dsimp only [Pt.U, Pt.locs, Pt.cells, Pt.slots] at X5 l5 y5 z5 st5 hQ5
  subst l5 y5 z5
  obtain ⟨Nq5, eq5, hR5⟩ := hQ5
  have N5 := Fr.app N0 Nq5
  obtain rfl := hR5
  refine Gets.of st5 ?_
  show Gets p e below _ (T5.setTop (mkF m 27 #[.val (.ref ya1), .val (.ref ya2), .val (.ref ya3), .val (.ref ya4), .val (.int (1 : Int32)), .val (.int (1 : Int32)), .val (.ref b3), .unset, .unset, .unset, .unset, .unset, .unset, .unset, .unset, .unset, .unset, .unset, .unset, .unset, .unset] [(.int (16 : Int32))]))
  obtain ⟨T6, h6, k6, X6, e6, E6, A6, Ex6, st6⟩ := newPE X5 hx hZ (aty := .int) (w3 hw) eq5 (g := (mkF m 27 #[.val (.ref ya1), .val (.ref ya2), .val (.ref ya3), .val (.ref ya4), .val (.int (1 : Int32)), .val (.int (1 : Int32)), .val (.ref b3), .unset, .unset, .unset, .unset, .unset, .unset, .unset, .unset, .unset, .unset, .unset, .unset, .unset, .unset] [(.int (16 : Int32))])) rfl (hb hby d13_27) rfl (by decide) (cap := 16) (by decide) (by decide) (by decide) (by decide) (ad := "[I") rfl
  obtain ⟨b6, g6⟩ : ∃ z, z = h3.size := ⟨_, rfl⟩
  rw [← g6] at A6 Ex6 st6
  have sz_b6 : h0.size ≤ b6 := Nat.le_trans K4.1 (Nat.le_of_eq g6.symm)
  have g_b6 : n0 ≤ b6 := Nat.le_trans Z0 sz_b6
  have K7 := K4.ext E6
  have O7 := O4.ext E6
  have V6 : Arv Z h6 b6 k6 .int (16 : Int32) [(.int (0 : Int32)), (.int (0 : Int32)), (.int (0 : Int32)), (.int (0 : Int32)), (.int (0 : Int32)), (.int (0 : Int32)), (.int (0 : Int32)), (.int (0 : Int32)), (.int (0 : Int32)), (.int (0 : Int32)), (.int (0 : Int32)), (.int (0 : Int32)), (.int (0 : Int32)), (.int (0 : Int32)), (.int (0 : Int32)), (.int (0 : Int32))] (.int (0 : Int32)) := (Arv.new A6 (by decide)).pad (pad_rep [] (.int (0 : Int32)) 16)
  refine Gets.of st6 ?_
  show Gets p e below _ (T6.setTop (mkF m 29 #[.val (.ref ya1), .val (.ref ya2), .val (.ref ya3), .val (.ref ya4), .val (.int (1 : Int32)), .val (.int (1 : Int32)), .val (.ref b3), .unset, .unset, .unset, .unset, .unset, .unset, .unset, .unset, .unset, .unset, .unset, .unset, .unset, .unset] [(.ref b6)]))
  refine Gets.of (fun t k => XS.astore X6.here hx rfl (hb hby d13_29) rfl rfl (l' := #[.val (.ref ya1), .val (.ref ya2), .val (.ref ya3), .val (.ref ya4), .val (.int (1 : Int32)), .val (.int (1 : Int32)), .val (.ref b3), .val (.ref b6), .unset, .unset, .unset, .unset, .unset, .unset, .unset, .unset, .unset, .unset, .unset, .unset, .unset]) rfl k) ?_
  show Gets p e below _ (T6.setTop (mkF m 31 #[.val (.ref ya1), .val (.ref ya2), .val (.ref ya3), .val (.ref ya4), .val (.int (1 : Int32)), .val (.int (1 : Int32)), .val (.ref b3), .val (.ref b6), .unset, .unset, .unset, .unset, .unset, .unset, .unset, .unset, .unset, .unset, .unset, .unset, .unset] []))
  refine Gets.of (fun t k => XS.iload X6.here hx rfl (hb hby d13_31) rfl  k) ?_
  obtain ⟨T8, h8, k8, X8, e8, E8, A8, Ex8, st8⟩ := newPE X6 hx hZ (aty := .int) (w3 hw) e6 (g := (mkF m 33 #[.val (.ref ya1), .val (.ref ya2), .val (.ref ya3), .val (.ref ya4), .val (.int (1 : Int32)), .val (.int (1 : Int32)), .val (.ref b3), .val (.ref b6), .unset, .unset, .unset, .unset, .unset, .unset, .unset, .unset, .unset, .unset, .unset, .unset, .unset] [(.int (1 : Int32))])) rfl (hb hby d13_33) rfl (by decide) (cap := 1) (by decide) (by decide) (by decide) (by decide) (ad := "[I") rfl
  obtain ⟨b8, g8⟩ : ∃ z, z = h6.size := ⟨_, rfl⟩
  rw [← g8] at A8 Ex8 st8
  have sz_b8 : h0.size ≤ b8 := Nat.le_trans K7.1 (Nat.le_of_eq g8.symm)
  have g_b8 : n0 ≤ b8 := Nat.le_trans Z0 sz_b8
  have K9 := K7.ext E8
  have O9 := O7.ext E8
  have V8 : Arv Z h8 b8 k8 .int (1 : Int32) [(.int (0 : Int32))] (.int (0 : Int32)) := (Arv.new A8 (by decide)).pad (pad_rep [] (.int (0 : Int32)) 1)
  refine Gets.of st8 ?_
  show Gets p e below _ (T8.setTop (mkF m 35 #[.val (.ref ya1), .val (.ref ya2), .val (.ref ya3), .val (.ref ya4), .val (.int (1 : Int32)), .val (.int (1 : Int32)), .val (.ref b3), .val (.ref b6), .unset, .unset, .unset, .unset, .unset, .unset, .unset, .unset, .unset, .unset, .unset, .unset, .unset] [(.ref b8)]))
  refine Gets.of (fun t k => XS.astore X8.here hx rfl (hb hby d13_35) rfl rfl (l' := #[.val (.ref ya1), .val (.ref ya2), .val (.ref ya3), .val (.ref ya4), .val (.int (1 : Int32)), .val (.int (1 : Int32)), .val (.ref b3), .val (.ref b6), .val (.ref b8), .unset, .unset, .unset, .unset, .unset, .unset, .unset, .unset, .unset, .unset, .unset, .unset]) rfl k) ?_
  show Gets p e below _ (T8.setTop (mkF m 37 #[.val (.ref ya1), .val (.ref ya2), .val (.ref ya3), .val (.ref ya4), .val (.int (1 : Int32)), .val (.int (1 : Int32)), .val (.ref b3), .val (.ref b6), .val (.ref b8), .unset, .unset, .unset, .unset, .unset, .unset, .unset, .unset, .unset, .unset, .unset, .unset] []))
  refine Gets.of (fun t k => XS.aload X8.here hx rfl (hb hby d13_37) rfl rfl  k) ?_
  refine Gets.of (fun t k => XS.iconst X8.here hx rfl (hb hby d13_39) k) ?_
  obtain ⟨_, _, ⟨T10, L10, k10, n10⟩, -, X10, ⟨Lc10, hQ10, l10, y10, z10⟩, st10⟩ := Jvm.LawKit.callS X8 hx (y := (⟨cn2, "fill", "([II)V"⟩ : MethodName)) hown (mvT hZ (w29 hw)) (mvT hZ (w30 hw)) (mvT hZ (w31 hw)) (mvT hZ (w32 hw)) (by decide) (backOf (W := 0) (r6_fill l Z a0 hw [] b8 k8 h8 n0 O9 V8 g_b8) hZ (w32 hw) (w31 hw) (by decide) (by decide)) (g := (mkF m 40 #[.val (.ref ya1), .val (.ref ya2), .val (.ref ya3), .val (.ref ya4), .val (.int (1 : Int32)), .val (.int (1 : Int32)), .val (.ref b3), .val (.ref b6), .val (.ref b8), .unset, .unset, .unset, .unset, .unset, .unset, .unset, .unset, .unset, .unset, .unset, .unset] [(.int (-1 : Int32)), (.ref b8)])) rfl (by rw [hml]; rfl) (argsL := [(.ref b8), (.int (-1 : Int32))]) (rest := []) (lenOf pd__II_V rfl) rfl (by show 2 * 0 + _ ≤ _; exact Nat.le_of_eq rfl) (hb hby d13_40) (fun _ _ => ⟨rfl, e8, (by decide : 3 + 0 ≤ _), (by decide : 19 + 0 ≤ _)⟩)
  dsimp only [Pt.U, Pt.locs, Pt.cells, Pt.slots] at X10 l10 y10 z10 st10 hQ10
  subst l10 y10 z10
  obtain ⟨Nq10, Kq10, hR10⟩ := hQ10
  have N10 := Fr.app N5 Nq10
  have K11 : Keep h0 _ [] := K9.trans Kq10 (allS (Or.inr sz_b8) all0)
  have O11 := O9.keep Kq10 (allS g_b8 all0)
  obtain ⟨rfl, bf10_0⟩ := hR10
  refine Gets.of st10 ?_
  show Gets p e below _ (T10.setTop (mkF m 43 #[.val (.ref ya1), .val (.ref ya2), .val (.ref ya3), .val (.ref ya4), .val (.int (1 : Int32)), .val (.int (1 : Int32)), .val (.ref b3), .val (.ref b6), .val (.ref b8), .unset, .unset, .unset, .unset, .unset, .unset, .unset, .unset, .unset, .unset, .unset, .unset] []))
  refine Gets.of (fun t k => XS.iload X10.here hx rfl (hb hby d13_43) rfl  k) ?_
  obtain ⟨T12, h12, k12, X12, e12, E12, A12, Ex12, st12⟩ := newPE X10 hx hZ (aty := .int) (w3 hw) rfl (g := (mkF m 45 #[.val (.ref ya1), .val (.ref ya2), .val (.ref ya3), .val (.ref ya4), .val (.int (1 : Int32)), .val (.int (1 : Int32)), .val (.ref b3), .val (.ref b6), .val (.ref b8), .unset, .unset, .unset, .unset, .unset, .unset, .unset, .unset, .unset, .unset, .unset, .unset] [(.int (1 : Int32))])) rfl (hb hby d13_45) rfl (by decide) (cap := 1) (by decide) (by decide) (by decide) (by decide) (ad := "[I") rfl
  obtain ⟨b12, g12⟩ : ∃ z, z = T10.heap.size := ⟨_, rfl⟩
  rw [← g12] at A12 Ex12 st12
  have up13 := Kq10.1
  have sz_b12 : h0.size ≤ b12 := Nat.le_trans K11.1 (Nat.le_of_eq g12.symm)
  have g_b12 : n0 ≤ b12 := Nat.le_trans Z0 sz_b12
  have K14 := K11.ext E12
  have O14 := O11.ext E12
  have V12 : Arv Z h12 b12 k12 .int (1 : Int32) [(.int (0 : Int32))] (.int (0 : Int32)) := (Arv.new A12 (by decide)).pad (pad_rep [] (.int (0 : Int32)) 1)
  refine Gets.of st12 ?_
  show Gets p e below _ (T12.setTop (mkF m 47 #[.val (.ref ya1), .val (.ref ya2), .val (.ref ya3), .val (.ref ya4), .val (.int (1 : Int32)), .val (.int (1 : Int32)), .val (.ref b3), .val (.ref b6), .val (.ref b8), .unset, .unset, .unset, .unset, .unset, .unset, .unset, .unset, .unset, .unset, .unset, .unset] [(.ref b12)]))
  refine Gets.of (fun t k => XS.astore X12.here hx rfl (hb hby d13_47) rfl rfl (l' := #[.val (.ref ya1), .val (.ref ya2), .val (.ref ya3), .val (.ref ya4), .val (.int (1 : Int32)), .val (.int (1 : Int32)), .val (.ref b3), .val (.ref b6), .val (.ref b8), .val (.ref b12), .unset, .unset, .unset, .unset, .unset, .unset, .unset, .unset, .unset, .unset, .unset]) rfl k) ?_
  show Gets p e below _ (T12.setTop (mkF m 49 #[.val (.ref ya1), .val (.ref ya2), .val (.ref ya3), .val (.ref ya4), .val (.int (1 : Int32)), .val (.int (1 : Int32)), .val (.ref b3), .val (.ref b6), .val (.ref b8), .val (.ref b12), .unset, .unset, .unset, .unset, .unset, .unset, .unset, .unset, .unset, .unset, .unset] []))
  refine Gets.of (fun t k => XS.iload X12.here hx rfl (hb hby d13_49) rfl  k) ?_
  obtain ⟨T15, h15, k15, X15, e15, E15, A15, Ex15, st15⟩ := newPE X12 hx hZ (aty := .int) (w3 hw) e12 (g := (mkF m 51 #[.val (.ref ya1), .val (.ref ya2), .val (.ref ya3), .val (.ref ya4), .val (.int (1 : Int32)), .val (.int (1 : Int32)), .val (.ref b3), .val (.ref b6), .val (.ref b8), .val (.ref b12), .unset, .unset, .unset, .unset, .unset, .unset, .unset, .unset, .unset, .unset, .unset] [(.int (1 : Int32))])) rfl (hb hby d13_51) rfl (by decide) (cap := 1) (by decide) (by decide) (by decide) (by decide) (ad := "[I") rfl
  obtain ⟨b15, g15⟩ : ∃ z, z = h12.size := ⟨_, rfl⟩
  rw [← g15] at A15 Ex15 st15
  have sz_b15 : h0.size ≤ b15 := Nat.le_trans K14.1 (Nat.le_of_eq g15.symm)
  have g_b15 : n0 ≤ b15 := Nat.le_trans Z0 sz_b15
  have K16 := K14.ext E15
  have O16 := O14.ext E15
  have V15 : Arv Z h15 b15 k15 .int (1 : Int32) [(.int (0 : Int32))] (.int (0 : Int32)) := (Arv.new A15 (by decide)).pad (pad_rep [] (.int (0 : Int32)) 1)
  refine Gets.of st15 ?_
  show Gets p e below _ (T15.setTop (mkF m 53 #[.val (.ref ya1), .val (.ref ya2), .val (.ref ya3), .val (.ref ya4), .val (.int (1 : Int32)), .val (.int (1 : Int32)), .val (.ref b3), .val (.ref b6), .val (.ref b8), .val (.ref b12), .unset, .unset, .unset, .unset, .unset, .unset, .unset, .unset, .unset, .unset, .unset] [(.ref b15)]))
  refine Gets.of (fun t k => XS.astore X15.here hx rfl (hb hby d13_53) rfl rfl (l' := #[.val (.ref ya1), .val (.ref ya2), .val (.ref ya3), .val (.ref ya4), .val (.int (1 : Int32)), .val (.int (1 : Int32)), .val (.ref b3), .val (.ref b6), .val (.ref b8), .val (.ref b12), .val (.ref b15), .unset, .unset, .unset, .unset, .unset, .unset, .unset, .unset, .unset, .unset]) rfl k) ?_
  show Gets p e below _ (T15.setTop (mkF m 55 #[.val (.ref ya1), .val (.ref ya2), .val (.ref ya3), .val (.ref ya4), .val (.int (1 : Int32)), .val (.int (1 : Int32)), .val (.ref b3), .val (.ref b6), .val (.ref b8), .val (.ref b12), .val (.ref b15), .unset, .unset, .unset, .unset, .unset, .unset, .unset, .unset, .unset, .unset] []))
  refine Gets.of (fun t k => XS.iload X15.here hx rfl (hb hby d13_55) rfl  k) ?_
  obtain ⟨T17, h17, k17, X17, e17, E17, A17, Ex17, st17⟩ := newPE X15 hx hZ (aty := .int) (w3 hw) e15 (g := (mkF m 57 #[.val (.ref ya1), .val (.ref ya2), .val (.ref ya3), .val (.ref ya4), .val (.int (1 : Int32)), .val (.int (1 : Int32)), .val (.ref b3), .val (.ref b6), .val (.ref b8), .val (.ref b12), .val (.ref b15), .unset, .unset, .unset, .unset, .unset, .unset, .unset, .unset, .unset, .unset] [(.int (1 : Int32))])) rfl (hb hby d13_57) rfl (by decide) (cap := 1) (by decide) (by decide) (by decide) (by decide) (ad := "[I") rfl
  obtain ⟨b17, g17⟩ : ∃ z, z = h15.size := ⟨_, rfl⟩
  rw [← g17] at A17 Ex17 st17
  have sz_b17 : h0.size ≤ b17 := Nat.le_trans K16.1 (Nat.le_of_eq g17.symm)
  have g_b17 : n0 ≤ b17 := Nat.le_trans Z0 sz_b17
  have K18 := K16.ext E17
  have O18 := O16.ext E17
  have V17 : Arv Z h17 b17 k17 .int (1 : Int32) [(.int (0 : Int32))] (.int (0 : Int32)) := (Arv.new A17 (by decide)).pad (pad_rep [] (.int (0 : Int32)) 1)
  refine Gets.of st17 ?_
  show Gets p e below _ (T17.setTop (mkF m 59 #[.val (.ref ya1), .val (.ref ya2), .val (.ref ya3), .val (.ref ya4), .val (.int (1 : Int32)), .val (.int (1 : Int32)), .val (.ref b3), .val (.ref b6), .val (.ref b8), .val (.ref b12), .val (.ref b15), .unset, .unset, .unset, .unset, .unset, .unset, .unset, .unset, .unset, .unset] [(.ref b17)]))
  refine Gets.of (fun t k => XS.astore X17.here hx rfl (hb hby d13_59) rfl rfl (l' := #[.val (.ref ya1), .val (.ref ya2), .val (.ref ya3), .val (.ref ya4), .val (.int (1 : Int32)), .val (.int (1 : Int32)), .val (.ref b3), .val (.ref b6), .val (.ref b8), .val (.ref b12), .val (.ref b15), .val (.ref b17), .unset, .unset, .unset, .unset, .unset, .unset, .unset, .unset, .unset]) rfl k) ?_
  show Gets p e below _ (T17.setTop (mkF m 61 #[.val (.ref ya1), .val (.ref ya2), .val (.ref ya3), .val (.ref ya4), .val (.int (1 : Int32)), .val (.int (1 : Int32)), .val (.ref b3), .val (.ref b6), .val (.ref b8), .val (.ref b12), .val (.ref b15), .val (.ref b17), .unset, .unset, .unset, .unset, .unset, .unset, .unset, .unset, .unset] []))
  refine Gets.of (fun t k => XS.iload X17.here hx rfl (hb hby d13_61) rfl  k) ?_
  obtain ⟨T19, h19, k19, X19, e19, E19, A19, Ex19, st19⟩ := newPE X17 hx hZ (aty := .int) (w3 hw) e17 (g := (mkF m 63 #[.val (.ref ya1), .val (.ref ya2), .val (.ref ya3), .val (.ref ya4), .val (.int (1 : Int32)), .val (.int (1 : Int32)), .val (.ref b3), .val (.ref b6), .val (.ref b8), .val (.ref b12), .val (.ref b15), .val (.ref b17), .unset, .unset, .unset, .unset, .unset, .unset, .unset, .unset, .unset] [(.int (1 : Int32))])) rfl (hb hby d13_63) rfl (by decide) (cap := 1) (by decide) (by decide) (by decide) (by decide) (ad := "[I") rfl
  obtain ⟨b19, g19⟩ : ∃ z, z = h17.size := ⟨_, rfl⟩
  rw [← g19] at A19 Ex19 st19
  have sz_b19 : h0.size ≤ b19 := Nat.le_trans K18.1 (Nat.le_of_eq g19.symm)
  have g_b19 : n0 ≤ b19 := Nat.le_trans Z0 sz_b19
  have K20 := K18.ext E19
  have O20 := O18.ext E19
  have V19 : Arv Z h19 b19 k19 .int (1 : Int32) [(.int (0 : Int32))] (.int (0 : Int32)) := (Arv.new A19 (by decide)).pad (pad_rep [] (.int (0 : Int32)) 1)
  refine Gets.of st19 ?_
  show Gets p e below _ (T19.setTop (mkF m 65 #[.val (.ref ya1), .val (.ref ya2), .val (.ref ya3), .val (.ref ya4), .val (.int (1 : Int32)), .val (.int (1 : Int32)), .val (.ref b3), .val (.ref b6), .val (.ref b8), .val (.ref b12), .val (.ref b15), .val (.ref b17), .unset, .unset, .unset, .unset, .unset, .unset, .unset, .unset, .unset] [(.ref b19)]))
  refine Gets.of (fun t k => XS.astore X19.here hx rfl (hb hby d13_65) rfl rfl (l' := #[.val (.ref ya1), .val (.ref ya2), .val (.ref ya3), .val (.ref ya4), .val (.int (1 : Int32)), .val (.int (1 : Int32)), .val (.ref b3), .val (.ref b6), .val (.ref b8), .val (.ref b12), .val (.ref b15), .val (.ref b17), .val (.ref b19), .unset, .unset, .unset, .unset, .unset, .unset, .unset, .unset]) rfl k) ?_
  show Gets p e below _ (T19.setTop (mkF m 67 #[.val (.ref ya1), .val (.ref ya2), .val (.ref ya3), .val (.ref ya4), .val (.int (1 : Int32)), .val (.int (1 : Int32)), .val (.ref b3), .val (.ref b6), .val (.ref b8), .val (.ref b12), .val (.ref b15), .val (.ref b17), .val (.ref b19), .unset, .unset, .unset, .unset, .unset, .unset, .unset, .unset] []))
  refine Gets.of (fun t k => XS.aload X19.here hx rfl (hb hby d13_67) rfl rfl  k) ?_
  refine Gets.of (fun t k => XS.iconst X19.here hx rfl (hb hby d13_69) k) ?_
  have f21 : Arv Z h19 b15 k15 .int (1 : Int32) [(.int (0 : Int32))] (.int (0 : Int32)) := ((V15.ext E17).ext E19)
  obtain ⟨_, _, ⟨T22, L22, k22, n22⟩, -, X22, ⟨Lc22, hQ22, l22, y22, z22⟩, st22⟩ := Jvm.LawKit.callS X19 hx (y := (⟨cn2, "fill", "([II)V"⟩ : MethodName)) hown (mvT hZ (w29 hw)) (mvT hZ (w30 hw)) (mvT hZ (w31 hw)) (mvT hZ (w32 hw)) (by decide) (backOf (W := 0) (r6_fill l Z a0 hw [] b15 k15 h19 n0 O20 f21 g_b15) hZ (w32 hw) (w31 hw) (by decide) (by decide)) (g := (mkF m 70 #[.val (.ref ya1), .val (.ref ya2), .val (.ref ya3), .val (.ref ya4), .val (.int (1 : Int32)), .val (.int (1 : Int32)), .val (.ref b3), .val (.ref b6), .val (.ref b8), .val (.ref b12), .val (.ref b15), .val (.ref b17), .val (.ref b19), .unset, .unset, .unset, .unset, .unset, .unset, .unset, .unset] [(.int (-1 : Int32)), (.ref b15)])) rfl (by rw [hml]; rfl) (argsL := [(.ref b15), (.int (-1 : Int32))]) (rest := []) (lenOf pd__II_V rfl) rfl (by show 2 * 0 + _ ≤ _; exact Nat.le_of_eq rfl) (hb hby d13_70) (fun _ _ => ⟨rfl, e19, (by decide : 7 + 0 ≤ _), (by decide : 23 + 0 ≤ _)⟩)
  dsimp only [Pt.U, Pt.locs, Pt.cells, Pt.slots] at X22 l22 y22 z22 st22 hQ22
  subst l22 y22 z22
  obtain ⟨Nq22, Kq22, hR22⟩ := hQ22
  have N22 := Fr.app N10 Nq22
  have K23 : Keep h0 _ [] := K20.trans Kq22 (allS (Or.inr sz_b15) all0)
  have O23 := O20.keep Kq22 (allS g_b15 all0)
  obtain ⟨rfl, bf22_0⟩ := hR22
  refine Gets.of st22 ?_
  show Gets p e below _ (T22.setTop (mkF m 73 #[.val (.ref ya1), .val (.ref ya2), .val (.ref ya3), .val (.ref ya4), .val (.int (1 : Int32)), .val (.int (1 : Int32)), .val (.ref b3), .val (.ref b6), .val (.ref b8), .val (.ref b12), .val (.ref b15), .val (.ref b17), .val (.ref b19), .unset, .unset, .unset, .unset, .unset, .unset, .unset, .unset] []))
  refine Gets.of (fun t k => XS.aload X22.here hx rfl (hb hby d13_73) rfl rfl  k) ?_
  refine Gets.of (fun t k => XS.iconst X22.here hx rfl (hb hby d13_75) k) ?_
  have f24 : Arv Z T22.heap b17 k17 .int (1 : Int32) [(.int (0 : Int32))] (.int (0 : Int32)) := ((V17.ext E19).keep Kq22 (ninS (Nat.ne_of_gt (Nat.lt_of_lt_of_le V15.lt (Nat.le_of_eq g17.symm))) nin0))
  obtain ⟨_, _, ⟨T25, L25, k25, n25⟩, -, X25, ⟨Lc25, hQ25, l25, y25, z25⟩, st25⟩ := Jvm.LawKit.callS X22 hx (y := (⟨cn2, "fill", "([II)V"⟩ : MethodName)) hown (mvT hZ (w29 hw)) (mvT hZ (w30 hw)) (mvT hZ (w31 hw)) (mvT hZ (w32 hw)) (by decide) (backOf (W := 0) (r6_fill l Z a0 hw [] b17 k17 T22.heap n0 O23 f24 g_b17) hZ (w32 hw) (w31 hw) (by decide) (by decide)) (g := (mkF m 76 #[.val (.ref ya1), .val (.ref ya2), .val (.ref ya3), .val (.ref ya4), .val (.int (1 : Int32)), .val (.int (1 : Int32)), .val (.ref b3), .val (.ref b6), .val (.ref b8), .val (.ref b12), .val (.ref b15), .val (.ref b17), .val (.ref b19), .unset, .unset, .unset, .unset, .unset, .unset, .unset, .unset] [(.int (-1 : Int32)), (.ref b17)])) rfl (by rw [hml]; rfl) (argsL := [(.ref b17), (.int (-1 : Int32))]) (rest := []) (lenOf pd__II_V rfl) rfl (by show 2 * 0 + _ ≤ _; exact Nat.le_of_eq rfl) (hb hby d13_76) (fun _ _ => ⟨rfl, rfl, (by decide : 7 + 0 ≤ _), (by decide : 23 + 0 ≤ _)⟩)
  dsimp only [Pt.U, Pt.locs, Pt.cells, Pt.slots] at X25 l25 y25 z25 st25 hQ25
  subst l25 y25 z25
  obtain ⟨Nq25, Kq25, hR25⟩ := hQ25
  have N25 := Fr.app N22 Nq25
  have K26 : Keep h0 _ [] := K23.trans Kq25 (allS (Or.inr sz_b17) all0)
  have O26 := O23.keep Kq25 (allS g_b17 all0)
  obtain ⟨rfl, bf25_0⟩ := hR25
  refine Gets.of st25 ?_
  show Gets p e below _ (T25.setTop (mkF m 79 #[.val (.ref ya1), .val (.ref ya2), .val (.ref ya3), .val (.ref ya4), .val (.int (1 : Int32)), .val (.int (1 : Int32)), .val (.ref b3), .val (.ref b6), .val (.ref b8), .val (.ref b12), .val (.ref b15), .val (.ref b17), .val (.ref b19), .unset, .unset, .unset, .unset, .unset, .unset, .unset, .unset] []))
  refine Gets.of (fun t k => XS.iconst X25.here hx rfl (hb hby d13_79) k) ?_
  refine Gets.of (fun t k => XS.istore X25.here hx rfl (hb hby d13_80) rfl (l' := #[.val (.ref ya1), .val (.ref ya2), .val (.ref ya3), .val (.ref ya4), .val (.int (1 : Int32)), .val (.int (1 : Int32)), .val (.ref b3), .val (.ref b6), .val (.ref b8), .val (.ref b12), .val (.ref b15), .val (.ref b17), .val (.ref b19), .val (.int (0 : Int32)), .unset, .unset, .unset, .unset, .unset, .unset, .unset]) rfl k) ?_
  show Gets p e below _ (T25.setTop (mkF m 82 #[.val (.ref ya1), .val (.ref ya2), .val (.ref ya3), .val (.ref ya4), .val (.int (1 : Int32)), .val (.int (1 : Int32)), .val (.ref b3), .val (.ref b6), .val (.ref b8), .val (.ref b12), .val (.ref b15), .val (.ref b17), .val (.ref b19), .val (.int (0 : Int32)), .unset, .unset, .unset, .unset, .unset, .unset, .unset] []))
  refine Gets.of (fun t k => XS.iconst X25.here hx rfl (hb hby d13_82) k) ?_
  refine Gets.of (fun t k => XS.istore X25.here hx rfl (hb hby d13_83) rfl (l' := #[.val (.ref ya1), .val (.ref ya2), .val (.ref ya3), .val (.ref ya4), .val (.int (1 : Int32)), .val (.int (1 : Int32)), .val (.ref b3), .val (.ref b6), .val (.ref b8), .val (.ref b12), .val (.ref b15), .val (.ref b17), .val (.ref b19), .val (.int (0 : Int32)), .val (.int (0 : Int32)), .unset, .unset, .unset, .unset, .unset, .unset]) rfl k) ?_
  show Gets p e below _ (T25.setTop (mkF m 85 #[.val (.ref ya1), .val (.ref ya2), .val (.ref ya3), .val (.ref ya4), .val (.int (1 : Int32)), .val (.int (1 : Int32)), .val (.ref b3), .val (.ref b6), .val (.ref b8), .val (.ref b12), .val (.ref b15), .val (.ref b17), .val (.ref b19), .val (.int (0 : Int32)), .val (.int (0 : Int32)), .unset, .unset, .unset, .unset, .unset, .unset] []))
  refine Gets.of (fun t k => XS.iload X25.here hx rfl (hb hby d13_85) rfl  k) ?_
  refine Gets.of (fun t k => XS.iload X25.here hx rfl (hb hby d13_87) rfl  k) ?_
  refine Gets.of (fun t k => XS.icmpNo X25.here hx rfl (hb hby d13_89) rfl (tlt (by decide : (0 : Int32) < (1 : Int32))).2.1 k) ?_
  show Gets p e below _ (T25.setTop (mkF m 92 #[.val (.ref ya1), .val (.ref ya2), .val (.ref ya3), .val (.ref ya4), .val (.int (1 : Int32)), .val (.int (1 : Int32)), .val (.ref b3), .val (.ref b6), .val (.ref b8), .val (.ref b12), .val (.ref b15), .val (.ref b17), .val (.ref b19), .val (.int (0 : Int32)), .val (.int (0 : Int32)), .unset, .unset, .unset, .unset, .unset, .unset] []))
  refine Gets.of (fun t k => XS.aloadN X25.here hx rfl (hb hby d13_92) rfl rfl  k) ?_
  refine Gets.of (fun t k => XS.iload X25.here hx rfl (hb hby d13_93) rfl  k) ?_
  refine Gets.of (fun t k => XS.iconst X25.here hx rfl (hb hby d13_95) k) ?_
  refine Gets.of (fun t k => XS.iadd X25.here hx rfl (hb hby d13_96) rfl k) ?_
  show Gets p e below _ (T25.setTop (mkF m 97 #[.val (.ref ya1), .val (.ref ya2), .val (.ref ya3), .val (.ref ya4), .val (.int (1 : Int32)), .val (.int (1 : Int32)), .val (.ref b3), .val (.ref b6), .val (.ref b8), .val (.ref b12), .val (.ref b15), .val (.ref b17), .val (.ref b19), .val (.int (0 : Int32)), .val (.int (0 : Int32)), .unset, .unset, .unset, .unset, .unset, .unset] [(.int (1 : Int32)), (.ref ya4)]))
  have f27 : Arv Z T25.heap ya4 yk9 .int (2 : Int32) [(.int (0 : Int32)), (.int (1 : Int32))] (.int (0 : Int32)) := ((((((((((F1.ext E3).ext E6).ext E8).keep Kq10 (ninS (Nat.ne_of_lt (Nat.lt_of_lt_of_le F1.lt sz_b8)) nin0)).ext E12).ext E15).ext E17).ext E19).keep Kq22 (ninS (Nat.ne_of_lt (Nat.lt_of_lt_of_le F1.lt sz_b15)) nin0)).keep Kq25 (ninS (Nat.ne_of_lt (Nat.lt_of_lt_of_le F1.lt sz_b17)) nin0))
  obtain ⟨cl28, Ar28, q28, S28, N_28, H28, G28⟩ := id (f27)
  have hin28 : ¬ ((1 : Int32) < 0 ∨ cl28.slots.size ≤ ((1 : Int32)).toNatClampNeg) := inb_of S28 ⟨by decide, by decide⟩
  refine Gets.of (fun t k => X25.iaload hx (j := (1 : Int32)) (v := (.int (1 : Int32))) Ar28.1 (State.isArrayOf_alike hZ.alike Ar28.2.1) Ar28.2.2 hin28 (Has.at H28 hin28 rfl) (g := (mkF m 97 #[.val (.ref ya1), .val (.ref ya2), .val (.ref ya3), .val (.ref ya4), .val (.int (1 : Int32)), .val (.int (1 : Int32)), .val (.ref b3), .val (.ref b6), .val (.ref b8), .val (.ref b12), .val (.ref b15), .val (.ref b17), .val (.ref b19), .val (.int (0 : Int32)), .val (.int (0 : Int32)), .unset, .unset, .unset, .unset, .unset, .unset] [(.int (1 : Int32)), (.ref ya4)])) rfl rfl (hb hby d13_97) t k) ?_
  show Gets p e below _ (T25.setTop (mkF m 98 #[.val (.ref ya1), .val (.ref ya2), .val (.ref ya3), .val (.ref ya4), .val (.int (1 : Int32)), .val (.int (1 : Int32)), .val (.ref b3), .val (.ref b6), .val (.ref b8), .val (.ref b12), .val (.ref b15), .val (.ref b17), .val (.ref b19), .val (.int (0 : Int32)), .val (.int (0 : Int32)), .unset, .unset, .unset, .unset, .unset, .unset] [(.int (1 : Int32))]))
  refine Gets.of (fun t k => XS.iconst X25.here hx rfl (hb hby d13_98) k) ?_
  refine Gets.of (fun t k => XS.isub X25.here hx rfl (hb hby d13_99) rfl k) ?_
  show Gets p e below _ (T25.setTop (mkF m 100 #[.val (.ref ya1), .val (.ref ya2), .val (.ref ya3), .val (.ref ya4), .val (.int (1 : Int32)), .val (.int (1 : Int32)), .val (.ref b3), .val (.ref b6), .val (.ref b8), .val (.ref b12), .val (.ref b15), .val (.ref b17), .val (.ref b19), .val (.int (0 : Int32)), .val (.int (0 : Int32)), .unset, .unset, .unset, .unset, .unset, .unset] [(.int (0 : Int32))]))
  refine Gets.of (fun t k => XS.istore X25.here hx rfl (hb hby d13_100) rfl (l' := #[.val (.ref ya1), .val (.ref ya2), .val (.ref ya3), .val (.ref ya4), .val (.int (1 : Int32)), .val (.int (1 : Int32)), .val (.ref b3), .val (.ref b6), .val (.ref b8), .val (.ref b12), .val (.ref b15), .val (.ref b17), .val (.ref b19), .val (.int (0 : Int32)), .val (.int (0 : Int32)), .val (.int (0 : Int32)), .unset, .unset, .unset, .unset, .unset]) rfl k) ?_
  show Gets p e below _ (T25.setTop (mkF m 102 #[.val (.ref ya1), .val (.ref ya2), .val (.ref ya3), .val (.ref ya4), .val (.int (1 : Int32)), .val (.int (1 : Int32)), .val (.ref b3), .val (.ref b6), .val (.ref b8), .val (.ref b12), .val (.ref b15), .val (.ref b17), .val (.ref b19), .val (.int (0 : Int32)), .val (.int (0 : Int32)), .val (.int (0 : Int32)), .unset, .unset, .unset, .unset, .unset] []))
  refine Gets.of (fun t k => XS.aload X25.here hx rfl (hb hby d13_102) rfl rfl  k) ?_
  refine Gets.of (fun t k => XS.iload X25.here hx rfl (hb hby d13_104) rfl  k) ?_
  refine Gets.of (fun t k => XS.iload X25.here hx rfl (hb hby d13_106) rfl  k) ?_
  have f29 : Arv Z T25.heap b3 k3 .int (2 : Int32) [(.int (0 : Int32)), (.int (0 : Int32))] (.int (0 : Int32)) := (((((((((V3.ext E6).ext E8).keep Kq10 (ninS (Nat.ne_of_lt (Nat.lt_of_lt_of_le (Nat.lt_of_lt_of_le V3.lt E6.1) (Nat.le_of_eq g8.symm))) nin0)).ext E12).ext E15).ext E17).ext E19).keep Kq22 (ninS (Nat.ne_of_lt (Nat.lt_of_lt_of_le (Nat.lt_of_lt_of_le (Nat.lt_of_lt_of_le (Nat.lt_of_lt_of_le (Nat.lt_of_lt_of_le V3.lt E6.1) E8.1) up13) E12.1) (Nat.le_of_eq g15.symm))) nin0)).keep Kq25 (ninS (Nat.ne_of_lt (Nat.lt_of_lt_of_le (Nat.lt_of_lt_of_le (Nat.lt_of_lt_of_le (Nat.lt_of_lt_of_le (Nat.lt_of_lt_of_le (Nat.lt_of_lt_of_le V3.lt E6.1) E8.1) up13) E12.1) E15.1) (Nat.le_of_eq g17.symm))) nin0))
  obtain ⟨cl30, Ar30, q30, S30, N_30, H30, G30⟩ := id (f29)
  have hin30 : ¬ ((0 : Int32) < 0 ∨ cl30.slots.size ≤ ((0 : Int32)).toNatClampNeg) := inb_of S30 ⟨by decide, by decide⟩
  obtain ⟨T31, h31, X31, e31, W31, st31⟩ := stI X25 hx hZ rfl Ar30 (j := (0 : Int32)) hin30 (g := (mkF m 108 #[.val (.ref ya1), .val (.ref ya2), .val (.ref ya3), .val (.ref ya4), .val (.int (1 : Int32)), .val (.int (1 : Int32)), .val (.ref b3), .val (.ref b6), .val (.ref b8), .val (.ref b12), .val (.ref b15), .val (.ref b17), .val (.ref b19), .val (.int (0 : Int32)), .val (.int (0 : Int32)), .val (.int (0 : Int32)), .unset, .unset, .unset, .unset, .unset] [(.int (0 : Int32)), (.int (0 : Int32)), (.ref b3)])) rfl rfl (hb hby d13_108)
  have V31 : Arv Z h31 b3 k3 .int (2 : Int32) [(.int (0 : Int32)), (.int (0 : Int32))] (.int (0 : Int32)) := Arv.set Ar30 q30 S30 N_30 H30 G30 rfl W31 0 rfl (Nat.le_of_ble_eq_true rfl)
  have N31 := Fr.snoc X31 N25 g_b3
  have K32 : Keep h0 _ [] := K26.wr W31 (Or.inr sz_b3)
  have O32 := O26.wr W31 g_b3
  refine Gets.of st31 ?_
  show Gets p e below _ (T31.setTop (mkF m 109 #[.val (.ref ya1), .val (.ref ya2), .val (.ref ya3), .val (.ref ya4), .val (.int (1 : Int32)), .val (.int (1 : Int32)), .val (.ref b3), .val (.ref b6), .val (.ref b8), .val (.ref b12), .val (.ref b15), .val (.ref b17), .val (.ref b19), .val (.int (0 : Int32)), .val (.int (0 : Int32)), .val (.int (0 : Int32)), .unset, .unset, .unset, .unset, .unset] []))
  refine Gets.of (fun t k => XS.aload X31.here hx rfl (hb hby d13_109) rfl rfl  k) ?_
  refine Gets.of (fun t k => XS.iload X31.here hx rfl (hb hby d13_111) rfl  k) ?_
  refine Gets.of (fun t k => XS.iload X31.here hx rfl (hb hby d13_113) rfl  k) ?_
  refine Gets.of (fun t k => XS.iconst X31.here hx rfl (hb hby d13_115) k) ?_
  show Gets p e below _ (T31.setTop (mkF m 116 #[.val (.ref ya1), .val (.ref ya2), .val (.ref ya3), .val (.ref ya4), .val (.int (1 : Int32)), .val (.int (1 : Int32)), .val (.ref b3), .val (.ref b6), .val (.ref b8), .val (.ref b12), .val (.ref b15), .val (.ref b17), .val (.ref b19), .val (.int (0 : Int32)), .val (.int (0 : Int32)), .val (.int (0 : Int32)), .unset, .unset, .unset, .unset, .unset] [(.int (1 : Int32)), (.int (0 : Int32)), (.int (0 : Int32)), (.ref b6)]))
  refine Gets.of (fun t k => XS.iadd X31.here hx rfl (hb hby d13_116) rfl k) ?_
  show Gets p e below _ (T31.setTop (mkF m 117 #[.val (.ref ya1), .val (.ref ya2), .val (.ref ya3), .val (.ref ya4), .val (.int (1 : Int32)), .val (.int (1 : Int32)), .val (.ref b3), .val (.ref b6), .val (.ref b8), .val (.ref b12), .val (.ref b15), .val (.ref b17), .val (.ref b19), .val (.int (0 : Int32)), .val (.int (0 : Int32)), .val (.int (0 : Int32)), .unset, .unset, .unset, .unset, .unset] [(.int (1 : Int32)), (.int (0 : Int32)), (.ref b6)]))
  refine Gets.of (fun t k => XS.aloadN X31.here hx rfl (hb hby d13_117) rfl rfl  k) ?_
  refine Gets.of (fun t k => XS.iload X31.here hx rfl (hb hby d13_118) rfl  k) ?_
  have f33 : Arv Z h31 ya4 yk9 .int (2 : Int32) [(.int (0 : Int32)), (.int (1 : Int32))] (.int (0 : Int32)) := (f27.other W31 (Nat.ne_of_lt (Nat.lt_of_lt_of_le F1.lt sz_b3)))
  obtain ⟨cl34, Ar34, q34, S34, N_34, H34, G34⟩ := id (f33)
  have hin34 : ¬ ((0 : Int32) < 0 ∨ cl34.slots.size ≤ ((0 : Int32)).toNatClampNeg) := inb_of S34 ⟨by decide, by decide⟩
  refine Gets.of (fun t k => X31.iaload hx (j := (0 : Int32)) (v := (.int (0 : Int32))) (by rw [e31]; exact Ar34.1) (State.isArrayOf_alike hZ.alike Ar34.2.1) Ar34.2.2 hin34 (Has.at H34 hin34 rfl) (g := (mkF m 120 #[.val (.ref ya1), .val (.ref ya2), .val (.ref ya3), .val (.ref ya4), .val (.int (1 : Int32)), .val (.int (1 : Int32)), .val (.ref b3), .val (.ref b6), .val (.ref b8), .val (.ref b12), .val (.ref b15), .val (.ref b17), .val (.ref b19), .val (.int (0 : Int32)), .val (.int (0 : Int32)), .val (.int (0 : Int32)), .unset, .unset, .unset, .unset, .unset] [(.int (0 : Int32)), (.ref ya4), (.int (1 : Int32)), (.int (0 : Int32)), (.ref b6)])) rfl rfl (hb hby d13_120) t k) ?_
  show Gets p e below _ (T31.setTop (mkF m 121 #[.val (.ref ya1), .val (.ref ya2), .val (.ref ya3), .val (.ref ya4), .val (.int (1 : Int32)), .val (.int (1 : Int32)), .val (.ref b3), .val (.ref b6), .val (.ref b8), .val (.ref b12), .val (.ref b15), .val (.ref b17), .val (.ref b19), .val (.int (0 : Int32)), .val (.int (0 : Int32)), .val (.int (0 : Int32)), .unset, .unset, .unset, .unset, .unset] [(.int (0 : Int32)), (.int (1 : Int32)), (.int (0 : Int32)), (.ref b6)]))
  refine Gets.of (fun t k => XS.isub X31.here hx rfl (hb hby d13_121) rfl k) ?_
  show Gets p e below _ (T31.setTop (mkF m 122 #[.val (.ref ya1), .val (.ref ya2), .val (.ref ya3), .val (.ref ya4), .val (.int (1 : Int32)), .val (.int (1 : Int32)), .val (.ref b3), .val (.ref b6), .val (.ref b8), .val (.ref b12), .val (.ref b15), .val (.ref b17), .val (.ref b19), .val (.int (0 : Int32)), .val (.int (0 : Int32)), .val (.int (0 : Int32)), .unset, .unset, .unset, .unset, .unset] [(.int (1 : Int32)), (.int (0 : Int32)), (.ref b6)]))
  have f35 : Arv Z h31 b6 k6 .int (16 : Int32) [(.int (0 : Int32)), (.int (0 : Int32)), (.int (0 : Int32)), (.int (0 : Int32)), (.int (0 : Int32)), (.int (0 : Int32)), (.int (0 : Int32)), (.int (0 : Int32)), (.int (0 : Int32)), (.int (0 : Int32)), (.int (0 : Int32)), (.int (0 : Int32)), (.int (0 : Int32)), (.int (0 : Int32)), (.int (0 : Int32)), (.int (0 : Int32))] (.int (0 : Int32)) := (((((((((V6.ext E8).keep Kq10 (ninS (Nat.ne_of_lt (Nat.lt_of_lt_of_le V6.lt (Nat.le_of_eq g8.symm))) nin0)).ext E12).ext E15).ext E17).ext E19).keep Kq22 (ninS (Nat.ne_of_lt (Nat.lt_of_lt_of_le (Nat.lt_of_lt_of_le (Nat.lt_of_lt_of_le (Nat.lt_of_lt_of_le V6.lt E8.1) up13) E12.1) (Nat.le_of_eq g15.symm))) nin0)).keep Kq25 (ninS (Nat.ne_of_lt (Nat.lt_of_lt_of_le (Nat.lt_of_lt_of_le (Nat.lt_of_lt_of_le (Nat.lt_of_lt_of_le (Nat.lt_of_lt_of_le V6.lt E8.1) up13) E12.1) E15.1) (Nat.le_of_eq g17.symm))) nin0)).other W31 (Nat.ne_of_gt (Nat.lt_of_lt_of_le V3.lt (Nat.le_of_eq g6.symm))))
  obtain ⟨_, _, ⟨T36, L36, k36, n36⟩, -, X36, ⟨Lc36, hQ36, l36, y36, z36⟩, st36⟩ := Jvm.LawKit.callS X31 hx (y := (⟨cn0, "room", "([III)[I"⟩ : MethodName)) hown (mvT hZ (w65 hw)) (mvT hZ (w66 hw)) (mvT hZ (w16 hw)) (mvT hZ (w67 hw)) (by decide) (backOf (W := 0) (r14_room l Z a0 hw [] b6 k6 h31 n0 O32 f35) hZ (w67 hw) (w16 hw) (by decide) (by decide)) (g := (mkF m 122 #[.val (.ref ya1), .val (.ref ya2), .val (.ref ya3), .val (.ref ya4), .val (.int (1 : Int32)), .val (.int (1 : Int32)), .val (.ref b3), .val (.ref b6), .val (.ref b8), .val (.ref b12), .val (.ref b15), .val (.ref b17), .val (.ref b19), .val (.int (0 : Int32)), .val (.int (0 : Int32)), .val (.int (0 : Int32)), .unset, .unset, .unset, .unset, .unset] [(.int (1 : Int32)), (.int (0 : Int32)), (.ref b6)])) rfl (by rw [hml]; rfl) (argsL := [(.ref b6), (.int (0 : Int32)), (.int (1 : Int32))]) (rest := []) (lenOf pd__III_I rfl) rfl (by show 2 * 0 + _ ≤ _; exact Nat.le_of_eq rfl) (hb hby d13_122) (fun _ _ => ⟨rfl, e31, (by decide : 7 + 0 ≤ _), (by decide : 23 + 0 ≤ _)⟩)
  dsimp only [Pt.U, Pt.locs, Pt.cells, Pt.slots] at X36 l36 y36 z36 st36 hQ36
  subst l36 y36 z36
  obtain ⟨Nq36, eq36, hR36⟩ := hQ36
  have N36 := Fr.app N31 Nq36
  obtain rfl := hR36
  refine Gets.of st36 ?_
  show Gets p e below _ (T36.setTop (mkF m 125 #[.val (.ref ya1), .val (.ref ya2), .val (.ref ya3), .val (.ref ya4), .val (.int (1 : Int32)), .val (.int (1 : Int32)), .val (.ref b3), .val (.ref b6), .val (.ref b8), .val (.ref b12), .val (.ref b15), .val (.ref b17), .val (.ref b19), .val (.int (0 : Int32)), .val (.int (0 : Int32)), .val (.int (0 : Int32)), .unset, .unset, .unset, .unset, .unset] [(.ref b6)]))
  refine Gets.of (fun t k => XS.astore X36.here hx rfl (hb hby d13_125) rfl rfl (l' := #[.val (.ref ya1), .val (.ref ya2), .val (.ref ya3), .val (.ref ya4), .val (.int (1 : Int32)), .val (.int (1 : Int32)), .val (.ref b3), .val (.ref b6), .val (.ref b8), .val (.ref b12), .val (.ref b15), .val (.ref b17), .val (.ref b19), .val (.int (0 : Int32)), .val (.int (0 : Int32)), .val (.int (0 : Int32)), .unset, .unset, .unset, .unset, .unset]) rfl k) ?_
  show Gets p e below _ (T36.setTop (mkF m 127 #[.val (.ref ya1), .val (.ref ya2), .val (.ref ya3), .val (.ref ya4), .val (.int (1 : Int32)), .val (.int (1 : Int32)), .val (.ref b3), .val (.ref b6), .val (.ref b8), .val (.ref b12), .val (.ref b15), .val (.ref b17), .val (.ref b19), .val (.int (0 : Int32)), .val (.int (0 : Int32)), .val (.int (0 : Int32)), .unset, .unset, .unset, .unset, .unset] []))
  refine Gets.of (fun t k => XS.aloadN X36.here hx rfl (hb hby d13_127) rfl rfl  k) ?_
  refine Gets.of (fun t k => XS.iload X36.here hx rfl (hb hby d13_128) rfl  k) ?_
  obtain ⟨cl37, Ar37, q37, S37, N_37, H37, G37⟩ := id (f33)
  have hin37 : ¬ ((0 : Int32) < 0 ∨ cl37.slots.size ≤ ((0 : Int32)).toNatClampNeg) := inb_of S37 ⟨by decide, by decide⟩
  refine Gets.of (fun t k => X36.iaload hx (j := (0 : Int32)) (v := (.int (0 : Int32))) (by rw [eq36]; exact Ar37.1) (State.isArrayOf_alike hZ.alike Ar37.2.1) Ar37.2.2 hin37 (Has.at H37 hin37 rfl) (g := (mkF m 130 #[.val (.ref ya1), .val (.ref ya2), .val (.ref ya3), .val (.ref ya4), .val (.int (1 : Int32)), .val (.int (1 : Int32)), .val (.ref b3), .val (.ref b6), .val (.ref b8), .val (.ref b12), .val (.ref b15), .val (.ref b17), .val (.ref b19), .val (.int (0 : Int32)), .val (.int (0 : Int32)), .val (.int (0 : Int32)), .unset, .unset, .unset, .unset, .unset] [(.int (0 : Int32)), (.ref ya4)])) rfl rfl (hb hby d13_130) t k) ?_
  show Gets p e below _ (T36.setTop (mkF m 131 #[.val (.ref ya1), .val (.ref ya2), .val (.ref ya3), .val (.ref ya4), .val (.int (1 : Int32)), .val (.int (1 : Int32)), .val (.ref b3), .val (.ref b6), .val (.ref b8), .val (.ref b12), .val (.ref b15), .val (.ref b17), .val (.ref b19), .val (.int (0 : Int32)), .val (.int (0 : Int32)), .val (.int (0 : Int32)), .unset, .unset, .unset, .unset, .unset] [(.int (0 : Int32))]))
  refine Gets.of (fun t k => XS.istore X36.here hx rfl (hb hby d13_131) rfl (l' := #[.val (.ref ya1), .val (.ref ya2), .val (.ref ya3), .val (.ref ya4), .val (.int (1 : Int32)), .val (.int (1 : Int32)), .val (.ref b3), .val (.ref b6), .val (.ref b8), .val (.ref b12), .val (.ref b15), .val (.ref b17), .val (.ref b19), .val (.int (0 : Int32)), .val (.int (0 : Int32)), .val (.int (0 : Int32)), .val (.int (0 : Int32)), .unset, .unset, .unset, .unset]) rfl k) ?_
  show Gets p e below _ (T36.setTop (mkF m 133 #[.val (.ref ya1), .val (.ref ya2), .val (.ref ya3), .val (.ref ya4), .val (.int (1 : Int32)), .val (.int (1 : Int32)), .val (.ref b3), .val (.ref b6), .val (.ref b8), .val (.ref b12), .val (.ref b15), .val (.ref b17), .val (.ref b19), .val (.int (0 : Int32)), .val (.int (0 : Int32)), .val (.int (0 : Int32)), .val (.int (0 : Int32)), .unset, .unset, .unset, .unset] []))
  refine Gets.of (fun t k => XS.iload X36.here hx rfl (hb hby d13_133) rfl  k) ?_
  refine Gets.of (fun t k => XS.iload X36.here hx rfl (hb hby d13_135) rfl  k) ?_
  refine Gets.of (fun t k => XS.icmpNo X36.here hx rfl (hb hby d13_137) rfl (flt (by decide : ¬ ((0 : Int32) < (0 : Int32)))).2.2.1 k) ?_
  show Gets p e below _ (T36.setTop (mkF m 140 #[.val (.ref ya1), .val (.ref ya2), .val (.ref ya3), .val (.ref ya4), .val (.int (1 : Int32)), .val (.int (1 : Int32)), .val (.ref b3), .val (.ref b6), .val (.ref b8), .val (.ref b12), .val (.ref b15), .val (.ref b17), .val (.ref b19), .val (.int (0 : Int32)), .val (.int (0 : Int32)), .val (.int (0 : Int32)), .val (.int (0 : Int32)), .unset, .unset, .unset, .unset] []))
  refine Gets.of (fun t k => XS.aload X36.here hx rfl (hb hby d13_140) rfl rfl  k) ?_
  refine Gets.of (fun t k => XS.iload X36.here hx rfl (hb hby d13_142) rfl  k) ?_
  refine Gets.of (fun t k => XS.iload X36.here hx rfl (hb hby d13_144) rfl  k) ?_
  have f38 : Arv Z h31 b8 k8 .int (1 : Int32) [(.int (-1 : Int32))] (.int (0 : Int32)) := (((((((bf10_0.ext E12).ext E15).ext E17).ext E19).keep Kq22 (ninS (Nat.ne_of_lt (Nat.lt_of_lt_of_le (Nat.lt_of_lt_of_le (Nat.lt_of_lt_of_le V8.lt up13) E12.1) (Nat.le_of_eq g15.symm))) nin0)).keep Kq25 (ninS (Nat.ne_of_lt (Nat.lt_of_lt_of_le (Nat.lt_of_lt_of_le (Nat.lt_of_lt_of_le (Nat.lt_of_lt_of_le V8.lt up13) E12.1) E15.1) (Nat.le_of_eq g17.symm))) nin0)).other W31 (Nat.ne_of_gt (Nat.lt_of_lt_of_le (Nat.lt_of_lt_of_le V3.lt E6.1) (Nat.le_of_eq g8.symm))))
  obtain ⟨cl39, Ar39, q39, S39, N_39, H39, G39⟩ := id (f38)
  have hin39 : ¬ ((0 : Int32) < 0 ∨ cl39.slots.size ≤ ((0 : Int32)).toNatClampNeg) := inb_of S39 ⟨by decide, by decide⟩
  obtain ⟨T40, h40, X40, e40, W40, st40⟩ := stI X36 hx hZ eq36 Ar39 (j := (0 : Int32)) hin39 (g := (mkF m 146 #[.val (.ref ya1), .val (.ref ya2), .val (.ref ya3), .val (.ref ya4), .val (.int (1 : Int32)), .val (.int (1 : Int32)), .val (.ref b3), .val (.ref b6), .val (.ref b8), .val (.ref b12), .val (.ref b15), .val (.ref b17), .val (.ref b19), .val (.int (0 : Int32)), .val (.int (0 : Int32)), .val (.int (0 : Int32)), .val (.int (0 : Int32)), .unset, .unset, .unset, .unset] [(.int (0 : Int32)), (.int (0 : Int32)), (.ref b8)])) rfl rfl (hb hby d13_146)
  have V40 : Arv Z h40 b8 k8 .int (1 : Int32) [(.int (0 : Int32))] (.int (0 : Int32)) := Arv.set Ar39 q39 S39 N_39 H39 G39 rfl W40 0 rfl (Nat.le_of_ble_eq_true rfl)
  have N40 := Fr.snoc X40 N36 g_b8
  have K41 : Keep h0 _ [] := K32.wr W40 (Or.inr sz_b8)
  have O41 := O32.wr W40 g_b8
  refine Gets.of st40 ?_
  show Gets p e below _ (T40.setTop (mkF m 147 #[.val (.ref ya1), .val (.ref ya2), .val (.ref ya3), .val (.ref ya4), .val (.int (1 : Int32)), .val (.int (1 : Int32)), .val (.ref b3), .val (.ref b6), .val (.ref b8), .val (.ref b12), .val (.ref b15), .val (.ref b17), .val (.ref b19), .val (.int (0 : Int32)), .val (.int (0 : Int32)), .val (.int (0 : Int32)), .val (.int (0 : Int32)), .unset, .unset, .unset, .unset] []))
  refine Gets.of (fun t k => XS.aload X40.here hx rfl (hb hby d13_147) rfl rfl  k) ?_
  refine Gets.of (fun t k => XS.iload X40.here hx rfl (hb hby d13_149) rfl  k) ?_
  refine Gets.of (fun t k => XS.iinc X40.here hx rfl (hb hby d13_151) rfl (l' := #[.val (.ref ya1), .val (.ref ya2), .val (.ref ya3), .val (.ref ya4), .val (.int (1 : Int32)), .val (.int (1 : Int32)), .val (.ref b3), .val (.ref b6), .val (.ref b8), .val (.ref b12), .val (.ref b15), .val (.ref b17), .val (.ref b19), .val (.int (1 : Int32)), .val (.int (0 : Int32)), .val (.int (0 : Int32)), .val (.int (0 : Int32)), .unset, .unset, .unset, .unset]) rfl k) ?_
  show Gets p e below _ (T40.setTop (mkF m 154 #[.val (.ref ya1), .val (.ref ya2), .val (.ref ya3), .val (.ref ya4), .val (.int (1 : Int32)), .val (.int (1 : Int32)), .val (.ref b3), .val (.ref b6), .val (.ref b8), .val (.ref b12), .val (.ref b15), .val (.ref b17), .val (.ref b19), .val (.int (1 : Int32)), .val (.int (0 : Int32)), .val (.int (0 : Int32)), .val (.int (0 : Int32)), .unset, .unset, .unset, .unset] [(.int (0 : Int32)), (.ref b6)]))
  refine Gets.of (fun t k => XS.iload X40.here hx rfl (hb hby d13_154) rfl  k) ?_
  have f42 : Arv Z h40 b6 k6 .int (16 : Int32) [(.int (0 : Int32)), (.int (0 : Int32)), (.int (0 : Int32)), (.int (0 : Int32)), (.int (0 : Int32)), (.int (0 : Int32)), (.int (0 : Int32)), (.int (0 : Int32)), (.int (0 : Int32)), (.int (0 : Int32)), (.int (0 : Int32)), (.int (0 : Int32)), (.int (0 : Int32)), (.int (0 : Int32)), (.int (0 : Int32)), (.int (0 : Int32))] (.int (0 : Int32)) := (f35.other W40 (Nat.ne_of_lt (Nat.lt_of_lt_of_le V6.lt (Nat.le_of_eq g8.symm))))
  obtain ⟨cl43, Ar43, q43, S43, N_43, H43, G43⟩ := id (f42)
  have hin43 : ¬ ((0 : Int32) < 0 ∨ cl43.slots.size ≤ ((0 : Int32)).toNatClampNeg) := inb_of S43 ⟨by decide, by decide⟩
  obtain ⟨T44, h44, X44, e44, W44, st44⟩ := stI X40 hx hZ e40 Ar43 (j := (0 : Int32)) hin43 (g := (mkF m 156 #[.val (.ref ya1), .val (.ref ya2), .val (.ref ya3), .val (.ref ya4), .val (.int (1 : Int32)), .val (.int (1 : Int32)), .val (.ref b3), .val (.ref b6), .val (.ref b8), .val (.ref b12), .val (.ref b15), .val (.ref b17), .val (.ref b19), .val (.int (1 : Int32)), .val (.int (0 : Int32)), .val (.int (0 : Int32)), .val (.int (0 : Int32)), .unset, .unset, .unset, .unset] [(.int (0 : Int32)), (.int (0 : Int32)), (.ref b6)])) rfl rfl (hb hby d13_156)
  have V44 : Arv Z h44 b6 k6 .int (16 : Int32) [(.int (0 : Int32)), (.int (0 : Int32)), (.int (0 : Int32)), (.int (0 : Int32)), (.int (0 : Int32)), (.int (0 : Int32)), (.int (0 : Int32)), (.int (0 : Int32)), (.int (0 : Int32)), (.int (0 : Int32)), (.int (0 : Int32)), (.int (0 : Int32)), (.int (0 : Int32)), (.int (0 : Int32)), (.int (0 : Int32)), (.int (0 : Int32))] (.int (0 : Int32)) := Arv.set Ar43 q43 S43 N_43 H43 G43 rfl W44 0 rfl (Nat.le_of_ble_eq_true rfl)
  have N44 := Fr.snoc X44 N40 g_b6
  have K45 : Keep h0 _ [] := K41.wr W44 (Or.inr sz_b6)
  have O45 := O41.wr W44 g_b6
  refine Gets.of st44 ?_
  show Gets p e below _ (T44.setTop (mkF m 157 #[.val (.ref ya1), .val (.ref ya2), .val (.ref ya3), .val (.ref ya4), .val (.int (1 : Int32)), .val (.int (1 : Int32)), .val (.ref b3), .val (.ref b6), .val (.ref b8), .val (.ref b12), .val (.ref b15), .val (.ref b17), .val (.ref b19), .val (.int (1 : Int32)), .val (.int (0 : Int32)), .val (.int (0 : Int32)), .val (.int (0 : Int32)), .unset, .unset, .unset, .unset] []))
  refine Gets.of (fun t k => XS.iinc X44.here hx rfl (hb hby d13_157) rfl (l' := #[.val (.ref ya1), .val (.ref ya2), .val (.ref ya3), .val (.ref ya4), .val (.int (1 : Int32)), .val (.int (1 : Int32)), .val (.ref b3), .val (.ref b6), .val (.ref b8), .val (.ref b12), .val (.ref b15), .val (.ref b17), .val (.ref b19), .val (.int (1 : Int32)), .val (.int (0 : Int32)), .val (.int (0 : Int32)), .val (.int (1 : Int32)), .unset, .unset, .unset, .unset]) rfl k) ?_
  show Gets p e below _ (T44.setTop (mkF m 160 #[.val (.ref ya1), .val (.ref ya2), .val (.ref ya3), .val (.ref ya4), .val (.int (1 : Int32)), .val (.int (1 : Int32)), .val (.ref b3), .val (.ref b6), .val (.ref b8), .val (.ref b12), .val (.ref b15), .val (.ref b17), .val (.ref b19), .val (.int (1 : Int32)), .val (.int (0 : Int32)), .val (.int (0 : Int32)), .val (.int (1 : Int32)), .unset, .unset, .unset, .unset] []))
  refine Gets.of (fun t k => XS.goto X44.here hx rfl (pc0 := 160) (pc' := 133) rfl (hb hby d13_160) (by decide) (by decide) k) ?_
  show Gets p e below _ (T44.setTop (mkF m 133 #[.val (.ref ya1), .val (.ref ya2), .val (.ref ya3), .val (.ref ya4), .val (.int (1 : Int32)), .val (.int (1 : Int32)), .val (.ref b3), .val (.ref b6), .val (.ref b8), .val (.ref b12), .val (.ref b15), .val (.ref b17), .val (.ref b19), .val (.int (1 : Int32)), .val (.int (0 : Int32)), .val (.int (0 : Int32)), .val (.int (1 : Int32)), .unset, .unset, .unset, .unset] []))
  refine Gets.of (fun t k => XS.iload X44.here hx rfl (hb hby d13_133) rfl  k) ?_
  refine Gets.of (fun t k => XS.iload X44.here hx rfl (hb hby d13_135) rfl  k) ?_
  refine Gets.of (fun t k => XS.icmpYes X44.here hx rfl (pc0 := 137) (pc' := 163) rfl (hb hby d13_137) rfl (tlt (by decide : (0 : Int32) < (1 : Int32))).2.2.1 (by decide) (by decide) k) ?_
  show Gets p e below _ (T44.setTop (mkF m 163 #[.val (.ref ya1), .val (.ref ya2), .val (.ref ya3), .val (.ref ya4), .val (.int (1 : Int32)), .val (.int (1 : Int32)), .val (.ref b3), .val (.ref b6), .val (.ref b8), .val (.ref b12), .val (.ref b15), .val (.ref b17), .val (.ref b19), .val (.int (1 : Int32)), .val (.int (0 : Int32)), .val (.int (0 : Int32)), .val (.int (1 : Int32)), .unset, .unset, .unset, .unset] []))
  refine Gets.of (fun t k => XS.iload X44.here hx rfl (hb hby d13_163) rfl  k) ?_
  refine Gets.of (fun t k => XS.istore X44.here hx rfl (hb hby d13_165) rfl (l' := #[.val (.ref ya1), .val (.ref ya2), .val (.ref ya3), .val (.ref ya4), .val (.int (1 : Int32)), .val (.int (1 : Int32)), .val (.ref b3), .val (.ref b6), .val (.ref b8), .val (.ref b12), .val (.ref b15), .val (.ref b17), .val (.ref b19), .val (.int (1 : Int32)), .val (.int (0 : Int32)), .val (.int (0 : Int32)), .val (.int (1 : Int32)), .unset, .unset, .unset, .unset]) rfl k) ?_
  show Gets p e below _ (T44.setTop (mkF m 167 #[.val (.ref ya1), .val (.ref ya2), .val (.ref ya3), .val (.ref ya4), .val (.int (1 : Int32)), .val (.int (1 : Int32)), .val (.ref b3), .val (.ref b6), .val (.ref b8), .val (.ref b12), .val (.ref b15), .val (.ref b17), .val (.ref b19), .val (.int (1 : Int32)), .val (.int (0 : Int32)), .val (.int (0 : Int32)), .val (.int (1 : Int32)), .unset, .unset, .unset, .unset] []))
  refine Gets.of (fun t k => XS.aloadN X44.here hx rfl (hb hby d13_167) rfl rfl  k) ?_
  refine Gets.of (fun t k => XS.iload X44.here hx rfl (hb hby d13_168) rfl  k) ?_
  have f46 : Arv Z h44 ya4 yk9 .int (2 : Int32) [(.int (0 : Int32)), (.int (1 : Int32))] (.int (0 : Int32)) := ((f33.other W40 (Nat.ne_of_lt (Nat.lt_of_lt_of_le F1.lt sz_b8))).other W44 (Nat.ne_of_lt (Nat.lt_of_lt_of_le F1.lt sz_b6)))
  obtain ⟨cl47, Ar47, q47, S47, N_47, H47, G47⟩ := id (f46)
  have hin47 : ¬ ((0 : Int32) < 0 ∨ cl47.slots.size ≤ ((0 : Int32)).toNatClampNeg) := inb_of S47 ⟨by decide, by decide⟩
  refine Gets.of (fun t k => X44.iaload hx (j := (0 : Int32)) (v := (.int (0 : Int32))) (by rw [e44]; exact Ar47.1) (State.isArrayOf_alike hZ.alike Ar47.2.1) Ar47.2.2 hin47 (Has.at H47 hin47 rfl) (g := (mkF m 170 #[.val (.ref ya1), .val (.ref ya2), .val (.ref ya3), .val (.ref ya4), .val (.int (1 : Int32)), .val (.int (1 : Int32)), .val (.ref b3), .val (.ref b6), .val (.ref b8), .val (.ref b12), .val (.ref b15), .val (.ref b17), .val (.ref b19), .val (.int (1 : Int32)), .val (.int (0 : Int32)), .val (.int (0 : Int32)), .val (.int (1 : Int32)), .unset, .unset, .unset, .unset] [(.int (0 : Int32)), (.ref ya4)])) rfl rfl (hb hby d13_170) t k) ?_
  show Gets p e below _ (T44.setTop (mkF m 171 #[.val (.ref ya1), .val (.ref ya2), .val (.ref ya3), .val (.ref ya4), .val (.int (1 : Int32)), .val (.int (1 : Int32)), .val (.ref b3), .val (.ref b6), .val (.ref b8), .val (.ref b12), .val (.ref b15), .val (.ref b17), .val (.ref b19), .val (.int (1 : Int32)), .val (.int (0 : Int32)), .val (.int (0 : Int32)), .val (.int (1 : Int32)), .unset, .unset, .unset, .unset] [(.int (0 : Int32))]))
  refine Gets.of (fun t k => XS.istore X44.here hx rfl (hb hby d13_171) rfl (l' := #[.val (.ref ya1), .val (.ref ya2), .val (.ref ya3), .val (.ref ya4), .val (.int (1 : Int32)), .val (.int (1 : Int32)), .val (.ref b3), .val (.ref b6), .val (.ref b8), .val (.ref b12), .val (.ref b15), .val (.ref b17), .val (.ref b19), .val (.int (1 : Int32)), .val (.int (0 : Int32)), .val (.int (0 : Int32)), .val (.int (1 : Int32)), .val (.int (0 : Int32)), .unset, .unset, .unset]) rfl k) ?_
  show Gets p e below _ (T44.setTop (mkF m 173 #[.val (.ref ya1), .val (.ref ya2), .val (.ref ya3), .val (.ref ya4), .val (.int (1 : Int32)), .val (.int (1 : Int32)), .val (.ref b3), .val (.ref b6), .val (.ref b8), .val (.ref b12), .val (.ref b15), .val (.ref b17), .val (.ref b19), .val (.int (1 : Int32)), .val (.int (0 : Int32)), .val (.int (0 : Int32)), .val (.int (1 : Int32)), .val (.int (0 : Int32)), .unset, .unset, .unset] []))
  refine Gets.of (fun t k => XS.iload X44.here hx rfl (hb hby d13_173) rfl  k) ?_
  refine Gets.of (fun t k => XS.iload X44.here hx rfl (hb hby d13_175) rfl  k) ?_
  refine Gets.of (fun t k => XS.icmpNo X44.here hx rfl (hb hby d13_177) rfl (flt (by decide : ¬ ((0 : Int32) < (0 : Int32)))).2.2.1 k) ?_
  show Gets p e below _ (T44.setTop (mkF m 180 #[.val (.ref ya1), .val (.ref ya2), .val (.ref ya3), .val (.ref ya4), .val (.int (1 : Int32)), .val (.int (1 : Int32)), .val (.ref b3), .val (.ref b6), .val (.ref b8), .val (.ref b12), .val (.ref b15), .val (.ref b17), .val (.ref b19), .val (.int (1 : Int32)), .val (.int (0 : Int32)), .val (.int (0 : Int32)), .val (.int (1 : Int32)), .val (.int (0 : Int32)), .unset, .unset, .unset] []))
  refine Gets.of (fun t k => XS.aloadN X44.here hx rfl (hb hby d13_180) rfl rfl  k) ?_
  refine Gets.of (fun t k => XS.iload X44.here hx rfl (hb hby d13_181) rfl  k) ?_
  have f48 : Arv Z h44 ya2 yk7 .int (1 : Int32) [(.int (0 : Int32))] (.int (0 : Int32)) := (((((((((((((F0.ext E3).ext E6).ext E8).keep Kq10 (ninS (Nat.ne_of_lt (Nat.lt_of_lt_of_le F0.lt sz_b8)) nin0)).ext E12).ext E15).ext E17).ext E19).keep Kq22 (ninS (Nat.ne_of_lt (Nat.lt_of_lt_of_le F0.lt sz_b15)) nin0)).keep Kq25 (ninS (Nat.ne_of_lt (Nat.lt_of_lt_of_le F0.lt sz_b17)) nin0)).other W31 (Nat.ne_of_lt (Nat.lt_of_lt_of_le F0.lt sz_b3))).other W40 (Nat.ne_of_lt (Nat.lt_of_lt_of_le F0.lt sz_b8))).other W44 (Nat.ne_of_lt (Nat.lt_of_lt_of_le F0.lt sz_b6)))
  obtain ⟨cl49, Ar49, q49, S49, N_49, H49, G49⟩ := id (f48)
  have hin49 : ¬ ((0 : Int32) < 0 ∨ cl49.slots.size ≤ ((0 : Int32)).toNatClampNeg) := inb_of S49 ⟨by decide, by decide⟩
  refine Gets.of (fun t k => X44.iaload hx (j := (0 : Int32)) (v := (.int (0 : Int32))) (by rw [e44]; exact Ar49.1) (State.isArrayOf_alike hZ.alike Ar49.2.1) Ar49.2.2 hin49 (Has.at H49 hin49 rfl) (g := (mkF m 183 #[.val (.ref ya1), .val (.ref ya2), .val (.ref ya3), .val (.ref ya4), .val (.int (1 : Int32)), .val (.int (1 : Int32)), .val (.ref b3), .val (.ref b6), .val (.ref b8), .val (.ref b12), .val (.ref b15), .val (.ref b17), .val (.ref b19), .val (.int (1 : Int32)), .val (.int (0 : Int32)), .val (.int (0 : Int32)), .val (.int (1 : Int32)), .val (.int (0 : Int32)), .unset, .unset, .unset] [(.int (0 : Int32)), (.ref ya2)])) rfl rfl (hb hby d13_183) t k) ?_
  show Gets p e below _ (T44.setTop (mkF m 184 #[.val (.ref ya1), .val (.ref ya2), .val (.ref ya3), .val (.ref ya4), .val (.int (1 : Int32)), .val (.int (1 : Int32)), .val (.ref b3), .val (.ref b6), .val (.ref b8), .val (.ref b12), .val (.ref b15), .val (.ref b17), .val (.ref b19), .val (.int (1 : Int32)), .val (.int (0 : Int32)), .val (.int (0 : Int32)), .val (.int (1 : Int32)), .val (.int (0 : Int32)), .unset, .unset, .unset] [(.int (0 : Int32))]))
  refine Gets.of (fun t k => XS.istore X44.here hx rfl (hb hby d13_184) rfl (l' := #[.val (.ref ya1), .val (.ref ya2), .val (.ref ya3), .val (.ref ya4), .val (.int (1 : Int32)), .val (.int (1 : Int32)), .val (.ref b3), .val (.ref b6), .val (.ref b8), .val (.ref b12), .val (.ref b15), .val (.ref b17), .val (.ref b19), .val (.int (1 : Int32)), .val (.int (0 : Int32)), .val (.int (0 : Int32)), .val (.int (1 : Int32)), .val (.int (0 : Int32)), .val (.int (0 : Int32)), .unset, .unset]) rfl k) ?_
  show Gets p e below _ (T44.setTop (mkF m 186 #[.val (.ref ya1), .val (.ref ya2), .val (.ref ya3), .val (.ref ya4), .val (.int (1 : Int32)), .val (.int (1 : Int32)), .val (.ref b3), .val (.ref b6), .val (.ref b8), .val (.ref b12), .val (.ref b15), .val (.ref b17), .val (.ref b19), .val (.int (1 : Int32)), .val (.int (0 : Int32)), .val (.int (0 : Int32)), .val (.int (1 : Int32)), .val (.int (0 : Int32)), .val (.int (0 : Int32)), .unset, .unset] []))
  refine Gets.of (fun t k => XS.aload X44.here hx rfl (hb hby d13_186) rfl rfl  k) ?_
  refine Gets.of (fun t k => XS.iload X44.here hx rfl (hb hby d13_188) rfl  k) ?_
  refine Gets.of (fun t k => XS.aloadN X44.here hx rfl (hb hby d13_190) rfl rfl  k) ?_
  refine Gets.of (fun t k => XS.iload X44.here hx rfl (hb hby d13_191) rfl  k) ?_
  show Gets p e below _ (T44.setTop (mkF m 193 #[.val (.ref ya1), .val (.ref ya2), .val (.ref ya3), .val (.ref ya4), .val (.int (1 : Int32)), .val (.int (1 : Int32)), .val (.ref b3), .val (.ref b6), .val (.ref b8), .val (.ref b12), .val (.ref b15), .val (.ref b17), .val (.ref b19), .val (.int (1 : Int32)), .val (.int (0 : Int32)), .val (.int (0 : Int32)), .val (.int (1 : Int32)), .val (.int (0 : Int32)), .val (.int (0 : Int32)), .unset, .unset] [(.int (0 : Int32)), (.ref ya1), (.int (1 : Int32)), (.ref b6)]))
  have f50 : Fld Z h44 ya1 cn1 "start" "[I" (.ref ya5) := (((((((((((((F3.ext E3).ext E6).ext E8).keep Kq10 (ninS (Nat.ne_of_lt (Nat.lt_of_lt_of_le F2.lt sz_b8)) nin0)).ext E12).ext E15).ext E17).ext E19).keep Kq22 (ninS (Nat.ne_of_lt (Nat.lt_of_lt_of_le F2.lt sz_b15)) nin0)).keep Kq25 (ninS (Nat.ne_of_lt (Nat.lt_of_lt_of_le F2.lt sz_b17)) nin0)).other W31 (Or.inl (Nat.ne_of_lt (Nat.lt_of_lt_of_le F2.lt sz_b3)))).other W40 (Or.inl (Nat.ne_of_lt (Nat.lt_of_lt_of_le F2.lt sz_b8)))).other W44 (Or.inl (Nat.ne_of_lt (Nat.lt_of_lt_of_le F2.lt sz_b6))))
  have f51 : Arv Z h44 ya5 yk10 .int (2 : Int32) [(.int (0 : Int32)), (.int (0 : Int32))] (.int (0 : Int32)) := (((((((((((((F4.ext E3).ext E6).ext E8).keep Kq10 (ninS (Nat.ne_of_lt (Nat.lt_of_lt_of_le F4.lt sz_b8)) nin0)).ext E12).ext E15).ext E17).ext E19).keep Kq22 (ninS (Nat.ne_of_lt (Nat.lt_of_lt_of_le F4.lt sz_b15)) nin0)).keep Kq25 (ninS (Nat.ne_of_lt (Nat.lt_of_lt_of_le F4.lt sz_b17)) nin0)).other W31 (Nat.ne_of_lt (Nat.lt_of_lt_of_le F4.lt sz_b3))).other W40 (Nat.ne_of_lt (Nat.lt_of_lt_of_le F4.lt sz_b8))).other W44 (Nat.ne_of_lt (Nat.lt_of_lt_of_le F4.lt sz_b6)))
  have f53 : Exa Z h44 ya1 cn1 := (((((((((((((F2.ext E3).ext E6).ext E8).keep Kq10).ext E12).ext E15).ext E17).ext E19).keep Kq22).keep Kq25).wr W31).wr W40).wr W44)
  obtain ⟨cq52, kq52, q52a, q52b, q52c⟩ := isOf hZ e44 f53
  obtain ⟨_, _, ⟨T52, L52, k52, n52⟩, -, X52, ⟨Lc52, hQ52, l52, y52, z52⟩, st52⟩ := X44.virtualBack hx (y := (⟨cn1, "degree", "(I)I"⟩ : MethodName)) (z := (⟨cn1, "degree", "(I)I"⟩ : MethodName)) hown (mvT hZ (w68 hw)) (mvT hZ (w69 hw)) (notFace_of_selects (args := #[]) (mvT hZ (w71 hw))) (mvT hZ (w71 hw)) (mvT hZ (w70 hw)) (by decide) (backOf (W := 2) (r15_degree l Z a0 hw [] ya1 ya5 yk10 h44 n0 O45 f50 f51) hZ (w72 hw) (w2 hw) (by decide) (by decide)) q52a q52c (g := (mkF m 193 #[.val (.ref ya1), .val (.ref ya2), .val (.ref ya3), .val (.ref ya4), .val (.int (1 : Int32)), .val (.int (1 : Int32)), .val (.ref b3), .val (.ref b6), .val (.ref b8), .val (.ref b12), .val (.ref b15), .val (.ref b17), .val (.ref b19), .val (.int (1 : Int32)), .val (.int (0 : Int32)), .val (.int (0 : Int32)), .val (.int (1 : Int32)), .val (.int (0 : Int32)), .val (.int (0 : Int32)), .unset, .unset] [(.int (0 : Int32)), (.ref ya1), (.int (1 : Int32)), (.ref b6)])) rfl (by rw [hml]; rfl) (Steps.refl _) (argsL := [(.int (0 : Int32))]) (rest := [(.int (1 : Int32)), (.ref b6)]) (lenOf pd__I_I_634 rfl) rfl (by show 2 * 0 + _ ≤ _; exact Nat.le_of_eq rfl) (hb hby d13_193) (fun _ _ => ⟨rfl, e44, (by decide : 7 + 0 ≤ _), (by decide : 23 + 0 ≤ _)⟩)
  dsimp only [Pt.U, Pt.locs, Pt.cells, Pt.slots] at X52 l52 y52 z52 st52 hQ52
  subst l52 y52 z52
  obtain ⟨Nq52, eq52, hR52⟩ := hQ52
  have N52 := Fr.app N44 Nq52
  obtain rfl := hR52
  refine Gets.tr st52 ?_
  show Gets p e below _ (T52.setTop (mkF m 196 #[.val (.ref ya1), .val (.ref ya2), .val (.ref ya3), .val (.ref ya4), .val (.int (1 : Int32)), .val (.int (1 : Int32)), .val (.ref b3), .val (.ref b6), .val (.ref b8), .val (.ref b12), .val (.ref b15), .val (.ref b17), .val (.ref b19), .val (.int (1 : Int32)), .val (.int (0 : Int32)), .val (.int (0 : Int32)), .val (.int (1 : Int32)), .val (.int (0 : Int32)), .val (.int (0 : Int32)), .unset, .unset] [(.int (0 : Int32)), (.int (1 : Int32)), (.ref b6)]))
  obtain ⟨_, _, ⟨T54, L54, k54, n54⟩, -, X54, ⟨Lc54, hQ54, l54, y54, z54⟩, st54⟩ := Jvm.LawKit.callS X52 hx (y := (⟨cn0, "room", "([III)[I"⟩ : MethodName)) hown (mvT hZ (w65 hw)) (mvT hZ (w66 hw)) (mvT hZ (w16 hw)) (mvT hZ (w67 hw)) (by decide) (backOf (W := 0) (r16_room l Z a0 hw [] b6 k6 h44 n0 O45 V44) hZ (w67 hw) (w16 hw) (by decide) (by decide)) (g := (mkF m 196 #[.val (.ref ya1), .val (.ref ya2), .val (.ref ya3), .val (.ref ya4), .val (.int (1 : Int32)), .val (.int (1 : Int32)), .val (.ref b3), .val (.ref b6), .val (.ref b8), .val (.ref b12), .val (.ref b15), .val (.ref b17), .val (.ref b19), .val (.int (1 : Int32)), .val (.int (0 : Int32)), .val (.int (0 : Int32)), .val (.int (1 : Int32)), .val (.int (0 : Int32)), .val (.int (0 : Int32)), .unset, .unset] [(.int (0 : Int32)), (.int (1 : Int32)), (.ref b6)])) rfl (by rw [hml]; rfl) (argsL := [(.ref b6), (.int (1 : Int32)), (.int (0 : Int32))]) (rest := []) (lenOf pd__III_I rfl) rfl (by show 2 * 0 + _ ≤ _; exact Nat.le_of_eq rfl) (hb hby d13_196) (fun _ _ => ⟨rfl, eq52, (by decide : 7 + 0 ≤ _), (by decide : 23 + 0 ≤ _)⟩)
  dsimp only [Pt.U, Pt.locs, Pt.cells, Pt.slots] at X54 l54 y54 z54 st54 hQ54
  subst l54 y54 z54
  obtain ⟨Nq54, eq54, hR54⟩ := hQ54
  have N54 := Fr.app N52 Nq54
  obtain rfl := hR54
  refine Gets.of st54 ?_
  show Gets p e below _ (T54.setTop (mkF m 199 #[.val (.ref ya1), .val (.ref ya2), .val (.ref ya3), .val (.ref ya4), .val (.int (1 : Int32)), .val (.int (1 : Int32)), .val (.ref b3), .val (.ref b6), .val (.ref b8), .val (.ref b12), .val (.ref b15), .val (.ref b17), .val (.ref b19), .val (.int (1 : Int32)), .val (.int (0 : Int32)), .val (.int (0 : Int32)), .val (.int (1 : Int32)), .val (.int (0 : Int32)), .val (.int (0 : Int32)), .unset, .unset] [(.ref b6)]))
  refine Gets.of (fun t k => XS.astore X54.here hx rfl (hb hby d13_199) rfl rfl (l' := #[.val (.ref ya1), .val (.ref ya2), .val (.ref ya3), .val (.ref ya4), .val (.int (1 : Int32)), .val (.int (1 : Int32)), .val (.ref b3), .val (.ref b6), .val (.ref b8), .val (.ref b12), .val (.ref b15), .val (.ref b17), .val (.ref b19), .val (.int (1 : Int32)), .val (.int (0 : Int32)), .val (.int (0 : Int32)), .val (.int (1 : Int32)), .val (.int (0 : Int32)), .val (.int (0 : Int32)), .unset, .unset]) rfl k) ?_
  show Gets p e below _ (T54.setTop (mkF m 201 #[.val (.ref ya1), .val (.ref ya2), .val (.ref ya3), .val (.ref ya4), .val (.int (1 : Int32)), .val (.int (1 : Int32)), .val (.ref b3), .val (.ref b6), .val (.ref b8), .val (.ref b12), .val (.ref b15), .val (.ref b17), .val (.ref b19), .val (.int (1 : Int32)), .val (.int (0 : Int32)), .val (.int (0 : Int32)), .val (.int (1 : Int32)), .val (.int (0 : Int32)), .val (.int (0 : Int32)), .unset, .unset] []))
  refine Gets.of (fun t k => XS.aloadN X54.here hx rfl (hb hby d13_201) rfl rfl  k) ?_
  obtain ⟨T55, X55, e55, st55⟩ := getF X54 hx hZ hown (host := "") (Or.inl (w33 hw)) Via.refl eq54 f50 (g := (mkF m 202 #[.val (.ref ya1), .val (.ref ya2), .val (.ref ya3), .val (.ref ya4), .val (.int (1 : Int32)), .val (.int (1 : Int32)), .val (.ref b3), .val (.ref b6), .val (.ref b8), .val (.ref b12), .val (.ref b15), .val (.ref b17), .val (.ref b19), .val (.int (1 : Int32)), .val (.int (0 : Int32)), .val (.int (0 : Int32)), .val (.int (1 : Int32)), .val (.int (0 : Int32)), .val (.int (0 : Int32)), .unset, .unset] [(.ref ya1)])) rfl rfl (hb hby d13_202)
  refine Gets.of st55 ?_
  show Gets p e below _ (T55.setTop (mkF m 205 #[.val (.ref ya1), .val (.ref ya2), .val (.ref ya3), .val (.ref ya4), .val (.int (1 : Int32)), .val (.int (1 : Int32)), .val (.ref b3), .val (.ref b6), .val (.ref b8), .val (.ref b12), .val (.ref b15), .val (.ref b17), .val (.ref b19), .val (.int (1 : Int32)), .val (.int (0 : Int32)), .val (.int (0 : Int32)), .val (.int (1 : Int32)), .val (.int (0 : Int32)), .val (.int (0 : Int32)), .unset, .unset] [(.ref ya5)]))
  refine Gets.of (fun t k => XS.iload X55.here hx rfl (hb hby d13_205) rfl  k) ?_
  obtain ⟨cl56, Ar56, q56, S56, N_56, H56, G56⟩ := id (f51)
  have hin56 : ¬ ((0 : Int32) < 0 ∨ cl56.slots.size ≤ ((0 : Int32)).toNatClampNeg) := inb_of S56 ⟨by decide, by decide⟩
  refine Gets.of (fun t k => X55.iaload hx (j := (0 : Int32)) (v := (.int (0 : Int32))) (by rw [e55]; exact Ar56.1) (State.isArrayOf_alike hZ.alike Ar56.2.1) Ar56.2.2 hin56 (Has.at H56 hin56 rfl) (g := (mkF m 207 #[.val (.ref ya1), .val (.ref ya2), .val (.ref ya3), .val (.ref ya4), .val (.int (1 : Int32)), .val (.int (1 : Int32)), .val (.ref b3), .val (.ref b6), .val (.ref b8), .val (.ref b12), .val (.ref b15), .val (.ref b17), .val (.ref b19), .val (.int (1 : Int32)), .val (.int (0 : Int32)), .val (.int (0 : Int32)), .val (.int (1 : Int32)), .val (.int (0 : Int32)), .val (.int (0 : Int32)), .unset, .unset] [(.int (0 : Int32)), (.ref ya5)])) rfl rfl (hb hby d13_207) t k) ?_
  show Gets p e below _ (T55.setTop (mkF m 208 #[.val (.ref ya1), .val (.ref ya2), .val (.ref ya3), .val (.ref ya4), .val (.int (1 : Int32)), .val (.int (1 : Int32)), .val (.ref b3), .val (.ref b6), .val (.ref b8), .val (.ref b12), .val (.ref b15), .val (.ref b17), .val (.ref b19), .val (.int (1 : Int32)), .val (.int (0 : Int32)), .val (.int (0 : Int32)), .val (.int (1 : Int32)), .val (.int (0 : Int32)), .val (.int (0 : Int32)), .unset, .unset] [(.int (0 : Int32))]))
  refine Gets.of (fun t k => XS.istore X55.here hx rfl (hb hby d13_208) rfl (l' := #[.val (.ref ya1), .val (.ref ya2), .val (.ref ya3), .val (.ref ya4), .val (.int (1 : Int32)), .val (.int (1 : Int32)), .val (.ref b3), .val (.ref b6), .val (.ref b8), .val (.ref b12), .val (.ref b15), .val (.ref b17), .val (.ref b19), .val (.int (1 : Int32)), .val (.int (0 : Int32)), .val (.int (0 : Int32)), .val (.int (1 : Int32)), .val (.int (0 : Int32)), .val (.int (0 : Int32)), .val (.int (0 : Int32)), .unset]) rfl k) ?_
  show Gets p e below _ (T55.setTop (mkF m 210 #[.val (.ref ya1), .val (.ref ya2), .val (.ref ya3), .val (.ref ya4), .val (.int (1 : Int32)), .val (.int (1 : Int32)), .val (.ref b3), .val (.ref b6), .val (.ref b8), .val (.ref b12), .val (.ref b15), .val (.ref b17), .val (.ref b19), .val (.int (1 : Int32)), .val (.int (0 : Int32)), .val (.int (0 : Int32)), .val (.int (1 : Int32)), .val (.int (0 : Int32)), .val (.int (0 : Int32)), .val (.int (0 : Int32)), .unset] []))
  refine Gets.of (fun t k => XS.iload X55.here hx rfl (hb hby d13_210) rfl  k) ?_
  refine Gets.of (fun t k => XS.aloadN X55.here hx rfl (hb hby d13_212) rfl rfl  k) ?_
  obtain ⟨T57, X57, e57, st57⟩ := getF X55 hx hZ hown (host := "") (Or.inl (w33 hw)) Via.refl e55 f50 (g := (mkF m 213 #[.val (.ref ya1), .val (.ref ya2), .val (.ref ya3), .val (.ref ya4), .val (.int (1 : Int32)), .val (.int (1 : Int32)), .val (.ref b3), .val (.ref b6), .val (.ref b8), .val (.ref b12), .val (.ref b15), .val (.ref b17), .val (.ref b19), .val (.int (1 : Int32)), .val (.int (0 : Int32)), .val (.int (0 : Int32)), .val (.int (1 : Int32)), .val (.int (0 : Int32)), .val (.int (0 : Int32)), .val (.int (0 : Int32)), .unset] [(.ref ya1), (.int (0 : Int32))])) rfl rfl (hb hby d13_213)
  refine Gets.of st57 ?_
  show Gets p e below _ (T57.setTop (mkF m 216 #[.val (.ref ya1), .val (.ref ya2), .val (.ref ya3), .val (.ref ya4), .val (.int (1 : Int32)), .val (.int (1 : Int32)), .val (.ref b3), .val (.ref b6), .val (.ref b8), .val (.ref b12), .val (.ref b15), .val (.ref b17), .val (.ref b19), .val (.int (1 : Int32)), .val (.int (0 : Int32)), .val (.int (0 : Int32)), .val (.int (1 : Int32)), .val (.int (0 : Int32)), .val (.int (0 : Int32)), .val (.int (0 : Int32)), .unset] [(.ref ya5), (.int (0 : Int32))]))
  refine Gets.of (fun t k => XS.iload X57.here hx rfl (hb hby d13_216) rfl  k) ?_
  refine Gets.of (fun t k => XS.iconst X57.here hx rfl (hb hby d13_218) k) ?_
  refine Gets.of (fun t k => XS.iadd X57.here hx rfl (hb hby d13_219) rfl k) ?_
  show Gets p e below _ (T57.setTop (mkF m 220 #[.val (.ref ya1), .val (.ref ya2), .val (.ref ya3), .val (.ref ya4), .val (.int (1 : Int32)), .val (.int (1 : Int32)), .val (.ref b3), .val (.ref b6), .val (.ref b8), .val (.ref b12), .val (.ref b15), .val (.ref b17), .val (.ref b19), .val (.int (1 : Int32)), .val (.int (0 : Int32)), .val (.int (0 : Int32)), .val (.int (1 : Int32)), .val (.int (0 : Int32)), .val (.int (0 : Int32)), .val (.int (0 : Int32)), .unset] [(.int (1 : Int32)), (.ref ya5), (.int (0 : Int32))]))
  obtain ⟨cl58, Ar58, q58, S58, N_58, H58, G58⟩ := id (f51)
  have hin58 : ¬ ((1 : Int32) < 0 ∨ cl58.slots.size ≤ ((1 : Int32)).toNatClampNeg) := inb_of S58 ⟨by decide, by decide⟩
  refine Gets.of (fun t k => X57.iaload hx (j := (1 : Int32)) (v := (.int (0 : Int32))) (by rw [e57]; exact Ar58.1) (State.isArrayOf_alike hZ.alike Ar58.2.1) Ar58.2.2 hin58 (Has.at H58 hin58 rfl) (g := (mkF m 220 #[.val (.ref ya1), .val (.ref ya2), .val (.ref ya3), .val (.ref ya4), .val (.int (1 : Int32)), .val (.int (1 : Int32)), .val (.ref b3), .val (.ref b6), .val (.ref b8), .val (.ref b12), .val (.ref b15), .val (.ref b17), .val (.ref b19), .val (.int (1 : Int32)), .val (.int (0 : Int32)), .val (.int (0 : Int32)), .val (.int (1 : Int32)), .val (.int (0 : Int32)), .val (.int (0 : Int32)), .val (.int (0 : Int32)), .unset] [(.int (1 : Int32)), (.ref ya5), (.int (0 : Int32))])) rfl rfl (hb hby d13_220) t k) ?_
  show Gets p e below _ (T57.setTop (mkF m 221 #[.val (.ref ya1), .val (.ref ya2), .val (.ref ya3), .val (.ref ya4), .val (.int (1 : Int32)), .val (.int (1 : Int32)), .val (.ref b3), .val (.ref b6), .val (.ref b8), .val (.ref b12), .val (.ref b15), .val (.ref b17), .val (.ref b19), .val (.int (1 : Int32)), .val (.int (0 : Int32)), .val (.int (0 : Int32)), .val (.int (1 : Int32)), .val (.int (0 : Int32)), .val (.int (0 : Int32)), .val (.int (0 : Int32)), .unset] [(.int (0 : Int32)), (.int (0 : Int32))]))
  refine Gets.of (fun t k => XS.icmpYes X57.here hx rfl (pc0 := 221) (pc' := 275) rfl (hb hby d13_221) rfl (flt (by decide : ¬ ((0 : Int32) < (0 : Int32)))).2.1 (by decide) (by decide) k) ?_
  show Gets p e below _ (T57.setTop (mkF m 275 #[.val (.ref ya1), .val (.ref ya2), .val (.ref ya3), .val (.ref ya4), .val (.int (1 : Int32)), .val (.int (1 : Int32)), .val (.ref b3), .val (.ref b6), .val (.ref b8), .val (.ref b12), .val (.ref b15), .val (.ref b17), .val (.ref b19), .val (.int (1 : Int32)), .val (.int (0 : Int32)), .val (.int (0 : Int32)), .val (.int (1 : Int32)), .val (.int (0 : Int32)), .val (.int (0 : Int32)), .val (.int (0 : Int32)), .unset] []))
  refine Gets.of (fun t k => XS.iinc X57.here hx rfl (hb hby d13_275) rfl (l' := #[.val (.ref ya1), .val (.ref ya2), .val (.ref ya3), .val (.ref ya4), .val (.int (1 : Int32)), .val (.int (1 : Int32)), .val (.ref b3), .val (.ref b6), .val (.ref b8), .val (.ref b12), .val (.ref b15), .val (.ref b17), .val (.ref b19), .val (.int (1 : Int32)), .val (.int (0 : Int32)), .val (.int (0 : Int32)), .val (.int (1 : Int32)), .val (.int (1 : Int32)), .val (.int (0 : Int32)), .val (.int (0 : Int32)), .unset]) rfl k) ?_
  show Gets p e below _ (T57.setTop (mkF m 278 #[.val (.ref ya1), .val (.ref ya2), .val (.ref ya3), .val (.ref ya4), .val (.int (1 : Int32)), .val (.int (1 : Int32)), .val (.ref b3), .val (.ref b6), .val (.ref b8), .val (.ref b12), .val (.ref b15), .val (.ref b17), .val (.ref b19), .val (.int (1 : Int32)), .val (.int (0 : Int32)), .val (.int (0 : Int32)), .val (.int (1 : Int32)), .val (.int (1 : Int32)), .val (.int (0 : Int32)), .val (.int (0 : Int32)), .unset] []))
  refine Gets.of (fun t k => XS.goto X57.here hx rfl (pc0 := 278) (pc' := 173) rfl (hb hby d13_278) (by decide) (by decide) k) ?_
  show Gets p e below _ (T57.setTop (mkF m 173 #[.val (.ref ya1), .val (.ref ya2), .val (.ref ya3), .val (.ref ya4), .val (.int (1 : Int32)), .val (.int (1 : Int32)), .val (.ref b3), .val (.ref b6), .val (.ref b8), .val (.ref b12), .val (.ref b15), .val (.ref b17), .val (.ref b19), .val (.int (1 : Int32)), .val (.int (0 : Int32)), .val (.int (0 : Int32)), .val (.int (1 : Int32)), .val (.int (1 : Int32)), .val (.int (0 : Int32)), .val (.int (0 : Int32)), .unset] []))
  refine Gets.of (fun t k => XS.iload X57.here hx rfl (hb hby d13_173) rfl  k) ?_
  refine Gets.of (fun t k => XS.iload X57.here hx rfl (hb hby d13_175) rfl  k) ?_
  refine Gets.of (fun t k => XS.icmpYes X57.here hx rfl (pc0 := 177) (pc' := 281) rfl (hb hby d13_177) rfl (tlt (by decide : (0 : Int32) < (1 : Int32))).2.2.1 (by decide) (by decide) k) ?_
  show Gets p e below _ (T57.setTop (mkF m 281 #[.val (.ref ya1), .val (.ref ya2), .val (.ref ya3), .val (.ref ya4), .val (.int (1 : Int32)), .val (.int (1 : Int32)), .val (.ref b3), .val (.ref b6), .val (.ref b8), .val (.ref b12), .val (.ref b15), .val (.ref b17), .val (.ref b19), .val (.int (1 : Int32)), .val (.int (0 : Int32)), .val (.int (0 : Int32)), .val (.int (1 : Int32)), .val (.int (1 : Int32)), .val (.int (0 : Int32)), .val (.int (0 : Int32)), .unset] []))
  refine Gets.of (fun t k => XS.aload X57.here hx rfl (hb hby d13_281) rfl rfl  k) ?_
  refine Gets.of (fun t k => XS.iload X57.here hx rfl (hb hby d13_283) rfl  k) ?_
  have f59 : Arv Z h44 b17 k17 .int (1 : Int32) [(.int (-1 : Int32))] (.int (0 : Int32)) := (((bf25_0.other W31 (Nat.ne_of_gt (Nat.lt_of_lt_of_le (Nat.lt_of_lt_of_le (Nat.lt_of_lt_of_le (Nat.lt_of_lt_of_le (Nat.lt_of_lt_of_le (Nat.lt_of_lt_of_le V3.lt E6.1) E8.1) up13) E12.1) E15.1) (Nat.le_of_eq g17.symm)))).other W40 (Nat.ne_of_gt (Nat.lt_of_lt_of_le (Nat.lt_of_lt_of_le (Nat.lt_of_lt_of_le (Nat.lt_of_lt_of_le V8.lt up13) E12.1) E15.1) (Nat.le_of_eq g17.symm)))).other W44 (Nat.ne_of_gt (Nat.lt_of_lt_of_le (Nat.lt_of_lt_of_le (Nat.lt_of_lt_of_le (Nat.lt_of_lt_of_le (Nat.lt_of_lt_of_le V6.lt E8.1) up13) E12.1) E15.1) (Nat.le_of_eq g17.symm))))
  obtain ⟨cl60, Ar60, q60, S60, N_60, H60, G60⟩ := id (f59)
  have hin60 : ¬ ((0 : Int32) < 0 ∨ cl60.slots.size ≤ ((0 : Int32)).toNatClampNeg) := inb_of S60 ⟨by decide, by decide⟩
  refine Gets.of (fun t k => X57.iaload hx (j := (0 : Int32)) (v := (.int (-1 : Int32))) (by rw [e57]; exact Ar60.1) (State.isArrayOf_alike hZ.alike Ar60.2.1) Ar60.2.2 hin60 (Has.at H60 hin60 rfl) (g := (mkF m 285 #[.val (.ref ya1), .val (.ref ya2), .val (.ref ya3), .val (.ref ya4), .val (.int (1 : Int32)), .val (.int (1 : Int32)), .val (.ref b3), .val (.ref b6), .val (.ref b8), .val (.ref b12), .val (.ref b15), .val (.ref b17), .val (.ref b19), .val (.int (1 : Int32)), .val (.int (0 : Int32)), .val (.int (0 : Int32)), .val (.int (1 : Int32)), .val (.int (1 : Int32)), .val (.int (0 : Int32)), .val (.int (0 : Int32)), .unset] [(.int (0 : Int32)), (.ref b17)])) rfl rfl (hb hby d13_285) t k) ?_
  show Gets p e below _ (T57.setTop (mkF m 286 #[.val (.ref ya1), .val (.ref ya2), .val (.ref ya3), .val (.ref ya4), .val (.int (1 : Int32)), .val (.int (1 : Int32)), .val (.ref b3), .val (.ref b6), .val (.ref b8), .val (.ref b12), .val (.ref b15), .val (.ref b17), .val (.ref b19), .val (.int (1 : Int32)), .val (.int (0 : Int32)), .val (.int (0 : Int32)), .val (.int (1 : Int32)), .val (.int (1 : Int32)), .val (.int (0 : Int32)), .val (.int (0 : Int32)), .unset] [(.int (-1 : Int32))]))
  refine Gets.of (fun t k => XS.istore X57.here hx rfl (hb hby d13_286) rfl (l' := #[.val (.ref ya1), .val (.ref ya2), .val (.ref ya3), .val (.ref ya4), .val (.int (1 : Int32)), .val (.int (1 : Int32)), .val (.ref b3), .val (.ref b6), .val (.ref b8), .val (.ref b12), .val (.ref b15), .val (.ref b17), .val (.ref b19), .val (.int (1 : Int32)), .val (.int (0 : Int32)), .val (.int (0 : Int32)), .val (.int (1 : Int32)), .val (.int (-1 : Int32)), .val (.int (0 : Int32)), .val (.int (0 : Int32)), .unset]) rfl k) ?_
  show Gets p e below _ (T57.setTop (mkF m 288 #[.val (.ref ya1), .val (.ref ya2), .val (.ref ya3), .val (.ref ya4), .val (.int (1 : Int32)), .val (.int (1 : Int32)), .val (.ref b3), .val (.ref b6), .val (.ref b8), .val (.ref b12), .val (.ref b15), .val (.ref b17), .val (.ref b19), .val (.int (1 : Int32)), .val (.int (0 : Int32)), .val (.int (0 : Int32)), .val (.int (1 : Int32)), .val (.int (-1 : Int32)), .val (.int (0 : Int32)), .val (.int (0 : Int32)), .unset] []))
  refine Gets.of (fun t k => XS.iload X57.here hx rfl (hb hby d13_288) rfl  k) ?_
  refine Gets.of (fun t k => XS.ifYes X57.here hx rfl (pc0 := 290) (pc' := 391) rfl (hb hby d13_290) rfl ((if0 _ _).trans (tlt (by decide : (-1 : Int32) < (0 : Int32))).1) (by decide) (by decide) k) ?_
  show Gets p e below _ (T57.setTop (mkF m 391 #[.val (.ref ya1), .val (.ref ya2), .val (.ref ya3), .val (.ref ya4), .val (.int (1 : Int32)), .val (.int (1 : Int32)), .val (.ref b3), .val (.ref b6), .val (.ref b8), .val (.ref b12), .val (.ref b15), .val (.ref b17), .val (.ref b19), .val (.int (1 : Int32)), .val (.int (0 : Int32)), .val (.int (0 : Int32)), .val (.int (1 : Int32)), .val (.int (-1 : Int32)), .val (.int (0 : Int32)), .val (.int (0 : Int32)), .unset] []))
  refine Gets.of (fun t k => XS.aload X57.here hx rfl (hb hby d13_391) rfl rfl  k) ?_
  refine Gets.of (fun t k => XS.iload X57.here hx rfl (hb hby d13_393) rfl  k) ?_
  refine Gets.of (fun t k => XS.iload X57.here hx rfl (hb hby d13_395) rfl  k) ?_
  obtain ⟨_, _, ⟨T61, L61, k61, n61⟩, -, X61, ⟨Lc61, hQ61, l61, y61, z61⟩, st61⟩ := Jvm.LawKit.callS X57 hx (y := (⟨cn2, "sort", "([III)V"⟩ : MethodName)) hown (mvT hZ (w73 hw)) (mvT hZ (w74 hw)) (mvT hZ (w31 hw)) (mvT hZ (w75 hw)) (by decide) (backOf (W := 0) (r17_sort l Z a0 hw [] b6 k6 h44 n0 O45 V44) hZ (w75 hw) (w31 hw) (by decide) (by decide)) (g := (mkF m 397 #[.val (.ref ya1), .val (.ref ya2), .val (.ref ya3), .val (.ref ya4), .val (.int (1 : Int32)), .val (.int (1 : Int32)), .val (.ref b3), .val (.ref b6), .val (.ref b8), .val (.ref b12), .val (.ref b15), .val (.ref b17), .val (.ref b19), .val (.int (1 : Int32)), .val (.int (0 : Int32)), .val (.int (0 : Int32)), .val (.int (1 : Int32)), .val (.int (-1 : Int32)), .val (.int (0 : Int32)), .val (.int (0 : Int32)), .unset] [(.int (1 : Int32)), (.int (1 : Int32)), (.ref b6)])) rfl (by rw [hml]; rfl) (argsL := [(.ref b6), (.int (1 : Int32)), (.int (1 : Int32))]) (rest := []) (lenOf pd__III_V_741 rfl) rfl (by show 2 * 0 + _ ≤ _; exact Nat.le_of_eq rfl) (hb hby d13_397) (fun _ _ => ⟨rfl, e57, (by decide : 7 + 0 ≤ _), (by decide : 23 + 0 ≤ _)⟩)
  dsimp only [Pt.U, Pt.locs, Pt.cells, Pt.slots] at X61 l61 y61 z61 st61 hQ61
  subst l61 y61 z61
  obtain ⟨Nq61, eq61, hR61⟩ := hQ61
  have N61 := Fr.app N54 Nq61
  obtain rfl := hR61
  refine Gets.of st61 ?_
  show Gets p e below _ (T61.setTop (mkF m 400 #[.val (.ref ya1), .val (.ref ya2), .val (.ref ya3), .val (.ref ya4), .val (.int (1 : Int32)), .val (.int (1 : Int32)), .val (.ref b3), .val (.ref b6), .val (.ref b8), .val (.ref b12), .val (.ref b15), .val (.ref b17), .val (.ref b19), .val (.int (1 : Int32)), .val (.int (0 : Int32)), .val (.int (0 : Int32)), .val (.int (1 : Int32)), .val (.int (-1 : Int32)), .val (.int (0 : Int32)), .val (.int (0 : Int32)), .unset] []))
  refine Gets.of (fun t k => XS.aload X61.here hx rfl (hb hby d13_400) rfl rfl  k) ?_
  refine Gets.of (fun t k => XS.iload X61.here hx rfl (hb hby d13_402) rfl  k) ?_
  refine Gets.of (fun t k => XS.iconst X61.here hx rfl (hb hby d13_404) k) ?_
  refine Gets.of (fun t k => XS.iadd X61.here hx rfl (hb hby d13_405) rfl k) ?_
  show Gets p e below _ (T61.setTop (mkF m 406 #[.val (.ref ya1), .val (.ref ya2), .val (.ref ya3), .val (.ref ya4), .val (.int (1 : Int32)), .val (.int (1 : Int32)), .val (.ref b3), .val (.ref b6), .val (.ref b8), .val (.ref b12), .val (.ref b15), .val (.ref b17), .val (.ref b19), .val (.int (1 : Int32)), .val (.int (0 : Int32)), .val (.int (0 : Int32)), .val (.int (1 : Int32)), .val (.int (-1 : Int32)), .val (.int (0 : Int32)), .val (.int (0 : Int32)), .unset] [(.int (1 : Int32)), (.ref b3)]))
  refine Gets.of (fun t k => XS.iload X61.here hx rfl (hb hby d13_406) rfl  k) ?_
  have f62 : Arv Z h44 b3 k3 .int (2 : Int32) [(.int (0 : Int32)), (.int (0 : Int32))] (.int (0 : Int32)) := ((V31.other W40 (Nat.ne_of_lt (Nat.lt_of_lt_of_le (Nat.lt_of_lt_of_le V3.lt E6.1) (Nat.le_of_eq g8.symm)))).other W44 (Nat.ne_of_lt (Nat.lt_of_lt_of_le V3.lt (Nat.le_of_eq g6.symm))))
  obtain ⟨cl63, Ar63, q63, S63, N_63, H63, G63⟩ := id (f62)
  have hin63 : ¬ ((1 : Int32) < 0 ∨ cl63.slots.size ≤ ((1 : Int32)).toNatClampNeg) := inb_of S63 ⟨by decide, by decide⟩
  obtain ⟨T64, h64, X64, e64, W64, st64⟩ := stI X61 hx hZ eq61 Ar63 (j := (1 : Int32)) hin63 (g := (mkF m 408 #[.val (.ref ya1), .val (.ref ya2), .val (.ref ya3), .val (.ref ya4), .val (.int (1 : Int32)), .val (.int (1 : Int32)), .val (.ref b3), .val (.ref b6), .val (.ref b8), .val (.ref b12), .val (.ref b15), .val (.ref b17), .val (.ref b19), .val (.int (1 : Int32)), .val (.int (0 : Int32)), .val (.int (0 : Int32)), .val (.int (1 : Int32)), .val (.int (-1 : Int32)), .val (.int (0 : Int32)), .val (.int (0 : Int32)), .unset] [(.int (1 : Int32)), (.int (1 : Int32)), (.ref b3)])) rfl rfl (hb hby d13_408)
  have V64 : Arv Z h64 b3 k3 .int (2 : Int32) [(.int (0 : Int32)), (.int (1 : Int32))] (.int (0 : Int32)) := Arv.set Ar63 q63 S63 N_63 H63 G63 rfl W64 1 rfl (Nat.le_of_ble_eq_true rfl)
  have N64 := Fr.snoc X64 N61 g_b3
  have K65 : Keep h0 _ [] := K45.wr W64 (Or.inr sz_b3)
  have O65 := O45.wr W64 g_b3
  refine Gets.of st64 ?_
  show Gets p e below _ (T64.setTop (mkF m 409 #[.val (.ref ya1), .val (.ref ya2), .val (.ref ya3), .val (.ref ya4), .val (.int (1 : Int32)), .val (.int (1 : Int32)), .val (.ref b3), .val (.ref b6), .val (.ref b8), .val (.ref b12), .val (.ref b15), .val (.ref b17), .val (.ref b19), .val (.int (1 : Int32)), .val (.int (0 : Int32)), .val (.int (0 : Int32)), .val (.int (1 : Int32)), .val (.int (-1 : Int32)), .val (.int (0 : Int32)), .val (.int (0 : Int32)), .unset] []))
  refine Gets.of (fun t k => XS.aload X64.here hx rfl (hb hby d13_409) rfl rfl  k) ?_
  refine Gets.of (fun t k => XS.iload X64.here hx rfl (hb hby d13_411) rfl  k) ?_
  refine Gets.of (fun t k => XS.iload X64.here hx rfl (hb hby d13_413) rfl  k) ?_
  have f66 : Arv Z h64 b12 k12 .int (1 : Int32) [(.int (0 : Int32))] (.int (0 : Int32)) := (((((((((V12.ext E15).ext E17).ext E19).keep Kq22 (ninS (Nat.ne_of_lt (Nat.lt_of_lt_of_le V12.lt (Nat.le_of_eq g15.symm))) nin0)).keep Kq25 (ninS (Nat.ne_of_lt (Nat.lt_of_lt_of_le (Nat.lt_of_lt_of_le V12.lt E15.1) (Nat.le_of_eq g17.symm))) nin0)).other W31 (Nat.ne_of_gt (Nat.lt_of_lt_of_le (Nat.lt_of_lt_of_le (Nat.lt_of_lt_of_le (Nat.lt_of_lt_of_le V3.lt E6.1) E8.1) up13) (Nat.le_of_eq g12.symm)))).other W40 (Nat.ne_of_gt (Nat.lt_of_lt_of_le (Nat.lt_of_lt_of_le V8.lt up13) (Nat.le_of_eq g12.symm)))).other W44 (Nat.ne_of_gt (Nat.lt_of_lt_of_le (Nat.lt_of_lt_of_le (Nat.lt_of_lt_of_le V6.lt E8.1) up13) (Nat.le_of_eq g12.symm)))).other W64 (Nat.ne_of_gt (Nat.lt_of_lt_of_le (Nat.lt_of_lt_of_le (Nat.lt_of_lt_of_le (Nat.lt_of_lt_of_le V3.lt E6.1) E8.1) up13) (Nat.le_of_eq g12.symm))))
  obtain ⟨cl67, Ar67, q67, S67, N_67, H67, G67⟩ := id (f66)
  have hin67 : ¬ ((0 : Int32) < 0 ∨ cl67.slots.size ≤ ((0 : Int32)).toNatClampNeg) := inb_of S67 ⟨by decide, by decide⟩
  obtain ⟨T68, h68, X68, e68, W68, st68⟩ := stI X64 hx hZ e64 Ar67 (j := (0 : Int32)) hin67 (g := (mkF m 415 #[.val (.ref ya1), .val (.ref ya2), .val (.ref ya3), .val (.ref ya4), .val (.int (1 : Int32)), .val (.int (1 : Int32)), .val (.ref b3), .val (.ref b6), .val (.ref b8), .val (.ref b12), .val (.ref b15), .val (.ref b17), .val (.ref b19), .val (.int (1 : Int32)), .val (.int (0 : Int32)), .val (.int (0 : Int32)), .val (.int (1 : Int32)), .val (.int (-1 : Int32)), .val (.int (0 : Int32)), .val (.int (0 : Int32)), .unset] [(.int (1 : Int32)), (.int (0 : Int32)), (.ref b12)])) rfl rfl (hb hby d13_415)
  have V68 : Arv Z h68 b12 k12 .int (1 : Int32) [(.int (1 : Int32))] (.int (0 : Int32)) := Arv.set Ar67 q67 S67 N_67 H67 G67 rfl W68 0 rfl (Nat.le_of_ble_eq_true rfl)
  have N68 := Fr.snoc X68 N64 g_b12
  have K69 : Keep h0 _ [] := K65.wr W68 (Or.inr sz_b12)
  have O69 := O65.wr W68 g_b12
  refine Gets.of st68 ?_
  show Gets p e below _ (T68.setTop (mkF m 416 #[.val (.ref ya1), .val (.ref ya2), .val (.ref ya3), .val (.ref ya4), .val (.int (1 : Int32)), .val (.int (1 : Int32)), .val (.ref b3), .val (.ref b6), .val (.ref b8), .val (.ref b12), .val (.ref b15), .val (.ref b17), .val (.ref b19), .val (.int (1 : Int32)), .val (.int (0 : Int32)), .val (.int (0 : Int32)), .val (.int (1 : Int32)), .val (.int (-1 : Int32)), .val (.int (0 : Int32)), .val (.int (0 : Int32)), .unset] []))
  refine Gets.of (fun t k => XS.iload X68.here hx rfl (hb hby d13_416) rfl  k) ?_
  refine Gets.of (fun t k => XS.iload X68.here hx rfl (hb hby d13_418) rfl  k) ?_
  refine Gets.of (fun t k => XS.icmpYes X68.here hx rfl (pc0 := 420) (pc' := 460) rfl (hb hby d13_420) rfl (flt (by decide : ¬ ((1 : Int32) < (1 : Int32)))).2.2.2 (by decide) (by decide) k) ?_
  show Gets p e below _ (T68.setTop (mkF m 460 #[.val (.ref ya1), .val (.ref ya2), .val (.ref ya3), .val (.ref ya4), .val (.int (1 : Int32)), .val (.int (1 : Int32)), .val (.ref b3), .val (.ref b6), .val (.ref b8), .val (.ref b12), .val (.ref b15), .val (.ref b17), .val (.ref b19), .val (.int (1 : Int32)), .val (.int (0 : Int32)), .val (.int (0 : Int32)), .val (.int (1 : Int32)), .val (.int (-1 : Int32)), .val (.int (0 : Int32)), .val (.int (0 : Int32)), .unset] []))
  refine Gets.of (fun t k => XS.iinc X68.here hx rfl (hb hby d13_460) rfl (l' := #[.val (.ref ya1), .val (.ref ya2), .val (.ref ya3), .val (.ref ya4), .val (.int (1 : Int32)), .val (.int (1 : Int32)), .val (.ref b3), .val (.ref b6), .val (.ref b8), .val (.ref b12), .val (.ref b15), .val (.ref b17), .val (.ref b19), .val (.int (1 : Int32)), .val (.int (1 : Int32)), .val (.int (0 : Int32)), .val (.int (1 : Int32)), .val (.int (-1 : Int32)), .val (.int (0 : Int32)), .val (.int (0 : Int32)), .unset]) rfl k) ?_
  show Gets p e below _ (T68.setTop (mkF m 463 #[.val (.ref ya1), .val (.ref ya2), .val (.ref ya3), .val (.ref ya4), .val (.int (1 : Int32)), .val (.int (1 : Int32)), .val (.ref b3), .val (.ref b6), .val (.ref b8), .val (.ref b12), .val (.ref b15), .val (.ref b17), .val (.ref b19), .val (.int (1 : Int32)), .val (.int (1 : Int32)), .val (.int (0 : Int32)), .val (.int (1 : Int32)), .val (.int (-1 : Int32)), .val (.int (0 : Int32)), .val (.int (0 : Int32)), .unset] []))
  refine Gets.of (fun t k => XS.goto X68.here hx rfl (pc0 := 463) (pc' := 85) rfl (hb hby d13_463) (by decide) (by decide) k) ?_
  show Gets p e below _ (T68.setTop (mkF m 85 #[.val (.ref ya1), .val (.ref ya2), .val (.ref ya3), .val (.ref ya4), .val (.int (1 : Int32)), .val (.int (1 : Int32)), .val (.ref b3), .val (.ref b6), .val (.ref b8), .val (.ref b12), .val (.ref b15), .val (.ref b17), .val (.ref b19), .val (.int (1 : Int32)), .val (.int (1 : Int32)), .val (.int (0 : Int32)), .val (.int (1 : Int32)), .val (.int (-1 : Int32)), .val (.int (0 : Int32)), .val (.int (0 : Int32)), .unset] []))
  refine Gets.of (fun t k => XS.iload X68.here hx rfl (hb hby d13_85) rfl  k) ?_
  refine Gets.of (fun t k => XS.iload X68.here hx rfl (hb hby d13_87) rfl  k) ?_
  refine Gets.of (fun t k => XS.icmpYes X68.here hx rfl (pc0 := 89) (pc' := 466) rfl (hb hby d13_89) rfl (flt (by decide : ¬ ((1 : Int32) < (1 : Int32)))).2.1 (by decide) (by decide) k) ?_
  show Gets p e below _ (T68.setTop (mkF m 466 #[.val (.ref ya1), .val (.ref ya2), .val (.ref ya3), .val (.ref ya4), .val (.int (1 : Int32)), .val (.int (1 : Int32)), .val (.ref b3), .val (.ref b6), .val (.ref b8), .val (.ref b12), .val (.ref b15), .val (.ref b17), .val (.ref b19), .val (.int (1 : Int32)), .val (.int (1 : Int32)), .val (.int (0 : Int32)), .val (.int (1 : Int32)), .val (.int (-1 : Int32)), .val (.int (0 : Int32)), .val (.int (0 : Int32)), .unset] []))
  obtain ⟨T70, h70, X70, e70, E70, A70, D70, -, st70⟩ := newO X68 hx hZ hown (w89 hw) (w90 hw) (w16 hw) e68 (g := (mkF m 466 #[.val (.ref ya1), .val (.ref ya2), .val (.ref ya3), .val (.ref ya4), .val (.int (1 : Int32)), .val (.int (1 : Int32)), .val (.ref b3), .val (.ref b6), .val (.ref b8), .val (.ref b12), .val (.ref b15), .val (.ref b17), .val (.ref b19), .val (.int (1 : Int32)), .val (.int (1 : Int32)), .val (.int (0 : Int32)), .val (.int (1 : Int32)), .val (.int (-1 : Int32)), .val (.int (0 : Int32)), .val (.int (0 : Int32)), .unset] [])) rfl (hb hby d13_466) (by decide) (by decide)
  obtain ⟨b70, g70⟩ : ∃ z, z = h68.size := ⟨_, rfl⟩
  rw [← g70] at A70 D70 st70
  have up71 := (Nat.le_trans (Nat.le_trans (Nat.le_trans (Nat.le_trans (Nat.le_trans (Nat.le_trans Kq22.1 Kq25.1) (Nat.le_of_eq W31.size.symm)) (Nat.le_of_eq W40.size.symm)) (Nat.le_of_eq W44.size.symm)) (Nat.le_of_eq W64.size.symm)) (Nat.le_of_eq W68.size.symm))
  have sz_b70 : h0.size ≤ b70 := Nat.le_trans K69.1 (Nat.le_of_eq g70.symm)
  have g_b70 : n0 ≤ b70 := Nat.le_trans Z0 sz_b70
  have K72 := K69.ext E70
  have O72 := O69.ext E70
  have F70_103 : Fld Z h70 b70 cn0 "order" "[I" .null := D70 (Or.inr (w103 hw)) (ty := (.array .int)) (by decide)
  have F70_105 : Fld Z h70 b70 cn0 "step" "[I" .null := D70 (Or.inr (w105 hw)) (ty := (.array .int)) (by decide)
  have F70_107 : Fld Z h70 b70 cn0 "count" "I" (.int (0 : Int32)) := D70 (Or.inr (w107 hw)) (ty := .int) (by decide)
  have F70_109 : Fld Z h70 b70 cn0 "first" "[I" .null := D70 (Or.inr (w109 hw)) (ty := (.array .int)) (by decide)
  have F70_111 : Fld Z h70 b70 cn0 "frontStart" "[I" .null := D70 (Or.inr (w111 hw)) (ty := (.array .int)) (by decide)
  have F70_113 : Fld Z h70 b70 cn0 "front" "[I" .null := D70 (Or.inr (w113 hw)) (ty := (.array .int)) (by decide)
  have F70_115 : Fld Z h70 b70 cn0 "parent" "[I" .null := D70 (Or.inr (w115 hw)) (ty := (.array .int)) (by decide)
  refine Gets.of st70 ?_
  show Gets p e below _ (T70.setTop (mkF m 469 #[.val (.ref ya1), .val (.ref ya2), .val (.ref ya3), .val (.ref ya4), .val (.int (1 : Int32)), .val (.int (1 : Int32)), .val (.ref b3), .val (.ref b6), .val (.ref b8), .val (.ref b12), .val (.ref b15), .val (.ref b17), .val (.ref b19), .val (.int (1 : Int32)), .val (.int (1 : Int32)), .val (.int (0 : Int32)), .val (.int (1 : Int32)), .val (.int (-1 : Int32)), .val (.int (0 : Int32)), .val (.int (0 : Int32)), .unset] [(.ref b70)]))
  refine Gets.of (fun t k => XS.dup X70.here hx rfl (hb hby d13_469) rfl rfl k) ?_
  refine Gets.of (fun t k => XS.aloadN X70.here hx rfl (hb hby d13_470) rfl rfl  k) ?_
  refine Gets.of (fun t k => XS.aloadN X70.here hx rfl (hb hby d13_471) rfl rfl  k) ?_
  refine Gets.of (fun t k => XS.aloadN X70.here hx rfl (hb hby d13_472) rfl rfl  k) ?_
  show Gets p e below _ (T70.setTop (mkF m 473 #[.val (.ref ya1), .val (.ref ya2), .val (.ref ya3), .val (.ref ya4), .val (.int (1 : Int32)), .val (.int (1 : Int32)), .val (.ref b3), .val (.ref b6), .val (.ref b8), .val (.ref b12), .val (.ref b15), .val (.ref b17), .val (.ref b19), .val (.int (1 : Int32)), .val (.int (1 : Int32)), .val (.int (0 : Int32)), .val (.int (1 : Int32)), .val (.int (-1 : Int32)), .val (.int (0 : Int32)), .val (.int (0 : Int32)), .unset] [(.ref ya4), (.ref ya3), (.ref ya2), (.ref b70), (.ref b70)]))
  refine Gets.of (fun t k => XS.aload X70.here hx rfl (hb hby d13_473) rfl rfl  k) ?_
  refine Gets.of (fun t k => XS.aload X70.here hx rfl (hb hby d13_475) rfl rfl  k) ?_
  refine Gets.of (fun t k => XS.iload X70.here hx rfl (hb hby d13_477) rfl  k) ?_
  have f73 : Arv Z h70 b6 k6 .int (16 : Int32) [(.int (0 : Int32)), (.int (0 : Int32)), (.int (0 : Int32)), (.int (0 : Int32)), (.int (0 : Int32)), (.int (0 : Int32)), (.int (0 : Int32)), (.int (0 : Int32)), (.int (0 : Int32)), (.int (0 : Int32)), (.int (0 : Int32)), (.int (0 : Int32)), (.int (0 : Int32)), (.int (0 : Int32)), (.int (0 : Int32)), (.int (0 : Int32))] (.int (0 : Int32)) := (((V44.other W64 (Nat.ne_of_gt (Nat.lt_of_lt_of_le V3.lt (Nat.le_of_eq g6.symm)))).other W68 (Nat.ne_of_lt (Nat.lt_of_lt_of_le (Nat.lt_of_lt_of_le (Nat.lt_of_lt_of_le V6.lt E8.1) up13) (Nat.le_of_eq g12.symm)))).ext E70)
  obtain ⟨_, _, ⟨T74, L74, k74, n74⟩, -, X74, ⟨Lc74, hQ74, l74, y74, z74⟩, st74⟩ := Jvm.LawKit.callS X70 hx (y := (⟨cn2, "copyOf", "([II)[I"⟩ : MethodName)) hown (mvT hZ (w43 hw)) (mvT hZ (w44 hw)) (mvT hZ (w31 hw)) (mvT hZ (w45 hw)) (by decide) (backOf (W := 6) (r22_copyOf l Z a0 hw [] b6 k6 h70 n0 O72 f73) hZ (w45 hw) (w31 hw) (by decide) (by decide)) (g := (mkF m 479 #[.val (.ref ya1), .val (.ref ya2), .val (.ref ya3), .val (.ref ya4), .val (.int (1 : Int32)), .val (.int (1 : Int32)), .val (.ref b3), .val (.ref b6), .val (.ref b8), .val (.ref b12), .val (.ref b15), .val (.ref b17), .val (.ref b19), .val (.int (1 : Int32)), .val (.int (1 : Int32)), .val (.int (0 : Int32)), .val (.int (1 : Int32)), .val (.int (-1 : Int32)), .val (.int (0 : Int32)), .val (.int (0 : Int32)), .unset] [(.int (1 : Int32)), (.ref b6), (.ref b3), (.ref ya4), (.ref ya3), (.ref ya2), (.ref b70), (.ref b70)])) rfl (by rw [hml]; rfl) (argsL := [(.ref b6), (.int (1 : Int32))]) (rest := [(.ref b3), (.ref ya4), (.ref ya3), (.ref ya2), (.ref b70), (.ref b70)]) (lenOf pd__II_I rfl) rfl (by show 2 * 0 + _ ≤ _; exact Nat.le_of_eq rfl) (hb hby d13_479) (fun _ _ => ⟨rfl, e70, (by decide : 8 + 1 ≤ _), (by decide : 30 + 1 ≤ _)⟩)
  dsimp only [Pt.U, Pt.locs, Pt.cells, Pt.slots] at X74 l74 y74 z74 st74 hQ74
  subst l74 y74 z74
  obtain ⟨Nq74, Kq74, hR74⟩ := hQ74
  have N74 := Fr.app N68 Nq74
  have K75 : Keep h0 _ [] := K72.trans Kq74 all0
  have O75 := O72.keep Kq74 all0
  obtain ⟨b2_74, k2_74, rfl, bz74_0, bf74_0, bf74_1⟩ := hR74
  have sz_b2_74 : h0.size ≤ b2_74 := Nat.le_trans K72.1 bz74_0
  have g_b2_74 : n0 ≤ b2_74 := Nat.le_trans Z0 sz_b2_74
  refine Gets.of st74 ?_
  show Gets p e below _ (T74.setTop (mkF m 482 #[.val (.ref ya1), .val (.ref ya2), .val (.ref ya3), .val (.ref ya4), .val (.int (1 : Int32)), .val (.int (1 : Int32)), .val (.ref b3), .val (.ref b6), .val (.ref b8), .val (.ref b12), .val (.ref b15), .val (.ref b17), .val (.ref b19), .val (.int (1 : Int32)), .val (.int (1 : Int32)), .val (.int (0 : Int32)), .val (.int (1 : Int32)), .val (.int (-1 : Int32)), .val (.int (0 : Int32)), .val (.int (0 : Int32)), .unset] [(.ref b2_74), (.ref b3), (.ref ya4), (.ref ya3), (.ref ya2), (.ref b70), (.ref b70)]))
  refine Gets.of (fun t k => XS.aload X74.here hx rfl (hb hby d13_482) rfl rfl  k) ?_
  have f76 : Exa Z T74.heap b70 cn0 := (A70.keep Kq74)
  have f77 : Fld Z T74.heap b70 cn0 "order" "[I" .null := (F70_103.keep Kq74 nin0)
  have f78 : Fld Z T74.heap b70 cn0 "step" "[I" .null := (F70_105.keep Kq74 nin0)
  have f79 : Arv Z T74.heap ya4 yk9 .int (2 : Int32) [(.int (0 : Int32)), (.int (1 : Int32))] (.int (0 : Int32)) := ((((f46.other W64 (Nat.ne_of_lt (Nat.lt_of_lt_of_le F1.lt sz_b3))).other W68 (Nat.ne_of_lt (Nat.lt_of_lt_of_le F1.lt sz_b12))).ext E70).keep Kq74 nin0)
  have f80 : Exa Z T74.heap ya4 "[I" := (((((((((((((((((F5.ext E3).ext E6).ext E8).keep Kq10).ext E12).ext E15).ext E17).ext E19).keep Kq22).keep Kq25).wr W31).wr W40).wr W44).wr W64).wr W68).ext E70).keep Kq74)
  have f81 : Fld Z T74.heap b70 cn0 "count" "I" (.int (0 : Int32)) := (F70_107.keep Kq74 nin0)
  have f82 : Fld Z T74.heap b70 cn0 "first" "[I" .null := (F70_109.keep Kq74 nin0)
  have f83 : Fld Z T74.heap b70 cn0 "frontStart" "[I" .null := (F70_111.keep Kq74 nin0)
  have f84 : Fld Z T74.heap b70 cn0 "front" "[I" .null := (F70_113.keep Kq74 nin0)
  have f85 : Fld Z T74.heap b70 cn0 "parent" "[I" .null := (F70_115.keep Kq74 nin0)
  obtain ⟨_, _, ⟨T86, L86, k86, n86⟩, -, X86, ⟨Lc86, hQ86, l86, y86, z86⟩, st86⟩ := X74.specialBack hx (y := (⟨cn0, "<init>", "([I[I[I[I[I[I)V"⟩ : MethodName)) rfl hown (mvT hZ (w98 hw)) (mvT hZ (w99 hw)) (mvT hZ (w100 hw)) (by decide) (backOf (W := 1) (r24_init l Z a0 hw [] b70 ya2 ya3 ya4 b3 b2_74 b15 yk9 T74.heap n0 O75 f76 f77 f78 f79 f80 f81 f82 f83 f84 f85 g_b70) hZ (w100 hw) (w16 hw) (by decide) (by decide)) (g := (mkF m 484 #[.val (.ref ya1), .val (.ref ya2), .val (.ref ya3), .val (.ref ya4), .val (.int (1 : Int32)), .val (.int (1 : Int32)), .val (.ref b3), .val (.ref b6), .val (.ref b8), .val (.ref b12), .val (.ref b15), .val (.ref b17), .val (.ref b19), .val (.int (1 : Int32)), .val (.int (1 : Int32)), .val (.int (0 : Int32)), .val (.int (1 : Int32)), .val (.int (-1 : Int32)), .val (.int (0 : Int32)), .val (.int (0 : Int32)), .unset] [(.ref b15), (.ref b2_74), (.ref b3), (.ref ya4), (.ref ya3), (.ref ya2), (.ref b70), (.ref b70)])) rfl (by rw [hml]; rfl) (Steps.refl _) (a := b70) (argsL := [(.ref ya2), (.ref ya3), (.ref ya4), (.ref b3), (.ref b2_74), (.ref b15)]) (rest := [(.ref b70)]) (lenOf pd__I_I_I_I_I_I_V rfl) rfl (by show 2 * 0 + _ ≤ _; exact Nat.le_of_eq rfl) (hb hby d13_484) (fun _ _ => ⟨rfl, rfl, (by decide : 9 + 0 ≤ _), (by decide : 31 + 0 ≤ _)⟩)
  dsimp only [Pt.U, Pt.locs, Pt.cells, Pt.slots] at X86 l86 y86 z86 st86 hQ86
  subst l86 y86 z86
  obtain ⟨Nq86, Kq86, hR86⟩ := hQ86
  have N86 := Fr.app N74 Nq86
  have K87 : Keep h0 _ [] := K75.trans Kq86 (allS (Or.inr sz_b70) all0)
  have O87 := O75.keep Kq86 (allS g_b70 all0)
  obtain ⟨rfl, bf86_0, bf86_1, bf86_2, bf86_3, bf86_4, bf86_5, bf86_6⟩ := hR86
  refine Gets.tr st86 ?_
  show Gets p e below _ (T86.setTop (mkF m 487 #[.val (.ref ya1), .val (.ref ya2), .val (.ref ya3), .val (.ref ya4), .val (.int (1 : Int32)), .val (.int (1 : Int32)), .val (.ref b3), .val (.ref b6), .val (.ref b8), .val (.ref b12), .val (.ref b15), .val (.ref b17), .val (.ref b19), .val (.int (1 : Int32)), .val (.int (1 : Int32)), .val (.int (0 : Int32)), .val (.int (1 : Int32)), .val (.int (-1 : Int32)), .val (.int (0 : Int32)), .val (.int (0 : Int32)), .unset] [(.ref b70)]))
  refine Gets.retA X86 hx Bd.returns rfl rfl (hb hby d13_487) ?_ (by decide) (by decide)
  have f88 : Exa Z T86.heap b70 cn0 := (f76.keep Kq86)
  have f89 : Arv Z T86.heap b3 k3 .int (2 : Int32) [(.int (0 : Int32)), (.int (1 : Int32))] (.int (0 : Int32)) := ((((V64.other W68 (Nat.ne_of_lt (Nat.lt_of_lt_of_le (Nat.lt_of_lt_of_le (Nat.lt_of_lt_of_le (Nat.lt_of_lt_of_le V3.lt E6.1) E8.1) up13) (Nat.le_of_eq g12.symm)))).ext E70).keep Kq74 nin0).keep Kq86 (ninS (Nat.ne_of_lt (Nat.lt_of_lt_of_le (Nat.lt_of_lt_of_le (Nat.lt_of_lt_of_le (Nat.lt_of_lt_of_le (Nat.lt_of_lt_of_le (Nat.lt_of_lt_of_le (Nat.lt_of_lt_of_le (Nat.lt_of_lt_of_le (Nat.lt_of_lt_of_le V3.lt E6.1) E8.1) up13) E12.1) E15.1) E17.1) E19.1) up71) (Nat.le_of_eq g70.symm))) nin0))
  have f90 : Exa Z T86.heap b3 "[I" := (((((((((((((((((Ex3.ext E6).ext E8).keep Kq10).ext E12).ext E15).ext E17).ext E19).keep Kq22).keep Kq25).wr W31).wr W40).wr W44).wr W64).wr W68).ext E70).keep Kq74).keep Kq86)
  have f91 : Arv Z T86.heap b2_74 k2_74 .int (1 : Int32) [(.int (0 : Int32))] (.int (0 : Int32)) := (bf74_0.keep Kq86 (ninS (Nat.ne_of_gt (Nat.lt_of_lt_of_le A70.lt bz74_0)) nin0))
  have f92 : Exa Z T86.heap b2_74 "[I" := (bf74_1.keep Kq86)
  have f93 : Exa Z T86.heap b15 "[I" := ((((((((((((Ex15.ext E17).ext E19).keep Kq22).keep Kq25).wr W31).wr W40).wr W44).wr W64).wr W68).ext E70).keep Kq74).keep Kq86)
  have f94 : Arv Z T86.heap b15 k15 .int (1 : Int32) [(.int (-1 : Int32))] (.int (0 : Int32)) := (((((((((bf22_0.keep Kq25 (ninS (Nat.ne_of_lt (Nat.lt_of_lt_of_le V15.lt (Nat.le_of_eq g17.symm))) nin0)).other W31 (Nat.ne_of_gt (Nat.lt_of_lt_of_le (Nat.lt_of_lt_of_le (Nat.lt_of_lt_of_le (Nat.lt_of_lt_of_le (Nat.lt_of_lt_of_le V3.lt E6.1) E8.1) up13) E12.1) (Nat.le_of_eq g15.symm)))).other W40 (Nat.ne_of_gt (Nat.lt_of_lt_of_le (Nat.lt_of_lt_of_le (Nat.lt_of_lt_of_le V8.lt up13) E12.1) (Nat.le_of_eq g15.symm)))).other W44 (Nat.ne_of_gt (Nat.lt_of_lt_of_le (Nat.lt_of_lt_of_le (Nat.lt_of_lt_of_le (Nat.lt_of_lt_of_le V6.lt E8.1) up13) E12.1) (Nat.le_of_eq g15.symm)))).other W64 (Nat.ne_of_gt (Nat.lt_of_lt_of_le (Nat.lt_of_lt_of_le (Nat.lt_of_lt_of_le (Nat.lt_of_lt_of_le (Nat.lt_of_lt_of_le V3.lt E6.1) E8.1) up13) E12.1) (Nat.le_of_eq g15.symm)))).other W68 (Nat.ne_of_gt (Nat.lt_of_lt_of_le V12.lt (Nat.le_of_eq g15.symm)))).ext E70).keep Kq74 nin0).keep Kq86 (ninS (Nat.ne_of_lt (Nat.lt_of_lt_of_le (Nat.lt_of_lt_of_le (Nat.lt_of_lt_of_le (Nat.lt_of_lt_of_le V15.lt E17.1) E19.1) up71) (Nat.le_of_eq g70.symm))) nin0))
  exact ⟨N86, K87, ⟨b70, b3, b2_74, b15, k3, k15, k2_74, rfl, sz_b70, sz_b3, sz_b2_74, sz_b15, (Nat.ne_of_gt (Nat.lt_of_lt_of_le (Nat.lt_of_lt_of_le (Nat.lt_of_lt_of_le (Nat.lt_of_lt_of_le (Nat.lt_of_lt_of_le (Nat.lt_of_lt_of_le (Nat.lt_of_lt_of_le (Nat.lt_of_lt_of_le (Nat.lt_of_lt_of_le V3.lt E6.1) E8.1) up13) E12.1) E15.1) E17.1) E19.1) up71) (Nat.le_of_eq g70.symm))), (Nat.ne_of_lt (Nat.lt_of_lt_of_le A70.lt bz74_0)), (Nat.ne_of_gt (Nat.lt_of_lt_of_le (Nat.lt_of_lt_of_le (Nat.lt_of_lt_of_le (Nat.lt_of_lt_of_le V15.lt E17.1) E19.1) up71) (Nat.le_of_eq g70.symm))), (Nat.ne_of_lt (Nat.lt_of_lt_of_le (Nat.lt_of_lt_of_le (Nat.lt_of_lt_of_le (Nat.lt_of_lt_of_le (Nat.lt_of_lt_of_le (Nat.lt_of_lt_of_le (Nat.lt_of_lt_of_le (Nat.lt_of_lt_of_le (Nat.lt_of_lt_of_le (Nat.lt_of_lt_of_le V3.lt E6.1) E8.1) up13) E12.1) E15.1) E17.1) E19.1) up71) E70.1) bz74_0)), (Nat.ne_of_lt (Nat.lt_of_lt_of_le (Nat.lt_of_lt_of_le (Nat.lt_of_lt_of_le (Nat.lt_of_lt_of_le (Nat.lt_of_lt_of_le V3.lt E6.1) E8.1) up13) E12.1) (Nat.le_of_eq g15.symm))), (Nat.ne_of_gt (Nat.lt_of_lt_of_le (Nat.lt_of_lt_of_le (Nat.lt_of_lt_of_le (Nat.lt_of_lt_of_le (Nat.lt_of_lt_of_le V15.lt E17.1) E19.1) up71) E70.1) bz74_0)), f88, bf86_0, bf86_1, bf86_2, bf86_3, bf86_4, bf86_5, bf86_6, f89, f90, f91, f92, f93, f94⟩⟩
theorem w60 {Z : State} {a0 : Array Value} (hw : ∀ d ∈ tables_1, d.before a0 Z = true) : (Jvm.Cond.code ({ cls := cn0, name := "fronts", desc := cn6 } : Jvm.MethodName) prog_15_method_15_code (21 : Nat) (Option.some (Jvm.ClassFile.FieldType.object cn0))).before a0 Z = true := hw _ (List.mem_of_getElem? (i := 60) rfl)
theorem pd__Lcom_example_unea_unea_analysis_SparsePattern_I_I_I_Lcom_example_unea_unea_analysis_Supernodes_ : parseMethodDescriptor "(Lcom/example/unea/unea/analysis/SparsePattern;[I[I[I)Lcom/example/unea/unea/analysis/Supernodes;" = some ⟨[(.object "com/example/unea/unea/analysis/SparsePattern"), (.array .int), (.array .int), (.array .int)], some (.object "com/example/unea/unea/analysis/Supernodes")⟩ := by decide +kernel
theorem w59 {Z : State} {a0 : Array Value} (hw : ∀ d ∈ tables_1, d.before a0 Z = true) : (Jvm.Cond.static ({ cls := cn0, name := "fronts", desc := cn6 } : Jvm.MethodName)).before a0 Z = true := hw _ (List.mem_of_getElem? (i := 59) rfl)
theorem d3_138 : decode prog_15_method_2_code 138 = .ok (.areturn, 1) := by decide +kernel
def Q_r2_of (Z : State) (ya1 : Addr) (ya2 : Addr) (ya3 : Addr) (yk6 : ClassId) (yk5 : ClassId) (h0 : Heap) (n0 : Nat) (v : Option Value) (h : Heap) (L : List Loc) : Prop := Fr n0 L ∧ Keep h0 h [] ∧ ((∃ (b70_53 : Addr) (b13 : Addr) (b2_34 : Addr) (b2_18_47 : Addr) (b3_53 : Addr) (b2_74_53 : Addr) (b15_53 : Addr) (k13 : ClassId) (k2_34 : ClassId) (k2_47 : ClassId) (k3_53 : ClassId) (k15_53 : ClassId) (k2_74_53 : ClassId), v = some (.ref b70_53) ∧ h0.size ≤ b70_53 ∧ h0.size ≤ b13 ∧ h0.size ≤ b2_34 ∧ h0.size ≤ b2_18_47 ∧ h0.size ≤ b3_53 ∧ h0.size ≤ b2_74_53 ∧ h0.size ≤ b15_53 ∧ b70_53 ≠ b13 ∧ b70_53 ≠ b2_34 ∧ b70_53 ≠ b2_18_47 ∧ b70_53 ≠ b3_53 ∧ b70_53 ≠ b2_74_53 ∧ b70_53 ≠ b15_53 ∧ b13 ≠ b2_34 ∧ b13 ≠ b2_18_47 ∧ b13 ≠ b3_53 ∧ b13 ≠ b2_74_53 ∧ b13 ≠ b15_53 ∧ b2_34 ≠ b2_18_47 ∧ b2_34 ≠ b3_53 ∧ b2_34 ≠ b2_74_53 ∧ b2_34 ≠ b15_53 ∧ b2_18_47 ≠ b3_53 ∧ b2_18_47 ≠ b2_74_53 ∧ b2_18_47 ≠ b15_53 ∧ b3_53 ≠ b2_74_53 ∧ b3_53 ≠ b15_53 ∧ b2_74_53 ≠ b15_53 ∧ Exa Z h b70_53 cn0 ∧ Fld Z h b70_53 cn0 "order" "[I" (.ref b13) ∧ Fld Z h b70_53 cn0 "step" "[I" (.ref b2_34) ∧ Fld Z h b70_53 cn0 "count" "I" (.int (1 : Int32)) ∧ Fld Z h b70_53 cn0 "first" "[I" (.ref b2_18_47) ∧ Fld Z h b70_53 cn0 "frontStart" "[I" (.ref b3_53) ∧ Fld Z h b70_53 cn0 "front" "[I" (.ref b2_74_53) ∧ Fld Z h b70_53 cn0 "parent" "[I" (.ref b15_53) ∧ Arv Z h b13 k13 .int (1 : Int32) [(.int (0 : Int32))] (.int (0 : Int32)) ∧ Exa Z h b13 "[I" ∧ Arv Z h b2_34 k2_34 .int (1 : Int32) [(.int (0 : Int32))] (.int (0 : Int32)) ∧ Exa Z h b2_34 "[I" ∧ Arv Z h b2_18_47 k2_47 .int (2 : Int32) [(.int (0 : Int32)), (.int (1 : Int32))] (.int (0 : Int32)) ∧ Exa Z h b2_18_47 "[I" ∧ Arv Z h b3_53 k3_53 .int (2 : Int32) [(.int (0 : Int32)), (.int (1 : Int32))] (.int (0 : Int32)) ∧ Exa Z h b3_53 "[I" ∧ Arv Z h b2_74_53 k2_74_53 .int (1 : Int32) [(.int (0 : Int32))] (.int (0 : Int32)) ∧ Exa Z h b2_74_53 "[I" ∧ Exa Z h b15_53 "[I" ∧ Arv Z h b15_53 k15_53 .int (1 : Int32) [(.int (-1 : Int32))] (.int (0 : Int32))))
set_option maxRecDepth 65536 in
set_option maxHeartbeats 40000000 in
theorem r2_of (l : Launch) (Z : State) (a0 : Array Value) (hw : ∀ d ∈ tables_1, d.before a0 Z = true) (ws : List Jvm.Cond) (ya1 : Addr) (ya2 : Addr) (ya3 : Addr) (yk6 : ClassId) (yk5 : ClassId) (h0 : Heap) (n0 : Nat) (O0 : Old Z n0 h0) (F0 : Exa Z h0 ya1 cn1) (F1 : Fld Z h0 ya1 cn1 "start" "[I" (.ref ya3)) (F2 : Arv Z h0 ya3 yk6 .int (2 : Int32) [(.int (0 : Int32)), (.int (0 : Int32))] (.int (0 : Int32))) (F3 : Arv Z h0 ya2 yk5 .int (1 : Int32) [(.int (0 : Int32))] (.int (0 : Int32))) :
    MetFree l (⟨cn0, "of", cn5⟩ : MethodName) (head1 (Jvm.Cond.code (⟨cn0, "of", cn5⟩ : MethodName) prog_15_method_2_code 11 (some (.object cn0)) :: ws) ({ frames := 5, cells := 27, slots := 53, locals := 113 } : Room)) (fun a U => a = #[(.ref ya1), (.ref ya2)] ∧ Z.Warmed39 U.vm ∧ U.heap = h0) (fun _ _ _ _ _ => True) (fun _ U o U' => ∃ v L, o = .returned v ∧ Q_r2_of Z ya1 ya2 ya3 yk6 yk5 h0 n0 v U'.heap L ∧ FrameEnd U o U' L ({ frames := 5, cells := 27, slots := 53, locals := 113 } : Room).cells ({ frames := 5, cells := 27, slots := 53, locals := 113 } : Room).slots) := by
  refine MetFree.of_bodySF (plainFor_of_name pn_com_example_unea_unea_analysis_Supernodes) hisR ?_
  intro p e s m args below meth c s₁ Bd hml0 hP hK
  obtain ⟨rfl, hZ, hh⟩ := hP
  have hx := Bd.exec
  have hby := Bd.bytes
  have hlk := Bd.notSynchronized
  have hml : c.maxLocals = 11 := hml0
  have hown : s.vm.findClass cn0 = some m.cls := findClass_of_methodNamed Bd.named
  have hnm := (name_of_methodNamed Bd.named Bd.method).1
  have X0 : Stand p l e ({ frames := 5, cells := 27, slots := 53, locals := 113 } : Room) s m #[(.ref ya1), (.ref ya2)] below meth c s₁ [] 0 0 := Stand.of_body Bd
  have e0 : s₁.heap = h0 := by rw [← hh, Bd.state]; rfl
  have N0 := Fr.nil n0
  have K0 := Keep.refl h0 []
  have Z0 : n0 ≤ h0.size := O0.1 ▸ O0.2.1
  have hef : entryFrame m #[(.ref ya1), (.ref ya2)] 11 = mkF m 0 #[.val (.ref ya1), .val (.ref ya2), .unset, .unset, .unset, .unset, .unset, .unset, .unset, .unset, .unset] [] := by first | (simp [entryFrame, mkF, argsToLocals, Value.category]; done) | rfl
  rw [hef]
  refine Gets.out (Q := Q_r2_of Z ya1 ya2 ya3 yk6 yk5 h0 n0) ?_
  show Gets p e below _ (s₁.setTop (mkF m 0 #[.val (.ref ya1), .val (.ref ya2), .unset, .unset, .unset, .unset, .unset, .unset, .unset, .unset, .unset] []))
  refine Gets.of (fun t k => XS.aloadN X0.here hx rfl (hb hby d3_0) rfl rfl  k) ?_
  obtain ⟨cq1, kq1, q1a, q1b, q1c⟩ := isOf hZ e0 F0
  obtain ⟨_, _, ⟨T1, L1, k1, n1⟩, -, X1, ⟨Lc1, hQ1, l1, y1, z1⟩, st1⟩ := X0.virtualBack hx (y := (⟨cn1, "size", "()I"⟩ : MethodName)) (z := (⟨cn1, "size", "()I"⟩ : MethodName)) hown (mvT hZ (w18 hw)) (mvT hZ (w19 hw)) (notFace_of_selects (args := #[]) (mvT hZ (w21 hw))) (mvT hZ (w21 hw)) (mvT hZ (w20 hw)) (by decide) (backOf (W := 0) (r3_size l Z a0 hw [] ya1 ya3 yk6 h0 n0 O0 F1 F2) hZ (w22 hw) (w2 hw) (by decide) (by decide)) q1a q1c (g := (mkF m 1 #[.val (.ref ya1), .val (.ref ya2), .unset, .unset, .unset, .unset, .unset, .unset, .unset, .unset, .unset] [(.ref ya1)])) rfl (by rw [hml]; rfl) (Steps.refl _) (argsL := []) (rest := []) (lenOf pd__I rfl) rfl (by show 2 * 0 + _ ≤ _; exact Nat.le_of_eq rfl) (hb hby d3_1) (fun _ _ => ⟨rfl, e0, (by decide : 0 + 0 ≤ _), (by decide : 0 + 0 ≤ _)⟩)
  dsimp only [Pt.U, Pt.locs, Pt.cells, Pt.slots] at X1 l1 y1 z1 st1 hQ1
  subst l1 y1 z1
  obtain ⟨Nq1, eq1, hR1⟩ := hQ1
  have N1 := Fr.app N0 Nq1
  obtain rfl := hR1
  refine Gets.tr st1 ?_
  show Gets p e below _ (T1.setTop (mkF m 4 #[.val (.ref ya1), .val (.ref ya2), .unset, .unset, .unset, .unset, .unset, .unset, .unset, .unset, .unset] [(.int (1 : Int32))]))
  refine Gets.of (fun t k => XS.istoreN X1.here hx rfl (hb hby d3_4) rfl (l' := #[.val (.ref ya1), .val (.ref ya2), .val (.int (1 : Int32)), .unset, .unset, .unset, .unset, .unset, .unset, .unset, .unset]) rfl k) ?_
  show Gets p e below _ (T1.setTop (mkF m 5 #[.val (.ref ya1), .val (.ref ya2), .val (.int (1 : Int32)), .unset, .unset, .unset, .unset, .unset, .unset, .unset, .unset] []))
  refine Gets.of (fun t k => XS.aloadN X1.here hx rfl (hb hby d3_5) rfl rfl  k) ?_
  refine Gets.of (fun t k => XS.aloadN X1.here hx rfl (hb hby d3_6) rfl rfl  k) ?_
  refine Gets.of (fun t k => XS.aloadN X1.here hx rfl (hb hby d3_7) rfl rfl  k) ?_
  obtain ⟨_, _, ⟨T2, L2, k2, n2⟩, -, X2, ⟨Lc2, hQ2, l2, y2, z2⟩, st2⟩ := Jvm.LawKit.callS X1 hx (y := (⟨cn0, "inverse", "([I)[I"⟩ : MethodName)) hown (mvT hZ (w23 hw)) (mvT hZ (w24 hw)) (mvT hZ (w16 hw)) (mvT hZ (w25 hw)) (by decide) (backOf (W := 2) (r4_inverse l Z a0 hw [] ya2 yk5 h0 n0 O0 F3) hZ (w25 hw) (w16 hw) (by decide) (by decide)) (g := (mkF m 8 #[.val (.ref ya1), .val (.ref ya2), .val (.int (1 : Int32)), .unset, .unset, .unset, .unset, .unset, .unset, .unset, .unset] [(.ref ya2), (.ref ya2), (.ref ya1)])) rfl (by rw [hml]; rfl) (argsL := [(.ref ya2)]) (rest := [(.ref ya2), (.ref ya1)]) (lenOf pd__I_I rfl) rfl (by show 2 * 0 + _ ≤ _; exact Nat.le_of_eq rfl) (hb hby d3_8) (fun _ _ => ⟨rfl, eq1, (by decide : 0 + 1 ≤ _), (by decide : 0 + 1 ≤ _)⟩)
  dsimp only [Pt.U, Pt.locs, Pt.cells, Pt.slots] at X2 l2 y2 z2 st2 hQ2
  subst l2 y2 z2
  obtain ⟨Nq2, Kq2, hR2⟩ := hQ2
  have N2 := Fr.app N1 Nq2
  have K3 : Keep h0 _ [] := K0.trans Kq2 all0
  have O3 := O0.keep Kq2 all0
  obtain ⟨b2_2, k2_2, rfl, bz2_0, bf2_0, bf2_1⟩ := hR2
  have sz_b2_2 : h0.size ≤ b2_2 := Nat.le_trans K0.1 bz2_0
  have g_b2_2 : n0 ≤ b2_2 := Nat.le_trans Z0 sz_b2_2
  refine Gets.of st2 ?_
  show Gets p e below _ (T2.setTop (mkF m 11 #[.val (.ref ya1), .val (.ref ya2), .val (.int (1 : Int32)), .unset, .unset, .unset, .unset, .unset, .unset, .unset, .unset] [(.ref b2_2), (.ref ya2), (.ref ya1)]))
  have f4 : Arv Z T2.heap ya2 yk5 .int (1 : Int32) [(.int (0 : Int32))] (.int (0 : Int32)) := (F3.keep Kq2 nin0)
  have f5 : Fld Z T2.heap ya1 cn1 "start" "[I" (.ref ya3) := (F1.keep Kq2 nin0)
  have f6 : Arv Z T2.heap ya3 yk6 .int (2 : Int32) [(.int (0 : Int32)), (.int (0 : Int32))] (.int (0 : Int32)) := (F2.keep Kq2 nin0)
  obtain ⟨_, _, ⟨T7, L7, k7, n7⟩, -, X7, ⟨Lc7, hQ7, l7, y7, z7⟩, st7⟩ := Jvm.LawKit.callS X2 hx (y := (⟨cn0, "eliminationTree", "(Lcom/example/unea/unea/analysis/SparsePattern;[I[I)[I"⟩ : MethodName)) hown (mvT hZ (w26 hw)) (mvT hZ (w27 hw)) (mvT hZ (w16 hw)) (mvT hZ (w28 hw)) (by decide) (backOf (W := 0) (r5_eliminationTree l Z a0 hw [] ya1 ya2 b2_2 yk5 ya3 yk6 T2.heap n0 O3 f4 f5 f6) hZ (w28 hw) (w16 hw) (by decide) (by decide)) (g := (mkF m 11 #[.val (.ref ya1), .val (.ref ya2), .val (.int (1 : Int32)), .unset, .unset, .unset, .unset, .unset, .unset, .unset, .unset] [(.ref b2_2), (.ref ya2), (.ref ya1)])) rfl (by rw [hml]; rfl) (argsL := [(.ref ya1), (.ref ya2), (.ref b2_2)]) (rest := []) (lenOf pd__Lcom_example_unea_unea_analysis_SparsePattern_I_I_I rfl) rfl (by show 2 * 0 + _ ≤ _; exact Nat.le_of_eq rfl) (hb hby d3_11) (fun _ _ => ⟨rfl, rfl, (by decide : 1 + 2 ≤ _), (by decide : 1 + 2 ≤ _)⟩)
  dsimp only [Pt.U, Pt.locs, Pt.cells, Pt.slots] at X7 l7 y7 z7 st7 hQ7
  subst l7 y7 z7
  obtain ⟨Nq7, Kq7, hR7⟩ := hQ7
  have N7 := Fr.app N2 Nq7
  have K8 : Keep h0 _ [] := K3.trans Kq7 all0
  have O8 := O3.keep Kq7 all0
  obtain ⟨b2_7, k2_7, rfl, bz7_0, bf7_0, bf7_1⟩ := hR7
  have sz_b2_7 : h0.size ≤ b2_7 := Nat.le_trans K3.1 bz7_0
  have g_b2_7 : n0 ≤ b2_7 := Nat.le_trans Z0 sz_b2_7
  refine Gets.of st7 ?_
  show Gets p e below _ (T7.setTop (mkF m 14 #[.val (.ref ya1), .val (.ref ya2), .val (.int (1 : Int32)), .unset, .unset, .unset, .unset, .unset, .unset, .unset, .unset] [(.ref b2_7)]))
  refine Gets.of (fun t k => XS.astoreN X7.here hx rfl (hb hby d3_14) rfl rfl (l' := #[.val (.ref ya1), .val (.ref ya2), .val (.int (1 : Int32)), .val (.ref b2_7), .unset, .unset, .unset, .unset, .unset, .unset, .unset]) rfl k) ?_
  show Gets p e below _ (T7.setTop (mkF m 15 #[.val (.ref ya1), .val (.ref ya2), .val (.int (1 : Int32)), .val (.ref b2_7), .unset, .unset, .unset, .unset, .unset, .unset, .unset] []))
  refine Gets.of (fun t k => XS.aloadN X7.here hx rfl (hb hby d3_15) rfl rfl  k) ?_
  obtain ⟨_, _, ⟨T9, L9, k9, n9⟩, -, X9, ⟨Lc9, hQ9, l9, y9, z9⟩, st9⟩ := Jvm.LawKit.callS X7 hx (y := (⟨cn0, "postorder", "([I)[I"⟩ : MethodName)) hown (mvT hZ (w34 hw)) (mvT hZ (w35 hw)) (mvT hZ (w16 hw)) (mvT hZ (w36 hw)) (by decide) (backOf (W := 0) (r7_postorder l Z a0 hw [] b2_7 k2_7 T7.heap n0 O8 bf7_1) hZ (w36 hw) (w16 hw) (by decide) (by decide)) (g := (mkF m 16 #[.val (.ref ya1), .val (.ref ya2), .val (.int (1 : Int32)), .val (.ref b2_7), .unset, .unset, .unset, .unset, .unset, .unset, .unset] [(.ref b2_7)])) rfl (by rw [hml]; rfl) (argsL := [(.ref b2_7)]) (rest := []) (lenOf pd__I_I rfl) rfl (by show 2 * 0 + _ ≤ _; exact Nat.le_of_eq rfl) (hb hby d3_16) (fun _ _ => ⟨rfl, rfl, (by decide : 3 + 4 ≤ _), (by decide : 3 + 4 ≤ _)⟩)
  dsimp only [Pt.U, Pt.locs, Pt.cells, Pt.slots] at X9 l9 y9 z9 st9 hQ9
  subst l9 y9 z9
  obtain ⟨Nq9, Kq9, hR9⟩ := hQ9
  have N9 := Fr.app N7 Nq9
  have K10 : Keep h0 _ [] := K8.trans Kq9 all0
  have O10 := O8.keep Kq9 all0
  obtain ⟨b11_9, k11_9, rfl, bz9_0, bf9_0, bf9_1⟩ := hR9
  have sz_b11_9 : h0.size ≤ b11_9 := Nat.le_trans K8.1 bz9_0
  have g_b11_9 : n0 ≤ b11_9 := Nat.le_trans Z0 sz_b11_9
  refine Gets.of st9 ?_
  show Gets p e below _ (T9.setTop (mkF m 19 #[.val (.ref ya1), .val (.ref ya2), .val (.int (1 : Int32)), .val (.ref b2_7), .unset, .unset, .unset, .unset, .unset, .unset, .unset] [(.ref b11_9)]))
  refine Gets.of (fun t k => XS.astore X9.here hx rfl (hb hby d3_19) rfl rfl (l' := #[.val (.ref ya1), .val (.ref ya2), .val (.int (1 : Int32)), .val (.ref b2_7), .val (.ref b11_9), .unset, .unset, .unset, .unset, .unset, .unset]) rfl k) ?_
  show Gets p e below _ (T9.setTop (mkF m 21 #[.val (.ref ya1), .val (.ref ya2), .val (.int (1 : Int32)), .val (.ref b2_7), .val (.ref b11_9), .unset, .unset, .unset, .unset, .unset, .unset] []))
  refine Gets.of (fun t k => XS.aload X9.here hx rfl (hb hby d3_21) rfl rfl  k) ?_
  obtain ⟨_, _, ⟨T11, L11, k11, n11⟩, -, X11, ⟨Lc11, hQ11, l11, y11, z11⟩, st11⟩ := Jvm.LawKit.callS X9 hx (y := (⟨cn0, "inverse", "([I)[I"⟩ : MethodName)) hown (mvT hZ (w23 hw)) (mvT hZ (w24 hw)) (mvT hZ (w16 hw)) (mvT hZ (w25 hw)) (by decide) (backOf (W := 0) (r4_inverse l Z a0 hw [] b11_9 k11_9 T9.heap n0 O10 bf9_0) hZ (w25 hw) (w16 hw) (by decide) (by decide)) (g := (mkF m 23 #[.val (.ref ya1), .val (.ref ya2), .val (.int (1 : Int32)), .val (.ref b2_7), .val (.ref b11_9), .unset, .unset, .unset, .unset, .unset, .unset] [(.ref b11_9)])) rfl (by rw [hml]; rfl) (argsL := [(.ref b11_9)]) (rest := []) (lenOf pd__I_I rfl) rfl (by show 2 * 0 + _ ≤ _; exact Nat.le_of_eq rfl) (hb hby d3_23) (fun _ _ => ⟨rfl, rfl, (by decide : 7 + 1 ≤ _), (by decide : 7 + 1 ≤ _)⟩)
  dsimp only [Pt.U, Pt.locs, Pt.cells, Pt.slots] at X11 l11 y11 z11 st11 hQ11
  subst l11 y11 z11
  obtain ⟨Nq11, Kq11, hR11⟩ := hQ11
  have N11 := Fr.app N9 Nq11
  have K12 : Keep h0 _ [] := K10.trans Kq11 all0
  have O12 := O10.keep Kq11 all0
  obtain ⟨b2_11, k2_11, rfl, bz11_0, bf11_0, bf11_1⟩ := hR11
  have sz_b2_11 : h0.size ≤ b2_11 := Nat.le_trans K10.1 bz11_0
  have g_b2_11 : n0 ≤ b2_11 := Nat.le_trans Z0 sz_b2_11
  refine Gets.of st11 ?_
  show Gets p e below _ (T11.setTop (mkF m 26 #[.val (.ref ya1), .val (.ref ya2), .val (.int (1 : Int32)), .val (.ref b2_7), .val (.ref b11_9), .unset, .unset, .unset, .unset, .unset, .unset] [(.ref b2_11)]))
  refine Gets.of (fun t k => XS.astore X11.here hx rfl (hb hby d3_26) rfl rfl (l' := #[.val (.ref ya1), .val (.ref ya2), .val (.int (1 : Int32)), .val (.ref b2_7), .val (.ref b11_9), .val (.ref b2_11), .unset, .unset, .unset, .unset, .unset]) rfl k) ?_
  show Gets p e below _ (T11.setTop (mkF m 28 #[.val (.ref ya1), .val (.ref ya2), .val (.int (1 : Int32)), .val (.ref b2_7), .val (.ref b11_9), .val (.ref b2_11), .unset, .unset, .unset, .unset, .unset] []))
  refine Gets.of (fun t k => XS.iloadN X11.here hx rfl (hb hby d3_28) rfl  k) ?_
  obtain ⟨T13, h13, k13, X13, e13, E13, A13, Ex13, st13⟩ := newPE X11 hx hZ (aty := .int) (w3 hw) rfl (g := (mkF m 29 #[.val (.ref ya1), .val (.ref ya2), .val (.int (1 : Int32)), .val (.ref b2_7), .val (.ref b11_9), .val (.ref b2_11), .unset, .unset, .unset, .unset, .unset] [(.int (1 : Int32))])) rfl (hb hby d3_29) rfl (by decide) (cap := 1) (by decide) (by decide) (by decide) (by decide) (ad := "[I") rfl
  obtain ⟨b13, g13⟩ : ∃ z, z = T11.heap.size := ⟨_, rfl⟩
  rw [← g13] at A13 Ex13 st13
  have sz_b13 : h0.size ≤ b13 := Nat.le_trans K12.1 (Nat.le_of_eq g13.symm)
  have g_b13 : n0 ≤ b13 := Nat.le_trans Z0 sz_b13
  have K14 := K12.ext E13
  have O14 := O12.ext E13
  have V13 : Arv Z h13 b13 k13 .int (1 : Int32) [(.int (0 : Int32))] (.int (0 : Int32)) := (Arv.new A13 (by decide)).pad (pad_rep [] (.int (0 : Int32)) 1)
  refine Gets.of st13 ?_
  show Gets p e below _ (T13.setTop (mkF m 31 #[.val (.ref ya1), .val (.ref ya2), .val (.int (1 : Int32)), .val (.ref b2_7), .val (.ref b11_9), .val (.ref b2_11), .unset, .unset, .unset, .unset, .unset] [(.ref b13)]))
  refine Gets.of (fun t k => XS.astore X13.here hx rfl (hb hby d3_31) rfl rfl (l' := #[.val (.ref ya1), .val (.ref ya2), .val (.int (1 : Int32)), .val (.ref b2_7), .val (.ref b11_9), .val (.ref b2_11), .val (.ref b13), .unset, .unset, .unset, .unset]) rfl k) ?_
  show Gets p e below _ (T13.setTop (mkF m 33 #[.val (.ref ya1), .val (.ref ya2), .val (.int (1 : Int32)), .val (.ref b2_7), .val (.ref b11_9), .val (.ref b2_11), .val (.ref b13), .unset, .unset, .unset, .unset] []))
  refine Gets.of (fun t k => XS.iloadN X13.here hx rfl (hb hby d3_33) rfl  k) ?_
  obtain ⟨T15, h15, k15, X15, e15, E15, A15, Ex15, st15⟩ := newPE X13 hx hZ (aty := .int) (w3 hw) e13 (g := (mkF m 34 #[.val (.ref ya1), .val (.ref ya2), .val (.int (1 : Int32)), .val (.ref b2_7), .val (.ref b11_9), .val (.ref b2_11), .val (.ref b13), .unset, .unset, .unset, .unset] [(.int (1 : Int32))])) rfl (hb hby d3_34) rfl (by decide) (cap := 1) (by decide) (by decide) (by decide) (by decide) (ad := "[I") rfl
  obtain ⟨b15, g15⟩ : ∃ z, z = h13.size := ⟨_, rfl⟩
  rw [← g15] at A15 Ex15 st15
  have sz_b15 : h0.size ≤ b15 := Nat.le_trans K14.1 (Nat.le_of_eq g15.symm)
  have g_b15 : n0 ≤ b15 := Nat.le_trans Z0 sz_b15
  have K16 := K14.ext E15
  have O16 := O14.ext E15
  have V15 : Arv Z h15 b15 k15 .int (1 : Int32) [(.int (0 : Int32))] (.int (0 : Int32)) := (Arv.new A15 (by decide)).pad (pad_rep [] (.int (0 : Int32)) 1)
  refine Gets.of st15 ?_
  show Gets p e below _ (T15.setTop (mkF m 36 #[.val (.ref ya1), .val (.ref ya2), .val (.int (1 : Int32)), .val (.ref b2_7), .val (.ref b11_9), .val (.ref b2_11), .val (.ref b13), .unset, .unset, .unset, .unset] [(.ref b15)]))
  refine Gets.of (fun t k => XS.astore X15.here hx rfl (hb hby d3_36) rfl rfl (l' := #[.val (.ref ya1), .val (.ref ya2), .val (.int (1 : Int32)), .val (.ref b2_7), .val (.ref b11_9), .val (.ref b2_11), .val (.ref b13), .val (.ref b15), .unset, .unset, .unset]) rfl k) ?_
  show Gets p e below _ (T15.setTop (mkF m 38 #[.val (.ref ya1), .val (.ref ya2), .val (.int (1 : Int32)), .val (.ref b2_7), .val (.ref b11_9), .val (.ref b2_11), .val (.ref b13), .val (.ref b15), .unset, .unset, .unset] []))
  refine Gets.of (fun t k => XS.iconst X15.here hx rfl (hb hby d3_38) k) ?_
  refine Gets.of (fun t k => XS.istore X15.here hx rfl (hb hby d3_39) rfl (l' := #[.val (.ref ya1), .val (.ref ya2), .val (.int (1 : Int32)), .val (.ref b2_7), .val (.ref b11_9), .val (.ref b2_11), .val (.ref b13), .val (.ref b15), .val (.int (0 : Int32)), .unset, .unset]) rfl k) ?_
  show Gets p e below _ (T15.setTop (mkF m 41 #[.val (.ref ya1), .val (.ref ya2), .val (.int (1 : Int32)), .val (.ref b2_7), .val (.ref b11_9), .val (.ref b2_11), .val (.ref b13), .val (.ref b15), .val (.int (0 : Int32)), .unset, .unset] []))
  refine Gets.of (fun t k => XS.iload X15.here hx rfl (hb hby d3_41) rfl  k) ?_
  refine Gets.of (fun t k => XS.iloadN X15.here hx rfl (hb hby d3_43) rfl  k) ?_
  refine Gets.of (fun t k => XS.icmpNo X15.here hx rfl (hb hby d3_44) rfl (tlt (by decide : (0 : Int32) < (1 : Int32))).2.1 k) ?_
  show Gets p e below _ (T15.setTop (mkF m 47 #[.val (.ref ya1), .val (.ref ya2), .val (.int (1 : Int32)), .val (.ref b2_7), .val (.ref b11_9), .val (.ref b2_11), .val (.ref b13), .val (.ref b15), .val (.int (0 : Int32)), .unset, .unset] []))
  refine Gets.of (fun t k => XS.aload X15.here hx rfl (hb hby d3_47) rfl rfl  k) ?_
  refine Gets.of (fun t k => XS.iload X15.here hx rfl (hb hby d3_49) rfl  k) ?_
  refine Gets.of (fun t k => XS.aloadN X15.here hx rfl (hb hby d3_51) rfl rfl  k) ?_
  refine Gets.of (fun t k => XS.aload X15.here hx rfl (hb hby d3_52) rfl rfl  k) ?_
  show Gets p e below _ (T15.setTop (mkF m 54 #[.val (.ref ya1), .val (.ref ya2), .val (.int (1 : Int32)), .val (.ref b2_7), .val (.ref b11_9), .val (.ref b2_11), .val (.ref b13), .val (.ref b15), .val (.int (0 : Int32)), .unset, .unset] [(.ref b11_9), (.ref ya2), (.int (0 : Int32)), (.ref b13)]))
  refine Gets.of (fun t k => XS.iload X15.here hx rfl (hb hby d3_54) rfl  k) ?_
  have f17 : Arv Z h15 b11_9 k11_9 .int (1 : Int32) [(.int (0 : Int32))] (.int (0 : Int32)) := (((bf9_0.keep Kq11 nin0).ext E13).ext E15)
  obtain ⟨cl18, Ar18, q18, S18, N_18, H18, G18⟩ := id (f17)
  have hin18 : ¬ ((0 : Int32) < 0 ∨ cl18.slots.size ≤ ((0 : Int32)).toNatClampNeg) := inb_of S18 ⟨by decide, by decide⟩
  refine Gets.of (fun t k => X15.iaload hx (j := (0 : Int32)) (v := (.int (0 : Int32))) (by rw [e15]; exact Ar18.1) (State.isArrayOf_alike hZ.alike Ar18.2.1) Ar18.2.2 hin18 (Has.at H18 hin18 rfl) (g := (mkF m 56 #[.val (.ref ya1), .val (.ref ya2), .val (.int (1 : Int32)), .val (.ref b2_7), .val (.ref b11_9), .val (.ref b2_11), .val (.ref b13), .val (.ref b15), .val (.int (0 : Int32)), .unset, .unset] [(.int (0 : Int32)), (.ref b11_9), (.ref ya2), (.int (0 : Int32)), (.ref b13)])) rfl rfl (hb hby d3_56) t k) ?_
  show Gets p e below _ (T15.setTop (mkF m 57 #[.val (.ref ya1), .val (.ref ya2), .val (.int (1 : Int32)), .val (.ref b2_7), .val (.ref b11_9), .val (.ref b2_11), .val (.ref b13), .val (.ref b15), .val (.int (0 : Int32)), .unset, .unset] [(.int (0 : Int32)), (.ref ya2), (.int (0 : Int32)), (.ref b13)]))
  have f19 : Arv Z h15 ya2 yk5 .int (1 : Int32) [(.int (0 : Int32))] (.int (0 : Int32)) := (((((f4.keep Kq7 nin0).keep Kq9 nin0).keep Kq11 nin0).ext E13).ext E15)
  obtain ⟨cl20, Ar20, q20, S20, N_20, H20, G20⟩ := id (f19)
  have hin20 : ¬ ((0 : Int32) < 0 ∨ cl20.slots.size ≤ ((0 : Int32)).toNatClampNeg) := inb_of S20 ⟨by decide, by decide⟩
  refine Gets.of (fun t k => X15.iaload hx (j := (0 : Int32)) (v := (.int (0 : Int32))) (by rw [e15]; exact Ar20.1) (State.isArrayOf_alike hZ.alike Ar20.2.1) Ar20.2.2 hin20 (Has.at H20 hin20 rfl) (g := (mkF m 57 #[.val (.ref ya1), .val (.ref ya2), .val (.int (1 : Int32)), .val (.ref b2_7), .val (.ref b11_9), .val (.ref b2_11), .val (.ref b13), .val (.ref b15), .val (.int (0 : Int32)), .unset, .unset] [(.int (0 : Int32)), (.ref ya2), (.int (0 : Int32)), (.ref b13)])) rfl rfl (hb hby d3_57) t k) ?_
  show Gets p e below _ (T15.setTop (mkF m 58 #[.val (.ref ya1), .val (.ref ya2), .val (.int (1 : Int32)), .val (.ref b2_7), .val (.ref b11_9), .val (.ref b2_11), .val (.ref b13), .val (.ref b15), .val (.int (0 : Int32)), .unset, .unset] [(.int (0 : Int32)), (.int (0 : Int32)), (.ref b13)]))
  have f21 : Arv Z h15 b13 k13 .int (1 : Int32) [(.int (0 : Int32))] (.int (0 : Int32)) := (V13.ext E15)
  obtain ⟨cl22, Ar22, q22, S22, N_22, H22, G22⟩ := id (f21)
  have hin22 : ¬ ((0 : Int32) < 0 ∨ cl22.slots.size ≤ ((0 : Int32)).toNatClampNeg) := inb_of S22 ⟨by decide, by decide⟩
  obtain ⟨T23, h23, X23, e23, W23, st23⟩ := stI X15 hx hZ e15 Ar22 (j := (0 : Int32)) hin22 (g := (mkF m 58 #[.val (.ref ya1), .val (.ref ya2), .val (.int (1 : Int32)), .val (.ref b2_7), .val (.ref b11_9), .val (.ref b2_11), .val (.ref b13), .val (.ref b15), .val (.int (0 : Int32)), .unset, .unset] [(.int (0 : Int32)), (.int (0 : Int32)), (.ref b13)])) rfl rfl (hb hby d3_58)
  have V23 : Arv Z h23 b13 k13 .int (1 : Int32) [(.int (0 : Int32))] (.int (0 : Int32)) := Arv.set Ar22 q22 S22 N_22 H22 G22 rfl W23 0 rfl (Nat.le_of_ble_eq_true rfl)
  have N23 := Fr.snoc X23 N11 g_b13
  have K24 : Keep h0 _ [] := K16.wr W23 (Or.inr sz_b13)
  have O24 := O16.wr W23 g_b13
  refine Gets.of st23 ?_
  show Gets p e below _ (T23.setTop (mkF m 59 #[.val (.ref ya1), .val (.ref ya2), .val (.int (1 : Int32)), .val (.ref b2_7), .val (.ref b11_9), .val (.ref b2_11), .val (.ref b13), .val (.ref b15), .val (.int (0 : Int32)), .unset, .unset] []))
  refine Gets.of (fun t k => XS.aloadN X23.here hx rfl (hb hby d3_59) rfl rfl  k) ?_
  refine Gets.of (fun t k => XS.aload X23.here hx rfl (hb hby d3_60) rfl rfl  k) ?_
  refine Gets.of (fun t k => XS.iload X23.here hx rfl (hb hby d3_62) rfl  k) ?_
  have f25 : Arv Z h23 b11_9 k11_9 .int (1 : Int32) [(.int (0 : Int32))] (.int (0 : Int32)) := (f17.other W23 (Nat.ne_of_lt (Nat.lt_of_lt_of_le (Nat.lt_of_lt_of_le bf9_0.lt Kq11.1) (Nat.le_of_eq g13.symm))))
  obtain ⟨cl26, Ar26, q26, S26, N_26, H26, G26⟩ := id (f25)
  have hin26 : ¬ ((0 : Int32) < 0 ∨ cl26.slots.size ≤ ((0 : Int32)).toNatClampNeg) := inb_of S26 ⟨by decide, by decide⟩
  refine Gets.of (fun t k => X23.iaload hx (j := (0 : Int32)) (v := (.int (0 : Int32))) (by rw [e23]; exact Ar26.1) (State.isArrayOf_alike hZ.alike Ar26.2.1) Ar26.2.2 hin26 (Has.at H26 hin26 rfl) (g := (mkF m 64 #[.val (.ref ya1), .val (.ref ya2), .val (.int (1 : Int32)), .val (.ref b2_7), .val (.ref b11_9), .val (.ref b2_11), .val (.ref b13), .val (.ref b15), .val (.int (0 : Int32)), .unset, .unset] [(.int (0 : Int32)), (.ref b11_9), (.ref b2_7)])) rfl rfl (hb hby d3_64) t k) ?_
  show Gets p e below _ (T23.setTop (mkF m 65 #[.val (.ref ya1), .val (.ref ya2), .val (.int (1 : Int32)), .val (.ref b2_7), .val (.ref b11_9), .val (.ref b2_11), .val (.ref b13), .val (.ref b15), .val (.int (0 : Int32)), .unset, .unset] [(.int (0 : Int32)), (.ref b2_7)]))
  have f27 : Arv Z h23 b2_7 k2_7 .int (1 : Int32) [(.int (-1 : Int32))] (.int (0 : Int32)) := (((((bf7_1.keep Kq9 nin0).keep Kq11 nin0).ext E13).ext E15).other W23 (Nat.ne_of_lt (Nat.lt_of_lt_of_le (Nat.lt_of_lt_of_le (Nat.lt_of_lt_of_le bf7_0.lt Kq9.1) Kq11.1) (Nat.le_of_eq g13.symm))))
  obtain ⟨cl28, Ar28, q28, S28, N_28, H28, G28⟩ := id (f27)
  have hin28 : ¬ ((0 : Int32) < 0 ∨ cl28.slots.size ≤ ((0 : Int32)).toNatClampNeg) := inb_of S28 ⟨by decide, by decide⟩
  refine Gets.of (fun t k => X23.iaload hx (j := (0 : Int32)) (v := (.int (-1 : Int32))) (by rw [e23]; exact Ar28.1) (State.isArrayOf_alike hZ.alike Ar28.2.1) Ar28.2.2 hin28 (Has.at H28 hin28 rfl) (g := (mkF m 65 #[.val (.ref ya1), .val (.ref ya2), .val (.int (1 : Int32)), .val (.ref b2_7), .val (.ref b11_9), .val (.ref b2_11), .val (.ref b13), .val (.ref b15), .val (.int (0 : Int32)), .unset, .unset] [(.int (0 : Int32)), (.ref b2_7)])) rfl rfl (hb hby d3_65) t k) ?_
  show Gets p e below _ (T23.setTop (mkF m 66 #[.val (.ref ya1), .val (.ref ya2), .val (.int (1 : Int32)), .val (.ref b2_7), .val (.ref b11_9), .val (.ref b2_11), .val (.ref b13), .val (.ref b15), .val (.int (0 : Int32)), .unset, .unset] [(.int (-1 : Int32))]))
  refine Gets.of (fun t k => XS.istore X23.here hx rfl (hb hby d3_66) rfl (l' := #[.val (.ref ya1), .val (.ref ya2), .val (.int (1 : Int32)), .val (.ref b2_7), .val (.ref b11_9), .val (.ref b2_11), .val (.ref b13), .val (.ref b15), .val (.int (0 : Int32)), .val (.int (-1 : Int32)), .unset]) rfl k) ?_
  show Gets p e below _ (T23.setTop (mkF m 68 #[.val (.ref ya1), .val (.ref ya2), .val (.int (1 : Int32)), .val (.ref b2_7), .val (.ref b11_9), .val (.ref b2_11), .val (.ref b13), .val (.ref b15), .val (.int (0 : Int32)), .val (.int (-1 : Int32)), .unset] []))
  refine Gets.of (fun t k => XS.aload X23.here hx rfl (hb hby d3_68) rfl rfl  k) ?_
  refine Gets.of (fun t k => XS.iload X23.here hx rfl (hb hby d3_70) rfl  k) ?_
  refine Gets.of (fun t k => XS.iload X23.here hx rfl (hb hby d3_72) rfl  k) ?_
  refine Gets.of (fun t k => XS.ifNo X23.here hx rfl (hb hby d3_74) rfl ((if0 _ _).trans (tlt (by decide : (-1 : Int32) < (0 : Int32))).2.1) k) ?_
  show Gets p e below _ (T23.setTop (mkF m 77 #[.val (.ref ya1), .val (.ref ya2), .val (.int (1 : Int32)), .val (.ref b2_7), .val (.ref b11_9), .val (.ref b2_11), .val (.ref b13), .val (.ref b15), .val (.int (0 : Int32)), .val (.int (-1 : Int32)), .unset] [(.int (0 : Int32)), (.ref b15)]))
  refine Gets.of (fun t k => XS.iconst X23.here hx rfl (hb hby d3_77) k) ?_
  refine Gets.of (fun t k => XS.goto X23.here hx rfl (pc0 := 78) (pc' := 86) rfl (hb hby d3_78) (by decide) (by decide) k) ?_
  show Gets p e below _ (T23.setTop (mkF m 86 #[.val (.ref ya1), .val (.ref ya2), .val (.int (1 : Int32)), .val (.ref b2_7), .val (.ref b11_9), .val (.ref b2_11), .val (.ref b13), .val (.ref b15), .val (.int (0 : Int32)), .val (.int (-1 : Int32)), .unset] [(.int (-1 : Int32)), (.int (0 : Int32)), (.ref b15)]))
  have f29 : Arv Z h23 b15 k15 .int (1 : Int32) [(.int (0 : Int32))] (.int (0 : Int32)) := (V15.other W23 (Nat.ne_of_gt (Nat.lt_of_lt_of_le V13.lt (Nat.le_of_eq g15.symm))))
  obtain ⟨cl30, Ar30, q30, S30, N_30, H30, G30⟩ := id (f29)
  have hin30 : ¬ ((0 : Int32) < 0 ∨ cl30.slots.size ≤ ((0 : Int32)).toNatClampNeg) := inb_of S30 ⟨by decide, by decide⟩
  obtain ⟨T31, h31, X31, e31, W31, st31⟩ := stI X23 hx hZ e23 Ar30 (j := (0 : Int32)) hin30 (g := (mkF m 86 #[.val (.ref ya1), .val (.ref ya2), .val (.int (1 : Int32)), .val (.ref b2_7), .val (.ref b11_9), .val (.ref b2_11), .val (.ref b13), .val (.ref b15), .val (.int (0 : Int32)), .val (.int (-1 : Int32)), .unset] [(.int (-1 : Int32)), (.int (0 : Int32)), (.ref b15)])) rfl rfl (hb hby d3_86)
  have V31 : Arv Z h31 b15 k15 .int (1 : Int32) [(.int (-1 : Int32))] (.int (0 : Int32)) := Arv.set Ar30 q30 S30 N_30 H30 G30 rfl W31 0 rfl (Nat.le_of_ble_eq_true rfl)
  have N31 := Fr.snoc X31 N23 g_b15
  have K32 : Keep h0 _ [] := K24.wr W31 (Or.inr sz_b15)
  have O32 := O24.wr W31 g_b15
  refine Gets.of st31 ?_
  show Gets p e below _ (T31.setTop (mkF m 87 #[.val (.ref ya1), .val (.ref ya2), .val (.int (1 : Int32)), .val (.ref b2_7), .val (.ref b11_9), .val (.ref b2_11), .val (.ref b13), .val (.ref b15), .val (.int (0 : Int32)), .val (.int (-1 : Int32)), .unset] []))
  refine Gets.of (fun t k => XS.iinc X31.here hx rfl (hb hby d3_87) rfl (l' := #[.val (.ref ya1), .val (.ref ya2), .val (.int (1 : Int32)), .val (.ref b2_7), .val (.ref b11_9), .val (.ref b2_11), .val (.ref b13), .val (.ref b15), .val (.int (1 : Int32)), .val (.int (-1 : Int32)), .unset]) rfl k) ?_
  show Gets p e below _ (T31.setTop (mkF m 90 #[.val (.ref ya1), .val (.ref ya2), .val (.int (1 : Int32)), .val (.ref b2_7), .val (.ref b11_9), .val (.ref b2_11), .val (.ref b13), .val (.ref b15), .val (.int (1 : Int32)), .val (.int (-1 : Int32)), .unset] []))
  refine Gets.of (fun t k => XS.goto X31.here hx rfl (pc0 := 90) (pc' := 41) rfl (hb hby d3_90) (by decide) (by decide) k) ?_
  show Gets p e below _ (T31.setTop (mkF m 41 #[.val (.ref ya1), .val (.ref ya2), .val (.int (1 : Int32)), .val (.ref b2_7), .val (.ref b11_9), .val (.ref b2_11), .val (.ref b13), .val (.ref b15), .val (.int (1 : Int32)), .val (.int (-1 : Int32)), .unset] []))
  refine Gets.of (fun t k => XS.iload X31.here hx rfl (hb hby d3_41) rfl  k) ?_
  refine Gets.of (fun t k => XS.iloadN X31.here hx rfl (hb hby d3_43) rfl  k) ?_
  refine Gets.of (fun t k => XS.icmpYes X31.here hx rfl (pc0 := 44) (pc' := 93) rfl (hb hby d3_44) rfl (flt (by decide : ¬ ((1 : Int32) < (1 : Int32)))).2.1 (by decide) (by decide) k) ?_
  show Gets p e below _ (T31.setTop (mkF m 93 #[.val (.ref ya1), .val (.ref ya2), .val (.int (1 : Int32)), .val (.ref b2_7), .val (.ref b11_9), .val (.ref b2_11), .val (.ref b13), .val (.ref b15), .val (.int (1 : Int32)), .val (.int (-1 : Int32)), .unset] []))
  refine Gets.of (fun t k => XS.aload X31.here hx rfl (hb hby d3_93) rfl rfl  k) ?_
  have f33 : Arv Z h31 b13 k13 .int (1 : Int32) [(.int (0 : Int32))] (.int (0 : Int32)) := (V23.other W31 (Nat.ne_of_lt (Nat.lt_of_lt_of_le V13.lt (Nat.le_of_eq g15.symm))))
  obtain ⟨_, _, ⟨T34, L34, k34, n34⟩, -, X34, ⟨Lc34, hQ34, l34, y34, z34⟩, st34⟩ := Jvm.LawKit.callS X31 hx (y := (⟨cn0, "inverse", "([I)[I"⟩ : MethodName)) hown (mvT hZ (w23 hw)) (mvT hZ (w24 hw)) (mvT hZ (w16 hw)) (mvT hZ (w25 hw)) (by decide) (backOf (W := 0) (r4_inverse l Z a0 hw [] b13 k13 h31 n0 O32 f33) hZ (w25 hw) (w16 hw) (by decide) (by decide)) (g := (mkF m 95 #[.val (.ref ya1), .val (.ref ya2), .val (.int (1 : Int32)), .val (.ref b2_7), .val (.ref b11_9), .val (.ref b2_11), .val (.ref b13), .val (.ref b15), .val (.int (1 : Int32)), .val (.int (-1 : Int32)), .unset] [(.ref b13)])) rfl (by rw [hml]; rfl) (argsL := [(.ref b13)]) (rest := []) (lenOf pd__I_I rfl) rfl (by show 2 * 0 + _ ≤ _; exact Nat.le_of_eq rfl) (hb hby d3_95) (fun _ _ => ⟨rfl, e31, (by decide : 10 + 1 ≤ _), (by decide : 10 + 1 ≤ _)⟩)
  dsimp only [Pt.U, Pt.locs, Pt.cells, Pt.slots] at X34 l34 y34 z34 st34 hQ34
  subst l34 y34 z34
  obtain ⟨Nq34, Kq34, hR34⟩ := hQ34
  have N34 := Fr.app N31 Nq34
  have up35 := (Nat.le_trans (Nat.le_of_eq W23.size.symm) (Nat.le_of_eq W31.size.symm))
  have K36 : Keep h0 _ [] := K32.trans Kq34 all0
  have O36 := O32.keep Kq34 all0
  obtain ⟨b2_34, k2_34, rfl, bz34_0, bf34_0, bf34_1⟩ := hR34
  have sz_b2_34 : h0.size ≤ b2_34 := Nat.le_trans K32.1 bz34_0
  have g_b2_34 : n0 ≤ b2_34 := Nat.le_trans Z0 sz_b2_34
  refine Gets.of st34 ?_
  show Gets p e below _ (T34.setTop (mkF m 98 #[.val (.ref ya1), .val (.ref ya2), .val (.int (1 : Int32)), .val (.ref b2_7), .val (.ref b11_9), .val (.ref b2_11), .val (.ref b13), .val (.ref b15), .val (.int (1 : Int32)), .val (.int (-1 : Int32)), .unset] [(.ref b2_34)]))
  refine Gets.of (fun t k => XS.astore X34.here hx rfl (hb hby d3_98) rfl rfl (l' := #[.val (.ref ya1), .val (.ref ya2), .val (.int (1 : Int32)), .val (.ref b2_7), .val (.ref b11_9), .val (.ref b2_11), .val (.ref b13), .val (.ref b15), .val (.ref b2_34), .val (.int (-1 : Int32)), .unset]) rfl k) ?_
  show Gets p e below _ (T34.setTop (mkF m 100 #[.val (.ref ya1), .val (.ref ya2), .val (.int (1 : Int32)), .val (.ref b2_7), .val (.ref b11_9), .val (.ref b2_11), .val (.ref b13), .val (.ref b15), .val (.ref b2_34), .val (.int (-1 : Int32)), .unset] []))
  refine Gets.of (fun t k => XS.aloadN X34.here hx rfl (hb hby d3_100) rfl rfl  k) ?_
  refine Gets.of (fun t k => XS.aload X34.here hx rfl (hb hby d3_101) rfl rfl  k) ?_
  refine Gets.of (fun t k => XS.aload X34.here hx rfl (hb hby d3_103) rfl rfl  k) ?_
  refine Gets.of (fun t k => XS.aload X34.here hx rfl (hb hby d3_105) rfl rfl  k) ?_
  show Gets p e below _ (T34.setTop (mkF m 107 #[.val (.ref ya1), .val (.ref ya2), .val (.int (1 : Int32)), .val (.ref b2_7), .val (.ref b11_9), .val (.ref b2_11), .val (.ref b13), .val (.ref b15), .val (.ref b2_34), .val (.int (-1 : Int32)), .unset] [(.ref b15), (.ref b2_34), (.ref b13), (.ref ya1)]))
  have f37 : Arv Z T34.heap b13 k13 .int (1 : Int32) [(.int (0 : Int32))] (.int (0 : Int32)) := (f33.keep Kq34 nin0)
  have f38 : Fld Z T34.heap ya1 cn1 "start" "[I" (.ref ya3) := ((((((((f5.keep Kq7 nin0).keep Kq9 nin0).keep Kq11 nin0).ext E13).ext E15).other W23 (Or.inl (Nat.ne_of_lt (Nat.lt_of_lt_of_le F0.lt sz_b13)))).other W31 (Or.inl (Nat.ne_of_lt (Nat.lt_of_lt_of_le F0.lt sz_b15)))).keep Kq34 nin0)
  have f39 : Arv Z T34.heap ya3 yk6 .int (2 : Int32) [(.int (0 : Int32)), (.int (0 : Int32))] (.int (0 : Int32)) := ((((((((f6.keep Kq7 nin0).keep Kq9 nin0).keep Kq11 nin0).ext E13).ext E15).other W23 (Nat.ne_of_lt (Nat.lt_of_lt_of_le F2.lt sz_b13))).other W31 (Nat.ne_of_lt (Nat.lt_of_lt_of_le F2.lt sz_b15))).keep Kq34 nin0)
  obtain ⟨_, _, ⟨T40, L40, k40, n40⟩, -, X40, ⟨Lc40, hQ40, l40, y40, z40⟩, st40⟩ := Jvm.LawKit.callS X34 hx (y := (⟨cn0, "columnCounts", "(Lcom/example/unea/unea/analysis/SparsePattern;[I[I[I)[I"⟩ : MethodName)) hown (mvT hZ (w37 hw)) (mvT hZ (w38 hw)) (mvT hZ (w16 hw)) (mvT hZ (w39 hw)) (by decide) (backOf (W := 0) (r8_columnCounts l Z a0 hw [] ya1 b13 b2_34 b15 k13 ya3 yk6 T34.heap n0 O36 f37 f38 f39) hZ (w39 hw) (w16 hw) (by decide) (by decide)) (g := (mkF m 107 #[.val (.ref ya1), .val (.ref ya2), .val (.int (1 : Int32)), .val (.ref b2_7), .val (.ref b11_9), .val (.ref b2_11), .val (.ref b13), .val (.ref b15), .val (.ref b2_34), .val (.int (-1 : Int32)), .unset] [(.ref b15), (.ref b2_34), (.ref b13), (.ref ya1)])) rfl (by rw [hml]; rfl) (argsL := [(.ref ya1), (.ref b13), (.ref b2_34), (.ref b15)]) (rest := []) (lenOf pd__Lcom_example_unea_unea_analysis_SparsePattern_I_I_I_I rfl) rfl (by show 2 * 0 + _ ≤ _; exact Nat.le_of_eq rfl) (hb hby d3_107) (fun _ _ => ⟨rfl, rfl, (by decide : 11 + 2 ≤ _), (by decide : 11 + 2 ≤ _)⟩)
  dsimp only [Pt.U, Pt.locs, Pt.cells, Pt.slots] at X40 l40 y40 z40 st40 hQ40
  subst l40 y40 z40
  obtain ⟨Nq40, Kq40, hR40⟩ := hQ40
  have N40 := Fr.app N34 Nq40
  have K41 : Keep h0 _ [] := K36.trans Kq40 all0
  have O41 := O36.keep Kq40 all0
  obtain ⟨b2_40, k2_40, rfl, bz40_0, bf40_0, bf40_1⟩ := hR40
  have sz_b2_40 : h0.size ≤ b2_40 := Nat.le_trans K36.1 bz40_0
  have g_b2_40 : n0 ≤ b2_40 := Nat.le_trans Z0 sz_b2_40
  refine Gets.of st40 ?_
  show Gets p e below _ (T40.setTop (mkF m 110 #[.val (.ref ya1), .val (.ref ya2), .val (.int (1 : Int32)), .val (.ref b2_7), .val (.ref b11_9), .val (.ref b2_11), .val (.ref b13), .val (.ref b15), .val (.ref b2_34), .val (.int (-1 : Int32)), .unset] [(.ref b2_40)]))
  refine Gets.of (fun t k => XS.astore X40.here hx rfl (hb hby d3_110) rfl rfl (l' := #[.val (.ref ya1), .val (.ref ya2), .val (.int (1 : Int32)), .val (.ref b2_7), .val (.ref b11_9), .val (.ref b2_11), .val (.ref b13), .val (.ref b15), .val (.ref b2_34), .val (.ref b2_40), .unset]) rfl k) ?_
  show Gets p e below _ (T40.setTop (mkF m 112 #[.val (.ref ya1), .val (.ref ya2), .val (.int (1 : Int32)), .val (.ref b2_7), .val (.ref b11_9), .val (.ref b2_11), .val (.ref b13), .val (.ref b15), .val (.ref b2_34), .val (.ref b2_40), .unset] []))
  refine Gets.of (fun t k => XS.aload X40.here hx rfl (hb hby d3_112) rfl rfl  k) ?_
  refine Gets.of (fun t k => XS.aload X40.here hx rfl (hb hby d3_114) rfl rfl  k) ?_
  have f42 : Arv Z T40.heap b15 k15 .int (1 : Int32) [(.int (-1 : Int32))] (.int (0 : Int32)) := ((V31.keep Kq34 nin0).keep Kq40 nin0)
  obtain ⟨_, _, ⟨T43, L43, k43, n43⟩, -, X43, ⟨Lc43, hQ43, l43, y43, z43⟩, st43⟩ := Jvm.LawKit.callS X40 hx (y := (⟨cn0, "fundamental", "([I[I)[I"⟩ : MethodName)) hown (mvT hZ (w40 hw)) (mvT hZ (w41 hw)) (mvT hZ (w16 hw)) (mvT hZ (w42 hw)) (by decide) (backOf (W := 0) (r9_fundamental l Z a0 hw [] b15 b2_40 k15 T40.heap n0 O41 f42) hZ (w42 hw) (w16 hw) (by decide) (by decide)) (g := (mkF m 116 #[.val (.ref ya1), .val (.ref ya2), .val (.int (1 : Int32)), .val (.ref b2_7), .val (.ref b11_9), .val (.ref b2_11), .val (.ref b13), .val (.ref b15), .val (.ref b2_34), .val (.ref b2_40), .unset] [(.ref b2_40), (.ref b15)])) rfl (by rw [hml]; rfl) (argsL := [(.ref b15), (.ref b2_40)]) (rest := []) (lenOf pd__I_I_I rfl) rfl (by show 2 * 0 + _ ≤ _; exact Nat.le_of_eq rfl) (hb hby d3_116) (fun _ _ => ⟨rfl, rfl, (by decide : 13 + 3 ≤ _), (by decide : 13 + 5 ≤ _)⟩)
  dsimp only [Pt.U, Pt.locs, Pt.cells, Pt.slots] at X43 l43 y43 z43 st43 hQ43
  subst l43 y43 z43
  obtain ⟨Nq43, Kq43, hR43⟩ := hQ43
  have N43 := Fr.app N40 Nq43
  have K44 : Keep h0 _ [] := K41.trans Kq43 all0
  have O44 := O41.keep Kq43 all0
  obtain ⟨b2_15_43, k6_43, rfl, bz43_0, bf43_0, bf43_1⟩ := hR43
  have sz_b2_15_43 : h0.size ≤ b2_15_43 := Nat.le_trans K41.1 bz43_0
  have g_b2_15_43 : n0 ≤ b2_15_43 := Nat.le_trans Z0 sz_b2_15_43
  refine Gets.of st43 ?_
  show Gets p e below _ (T43.setTop (mkF m 119 #[.val (.ref ya1), .val (.ref ya2), .val (.int (1 : Int32)), .val (.ref b2_7), .val (.ref b11_9), .val (.ref b2_11), .val (.ref b13), .val (.ref b15), .val (.ref b2_34), .val (.ref b2_40), .unset] [(.ref b2_15_43)]))
  refine Gets.of (fun t k => XS.aload X43.here hx rfl (hb hby d3_119) rfl rfl  k) ?_
  refine Gets.of (fun t k => XS.aload X43.here hx rfl (hb hby d3_121) rfl rfl  k) ?_
  have f45 : Arv Z T43.heap b2_40 k2_40 .int (1 : Int32) [(.int (1 : Int32))] (.int (0 : Int32)) := (bf40_0.keep Kq43 nin0)
  have f46 : Arv Z T43.heap b15 k15 .int (1 : Int32) [(.int (-1 : Int32))] (.int (0 : Int32)) := (f42.keep Kq43 nin0)
  obtain ⟨_, _, ⟨T47, L47, k47, n47⟩, -, X47, ⟨Lc47, hQ47, l47, y47, z47⟩, st47⟩ := Jvm.LawKit.callS X43 hx (y := (⟨cn0, "amalgamate", "([I[I[I)[I"⟩ : MethodName)) hown (mvT hZ (w55 hw)) (mvT hZ (w56 hw)) (mvT hZ (w16 hw)) (mvT hZ (w57 hw)) (by decide) (backOf (W := 0) (r11_amalgamate l Z a0 hw [] b2_15_43 b15 b2_40 k6_43 k2_40 k15 T43.heap n0 O44 bf43_0 f45 f46) hZ (w57 hw) (w16 hw) (by decide) (by decide)) (g := (mkF m 123 #[.val (.ref ya1), .val (.ref ya2), .val (.int (1 : Int32)), .val (.ref b2_7), .val (.ref b11_9), .val (.ref b2_11), .val (.ref b13), .val (.ref b15), .val (.ref b2_34), .val (.ref b2_40), .unset] [(.ref b2_40), (.ref b15), (.ref b2_15_43)])) rfl (by rw [hml]; rfl) (argsL := [(.ref b2_15_43), (.ref b15), (.ref b2_40)]) (rest := []) (lenOf pd__I_I_I_I rfl) rfl (by show 2 * 0 + _ ≤ _; exact Nat.le_of_eq rfl) (hb hby d3_123) (fun _ _ => ⟨rfl, rfl, (by decide : 16 + 2 ≤ _), (by decide : 18 + 4 ≤ _)⟩)
  dsimp only [Pt.U, Pt.locs, Pt.cells, Pt.slots] at X47 l47 y47 z47 st47 hQ47
  subst l47 y47 z47
  obtain ⟨Nq47, Kq47, hR47⟩ := hQ47
  have N47 := Fr.app N43 Nq47
  have K48 : Keep h0 _ [] := K44.trans Kq47 all0
  have O48 := O44.keep Kq47 all0
  obtain ⟨b2_18_47, k2_47, rfl, bz47_0, bf47_0, bf47_1⟩ := hR47
  have sz_b2_18_47 : h0.size ≤ b2_18_47 := Nat.le_trans K44.1 bz47_0
  have g_b2_18_47 : n0 ≤ b2_18_47 := Nat.le_trans Z0 sz_b2_18_47
  refine Gets.of st47 ?_
  show Gets p e below _ (T47.setTop (mkF m 126 #[.val (.ref ya1), .val (.ref ya2), .val (.int (1 : Int32)), .val (.ref b2_7), .val (.ref b11_9), .val (.ref b2_11), .val (.ref b13), .val (.ref b15), .val (.ref b2_34), .val (.ref b2_40), .unset] [(.ref b2_18_47)]))
  refine Gets.of (fun t k => XS.astore X47.here hx rfl (hb hby d3_126) rfl rfl (l' := #[.val (.ref ya1), .val (.ref ya2), .val (.int (1 : Int32)), .val (.ref b2_7), .val (.ref b11_9), .val (.ref b2_11), .val (.ref b13), .val (.ref b15), .val (.ref b2_34), .val (.ref b2_40), .val (.ref b2_18_47)]) rfl k) ?_
  show Gets p e below _ (T47.setTop (mkF m 128 #[.val (.ref ya1), .val (.ref ya2), .val (.int (1 : Int32)), .val (.ref b2_7), .val (.ref b11_9), .val (.ref b2_11), .val (.ref b13), .val (.ref b15), .val (.ref b2_34), .val (.ref b2_40), .val (.ref b2_18_47)] []))
  refine Gets.of (fun t k => XS.aloadN X47.here hx rfl (hb hby d3_128) rfl rfl  k) ?_
  refine Gets.of (fun t k => XS.aload X47.here hx rfl (hb hby d3_129) rfl rfl  k) ?_
  refine Gets.of (fun t k => XS.aload X47.here hx rfl (hb hby d3_131) rfl rfl  k) ?_
  refine Gets.of (fun t k => XS.aload X47.here hx rfl (hb hby d3_133) rfl rfl  k) ?_
  show Gets p e below _ (T47.setTop (mkF m 135 #[.val (.ref ya1), .val (.ref ya2), .val (.int (1 : Int32)), .val (.ref b2_7), .val (.ref b11_9), .val (.ref b2_11), .val (.ref b13), .val (.ref b15), .val (.ref b2_34), .val (.ref b2_40), .val (.ref b2_18_47)] [(.ref b2_18_47), (.ref b2_34), (.ref b13), (.ref ya1)]))
  have f49 : Arv Z T47.heap b13 k13 .int (1 : Int32) [(.int (0 : Int32))] (.int (0 : Int32)) := (((f37.keep Kq40 nin0).keep Kq43 nin0).keep Kq47 nin0)
  have f50 : Exa Z T47.heap ya1 cn1 := ((((((((((((F0.keep Kq2).keep Kq7).keep Kq9).keep Kq11).ext E13).ext E15).wr W23).wr W31).keep Kq34).keep Kq40).keep Kq43).keep Kq47)
  have f51 : Fld Z T47.heap ya1 cn1 "start" "[I" (.ref ya3) := (((f38.keep Kq40 nin0).keep Kq43 nin0).keep Kq47 nin0)
  have f52 : Arv Z T47.heap ya3 yk6 .int (2 : Int32) [(.int (0 : Int32)), (.int (0 : Int32))] (.int (0 : Int32)) := (((f39.keep Kq40 nin0).keep Kq43 nin0).keep Kq47 nin0)
  obtain ⟨_, _, ⟨T53, L53, k53, n53⟩, -, X53, ⟨Lc53, hQ53, l53, y53, z53⟩, st53⟩ := Jvm.LawKit.callS X47 hx (y := (⟨cn0, "fronts", cn6⟩ : MethodName)) hown (mvT hZ (w58 hw)) (mvT hZ (w59 hw)) (mvT hZ (w16 hw)) (mvT hZ (w60 hw)) (by decide) (backOf (W := 0) (r12_fronts l Z a0 hw [] ya1 b13 b2_34 b2_18_47 k13 k2_47 ya3 yk6 T47.heap n0 O48 f49 bf47_0 f50 f51 f52 bf47_1) hZ (w60 hw) (w16 hw) (by decide) (by decide)) (g := (mkF m 135 #[.val (.ref ya1), .val (.ref ya2), .val (.int (1 : Int32)), .val (.ref b2_7), .val (.ref b11_9), .val (.ref b2_11), .val (.ref b13), .val (.ref b15), .val (.ref b2_34), .val (.ref b2_40), .val (.ref b2_18_47)] [(.ref b2_18_47), (.ref b2_34), (.ref b13), (.ref ya1)])) rfl (by rw [hml]; rfl) (argsL := [(.ref ya1), (.ref b13), (.ref b2_34), (.ref b2_18_47)]) (rest := []) (lenOf pd__Lcom_example_unea_unea_analysis_SparsePattern_I_I_I_Lcom_example_unea_unea_analysis_Supernodes_ rfl) rfl (by show 2 * 0 + _ ≤ _; exact Nat.le_of_eq rfl) (hb hby d3_135) (fun _ _ => ⟨rfl, rfl, (by decide : 18 + 9 ≤ _), (by decide : 22 + 31 ≤ _)⟩)
  dsimp only [Pt.U, Pt.locs, Pt.cells, Pt.slots] at X53 l53 y53 z53 st53 hQ53
  subst l53 y53 z53
  obtain ⟨Nq53, Kq53, hR53⟩ := hQ53
  have N53 := Fr.app N47 Nq53
  have K54 : Keep h0 _ [] := K48.trans Kq53 all0
  have O54 := O48.keep Kq53 all0
  obtain ⟨b70_53, b3_53, b2_74_53, b15_53, k3_53, k15_53, k2_74_53, rfl, bz53_0, bz53_1, bz53_2, bz53_3, bn53_0, bn53_1, bn53_2, bn53_3, bn53_4, bn53_5, bf53_0, bf53_1, bf53_2, bf53_3, bf53_4, bf53_5, bf53_6, bf53_7, bf53_8, bf53_9, bf53_10, bf53_11, bf53_12, bf53_13⟩ := hR53
  have sz_b70_53 : h0.size ≤ b70_53 := Nat.le_trans K48.1 bz53_0
  have g_b70_53 : n0 ≤ b70_53 := Nat.le_trans Z0 sz_b70_53
  have sz_b3_53 : h0.size ≤ b3_53 := Nat.le_trans K48.1 bz53_1
  have g_b3_53 : n0 ≤ b3_53 := Nat.le_trans Z0 sz_b3_53
  have sz_b2_74_53 : h0.size ≤ b2_74_53 := Nat.le_trans K48.1 bz53_2
  have g_b2_74_53 : n0 ≤ b2_74_53 := Nat.le_trans Z0 sz_b2_74_53
  have sz_b15_53 : h0.size ≤ b15_53 := Nat.le_trans K48.1 bz53_3
  have g_b15_53 : n0 ≤ b15_53 := Nat.le_trans Z0 sz_b15_53
  refine Gets.of st53 ?_
  show Gets p e below _ (T53.setTop (mkF m 138 #[.val (.ref ya1), .val (.ref ya2), .val (.int (1 : Int32)), .val (.ref b2_7), .val (.ref b11_9), .val (.ref b2_11), .val (.ref b13), .val (.ref b15), .val (.ref b2_34), .val (.ref b2_40), .val (.ref b2_18_47)] [(.ref b70_53)]))
  refine Gets.retA X53 hx Bd.returns rfl rfl (hb hby d3_138) ?_ (by decide) (by decide)
  have f55 : Arv Z T53.heap b13 k13 .int (1 : Int32) [(.int (0 : Int32))] (.int (0 : Int32)) := (f49.keep Kq53 nin0)
  have f56 : Exa Z T53.heap b13 "[I" := ((((((((Ex13.ext E15).wr W23).wr W31).keep Kq34).keep Kq40).keep Kq43).keep Kq47).keep Kq53)
  have f57 : Arv Z T53.heap b2_34 k2_34 .int (1 : Int32) [(.int (0 : Int32))] (.int (0 : Int32)) := ((((bf34_0.keep Kq40 nin0).keep Kq43 nin0).keep Kq47 nin0).keep Kq53 nin0)
  have f58 : Exa Z T53.heap b2_34 "[I" := ((((bf34_1.keep Kq40).keep Kq43).keep Kq47).keep Kq53)
  have f59 : Arv Z T53.heap b2_18_47 k2_47 .int (2 : Int32) [(.int (0 : Int32)), (.int (1 : Int32))] (.int (0 : Int32)) := (bf47_0.keep Kq53 nin0)
  have f60 : Exa Z T53.heap b2_18_47 "[I" := (bf47_1.keep Kq53)
  exact ⟨N53, K54, ⟨b70_53, b13, b2_34, b2_18_47, b3_53, b2_74_53, b15_53, k13, k2_34, k2_47, k3_53, k15_53, k2_74_53, rfl, sz_b70_53, sz_b13, sz_b2_34, sz_b2_18_47, sz_b3_53, sz_b2_74_53, sz_b15_53, (Nat.ne_of_gt (Nat.lt_of_lt_of_le (Nat.lt_of_lt_of_le (Nat.lt_of_lt_of_le (Nat.lt_of_lt_of_le (Nat.lt_of_lt_of_le (Nat.lt_of_lt_of_le (Nat.lt_of_lt_of_le V13.lt E15.1) up35) Kq34.1) Kq40.1) Kq43.1) Kq47.1) bz53_0)), (Nat.ne_of_gt (Nat.lt_of_lt_of_le (Nat.lt_of_lt_of_le (Nat.lt_of_lt_of_le (Nat.lt_of_lt_of_le bf34_0.lt Kq40.1) Kq43.1) Kq47.1) bz53_0)), (Nat.ne_of_gt (Nat.lt_of_lt_of_le bf47_0.lt bz53_0)), bn53_0, bn53_1, bn53_2, (Nat.ne_of_lt (Nat.lt_of_lt_of_le (Nat.lt_of_lt_of_le (Nat.lt_of_lt_of_le V13.lt E15.1) up35) bz34_0)), (Nat.ne_of_lt (Nat.lt_of_lt_of_le (Nat.lt_of_lt_of_le (Nat.lt_of_lt_of_le (Nat.lt_of_lt_of_le (Nat.lt_of_lt_of_le (Nat.lt_of_lt_of_le V13.lt E15.1) up35) Kq34.1) Kq40.1) Kq43.1) bz47_0)), (Nat.ne_of_lt (Nat.lt_of_lt_of_le (Nat.lt_of_lt_of_le (Nat.lt_of_lt_of_le (Nat.lt_of_lt_of_le (Nat.lt_of_lt_of_le (Nat.lt_of_lt_of_le (Nat.lt_of_lt_of_le V13.lt E15.1) up35) Kq34.1) Kq40.1) Kq43.1) Kq47.1) bz53_1)), (Nat.ne_of_lt (Nat.lt_of_lt_of_le (Nat.lt_of_lt_of_le (Nat.lt_of_lt_of_le (Nat.lt_of_lt_of_le (Nat.lt_of_lt_of_le (Nat.lt_of_lt_of_le (Nat.lt_of_lt_of_le V13.lt E15.1) up35) Kq34.1) Kq40.1) Kq43.1) Kq47.1) bz53_2)), (Nat.ne_of_lt (Nat.lt_of_lt_of_le (Nat.lt_of_lt_of_le (Nat.lt_of_lt_of_le (Nat.lt_of_lt_of_le (Nat.lt_of_lt_of_le (Nat.lt_of_lt_of_le (Nat.lt_of_lt_of_le V13.lt E15.1) up35) Kq34.1) Kq40.1) Kq43.1) Kq47.1) bz53_3)), (Nat.ne_of_lt (Nat.lt_of_lt_of_le (Nat.lt_of_lt_of_le (Nat.lt_of_lt_of_le bf34_0.lt Kq40.1) Kq43.1) bz47_0)), (Nat.ne_of_lt (Nat.lt_of_lt_of_le (Nat.lt_of_lt_of_le (Nat.lt_of_lt_of_le (Nat.lt_of_lt_of_le bf34_0.lt Kq40.1) Kq43.1) Kq47.1) bz53_1)), (Nat.ne_of_lt (Nat.lt_of_lt_of_le (Nat.lt_of_lt_of_le (Nat.lt_of_lt_of_le (Nat.lt_of_lt_of_le bf34_0.lt Kq40.1) Kq43.1) Kq47.1) bz53_2)), (Nat.ne_of_lt (Nat.lt_of_lt_of_le (Nat.lt_of_lt_of_le (Nat.lt_of_lt_of_le (Nat.lt_of_lt_of_le bf34_0.lt Kq40.1) Kq43.1) Kq47.1) bz53_3)), (Nat.ne_of_lt (Nat.lt_of_lt_of_le bf47_0.lt bz53_1)), (Nat.ne_of_lt (Nat.lt_of_lt_of_le bf47_0.lt bz53_2)), (Nat.ne_of_lt (Nat.lt_of_lt_of_le bf47_0.lt bz53_3)), bn53_3, bn53_4, bn53_5, bf53_0, bf53_1, bf53_2, bf53_3, bf53_4, bf53_5, bf53_6, bf53_7, f55, f56, f57, f58, f59, f60, bf53_8, bf53_9, bf53_10, bf53_11, bf53_12, bf53_13⟩⟩
theorem w17 {Z : State} {a0 : Array Value} (hw : ∀ d ∈ tables_1, d.before a0 Z = true) : (Jvm.Cond.code ({ cls := cn0, name := "of", desc := cn5 } : Jvm.MethodName) prog_15_method_2_code (11 : Nat) (Option.some (Jvm.ClassFile.FieldType.object cn0))).before a0 Z = true := hw _ (List.mem_of_getElem? (i := 17) rfl)
theorem pd__Lcom_example_unea_unea_analysis_SparsePattern_I_Lcom_example_unea_unea_analysis_Supernodes_ : parseMethodDescriptor "(Lcom/example/unea/unea/analysis/SparsePattern;[I)Lcom/example/unea/unea/analysis/Supernodes;" = some ⟨[(.object "com/example/unea/unea/analysis/SparsePattern"), (.array .int)], some (.object "com/example/unea/unea/analysis/Supernodes")⟩ := by decide +kernel
theorem w15 {Z : State} {a0 : Array Value} (hw : ∀ d ∈ tables_1, d.before a0 Z = true) : (Jvm.Cond.static ({ cls := cn0, name := "of", desc := cn5 } : Jvm.MethodName)).before a0 Z = true := hw _ (List.mem_of_getElem? (i := 15) rfl)
theorem w116 {Z : State} {a0 : Array Value} (hw : ∀ d ∈ tables_1, d.before a0 Z = true) : (Jvm.Cond.methodLink cn3 (18 : Nat) ({ cls := cn0, name := "single", desc := "()Lcom/example/unea/unea/analysis/Supernodes;" } : Jvm.MethodName)).before a0 Z = true := hw _ (List.mem_of_getElem? (i := 116) rfl)
theorem d24_0 : decode prog_15_method_3_code 0 = .ok (.new 8, 3) := by decide +kernel
theorem d24_3 : decode prog_15_method_3_code 3 = .ok (.dup, 1) := by decide +kernel
theorem d24_4 : decode prog_15_method_3_code 4 = .ok (.iconst 1, 1) := by decide +kernel
theorem d24_5 : decode prog_15_method_3_code 5 = .ok (.newarray .int, 2) := by decide +kernel
theorem d24_7 : decode prog_15_method_3_code 7 = .ok (.dup, 1) := by decide +kernel
theorem d24_8 : decode prog_15_method_3_code 8 = .ok (.iconst 0, 1) := by decide +kernel
theorem d24_9 : decode prog_15_method_3_code 9 = .ok (.iconst 0, 1) := by decide +kernel
theorem d24_10 : decode prog_15_method_3_code 10 = .ok (.iastore, 1) := by decide +kernel
theorem d24_11 : decode prog_15_method_3_code 11 = .ok (.iconst 1, 1) := by decide +kernel
theorem d24_12 : decode prog_15_method_3_code 12 = .ok (.newarray .int, 2) := by decide +kernel
theorem d24_14 : decode prog_15_method_3_code 14 = .ok (.dup, 1) := by decide +kernel
theorem d24_15 : decode prog_15_method_3_code 15 = .ok (.iconst 0, 1) := by decide +kernel
theorem d24_16 : decode prog_15_method_3_code 16 = .ok (.iconst 0, 1) := by decide +kernel
theorem d24_17 : decode prog_15_method_3_code 17 = .ok (.iastore, 1) := by decide +kernel
theorem d24_18 : decode prog_15_method_3_code 18 = .ok (.iconst 2, 1) := by decide +kernel
theorem d24_19 : decode prog_15_method_3_code 19 = .ok (.newarray .int, 2) := by decide +kernel
theorem d24_21 : decode prog_15_method_3_code 21 = .ok (.dup, 1) := by decide +kernel
theorem d24_22 : decode prog_15_method_3_code 22 = .ok (.iconst 0, 1) := by decide +kernel
theorem d24_23 : decode prog_15_method_3_code 23 = .ok (.iconst 0, 1) := by decide +kernel
theorem d24_24 : decode prog_15_method_3_code 24 = .ok (.iastore, 1) := by decide +kernel
theorem d24_25 : decode prog_15_method_3_code 25 = .ok (.dup, 1) := by decide +kernel
theorem d24_26 : decode prog_15_method_3_code 26 = .ok (.iconst 1, 1) := by decide +kernel
theorem d24_27 : decode prog_15_method_3_code 27 = .ok (.iconst 1, 1) := by decide +kernel
theorem d24_28 : decode prog_15_method_3_code 28 = .ok (.iastore, 1) := by decide +kernel
theorem d24_29 : decode prog_15_method_3_code 29 = .ok (.iconst 2, 1) := by decide +kernel
theorem d24_30 : decode prog_15_method_3_code 30 = .ok (.newarray .int, 2) := by decide +kernel
theorem d24_32 : decode prog_15_method_3_code 32 = .ok (.dup, 1) := by decide +kernel
theorem d24_33 : decode prog_15_method_3_code 33 = .ok (.iconst 0, 1) := by decide +kernel
theorem d24_34 : decode prog_15_method_3_code 34 = .ok (.iconst 0, 1) := by decide +kernel
theorem d24_35 : decode prog_15_method_3_code 35 = .ok (.iastore, 1) := by decide +kernel
theorem d24_36 : decode prog_15_method_3_code 36 = .ok (.dup, 1) := by decide +kernel
theorem d24_37 : decode prog_15_method_3_code 37 = .ok (.iconst 1, 1) := by decide +kernel
theorem d24_38 : decode prog_15_method_3_code 38 = .ok (.iconst 1, 1) := by decide +kernel
theorem d24_39 : decode prog_15_method_3_code 39 = .ok (.iastore, 1) := by decide +kernel
theorem d24_40 : decode prog_15_method_3_code 40 = .ok (.iconst 1, 1) := by decide +kernel
theorem d24_41 : decode prog_15_method_3_code 41 = .ok (.newarray .int, 2) := by decide +kernel
theorem d24_43 : decode prog_15_method_3_code 43 = .ok (.dup, 1) := by decide +kernel
theorem d24_44 : decode prog_15_method_3_code 44 = .ok (.iconst 0, 1) := by decide +kernel
theorem d24_45 : decode prog_15_method_3_code 45 = .ok (.iconst 0, 1) := by decide +kernel
theorem d24_46 : decode prog_15_method_3_code 46 = .ok (.iastore, 1) := by decide +kernel
theorem d24_47 : decode prog_15_method_3_code 47 = .ok (.iconst 1, 1) := by decide +kernel
theorem d24_48 : decode prog_15_method_3_code 48 = .ok (.newarray .int, 2) := by decide +kernel
theorem d24_50 : decode prog_15_method_3_code 50 = .ok (.dup, 1) := by decide +kernel
theorem d24_51 : decode prog_15_method_3_code 51 = .ok (.iconst 0, 1) := by decide +kernel
theorem d24_52 : decode prog_15_method_3_code 52 = .ok (.iconst (-1), 1) := by decide +kernel
theorem d24_53 : decode prog_15_method_3_code 53 = .ok (.iastore, 1) := by decide +kernel
theorem d24_54 : decode prog_15_method_3_code 54 = .ok (.invokespecial 65, 3) := by decide +kernel
theorem d24_57 : decode prog_15_method_3_code 57 = .ok (.areturn, 1) := by decide +kernel
def Q_r25_single (Z : State)  (h0 : Heap) (n0 : Nat) (v : Option Value) (h : Heap) (L : List Loc) : Prop := Fr n0 L ∧ Keep h0 h [] ∧ ((∃ (b1 : Addr) (b3 : Addr) (b8 : Addr) (b14 : Addr) (b23 : Addr) (b32 : Addr) (b38 : Addr) (k3 : ClassId) (k8 : ClassId) (k14 : ClassId) (k23 : ClassId) (k32 : ClassId) (k38 : ClassId), v = some (.ref b1) ∧ h0.size ≤ b1 ∧ h0.size ≤ b3 ∧ h0.size ≤ b8 ∧ h0.size ≤ b14 ∧ h0.size ≤ b23 ∧ h0.size ≤ b32 ∧ h0.size ≤ b38 ∧ b1 ≠ b3 ∧ b1 ≠ b8 ∧ b1 ≠ b14 ∧ b1 ≠ b23 ∧ b1 ≠ b32 ∧ b1 ≠ b38 ∧ b3 ≠ b8 ∧ b3 ≠ b14 ∧ b3 ≠ b23 ∧ b3 ≠ b32 ∧ b3 ≠ b38 ∧ b8 ≠ b14 ∧ b8 ≠ b23 ∧ b8 ≠ b32 ∧ b8 ≠ b38 ∧ b14 ≠ b23 ∧ b14 ≠ b32 ∧ b14 ≠ b38 ∧ b23 ≠ b32 ∧ b23 ≠ b38 ∧ b32 ≠ b38 ∧ Exa Z h b1 cn0 ∧ Fld Z h b1 cn0 "order" "[I" (.ref b3) ∧ Fld Z h b1 cn0 "step" "[I" (.ref b8) ∧ Fld Z h b1 cn0 "count" "I" (.int (1 : Int32)) ∧ Fld Z h b1 cn0 "first" "[I" (.ref b14) ∧ Fld Z h b1 cn0 "frontStart" "[I" (.ref b23) ∧ Fld Z h b1 cn0 "front" "[I" (.ref b32) ∧ Fld Z h b1 cn0 "parent" "[I" (.ref b38) ∧ Arv Z h b3 k3 .int (1 : Int32) [(.int (0 : Int32))] (.int (0 : Int32)) ∧ Exa Z h b3 "[I" ∧ Arv Z h b8 k8 .int (1 : Int32) [(.int (0 : Int32))] (.int (0 : Int32)) ∧ Exa Z h b8 "[I" ∧ Arv Z h b14 k14 .int (2 : Int32) [(.int (0 : Int32)), (.int (1 : Int32))] (.int (0 : Int32)) ∧ Exa Z h b14 "[I" ∧ Arv Z h b23 k23 .int (2 : Int32) [(.int (0 : Int32)), (.int (1 : Int32))] (.int (0 : Int32)) ∧ Exa Z h b23 "[I" ∧ Arv Z h b32 k32 .int (1 : Int32) [(.int (0 : Int32))] (.int (0 : Int32)) ∧ Exa Z h b32 "[I" ∧ Arv Z h b38 k38 .int (1 : Int32) [(.int (-1 : Int32))] (.int (0 : Int32)) ∧ Exa Z h b38 "[I"))
set_option maxRecDepth 65536 in
set_option maxHeartbeats 40000000 in
theorem r25_single (l : Launch) (Z : State) (a0 : Array Value) (hw : ∀ d ∈ tables_1, d.before a0 Z = true) (ws : List Jvm.Cond)  (h0 : Heap) (n0 : Nat) (O0 : Old Z n0 h0) :
    MetFree l (⟨cn0, "single", "()Lcom/example/unea/unea/analysis/Supernodes;"⟩ : MethodName) (head1 (Jvm.Cond.code (⟨cn0, "single", "()Lcom/example/unea/unea/analysis/Supernodes;"⟩ : MethodName) prog_15_method_3_code 0 (some (.object cn0)) :: ws) ({ frames := 2, cells := 7, slots := 15, locals := 31 } : Room)) (fun a U => a = #[] ∧ Z.Warmed39 U.vm ∧ U.heap = h0) (fun _ _ _ _ _ => True) (fun _ U o U' => ∃ v L, o = .returned v ∧ Q_r25_single Z  h0 n0 v U'.heap L ∧ FrameEnd U o U' L ({ frames := 2, cells := 7, slots := 15, locals := 31 } : Room).cells ({ frames := 2, cells := 7, slots := 15, locals := 31 } : Room).slots) := by
  refine MetFree.of_bodySF (plainFor_of_name pn_com_example_unea_unea_analysis_Supernodes) hisR ?_
  intro p e s m args below meth c s₁ Bd hml0 hP hK
  obtain ⟨rfl, hZ, hh⟩ := hP
  have hx := Bd.exec
  have hby := Bd.bytes
  have hlk := Bd.notSynchronized
  have hml : c.maxLocals = 0 := hml0
  have hown : s.vm.findClass cn0 = some m.cls := findClass_of_methodNamed Bd.named
  have hnm := (name_of_methodNamed Bd.named Bd.method).1
  have X0 : Stand p l e ({ frames := 2, cells := 7, slots := 15, locals := 31 } : Room) s m #[] below meth c s₁ [] 0 0 := Stand.of_body Bd
  have e0 : s₁.heap = h0 := by rw [← hh, Bd.state]; rfl
  have N0 := Fr.nil n0
  have K0 := Keep.refl h0 []
  have Z0 : n0 ≤ h0.size := O0.1 ▸ O0.2.1
  have hef : entryFrame m #[] 0 = mkF m 0 #[] [] := by first | (simp [entryFrame, mkF, argsToLocals, Value.category]; done) | rfl
  rw [hef]
  refine Gets.out (Q := Q_r25_single Z  h0 n0) ?_
  show Gets p e below _ (s₁.setTop (mkF m 0 #[] []))
  obtain ⟨T1, h1, X1, e1, E1, A1, D1, -, st1⟩ := newO X0 hx hZ hown (w89 hw) (w90 hw) (w16 hw) e0 (g := (mkF m 0 #[] [])) rfl (hb hby d24_0) (by decide) (by decide)
  obtain ⟨b1, g1⟩ : ∃ z, z = h0.size := ⟨_, rfl⟩
  rw [← g1] at A1 D1 st1
  have sz_b1 : h0.size ≤ b1 := Nat.le_trans K0.1 (Nat.le_of_eq g1.symm)
  have g_b1 : n0 ≤ b1 := Nat.le_trans Z0 sz_b1
  have K2 := K0.ext E1
  have O2 := O0.ext E1
  have F1_103 : Fld Z h1 b1 cn0 "order" "[I" .null := D1 (Or.inr (w103 hw)) (ty := (.array .int)) (by decide)
  have F1_105 : Fld Z h1 b1 cn0 "step" "[I" .null := D1 (Or.inr (w105 hw)) (ty := (.array .int)) (by decide)
  have F1_107 : Fld Z h1 b1 cn0 "count" "I" (.int (0 : Int32)) := D1 (Or.inr (w107 hw)) (ty := .int) (by decide)
  have F1_109 : Fld Z h1 b1 cn0 "first" "[I" .null := D1 (Or.inr (w109 hw)) (ty := (.array .int)) (by decide)
  have F1_111 : Fld Z h1 b1 cn0 "frontStart" "[I" .null := D1 (Or.inr (w111 hw)) (ty := (.array .int)) (by decide)
  have F1_113 : Fld Z h1 b1 cn0 "front" "[I" .null := D1 (Or.inr (w113 hw)) (ty := (.array .int)) (by decide)
  have F1_115 : Fld Z h1 b1 cn0 "parent" "[I" .null := D1 (Or.inr (w115 hw)) (ty := (.array .int)) (by decide)
  refine Gets.of st1 ?_
  show Gets p e below _ (T1.setTop (mkF m 3 #[] [(.ref b1)]))
  refine Gets.of (fun t k => XS.dup X1.here hx rfl (hb hby d24_3) rfl rfl k) ?_
  refine Gets.of (fun t k => XS.iconst X1.here hx rfl (hb hby d24_4) k) ?_
  obtain ⟨T3, h3, k3, X3, e3, E3, A3, Ex3, st3⟩ := newPE X1 hx hZ (aty := .int) (w3 hw) e1 (g := (mkF m 5 #[] [(.int (1 : Int32)), (.ref b1), (.ref b1)])) rfl (hb hby d24_5) rfl (by decide) (cap := 1) (by decide) (by decide) (by decide) (by decide) (ad := "[I") rfl
  obtain ⟨b3, g3⟩ : ∃ z, z = h1.size := ⟨_, rfl⟩
  rw [← g3] at A3 Ex3 st3
  have sz_b3 : h0.size ≤ b3 := Nat.le_trans K2.1 (Nat.le_of_eq g3.symm)
  have g_b3 : n0 ≤ b3 := Nat.le_trans Z0 sz_b3
  have K4 := K2.ext E3
  have O4 := O2.ext E3
  have V3 : Arv Z h3 b3 k3 .int (1 : Int32) [(.int (0 : Int32))] (.int (0 : Int32)) := (Arv.new A3 (by decide)).pad (pad_rep [] (.int (0 : Int32)) 1)
  refine Gets.of st3 ?_
  show Gets p e below _ (T3.setTop (mkF m 7 #[] [(.ref b3), (.ref b1), (.ref b1)]))
  refine Gets.of (fun t k => XS.dup X3.here hx rfl (hb hby d24_7) rfl rfl k) ?_
  refine Gets.of (fun t k => XS.iconst X3.here hx rfl (hb hby d24_8) k) ?_
  refine Gets.of (fun t k => XS.iconst X3.here hx rfl (hb hby d24_9) k) ?_
  obtain ⟨cl5, Ar5, q5, S5, N_5, H5, G5⟩ := id (V3)
  have hin5 : ¬ ((0 : Int32) < 0 ∨ cl5.slots.size ≤ ((0 : Int32)).toNatClampNeg) := inb_of S5 ⟨by decide, by decide⟩
  obtain ⟨T6, h6, X6, e6, W6, st6⟩ := stI X3 hx hZ e3 Ar5 (j := (0 : Int32)) hin5 (g := (mkF m 10 #[] [(.int (0 : Int32)), (.int (0 : Int32)), (.ref b3), (.ref b3), (.ref b1), (.ref b1)])) rfl rfl (hb hby d24_10)
  have V6 : Arv Z h6 b3 k3 .int (1 : Int32) [(.int (0 : Int32))] (.int (0 : Int32)) := Arv.set Ar5 q5 S5 N_5 H5 G5 rfl W6 0 rfl (Nat.le_of_ble_eq_true rfl)
  have N6 := Fr.snoc X6 N0 g_b3
  have K7 : Keep h0 _ [] := K4.wr W6 (Or.inr sz_b3)
  have O7 := O4.wr W6 g_b3
  refine Gets.of st6 ?_
  show Gets p e below _ (T6.setTop (mkF m 11 #[] [(.ref b3), (.ref b1), (.ref b1)]))
  refine Gets.of (fun t k => XS.iconst X6.here hx rfl (hb hby d24_11) k) ?_
  obtain ⟨T8, h8, k8, X8, e8, E8, A8, Ex8, st8⟩ := newPE X6 hx hZ (aty := .int) (w3 hw) e6 (g := (mkF m 12 #[] [(.int (1 : Int32)), (.ref b3), (.ref b1), (.ref b1)])) rfl (hb hby d24_12) rfl (by decide) (cap := 1) (by decide) (by decide) (by decide) (by decide) (ad := "[I") rfl
  obtain ⟨b8, g8⟩ : ∃ z, z = h6.size := ⟨_, rfl⟩
  rw [← g8] at A8 Ex8 st8
  have up9 := (Nat.le_of_eq W6.size.symm)
  have sz_b8 : h0.size ≤ b8 := Nat.le_trans K7.1 (Nat.le_of_eq g8.symm)
  have g_b8 : n0 ≤ b8 := Nat.le_trans Z0 sz_b8
  have K10 := K7.ext E8
  have O10 := O7.ext E8
  have V8 : Arv Z h8 b8 k8 .int (1 : Int32) [(.int (0 : Int32))] (.int (0 : Int32)) := (Arv.new A8 (by decide)).pad (pad_rep [] (.int (0 : Int32)) 1)
  refine Gets.of st8 ?_
  show Gets p e below _ (T8.setTop (mkF m 14 #[] [(.ref b8), (.ref b3), (.ref b1), (.ref b1)]))
  refine Gets.of (fun t k => XS.dup X8.here hx rfl (hb hby d24_14) rfl rfl k) ?_
  refine Gets.of (fun t k => XS.iconst X8.here hx rfl (hb hby d24_15) k) ?_
  refine Gets.of (fun t k => XS.iconst X8.here hx rfl (hb hby d24_16) k) ?_
  obtain ⟨cl11, Ar11, q11, S11, N_11, H11, G11⟩ := id (V8)
  have hin11 : ¬ ((0 : Int32) < 0 ∨ cl11.slots.size ≤ ((0 : Int32)).toNatClampNeg) := inb_of S11 ⟨by decide, by decide⟩
  obtain ⟨T12, h12, X12, e12, W12, st12⟩ := stI X8 hx hZ e8 Ar11 (j := (0 : Int32)) hin11 (g := (mkF m 17 #[] [(.int (0 : Int32)), (.int (0 : Int32)), (.ref b8), (.ref b8), (.ref b3), (.ref b1), (.ref b1)])) rfl rfl (hb hby d24_17)
  have V12 : Arv Z h12 b8 k8 .int (1 : Int32) [(.int (0 : Int32))] (.int (0 : Int32)) := Arv.set Ar11 q11 S11 N_11 H11 G11 rfl W12 0 rfl (Nat.le_of_ble_eq_true rfl)
  have N12 := Fr.snoc X12 N6 g_b8
  have K13 : Keep h0 _ [] := K10.wr W12 (Or.inr sz_b8)
  have O13 := O10.wr W12 g_b8
  refine Gets.of st12 ?_
  show Gets p e below _ (T12.setTop (mkF m 18 #[] [(.ref b8), (.ref b3), (.ref b1), (.ref b1)]))
  refine Gets.of (fun t k => XS.iconst X12.here hx rfl (hb hby d24_18) k) ?_
  obtain ⟨T14, h14, k14, X14, e14, E14, A14, Ex14, st14⟩ := newPE X12 hx hZ (aty := .int) (w3 hw) e12 (g := (mkF m 19 #[] [(.int (2 : Int32)), (.ref b8), (.ref b3), (.ref b1), (.ref b1)])) rfl (hb hby d24_19) rfl (by decide) (cap := 2) (by decide) (by decide) (by decide) (by decide) (ad := "[I") rfl
  obtain ⟨b14, g14⟩ : ∃ z, z = h12.size := ⟨_, rfl⟩
  rw [← g14] at A14 Ex14 st14
  have up15 := (Nat.le_of_eq W12.size.symm)
  have sz_b14 : h0.size ≤ b14 := Nat.le_trans K13.1 (Nat.le_of_eq g14.symm)
  have g_b14 : n0 ≤ b14 := Nat.le_trans Z0 sz_b14
  have K16 := K13.ext E14
  have O16 := O13.ext E14
  have V14 : Arv Z h14 b14 k14 .int (2 : Int32) [(.int (0 : Int32)), (.int (0 : Int32))] (.int (0 : Int32)) := (Arv.new A14 (by decide)).pad (pad_rep [] (.int (0 : Int32)) 2)
  refine Gets.of st14 ?_
  show Gets p e below _ (T14.setTop (mkF m 21 #[] [(.ref b14), (.ref b8), (.ref b3), (.ref b1), (.ref b1)]))
  refine Gets.of (fun t k => XS.dup X14.here hx rfl (hb hby d24_21) rfl rfl k) ?_
  refine Gets.of (fun t k => XS.iconst X14.here hx rfl (hb hby d24_22) k) ?_
  refine Gets.of (fun t k => XS.iconst X14.here hx rfl (hb hby d24_23) k) ?_
  obtain ⟨cl17, Ar17, q17, S17, N_17, H17, G17⟩ := id (V14)
  have hin17 : ¬ ((0 : Int32) < 0 ∨ cl17.slots.size ≤ ((0 : Int32)).toNatClampNeg) := inb_of S17 ⟨by decide, by decide⟩
  obtain ⟨T18, h18, X18, e18, W18, st18⟩ := stI X14 hx hZ e14 Ar17 (j := (0 : Int32)) hin17 (g := (mkF m 24 #[] [(.int (0 : Int32)), (.int (0 : Int32)), (.ref b14), (.ref b14), (.ref b8), (.ref b3), (.ref b1), (.ref b1)])) rfl rfl (hb hby d24_24)
  have V18 : Arv Z h18 b14 k14 .int (2 : Int32) [(.int (0 : Int32)), (.int (0 : Int32))] (.int (0 : Int32)) := Arv.set Ar17 q17 S17 N_17 H17 G17 rfl W18 0 rfl (Nat.le_of_ble_eq_true rfl)
  have N18 := Fr.snoc X18 N12 g_b14
  have K19 : Keep h0 _ [] := K16.wr W18 (Or.inr sz_b14)
  have O19 := O16.wr W18 g_b14
  refine Gets.of st18 ?_
  show Gets p e below _ (T18.setTop (mkF m 25 #[] [(.ref b14), (.ref b8), (.ref b3), (.ref b1), (.ref b1)]))
  refine Gets.of (fun t k => XS.dup X18.here hx rfl (hb hby d24_25) rfl rfl k) ?_
  refine Gets.of (fun t k => XS.iconst X18.here hx rfl (hb hby d24_26) k) ?_
  refine Gets.of (fun t k => XS.iconst X18.here hx rfl (hb hby d24_27) k) ?_
  obtain ⟨cl20, Ar20, q20, S20, N_20, H20, G20⟩ := id (V18)
  have hin20 : ¬ ((1 : Int32) < 0 ∨ cl20.slots.size ≤ ((1 : Int32)).toNatClampNeg) := inb_of S20 ⟨by decide, by decide⟩
  obtain ⟨T21, h21, X21, e21, W21, st21⟩ := stI X18 hx hZ e18 Ar20 (j := (1 : Int32)) hin20 (g := (mkF m 28 #[] [(.int (1 : Int32)), (.int (1 : Int32)), (.ref b14), (.ref b14), (.ref b8), (.ref b3), (.ref b1), (.ref b1)])) rfl rfl (hb hby d24_28)
  have V21 : Arv Z h21 b14 k14 .int (2 : Int32) [(.int (0 : Int32)), (.int (1 : Int32))] (.int (0 : Int32)) := Arv.set Ar20 q20 S20 N_20 H20 G20 rfl W21 1 rfl (Nat.le_of_ble_eq_true rfl)
  have N21 := Fr.snoc X21 N18 g_b14
  have K22 : Keep h0 _ [] := K19.wr W21 (Or.inr sz_b14)
  have O22 := O19.wr W21 g_b14
  refine Gets.of st21 ?_
  show Gets p e below _ (T21.setTop (mkF m 29 #[] [(.ref b14), (.ref b8), (.ref b3), (.ref b1), (.ref b1)]))
  refine Gets.of (fun t k => XS.iconst X21.here hx rfl (hb hby d24_29) k) ?_
  obtain ⟨T23, h23, k23, X23, e23, E23, A23, Ex23, st23⟩ := newPE X21 hx hZ (aty := .int) (w3 hw) e21 (g := (mkF m 30 #[] [(.int (2 : Int32)), (.ref b14), (.ref b8), (.ref b3), (.ref b1), (.ref b1)])) rfl (hb hby d24_30) rfl (by decide) (cap := 2) (by decide) (by decide) (by decide) (by decide) (ad := "[I") rfl
  obtain ⟨b23, g23⟩ : ∃ z, z = h21.size := ⟨_, rfl⟩
  rw [← g23] at A23 Ex23 st23
  have up24 := (Nat.le_trans (Nat.le_of_eq W18.size.symm) (Nat.le_of_eq W21.size.symm))
  have sz_b23 : h0.size ≤ b23 := Nat.le_trans K22.1 (Nat.le_of_eq g23.symm)
  have g_b23 : n0 ≤ b23 := Nat.le_trans Z0 sz_b23
  have K25 := K22.ext E23
  have O25 := O22.ext E23
  have V23 : Arv Z h23 b23 k23 .int (2 : Int32) [(.int (0 : Int32)), (.int (0 : Int32))] (.int (0 : Int32)) := (Arv.new A23 (by decide)).pad (pad_rep [] (.int (0 : Int32)) 2)
  refine Gets.of st23 ?_
  show Gets p e below _ (T23.setTop (mkF m 32 #[] [(.ref b23), (.ref b14), (.ref b8), (.ref b3), (.ref b1), (.ref b1)]))
  refine Gets.of (fun t k => XS.dup X23.here hx rfl (hb hby d24_32) rfl rfl k) ?_
  refine Gets.of (fun t k => XS.iconst X23.here hx rfl (hb hby d24_33) k) ?_
  refine Gets.of (fun t k => XS.iconst X23.here hx rfl (hb hby d24_34) k) ?_
  obtain ⟨cl26, Ar26, q26, S26, N_26, H26, G26⟩ := id (V23)
  have hin26 : ¬ ((0 : Int32) < 0 ∨ cl26.slots.size ≤ ((0 : Int32)).toNatClampNeg) := inb_of S26 ⟨by decide, by decide⟩
  obtain ⟨T27, h27, X27, e27, W27, st27⟩ := stI X23 hx hZ e23 Ar26 (j := (0 : Int32)) hin26 (g := (mkF m 35 #[] [(.int (0 : Int32)), (.int (0 : Int32)), (.ref b23), (.ref b23), (.ref b14), (.ref b8), (.ref b3), (.ref b1), (.ref b1)])) rfl rfl (hb hby d24_35)
  have V27 : Arv Z h27 b23 k23 .int (2 : Int32) [(.int (0 : Int32)), (.int (0 : Int32))] (.int (0 : Int32)) := Arv.set Ar26 q26 S26 N_26 H26 G26 rfl W27 0 rfl (Nat.le_of_ble_eq_true rfl)
  have N27 := Fr.snoc X27 N21 g_b23
  have K28 : Keep h0 _ [] := K25.wr W27 (Or.inr sz_b23)
  have O28 := O25.wr W27 g_b23
  refine Gets.of st27 ?_
  show Gets p e below _ (T27.setTop (mkF m 36 #[] [(.ref b23), (.ref b14), (.ref b8), (.ref b3), (.ref b1), (.ref b1)]))
  refine Gets.of (fun t k => XS.dup X27.here hx rfl (hb hby d24_36) rfl rfl k) ?_
  refine Gets.of (fun t k => XS.iconst X27.here hx rfl (hb hby d24_37) k) ?_
  refine Gets.of (fun t k => XS.iconst X27.here hx rfl (hb hby d24_38) k) ?_
  obtain ⟨cl29, Ar29, q29, S29, N_29, H29, G29⟩ := id (V27)
  have hin29 : ¬ ((1 : Int32) < 0 ∨ cl29.slots.size ≤ ((1 : Int32)).toNatClampNeg) := inb_of S29 ⟨by decide, by decide⟩
  obtain ⟨T30, h30, X30, e30, W30, st30⟩ := stI X27 hx hZ e27 Ar29 (j := (1 : Int32)) hin29 (g := (mkF m 39 #[] [(.int (1 : Int32)), (.int (1 : Int32)), (.ref b23), (.ref b23), (.ref b14), (.ref b8), (.ref b3), (.ref b1), (.ref b1)])) rfl rfl (hb hby d24_39)
  have V30 : Arv Z h30 b23 k23 .int (2 : Int32) [(.int (0 : Int32)), (.int (1 : Int32))] (.int (0 : Int32)) := Arv.set Ar29 q29 S29 N_29 H29 G29 rfl W30 1 rfl (Nat.le_of_ble_eq_true rfl)
  have N30 := Fr.snoc X30 N27 g_b23
  have K31 : Keep h0 _ [] := K28.wr W30 (Or.inr sz_b23)
  have O31 := O28.wr W30 g_b23
  refine Gets.of st30 ?_
  show Gets p e below _ (T30.setTop (mkF m 40 #[] [(.ref b23), (.ref b14), (.ref b8), (.ref b3), (.ref b1), (.ref b1)]))
  refine Gets.of (fun t k => XS.iconst X30.here hx rfl (hb hby d24_40) k) ?_
  obtain ⟨T32, h32, k32, X32, e32, E32, A32, Ex32, st32⟩ := newPE X30 hx hZ (aty := .int) (w3 hw) e30 (g := (mkF m 41 #[] [(.int (1 : Int32)), (.ref b23), (.ref b14), (.ref b8), (.ref b3), (.ref b1), (.ref b1)])) rfl (hb hby d24_41) rfl (by decide) (cap := 1) (by decide) (by decide) (by decide) (by decide) (ad := "[I") rfl
  obtain ⟨b32, g32⟩ : ∃ z, z = h30.size := ⟨_, rfl⟩
  rw [← g32] at A32 Ex32 st32
  have up33 := (Nat.le_trans (Nat.le_of_eq W27.size.symm) (Nat.le_of_eq W30.size.symm))
  have sz_b32 : h0.size ≤ b32 := Nat.le_trans K31.1 (Nat.le_of_eq g32.symm)
  have g_b32 : n0 ≤ b32 := Nat.le_trans Z0 sz_b32
  have K34 := K31.ext E32
  have O34 := O31.ext E32
  have V32 : Arv Z h32 b32 k32 .int (1 : Int32) [(.int (0 : Int32))] (.int (0 : Int32)) := (Arv.new A32 (by decide)).pad (pad_rep [] (.int (0 : Int32)) 1)
  refine Gets.of st32 ?_
  show Gets p e below _ (T32.setTop (mkF m 43 #[] [(.ref b32), (.ref b23), (.ref b14), (.ref b8), (.ref b3), (.ref b1), (.ref b1)]))
  refine Gets.of (fun t k => XS.dup X32.here hx rfl (hb hby d24_43) rfl rfl k) ?_
  refine Gets.of (fun t k => XS.iconst X32.here hx rfl (hb hby d24_44) k) ?_
  refine Gets.of (fun t k => XS.iconst X32.here hx rfl (hb hby d24_45) k) ?_
  obtain ⟨cl35, Ar35, q35, S35, N_35, H35, G35⟩ := id (V32)
  have hin35 : ¬ ((0 : Int32) < 0 ∨ cl35.slots.size ≤ ((0 : Int32)).toNatClampNeg) := inb_of S35 ⟨by decide, by decide⟩
  obtain ⟨T36, h36, X36, e36, W36, st36⟩ := stI X32 hx hZ e32 Ar35 (j := (0 : Int32)) hin35 (g := (mkF m 46 #[] [(.int (0 : Int32)), (.int (0 : Int32)), (.ref b32), (.ref b32), (.ref b23), (.ref b14), (.ref b8), (.ref b3), (.ref b1), (.ref b1)])) rfl rfl (hb hby d24_46)
  have V36 : Arv Z h36 b32 k32 .int (1 : Int32) [(.int (0 : Int32))] (.int (0 : Int32)) := Arv.set Ar35 q35 S35 N_35 H35 G35 rfl W36 0 rfl (Nat.le_of_ble_eq_true rfl)
  have N36 := Fr.snoc X36 N30 g_b32
  have K37 : Keep h0 _ [] := K34.wr W36 (Or.inr sz_b32)
  have O37 := O34.wr W36 g_b32
  refine Gets.of st36 ?_
  show Gets p e below _ (T36.setTop (mkF m 47 #[] [(.ref b32), (.ref b23), (.ref b14), (.ref b8), (.ref b3), (.ref b1), (.ref b1)]))
  refine Gets.of (fun t k => XS.iconst X36.here hx rfl (hb hby d24_47) k) ?_
  obtain ⟨T38, h38, k38, X38, e38, E38, A38, Ex38, st38⟩ := newPE X36 hx hZ (aty := .int) (w3 hw) e36 (g := (mkF m 48 #[] [(.int (1 : Int32)), (.ref b32), (.ref b23), (.ref b14), (.ref b8), (.ref b3), (.ref b1), (.ref b1)])) rfl (hb hby d24_48) rfl (by decide) (cap := 1) (by decide) (by decide) (by decide) (by decide) (ad := "[I") rfl
  obtain ⟨b38, g38⟩ : ∃ z, z = h36.size := ⟨_, rfl⟩
  rw [← g38] at A38 Ex38 st38
  have up39 := (Nat.le_of_eq W36.size.symm)
  have sz_b38 : h0.size ≤ b38 := Nat.le_trans K37.1 (Nat.le_of_eq g38.symm)
  have g_b38 : n0 ≤ b38 := Nat.le_trans Z0 sz_b38
  have K40 := K37.ext E38
  have O40 := O37.ext E38
  have V38 : Arv Z h38 b38 k38 .int (1 : Int32) [(.int (0 : Int32))] (.int (0 : Int32)) := (Arv.new A38 (by decide)).pad (pad_rep [] (.int (0 : Int32)) 1)
  refine Gets.of st38 ?_
  show Gets p e below _ (T38.setTop (mkF m 50 #[] [(.ref b38), (.ref b32), (.ref b23), (.ref b14), (.ref b8), (.ref b3), (.ref b1), (.ref b1)]))
  refine Gets.of (fun t k => XS.dup X38.here hx rfl (hb hby d24_50) rfl rfl k) ?_
  refine Gets.of (fun t k => XS.iconst X38.here hx rfl (hb hby d24_51) k) ?_
  refine Gets.of (fun t k => XS.iconst X38.here hx rfl (hb hby d24_52) k) ?_
  obtain ⟨cl41, Ar41, q41, S41, N_41, H41, G41⟩ := id (V38)
  have hin41 : ¬ ((0 : Int32) < 0 ∨ cl41.slots.size ≤ ((0 : Int32)).toNatClampNeg) := inb_of S41 ⟨by decide, by decide⟩
  obtain ⟨T42, h42, X42, e42, W42, st42⟩ := stI X38 hx hZ e38 Ar41 (j := (0 : Int32)) hin41 (g := (mkF m 53 #[] [(.int (-1 : Int32)), (.int (0 : Int32)), (.ref b38), (.ref b38), (.ref b32), (.ref b23), (.ref b14), (.ref b8), (.ref b3), (.ref b1), (.ref b1)])) rfl rfl (hb hby d24_53)
  have V42 : Arv Z h42 b38 k38 .int (1 : Int32) [(.int (-1 : Int32))] (.int (0 : Int32)) := Arv.set Ar41 q41 S41 N_41 H41 G41 rfl W42 0 rfl (Nat.le_of_ble_eq_true rfl)
  have N42 := Fr.snoc X42 N36 g_b38
  have K43 : Keep h0 _ [] := K40.wr W42 (Or.inr sz_b38)
  have O43 := O40.wr W42 g_b38
  refine Gets.of st42 ?_
  show Gets p e below _ (T42.setTop (mkF m 54 #[] [(.ref b38), (.ref b32), (.ref b23), (.ref b14), (.ref b8), (.ref b3), (.ref b1), (.ref b1)]))
  have f44 : Exa Z h42 b1 cn0 := ((((((((((((((A1.ext E3).wr W6).ext E8).wr W12).ext E14).wr W18).wr W21).ext E23).wr W27).wr W30).ext E32).wr W36).ext E38).wr W42)
  have f45 : Fld Z h42 b1 cn0 "order" "[I" .null := ((((((((((((((F1_103.ext E3).other W6 (Or.inl (Nat.ne_of_lt (Nat.lt_of_lt_of_le A1.lt (Nat.le_of_eq g3.symm))))).ext E8).other W12 (Or.inl (Nat.ne_of_lt (Nat.lt_of_lt_of_le (Nat.lt_of_lt_of_le (Nat.lt_of_lt_of_le A1.lt E3.1) up9) (Nat.le_of_eq g8.symm))))).ext E14).other W18 (Or.inl (Nat.ne_of_lt (Nat.lt_of_lt_of_le (Nat.lt_of_lt_of_le (Nat.lt_of_lt_of_le (Nat.lt_of_lt_of_le (Nat.lt_of_lt_of_le A1.lt E3.1) up9) E8.1) up15) (Nat.le_of_eq g14.symm))))).other W21 (Or.inl (Nat.ne_of_lt (Nat.lt_of_lt_of_le (Nat.lt_of_lt_of_le (Nat.lt_of_lt_of_le (Nat.lt_of_lt_of_le (Nat.lt_of_lt_of_le A1.lt E3.1) up9) E8.1) up15) (Nat.le_of_eq g14.symm))))).ext E23).other W27 (Or.inl (Nat.ne_of_lt (Nat.lt_of_lt_of_le (Nat.lt_of_lt_of_le (Nat.lt_of_lt_of_le (Nat.lt_of_lt_of_le (Nat.lt_of_lt_of_le (Nat.lt_of_lt_of_le (Nat.lt_of_lt_of_le A1.lt E3.1) up9) E8.1) up15) E14.1) up24) (Nat.le_of_eq g23.symm))))).other W30 (Or.inl (Nat.ne_of_lt (Nat.lt_of_lt_of_le (Nat.lt_of_lt_of_le (Nat.lt_of_lt_of_le (Nat.lt_of_lt_of_le (Nat.lt_of_lt_of_le (Nat.lt_of_lt_of_le (Nat.lt_of_lt_of_le A1.lt E3.1) up9) E8.1) up15) E14.1) up24) (Nat.le_of_eq g23.symm))))).ext E32).other W36 (Or.inl (Nat.ne_of_lt (Nat.lt_of_lt_of_le (Nat.lt_of_lt_of_le (Nat.lt_of_lt_of_le (Nat.lt_of_lt_of_le (Nat.lt_of_lt_of_le (Nat.lt_of_lt_of_le (Nat.lt_of_lt_of_le (Nat.lt_of_lt_of_le (Nat.lt_of_lt_of_le A1.lt E3.1) up9) E8.1) up15) E14.1) up24) E23.1) up33) (Nat.le_of_eq g32.symm))))).ext E38).other W42 (Or.inl (Nat.ne_of_lt (Nat.lt_of_lt_of_le (Nat.lt_of_lt_of_le (Nat.lt_of_lt_of_le (Nat.lt_of_lt_of_le (Nat.lt_of_lt_of_le (Nat.lt_of_lt_of_le (Nat.lt_of_lt_of_le (Nat.lt_of_lt_of_le (Nat.lt_of_lt_of_le (Nat.lt_of_lt_of_le (Nat.lt_of_lt_of_le A1.lt E3.1) up9) E8.1) up15) E14.1) up24) E23.1) up33) E32.1) up39) (Nat.le_of_eq g38.symm)))))
  have f46 : Fld Z h42 b1 cn0 "step" "[I" .null := ((((((((((((((F1_105.ext E3).other W6 (Or.inl (Nat.ne_of_lt (Nat.lt_of_lt_of_le A1.lt (Nat.le_of_eq g3.symm))))).ext E8).other W12 (Or.inl (Nat.ne_of_lt (Nat.lt_of_lt_of_le (Nat.lt_of_lt_of_le (Nat.lt_of_lt_of_le A1.lt E3.1) up9) (Nat.le_of_eq g8.symm))))).ext E14).other W18 (Or.inl (Nat.ne_of_lt (Nat.lt_of_lt_of_le (Nat.lt_of_lt_of_le (Nat.lt_of_lt_of_le (Nat.lt_of_lt_of_le (Nat.lt_of_lt_of_le A1.lt E3.1) up9) E8.1) up15) (Nat.le_of_eq g14.symm))))).other W21 (Or.inl (Nat.ne_of_lt (Nat.lt_of_lt_of_le (Nat.lt_of_lt_of_le (Nat.lt_of_lt_of_le (Nat.lt_of_lt_of_le (Nat.lt_of_lt_of_le A1.lt E3.1) up9) E8.1) up15) (Nat.le_of_eq g14.symm))))).ext E23).other W27 (Or.inl (Nat.ne_of_lt (Nat.lt_of_lt_of_le (Nat.lt_of_lt_of_le (Nat.lt_of_lt_of_le (Nat.lt_of_lt_of_le (Nat.lt_of_lt_of_le (Nat.lt_of_lt_of_le (Nat.lt_of_lt_of_le A1.lt E3.1) up9) E8.1) up15) E14.1) up24) (Nat.le_of_eq g23.symm))))).other W30 (Or.inl (Nat.ne_of_lt (Nat.lt_of_lt_of_le (Nat.lt_of_lt_of_le (Nat.lt_of_lt_of_le (Nat.lt_of_lt_of_le (Nat.lt_of_lt_of_le (Nat.lt_of_lt_of_le (Nat.lt_of_lt_of_le A1.lt E3.1) up9) E8.1) up15) E14.1) up24) (Nat.le_of_eq g23.symm))))).ext E32).other W36 (Or.inl (Nat.ne_of_lt (Nat.lt_of_lt_of_le (Nat.lt_of_lt_of_le (Nat.lt_of_lt_of_le (Nat.lt_of_lt_of_le (Nat.lt_of_lt_of_le (Nat.lt_of_lt_of_le (Nat.lt_of_lt_of_le (Nat.lt_of_lt_of_le (Nat.lt_of_lt_of_le A1.lt E3.1) up9) E8.1) up15) E14.1) up24) E23.1) up33) (Nat.le_of_eq g32.symm))))).ext E38).other W42 (Or.inl (Nat.ne_of_lt (Nat.lt_of_lt_of_le (Nat.lt_of_lt_of_le (Nat.lt_of_lt_of_le (Nat.lt_of_lt_of_le (Nat.lt_of_lt_of_le (Nat.lt_of_lt_of_le (Nat.lt_of_lt_of_le (Nat.lt_of_lt_of_le (Nat.lt_of_lt_of_le (Nat.lt_of_lt_of_le (Nat.lt_of_lt_of_le A1.lt E3.1) up9) E8.1) up15) E14.1) up24) E23.1) up33) E32.1) up39) (Nat.le_of_eq g38.symm)))))
  have f47 : Arv Z h42 b14 k14 .int (2 : Int32) [(.int (0 : Int32)), (.int (1 : Int32))] (.int (0 : Int32)) := (((((((V21.ext E23).other W27 (Nat.ne_of_lt (Nat.lt_of_lt_of_le (Nat.lt_of_lt_of_le V14.lt up24) (Nat.le_of_eq g23.symm)))).other W30 (Nat.ne_of_lt (Nat.lt_of_lt_of_le (Nat.lt_of_lt_of_le V14.lt up24) (Nat.le_of_eq g23.symm)))).ext E32).other W36 (Nat.ne_of_lt (Nat.lt_of_lt_of_le (Nat.lt_of_lt_of_le (Nat.lt_of_lt_of_le (Nat.lt_of_lt_of_le V14.lt up24) E23.1) up33) (Nat.le_of_eq g32.symm)))).ext E38).other W42 (Nat.ne_of_lt (Nat.lt_of_lt_of_le (Nat.lt_of_lt_of_le (Nat.lt_of_lt_of_le (Nat.lt_of_lt_of_le (Nat.lt_of_lt_of_le (Nat.lt_of_lt_of_le V14.lt up24) E23.1) up33) E32.1) up39) (Nat.le_of_eq g38.symm))))
  have f48 : Exa Z h42 b14 "[I" := (((((((((Ex14.wr W18).wr W21).ext E23).wr W27).wr W30).ext E32).wr W36).ext E38).wr W42)
  have f49 : Fld Z h42 b1 cn0 "count" "I" (.int (0 : Int32)) := ((((((((((((((F1_107.ext E3).other W6 (Or.inl (Nat.ne_of_lt (Nat.lt_of_lt_of_le A1.lt (Nat.le_of_eq g3.symm))))).ext E8).other W12 (Or.inl (Nat.ne_of_lt (Nat.lt_of_lt_of_le (Nat.lt_of_lt_of_le (Nat.lt_of_lt_of_le A1.lt E3.1) up9) (Nat.le_of_eq g8.symm))))).ext E14).other W18 (Or.inl (Nat.ne_of_lt (Nat.lt_of_lt_of_le (Nat.lt_of_lt_of_le (Nat.lt_of_lt_of_le (Nat.lt_of_lt_of_le (Nat.lt_of_lt_of_le A1.lt E3.1) up9) E8.1) up15) (Nat.le_of_eq g14.symm))))).other W21 (Or.inl (Nat.ne_of_lt (Nat.lt_of_lt_of_le (Nat.lt_of_lt_of_le (Nat.lt_of_lt_of_le (Nat.lt_of_lt_of_le (Nat.lt_of_lt_of_le A1.lt E3.1) up9) E8.1) up15) (Nat.le_of_eq g14.symm))))).ext E23).other W27 (Or.inl (Nat.ne_of_lt (Nat.lt_of_lt_of_le (Nat.lt_of_lt_of_le (Nat.lt_of_lt_of_le (Nat.lt_of_lt_of_le (Nat.lt_of_lt_of_le (Nat.lt_of_lt_of_le (Nat.lt_of_lt_of_le A1.lt E3.1) up9) E8.1) up15) E14.1) up24) (Nat.le_of_eq g23.symm))))).other W30 (Or.inl (Nat.ne_of_lt (Nat.lt_of_lt_of_le (Nat.lt_of_lt_of_le (Nat.lt_of_lt_of_le (Nat.lt_of_lt_of_le (Nat.lt_of_lt_of_le (Nat.lt_of_lt_of_le (Nat.lt_of_lt_of_le A1.lt E3.1) up9) E8.1) up15) E14.1) up24) (Nat.le_of_eq g23.symm))))).ext E32).other W36 (Or.inl (Nat.ne_of_lt (Nat.lt_of_lt_of_le (Nat.lt_of_lt_of_le (Nat.lt_of_lt_of_le (Nat.lt_of_lt_of_le (Nat.lt_of_lt_of_le (Nat.lt_of_lt_of_le (Nat.lt_of_lt_of_le (Nat.lt_of_lt_of_le (Nat.lt_of_lt_of_le A1.lt E3.1) up9) E8.1) up15) E14.1) up24) E23.1) up33) (Nat.le_of_eq g32.symm))))).ext E38).other W42 (Or.inl (Nat.ne_of_lt (Nat.lt_of_lt_of_le (Nat.lt_of_lt_of_le (Nat.lt_of_lt_of_le (Nat.lt_of_lt_of_le (Nat.lt_of_lt_of_le (Nat.lt_of_lt_of_le (Nat.lt_of_lt_of_le (Nat.lt_of_lt_of_le (Nat.lt_of_lt_of_le (Nat.lt_of_lt_of_le (Nat.lt_of_lt_of_le A1.lt E3.1) up9) E8.1) up15) E14.1) up24) E23.1) up33) E32.1) up39) (Nat.le_of_eq g38.symm)))))
  have f50 : Fld Z h42 b1 cn0 "first" "[I" .null := ((((((((((((((F1_109.ext E3).other W6 (Or.inl (Nat.ne_of_lt (Nat.lt_of_lt_of_le A1.lt (Nat.le_of_eq g3.symm))))).ext E8).other W12 (Or.inl (Nat.ne_of_lt (Nat.lt_of_lt_of_le (Nat.lt_of_lt_of_le (Nat.lt_of_lt_of_le A1.lt E3.1) up9) (Nat.le_of_eq g8.symm))))).ext E14).other W18 (Or.inl (Nat.ne_of_lt (Nat.lt_of_lt_of_le (Nat.lt_of_lt_of_le (Nat.lt_of_lt_of_le (Nat.lt_of_lt_of_le (Nat.lt_of_lt_of_le A1.lt E3.1) up9) E8.1) up15) (Nat.le_of_eq g14.symm))))).other W21 (Or.inl (Nat.ne_of_lt (Nat.lt_of_lt_of_le (Nat.lt_of_lt_of_le (Nat.lt_of_lt_of_le (Nat.lt_of_lt_of_le (Nat.lt_of_lt_of_le A1.lt E3.1) up9) E8.1) up15) (Nat.le_of_eq g14.symm))))).ext E23).other W27 (Or.inl (Nat.ne_of_lt (Nat.lt_of_lt_of_le (Nat.lt_of_lt_of_le (Nat.lt_of_lt_of_le (Nat.lt_of_lt_of_le (Nat.lt_of_lt_of_le (Nat.lt_of_lt_of_le (Nat.lt_of_lt_of_le A1.lt E3.1) up9) E8.1) up15) E14.1) up24) (Nat.le_of_eq g23.symm))))).other W30 (Or.inl (Nat.ne_of_lt (Nat.lt_of_lt_of_le (Nat.lt_of_lt_of_le (Nat.lt_of_lt_of_le (Nat.lt_of_lt_of_le (Nat.lt_of_lt_of_le (Nat.lt_of_lt_of_le (Nat.lt_of_lt_of_le A1.lt E3.1) up9) E8.1) up15) E14.1) up24) (Nat.le_of_eq g23.symm))))).ext E32).other W36 (Or.inl (Nat.ne_of_lt (Nat.lt_of_lt_of_le (Nat.lt_of_lt_of_le (Nat.lt_of_lt_of_le (Nat.lt_of_lt_of_le (Nat.lt_of_lt_of_le (Nat.lt_of_lt_of_le (Nat.lt_of_lt_of_le (Nat.lt_of_lt_of_le (Nat.lt_of_lt_of_le A1.lt E3.1) up9) E8.1) up15) E14.1) up24) E23.1) up33) (Nat.le_of_eq g32.symm))))).ext E38).other W42 (Or.inl (Nat.ne_of_lt (Nat.lt_of_lt_of_le (Nat.lt_of_lt_of_le (Nat.lt_of_lt_of_le (Nat.lt_of_lt_of_le (Nat.lt_of_lt_of_le (Nat.lt_of_lt_of_le (Nat.lt_of_lt_of_le (Nat.lt_of_lt_of_le (Nat.lt_of_lt_of_le (Nat.lt_of_lt_of_le (Nat.lt_of_lt_of_le A1.lt E3.1) up9) E8.1) up15) E14.1) up24) E23.1) up33) E32.1) up39) (Nat.le_of_eq g38.symm)))))
  have f51 : Fld Z h42 b1 cn0 "frontStart" "[I" .null := ((((((((((((((F1_111.ext E3).other W6 (Or.inl (Nat.ne_of_lt (Nat.lt_of_lt_of_le A1.lt (Nat.le_of_eq g3.symm))))).ext E8).other W12 (Or.inl (Nat.ne_of_lt (Nat.lt_of_lt_of_le (Nat.lt_of_lt_of_le (Nat.lt_of_lt_of_le A1.lt E3.1) up9) (Nat.le_of_eq g8.symm))))).ext E14).other W18 (Or.inl (Nat.ne_of_lt (Nat.lt_of_lt_of_le (Nat.lt_of_lt_of_le (Nat.lt_of_lt_of_le (Nat.lt_of_lt_of_le (Nat.lt_of_lt_of_le A1.lt E3.1) up9) E8.1) up15) (Nat.le_of_eq g14.symm))))).other W21 (Or.inl (Nat.ne_of_lt (Nat.lt_of_lt_of_le (Nat.lt_of_lt_of_le (Nat.lt_of_lt_of_le (Nat.lt_of_lt_of_le (Nat.lt_of_lt_of_le A1.lt E3.1) up9) E8.1) up15) (Nat.le_of_eq g14.symm))))).ext E23).other W27 (Or.inl (Nat.ne_of_lt (Nat.lt_of_lt_of_le (Nat.lt_of_lt_of_le (Nat.lt_of_lt_of_le (Nat.lt_of_lt_of_le (Nat.lt_of_lt_of_le (Nat.lt_of_lt_of_le (Nat.lt_of_lt_of_le A1.lt E3.1) up9) E8.1) up15) E14.1) up24) (Nat.le_of_eq g23.symm))))).other W30 (Or.inl (Nat.ne_of_lt (Nat.lt_of_lt_of_le (Nat.lt_of_lt_of_le (Nat.lt_of_lt_of_le (Nat.lt_of_lt_of_le (Nat.lt_of_lt_of_le (Nat.lt_of_lt_of_le (Nat.lt_of_lt_of_le A1.lt E3.1) up9) E8.1) up15) E14.1) up24) (Nat.le_of_eq g23.symm))))).ext E32).other W36 (Or.inl (Nat.ne_of_lt (Nat.lt_of_lt_of_le (Nat.lt_of_lt_of_le (Nat.lt_of_lt_of_le (Nat.lt_of_lt_of_le (Nat.lt_of_lt_of_le (Nat.lt_of_lt_of_le (Nat.lt_of_lt_of_le (Nat.lt_of_lt_of_le (Nat.lt_of_lt_of_le A1.lt E3.1) up9) E8.1) up15) E14.1) up24) E23.1) up33) (Nat.le_of_eq g32.symm))))).ext E38).other W42 (Or.inl (Nat.ne_of_lt (Nat.lt_of_lt_of_le (Nat.lt_of_lt_of_le (Nat.lt_of_lt_of_le (Nat.lt_of_lt_of_le (Nat.lt_of_lt_of_le (Nat.lt_of_lt_of_le (Nat.lt_of_lt_of_le (Nat.lt_of_lt_of_le (Nat.lt_of_lt_of_le (Nat.lt_of_lt_of_le (Nat.lt_of_lt_of_le A1.lt E3.1) up9) E8.1) up15) E14.1) up24) E23.1) up33) E32.1) up39) (Nat.le_of_eq g38.symm)))))
  have f52 : Fld Z h42 b1 cn0 "front" "[I" .null := ((((((((((((((F1_113.ext E3).other W6 (Or.inl (Nat.ne_of_lt (Nat.lt_of_lt_of_le A1.lt (Nat.le_of_eq g3.symm))))).ext E8).other W12 (Or.inl (Nat.ne_of_lt (Nat.lt_of_lt_of_le (Nat.lt_of_lt_of_le (Nat.lt_of_lt_of_le A1.lt E3.1) up9) (Nat.le_of_eq g8.symm))))).ext E14).other W18 (Or.inl (Nat.ne_of_lt (Nat.lt_of_lt_of_le (Nat.lt_of_lt_of_le (Nat.lt_of_lt_of_le (Nat.lt_of_lt_of_le (Nat.lt_of_lt_of_le A1.lt E3.1) up9) E8.1) up15) (Nat.le_of_eq g14.symm))))).other W21 (Or.inl (Nat.ne_of_lt (Nat.lt_of_lt_of_le (Nat.lt_of_lt_of_le (Nat.lt_of_lt_of_le (Nat.lt_of_lt_of_le (Nat.lt_of_lt_of_le A1.lt E3.1) up9) E8.1) up15) (Nat.le_of_eq g14.symm))))).ext E23).other W27 (Or.inl (Nat.ne_of_lt (Nat.lt_of_lt_of_le (Nat.lt_of_lt_of_le (Nat.lt_of_lt_of_le (Nat.lt_of_lt_of_le (Nat.lt_of_lt_of_le (Nat.lt_of_lt_of_le (Nat.lt_of_lt_of_le A1.lt E3.1) up9) E8.1) up15) E14.1) up24) (Nat.le_of_eq g23.symm))))).other W30 (Or.inl (Nat.ne_of_lt (Nat.lt_of_lt_of_le (Nat.lt_of_lt_of_le (Nat.lt_of_lt_of_le (Nat.lt_of_lt_of_le (Nat.lt_of_lt_of_le (Nat.lt_of_lt_of_le (Nat.lt_of_lt_of_le A1.lt E3.1) up9) E8.1) up15) E14.1) up24) (Nat.le_of_eq g23.symm))))).ext E32).other W36 (Or.inl (Nat.ne_of_lt (Nat.lt_of_lt_of_le (Nat.lt_of_lt_of_le (Nat.lt_of_lt_of_le (Nat.lt_of_lt_of_le (Nat.lt_of_lt_of_le (Nat.lt_of_lt_of_le (Nat.lt_of_lt_of_le (Nat.lt_of_lt_of_le (Nat.lt_of_lt_of_le A1.lt E3.1) up9) E8.1) up15) E14.1) up24) E23.1) up33) (Nat.le_of_eq g32.symm))))).ext E38).other W42 (Or.inl (Nat.ne_of_lt (Nat.lt_of_lt_of_le (Nat.lt_of_lt_of_le (Nat.lt_of_lt_of_le (Nat.lt_of_lt_of_le (Nat.lt_of_lt_of_le (Nat.lt_of_lt_of_le (Nat.lt_of_lt_of_le (Nat.lt_of_lt_of_le (Nat.lt_of_lt_of_le (Nat.lt_of_lt_of_le (Nat.lt_of_lt_of_le A1.lt E3.1) up9) E8.1) up15) E14.1) up24) E23.1) up33) E32.1) up39) (Nat.le_of_eq g38.symm)))))
  have f53 : Fld Z h42 b1 cn0 "parent" "[I" .null := ((((((((((((((F1_115.ext E3).other W6 (Or.inl (Nat.ne_of_lt (Nat.lt_of_lt_of_le A1.lt (Nat.le_of_eq g3.symm))))).ext E8).other W12 (Or.inl (Nat.ne_of_lt (Nat.lt_of_lt_of_le (Nat.lt_of_lt_of_le (Nat.lt_of_lt_of_le A1.lt E3.1) up9) (Nat.le_of_eq g8.symm))))).ext E14).other W18 (Or.inl (Nat.ne_of_lt (Nat.lt_of_lt_of_le (Nat.lt_of_lt_of_le (Nat.lt_of_lt_of_le (Nat.lt_of_lt_of_le (Nat.lt_of_lt_of_le A1.lt E3.1) up9) E8.1) up15) (Nat.le_of_eq g14.symm))))).other W21 (Or.inl (Nat.ne_of_lt (Nat.lt_of_lt_of_le (Nat.lt_of_lt_of_le (Nat.lt_of_lt_of_le (Nat.lt_of_lt_of_le (Nat.lt_of_lt_of_le A1.lt E3.1) up9) E8.1) up15) (Nat.le_of_eq g14.symm))))).ext E23).other W27 (Or.inl (Nat.ne_of_lt (Nat.lt_of_lt_of_le (Nat.lt_of_lt_of_le (Nat.lt_of_lt_of_le (Nat.lt_of_lt_of_le (Nat.lt_of_lt_of_le (Nat.lt_of_lt_of_le (Nat.lt_of_lt_of_le A1.lt E3.1) up9) E8.1) up15) E14.1) up24) (Nat.le_of_eq g23.symm))))).other W30 (Or.inl (Nat.ne_of_lt (Nat.lt_of_lt_of_le (Nat.lt_of_lt_of_le (Nat.lt_of_lt_of_le (Nat.lt_of_lt_of_le (Nat.lt_of_lt_of_le (Nat.lt_of_lt_of_le (Nat.lt_of_lt_of_le A1.lt E3.1) up9) E8.1) up15) E14.1) up24) (Nat.le_of_eq g23.symm))))).ext E32).other W36 (Or.inl (Nat.ne_of_lt (Nat.lt_of_lt_of_le (Nat.lt_of_lt_of_le (Nat.lt_of_lt_of_le (Nat.lt_of_lt_of_le (Nat.lt_of_lt_of_le (Nat.lt_of_lt_of_le (Nat.lt_of_lt_of_le (Nat.lt_of_lt_of_le (Nat.lt_of_lt_of_le A1.lt E3.1) up9) E8.1) up15) E14.1) up24) E23.1) up33) (Nat.le_of_eq g32.symm))))).ext E38).other W42 (Or.inl (Nat.ne_of_lt (Nat.lt_of_lt_of_le (Nat.lt_of_lt_of_le (Nat.lt_of_lt_of_le (Nat.lt_of_lt_of_le (Nat.lt_of_lt_of_le (Nat.lt_of_lt_of_le (Nat.lt_of_lt_of_le (Nat.lt_of_lt_of_le (Nat.lt_of_lt_of_le (Nat.lt_of_lt_of_le (Nat.lt_of_lt_of_le A1.lt E3.1) up9) E8.1) up15) E14.1) up24) E23.1) up33) E32.1) up39) (Nat.le_of_eq g38.symm)))))
  obtain ⟨_, _, ⟨T54, L54, k54, n54⟩, -, X54, ⟨Lc54, hQ54, l54, y54, z54⟩, st54⟩ := X42.specialBack hx (y := (⟨cn0, "<init>", "([I[I[I[I[I[I)V"⟩ : MethodName)) rfl hown (mvT hZ (w98 hw)) (mvT hZ (w99 hw)) (mvT hZ (w100 hw)) (by decide) (backOf (W := 1) (r24_init l Z a0 hw [] b1 b3 b8 b14 b23 b32 b38 k14 h42 n0 O43 f44 f45 f46 f47 f48 f49 f50 f51 f52 f53 g_b1) hZ (w100 hw) (w16 hw) (by decide) (by decide)) (g := (mkF m 54 #[] [(.ref b38), (.ref b32), (.ref b23), (.ref b14), (.ref b8), (.ref b3), (.ref b1), (.ref b1)])) rfl (by rw [hml]; rfl) (Steps.refl _) (a := b1) (argsL := [(.ref b3), (.ref b8), (.ref b14), (.ref b23), (.ref b32), (.ref b38)]) (rest := [(.ref b1)]) (lenOf pd__I_I_I_I_I_I_V rfl) rfl (by show 2 * 0 + _ ≤ _; exact Nat.le_of_eq rfl) (hb hby d24_54) (fun _ _ => ⟨rfl, e42, (by decide : 7 + 0 ≤ _), (by decide : 15 + 0 ≤ _)⟩)
  dsimp only [Pt.U, Pt.locs, Pt.cells, Pt.slots] at X54 l54 y54 z54 st54 hQ54
  subst l54 y54 z54
  obtain ⟨Nq54, Kq54, hR54⟩ := hQ54
  have N54 := Fr.app N42 Nq54
  have K55 : Keep h0 _ [] := K43.trans Kq54 (allS (Or.inr sz_b1) all0)
  have O55 := O43.keep Kq54 (allS g_b1 all0)
  obtain ⟨rfl, bf54_0, bf54_1, bf54_2, bf54_3, bf54_4, bf54_5, bf54_6⟩ := hR54
  refine Gets.tr st54 ?_
  show Gets p e below _ (T54.setTop (mkF m 57 #[] [(.ref b1)]))
  refine Gets.retA X54 hx Bd.returns rfl rfl (hb hby d24_57) ?_ (by decide) (by decide)
  have f56 : Exa Z T54.heap b1 cn0 := (f44.keep Kq54)
  have f57 : Arv Z T54.heap b3 k3 .int (1 : Int32) [(.int (0 : Int32))] (.int (0 : Int32)) := (((((((((((((V6.ext E8).other W12 (Nat.ne_of_lt (Nat.lt_of_lt_of_le (Nat.lt_of_lt_of_le V3.lt up9) (Nat.le_of_eq g8.symm)))).ext E14).other W18 (Nat.ne_of_lt (Nat.lt_of_lt_of_le (Nat.lt_of_lt_of_le (Nat.lt_of_lt_of_le (Nat.lt_of_lt_of_le V3.lt up9) E8.1) up15) (Nat.le_of_eq g14.symm)))).other W21 (Nat.ne_of_lt (Nat.lt_of_lt_of_le (Nat.lt_of_lt_of_le (Nat.lt_of_lt_of_le (Nat.lt_of_lt_of_le V3.lt up9) E8.1) up15) (Nat.le_of_eq g14.symm)))).ext E23).other W27 (Nat.ne_of_lt (Nat.lt_of_lt_of_le (Nat.lt_of_lt_of_le (Nat.lt_of_lt_of_le (Nat.lt_of_lt_of_le (Nat.lt_of_lt_of_le (Nat.lt_of_lt_of_le V3.lt up9) E8.1) up15) E14.1) up24) (Nat.le_of_eq g23.symm)))).other W30 (Nat.ne_of_lt (Nat.lt_of_lt_of_le (Nat.lt_of_lt_of_le (Nat.lt_of_lt_of_le (Nat.lt_of_lt_of_le (Nat.lt_of_lt_of_le (Nat.lt_of_lt_of_le V3.lt up9) E8.1) up15) E14.1) up24) (Nat.le_of_eq g23.symm)))).ext E32).other W36 (Nat.ne_of_lt (Nat.lt_of_lt_of_le (Nat.lt_of_lt_of_le (Nat.lt_of_lt_of_le (Nat.lt_of_lt_of_le (Nat.lt_of_lt_of_le (Nat.lt_of_lt_of_le (Nat.lt_of_lt_of_le (Nat.lt_of_lt_of_le V3.lt up9) E8.1) up15) E14.1) up24) E23.1) up33) (Nat.le_of_eq g32.symm)))).ext E38).other W42 (Nat.ne_of_lt (Nat.lt_of_lt_of_le (Nat.lt_of_lt_of_le (Nat.lt_of_lt_of_le (Nat.lt_of_lt_of_le (Nat.lt_of_lt_of_le (Nat.lt_of_lt_of_le (Nat.lt_of_lt_of_le (Nat.lt_of_lt_of_le (Nat.lt_of_lt_of_le (Nat.lt_of_lt_of_le V3.lt up9) E8.1) up15) E14.1) up24) E23.1) up33) E32.1) up39) (Nat.le_of_eq g38.symm)))).keep Kq54 (ninS (Nat.ne_of_gt (Nat.lt_of_lt_of_le A1.lt (Nat.le_of_eq g3.symm))) nin0))
  have f58 : Exa Z T54.heap b3 "[I" := ((((((((((((((Ex3.wr W6).ext E8).wr W12).ext E14).wr W18).wr W21).ext E23).wr W27).wr W30).ext E32).wr W36).ext E38).wr W42).keep Kq54)
  have f59 : Arv Z T54.heap b8 k8 .int (1 : Int32) [(.int (0 : Int32))] (.int (0 : Int32)) := (((((((((((V12.ext E14).other W18 (Nat.ne_of_lt (Nat.lt_of_lt_of_le (Nat.lt_of_lt_of_le V8.lt up15) (Nat.le_of_eq g14.symm)))).other W21 (Nat.ne_of_lt (Nat.lt_of_lt_of_le (Nat.lt_of_lt_of_le V8.lt up15) (Nat.le_of_eq g14.symm)))).ext E23).other W27 (Nat.ne_of_lt (Nat.lt_of_lt_of_le (Nat.lt_of_lt_of_le (Nat.lt_of_lt_of_le (Nat.lt_of_lt_of_le V8.lt up15) E14.1) up24) (Nat.le_of_eq g23.symm)))).other W30 (Nat.ne_of_lt (Nat.lt_of_lt_of_le (Nat.lt_of_lt_of_le (Nat.lt_of_lt_of_le (Nat.lt_of_lt_of_le V8.lt up15) E14.1) up24) (Nat.le_of_eq g23.symm)))).ext E32).other W36 (Nat.ne_of_lt (Nat.lt_of_lt_of_le (Nat.lt_of_lt_of_le (Nat.lt_of_lt_of_le (Nat.lt_of_lt_of_le (Nat.lt_of_lt_of_le (Nat.lt_of_lt_of_le V8.lt up15) E14.1) up24) E23.1) up33) (Nat.le_of_eq g32.symm)))).ext E38).other W42 (Nat.ne_of_lt (Nat.lt_of_lt_of_le (Nat.lt_of_lt_of_le (Nat.lt_of_lt_of_le (Nat.lt_of_lt_of_le (Nat.lt_of_lt_of_le (Nat.lt_of_lt_of_le (Nat.lt_of_lt_of_le (Nat.lt_of_lt_of_le V8.lt up15) E14.1) up24) E23.1) up33) E32.1) up39) (Nat.le_of_eq g38.symm)))).keep Kq54 (ninS (Nat.ne_of_gt (Nat.lt_of_lt_of_le (Nat.lt_of_lt_of_le (Nat.lt_of_lt_of_le A1.lt E3.1) up9) (Nat.le_of_eq g8.symm))) nin0))
  have f60 : Exa Z T54.heap b8 "[I" := ((((((((((((Ex8.wr W12).ext E14).wr W18).wr W21).ext E23).wr W27).wr W30).ext E32).wr W36).ext E38).wr W42).keep Kq54)
  have f61 : Arv Z T54.heap b14 k14 .int (2 : Int32) [(.int (0 : Int32)), (.int (1 : Int32))] (.int (0 : Int32)) := (f47.keep Kq54 (ninS (Nat.ne_of_gt (Nat.lt_of_lt_of_le (Nat.lt_of_lt_of_le (Nat.lt_of_lt_of_le (Nat.lt_of_lt_of_le (Nat.lt_of_lt_of_le A1.lt E3.1) up9) E8.1) up15) (Nat.le_of_eq g14.symm))) nin0))
  have f62 : Exa Z T54.heap b14 "[I" := (f48.keep Kq54)
  have f63 : Arv Z T54.heap b23 k23 .int (2 : Int32) [(.int (0 : Int32)), (.int (1 : Int32))] (.int (0 : Int32)) := (((((V30.ext E32).other W36 (Nat.ne_of_lt (Nat.lt_of_lt_of_le (Nat.lt_of_lt_of_le V23.lt up33) (Nat.le_of_eq g32.symm)))).ext E38).other W42 (Nat.ne_of_lt (Nat.lt_of_lt_of_le (Nat.lt_of_lt_of_le (Nat.lt_of_lt_of_le (Nat.lt_of_lt_of_le V23.lt up33) E32.1) up39) (Nat.le_of_eq g38.symm)))).keep Kq54 (ninS (Nat.ne_of_gt (Nat.lt_of_lt_of_le (Nat.lt_of_lt_of_le (Nat.lt_of_lt_of_le (Nat.lt_of_lt_of_le (Nat.lt_of_lt_of_le (Nat.lt_of_lt_of_le (Nat.lt_of_lt_of_le A1.lt E3.1) up9) E8.1) up15) E14.1) up24) (Nat.le_of_eq g23.symm))) nin0))
  have f64 : Exa Z T54.heap b23 "[I" := (((((((Ex23.wr W27).wr W30).ext E32).wr W36).ext E38).wr W42).keep Kq54)
  have f65 : Arv Z T54.heap b32 k32 .int (1 : Int32) [(.int (0 : Int32))] (.int (0 : Int32)) := (((V36.ext E38).other W42 (Nat.ne_of_lt (Nat.lt_of_lt_of_le (Nat.lt_of_lt_of_le V32.lt up39) (Nat.le_of_eq g38.symm)))).keep Kq54 (ninS (Nat.ne_of_gt (Nat.lt_of_lt_of_le (Nat.lt_of_lt_of_le (Nat.lt_of_lt_of_le (Nat.lt_of_lt_of_le (Nat.lt_of_lt_of_le (Nat.lt_of_lt_of_le (Nat.lt_of_lt_of_le (Nat.lt_of_lt_of_le (Nat.lt_of_lt_of_le A1.lt E3.1) up9) E8.1) up15) E14.1) up24) E23.1) up33) (Nat.le_of_eq g32.symm))) nin0))
  have f66 : Exa Z T54.heap b32 "[I" := ((((Ex32.wr W36).ext E38).wr W42).keep Kq54)
  have f67 : Arv Z T54.heap b38 k38 .int (1 : Int32) [(.int (-1 : Int32))] (.int (0 : Int32)) := (V42.keep Kq54 (ninS (Nat.ne_of_gt (Nat.lt_of_lt_of_le (Nat.lt_of_lt_of_le (Nat.lt_of_lt_of_le (Nat.lt_of_lt_of_le (Nat.lt_of_lt_of_le (Nat.lt_of_lt_of_le (Nat.lt_of_lt_of_le (Nat.lt_of_lt_of_le (Nat.lt_of_lt_of_le (Nat.lt_of_lt_of_le (Nat.lt_of_lt_of_le A1.lt E3.1) up9) E8.1) up15) E14.1) up24) E23.1) up33) E32.1) up39) (Nat.le_of_eq g38.symm))) nin0))
  have f68 : Exa Z T54.heap b38 "[I" := ((Ex38.wr W42).keep Kq54)
  exact ⟨N54, K55, ⟨b1, b3, b8, b14, b23, b32, b38, k3, k8, k14, k23, k32, k38, rfl, sz_b1, sz_b3, sz_b8, sz_b14, sz_b23, sz_b32, sz_b38, (Nat.ne_of_lt (Nat.lt_of_lt_of_le A1.lt (Nat.le_of_eq g3.symm))), (Nat.ne_of_lt (Nat.lt_of_lt_of_le (Nat.lt_of_lt_of_le (Nat.lt_of_lt_of_le A1.lt E3.1) up9) (Nat.le_of_eq g8.symm))), (Nat.ne_of_lt (Nat.lt_of_lt_of_le (Nat.lt_of_lt_of_le (Nat.lt_of_lt_of_le (Nat.lt_of_lt_of_le (Nat.lt_of_lt_of_le A1.lt E3.1) up9) E8.1) up15) (Nat.le_of_eq g14.symm))), (Nat.ne_of_lt (Nat.lt_of_lt_of_le (Nat.lt_of_lt_of_le (Nat.lt_of_lt_of_le (Nat.lt_of_lt_of_le (Nat.lt_of_lt_of_le (Nat.lt_of_lt_of_le (Nat.lt_of_lt_of_le A1.lt E3.1) up9) E8.1) up15) E14.1) up24) (Nat.le_of_eq g23.symm))), (Nat.ne_of_lt (Nat.lt_of_lt_of_le (Nat.lt_of_lt_of_le (Nat.lt_of_lt_of_le (Nat.lt_of_lt_of_le (Nat.lt_of_lt_of_le (Nat.lt_of_lt_of_le (Nat.lt_of_lt_of_le (Nat.lt_of_lt_of_le (Nat.lt_of_lt_of_le A1.lt E3.1) up9) E8.1) up15) E14.1) up24) E23.1) up33) (Nat.le_of_eq g32.symm))), (Nat.ne_of_lt (Nat.lt_of_lt_of_le (Nat.lt_of_lt_of_le (Nat.lt_of_lt_of_le (Nat.lt_of_lt_of_le (Nat.lt_of_lt_of_le (Nat.lt_of_lt_of_le (Nat.lt_of_lt_of_le (Nat.lt_of_lt_of_le (Nat.lt_of_lt_of_le (Nat.lt_of_lt_of_le (Nat.lt_of_lt_of_le A1.lt E3.1) up9) E8.1) up15) E14.1) up24) E23.1) up33) E32.1) up39) (Nat.le_of_eq g38.symm))), (Nat.ne_of_lt (Nat.lt_of_lt_of_le (Nat.lt_of_lt_of_le V3.lt up9) (Nat.le_of_eq g8.symm))), (Nat.ne_of_lt (Nat.lt_of_lt_of_le (Nat.lt_of_lt_of_le (Nat.lt_of_lt_of_le (Nat.lt_of_lt_of_le V3.lt up9) E8.1) up15) (Nat.le_of_eq g14.symm))), (Nat.ne_of_lt (Nat.lt_of_lt_of_le (Nat.lt_of_lt_of_le (Nat.lt_of_lt_of_le (Nat.lt_of_lt_of_le (Nat.lt_of_lt_of_le (Nat.lt_of_lt_of_le V3.lt up9) E8.1) up15) E14.1) up24) (Nat.le_of_eq g23.symm))), (Nat.ne_of_lt (Nat.lt_of_lt_of_le (Nat.lt_of_lt_of_le (Nat.lt_of_lt_of_le (Nat.lt_of_lt_of_le (Nat.lt_of_lt_of_le (Nat.lt_of_lt_of_le (Nat.lt_of_lt_of_le (Nat.lt_of_lt_of_le V3.lt up9) E8.1) up15) E14.1) up24) E23.1) up33) (Nat.le_of_eq g32.symm))), (Nat.ne_of_lt (Nat.lt_of_lt_of_le (Nat.lt_of_lt_of_le (Nat.lt_of_lt_of_le (Nat.lt_of_lt_of_le (Nat.lt_of_lt_of_le (Nat.lt_of_lt_of_le (Nat.lt_of_lt_of_le (Nat.lt_of_lt_of_le (Nat.lt_of_lt_of_le (Nat.lt_of_lt_of_le V3.lt up9) E8.1) up15) E14.1) up24) E23.1) up33) E32.1) up39) (Nat.le_of_eq g38.symm))), (Nat.ne_of_lt (Nat.lt_of_lt_of_le (Nat.lt_of_lt_of_le V8.lt up15) (Nat.le_of_eq g14.symm))), (Nat.ne_of_lt (Nat.lt_of_lt_of_le (Nat.lt_of_lt_of_le (Nat.lt_of_lt_of_le (Nat.lt_of_lt_of_le V8.lt up15) E14.1) up24) (Nat.le_of_eq g23.symm))), (Nat.ne_of_lt (Nat.lt_of_lt_of_le (Nat.lt_of_lt_of_le (Nat.lt_of_lt_of_le (Nat.lt_of_lt_of_le (Nat.lt_of_lt_of_le (Nat.lt_of_lt_of_le V8.lt up15) E14.1) up24) E23.1) up33) (Nat.le_of_eq g32.symm))), (Nat.ne_of_lt (Nat.lt_of_lt_of_le (Nat.lt_of_lt_of_le (Nat.lt_of_lt_of_le (Nat.lt_of_lt_of_le (Nat.lt_of_lt_of_le (Nat.lt_of_lt_of_le (Nat.lt_of_lt_of_le (Nat.lt_of_lt_of_le V8.lt up15) E14.1) up24) E23.1) up33) E32.1) up39) (Nat.le_of_eq g38.symm))), (Nat.ne_of_lt (Nat.lt_of_lt_of_le (Nat.lt_of_lt_of_le V14.lt up24) (Nat.le_of_eq g23.symm))), (Nat.ne_of_lt (Nat.lt_of_lt_of_le (Nat.lt_of_lt_of_le (Nat.lt_of_lt_of_le (Nat.lt_of_lt_of_le V14.lt up24) E23.1) up33) (Nat.le_of_eq g32.symm))), (Nat.ne_of_lt (Nat.lt_of_lt_of_le (Nat.lt_of_lt_of_le (Nat.lt_of_lt_of_le (Nat.lt_of_lt_of_le (Nat.lt_of_lt_of_le (Nat.lt_of_lt_of_le V14.lt up24) E23.1) up33) E32.1) up39) (Nat.le_of_eq g38.symm))), (Nat.ne_of_lt (Nat.lt_of_lt_of_le (Nat.lt_of_lt_of_le V23.lt up33) (Nat.le_of_eq g32.symm))), (Nat.ne_of_lt (Nat.lt_of_lt_of_le (Nat.lt_of_lt_of_le (Nat.lt_of_lt_of_le (Nat.lt_of_lt_of_le V23.lt up33) E32.1) up39) (Nat.le_of_eq g38.symm))), (Nat.ne_of_lt (Nat.lt_of_lt_of_le (Nat.lt_of_lt_of_le V32.lt up39) (Nat.le_of_eq g38.symm))), f56, bf54_0, bf54_1, bf54_2, bf54_3, bf54_4, bf54_5, bf54_6, f57, f58, f59, f60, f61, f62, f63, f64, f65, f66, f67, f68⟩⟩
theorem w118 {Z : State} {a0 : Array Value} (hw : ∀ d ∈ tables_1, d.before a0 Z = true) : (Jvm.Cond.code ({ cls := cn0, name := "single", desc := "()Lcom/example/unea/unea/analysis/Supernodes;" } : Jvm.MethodName) prog_15_method_3_code (0 : Nat) (Option.some (Jvm.ClassFile.FieldType.object cn0))).before a0 Z = true := hw _ (List.mem_of_getElem? (i := 118) rfl)
theorem pd__Lcom_example_unea_unea_analysis_Supernodes_ : parseMethodDescriptor "()Lcom/example/unea/unea/analysis/Supernodes;" = some ⟨[], some (.object "com/example/unea/unea/analysis/Supernodes")⟩ := by decide +kernel
theorem w117 {Z : State} {a0 : Array Value} (hw : ∀ d ∈ tables_1, d.before a0 Z = true) : (Jvm.Cond.static ({ cls := cn0, name := "single", desc := "()Lcom/example/unea/unea/analysis/Supernodes;" } : Jvm.MethodName)).before a0 Z = true := hw _ (List.mem_of_getElem? (i := 117) rfl)
theorem w119 {Z : State} {a0 : Array Value} (hw : ∀ d ∈ tables_1, d.before a0 Z = true) : (Jvm.Cond.fieldLink cn3 (22 : Nat) cn0 "count" "I").before a0 Z = true := hw _ (List.mem_of_getElem? (i := 119) rfl)
theorem w120 {Z : State} {a0 : Array Value} (hw : ∀ d ∈ tables_1, d.before a0 Z = true) : (Jvm.Cond.fieldLink cn3 (26 : Nat) cn0 "order" "[I").before a0 Z = true := hw _ (List.mem_of_getElem? (i := 120) rfl)
theorem w121 {Z : State} {a0 : Array Value} (hw : ∀ d ∈ tables_1, d.before a0 Z = true) : (Jvm.Cond.methodLink cn3 (30 : Nat) ({ cls := cn3, name := "eq1", desc := "([I[I)Z" } : Jvm.MethodName)).before a0 Z = true := hw _ (List.mem_of_getElem? (i := 121) rfl)
theorem d25_0 : decode method_2_code 0 = .ok (.aload_n 0, 1) := by decide +kernel
theorem d25_1 : decode method_2_code 1 = .ok (.arraylength, 1) := by decide +kernel
theorem d25_2 : decode method_2_code 2 = .ok (.iconst 1, 1) := by decide +kernel
theorem d25_3 : decode method_2_code 3 = .ok (.if_icmp .ne 22, 3) := by decide +kernel
theorem d25_6 : decode method_2_code 6 = .ok (.aload_n 1, 1) := by decide +kernel
theorem d25_7 : decode method_2_code 7 = .ok (.arraylength, 1) := by decide +kernel
theorem d25_8 : decode method_2_code 8 = .ok (.iconst 1, 1) := by decide +kernel
theorem d25_9 : decode method_2_code 9 = .ok (.if_icmp .ne 16, 3) := by decide +kernel
theorem d25_12 : decode method_2_code 12 = .ok (.aload_n 0, 1) := by decide +kernel
theorem d25_13 : decode method_2_code 13 = .ok (.iconst 0, 1) := by decide +kernel
theorem d25_14 : decode method_2_code 14 = .ok (.iaload, 1) := by decide +kernel
theorem d25_15 : decode method_2_code 15 = .ok (.aload_n 1, 1) := by decide +kernel
theorem d25_16 : decode method_2_code 16 = .ok (.iconst 0, 1) := by decide +kernel
theorem d25_17 : decode method_2_code 17 = .ok (.iaload, 1) := by decide +kernel
theorem d25_18 : decode method_2_code 18 = .ok (.if_icmp .ne 7, 3) := by decide +kernel
theorem d25_21 : decode method_2_code 21 = .ok (.iconst 1, 1) := by decide +kernel
theorem d25_22 : decode method_2_code 22 = .ok (.goto 4, 3) := by decide +kernel
theorem d25_26 : decode method_2_code 26 = .ok (.ireturn, 1) := by decide +kernel
def Q_r26_eq1 (Z : State) (ya1 : Addr) (ya2 : Addr) (yk3 : ClassId) (yk4 : ClassId) (h0 : Heap) (n0 : Nat) (v : Option Value) (h : Heap) (L : List Loc) : Prop := Fr n0 L ∧ h = h0 ∧ ((v = some (.int (1 : Int32))))
theorem pn_com_example_unea_unea_analysis_SupernodesSinglePinLaw : plainName "com/example/unea/unea/analysis/SupernodesSinglePinLaw" = true := by first | (simp [plainName, overriddenIn]; done) | decide +kernel
set_option maxRecDepth 65536 in
set_option maxHeartbeats 40000000 in
theorem r26_eq1 (l : Launch) (Z : State) (a0 : Array Value) (hw : ∀ d ∈ tables_1, d.before a0 Z = true) (ws : List Jvm.Cond) (ya1 : Addr) (ya2 : Addr) (yk3 : ClassId) (yk4 : ClassId) (h0 : Heap) (n0 : Nat) (O0 : Old Z n0 h0) (F0 : Arv Z h0 ya1 yk3 .int (1 : Int32) [(.int (0 : Int32))] (.int (0 : Int32))) (F1 : Arv Z h0 ya2 yk4 .int (1 : Int32) [(.int (0 : Int32))] (.int (0 : Int32))) :
    MetFree l (⟨cn3, "eq1", "([I[I)Z"⟩ : MethodName) (head1 (Jvm.Cond.code (⟨cn3, "eq1", "([I[I)Z"⟩ : MethodName) method_2_code 2 (some .boolean) :: ws) ({ frames := 0, cells := 0, slots := 0, locals := 0 } : Room)) (fun a U => a = #[(.ref ya1), (.ref ya2)] ∧ Z.Warmed39 U.vm ∧ U.heap = h0) (fun _ _ _ _ _ => True) (fun _ U o U' => ∃ v L, o = .returned v ∧ Q_r26_eq1 Z ya1 ya2 yk3 yk4 h0 n0 v U'.heap L ∧ FrameEnd U o U' L ({ frames := 0, cells := 0, slots := 0, locals := 0 } : Room).cells ({ frames := 0, cells := 0, slots := 0, locals := 0 } : Room).slots) := by
  refine MetFree.of_bodySF (plainFor_of_name pn_com_example_unea_unea_analysis_SupernodesSinglePinLaw) hisR ?_
  intro p e s m args below meth c s₁ Bd hml0 hP hK
  obtain ⟨rfl, hZ, hh⟩ := hP
  have hx := Bd.exec
  have hby := Bd.bytes
  have hlk := Bd.notSynchronized
  have hml : c.maxLocals = 2 := hml0
  have hown : s.vm.findClass cn3 = some m.cls := findClass_of_methodNamed Bd.named
  have hnm := (name_of_methodNamed Bd.named Bd.method).1
  have X0 : Stand p l e ({ frames := 0, cells := 0, slots := 0, locals := 0 } : Room) s m #[(.ref ya1), (.ref ya2)] below meth c s₁ [] 0 0 := Stand.of_body Bd
  have e0 : s₁.heap = h0 := by rw [← hh, Bd.state]; rfl
  have N0 := Fr.nil n0
  have K0 := Keep.refl h0 []
  have Z0 : n0 ≤ h0.size := O0.1 ▸ O0.2.1
  have hef : entryFrame m #[(.ref ya1), (.ref ya2)] 2 = mkF m 0 #[.val (.ref ya1), .val (.ref ya2)] [] := by first | (simp [entryFrame, mkF, argsToLocals, Value.category]; done) | rfl
  rw [hef]
  refine Gets.out (Q := Q_r26_eq1 Z ya1 ya2 yk3 yk4 h0 n0) ?_
  show Gets p e below _ (s₁.setTop (mkF m 0 #[.val (.ref ya1), .val (.ref ya2)] []))
  refine Gets.of (fun t k => XS.aloadN X0.here hx rfl (hb hby d25_0) rfl rfl  k) ?_
  obtain ⟨cl1, Ar1, -, S1, N_1, -, -⟩ := id (F0)
  refine Gets.of (X0.arraylength hx (by rw [e0]; exact Ar1.1) (State.isArrayOf_alike hZ.alike Ar1.2.1) (g := (mkF m 1 #[.val (.ref ya1), .val (.ref ya2)] [(.ref ya1)])) rfl rfl (hb hby d25_1)) ?_
  rw [len_of S1 N_1]
  show Gets p e below _ (s₁.setTop (mkF m 2 #[.val (.ref ya1), .val (.ref ya2)] [(.int (1 : Int32))]))
  refine Gets.of (fun t k => XS.iconst X0.here hx rfl (hb hby d25_2) k) ?_
  refine Gets.of (fun t k => XS.icmpNo X0.here hx rfl (hb hby d25_3) rfl (teq (by decide : (1 : Int32) = (1 : Int32))).2 k) ?_
  show Gets p e below _ (s₁.setTop (mkF m 6 #[.val (.ref ya1), .val (.ref ya2)] []))
  refine Gets.of (fun t k => XS.aloadN X0.here hx rfl (hb hby d25_6) rfl rfl  k) ?_
  obtain ⟨cl2, Ar2, -, S2, N_2, -, -⟩ := id (F1)
  refine Gets.of (X0.arraylength hx (by rw [e0]; exact Ar2.1) (State.isArrayOf_alike hZ.alike Ar2.2.1) (g := (mkF m 7 #[.val (.ref ya1), .val (.ref ya2)] [(.ref ya2)])) rfl rfl (hb hby d25_7)) ?_
  rw [len_of S2 N_2]
  show Gets p e below _ (s₁.setTop (mkF m 8 #[.val (.ref ya1), .val (.ref ya2)] [(.int (1 : Int32))]))
  refine Gets.of (fun t k => XS.iconst X0.here hx rfl (hb hby d25_8) k) ?_
  refine Gets.of (fun t k => XS.icmpNo X0.here hx rfl (hb hby d25_9) rfl (teq (by decide : (1 : Int32) = (1 : Int32))).2 k) ?_
  show Gets p e below _ (s₁.setTop (mkF m 12 #[.val (.ref ya1), .val (.ref ya2)] []))
  refine Gets.of (fun t k => XS.aloadN X0.here hx rfl (hb hby d25_12) rfl rfl  k) ?_
  refine Gets.of (fun t k => XS.iconst X0.here hx rfl (hb hby d25_13) k) ?_
  obtain ⟨cl3, Ar3, q3, S3, N_3, H3, G3⟩ := id (F0)
  have hin3 : ¬ ((0 : Int32) < 0 ∨ cl3.slots.size ≤ ((0 : Int32)).toNatClampNeg) := inb_of S3 ⟨by decide, by decide⟩
  refine Gets.of (fun t k => X0.iaload hx (j := (0 : Int32)) (v := (.int (0 : Int32))) (by rw [e0]; exact Ar3.1) (State.isArrayOf_alike hZ.alike Ar3.2.1) Ar3.2.2 hin3 (Has.at H3 hin3 rfl) (g := (mkF m 14 #[.val (.ref ya1), .val (.ref ya2)] [(.int (0 : Int32)), (.ref ya1)])) rfl rfl (hb hby d25_14) t k) ?_
  show Gets p e below _ (s₁.setTop (mkF m 15 #[.val (.ref ya1), .val (.ref ya2)] [(.int (0 : Int32))]))
  refine Gets.of (fun t k => XS.aloadN X0.here hx rfl (hb hby d25_15) rfl rfl  k) ?_
  refine Gets.of (fun t k => XS.iconst X0.here hx rfl (hb hby d25_16) k) ?_
  obtain ⟨cl4, Ar4, q4, S4, N_4, H4, G4⟩ := id (F1)
  have hin4 : ¬ ((0 : Int32) < 0 ∨ cl4.slots.size ≤ ((0 : Int32)).toNatClampNeg) := inb_of S4 ⟨by decide, by decide⟩
  refine Gets.of (fun t k => X0.iaload hx (j := (0 : Int32)) (v := (.int (0 : Int32))) (by rw [e0]; exact Ar4.1) (State.isArrayOf_alike hZ.alike Ar4.2.1) Ar4.2.2 hin4 (Has.at H4 hin4 rfl) (g := (mkF m 17 #[.val (.ref ya1), .val (.ref ya2)] [(.int (0 : Int32)), (.ref ya2), (.int (0 : Int32))])) rfl rfl (hb hby d25_17) t k) ?_
  show Gets p e below _ (s₁.setTop (mkF m 18 #[.val (.ref ya1), .val (.ref ya2)] [(.int (0 : Int32)), (.int (0 : Int32))]))
  refine Gets.of (fun t k => XS.icmpNo X0.here hx rfl (hb hby d25_18) rfl (teq (by decide : (0 : Int32) = (0 : Int32))).2 k) ?_
  show Gets p e below _ (s₁.setTop (mkF m 21 #[.val (.ref ya1), .val (.ref ya2)] []))
  refine Gets.of (fun t k => XS.iconst X0.here hx rfl (hb hby d25_21) k) ?_
  refine Gets.of (fun t k => XS.goto X0.here hx rfl (pc0 := 22) (pc' := 26) rfl (hb hby d25_22) (by decide) (by decide) k) ?_
  show Gets p e below _ (s₁.setTop (mkF m 26 #[.val (.ref ya1), .val (.ref ya2)] [(.int (1 : Int32))]))
  refine Gets.retN X0 hx (t := .boolean) Bd.returns (by simp) (hb hby d25_26) ?_ (by decide) (by decide)
  rw [e0]
  exact ⟨N0, rfl, rfl⟩
theorem w124 {Z : State} {a0 : Array Value} (hw : ∀ d ∈ tables_1, d.before a0 Z = true) : (Jvm.Cond.code ({ cls := cn3, name := "eq1", desc := "([I[I)Z" } : Jvm.MethodName) method_2_code (2 : Nat) (Option.some Jvm.ClassFile.FieldType.boolean)).before a0 Z = true := hw _ (List.mem_of_getElem? (i := 124) rfl)
theorem w123 {Z : State} {a0 : Array Value} (hw : ∀ d ∈ tables_1, d.before a0 Z = true) : (Jvm.Cond.initialized cn3).before a0 Z = true := hw _ (List.mem_of_getElem? (i := 123) rfl)
theorem pd__I_I_Z : parseMethodDescriptor "([I[I)Z" = some ⟨[(.array .int), (.array .int)], some .boolean⟩ := by decide +kernel
theorem w122 {Z : State} {a0 : Array Value} (hw : ∀ d ∈ tables_1, d.before a0 Z = true) : (Jvm.Cond.static ({ cls := cn3, name := "eq1", desc := "([I[I)Z" } : Jvm.MethodName)).before a0 Z = true := hw _ (List.mem_of_getElem? (i := 122) rfl)
theorem w125 {Z : State} {a0 : Array Value} (hw : ∀ d ∈ tables_1, d.before a0 Z = true) : (Jvm.Cond.fieldLink cn3 (36 : Nat) cn0 "step" "[I").before a0 Z = true := hw _ (List.mem_of_getElem? (i := 125) rfl)
theorem w126 {Z : State} {a0 : Array Value} (hw : ∀ d ∈ tables_1, d.before a0 Z = true) : (Jvm.Cond.fieldLink cn3 (39 : Nat) cn0 "first" "[I").before a0 Z = true := hw _ (List.mem_of_getElem? (i := 126) rfl)
theorem w127 {Z : State} {a0 : Array Value} (hw : ∀ d ∈ tables_1, d.before a0 Z = true) : (Jvm.Cond.methodLink cn3 (42 : Nat) ({ cls := cn3, name := "eq2", desc := "([I[I)Z" } : Jvm.MethodName)).before a0 Z = true := hw _ (List.mem_of_getElem? (i := 127) rfl)
theorem d26_0 : decode method_3_code 0 = .ok (.aload_n 0, 1) := by decide +kernel
theorem d26_1 : decode method_3_code 1 = .ok (.arraylength, 1) := by decide +kernel
theorem d26_2 : decode method_3_code 2 = .ok (.iconst 2, 1) := by decide +kernel
theorem d26_3 : decode method_3_code 3 = .ok (.if_icmp .ne 31, 3) := by decide +kernel
theorem d26_6 : decode method_3_code 6 = .ok (.aload_n 1, 1) := by decide +kernel
theorem d26_7 : decode method_3_code 7 = .ok (.arraylength, 1) := by decide +kernel
theorem d26_8 : decode method_3_code 8 = .ok (.iconst 2, 1) := by decide +kernel
theorem d26_9 : decode method_3_code 9 = .ok (.if_icmp .ne 25, 3) := by decide +kernel
theorem d26_12 : decode method_3_code 12 = .ok (.aload_n 0, 1) := by decide +kernel
theorem d26_13 : decode method_3_code 13 = .ok (.iconst 0, 1) := by decide +kernel
theorem d26_14 : decode method_3_code 14 = .ok (.iaload, 1) := by decide +kernel
theorem d26_15 : decode method_3_code 15 = .ok (.aload_n 1, 1) := by decide +kernel
theorem d26_16 : decode method_3_code 16 = .ok (.iconst 0, 1) := by decide +kernel
theorem d26_17 : decode method_3_code 17 = .ok (.iaload, 1) := by decide +kernel
theorem d26_18 : decode method_3_code 18 = .ok (.if_icmp .ne 16, 3) := by decide +kernel
theorem d26_21 : decode method_3_code 21 = .ok (.aload_n 0, 1) := by decide +kernel
theorem d26_22 : decode method_3_code 22 = .ok (.iconst 1, 1) := by decide +kernel
theorem d26_23 : decode method_3_code 23 = .ok (.iaload, 1) := by decide +kernel
theorem d26_24 : decode method_3_code 24 = .ok (.aload_n 1, 1) := by decide +kernel
theorem d26_25 : decode method_3_code 25 = .ok (.iconst 1, 1) := by decide +kernel
theorem d26_26 : decode method_3_code 26 = .ok (.iaload, 1) := by decide +kernel
theorem d26_27 : decode method_3_code 27 = .ok (.if_icmp .ne 7, 3) := by decide +kernel
theorem d26_30 : decode method_3_code 30 = .ok (.iconst 1, 1) := by decide +kernel
theorem d26_31 : decode method_3_code 31 = .ok (.goto 4, 3) := by decide +kernel
theorem d26_35 : decode method_3_code 35 = .ok (.ireturn, 1) := by decide +kernel
def Q_r27_eq2 (Z : State) (ya1 : Addr) (ya2 : Addr) (yk3 : ClassId) (yk4 : ClassId) (h0 : Heap) (n0 : Nat) (v : Option Value) (h : Heap) (L : List Loc) : Prop := Fr n0 L ∧ h = h0 ∧ ((v = some (.int (1 : Int32))))
set_option maxRecDepth 65536 in
set_option maxHeartbeats 40000000 in
theorem r27_eq2 (l : Launch) (Z : State) (a0 : Array Value) (hw : ∀ d ∈ tables_1, d.before a0 Z = true) (ws : List Jvm.Cond) (ya1 : Addr) (ya2 : Addr) (yk3 : ClassId) (yk4 : ClassId) (h0 : Heap) (n0 : Nat) (O0 : Old Z n0 h0) (F0 : Arv Z h0 ya1 yk3 .int (2 : Int32) [(.int (0 : Int32)), (.int (1 : Int32))] (.int (0 : Int32))) (F1 : Arv Z h0 ya2 yk4 .int (2 : Int32) [(.int (0 : Int32)), (.int (1 : Int32))] (.int (0 : Int32))) :
    MetFree l (⟨cn3, "eq2", "([I[I)Z"⟩ : MethodName) (head1 (Jvm.Cond.code (⟨cn3, "eq2", "([I[I)Z"⟩ : MethodName) method_3_code 2 (some .boolean) :: ws) ({ frames := 0, cells := 0, slots := 0, locals := 0 } : Room)) (fun a U => a = #[(.ref ya1), (.ref ya2)] ∧ Z.Warmed39 U.vm ∧ U.heap = h0) (fun _ _ _ _ _ => True) (fun _ U o U' => ∃ v L, o = .returned v ∧ Q_r27_eq2 Z ya1 ya2 yk3 yk4 h0 n0 v U'.heap L ∧ FrameEnd U o U' L ({ frames := 0, cells := 0, slots := 0, locals := 0 } : Room).cells ({ frames := 0, cells := 0, slots := 0, locals := 0 } : Room).slots) := by
  refine MetFree.of_bodySF (plainFor_of_name pn_com_example_unea_unea_analysis_SupernodesSinglePinLaw) hisR ?_
  intro p e s m args below meth c s₁ Bd hml0 hP hK
  obtain ⟨rfl, hZ, hh⟩ := hP
  have hx := Bd.exec
  have hby := Bd.bytes
  have hlk := Bd.notSynchronized
  have hml : c.maxLocals = 2 := hml0
  have hown : s.vm.findClass cn3 = some m.cls := findClass_of_methodNamed Bd.named
  have hnm := (name_of_methodNamed Bd.named Bd.method).1
  have X0 : Stand p l e ({ frames := 0, cells := 0, slots := 0, locals := 0 } : Room) s m #[(.ref ya1), (.ref ya2)] below meth c s₁ [] 0 0 := Stand.of_body Bd
  have e0 : s₁.heap = h0 := by rw [← hh, Bd.state]; rfl
  have N0 := Fr.nil n0
  have K0 := Keep.refl h0 []
  have Z0 : n0 ≤ h0.size := O0.1 ▸ O0.2.1
  have hef : entryFrame m #[(.ref ya1), (.ref ya2)] 2 = mkF m 0 #[.val (.ref ya1), .val (.ref ya2)] [] := by first | (simp [entryFrame, mkF, argsToLocals, Value.category]; done) | rfl
  rw [hef]
  refine Gets.out (Q := Q_r27_eq2 Z ya1 ya2 yk3 yk4 h0 n0) ?_
  show Gets p e below _ (s₁.setTop (mkF m 0 #[.val (.ref ya1), .val (.ref ya2)] []))
  refine Gets.of (fun t k => XS.aloadN X0.here hx rfl (hb hby d26_0) rfl rfl  k) ?_
  obtain ⟨cl1, Ar1, -, S1, N_1, -, -⟩ := id (F0)
  refine Gets.of (X0.arraylength hx (by rw [e0]; exact Ar1.1) (State.isArrayOf_alike hZ.alike Ar1.2.1) (g := (mkF m 1 #[.val (.ref ya1), .val (.ref ya2)] [(.ref ya1)])) rfl rfl (hb hby d26_1)) ?_
  rw [len_of S1 N_1]
  show Gets p e below _ (s₁.setTop (mkF m 2 #[.val (.ref ya1), .val (.ref ya2)] [(.int (2 : Int32))]))
  refine Gets.of (fun t k => XS.iconst X0.here hx rfl (hb hby d26_2) k) ?_
  refine Gets.of (fun t k => XS.icmpNo X0.here hx rfl (hb hby d26_3) rfl (teq (by decide : (2 : Int32) = (2 : Int32))).2 k) ?_
  show Gets p e below _ (s₁.setTop (mkF m 6 #[.val (.ref ya1), .val (.ref ya2)] []))
  refine Gets.of (fun t k => XS.aloadN X0.here hx rfl (hb hby d26_6) rfl rfl  k) ?_
  obtain ⟨cl2, Ar2, -, S2, N_2, -, -⟩ := id (F1)
  refine Gets.of (X0.arraylength hx (by rw [e0]; exact Ar2.1) (State.isArrayOf_alike hZ.alike Ar2.2.1) (g := (mkF m 7 #[.val (.ref ya1), .val (.ref ya2)] [(.ref ya2)])) rfl rfl (hb hby d26_7)) ?_
  rw [len_of S2 N_2]
  show Gets p e below _ (s₁.setTop (mkF m 8 #[.val (.ref ya1), .val (.ref ya2)] [(.int (2 : Int32))]))
  refine Gets.of (fun t k => XS.iconst X0.here hx rfl (hb hby d26_8) k) ?_
  refine Gets.of (fun t k => XS.icmpNo X0.here hx rfl (hb hby d26_9) rfl (teq (by decide : (2 : Int32) = (2 : Int32))).2 k) ?_
  show Gets p e below _ (s₁.setTop (mkF m 12 #[.val (.ref ya1), .val (.ref ya2)] []))
  refine Gets.of (fun t k => XS.aloadN X0.here hx rfl (hb hby d26_12) rfl rfl  k) ?_
  refine Gets.of (fun t k => XS.iconst X0.here hx rfl (hb hby d26_13) k) ?_
  obtain ⟨cl3, Ar3, q3, S3, N_3, H3, G3⟩ := id (F0)
  have hin3 : ¬ ((0 : Int32) < 0 ∨ cl3.slots.size ≤ ((0 : Int32)).toNatClampNeg) := inb_of S3 ⟨by decide, by decide⟩
  refine Gets.of (fun t k => X0.iaload hx (j := (0 : Int32)) (v := (.int (0 : Int32))) (by rw [e0]; exact Ar3.1) (State.isArrayOf_alike hZ.alike Ar3.2.1) Ar3.2.2 hin3 (Has.at H3 hin3 rfl) (g := (mkF m 14 #[.val (.ref ya1), .val (.ref ya2)] [(.int (0 : Int32)), (.ref ya1)])) rfl rfl (hb hby d26_14) t k) ?_
  show Gets p e below _ (s₁.setTop (mkF m 15 #[.val (.ref ya1), .val (.ref ya2)] [(.int (0 : Int32))]))
  refine Gets.of (fun t k => XS.aloadN X0.here hx rfl (hb hby d26_15) rfl rfl  k) ?_
  refine Gets.of (fun t k => XS.iconst X0.here hx rfl (hb hby d26_16) k) ?_
  obtain ⟨cl4, Ar4, q4, S4, N_4, H4, G4⟩ := id (F1)
  have hin4 : ¬ ((0 : Int32) < 0 ∨ cl4.slots.size ≤ ((0 : Int32)).toNatClampNeg) := inb_of S4 ⟨by decide, by decide⟩
  refine Gets.of (fun t k => X0.iaload hx (j := (0 : Int32)) (v := (.int (0 : Int32))) (by rw [e0]; exact Ar4.1) (State.isArrayOf_alike hZ.alike Ar4.2.1) Ar4.2.2 hin4 (Has.at H4 hin4 rfl) (g := (mkF m 17 #[.val (.ref ya1), .val (.ref ya2)] [(.int (0 : Int32)), (.ref ya2), (.int (0 : Int32))])) rfl rfl (hb hby d26_17) t k) ?_
  show Gets p e below _ (s₁.setTop (mkF m 18 #[.val (.ref ya1), .val (.ref ya2)] [(.int (0 : Int32)), (.int (0 : Int32))]))
  refine Gets.of (fun t k => XS.icmpNo X0.here hx rfl (hb hby d26_18) rfl (teq (by decide : (0 : Int32) = (0 : Int32))).2 k) ?_
  show Gets p e below _ (s₁.setTop (mkF m 21 #[.val (.ref ya1), .val (.ref ya2)] []))
  refine Gets.of (fun t k => XS.aloadN X0.here hx rfl (hb hby d26_21) rfl rfl  k) ?_
  refine Gets.of (fun t k => XS.iconst X0.here hx rfl (hb hby d26_22) k) ?_
  obtain ⟨cl5, Ar5, q5, S5, N_5, H5, G5⟩ := id (F0)
  have hin5 : ¬ ((1 : Int32) < 0 ∨ cl5.slots.size ≤ ((1 : Int32)).toNatClampNeg) := inb_of S5 ⟨by decide, by decide⟩
  refine Gets.of (fun t k => X0.iaload hx (j := (1 : Int32)) (v := (.int (1 : Int32))) (by rw [e0]; exact Ar5.1) (State.isArrayOf_alike hZ.alike Ar5.2.1) Ar5.2.2 hin5 (Has.at H5 hin5 rfl) (g := (mkF m 23 #[.val (.ref ya1), .val (.ref ya2)] [(.int (1 : Int32)), (.ref ya1)])) rfl rfl (hb hby d26_23) t k) ?_
  show Gets p e below _ (s₁.setTop (mkF m 24 #[.val (.ref ya1), .val (.ref ya2)] [(.int (1 : Int32))]))
  refine Gets.of (fun t k => XS.aloadN X0.here hx rfl (hb hby d26_24) rfl rfl  k) ?_
  refine Gets.of (fun t k => XS.iconst X0.here hx rfl (hb hby d26_25) k) ?_
  obtain ⟨cl6, Ar6, q6, S6, N_6, H6, G6⟩ := id (F1)
  have hin6 : ¬ ((1 : Int32) < 0 ∨ cl6.slots.size ≤ ((1 : Int32)).toNatClampNeg) := inb_of S6 ⟨by decide, by decide⟩
  refine Gets.of (fun t k => X0.iaload hx (j := (1 : Int32)) (v := (.int (1 : Int32))) (by rw [e0]; exact Ar6.1) (State.isArrayOf_alike hZ.alike Ar6.2.1) Ar6.2.2 hin6 (Has.at H6 hin6 rfl) (g := (mkF m 26 #[.val (.ref ya1), .val (.ref ya2)] [(.int (1 : Int32)), (.ref ya2), (.int (1 : Int32))])) rfl rfl (hb hby d26_26) t k) ?_
  show Gets p e below _ (s₁.setTop (mkF m 27 #[.val (.ref ya1), .val (.ref ya2)] [(.int (1 : Int32)), (.int (1 : Int32))]))
  refine Gets.of (fun t k => XS.icmpNo X0.here hx rfl (hb hby d26_27) rfl (teq (by decide : (1 : Int32) = (1 : Int32))).2 k) ?_
  show Gets p e below _ (s₁.setTop (mkF m 30 #[.val (.ref ya1), .val (.ref ya2)] []))
  refine Gets.of (fun t k => XS.iconst X0.here hx rfl (hb hby d26_30) k) ?_
  refine Gets.of (fun t k => XS.goto X0.here hx rfl (pc0 := 31) (pc' := 35) rfl (hb hby d26_31) (by decide) (by decide) k) ?_
  show Gets p e below _ (s₁.setTop (mkF m 35 #[.val (.ref ya1), .val (.ref ya2)] [(.int (1 : Int32))]))
  refine Gets.retN X0 hx (t := .boolean) Bd.returns (by simp) (hb hby d26_35) ?_ (by decide) (by decide)
  rw [e0]
  exact ⟨N0, rfl, rfl⟩
theorem w129 {Z : State} {a0 : Array Value} (hw : ∀ d ∈ tables_1, d.before a0 Z = true) : (Jvm.Cond.code ({ cls := cn3, name := "eq2", desc := "([I[I)Z" } : Jvm.MethodName) method_3_code (2 : Nat) (Option.some Jvm.ClassFile.FieldType.boolean)).before a0 Z = true := hw _ (List.mem_of_getElem? (i := 129) rfl)
theorem w128 {Z : State} {a0 : Array Value} (hw : ∀ d ∈ tables_1, d.before a0 Z = true) : (Jvm.Cond.static ({ cls := cn3, name := "eq2", desc := "([I[I)Z" } : Jvm.MethodName)).before a0 Z = true := hw _ (List.mem_of_getElem? (i := 128) rfl)
theorem w130 {Z : State} {a0 : Array Value} (hw : ∀ d ∈ tables_1, d.before a0 Z = true) : (Jvm.Cond.fieldLink cn3 (45 : Nat) cn0 "frontStart" "[I").before a0 Z = true := hw _ (List.mem_of_getElem? (i := 130) rfl)
theorem w131 {Z : State} {a0 : Array Value} (hw : ∀ d ∈ tables_1, d.before a0 Z = true) : (Jvm.Cond.fieldLink cn3 (48 : Nat) cn0 "front" "[I").before a0 Z = true := hw _ (List.mem_of_getElem? (i := 131) rfl)
theorem w132 {Z : State} {a0 : Array Value} (hw : ∀ d ∈ tables_1, d.before a0 Z = true) : (Jvm.Cond.fieldLink cn3 (51 : Nat) cn0 "parent" "[I").before a0 Z = true := hw _ (List.mem_of_getElem? (i := 132) rfl)
def Q_r28_eq1 (Z : State) (ya1 : Addr) (ya2 : Addr) (yk3 : ClassId) (yk4 : ClassId) (h0 : Heap) (n0 : Nat) (v : Option Value) (h : Heap) (L : List Loc) : Prop := Fr n0 L ∧ h = h0 ∧ ((v = some (.int (1 : Int32))))
set_option maxRecDepth 65536 in
set_option maxHeartbeats 40000000 in
theorem r28_eq1 (l : Launch) (Z : State) (a0 : Array Value) (hw : ∀ d ∈ tables_1, d.before a0 Z = true) (ws : List Jvm.Cond) (ya1 : Addr) (ya2 : Addr) (yk3 : ClassId) (yk4 : ClassId) (h0 : Heap) (n0 : Nat) (O0 : Old Z n0 h0) (F0 : Arv Z h0 ya1 yk3 .int (1 : Int32) [(.int (-1 : Int32))] (.int (0 : Int32))) (F1 : Arv Z h0 ya2 yk4 .int (1 : Int32) [(.int (-1 : Int32))] (.int (0 : Int32))) :
    MetFree l (⟨cn3, "eq1", "([I[I)Z"⟩ : MethodName) (head1 (Jvm.Cond.code (⟨cn3, "eq1", "([I[I)Z"⟩ : MethodName) method_2_code 2 (some .boolean) :: ws) ({ frames := 0, cells := 0, slots := 0, locals := 0 } : Room)) (fun a U => a = #[(.ref ya1), (.ref ya2)] ∧ Z.Warmed39 U.vm ∧ U.heap = h0) (fun _ _ _ _ _ => True) (fun _ U o U' => ∃ v L, o = .returned v ∧ Q_r28_eq1 Z ya1 ya2 yk3 yk4 h0 n0 v U'.heap L ∧ FrameEnd U o U' L ({ frames := 0, cells := 0, slots := 0, locals := 0 } : Room).cells ({ frames := 0, cells := 0, slots := 0, locals := 0 } : Room).slots) := by
  refine MetFree.of_bodySF (plainFor_of_name pn_com_example_unea_unea_analysis_SupernodesSinglePinLaw) hisR ?_
  intro p e s m args below meth c s₁ Bd hml0 hP hK
  obtain ⟨rfl, hZ, hh⟩ := hP
  have hx := Bd.exec
  have hby := Bd.bytes
  have hlk := Bd.notSynchronized
  have hml : c.maxLocals = 2 := hml0
  have hown : s.vm.findClass cn3 = some m.cls := findClass_of_methodNamed Bd.named
  have hnm := (name_of_methodNamed Bd.named Bd.method).1
  have X0 : Stand p l e ({ frames := 0, cells := 0, slots := 0, locals := 0 } : Room) s m #[(.ref ya1), (.ref ya2)] below meth c s₁ [] 0 0 := Stand.of_body Bd
  have e0 : s₁.heap = h0 := by rw [← hh, Bd.state]; rfl
  have N0 := Fr.nil n0
  have K0 := Keep.refl h0 []
  have Z0 : n0 ≤ h0.size := O0.1 ▸ O0.2.1
  have hef : entryFrame m #[(.ref ya1), (.ref ya2)] 2 = mkF m 0 #[.val (.ref ya1), .val (.ref ya2)] [] := by first | (simp [entryFrame, mkF, argsToLocals, Value.category]; done) | rfl
  rw [hef]
  refine Gets.out (Q := Q_r28_eq1 Z ya1 ya2 yk3 yk4 h0 n0) ?_
  show Gets p e below _ (s₁.setTop (mkF m 0 #[.val (.ref ya1), .val (.ref ya2)] []))
  refine Gets.of (fun t k => XS.aloadN X0.here hx rfl (hb hby d25_0) rfl rfl  k) ?_
  obtain ⟨cl1, Ar1, -, S1, N_1, -, -⟩ := id (F0)
  refine Gets.of (X0.arraylength hx (by rw [e0]; exact Ar1.1) (State.isArrayOf_alike hZ.alike Ar1.2.1) (g := (mkF m 1 #[.val (.ref ya1), .val (.ref ya2)] [(.ref ya1)])) rfl rfl (hb hby d25_1)) ?_
  rw [len_of S1 N_1]
  show Gets p e below _ (s₁.setTop (mkF m 2 #[.val (.ref ya1), .val (.ref ya2)] [(.int (1 : Int32))]))
  refine Gets.of (fun t k => XS.iconst X0.here hx rfl (hb hby d25_2) k) ?_
  refine Gets.of (fun t k => XS.icmpNo X0.here hx rfl (hb hby d25_3) rfl (teq (by decide : (1 : Int32) = (1 : Int32))).2 k) ?_
  show Gets p e below _ (s₁.setTop (mkF m 6 #[.val (.ref ya1), .val (.ref ya2)] []))
  refine Gets.of (fun t k => XS.aloadN X0.here hx rfl (hb hby d25_6) rfl rfl  k) ?_
  obtain ⟨cl2, Ar2, -, S2, N_2, -, -⟩ := id (F1)
  refine Gets.of (X0.arraylength hx (by rw [e0]; exact Ar2.1) (State.isArrayOf_alike hZ.alike Ar2.2.1) (g := (mkF m 7 #[.val (.ref ya1), .val (.ref ya2)] [(.ref ya2)])) rfl rfl (hb hby d25_7)) ?_
  rw [len_of S2 N_2]
  show Gets p e below _ (s₁.setTop (mkF m 8 #[.val (.ref ya1), .val (.ref ya2)] [(.int (1 : Int32))]))
  refine Gets.of (fun t k => XS.iconst X0.here hx rfl (hb hby d25_8) k) ?_
  refine Gets.of (fun t k => XS.icmpNo X0.here hx rfl (hb hby d25_9) rfl (teq (by decide : (1 : Int32) = (1 : Int32))).2 k) ?_
  show Gets p e below _ (s₁.setTop (mkF m 12 #[.val (.ref ya1), .val (.ref ya2)] []))
  refine Gets.of (fun t k => XS.aloadN X0.here hx rfl (hb hby d25_12) rfl rfl  k) ?_
  refine Gets.of (fun t k => XS.iconst X0.here hx rfl (hb hby d25_13) k) ?_
  obtain ⟨cl3, Ar3, q3, S3, N_3, H3, G3⟩ := id (F0)
  have hin3 : ¬ ((0 : Int32) < 0 ∨ cl3.slots.size ≤ ((0 : Int32)).toNatClampNeg) := inb_of S3 ⟨by decide, by decide⟩
  refine Gets.of (fun t k => X0.iaload hx (j := (0 : Int32)) (v := (.int (-1 : Int32))) (by rw [e0]; exact Ar3.1) (State.isArrayOf_alike hZ.alike Ar3.2.1) Ar3.2.2 hin3 (Has.at H3 hin3 rfl) (g := (mkF m 14 #[.val (.ref ya1), .val (.ref ya2)] [(.int (0 : Int32)), (.ref ya1)])) rfl rfl (hb hby d25_14) t k) ?_
  show Gets p e below _ (s₁.setTop (mkF m 15 #[.val (.ref ya1), .val (.ref ya2)] [(.int (-1 : Int32))]))
  refine Gets.of (fun t k => XS.aloadN X0.here hx rfl (hb hby d25_15) rfl rfl  k) ?_
  refine Gets.of (fun t k => XS.iconst X0.here hx rfl (hb hby d25_16) k) ?_
  obtain ⟨cl4, Ar4, q4, S4, N_4, H4, G4⟩ := id (F1)
  have hin4 : ¬ ((0 : Int32) < 0 ∨ cl4.slots.size ≤ ((0 : Int32)).toNatClampNeg) := inb_of S4 ⟨by decide, by decide⟩
  refine Gets.of (fun t k => X0.iaload hx (j := (0 : Int32)) (v := (.int (-1 : Int32))) (by rw [e0]; exact Ar4.1) (State.isArrayOf_alike hZ.alike Ar4.2.1) Ar4.2.2 hin4 (Has.at H4 hin4 rfl) (g := (mkF m 17 #[.val (.ref ya1), .val (.ref ya2)] [(.int (0 : Int32)), (.ref ya2), (.int (-1 : Int32))])) rfl rfl (hb hby d25_17) t k) ?_
  show Gets p e below _ (s₁.setTop (mkF m 18 #[.val (.ref ya1), .val (.ref ya2)] [(.int (-1 : Int32)), (.int (-1 : Int32))]))
  refine Gets.of (fun t k => XS.icmpNo X0.here hx rfl (hb hby d25_18) rfl (teq (by decide : (-1 : Int32) = (-1 : Int32))).2 k) ?_
  show Gets p e below _ (s₁.setTop (mkF m 21 #[.val (.ref ya1), .val (.ref ya2)] []))
  refine Gets.of (fun t k => XS.iconst X0.here hx rfl (hb hby d25_21) k) ?_
  refine Gets.of (fun t k => XS.goto X0.here hx rfl (pc0 := 22) (pc' := 26) rfl (hb hby d25_22) (by decide) (by decide) k) ?_
  show Gets p e below _ (s₁.setTop (mkF m 26 #[.val (.ref ya1), .val (.ref ya2)] [(.int (1 : Int32))]))
  refine Gets.retN X0 hx (t := .boolean) Bd.returns (by simp) (hb hby d25_26) ?_ (by decide) (by decide)
  rw [e0]
  exact ⟨N0, rfl, rfl⟩
theorem w133 {Z : State} {a0 : Array Value} (hw : ∀ d ∈ tables_1, d.before a0 Z = true) : (Jvm.Cond.methodLink cn3 (54 : Nat) ({ cls := cn0, name := "width", desc := "(I)I" } : Jvm.MethodName)).before a0 Z = true := hw _ (List.mem_of_getElem? (i := 133) rfl)
theorem d27_0 : decode prog_15_method_4_code 0 = .ok (.aload_n 0, 1) := by decide +kernel
theorem d27_1 : decode prog_15_method_4_code 1 = .ok (.getfield 20, 3) := by decide +kernel
theorem d27_4 : decode prog_15_method_4_code 4 = .ok (.iload_n 1, 1) := by decide +kernel
theorem d27_5 : decode prog_15_method_4_code 5 = .ok (.iconst 1, 1) := by decide +kernel
theorem d27_6 : decode prog_15_method_4_code 6 = .ok (.iadd, 1) := by decide +kernel
theorem d27_7 : decode prog_15_method_4_code 7 = .ok (.iaload, 1) := by decide +kernel
theorem d27_8 : decode prog_15_method_4_code 8 = .ok (.aload_n 0, 1) := by decide +kernel
theorem d27_9 : decode prog_15_method_4_code 9 = .ok (.getfield 20, 3) := by decide +kernel
theorem d27_12 : decode prog_15_method_4_code 12 = .ok (.iload_n 1, 1) := by decide +kernel
theorem d27_13 : decode prog_15_method_4_code 13 = .ok (.iaload, 1) := by decide +kernel
theorem d27_14 : decode prog_15_method_4_code 14 = .ok (.isub, 1) := by decide +kernel
theorem d27_15 : decode prog_15_method_4_code 15 = .ok (.ireturn, 1) := by decide +kernel
def Q_r29_width (Z : State) (ya1 : Addr) (ya4 : Addr) (yk10 : ClassId) (h0 : Heap) (n0 : Nat) (v : Option Value) (h : Heap) (L : List Loc) : Prop := Fr n0 L ∧ h = h0 ∧ ((v = some (.int (1 : Int32))))
set_option maxRecDepth 65536 in
set_option maxHeartbeats 40000000 in
theorem r29_width (l : Launch) (Z : State) (a0 : Array Value) (hw : ∀ d ∈ tables_1, d.before a0 Z = true) (ws : List Jvm.Cond) (ya1 : Addr) (ya4 : Addr) (yk10 : ClassId) (h0 : Heap) (n0 : Nat) (O0 : Old Z n0 h0) (F0 : Fld Z h0 ya1 cn0 "first" "[I" (.ref ya4)) (F1 : Arv Z h0 ya4 yk10 .int (2 : Int32) [(.int (0 : Int32)), (.int (1 : Int32))] (.int (0 : Int32))) :
    MetFree l (⟨cn0, "width", "(I)I"⟩ : MethodName) (head1 (Jvm.Cond.code (⟨cn0, "width", "(I)I"⟩ : MethodName) prog_15_method_4_code 2 (some .int) :: ws) ({ frames := 0, cells := 0, slots := 0, locals := 0 } : Room)) (fun a U => a = #[(.ref ya1), (.int (0 : Int32))] ∧ Z.Warmed39 U.vm ∧ U.heap = h0) (fun _ _ _ _ _ => True) (fun _ U o U' => ∃ v L, o = .returned v ∧ Q_r29_width Z ya1 ya4 yk10 h0 n0 v U'.heap L ∧ FrameEnd U o U' L ({ frames := 0, cells := 0, slots := 0, locals := 0 } : Room).cells ({ frames := 0, cells := 0, slots := 0, locals := 0 } : Room).slots) := by
  refine MetFree.of_bodySF (plainFor_of_name pn_com_example_unea_unea_analysis_Supernodes) hisR ?_
  intro p e s m args below meth c s₁ Bd hml0 hP hK
  obtain ⟨rfl, hZ, hh⟩ := hP
  have hx := Bd.exec
  have hby := Bd.bytes
  have hlk := Bd.notSynchronized
  have hml : c.maxLocals = 2 := hml0
  have hown : s.vm.findClass cn0 = some m.cls := findClass_of_methodNamed Bd.named
  have hnm := (name_of_methodNamed Bd.named Bd.method).1
  have X0 : Stand p l e ({ frames := 0, cells := 0, slots := 0, locals := 0 } : Room) s m #[(.ref ya1), (.int (0 : Int32))] below meth c s₁ [] 0 0 := Stand.of_body Bd
  have e0 : s₁.heap = h0 := by rw [← hh, Bd.state]; rfl
  have N0 := Fr.nil n0
  have K0 := Keep.refl h0 []
  have Z0 : n0 ≤ h0.size := O0.1 ▸ O0.2.1
  have hef : entryFrame m #[(.ref ya1), (.int (0 : Int32))] 2 = mkF m 0 #[.val (.ref ya1), .val (.int (0 : Int32))] [] := by first | (simp [entryFrame, mkF, argsToLocals, Value.category]; done) | rfl
  rw [hef]
  refine Gets.out (Q := Q_r29_width Z ya1 ya4 yk10 h0 n0) ?_
  show Gets p e below _ (s₁.setTop (mkF m 0 #[.val (.ref ya1), .val (.int (0 : Int32))] []))
  refine Gets.of (fun t k => XS.aloadN X0.here hx rfl (hb hby d27_0) rfl rfl  k) ?_
  obtain ⟨T1, X1, e1, st1⟩ := getF X0 hx hZ hown (host := "") (Or.inl (w108 hw)) Via.refl e0 F0 (g := (mkF m 1 #[.val (.ref ya1), .val (.int (0 : Int32))] [(.ref ya1)])) rfl rfl (hb hby d27_1)
  refine Gets.of st1 ?_
  show Gets p e below _ (T1.setTop (mkF m 4 #[.val (.ref ya1), .val (.int (0 : Int32))] [(.ref ya4)]))
  refine Gets.of (fun t k => XS.iloadN X1.here hx rfl (hb hby d27_4) rfl  k) ?_
  refine Gets.of (fun t k => XS.iconst X1.here hx rfl (hb hby d27_5) k) ?_
  refine Gets.of (fun t k => XS.iadd X1.here hx rfl (hb hby d27_6) rfl k) ?_
  show Gets p e below _ (T1.setTop (mkF m 7 #[.val (.ref ya1), .val (.int (0 : Int32))] [(.int (1 : Int32)), (.ref ya4)]))
  obtain ⟨cl2, Ar2, q2, S2, N_2, H2, G2⟩ := id (F1)
  have hin2 : ¬ ((1 : Int32) < 0 ∨ cl2.slots.size ≤ ((1 : Int32)).toNatClampNeg) := inb_of S2 ⟨by decide, by decide⟩
  refine Gets.of (fun t k => X1.iaload hx (j := (1 : Int32)) (v := (.int (1 : Int32))) (by rw [e1]; exact Ar2.1) (State.isArrayOf_alike hZ.alike Ar2.2.1) Ar2.2.2 hin2 (Has.at H2 hin2 rfl) (g := (mkF m 7 #[.val (.ref ya1), .val (.int (0 : Int32))] [(.int (1 : Int32)), (.ref ya4)])) rfl rfl (hb hby d27_7) t k) ?_
  show Gets p e below _ (T1.setTop (mkF m 8 #[.val (.ref ya1), .val (.int (0 : Int32))] [(.int (1 : Int32))]))
  refine Gets.of (fun t k => XS.aloadN X1.here hx rfl (hb hby d27_8) rfl rfl  k) ?_
  obtain ⟨T3, X3, e3, st3⟩ := getF X1 hx hZ hown (host := "") (Or.inl (w108 hw)) Via.refl e1 F0 (g := (mkF m 9 #[.val (.ref ya1), .val (.int (0 : Int32))] [(.ref ya1), (.int (1 : Int32))])) rfl rfl (hb hby d27_9)
  refine Gets.of st3 ?_
  show Gets p e below _ (T3.setTop (mkF m 12 #[.val (.ref ya1), .val (.int (0 : Int32))] [(.ref ya4), (.int (1 : Int32))]))
  refine Gets.of (fun t k => XS.iloadN X3.here hx rfl (hb hby d27_12) rfl  k) ?_
  obtain ⟨cl4, Ar4, q4, S4, N_4, H4, G4⟩ := id (F1)
  have hin4 : ¬ ((0 : Int32) < 0 ∨ cl4.slots.size ≤ ((0 : Int32)).toNatClampNeg) := inb_of S4 ⟨by decide, by decide⟩
  refine Gets.of (fun t k => X3.iaload hx (j := (0 : Int32)) (v := (.int (0 : Int32))) (by rw [e3]; exact Ar4.1) (State.isArrayOf_alike hZ.alike Ar4.2.1) Ar4.2.2 hin4 (Has.at H4 hin4 rfl) (g := (mkF m 13 #[.val (.ref ya1), .val (.int (0 : Int32))] [(.int (0 : Int32)), (.ref ya4), (.int (1 : Int32))])) rfl rfl (hb hby d27_13) t k) ?_
  show Gets p e below _ (T3.setTop (mkF m 14 #[.val (.ref ya1), .val (.int (0 : Int32))] [(.int (0 : Int32)), (.int (1 : Int32))]))
  refine Gets.of (fun t k => XS.isub X3.here hx rfl (hb hby d27_14) rfl k) ?_
  show Gets p e below _ (T3.setTop (mkF m 15 #[.val (.ref ya1), .val (.int (0 : Int32))] [(.int (1 : Int32))]))
  refine Gets.retI X3 hx Bd.returns (hb hby d27_15) ?_ (by decide) (by decide)
  rw [e3]
  exact ⟨N0, rfl, rfl⟩
theorem w137 {Z : State} {a0 : Array Value} (hw : ∀ d ∈ tables_1, d.before a0 Z = true) : (Jvm.Cond.code ({ cls := cn0, name := "width", desc := "(I)I" } : Jvm.MethodName) prog_15_method_4_code (2 : Nat) (Option.some Jvm.ClassFile.FieldType.int)).before a0 Z = true := hw _ (List.mem_of_getElem? (i := 137) rfl)
theorem w136 {Z : State} {a0 : Array Value} (hw : ∀ d ∈ tables_1, d.before a0 Z = true) : (Jvm.Cond.selects cn0 ({ cls := cn0, name := "width", desc := "(I)I" } : Jvm.MethodName) ({ cls := cn0, name := "width", desc := "(I)I" } : Jvm.MethodName)).before a0 Z = true := hw _ (List.mem_of_getElem? (i := 136) rfl)
theorem w134 {Z : State} {a0 : Array Value} (hw : ∀ d ∈ tables_1, d.before a0 Z = true) : (Jvm.Cond.declares ({ cls := cn0, name := "width", desc := "(I)I" } : Jvm.MethodName)).before a0 Z = true := hw _ (List.mem_of_getElem? (i := 134) rfl)
theorem w135 {Z : State} {a0 : Array Value} (hw : ∀ d ∈ tables_1, d.before a0 Z = true) : (Jvm.Cond.instanceMethod ({ cls := cn0, name := "width", desc := "(I)I" } : Jvm.MethodName)).before a0 Z = true := hw _ (List.mem_of_getElem? (i := 135) rfl)
theorem w138 {Z : State} {a0 : Array Value} (hw : ∀ d ∈ tables_1, d.before a0 Z = true) : (Jvm.Cond.methodLink cn3 (58 : Nat) ({ cls := cn0, name := "frontSize", desc := "(I)I" } : Jvm.MethodName)).before a0 Z = true := hw _ (List.mem_of_getElem? (i := 138) rfl)
theorem d28_0 : decode prog_15_method_5_code 0 = .ok (.aload_n 0, 1) := by decide +kernel
theorem d28_1 : decode prog_15_method_5_code 1 = .ok (.getfield 23, 3) := by decide +kernel
theorem d28_4 : decode prog_15_method_5_code 4 = .ok (.iload_n 1, 1) := by decide +kernel
theorem d28_5 : decode prog_15_method_5_code 5 = .ok (.iconst 1, 1) := by decide +kernel
theorem d28_6 : decode prog_15_method_5_code 6 = .ok (.iadd, 1) := by decide +kernel
theorem d28_7 : decode prog_15_method_5_code 7 = .ok (.iaload, 1) := by decide +kernel
theorem d28_8 : decode prog_15_method_5_code 8 = .ok (.aload_n 0, 1) := by decide +kernel
theorem d28_9 : decode prog_15_method_5_code 9 = .ok (.getfield 23, 3) := by decide +kernel
theorem d28_12 : decode prog_15_method_5_code 12 = .ok (.iload_n 1, 1) := by decide +kernel
theorem d28_13 : decode prog_15_method_5_code 13 = .ok (.iaload, 1) := by decide +kernel
theorem d28_14 : decode prog_15_method_5_code 14 = .ok (.isub, 1) := by decide +kernel
theorem d28_15 : decode prog_15_method_5_code 15 = .ok (.ireturn, 1) := by decide +kernel
def Q_r30_frontSize (Z : State) (ya1 : Addr) (ya5 : Addr) (yk11 : ClassId) (h0 : Heap) (n0 : Nat) (v : Option Value) (h : Heap) (L : List Loc) : Prop := Fr n0 L ∧ h = h0 ∧ ((v = some (.int (1 : Int32))))
set_option maxRecDepth 65536 in
set_option maxHeartbeats 40000000 in
theorem r30_frontSize (l : Launch) (Z : State) (a0 : Array Value) (hw : ∀ d ∈ tables_1, d.before a0 Z = true) (ws : List Jvm.Cond) (ya1 : Addr) (ya5 : Addr) (yk11 : ClassId) (h0 : Heap) (n0 : Nat) (O0 : Old Z n0 h0) (F0 : Fld Z h0 ya1 cn0 "frontStart" "[I" (.ref ya5)) (F1 : Arv Z h0 ya5 yk11 .int (2 : Int32) [(.int (0 : Int32)), (.int (1 : Int32))] (.int (0 : Int32))) :
    MetFree l (⟨cn0, "frontSize", "(I)I"⟩ : MethodName) (head1 (Jvm.Cond.code (⟨cn0, "frontSize", "(I)I"⟩ : MethodName) prog_15_method_5_code 2 (some .int) :: ws) ({ frames := 0, cells := 0, slots := 0, locals := 0 } : Room)) (fun a U => a = #[(.ref ya1), (.int (0 : Int32))] ∧ Z.Warmed39 U.vm ∧ U.heap = h0) (fun _ _ _ _ _ => True) (fun _ U o U' => ∃ v L, o = .returned v ∧ Q_r30_frontSize Z ya1 ya5 yk11 h0 n0 v U'.heap L ∧ FrameEnd U o U' L ({ frames := 0, cells := 0, slots := 0, locals := 0 } : Room).cells ({ frames := 0, cells := 0, slots := 0, locals := 0 } : Room).slots) := by
  refine MetFree.of_bodySF (plainFor_of_name pn_com_example_unea_unea_analysis_Supernodes) hisR ?_
  intro p e s m args below meth c s₁ Bd hml0 hP hK
  obtain ⟨rfl, hZ, hh⟩ := hP
  have hx := Bd.exec
  have hby := Bd.bytes
  have hlk := Bd.notSynchronized
  have hml : c.maxLocals = 2 := hml0
  have hown : s.vm.findClass cn0 = some m.cls := findClass_of_methodNamed Bd.named
  have hnm := (name_of_methodNamed Bd.named Bd.method).1
  have X0 : Stand p l e ({ frames := 0, cells := 0, slots := 0, locals := 0 } : Room) s m #[(.ref ya1), (.int (0 : Int32))] below meth c s₁ [] 0 0 := Stand.of_body Bd
  have e0 : s₁.heap = h0 := by rw [← hh, Bd.state]; rfl
  have N0 := Fr.nil n0
  have K0 := Keep.refl h0 []
  have Z0 : n0 ≤ h0.size := O0.1 ▸ O0.2.1
  have hef : entryFrame m #[(.ref ya1), (.int (0 : Int32))] 2 = mkF m 0 #[.val (.ref ya1), .val (.int (0 : Int32))] [] := by first | (simp [entryFrame, mkF, argsToLocals, Value.category]; done) | rfl
  rw [hef]
  refine Gets.out (Q := Q_r30_frontSize Z ya1 ya5 yk11 h0 n0) ?_
  show Gets p e below _ (s₁.setTop (mkF m 0 #[.val (.ref ya1), .val (.int (0 : Int32))] []))
  refine Gets.of (fun t k => XS.aloadN X0.here hx rfl (hb hby d28_0) rfl rfl  k) ?_
  obtain ⟨T1, X1, e1, st1⟩ := getF X0 hx hZ hown (host := "") (Or.inl (w110 hw)) Via.refl e0 F0 (g := (mkF m 1 #[.val (.ref ya1), .val (.int (0 : Int32))] [(.ref ya1)])) rfl rfl (hb hby d28_1)
  refine Gets.of st1 ?_
  show Gets p e below _ (T1.setTop (mkF m 4 #[.val (.ref ya1), .val (.int (0 : Int32))] [(.ref ya5)]))
  refine Gets.of (fun t k => XS.iloadN X1.here hx rfl (hb hby d28_4) rfl  k) ?_
  refine Gets.of (fun t k => XS.iconst X1.here hx rfl (hb hby d28_5) k) ?_
  refine Gets.of (fun t k => XS.iadd X1.here hx rfl (hb hby d28_6) rfl k) ?_
  show Gets p e below _ (T1.setTop (mkF m 7 #[.val (.ref ya1), .val (.int (0 : Int32))] [(.int (1 : Int32)), (.ref ya5)]))
  obtain ⟨cl2, Ar2, q2, S2, N_2, H2, G2⟩ := id (F1)
  have hin2 : ¬ ((1 : Int32) < 0 ∨ cl2.slots.size ≤ ((1 : Int32)).toNatClampNeg) := inb_of S2 ⟨by decide, by decide⟩
  refine Gets.of (fun t k => X1.iaload hx (j := (1 : Int32)) (v := (.int (1 : Int32))) (by rw [e1]; exact Ar2.1) (State.isArrayOf_alike hZ.alike Ar2.2.1) Ar2.2.2 hin2 (Has.at H2 hin2 rfl) (g := (mkF m 7 #[.val (.ref ya1), .val (.int (0 : Int32))] [(.int (1 : Int32)), (.ref ya5)])) rfl rfl (hb hby d28_7) t k) ?_
  show Gets p e below _ (T1.setTop (mkF m 8 #[.val (.ref ya1), .val (.int (0 : Int32))] [(.int (1 : Int32))]))
  refine Gets.of (fun t k => XS.aloadN X1.here hx rfl (hb hby d28_8) rfl rfl  k) ?_
  obtain ⟨T3, X3, e3, st3⟩ := getF X1 hx hZ hown (host := "") (Or.inl (w110 hw)) Via.refl e1 F0 (g := (mkF m 9 #[.val (.ref ya1), .val (.int (0 : Int32))] [(.ref ya1), (.int (1 : Int32))])) rfl rfl (hb hby d28_9)
  refine Gets.of st3 ?_
  show Gets p e below _ (T3.setTop (mkF m 12 #[.val (.ref ya1), .val (.int (0 : Int32))] [(.ref ya5), (.int (1 : Int32))]))
  refine Gets.of (fun t k => XS.iloadN X3.here hx rfl (hb hby d28_12) rfl  k) ?_
  obtain ⟨cl4, Ar4, q4, S4, N_4, H4, G4⟩ := id (F1)
  have hin4 : ¬ ((0 : Int32) < 0 ∨ cl4.slots.size ≤ ((0 : Int32)).toNatClampNeg) := inb_of S4 ⟨by decide, by decide⟩
  refine Gets.of (fun t k => X3.iaload hx (j := (0 : Int32)) (v := (.int (0 : Int32))) (by rw [e3]; exact Ar4.1) (State.isArrayOf_alike hZ.alike Ar4.2.1) Ar4.2.2 hin4 (Has.at H4 hin4 rfl) (g := (mkF m 13 #[.val (.ref ya1), .val (.int (0 : Int32))] [(.int (0 : Int32)), (.ref ya5), (.int (1 : Int32))])) rfl rfl (hb hby d28_13) t k) ?_
  show Gets p e below _ (T3.setTop (mkF m 14 #[.val (.ref ya1), .val (.int (0 : Int32))] [(.int (0 : Int32)), (.int (1 : Int32))]))
  refine Gets.of (fun t k => XS.isub X3.here hx rfl (hb hby d28_14) rfl k) ?_
  show Gets p e below _ (T3.setTop (mkF m 15 #[.val (.ref ya1), .val (.int (0 : Int32))] [(.int (1 : Int32))]))
  refine Gets.retI X3 hx Bd.returns (hb hby d28_15) ?_ (by decide) (by decide)
  rw [e3]
  exact ⟨N0, rfl, rfl⟩
theorem w142 {Z : State} {a0 : Array Value} (hw : ∀ d ∈ tables_1, d.before a0 Z = true) : (Jvm.Cond.code ({ cls := cn0, name := "frontSize", desc := "(I)I" } : Jvm.MethodName) prog_15_method_5_code (2 : Nat) (Option.some Jvm.ClassFile.FieldType.int)).before a0 Z = true := hw _ (List.mem_of_getElem? (i := 142) rfl)
theorem w141 {Z : State} {a0 : Array Value} (hw : ∀ d ∈ tables_1, d.before a0 Z = true) : (Jvm.Cond.selects cn0 ({ cls := cn0, name := "frontSize", desc := "(I)I" } : Jvm.MethodName) ({ cls := cn0, name := "frontSize", desc := "(I)I" } : Jvm.MethodName)).before a0 Z = true := hw _ (List.mem_of_getElem? (i := 141) rfl)
theorem w139 {Z : State} {a0 : Array Value} (hw : ∀ d ∈ tables_1, d.before a0 Z = true) : (Jvm.Cond.declares ({ cls := cn0, name := "frontSize", desc := "(I)I" } : Jvm.MethodName)).before a0 Z = true := hw _ (List.mem_of_getElem? (i := 139) rfl)
theorem w140 {Z : State} {a0 : Array Value} (hw : ∀ d ∈ tables_1, d.before a0 Z = true) : (Jvm.Cond.instanceMethod ({ cls := cn0, name := "frontSize", desc := "(I)I" } : Jvm.MethodName)).before a0 Z = true := hw _ (List.mem_of_getElem? (i := 140) rfl)
def Q_rm_law (Z : State) (p1 : Int32) (h0 : Heap) (n0 : Nat) (v : Option Value) (h : Heap) (L : List Loc) : Prop := Fr n0 L ∧ Keep h0 h [] ∧ ((v = some (.int (1 : Int32))))
set_option maxRecDepth 65536 in
set_option maxHeartbeats 40000000 in
theorem rm_law (l : Launch) (Z : State) (a0 : Array Value) (hw : ∀ d ∈ tables_1, d.before a0 Z = true) (ws : List Jvm.Cond) (p1 : Int32) (h0 : Heap) (n0 : Nat) (O0 : Old Z n0 h0) :
    MetFree l x (head1 (Jvm.Cond.code x code maxLocals ret :: ws) room_1) (fun a U => a = #[(.int p1)] ∧ Z.Warmed39 U.vm ∧ U.heap = h0) (fun _ _ _ _ _ => True) (fun _ U o U' => ∃ v L, o = .returned v ∧ Q_rm_law Z p1 h0 n0 v U'.heap L ∧ FrameEnd U o U' L room_1.cells room_1.slots) := by
  refine MetFree.of_bodySF (plainFor_of_name pn_com_example_unea_unea_analysis_SupernodesSinglePinLaw) hisR ?_
  intro p e s m args below meth c s₁ Bd hml0 hP hK
  obtain ⟨rfl, hZ, hh⟩ := hP
  have hx := Bd.exec
  have hby := Bd.bytes
  have hlk := Bd.notSynchronized
  have hml : c.maxLocals = 4 := hml0
  have hown : s.vm.findClass cn3 = some m.cls := findClass_of_methodNamed Bd.named
  have hnm := (name_of_methodNamed Bd.named Bd.method).1
  have X0 : Stand p l e room_1 s m #[(.int p1)] below meth c s₁ [] 0 0 := Stand.of_body Bd
  have e0 : s₁.heap = h0 := by rw [← hh, Bd.state]; rfl
  have N0 := Fr.nil n0
  have K0 := Keep.refl h0 []
  have Z0 : n0 ≤ h0.size := O0.1 ▸ O0.2.1
  have hef : entryFrame m #[(.int p1)] maxLocals = mkF m 0 #[.val (.int p1), .unset, .unset, .unset] [] := by first | (simp [entryFrame, mkF, argsToLocals, Value.category, maxLocals]; done) | rfl
  rw [hef]
  refine Gets.out (Q := Q_rm_law Z p1 h0 n0) ?_
  show Gets p e below _ (s₁.setTop (mkF m 0 #[.val (.int p1), .unset, .unset, .unset] []))
  obtain ⟨T1, h1, X1, e1, E1, A1, D1, -, st1⟩ := newO X0 hx hZ hown (w0 hw) (w1 hw) (w2 hw) e0 (g := (mkF m 0 #[.val (.int p1), .unset, .unset, .unset] [])) rfl (hb hby at_0) (by decide) (by decide)
  obtain ⟨b1, g1⟩ : ∃ z, z = h0.size := ⟨_, rfl⟩
  rw [← g1] at A1 D1 st1
  have sz_b1 : h0.size ≤ b1 := Nat.le_trans K0.1 (Nat.le_of_eq g1.symm)
  have g_b1 : n0 ≤ b1 := Nat.le_trans Z0 sz_b1
  have K2 := K0.ext E1
  have O2 := O0.ext E1
  have F1_11 : Fld Z h1 b1 cn1 "start" "[I" .null := D1 (Or.inr (w11 hw)) (ty := (.array .int)) (by decide)
  have F1_13 : Fld Z h1 b1 cn1 "neighbour" "[I" .null := D1 (Or.inr (w13 hw)) (ty := (.array .int)) (by decide)
  refine Gets.of st1 ?_
  show Gets p e below _ (T1.setTop (mkF m 3 #[.val (.int p1), .unset, .unset, .unset] [(.ref b1)]))
  refine Gets.of (fun t k => XS.dup X1.here hx rfl (hb hby at_3) rfl rfl k) ?_
  refine Gets.of (fun t k => XS.iconst X1.here hx rfl (hb hby at_4) k) ?_
  obtain ⟨T3, h3, k3, X3, e3, E3, A3, Ex3, st3⟩ := newPE X1 hx hZ (aty := .int) (w3 hw) e1 (g := (mkF m 5 #[.val (.int p1), .unset, .unset, .unset] [(.int (2 : Int32)), (.ref b1), (.ref b1)])) rfl (hb hby at_5) rfl (by decide) (cap := 2) (by decide) (by decide) (by decide) (by decide) (ad := "[I") rfl
  obtain ⟨b3, g3⟩ : ∃ z, z = h1.size := ⟨_, rfl⟩
  rw [← g3] at A3 Ex3 st3
  have sz_b3 : h0.size ≤ b3 := Nat.le_trans K2.1 (Nat.le_of_eq g3.symm)
  have g_b3 : n0 ≤ b3 := Nat.le_trans Z0 sz_b3
  have K4 := K2.ext E3
  have O4 := O2.ext E3
  have V3 : Arv Z h3 b3 k3 .int (2 : Int32) [(.int (0 : Int32)), (.int (0 : Int32))] (.int (0 : Int32)) := (Arv.new A3 (by decide)).pad (pad_rep [] (.int (0 : Int32)) 2)
  refine Gets.of st3 ?_
  show Gets p e below _ (T3.setTop (mkF m 7 #[.val (.int p1), .unset, .unset, .unset] [(.ref b3), (.ref b1), (.ref b1)]))
  refine Gets.of (fun t k => XS.dup X3.here hx rfl (hb hby at_7) rfl rfl k) ?_
  refine Gets.of (fun t k => XS.iconst X3.here hx rfl (hb hby at_8) k) ?_
  refine Gets.of (fun t k => XS.iconst X3.here hx rfl (hb hby at_9) k) ?_
  obtain ⟨cl5, Ar5, q5, S5, N_5, H5, G5⟩ := id (V3)
  have hin5 : ¬ ((0 : Int32) < 0 ∨ cl5.slots.size ≤ ((0 : Int32)).toNatClampNeg) := inb_of S5 ⟨by decide, by decide⟩
  obtain ⟨T6, h6, X6, e6, W6, st6⟩ := stI X3 hx hZ e3 Ar5 (j := (0 : Int32)) hin5 (g := (mkF m 10 #[.val (.int p1), .unset, .unset, .unset] [(.int (0 : Int32)), (.int (0 : Int32)), (.ref b3), (.ref b3), (.ref b1), (.ref b1)])) rfl rfl (hb hby at_10)
  have V6 : Arv Z h6 b3 k3 .int (2 : Int32) [(.int (0 : Int32)), (.int (0 : Int32))] (.int (0 : Int32)) := Arv.set Ar5 q5 S5 N_5 H5 G5 rfl W6 0 rfl (Nat.le_of_ble_eq_true rfl)
  have N6 := Fr.snoc X6 N0 g_b3
  have K7 : Keep h0 _ [] := K4.wr W6 (Or.inr sz_b3)
  have O7 := O4.wr W6 g_b3
  refine Gets.of st6 ?_
  show Gets p e below _ (T6.setTop (mkF m 11 #[.val (.int p1), .unset, .unset, .unset] [(.ref b3), (.ref b1), (.ref b1)]))
  refine Gets.of (fun t k => XS.dup X6.here hx rfl (hb hby at_11) rfl rfl k) ?_
  refine Gets.of (fun t k => XS.iconst X6.here hx rfl (hb hby at_12) k) ?_
  refine Gets.of (fun t k => XS.iconst X6.here hx rfl (hb hby at_13) k) ?_
  obtain ⟨cl8, Ar8, q8, S8, N_8, H8, G8⟩ := id (V6)
  have hin8 : ¬ ((1 : Int32) < 0 ∨ cl8.slots.size ≤ ((1 : Int32)).toNatClampNeg) := inb_of S8 ⟨by decide, by decide⟩
  obtain ⟨T9, h9, X9, e9, W9, st9⟩ := stI X6 hx hZ e6 Ar8 (j := (1 : Int32)) hin8 (g := (mkF m 14 #[.val (.int p1), .unset, .unset, .unset] [(.int (0 : Int32)), (.int (1 : Int32)), (.ref b3), (.ref b3), (.ref b1), (.ref b1)])) rfl rfl (hb hby at_14)
  have V9 : Arv Z h9 b3 k3 .int (2 : Int32) [(.int (0 : Int32)), (.int (0 : Int32))] (.int (0 : Int32)) := Arv.set Ar8 q8 S8 N_8 H8 G8 rfl W9 1 rfl (Nat.le_of_ble_eq_true rfl)
  have N9 := Fr.snoc X9 N6 g_b3
  have K10 : Keep h0 _ [] := K7.wr W9 (Or.inr sz_b3)
  have O10 := O7.wr W9 g_b3
  refine Gets.of st9 ?_
  show Gets p e below _ (T9.setTop (mkF m 15 #[.val (.int p1), .unset, .unset, .unset] [(.ref b3), (.ref b1), (.ref b1)]))
  refine Gets.of (fun t k => XS.iconst X9.here hx rfl (hb hby at_15) k) ?_
  obtain ⟨T11, h11, k11, X11, e11, E11, A11, Ex11, st11⟩ := newPE X9 hx hZ (aty := .int) (w3 hw) e9 (g := (mkF m 16 #[.val (.int p1), .unset, .unset, .unset] [(.int (0 : Int32)), (.ref b3), (.ref b1), (.ref b1)])) rfl (hb hby at_16) rfl (by decide) (cap := 0) (by decide) (by decide) (by decide) (by decide) (ad := "[I") rfl
  obtain ⟨b11, g11⟩ : ∃ z, z = h9.size := ⟨_, rfl⟩
  rw [← g11] at A11 Ex11 st11
  have up12 := (Nat.le_trans (Nat.le_of_eq W6.size.symm) (Nat.le_of_eq W9.size.symm))
  have sz_b11 : h0.size ≤ b11 := Nat.le_trans K10.1 (Nat.le_of_eq g11.symm)
  have g_b11 : n0 ≤ b11 := Nat.le_trans Z0 sz_b11
  have K13 := K10.ext E11
  have O13 := O10.ext E11
  have V11 : Arv Z h11 b11 k11 .int (0 : Int32) [] (.int (0 : Int32)) := Arv.new A11 (by decide)
  refine Gets.of st11 ?_
  show Gets p e below _ (T11.setTop (mkF m 18 #[.val (.int p1), .unset, .unset, .unset] [(.ref b11), (.ref b3), (.ref b1), (.ref b1)]))
  have f14 : Exa Z h11 b1 cn1 := ((((A1.ext E3).wr W6).wr W9).ext E11)
  have f15 : Fld Z h11 b1 cn1 "start" "[I" .null := ((((F1_11.ext E3).other W6 (Or.inl (Nat.ne_of_lt (Nat.lt_of_lt_of_le A1.lt (Nat.le_of_eq g3.symm))))).other W9 (Or.inl (Nat.ne_of_lt (Nat.lt_of_lt_of_le A1.lt (Nat.le_of_eq g3.symm))))).ext E11)
  have f16 : Fld Z h11 b1 cn1 "neighbour" "[I" .null := ((((F1_13.ext E3).other W6 (Or.inl (Nat.ne_of_lt (Nat.lt_of_lt_of_le A1.lt (Nat.le_of_eq g3.symm))))).other W9 (Or.inl (Nat.ne_of_lt (Nat.lt_of_lt_of_le A1.lt (Nat.le_of_eq g3.symm))))).ext E11)
  obtain ⟨_, _, ⟨T17, L17, k17, n17⟩, -, X17, ⟨Lc17, hQ17, l17, y17, z17⟩, st17⟩ := X11.specialBack hx (y := (⟨cn1, "<init>", "([I[I)V"⟩ : MethodName)) rfl hown (mvT hZ (w4 hw)) (mvT hZ (w5 hw)) (mvT hZ (w6 hw)) (by decide) (backOf (W := 1) (r1_init l Z a0 hw [] b1 b3 b11 h11 n0 O13 f14 f15 f16 g_b1) hZ (w6 hw) (w2 hw) (by decide) (by decide)) (g := (mkF m 18 #[.val (.int p1), .unset, .unset, .unset] [(.ref b11), (.ref b3), (.ref b1), (.ref b1)])) rfl (by rw [hml]; rfl) (Steps.refl _) (a := b1) (argsL := [(.ref b3), (.ref b11)]) (rest := [(.ref b1)]) (lenOf pd__I_I_V rfl) rfl (by show 2 * 0 + _ ≤ _; exact Nat.le_of_eq rfl) (hb hby at_18) (fun _ _ => ⟨rfl, e11, (by decide : 3 + 0 ≤ _), (by decide : 4 + 0 ≤ _)⟩)
  dsimp only [Pt.U, Pt.locs, Pt.cells, Pt.slots] at X17 l17 y17 z17 st17 hQ17
  subst l17 y17 z17
  obtain ⟨Nq17, Kq17, hR17⟩ := hQ17
  have N17 := Fr.app N9 Nq17
  have K18 : Keep h0 _ [] := K13.trans Kq17 (allS (Or.inr sz_b1) all0)
  have O18 := O13.keep Kq17 (allS g_b1 all0)
  obtain ⟨rfl, bf17_0, bf17_1⟩ := hR17
  refine Gets.tr st17 ?_
  show Gets p e below _ (T17.setTop (mkF m 21 #[.val (.int p1), .unset, .unset, .unset] [(.ref b1)]))
  refine Gets.of (fun t k => XS.astoreN X17.here hx rfl (hb hby at_21) rfl rfl (l' := #[.val (.int p1), .val (.ref b1), .unset, .unset]) rfl k) ?_
  show Gets p e below _ (T17.setTop (mkF m 22 #[.val (.int p1), .val (.ref b1), .unset, .unset] []))
  refine Gets.of (fun t k => XS.aloadN X17.here hx rfl (hb hby at_22) rfl rfl  k) ?_
  refine Gets.of (fun t k => XS.iconst X17.here hx rfl (hb hby at_23) k) ?_
  obtain ⟨T19, h19, k19, X19, e19, E19, A19, Ex19, st19⟩ := newPE X17 hx hZ (aty := .int) (w3 hw) rfl (g := (mkF m 24 #[.val (.int p1), .val (.ref b1), .unset, .unset] [(.int (1 : Int32)), (.ref b1)])) rfl (hb hby at_24) rfl (by decide) (cap := 1) (by decide) (by decide) (by decide) (by decide) (ad := "[I") rfl
  obtain ⟨b19, g19⟩ : ∃ z, z = T17.heap.size := ⟨_, rfl⟩
  rw [← g19] at A19 Ex19 st19
  have up20 := Kq17.1
  have sz_b19 : h0.size ≤ b19 := Nat.le_trans K18.1 (Nat.le_of_eq g19.symm)
  have g_b19 : n0 ≤ b19 := Nat.le_trans Z0 sz_b19
  have K21 := K18.ext E19
  have O21 := O18.ext E19
  have V19 : Arv Z h19 b19 k19 .int (1 : Int32) [(.int (0 : Int32))] (.int (0 : Int32)) := (Arv.new A19 (by decide)).pad (pad_rep [] (.int (0 : Int32)) 1)
  refine Gets.of st19 ?_
  show Gets p e below _ (T19.setTop (mkF m 26 #[.val (.int p1), .val (.ref b1), .unset, .unset] [(.ref b19), (.ref b1)]))
  refine Gets.of (fun t k => XS.dup X19.here hx rfl (hb hby at_26) rfl rfl k) ?_
  refine Gets.of (fun t k => XS.iconst X19.here hx rfl (hb hby at_27) k) ?_
  refine Gets.of (fun t k => XS.iconst X19.here hx rfl (hb hby at_28) k) ?_
  obtain ⟨cl22, Ar22, q22, S22, N_22, H22, G22⟩ := id (V19)
  have hin22 : ¬ ((0 : Int32) < 0 ∨ cl22.slots.size ≤ ((0 : Int32)).toNatClampNeg) := inb_of S22 ⟨by decide, by decide⟩
  obtain ⟨T23, h23, X23, e23, W23, st23⟩ := stI X19 hx hZ e19 Ar22 (j := (0 : Int32)) hin22 (g := (mkF m 29 #[.val (.int p1), .val (.ref b1), .unset, .unset] [(.int (0 : Int32)), (.int (0 : Int32)), (.ref b19), (.ref b19), (.ref b1)])) rfl rfl (hb hby at_29)
  have V23 : Arv Z h23 b19 k19 .int (1 : Int32) [(.int (0 : Int32))] (.int (0 : Int32)) := Arv.set Ar22 q22 S22 N_22 H22 G22 rfl W23 0 rfl (Nat.le_of_ble_eq_true rfl)
  have N23 := Fr.snoc X23 N17 g_b19
  have K24 : Keep h0 _ [] := K21.wr W23 (Or.inr sz_b19)
  have O24 := O21.wr W23 g_b19
  refine Gets.of st23 ?_
  show Gets p e below _ (T23.setTop (mkF m 30 #[.val (.int p1), .val (.ref b1), .unset, .unset] [(.ref b19), (.ref b1)]))
  have f25 : Exa Z h23 b1 cn1 := (((f14.keep Kq17).ext E19).wr W23)
  have f26 : Fld Z h23 b1 cn1 "start" "[I" (.ref b3) := ((bf17_0.ext E19).other W23 (Or.inl (Nat.ne_of_lt (Nat.lt_of_lt_of_le (Nat.lt_of_lt_of_le (Nat.lt_of_lt_of_le (Nat.lt_of_lt_of_le (Nat.lt_of_lt_of_le A1.lt E3.1) up12) E11.1) up20) (Nat.le_of_eq g19.symm)))))
  have f27 : Arv Z h23 b3 k3 .int (2 : Int32) [(.int (0 : Int32)), (.int (0 : Int32))] (.int (0 : Int32)) := ((((V9.ext E11).keep Kq17 (ninS (Nat.ne_of_gt (Nat.lt_of_lt_of_le A1.lt (Nat.le_of_eq g3.symm))) nin0)).ext E19).other W23 (Nat.ne_of_lt (Nat.lt_of_lt_of_le (Nat.lt_of_lt_of_le (Nat.lt_of_lt_of_le (Nat.lt_of_lt_of_le V3.lt up12) E11.1) up20) (Nat.le_of_eq g19.symm))))
  obtain ⟨_, _, ⟨T28, L28, k28, n28⟩, -, X28, ⟨Lc28, hQ28, l28, y28, z28⟩, st28⟩ := Jvm.LawKit.callS X23 hx (y := (⟨cn0, "of", cn5⟩ : MethodName)) hown (mvT hZ (w14 hw)) (mvT hZ (w15 hw)) (mvT hZ (w16 hw)) (mvT hZ (w17 hw)) (by decide) (backOf (W := 0) (r2_of l Z a0 hw [] b1 b19 b3 k3 k19 h23 n0 O24 f25 f26 f27 V23) hZ (w17 hw) (w16 hw) (by decide) (by decide)) (g := (mkF m 30 #[.val (.int p1), .val (.ref b1), .unset, .unset] [(.ref b19), (.ref b1)])) rfl (by rw [hml]; rfl) (argsL := [(.ref b1), (.ref b19)]) (rest := []) (lenOf pd__Lcom_example_unea_unea_analysis_SparsePattern_I_Lcom_example_unea_unea_analysis_Supernodes_ rfl) rfl (by show 2 * 0 + _ ≤ _; exact Nat.le_of_eq rfl) (hb hby at_30) (fun _ _ => ⟨rfl, e23, (by decide : 4 + 27 ≤ _), (by decide : 5 + 53 ≤ _)⟩)
  dsimp only [Pt.U, Pt.locs, Pt.cells, Pt.slots] at X28 l28 y28 z28 st28 hQ28
  subst l28 y28 z28
  obtain ⟨Nq28, Kq28, hR28⟩ := hQ28
  have N28 := Fr.app N23 Nq28
  have up29 := (Nat.le_of_eq W23.size.symm)
  have K30 : Keep h0 _ [] := K24.trans Kq28 all0
  have O30 := O24.keep Kq28 all0
  obtain ⟨b70_53_28, b13_28, b2_34_28, b2_18_47_28, b3_53_28, b2_74_53_28, b15_53_28, k13_28, k2_34_28, k2_47_28, k3_53_28, k15_53_28, k2_74_53_28, rfl, bz28_0, bz28_1, bz28_2, bz28_3, bz28_4, bz28_5, bz28_6, bn28_0, bn28_1, bn28_2, bn28_3, bn28_4, bn28_5, bn28_6, bn28_7, bn28_8, bn28_9, bn28_10, bn28_11, bn28_12, bn28_13, bn28_14, bn28_15, bn28_16, bn28_17, bn28_18, bn28_19, bn28_20, bf28_0, bf28_1, bf28_2, bf28_3, bf28_4, bf28_5, bf28_6, bf28_7, bf28_8, bf28_9, bf28_10, bf28_11, bf28_12, bf28_13, bf28_14, bf28_15, bf28_16, bf28_17, bf28_18, bf28_19⟩ := hR28
  have sz_b70_53_28 : h0.size ≤ b70_53_28 := Nat.le_trans K24.1 bz28_0
  have g_b70_53_28 : n0 ≤ b70_53_28 := Nat.le_trans Z0 sz_b70_53_28
  have sz_b13_28 : h0.size ≤ b13_28 := Nat.le_trans K24.1 bz28_1
  have g_b13_28 : n0 ≤ b13_28 := Nat.le_trans Z0 sz_b13_28
  have sz_b2_34_28 : h0.size ≤ b2_34_28 := Nat.le_trans K24.1 bz28_2
  have g_b2_34_28 : n0 ≤ b2_34_28 := Nat.le_trans Z0 sz_b2_34_28
  have sz_b2_18_47_28 : h0.size ≤ b2_18_47_28 := Nat.le_trans K24.1 bz28_3
  have g_b2_18_47_28 : n0 ≤ b2_18_47_28 := Nat.le_trans Z0 sz_b2_18_47_28
  have sz_b3_53_28 : h0.size ≤ b3_53_28 := Nat.le_trans K24.1 bz28_4
  have g_b3_53_28 : n0 ≤ b3_53_28 := Nat.le_trans Z0 sz_b3_53_28
  have sz_b2_74_53_28 : h0.size ≤ b2_74_53_28 := Nat.le_trans K24.1 bz28_5
  have g_b2_74_53_28 : n0 ≤ b2_74_53_28 := Nat.le_trans Z0 sz_b2_74_53_28
  have sz_b15_53_28 : h0.size ≤ b15_53_28 := Nat.le_trans K24.1 bz28_6
  have g_b15_53_28 : n0 ≤ b15_53_28 := Nat.le_trans Z0 sz_b15_53_28
  refine Gets.of st28 ?_
  show Gets p e below _ (T28.setTop (mkF m 33 #[.val (.int p1), .val (.ref b1), .unset, .unset] [(.ref b70_53_28)]))
  refine Gets.of (fun t k => XS.astoreN X28.here hx rfl (hb hby at_33) rfl rfl (l' := #[.val (.int p1), .val (.ref b1), .val (.ref b70_53_28), .unset]) rfl k) ?_
  show Gets p e below _ (T28.setTop (mkF m 34 #[.val (.int p1), .val (.ref b1), .val (.ref b70_53_28), .unset] []))
  obtain ⟨_, _, ⟨T31, L31, k31, n31⟩, -, X31, ⟨Lc31, hQ31, l31, y31, z31⟩, st31⟩ := Jvm.LawKit.callS X28 hx (y := (⟨cn0, "single", "()Lcom/example/unea/unea/analysis/Supernodes;"⟩ : MethodName)) hown (mvT hZ (w116 hw)) (mvT hZ (w117 hw)) (mvT hZ (w16 hw)) (mvT hZ (w118 hw)) (by decide) (backOf (W := 0) (r25_single l Z a0 hw []  T28.heap n0 O30) hZ (w118 hw) (w16 hw) (by decide) (by decide)) (g := (mkF m 34 #[.val (.int p1), .val (.ref b1), .val (.ref b70_53_28), .unset] [])) rfl (by rw [hml]; rfl) (argsL := []) (rest := []) (lenOf pd__Lcom_example_unea_unea_analysis_Supernodes_ rfl) rfl (by show 2 * 0 + _ ≤ _; exact Nat.le_of_eq rfl) (hb hby at_34) (fun _ _ => ⟨rfl, rfl, (by decide : 31 + 7 ≤ _), (by decide : 58 + 15 ≤ _)⟩)
  dsimp only [Pt.U, Pt.locs, Pt.cells, Pt.slots] at X31 l31 y31 z31 st31 hQ31
  subst l31 y31 z31
  obtain ⟨Nq31, Kq31, hR31⟩ := hQ31
  have N31 := Fr.app N28 Nq31
  have K32 : Keep h0 _ [] := K30.trans Kq31 all0
  have O32 := O30.keep Kq31 all0
  obtain ⟨b1_31, b3_31, b8_31, b14_31, b23_31, b32_31, b38_31, k3_31, k8_31, k14_31, k23_31, k32_31, k38_31, rfl, bz31_0, bz31_1, bz31_2, bz31_3, bz31_4, bz31_5, bz31_6, bn31_0, bn31_1, bn31_2, bn31_3, bn31_4, bn31_5, bn31_6, bn31_7, bn31_8, bn31_9, bn31_10, bn31_11, bn31_12, bn31_13, bn31_14, bn31_15, bn31_16, bn31_17, bn31_18, bn31_19, bn31_20, bf31_0, bf31_1, bf31_2, bf31_3, bf31_4, bf31_5, bf31_6, bf31_7, bf31_8, bf31_9, bf31_10, bf31_11, bf31_12, bf31_13, bf31_14, bf31_15, bf31_16, bf31_17, bf31_18, bf31_19⟩ := hR31
  have sz_b1_31 : h0.size ≤ b1_31 := Nat.le_trans K30.1 bz31_0
  have g_b1_31 : n0 ≤ b1_31 := Nat.le_trans Z0 sz_b1_31
  have sz_b3_31 : h0.size ≤ b3_31 := Nat.le_trans K30.1 bz31_1
  have g_b3_31 : n0 ≤ b3_31 := Nat.le_trans Z0 sz_b3_31
  have sz_b8_31 : h0.size ≤ b8_31 := Nat.le_trans K30.1 bz31_2
  have g_b8_31 : n0 ≤ b8_31 := Nat.le_trans Z0 sz_b8_31
  have sz_b14_31 : h0.size ≤ b14_31 := Nat.le_trans K30.1 bz31_3
  have g_b14_31 : n0 ≤ b14_31 := Nat.le_trans Z0 sz_b14_31
  have sz_b23_31 : h0.size ≤ b23_31 := Nat.le_trans K30.1 bz31_4
  have g_b23_31 : n0 ≤ b23_31 := Nat.le_trans Z0 sz_b23_31
  have sz_b32_31 : h0.size ≤ b32_31 := Nat.le_trans K30.1 bz31_5
  have g_b32_31 : n0 ≤ b32_31 := Nat.le_trans Z0 sz_b32_31
  have sz_b38_31 : h0.size ≤ b38_31 := Nat.le_trans K30.1 bz31_6
  have g_b38_31 : n0 ≤ b38_31 := Nat.le_trans Z0 sz_b38_31
  refine Gets.of st31 ?_
  show Gets p e below _ (T31.setTop (mkF m 37 #[.val (.int p1), .val (.ref b1), .val (.ref b70_53_28), .unset] [(.ref b1_31)]))
  refine Gets.of (fun t k => XS.astoreN X31.here hx rfl (hb hby at_37) rfl rfl (l' := #[.val (.int p1), .val (.ref b1), .val (.ref b70_53_28), .val (.ref b1_31)]) rfl k) ?_
  show Gets p e below _ (T31.setTop (mkF m 38 #[.val (.int p1), .val (.ref b1), .val (.ref b70_53_28), .val (.ref b1_31)] []))
  refine Gets.of (fun t k => XS.aloadN X31.here hx rfl (hb hby at_38) rfl rfl  k) ?_
  obtain ⟨T33, X33, e33, st33⟩ := getF X31 hx hZ hown (host := "") (Or.inl (w119 hw)) Via.refl rfl bf31_3 (g := (mkF m 39 #[.val (.int p1), .val (.ref b1), .val (.ref b70_53_28), .val (.ref b1_31)] [(.ref b1_31)])) rfl rfl (hb hby at_39)
  refine Gets.of st33 ?_
  show Gets p e below _ (T33.setTop (mkF m 42 #[.val (.int p1), .val (.ref b1), .val (.ref b70_53_28), .val (.ref b1_31)] [(.int (1 : Int32))]))
  refine Gets.of (fun t k => XS.aloadN X33.here hx rfl (hb hby at_42) rfl rfl  k) ?_
  have f34 : Fld Z T31.heap b70_53_28 cn0 "count" "I" (.int (1 : Int32)) := (bf28_3.keep Kq31 nin0)
  obtain ⟨T35, X35, e35, st35⟩ := getF X33 hx hZ hown (host := "") (Or.inl (w119 hw)) Via.refl e33 f34 (g := (mkF m 43 #[.val (.int p1), .val (.ref b1), .val (.ref b70_53_28), .val (.ref b1_31)] [(.ref b70_53_28), (.int (1 : Int32))])) rfl rfl (hb hby at_43)
  refine Gets.of st35 ?_
  show Gets p e below _ (T35.setTop (mkF m 46 #[.val (.int p1), .val (.ref b1), .val (.ref b70_53_28), .val (.ref b1_31)] [(.int (1 : Int32)), (.int (1 : Int32))]))
  refine Gets.of (fun t k => XS.icmpNo X35.here hx rfl (hb hby at_46) rfl (teq (by decide : (1 : Int32) = (1 : Int32))).2 k) ?_
  show Gets p e below _ (T35.setTop (mkF m 49 #[.val (.int p1), .val (.ref b1), .val (.ref b70_53_28), .val (.ref b1_31)] []))
  refine Gets.of (fun t k => XS.aloadN X35.here hx rfl (hb hby at_49) rfl rfl  k) ?_
  obtain ⟨T36, X36, e36, st36⟩ := getF X35 hx hZ hown (host := "") (Or.inl (w119 hw)) Via.refl e35 bf31_3 (g := (mkF m 50 #[.val (.int p1), .val (.ref b1), .val (.ref b70_53_28), .val (.ref b1_31)] [(.ref b1_31)])) rfl rfl (hb hby at_50)
  refine Gets.of st36 ?_
  show Gets p e below _ (T36.setTop (mkF m 53 #[.val (.int p1), .val (.ref b1), .val (.ref b70_53_28), .val (.ref b1_31)] [(.int (1 : Int32))]))
  refine Gets.of (fun t k => XS.iconst X36.here hx rfl (hb hby at_53) k) ?_
  refine Gets.of (fun t k => XS.icmpNo X36.here hx rfl (hb hby at_54) rfl (teq (by decide : (1 : Int32) = (1 : Int32))).2 k) ?_
  show Gets p e below _ (T36.setTop (mkF m 57 #[.val (.int p1), .val (.ref b1), .val (.ref b70_53_28), .val (.ref b1_31)] []))
  refine Gets.of (fun t k => XS.aloadN X36.here hx rfl (hb hby at_57) rfl rfl  k) ?_
  obtain ⟨T37, X37, e37, st37⟩ := getF X36 hx hZ hown (host := "") (Or.inl (w120 hw)) Via.refl e36 bf31_1 (g := (mkF m 58 #[.val (.int p1), .val (.ref b1), .val (.ref b70_53_28), .val (.ref b1_31)] [(.ref b1_31)])) rfl rfl (hb hby at_58)
  refine Gets.of st37 ?_
  show Gets p e below _ (T37.setTop (mkF m 61 #[.val (.int p1), .val (.ref b1), .val (.ref b70_53_28), .val (.ref b1_31)] [(.ref b3_31)]))
  refine Gets.of (fun t k => XS.aloadN X37.here hx rfl (hb hby at_61) rfl rfl  k) ?_
  have f38 : Fld Z T31.heap b70_53_28 cn0 "order" "[I" (.ref b13_28) := (bf28_1.keep Kq31 nin0)
  obtain ⟨T39, X39, e39, st39⟩ := getF X37 hx hZ hown (host := "") (Or.inl (w120 hw)) Via.refl e37 f38 (g := (mkF m 62 #[.val (.int p1), .val (.ref b1), .val (.ref b70_53_28), .val (.ref b1_31)] [(.ref b70_53_28), (.ref b3_31)])) rfl rfl (hb hby at_62)
  refine Gets.of st39 ?_
  show Gets p e below _ (T39.setTop (mkF m 65 #[.val (.int p1), .val (.ref b1), .val (.ref b70_53_28), .val (.ref b1_31)] [(.ref b13_28), (.ref b3_31)]))
  have f40 : Arv Z T31.heap b13_28 k13_28 .int (1 : Int32) [(.int (0 : Int32))] (.int (0 : Int32)) := (bf28_8.keep Kq31 nin0)
  obtain ⟨_, _, ⟨T41, L41, k41, n41⟩, -, X41, ⟨Lc41, hQ41, l41, y41, z41⟩, st41⟩ := Jvm.LawKit.callS X39 hx (y := (⟨cn3, "eq1", "([I[I)Z"⟩ : MethodName)) hown (mvT hZ (w121 hw)) (mvT hZ (w122 hw)) (mvT hZ (w123 hw)) (mvT hZ (w124 hw)) (by decide) (backOf (W := 0) (r26_eq1 l Z a0 hw [] b3_31 b13_28 k3_31 k13_28 T31.heap n0 O32 bf31_8 f40) hZ (w124 hw) (w123 hw) (by decide) (by decide)) (g := (mkF m 65 #[.val (.int p1), .val (.ref b1), .val (.ref b70_53_28), .val (.ref b1_31)] [(.ref b13_28), (.ref b3_31)])) rfl (by rw [hml]; rfl) (argsL := [(.ref b3_31), (.ref b13_28)]) (rest := []) (lenOf pd__I_I_Z rfl) rfl (by show 2 * 0 + _ ≤ _; exact Nat.le_of_eq rfl) (hb hby at_65) (fun _ _ => ⟨rfl, e39, (by decide : 38 + 0 ≤ _), (by decide : 73 + 0 ≤ _)⟩)
  dsimp only [Pt.U, Pt.locs, Pt.cells, Pt.slots] at X41 l41 y41 z41 st41 hQ41
  subst l41 y41 z41
  obtain ⟨Nq41, eq41, hR41⟩ := hQ41
  have N41 := Fr.app N31 Nq41
  obtain rfl := hR41
  refine Gets.of st41 ?_
  show Gets p e below _ (T41.setTop (mkF m 68 #[.val (.int p1), .val (.ref b1), .val (.ref b70_53_28), .val (.ref b1_31)] [(.int (1 : Int32))]))
  refine Gets.of (fun t k => XS.ifNo X41.here hx rfl (hb hby at_68) rfl ((if0 _ _).trans (feq (by decide : ¬ ((1 : Int32) = (0 : Int32)))).1) k) ?_
  show Gets p e below _ (T41.setTop (mkF m 71 #[.val (.int p1), .val (.ref b1), .val (.ref b70_53_28), .val (.ref b1_31)] []))
  refine Gets.of (fun t k => XS.aloadN X41.here hx rfl (hb hby at_71) rfl rfl  k) ?_
  obtain ⟨T42, X42, e42, st42⟩ := getF X41 hx hZ hown (host := "") (Or.inl (w125 hw)) Via.refl eq41 bf31_2 (g := (mkF m 72 #[.val (.int p1), .val (.ref b1), .val (.ref b70_53_28), .val (.ref b1_31)] [(.ref b1_31)])) rfl rfl (hb hby at_72)
  refine Gets.of st42 ?_
  show Gets p e below _ (T42.setTop (mkF m 75 #[.val (.int p1), .val (.ref b1), .val (.ref b70_53_28), .val (.ref b1_31)] [(.ref b8_31)]))
  refine Gets.of (fun t k => XS.aloadN X42.here hx rfl (hb hby at_75) rfl rfl  k) ?_
  have f43 : Fld Z T31.heap b70_53_28 cn0 "step" "[I" (.ref b2_34_28) := (bf28_2.keep Kq31 nin0)
  obtain ⟨T44, X44, e44, st44⟩ := getF X42 hx hZ hown (host := "") (Or.inl (w125 hw)) Via.refl e42 f43 (g := (mkF m 76 #[.val (.int p1), .val (.ref b1), .val (.ref b70_53_28), .val (.ref b1_31)] [(.ref b70_53_28), (.ref b8_31)])) rfl rfl (hb hby at_76)
  refine Gets.of st44 ?_
  show Gets p e below _ (T44.setTop (mkF m 79 #[.val (.int p1), .val (.ref b1), .val (.ref b70_53_28), .val (.ref b1_31)] [(.ref b2_34_28), (.ref b8_31)]))
  have f45 : Arv Z T31.heap b2_34_28 k2_34_28 .int (1 : Int32) [(.int (0 : Int32))] (.int (0 : Int32)) := (bf28_10.keep Kq31 nin0)
  obtain ⟨_, _, ⟨T46, L46, k46, n46⟩, -, X46, ⟨Lc46, hQ46, l46, y46, z46⟩, st46⟩ := Jvm.LawKit.callS X44 hx (y := (⟨cn3, "eq1", "([I[I)Z"⟩ : MethodName)) hown (mvT hZ (w121 hw)) (mvT hZ (w122 hw)) (mvT hZ (w123 hw)) (mvT hZ (w124 hw)) (by decide) (backOf (W := 0) (r26_eq1 l Z a0 hw [] b8_31 b2_34_28 k8_31 k2_34_28 T31.heap n0 O32 bf31_10 f45) hZ (w124 hw) (w123 hw) (by decide) (by decide)) (g := (mkF m 79 #[.val (.int p1), .val (.ref b1), .val (.ref b70_53_28), .val (.ref b1_31)] [(.ref b2_34_28), (.ref b8_31)])) rfl (by rw [hml]; rfl) (argsL := [(.ref b8_31), (.ref b2_34_28)]) (rest := []) (lenOf pd__I_I_Z rfl) rfl (by show 2 * 0 + _ ≤ _; exact Nat.le_of_eq rfl) (hb hby at_79) (fun _ _ => ⟨rfl, e44, (by decide : 38 + 0 ≤ _), (by decide : 73 + 0 ≤ _)⟩)
  dsimp only [Pt.U, Pt.locs, Pt.cells, Pt.slots] at X46 l46 y46 z46 st46 hQ46
  subst l46 y46 z46
  obtain ⟨Nq46, eq46, hR46⟩ := hQ46
  have N46 := Fr.app N41 Nq46
  obtain rfl := hR46
  refine Gets.of st46 ?_
  show Gets p e below _ (T46.setTop (mkF m 82 #[.val (.int p1), .val (.ref b1), .val (.ref b70_53_28), .val (.ref b1_31)] [(.int (1 : Int32))]))
  refine Gets.of (fun t k => XS.ifNo X46.here hx rfl (hb hby at_82) rfl ((if0 _ _).trans (feq (by decide : ¬ ((1 : Int32) = (0 : Int32)))).1) k) ?_
  show Gets p e below _ (T46.setTop (mkF m 85 #[.val (.int p1), .val (.ref b1), .val (.ref b70_53_28), .val (.ref b1_31)] []))
  refine Gets.of (fun t k => XS.aloadN X46.here hx rfl (hb hby at_85) rfl rfl  k) ?_
  obtain ⟨T47, X47, e47, st47⟩ := getF X46 hx hZ hown (host := "") (Or.inl (w126 hw)) Via.refl eq46 bf31_4 (g := (mkF m 86 #[.val (.int p1), .val (.ref b1), .val (.ref b70_53_28), .val (.ref b1_31)] [(.ref b1_31)])) rfl rfl (hb hby at_86)
  refine Gets.of st47 ?_
  show Gets p e below _ (T47.setTop (mkF m 89 #[.val (.int p1), .val (.ref b1), .val (.ref b70_53_28), .val (.ref b1_31)] [(.ref b14_31)]))
  refine Gets.of (fun t k => XS.aloadN X47.here hx rfl (hb hby at_89) rfl rfl  k) ?_
  have f48 : Fld Z T31.heap b70_53_28 cn0 "first" "[I" (.ref b2_18_47_28) := (bf28_4.keep Kq31 nin0)
  obtain ⟨T49, X49, e49, st49⟩ := getF X47 hx hZ hown (host := "") (Or.inl (w126 hw)) Via.refl e47 f48 (g := (mkF m 90 #[.val (.int p1), .val (.ref b1), .val (.ref b70_53_28), .val (.ref b1_31)] [(.ref b70_53_28), (.ref b14_31)])) rfl rfl (hb hby at_90)
  refine Gets.of st49 ?_
  show Gets p e below _ (T49.setTop (mkF m 93 #[.val (.int p1), .val (.ref b1), .val (.ref b70_53_28), .val (.ref b1_31)] [(.ref b2_18_47_28), (.ref b14_31)]))
  have f50 : Arv Z T31.heap b2_18_47_28 k2_47_28 .int (2 : Int32) [(.int (0 : Int32)), (.int (1 : Int32))] (.int (0 : Int32)) := (bf28_12.keep Kq31 nin0)
  obtain ⟨_, _, ⟨T51, L51, k51, n51⟩, -, X51, ⟨Lc51, hQ51, l51, y51, z51⟩, st51⟩ := Jvm.LawKit.callS X49 hx (y := (⟨cn3, "eq2", "([I[I)Z"⟩ : MethodName)) hown (mvT hZ (w127 hw)) (mvT hZ (w128 hw)) (mvT hZ (w123 hw)) (mvT hZ (w129 hw)) (by decide) (backOf (W := 0) (r27_eq2 l Z a0 hw [] b14_31 b2_18_47_28 k14_31 k2_47_28 T31.heap n0 O32 bf31_12 f50) hZ (w129 hw) (w123 hw) (by decide) (by decide)) (g := (mkF m 93 #[.val (.int p1), .val (.ref b1), .val (.ref b70_53_28), .val (.ref b1_31)] [(.ref b2_18_47_28), (.ref b14_31)])) rfl (by rw [hml]; rfl) (argsL := [(.ref b14_31), (.ref b2_18_47_28)]) (rest := []) (lenOf pd__I_I_Z rfl) rfl (by show 2 * 0 + _ ≤ _; exact Nat.le_of_eq rfl) (hb hby at_93) (fun _ _ => ⟨rfl, e49, (by decide : 38 + 0 ≤ _), (by decide : 73 + 0 ≤ _)⟩)
  dsimp only [Pt.U, Pt.locs, Pt.cells, Pt.slots] at X51 l51 y51 z51 st51 hQ51
  subst l51 y51 z51
  obtain ⟨Nq51, eq51, hR51⟩ := hQ51
  have N51 := Fr.app N46 Nq51
  obtain rfl := hR51
  refine Gets.of st51 ?_
  show Gets p e below _ (T51.setTop (mkF m 96 #[.val (.int p1), .val (.ref b1), .val (.ref b70_53_28), .val (.ref b1_31)] [(.int (1 : Int32))]))
  refine Gets.of (fun t k => XS.ifNo X51.here hx rfl (hb hby at_96) rfl ((if0 _ _).trans (feq (by decide : ¬ ((1 : Int32) = (0 : Int32)))).1) k) ?_
  show Gets p e below _ (T51.setTop (mkF m 99 #[.val (.int p1), .val (.ref b1), .val (.ref b70_53_28), .val (.ref b1_31)] []))
  refine Gets.of (fun t k => XS.aloadN X51.here hx rfl (hb hby at_99) rfl rfl  k) ?_
  obtain ⟨T52, X52, e52, st52⟩ := getF X51 hx hZ hown (host := "") (Or.inl (w130 hw)) Via.refl eq51 bf31_5 (g := (mkF m 100 #[.val (.int p1), .val (.ref b1), .val (.ref b70_53_28), .val (.ref b1_31)] [(.ref b1_31)])) rfl rfl (hb hby at_100)
  refine Gets.of st52 ?_
  show Gets p e below _ (T52.setTop (mkF m 103 #[.val (.int p1), .val (.ref b1), .val (.ref b70_53_28), .val (.ref b1_31)] [(.ref b23_31)]))
  refine Gets.of (fun t k => XS.aloadN X52.here hx rfl (hb hby at_103) rfl rfl  k) ?_
  have f53 : Fld Z T31.heap b70_53_28 cn0 "frontStart" "[I" (.ref b3_53_28) := (bf28_5.keep Kq31 nin0)
  obtain ⟨T54, X54, e54, st54⟩ := getF X52 hx hZ hown (host := "") (Or.inl (w130 hw)) Via.refl e52 f53 (g := (mkF m 104 #[.val (.int p1), .val (.ref b1), .val (.ref b70_53_28), .val (.ref b1_31)] [(.ref b70_53_28), (.ref b23_31)])) rfl rfl (hb hby at_104)
  refine Gets.of st54 ?_
  show Gets p e below _ (T54.setTop (mkF m 107 #[.val (.int p1), .val (.ref b1), .val (.ref b70_53_28), .val (.ref b1_31)] [(.ref b3_53_28), (.ref b23_31)]))
  have f55 : Arv Z T31.heap b3_53_28 k3_53_28 .int (2 : Int32) [(.int (0 : Int32)), (.int (1 : Int32))] (.int (0 : Int32)) := (bf28_14.keep Kq31 nin0)
  obtain ⟨_, _, ⟨T56, L56, k56, n56⟩, -, X56, ⟨Lc56, hQ56, l56, y56, z56⟩, st56⟩ := Jvm.LawKit.callS X54 hx (y := (⟨cn3, "eq2", "([I[I)Z"⟩ : MethodName)) hown (mvT hZ (w127 hw)) (mvT hZ (w128 hw)) (mvT hZ (w123 hw)) (mvT hZ (w129 hw)) (by decide) (backOf (W := 0) (r27_eq2 l Z a0 hw [] b23_31 b3_53_28 k23_31 k3_53_28 T31.heap n0 O32 bf31_14 f55) hZ (w129 hw) (w123 hw) (by decide) (by decide)) (g := (mkF m 107 #[.val (.int p1), .val (.ref b1), .val (.ref b70_53_28), .val (.ref b1_31)] [(.ref b3_53_28), (.ref b23_31)])) rfl (by rw [hml]; rfl) (argsL := [(.ref b23_31), (.ref b3_53_28)]) (rest := []) (lenOf pd__I_I_Z rfl) rfl (by show 2 * 0 + _ ≤ _; exact Nat.le_of_eq rfl) (hb hby at_107) (fun _ _ => ⟨rfl, e54, (by decide : 38 + 0 ≤ _), (by decide : 73 + 0 ≤ _)⟩)
  dsimp only [Pt.U, Pt.locs, Pt.cells, Pt.slots] at X56 l56 y56 z56 st56 hQ56
  subst l56 y56 z56
  obtain ⟨Nq56, eq56, hR56⟩ := hQ56
  have N56 := Fr.app N51 Nq56
  obtain rfl := hR56
  refine Gets.of st56 ?_
  show Gets p e below _ (T56.setTop (mkF m 110 #[.val (.int p1), .val (.ref b1), .val (.ref b70_53_28), .val (.ref b1_31)] [(.int (1 : Int32))]))
  refine Gets.of (fun t k => XS.ifNo X56.here hx rfl (hb hby at_110) rfl ((if0 _ _).trans (feq (by decide : ¬ ((1 : Int32) = (0 : Int32)))).1) k) ?_
  show Gets p e below _ (T56.setTop (mkF m 113 #[.val (.int p1), .val (.ref b1), .val (.ref b70_53_28), .val (.ref b1_31)] []))
  refine Gets.of (fun t k => XS.aloadN X56.here hx rfl (hb hby at_113) rfl rfl  k) ?_
  obtain ⟨T57, X57, e57, st57⟩ := getF X56 hx hZ hown (host := "") (Or.inl (w131 hw)) Via.refl eq56 bf31_6 (g := (mkF m 114 #[.val (.int p1), .val (.ref b1), .val (.ref b70_53_28), .val (.ref b1_31)] [(.ref b1_31)])) rfl rfl (hb hby at_114)
  refine Gets.of st57 ?_
  show Gets p e below _ (T57.setTop (mkF m 117 #[.val (.int p1), .val (.ref b1), .val (.ref b70_53_28), .val (.ref b1_31)] [(.ref b32_31)]))
  refine Gets.of (fun t k => XS.aloadN X57.here hx rfl (hb hby at_117) rfl rfl  k) ?_
  have f58 : Fld Z T31.heap b70_53_28 cn0 "front" "[I" (.ref b2_74_53_28) := (bf28_6.keep Kq31 nin0)
  obtain ⟨T59, X59, e59, st59⟩ := getF X57 hx hZ hown (host := "") (Or.inl (w131 hw)) Via.refl e57 f58 (g := (mkF m 118 #[.val (.int p1), .val (.ref b1), .val (.ref b70_53_28), .val (.ref b1_31)] [(.ref b70_53_28), (.ref b32_31)])) rfl rfl (hb hby at_118)
  refine Gets.of st59 ?_
  show Gets p e below _ (T59.setTop (mkF m 121 #[.val (.int p1), .val (.ref b1), .val (.ref b70_53_28), .val (.ref b1_31)] [(.ref b2_74_53_28), (.ref b32_31)]))
  have f60 : Arv Z T31.heap b2_74_53_28 k2_74_53_28 .int (1 : Int32) [(.int (0 : Int32))] (.int (0 : Int32)) := (bf28_16.keep Kq31 nin0)
  obtain ⟨_, _, ⟨T61, L61, k61, n61⟩, -, X61, ⟨Lc61, hQ61, l61, y61, z61⟩, st61⟩ := Jvm.LawKit.callS X59 hx (y := (⟨cn3, "eq1", "([I[I)Z"⟩ : MethodName)) hown (mvT hZ (w121 hw)) (mvT hZ (w122 hw)) (mvT hZ (w123 hw)) (mvT hZ (w124 hw)) (by decide) (backOf (W := 0) (r26_eq1 l Z a0 hw [] b32_31 b2_74_53_28 k32_31 k2_74_53_28 T31.heap n0 O32 bf31_16 f60) hZ (w124 hw) (w123 hw) (by decide) (by decide)) (g := (mkF m 121 #[.val (.int p1), .val (.ref b1), .val (.ref b70_53_28), .val (.ref b1_31)] [(.ref b2_74_53_28), (.ref b32_31)])) rfl (by rw [hml]; rfl) (argsL := [(.ref b32_31), (.ref b2_74_53_28)]) (rest := []) (lenOf pd__I_I_Z rfl) rfl (by show 2 * 0 + _ ≤ _; exact Nat.le_of_eq rfl) (hb hby at_121) (fun _ _ => ⟨rfl, e59, (by decide : 38 + 0 ≤ _), (by decide : 73 + 0 ≤ _)⟩)
  dsimp only [Pt.U, Pt.locs, Pt.cells, Pt.slots] at X61 l61 y61 z61 st61 hQ61
  subst l61 y61 z61
  obtain ⟨Nq61, eq61, hR61⟩ := hQ61
  have N61 := Fr.app N56 Nq61
  obtain rfl := hR61
  refine Gets.of st61 ?_
  show Gets p e below _ (T61.setTop (mkF m 124 #[.val (.int p1), .val (.ref b1), .val (.ref b70_53_28), .val (.ref b1_31)] [(.int (1 : Int32))]))
  refine Gets.of (fun t k => XS.ifNo X61.here hx rfl (hb hby at_124) rfl ((if0 _ _).trans (feq (by decide : ¬ ((1 : Int32) = (0 : Int32)))).1) k) ?_
  show Gets p e below _ (T61.setTop (mkF m 127 #[.val (.int p1), .val (.ref b1), .val (.ref b70_53_28), .val (.ref b1_31)] []))
  refine Gets.of (fun t k => XS.aloadN X61.here hx rfl (hb hby at_127) rfl rfl  k) ?_
  obtain ⟨T62, X62, e62, st62⟩ := getF X61 hx hZ hown (host := "") (Or.inl (w132 hw)) Via.refl eq61 bf31_7 (g := (mkF m 128 #[.val (.int p1), .val (.ref b1), .val (.ref b70_53_28), .val (.ref b1_31)] [(.ref b1_31)])) rfl rfl (hb hby at_128)
  refine Gets.of st62 ?_
  show Gets p e below _ (T62.setTop (mkF m 131 #[.val (.int p1), .val (.ref b1), .val (.ref b70_53_28), .val (.ref b1_31)] [(.ref b38_31)]))
  refine Gets.of (fun t k => XS.aloadN X62.here hx rfl (hb hby at_131) rfl rfl  k) ?_
  have f63 : Fld Z T31.heap b70_53_28 cn0 "parent" "[I" (.ref b15_53_28) := (bf28_7.keep Kq31 nin0)
  obtain ⟨T64, X64, e64, st64⟩ := getF X62 hx hZ hown (host := "") (Or.inl (w132 hw)) Via.refl e62 f63 (g := (mkF m 132 #[.val (.int p1), .val (.ref b1), .val (.ref b70_53_28), .val (.ref b1_31)] [(.ref b70_53_28), (.ref b38_31)])) rfl rfl (hb hby at_132)
  refine Gets.of st64 ?_
  show Gets p e below _ (T64.setTop (mkF m 135 #[.val (.int p1), .val (.ref b1), .val (.ref b70_53_28), .val (.ref b1_31)] [(.ref b15_53_28), (.ref b38_31)]))
  have f65 : Arv Z T31.heap b15_53_28 k15_53_28 .int (1 : Int32) [(.int (-1 : Int32))] (.int (0 : Int32)) := (bf28_19.keep Kq31 nin0)
  obtain ⟨_, _, ⟨T66, L66, k66, n66⟩, -, X66, ⟨Lc66, hQ66, l66, y66, z66⟩, st66⟩ := Jvm.LawKit.callS X64 hx (y := (⟨cn3, "eq1", "([I[I)Z"⟩ : MethodName)) hown (mvT hZ (w121 hw)) (mvT hZ (w122 hw)) (mvT hZ (w123 hw)) (mvT hZ (w124 hw)) (by decide) (backOf (W := 0) (r28_eq1 l Z a0 hw [] b38_31 b15_53_28 k38_31 k15_53_28 T31.heap n0 O32 bf31_18 f65) hZ (w124 hw) (w123 hw) (by decide) (by decide)) (g := (mkF m 135 #[.val (.int p1), .val (.ref b1), .val (.ref b70_53_28), .val (.ref b1_31)] [(.ref b15_53_28), (.ref b38_31)])) rfl (by rw [hml]; rfl) (argsL := [(.ref b38_31), (.ref b15_53_28)]) (rest := []) (lenOf pd__I_I_Z rfl) rfl (by show 2 * 0 + _ ≤ _; exact Nat.le_of_eq rfl) (hb hby at_135) (fun _ _ => ⟨rfl, e64, (by decide : 38 + 0 ≤ _), (by decide : 73 + 0 ≤ _)⟩)
  dsimp only [Pt.U, Pt.locs, Pt.cells, Pt.slots] at X66 l66 y66 z66 st66 hQ66
  subst l66 y66 z66
  obtain ⟨Nq66, eq66, hR66⟩ := hQ66
  have N66 := Fr.app N61 Nq66
  obtain rfl := hR66
  refine Gets.of st66 ?_
  show Gets p e below _ (T66.setTop (mkF m 138 #[.val (.int p1), .val (.ref b1), .val (.ref b70_53_28), .val (.ref b1_31)] [(.int (1 : Int32))]))
  refine Gets.of (fun t k => XS.ifNo X66.here hx rfl (hb hby at_138) rfl ((if0 _ _).trans (feq (by decide : ¬ ((1 : Int32) = (0 : Int32)))).1) k) ?_
  show Gets p e below _ (T66.setTop (mkF m 141 #[.val (.int p1), .val (.ref b1), .val (.ref b70_53_28), .val (.ref b1_31)] []))
  refine Gets.of (fun t k => XS.aloadN X66.here hx rfl (hb hby at_141) rfl rfl  k) ?_
  refine Gets.of (fun t k => XS.iconst X66.here hx rfl (hb hby at_142) k) ?_
  obtain ⟨cq67, kq67, q67a, q67b, q67c⟩ := isOf hZ eq66 bf31_0
  obtain ⟨_, _, ⟨T67, L67, k67, n67⟩, -, X67, ⟨Lc67, hQ67, l67, y67, z67⟩, st67⟩ := X66.virtualBack hx (y := (⟨cn0, "width", "(I)I"⟩ : MethodName)) (z := (⟨cn0, "width", "(I)I"⟩ : MethodName)) hown (mvT hZ (w133 hw)) (mvT hZ (w134 hw)) (notFace_of_selects (args := #[]) (mvT hZ (w136 hw))) (mvT hZ (w136 hw)) (mvT hZ (w135 hw)) (by decide) (backOf (W := 0) (r29_width l Z a0 hw [] b1_31 b14_31 k14_31 T31.heap n0 O32 bf31_4 bf31_12) hZ (w137 hw) (w16 hw) (by decide) (by decide)) q67a q67c (g := (mkF m 143 #[.val (.int p1), .val (.ref b1), .val (.ref b70_53_28), .val (.ref b1_31)] [(.int (0 : Int32)), (.ref b1_31)])) rfl (by rw [hml]; rfl) (Steps.refl _) (argsL := [(.int (0 : Int32))]) (rest := []) (lenOf pd__I_I_634 rfl) rfl (by show 2 * 0 + _ ≤ _; exact Nat.le_of_eq rfl) (hb hby at_143) (fun _ _ => ⟨rfl, eq66, (by decide : 38 + 0 ≤ _), (by decide : 73 + 0 ≤ _)⟩)
  dsimp only [Pt.U, Pt.locs, Pt.cells, Pt.slots] at X67 l67 y67 z67 st67 hQ67
  subst l67 y67 z67
  obtain ⟨Nq67, eq67, hR67⟩ := hQ67
  have N67 := Fr.app N66 Nq67
  obtain rfl := hR67
  refine Gets.tr st67 ?_
  show Gets p e below _ (T67.setTop (mkF m 146 #[.val (.int p1), .val (.ref b1), .val (.ref b70_53_28), .val (.ref b1_31)] [(.int (1 : Int32))]))
  refine Gets.of (fun t k => XS.aloadN X67.here hx rfl (hb hby at_146) rfl rfl  k) ?_
  refine Gets.of (fun t k => XS.iconst X67.here hx rfl (hb hby at_147) k) ?_
  have f69 : Exa Z T31.heap b70_53_28 cn0 := (bf28_0.keep Kq31)
  obtain ⟨cq68, kq68, q68a, q68b, q68c⟩ := isOf hZ eq67 f69
  obtain ⟨_, _, ⟨T68, L68, k68, n68⟩, -, X68, ⟨Lc68, hQ68, l68, y68, z68⟩, st68⟩ := X67.virtualBack hx (y := (⟨cn0, "width", "(I)I"⟩ : MethodName)) (z := (⟨cn0, "width", "(I)I"⟩ : MethodName)) hown (mvT hZ (w133 hw)) (mvT hZ (w134 hw)) (notFace_of_selects (args := #[]) (mvT hZ (w136 hw))) (mvT hZ (w136 hw)) (mvT hZ (w135 hw)) (by decide) (backOf (W := 1) (r29_width l Z a0 hw [] b70_53_28 b2_18_47_28 k2_47_28 T31.heap n0 O32 f48 f50) hZ (w137 hw) (w16 hw) (by decide) (by decide)) q68a q68c (g := (mkF m 148 #[.val (.int p1), .val (.ref b1), .val (.ref b70_53_28), .val (.ref b1_31)] [(.int (0 : Int32)), (.ref b70_53_28), (.int (1 : Int32))])) rfl (by rw [hml]; rfl) (Steps.refl _) (argsL := [(.int (0 : Int32))]) (rest := [(.int (1 : Int32))]) (lenOf pd__I_I_634 rfl) rfl (by show 2 * 0 + _ ≤ _; exact Nat.le_of_eq rfl) (hb hby at_148) (fun _ _ => ⟨rfl, eq67, (by decide : 38 + 0 ≤ _), (by decide : 73 + 0 ≤ _)⟩)
  dsimp only [Pt.U, Pt.locs, Pt.cells, Pt.slots] at X68 l68 y68 z68 st68 hQ68
  subst l68 y68 z68
  obtain ⟨Nq68, eq68, hR68⟩ := hQ68
  have N68 := Fr.app N67 Nq68
  obtain rfl := hR68
  refine Gets.tr st68 ?_
  show Gets p e below _ (T68.setTop (mkF m 151 #[.val (.int p1), .val (.ref b1), .val (.ref b70_53_28), .val (.ref b1_31)] [(.int (1 : Int32)), (.int (1 : Int32))]))
  refine Gets.of (fun t k => XS.icmpNo X68.here hx rfl (hb hby at_151) rfl (teq (by decide : (1 : Int32) = (1 : Int32))).2 k) ?_
  show Gets p e below _ (T68.setTop (mkF m 154 #[.val (.int p1), .val (.ref b1), .val (.ref b70_53_28), .val (.ref b1_31)] []))
  refine Gets.of (fun t k => XS.aloadN X68.here hx rfl (hb hby at_154) rfl rfl  k) ?_
  refine Gets.of (fun t k => XS.iconst X68.here hx rfl (hb hby at_155) k) ?_
  obtain ⟨cq70, kq70, q70a, q70b, q70c⟩ := isOf hZ eq68 bf31_0
  obtain ⟨_, _, ⟨T70, L70, k70, n70⟩, -, X70, ⟨Lc70, hQ70, l70, y70, z70⟩, st70⟩ := X68.virtualBack hx (y := (⟨cn0, "frontSize", "(I)I"⟩ : MethodName)) (z := (⟨cn0, "frontSize", "(I)I"⟩ : MethodName)) hown (mvT hZ (w138 hw)) (mvT hZ (w139 hw)) (notFace_of_selects (args := #[]) (mvT hZ (w141 hw))) (mvT hZ (w141 hw)) (mvT hZ (w140 hw)) (by decide) (backOf (W := 0) (r30_frontSize l Z a0 hw [] b1_31 b23_31 k23_31 T31.heap n0 O32 bf31_5 bf31_14) hZ (w142 hw) (w16 hw) (by decide) (by decide)) q70a q70c (g := (mkF m 156 #[.val (.int p1), .val (.ref b1), .val (.ref b70_53_28), .val (.ref b1_31)] [(.int (0 : Int32)), (.ref b1_31)])) rfl (by rw [hml]; rfl) (Steps.refl _) (argsL := [(.int (0 : Int32))]) (rest := []) (lenOf pd__I_I_634 rfl) rfl (by show 2 * 0 + _ ≤ _; exact Nat.le_of_eq rfl) (hb hby at_156) (fun _ _ => ⟨rfl, eq68, (by decide : 38 + 0 ≤ _), (by decide : 73 + 0 ≤ _)⟩)
  dsimp only [Pt.U, Pt.locs, Pt.cells, Pt.slots] at X70 l70 y70 z70 st70 hQ70
  subst l70 y70 z70
  obtain ⟨Nq70, eq70, hR70⟩ := hQ70
  have N70 := Fr.app N68 Nq70
  obtain rfl := hR70
  refine Gets.tr st70 ?_
  show Gets p e below _ (T70.setTop (mkF m 159 #[.val (.int p1), .val (.ref b1), .val (.ref b70_53_28), .val (.ref b1_31)] [(.int (1 : Int32))]))
  refine Gets.of (fun t k => XS.aloadN X70.here hx rfl (hb hby at_159) rfl rfl  k) ?_
  refine Gets.of (fun t k => XS.iconst X70.here hx rfl (hb hby at_160) k) ?_
  obtain ⟨cq71, kq71, q71a, q71b, q71c⟩ := isOf hZ eq70 f69
  obtain ⟨_, _, ⟨T71, L71, k71, n71⟩, -, X71, ⟨Lc71, hQ71, l71, y71, z71⟩, st71⟩ := X70.virtualBack hx (y := (⟨cn0, "frontSize", "(I)I"⟩ : MethodName)) (z := (⟨cn0, "frontSize", "(I)I"⟩ : MethodName)) hown (mvT hZ (w138 hw)) (mvT hZ (w139 hw)) (notFace_of_selects (args := #[]) (mvT hZ (w141 hw))) (mvT hZ (w141 hw)) (mvT hZ (w140 hw)) (by decide) (backOf (W := 1) (r30_frontSize l Z a0 hw [] b70_53_28 b3_53_28 k3_53_28 T31.heap n0 O32 f53 f55) hZ (w142 hw) (w16 hw) (by decide) (by decide)) q71a q71c (g := (mkF m 161 #[.val (.int p1), .val (.ref b1), .val (.ref b70_53_28), .val (.ref b1_31)] [(.int (0 : Int32)), (.ref b70_53_28), (.int (1 : Int32))])) rfl (by rw [hml]; rfl) (Steps.refl _) (argsL := [(.int (0 : Int32))]) (rest := [(.int (1 : Int32))]) (lenOf pd__I_I_634 rfl) rfl (by show 2 * 0 + _ ≤ _; exact Nat.le_of_eq rfl) (hb hby at_161) (fun _ _ => ⟨rfl, eq70, (by decide : 38 + 0 ≤ _), (by decide : 73 + 0 ≤ _)⟩)
  dsimp only [Pt.U, Pt.locs, Pt.cells, Pt.slots] at X71 l71 y71 z71 st71 hQ71
  subst l71 y71 z71
  obtain ⟨Nq71, eq71, hR71⟩ := hQ71
  have N71 := Fr.app N70 Nq71
  obtain rfl := hR71
  refine Gets.tr st71 ?_
  show Gets p e below _ (T71.setTop (mkF m 164 #[.val (.int p1), .val (.ref b1), .val (.ref b70_53_28), .val (.ref b1_31)] [(.int (1 : Int32)), (.int (1 : Int32))]))
  refine Gets.of (fun t k => XS.icmpNo X71.here hx rfl (hb hby at_164) rfl (teq (by decide : (1 : Int32) = (1 : Int32))).2 k) ?_
  show Gets p e below _ (T71.setTop (mkF m 167 #[.val (.int p1), .val (.ref b1), .val (.ref b70_53_28), .val (.ref b1_31)] []))
  refine Gets.of (fun t k => XS.iconst X71.here hx rfl (hb hby at_167) k) ?_
  refine Gets.of (fun t k => XS.goto X71.here hx rfl (pc0 := 168) (pc' := 172) rfl (hb hby at_168) (by decide) (by decide) k) ?_
  show Gets p e below _ (T71.setTop (mkF m 172 #[.val (.int p1), .val (.ref b1), .val (.ref b70_53_28), .val (.ref b1_31)] [(.int (1 : Int32))]))
  refine Gets.retN X71 hx (t := .boolean) Bd.returns (by simp) (hb hby at_172) ?_ (by decide) (by decide)
  rw [eq71]
  exact ⟨N71, K32, rfl⟩
set_option maxRecDepth 65536 in
set_option maxHeartbeats 40000000 in
theorem comes_1 {Post : Tables → Env → Array Value → State → Outcome → State → Prop} (hpost : ∀ tb e args s v u, (limb_1_1.after args s (.returned v) u = true ∧ limb_1_2.after args s (.returned v) u = true ∧ True) → FrameEnd s (.returned v) u (Jvm.fieldLocs frame_1_writes args s ++ Jvm.arrayLocs frame_1_arrays args s ++ Jvm.staticLocs frame_1_statics s) 88 256 → Post tb e args s (.returned v) u) :
    ArmFor flags0 classFile x code maxLocals ret World_1 tables_1 room_1 Calls_1 rest_1 Pre_1 Post := by
  intro l hfl _ _ p e ha hc hk s m args below hf hA hF happ hP
  obtain ⟨hcalls, hrest, hpre⟩ := hP
  obtain ⟨-, -, -, hnamed, -, -, -, hat⟩ := (Spec.applies_iff hf).mp happ
  obtain ⟨hg, hn⟩ := and_e (Cond.before_iff.mp (show (Jvm.Cond.and given_1 narrow_1).before args s = true from hpre))
  obtain ⟨hcount, hk0⟩ := and_e hg
  have hi0 := hk0
  obtain ⟨w0, rfl⟩ : ∃ w0 : Value, args = #[w0] := by
    have hs : args.size = 1 := by simpa [Cond.value, given_1] using hcount
    obtain ⟨L⟩ := args
    match L, hs with
    | [w0], _ => exact ⟨w0, rfl⟩
  have hw := fun d (hd : d ∈ tables_1) => atoms_spec (ws := Jvm.Cond.code x code maxLocals ret :: tables_1) hat d (List.mem_cons_of_mem _ hd)
  have hfit : Fit s := fun {y c} hc i hi => by
    obtain ⟨ha, rfl⟩ := Array.getElem?_eq_some_iff.mp hc
    have q := List.all_eq_true.mp ((Array.all_eq_true_iff_forall_mem.mp hF) _ (Array.getElem_mem ha)) i (List.mem_range.mpr hi)
    simpa [Array.getElem?_eq_getElem hi] using q
  obtain ⟨i0, ei0⟩ := is_v hi0
  obtain rfl : w0 = (.int i0) := Option.some.inj ei0
  obtain ⟨n, o, h1, h2, h3, _, L, rfl, ⟨N, -, hR⟩, hq⟩ := rm_law l s _ hw tables_1 i0 s.heap s.heap.size (Old.start s)  p e ha hc hk s m _ below hf ((Spec.applies_iff_loose hf).mp happ).1 ⟨rfl, State.Warmed39.refl s, rfl⟩ trivial
  obtain rfl := hR
  refine ⟨n, _, h1, h2, h3, hpost _ _ _ _ _ _ ⟨Cond.after_iff.mpr rfl, Cond.after_iff.mpr (eq_i res_at (Term.int_eval (1)) rfl), trivial⟩ ⟨hq.1, hq.2.1, (hq.2.2.sift fun y hy => Or.inr (N y hy)).mono (by decide) (by decide)⟩⟩
theorem main_1_1 : Claimed_1_1 := comes_1 fun _ _ _ _ _ _ h hF => ⟨h.1, hF⟩
theorem main_1_2 : Claimed_1_2 := comes_1 fun _ _ _ _ _ _ h hF => ⟨h.2.1, hF⟩
end Jvm.Pilot.@@N@@
namespace Jvm.Pilot.@@N@@
open Jvm Jvm.ClassFile Sem Op Lib Jvm.Free Jvm.Stand Jvm.Pilot.@@N@@.Jvm.D
/-! MADE BY PROGRAM (witnessworld.py) out of the Statement's table words and the real class files: 14 classes; the members and pool entries that the words name. The judged class is class 1, her method 3. -/
namespace start1
open Jvm.ClassFile
def u (s : String) : CpInfo := .utf8 (stringToUtf16 s)
/-- a pool by its gaps: so many unusable entries, then the entry; so many at the end -/
def gap : Nat → List CpInfo → List CpInfo
  | 0, r => r
  | n + 1, r => .unusable :: gap n r
def poolList (es : List (Nat × CpInfo)) (last : Nat) : List CpInfo := es.foldr (fun e r => gap e.1 (e.2 :: r)) (gap last [])
def pool (es : List (Nat × CpInfo)) (last : Nat) : Array CpInfo := ⟨poolList es last⟩
def fileOf (pool : Array CpInfo) (this : Nat) (attrs : Array Attribute := #[]) (ms : Array MethodInfo := #[]) (fl : Nat := 33) (sup : Nat := 0) (ifs : Array Nat := #[]) (fds : Array FieldInfo := #[]) : ClassFile where
  minorVersion := 0
  majorVersion := 65
  constantPool := pool
  accessFlags := fl
  thisClass := this
  superClass := sup
  interfaces := ifs
  fields := fds
  methods := ms
  attributes := attrs
def plain (name : String) (sup : Option ClassId) : Class where
  name := name
  kind := .ordinary
  loader := none
  accessFlags := 33
  super := sup
  interfaces := #[]
  cf := none
  fields := #[]
  methods := #[]
  instanceTypes := #[]
  staticTypes := #[]
  resolved := #[]
  callSites := []
  init := .initialized
  statics := none
  mirror := none

def pool0 : Array CpInfo := pool [(5, u "<init>"), (0, u "()V"), (1, .class_ 10), (1, u "java/lang/Object"), (85, u "clone"), (0, u "()Ljava/lang/Object;")] 26

def k0c0 : Code := { maxStack := 0, maxLocals := 1, code := object_method_1_code, exceptionTable := #[], attributes := #[] }
def k0m0 : Method := { name := "<init>", desc := "()V", sig := { parameters := [], returnType := none }, accessFlags := 1, code := some k0c0 }
def k0m1 : Method := { name := "clone", desc := "()Ljava/lang/Object;", sig := { parameters := [], returnType := some (.object "java/lang/Object") }, accessFlags := 260, code := none }
/-- java/lang/Object -/
def k0 : Class := { plain "java/lang/Object" none with
  accessFlags := 33
  interfaces := #[]
  cf := some (fileOf pool0 8 #[] #[{ accessFlags := 1, nameIndex := 5, descriptorIndex := 6, attributes := #[] }, { accessFlags := 260, nameIndex := 96, descriptorIndex := 97, attributes := #[] }] 33 0 #[] #[])
  fields := #[]
  methods := #[k0m0, k0m1]
  instanceTypes := #[]
  staticTypes := #[]
  resolved := Array.replicate 124 none
  statics := none }

def pool1 : Array CpInfo := pool [(2, .class_ 4), (1, u "java/lang/Object"), (0, u "<init>"), (0, u "()V"), (0, .class_ 8), (0, u "com/example/unea/unea/analysis/SparsePattern"), (0, .methodref 7 10), (0, .nameAndType 5 11), (0, u "([I[I)V"), (0, .methodref 13 14), (0, .class_ 15), (0, .nameAndType 16 17), (0, u "com/example/unea/unea/analysis/Supernodes"), (0, u "of"), (0, u "(Lcom/example/unea/unea/analysis/SparsePattern;[I)Lcom/example/unea/unea/analysis/Supernodes;"), (0, .methodref 13 19), (0, .nameAndType 20 21), (0, u "single"), (0, u "()Lcom/example/unea/unea/analysis/Supernodes;"), (0, .fieldref 13 23), (0, .nameAndType 24 25), (0, u "count"), (0, u "I"), (0, .fieldref 13 27), (0, .nameAndType 28 29), (0, u "order"), (0, u "[I"), (0, .methodref 31 32), (0, .class_ 33), (0, .nameAndType 34 35), (0, u "com/example/unea/unea/analysis/SupernodesSinglePinLaw"), (0, u "eq1"), (0, u "([I[I)Z"), (0, .fieldref 13 37), (0, .nameAndType 38 29), (0, u "step"), (0, .fieldref 13 40), (0, .nameAndType 41 29), (0, u "first"), (0, .methodref 31 43), (0, .nameAndType 44 35), (0, u "eq2"), (0, .fieldref 13 46), (0, .nameAndType 47 29), (0, u "frontStart"), (0, .fieldref 13 49), (0, .nameAndType 50 29), (0, u "front"), (0, .fieldref 13 52), (0, .nameAndType 53 29), (0, u "parent"), (0, .methodref 13 55), (0, .nameAndType 56 57), (0, u "width"), (0, u "(I)I"), (0, .methodref 13 59), (0, .nameAndType 60 57), (0, u "frontSize"), (3, u "law"), (0, u "(I)Z")] 2

def k1m0 : Method := { name := "<init>", desc := "()V", sig := { parameters := [], returnType := none }, accessFlags := 2, code := none }
def k1c1 : Code := { maxStack := 3, maxLocals := 2, code := method_2_code, exceptionTable := #[], attributes := #[] }
def k1m1 : Method := { name := "eq1", desc := "([I[I)Z", sig := { parameters := [(.array .int), (.array .int)], returnType := some .boolean }, accessFlags := 10, code := some k1c1 }
def k1c2 : Code := { maxStack := 3, maxLocals := 2, code := method_3_code, exceptionTable := #[], attributes := #[] }
def k1m2 : Method := { name := "eq2", desc := "([I[I)Z", sig := { parameters := [(.array .int), (.array .int)], returnType := some .boolean }, accessFlags := 10, code := some k1c2 }
def k1c3 : Code := { maxStack := 6, maxLocals := 4, code := code, exceptionTable := #[], attributes := #[] }
def k1m3 : Method := { name := "law", desc := "(I)Z", sig := { parameters := [.int], returnType := some .boolean }, accessFlags := 9, code := some k1c3 }
/-- com/example/unea/unea/analysis/SupernodesSinglePinLaw -/
def k1 : Class := { plain "com/example/unea/unea/analysis/SupernodesSinglePinLaw" (some 0) with
  accessFlags := 49
  interfaces := #[]
  cf := some (fileOf pool1 31 #[] #[{ accessFlags := 2, nameIndex := 5, descriptorIndex := 6, attributes := #[] }, { accessFlags := 10, nameIndex := 34, descriptorIndex := 35, attributes := #[] }, { accessFlags := 10, nameIndex := 44, descriptorIndex := 35, attributes := #[] }, { accessFlags := 9, nameIndex := 64, descriptorIndex := 65, attributes := #[] }] 49 2 #[] #[])
  fields := #[]
  methods := #[k1m0, k1m1, k1m2, k1m3]
  instanceTypes := #[]
  staticTypes := #[]
  resolved := Array.replicate 68 none
  statics := none }

def pool2 : Array CpInfo := pool [(1, .methodref 2 3), (0, .class_ 4), (0, .nameAndType 5 6), (0, u "java/lang/Object"), (0, u "<init>"), (0, u "()V"), (0, .fieldref 8 9), (0, .class_ 10), (0, .nameAndType 11 12), (0, u "com/example/unea/unea/analysis/SparsePattern"), (0, u "start"), (0, u "[I"), (0, .fieldref 8 14), (0, .nameAndType 15 12), (0, u "neighbour"), (0, u "([I[I)V"), (2, u "size"), (0, u "()I"), (0, u "degree"), (0, u "(I)I")] 2

def k2c0 : Code := { maxStack := 2, maxLocals := 3, code := prog_14_method_1_code, exceptionTable := #[], attributes := #[] }
def k2m0 : Method := { name := "<init>", desc := "([I[I)V", sig := { parameters := [(.array .int), (.array .int)], returnType := none }, accessFlags := 0, code := some k2c0 }
def k2c1 : Code := { maxStack := 2, maxLocals := 1, code := prog_14_method_2_code, exceptionTable := #[], attributes := #[] }
def k2m1 : Method := { name := "size", desc := "()I", sig := { parameters := [], returnType := some .int }, accessFlags := 0, code := some k2c1 }
def k2c2 : Code := { maxStack := 3, maxLocals := 2, code := prog_14_method_3_code, exceptionTable := #[], attributes := #[] }
def k2m2 : Method := { name := "degree", desc := "(I)I", sig := { parameters := [.int], returnType := some .int }, accessFlags := 0, code := some k2c2 }
/-- com/example/unea/unea/analysis/SparsePattern -/
def k2 : Class := { plain "com/example/unea/unea/analysis/SparsePattern" (some 0) with
  accessFlags := 48
  interfaces := #[]
  cf := some (fileOf pool2 8 #[] #[{ accessFlags := 0, nameIndex := 5, descriptorIndex := 16, attributes := #[] }, { accessFlags := 0, nameIndex := 19, descriptorIndex := 20, attributes := #[] }, { accessFlags := 0, nameIndex := 21, descriptorIndex := 22, attributes := #[] }] 48 2 #[] #[{ accessFlags := 16, nameIndex := 11, descriptorIndex := 12, attributes := #[] }, { accessFlags := 16, nameIndex := 15, descriptorIndex := 12, attributes := #[] }])
  fields := #[{ name := "start", type := (.array .int), accessFlags := 16, slot := 0, constantValue := 0 }, { name := "neighbour", type := (.array .int), accessFlags := 16, slot := 1, constantValue := 0 }]
  methods := #[k2m0, k2m1, k2m2]
  instanceTypes := #[(.array .int), (.array .int)]
  staticTypes := #[]
  resolved := Array.replicate 25 none
  statics := none }

def pool3 : Array CpInfo := pool [(1, .methodref 2 3), (0, .class_ 4), (0, .nameAndType 5 6), (0, u "java/lang/Object"), (0, u "<init>"), (0, u "()V"), (0, .fieldref 8 9), (0, .class_ 10), (0, .nameAndType 11 12), (0, u "com/example/unea/unea/analysis/Supernodes"), (0, u "order"), (0, u "[I"), (0, .fieldref 8 14), (0, .nameAndType 15 12), (0, u "step"), (0, .fieldref 8 17), (0, .nameAndType 18 19), (0, u "count"), (0, u "I"), (0, .fieldref 8 21), (0, .nameAndType 22 12), (0, u "first"), (0, .fieldref 8 24), (0, .nameAndType 25 12), (0, u "frontStart"), (0, .fieldref 8 27), (0, .nameAndType 28 12), (0, u "front"), (0, .fieldref 8 30), (0, .nameAndType 31 12), (0, u "parent"), (0, .methodref 33 34), (0, .class_ 35), (0, .nameAndType 36 37), (0, u "com/example/unea/unea/analysis/SparsePattern"), (0, u "size"), (0, u "()I"), (0, .methodref 8 39), (0, .nameAndType 40 41), (0, u "inverse"), (0, u "([I)[I"), (0, .methodref 8 43), (0, .nameAndType 44 45), (0, u "eliminationTree"), (0, u "(Lcom/example/unea/unea/analysis/SparsePattern;[I[I)[I"), (0, .methodref 8 47), (0, .nameAndType 48 41), (0, u "postorder"), (0, .methodref 8 50), (0, .nameAndType 51 52), (0, u "columnCounts"), (0, u "(Lcom/example/unea/unea/analysis/SparsePattern;[I[I[I)[I"), (0, .methodref 8 54), (0, .nameAndType 55 56), (0, u "fundamental"), (0, u "([I[I)[I"), (0, .methodref 8 58), (0, .nameAndType 59 60), (0, u "amalgamate"), (0, u "([I[I[I)[I"), (0, .methodref 8 62), (0, .nameAndType 63 64), (0, u "fronts"), (0, u "(Lcom/example/unea/unea/analysis/SparsePattern;[I[I[I)Lcom/example/unea/unea/analysis/Supernodes;"), (0, .methodref 8 66), (0, .nameAndType 5 67), (0, u "([I[I[I[I[I[I)V"), (1, .class_ 71), (1, u "java/util/Arrays"), (2, .methodref 69 75), (0, .nameAndType 76 77), (0, u "fill"), (0, u "([II)V"), (0, .fieldref 33 79), (0, .nameAndType 80 12), (0, u "start"), (0, .fieldref 33 82), (0, .nameAndType 83 12), (0, u "neighbour"), (0, .methodref 69 85), (0, .nameAndType 86 87), (0, u "copyOf"), (0, u "([II)[I"), (22, .methodref 111 112), (0, .class_ 113), (0, .nameAndType 114 115), (0, u "java/lang/Math"), (0, u "max"), (0, u "(II)I"), (0, .methodref 8 117), (0, .nameAndType 118 119), (0, u "room"), (0, u "([III)[I"), (0, .methodref 33 121), (0, .nameAndType 122 123), (0, u "degree"), (0, u "(I)I"), (0, .methodref 69 125), (0, .nameAndType 126 127), (0, u "sort"), (0, u "([III)V"), (5, u "of"), (0, u "(Lcom/example/unea/unea/analysis/SparsePattern;[I)Lcom/example/unea/unea/analysis/Supernodes;"), (2, u "single"), (0, u "()Lcom/example/unea/unea/analysis/Supernodes;"), (0, u "width"), (0, u "frontSize")] 2

def k3c0 : Code := { maxStack := 3, maxLocals := 7, code := prog_15_method_1_code, exceptionTable := #[], attributes := #[] }
def k3m0 : Method := { name := "<init>", desc := "([I[I[I[I[I[I)V", sig := { parameters := [(.array .int), (.array .int), (.array .int), (.array .int), (.array .int), (.array .int)], returnType := none }, accessFlags := 2, code := some k3c0 }
def k3c1 : Code := { maxStack := 5, maxLocals := 11, code := prog_15_method_2_code, exceptionTable := #[], attributes := #[] }
def k3m1 : Method := { name := "of", desc := "(Lcom/example/unea/unea/analysis/SparsePattern;[I)Lcom/example/unea/unea/analysis/Supernodes;", sig := { parameters := [(.object "com/example/unea/unea/analysis/SparsePattern"), (.array .int)], returnType := some (.object "com/example/unea/unea/analysis/Supernodes") }, accessFlags := 8, code := some k3c1 }
def k3c2 : Code := { maxStack := 11, maxLocals := 0, code := prog_15_method_3_code, exceptionTable := #[], attributes := #[] }
def k3m2 : Method := { name := "single", desc := "()Lcom/example/unea/unea/analysis/Supernodes;", sig := { parameters := [], returnType := some (.object "com/example/unea/unea/analysis/Supernodes") }, accessFlags := 8, code := some k3c2 }
def k3c3 : Code := { maxStack := 3, maxLocals := 2, code := prog_15_method_4_code, exceptionTable := #[], attributes := #[] }
def k3m3 : Method := { name := "width", desc := "(I)I", sig := { parameters := [.int], returnType := some .int }, accessFlags := 0, code := some k3c3 }
def k3c4 : Code := { maxStack := 3, maxLocals := 2, code := prog_15_method_5_code, exceptionTable := #[], attributes := #[] }
def k3m4 : Method := { name := "frontSize", desc := "(I)I", sig := { parameters := [.int], returnType := some .int }, accessFlags := 0, code := some k3c4 }
def k3c5 : Code := { maxStack := 3, maxLocals := 3, code := prog_15_method_7_code, exceptionTable := #[], attributes := #[] }
def k3m5 : Method := { name := "inverse", desc := "([I)[I", sig := { parameters := [(.array .int)], returnType := some (.array .int) }, accessFlags := 10, code := some k3c5 }
def k3c6 : Code := { maxStack := 4, maxLocals := 11, code := prog_15_method_8_code, exceptionTable := #[], attributes := #[] }
def k3m6 : Method := { name := "eliminationTree", desc := "(Lcom/example/unea/unea/analysis/SparsePattern;[I[I)[I", sig := { parameters := [(.object "com/example/unea/unea/analysis/SparsePattern"), (.array .int), (.array .int)], returnType := some (.array .int) }, accessFlags := 10, code := some k3c6 }
def k3c7 : Code := { maxStack := 5, maxLocals := 11, code := prog_15_method_9_code, exceptionTable := #[], attributes := #[] }
def k3m7 : Method := { name := "postorder", desc := "([I)[I", sig := { parameters := [(.array .int)], returnType := some (.array .int) }, accessFlags := 10, code := some k3c7 }
def k3c8 : Code := { maxStack := 4, maxLocals := 12, code := prog_15_method_10_code, exceptionTable := #[], attributes := #[] }
def k3m8 : Method := { name := "columnCounts", desc := "(Lcom/example/unea/unea/analysis/SparsePattern;[I[I[I)[I", sig := { parameters := [(.object "com/example/unea/unea/analysis/SparsePattern"), (.array .int), (.array .int), (.array .int)], returnType := some (.array .int) }, accessFlags := 10, code := some k3c8 }
def k3c9 : Code := { maxStack := 4, maxLocals := 8, code := prog_15_method_11_code, exceptionTable := #[], attributes := #[] }
def k3m9 : Method := { name := "fundamental", desc := "([I[I)[I", sig := { parameters := [(.array .int), (.array .int)], returnType := some (.array .int) }, accessFlags := 10, code := some k3c9 }
def k3c10 : Code := { maxStack := 6, maxLocals := 26, code := prog_15_method_12_code, exceptionTable := #[], attributes := #[] }
def k3m10 : Method := { name := "amalgamate", desc := "([I[I[I)[I", sig := { parameters := [(.array .int), (.array .int), (.array .int)], returnType := some (.array .int) }, accessFlags := 10, code := some k3c10 }
def k3c11 : Code := { maxStack := 8, maxLocals := 21, code := prog_15_method_15_code, exceptionTable := #[], attributes := #[] }
def k3m11 : Method := { name := "fronts", desc := "(Lcom/example/unea/unea/analysis/SparsePattern;[I[I[I)Lcom/example/unea/unea/analysis/Supernodes;", sig := { parameters := [(.object "com/example/unea/unea/analysis/SparsePattern"), (.array .int), (.array .int), (.array .int)], returnType := some (.object "com/example/unea/unea/analysis/Supernodes") }, accessFlags := 10, code := some k3c11 }
def k3c12 : Code := { maxStack := 5, maxLocals := 4, code := prog_15_method_16_code, exceptionTable := #[], attributes := #[] }
def k3m12 : Method := { name := "room", desc := "([III)[I", sig := { parameters := [(.array .int), .int, .int], returnType := some (.array .int) }, accessFlags := 10, code := some k3c12 }
/-- com/example/unea/unea/analysis/Supernodes -/
def k3 : Class := { plain "com/example/unea/unea/analysis/Supernodes" (some 0) with
  accessFlags := 48
  interfaces := #[]
  cf := some (fileOf pool3 8 #[] #[{ accessFlags := 2, nameIndex := 5, descriptorIndex := 67, attributes := #[] }, { accessFlags := 8, nameIndex := 133, descriptorIndex := 134, attributes := #[] }, { accessFlags := 8, nameIndex := 137, descriptorIndex := 138, attributes := #[] }, { accessFlags := 0, nameIndex := 139, descriptorIndex := 123, attributes := #[] }, { accessFlags := 0, nameIndex := 140, descriptorIndex := 123, attributes := #[] }, { accessFlags := 10, nameIndex := 40, descriptorIndex := 41, attributes := #[] }, { accessFlags := 10, nameIndex := 44, descriptorIndex := 45, attributes := #[] }, { accessFlags := 10, nameIndex := 48, descriptorIndex := 41, attributes := #[] }, { accessFlags := 10, nameIndex := 51, descriptorIndex := 52, attributes := #[] }, { accessFlags := 10, nameIndex := 55, descriptorIndex := 56, attributes := #[] }, { accessFlags := 10, nameIndex := 59, descriptorIndex := 60, attributes := #[] }, { accessFlags := 10, nameIndex := 63, descriptorIndex := 64, attributes := #[] }, { accessFlags := 10, nameIndex := 118, descriptorIndex := 119, attributes := #[] }] 48 2 #[] #[{ accessFlags := 16, nameIndex := 11, descriptorIndex := 12, attributes := #[] }, { accessFlags := 16, nameIndex := 15, descriptorIndex := 12, attributes := #[] }, { accessFlags := 16, nameIndex := 18, descriptorIndex := 19, attributes := #[] }, { accessFlags := 16, nameIndex := 22, descriptorIndex := 12, attributes := #[] }, { accessFlags := 16, nameIndex := 25, descriptorIndex := 12, attributes := #[] }, { accessFlags := 16, nameIndex := 28, descriptorIndex := 12, attributes := #[] }, { accessFlags := 16, nameIndex := 31, descriptorIndex := 12, attributes := #[] }])
  fields := #[{ name := "order", type := (.array .int), accessFlags := 16, slot := 0, constantValue := 0 }, { name := "step", type := (.array .int), accessFlags := 16, slot := 1, constantValue := 0 }, { name := "count", type := .int, accessFlags := 16, slot := 2, constantValue := 0 }, { name := "first", type := (.array .int), accessFlags := 16, slot := 3, constantValue := 0 }, { name := "frontStart", type := (.array .int), accessFlags := 16, slot := 4, constantValue := 0 }, { name := "front", type := (.array .int), accessFlags := 16, slot := 5, constantValue := 0 }, { name := "parent", type := (.array .int), accessFlags := 16, slot := 6, constantValue := 0 }]
  methods := #[k3m0, k3m1, k3m2, k3m3, k3m4, k3m5, k3m6, k3m7, k3m8, k3m9, k3m10, k3m11, k3m12]
  instanceTypes := #[(.array .int), (.array .int), .int, (.array .int), (.array .int), (.array .int), (.array .int)]
  staticTypes := #[]
  resolved := Array.replicate 143 none
  statics := none }

def pool4 : Array CpInfo := pool [(2, .class_ 4), (1, u "java/lang/Object"), (0, u "<init>"), (0, u "()V"), (0, .methodref 8 9), (0, .class_ 10), (0, .nameAndType 11 12), (0, u "java/util/DualPivotQuicksort"), (0, u "sort"), (0, u "([IIII)V"), (0, .methodref 14 15), (0, .class_ 16), (0, .nameAndType 17 18), (0, u "java/util/Arrays"), (0, u "rangeCheck"), (0, u "(III)V"), (55, .class_ 76), (1, u "java/util/Arrays$NaturalOrder"), (32, u "()Ljava/lang/Object;"), (3, .class_ 115), (1, u "java/util/Arrays$LegacyMergeSort"), (1, u "Z"), (10, .nameAndType 129 109), (0, u "clone"), (20, .methodref 151 152), (0, .class_ 153), (0, .nameAndType 154 155), (0, u "java/lang/System"), (0, u "arraycopy"), (0, u "(Ljava/lang/Object;ILjava/lang/Object;II)V"), (146, u "copyOf"), (1, .methodref 305 306), (0, .class_ 307), (0, .nameAndType 308 309), (0, u "java/lang/Math"), (0, u "min"), (0, u "(II)I"), (6, .methodref 317 128), (0, .class_ 318), (0, u "[I"), (56, .class_ 376), (0, u "java/util/Arrays$ArrayList"), (68, u "$assertionsDisabled"), (269, u "MIN_ARRAY_SORT_GRAN"), (0, u "I"), (2, u "INSERTIONSORT_THRESHOLD"), (8, u "([III)V"), (111, u "fill"), (4, u "([II)V"), (25, u "([II)[I"), (103, .class_ 976), (0, u "java/util/Arrays$ArrayItr")] 52

def k4m0 : Method := { name := "<init>", desc := "()V", sig := { parameters := [], returnType := none }, accessFlags := 2, code := none }
def k4c1 : Code := { maxStack := 4, maxLocals := 3, code := jdk_65_method_3_code, exceptionTable := #[], attributes := #[] }
def k4m1 : Method := { name := "sort", desc := "([III)V", sig := { parameters := [(.array .int), .int, .int], returnType := none }, accessFlags := 9, code := some k4c1 }
def k4c2 : Code := { maxStack := 4, maxLocals := 3, code := jdk_65_method_30_code, exceptionTable := #[], attributes := #[] }
def k4m2 : Method := { name := "rangeCheck", desc := "(III)V", sig := { parameters := [.int, .int, .int], returnType := none }, accessFlags := 8, code := some k4c2 }
def k4c3 : Code := { maxStack := 3, maxLocals := 4, code := jdk_65_method_103_code, exceptionTable := #[], attributes := #[] }
def k4m3 : Method := { name := "fill", desc := "([II)V", sig := { parameters := [(.array .int), .int], returnType := none }, accessFlags := 9, code := some k4c3 }
def k4c4 : Code := { maxStack := 6, maxLocals := 3, code := jdk_65_method_123_code, exceptionTable := #[], attributes := #[] }
def k4m4 : Method := { name := "copyOf", desc := "([II)[I", sig := { parameters := [(.array .int), .int], returnType := some (.array .int) }, accessFlags := 9, code := some k4c4 }
/-- java/util/Arrays -/
def k4 : Class := { plain "java/util/Arrays" (some 0) with
  accessFlags := 49
  interfaces := #[]
  cf := some (fileOf pool4 14 #[.nestMembers #[975, 375, 113, 74]] #[{ accessFlags := 2, nameIndex := 5, descriptorIndex := 6, attributes := #[] }, { accessFlags := 9, nameIndex := 11, descriptorIndex := 728, attributes := #[] }, { accessFlags := 8, nameIndex := 17, descriptorIndex := 18, attributes := #[] }, { accessFlags := 9, nameIndex := 840, descriptorIndex := 845, attributes := #[] }, { accessFlags := 9, nameIndex := 302, descriptorIndex := 871, attributes := #[] }] 49 2 #[] #[{ accessFlags := 26, nameIndex := 715, descriptorIndex := 716, attributes := #[] }, { accessFlags := 26, nameIndex := 719, descriptorIndex := 716, attributes := #[] }, { accessFlags := 4120, nameIndex := 445, descriptorIndex := 117, attributes := #[] }])
  fields := #[{ name := "MIN_ARRAY_SORT_GRAN", type := .int, accessFlags := 26, slot := 0, constantValue := 0 }, { name := "INSERTIONSORT_THRESHOLD", type := .int, accessFlags := 26, slot := 1, constantValue := 0 }, { name := "$assertionsDisabled", type := .boolean, accessFlags := 4120, slot := 2, constantValue := 0 }]
  methods := #[k4m0, k4m1, k4m2, k4m3, k4m4]
  instanceTypes := #[]
  staticTypes := #[.int, .int, .boolean]
  resolved := Array.replicate 1029 none
  statics := none }

def pool5 : Array CpInfo := pool [(1, .class_ 2), (0, u "java/lang/Cloneable"), (0, .class_ 4), (0, u "java/lang/Object")] 2

/-- java/lang/Cloneable -/
def k5 : Class := { plain "java/lang/Cloneable" (some 0) with
  accessFlags := 1537
  interfaces := #[]
  cf := some (fileOf pool5 1 #[] #[] 1537 3 #[] #[])
  fields := #[]
  methods := #[]
  instanceTypes := #[]
  staticTypes := #[]
  resolved := Array.replicate 7 none
  statics := none }

def pool6 : Array CpInfo := pool [(1, .class_ 2), (0, u "java/lang/Math"), (1, .class_ 6), (1, u "java/lang/Object"), (0, u "<init>"), (0, u "()V"), (89, .class_ 100), (1, u "java/lang/Math$RandomNumberGeneratorHolder"), (71, u "negativeZeroFloatBits"), (0, u "J"), (2, u "negativeZeroDoubleBits"), (21, u "max"), (2, u "min"), (43, u "$assertionsDisabled"), (0, u "Z"), (88, u "(II)I"), (2, u "twoToTheDoubleScaleDown"), (0, u "D"), (4, u "twoToTheDoubleScaleUp"), (9, u "E"), (3, u "PI"), (2, u "TAU"), (2, u "DEGREES_TO_RADIANS"), (0, u "RADIANS_TO_DEGREES")] 94

def k6m0 : Method := { name := "<init>", desc := "()V", sig := { parameters := [], returnType := none }, accessFlags := 2, code := none }
def k6c1 : Code := { maxStack := 2, maxLocals := 2, code := jdk_29_method_65_code, exceptionTable := #[], attributes := #[] }
def k6m1 : Method := { name := "max", desc := "(II)I", sig := { parameters := [.int, .int], returnType := some .int }, accessFlags := 9, code := some k6c1 }
def k6c2 : Code := { maxStack := 2, maxLocals := 2, code := jdk_29_method_69_code, exceptionTable := #[], attributes := #[] }
def k6m2 : Method := { name := "min", desc := "(II)I", sig := { parameters := [.int, .int], returnType := some .int }, accessFlags := 9, code := some k6c2 }
/-- java/lang/Math -/
def k6 : Class := { plain "java/lang/Math" (some 0) with
  accessFlags := 49
  interfaces := #[]
  cf := some (fileOf pool6 1 #[.nestMembers #[98]] #[{ accessFlags := 2, nameIndex := 7, descriptorIndex := 8, attributes := #[] }, { accessFlags := 9, nameIndex := 198, descriptorIndex := 335, attributes := #[] }, { accessFlags := 9, nameIndex := 201, descriptorIndex := 335, attributes := #[] }] 49 4 #[] #[{ accessFlags := 25, nameIndex := 354, descriptorIndex := 339, attributes := #[] }, { accessFlags := 25, nameIndex := 358, descriptorIndex := 339, attributes := #[] }, { accessFlags := 25, nameIndex := 361, descriptorIndex := 339, attributes := #[] }, { accessFlags := 26, nameIndex := 364, descriptorIndex := 339, attributes := #[] }, { accessFlags := 26, nameIndex := 365, descriptorIndex := 339, attributes := #[] }, { accessFlags := 26, nameIndex := 172, descriptorIndex := 173, attributes := #[] }, { accessFlags := 26, nameIndex := 176, descriptorIndex := 173, attributes := #[] }, { accessFlags := 8, nameIndex := 344, descriptorIndex := 339, attributes := #[] }, { accessFlags := 8, nameIndex := 338, descriptorIndex := 339, attributes := #[] }, { accessFlags := 4120, nameIndex := 245, descriptorIndex := 246, attributes := #[] }])
  fields := #[{ name := "E", type := .double, accessFlags := 25, slot := 0, constantValue := 0 }, { name := "PI", type := .double, accessFlags := 25, slot := 1, constantValue := 0 }, { name := "TAU", type := .double, accessFlags := 25, slot := 2, constantValue := 0 }, { name := "DEGREES_TO_RADIANS", type := .double, accessFlags := 26, slot := 3, constantValue := 0 }, { name := "RADIANS_TO_DEGREES", type := .double, accessFlags := 26, slot := 4, constantValue := 0 }, { name := "negativeZeroFloatBits", type := .long, accessFlags := 26, slot := 5, constantValue := 0 }, { name := "negativeZeroDoubleBits", type := .long, accessFlags := 26, slot := 6, constantValue := 0 }, { name := "twoToTheDoubleScaleUp", type := .double, accessFlags := 8, slot := 7, constantValue := 0 }, { name := "twoToTheDoubleScaleDown", type := .double, accessFlags := 8, slot := 8, constantValue := 0 }, { name := "$assertionsDisabled", type := .boolean, accessFlags := 4120, slot := 9, constantValue := 0 }]
  methods := #[k6m0, k6m1, k6m2]
  instanceTypes := #[]
  staticTypes := #[.double, .double, .double, .double, .double, .long, .long, .double, .double, .boolean]
  resolved := Array.replicate 460 none
  statics := none }

def pool7 : Array CpInfo := pool [(1, .class_ 2), (0, u "java/util/DualPivotQuicksort"), (5, .class_ 10), (1, u "java/lang/Object"), (0, u "<init>"), (0, u "()V"), (4, .class_ 18), (0, u "java/util/DualPivotQuicksort$Sorter"), (7, .methodref 1 27), (0, .nameAndType 28 29), (0, u "sort"), (0, u "(Ljava/util/DualPivotQuicksort$Sorter;[IIII)V"), (3, u "([IIII)V"), (0, .methodref 1 35), (0, .nameAndType 36 37), (0, u "insertionSort"), (0, u "([III)V"), (30, u "I"), (4, .class_ 74), (0, u "java/util/DualPivotQuicksort$RunMerger"), (10, .class_ 86), (0, u "java/util/DualPivotQuicksort$Merger"), (127, u "MAX_MIXED_INSERTION_SORT_SIZE"), (2, u "MAX_INSERTION_SORT_SIZE"), (1, u "MIN_PARALLEL_SORT_SIZE"), (1, u "MIN_TRY_MERGE_SIZE"), (0, u "MIN_FIRST_RUN_SIZE"), (1, u "MIN_FIRST_RUNS_FACTOR"), (1, u "MAX_RUN_CAPACITY"), (1, u "MIN_RUN_COUNT"), (1, u "MIN_PARALLEL_MERGE_PARTS_SIZE"), (0, u "MIN_BYTE_COUNTING_SORT_SIZE"), (1, u "MIN_SHORT_OR_CHAR_COUNTING_SORT_SIZE"), (1, u "DELTA"), (1, u "MAX_RECURSION_DEPTH"), (1, u "NUM_BYTE_VALUES"), (1, u "MAX_BYTE_INDEX"), (0, u "NUM_CHAR_VALUES"), (0, u "NUM_SHORT_VALUES"), (0, u "MAX_SHORT_INDEX")] 86

def k7m0 : Method := { name := "<init>", desc := "()V", sig := { parameters := [], returnType := none }, accessFlags := 2, code := none }
def k7c1 : Code := { maxStack := 9, maxLocals := 7, code := jdk_2529_method_3_code, exceptionTable := #[], attributes := #[] }
def k7m1 : Method := { name := "sort", desc := "([IIII)V", sig := { parameters := [(.array .int), .int, .int, .int], returnType := none }, accessFlags := 8, code := some k7c1 }
def k7c2 : Code := { maxStack := 6, maxLocals := 21, code := jdk_2529_method_4_code, exceptionTable := #[], attributes := #[] }
def k7m2 : Method := { name := "sort", desc := "(Ljava/util/DualPivotQuicksort$Sorter;[IIII)V", sig := { parameters := [(.object "java/util/DualPivotQuicksort$Sorter"), (.array .int), .int, .int, .int], returnType := none }, accessFlags := 8, code := some k7c2 }
def k7c3 : Code := { maxStack := 4, maxLocals := 6, code := jdk_2529_method_6_code, exceptionTable := #[], attributes := #[] }
def k7m3 : Method := { name := "insertionSort", desc := "([III)V", sig := { parameters := [(.array .int), .int, .int], returnType := none }, accessFlags := 10, code := some k7c3 }
/-- java/util/DualPivotQuicksort -/
def k7 : Class := { plain "java/util/DualPivotQuicksort" (some 0) with
  accessFlags := 48
  interfaces := #[]
  cf := some (fileOf pool7 1 #[.nestMembers #[73, 85, 17]] #[{ accessFlags := 2, nameIndex := 11, descriptorIndex := 12, attributes := #[] }, { accessFlags := 8, nameIndex := 28, descriptorIndex := 33, attributes := #[] }, { accessFlags := 8, nameIndex := 28, descriptorIndex := 29, attributes := #[] }, { accessFlags := 10, nameIndex := 36, descriptorIndex := 37, attributes := #[] }] 48 8 #[] #[{ accessFlags := 26, nameIndex := 214, descriptorIndex := 68, attributes := #[] }, { accessFlags := 26, nameIndex := 217, descriptorIndex := 68, attributes := #[] }, { accessFlags := 26, nameIndex := 219, descriptorIndex := 68, attributes := #[] }, { accessFlags := 26, nameIndex := 221, descriptorIndex := 68, attributes := #[] }, { accessFlags := 26, nameIndex := 222, descriptorIndex := 68, attributes := #[] }, { accessFlags := 26, nameIndex := 224, descriptorIndex := 68, attributes := #[] }, { accessFlags := 26, nameIndex := 226, descriptorIndex := 68, attributes := #[] }, { accessFlags := 26, nameIndex := 228, descriptorIndex := 68, attributes := #[] }, { accessFlags := 26, nameIndex := 230, descriptorIndex := 68, attributes := #[] }, { accessFlags := 26, nameIndex := 231, descriptorIndex := 68, attributes := #[] }, { accessFlags := 26, nameIndex := 233, descriptorIndex := 68, attributes := #[] }, { accessFlags := 26, nameIndex := 235, descriptorIndex := 68, attributes := #[] }, { accessFlags := 26, nameIndex := 237, descriptorIndex := 68, attributes := #[] }, { accessFlags := 26, nameIndex := 239, descriptorIndex := 68, attributes := #[] }, { accessFlags := 26, nameIndex := 241, descriptorIndex := 68, attributes := #[] }, { accessFlags := 26, nameIndex := 242, descriptorIndex := 68, attributes := #[] }, { accessFlags := 26, nameIndex := 243, descriptorIndex := 68, attributes := #[] }, { accessFlags := 26, nameIndex := 244, descriptorIndex := 68, attributes := #[] }])
  fields := #[{ name := "MAX_MIXED_INSERTION_SORT_SIZE", type := .int, accessFlags := 26, slot := 0, constantValue := 0 }, { name := "MAX_INSERTION_SORT_SIZE", type := .int, accessFlags := 26, slot := 1, constantValue := 0 }, { name := "MIN_PARALLEL_SORT_SIZE", type := .int, accessFlags := 26, slot := 2, constantValue := 0 }, { name := "MIN_TRY_MERGE_SIZE", type := .int, accessFlags := 26, slot := 3, constantValue := 0 }, { name := "MIN_FIRST_RUN_SIZE", type := .int, accessFlags := 26, slot := 4, constantValue := 0 }, { name := "MIN_FIRST_RUNS_FACTOR", type := .int, accessFlags := 26, slot := 5, constantValue := 0 }, { name := "MAX_RUN_CAPACITY", type := .int, accessFlags := 26, slot := 6, constantValue := 0 }, { name := "MIN_RUN_COUNT", type := .int, accessFlags := 26, slot := 7, constantValue := 0 }, { name := "MIN_PARALLEL_MERGE_PARTS_SIZE", type := .int, accessFlags := 26, slot := 8, constantValue := 0 }, { name := "MIN_BYTE_COUNTING_SORT_SIZE", type := .int, accessFlags := 26, slot := 9, constantValue := 0 }, { name := "MIN_SHORT_OR_CHAR_COUNTING_SORT_SIZE", type := .int, accessFlags := 26, slot := 10, constantValue := 0 }, { name := "DELTA", type := .int, accessFlags := 26, slot := 11, constantValue := 0 }, { name := "MAX_RECURSION_DEPTH", type := .int, accessFlags := 26, slot := 12, constantValue := 0 }, { name := "NUM_BYTE_VALUES", type := .int, accessFlags := 26, slot := 13, constantValue := 0 }, { name := "MAX_BYTE_INDEX", type := .int, accessFlags := 26, slot := 14, constantValue := 0 }, { name := "NUM_CHAR_VALUES", type := .int, accessFlags := 26, slot := 15, constantValue := 0 }, { name := "NUM_SHORT_VALUES", type := .int, accessFlags := 26, slot := 16, constantValue := 0 }, { name := "MAX_SHORT_INDEX", type := .int, accessFlags := 26, slot := 17, constantValue := 0 }]
  methods := #[k7m0, k7m1, k7m2, k7m3]
  instanceTypes := #[]
  staticTypes := #[.int, .int, .int, .int, .int, .int, .int, .int, .int, .int, .int, .int, .int, .int, .int, .int, .int, .int]
  resolved := Array.replicate 331 none
  statics := none }

def pool8 : Array CpInfo := pool [(2, .class_ 4), (1, u "java/lang/Object"), (0, u "<init>"), (0, u "()V"), (1, .class_ 10), (1, u "java/lang/System"), (0, u "allowSecurityManager"), (0, u "I"), (16, u "cons"), (0, u "Ljava/io/Console;"), (77, .class_ 110), (1, u "java/lang/System$CallersHolder"), (43, u "initialErrStream"), (0, u "Ljava/io/PrintStream;"), (19, u "security"), (0, u "Ljava/lang/SecurityManager;"), (31, .class_ 209), (0, u "java/lang/System$1"), (7, u "props"), (0, u "Ljava/util/Properties;"), (2, u "lineSeparator"), (0, u "Ljava/lang/String;"), (96, .class_ 321), (1, u "java/lang/System$LoggerFinder"), (5, .class_ 328), (0, u "java/lang/System$Logger"), (67, u "err"), (2, u "out"), (91, u "notSupportedJnuEncoding"), (15, u "in"), (17, u "initialIn"), (0, u "Ljava/io/InputStream;"), (35, u "bootLayer"), (0, u "Ljava/lang/ModuleLayer;"), (99, .class_ 664), (0, u "java/lang/System$2"), (9, u "NEVER"), (2, u "MAYBE"), (49, u "arraycopy"), (0, u "(Ljava/lang/Object;ILjava/lang/Object;II)V"), (72, .class_ 802), (0, u "java/lang/System$Logger$Level")] 31

def k8m0 : Method := { name := "<init>", desc := "()V", sig := { parameters := [], returnType := none }, accessFlags := 2, code := none }
def k8m1 : Method := { name := "arraycopy", desc := "(Ljava/lang/Object;ILjava/lang/Object;II)V", sig := { parameters := [(.object "java/lang/Object"), .int, (.object "java/lang/Object"), .int, .int], returnType := none }, accessFlags := 265, code := none }
/-- java/lang/System -/
def k8 : Class := { plain "java/lang/System" (some 0) with
  accessFlags := 49
  interfaces := #[]
  cf := some (fileOf pool8 8 #[.nestMembers #[319, 327, 801, 108, 663, 208]] #[{ accessFlags := 2, nameIndex := 5, descriptorIndex := 6, attributes := #[] }, { accessFlags := 265, nameIndex := 727, descriptorIndex := 728, attributes := #[] }] 49 2 #[] #[{ accessFlags := 25, nameIndex := 507, descriptorIndex := 526, attributes := #[] }, { accessFlags := 25, nameIndex := 399, descriptorIndex := 155, attributes := #[] }, { accessFlags := 25, nameIndex := 396, descriptorIndex := 155, attributes := #[] }, { accessFlags := 10, nameIndex := 525, descriptorIndex := 526, attributes := #[] }, { accessFlags := 26, nameIndex := 674, descriptorIndex := 12, attributes := #[] }, { accessFlags := 26, nameIndex := 677, descriptorIndex := 12, attributes := #[] }, { accessFlags := 10, nameIndex := 11, descriptorIndex := 12, attributes := #[] }, { accessFlags := 74, nameIndex := 175, descriptorIndex := 176, attributes := #[] }, { accessFlags := 10, nameIndex := 491, descriptorIndex := 222, attributes := #[] }, { accessFlags := 74, nameIndex := 29, descriptorIndex := 30, attributes := #[] }, { accessFlags := 74, nameIndex := 154, descriptorIndex := 155, attributes := #[] }, { accessFlags := 10, nameIndex := 217, descriptorIndex := 218, attributes := #[] }, { accessFlags := 10, nameIndex := 221, descriptorIndex := 222, attributes := #[] }, { accessFlags := 8, nameIndex := 562, descriptorIndex := 563, attributes := #[] }])
  fields := #[{ name := "in", type := (.object "java/io/InputStream"), accessFlags := 25, slot := 0, constantValue := 0 }, { name := "out", type := (.object "java/io/PrintStream"), accessFlags := 25, slot := 1, constantValue := 0 }, { name := "err", type := (.object "java/io/PrintStream"), accessFlags := 25, slot := 2, constantValue := 0 }, { name := "initialIn", type := (.object "java/io/InputStream"), accessFlags := 10, slot := 3, constantValue := 0 }, { name := "NEVER", type := .int, accessFlags := 26, slot := 4, constantValue := 0 }, { name := "MAYBE", type := .int, accessFlags := 26, slot := 5, constantValue := 0 }, { name := "allowSecurityManager", type := .int, accessFlags := 10, slot := 6, constantValue := 0 }, { name := "security", type := (.object "java/lang/SecurityManager"), accessFlags := 74, slot := 7, constantValue := 0 }, { name := "notSupportedJnuEncoding", type := (.object "java/lang/String"), accessFlags := 10, slot := 8, constantValue := 0 }, { name := "cons", type := (.object "java/io/Console"), accessFlags := 74, slot := 9, constantValue := 0 }, { name := "initialErrStream", type := (.object "java/io/PrintStream"), accessFlags := 74, slot := 10, constantValue := 0 }, { name := "props", type := (.object "java/util/Properties"), accessFlags := 10, slot := 11, constantValue := 0 }, { name := "lineSeparator", type := (.object "java/lang/String"), accessFlags := 10, slot := 12, constantValue := 0 }, { name := "bootLayer", type := (.object "java/lang/ModuleLayer"), accessFlags := 8, slot := 13, constantValue := 0 }]
  methods := #[k8m0, k8m1]
  instanceTypes := #[]
  staticTypes := #[(.object "java/io/InputStream"), (.object "java/io/PrintStream"), (.object "java/io/PrintStream"), (.object "java/io/InputStream"), .int, .int, .int, (.object "java/lang/SecurityManager"), (.object "java/lang/String"), (.object "java/io/Console"), (.object "java/io/PrintStream"), (.object "java/util/Properties"), (.object "java/lang/String"), (.object "java/lang/ModuleLayer")]
  resolved := Array.replicate 834 none
  statics := none }

def pool9 : Array CpInfo := pool [(1, u "java/io/Serializable"), (0, .class_ 1), (0, u "java/lang/Object"), (0, .class_ 3)] 3

/-- java/io/Serializable -/
def k9 : Class := { plain "java/io/Serializable" (some 0) with
  accessFlags := 1537
  interfaces := #[]
  cf := some (fileOf pool9 2 #[] #[] 1537 4 #[] #[])
  fields := #[]
  methods := #[]
  instanceTypes := #[]
  staticTypes := #[]
  resolved := Array.replicate 8 none
  statics := none }

/-- the primitive byte -/
def k10 : Class := { plain "byte" none with kind := .primitive 'B', accessFlags := 0x411 }
/-- [B -/
def k11 : Class := { plain "[B" (some 0) with kind := .array 10 .byte, interfaces := #[5, 9], accessFlags := 1041 }

/-- the primitive int -/
def k12 : Class := { plain "int" none with kind := .primitive 'I', accessFlags := 0x411 }
/-- [I -/
def k13 : Class := { plain "[I" (some 0) with kind := .array 12 .int, interfaces := #[5, 9], accessFlags := 1041 }

def heap : Heap := #[]
def classes : Array Class := #[k0, k1, k2, k3, k4, k5, k6, k7, k8, k9, k10, k11, k12, k13]
def interned : List (Array UInt16 × Addr) := []
def slotsUsed : Nat := 0
def theMethod : MethodId := ⟨1, 3⟩
def args0 : Array Value := #[.int 5]
def aboutOver (below : List Frame) : State where
  vm := { classes := classes, interned := interned.toArray }
  heap := heap
  slotsUsed := slotsUsed
  threads := #[{ frames := .invoking theMethod args0 :: below }]
def below0 : List Frame := [.native { method := ⟨0, 0⟩, args := #[] }]
def about1 : State := aboutOver below0
def p0 : Program := .bare "" "" ""
def e0 : Env := launch0.env 0 0 0
theorem w_frames : about1.frames = Frame.invoking theMethod args0 :: below0 := rfl
set_option maxRecDepth 65536 in
theorem w_args : argsFit about1.vm theMethod args0 = true := by decide +kernel
set_option maxRecDepth 65536 in
theorem w_heap : heapFits about1 = true := by decide +kernel
set_option maxRecDepth 65536 in
theorem w_runnable : about1.curStatus? = some .runnable := by decide +kernel
set_option maxRecDepth 65536 in
theorem w_alone : about1.alone = true := by decide +kernel
set_option maxRecDepth 65536 in
theorem w_named : about1.methodNamed? x = some theMethod := by decide +kernel
set_option maxRecDepth 65536 in
theorem w_hears : about1.hears theMethod below0 = true := by decide +kernel
set_option maxRecDepth 65536 in
theorem w_ripe : about1.ripe theMethod args0 below0 = true := by decide +kernel
theorem w_running : about1.status = .running := rfl
set_option maxRecDepth 65536 in
theorem w_room : about1.hasRoom e0.platform room_1 = true :=
  launch0.hasRoom_least _ room_1 (by decide +kernel) (by decide +kernel) (by decide +kernel) (by decide +kernel) (by decide +kernel) (by decide +kernel)
theorem allAtoms_all (ts : List Jvm.Cond) (a : Array Jvm.Value) (st : Jvm.State) : (allAtoms ts).before a st = ts.all (fun c => c.before a st) := by
  induction ts with
  | nil => rfl
  | cons c t ih =>
    show (Jvm.Cond.and c (allAtoms t)).before a st = _
    rw [Jvm.Cond.before_and, ih, List.all_cons]
def words1 : List Jvm.Cond := Jvm.Cond.code x code maxLocals ret :: tables_1
/-- a 'code' word, met by the world's own term for the bytes: nothing is compared byte by byte -/
theorem code_word {y : MethodName} {bytes : ByteArray} {mx : Nat} {rt : Option FieldType} {a : Array Value} {s : State} {m : MethodId} {meth : Method} {c : Code} (h1 : s.methodNamed? y = some m) (h2 : s.vm.method? m = some meth) (h3 : meth.code = some c) (h4 : c.code = bytes)
    (h5 : (c.maxLocals == mx && c.exceptionTable.isEmpty && decide (c.maxStack ≤ mostOperands) && decide (meth.sig.returnType = rt) && !meth.locks && decide (parseMethodDescriptor y.desc = some meth.sig)) = true) : (Jvm.Cond.code y bytes mx rt).before a s = true := by
  simp only [Bool.and_eq_true, beq_iff_eq, Bool.not_eq_true', decide_eq_true_eq] at h5
  obtain ⟨⟨⟨⟨⟨g1, g2⟩, g3⟩, g4⟩, g5⟩, g6⟩ := h5
  simp [Cond.before, Cond.holds, Cond.value, h1, h2, h3, h4, g1, g2, g3, g4, g5, g6]
def isCode : Jvm.Cond → Bool
  | .code _ _ _ _ => true
  | _ => false
theorem all_split {L : List Jvm.Cond} {P : Jvm.Cond → Bool} (h1 : L.all (fun c => isCode c || P c) = true) (h2 : ∀ c ∈ L.filter isCode, P c = true) : L.all P = true := by
  refine List.all_eq_true.mpr fun c hc => ?_
  have h := List.all_eq_true.mp h1 c hc
  rcases Bool.eq_false_or_eq_true (isCode c) with hi | hi
  · exact h2 c (List.mem_filter.mpr ⟨hc, hi⟩)
  · simpa [hi] using h
set_option maxRecDepth 65536 in
theorem w_c0 : (Jvm.Cond.code x code maxLocals ret).before args0 about1 = true := code_word (m := ⟨1, 3⟩) (meth := k1m3) (c := k1c3) (by decide +kernel) rfl rfl rfl (by decide +kernel)
set_option maxRecDepth 65536 in
theorem w_c1 : (Jvm.Cond.code ({ cls := "com/example/unea/unea/analysis/SparsePattern", name := "<init>", desc := "([I[I)V" } : Jvm.MethodName) prog_14_method_1_code (3 : Nat) (Option.none : Option Jvm.ClassFile.FieldType)).before args0 about1 = true := code_word (m := ⟨2, 0⟩) (meth := k2m0) (c := k2c0) (by decide +kernel) rfl rfl rfl (by decide +kernel)
set_option maxRecDepth 65536 in
theorem w_c2 : (Jvm.Cond.code ({ cls := "java/lang/Object", name := "<init>", desc := "()V" } : Jvm.MethodName) object_method_1_code (1 : Nat) (Option.none : Option Jvm.ClassFile.FieldType)).before args0 about1 = true := code_word (m := ⟨0, 0⟩) (meth := k0m0) (c := k0c0) (by decide +kernel) rfl rfl rfl (by decide +kernel)
set_option maxRecDepth 65536 in
theorem w_c3 : (Jvm.Cond.code ({ cls := "com/example/unea/unea/analysis/Supernodes", name := "of", desc := "(Lcom/example/unea/unea/analysis/SparsePattern;[I)Lcom/example/unea/unea/analysis/Supernodes;" } : Jvm.MethodName) prog_15_method_2_code (11 : Nat) (Option.some (Jvm.ClassFile.FieldType.object "com/example/unea/unea/analysis/Supernodes"))).before args0 about1 = true := code_word (m := ⟨3, 1⟩) (meth := k3m1) (c := k3c1) (by decide +kernel) rfl rfl rfl (by decide +kernel)
set_option maxRecDepth 65536 in
theorem w_c4 : (Jvm.Cond.code ({ cls := "com/example/unea/unea/analysis/SparsePattern", name := "size", desc := "()I" } : Jvm.MethodName) prog_14_method_2_code (1 : Nat) (Option.some Jvm.ClassFile.FieldType.int)).before args0 about1 = true := code_word (m := ⟨2, 1⟩) (meth := k2m1) (c := k2c1) (by decide +kernel) rfl rfl rfl (by decide +kernel)
set_option maxRecDepth 65536 in
theorem w_c5 : (Jvm.Cond.code ({ cls := "com/example/unea/unea/analysis/Supernodes", name := "inverse", desc := "([I)[I" } : Jvm.MethodName) prog_15_method_7_code (3 : Nat) (Option.some (Jvm.ClassFile.FieldType.array Jvm.ClassFile.FieldType.int))).before args0 about1 = true := code_word (m := ⟨3, 5⟩) (meth := k3m5) (c := k3c5) (by decide +kernel) rfl rfl rfl (by decide +kernel)
set_option maxRecDepth 65536 in
theorem w_c6 : (Jvm.Cond.code ({ cls := "com/example/unea/unea/analysis/Supernodes", name := "eliminationTree", desc := "(Lcom/example/unea/unea/analysis/SparsePattern;[I[I)[I" } : Jvm.MethodName) prog_15_method_8_code (11 : Nat) (Option.some (Jvm.ClassFile.FieldType.array Jvm.ClassFile.FieldType.int))).before args0 about1 = true := code_word (m := ⟨3, 6⟩) (meth := k3m6) (c := k3c6) (by decide +kernel) rfl rfl rfl (by decide +kernel)
set_option maxRecDepth 65536 in
theorem w_c7 : (Jvm.Cond.code ({ cls := "java/util/Arrays", name := "fill", desc := "([II)V" } : Jvm.MethodName) jdk_65_method_103_code (4 : Nat) (Option.none : Option Jvm.ClassFile.FieldType)).before args0 about1 = true := code_word (m := ⟨4, 3⟩) (meth := k4m3) (c := k4c3) (by decide +kernel) rfl rfl rfl (by decide +kernel)
set_option maxRecDepth 65536 in
theorem w_c8 : (Jvm.Cond.code ({ cls := "com/example/unea/unea/analysis/Supernodes", name := "postorder", desc := "([I)[I" } : Jvm.MethodName) prog_15_method_9_code (11 : Nat) (Option.some (Jvm.ClassFile.FieldType.array Jvm.ClassFile.FieldType.int))).before args0 about1 = true := code_word (m := ⟨3, 7⟩) (meth := k3m7) (c := k3c7) (by decide +kernel) rfl rfl rfl (by decide +kernel)
set_option maxRecDepth 65536 in
theorem w_c9 : (Jvm.Cond.code ({ cls := "com/example/unea/unea/analysis/Supernodes", name := "columnCounts", desc := "(Lcom/example/unea/unea/analysis/SparsePattern;[I[I[I)[I" } : Jvm.MethodName) prog_15_method_10_code (12 : Nat) (Option.some (Jvm.ClassFile.FieldType.array Jvm.ClassFile.FieldType.int))).before args0 about1 = true := code_word (m := ⟨3, 8⟩) (meth := k3m8) (c := k3c8) (by decide +kernel) rfl rfl rfl (by decide +kernel)
set_option maxRecDepth 65536 in
theorem w_c10 : (Jvm.Cond.code ({ cls := "com/example/unea/unea/analysis/Supernodes", name := "fundamental", desc := "([I[I)[I" } : Jvm.MethodName) prog_15_method_11_code (8 : Nat) (Option.some (Jvm.ClassFile.FieldType.array Jvm.ClassFile.FieldType.int))).before args0 about1 = true := code_word (m := ⟨3, 9⟩) (meth := k3m9) (c := k3c9) (by decide +kernel) rfl rfl rfl (by decide +kernel)
set_option maxRecDepth 65536 in
theorem w_c11 : (Jvm.Cond.code ({ cls := "java/util/Arrays", name := "copyOf", desc := "([II)[I" } : Jvm.MethodName) jdk_65_method_123_code (3 : Nat) (Option.some (Jvm.ClassFile.FieldType.array Jvm.ClassFile.FieldType.int))).before args0 about1 = true := code_word (m := ⟨4, 4⟩) (meth := k4m4) (c := k4c4) (by decide +kernel) rfl rfl rfl (by decide +kernel)
set_option maxRecDepth 65536 in
theorem w_c12 : (Jvm.Cond.code ({ cls := "com/example/unea/unea/analysis/Supernodes", name := "amalgamate", desc := "([I[I[I)[I" } : Jvm.MethodName) prog_15_method_12_code (26 : Nat) (Option.some (Jvm.ClassFile.FieldType.array Jvm.ClassFile.FieldType.int))).before args0 about1 = true := code_word (m := ⟨3, 10⟩) (meth := k3m10) (c := k3c10) (by decide +kernel) rfl rfl rfl (by decide +kernel)
set_option maxRecDepth 65536 in
theorem w_c13 : (Jvm.Cond.code ({ cls := "com/example/unea/unea/analysis/Supernodes", name := "fronts", desc := "(Lcom/example/unea/unea/analysis/SparsePattern;[I[I[I)Lcom/example/unea/unea/analysis/Supernodes;" } : Jvm.MethodName) prog_15_method_15_code (21 : Nat) (Option.some (Jvm.ClassFile.FieldType.object "com/example/unea/unea/analysis/Supernodes"))).before args0 about1 = true := code_word (m := ⟨3, 11⟩) (meth := k3m11) (c := k3c11) (by decide +kernel) rfl rfl rfl (by decide +kernel)
set_option maxRecDepth 65536 in
theorem w_c14 : (Jvm.Cond.code ({ cls := "java/lang/Math", name := "max", desc := "(II)I" } : Jvm.MethodName) jdk_29_method_65_code (2 : Nat) (Option.some Jvm.ClassFile.FieldType.int)).before args0 about1 = true := code_word (m := ⟨6, 1⟩) (meth := k6m1) (c := k6c1) (by decide +kernel) rfl rfl rfl (by decide +kernel)
set_option maxRecDepth 65536 in
theorem w_c15 : (Jvm.Cond.code ({ cls := "com/example/unea/unea/analysis/Supernodes", name := "room", desc := "([III)[I" } : Jvm.MethodName) prog_15_method_16_code (4 : Nat) (Option.some (Jvm.ClassFile.FieldType.array Jvm.ClassFile.FieldType.int))).before args0 about1 = true := code_word (m := ⟨3, 12⟩) (meth := k3m12) (c := k3c12) (by decide +kernel) rfl rfl rfl (by decide +kernel)
set_option maxRecDepth 65536 in
theorem w_c16 : (Jvm.Cond.code ({ cls := "com/example/unea/unea/analysis/SparsePattern", name := "degree", desc := "(I)I" } : Jvm.MethodName) prog_14_method_3_code (2 : Nat) (Option.some Jvm.ClassFile.FieldType.int)).before args0 about1 = true := code_word (m := ⟨2, 2⟩) (meth := k2m2) (c := k2c2) (by decide +kernel) rfl rfl rfl (by decide +kernel)
set_option maxRecDepth 65536 in
theorem w_c17 : (Jvm.Cond.code ({ cls := "java/util/Arrays", name := "sort", desc := "([III)V" } : Jvm.MethodName) jdk_65_method_3_code (3 : Nat) (Option.none : Option Jvm.ClassFile.FieldType)).before args0 about1 = true := code_word (m := ⟨4, 1⟩) (meth := k4m1) (c := k4c1) (by decide +kernel) rfl rfl rfl (by decide +kernel)
set_option maxRecDepth 65536 in
theorem w_c18 : (Jvm.Cond.code ({ cls := "java/util/Arrays", name := "rangeCheck", desc := "(III)V" } : Jvm.MethodName) jdk_65_method_30_code (3 : Nat) (Option.none : Option Jvm.ClassFile.FieldType)).before args0 about1 = true := code_word (m := ⟨4, 2⟩) (meth := k4m2) (c := k4c2) (by decide +kernel) rfl rfl rfl (by decide +kernel)
set_option maxRecDepth 65536 in
theorem w_c19 : (Jvm.Cond.code ({ cls := "java/util/DualPivotQuicksort", name := "sort", desc := "([IIII)V" } : Jvm.MethodName) jdk_2529_method_3_code (7 : Nat) (Option.none : Option Jvm.ClassFile.FieldType)).before args0 about1 = true := code_word (m := ⟨7, 1⟩) (meth := k7m1) (c := k7c1) (by decide +kernel) rfl rfl rfl (by decide +kernel)
set_option maxRecDepth 65536 in
theorem w_c20 : (Jvm.Cond.code ({ cls := "java/util/DualPivotQuicksort", name := "sort", desc := "(Ljava/util/DualPivotQuicksort$Sorter;[IIII)V" } : Jvm.MethodName) jdk_2529_method_4_code (21 : Nat) (Option.none : Option Jvm.ClassFile.FieldType)).before args0 about1 = true := code_word (m := ⟨7, 2⟩) (meth := k7m2) (c := k7c2) (by decide +kernel) rfl rfl rfl (by decide +kernel)
set_option maxRecDepth 65536 in
theorem w_c21 : (Jvm.Cond.code ({ cls := "java/util/DualPivotQuicksort", name := "insertionSort", desc := "([III)V" } : Jvm.MethodName) jdk_2529_method_6_code (6 : Nat) (Option.none : Option Jvm.ClassFile.FieldType)).before args0 about1 = true := code_word (m := ⟨7, 3⟩) (meth := k7m3) (c := k7c3) (by decide +kernel) rfl rfl rfl (by decide +kernel)
set_option maxRecDepth 65536 in
theorem w_c22 : (Jvm.Cond.code ({ cls := "java/lang/Math", name := "min", desc := "(II)I" } : Jvm.MethodName) jdk_29_method_69_code (2 : Nat) (Option.some Jvm.ClassFile.FieldType.int)).before args0 about1 = true := code_word (m := ⟨6, 2⟩) (meth := k6m2) (c := k6c2) (by decide +kernel) rfl rfl rfl (by decide +kernel)
set_option maxRecDepth 65536 in
theorem w_c23 : (Jvm.Cond.code ({ cls := "com/example/unea/unea/analysis/Supernodes", name := "<init>", desc := "([I[I[I[I[I[I)V" } : Jvm.MethodName) prog_15_method_1_code (7 : Nat) (Option.none : Option Jvm.ClassFile.FieldType)).before args0 about1 = true := code_word (m := ⟨3, 0⟩) (meth := k3m0) (c := k3c0) (by decide +kernel) rfl rfl rfl (by decide +kernel)
set_option maxRecDepth 65536 in
theorem w_c24 : (Jvm.Cond.code ({ cls := "com/example/unea/unea/analysis/Supernodes", name := "single", desc := "()Lcom/example/unea/unea/analysis/Supernodes;" } : Jvm.MethodName) prog_15_method_3_code (0 : Nat) (Option.some (Jvm.ClassFile.FieldType.object "com/example/unea/unea/analysis/Supernodes"))).before args0 about1 = true := code_word (m := ⟨3, 2⟩) (meth := k3m2) (c := k3c2) (by decide +kernel) rfl rfl rfl (by decide +kernel)
set_option maxRecDepth 65536 in
theorem w_c25 : (Jvm.Cond.code ({ cls := "com/example/unea/unea/analysis/SupernodesSinglePinLaw", name := "eq1", desc := "([I[I)Z" } : Jvm.MethodName) method_2_code (2 : Nat) (Option.some Jvm.ClassFile.FieldType.boolean)).before args0 about1 = true := code_word (m := ⟨1, 1⟩) (meth := k1m1) (c := k1c1) (by decide +kernel) rfl rfl rfl (by decide +kernel)
set_option maxRecDepth 65536 in
theorem w_c26 : (Jvm.Cond.code ({ cls := "com/example/unea/unea/analysis/SupernodesSinglePinLaw", name := "eq2", desc := "([I[I)Z" } : Jvm.MethodName) method_3_code (2 : Nat) (Option.some Jvm.ClassFile.FieldType.boolean)).before args0 about1 = true := code_word (m := ⟨1, 2⟩) (meth := k1m2) (c := k1c2) (by decide +kernel) rfl rfl rfl (by decide +kernel)
set_option maxRecDepth 65536 in
theorem w_c27 : (Jvm.Cond.code ({ cls := "com/example/unea/unea/analysis/Supernodes", name := "width", desc := "(I)I" } : Jvm.MethodName) prog_15_method_4_code (2 : Nat) (Option.some Jvm.ClassFile.FieldType.int)).before args0 about1 = true := code_word (m := ⟨3, 3⟩) (meth := k3m3) (c := k3c3) (by decide +kernel) rfl rfl rfl (by decide +kernel)
set_option maxRecDepth 65536 in
theorem w_c28 : (Jvm.Cond.code ({ cls := "com/example/unea/unea/analysis/Supernodes", name := "frontSize", desc := "(I)I" } : Jvm.MethodName) prog_15_method_5_code (2 : Nat) (Option.some Jvm.ClassFile.FieldType.int)).before args0 about1 = true := code_word (m := ⟨3, 4⟩) (meth := k3m4) (c := k3c4) (by decide +kernel) rfl rfl rfl (by decide +kernel)
def codes1 : List Jvm.Cond := [Jvm.Cond.code x code maxLocals ret, Jvm.Cond.code ({ cls := "com/example/unea/unea/analysis/SparsePattern", name := "<init>", desc := "([I[I)V" } : Jvm.MethodName) prog_14_method_1_code (3 : Nat) (Option.none : Option Jvm.ClassFile.FieldType), Jvm.Cond.code ({ cls := "java/lang/Object", name := "<init>", desc := "()V" } : Jvm.MethodName) object_method_1_code (1 : Nat) (Option.none : Option Jvm.ClassFile.FieldType), Jvm.Cond.code ({ cls := "com/example/unea/unea/analysis/Supernodes", name := "of", desc := "(Lcom/example/unea/unea/analysis/SparsePattern;[I)Lcom/example/unea/unea/analysis/Supernodes;" } : Jvm.MethodName) prog_15_method_2_code (11 : Nat) (Option.some (Jvm.ClassFile.FieldType.object "com/example/unea/unea/analysis/Supernodes")), Jvm.Cond.code ({ cls := "com/example/unea/unea/analysis/SparsePattern", name := "size", desc := "()I" } : Jvm.MethodName) prog_14_method_2_code (1 : Nat) (Option.some Jvm.ClassFile.FieldType.int), Jvm.Cond.code ({ cls := "com/example/unea/unea/analysis/Supernodes", name := "inverse", desc := "([I)[I" } : Jvm.MethodName) prog_15_method_7_code (3 : Nat) (Option.some (Jvm.ClassFile.FieldType.array Jvm.ClassFile.FieldType.int)), Jvm.Cond.code ({ cls := "com/example/unea/unea/analysis/Supernodes", name := "eliminationTree", desc := "(Lcom/example/unea/unea/analysis/SparsePattern;[I[I)[I" } : Jvm.MethodName) prog_15_method_8_code (11 : Nat) (Option.some (Jvm.ClassFile.FieldType.array Jvm.ClassFile.FieldType.int)), Jvm.Cond.code ({ cls := "java/util/Arrays", name := "fill", desc := "([II)V" } : Jvm.MethodName) jdk_65_method_103_code (4 : Nat) (Option.none : Option Jvm.ClassFile.FieldType), Jvm.Cond.code ({ cls := "com/example/unea/unea/analysis/Supernodes", name := "postorder", desc := "([I)[I" } : Jvm.MethodName) prog_15_method_9_code (11 : Nat) (Option.some (Jvm.ClassFile.FieldType.array Jvm.ClassFile.FieldType.int)), Jvm.Cond.code ({ cls := "com/example/unea/unea/analysis/Supernodes", name := "columnCounts", desc := "(Lcom/example/unea/unea/analysis/SparsePattern;[I[I[I)[I" } : Jvm.MethodName) prog_15_method_10_code (12 : Nat) (Option.some (Jvm.ClassFile.FieldType.array Jvm.ClassFile.FieldType.int)), Jvm.Cond.code ({ cls := "com/example/unea/unea/analysis/Supernodes", name := "fundamental", desc := "([I[I)[I" } : Jvm.MethodName) prog_15_method_11_code (8 : Nat) (Option.some (Jvm.ClassFile.FieldType.array Jvm.ClassFile.FieldType.int)), Jvm.Cond.code ({ cls := "java/util/Arrays", name := "copyOf", desc := "([II)[I" } : Jvm.MethodName) jdk_65_method_123_code (3 : Nat) (Option.some (Jvm.ClassFile.FieldType.array Jvm.ClassFile.FieldType.int)), Jvm.Cond.code ({ cls := "com/example/unea/unea/analysis/Supernodes", name := "amalgamate", desc := "([I[I[I)[I" } : Jvm.MethodName) prog_15_method_12_code (26 : Nat) (Option.some (Jvm.ClassFile.FieldType.array Jvm.ClassFile.FieldType.int)), Jvm.Cond.code ({ cls := "com/example/unea/unea/analysis/Supernodes", name := "fronts", desc := "(Lcom/example/unea/unea/analysis/SparsePattern;[I[I[I)Lcom/example/unea/unea/analysis/Supernodes;" } : Jvm.MethodName) prog_15_method_15_code (21 : Nat) (Option.some (Jvm.ClassFile.FieldType.object "com/example/unea/unea/analysis/Supernodes")), Jvm.Cond.code ({ cls := "java/lang/Math", name := "max", desc := "(II)I" } : Jvm.MethodName) jdk_29_method_65_code (2 : Nat) (Option.some Jvm.ClassFile.FieldType.int), Jvm.Cond.code ({ cls := "com/example/unea/unea/analysis/Supernodes", name := "room", desc := "([III)[I" } : Jvm.MethodName) prog_15_method_16_code (4 : Nat) (Option.some (Jvm.ClassFile.FieldType.array Jvm.ClassFile.FieldType.int)), Jvm.Cond.code ({ cls := "com/example/unea/unea/analysis/SparsePattern", name := "degree", desc := "(I)I" } : Jvm.MethodName) prog_14_method_3_code (2 : Nat) (Option.some Jvm.ClassFile.FieldType.int), Jvm.Cond.code ({ cls := "java/util/Arrays", name := "sort", desc := "([III)V" } : Jvm.MethodName) jdk_65_method_3_code (3 : Nat) (Option.none : Option Jvm.ClassFile.FieldType), Jvm.Cond.code ({ cls := "java/util/Arrays", name := "rangeCheck", desc := "(III)V" } : Jvm.MethodName) jdk_65_method_30_code (3 : Nat) (Option.none : Option Jvm.ClassFile.FieldType), Jvm.Cond.code ({ cls := "java/util/DualPivotQuicksort", name := "sort", desc := "([IIII)V" } : Jvm.MethodName) jdk_2529_method_3_code (7 : Nat) (Option.none : Option Jvm.ClassFile.FieldType), Jvm.Cond.code ({ cls := "java/util/DualPivotQuicksort", name := "sort", desc := "(Ljava/util/DualPivotQuicksort$Sorter;[IIII)V" } : Jvm.MethodName) jdk_2529_method_4_code (21 : Nat) (Option.none : Option Jvm.ClassFile.FieldType), Jvm.Cond.code ({ cls := "java/util/DualPivotQuicksort", name := "insertionSort", desc := "([III)V" } : Jvm.MethodName) jdk_2529_method_6_code (6 : Nat) (Option.none : Option Jvm.ClassFile.FieldType), Jvm.Cond.code ({ cls := "java/lang/Math", name := "min", desc := "(II)I" } : Jvm.MethodName) jdk_29_method_69_code (2 : Nat) (Option.some Jvm.ClassFile.FieldType.int), Jvm.Cond.code ({ cls := "com/example/unea/unea/analysis/Supernodes", name := "<init>", desc := "([I[I[I[I[I[I)V" } : Jvm.MethodName) prog_15_method_1_code (7 : Nat) (Option.none : Option Jvm.ClassFile.FieldType), Jvm.Cond.code ({ cls := "com/example/unea/unea/analysis/Supernodes", name := "single", desc := "()Lcom/example/unea/unea/analysis/Supernodes;" } : Jvm.MethodName) prog_15_method_3_code (0 : Nat) (Option.some (Jvm.ClassFile.FieldType.object "com/example/unea/unea/analysis/Supernodes")), Jvm.Cond.code ({ cls := "com/example/unea/unea/analysis/SupernodesSinglePinLaw", name := "eq1", desc := "([I[I)Z" } : Jvm.MethodName) method_2_code (2 : Nat) (Option.some Jvm.ClassFile.FieldType.boolean), Jvm.Cond.code ({ cls := "com/example/unea/unea/analysis/SupernodesSinglePinLaw", name := "eq2", desc := "([I[I)Z" } : Jvm.MethodName) method_3_code (2 : Nat) (Option.some Jvm.ClassFile.FieldType.boolean), Jvm.Cond.code ({ cls := "com/example/unea/unea/analysis/Supernodes", name := "width", desc := "(I)I" } : Jvm.MethodName) prog_15_method_4_code (2 : Nat) (Option.some Jvm.ClassFile.FieldType.int), Jvm.Cond.code ({ cls := "com/example/unea/unea/analysis/Supernodes", name := "frontSize", desc := "(I)I" } : Jvm.MethodName) prog_15_method_5_code (2 : Nat) (Option.some Jvm.ClassFile.FieldType.int)]
set_option maxRecDepth 65536 in
theorem codes_eq : words1.filter isCode = codes1 := rfl
theorem w_codes : ∀ c ∈ words1.filter isCode, c.before args0 about1 = true := by
  rw [codes_eq]
  intro c hc
  simp only [codes1, List.mem_cons, List.not_mem_nil, or_false] at hc
  rcases hc with rfl | rfl | rfl | rfl | rfl | rfl | rfl | rfl | rfl | rfl | rfl | rfl | rfl | rfl | rfl | rfl | rfl | rfl | rfl | rfl | rfl | rfl | rfl | rfl | rfl | rfl | rfl | rfl | rfl
  · exact w_c0
  · exact w_c1
  · exact w_c2
  · exact w_c3
  · exact w_c4
  · exact w_c5
  · exact w_c6
  · exact w_c7
  · exact w_c8
  · exact w_c9
  · exact w_c10
  · exact w_c11
  · exact w_c12
  · exact w_c13
  · exact w_c14
  · exact w_c15
  · exact w_c16
  · exact w_c17
  · exact w_c18
  · exact w_c19
  · exact w_c20
  · exact w_c21
  · exact w_c22
  · exact w_c23
  · exact w_c24
  · exact w_c25
  · exact w_c26
  · exact w_c27
  · exact w_c28
set_option maxRecDepth 65536 in
theorem w_t1 : (words1.take 24).all (fun c => isCode c || c.before args0 about1) = true := by decide +kernel
set_option maxRecDepth 65536 in
theorem w_t2 : ((words1.drop 24).take 24).all (fun c => isCode c || c.before args0 about1) = true := by decide +kernel
set_option maxRecDepth 65536 in
theorem w_t3 : (((words1.drop 24).drop 24).take 24).all (fun c => isCode c || c.before args0 about1) = true := by decide +kernel
set_option maxRecDepth 65536 in
theorem w_t4 : ((((words1.drop 24).drop 24).drop 24).take 24).all (fun c => isCode c || c.before args0 about1) = true := by decide +kernel
set_option maxRecDepth 65536 in
theorem w_t5 : (((((words1.drop 24).drop 24).drop 24).drop 24).take 24).all (fun c => isCode c || c.before args0 about1) = true := by decide +kernel
set_option maxRecDepth 65536 in
theorem w_t6 : ((((((words1.drop 24).drop 24).drop 24).drop 24).drop 24).take 24).all (fun c => isCode c || c.before args0 about1) = true := by decide +kernel
set_option maxRecDepth 65536 in
theorem w_t7 : ((((((words1.drop 24).drop 24).drop 24).drop 24).drop 24).drop 24).all (fun c => isCode c || c.before args0 about1) = true := by decide +kernel
theorem w_tables : (allAtoms (Jvm.Cond.code x code maxLocals ret :: tables_1)).before args0 about1 = true := by
  rw [allAtoms_all]
  show words1.all (fun c => c.before args0 about1) = true
  refine all_split ?_ w_codes
  rw [← List.take_append_drop 24 words1, List.all_append, w_t1, ← List.take_append_drop 24 (words1.drop 24), List.all_append, w_t2, ← List.take_append_drop 24 ((words1.drop 24).drop 24), List.all_append, w_t3, ← List.take_append_drop 24 (((words1.drop 24).drop 24).drop 24), List.all_append, w_t4, ← List.take_append_drop 24 ((((words1.drop 24).drop 24).drop 24).drop 24), List.all_append, w_t5, ← List.take_append_drop 24 (((((words1.drop 24).drop 24).drop 24).drop 24).drop 24), List.all_append, w_t6, w_t7]
  rfl
set_option maxRecDepth 65536 in
theorem w_case : (Jvm.Cond.and given_1 narrow_1).before args0 about1 = true := by decide +kernel
theorem w_applies : (headSpec (Jvm.Cond.code x code maxLocals ret :: tables_1) room_1).applies x e0.platform about1 = true :=
  (Spec.applies_iff w_frames).mpr ⟨w_running, w_runnable, w_alone, w_named, w_hears, w_ripe, w_room, w_tables⟩
theorem atStart : AtStart classFile x code maxLocals ret World_1 tables_1 room_1 Calls_1 rest_1 Pre_1 launch0 p0 e0 about1 theMethod args0 below0 :=
  ⟨lists_1, trivial, launch0.admits_env _ _ _, launch0.least_env, fairChoices_fair.cas, fairChoices_fair.clock, w_frames, w_args, w_heap, w_applies, trivial, trivial, w_case⟩
end start1
theorem witness_1 : WitnessClaimed_1 := ⟨start1.p0, start1.e0, start1.about1, start1.theMethod, start1.args0, start1.below0, start1.atStart⟩
end Jvm.Pilot.@@N@@
