import JvmDerived
import JvmDerived.Pilot.@@N@@Statement
import JvmDerived.Pilot.@@N@@Code
set_option linter.unusedVariables false
set_option linter.unusedSimpArgs false
@@BLOCK:NumsL.lean.txt@@
namespace Jvm.RoadKit
open Sem ClassFile Op Lib Jvm.Stand Jvm.Free Jvm.LawKit
section Own
variable {p : Program} {l : Launch} {e : Env} {R : Room} {s : State} {m : MethodId} {args : Array Value} {below : List Frame} {meth : Method} {c : Code} {T : State} {locs : List Loc} {cells slots : Nat}
/-- from U the run comes to a state of which G holds -/
def Gets (p : Program) (e : Env) (below : List Frame) (G : State → Prop) (U : State) : Prop := ∃ t, Steps p.tables e below U t ∧ G t
theorem Gets.of {G : State → Prop} {U U' : State} (k : ∀ t, Steps p.tables e below U' t → Steps p.tables e below U t) (h : Gets p e below G U') : Gets p e below G U := by
  obtain ⟨t, a, b⟩ := h; exact ⟨t, k t a, b⟩
theorem Gets.tr {G : State → Prop} {U U' : State} (k : Steps p.tables e below U U') (h : Gets p e below G U') : Gets p e below G U := by
  obtain ⟨t, a, b⟩ := h; exact ⟨t, k.trans a, b⟩
/-- what is owed at the end of a body -/
def Out (Q : Option Value → Heap → List Loc → Prop) (s : State) (below : List Frame) (C S : Nat) (t : State) : Prop := ∃ o, t.status = .running ∧ Ended t below o ∧ ∃ v L, o = .returned v ∧ Q v t.heap L ∧ FrameEnd s o t L C S
theorem Gets.out {Q : Option Value → Heap → List Loc → Prop} {C S : Nat} {U : State} (h : Gets p e below (Out Q s below C S) U) : ∃ s₂ o, Steps p.tables e below U s₂ ∧ s₂.status = .running ∧ Ended s₂ below o ∧ ∃ v L, o = .returned v ∧ Q v s₂.heap L ∧ FrameEnd s o s₂ L C S := by
  obtain ⟨t, a, o, b⟩ := h; exact ⟨t, o, a, b⟩
theorem Gets.fin {Q : Option Value → Heap → List Loc → Prop} {C S : Nat} {U : State} (X : Stand p l e R s m args below meth c T locs cells slots) {v : Option Value} (hv : meth.sig.returnType = none → v = none) (hlk : meth.locks = false)
    (k : ∀ fs, (∀ (f : JFrame) (acts : List Action), f.method = m → f.locked = none → f.entered = [] → (doReturn e (T.setTop f) acts v).1 = T.setFrames fs) → Steps p.tables e below U (T.setFrames fs)) (hQ : Q v T.heap locs) (h1 : cells ≤ C) (h2 : slots ≤ S) : Gets p e below (Out Q s below C S) U := by
  obtain ⟨fs, hr, hrun, hended, hW, hsame⟩ := X.leave (v := v) hv hlk
  exact ⟨_, k fs hr, _, hrun, hended, _, _, rfl, hQ, ⟨_, rfl⟩, hW, hsame.mono h1 h2⟩
theorem retI0 (X : Stand p l e R s m args below meth c T locs cells slots) (hx : p.tables.exec = Jvm.exec) {pc : Nat} {Ls : Array Slot} {z : Int32} {rest : List Value} (hret : meth.sig.returnType = some .int) (hd : decode c.code pc = .ok (.ireturn, 1)) {fs : List Frame}
    (hl : ∀ (f : JFrame) (acts : List Action), f.method = m → f.locked = none → f.entered = [] → (doReturn e (T.setTop f) acts (some (.int z))).1 = T.setFrames fs) : Steps p.tables e below (T.setTop (mkF m pc Ls (.int z :: rest))) (T.setFrames fs) :=
  retOut X hx hret rfl (Or.inl ⟨rfl, Or.inl rfl, z, rfl⟩) hd hl
theorem Gets.retI {Q : Option Value → Heap → List Loc → Prop} {C S : Nat} (X : Stand p l e R s m args below meth c T locs cells slots) (hx : p.tables.exec = Jvm.exec) {pc : Nat} {Ls : Array Slot} {z : Int32} {rest : List Value} (hret : meth.sig.returnType = some .int) (hd : decode c.code pc = .ok (.ireturn, 1))
    (hQ : Q (some (.int z)) T.heap locs) (h1 : cells ≤ C) (h2 : slots ≤ S) (hlk : meth.locks = false := by assumption) : Gets p e below (Out Q s below C S) (T.setTop (mkF m pc Ls (.int z :: rest))) :=
  Gets.fin X (fun h => by rw [hret] at h; cases h) hlk (fun fs hr => retI0 X hx hret hd hr) hQ h1 h2
theorem Gets.retN {Q : Option Value → Heap → List Loc → Prop} {C S : Nat} (X : Stand p l e R s m args below meth c T locs cells slots) (hx : p.tables.exec = Jvm.exec) {pc : Nat} {Ls : Array Slot} {z : Int32} {t : FieldType} {rest : List Value} (hret : meth.sig.returnType = some t) (ht : t = .boolean ∨ t = .byte ∨ t = .char ∨ t = .short) (hd : decode c.code pc = .ok (.ireturn, 1))
    (hQ : Q (some (.int (nar t z))) T.heap locs) (h1 : cells ≤ C) (h2 : slots ≤ S) (hlk : meth.locks = false := by assumption) : Gets p e below (Out Q s below C S) (T.setTop (mkF m pc Ls (.int z :: rest))) :=
  Gets.fin X (fun h => by rw [hret] at h; cases h) hlk (fun fs hr => Jvm.RoadKit.retN X hx hret ht hd hr) hQ h1 h2
theorem Gets.retJ {Q : Option Value → Heap → List Loc → Prop} {C S : Nat} (X : Stand p l e R s m args below meth c T locs cells slots) (hx : p.tables.exec = Jvm.exec) {pc : Nat} {Ls : Array Slot} {z : Int64} {rest : List Value} (hret : meth.sig.returnType = some .long) (hd : decode c.code pc = .ok (.lreturn, 1))
    (hQ : Q (some (.long z)) T.heap locs) (h1 : cells ≤ C) (h2 : slots ≤ S) (hlk : meth.locks = false := by assumption) : Gets p e below (Out Q s below C S) (T.setTop (mkF m pc Ls (.long z :: rest))) :=
  Gets.fin X (fun h => by rw [hret] at h; cases h) hlk (fun fs hr => retOut X hx hret rfl (Or.inr (Or.inl ⟨rfl, rfl, z, rfl⟩)) hd hr) hQ h1 h2
theorem Gets.retA {Q : Option Value → Heap → List Loc → Prop} {C S : Nat} (X : Stand p l e R s m args below meth c T locs cells slots) (hx : p.tables.exec = Jvm.exec) {pc : Nat} {Ls : Array Slot} {w : Value} {t : FieldType} {rest : List Value} (hret : meth.sig.returnType = some t) (ht : t.isReference = true) (hw : w.isRef = true) (hd : decode c.code pc = .ok (.areturn, 1))
    (hQ : Q (some w) T.heap locs) (h1 : cells ≤ C) (h2 : slots ≤ S) (hlk : meth.locks = false := by assumption) : Gets p e below (Out Q s below C S) (T.setTop (mkF m pc Ls (w :: rest))) :=
  Gets.fin X (fun h => by rw [hret] at h; cases h) hlk (fun fs hr => retOut X hx hret (by cases t <;> first | (cases ht; done) | (cases w <;> first | rfl | (cases hw))) (Or.inr (Or.inr (Or.inr (Or.inr ⟨rfl, ht, hw⟩)))) hd hr) hQ h1 h2
theorem Gets.retV {Q : Option Value → Heap → List Loc → Prop} {C S : Nat} (X : Stand p l e R s m args below meth c T locs cells slots) (hx : p.tables.exec = Jvm.exec) {pc : Nat} {Ls : Array Slot} (hret : meth.sig.returnType = none) (hd : decode c.code pc = .ok (.return_, 1))
    (hQ : Q none T.heap locs) (h1 : cells ≤ C) (h2 : slots ≤ S) (hlk : meth.locks = false := by assumption) : Gets p e below (Out Q s below C S) (T.setTop (mkF m pc Ls [])) :=
  Gets.fin X (fun _ => rfl) hlk (fun fs hr => X.returnOut hx hret hd hr) hQ h1 h2
/-- what is owed at the end of a body that may load String constants -/
def OutW (Q : Option Value → Heap → List Loc → Prop) (s : State) (below : List Frame) (C S : Nat) (t : State) : Prop := ∃ o, t.status = .running ∧ Ended t below o ∧ ∃ v L, o = .returned v ∧ Q v t.heap L ∧ ReturnedEndW s o t L C S
theorem GetsW.out {Q : Option Value → Heap → List Loc → Prop} {C S : Nat} {U : State} (h : Gets p e below (OutW Q s below C S) U) : ∃ s₂ o, Steps p.tables e below U s₂ ∧ s₂.status = .running ∧ Ended s₂ below o ∧ ∃ v L, o = .returned v ∧ Q v s₂.heap L ∧ ReturnedEndW s o s₂ L C S := by
  obtain ⟨t, a, o, b⟩ := h; exact ⟨t, o, a, b⟩
theorem GetsW.fin {Q : Option Value → Heap → List Loc → Prop} {C S : Nat} {U : State} {vm₁ : Vm} (X : Stand p l e R (s.setVm vm₁) m args below meth c T locs cells slots) {n : Nat} (hS : s.Since vm₁ n) (hn : n ≤ T.heap.size) {v : Option Value} (hv : meth.sig.returnType = none → v = none) (hlk : meth.locks = false)
    (k : ∀ fs, (∀ (f : JFrame) (acts : List Action), f.method = m → f.locked = none → f.entered = [] → (doReturn e (T.setTop f) acts v).1 = T.setFrames fs) → Steps p.tables e below U (T.setFrames fs)) (hQ : Q v T.heap locs) (h1 : cells ≤ C) (h2 : slots ≤ S) : Gets p e below (OutW Q s below C S) U := by
  obtain ⟨fs, hr, hrun, hended, w1, w2, w3, w4⟩ := X.leaveW hS hn (v := v) hv hlk
  exact ⟨_, k fs hr, _, hrun, hended, _, _, rfl, hQ, w1, w2, w3, w4.mono h1 h2⟩
theorem GetsW.retN {Q : Option Value → Heap → List Loc → Prop} {C S : Nat} {vm₁ : Vm} (X : Stand p l e R (s.setVm vm₁) m args below meth c T locs cells slots) (hx : p.tables.exec = Jvm.exec) {pc : Nat} {Ls : Array Slot} {z : Int32} {t : FieldType} {rest : List Value} (hret : meth.sig.returnType = some t) (ht : t = .boolean ∨ t = .byte ∨ t = .char ∨ t = .short) (hd : decode c.code pc = .ok (.ireturn, 1)) {n : Nat} (hS : s.Since vm₁ n) (hn : n ≤ T.heap.size)
    (hQ : Q (some (.int (nar t z))) T.heap locs) (h1 : cells ≤ C) (h2 : slots ≤ S) (hlk : meth.locks = false := by assumption) : Gets p e below (OutW Q s below C S) (T.setTop (mkF m pc Ls (.int z :: rest))) :=
  GetsW.fin X hS hn (fun h => by rw [hret] at h; cases h) hlk (fun fs hr => Jvm.RoadKit.retN X hx hret ht hd hr) hQ h1 h2
theorem GetsW.retI {Q : Option Value → Heap → List Loc → Prop} {C S : Nat} {vm₁ : Vm} (X : Stand p l e R (s.setVm vm₁) m args below meth c T locs cells slots) (hx : p.tables.exec = Jvm.exec) {pc : Nat} {Ls : Array Slot} {z : Int32} {rest : List Value} (hret : meth.sig.returnType = some .int) (hd : decode c.code pc = .ok (.ireturn, 1)) {n : Nat} (hS : s.Since vm₁ n) (hn : n ≤ T.heap.size)
    (hQ : Q (some (.int z)) T.heap locs) (h1 : cells ≤ C) (h2 : slots ≤ S) (hlk : meth.locks = false := by assumption) : Gets p e below (OutW Q s below C S) (T.setTop (mkF m pc Ls (.int z :: rest))) :=
  GetsW.fin X hS hn (fun h => by rw [hret] at h; cases h) hlk (fun fs hr => retI0 X hx hret hd hr) hQ h1 h2
theorem GetsW.retA {Q : Option Value → Heap → List Loc → Prop} {C S : Nat} {vm₁ : Vm} (X : Stand p l e R (s.setVm vm₁) m args below meth c T locs cells slots) (hx : p.tables.exec = Jvm.exec) {pc : Nat} {Ls : Array Slot} {w : Value} {t : FieldType} {rest : List Value} (hret : meth.sig.returnType = some t) (ht : t.isReference = true) (hw : w.isRef = true) (hd : decode c.code pc = .ok (.areturn, 1)) {n : Nat} (hS : s.Since vm₁ n) (hn : n ≤ T.heap.size)
    (hQ : Q (some w) T.heap locs) (h1 : cells ≤ C) (h2 : slots ≤ S) (hlk : meth.locks = false := by assumption) : Gets p e below (OutW Q s below C S) (T.setTop (mkF m pc Ls (w :: rest))) :=
  GetsW.fin X hS hn (fun h => by rw [hret] at h; cases h) hlk (fun fs hr => retOut X hx hret (by cases t <;> first | (cases ht; done) | (cases w <;> first | rfl | (cases hw))) (Or.inr (Or.inr (Or.inr (Or.inr ⟨rfl, ht, hw⟩)))) hd hr) hQ h1 h2
theorem GetsW.retV {Q : Option Value → Heap → List Loc → Prop} {C S : Nat} {vm₁ : Vm} (X : Stand p l e R (s.setVm vm₁) m args below meth c T locs cells slots) (hx : p.tables.exec = Jvm.exec) {pc : Nat} {Ls : Array Slot} (hret : meth.sig.returnType = none) (hd : decode c.code pc = .ok (.return_, 1)) {n : Nat} (hS : s.Since vm₁ n) (hn : n ≤ T.heap.size)
    (hQ : Q none T.heap locs) (h1 : cells ≤ C) (h2 : slots ≤ S) (hlk : meth.locks = false := by assumption) : Gets p e below (OutW Q s below C S) (T.setTop (mkF m pc Ls [])) :=
  GetsW.fin X hS hn (fun _ => rfl) hlk (fun fs hr => X.returnOut hx hret hd hr) hQ h1 h2
/-- the payer of a callee that may load String constants, the constants' invariant handed over at its start -/
theorem own_backC {Z : State} {a0 : Array Value} {EL : List (String × Nat)} {h : Heap} {vm0 : Vm} {y : MethodName} {bytes : ByteArray} {maxL : Nat} {ret : Option FieldType} {rm : Room} {len W : Nat} {as' : Array Value} {Q : Option Value → Heap → List Loc → Prop}
    (hM : MetFree l y (head1 [Cond.code y bytes maxL ret] rm) (fun a U => a = as' ∧ Z.Warmed39 U.vm ∧ U.heap = h ∧ CHv Z EL U.vm h) (fun _ _ _ _ _ => True) (fun _ U o U' => ∃ v L, o = .returned v ∧ Q v U'.heap L ∧ ReturnedEndW U o U' L rm.cells rm.slots))
    (hZ : Z.Warmed39 vm0) (wc : (Cond.code y bytes maxL ret).before a0 Z = true) (wz : (Cond.initialized y.cls).before a0 Z = true) (hf : rm.frames + 1 ≤ R.frames) (hl : W + (maxL + 11) + rm.locals ≤ R.locals) (hEL : EW Z a0 EL) (H : CHv Z EL vm0 h) :
    BackS l R p e below (s.setVm vm0) args y len W (fun A a => a = as' ∧ A.U.heap = h ∧ A.cells + rm.cells ≤ R.cells ∧ A.slots + rm.slots ≤ R.slots)
      (fun A _ v B => ∃ L, Q v B.U.heap L ∧ B.locs = A.locs ++ L ∧ B.cells = A.cells + rm.cells ∧ B.slots = A.slots + rm.slots) := by
  refine BackS.of_freeW (bytes := bytes) (maxL := maxL) (ret := ret) (E := fun _ _ o t L k n => k = rm.cells ∧ n = rm.slots ∧ ∃ v, o = .returned v ∧ Q v t.heap L) hM hf hl ?_ ?_ (fun _ _ _ _ _ _ _ _ _ => trivial) ?_ ?_
  · intro m meth c A a Y hp
    have hU : Z.Warmed39 A.U.vm := wtrans (s := s.setVm vm0) hZ Y.warmed
    exact ⟨by show (Cond.and _ .tt).before a A.U = true; rw [Cond.before_and, mv hU wc]; rfl, mv hU wc, mv hU wz, hp.2.2.1, hp.2.2.2⟩
  · intro m meth c A a g mk Y hp
    exact ⟨hp.1, wtrans (s := s.setVm vm0) hZ Y.warmed, hp.2.1, (CHv.at Y hZ hEL H).1⟩
  · rintro _ _ _ _ ⟨v, L, h1, h2, h3⟩
    exact ⟨L, _, _, h3, rfl, rfl, v, h1, h2⟩
  · rintro m meth c A a g mk v t L k n Y hp _ _ ⟨e1, e2, v', e3, e4⟩
    cases e3; subst e1 e2
    exact ⟨L, e4, rfl, rfl, rfl⟩
theorem own_mir {Z : State} {C : String} {mr : Addr} (hZ : Z.Warmed39 s.vm) (M : Mir Z C mr) : (Term.mirror C).eval args s none [] s = some (.ref mr) := by
  obtain ⟨c, k, h1, h2, h3, -⟩ := M
  obtain ⟨k', q, ek⟩ := hZ.alike.2.2 _ _ h2
  have h4 : s.vm.findClass C = some c := by rw [hZ.alike.findClass]; exact h1
  have h5 : k'.mirror = some mr := by rw [ek]; exact h3
  simp [Term.eval, h4, q, h5]
theorem own_catR {w : Value} (hw : w.isRef = true) : w.category = 1 := by
  cases w <;> first | rfl | cases hw
theorem own_narrow_ref {ty : FieldType} {w : Value} (hw : w.isRef = true) : narrow ty w = w := by
  rcases ref_cases hw with rfl | ⟨a, rfl⟩ <;> cases ty <;> rfl
theorem own_fits_obj {C : String} {w : Value} (hw : w.isRef = true) : fits (.object C) w = true := by
  rcases ref_cases hw with rfl | ⟨a, rfl⟩ <;> rfl
theorem own_fits_arr {t : FieldType} {w : Value} (hw : w.isRef = true) : fits (.array t) w = true := by
  rcases ref_cases hw with rfl | ⟨a, rfl⟩ <;> rfl
theorem own_NS_root {Z : State} {a0 : Array Value} {O K : String} {n : Nat} (w : (Cond.noSuperclass O).before a0 Z = true) (wk : (Cond.instantiable K n).before a0 Z = true) (hn : O ≠ K) : NS Z O K := by
  obtain ⟨c, k, h1, h2, h3, -, -⟩ := Cond.noSuperclass_spec w
  obtain ⟨t, kt, g1, -⟩ := Cond.instantiable_spec wk
  have ne := ids_ne h1 g1 hn
  refine ⟨c, t, h1, g1, fun fuel => ?_⟩
  cases fuel with
  | zero => rfl
  | succ f => simp [Vm.isSubclassAux, ne, h2, h3]
theorem own_NS_no {Z : State} {a0 : Array Value} {C S K : String} {n : Nat} (w : (Cond.superclass C S).before a0 Z = true) (wk : (Cond.instantiable K n).before a0 Z = true) (nn : NS Z C K) (hn : C ≠ K) : ∃ c t, Z.vm.findClass C = some c ∧ Z.vm.findClass K = some t ∧ Z.vm.assignable c t = false := by
  obtain ⟨c, t, h0, g0, n3⟩ := nn
  obtain ⟨p, k, kp, h1, h2, h3, h4, h5, -, h7⟩ := Cond.superclass_spec h0 w
  obtain ⟨t', kt, g1, g2, g3, g4, -⟩ := Cond.instantiable_spec wk
  cases g0.symm.trans g1
  have ne := ids_ne h0 g0 hn
  have g5 : kt.isInterface = false := by cases hq : kt.isInterface <;> simp_all
  refine ⟨c, t, h0, g0, ?_⟩
  show Z.vm.assignableAux (255 + 1) c t = false
  simp [Vm.assignableAux, ne, h2, g2, h5, g3, g5, Vm.isSubclass, n3]
end Own
end Jvm.RoadKit
namespace Jvm.Pilot.@@N@@
open Jvm Jvm.ClassFile Sem Op Lib Jvm.Free Jvm.Stand Jvm.LawKit Jvm.RoadKit Bundle Jvm.Pilot.@@N@@.Jvm.D
abbrev cn0 : String := "com/example/cardwire/cardwire/core/Elements"
abbrev cn1 : String := "java/util/TreeMap"
abbrev cn2 : String := "(I)Lcom/example/cardwire/cardwire/core/Layout;"
abbrev cn3 : String := "com/example/cardwire/cardwire/core/Layout"
abbrev cn4 : String := "java/lang/Integer"
abbrev cn5 : String := "com/example/cardwire/cardwire/core/ElementsLayoutPinLaw"
abbrev cn6 : String := "[Lcom/example/cardwire/cardwire/core/Layout;"
abbrev cn7 : String := "(ILcom/example/cardwire/cardwire/core/Layout;)V"
abbrev cn8 : String := "(IIZILcom/example/cardwire/cardwire/core/Layout;Lcom/example/cardwire/cardwire/core/Layout;)Lcom/example/cardwire/cardwire/core/Layout;"
abbrev cn9 : String := "com/example/cardwire/cardwire/core/ElementFormat"
abbrev cn10 : String := "[Lcom/example/cardwire/cardwire/core/ElementFormat;"
abbrev cn11 : String := "(Ljava/lang/Object;)Ljava/util/TreeMap$Entry;"
abbrev cn12 : String := "com/example/cardwire/cardwire/core/TagLengthValue"
abbrev cn13 : String := "com/example/cardwire/cardwire/core/KeyValuePairs"

theorem own_len31 {args : Array Value} {first s : State} {o : Option Outcome} {idx : List Nat} {t : Term} {a : Addr} {cl : Cell} {z : Int32} (ht : t.eval args first o idx s = some (.ref a)) (ha : s.arrayAt? a = some cl) (h : (Term.length t).eval args first o idx s = some (.int z)) : cl.slots.size < 2 ^ 31 ∧ cl.slots.size.toInt32 = z := by
  by_cases q : cl.slots.size < 2 ^ 31
  · refine ⟨q, ?_⟩
    rw [len_f ht ha q] at h
    exact Value.int.inj (Option.some.inj h)
  · exfalso; simp [Term.eval, ht, ha, q] at h
def own_h1 (q n1 : Int32) (l1 : Addr) : Value := if q = n1 then .ref l1 else .null
def own_h2 (q n1 n2 : Int32) (l1 l2 : Addr) : Value := if q = n1 then .ref l1 else if q = n2 then .ref l2 else .null
theorem own_h1_ref (q n1 : Int32) (l1 : Addr) : (own_h1 q n1 l1).isRef = true := by unfold own_h1; split <;> rfl
theorem own_h2_ref (q n1 n2 : Int32) (l1 l2 : Addr) : (own_h2 q n1 n2 l1 l2).isRef = true := by unfold own_h2; split <;> (try split) <;> rfl
theorem own_h1_self (n1 : Int32) (l1 : Addr) : own_h1 n1 n1 l1 = .ref l1 := by simp [own_h1]
theorem own_h2_self (n1 n2 : Int32) (l1 l2 : Addr) : own_h2 n1 n1 n2 l1 l2 = .ref l1 := by simp [own_h2]
theorem own_mod129 (x : Int32) : 0 ≤ ((x &&& (2147483647 : Int32)) % (129 : Int32)).toInt ∧ ((x &&& (2147483647 : Int32)) % (129 : Int32)).toInt < 129 := by
  have h : (x &&& 2147483647).toInt = x.toInt % 2 ^ 31 := Jvm.Kit.i32_mask x 2147483647 (k := 31) (by decide) (by decide)
  rw [Jvm.Kit.i32_rem_nonneg (by omega)]
  simp only [Int32.reduceToInt]; omega
theorem own_n129a (x : Int32) : ¬ (((x &&& (2147483647 : Int32)) % (129 : Int32)) < (0 : Int32)) := by
  have := own_mod129 x; rw [Int32.lt_iff_toInt_lt]; simp only [Int32.reduceToInt]; omega
theorem own_n129b (x : Int32) : ((x &&& (2147483647 : Int32)) % (129 : Int32)) < (129 : Int32) := by
  have := own_mod129 x; rw [Int32.lt_iff_toInt_lt]; simp only [Int32.reduceToInt]; omega
theorem own_box_ix {q : Int32} (h1 : ¬ (q < (-128 : Int32))) (h2 : ¬ ((127 : Int32) < q)) : ¬ (q + (128 : Int32)) < 0 ∧ (q + (128 : Int32)) < (256 : Int32) := by
  rw [Int32.lt_iff_toInt_lt] at h1 h2
  simp only [Int32.reduceToInt] at h1 h2
  have e2 : (q + (128 : Int32)).toInt = q.toInt + 128 := by rw [Jvm.Kit.i32_add] <;> simp only [Int32.reduceToInt] <;> omega
  constructor
  · rw [Int32.lt_iff_toInt_lt, e2]; simp only [Int32.reduceToInt]; omega
  · rw [Int32.lt_iff_toInt_lt, e2]; simp only [Int32.reduceToInt]; omega
theorem w73 {Z : State} {a0 : Array Value} (hw : ∀ d ∈ tables_1, d.before a0 Z = true) : (Jvm.Cond.initialized "java/lang/Integer$IntegerCache").before a0 Z = true := hw _ (List.mem_of_getElem? (i := 73) rfl)
theorem w53 {Z : State} {a0 : Array Value} (hw : ∀ d ∈ tables_1, d.before a0 Z = true) : (Jvm.Cond.initialized cn12).before a0 Z = true := hw _ (List.mem_of_getElem? (i := 53) rfl)
theorem w54 {Z : State} {a0 : Array Value} (hw : ∀ d ∈ tables_1, d.before a0 Z = true) : (Jvm.Cond.laysStatic cn12 "LAYOUT" "Lcom/example/cardwire/cardwire/core/TagLengthValue;").before a0 Z = true := hw _ (List.mem_of_getElem? (i := 54) rfl)
theorem w56 {Z : State} {a0 : Array Value} (hw : ∀ d ∈ tables_1, d.before a0 Z = true) : (Jvm.Cond.initialized cn13).before a0 Z = true := hw _ (List.mem_of_getElem? (i := 56) rfl)
theorem w57 {Z : State} {a0 : Array Value} (hw : ∀ d ∈ tables_1, d.before a0 Z = true) : (Jvm.Cond.laysStatic cn13 "LAYOUT" "Lcom/example/cardwire/cardwire/core/KeyValuePairs;").before a0 Z = true := hw _ (List.mem_of_getElem? (i := 57) rfl)
theorem d14_0 : decode jdk_18_method_1_code 0 = .ok (.aload_n 0, 1) := by decide +kernel
theorem d14_1 : decode jdk_18_method_1_code 1 = .ok (.invokespecial 1, 3) := by decide +kernel
theorem w115 {Z : State} {a0 : Array Value} (hw : ∀ d ∈ tables_1, d.before a0 Z = true) : (Jvm.Cond.methodLink "java/lang/Number" (1 : Nat) ({ cls := "java/lang/Object", name := "<init>", desc := "()V" } : Jvm.MethodName)).before a0 Z = true := hw _ (List.mem_of_getElem? (i := 115) rfl)
theorem w7 {Z : State} {a0 : Array Value} (hw : ∀ d ∈ tables_1, d.before a0 Z = true) : (Jvm.Cond.instanceMethod ({ cls := "java/lang/Object", name := "<init>", desc := "()V" } : Jvm.MethodName)).before a0 Z = true := hw _ (List.mem_of_getElem? (i := 7) rfl)
theorem w8 {Z : State} {a0 : Array Value} (hw : ∀ d ∈ tables_1, d.before a0 Z = true) : (Jvm.Cond.code ({ cls := "java/lang/Object", name := "<init>", desc := "()V" } : Jvm.MethodName) object_method_1_code (1 : Nat) (Option.none : Option Jvm.ClassFile.FieldType)).before a0 Z = true := hw _ (List.mem_of_getElem? (i := 8) rfl)
theorem d14_4 : decode jdk_18_method_1_code 4 = .ok (.return_, 1) := by decide +kernel
def Q_rm_num (Z : State) (ya : Addr) (h0 : Heap) (n0 : Nat) (v : Option Value) (h : Heap) (L : List Loc) : Prop := Fr n0 L ∧ h = h0 ∧ ((v = none))
theorem pn_java_lang_Number : plainName "java/lang/Number" = true := by first | (simp [plainName, overriddenIn]; done) | decide +kernel
set_option maxRecDepth 65536 in
set_option maxHeartbeats 40000000 in
theorem rm_num (l : Launch) (Z : State) (a0 : Array Value) (hw : ∀ d ∈ tables_1, d.before a0 Z = true) (ws : List Jvm.Cond) (ya : Addr) (h0 : Heap) (n0 : Nat) (O0 : Old Z n0 h0) :
    MetFree l (⟨"java/lang/Number", "<init>", "()V"⟩ : MethodName) (head1 (Jvm.Cond.code (⟨"java/lang/Number", "<init>", "()V"⟩ : MethodName) jdk_18_method_1_code 1 none :: ws) ({ frames := 1, cells := 0, slots := 0, locals := 12 } : Room)) (fun a U => a = #[(.ref ya)] ∧ Z.Warmed39 U.vm ∧ U.heap = h0) (fun _ _ _ _ _ => True) (fun _ U o U' => ∃ v L, o = .returned v ∧ Q_rm_num Z ya h0 n0 v U'.heap L ∧ FrameEnd U o U' L ({ frames := 1, cells := 0, slots := 0, locals := 12 } : Room).cells ({ frames := 1, cells := 0, slots := 0, locals := 12 } : Room).slots) := by
  refine MetFree.of_bodySF (plainFor_of_name pn_java_lang_Number) hisR ?_
  intro p e s m args below meth c s₁ Bd hml0 hP hK
  obtain ⟨rfl, hZ, hh⟩ := hP
  have hx := Bd.exec
  have hby := Bd.bytes
  have hlk := Bd.notSynchronized
  have hml : c.maxLocals = 1 := hml0
  have hown : s.vm.findClass "java/lang/Number" = some m.cls := findClass_of_methodNamed Bd.named
  have hnm := (name_of_methodNamed Bd.named Bd.method).1
  have X0 : Stand p l e ({ frames := 1, cells := 0, slots := 0, locals := 12 } : Room) s m #[(.ref ya)] below meth c s₁ [] 0 0 := Stand.of_body Bd
  have e0 : s₁.heap = h0 := by rw [← hh, Bd.state]; rfl
  have N0 := Fr.nil n0
  have K0 := Keep.refl h0 []
  have Z0 : n0 ≤ h0.size := O0.1 ▸ O0.2.1
  have hef : entryFrame m #[(.ref ya)] 1 = mkF m 0 #[.val (.ref ya)] [] := by first | (simp [entryFrame, mkF, argsToLocals, Value.category]; done) | rfl
  rw [hef]
  refine Gets.out (Q := Q_rm_num Z ya h0 n0) ?_
  show Gets p e below _ (s₁.setTop (mkF m 0 #[.val (.ref ya)] []))
  refine Gets.of (fun t k => XS.aloadN X0.here hx rfl (hb hby d14_0) rfl rfl  k) ?_
  obtain ⟨T1, X1, e1, st1⟩ := initO X0 hx hZ hown (w115 hw) (w7 hw) (w8 hw) e0 (g := (mkF m 1 #[.val (.ref ya)] [(.ref ya)])) rfl (by rw [hml]; rfl) rfl (hb hby d14_1) (by decide) (W := 0) (by show 2 * 0 + _ ≤ _; exact Nat.le_of_eq rfl) (by decide)
  refine Gets.of st1 ?_
  show Gets p e below _ (T1.setTop (mkF m 4 #[.val (.ref ya)] []))
  refine Gets.retV X1 hx Bd.returns (hb hby d14_4) ?_ (by decide) (by decide)
  rw [e1]
  exact ⟨N0, rfl, rfl⟩
theorem d13_0 : decode jdk_33_method_23_code 0 = .ok (.aload_n 0, 1) := by decide +kernel
theorem d13_1 : decode jdk_33_method_23_code 1 = .ok (.invokespecial 202, 3) := by decide +kernel
theorem w109 {Z : State} {a0 : Array Value} (hw : ∀ d ∈ tables_1, d.before a0 Z = true) : (Jvm.Cond.methodLink cn4 (202 : Nat) ({ cls := "java/lang/Number", name := "<init>", desc := "()V" } : Jvm.MethodName)).before a0 Z = true := hw _ (List.mem_of_getElem? (i := 109) rfl)
theorem w114 {Z : State} {a0 : Array Value} (hw : ∀ d ∈ tables_1, d.before a0 Z = true) : (Jvm.Cond.code ({ cls := "java/lang/Number", name := "<init>", desc := "()V" } : Jvm.MethodName) jdk_18_method_1_code (1 : Nat) (Option.none : Option Jvm.ClassFile.FieldType)).before a0 Z = true := hw _ (List.mem_of_getElem? (i := 114) rfl)
theorem w113 {Z : State} {a0 : Array Value} (hw : ∀ d ∈ tables_1, d.before a0 Z = true) : (Jvm.Cond.initialized "java/lang/Number").before a0 Z = true := hw _ (List.mem_of_getElem? (i := 113) rfl)
theorem pd__V : parseMethodDescriptor "()V" = some ⟨[], none⟩ := by decide +kernel
theorem w110 {Z : State} {a0 : Array Value} (hw : ∀ d ∈ tables_1, d.before a0 Z = true) : (Jvm.Cond.instanceMethod ({ cls := "java/lang/Number", name := "<init>", desc := "()V" } : Jvm.MethodName)).before a0 Z = true := hw _ (List.mem_of_getElem? (i := 110) rfl)
theorem d13_4 : decode jdk_33_method_23_code 4 = .ok (.aload_n 0, 1) := by decide +kernel
theorem d13_5 : decode jdk_33_method_23_code 5 = .ok (.iload_n 1, 1) := by decide +kernel
theorem d13_6 : decode jdk_33_method_23_code 6 = .ok (.putfield 205, 3) := by decide +kernel
theorem w116 {Z : State} {a0 : Array Value} (hw : ∀ d ∈ tables_1, d.before a0 Z = true) : (Jvm.Cond.fieldLink cn4 (205 : Nat) cn4 "value" "I").before a0 Z = true := hw _ (List.mem_of_getElem? (i := 116) rfl)
theorem w117 {Z : State} {a0 : Array Value} (hw : ∀ d ∈ tables_1, d.before a0 Z = true) : (Jvm.Cond.laysFinal cn4 cn4 "value" "I").before a0 Z = true := hw _ (List.mem_of_getElem? (i := 117) rfl)
theorem w104 {Z : State} {a0 : Array Value} (hw : ∀ d ∈ tables_1, d.before a0 Z = true) : (Jvm.Cond.instantiable cn4 (1 : Nat)).before a0 Z = true := hw _ (List.mem_of_getElem? (i := 104) rfl)
theorem d13_9 : decode jdk_33_method_23_code 9 = .ok (.return_, 1) := by decide +kernel
def Q_rm_integer (Z : State) (ya : Addr) (yq : Int32) (h0 : Heap) (n0 : Nat) (v : Option Value) (h : Heap) (L : List Loc) : Prop := Fr n0 L ∧ Keep h0 h [ya] ∧ ((v = none ∧ Fld Z h ya cn4 "value" "I" (.int yq)))
theorem pn_java_lang_Integer : plainName "java/lang/Integer" = true := by first | (simp [plainName, overriddenIn]; done) | decide +kernel
set_option maxRecDepth 65536 in
set_option maxHeartbeats 40000000 in
theorem rm_integer (l : Launch) (Z : State) (a0 : Array Value) (hw : ∀ d ∈ tables_1, d.before a0 Z = true) (ws : List Jvm.Cond) (ya : Addr) (yq : Int32) (h0 : Heap) (n0 : Nat) (O0 : Old Z n0 h0) (F0 : Exa Z h0 ya cn4) (F1 : Fld Z h0 ya cn4 "value" "I" (.int (0 : Int32))) (gya : n0 ≤ ya) :
    MetFree l (⟨cn4, "<init>", "(I)V"⟩ : MethodName) (head1 (Jvm.Cond.code (⟨cn4, "<init>", "(I)V"⟩ : MethodName) jdk_33_method_23_code 2 none :: ws) ({ frames := 2, cells := 0, slots := 0, locals := 24 } : Room)) (fun a U => a = #[(.ref ya), (.int yq)] ∧ Z.Warmed39 U.vm ∧ U.heap = h0) (fun _ _ _ _ _ => True) (fun _ U o U' => ∃ v L, o = .returned v ∧ Q_rm_integer Z ya yq h0 n0 v U'.heap L ∧ FrameEnd U o U' L ({ frames := 2, cells := 0, slots := 0, locals := 24 } : Room).cells ({ frames := 2, cells := 0, slots := 0, locals := 24 } : Room).slots) := by
  refine MetFree.of_bodySF (plainFor_of_name pn_java_lang_Integer) hisR ?_
  intro p e s m args below meth c s₁ Bd hml0 hP hK
  obtain ⟨rfl, hZ, hh⟩ := hP
  have hx := Bd.exec
  have hby := Bd.bytes
  have hlk := Bd.notSynchronized
  have hml : c.maxLocals = 2 := hml0
  have hown : s.vm.findClass cn4 = some m.cls := findClass_of_methodNamed Bd.named
  have hnm := (name_of_methodNamed Bd.named Bd.method).1
  have X0 : Stand p l e ({ frames := 2, cells := 0, slots := 0, locals := 24 } : Room) s m #[(.ref ya), (.int yq)] below meth c s₁ [] 0 0 := Stand.of_body Bd
  have e0 : s₁.heap = h0 := by rw [← hh, Bd.state]; rfl
  have N0 := Fr.nil n0
  have K0 := Keep.refl h0 [ya]
  have Z0 : n0 ≤ h0.size := O0.1 ▸ O0.2.1
  have hef : entryFrame m #[(.ref ya), (.int yq)] 2 = mkF m 0 #[.val (.ref ya), .val (.int yq)] [] := by first | (simp [entryFrame, mkF, argsToLocals, Value.category]; done) | rfl
  rw [hef]
  refine Gets.out (Q := Q_rm_integer Z ya yq h0 n0) ?_
  show Gets p e below _ (s₁.setTop (mkF m 0 #[.val (.ref ya), .val (.int yq)] []))
  refine Gets.of (fun t k => XS.aloadN X0.here hx rfl (hb hby d13_0) rfl rfl  k) ?_
  obtain ⟨_, _, ⟨T1, L1, k1, n1⟩, -, X1, ⟨Lc1, hQ1, l1, y1, z1⟩, st1⟩ := X0.specialBack hx (y := (⟨"java/lang/Number", "<init>", "()V"⟩ : MethodName)) rfl hown (mvT hZ (w109 hw)) (mvT hZ (w110 hw)) (mvT hZ (w114 hw)) (by decide) (backOf (W := 0) (rm_num l Z a0 hw [] ya h0 n0 O0) hZ (w114 hw) (w113 hw) (by decide) (by decide)) (g := (mkF m 1 #[.val (.ref ya), .val (.int yq)] [(.ref ya)])) rfl (by rw [hml]; rfl) (Steps.refl _) (a := ya) (argsL := []) (rest := []) (lenOf pd__V rfl) rfl (by show 2 * 0 + _ ≤ _; exact Nat.le_of_eq rfl) (hb hby d13_1) (fun _ _ => ⟨rfl, e0, (by decide : 0 + 0 ≤ _), (by decide : 0 + 0 ≤ _)⟩)
  dsimp only [Pt.U, Pt.locs, Pt.cells, Pt.slots] at X1 l1 y1 z1 st1 hQ1
  subst l1 y1 z1
  obtain ⟨Nq1, eq1, hR1⟩ := hQ1
  have N1 := Fr.app N0 Nq1
  obtain rfl := hR1
  refine Gets.tr st1 ?_
  show Gets p e below _ (T1.setTop (mkF m 4 #[.val (.ref ya), .val (.int yq)] []))
  refine Gets.of (fun t k => XS.aloadN X1.here hx rfl (hb hby d13_4) rfl rfl  k) ?_
  refine Gets.of (fun t k => XS.iloadN X1.here hx rfl (hb hby d13_5) rfl  k) ?_
  obtain ⟨T2, h2, X2, e2, W2, st2⟩ := putF X1 hx hZ hown (host := "") (Or.inl (w116 hw)) Via.refl eq1 F1 F0 (Or.inr ⟨(w117 hw), rfl, hnm⟩) (w104 hw) (ty := .int) (by decide) rfl rfl (g := (mkF m 6 #[.val (.ref ya), .val (.int yq)] [(.int yq), (.ref ya)])) rfl rfl (hb hby d13_6)
  have N2 := Fr.snoc X2 N1 gya
  have Fw2 : Fld Z h2 ya cn4 "value" "I" (.int yq) := (F1).same W2
  have K3 : Keep h0 _ [ya] := K0.wr W2 (Or.inl (by simp))
  have O3 := O0.wr W2 gya
  refine Gets.of st2 ?_
  show Gets p e below _ (T2.setTop (mkF m 9 #[.val (.ref ya), .val (.int yq)] []))
  refine Gets.retV X2 hx Bd.returns (hb hby d13_9) ?_ (by decide) (by decide)
  rw [e2]
  exact ⟨N2, K3, ⟨rfl, Fw2⟩⟩
theorem d8_0 : decode jdk_33_method_22_code 0 = .ok (.iload_n 0, 1) := by decide +kernel
theorem d8_1 : decode jdk_33_method_22_code 1 = .ok (.bipush (-128), 2) := by decide +kernel
theorem d8_3 : decode jdk_33_method_22_code 3 = .ok (.if_icmp .lt 20, 3) := by decide +kernel
theorem d8_6 : decode jdk_33_method_22_code 6 = .ok (.iload_n 0, 1) := by decide +kernel
theorem d8_7 : decode jdk_33_method_22_code 7 = .ok (.getstatic 191, 3) := by decide +kernel
theorem w72 {Z : State} {a0 : Array Value} (hw : ∀ d ∈ tables_1, d.before a0 Z = true) : (Jvm.Cond.fieldLink cn4 (191 : Nat) "java/lang/Integer$IntegerCache" "high" "I").before a0 Z = true := hw _ (List.mem_of_getElem? (i := 72) rfl)
theorem d8_10 : decode jdk_33_method_22_code 10 = .ok (.if_icmp .gt 13, 3) := by decide +kernel
theorem d8_23 : decode jdk_33_method_22_code 23 = .ok (.new 1, 3) := by decide +kernel
theorem w103 {Z : State} {a0 : Array Value} (hw : ∀ d ∈ tables_1, d.before a0 Z = true) : (Jvm.Cond.classLink cn4 (1 : Nat) cn4).before a0 Z = true := hw _ (List.mem_of_getElem? (i := 103) rfl)
theorem w70 {Z : State} {a0 : Array Value} (hw : ∀ d ∈ tables_1, d.before a0 Z = true) : (Jvm.Cond.initialized cn4).before a0 Z = true := hw _ (List.mem_of_getElem? (i := 70) rfl)
theorem d8_26 : decode jdk_33_method_22_code 26 = .ok (.dup, 1) := by decide +kernel
theorem d8_27 : decode jdk_33_method_22_code 27 = .ok (.iload_n 0, 1) := by decide +kernel
theorem d8_28 : decode jdk_33_method_22_code 28 = .ok (.invokespecial 199, 3) := by decide +kernel
theorem w105 {Z : State} {a0 : Array Value} (hw : ∀ d ∈ tables_1, d.before a0 Z = true) : (Jvm.Cond.methodLink cn4 (199 : Nat) ({ cls := cn4, name := "<init>", desc := "(I)V" } : Jvm.MethodName)).before a0 Z = true := hw _ (List.mem_of_getElem? (i := 105) rfl)
theorem w108 {Z : State} {a0 : Array Value} (hw : ∀ d ∈ tables_1, d.before a0 Z = true) : (Jvm.Cond.code ({ cls := cn4, name := "<init>", desc := "(I)V" } : Jvm.MethodName) jdk_33_method_23_code (2 : Nat) (Option.none : Option Jvm.ClassFile.FieldType)).before a0 Z = true := hw _ (List.mem_of_getElem? (i := 108) rfl)
theorem pd__I_V : parseMethodDescriptor "(I)V" = some ⟨[.int], none⟩ := by decide +kernel
theorem w106 {Z : State} {a0 : Array Value} (hw : ∀ d ∈ tables_1, d.before a0 Z = true) : (Jvm.Cond.instanceMethod ({ cls := cn4, name := "<init>", desc := "(I)V" } : Jvm.MethodName)).before a0 Z = true := hw _ (List.mem_of_getElem? (i := 106) rfl)
theorem d8_31 : decode jdk_33_method_22_code 31 = .ok (.areturn, 1) := by decide +kernel
theorem d8_13 : decode jdk_33_method_22_code 13 = .ok (.getstatic 195, 3) := by decide +kernel
theorem w74 {Z : State} {a0 : Array Value} (hw : ∀ d ∈ tables_1, d.before a0 Z = true) : (Jvm.Cond.fieldLink cn4 (195 : Nat) "java/lang/Integer$IntegerCache" "cache" "[Ljava/lang/Integer;").before a0 Z = true := hw _ (List.mem_of_getElem? (i := 74) rfl)
theorem d8_16 : decode jdk_33_method_22_code 16 = .ok (.iload_n 0, 1) := by decide +kernel
theorem d8_17 : decode jdk_33_method_22_code 17 = .ok (.sipush 128, 3) := by decide +kernel
theorem d8_20 : decode jdk_33_method_22_code 20 = .ok (.iadd, 1) := by decide +kernel
theorem d8_21 : decode jdk_33_method_22_code 21 = .ok (.aaload, 1) := by decide +kernel
theorem d8_22 : decode jdk_33_method_22_code 22 = .ok (.areturn, 1) := by decide +kernel
def Q_rm_vof (Z : State) (p1 : Int32) (ov3 : Addr) (oc6 : Cell) (h0 : Heap) (n0 : Nat) (v : Option Value) (h : Heap) (L : List Loc) : Prop := Fr n0 L ∧ Keep h0 h [] ∧ ((∃ (yw : Addr), v = some (.ref yw) ∧ Exa Z h yw cn4))
set_option maxRecDepth 65536 in
set_option maxHeartbeats 40000000 in
theorem rm_vof (l : Launch) (Z : State) (a0 : Array Value) (hw : ∀ d ∈ tables_1, d.before a0 Z = true) (ws : List Jvm.Cond) (p1 : Int32) (ov3 : Addr) (oc6 : Cell) (h0 : Heap) (n0 : Nat) (O0 : Old Z n0 h0) (oS2 : Sta Z Z.heap "java/lang/Integer$IntegerCache" "high" "I" (.int (127 : Int32))) (oS5 : Sta Z Z.heap "java/lang/Integer$IntegerCache" "cache" "[Ljava/lang/Integer;" (.ref ov3)) (hbx : Bxs Z ov3 oc6 cn4 "I" (256 : Int32) (fun j => .int (j - 128))) (hp1 : ¬ (p1 < (-128 : Int32))) :
    MetFree l (⟨cn4, "valueOf", "(I)Ljava/lang/Integer;"⟩ : MethodName) (head1 (Jvm.Cond.code (⟨cn4, "valueOf", "(I)Ljava/lang/Integer;"⟩ : MethodName) jdk_33_method_22_code 1 (some (.object cn4)) :: ws) ({ frames := 3, cells := 1, slots := 1, locals := 38 } : Room)) (fun a U => a = #[(.int p1)] ∧ Z.Warmed39 U.vm ∧ U.heap = h0) (fun _ _ _ _ _ => True) (fun _ U o U' => ∃ v L, o = .returned v ∧ Q_rm_vof Z p1 ov3 oc6 h0 n0 v U'.heap L ∧ FrameEnd U o U' L ({ frames := 3, cells := 1, slots := 1, locals := 38 } : Room).cells ({ frames := 3, cells := 1, slots := 1, locals := 38 } : Room).slots) := by
  refine MetFree.of_bodySF (plainFor_of_name pn_java_lang_Integer) hisR ?_
  intro p e s m args below meth c s₁ Bd hml0 hP hK
  obtain ⟨rfl, hZ, hh⟩ := hP
  have hx := Bd.exec
  have hby := Bd.bytes
  have hlk := Bd.notSynchronized
  have hml : c.maxLocals = 1 := hml0
  have hown : s.vm.findClass cn4 = some m.cls := findClass_of_methodNamed Bd.named
  have hnm := (name_of_methodNamed Bd.named Bd.method).1
  have X0 : Stand p l e ({ frames := 3, cells := 1, slots := 1, locals := 38 } : Room) s m #[(.int p1)] below meth c s₁ [] 0 0 := Stand.of_body Bd
  have e0 : s₁.heap = h0 := by rw [← hh, Bd.state]; rfl
  have N0 := Fr.nil n0
  have K0 := Keep.refl h0 []
  have Z0 : n0 ≤ h0.size := O0.1 ▸ O0.2.1
  have hef : entryFrame m #[(.int p1)] 1 = mkF m 0 #[.val (.int p1)] [] := by first | (simp [entryFrame, mkF, argsToLocals, Value.category]; done) | rfl
  rw [hef]
  refine Gets.out (Q := Q_rm_vof Z p1 ov3 oc6 h0 n0) ?_
  show Gets p e below _ (s₁.setTop (mkF m 0 #[.val (.int p1)] []))
  refine Gets.of (fun t k => XS.iloadN X0.here hx rfl (hb hby d8_0) rfl  k) ?_
  refine Gets.of (fun t k => XS.bipush X0.here hx rfl (hb hby d8_1) k) ?_
  refine Gets.of (fun t k => XS.icmpNo X0.here hx rfl (hb hby d8_3) rfl (flt hp1).1 k) ?_
  show Gets p e below _ (s₁.setTop (mkF m 6 #[.val (.int p1)] []))
  refine Gets.of (fun t k => XS.iloadN X0.here hx rfl (hb hby d8_6) rfl  k) ?_
  obtain ⟨T1, X1, e1, st1⟩ := getS2 X0 hx hZ hown (host := "") (Or.inl (w72 hw)) Via.refl e0 (oS2.ext O0.2) (g := (mkF m 7 #[.val (.int p1)] [(.int p1)])) rfl (hb hby d8_7)
  refine Gets.of st1 ?_
  show Gets p e below _ (T1.setTop (mkF m 10 #[.val (.int p1)] [(.int (127 : Int32)), (.int p1)]))
  by_cases hc2 : (127 : Int32) < p1
  · skip
    refine Gets.of (fun t k => XS.icmpYes X1.here hx rfl (pc0 := 10) (pc' := 23) rfl (hb hby d8_10) rfl (tlt hc2).2.2.1 (by decide) (by decide) k) ?_
    show Gets p e below _ (T1.setTop (mkF m 23 #[.val (.int p1)] []))
    obtain ⟨T3, h3, X3, e3, E3, A3, D3, -, st3⟩ := newO X1 hx hZ hown (w103 hw) (w104 hw) (w70 hw) e1 (g := (mkF m 23 #[.val (.int p1)] [])) rfl (hb hby d8_23) (by decide) (by decide)
    obtain ⟨b3, g3⟩ : ∃ z, z = h0.size := ⟨_, rfl⟩
    rw [← g3] at A3 D3 st3
    have sz_b3 : h0.size ≤ b3 := Nat.le_trans K0.1 (Nat.le_of_eq g3.symm)
    have g_b3 : n0 ≤ b3 := Nat.le_trans Z0 sz_b3
    have K4 := K0.ext E3
    have O4 := O0.ext E3
    have F3_117 : Fld Z h3 b3 cn4 "value" "I" (.int (0 : Int32)) := D3 (Or.inr (w117 hw)) (ty := .int) (by decide)
    refine Gets.of st3 ?_
    show Gets p e below _ (T3.setTop (mkF m 26 #[.val (.int p1)] [(.ref b3)]))
    refine Gets.of (fun t k => XS.dup X3.here hx rfl (hb hby d8_26) rfl rfl k) ?_
    refine Gets.of (fun t k => XS.iloadN X3.here hx rfl (hb hby d8_27) rfl  k) ?_
    obtain ⟨_, _, ⟨T5, L5, k5, n5⟩, -, X5, ⟨Lc5, hQ5, l5, y5, z5⟩, st5⟩ := X3.specialBack hx (y := (⟨cn4, "<init>", "(I)V"⟩ : MethodName)) rfl hown (mvT hZ (w105 hw)) (mvT hZ (w106 hw)) (mvT hZ (w108 hw)) (by decide) (backOf (W := 1) (rm_integer l Z a0 hw [] b3 p1 h3 n0 O4 A3 F3_117 g_b3) hZ (w108 hw) (w70 hw) (by decide) (by decide)) (g := (mkF m 28 #[.val (.int p1)] [(.int p1), (.ref b3), (.ref b3)])) rfl (by rw [hml]; rfl) (Steps.refl _) (a := b3) (argsL := [(.int p1)]) (rest := [(.ref b3)]) (lenOf pd__I_V rfl) rfl (by show 2 * 0 + _ ≤ _; exact Nat.le_of_eq rfl) (hb hby d8_28) (fun _ _ => ⟨rfl, e3, (by decide : 1 + 0 ≤ _), (by decide : 1 + 0 ≤ _)⟩)
    dsimp only [Pt.U, Pt.locs, Pt.cells, Pt.slots] at X5 l5 y5 z5 st5 hQ5
    subst l5 y5 z5
    obtain ⟨Nq5, Kq5, hR5⟩ := hQ5
    have N5 := Fr.app N0 Nq5
    have K6 : Keep h0 _ [] := K4.trans Kq5 (allS (Or.inr sz_b3) all0)
    have O6 := O4.keep Kq5 (allS g_b3 all0)
    obtain ⟨rfl, bf5_0⟩ := hR5
    refine Gets.tr st5 ?_
    show Gets p e below _ (T5.setTop (mkF m 31 #[.val (.int p1)] [(.ref b3)]))
    refine Gets.retA X5 hx Bd.returns rfl rfl (hb hby d8_31) ?_ (by decide) (by decide)
    have f9 : Exa Z T5.heap b3 cn4 := (A3.keep Kq5)
    exact ⟨N5, K6, ⟨b3, rfl, f9⟩⟩
  · skip
    refine Gets.of (fun t k => XS.icmpNo X1.here hx rfl (hb hby d8_10) rfl (flt hc2).2.2.1 k) ?_
    show Gets p e below _ (T1.setTop (mkF m 13 #[.val (.int p1)] []))
    obtain ⟨T7, X7, e7, st7⟩ := getS2 X1 hx hZ hown (host := "") (Or.inl (w74 hw)) Via.refl e1 (oS5.ext O0.2) (g := (mkF m 13 #[.val (.int p1)] [])) rfl (hb hby d8_13)
    refine Gets.of st7 ?_
    show Gets p e below _ (T7.setTop (mkF m 16 #[.val (.int p1)] [(.ref ov3)]))
    refine Gets.of (fun t k => XS.iloadN X7.here hx rfl (hb hby d8_16) rfl  k) ?_
    refine Gets.of (fun t k => XS.sipush X7.here hx rfl (hb hby d8_17) k) ?_
    refine Gets.of (fun t k => XS.iadd X7.here hx rfl (hb hby d8_20) rfl k) ?_
    show Gets p e below _ (T7.setTop (mkF m 21 #[.val (.int p1)] [(.int (p1 + (128 : Int32))), (.ref ov3)]))
    have hj8 : ¬ (p1 + (128 : Int32)) < 0 ∧ (p1 + (128 : Int32)) < (256 : Int32) := own_box_ix hp1 hc2
    have hin8 := inb_of hbx.2.1 hj8
    obtain ⟨w8, hat8, hE8, hF8⟩ := hbx.2.2.2 _ hin8
    have Ar8 := hbx.1.ext O0.2
    refine Gets.of (fun t k => X7.aaload hx (j := (p1 + (128 : Int32))) (v := (.ref w8)) (by rw [e7]; exact Ar8.1) (State.isArrayOf_alike hZ.alike Ar8.2.1) rfl Ar8.2.2 hin8 hat8 (g := (mkF m 21 #[.val (.int p1)] [(.int (p1 + (128 : Int32))), (.ref ov3)])) rfl rfl (hb hby d8_21) t k) ?_
    show Gets p e below _ (T7.setTop (mkF m 22 #[.val (.int p1)] [(.ref w8)]))
    refine Gets.retA X7 hx Bd.returns rfl rfl (hb hby d8_22) ?_ (by decide) (by decide)
    rw [e7]
    exact ⟨N0, K0, ⟨w8, rfl, (hE8.ext O0.2)⟩⟩
theorem d6_0 : decode prog_104_method_9_code 0 = .ok (.iload_n 1, 1) := by decide +kernel
theorem d6_1 : decode prog_104_method_9_code 1 = .ok (.ifCond .lt 21, 3) := by decide +kernel
theorem d6_22 : decode prog_104_method_9_code 22 = .ok (.aconst_null, 1) := by decide +kernel
theorem d6_23 : decode prog_104_method_9_code 23 = .ok (.areturn, 1) := by decide +kernel
theorem d6_4 : decode prog_104_method_9_code 4 = .ok (.iload_n 1, 1) := by decide +kernel
theorem d6_5 : decode prog_104_method_9_code 5 = .ok (.aload_n 0, 1) := by decide +kernel
theorem d6_6 : decode prog_104_method_9_code 6 = .ok (.getfield 19, 3) := by decide +kernel
theorem w15 {Z : State} {a0 : Array Value} (hw : ∀ d ∈ tables_1, d.before a0 Z = true) : (Jvm.Cond.fieldLink cn0 (19 : Nat) cn0 "layouts" cn6).before a0 Z = true := hw _ (List.mem_of_getElem? (i := 15) rfl)
theorem d6_9 : decode prog_104_method_9_code 9 = .ok (.arraylength, 1) := by decide +kernel
theorem d6_10 : decode prog_104_method_9_code 10 = .ok (.if_icmp .ge 12, 3) := by decide +kernel
theorem d6_13 : decode prog_104_method_9_code 13 = .ok (.aload_n 0, 1) := by decide +kernel
theorem d6_14 : decode prog_104_method_9_code 14 = .ok (.getfield 19, 3) := by decide +kernel
theorem d6_17 : decode prog_104_method_9_code 17 = .ok (.iload_n 1, 1) := by decide +kernel
theorem d6_18 : decode prog_104_method_9_code 18 = .ok (.aaload, 1) := by decide +kernel
theorem d6_19 : decode prog_104_method_9_code 19 = .ok (.goto 4, 3) := by decide +kernel
def Q_rm_lay1 (Z : State) (ya : Addr) (ys : Addr) (yk : ClassId) (yq : Int32) (yn : Int32) (yl : Addr) (h0 : Heap) (n0 : Nat) (v : Option Value) (h : Heap) (L : List Loc) : Prop := Fr n0 L ∧ h = h0 ∧ ((v = some (own_h1 yq yn yl)))
theorem pn_com_example_cardwire_cardwire_core_Elements : plainName "com/example/cardwire/cardwire/core/Elements" = true := by first | (simp [plainName, overriddenIn]; done) | decide +kernel
set_option maxRecDepth 65536 in
set_option maxHeartbeats 40000000 in
theorem rm_lay1 (l : Launch) (Z : State) (a0 : Array Value) (hw : ∀ d ∈ tables_1, d.before a0 Z = true) (ws : List Jvm.Cond) (ya : Addr) (ys : Addr) (yk : ClassId) (yq : Int32) (yn : Int32) (yl : Addr) (h0 : Heap) (n0 : Nat) (O0 : Old Z n0 h0) (F0 : Fld Z h0 ya cn0 "layouts" cn6 (.ref ys)) (F1 : Arh Z h0 ys yk (.object cn3) (129 : Int32) [(yn, (.ref yl))] [] .null) (hn1_yn : ¬ (yn < (0 : Int32))) (hn2_yn : yn < (129 : Int32)) :
    MetFree l (⟨cn0, "layout", cn2⟩ : MethodName) (head1 (Jvm.Cond.code (⟨cn0, "layout", cn2⟩ : MethodName) prog_104_method_9_code 2 (some (.object cn3)) :: ws) ({ frames := 0, cells := 0, slots := 0, locals := 0 } : Room)) (fun a U => a = #[(.ref ya), (.int yq)] ∧ Z.Warmed39 U.vm ∧ U.heap = h0) (fun _ _ _ _ _ => True) (fun _ U o U' => ∃ v L, o = .returned v ∧ Q_rm_lay1 Z ya ys yk yq yn yl h0 n0 v U'.heap L ∧ FrameEnd U o U' L ({ frames := 0, cells := 0, slots := 0, locals := 0 } : Room).cells ({ frames := 0, cells := 0, slots := 0, locals := 0 } : Room).slots) := by
  refine MetFree.of_bodySF (plainFor_of_name pn_com_example_cardwire_cardwire_core_Elements) hisR ?_
  intro p e s m args below meth c s₁ Bd hml0 hP hK
  obtain ⟨rfl, hZ, hh⟩ := hP
  have hx := Bd.exec
  have hby := Bd.bytes
  have hlk := Bd.notSynchronized
  have hml : c.maxLocals = 2 := hml0
  have hown : s.vm.findClass cn0 = some m.cls := findClass_of_methodNamed Bd.named
  have hnm := (name_of_methodNamed Bd.named Bd.method).1
  have X0 : Stand p l e ({ frames := 0, cells := 0, slots := 0, locals := 0 } : Room) s m #[(.ref ya), (.int yq)] below meth c s₁ [] 0 0 := Stand.of_body Bd
  have e0 : s₁.heap = h0 := by rw [← hh, Bd.state]; rfl
  have N0 := Fr.nil n0
  have K0 := Keep.refl h0 []
  have Z0 : n0 ≤ h0.size := O0.1 ▸ O0.2.1
  have hef : entryFrame m #[(.ref ya), (.int yq)] 2 = mkF m 0 #[.val (.ref ya), .val (.int yq)] [] := by first | (simp [entryFrame, mkF, argsToLocals, Value.category]; done) | rfl
  rw [hef]
  refine Gets.out (Q := Q_rm_lay1 Z ya ys yk yq yn yl h0 n0) ?_
  show Gets p e below _ (s₁.setTop (mkF m 0 #[.val (.ref ya), .val (.int yq)] []))
  refine Gets.of (fun t k => XS.iloadN X0.here hx rfl (hb hby d6_0) rfl  k) ?_
  by_cases hc1 : yq < (0 : Int32)
  · skip
    refine Gets.of (fun t k => XS.ifYes X0.here hx rfl (pc0 := 1) (pc' := 22) rfl (hb hby d6_1) rfl ((if0 _ _).trans (tlt hc1).1) (by decide) (by decide) k) ?_
    show Gets p e below _ (s₁.setTop (mkF m 22 #[.val (.ref ya), .val (.int yq)] []))
    refine Gets.of (fun t k => XS.aconstNull X0.here hx rfl (hb hby d6_22) k) ?_
    refine Gets.retA X0 hx Bd.returns rfl rfl (hb hby d6_23) ?_ (by decide) (by decide)
    rw [e0]
    exact ⟨N0, rfl, (by have c_yn : ¬ (yq = yn) := (by intro qq; have b1 := hn1_yn; have b2 := hn2_yn; have hq := hc1; rw [Int32.lt_iff_toInt_lt] at b1 b2; simp only [Int32.reduceToInt] at b1 b2; first | (have b3 := Int32.lt_iff_toInt_lt.mp hq; simp only [Int32.reduceToInt] at b3; rw [qq] at b3; omega) | (rw [Int32.lt_iff_toInt_lt] at hq; simp only [Int32.reduceToInt] at hq; rw [qq] at hq; omega)); simp [own_h1, c_yn])⟩
  · skip
    refine Gets.of (fun t k => XS.ifNo X0.here hx rfl (hb hby d6_1) rfl ((if0 _ _).trans (flt hc1).1) k) ?_
    show Gets p e below _ (s₁.setTop (mkF m 4 #[.val (.ref ya), .val (.int yq)] []))
    refine Gets.of (fun t k => XS.iloadN X0.here hx rfl (hb hby d6_4) rfl  k) ?_
    refine Gets.of (fun t k => XS.aloadN X0.here hx rfl (hb hby d6_5) rfl rfl  k) ?_
    obtain ⟨T2, X2, e2, st2⟩ := getF X0 hx hZ hown (host := "") (Or.inl (w15 hw)) Via.refl e0 F0 (g := (mkF m 6 #[.val (.ref ya), .val (.int yq)] [(.ref ya), (.int yq)])) rfl rfl (hb hby d6_6)
    refine Gets.of st2 ?_
    show Gets p e below _ (T2.setTop (mkF m 9 #[.val (.ref ya), .val (.int yq)] [(.ref ys), (.int yq)]))
    obtain ⟨cl3, Ar3, -, S3, N_3, -, -⟩ := id (F1)
    refine Gets.of (X2.arraylength hx (by rw [e2]; exact Ar3.1) (State.isArrayOf_alike hZ.alike Ar3.2.1) (g := (mkF m 9 #[.val (.ref ya), .val (.int yq)] [(.ref ys), (.int yq)])) rfl rfl (hb hby d6_9)) ?_
    rw [len_of S3 N_3]
    show Gets p e below _ (T2.setTop (mkF m 10 #[.val (.ref ya), .val (.int yq)] [(.int (129 : Int32)), (.int yq)]))
    by_cases hc4 : yq < (129 : Int32)
    · skip
      refine Gets.of (fun t k => XS.icmpNo X2.here hx rfl (hb hby d6_10) rfl (tlt hc4).2.1 k) ?_
      show Gets p e below _ (T2.setTop (mkF m 13 #[.val (.ref ya), .val (.int yq)] []))
      refine Gets.of (fun t k => XS.aloadN X2.here hx rfl (hb hby d6_13) rfl rfl  k) ?_
      obtain ⟨T5, X5, e5, st5⟩ := getF X2 hx hZ hown (host := "") (Or.inl (w15 hw)) Via.refl e2 F0 (g := (mkF m 14 #[.val (.ref ya), .val (.int yq)] [(.ref ya)])) rfl rfl (hb hby d6_14)
      refine Gets.of st5 ?_
      show Gets p e below _ (T5.setTop (mkF m 17 #[.val (.ref ya), .val (.int yq)] [(.ref ys)]))
      refine Gets.of (fun t k => XS.iloadN X5.here hx rfl (hb hby d6_17) rfl  k) ?_
      by_cases hc6 : yq = yn
      · skip
        obtain ⟨cl7, Ar7, q7, S7, N_7, H7, G7⟩ := id (F1)
        have hin7 : ¬ (yq < 0 ∨ cl7.slots.size ≤ (yq).toNatClampNeg) := inb_of S7 ⟨hc1, hc4⟩
        refine Gets.of (fun t k => X5.aaload hx (j := yq) (v := (.ref yl)) (by rw [e5]; exact Ar7.1) (State.isArrayOf_alike hZ.alike Ar7.2.1) rfl Ar7.2.2 hin7 (atH H7 hin7 (getH_hit hc1 hc6)) (g := (mkF m 18 #[.val (.ref ya), .val (.int yq)] [(.int yq), (.ref ys)])) rfl rfl (hb hby d6_18) t k) ?_
        show Gets p e below _ (T5.setTop (mkF m 19 #[.val (.ref ya), .val (.int yq)] [(.ref yl)]))
        refine Gets.of (fun t k => XS.goto X5.here hx rfl (pc0 := 19) (pc' := 23) rfl (hb hby d6_19) (by decide) (by decide) k) ?_
        show Gets p e below _ (T5.setTop (mkF m 23 #[.val (.ref ya), .val (.int yq)] [(.ref yl)]))
        refine Gets.retA X5 hx Bd.returns rfl rfl (hb hby d6_23) ?_ (by decide) (by decide)
        rw [e5]
        exact ⟨N0, rfl, (by have c_yn := hc6; simp [own_h1, c_yn])⟩
      · skip
        obtain ⟨cl8, Ar8, q8, S8, N_8, H8, G8⟩ := id (F1)
        have hin8 : ¬ (yq < 0 ∨ cl8.slots.size ≤ (yq).toNatClampNeg) := inb_of S8 ⟨hc1, hc4⟩
        refine Gets.of (fun t k => X5.aaload hx (j := yq) (v := .null) (by rw [e5]; exact Ar8.1) (State.isArrayOf_alike hZ.alike Ar8.2.1) rfl Ar8.2.2 hin8 (atH H8 hin8 (getH_miss hc1 hc6 (getH_all rfl _))) (g := (mkF m 18 #[.val (.ref ya), .val (.int yq)] [(.int yq), (.ref ys)])) rfl rfl (hb hby d6_18) t k) ?_
        show Gets p e below _ (T5.setTop (mkF m 19 #[.val (.ref ya), .val (.int yq)] [.null]))
        refine Gets.of (fun t k => XS.goto X5.here hx rfl (pc0 := 19) (pc' := 23) rfl (hb hby d6_19) (by decide) (by decide) k) ?_
        show Gets p e below _ (T5.setTop (mkF m 23 #[.val (.ref ya), .val (.int yq)] [.null]))
        refine Gets.retA X5 hx Bd.returns rfl rfl (hb hby d6_23) ?_ (by decide) (by decide)
        rw [e5]
        exact ⟨N0, rfl, (by have c_yn := hc6; simp [own_h1, c_yn])⟩
    · skip
      refine Gets.of (fun t k => XS.icmpYes X2.here hx rfl (pc0 := 10) (pc' := 22) rfl (hb hby d6_10) rfl (flt hc4).2.1 (by decide) (by decide) k) ?_
      show Gets p e below _ (T2.setTop (mkF m 22 #[.val (.ref ya), .val (.int yq)] []))
      refine Gets.of (fun t k => XS.aconstNull X2.here hx rfl (hb hby d6_22) k) ?_
      refine Gets.retA X2 hx Bd.returns rfl rfl (hb hby d6_23) ?_ (by decide) (by decide)
      rw [e2]
      exact ⟨N0, rfl, (by have c_yn : ¬ (yq = yn) := (by intro qq; have b1 := hn1_yn; have b2 := hn2_yn; have hq := hc4; rw [Int32.lt_iff_toInt_lt] at b1 b2; simp only [Int32.reduceToInt] at b1 b2; first | (have b3 := Int32.lt_iff_toInt_lt.mp hq; simp only [Int32.reduceToInt] at b3; rw [qq] at b3; omega) | (rw [Int32.lt_iff_toInt_lt] at hq; simp only [Int32.reduceToInt] at hq; rw [qq] at hq; omega)); simp [own_h1, c_yn])⟩
def Q_rm_lay2 (Z : State) (ya : Addr) (ys : Addr) (yk : ClassId) (yq : Int32) (yn : Int32) (yl : Addr) (ym : Int32) (yr : Addr) (h0 : Heap) (n0 : Nat) (v : Option Value) (h : Heap) (L : List Loc) : Prop := Fr n0 L ∧ h = h0 ∧ ((v = some (own_h2 yq yn ym yl yr)))
set_option maxRecDepth 65536 in
set_option maxHeartbeats 40000000 in
theorem rm_lay2 (l : Launch) (Z : State) (a0 : Array Value) (hw : ∀ d ∈ tables_1, d.before a0 Z = true) (ws : List Jvm.Cond) (ya : Addr) (ys : Addr) (yk : ClassId) (yq : Int32) (yn : Int32) (yl : Addr) (ym : Int32) (yr : Addr) (h0 : Heap) (n0 : Nat) (O0 : Old Z n0 h0) (F0 : Fld Z h0 ya cn0 "layouts" cn6 (.ref ys)) (F1 : Arh Z h0 ys yk (.object cn3) (129 : Int32) [(ym, (.ref yr)), (yn, (.ref yl))] [] .null) (hn1_yn : ¬ (yn < (0 : Int32))) (hn2_yn : yn < (129 : Int32)) (hn1_ym : ¬ (ym < (0 : Int32))) (hn2_ym : ym < (129 : Int32)) (hnym : ¬ (yn = ym)) :
    MetFree l (⟨cn0, "layout", cn2⟩ : MethodName) (head1 (Jvm.Cond.code (⟨cn0, "layout", cn2⟩ : MethodName) prog_104_method_9_code 2 (some (.object cn3)) :: ws) ({ frames := 0, cells := 0, slots := 0, locals := 0 } : Room)) (fun a U => a = #[(.ref ya), (.int yq)] ∧ Z.Warmed39 U.vm ∧ U.heap = h0) (fun _ _ _ _ _ => True) (fun _ U o U' => ∃ v L, o = .returned v ∧ Q_rm_lay2 Z ya ys yk yq yn yl ym yr h0 n0 v U'.heap L ∧ FrameEnd U o U' L ({ frames := 0, cells := 0, slots := 0, locals := 0 } : Room).cells ({ frames := 0, cells := 0, slots := 0, locals := 0 } : Room).slots) := by
  refine MetFree.of_bodySF (plainFor_of_name pn_com_example_cardwire_cardwire_core_Elements) hisR ?_
  intro p e s m args below meth c s₁ Bd hml0 hP hK
  obtain ⟨rfl, hZ, hh⟩ := hP
  have hx := Bd.exec
  have hby := Bd.bytes
  have hlk := Bd.notSynchronized
  have hml : c.maxLocals = 2 := hml0
  have hown : s.vm.findClass cn0 = some m.cls := findClass_of_methodNamed Bd.named
  have hnm := (name_of_methodNamed Bd.named Bd.method).1
  have X0 : Stand p l e ({ frames := 0, cells := 0, slots := 0, locals := 0 } : Room) s m #[(.ref ya), (.int yq)] below meth c s₁ [] 0 0 := Stand.of_body Bd
  have e0 : s₁.heap = h0 := by rw [← hh, Bd.state]; rfl
  have N0 := Fr.nil n0
  have K0 := Keep.refl h0 []
  have Z0 : n0 ≤ h0.size := O0.1 ▸ O0.2.1
  have hef : entryFrame m #[(.ref ya), (.int yq)] 2 = mkF m 0 #[.val (.ref ya), .val (.int yq)] [] := by first | (simp [entryFrame, mkF, argsToLocals, Value.category]; done) | rfl
  rw [hef]
  refine Gets.out (Q := Q_rm_lay2 Z ya ys yk yq yn yl ym yr h0 n0) ?_
  show Gets p e below _ (s₁.setTop (mkF m 0 #[.val (.ref ya), .val (.int yq)] []))
  refine Gets.of (fun t k => XS.iloadN X0.here hx rfl (hb hby d6_0) rfl  k) ?_
  by_cases hc1 : yq < (0 : Int32)
  · skip
    refine Gets.of (fun t k => XS.ifYes X0.here hx rfl (pc0 := 1) (pc' := 22) rfl (hb hby d6_1) rfl ((if0 _ _).trans (tlt hc1).1) (by decide) (by decide) k) ?_
    show Gets p e below _ (s₁.setTop (mkF m 22 #[.val (.ref ya), .val (.int yq)] []))
    refine Gets.of (fun t k => XS.aconstNull X0.here hx rfl (hb hby d6_22) k) ?_
    refine Gets.retA X0 hx Bd.returns rfl rfl (hb hby d6_23) ?_ (by decide) (by decide)
    rw [e0]
    exact ⟨N0, rfl, (by have c_ym : ¬ (yq = ym) := (by intro qq; have b1 := hn1_ym; have b2 := hn2_ym; have hq := hc1; rw [Int32.lt_iff_toInt_lt] at b1 b2; simp only [Int32.reduceToInt] at b1 b2; first | (have b3 := Int32.lt_iff_toInt_lt.mp hq; simp only [Int32.reduceToInt] at b3; rw [qq] at b3; omega) | (rw [Int32.lt_iff_toInt_lt] at hq; simp only [Int32.reduceToInt] at hq; rw [qq] at hq; omega)); have c_yn : ¬ (yq = yn) := (by intro qq; have b1 := hn1_yn; have b2 := hn2_yn; have hq := hc1; rw [Int32.lt_iff_toInt_lt] at b1 b2; simp only [Int32.reduceToInt] at b1 b2; first | (have b3 := Int32.lt_iff_toInt_lt.mp hq; simp only [Int32.reduceToInt] at b3; rw [qq] at b3; omega) | (rw [Int32.lt_iff_toInt_lt] at hq; simp only [Int32.reduceToInt] at hq; rw [qq] at hq; omega)); first | (simp [own_h2, c_ym, c_yn]; done) | (simp [own_h2, c_ym, Ne.symm hnym]; done) | (rw [c_ym]; simp [own_h2, Ne.symm hnym]))⟩
  · skip
    refine Gets.of (fun t k => XS.ifNo X0.here hx rfl (hb hby d6_1) rfl ((if0 _ _).trans (flt hc1).1) k) ?_
    show Gets p e below _ (s₁.setTop (mkF m 4 #[.val (.ref ya), .val (.int yq)] []))
    refine Gets.of (fun t k => XS.iloadN X0.here hx rfl (hb hby d6_4) rfl  k) ?_
    refine Gets.of (fun t k => XS.aloadN X0.here hx rfl (hb hby d6_5) rfl rfl  k) ?_
    obtain ⟨T2, X2, e2, st2⟩ := getF X0 hx hZ hown (host := "") (Or.inl (w15 hw)) Via.refl e0 F0 (g := (mkF m 6 #[.val (.ref ya), .val (.int yq)] [(.ref ya), (.int yq)])) rfl rfl (hb hby d6_6)
    refine Gets.of st2 ?_
    show Gets p e below _ (T2.setTop (mkF m 9 #[.val (.ref ya), .val (.int yq)] [(.ref ys), (.int yq)]))
    obtain ⟨cl3, Ar3, -, S3, N_3, -, -⟩ := id (F1)
    refine Gets.of (X2.arraylength hx (by rw [e2]; exact Ar3.1) (State.isArrayOf_alike hZ.alike Ar3.2.1) (g := (mkF m 9 #[.val (.ref ya), .val (.int yq)] [(.ref ys), (.int yq)])) rfl rfl (hb hby d6_9)) ?_
    rw [len_of S3 N_3]
    show Gets p e below _ (T2.setTop (mkF m 10 #[.val (.ref ya), .val (.int yq)] [(.int (129 : Int32)), (.int yq)]))
    by_cases hc4 : yq < (129 : Int32)
    · skip
      refine Gets.of (fun t k => XS.icmpNo X2.here hx rfl (hb hby d6_10) rfl (tlt hc4).2.1 k) ?_
      show Gets p e below _ (T2.setTop (mkF m 13 #[.val (.ref ya), .val (.int yq)] []))
      refine Gets.of (fun t k => XS.aloadN X2.here hx rfl (hb hby d6_13) rfl rfl  k) ?_
      obtain ⟨T5, X5, e5, st5⟩ := getF X2 hx hZ hown (host := "") (Or.inl (w15 hw)) Via.refl e2 F0 (g := (mkF m 14 #[.val (.ref ya), .val (.int yq)] [(.ref ya)])) rfl rfl (hb hby d6_14)
      refine Gets.of st5 ?_
      show Gets p e below _ (T5.setTop (mkF m 17 #[.val (.ref ya), .val (.int yq)] [(.ref ys)]))
      refine Gets.of (fun t k => XS.iloadN X5.here hx rfl (hb hby d6_17) rfl  k) ?_
      by_cases hc6 : yq = ym
      · skip
        obtain ⟨cl7, Ar7, q7, S7, N_7, H7, G7⟩ := id (F1)
        have hin7 : ¬ (yq < 0 ∨ cl7.slots.size ≤ (yq).toNatClampNeg) := inb_of S7 ⟨hc1, hc4⟩
        refine Gets.of (fun t k => X5.aaload hx (j := yq) (v := (.ref yr)) (by rw [e5]; exact Ar7.1) (State.isArrayOf_alike hZ.alike Ar7.2.1) rfl Ar7.2.2 hin7 (atH H7 hin7 (getH_hit hc1 hc6)) (g := (mkF m 18 #[.val (.ref ya), .val (.int yq)] [(.int yq), (.ref ys)])) rfl rfl (hb hby d6_18) t k) ?_
        show Gets p e below _ (T5.setTop (mkF m 19 #[.val (.ref ya), .val (.int yq)] [(.ref yr)]))
        refine Gets.of (fun t k => XS.goto X5.here hx rfl (pc0 := 19) (pc' := 23) rfl (hb hby d6_19) (by decide) (by decide) k) ?_
        show Gets p e below _ (T5.setTop (mkF m 23 #[.val (.ref ya), .val (.int yq)] [(.ref yr)]))
        refine Gets.retA X5 hx Bd.returns rfl rfl (hb hby d6_23) ?_ (by decide) (by decide)
        rw [e5]
        exact ⟨N0, rfl, (by have c_ym := hc6; have c_yn : ¬ (yq = yn) := fun qq => hnym (qq.symm.trans c_ym); first | (simp [own_h2, c_ym, c_yn]; done) | (simp [own_h2, c_ym, Ne.symm hnym]; done) | (rw [c_ym]; simp [own_h2, Ne.symm hnym]))⟩
      · skip
        by_cases hc8 : yq = yn
        · skip
          obtain ⟨cl9, Ar9, q9, S9, N_9, H9, G9⟩ := id (F1)
          have hin9 : ¬ (yq < 0 ∨ cl9.slots.size ≤ (yq).toNatClampNeg) := inb_of S9 ⟨hc1, hc4⟩
          refine Gets.of (fun t k => X5.aaload hx (j := yq) (v := (.ref yl)) (by rw [e5]; exact Ar9.1) (State.isArrayOf_alike hZ.alike Ar9.2.1) rfl Ar9.2.2 hin9 (atH H9 hin9 (getH_miss hc1 hc6 (getH_hit hc1 hc8))) (g := (mkF m 18 #[.val (.ref ya), .val (.int yq)] [(.int yq), (.ref ys)])) rfl rfl (hb hby d6_18) t k) ?_
          show Gets p e below _ (T5.setTop (mkF m 19 #[.val (.ref ya), .val (.int yq)] [(.ref yl)]))
          refine Gets.of (fun t k => XS.goto X5.here hx rfl (pc0 := 19) (pc' := 23) rfl (hb hby d6_19) (by decide) (by decide) k) ?_
          show Gets p e below _ (T5.setTop (mkF m 23 #[.val (.ref ya), .val (.int yq)] [(.ref yl)]))
          refine Gets.retA X5 hx Bd.returns rfl rfl (hb hby d6_23) ?_ (by decide) (by decide)
          rw [e5]
          exact ⟨N0, rfl, (by have c_ym := hc6; have c_yn := hc8; first | (simp [own_h2, c_ym, c_yn]; done) | (simp [own_h2, c_ym, Ne.symm hnym]; done) | (rw [c_ym]; simp [own_h2, Ne.symm hnym]))⟩
        · skip
          obtain ⟨cl10, Ar10, q10, S10, N_10, H10, G10⟩ := id (F1)
          have hin10 : ¬ (yq < 0 ∨ cl10.slots.size ≤ (yq).toNatClampNeg) := inb_of S10 ⟨hc1, hc4⟩
          refine Gets.of (fun t k => X5.aaload hx (j := yq) (v := .null) (by rw [e5]; exact Ar10.1) (State.isArrayOf_alike hZ.alike Ar10.2.1) rfl Ar10.2.2 hin10 (atH H10 hin10 (getH_miss hc1 hc6 (getH_miss hc1 hc8 (getH_all rfl _)))) (g := (mkF m 18 #[.val (.ref ya), .val (.int yq)] [(.int yq), (.ref ys)])) rfl rfl (hb hby d6_18) t k) ?_
          show Gets p e below _ (T5.setTop (mkF m 19 #[.val (.ref ya), .val (.int yq)] [.null]))
          refine Gets.of (fun t k => XS.goto X5.here hx rfl (pc0 := 19) (pc' := 23) rfl (hb hby d6_19) (by decide) (by decide) k) ?_
          show Gets p e below _ (T5.setTop (mkF m 23 #[.val (.ref ya), .val (.int yq)] [.null]))
          refine Gets.retA X5 hx Bd.returns rfl rfl (hb hby d6_23) ?_ (by decide) (by decide)
          rw [e5]
          exact ⟨N0, rfl, (by have c_ym := hc6; have c_yn := hc8; first | (simp [own_h2, c_ym, c_yn]; done) | (simp [own_h2, c_ym, Ne.symm hnym]; done) | (rw [c_ym]; simp [own_h2, Ne.symm hnym]))⟩
    · skip
      refine Gets.of (fun t k => XS.icmpYes X2.here hx rfl (pc0 := 10) (pc' := 22) rfl (hb hby d6_10) rfl (flt hc4).2.1 (by decide) (by decide) k) ?_
      show Gets p e below _ (T2.setTop (mkF m 22 #[.val (.ref ya), .val (.int yq)] []))
      refine Gets.of (fun t k => XS.aconstNull X2.here hx rfl (hb hby d6_22) k) ?_
      refine Gets.retA X2 hx Bd.returns rfl rfl (hb hby d6_23) ?_ (by decide) (by decide)
      rw [e2]
      exact ⟨N0, rfl, (by have c_ym : ¬ (yq = ym) := (by intro qq; have b1 := hn1_ym; have b2 := hn2_ym; have hq := hc4; rw [Int32.lt_iff_toInt_lt] at b1 b2; simp only [Int32.reduceToInt] at b1 b2; first | (have b3 := Int32.lt_iff_toInt_lt.mp hq; simp only [Int32.reduceToInt] at b3; rw [qq] at b3; omega) | (rw [Int32.lt_iff_toInt_lt] at hq; simp only [Int32.reduceToInt] at hq; rw [qq] at hq; omega)); have c_yn : ¬ (yq = yn) := (by intro qq; have b1 := hn1_yn; have b2 := hn2_yn; have hq := hc4; rw [Int32.lt_iff_toInt_lt] at b1 b2; simp only [Int32.reduceToInt] at b1 b2; first | (have b3 := Int32.lt_iff_toInt_lt.mp hq; simp only [Int32.reduceToInt] at b3; rw [qq] at b3; omega) | (rw [Int32.lt_iff_toInt_lt] at hq; simp only [Int32.reduceToInt] at hq; rw [qq] at hq; omega)); first | (simp [own_h2, c_ym, c_yn]; done) | (simp [own_h2, c_ym, Ne.symm hnym]; done) | (rw [c_ym]; simp [own_h2, Ne.symm hnym]))⟩
theorem d12_0 : decode method_3_code 0 = .ok (.iload_n 0, 1) := by decide +kernel
theorem d12_1 : decode method_3_code 1 = .ok (.iload_n 1, 1) := by decide +kernel
theorem d12_2 : decode method_3_code 2 = .ok (.if_icmp .ne 6, 3) := by decide +kernel
theorem d12_5 : decode method_3_code 5 = .ok (.aload 4, 2) := by decide +kernel
theorem d12_7 : decode method_3_code 7 = .ok (.areturn, 1) := by decide +kernel
theorem d12_8 : decode method_3_code 8 = .ok (.iload_n 2, 1) := by decide +kernel
theorem d12_9 : decode method_3_code 9 = .ok (.ifCond .eq 11, 3) := by decide +kernel
theorem d12_20 : decode method_3_code 20 = .ok (.aconst_null, 1) := by decide +kernel
theorem d12_21 : decode method_3_code 21 = .ok (.areturn, 1) := by decide +kernel
def Q_rm_exp0 (Z : State) (yq : Int32) (yn : Int32) (ym : Int32) (yl : Addr) (yr : Addr) (h0 : Heap) (n0 : Nat) (v : Option Value) (h : Heap) (L : List Loc) : Prop := Fr n0 L ∧ h = h0 ∧ ((v = some (own_h1 yq yn yl)))
theorem pn_com_example_cardwire_cardwire_core_ElementsLayoutPinLaw : plainName "com/example/cardwire/cardwire/core/ElementsLayoutPinLaw" = true := by first | (simp [plainName, overriddenIn]; done) | decide +kernel
set_option maxRecDepth 65536 in
set_option maxHeartbeats 40000000 in
theorem rm_exp0 (l : Launch) (Z : State) (a0 : Array Value) (hw : ∀ d ∈ tables_1, d.before a0 Z = true) (ws : List Jvm.Cond) (yq : Int32) (yn : Int32) (ym : Int32) (yl : Addr) (yr : Addr) (h0 : Heap) (n0 : Nat) (O0 : Old Z n0 h0) :
    MetFree l (⟨cn5, "expected", cn8⟩ : MethodName) (head1 (Jvm.Cond.code (⟨cn5, "expected", cn8⟩ : MethodName) method_3_code 6 (some (.object cn3)) :: ws) ({ frames := 0, cells := 0, slots := 0, locals := 0 } : Room)) (fun a U => a = #[(.int yq), (.int yn), (.int (0 : Int32)), (.int ym), (.ref yl), (.ref yr)] ∧ Z.Warmed39 U.vm ∧ U.heap = h0) (fun _ _ _ _ _ => True) (fun _ U o U' => ∃ v L, o = .returned v ∧ Q_rm_exp0 Z yq yn ym yl yr h0 n0 v U'.heap L ∧ FrameEnd U o U' L ({ frames := 0, cells := 0, slots := 0, locals := 0 } : Room).cells ({ frames := 0, cells := 0, slots := 0, locals := 0 } : Room).slots) := by
  refine MetFree.of_bodySF (plainFor_of_name pn_com_example_cardwire_cardwire_core_ElementsLayoutPinLaw) hisR ?_
  intro p e s m args below meth c s₁ Bd hml0 hP hK
  obtain ⟨rfl, hZ, hh⟩ := hP
  have hx := Bd.exec
  have hby := Bd.bytes
  have hlk := Bd.notSynchronized
  have hml : c.maxLocals = 6 := hml0
  have hown : s.vm.findClass cn5 = some m.cls := findClass_of_methodNamed Bd.named
  have hnm := (name_of_methodNamed Bd.named Bd.method).1
  have X0 : Stand p l e ({ frames := 0, cells := 0, slots := 0, locals := 0 } : Room) s m #[(.int yq), (.int yn), (.int (0 : Int32)), (.int ym), (.ref yl), (.ref yr)] below meth c s₁ [] 0 0 := Stand.of_body Bd
  have e0 : s₁.heap = h0 := by rw [← hh, Bd.state]; rfl
  have N0 := Fr.nil n0
  have K0 := Keep.refl h0 []
  have Z0 : n0 ≤ h0.size := O0.1 ▸ O0.2.1
  have hef : entryFrame m #[(.int yq), (.int yn), (.int (0 : Int32)), (.int ym), (.ref yl), (.ref yr)] 6 = mkF m 0 #[.val (.int yq), .val (.int yn), .val (.int (0 : Int32)), .val (.int ym), .val (.ref yl), .val (.ref yr)] [] := by first | (simp [entryFrame, mkF, argsToLocals, Value.category]; done) | rfl
  rw [hef]
  refine Gets.out (Q := Q_rm_exp0 Z yq yn ym yl yr h0 n0) ?_
  show Gets p e below _ (s₁.setTop (mkF m 0 #[.val (.int yq), .val (.int yn), .val (.int (0 : Int32)), .val (.int ym), .val (.ref yl), .val (.ref yr)] []))
  refine Gets.of (fun t k => XS.iloadN X0.here hx rfl (hb hby d12_0) rfl  k) ?_
  refine Gets.of (fun t k => XS.iloadN X0.here hx rfl (hb hby d12_1) rfl  k) ?_
  by_cases hc1 : yq = yn
  · skip
    refine Gets.of (fun t k => XS.icmpNo X0.here hx rfl (hb hby d12_2) rfl (teq hc1).2 k) ?_
    show Gets p e below _ (s₁.setTop (mkF m 5 #[.val (.int yq), .val (.int yn), .val (.int (0 : Int32)), .val (.int ym), .val (.ref yl), .val (.ref yr)] []))
    refine Gets.of (fun t k => XS.aload X0.here hx rfl (hb hby d12_5) rfl rfl  k) ?_
    refine Gets.retA X0 hx Bd.returns rfl rfl (hb hby d12_7) ?_ (by decide) (by decide)
    rw [e0]
    exact ⟨N0, rfl, (by unfold own_h1; rw [if_pos hc1])⟩
  · skip
    refine Gets.of (fun t k => XS.icmpYes X0.here hx rfl (pc0 := 2) (pc' := 8) rfl (hb hby d12_2) rfl (feq hc1).2 (by decide) (by decide) k) ?_
    show Gets p e below _ (s₁.setTop (mkF m 8 #[.val (.int yq), .val (.int yn), .val (.int (0 : Int32)), .val (.int ym), .val (.ref yl), .val (.ref yr)] []))
    refine Gets.of (fun t k => XS.iloadN X0.here hx rfl (hb hby d12_8) rfl  k) ?_
    refine Gets.of (fun t k => XS.ifYes X0.here hx rfl (pc0 := 9) (pc' := 20) rfl (hb hby d12_9) rfl ((if0 _ _).trans (teq (by decide : (0 : Int32) = (0 : Int32))).1) (by decide) (by decide) k) ?_
    show Gets p e below _ (s₁.setTop (mkF m 20 #[.val (.int yq), .val (.int yn), .val (.int (0 : Int32)), .val (.int ym), .val (.ref yl), .val (.ref yr)] []))
    refine Gets.of (fun t k => XS.aconstNull X0.here hx rfl (hb hby d12_20) k) ?_
    refine Gets.retA X0 hx Bd.returns rfl rfl (hb hby d12_21) ?_ (by decide) (by decide)
    rw [e0]
    exact ⟨N0, rfl, (by unfold own_h1; rw [if_neg hc1])⟩
theorem d12_12 : decode method_3_code 12 = .ok (.iload_n 0, 1) := by decide +kernel
theorem d12_13 : decode method_3_code 13 = .ok (.iload_n 3, 1) := by decide +kernel
theorem d12_14 : decode method_3_code 14 = .ok (.if_icmp .ne 6, 3) := by decide +kernel
theorem d12_17 : decode method_3_code 17 = .ok (.aload 5, 2) := by decide +kernel
theorem d12_19 : decode method_3_code 19 = .ok (.areturn, 1) := by decide +kernel
def Q_rm_exp1 (Z : State) (yq : Int32) (yn : Int32) (ym : Int32) (yl : Addr) (yr : Addr) (h0 : Heap) (n0 : Nat) (v : Option Value) (h : Heap) (L : List Loc) : Prop := Fr n0 L ∧ h = h0 ∧ ((v = some (own_h2 yq yn ym yl yr)))
set_option maxRecDepth 65536 in
set_option maxHeartbeats 40000000 in
theorem rm_exp1 (l : Launch) (Z : State) (a0 : Array Value) (hw : ∀ d ∈ tables_1, d.before a0 Z = true) (ws : List Jvm.Cond) (yq : Int32) (yn : Int32) (ym : Int32) (yl : Addr) (yr : Addr) (h0 : Heap) (n0 : Nat) (O0 : Old Z n0 h0) :
    MetFree l (⟨cn5, "expected", cn8⟩ : MethodName) (head1 (Jvm.Cond.code (⟨cn5, "expected", cn8⟩ : MethodName) method_3_code 6 (some (.object cn3)) :: ws) ({ frames := 0, cells := 0, slots := 0, locals := 0 } : Room)) (fun a U => a = #[(.int yq), (.int yn), (.int (1 : Int32)), (.int ym), (.ref yl), (.ref yr)] ∧ Z.Warmed39 U.vm ∧ U.heap = h0) (fun _ _ _ _ _ => True) (fun _ U o U' => ∃ v L, o = .returned v ∧ Q_rm_exp1 Z yq yn ym yl yr h0 n0 v U'.heap L ∧ FrameEnd U o U' L ({ frames := 0, cells := 0, slots := 0, locals := 0 } : Room).cells ({ frames := 0, cells := 0, slots := 0, locals := 0 } : Room).slots) := by
  refine MetFree.of_bodySF (plainFor_of_name pn_com_example_cardwire_cardwire_core_ElementsLayoutPinLaw) hisR ?_
  intro p e s m args below meth c s₁ Bd hml0 hP hK
  obtain ⟨rfl, hZ, hh⟩ := hP
  have hx := Bd.exec
  have hby := Bd.bytes
  have hlk := Bd.notSynchronized
  have hml : c.maxLocals = 6 := hml0
  have hown : s.vm.findClass cn5 = some m.cls := findClass_of_methodNamed Bd.named
  have hnm := (name_of_methodNamed Bd.named Bd.method).1
  have X0 : Stand p l e ({ frames := 0, cells := 0, slots := 0, locals := 0 } : Room) s m #[(.int yq), (.int yn), (.int (1 : Int32)), (.int ym), (.ref yl), (.ref yr)] below meth c s₁ [] 0 0 := Stand.of_body Bd
  have e0 : s₁.heap = h0 := by rw [← hh, Bd.state]; rfl
  have N0 := Fr.nil n0
  have K0 := Keep.refl h0 []
  have Z0 : n0 ≤ h0.size := O0.1 ▸ O0.2.1
  have hef : entryFrame m #[(.int yq), (.int yn), (.int (1 : Int32)), (.int ym), (.ref yl), (.ref yr)] 6 = mkF m 0 #[.val (.int yq), .val (.int yn), .val (.int (1 : Int32)), .val (.int ym), .val (.ref yl), .val (.ref yr)] [] := by first | (simp [entryFrame, mkF, argsToLocals, Value.category]; done) | rfl
  rw [hef]
  refine Gets.out (Q := Q_rm_exp1 Z yq yn ym yl yr h0 n0) ?_
  show Gets p e below _ (s₁.setTop (mkF m 0 #[.val (.int yq), .val (.int yn), .val (.int (1 : Int32)), .val (.int ym), .val (.ref yl), .val (.ref yr)] []))
  refine Gets.of (fun t k => XS.iloadN X0.here hx rfl (hb hby d12_0) rfl  k) ?_
  refine Gets.of (fun t k => XS.iloadN X0.here hx rfl (hb hby d12_1) rfl  k) ?_
  by_cases hc1 : yq = yn
  · skip
    refine Gets.of (fun t k => XS.icmpNo X0.here hx rfl (hb hby d12_2) rfl (teq hc1).2 k) ?_
    show Gets p e below _ (s₁.setTop (mkF m 5 #[.val (.int yq), .val (.int yn), .val (.int (1 : Int32)), .val (.int ym), .val (.ref yl), .val (.ref yr)] []))
    refine Gets.of (fun t k => XS.aload X0.here hx rfl (hb hby d12_5) rfl rfl  k) ?_
    refine Gets.retA X0 hx Bd.returns rfl rfl (hb hby d12_7) ?_ (by decide) (by decide)
    rw [e0]
    exact ⟨N0, rfl, (by unfold own_h2; rw [if_pos hc1])⟩
  · skip
    refine Gets.of (fun t k => XS.icmpYes X0.here hx rfl (pc0 := 2) (pc' := 8) rfl (hb hby d12_2) rfl (feq hc1).2 (by decide) (by decide) k) ?_
    show Gets p e below _ (s₁.setTop (mkF m 8 #[.val (.int yq), .val (.int yn), .val (.int (1 : Int32)), .val (.int ym), .val (.ref yl), .val (.ref yr)] []))
    refine Gets.of (fun t k => XS.iloadN X0.here hx rfl (hb hby d12_8) rfl  k) ?_
    refine Gets.of (fun t k => XS.ifNo X0.here hx rfl (hb hby d12_9) rfl ((if0 _ _).trans (feq (by decide : ¬ ((1 : Int32) = (0 : Int32)))).1) k) ?_
    show Gets p e below _ (s₁.setTop (mkF m 12 #[.val (.int yq), .val (.int yn), .val (.int (1 : Int32)), .val (.int ym), .val (.ref yl), .val (.ref yr)] []))
    refine Gets.of (fun t k => XS.iloadN X0.here hx rfl (hb hby d12_12) rfl  k) ?_
    refine Gets.of (fun t k => XS.iloadN X0.here hx rfl (hb hby d12_13) rfl  k) ?_
    by_cases hc2 : yq = ym
    · skip
      refine Gets.of (fun t k => XS.icmpNo X0.here hx rfl (hb hby d12_14) rfl (teq hc2).2 k) ?_
      show Gets p e below _ (s₁.setTop (mkF m 17 #[.val (.int yq), .val (.int yn), .val (.int (1 : Int32)), .val (.int ym), .val (.ref yl), .val (.ref yr)] []))
      refine Gets.of (fun t k => XS.aload X0.here hx rfl (hb hby d12_17) rfl rfl  k) ?_
      refine Gets.retA X0 hx Bd.returns rfl rfl (hb hby d12_19) ?_ (by decide) (by decide)
      rw [e0]
      exact ⟨N0, rfl, (by unfold own_h2; rw [if_neg hc1]; rw [if_pos hc2])⟩
    · skip
      refine Gets.of (fun t k => XS.icmpYes X0.here hx rfl (pc0 := 14) (pc' := 20) rfl (hb hby d12_14) rfl (feq hc2).2 (by decide) (by decide) k) ?_
      show Gets p e below _ (s₁.setTop (mkF m 20 #[.val (.int yq), .val (.int yn), .val (.int (1 : Int32)), .val (.int ym), .val (.ref yl), .val (.ref yr)] []))
      refine Gets.of (fun t k => XS.aconstNull X0.here hx rfl (hb hby d12_20) k) ?_
      refine Gets.retA X0 hx Bd.returns rfl rfl (hb hby d12_21) ?_ (by decide) (by decide)
      rw [e0]
      exact ⟨N0, rfl, (by unfold own_h2; rw [if_neg hc1]; rw [if_neg hc2])⟩
theorem w0 {Z : State} {a0 : Array Value} (hw : ∀ d ∈ tables_1, d.before a0 Z = true) : (Jvm.Cond.classLink cn5 (7 : Nat) cn0).before a0 Z = true := hw _ (List.mem_of_getElem? (i := 0) rfl)
theorem w1 {Z : State} {a0 : Array Value} (hw : ∀ d ∈ tables_1, d.before a0 Z = true) : (Jvm.Cond.instantiable cn0 (4 : Nat)).before a0 Z = true := hw _ (List.mem_of_getElem? (i := 1) rfl)
theorem w2 {Z : State} {a0 : Array Value} (hw : ∀ d ∈ tables_1, d.before a0 Z = true) : (Jvm.Cond.initialized cn0).before a0 Z = true := hw _ (List.mem_of_getElem? (i := 2) rfl)
theorem w12 {Z : State} {a0 : Array Value} (hw : ∀ d ∈ tables_1, d.before a0 Z = true) : (Jvm.Cond.laysFinal cn0 cn0 "formats" cn10).before a0 Z = true := hw _ (List.mem_of_getElem? (i := 12) rfl)
theorem w16 {Z : State} {a0 : Array Value} (hw : ∀ d ∈ tables_1, d.before a0 Z = true) : (Jvm.Cond.laysFinal cn0 cn0 "layouts" cn6).before a0 Z = true := hw _ (List.mem_of_getElem? (i := 16) rfl)
theorem w34 {Z : State} {a0 : Array Value} (hw : ∀ d ∈ tables_1, d.before a0 Z = true) : (Jvm.Cond.laysFinal cn0 cn0 "itemLayouts" "Ljava/util/Map;").before a0 Z = true := hw _ (List.mem_of_getElem? (i := 34) rfl)
theorem w50 {Z : State} {a0 : Array Value} (hw : ∀ d ∈ tables_1, d.before a0 Z = true) : (Jvm.Cond.laysFinal cn0 cn0 "subElements" "Ljava/util/Map;").before a0 Z = true := hw _ (List.mem_of_getElem? (i := 50) rfl)
theorem w3 {Z : State} {a0 : Array Value} (hw : ∀ d ∈ tables_1, d.before a0 Z = true) : (Jvm.Cond.methodLink cn5 (9 : Nat) ({ cls := cn0, name := "<init>", desc := "()V" } : Jvm.MethodName)).before a0 Z = true := hw _ (List.mem_of_getElem? (i := 3) rfl)
theorem d1_0 : decode prog_104_method_1_code 0 = .ok (.aload_n 0, 1) := by decide +kernel
theorem d1_1 : decode prog_104_method_1_code 1 = .ok (.invokespecial 1, 3) := by decide +kernel
theorem w6 {Z : State} {a0 : Array Value} (hw : ∀ d ∈ tables_1, d.before a0 Z = true) : (Jvm.Cond.methodLink cn0 (1 : Nat) ({ cls := "java/lang/Object", name := "<init>", desc := "()V" } : Jvm.MethodName)).before a0 Z = true := hw _ (List.mem_of_getElem? (i := 6) rfl)
theorem d1_4 : decode prog_104_method_1_code 4 = .ok (.aload_n 0, 1) := by decide +kernel
theorem d1_5 : decode prog_104_method_1_code 5 = .ok (.sipush 129, 3) := by decide +kernel
theorem d1_8 : decode prog_104_method_1_code 8 = .ok (.anewarray 9, 3) := by decide +kernel
theorem w9 {Z : State} {a0 : Array Value} (hw : ∀ d ∈ tables_1, d.before a0 Z = true) : (Jvm.Cond.classLink cn0 (9 : Nat) cn9).before a0 Z = true := hw _ (List.mem_of_getElem? (i := 9) rfl)
theorem w10 {Z : State} {a0 : Array Value} (hw : ∀ d ∈ tables_1, d.before a0 Z = true) : (Jvm.Cond.arrayOver (Jvm.ClassFile.FieldType.object cn9)).before a0 Z = true := hw _ (List.mem_of_getElem? (i := 10) rfl)
theorem d1_11 : decode prog_104_method_1_code 11 = .ok (.putfield 11, 3) := by decide +kernel
theorem w11 {Z : State} {a0 : Array Value} (hw : ∀ d ∈ tables_1, d.before a0 Z = true) : (Jvm.Cond.fieldLink cn0 (11 : Nat) cn0 "formats" cn10).before a0 Z = true := hw _ (List.mem_of_getElem? (i := 11) rfl)
theorem d1_14 : decode prog_104_method_1_code 14 = .ok (.aload_n 0, 1) := by decide +kernel
theorem d1_15 : decode prog_104_method_1_code 15 = .ok (.aload_n 0, 1) := by decide +kernel
theorem d1_16 : decode prog_104_method_1_code 16 = .ok (.getfield 11, 3) := by decide +kernel
theorem d1_19 : decode prog_104_method_1_code 19 = .ok (.arraylength, 1) := by decide +kernel
theorem d1_20 : decode prog_104_method_1_code 20 = .ok (.anewarray 17, 3) := by decide +kernel
theorem w13 {Z : State} {a0 : Array Value} (hw : ∀ d ∈ tables_1, d.before a0 Z = true) : (Jvm.Cond.classLink cn0 (17 : Nat) cn3).before a0 Z = true := hw _ (List.mem_of_getElem? (i := 13) rfl)
theorem w14 {Z : State} {a0 : Array Value} (hw : ∀ d ∈ tables_1, d.before a0 Z = true) : (Jvm.Cond.arrayOver (Jvm.ClassFile.FieldType.object cn3)).before a0 Z = true := hw _ (List.mem_of_getElem? (i := 14) rfl)
theorem d1_23 : decode prog_104_method_1_code 23 = .ok (.putfield 19, 3) := by decide +kernel
theorem d1_26 : decode prog_104_method_1_code 26 = .ok (.aload_n 0, 1) := by decide +kernel
theorem d1_27 : decode prog_104_method_1_code 27 = .ok (.new 23, 3) := by decide +kernel
theorem w17 {Z : State} {a0 : Array Value} (hw : ∀ d ∈ tables_1, d.before a0 Z = true) : (Jvm.Cond.classLink cn0 (23 : Nat) "java/util/HashMap").before a0 Z = true := hw _ (List.mem_of_getElem? (i := 17) rfl)
theorem w18 {Z : State} {a0 : Array Value} (hw : ∀ d ∈ tables_1, d.before a0 Z = true) : (Jvm.Cond.instantiable "java/util/HashMap" (8 : Nat)).before a0 Z = true := hw _ (List.mem_of_getElem? (i := 18) rfl)
theorem w19 {Z : State} {a0 : Array Value} (hw : ∀ d ∈ tables_1, d.before a0 Z = true) : (Jvm.Cond.initialized "java/util/HashMap").before a0 Z = true := hw _ (List.mem_of_getElem? (i := 19) rfl)
theorem w32 {Z : State} {a0 : Array Value} (hw : ∀ d ∈ tables_1, d.before a0 Z = true) : (Jvm.Cond.laysFinal "java/util/HashMap" "java/util/HashMap" "loadFactor" "F").before a0 Z = true := hw _ (List.mem_of_getElem? (i := 32) rfl)
theorem d1_30 : decode prog_104_method_1_code 30 = .ok (.dup, 1) := by decide +kernel
theorem d1_31 : decode prog_104_method_1_code 31 = .ok (.invokespecial 25, 3) := by decide +kernel
theorem w20 {Z : State} {a0 : Array Value} (hw : ∀ d ∈ tables_1, d.before a0 Z = true) : (Jvm.Cond.methodLink cn0 (25 : Nat) ({ cls := "java/util/HashMap", name := "<init>", desc := "()V" } : Jvm.MethodName)).before a0 Z = true := hw _ (List.mem_of_getElem? (i := 20) rfl)
theorem d3_0 : decode jdk_69_method_7_code 0 = .ok (.aload_n 0, 1) := by decide +kernel
theorem d3_1 : decode jdk_69_method_7_code 1 = .ok (.invokespecial 43, 3) := by decide +kernel
theorem w23 {Z : State} {a0 : Array Value} (hw : ∀ d ∈ tables_1, d.before a0 Z = true) : (Jvm.Cond.methodLink "java/util/HashMap" (43 : Nat) ({ cls := "java/util/AbstractMap", name := "<init>", desc := "()V" } : Jvm.MethodName)).before a0 Z = true := hw _ (List.mem_of_getElem? (i := 23) rfl)
theorem d4_0 : decode jdk_71_method_1_code 0 = .ok (.aload_n 0, 1) := by decide +kernel
theorem d4_1 : decode jdk_71_method_1_code 1 = .ok (.invokespecial 1, 3) := by decide +kernel
theorem w29 {Z : State} {a0 : Array Value} (hw : ∀ d ∈ tables_1, d.before a0 Z = true) : (Jvm.Cond.methodLink "java/util/AbstractMap" (1 : Nat) ({ cls := "java/lang/Object", name := "<init>", desc := "()V" } : Jvm.MethodName)).before a0 Z = true := hw _ (List.mem_of_getElem? (i := 29) rfl)
theorem d4_4 : decode jdk_71_method_1_code 4 = .ok (.return_, 1) := by decide +kernel
def Q_r3_init (Z : State) (ya1 : Addr) (h0 : Heap) (n0 : Nat) (v : Option Value) (h : Heap) (L : List Loc) : Prop := Fr n0 L ∧ h = h0 ∧ ((v = none))
theorem pn_java_util_AbstractMap : plainName "java/util/AbstractMap" = true := by first | (simp [plainName, overriddenIn]; done) | decide +kernel
set_option maxRecDepth 65536 in
set_option maxHeartbeats 40000000 in
theorem r3_init (l : Launch) (Z : State) (a0 : Array Value) (hw : ∀ d ∈ tables_1, d.before a0 Z = true) (ws : List Jvm.Cond) (ya1 : Addr) (h0 : Heap) (n0 : Nat) (O0 : Old Z n0 h0) :
    MetFree l (⟨"java/util/AbstractMap", "<init>", "()V"⟩ : MethodName) (head1 (Jvm.Cond.code (⟨"java/util/AbstractMap", "<init>", "()V"⟩ : MethodName) jdk_71_method_1_code 1 none :: ws) ({ frames := 1, cells := 0, slots := 0, locals := 12 } : Room)) (fun a U => a = #[(.ref ya1)] ∧ Z.Warmed39 U.vm ∧ U.heap = h0) (fun _ _ _ _ _ => True) (fun _ U o U' => ∃ v L, o = .returned v ∧ Q_r3_init Z ya1 h0 n0 v U'.heap L ∧ FrameEnd U o U' L ({ frames := 1, cells := 0, slots := 0, locals := 12 } : Room).cells ({ frames := 1, cells := 0, slots := 0, locals := 12 } : Room).slots) := by
  refine MetFree.of_bodySF (plainFor_of_name pn_java_util_AbstractMap) hisR ?_
  intro p e s m args below meth c s₁ Bd hml0 hP hK
  obtain ⟨rfl, hZ, hh⟩ := hP
  have hx := Bd.exec
  have hby := Bd.bytes
  have hlk := Bd.notSynchronized
  have hml : c.maxLocals = 1 := hml0
  have hown : s.vm.findClass "java/util/AbstractMap" = some m.cls := findClass_of_methodNamed Bd.named
  have hnm := (name_of_methodNamed Bd.named Bd.method).1
  have X0 : Stand p l e ({ frames := 1, cells := 0, slots := 0, locals := 12 } : Room) s m #[(.ref ya1)] below meth c s₁ [] 0 0 := Stand.of_body Bd
  have e0 : s₁.heap = h0 := by rw [← hh, Bd.state]; rfl
  have N0 := Fr.nil n0
  have K0 := Keep.refl h0 []
  have Z0 : n0 ≤ h0.size := O0.1 ▸ O0.2.1
  have hef : entryFrame m #[(.ref ya1)] 1 = mkF m 0 #[.val (.ref ya1)] [] := by first | (simp [entryFrame, mkF, argsToLocals, Value.category]; done) | rfl
  rw [hef]
  refine Gets.out (Q := Q_r3_init Z ya1 h0 n0) ?_
  show Gets p e below _ (s₁.setTop (mkF m 0 #[.val (.ref ya1)] []))
  refine Gets.of (fun t k => XS.aloadN X0.here hx rfl (hb hby d4_0) rfl rfl  k) ?_
  obtain ⟨T1, X1, e1, st1⟩ := initO X0 hx hZ hown (w29 hw) (w7 hw) (w8 hw) e0 (g := (mkF m 1 #[.val (.ref ya1)] [(.ref ya1)])) rfl (by rw [hml]; rfl) rfl (hb hby d4_1) (by decide) (W := 0) (by show 2 * 0 + _ ≤ _; exact Nat.le_of_eq rfl) (by decide)
  refine Gets.of st1 ?_
  show Gets p e below _ (T1.setTop (mkF m 4 #[.val (.ref ya1)] []))
  refine Gets.retV X1 hx Bd.returns (hb hby d4_4) ?_ (by decide) (by decide)
  rw [e1]
  exact ⟨N0, rfl, rfl⟩
theorem w28 {Z : State} {a0 : Array Value} (hw : ∀ d ∈ tables_1, d.before a0 Z = true) : (Jvm.Cond.code ({ cls := "java/util/AbstractMap", name := "<init>", desc := "()V" } : Jvm.MethodName) jdk_71_method_1_code (1 : Nat) (Option.none : Option Jvm.ClassFile.FieldType)).before a0 Z = true := hw _ (List.mem_of_getElem? (i := 28) rfl)
theorem w27 {Z : State} {a0 : Array Value} (hw : ∀ d ∈ tables_1, d.before a0 Z = true) : (Jvm.Cond.initialized "java/util/AbstractMap").before a0 Z = true := hw _ (List.mem_of_getElem? (i := 27) rfl)
theorem w24 {Z : State} {a0 : Array Value} (hw : ∀ d ∈ tables_1, d.before a0 Z = true) : (Jvm.Cond.instanceMethod ({ cls := "java/util/AbstractMap", name := "<init>", desc := "()V" } : Jvm.MethodName)).before a0 Z = true := hw _ (List.mem_of_getElem? (i := 24) rfl)
theorem d3_4 : decode jdk_69_method_7_code 4 = .ok (.aload_n 0, 1) := by decide +kernel
theorem d3_5 : decode jdk_69_method_7_code 5 = .ok (.ldc 92, 2) := by decide +kernel
theorem w30 {Z : State} {a0 : Array Value} (hw : ∀ d ∈ tables_1, d.before a0 Z = true) : (Jvm.Cond.constantFloat "java/util/HashMap" (92 : Nat) (1061158912 : UInt32)).before a0 Z = true := hw _ (List.mem_of_getElem? (i := 30) rfl)
theorem d3_7 : decode jdk_69_method_7_code 7 = .ok (.putfield 81, 3) := by decide +kernel
theorem w31 {Z : State} {a0 : Array Value} (hw : ∀ d ∈ tables_1, d.before a0 Z = true) : (Jvm.Cond.fieldLink "java/util/HashMap" (81 : Nat) "java/util/HashMap" "loadFactor" "F").before a0 Z = true := hw _ (List.mem_of_getElem? (i := 31) rfl)
theorem d3_10 : decode jdk_69_method_7_code 10 = .ok (.return_, 1) := by decide +kernel
def Q_r2_init (Z : State) (ya1 : Addr) (yi2 : UInt32) (h0 : Heap) (n0 : Nat) (v : Option Value) (h : Heap) (L : List Loc) : Prop := Fr n0 L ∧ Keep h0 h [ya1] ∧ ((v = none ∧ Fld Z h ya1 "java/util/HashMap" "loadFactor" "F" (.float (1061158912 : UInt32))))
theorem pn_java_util_HashMap : plainName "java/util/HashMap" = true := by first | (simp [plainName, overriddenIn]; done) | decide +kernel
set_option maxRecDepth 65536 in
set_option maxHeartbeats 40000000 in
theorem r2_init (l : Launch) (Z : State) (a0 : Array Value) (hw : ∀ d ∈ tables_1, d.before a0 Z = true) (ws : List Jvm.Cond) (ya1 : Addr) (yi2 : UInt32) (h0 : Heap) (n0 : Nat) (O0 : Old Z n0 h0) (F0 : Exa Z h0 ya1 "java/util/HashMap") (F1 : Fld Z h0 ya1 "java/util/HashMap" "loadFactor" "F" (.float yi2)) (gq_ya1 : n0 ≤ ya1) :
    MetFree l (⟨"java/util/HashMap", "<init>", "()V"⟩ : MethodName) (head1 (Jvm.Cond.code (⟨"java/util/HashMap", "<init>", "()V"⟩ : MethodName) jdk_69_method_7_code 1 none :: ws) ({ frames := 2, cells := 0, slots := 0, locals := 24 } : Room)) (fun a U => a = #[(.ref ya1)] ∧ Z.Warmed39 U.vm ∧ U.heap = h0) (fun _ _ _ _ _ => True) (fun _ U o U' => ∃ v L, o = .returned v ∧ Q_r2_init Z ya1 yi2 h0 n0 v U'.heap L ∧ FrameEnd U o U' L ({ frames := 2, cells := 0, slots := 0, locals := 24 } : Room).cells ({ frames := 2, cells := 0, slots := 0, locals := 24 } : Room).slots) := by
  refine MetFree.of_bodySF (plainFor_of_name pn_java_util_HashMap) hisR ?_
  intro p e s m args below meth c s₁ Bd hml0 hP hK
  obtain ⟨rfl, hZ, hh⟩ := hP
  have hx := Bd.exec
  have hby := Bd.bytes
  have hlk := Bd.notSynchronized
  have hml : c.maxLocals = 1 := hml0
  have hown : s.vm.findClass "java/util/HashMap" = some m.cls := findClass_of_methodNamed Bd.named
  have hnm := (name_of_methodNamed Bd.named Bd.method).1
  have X0 : Stand p l e ({ frames := 2, cells := 0, slots := 0, locals := 24 } : Room) s m #[(.ref ya1)] below meth c s₁ [] 0 0 := Stand.of_body Bd
  have e0 : s₁.heap = h0 := by rw [← hh, Bd.state]; rfl
  have N0 := Fr.nil n0
  have K0 := Keep.refl h0 [ya1]
  have Z0 : n0 ≤ h0.size := O0.1 ▸ O0.2.1
  have hef : entryFrame m #[(.ref ya1)] 1 = mkF m 0 #[.val (.ref ya1)] [] := by first | (simp [entryFrame, mkF, argsToLocals, Value.category]; done) | rfl
  rw [hef]
  refine Gets.out (Q := Q_r2_init Z ya1 yi2 h0 n0) ?_
  show Gets p e below _ (s₁.setTop (mkF m 0 #[.val (.ref ya1)] []))
  refine Gets.of (fun t k => XS.aloadN X0.here hx rfl (hb hby d3_0) rfl rfl  k) ?_
  obtain ⟨_, _, ⟨T1, L1, k1, n1⟩, -, X1, ⟨Lc1, hQ1, l1, y1, z1⟩, st1⟩ := X0.specialBack hx (y := (⟨"java/util/AbstractMap", "<init>", "()V"⟩ : MethodName)) rfl hown (mvT hZ (w23 hw)) (mvT hZ (w24 hw)) (mvT hZ (w28 hw)) (by decide) (backOf (W := 0) (r3_init l Z a0 hw [] ya1 h0 n0 O0) hZ (w28 hw) (w27 hw) (by decide) (by decide)) (g := (mkF m 1 #[.val (.ref ya1)] [(.ref ya1)])) rfl (by rw [hml]; rfl) (Steps.refl _) (a := ya1) (argsL := []) (rest := []) (lenOf pd__V rfl) rfl (by show 2 * 0 + _ ≤ _; exact Nat.le_of_eq rfl) (hb hby d3_1) (fun _ _ => ⟨rfl, e0, (by decide : 0 + 0 ≤ _), (by decide : 0 + 0 ≤ _)⟩)
  dsimp only [Pt.U, Pt.locs, Pt.cells, Pt.slots] at X1 l1 y1 z1 st1 hQ1
  subst l1 y1 z1
  obtain ⟨Nq1, eq1, hR1⟩ := hQ1
  have N1 := Fr.app N0 Nq1
  obtain rfl := hR1
  refine Gets.tr st1 ?_
  show Gets p e below _ (T1.setTop (mkF m 4 #[.val (.ref ya1)] []))
  refine Gets.of (fun t k => XS.aloadN X1.here hx rfl (hb hby d3_4) rfl rfl  k) ?_
  refine Gets.of (fun t k => X1.ldcFloatC hx hown (mvT hZ (w30 hw)) (g := (mkF m 5 #[.val (.ref ya1)] [(.ref ya1)])) rfl (hb hby d3_5) t k) ?_
  show Gets p e below _ (T1.setTop (mkF m 7 #[.val (.ref ya1)] [(.float (1061158912 : UInt32)), (.ref ya1)]))
  obtain ⟨T2, h2, X2, e2, W2, st2⟩ := putF X1 hx hZ hown (host := "") (Or.inl (w31 hw)) Via.refl eq1 F1 F0 (Or.inr ⟨(w32 hw), rfl, hnm⟩) (w18 hw) (ty := .float) (by decide) rfl rfl (g := (mkF m 7 #[.val (.ref ya1)] [(.float (1061158912 : UInt32)), (.ref ya1)])) rfl rfl (hb hby d3_7)
  have N2 := Fr.snoc X2 N1 gq_ya1
  have Fw2 : Fld Z h2 ya1 "java/util/HashMap" "loadFactor" "F" (.float (1061158912 : UInt32)) := (F1).same W2
  have K3 : Keep h0 _ [ya1] := K0.wr W2 (Or.inl (by simp))
  have O3 := O0.wr W2 gq_ya1
  refine Gets.of st2 ?_
  show Gets p e below _ (T2.setTop (mkF m 10 #[.val (.ref ya1)] []))
  refine Gets.retV X2 hx Bd.returns (hb hby d3_10) ?_ (by decide) (by decide)
  rw [e2]
  exact ⟨N2, K3, ⟨rfl, Fw2⟩⟩
theorem w22 {Z : State} {a0 : Array Value} (hw : ∀ d ∈ tables_1, d.before a0 Z = true) : (Jvm.Cond.code ({ cls := "java/util/HashMap", name := "<init>", desc := "()V" } : Jvm.MethodName) jdk_69_method_7_code (1 : Nat) (Option.none : Option Jvm.ClassFile.FieldType)).before a0 Z = true := hw _ (List.mem_of_getElem? (i := 22) rfl)
theorem w21 {Z : State} {a0 : Array Value} (hw : ∀ d ∈ tables_1, d.before a0 Z = true) : (Jvm.Cond.instanceMethod ({ cls := "java/util/HashMap", name := "<init>", desc := "()V" } : Jvm.MethodName)).before a0 Z = true := hw _ (List.mem_of_getElem? (i := 21) rfl)
theorem d1_34 : decode prog_104_method_1_code 34 = .ok (.putfield 26, 3) := by decide +kernel
theorem w33 {Z : State} {a0 : Array Value} (hw : ∀ d ∈ tables_1, d.before a0 Z = true) : (Jvm.Cond.fieldLink cn0 (26 : Nat) cn0 "itemLayouts" "Ljava/util/Map;").before a0 Z = true := hw _ (List.mem_of_getElem? (i := 33) rfl)
theorem d1_37 : decode prog_104_method_1_code 37 = .ok (.aload_n 0, 1) := by decide +kernel
theorem d1_38 : decode prog_104_method_1_code 38 = .ok (.new 30, 3) := by decide +kernel
theorem w35 {Z : State} {a0 : Array Value} (hw : ∀ d ∈ tables_1, d.before a0 Z = true) : (Jvm.Cond.classLink cn0 (30 : Nat) cn1).before a0 Z = true := hw _ (List.mem_of_getElem? (i := 35) rfl)
theorem w36 {Z : State} {a0 : Array Value} (hw : ∀ d ∈ tables_1, d.before a0 Z = true) : (Jvm.Cond.instantiable cn1 (9 : Nat)).before a0 Z = true := hw _ (List.mem_of_getElem? (i := 36) rfl)
theorem w37 {Z : State} {a0 : Array Value} (hw : ∀ d ∈ tables_1, d.before a0 Z = true) : (Jvm.Cond.initialized cn1).before a0 Z = true := hw _ (List.mem_of_getElem? (i := 37) rfl)
theorem w44 {Z : State} {a0 : Array Value} (hw : ∀ d ∈ tables_1, d.before a0 Z = true) : (Jvm.Cond.lays cn1 cn1 "size" "I").before a0 Z = true := hw _ (List.mem_of_getElem? (i := 44) rfl)
theorem w46 {Z : State} {a0 : Array Value} (hw : ∀ d ∈ tables_1, d.before a0 Z = true) : (Jvm.Cond.lays cn1 cn1 "modCount" "I").before a0 Z = true := hw _ (List.mem_of_getElem? (i := 46) rfl)
theorem w48 {Z : State} {a0 : Array Value} (hw : ∀ d ∈ tables_1, d.before a0 Z = true) : (Jvm.Cond.laysFinal cn1 cn1 "comparator" "Ljava/util/Comparator;").before a0 Z = true := hw _ (List.mem_of_getElem? (i := 48) rfl)
theorem w96 {Z : State} {a0 : Array Value} (hw : ∀ d ∈ tables_1, d.before a0 Z = true) : (Jvm.Cond.lays cn1 cn1 "root" "Ljava/util/TreeMap$Entry;").before a0 Z = true := hw _ (List.mem_of_getElem? (i := 96) rfl)
theorem d1_41 : decode prog_104_method_1_code 41 = .ok (.dup, 1) := by decide +kernel
theorem d1_42 : decode prog_104_method_1_code 42 = .ok (.invokespecial 32, 3) := by decide +kernel
theorem w38 {Z : State} {a0 : Array Value} (hw : ∀ d ∈ tables_1, d.before a0 Z = true) : (Jvm.Cond.methodLink cn0 (32 : Nat) ({ cls := cn1, name := "<init>", desc := "()V" } : Jvm.MethodName)).before a0 Z = true := hw _ (List.mem_of_getElem? (i := 38) rfl)
theorem d5_0 : decode jdk_2729_method_1_code 0 = .ok (.aload_n 0, 1) := by decide +kernel
theorem d5_1 : decode jdk_2729_method_1_code 1 = .ok (.invokespecial 1, 3) := by decide +kernel
theorem w41 {Z : State} {a0 : Array Value} (hw : ∀ d ∈ tables_1, d.before a0 Z = true) : (Jvm.Cond.methodLink cn1 (1 : Nat) ({ cls := "java/util/AbstractMap", name := "<init>", desc := "()V" } : Jvm.MethodName)).before a0 Z = true := hw _ (List.mem_of_getElem? (i := 41) rfl)
theorem d5_4 : decode jdk_2729_method_1_code 4 = .ok (.aload_n 0, 1) := by decide +kernel
theorem d5_5 : decode jdk_2729_method_1_code 5 = .ok (.iconst 0, 1) := by decide +kernel
theorem d5_6 : decode jdk_2729_method_1_code 6 = .ok (.putfield 7, 3) := by decide +kernel
theorem w43 {Z : State} {a0 : Array Value} (hw : ∀ d ∈ tables_1, d.before a0 Z = true) : (Jvm.Cond.fieldLink cn1 (7 : Nat) cn1 "size" "I").before a0 Z = true := hw _ (List.mem_of_getElem? (i := 43) rfl)
theorem d5_9 : decode jdk_2729_method_1_code 9 = .ok (.aload_n 0, 1) := by decide +kernel
theorem d5_10 : decode jdk_2729_method_1_code 10 = .ok (.iconst 0, 1) := by decide +kernel
theorem d5_11 : decode jdk_2729_method_1_code 11 = .ok (.putfield 13, 3) := by decide +kernel
theorem w45 {Z : State} {a0 : Array Value} (hw : ∀ d ∈ tables_1, d.before a0 Z = true) : (Jvm.Cond.fieldLink cn1 (13 : Nat) cn1 "modCount" "I").before a0 Z = true := hw _ (List.mem_of_getElem? (i := 45) rfl)
theorem d5_14 : decode jdk_2729_method_1_code 14 = .ok (.aload_n 0, 1) := by decide +kernel
theorem d5_15 : decode jdk_2729_method_1_code 15 = .ok (.aconst_null, 1) := by decide +kernel
theorem d5_16 : decode jdk_2729_method_1_code 16 = .ok (.putfield 16, 3) := by decide +kernel
theorem w47 {Z : State} {a0 : Array Value} (hw : ∀ d ∈ tables_1, d.before a0 Z = true) : (Jvm.Cond.fieldLink cn1 (16 : Nat) cn1 "comparator" "Ljava/util/Comparator;").before a0 Z = true := hw _ (List.mem_of_getElem? (i := 47) rfl)
theorem d5_19 : decode jdk_2729_method_1_code 19 = .ok (.return_, 1) := by decide +kernel
def Q_r4_init (Z : State) (ya1 : Addr) (h0 : Heap) (n0 : Nat) (v : Option Value) (h : Heap) (L : List Loc) : Prop := Fr n0 L ∧ Keep h0 h [ya1] ∧ ((v = none ∧ Fld Z h ya1 cn1 "size" "I" (.int (0 : Int32)) ∧ Fld Z h ya1 cn1 "modCount" "I" (.int (0 : Int32)) ∧ Fld Z h ya1 cn1 "comparator" "Ljava/util/Comparator;" .null ∧ Fld Z h ya1 cn1 "root" "Ljava/util/TreeMap$Entry;" .null))
theorem pn_java_util_TreeMap : plainName "java/util/TreeMap" = true := by first | (simp [plainName, overriddenIn]; done) | decide +kernel
set_option maxRecDepth 65536 in
set_option maxHeartbeats 40000000 in
theorem r4_init (l : Launch) (Z : State) (a0 : Array Value) (hw : ∀ d ∈ tables_1, d.before a0 Z = true) (ws : List Jvm.Cond) (ya1 : Addr) (h0 : Heap) (n0 : Nat) (O0 : Old Z n0 h0) (F0 : Exa Z h0 ya1 cn1) (F1 : Fld Z h0 ya1 cn1 "size" "I" (.int (0 : Int32))) (F2 : Fld Z h0 ya1 cn1 "modCount" "I" (.int (0 : Int32))) (F3 : Fld Z h0 ya1 cn1 "comparator" "Ljava/util/Comparator;" .null) (F4 : Fld Z h0 ya1 cn1 "root" "Ljava/util/TreeMap$Entry;" .null) (gq_ya1 : n0 ≤ ya1) :
    MetFree l (⟨cn1, "<init>", "()V"⟩ : MethodName) (head1 (Jvm.Cond.code (⟨cn1, "<init>", "()V"⟩ : MethodName) jdk_2729_method_1_code 1 none :: ws) ({ frames := 2, cells := 0, slots := 0, locals := 24 } : Room)) (fun a U => a = #[(.ref ya1)] ∧ Z.Warmed39 U.vm ∧ U.heap = h0) (fun _ _ _ _ _ => True) (fun _ U o U' => ∃ v L, o = .returned v ∧ Q_r4_init Z ya1 h0 n0 v U'.heap L ∧ FrameEnd U o U' L ({ frames := 2, cells := 0, slots := 0, locals := 24 } : Room).cells ({ frames := 2, cells := 0, slots := 0, locals := 24 } : Room).slots) := by
  refine MetFree.of_bodySF (plainFor_of_name pn_java_util_TreeMap) hisR ?_
  intro p e s m args below meth c s₁ Bd hml0 hP hK
  obtain ⟨rfl, hZ, hh⟩ := hP
  have hx := Bd.exec
  have hby := Bd.bytes
  have hlk := Bd.notSynchronized
  have hml : c.maxLocals = 1 := hml0
  have hown : s.vm.findClass cn1 = some m.cls := findClass_of_methodNamed Bd.named
  have hnm := (name_of_methodNamed Bd.named Bd.method).1
  have X0 : Stand p l e ({ frames := 2, cells := 0, slots := 0, locals := 24 } : Room) s m #[(.ref ya1)] below meth c s₁ [] 0 0 := Stand.of_body Bd
  have e0 : s₁.heap = h0 := by rw [← hh, Bd.state]; rfl
  have N0 := Fr.nil n0
  have K0 := Keep.refl h0 [ya1]
  have Z0 : n0 ≤ h0.size := O0.1 ▸ O0.2.1
  have hef : entryFrame m #[(.ref ya1)] 1 = mkF m 0 #[.val (.ref ya1)] [] := by first | (simp [entryFrame, mkF, argsToLocals, Value.category]; done) | rfl
  rw [hef]
  refine Gets.out (Q := Q_r4_init Z ya1 h0 n0) ?_
  show Gets p e below _ (s₁.setTop (mkF m 0 #[.val (.ref ya1)] []))
  refine Gets.of (fun t k => XS.aloadN X0.here hx rfl (hb hby d5_0) rfl rfl  k) ?_
  obtain ⟨_, _, ⟨T1, L1, k1, n1⟩, -, X1, ⟨Lc1, hQ1, l1, y1, z1⟩, st1⟩ := X0.specialBack hx (y := (⟨"java/util/AbstractMap", "<init>", "()V"⟩ : MethodName)) rfl hown (mvT hZ (w41 hw)) (mvT hZ (w24 hw)) (mvT hZ (w28 hw)) (by decide) (backOf (W := 0) (r3_init l Z a0 hw [] ya1 h0 n0 O0) hZ (w28 hw) (w27 hw) (by decide) (by decide)) (g := (mkF m 1 #[.val (.ref ya1)] [(.ref ya1)])) rfl (by rw [hml]; rfl) (Steps.refl _) (a := ya1) (argsL := []) (rest := []) (lenOf pd__V rfl) rfl (by show 2 * 0 + _ ≤ _; exact Nat.le_of_eq rfl) (hb hby d5_1) (fun _ _ => ⟨rfl, e0, (by decide : 0 + 0 ≤ _), (by decide : 0 + 0 ≤ _)⟩)
  dsimp only [Pt.U, Pt.locs, Pt.cells, Pt.slots] at X1 l1 y1 z1 st1 hQ1
  subst l1 y1 z1
  obtain ⟨Nq1, eq1, hR1⟩ := hQ1
  have N1 := Fr.app N0 Nq1
  obtain rfl := hR1
  refine Gets.tr st1 ?_
  show Gets p e below _ (T1.setTop (mkF m 4 #[.val (.ref ya1)] []))
  refine Gets.of (fun t k => XS.aloadN X1.here hx rfl (hb hby d5_4) rfl rfl  k) ?_
  refine Gets.of (fun t k => XS.iconst X1.here hx rfl (hb hby d5_5) k) ?_
  obtain ⟨T2, h2, X2, e2, W2, st2⟩ := putF X1 hx hZ hown (host := "") (Or.inl (w43 hw)) Via.refl eq1 F1 F0 (Or.inl (w44 hw)) (w36 hw) (ty := .int) (by decide) rfl rfl (g := (mkF m 6 #[.val (.ref ya1)] [(.int (0 : Int32)), (.ref ya1)])) rfl rfl (hb hby d5_6)
  have N2 := Fr.snoc X2 N1 gq_ya1
  have Fw2 : Fld Z h2 ya1 cn1 "size" "I" (.int (0 : Int32)) := (F1).same W2
  have K3 : Keep h0 _ [ya1] := K0.wr W2 (Or.inl (by simp))
  have O3 := O0.wr W2 gq_ya1
  refine Gets.of st2 ?_
  show Gets p e below _ (T2.setTop (mkF m 9 #[.val (.ref ya1)] []))
  refine Gets.of (fun t k => XS.aloadN X2.here hx rfl (hb hby d5_9) rfl rfl  k) ?_
  refine Gets.of (fun t k => XS.iconst X2.here hx rfl (hb hby d5_10) k) ?_
  have f4 : Exa Z h2 ya1 cn1 := (F0.wr W2)
  have f5 : Fld Z h2 ya1 cn1 "modCount" "I" (.int (0 : Int32)) := (F2.other W2 (Or.inr (slot_ne (Or.inl (w46 hw)) (Or.inl (w44 hw)) (by decide) (t := .int) (t' := .int) (by decide) (by decide))))
  obtain ⟨T6, h6, X6, e6, W6, st6⟩ := putF X2 hx hZ hown (host := "") (Or.inl (w45 hw)) Via.refl e2 f5 f4 (Or.inl (w46 hw)) (w36 hw) (ty := .int) (by decide) rfl rfl (g := (mkF m 11 #[.val (.ref ya1)] [(.int (0 : Int32)), (.ref ya1)])) rfl rfl (hb hby d5_11)
  have N6 := Fr.snoc X6 N2 gq_ya1
  have Fw6 : Fld Z h6 ya1 cn1 "modCount" "I" (.int (0 : Int32)) := (f5).same W6
  have K7 : Keep h0 _ [ya1] := K3.wr W6 (Or.inl (by simp))
  have O7 := O3.wr W6 gq_ya1
  refine Gets.of st6 ?_
  show Gets p e below _ (T6.setTop (mkF m 14 #[.val (.ref ya1)] []))
  refine Gets.of (fun t k => XS.aloadN X6.here hx rfl (hb hby d5_14) rfl rfl  k) ?_
  refine Gets.of (fun t k => XS.aconstNull X6.here hx rfl (hb hby d5_15) k) ?_
  have f8 : Exa Z h6 ya1 cn1 := (f4.wr W6)
  have f9 : Fld Z h6 ya1 cn1 "comparator" "Ljava/util/Comparator;" .null := ((F3.other W2 (Or.inr (slot_ne (Or.inr (w48 hw)) (Or.inl (w44 hw)) (by decide) (t := (.object "java/util/Comparator")) (t' := .int) (by decide) (by decide)))).other W6 (Or.inr (slot_ne (Or.inr (w48 hw)) (Or.inl (w46 hw)) (by decide) (t := (.object "java/util/Comparator")) (t' := .int) (by decide) (by decide))))
  obtain ⟨T10, h10, X10, e10, W10, st10⟩ := putF X6 hx hZ hown (host := "") (Or.inl (w47 hw)) Via.refl e6 f9 f8 (Or.inr ⟨(w48 hw), rfl, hnm⟩) (w36 hw) (ty := (.object "java/util/Comparator")) (by decide) rfl rfl (g := (mkF m 16 #[.val (.ref ya1)] [.null, (.ref ya1)])) rfl rfl (hb hby d5_16)
  have N10 := Fr.snoc X10 N6 gq_ya1
  have Fw10 : Fld Z h10 ya1 cn1 "comparator" "Ljava/util/Comparator;" .null := (f9).same W10
  have K11 : Keep h0 _ [ya1] := K7.wr W10 (Or.inl (by simp))
  have O11 := O7.wr W10 gq_ya1
  refine Gets.of st10 ?_
  show Gets p e below _ (T10.setTop (mkF m 19 #[.val (.ref ya1)] []))
  refine Gets.retV X10 hx Bd.returns (hb hby d5_19) ?_ (by decide) (by decide)
  rw [e10]
  have f12 : Fld Z h10 ya1 cn1 "size" "I" (.int (0 : Int32)) := ((Fw2.other W6 (Or.inr (slot_ne (Or.inl (w44 hw)) (Or.inl (w46 hw)) (by decide) (t := .int) (t' := .int) (by decide) (by decide)))).other W10 (Or.inr (slot_ne (Or.inl (w44 hw)) (Or.inr (w48 hw)) (by decide) (t := .int) (t' := (.object "java/util/Comparator")) (by decide) (by decide))))
  have f13 : Fld Z h10 ya1 cn1 "modCount" "I" (.int (0 : Int32)) := (Fw6.other W10 (Or.inr (slot_ne (Or.inl (w46 hw)) (Or.inr (w48 hw)) (by decide) (t := .int) (t' := (.object "java/util/Comparator")) (by decide) (by decide))))
  have f14 : Fld Z h10 ya1 cn1 "root" "Ljava/util/TreeMap$Entry;" .null := (((F4.other W2 (Or.inr (slot_ne (Or.inl (w96 hw)) (Or.inl (w44 hw)) (by decide) (t := (.object "java/util/TreeMap$Entry")) (t' := .int) (by decide) (by decide)))).other W6 (Or.inr (slot_ne (Or.inl (w96 hw)) (Or.inl (w46 hw)) (by decide) (t := (.object "java/util/TreeMap$Entry")) (t' := .int) (by decide) (by decide)))).other W10 (Or.inr (slot_ne (Or.inl (w96 hw)) (Or.inr (w48 hw)) (by decide) (t := (.object "java/util/TreeMap$Entry")) (t' := (.object "java/util/Comparator")) (by decide) (by decide))))
  exact ⟨N10, K11, ⟨rfl, f12, f13, Fw10, f14⟩⟩
theorem w40 {Z : State} {a0 : Array Value} (hw : ∀ d ∈ tables_1, d.before a0 Z = true) : (Jvm.Cond.code ({ cls := cn1, name := "<init>", desc := "()V" } : Jvm.MethodName) jdk_2729_method_1_code (1 : Nat) (Option.none : Option Jvm.ClassFile.FieldType)).before a0 Z = true := hw _ (List.mem_of_getElem? (i := 40) rfl)
theorem w39 {Z : State} {a0 : Array Value} (hw : ∀ d ∈ tables_1, d.before a0 Z = true) : (Jvm.Cond.instanceMethod ({ cls := cn1, name := "<init>", desc := "()V" } : Jvm.MethodName)).before a0 Z = true := hw _ (List.mem_of_getElem? (i := 39) rfl)
theorem d1_45 : decode prog_104_method_1_code 45 = .ok (.putfield 33, 3) := by decide +kernel
theorem w49 {Z : State} {a0 : Array Value} (hw : ∀ d ∈ tables_1, d.before a0 Z = true) : (Jvm.Cond.fieldLink cn0 (33 : Nat) cn0 "subElements" "Ljava/util/Map;").before a0 Z = true := hw _ (List.mem_of_getElem? (i := 49) rfl)
theorem d1_48 : decode prog_104_method_1_code 48 = .ok (.return_, 1) := by decide +kernel
def Q_r1_init (Z : State) (ya1 : Addr) (h0 : Heap) (n0 : Nat) (v : Option Value) (h : Heap) (L : List Loc) : Prop := Fr n0 L ∧ Keep h0 h [ya1] ∧ ((∃ (b2 : Addr) (b11 : Addr) (b18 : Addr) (b27 : Addr) (k2 : ClassId) (k11 : ClassId), v = none ∧ h0.size ≤ b2 ∧ h0.size ≤ b11 ∧ h0.size ≤ b18 ∧ h0.size ≤ b27 ∧ b2 ≠ b11 ∧ b2 ≠ b18 ∧ b2 ≠ b27 ∧ b11 ≠ b18 ∧ b11 ≠ b27 ∧ b18 ≠ b27 ∧ Fld Z h ya1 cn0 "formats" cn10 (.ref b2) ∧ Fld Z h ya1 cn0 "layouts" cn6 (.ref b11) ∧ Fld Z h ya1 cn0 "itemLayouts" "Ljava/util/Map;" (.ref b18) ∧ Fld Z h ya1 cn0 "subElements" "Ljava/util/Map;" (.ref b27) ∧ Arh Z h b2 k2 (.object cn9) (129 : Int32) [] [] .null ∧ Exa Z h b2 cn10 ∧ Arh Z h b11 k11 (.object cn3) (129 : Int32) [] [] .null ∧ Exa Z h b11 cn6 ∧ Exa Z h b18 "java/util/HashMap" ∧ Fld Z h b18 "java/util/HashMap" "loadFactor" "F" (.float (1061158912 : UInt32)) ∧ Exa Z h b27 cn1 ∧ Fld Z h b27 cn1 "size" "I" (.int (0 : Int32)) ∧ Fld Z h b27 cn1 "modCount" "I" (.int (0 : Int32)) ∧ Fld Z h b27 cn1 "comparator" "Ljava/util/Comparator;" .null ∧ Fld Z h b27 cn1 "root" "Ljava/util/TreeMap$Entry;" .null ∧ Ovr Z k2 cn9 ∧ Ovr Z k11 cn3))
set_option maxRecDepth 65536 in
set_option maxHeartbeats 40000000 in
theorem r1_init (l : Launch) (Z : State) (a0 : Array Value) (hw : ∀ d ∈ tables_1, d.before a0 Z = true) (ws : List Jvm.Cond) (ya1 : Addr) (h0 : Heap) (n0 : Nat) (O0 : Old Z n0 h0) (F0 : Exa Z h0 ya1 cn0) (F1 : Fld Z h0 ya1 cn0 "formats" cn10 .null) (F2 : Fld Z h0 ya1 cn0 "layouts" cn6 .null) (F3 : Fld Z h0 ya1 cn0 "itemLayouts" "Ljava/util/Map;" .null) (F4 : Fld Z h0 ya1 cn0 "subElements" "Ljava/util/Map;" .null) (gq_ya1 : n0 ≤ ya1) :
    MetFree l (⟨cn0, "<init>", "()V"⟩ : MethodName) (head1 (Jvm.Cond.code (⟨cn0, "<init>", "()V"⟩ : MethodName) prog_104_method_1_code 1 none :: ws) ({ frames := 3, cells := 4, slots := 275, locals := 38 } : Room)) (fun a U => a = #[(.ref ya1)] ∧ Z.Warmed39 U.vm ∧ U.heap = h0) (fun _ _ _ _ _ => True) (fun _ U o U' => ∃ v L, o = .returned v ∧ Q_r1_init Z ya1 h0 n0 v U'.heap L ∧ FrameEnd U o U' L ({ frames := 3, cells := 4, slots := 275, locals := 38 } : Room).cells ({ frames := 3, cells := 4, slots := 275, locals := 38 } : Room).slots) := by
  refine MetFree.of_bodySF (plainFor_of_name pn_com_example_cardwire_cardwire_core_Elements) hisR ?_
  intro p e s m args below meth c s₁ Bd hml0 hP hK
  obtain ⟨rfl, hZ, hh⟩ := hP
  have hx := Bd.exec
  have hby := Bd.bytes
  have hlk := Bd.notSynchronized
  have hml : c.maxLocals = 1 := hml0
  have hown : s.vm.findClass cn0 = some m.cls := findClass_of_methodNamed Bd.named
  have hnm := (name_of_methodNamed Bd.named Bd.method).1
  have X0 : Stand p l e ({ frames := 3, cells := 4, slots := 275, locals := 38 } : Room) s m #[(.ref ya1)] below meth c s₁ [] 0 0 := Stand.of_body Bd
  have e0 : s₁.heap = h0 := by rw [← hh, Bd.state]; rfl
  have N0 := Fr.nil n0
  have K0 := Keep.refl h0 [ya1]
  have Z0 : n0 ≤ h0.size := O0.1 ▸ O0.2.1
  have hef : entryFrame m #[(.ref ya1)] 1 = mkF m 0 #[.val (.ref ya1)] [] := by first | (simp [entryFrame, mkF, argsToLocals, Value.category]; done) | rfl
  rw [hef]
  refine Gets.out (Q := Q_r1_init Z ya1 h0 n0) ?_
  show Gets p e below _ (s₁.setTop (mkF m 0 #[.val (.ref ya1)] []))
  refine Gets.of (fun t k => XS.aloadN X0.here hx rfl (hb hby d1_0) rfl rfl  k) ?_
  obtain ⟨T1, X1, e1, st1⟩ := initO X0 hx hZ hown (w6 hw) (w7 hw) (w8 hw) e0 (g := (mkF m 1 #[.val (.ref ya1)] [(.ref ya1)])) rfl (by rw [hml]; rfl) rfl (hb hby d1_1) (by decide) (W := 0) (by show 2 * 0 + _ ≤ _; exact Nat.le_of_eq rfl) (by decide)
  refine Gets.of st1 ?_
  show Gets p e below _ (T1.setTop (mkF m 4 #[.val (.ref ya1)] []))
  refine Gets.of (fun t k => XS.aloadN X1.here hx rfl (hb hby d1_4) rfl rfl  k) ?_
  refine Gets.of (fun t k => XS.sipush X1.here hx rfl (hb hby d1_5) k) ?_
  obtain ⟨T2, h2, k2, X2, e2, E2, A2, Ex2, O2, st2⟩ := newRE X1 hx hZ hown (w9 hw) (w10 hw) e1 (g := (mkF m 8 #[.val (.ref ya1)] [(.int (129 : Int32)), (.ref ya1)])) rfl (hb hby d1_8) rfl (by decide) (cap := 129) (by decide) (by decide) (by decide) (by decide) (ad := cn10) rfl
  obtain ⟨b2, g2⟩ : ∃ z, z = h0.size := ⟨_, rfl⟩
  rw [← g2] at A2 Ex2 st2
  have sz_b2 : h0.size ≤ b2 := Nat.le_trans K0.1 (Nat.le_of_eq g2.symm)
  have g_b2 : n0 ≤ b2 := Nat.le_trans Z0 sz_b2
  have K3 := K0.ext E2
  have O3 := O0.ext E2
  have V2 : Arh Z h2 b2 k2 (.object cn9) (129 : Int32) [] [] .null := Arv.new A2 (by decide)
  refine Gets.of st2 ?_
  show Gets p e below _ (T2.setTop (mkF m 11 #[.val (.ref ya1)] [(.ref b2), (.ref ya1)]))
  have f4 : Exa Z h2 ya1 cn0 := (F0.ext E2)
  have f5 : Fld Z h2 ya1 cn0 "formats" cn10 .null := (F1.ext E2)
  obtain ⟨T6, h6, X6, e6, W6, st6⟩ := putF X2 hx hZ hown (host := "") (Or.inl (w11 hw)) Via.refl e2 f5 f4 (Or.inr ⟨(w12 hw), rfl, hnm⟩) (w1 hw) (ty := (.array (.object cn9))) (by decide) rfl rfl (g := (mkF m 11 #[.val (.ref ya1)] [(.ref b2), (.ref ya1)])) rfl rfl (hb hby d1_11)
  have N6 := Fr.snoc X6 N0 gq_ya1
  have Fw6 : Fld Z h6 ya1 cn0 "formats" cn10 (.ref b2) := (f5).same W6
  have K7 : Keep h0 _ [ya1] := K3.wr W6 (Or.inl (by simp))
  have O7 := O3.wr W6 gq_ya1
  refine Gets.of st6 ?_
  show Gets p e below _ (T6.setTop (mkF m 14 #[.val (.ref ya1)] []))
  refine Gets.of (fun t k => XS.aloadN X6.here hx rfl (hb hby d1_14) rfl rfl  k) ?_
  refine Gets.of (fun t k => XS.aloadN X6.here hx rfl (hb hby d1_15) rfl rfl  k) ?_
  obtain ⟨T8, X8, e8, st8⟩ := getF X6 hx hZ hown (host := "") (Or.inl (w11 hw)) Via.refl e6 Fw6 (g := (mkF m 16 #[.val (.ref ya1)] [(.ref ya1), (.ref ya1)])) rfl rfl (hb hby d1_16)
  refine Gets.of st8 ?_
  show Gets p e below _ (T8.setTop (mkF m 19 #[.val (.ref ya1)] [(.ref b2), (.ref ya1)]))
  have f9 : Arh Z h6 b2 k2 (.object cn9) (129 : Int32) [] [] .null := (V2.other W6 (Ne.symm (Nat.ne_of_lt (Nat.lt_of_lt_of_le F0.lt sz_b2))))
  obtain ⟨cl10, Ar10, -, S10, N_10, -, -⟩ := id (f9)
  refine Gets.of (X8.arraylength hx (by rw [e8]; exact Ar10.1) (State.isArrayOf_alike hZ.alike Ar10.2.1) (g := (mkF m 19 #[.val (.ref ya1)] [(.ref b2), (.ref ya1)])) rfl rfl (hb hby d1_19)) ?_
  rw [len_of S10 N_10]
  show Gets p e below _ (T8.setTop (mkF m 20 #[.val (.ref ya1)] [(.int (129 : Int32)), (.ref ya1)]))
  obtain ⟨T11, h11, k11, X11, e11, E11, A11, Ex11, O11, st11⟩ := newRE X8 hx hZ hown (w13 hw) (w14 hw) e8 (g := (mkF m 20 #[.val (.ref ya1)] [(.int (129 : Int32)), (.ref ya1)])) rfl (hb hby d1_20) rfl (by decide) (cap := 129) (by decide) (by decide) (by decide) (by decide) (ad := cn6) rfl
  obtain ⟨b11, g11⟩ : ∃ z, z = h6.size := ⟨_, rfl⟩
  rw [← g11] at A11 Ex11 st11
  have up12 := (Nat.le_of_eq W6.size.symm)
  have sz_b11 : h0.size ≤ b11 := Nat.le_trans K7.1 (Nat.le_of_eq g11.symm)
  have g_b11 : n0 ≤ b11 := Nat.le_trans Z0 sz_b11
  have K13 := K7.ext E11
  have O13 := O7.ext E11
  have V11 : Arh Z h11 b11 k11 (.object cn3) (129 : Int32) [] [] .null := Arv.new A11 (by decide)
  refine Gets.of st11 ?_
  show Gets p e below _ (T11.setTop (mkF m 23 #[.val (.ref ya1)] [(.ref b11), (.ref ya1)]))
  have f14 : Exa Z h11 ya1 cn0 := ((f4.wr W6).ext E11)
  have f15 : Fld Z h11 ya1 cn0 "layouts" cn6 .null := (((F2.ext E2).other W6 (Or.inr (slot_ne (Or.inr (w16 hw)) (Or.inr (w12 hw)) (by decide) (t := (.array (.object cn3))) (t' := (.array (.object cn9))) (by decide) (by decide)))).ext E11)
  obtain ⟨T16, h16, X16, e16, W16, st16⟩ := putF X11 hx hZ hown (host := "") (Or.inl (w15 hw)) Via.refl e11 f15 f14 (Or.inr ⟨(w16 hw), rfl, hnm⟩) (w1 hw) (ty := (.array (.object cn3))) (by decide) rfl rfl (g := (mkF m 23 #[.val (.ref ya1)] [(.ref b11), (.ref ya1)])) rfl rfl (hb hby d1_23)
  have N16 := Fr.snoc X16 N6 gq_ya1
  have Fw16 : Fld Z h16 ya1 cn0 "layouts" cn6 (.ref b11) := (f15).same W16
  have K17 : Keep h0 _ [ya1] := K13.wr W16 (Or.inl (by simp))
  have O17 := O13.wr W16 gq_ya1
  refine Gets.of st16 ?_
  show Gets p e below _ (T16.setTop (mkF m 26 #[.val (.ref ya1)] []))
  refine Gets.of (fun t k => XS.aloadN X16.here hx rfl (hb hby d1_26) rfl rfl  k) ?_
  obtain ⟨T18, h18, X18, e18, E18, A18, D18, -, st18⟩ := newO X16 hx hZ hown (w17 hw) (w18 hw) (w19 hw) e16 (g := (mkF m 27 #[.val (.ref ya1)] [(.ref ya1)])) rfl (hb hby d1_27) (by decide) (by decide)
  obtain ⟨b18, g18⟩ : ∃ z, z = h16.size := ⟨_, rfl⟩
  rw [← g18] at A18 D18 st18
  have up19 := (Nat.le_of_eq W16.size.symm)
  have sz_b18 : h0.size ≤ b18 := Nat.le_trans K17.1 (Nat.le_of_eq g18.symm)
  have g_b18 : n0 ≤ b18 := Nat.le_trans Z0 sz_b18
  have K20 := K17.ext E18
  have O20 := O17.ext E18
  have F18_32 : Fld Z h18 b18 "java/util/HashMap" "loadFactor" "F" (.float (0 : UInt32)) := D18 (Or.inr (w32 hw)) (ty := .float) (by decide)
  refine Gets.of st18 ?_
  show Gets p e below _ (T18.setTop (mkF m 30 #[.val (.ref ya1)] [(.ref b18), (.ref ya1)]))
  refine Gets.of (fun t k => XS.dup X18.here hx rfl (hb hby d1_30) rfl rfl k) ?_
  obtain ⟨_, _, ⟨T21, L21, k21, n21⟩, -, X21, ⟨Lc21, hQ21, l21, y21, z21⟩, st21⟩ := X18.specialBack hx (y := (⟨"java/util/HashMap", "<init>", "()V"⟩ : MethodName)) rfl hown (mvT hZ (w20 hw)) (mvT hZ (w21 hw)) (mvT hZ (w22 hw)) (by decide) (backOf (W := 2) (r2_init l Z a0 hw [] b18 (0 : UInt32) h18 n0 O20 A18 F18_32 g_b18) hZ (w22 hw) (w19 hw) (by decide) (by decide)) (g := (mkF m 31 #[.val (.ref ya1)] [(.ref b18), (.ref b18), (.ref ya1)])) rfl (by rw [hml]; rfl) (Steps.refl _) (a := b18) (argsL := []) (rest := [(.ref b18), (.ref ya1)]) (lenOf pd__V rfl) rfl (by show 2 * 0 + _ ≤ _; exact Nat.le_of_eq rfl) (hb hby d1_31) (fun _ _ => ⟨rfl, e18, (by decide : 3 + 0 ≤ _), (by decide : 266 + 0 ≤ _)⟩)
  dsimp only [Pt.U, Pt.locs, Pt.cells, Pt.slots] at X21 l21 y21 z21 st21 hQ21
  subst l21 y21 z21
  obtain ⟨Nq21, Kq21, hR21⟩ := hQ21
  have N21 := Fr.app N16 Nq21
  have K22 : Keep h0 _ [ya1] := K20.trans Kq21 (allS (Or.inr sz_b18) all0)
  have O22 := O20.keep Kq21 (allS g_b18 all0)
  obtain ⟨rfl, bf21_0⟩ := hR21
  refine Gets.tr st21 ?_
  show Gets p e below _ (T21.setTop (mkF m 34 #[.val (.ref ya1)] [(.ref b18), (.ref ya1)]))
  have f23 : Exa Z T21.heap ya1 cn0 := (((f14.wr W16).ext E18).keep Kq21)
  have f24 : Fld Z T21.heap ya1 cn0 "itemLayouts" "Ljava/util/Map;" .null := ((((((F3.ext E2).other W6 (Or.inr (slot_ne (Or.inr (w34 hw)) (Or.inr (w12 hw)) (by decide) (t := (.object "java/util/Map")) (t' := (.array (.object cn9))) (by decide) (by decide)))).ext E11).other W16 (Or.inr (slot_ne (Or.inr (w34 hw)) (Or.inr (w16 hw)) (by decide) (t := (.object "java/util/Map")) (t' := (.array (.object cn3))) (by decide) (by decide)))).ext E18).keep Kq21 (ninS (Nat.ne_of_lt (Nat.lt_of_lt_of_le F0.lt sz_b18)) nin0))
  obtain ⟨T25, h25, X25, e25, W25, st25⟩ := putF X21 hx hZ hown (host := "") (Or.inl (w33 hw)) Via.refl rfl f24 f23 (Or.inr ⟨(w34 hw), rfl, hnm⟩) (w1 hw) (ty := (.object "java/util/Map")) (by decide) rfl rfl (g := (mkF m 34 #[.val (.ref ya1)] [(.ref b18), (.ref ya1)])) rfl rfl (hb hby d1_34)
  have N25 := Fr.snoc X25 N21 gq_ya1
  have Fw25 : Fld Z h25 ya1 cn0 "itemLayouts" "Ljava/util/Map;" (.ref b18) := (f24).same W25
  have K26 : Keep h0 _ [ya1] := K22.wr W25 (Or.inl (by simp))
  have O26 := O22.wr W25 gq_ya1
  refine Gets.of st25 ?_
  show Gets p e below _ (T25.setTop (mkF m 37 #[.val (.ref ya1)] []))
  refine Gets.of (fun t k => XS.aloadN X25.here hx rfl (hb hby d1_37) rfl rfl  k) ?_
  obtain ⟨T27, h27, X27, e27, E27, A27, D27, -, st27⟩ := newO X25 hx hZ hown (w35 hw) (w36 hw) (w37 hw) e25 (g := (mkF m 38 #[.val (.ref ya1)] [(.ref ya1)])) rfl (hb hby d1_38) (by decide) (by decide)
  obtain ⟨b27, g27⟩ : ∃ z, z = h25.size := ⟨_, rfl⟩
  rw [← g27] at A27 D27 st27
  have up28 := (Nat.le_trans Kq21.1 (Nat.le_of_eq W25.size.symm))
  have sz_b27 : h0.size ≤ b27 := Nat.le_trans K26.1 (Nat.le_of_eq g27.symm)
  have g_b27 : n0 ≤ b27 := Nat.le_trans Z0 sz_b27
  have K29 := K26.ext E27
  have O29 := O26.ext E27
  have F27_44 : Fld Z h27 b27 cn1 "size" "I" (.int (0 : Int32)) := D27 (Or.inl (w44 hw)) (ty := .int) (by decide)
  have F27_46 : Fld Z h27 b27 cn1 "modCount" "I" (.int (0 : Int32)) := D27 (Or.inl (w46 hw)) (ty := .int) (by decide)
  have F27_48 : Fld Z h27 b27 cn1 "comparator" "Ljava/util/Comparator;" .null := D27 (Or.inr (w48 hw)) (ty := (.object "java/util/Comparator")) (by decide)
  have F27_96 : Fld Z h27 b27 cn1 "root" "Ljava/util/TreeMap$Entry;" .null := D27 (Or.inl (w96 hw)) (ty := (.object "java/util/TreeMap$Entry")) (by decide)
  refine Gets.of st27 ?_
  show Gets p e below _ (T27.setTop (mkF m 41 #[.val (.ref ya1)] [(.ref b27), (.ref ya1)]))
  refine Gets.of (fun t k => XS.dup X27.here hx rfl (hb hby d1_41) rfl rfl k) ?_
  obtain ⟨_, _, ⟨T30, L30, k30, n30⟩, -, X30, ⟨Lc30, hQ30, l30, y30, z30⟩, st30⟩ := X27.specialBack hx (y := (⟨cn1, "<init>", "()V"⟩ : MethodName)) rfl hown (mvT hZ (w38 hw)) (mvT hZ (w39 hw)) (mvT hZ (w40 hw)) (by decide) (backOf (W := 2) (r4_init l Z a0 hw [] b27 h27 n0 O29 A27 F27_44 F27_46 F27_48 F27_96 g_b27) hZ (w40 hw) (w37 hw) (by decide) (by decide)) (g := (mkF m 42 #[.val (.ref ya1)] [(.ref b27), (.ref b27), (.ref ya1)])) rfl (by rw [hml]; rfl) (Steps.refl _) (a := b27) (argsL := []) (rest := [(.ref b27), (.ref ya1)]) (lenOf pd__V rfl) rfl (by show 2 * 0 + _ ≤ _; exact Nat.le_of_eq rfl) (hb hby d1_42) (fun _ _ => ⟨rfl, e27, (by decide : 4 + 0 ≤ _), (by decide : 275 + 0 ≤ _)⟩)
  dsimp only [Pt.U, Pt.locs, Pt.cells, Pt.slots] at X30 l30 y30 z30 st30 hQ30
  subst l30 y30 z30
  obtain ⟨Nq30, Kq30, hR30⟩ := hQ30
  have N30 := Fr.app N25 Nq30
  have K31 : Keep h0 _ [ya1] := K29.trans Kq30 (allS (Or.inr sz_b27) all0)
  have O31 := O29.keep Kq30 (allS g_b27 all0)
  obtain ⟨rfl, bf30_0, bf30_1, bf30_2, bf30_3⟩ := hR30
  refine Gets.tr st30 ?_
  show Gets p e below _ (T30.setTop (mkF m 45 #[.val (.ref ya1)] [(.ref b27), (.ref ya1)]))
  have f32 : Exa Z T30.heap ya1 cn0 := (((f23.wr W25).ext E27).keep Kq30)
  have f33 : Fld Z T30.heap ya1 cn0 "subElements" "Ljava/util/Map;" .null := (((((((((F4.ext E2).other W6 (Or.inr (slot_ne (Or.inr (w50 hw)) (Or.inr (w12 hw)) (by decide) (t := (.object "java/util/Map")) (t' := (.array (.object cn9))) (by decide) (by decide)))).ext E11).other W16 (Or.inr (slot_ne (Or.inr (w50 hw)) (Or.inr (w16 hw)) (by decide) (t := (.object "java/util/Map")) (t' := (.array (.object cn3))) (by decide) (by decide)))).ext E18).keep Kq21 (ninS (Nat.ne_of_lt (Nat.lt_of_lt_of_le F0.lt sz_b18)) nin0)).other W25 (Or.inr (slot_ne (Or.inr (w50 hw)) (Or.inr (w34 hw)) (by decide) (t := (.object "java/util/Map")) (t' := (.object "java/util/Map")) (by decide) (by decide)))).ext E27).keep Kq30 (ninS (Nat.ne_of_lt (Nat.lt_of_lt_of_le F0.lt sz_b27)) nin0))
  obtain ⟨T34, h34, X34, e34, W34, st34⟩ := putF X30 hx hZ hown (host := "") (Or.inl (w49 hw)) Via.refl rfl f33 f32 (Or.inr ⟨(w50 hw), rfl, hnm⟩) (w1 hw) (ty := (.object "java/util/Map")) (by decide) rfl rfl (g := (mkF m 45 #[.val (.ref ya1)] [(.ref b27), (.ref ya1)])) rfl rfl (hb hby d1_45)
  have N34 := Fr.snoc X34 N30 gq_ya1
  have Fw34 : Fld Z h34 ya1 cn0 "subElements" "Ljava/util/Map;" (.ref b27) := (f33).same W34
  have K35 : Keep h0 _ [ya1] := K31.wr W34 (Or.inl (by simp))
  have O35 := O31.wr W34 gq_ya1
  refine Gets.of st34 ?_
  show Gets p e below _ (T34.setTop (mkF m 48 #[.val (.ref ya1)] []))
  refine Gets.retV X34 hx Bd.returns (hb hby d1_48) ?_ (by decide) (by decide)
  rw [e34]
  have f36 : Fld Z h34 ya1 cn0 "formats" cn10 (.ref b2) := ((((((((Fw6.ext E11).other W16 (Or.inr (slot_ne (Or.inr (w12 hw)) (Or.inr (w16 hw)) (by decide) (t := (.array (.object cn9))) (t' := (.array (.object cn3))) (by decide) (by decide)))).ext E18).keep Kq21 (ninS (Nat.ne_of_lt (Nat.lt_of_lt_of_le F0.lt sz_b18)) nin0)).other W25 (Or.inr (slot_ne (Or.inr (w12 hw)) (Or.inr (w34 hw)) (by decide) (t := (.array (.object cn9))) (t' := (.object "java/util/Map")) (by decide) (by decide)))).ext E27).keep Kq30 (ninS (Nat.ne_of_lt (Nat.lt_of_lt_of_le F0.lt sz_b27)) nin0)).other W34 (Or.inr (slot_ne (Or.inr (w12 hw)) (Or.inr (w50 hw)) (by decide) (t := (.array (.object cn9))) (t' := (.object "java/util/Map")) (by decide) (by decide))))
  have f37 : Fld Z h34 ya1 cn0 "layouts" cn6 (.ref b11) := ((((((Fw16.ext E18).keep Kq21 (ninS (Nat.ne_of_lt (Nat.lt_of_lt_of_le F0.lt sz_b18)) nin0)).other W25 (Or.inr (slot_ne (Or.inr (w16 hw)) (Or.inr (w34 hw)) (by decide) (t := (.array (.object cn3))) (t' := (.object "java/util/Map")) (by decide) (by decide)))).ext E27).keep Kq30 (ninS (Nat.ne_of_lt (Nat.lt_of_lt_of_le F0.lt sz_b27)) nin0)).other W34 (Or.inr (slot_ne (Or.inr (w16 hw)) (Or.inr (w50 hw)) (by decide) (t := (.array (.object cn3))) (t' := (.object "java/util/Map")) (by decide) (by decide))))
  have f38 : Fld Z h34 ya1 cn0 "itemLayouts" "Ljava/util/Map;" (.ref b18) := (((Fw25.ext E27).keep Kq30 (ninS (Nat.ne_of_lt (Nat.lt_of_lt_of_le F0.lt sz_b27)) nin0)).other W34 (Or.inr (slot_ne (Or.inr (w34 hw)) (Or.inr (w50 hw)) (by decide) (t := (.object "java/util/Map")) (t' := (.object "java/util/Map")) (by decide) (by decide))))
  have f39 : Arh Z h34 b2 k2 (.object cn9) (129 : Int32) [] [] .null := ((((((((f9.ext E11).other W16 (Ne.symm (Nat.ne_of_lt (Nat.lt_of_lt_of_le F0.lt sz_b2)))).ext E18).keep Kq21 (ninS (Nat.ne_of_lt (Nat.lt_of_lt_of_le (Nat.lt_of_lt_of_le (Nat.lt_of_lt_of_le (Nat.lt_of_lt_of_le V2.lt up12) E11.1) up19) (Nat.le_of_eq g18.symm))) nin0)).other W25 (Ne.symm (Nat.ne_of_lt (Nat.lt_of_lt_of_le F0.lt sz_b2)))).ext E27).keep Kq30 (ninS (Nat.ne_of_lt (Nat.lt_of_lt_of_le (Nat.lt_of_lt_of_le (Nat.lt_of_lt_of_le (Nat.lt_of_lt_of_le (Nat.lt_of_lt_of_le (Nat.lt_of_lt_of_le V2.lt up12) E11.1) up19) E18.1) up28) (Nat.le_of_eq g27.symm))) nin0)).other W34 (Ne.symm (Nat.ne_of_lt (Nat.lt_of_lt_of_le F0.lt sz_b2))))
  have f40 : Exa Z h34 b2 cn10 := (((((((((Ex2.wr W6).ext E11).wr W16).ext E18).keep Kq21).wr W25).ext E27).keep Kq30).wr W34)
  have f41 : Arh Z h34 b11 k11 (.object cn3) (129 : Int32) [] [] .null := (((((((V11.other W16 (Ne.symm (Nat.ne_of_lt (Nat.lt_of_lt_of_le F0.lt sz_b11)))).ext E18).keep Kq21 (ninS (Nat.ne_of_lt (Nat.lt_of_lt_of_le (Nat.lt_of_lt_of_le V11.lt up19) (Nat.le_of_eq g18.symm))) nin0)).other W25 (Ne.symm (Nat.ne_of_lt (Nat.lt_of_lt_of_le F0.lt sz_b11)))).ext E27).keep Kq30 (ninS (Nat.ne_of_lt (Nat.lt_of_lt_of_le (Nat.lt_of_lt_of_le (Nat.lt_of_lt_of_le (Nat.lt_of_lt_of_le V11.lt up19) E18.1) up28) (Nat.le_of_eq g27.symm))) nin0)).other W34 (Ne.symm (Nat.ne_of_lt (Nat.lt_of_lt_of_le F0.lt sz_b11))))
  have f42 : Exa Z h34 b11 cn6 := (((((((Ex11.wr W16).ext E18).keep Kq21).wr W25).ext E27).keep Kq30).wr W34)
  have f43 : Exa Z h34 b18 "java/util/HashMap" := (((((A18.keep Kq21).wr W25).ext E27).keep Kq30).wr W34)
  have f44 : Fld Z h34 b18 "java/util/HashMap" "loadFactor" "F" (.float (1061158912 : UInt32)) := ((((bf21_0.other W25 (Or.inl (Ne.symm (Nat.ne_of_lt (Nat.lt_of_lt_of_le F0.lt sz_b18))))).ext E27).keep Kq30 (ninS (Nat.ne_of_lt (Nat.lt_of_lt_of_le (Nat.lt_of_lt_of_le A18.lt up28) (Nat.le_of_eq g27.symm))) nin0)).other W34 (Or.inl (Ne.symm (Nat.ne_of_lt (Nat.lt_of_lt_of_le F0.lt sz_b18)))))
  have f45 : Exa Z h34 b27 cn1 := ((A27.keep Kq30).wr W34)
  have f46 : Fld Z h34 b27 cn1 "size" "I" (.int (0 : Int32)) := (bf30_0.other W34 (Or.inl (Ne.symm (Nat.ne_of_lt (Nat.lt_of_lt_of_le F0.lt sz_b27)))))
  have f47 : Fld Z h34 b27 cn1 "modCount" "I" (.int (0 : Int32)) := (bf30_1.other W34 (Or.inl (Ne.symm (Nat.ne_of_lt (Nat.lt_of_lt_of_le F0.lt sz_b27)))))
  have f48 : Fld Z h34 b27 cn1 "comparator" "Ljava/util/Comparator;" .null := (bf30_2.other W34 (Or.inl (Ne.symm (Nat.ne_of_lt (Nat.lt_of_lt_of_le F0.lt sz_b27)))))
  have f49 : Fld Z h34 b27 cn1 "root" "Ljava/util/TreeMap$Entry;" .null := (bf30_3.other W34 (Or.inl (Ne.symm (Nat.ne_of_lt (Nat.lt_of_lt_of_le F0.lt sz_b27)))))
  have f50 : Ovr Z k2 cn9 := O2
  have f51 : Ovr Z k11 cn3 := O11
  exact ⟨N34, K35, ⟨b2, b11, b18, b27, k2, k11, rfl, sz_b2, sz_b11, sz_b18, sz_b27, (Nat.ne_of_lt (Nat.lt_of_lt_of_le (Nat.lt_of_lt_of_le V2.lt up12) (Nat.le_of_eq g11.symm))), (Nat.ne_of_lt (Nat.lt_of_lt_of_le (Nat.lt_of_lt_of_le (Nat.lt_of_lt_of_le (Nat.lt_of_lt_of_le V2.lt up12) E11.1) up19) (Nat.le_of_eq g18.symm))), (Nat.ne_of_lt (Nat.lt_of_lt_of_le (Nat.lt_of_lt_of_le (Nat.lt_of_lt_of_le (Nat.lt_of_lt_of_le (Nat.lt_of_lt_of_le (Nat.lt_of_lt_of_le V2.lt up12) E11.1) up19) E18.1) up28) (Nat.le_of_eq g27.symm))), (Nat.ne_of_lt (Nat.lt_of_lt_of_le (Nat.lt_of_lt_of_le V11.lt up19) (Nat.le_of_eq g18.symm))), (Nat.ne_of_lt (Nat.lt_of_lt_of_le (Nat.lt_of_lt_of_le (Nat.lt_of_lt_of_le (Nat.lt_of_lt_of_le V11.lt up19) E18.1) up28) (Nat.le_of_eq g27.symm))), (Nat.ne_of_lt (Nat.lt_of_lt_of_le (Nat.lt_of_lt_of_le A18.lt up28) (Nat.le_of_eq g27.symm))), f36, f37, f38, Fw34, f39, f40, f41, f42, f43, f44, f45, f46, f47, f48, f49, f50, f51⟩⟩
theorem w5 {Z : State} {a0 : Array Value} (hw : ∀ d ∈ tables_1, d.before a0 Z = true) : (Jvm.Cond.code ({ cls := cn0, name := "<init>", desc := "()V" } : Jvm.MethodName) prog_104_method_1_code (1 : Nat) (Option.none : Option Jvm.ClassFile.FieldType)).before a0 Z = true := hw _ (List.mem_of_getElem? (i := 5) rfl)
theorem w4 {Z : State} {a0 : Array Value} (hw : ∀ d ∈ tables_1, d.before a0 Z = true) : (Jvm.Cond.instanceMethod ({ cls := cn0, name := "<init>", desc := "()V" } : Jvm.MethodName)).before a0 Z = true := hw _ (List.mem_of_getElem? (i := 4) rfl)
theorem w51 {Z : State} {a0 : Array Value} (hw : ∀ d ∈ tables_1, d.before a0 Z = true) : (Jvm.Cond.constant cn5 (10 : Nat) (2147483647 : Int32)).before a0 Z = true := hw _ (List.mem_of_getElem? (i := 51) rfl)
theorem w52 {Z : State} {a0 : Array Value} (hw : ∀ d ∈ tables_1, d.before a0 Z = true) : (Jvm.Cond.fieldLink cn5 (11 : Nat) cn12 "LAYOUT" "Lcom/example/cardwire/cardwire/core/TagLengthValue;").before a0 Z = true := hw _ (List.mem_of_getElem? (i := 52) rfl)
theorem w55 {Z : State} {a0 : Array Value} (hw : ∀ d ∈ tables_1, d.before a0 Z = true) : (Jvm.Cond.fieldLink cn5 (17 : Nat) cn13 "LAYOUT" "Lcom/example/cardwire/cardwire/core/KeyValuePairs;").before a0 Z = true := hw _ (List.mem_of_getElem? (i := 55) rfl)
theorem w58 {Z : State} {a0 : Array Value} (hw : ∀ d ∈ tables_1, d.before a0 Z = true) : (Jvm.Cond.methodLink cn5 (22 : Nat) ({ cls := cn0, name := "layout", desc := cn2 } : Jvm.MethodName)).before a0 Z = true := hw _ (List.mem_of_getElem? (i := 58) rfl)
def Q_r5_layout (Z : State) (ya1 : Addr) (yi2 : Int32) (ya4 : Addr) (yk8 : ClassId) (h0 : Heap) (n0 : Nat) (v : Option Value) (h : Heap) (L : List Loc) : Prop := Fr n0 L ∧ h = h0 ∧ ((v = some .null))
set_option maxRecDepth 65536 in
set_option maxHeartbeats 40000000 in
theorem r5_layout (l : Launch) (Z : State) (a0 : Array Value) (hw : ∀ d ∈ tables_1, d.before a0 Z = true) (ws : List Jvm.Cond) (ya1 : Addr) (yi2 : Int32) (ya4 : Addr) (yk8 : ClassId) (h0 : Heap) (n0 : Nat) (O0 : Old Z n0 h0) (F0 : Fld Z h0 ya1 cn0 "layouts" cn6 (.ref ya4)) (F1 : Arh Z h0 ya4 yk8 (.object cn3) (129 : Int32) [] [] .null) :
    MetFree l (⟨cn0, "layout", cn2⟩ : MethodName) (head1 (Jvm.Cond.code (⟨cn0, "layout", cn2⟩ : MethodName) prog_104_method_9_code 2 (some (.object cn3)) :: ws) ({ frames := 0, cells := 0, slots := 0, locals := 0 } : Room)) (fun a U => a = #[(.ref ya1), (.int yi2)] ∧ Z.Warmed39 U.vm ∧ U.heap = h0) (fun _ _ _ _ _ => True) (fun _ U o U' => ∃ v L, o = .returned v ∧ Q_r5_layout Z ya1 yi2 ya4 yk8 h0 n0 v U'.heap L ∧ FrameEnd U o U' L ({ frames := 0, cells := 0, slots := 0, locals := 0 } : Room).cells ({ frames := 0, cells := 0, slots := 0, locals := 0 } : Room).slots) := by
  refine MetFree.of_bodySF (plainFor_of_name pn_com_example_cardwire_cardwire_core_Elements) hisR ?_
  intro p e s m args below meth c s₁ Bd hml0 hP hK
  obtain ⟨rfl, hZ, hh⟩ := hP
  have hx := Bd.exec
  have hby := Bd.bytes
  have hlk := Bd.notSynchronized
  have hml : c.maxLocals = 2 := hml0
  have hown : s.vm.findClass cn0 = some m.cls := findClass_of_methodNamed Bd.named
  have hnm := (name_of_methodNamed Bd.named Bd.method).1
  have X0 : Stand p l e ({ frames := 0, cells := 0, slots := 0, locals := 0 } : Room) s m #[(.ref ya1), (.int yi2)] below meth c s₁ [] 0 0 := Stand.of_body Bd
  have e0 : s₁.heap = h0 := by rw [← hh, Bd.state]; rfl
  have N0 := Fr.nil n0
  have K0 := Keep.refl h0 []
  have Z0 : n0 ≤ h0.size := O0.1 ▸ O0.2.1
  have hef : entryFrame m #[(.ref ya1), (.int yi2)] 2 = mkF m 0 #[.val (.ref ya1), .val (.int yi2)] [] := by first | (simp [entryFrame, mkF, argsToLocals, Value.category]; done) | rfl
  rw [hef]
  refine Gets.out (Q := Q_r5_layout Z ya1 yi2 ya4 yk8 h0 n0) ?_
  show Gets p e below _ (s₁.setTop (mkF m 0 #[.val (.ref ya1), .val (.int yi2)] []))
  refine Gets.of (fun t k => XS.iloadN X0.here hx rfl (hb hby d6_0) rfl  k) ?_
  by_cases hc1 : yi2 < (0 : Int32)
  · skip
    refine Gets.of (fun t k => XS.ifYes X0.here hx rfl (pc0 := 1) (pc' := 22) rfl (hb hby d6_1) rfl ((if0 _ _).trans (tlt hc1).1) (by decide) (by decide) k) ?_
    show Gets p e below _ (s₁.setTop (mkF m 22 #[.val (.ref ya1), .val (.int yi2)] []))
    refine Gets.of (fun t k => XS.aconstNull X0.here hx rfl (hb hby d6_22) k) ?_
    refine Gets.retA X0 hx Bd.returns rfl rfl (hb hby d6_23) ?_ (by decide) (by decide)
    rw [e0]
    exact ⟨N0, rfl, rfl⟩
  · skip
    refine Gets.of (fun t k => XS.ifNo X0.here hx rfl (hb hby d6_1) rfl ((if0 _ _).trans (flt hc1).1) k) ?_
    show Gets p e below _ (s₁.setTop (mkF m 4 #[.val (.ref ya1), .val (.int yi2)] []))
    refine Gets.of (fun t k => XS.iloadN X0.here hx rfl (hb hby d6_4) rfl  k) ?_
    refine Gets.of (fun t k => XS.aloadN X0.here hx rfl (hb hby d6_5) rfl rfl  k) ?_
    obtain ⟨T2, X2, e2, st2⟩ := getF X0 hx hZ hown (host := "") (Or.inl (w15 hw)) Via.refl e0 F0 (g := (mkF m 6 #[.val (.ref ya1), .val (.int yi2)] [(.ref ya1), (.int yi2)])) rfl rfl (hb hby d6_6)
    refine Gets.of st2 ?_
    show Gets p e below _ (T2.setTop (mkF m 9 #[.val (.ref ya1), .val (.int yi2)] [(.ref ya4), (.int yi2)]))
    obtain ⟨cl3, Ar3, -, S3, N_3, -, -⟩ := id (F1)
    refine Gets.of (X2.arraylength hx (by rw [e2]; exact Ar3.1) (State.isArrayOf_alike hZ.alike Ar3.2.1) (g := (mkF m 9 #[.val (.ref ya1), .val (.int yi2)] [(.ref ya4), (.int yi2)])) rfl rfl (hb hby d6_9)) ?_
    rw [len_of S3 N_3]
    show Gets p e below _ (T2.setTop (mkF m 10 #[.val (.ref ya1), .val (.int yi2)] [(.int (129 : Int32)), (.int yi2)]))
    by_cases hc4 : yi2 < (129 : Int32)
    · skip
      refine Gets.of (fun t k => XS.icmpNo X2.here hx rfl (hb hby d6_10) rfl (tlt hc4).2.1 k) ?_
      show Gets p e below _ (T2.setTop (mkF m 13 #[.val (.ref ya1), .val (.int yi2)] []))
      refine Gets.of (fun t k => XS.aloadN X2.here hx rfl (hb hby d6_13) rfl rfl  k) ?_
      obtain ⟨T5, X5, e5, st5⟩ := getF X2 hx hZ hown (host := "") (Or.inl (w15 hw)) Via.refl e2 F0 (g := (mkF m 14 #[.val (.ref ya1), .val (.int yi2)] [(.ref ya1)])) rfl rfl (hb hby d6_14)
      refine Gets.of st5 ?_
      show Gets p e below _ (T5.setTop (mkF m 17 #[.val (.ref ya1), .val (.int yi2)] [(.ref ya4)]))
      refine Gets.of (fun t k => XS.iloadN X5.here hx rfl (hb hby d6_17) rfl  k) ?_
      obtain ⟨cl6, Ar6, q6, S6, N_6, H6, G6⟩ := id (F1)
      have hin6 : ¬ (yi2 < 0 ∨ cl6.slots.size ≤ (yi2).toNatClampNeg) := inb_of S6 ⟨hc1, hc4⟩
      refine Gets.of (fun t k => X5.aaload hx (j := yi2) (v := .null) (by rw [e5]; exact Ar6.1) (State.isArrayOf_alike hZ.alike Ar6.2.1) rfl Ar6.2.2 hin6 (atH H6 hin6 (getH_all rfl _)) (g := (mkF m 18 #[.val (.ref ya1), .val (.int yi2)] [(.int yi2), (.ref ya4)])) rfl rfl (hb hby d6_18) t k) ?_
      show Gets p e below _ (T5.setTop (mkF m 19 #[.val (.ref ya1), .val (.int yi2)] [.null]))
      refine Gets.of (fun t k => XS.goto X5.here hx rfl (pc0 := 19) (pc' := 23) rfl (hb hby d6_19) (by decide) (by decide) k) ?_
      show Gets p e below _ (T5.setTop (mkF m 23 #[.val (.ref ya1), .val (.int yi2)] [.null]))
      refine Gets.retA X5 hx Bd.returns rfl rfl (hb hby d6_23) ?_ (by decide) (by decide)
      rw [e5]
      exact ⟨N0, rfl, rfl⟩
    · skip
      refine Gets.of (fun t k => XS.icmpYes X2.here hx rfl (pc0 := 10) (pc' := 22) rfl (hb hby d6_10) rfl (flt hc4).2.1 (by decide) (by decide) k) ?_
      show Gets p e below _ (T2.setTop (mkF m 22 #[.val (.ref ya1), .val (.int yi2)] []))
      refine Gets.of (fun t k => XS.aconstNull X2.here hx rfl (hb hby d6_22) k) ?_
      refine Gets.retA X2 hx Bd.returns rfl rfl (hb hby d6_23) ?_ (by decide) (by decide)
      rw [e2]
      exact ⟨N0, rfl, rfl⟩
theorem w62 {Z : State} {a0 : Array Value} (hw : ∀ d ∈ tables_1, d.before a0 Z = true) : (Jvm.Cond.code ({ cls := cn0, name := "layout", desc := cn2 } : Jvm.MethodName) prog_104_method_9_code (2 : Nat) (Option.some (Jvm.ClassFile.FieldType.object cn3))).before a0 Z = true := hw _ (List.mem_of_getElem? (i := 62) rfl)
theorem pd__I_Lcom_example_cardwire_cardwire_core_Layout_ : parseMethodDescriptor "(I)Lcom/example/cardwire/cardwire/core/Layout;" = some ⟨[.int], some (.object "com/example/cardwire/cardwire/core/Layout")⟩ := by decide +kernel
theorem w61 {Z : State} {a0 : Array Value} (hw : ∀ d ∈ tables_1, d.before a0 Z = true) : (Jvm.Cond.selects cn0 ({ cls := cn0, name := "layout", desc := cn2 } : Jvm.MethodName) ({ cls := cn0, name := "layout", desc := cn2 } : Jvm.MethodName)).before a0 Z = true := hw _ (List.mem_of_getElem? (i := 61) rfl)
theorem w59 {Z : State} {a0 : Array Value} (hw : ∀ d ∈ tables_1, d.before a0 Z = true) : (Jvm.Cond.declares ({ cls := cn0, name := "layout", desc := cn2 } : Jvm.MethodName)).before a0 Z = true := hw _ (List.mem_of_getElem? (i := 59) rfl)
theorem w60 {Z : State} {a0 : Array Value} (hw : ∀ d ∈ tables_1, d.before a0 Z = true) : (Jvm.Cond.instanceMethod ({ cls := cn0, name := "layout", desc := cn2 } : Jvm.MethodName)).before a0 Z = true := hw _ (List.mem_of_getElem? (i := 60) rfl)
theorem w63 {Z : State} {a0 : Array Value} (hw : ∀ d ∈ tables_1, d.before a0 Z = true) : (Jvm.Cond.methodLink cn5 (26 : Nat) ({ cls := cn0, name := "layOut", desc := cn7 } : Jvm.MethodName)).before a0 Z = true := hw _ (List.mem_of_getElem? (i := 63) rfl)
theorem d7_0 : decode prog_104_method_4_code 0 = .ok (.aload_n 0, 1) := by decide +kernel
theorem d7_1 : decode prog_104_method_4_code 1 = .ok (.getfield 19, 3) := by decide +kernel
theorem d7_4 : decode prog_104_method_4_code 4 = .ok (.iload_n 1, 1) := by decide +kernel
theorem d7_5 : decode prog_104_method_4_code 5 = .ok (.aaload, 1) := by decide +kernel
theorem d7_6 : decode prog_104_method_4_code 6 = .ok (.ifnull 20, 3) := by decide +kernel
theorem d7_26 : decode prog_104_method_4_code 26 = .ok (.aload_n 0, 1) := by decide +kernel
theorem d7_27 : decode prog_104_method_4_code 27 = .ok (.getfield 33, 3) := by decide +kernel
theorem d7_30 : decode prog_104_method_4_code 30 = .ok (.iload_n 1, 1) := by decide +kernel
theorem d7_31 : decode prog_104_method_4_code 31 = .ok (.invokestatic 61, 3) := by decide +kernel
theorem w68 {Z : State} {a0 : Array Value} (hw : ∀ d ∈ tables_1, d.before a0 Z = true) : (Jvm.Cond.methodLink cn0 (61 : Nat) ({ cls := cn4, name := "valueOf", desc := "(I)Ljava/lang/Integer;" } : Jvm.MethodName)).before a0 Z = true := hw _ (List.mem_of_getElem? (i := 68) rfl)
theorem w71 {Z : State} {a0 : Array Value} (hw : ∀ d ∈ tables_1, d.before a0 Z = true) : (Jvm.Cond.code ({ cls := cn4, name := "valueOf", desc := "(I)Ljava/lang/Integer;" } : Jvm.MethodName) jdk_33_method_22_code (1 : Nat) (Option.some (Jvm.ClassFile.FieldType.object cn4))).before a0 Z = true := hw _ (List.mem_of_getElem? (i := 71) rfl)
theorem pd__I_Ljava_lang_Integer_ : parseMethodDescriptor "(I)Ljava/lang/Integer;" = some ⟨[.int], some (.object "java/lang/Integer")⟩ := by decide +kernel
theorem w69 {Z : State} {a0 : Array Value} (hw : ∀ d ∈ tables_1, d.before a0 Z = true) : (Jvm.Cond.static ({ cls := cn4, name := "valueOf", desc := "(I)Ljava/lang/Integer;" } : Jvm.MethodName)).before a0 Z = true := hw _ (List.mem_of_getElem? (i := 69) rfl)
theorem d7_34 : decode prog_104_method_4_code 34 = .ok (.invokeinterface 87 2, 5) := by decide +kernel
theorem w75 {Z : State} {a0 : Array Value} (hw : ∀ d ∈ tables_1, d.before a0 Z = true) : (Jvm.Cond.methodLink cn0 (87 : Nat) ({ cls := "java/util/Map", name := "containsKey", desc := "(Ljava/lang/Object;)Z" } : Jvm.MethodName)).before a0 Z = true := hw _ (List.mem_of_getElem? (i := 75) rfl)
theorem d9_0 : decode jdk_2729_method_6_code 0 = .ok (.aload_n 0, 1) := by decide +kernel
theorem d9_1 : decode jdk_2729_method_6_code 1 = .ok (.aload_n 1, 1) := by decide +kernel
theorem d9_2 : decode jdk_2729_method_6_code 2 = .ok (.invokevirtual 50, 3) := by decide +kernel
theorem w84 {Z : State} {a0 : Array Value} (hw : ∀ d ∈ tables_1, d.before a0 Z = true) : (Jvm.Cond.methodLink cn1 (50 : Nat) ({ cls := cn1, name := "getEntry", desc := cn11 } : Jvm.MethodName)).before a0 Z = true := hw _ (List.mem_of_getElem? (i := 84) rfl)
theorem d10_0 : decode jdk_2729_method_15_code 0 = .ok (.aload_n 0, 1) := by decide +kernel
theorem d10_1 : decode jdk_2729_method_15_code 1 = .ok (.getfield 16, 3) := by decide +kernel
theorem d10_4 : decode jdk_2729_method_15_code 4 = .ok (.ifnull 9, 3) := by decide +kernel
theorem d10_13 : decode jdk_2729_method_15_code 13 = .ok (.aload_n 1, 1) := by decide +kernel
theorem d10_14 : decode jdk_2729_method_15_code 14 = .ok (.invokestatic 95, 3) := by decide +kernel
theorem w89 {Z : State} {a0 : Array Value} (hw : ∀ d ∈ tables_1, d.before a0 Z = true) : (Jvm.Cond.methodLink cn1 (95 : Nat) ({ cls := "java/util/Objects", name := "requireNonNull", desc := "(Ljava/lang/Object;)Ljava/lang/Object;" } : Jvm.MethodName)).before a0 Z = true := hw _ (List.mem_of_getElem? (i := 89) rfl)
theorem d11_0 : decode jdk_31_method_10_code 0 = .ok (.aload_n 0, 1) := by decide +kernel
theorem d11_1 : decode jdk_31_method_10_code 1 = .ok (.ifnonnull 11, 3) := by decide +kernel
theorem d11_12 : decode jdk_31_method_10_code 12 = .ok (.aload_n 0, 1) := by decide +kernel
theorem d11_13 : decode jdk_31_method_10_code 13 = .ok (.areturn, 1) := by decide +kernel
def Q_r9_requireNonNull (Z : State) (ya1 : Addr) (h0 : Heap) (n0 : Nat) (v : Option Value) (h : Heap) (L : List Loc) : Prop := Fr n0 L ∧ h = h0 ∧ ((v = some (.ref ya1)))
theorem pn_java_util_Objects : plainName "java/util/Objects" = true := by first | (simp [plainName, overriddenIn]; done) | decide +kernel
set_option maxRecDepth 65536 in
set_option maxHeartbeats 40000000 in
theorem r9_requireNonNull (l : Launch) (Z : State) (a0 : Array Value) (hw : ∀ d ∈ tables_1, d.before a0 Z = true) (ws : List Jvm.Cond) (ya1 : Addr) (h0 : Heap) (n0 : Nat) (O0 : Old Z n0 h0) :
    MetFree l (⟨"java/util/Objects", "requireNonNull", "(Ljava/lang/Object;)Ljava/lang/Object;"⟩ : MethodName) (head1 (Jvm.Cond.code (⟨"java/util/Objects", "requireNonNull", "(Ljava/lang/Object;)Ljava/lang/Object;"⟩ : MethodName) jdk_31_method_10_code 1 (some (.object "java/lang/Object")) :: ws) ({ frames := 0, cells := 0, slots := 0, locals := 0 } : Room)) (fun a U => a = #[(.ref ya1)] ∧ Z.Warmed39 U.vm ∧ U.heap = h0) (fun _ _ _ _ _ => True) (fun _ U o U' => ∃ v L, o = .returned v ∧ Q_r9_requireNonNull Z ya1 h0 n0 v U'.heap L ∧ FrameEnd U o U' L ({ frames := 0, cells := 0, slots := 0, locals := 0 } : Room).cells ({ frames := 0, cells := 0, slots := 0, locals := 0 } : Room).slots) := by
  refine MetFree.of_bodySF (plainFor_of_name pn_java_util_Objects) hisR ?_
  intro p e s m args below meth c s₁ Bd hml0 hP hK
  obtain ⟨rfl, hZ, hh⟩ := hP
  have hx := Bd.exec
  have hby := Bd.bytes
  have hlk := Bd.notSynchronized
  have hml : c.maxLocals = 1 := hml0
  have hown : s.vm.findClass "java/util/Objects" = some m.cls := findClass_of_methodNamed Bd.named
  have hnm := (name_of_methodNamed Bd.named Bd.method).1
  have X0 : Stand p l e ({ frames := 0, cells := 0, slots := 0, locals := 0 } : Room) s m #[(.ref ya1)] below meth c s₁ [] 0 0 := Stand.of_body Bd
  have e0 : s₁.heap = h0 := by rw [← hh, Bd.state]; rfl
  have N0 := Fr.nil n0
  have K0 := Keep.refl h0 []
  have Z0 : n0 ≤ h0.size := O0.1 ▸ O0.2.1
  have hef : entryFrame m #[(.ref ya1)] 1 = mkF m 0 #[.val (.ref ya1)] [] := by first | (simp [entryFrame, mkF, argsToLocals, Value.category]; done) | rfl
  rw [hef]
  refine Gets.out (Q := Q_r9_requireNonNull Z ya1 h0 n0) ?_
  show Gets p e below _ (s₁.setTop (mkF m 0 #[.val (.ref ya1)] []))
  refine Gets.of (fun t k => XS.aloadN X0.here hx rfl (hb hby d11_0) rfl rfl  k) ?_
  refine Gets.of (fun t k => XS.ifnonnullYes X0.here hx rfl (pc0 := 1) (pc' := 12) rfl (hb hby d11_1) rfl (by decide) (by decide) k) ?_
  show Gets p e below _ (s₁.setTop (mkF m 12 #[.val (.ref ya1)] []))
  refine Gets.of (fun t k => XS.aloadN X0.here hx rfl (hb hby d11_12) rfl rfl  k) ?_
  refine Gets.retA X0 hx Bd.returns rfl rfl (hb hby d11_13) ?_ (by decide) (by decide)
  rw [e0]
  exact ⟨N0, rfl, rfl⟩
theorem w92 {Z : State} {a0 : Array Value} (hw : ∀ d ∈ tables_1, d.before a0 Z = true) : (Jvm.Cond.code ({ cls := "java/util/Objects", name := "requireNonNull", desc := "(Ljava/lang/Object;)Ljava/lang/Object;" } : Jvm.MethodName) jdk_31_method_10_code (1 : Nat) (Option.some (Jvm.ClassFile.FieldType.object "java/lang/Object"))).before a0 Z = true := hw _ (List.mem_of_getElem? (i := 92) rfl)
theorem w91 {Z : State} {a0 : Array Value} (hw : ∀ d ∈ tables_1, d.before a0 Z = true) : (Jvm.Cond.initialized "java/util/Objects").before a0 Z = true := hw _ (List.mem_of_getElem? (i := 91) rfl)
theorem pd__Ljava_lang_Object_Ljava_lang_Object_ : parseMethodDescriptor "(Ljava/lang/Object;)Ljava/lang/Object;" = some ⟨[(.object "java/lang/Object")], some (.object "java/lang/Object")⟩ := by decide +kernel
theorem w90 {Z : State} {a0 : Array Value} (hw : ∀ d ∈ tables_1, d.before a0 Z = true) : (Jvm.Cond.static ({ cls := "java/util/Objects", name := "requireNonNull", desc := "(Ljava/lang/Object;)Ljava/lang/Object;" } : Jvm.MethodName)).before a0 Z = true := hw _ (List.mem_of_getElem? (i := 90) rfl)
theorem d10_17 : decode jdk_2729_method_15_code 17 = .ok (.pop, 1) := by decide +kernel
theorem d10_18 : decode jdk_2729_method_15_code 18 = .ok (.aload_n 1, 1) := by decide +kernel
theorem d10_19 : decode jdk_2729_method_15_code 19 = .ok (.checkcast 99, 3) := by decide +kernel
theorem w93 {Z : State} {a0 : Array Value} (hw : ∀ d ∈ tables_1, d.before a0 Z = true) : (Jvm.Cond.classLink cn1 (99 : Nat) "java/lang/Comparable").before a0 Z = true := hw _ (List.mem_of_getElem? (i := 93) rfl)
theorem w94 {Z : State} {a0 : Array Value} (hw : ∀ d ∈ tables_1, d.before a0 Z = true) : (Jvm.Cond.castable cn4 "java/lang/Comparable").before a0 Z = true := hw _ (List.mem_of_getElem? (i := 94) rfl)
theorem d10_22 : decode jdk_2729_method_15_code 22 = .ok (.astore_n 2, 1) := by decide +kernel
theorem d10_23 : decode jdk_2729_method_15_code 23 = .ok (.aload_n 0, 1) := by decide +kernel
theorem d10_24 : decode jdk_2729_method_15_code 24 = .ok (.getfield 101, 3) := by decide +kernel
theorem w95 {Z : State} {a0 : Array Value} (hw : ∀ d ∈ tables_1, d.before a0 Z = true) : (Jvm.Cond.fieldLink cn1 (101 : Nat) cn1 "root" "Ljava/util/TreeMap$Entry;").before a0 Z = true := hw _ (List.mem_of_getElem? (i := 95) rfl)
theorem d10_27 : decode jdk_2729_method_15_code 27 = .ok (.astore_n 3, 1) := by decide +kernel
theorem d10_28 : decode jdk_2729_method_15_code 28 = .ok (.aload_n 3, 1) := by decide +kernel
theorem d10_29 : decode jdk_2729_method_15_code 29 = .ok (.ifnull 46, 3) := by decide +kernel
theorem d10_75 : decode jdk_2729_method_15_code 75 = .ok (.aconst_null, 1) := by decide +kernel
theorem d10_76 : decode jdk_2729_method_15_code 76 = .ok (.areturn, 1) := by decide +kernel
def Q_r8_getEntry (Z : State) (ya1 : Addr) (ya2 : Addr) (h0 : Heap) (n0 : Nat) (v : Option Value) (h : Heap) (L : List Loc) : Prop := Fr n0 L ∧ h = h0 ∧ ((v = some .null))
set_option maxRecDepth 65536 in
set_option maxHeartbeats 40000000 in
theorem r8_getEntry (l : Launch) (Z : State) (a0 : Array Value) (hw : ∀ d ∈ tables_1, d.before a0 Z = true) (ws : List Jvm.Cond) (ya1 : Addr) (ya2 : Addr) (h0 : Heap) (n0 : Nat) (O0 : Old Z n0 h0) (F0 : Fld Z h0 ya1 cn1 "comparator" "Ljava/util/Comparator;" .null) (F1 : Exa Z h0 ya2 cn4) (F2 : Fld Z h0 ya1 cn1 "root" "Ljava/util/TreeMap$Entry;" .null) :
    MetFree l (⟨cn1, "getEntry", cn11⟩ : MethodName) (head1 (Jvm.Cond.code (⟨cn1, "getEntry", cn11⟩ : MethodName) jdk_2729_method_15_code 5 (some (.object "java/util/TreeMap$Entry")) :: ws) ({ frames := 1, cells := 0, slots := 0, locals := 12 } : Room)) (fun a U => a = #[(.ref ya1), (.ref ya2)] ∧ Z.Warmed39 U.vm ∧ U.heap = h0) (fun _ _ _ _ _ => True) (fun _ U o U' => ∃ v L, o = .returned v ∧ Q_r8_getEntry Z ya1 ya2 h0 n0 v U'.heap L ∧ FrameEnd U o U' L ({ frames := 1, cells := 0, slots := 0, locals := 12 } : Room).cells ({ frames := 1, cells := 0, slots := 0, locals := 12 } : Room).slots) := by
  refine MetFree.of_bodySF (plainFor_of_name pn_java_util_TreeMap) hisR ?_
  intro p e s m args below meth c s₁ Bd hml0 hP hK
  obtain ⟨rfl, hZ, hh⟩ := hP
  have hx := Bd.exec
  have hby := Bd.bytes
  have hlk := Bd.notSynchronized
  have hml : c.maxLocals = 5 := hml0
  have hown : s.vm.findClass cn1 = some m.cls := findClass_of_methodNamed Bd.named
  have hnm := (name_of_methodNamed Bd.named Bd.method).1
  have X0 : Stand p l e ({ frames := 1, cells := 0, slots := 0, locals := 12 } : Room) s m #[(.ref ya1), (.ref ya2)] below meth c s₁ [] 0 0 := Stand.of_body Bd
  have e0 : s₁.heap = h0 := by rw [← hh, Bd.state]; rfl
  have N0 := Fr.nil n0
  have K0 := Keep.refl h0 []
  have Z0 : n0 ≤ h0.size := O0.1 ▸ O0.2.1
  have hef : entryFrame m #[(.ref ya1), (.ref ya2)] 5 = mkF m 0 #[.val (.ref ya1), .val (.ref ya2), .unset, .unset, .unset] [] := by first | (simp [entryFrame, mkF, argsToLocals, Value.category]; done) | rfl
  rw [hef]
  refine Gets.out (Q := Q_r8_getEntry Z ya1 ya2 h0 n0) ?_
  show Gets p e below _ (s₁.setTop (mkF m 0 #[.val (.ref ya1), .val (.ref ya2), .unset, .unset, .unset] []))
  refine Gets.of (fun t k => XS.aloadN X0.here hx rfl (hb hby d10_0) rfl rfl  k) ?_
  obtain ⟨T1, X1, e1, st1⟩ := getF X0 hx hZ hown (host := "") (Or.inl (w47 hw)) Via.refl e0 F0 (g := (mkF m 1 #[.val (.ref ya1), .val (.ref ya2), .unset, .unset, .unset] [(.ref ya1)])) rfl rfl (hb hby d10_1)
  refine Gets.of st1 ?_
  show Gets p e below _ (T1.setTop (mkF m 4 #[.val (.ref ya1), .val (.ref ya2), .unset, .unset, .unset] [.null]))
  refine Gets.of (fun t k => XS.ifnullYes X1.here hx rfl (pc0 := 4) (pc' := 13) rfl (hb hby d10_4) rfl (by decide) (by decide) k) ?_
  show Gets p e below _ (T1.setTop (mkF m 13 #[.val (.ref ya1), .val (.ref ya2), .unset, .unset, .unset] []))
  refine Gets.of (fun t k => XS.aloadN X1.here hx rfl (hb hby d10_13) rfl rfl  k) ?_
  obtain ⟨_, _, ⟨T2, L2, k2, n2⟩, -, X2, ⟨Lc2, hQ2, l2, y2, z2⟩, st2⟩ := Jvm.LawKit.callS X1 hx (y := (⟨"java/util/Objects", "requireNonNull", "(Ljava/lang/Object;)Ljava/lang/Object;"⟩ : MethodName)) hown (mvT hZ (w89 hw)) (mvT hZ (w90 hw)) (mvT hZ (w91 hw)) (mvT hZ (w92 hw)) (by decide) (backOf (W := 0) (r9_requireNonNull l Z a0 hw [] ya2 h0 n0 O0) hZ (w92 hw) (w91 hw) (by decide) (by decide)) (g := (mkF m 14 #[.val (.ref ya1), .val (.ref ya2), .unset, .unset, .unset] [(.ref ya2)])) rfl (by rw [hml]; rfl) (argsL := [(.ref ya2)]) (rest := []) (lenOf pd__Ljava_lang_Object_Ljava_lang_Object_ rfl) rfl (by show 2 * 0 + _ ≤ _; exact Nat.le_of_eq rfl) (hb hby d10_14) (fun _ _ => ⟨rfl, e1, (by decide : 0 + 0 ≤ _), (by decide : 0 + 0 ≤ _)⟩)
  dsimp only [Pt.U, Pt.locs, Pt.cells, Pt.slots] at X2 l2 y2 z2 st2 hQ2
  subst l2 y2 z2
  obtain ⟨Nq2, eq2, hR2⟩ := hQ2
  have N2 := Fr.app N0 Nq2
  obtain rfl := hR2
  refine Gets.of st2 ?_
  show Gets p e below _ (T2.setTop (mkF m 17 #[.val (.ref ya1), .val (.ref ya2), .unset, .unset, .unset] [(.ref ya2)]))
  refine Gets.of (fun t k => XS.pop X2.here hx rfl (hb hby d10_17) rfl rfl k) ?_
  show Gets p e below _ (T2.setTop (mkF m 18 #[.val (.ref ya1), .val (.ref ya2), .unset, .unset, .unset] []))
  refine Gets.of (fun t k => XS.aloadN X2.here hx rfl (hb hby d10_18) rfl rfl  k) ?_
  obtain ⟨T3, X3, e3, st3⟩ := castY X2 hx hZ hown (w93 hw) eq2 (Ins.of_exa F1 (w94 hw)) (g := (mkF m 19 #[.val (.ref ya1), .val (.ref ya2), .unset, .unset, .unset] [(.ref ya2)])) rfl rfl (hb hby d10_19)
  refine Gets.of st3 ?_
  show Gets p e below _ (T3.setTop (mkF m 22 #[.val (.ref ya1), .val (.ref ya2), .unset, .unset, .unset] [(.ref ya2)]))
  refine Gets.of (fun t k => XS.astoreN X3.here hx rfl (hb hby d10_22) rfl rfl (l' := #[.val (.ref ya1), .val (.ref ya2), .val (.ref ya2), .unset, .unset]) rfl k) ?_
  show Gets p e below _ (T3.setTop (mkF m 23 #[.val (.ref ya1), .val (.ref ya2), .val (.ref ya2), .unset, .unset] []))
  refine Gets.of (fun t k => XS.aloadN X3.here hx rfl (hb hby d10_23) rfl rfl  k) ?_
  obtain ⟨T4, X4, e4, st4⟩ := getF X3 hx hZ hown (host := "") (Or.inl (w95 hw)) Via.refl e3 F2 (g := (mkF m 24 #[.val (.ref ya1), .val (.ref ya2), .val (.ref ya2), .unset, .unset] [(.ref ya1)])) rfl rfl (hb hby d10_24)
  refine Gets.of st4 ?_
  show Gets p e below _ (T4.setTop (mkF m 27 #[.val (.ref ya1), .val (.ref ya2), .val (.ref ya2), .unset, .unset] [.null]))
  refine Gets.of (fun t k => XS.astoreN X4.here hx rfl (hb hby d10_27) rfl rfl (l' := #[.val (.ref ya1), .val (.ref ya2), .val (.ref ya2), .val .null, .unset]) rfl k) ?_
  show Gets p e below _ (T4.setTop (mkF m 28 #[.val (.ref ya1), .val (.ref ya2), .val (.ref ya2), .val .null, .unset] []))
  refine Gets.of (fun t k => XS.aloadN X4.here hx rfl (hb hby d10_28) rfl rfl  k) ?_
  refine Gets.of (fun t k => XS.ifnullYes X4.here hx rfl (pc0 := 29) (pc' := 75) rfl (hb hby d10_29) rfl (by decide) (by decide) k) ?_
  show Gets p e below _ (T4.setTop (mkF m 75 #[.val (.ref ya1), .val (.ref ya2), .val (.ref ya2), .val .null, .unset] []))
  refine Gets.of (fun t k => XS.aconstNull X4.here hx rfl (hb hby d10_75) k) ?_
  refine Gets.retA X4 hx Bd.returns rfl rfl (hb hby d10_76) ?_ (by decide) (by decide)
  rw [e4]
  exact ⟨N2, rfl, rfl⟩
theorem w88 {Z : State} {a0 : Array Value} (hw : ∀ d ∈ tables_1, d.before a0 Z = true) : (Jvm.Cond.code ({ cls := cn1, name := "getEntry", desc := cn11 } : Jvm.MethodName) jdk_2729_method_15_code (5 : Nat) (Option.some (Jvm.ClassFile.FieldType.object "java/util/TreeMap$Entry"))).before a0 Z = true := hw _ (List.mem_of_getElem? (i := 88) rfl)
theorem pd__Ljava_lang_Object_Ljava_util_TreeMap_Entry_ : parseMethodDescriptor "(Ljava/lang/Object;)Ljava/util/TreeMap$Entry;" = some ⟨[(.object "java/lang/Object")], some (.object "java/util/TreeMap$Entry")⟩ := by decide +kernel
theorem w87 {Z : State} {a0 : Array Value} (hw : ∀ d ∈ tables_1, d.before a0 Z = true) : (Jvm.Cond.selects cn1 ({ cls := cn1, name := "getEntry", desc := cn11 } : Jvm.MethodName) ({ cls := cn1, name := "getEntry", desc := cn11 } : Jvm.MethodName)).before a0 Z = true := hw _ (List.mem_of_getElem? (i := 87) rfl)
theorem w85 {Z : State} {a0 : Array Value} (hw : ∀ d ∈ tables_1, d.before a0 Z = true) : (Jvm.Cond.declares ({ cls := cn1, name := "getEntry", desc := cn11 } : Jvm.MethodName)).before a0 Z = true := hw _ (List.mem_of_getElem? (i := 85) rfl)
theorem w86 {Z : State} {a0 : Array Value} (hw : ∀ d ∈ tables_1, d.before a0 Z = true) : (Jvm.Cond.instanceMethod ({ cls := cn1, name := "getEntry", desc := cn11 } : Jvm.MethodName)).before a0 Z = true := hw _ (List.mem_of_getElem? (i := 86) rfl)
theorem d9_5 : decode jdk_2729_method_6_code 5 = .ok (.ifnull 7, 3) := by decide +kernel
theorem d9_12 : decode jdk_2729_method_6_code 12 = .ok (.iconst 0, 1) := by decide +kernel
theorem d9_13 : decode jdk_2729_method_6_code 13 = .ok (.ireturn, 1) := by decide +kernel
def Q_r7_containsKey (Z : State) (ya1 : Addr) (ya2 : Addr) (h0 : Heap) (n0 : Nat) (v : Option Value) (h : Heap) (L : List Loc) : Prop := Fr n0 L ∧ h = h0 ∧ ((v = some (.int (0 : Int32))))
set_option maxRecDepth 65536 in
set_option maxHeartbeats 40000000 in
theorem r7_containsKey (l : Launch) (Z : State) (a0 : Array Value) (hw : ∀ d ∈ tables_1, d.before a0 Z = true) (ws : List Jvm.Cond) (ya1 : Addr) (ya2 : Addr) (h0 : Heap) (n0 : Nat) (O0 : Old Z n0 h0) (F0 : Exa Z h0 ya1 cn1) (F1 : Fld Z h0 ya1 cn1 "comparator" "Ljava/util/Comparator;" .null) (F2 : Exa Z h0 ya2 cn4) (F3 : Fld Z h0 ya1 cn1 "root" "Ljava/util/TreeMap$Entry;" .null) :
    MetFree l (⟨cn1, "containsKey", "(Ljava/lang/Object;)Z"⟩ : MethodName) (head1 (Jvm.Cond.code (⟨cn1, "containsKey", "(Ljava/lang/Object;)Z"⟩ : MethodName) jdk_2729_method_6_code 2 (some .boolean) :: ws) ({ frames := 2, cells := 0, slots := 0, locals := 28 } : Room)) (fun a U => a = #[(.ref ya1), (.ref ya2)] ∧ Z.Warmed39 U.vm ∧ U.heap = h0) (fun _ _ _ _ _ => True) (fun _ U o U' => ∃ v L, o = .returned v ∧ Q_r7_containsKey Z ya1 ya2 h0 n0 v U'.heap L ∧ FrameEnd U o U' L ({ frames := 2, cells := 0, slots := 0, locals := 28 } : Room).cells ({ frames := 2, cells := 0, slots := 0, locals := 28 } : Room).slots) := by
  refine MetFree.of_bodySF (plainFor_of_name pn_java_util_TreeMap) hisR ?_
  intro p e s m args below meth c s₁ Bd hml0 hP hK
  obtain ⟨rfl, hZ, hh⟩ := hP
  have hx := Bd.exec
  have hby := Bd.bytes
  have hlk := Bd.notSynchronized
  have hml : c.maxLocals = 2 := hml0
  have hown : s.vm.findClass cn1 = some m.cls := findClass_of_methodNamed Bd.named
  have hnm := (name_of_methodNamed Bd.named Bd.method).1
  have X0 : Stand p l e ({ frames := 2, cells := 0, slots := 0, locals := 28 } : Room) s m #[(.ref ya1), (.ref ya2)] below meth c s₁ [] 0 0 := Stand.of_body Bd
  have e0 : s₁.heap = h0 := by rw [← hh, Bd.state]; rfl
  have N0 := Fr.nil n0
  have K0 := Keep.refl h0 []
  have Z0 : n0 ≤ h0.size := O0.1 ▸ O0.2.1
  have hef : entryFrame m #[(.ref ya1), (.ref ya2)] 2 = mkF m 0 #[.val (.ref ya1), .val (.ref ya2)] [] := by first | (simp [entryFrame, mkF, argsToLocals, Value.category]; done) | rfl
  rw [hef]
  refine Gets.out (Q := Q_r7_containsKey Z ya1 ya2 h0 n0) ?_
  show Gets p e below _ (s₁.setTop (mkF m 0 #[.val (.ref ya1), .val (.ref ya2)] []))
  refine Gets.of (fun t k => XS.aloadN X0.here hx rfl (hb hby d9_0) rfl rfl  k) ?_
  refine Gets.of (fun t k => XS.aloadN X0.here hx rfl (hb hby d9_1) rfl rfl  k) ?_
  obtain ⟨cq1, kq1, q1a, q1b, q1c⟩ := isOf hZ e0 F0
  obtain ⟨_, _, ⟨T1, L1, k1, n1⟩, -, X1, ⟨Lc1, hQ1, l1, y1, z1⟩, st1⟩ := X0.virtualBack hx (y := (⟨cn1, "getEntry", cn11⟩ : MethodName)) (z := (⟨cn1, "getEntry", cn11⟩ : MethodName)) hown (mvT hZ (w84 hw)) (mvT hZ (w85 hw)) (notFace_of_selects (args := #[]) (mvT hZ (w87 hw))) (mvT hZ (w87 hw)) (mvT hZ (w86 hw)) (by decide) (backOf (W := 0) (r8_getEntry l Z a0 hw [] ya1 ya2 h0 n0 O0 F1 F2 F3) hZ (w88 hw) (w37 hw) (by decide) (by decide)) q1a q1c (g := (mkF m 2 #[.val (.ref ya1), .val (.ref ya2)] [(.ref ya2), (.ref ya1)])) rfl (by rw [hml]; rfl) (Steps.refl _) (argsL := [(.ref ya2)]) (rest := []) (lenOf pd__Ljava_lang_Object_Ljava_util_TreeMap_Entry_ rfl) rfl (by show 2 * 0 + _ ≤ _; exact Nat.le_of_eq rfl) (hb hby d9_2) (fun _ _ => ⟨rfl, e0, (by decide : 0 + 0 ≤ _), (by decide : 0 + 0 ≤ _)⟩)
  dsimp only [Pt.U, Pt.locs, Pt.cells, Pt.slots] at X1 l1 y1 z1 st1 hQ1
  subst l1 y1 z1
  obtain ⟨Nq1, eq1, hR1⟩ := hQ1
  have N1 := Fr.app N0 Nq1
  obtain rfl := hR1
  refine Gets.tr st1 ?_
  show Gets p e below _ (T1.setTop (mkF m 5 #[.val (.ref ya1), .val (.ref ya2)] [.null]))
  refine Gets.of (fun t k => XS.ifnullYes X1.here hx rfl (pc0 := 5) (pc' := 12) rfl (hb hby d9_5) rfl (by decide) (by decide) k) ?_
  show Gets p e below _ (T1.setTop (mkF m 12 #[.val (.ref ya1), .val (.ref ya2)] []))
  refine Gets.of (fun t k => XS.iconst X1.here hx rfl (hb hby d9_12) k) ?_
  refine Gets.retN X1 hx (t := .boolean) Bd.returns (by simp) (hb hby d9_13) ?_ (by decide) (by decide)
  rw [eq1]
  exact ⟨N1, rfl, rfl⟩
theorem w83 {Z : State} {a0 : Array Value} (hw : ∀ d ∈ tables_1, d.before a0 Z = true) : (Jvm.Cond.code ({ cls := cn1, name := "containsKey", desc := "(Ljava/lang/Object;)Z" } : Jvm.MethodName) jdk_2729_method_6_code (2 : Nat) (Option.some Jvm.ClassFile.FieldType.boolean)).before a0 Z = true := hw _ (List.mem_of_getElem? (i := 83) rfl)
theorem pd__Ljava_lang_Object_Z : parseMethodDescriptor "(Ljava/lang/Object;)Z" = some ⟨[(.object "java/lang/Object")], some .boolean⟩ := by decide +kernel
theorem w78 {Z : State} {a0 : Array Value} (hw : ∀ d ∈ tables_1, d.before a0 Z = true) : (Jvm.Cond.selects cn1 ({ cls := "java/util/Map", name := "containsKey", desc := "(Ljava/lang/Object;)Z" } : Jvm.MethodName) ({ cls := cn1, name := "containsKey", desc := "(Ljava/lang/Object;)Z" } : Jvm.MethodName)).before a0 Z = true := hw _ (List.mem_of_getElem? (i := 78) rfl)
theorem w76 {Z : State} {a0 : Array Value} (hw : ∀ d ∈ tables_1, d.before a0 Z = true) : (Jvm.Cond.declares ({ cls := "java/util/Map", name := "containsKey", desc := "(Ljava/lang/Object;)Z" } : Jvm.MethodName)).before a0 Z = true := hw _ (List.mem_of_getElem? (i := 76) rfl)
theorem w77 {Z : State} {a0 : Array Value} (hw : ∀ d ∈ tables_1, d.before a0 Z = true) : (Jvm.Cond.interfaceMethod "java/util/Map" "java/util/Map" "containsKey" "(Ljava/lang/Object;)Z").before a0 Z = true := hw _ (List.mem_of_getElem? (i := 77) rfl)
theorem w79 {Z : State} {a0 : Array Value} (hw : ∀ d ∈ tables_1, d.before a0 Z = true) : (Jvm.Cond.instanceMethod ({ cls := cn1, name := "containsKey", desc := "(Ljava/lang/Object;)Z" } : Jvm.MethodName)).before a0 Z = true := hw _ (List.mem_of_getElem? (i := 79) rfl)
theorem w80 {Z : State} {a0 : Array Value} (hw : ∀ d ∈ tables_1, d.before a0 Z = true) : (Jvm.Cond.publicMethod ({ cls := cn1, name := "containsKey", desc := "(Ljava/lang/Object;)Z" } : Jvm.MethodName)).before a0 Z = true := hw _ (List.mem_of_getElem? (i := 80) rfl)
theorem w81 {Z : State} {a0 : Array Value} (hw : ∀ d ∈ tables_1, d.before a0 Z = true) : (Jvm.Cond.unhidden cn1 "containsKey" "(Ljava/lang/Object;)Z").before a0 Z = true := hw _ (List.mem_of_getElem? (i := 81) rfl)
theorem w82 {Z : State} {a0 : Array Value} (hw : ∀ d ∈ tables_1, d.before a0 Z = true) : (Jvm.Cond.castable cn1 "java/util/Map").before a0 Z = true := hw _ (List.mem_of_getElem? (i := 82) rfl)
theorem d7_39 : decode prog_104_method_4_code 39 = .ok (.ifCond .eq 27, 3) := by decide +kernel
theorem d7_66 : decode prog_104_method_4_code 66 = .ok (.aload_n 0, 1) := by decide +kernel
theorem d7_67 : decode prog_104_method_4_code 67 = .ok (.getfield 19, 3) := by decide +kernel
theorem d7_70 : decode prog_104_method_4_code 70 = .ok (.iload_n 1, 1) := by decide +kernel
theorem d7_71 : decode prog_104_method_4_code 71 = .ok (.aload_n 2, 1) := by decide +kernel
theorem d7_72 : decode prog_104_method_4_code 72 = .ok (.aastore, 1) := by decide +kernel
theorem w97 {Z : State} {a0 : Array Value} (hw : ∀ d ∈ tables_1, d.before a0 Z = true) : (Jvm.Cond.castable cn12 cn3).before a0 Z = true := hw _ (List.mem_of_getElem? (i := 97) rfl)
theorem d7_73 : decode prog_104_method_4_code 73 = .ok (.return_, 1) := by decide +kernel
def Q_r6_layOut (Z : State) (ya1 : Addr) (yi2 : Int32) (ov11 : Addr) (ya4 : Addr) (yk8 : ClassId) (ya6 : Addr) (ov3 : Addr) (oc6 : Cell) (h0 : Heap) (n0 : Nat) (v : Option Value) (h : Heap) (L : List Loc) : Prop := Fr n0 L ∧ Keep h0 h [ya4] ∧ ((v = none ∧ Arh Z h ya4 yk8 (.object cn3) (129 : Int32) [(yi2, (.ref ov11))] [] .null ∧ Ovr Z yk8 cn3))
set_option maxRecDepth 65536 in
set_option maxHeartbeats 40000000 in
theorem r6_layOut (l : Launch) (Z : State) (a0 : Array Value) (hw : ∀ d ∈ tables_1, d.before a0 Z = true) (ws : List Jvm.Cond) (ya1 : Addr) (yi2 : Int32) (ov11 : Addr) (ya4 : Addr) (yk8 : ClassId) (ya6 : Addr) (ov3 : Addr) (oc6 : Cell) (h0 : Heap) (n0 : Nat) (O0 : Old Z n0 h0) (F0 : Fld Z h0 ya1 cn0 "layouts" cn6 (.ref ya4)) (F1 : Arh Z h0 ya4 yk8 (.object cn3) (129 : Int32) [] [] .null) (F2 : Fld Z h0 ya1 cn0 "subElements" "Ljava/util/Map;" (.ref ya6)) (F3 : Exa Z h0 ya6 cn1) (F4 : Fld Z h0 ya6 cn1 "comparator" "Ljava/util/Comparator;" .null) (F5 : Fld Z h0 ya6 cn1 "root" "Ljava/util/TreeMap$Entry;" .null) (F6 : Ovr Z yk8 cn3) (oS2 : Sta Z Z.heap "java/lang/Integer$IntegerCache" "high" "I" (.int (127 : Int32))) (oS5 : Sta Z Z.heap "java/lang/Integer$IntegerCache" "cache" "[Ljava/lang/Integer;" (.ref ov3)) (oE14 : Exa Z Z.heap ov11 cn12) (gq_ya4 : n0 ≤ ya4) (hy1 : ¬ (yi2 < (0 : Int32))) (hy2 : yi2 < (129 : Int32)) (hy3 : Bxs Z ov3 oc6 cn4 "I" (256 : Int32) (fun j => .int (j - 128))) (hy4 : ¬ (yi2 < (-128 : Int32))) :
    MetFree l (⟨cn0, "layOut", cn7⟩ : MethodName) (head1 (Jvm.Cond.code (⟨cn0, "layOut", cn7⟩ : MethodName) prog_104_method_4_code 3 none :: ws) ({ frames := 4, cells := 1, slots := 1, locals := 51 } : Room)) (fun a U => a = #[(.ref ya1), (.int yi2), (.ref ov11)] ∧ Z.Warmed39 U.vm ∧ U.heap = h0) (fun _ _ _ _ _ => True) (fun _ U o U' => ∃ v L, o = .returned v ∧ Q_r6_layOut Z ya1 yi2 ov11 ya4 yk8 ya6 ov3 oc6 h0 n0 v U'.heap L ∧ FrameEnd U o U' L ({ frames := 4, cells := 1, slots := 1, locals := 51 } : Room).cells ({ frames := 4, cells := 1, slots := 1, locals := 51 } : Room).slots) := by
  refine MetFree.of_bodySF (plainFor_of_name pn_com_example_cardwire_cardwire_core_Elements) hisR ?_
  intro p e s m args below meth c s₁ Bd hml0 hP hK
  obtain ⟨rfl, hZ, hh⟩ := hP
  have hx := Bd.exec
  have hby := Bd.bytes
  have hlk := Bd.notSynchronized
  have hml : c.maxLocals = 3 := hml0
  have hown : s.vm.findClass cn0 = some m.cls := findClass_of_methodNamed Bd.named
  have hnm := (name_of_methodNamed Bd.named Bd.method).1
  have X0 : Stand p l e ({ frames := 4, cells := 1, slots := 1, locals := 51 } : Room) s m #[(.ref ya1), (.int yi2), (.ref ov11)] below meth c s₁ [] 0 0 := Stand.of_body Bd
  have e0 : s₁.heap = h0 := by rw [← hh, Bd.state]; rfl
  have N0 := Fr.nil n0
  have K0 := Keep.refl h0 [ya4]
  have Z0 : n0 ≤ h0.size := O0.1 ▸ O0.2.1
  have hef : entryFrame m #[(.ref ya1), (.int yi2), (.ref ov11)] 3 = mkF m 0 #[.val (.ref ya1), .val (.int yi2), .val (.ref ov11)] [] := by first | (simp [entryFrame, mkF, argsToLocals, Value.category]; done) | rfl
  rw [hef]
  refine Gets.out (Q := Q_r6_layOut Z ya1 yi2 ov11 ya4 yk8 ya6 ov3 oc6 h0 n0) ?_
  show Gets p e below _ (s₁.setTop (mkF m 0 #[.val (.ref ya1), .val (.int yi2), .val (.ref ov11)] []))
  refine Gets.of (fun t k => XS.aloadN X0.here hx rfl (hb hby d7_0) rfl rfl  k) ?_
  obtain ⟨T1, X1, e1, st1⟩ := getF X0 hx hZ hown (host := "") (Or.inl (w15 hw)) Via.refl e0 F0 (g := (mkF m 1 #[.val (.ref ya1), .val (.int yi2), .val (.ref ov11)] [(.ref ya1)])) rfl rfl (hb hby d7_1)
  refine Gets.of st1 ?_
  show Gets p e below _ (T1.setTop (mkF m 4 #[.val (.ref ya1), .val (.int yi2), .val (.ref ov11)] [(.ref ya4)]))
  refine Gets.of (fun t k => XS.iloadN X1.here hx rfl (hb hby d7_4) rfl  k) ?_
  obtain ⟨cl2, Ar2, q2, S2, N_2, H2, G2⟩ := id (F1)
  have hin2 : ¬ (yi2 < 0 ∨ cl2.slots.size ≤ (yi2).toNatClampNeg) := inb_of S2 ⟨hy1, hy2⟩
  refine Gets.of (fun t k => X1.aaload hx (j := yi2) (v := .null) (by rw [e1]; exact Ar2.1) (State.isArrayOf_alike hZ.alike Ar2.2.1) rfl Ar2.2.2 hin2 (atH H2 hin2 (getH_all rfl _)) (g := (mkF m 5 #[.val (.ref ya1), .val (.int yi2), .val (.ref ov11)] [(.int yi2), (.ref ya4)])) rfl rfl (hb hby d7_5) t k) ?_
  show Gets p e below _ (T1.setTop (mkF m 6 #[.val (.ref ya1), .val (.int yi2), .val (.ref ov11)] [.null]))
  refine Gets.of (fun t k => XS.ifnullYes X1.here hx rfl (pc0 := 6) (pc' := 26) rfl (hb hby d7_6) rfl (by decide) (by decide) k) ?_
  show Gets p e below _ (T1.setTop (mkF m 26 #[.val (.ref ya1), .val (.int yi2), .val (.ref ov11)] []))
  refine Gets.of (fun t k => XS.aloadN X1.here hx rfl (hb hby d7_26) rfl rfl  k) ?_
  obtain ⟨T3, X3, e3, st3⟩ := getF X1 hx hZ hown (host := "") (Or.inl (w49 hw)) Via.refl e1 F2 (g := (mkF m 27 #[.val (.ref ya1), .val (.int yi2), .val (.ref ov11)] [(.ref ya1)])) rfl rfl (hb hby d7_27)
  refine Gets.of st3 ?_
  show Gets p e below _ (T3.setTop (mkF m 30 #[.val (.ref ya1), .val (.int yi2), .val (.ref ov11)] [(.ref ya6)]))
  refine Gets.of (fun t k => XS.iloadN X3.here hx rfl (hb hby d7_30) rfl  k) ?_
  obtain ⟨_, _, ⟨T4, L4, k4, n4⟩, -, X4, ⟨Lc4, hQ4, l4, y4, z4⟩, st4⟩ := Jvm.LawKit.callS X3 hx (y := (⟨cn4, "valueOf", "(I)Ljava/lang/Integer;"⟩ : MethodName)) hown (mvT hZ (w68 hw)) (mvT hZ (w69 hw)) (mvT hZ (w70 hw)) (mvT hZ (w71 hw)) (by decide) (backOf (W := 1) (rm_vof l Z a0 hw [] yi2 ov3 oc6 h0 n0 O0 oS2 oS5 hy3 hy4) hZ (w71 hw) (w70 hw) (by decide) (by decide)) (g := (mkF m 31 #[.val (.ref ya1), .val (.int yi2), .val (.ref ov11)] [(.int yi2), (.ref ya6)])) rfl (by rw [hml]; rfl) (argsL := [(.int yi2)]) (rest := [(.ref ya6)]) (lenOf pd__I_Ljava_lang_Integer_ rfl) rfl (by show 2 * 0 + _ ≤ _; exact Nat.le_of_eq rfl) (hb hby d7_31) (fun _ _ => ⟨rfl, e3, (by decide : 0 + 1 ≤ _), (by decide : 0 + 1 ≤ _)⟩)
  dsimp only [Pt.U, Pt.locs, Pt.cells, Pt.slots] at X4 l4 y4 z4 st4 hQ4
  subst l4 y4 z4
  obtain ⟨Nq4, Kq4, hR4⟩ := hQ4
  have N4 := Fr.app N0 Nq4
  have K5 : Keep h0 _ [ya4] := K0.trans Kq4 all0
  have O5 := O0.keep Kq4 all0
  obtain ⟨yw_4, rfl, bf4_0⟩ := hR4
  refine Gets.of st4 ?_
  show Gets p e below _ (T4.setTop (mkF m 34 #[.val (.ref ya1), .val (.int yi2), .val (.ref ov11)] [(.ref yw_4), (.ref ya6)]))
  have f6 : Exa Z T4.heap ya6 cn1 := (F3.keep Kq4)
  have f7 : Fld Z T4.heap ya6 cn1 "comparator" "Ljava/util/Comparator;" .null := (F4.keep Kq4 nin0)
  have f8 : Fld Z T4.heap ya6 cn1 "root" "Ljava/util/TreeMap$Entry;" .null := (F5.keep Kq4 nin0)
  obtain ⟨cq9, kq9, q9a, q9b, q9c⟩ := isOf hZ rfl f6
  obtain ⟨_, _, ⟨T9, L9, k9, n9⟩, -, X9, ⟨Lc9, hQ9, l9, y9, z9⟩, st9⟩ := X4.interfaceBack hx (xi := (⟨"java/util/Map", "containsKey", "(Ljava/lang/Object;)Z"⟩ : MethodName)) (y := (⟨cn1, "containsKey", "(Ljava/lang/Object;)Z"⟩ : MethodName)) hown (mvT hZ (w75 hw)) (mvT hZ (w76 hw)) (mvT hZ (w77 hw)) (mvT hZ (w78 hw)) (mvT hZ (w79 hw)) (mvT hZ (w80 hw)) (mvT hZ (w81 hw)) (mvT hZ (w82 hw)) (by decide) (backOf (W := 0) (r7_containsKey l Z a0 hw [] ya6 yw_4 T4.heap n0 O5 f6 f7 bf4_0 f8) hZ (w83 hw) (w37 hw) (by decide) (by decide)) q9a q9b q9c (g := (mkF m 34 #[.val (.ref ya1), .val (.int yi2), .val (.ref ov11)] [(.ref yw_4), (.ref ya6)])) rfl (by rw [hml]; rfl) (Steps.refl _) (argsL := [(.ref yw_4)]) (rest := []) (lenOf pd__Ljava_lang_Object_Z rfl) rfl (by show 2 * 0 + _ ≤ _; exact Nat.le_of_eq rfl) (hb hby d7_34) (fun _ _ => ⟨rfl, rfl, (by decide : 1 + 0 ≤ _), (by decide : 1 + 0 ≤ _)⟩)
  dsimp only [Pt.U, Pt.locs, Pt.cells, Pt.slots] at X9 l9 y9 z9 st9 hQ9
  subst l9 y9 z9
  obtain ⟨Nq9, eq9, hR9⟩ := hQ9
  have N9 := Fr.app N4 Nq9
  obtain rfl := hR9
  refine Gets.tr st9 ?_
  show Gets p e below _ (T9.setTop (mkF m 39 #[.val (.ref ya1), .val (.int yi2), .val (.ref ov11)] [(.int (0 : Int32))]))
  refine Gets.of (fun t k => XS.ifYes X9.here hx rfl (pc0 := 39) (pc' := 66) rfl (hb hby d7_39) rfl ((if0 _ _).trans (teq (by decide : (0 : Int32) = (0 : Int32))).1) (by decide) (by decide) k) ?_
  show Gets p e below _ (T9.setTop (mkF m 66 #[.val (.ref ya1), .val (.int yi2), .val (.ref ov11)] []))
  refine Gets.of (fun t k => XS.aloadN X9.here hx rfl (hb hby d7_66) rfl rfl  k) ?_
  have f10 : Fld Z T4.heap ya1 cn0 "layouts" cn6 (.ref ya4) := (F0.keep Kq4 nin0)
  obtain ⟨T11, X11, e11, st11⟩ := getF X9 hx hZ hown (host := "") (Or.inl (w15 hw)) Via.refl eq9 f10 (g := (mkF m 67 #[.val (.ref ya1), .val (.int yi2), .val (.ref ov11)] [(.ref ya1)])) rfl rfl (hb hby d7_67)
  refine Gets.of st11 ?_
  show Gets p e below _ (T11.setTop (mkF m 70 #[.val (.ref ya1), .val (.int yi2), .val (.ref ov11)] [(.ref ya4)]))
  refine Gets.of (fun t k => XS.iloadN X11.here hx rfl (hb hby d7_70) rfl  k) ?_
  refine Gets.of (fun t k => XS.aloadN X11.here hx rfl (hb hby d7_71) rfl rfl  k) ?_
  have f12 : Arh Z T4.heap ya4 yk8 (.object cn3) (129 : Int32) [] [] .null := (F1.keep Kq4 nin0)
  obtain ⟨cl13, Ar13, q13, S13, N_13, H13, G13⟩ := id (f12)
  have hin13 : ¬ (yi2 < 0 ∨ cl13.slots.size ≤ (yi2).toNatClampNeg) := inb_of S13 ⟨hy1, hy2⟩
  have f14 : Ovr Z yk8 cn3 := F6
  obtain ⟨T15, h15, X15, e15, W15, st15⟩ := stR X11 hx hZ e11 Ar13 (j := yi2) hin13 rfl (Sto.ofV Ar13 q13 f14 (Ins.of_exa (oE14.ext O5.2) (w97 hw))) (g := (mkF m 72 #[.val (.ref ya1), .val (.int yi2), .val (.ref ov11)] [(.ref ov11), (.int yi2), (.ref ya4)])) rfl rfl (hb hby d7_72)
  have V15 : Arh Z h15 ya4 yk8 (.object cn3) (129 : Int32) [(yi2, (.ref ov11))] [] .null := Arh.push Ar13 q13 S13 N_13 H13 G13 rfl W15 hin13
  have N15 := Fr.snoc X15 N9 gq_ya4
  have K16 : Keep h0 _ [ya4] := K5.wr W15 (Or.inl (by simp))
  have O16 := O5.wr W15 gq_ya4
  refine Gets.of st15 ?_
  show Gets p e below _ (T15.setTop (mkF m 73 #[.val (.ref ya1), .val (.int yi2), .val (.ref ov11)] []))
  refine Gets.retV X15 hx Bd.returns (hb hby d7_73) ?_ (by decide) (by decide)
  rw [e15]
  have f17 : Ovr Z yk8 cn3 := f14
  exact ⟨N15, K16, ⟨rfl, V15, f17⟩⟩
theorem w67 {Z : State} {a0 : Array Value} (hw : ∀ d ∈ tables_1, d.before a0 Z = true) : (Jvm.Cond.code ({ cls := cn0, name := "layOut", desc := cn7 } : Jvm.MethodName) prog_104_method_4_code (3 : Nat) (Option.none : Option Jvm.ClassFile.FieldType)).before a0 Z = true := hw _ (List.mem_of_getElem? (i := 67) rfl)
theorem pd__ILcom_example_cardwire_cardwire_core_Layout_V : parseMethodDescriptor "(ILcom/example/cardwire/cardwire/core/Layout;)V" = some ⟨[.int, (.object "com/example/cardwire/cardwire/core/Layout")], none⟩ := by decide +kernel
theorem w66 {Z : State} {a0 : Array Value} (hw : ∀ d ∈ tables_1, d.before a0 Z = true) : (Jvm.Cond.selects cn0 ({ cls := cn0, name := "layOut", desc := cn7 } : Jvm.MethodName) ({ cls := cn0, name := "layOut", desc := cn7 } : Jvm.MethodName)).before a0 Z = true := hw _ (List.mem_of_getElem? (i := 66) rfl)
theorem w64 {Z : State} {a0 : Array Value} (hw : ∀ d ∈ tables_1, d.before a0 Z = true) : (Jvm.Cond.declares ({ cls := cn0, name := "layOut", desc := cn7 } : Jvm.MethodName)).before a0 Z = true := hw _ (List.mem_of_getElem? (i := 64) rfl)
theorem w65 {Z : State} {a0 : Array Value} (hw : ∀ d ∈ tables_1, d.before a0 Z = true) : (Jvm.Cond.instanceMethod ({ cls := cn0, name := "layOut", desc := cn7 } : Jvm.MethodName)).before a0 Z = true := hw _ (List.mem_of_getElem? (i := 65) rfl)
theorem w98 {Z : State} {a0 : Array Value} (hw : ∀ d ∈ tables_1, d.before a0 Z = true) : (Jvm.Cond.methodLink cn5 (30 : Nat) ({ cls := cn5, name := "expected", desc := cn8 } : Jvm.MethodName)).before a0 Z = true := hw _ (List.mem_of_getElem? (i := 98) rfl)
theorem w101 {Z : State} {a0 : Array Value} (hw : ∀ d ∈ tables_1, d.before a0 Z = true) : (Jvm.Cond.code ({ cls := cn5, name := "expected", desc := cn8 } : Jvm.MethodName) method_3_code (6 : Nat) (Option.some (Jvm.ClassFile.FieldType.object cn3))).before a0 Z = true := hw _ (List.mem_of_getElem? (i := 101) rfl)
theorem w100 {Z : State} {a0 : Array Value} (hw : ∀ d ∈ tables_1, d.before a0 Z = true) : (Jvm.Cond.initialized cn5).before a0 Z = true := hw _ (List.mem_of_getElem? (i := 100) rfl)
theorem pd__IIZILcom_example_cardwire_cardwire_core_Layout_Lcom_example_cardwire_cardwire_core_Layout_Lcom_example_cardwire_cardwire_core_Layout_ : parseMethodDescriptor "(IIZILcom/example/cardwire/cardwire/core/Layout;Lcom/example/cardwire/cardwire/core/Layout;)Lcom/example/cardwire/cardwire/core/Layout;" = some ⟨[.int, .int, .boolean, .int, (.object "com/example/cardwire/cardwire/core/Layout"), (.object "com/example/cardwire/cardwire/core/Layout")], some (.object "com/example/cardwire/cardwire/core/Layout")⟩ := by decide +kernel
theorem w99 {Z : State} {a0 : Array Value} (hw : ∀ d ∈ tables_1, d.before a0 Z = true) : (Jvm.Cond.static ({ cls := cn5, name := "expected", desc := cn8 } : Jvm.MethodName)).before a0 Z = true := hw _ (List.mem_of_getElem? (i := 99) rfl)
theorem w102 {Z : State} {a0 : Array Value} (hw : ∀ d ∈ tables_1, d.before a0 Z = true) : (Jvm.Cond.castable cn13 cn3).before a0 Z = true := hw _ (List.mem_of_getElem? (i := 102) rfl)
def Q_r10_layOut (Z : State) (ya1 : Addr) (yi2 : Int32) (ov15 : Addr) (ya4 : Addr) (yk8 : ClassId) (yi9 : Int32) (ov11 : Addr) (ya6 : Addr) (ov3 : Addr) (oc6 : Cell) (h0 : Heap) (n0 : Nat) (v : Option Value) (h : Heap) (L : List Loc) : Prop := Fr n0 L ∧ Keep h0 h [ya4] ∧ ((v = none ∧ Arh Z h ya4 yk8 (.object cn3) (129 : Int32) [(yi2, (.ref ov15)), (yi9, (.ref ov11))] [] .null ∧ Ovr Z yk8 cn3))
set_option maxRecDepth 65536 in
set_option maxHeartbeats 40000000 in
theorem r10_layOut (l : Launch) (Z : State) (a0 : Array Value) (hw : ∀ d ∈ tables_1, d.before a0 Z = true) (ws : List Jvm.Cond) (ya1 : Addr) (yi2 : Int32) (ov15 : Addr) (ya4 : Addr) (yk8 : ClassId) (yi9 : Int32) (ov11 : Addr) (ya6 : Addr) (ov3 : Addr) (oc6 : Cell) (h0 : Heap) (n0 : Nat) (O0 : Old Z n0 h0) (F0 : Fld Z h0 ya1 cn0 "layouts" cn6 (.ref ya4)) (F1 : Arh Z h0 ya4 yk8 (.object cn3) (129 : Int32) [(yi9, (.ref ov11))] [] .null) (F2 : Fld Z h0 ya1 cn0 "subElements" "Ljava/util/Map;" (.ref ya6)) (F3 : Exa Z h0 ya6 cn1) (F4 : Fld Z h0 ya6 cn1 "comparator" "Ljava/util/Comparator;" .null) (F5 : Fld Z h0 ya6 cn1 "root" "Ljava/util/TreeMap$Entry;" .null) (F6 : Ovr Z yk8 cn3) (oS2 : Sta Z Z.heap "java/lang/Integer$IntegerCache" "high" "I" (.int (127 : Int32))) (oS5 : Sta Z Z.heap "java/lang/Integer$IntegerCache" "cache" "[Ljava/lang/Integer;" (.ref ov3)) (oE18 : Exa Z Z.heap ov15 cn13) (gq_ya4 : n0 ≤ ya4) (hy1 : ¬ (yi9 = yi2)) (hy2 : ¬ (yi2 < (0 : Int32))) (hy3 : yi2 < (129 : Int32)) (hy4 : Bxs Z ov3 oc6 cn4 "I" (256 : Int32) (fun j => .int (j - 128))) (hy5 : ¬ (yi2 < (-128 : Int32))) :
    MetFree l (⟨cn0, "layOut", cn7⟩ : MethodName) (head1 (Jvm.Cond.code (⟨cn0, "layOut", cn7⟩ : MethodName) prog_104_method_4_code 3 none :: ws) ({ frames := 4, cells := 1, slots := 1, locals := 51 } : Room)) (fun a U => a = #[(.ref ya1), (.int yi2), (.ref ov15)] ∧ Z.Warmed39 U.vm ∧ U.heap = h0) (fun _ _ _ _ _ => True) (fun _ U o U' => ∃ v L, o = .returned v ∧ Q_r10_layOut Z ya1 yi2 ov15 ya4 yk8 yi9 ov11 ya6 ov3 oc6 h0 n0 v U'.heap L ∧ FrameEnd U o U' L ({ frames := 4, cells := 1, slots := 1, locals := 51 } : Room).cells ({ frames := 4, cells := 1, slots := 1, locals := 51 } : Room).slots) := by
  refine MetFree.of_bodySF (plainFor_of_name pn_com_example_cardwire_cardwire_core_Elements) hisR ?_
  intro p e s m args below meth c s₁ Bd hml0 hP hK
  obtain ⟨rfl, hZ, hh⟩ := hP
  have hx := Bd.exec
  have hby := Bd.bytes
  have hlk := Bd.notSynchronized
  have hml : c.maxLocals = 3 := hml0
  have hown : s.vm.findClass cn0 = some m.cls := findClass_of_methodNamed Bd.named
  have hnm := (name_of_methodNamed Bd.named Bd.method).1
  have X0 : Stand p l e ({ frames := 4, cells := 1, slots := 1, locals := 51 } : Room) s m #[(.ref ya1), (.int yi2), (.ref ov15)] below meth c s₁ [] 0 0 := Stand.of_body Bd
  have e0 : s₁.heap = h0 := by rw [← hh, Bd.state]; rfl
  have N0 := Fr.nil n0
  have K0 := Keep.refl h0 [ya4]
  have Z0 : n0 ≤ h0.size := O0.1 ▸ O0.2.1
  have hef : entryFrame m #[(.ref ya1), (.int yi2), (.ref ov15)] 3 = mkF m 0 #[.val (.ref ya1), .val (.int yi2), .val (.ref ov15)] [] := by first | (simp [entryFrame, mkF, argsToLocals, Value.category]; done) | rfl
  rw [hef]
  refine Gets.out (Q := Q_r10_layOut Z ya1 yi2 ov15 ya4 yk8 yi9 ov11 ya6 ov3 oc6 h0 n0) ?_
  show Gets p e below _ (s₁.setTop (mkF m 0 #[.val (.ref ya1), .val (.int yi2), .val (.ref ov15)] []))
  refine Gets.of (fun t k => XS.aloadN X0.here hx rfl (hb hby d7_0) rfl rfl  k) ?_
  obtain ⟨T1, X1, e1, st1⟩ := getF X0 hx hZ hown (host := "") (Or.inl (w15 hw)) Via.refl e0 F0 (g := (mkF m 1 #[.val (.ref ya1), .val (.int yi2), .val (.ref ov15)] [(.ref ya1)])) rfl rfl (hb hby d7_1)
  refine Gets.of st1 ?_
  show Gets p e below _ (T1.setTop (mkF m 4 #[.val (.ref ya1), .val (.int yi2), .val (.ref ov15)] [(.ref ya4)]))
  refine Gets.of (fun t k => XS.iloadN X1.here hx rfl (hb hby d7_4) rfl  k) ?_
  obtain ⟨cl2, Ar2, q2, S2, N_2, H2, G2⟩ := id (F1)
  have hin2 : ¬ (yi2 < 0 ∨ cl2.slots.size ≤ (yi2).toNatClampNeg) := inb_of S2 ⟨hy2, hy3⟩
  refine Gets.of (fun t k => X1.aaload hx (j := yi2) (v := .null) (by rw [e1]; exact Ar2.1) (State.isArrayOf_alike hZ.alike Ar2.2.1) rfl Ar2.2.2 hin2 (atH H2 hin2 (getH_miss hy2 (Ne.symm hy1) (getH_all rfl _))) (g := (mkF m 5 #[.val (.ref ya1), .val (.int yi2), .val (.ref ov15)] [(.int yi2), (.ref ya4)])) rfl rfl (hb hby d7_5) t k) ?_
  show Gets p e below _ (T1.setTop (mkF m 6 #[.val (.ref ya1), .val (.int yi2), .val (.ref ov15)] [.null]))
  refine Gets.of (fun t k => XS.ifnullYes X1.here hx rfl (pc0 := 6) (pc' := 26) rfl (hb hby d7_6) rfl (by decide) (by decide) k) ?_
  show Gets p e below _ (T1.setTop (mkF m 26 #[.val (.ref ya1), .val (.int yi2), .val (.ref ov15)] []))
  refine Gets.of (fun t k => XS.aloadN X1.here hx rfl (hb hby d7_26) rfl rfl  k) ?_
  obtain ⟨T3, X3, e3, st3⟩ := getF X1 hx hZ hown (host := "") (Or.inl (w49 hw)) Via.refl e1 F2 (g := (mkF m 27 #[.val (.ref ya1), .val (.int yi2), .val (.ref ov15)] [(.ref ya1)])) rfl rfl (hb hby d7_27)
  refine Gets.of st3 ?_
  show Gets p e below _ (T3.setTop (mkF m 30 #[.val (.ref ya1), .val (.int yi2), .val (.ref ov15)] [(.ref ya6)]))
  refine Gets.of (fun t k => XS.iloadN X3.here hx rfl (hb hby d7_30) rfl  k) ?_
  obtain ⟨_, _, ⟨T4, L4, k4, n4⟩, -, X4, ⟨Lc4, hQ4, l4, y4, z4⟩, st4⟩ := Jvm.LawKit.callS X3 hx (y := (⟨cn4, "valueOf", "(I)Ljava/lang/Integer;"⟩ : MethodName)) hown (mvT hZ (w68 hw)) (mvT hZ (w69 hw)) (mvT hZ (w70 hw)) (mvT hZ (w71 hw)) (by decide) (backOf (W := 1) (rm_vof l Z a0 hw [] yi2 ov3 oc6 h0 n0 O0 oS2 oS5 hy4 hy5) hZ (w71 hw) (w70 hw) (by decide) (by decide)) (g := (mkF m 31 #[.val (.ref ya1), .val (.int yi2), .val (.ref ov15)] [(.int yi2), (.ref ya6)])) rfl (by rw [hml]; rfl) (argsL := [(.int yi2)]) (rest := [(.ref ya6)]) (lenOf pd__I_Ljava_lang_Integer_ rfl) rfl (by show 2 * 0 + _ ≤ _; exact Nat.le_of_eq rfl) (hb hby d7_31) (fun _ _ => ⟨rfl, e3, (by decide : 0 + 1 ≤ _), (by decide : 0 + 1 ≤ _)⟩)
  dsimp only [Pt.U, Pt.locs, Pt.cells, Pt.slots] at X4 l4 y4 z4 st4 hQ4
  subst l4 y4 z4
  obtain ⟨Nq4, Kq4, hR4⟩ := hQ4
  have N4 := Fr.app N0 Nq4
  have K5 : Keep h0 _ [ya4] := K0.trans Kq4 all0
  have O5 := O0.keep Kq4 all0
  obtain ⟨yw_4, rfl, bf4_0⟩ := hR4
  refine Gets.of st4 ?_
  show Gets p e below _ (T4.setTop (mkF m 34 #[.val (.ref ya1), .val (.int yi2), .val (.ref ov15)] [(.ref yw_4), (.ref ya6)]))
  have f6 : Exa Z T4.heap ya6 cn1 := (F3.keep Kq4)
  have f7 : Fld Z T4.heap ya6 cn1 "comparator" "Ljava/util/Comparator;" .null := (F4.keep Kq4 nin0)
  have f8 : Fld Z T4.heap ya6 cn1 "root" "Ljava/util/TreeMap$Entry;" .null := (F5.keep Kq4 nin0)
  obtain ⟨cq9, kq9, q9a, q9b, q9c⟩ := isOf hZ rfl f6
  obtain ⟨_, _, ⟨T9, L9, k9, n9⟩, -, X9, ⟨Lc9, hQ9, l9, y9, z9⟩, st9⟩ := X4.interfaceBack hx (xi := (⟨"java/util/Map", "containsKey", "(Ljava/lang/Object;)Z"⟩ : MethodName)) (y := (⟨cn1, "containsKey", "(Ljava/lang/Object;)Z"⟩ : MethodName)) hown (mvT hZ (w75 hw)) (mvT hZ (w76 hw)) (mvT hZ (w77 hw)) (mvT hZ (w78 hw)) (mvT hZ (w79 hw)) (mvT hZ (w80 hw)) (mvT hZ (w81 hw)) (mvT hZ (w82 hw)) (by decide) (backOf (W := 0) (r7_containsKey l Z a0 hw [] ya6 yw_4 T4.heap n0 O5 f6 f7 bf4_0 f8) hZ (w83 hw) (w37 hw) (by decide) (by decide)) q9a q9b q9c (g := (mkF m 34 #[.val (.ref ya1), .val (.int yi2), .val (.ref ov15)] [(.ref yw_4), (.ref ya6)])) rfl (by rw [hml]; rfl) (Steps.refl _) (argsL := [(.ref yw_4)]) (rest := []) (lenOf pd__Ljava_lang_Object_Z rfl) rfl (by show 2 * 0 + _ ≤ _; exact Nat.le_of_eq rfl) (hb hby d7_34) (fun _ _ => ⟨rfl, rfl, (by decide : 1 + 0 ≤ _), (by decide : 1 + 0 ≤ _)⟩)
  dsimp only [Pt.U, Pt.locs, Pt.cells, Pt.slots] at X9 l9 y9 z9 st9 hQ9
  subst l9 y9 z9
  obtain ⟨Nq9, eq9, hR9⟩ := hQ9
  have N9 := Fr.app N4 Nq9
  obtain rfl := hR9
  refine Gets.tr st9 ?_
  show Gets p e below _ (T9.setTop (mkF m 39 #[.val (.ref ya1), .val (.int yi2), .val (.ref ov15)] [(.int (0 : Int32))]))
  refine Gets.of (fun t k => XS.ifYes X9.here hx rfl (pc0 := 39) (pc' := 66) rfl (hb hby d7_39) rfl ((if0 _ _).trans (teq (by decide : (0 : Int32) = (0 : Int32))).1) (by decide) (by decide) k) ?_
  show Gets p e below _ (T9.setTop (mkF m 66 #[.val (.ref ya1), .val (.int yi2), .val (.ref ov15)] []))
  refine Gets.of (fun t k => XS.aloadN X9.here hx rfl (hb hby d7_66) rfl rfl  k) ?_
  have f10 : Fld Z T4.heap ya1 cn0 "layouts" cn6 (.ref ya4) := (F0.keep Kq4 nin0)
  obtain ⟨T11, X11, e11, st11⟩ := getF X9 hx hZ hown (host := "") (Or.inl (w15 hw)) Via.refl eq9 f10 (g := (mkF m 67 #[.val (.ref ya1), .val (.int yi2), .val (.ref ov15)] [(.ref ya1)])) rfl rfl (hb hby d7_67)
  refine Gets.of st11 ?_
  show Gets p e below _ (T11.setTop (mkF m 70 #[.val (.ref ya1), .val (.int yi2), .val (.ref ov15)] [(.ref ya4)]))
  refine Gets.of (fun t k => XS.iloadN X11.here hx rfl (hb hby d7_70) rfl  k) ?_
  refine Gets.of (fun t k => XS.aloadN X11.here hx rfl (hb hby d7_71) rfl rfl  k) ?_
  have f12 : Arh Z T4.heap ya4 yk8 (.object cn3) (129 : Int32) [(yi9, (.ref ov11))] [] .null := (F1.keep Kq4 nin0)
  obtain ⟨cl13, Ar13, q13, S13, N_13, H13, G13⟩ := id (f12)
  have hin13 : ¬ (yi2 < 0 ∨ cl13.slots.size ≤ (yi2).toNatClampNeg) := inb_of S13 ⟨hy2, hy3⟩
  have f14 : Ovr Z yk8 cn3 := F6
  obtain ⟨T15, h15, X15, e15, W15, st15⟩ := stR X11 hx hZ e11 Ar13 (j := yi2) hin13 rfl (Sto.ofV Ar13 q13 f14 (Ins.of_exa (oE18.ext O5.2) (w102 hw))) (g := (mkF m 72 #[.val (.ref ya1), .val (.int yi2), .val (.ref ov15)] [(.ref ov15), (.int yi2), (.ref ya4)])) rfl rfl (hb hby d7_72)
  have V15 : Arh Z h15 ya4 yk8 (.object cn3) (129 : Int32) [(yi2, (.ref ov15)), (yi9, (.ref ov11))] [] .null := Arh.push Ar13 q13 S13 N_13 H13 G13 rfl W15 hin13
  have N15 := Fr.snoc X15 N9 gq_ya4
  have K16 : Keep h0 _ [ya4] := K5.wr W15 (Or.inl (by simp))
  have O16 := O5.wr W15 gq_ya4
  refine Gets.of st15 ?_
  show Gets p e below _ (T15.setTop (mkF m 73 #[.val (.ref ya1), .val (.int yi2), .val (.ref ov15)] []))
  refine Gets.retV X15 hx Bd.returns (hb hby d7_73) ?_ (by decide) (by decide)
  rw [e15]
  have f17 : Ovr Z yk8 cn3 := f14
  exact ⟨N15, K16, ⟨rfl, V15, f17⟩⟩
def Q_rm_law (Z : State) (p1 : Int32) (p2 : Int32) (p3 : Int32) (p4 : Int32) (p5 : Int32) (ov3 : Addr) (ov11 : Addr) (ov15 : Addr) (oc6 : Cell) (h0 : Heap) (n0 : Nat) (v : Option Value) (h : Heap) (L : List Loc) : Prop := Fr n0 L ∧ Keep h0 h [] ∧ ((v = some (.int (1 : Int32))))
set_option maxRecDepth 65536 in
set_option maxHeartbeats 40000000 in
theorem rm_law (l : Launch) (Z : State) (a0 : Array Value) (hw : ∀ d ∈ tables_1, d.before a0 Z = true) (ws : List Jvm.Cond) (p1 : Int32) (p2 : Int32) (p3 : Int32) (p4 : Int32) (p5 : Int32) (ov3 : Addr) (ov11 : Addr) (ov15 : Addr) (oc6 : Cell) (h0 : Heap) (n0 : Nat) (O0 : Old Z n0 h0) (oS2 : Sta Z Z.heap "java/lang/Integer$IntegerCache" "high" "I" (.int (127 : Int32))) (oS5 : Sta Z Z.heap "java/lang/Integer$IntegerCache" "cache" "[Ljava/lang/Integer;" (.ref ov3)) (oS13 : Sta Z Z.heap cn12 "LAYOUT" "Lcom/example/cardwire/cardwire/core/TagLengthValue;" (.ref ov11)) (oE14 : Exa Z Z.heap ov11 cn12) (oS17 : Sta Z Z.heap cn13 "LAYOUT" "Lcom/example/cardwire/cardwire/core/KeyValuePairs;" (.ref ov15)) (oE18 : Exa Z Z.heap ov15 cn13) (hbx : Bxs Z ov3 oc6 cn4 "I" (256 : Int32) (fun j => .int (j - 128))) :
    MetFree l x (head1 (Jvm.Cond.code x code maxLocals ret :: ws) room_1) (fun a U => a = #[(.int p1), (.int p2), (.int p3), (.int p4), (.int p5)] ∧ Z.Warmed39 U.vm ∧ U.heap = h0) (fun _ _ _ _ _ => True) (fun _ U o U' => ∃ v L, o = .returned v ∧ Q_rm_law Z p1 p2 p3 p4 p5 ov3 ov11 ov15 oc6 h0 n0 v U'.heap L ∧ FrameEnd U o U' L room_1.cells room_1.slots) := by
  refine MetFree.of_bodySF (plainFor_of_name pn_com_example_cardwire_cardwire_core_ElementsLayoutPinLaw) hisR ?_
  intro p e s m args below meth c s₁ Bd hml0 hP hK
  obtain ⟨rfl, hZ, hh⟩ := hP
  have hx := Bd.exec
  have hby := Bd.bytes
  have hlk := Bd.notSynchronized
  have hml : c.maxLocals = 14 := hml0
  have hown : s.vm.findClass cn5 = some m.cls := findClass_of_methodNamed Bd.named
  have hnm := (name_of_methodNamed Bd.named Bd.method).1
  have X0 : Stand p l e room_1 s m #[(.int p1), (.int p2), (.int p3), (.int p4), (.int p5)] below meth c s₁ [] 0 0 := Stand.of_body Bd
  have e0 : s₁.heap = h0 := by rw [← hh, Bd.state]; rfl
  have N0 := Fr.nil n0
  have K0 := Keep.refl h0 []
  have Z0 : n0 ≤ h0.size := O0.1 ▸ O0.2.1
  have hef : entryFrame m #[(.int p1), (.int p2), (.int p3), (.int p4), (.int p5)] maxLocals = mkF m 0 #[.val (.int p1), .val (.int p2), .val (.int p3), .val (.int p4), .val (.int p5), .unset, .unset, .unset, .unset, .unset, .unset, .unset, .unset, .unset] [] := by first | (simp [entryFrame, mkF, argsToLocals, Value.category, maxLocals]; done) | rfl
  rw [hef]
  refine Gets.out (Q := Q_rm_law Z p1 p2 p3 p4 p5 ov3 ov11 ov15 oc6 h0 n0) ?_
  show Gets p e below _ (s₁.setTop (mkF m 0 #[.val (.int p1), .val (.int p2), .val (.int p3), .val (.int p4), .val (.int p5), .unset, .unset, .unset, .unset, .unset, .unset, .unset, .unset, .unset] []))
  obtain ⟨T1, h1, X1, e1, E1, A1, D1, -, st1⟩ := newO X0 hx hZ hown (w0 hw) (w1 hw) (w2 hw) e0 (g := (mkF m 0 #[.val (.int p1), .val (.int p2), .val (.int p3), .val (.int p4), .val (.int p5), .unset, .unset, .unset, .unset, .unset, .unset, .unset, .unset, .unset] [])) rfl (hb hby at_0) (by decide) (by decide)
  obtain ⟨b1, g1⟩ : ∃ z, z = h0.size := ⟨_, rfl⟩
  rw [← g1] at A1 D1 st1
  have sz_b1 : h0.size ≤ b1 := Nat.le_trans K0.1 (Nat.le_of_eq g1.symm)
  have g_b1 : n0 ≤ b1 := Nat.le_trans Z0 sz_b1
  have K2 := K0.ext E1
  have O2 := O0.ext E1
  have F1_12 : Fld Z h1 b1 cn0 "formats" cn10 .null := D1 (Or.inr (w12 hw)) (ty := (.array (.object cn9))) (by decide)
  have F1_16 : Fld Z h1 b1 cn0 "layouts" cn6 .null := D1 (Or.inr (w16 hw)) (ty := (.array (.object cn3))) (by decide)
  have F1_34 : Fld Z h1 b1 cn0 "itemLayouts" "Ljava/util/Map;" .null := D1 (Or.inr (w34 hw)) (ty := (.object "java/util/Map")) (by decide)
  have F1_50 : Fld Z h1 b1 cn0 "subElements" "Ljava/util/Map;" .null := D1 (Or.inr (w50 hw)) (ty := (.object "java/util/Map")) (by decide)
  refine Gets.of st1 ?_
  show Gets p e below _ (T1.setTop (mkF m 3 #[.val (.int p1), .val (.int p2), .val (.int p3), .val (.int p4), .val (.int p5), .unset, .unset, .unset, .unset, .unset, .unset, .unset, .unset, .unset] [(.ref b1)]))
  refine Gets.of (fun t k => XS.dup X1.here hx rfl (hb hby at_3) rfl rfl k) ?_
  obtain ⟨_, _, ⟨T3, L3, k3, n3⟩, -, X3, ⟨Lc3, hQ3, l3, y3, z3⟩, st3⟩ := X1.specialBack hx (y := (⟨cn0, "<init>", "()V"⟩ : MethodName)) rfl hown (mvT hZ (w3 hw)) (mvT hZ (w4 hw)) (mvT hZ (w5 hw)) (by decide) (backOf (W := 1) (r1_init l Z a0 hw [] b1 h1 n0 O2 A1 F1_12 F1_16 F1_34 F1_50 g_b1) hZ (w5 hw) (w2 hw) (by decide) (by decide)) (g := (mkF m 4 #[.val (.int p1), .val (.int p2), .val (.int p3), .val (.int p4), .val (.int p5), .unset, .unset, .unset, .unset, .unset, .unset, .unset, .unset, .unset] [(.ref b1), (.ref b1)])) rfl (by rw [hml]; rfl) (Steps.refl _) (a := b1) (argsL := []) (rest := [(.ref b1)]) (lenOf pd__V rfl) rfl (by show 2 * 0 + _ ≤ _; exact Nat.le_of_eq rfl) (hb hby at_4) (fun _ _ => ⟨rfl, e1, (by decide : 1 + 4 ≤ _), (by decide : 4 + 275 ≤ _)⟩)
  dsimp only [Pt.U, Pt.locs, Pt.cells, Pt.slots] at X3 l3 y3 z3 st3 hQ3
  subst l3 y3 z3
  obtain ⟨Nq3, Kq3, hR3⟩ := hQ3
  have N3 := Fr.app N0 Nq3
  have K4 : Keep h0 _ [] := K2.trans Kq3 (allS (Or.inr sz_b1) all0)
  have O4 := O2.keep Kq3 (allS g_b1 all0)
  obtain ⟨b2_3, b11_3, b18_3, b27_3, k2_3, k11_3, rfl, bz3_0, bz3_1, bz3_2, bz3_3, bn3_0, bn3_1, bn3_2, bn3_3, bn3_4, bn3_5, bf3_0, bf3_1, bf3_2, bf3_3, bf3_4, bf3_5, bf3_6, bf3_7, bf3_8, bf3_9, bf3_10, bf3_11, bf3_12, bf3_13, bf3_14, bf3_15, bf3_16⟩ := hR3
  have sz_b2_3 : h0.size ≤ b2_3 := Nat.le_trans K2.1 bz3_0
  have g_b2_3 : n0 ≤ b2_3 := Nat.le_trans Z0 sz_b2_3
  have sz_b11_3 : h0.size ≤ b11_3 := Nat.le_trans K2.1 bz3_1
  have g_b11_3 : n0 ≤ b11_3 := Nat.le_trans Z0 sz_b11_3
  have sz_b18_3 : h0.size ≤ b18_3 := Nat.le_trans K2.1 bz3_2
  have g_b18_3 : n0 ≤ b18_3 := Nat.le_trans Z0 sz_b18_3
  have sz_b27_3 : h0.size ≤ b27_3 := Nat.le_trans K2.1 bz3_3
  have g_b27_3 : n0 ≤ b27_3 := Nat.le_trans Z0 sz_b27_3
  refine Gets.tr st3 ?_
  show Gets p e below _ (T3.setTop (mkF m 7 #[.val (.int p1), .val (.int p2), .val (.int p3), .val (.int p4), .val (.int p5), .unset, .unset, .unset, .unset, .unset, .unset, .unset, .unset, .unset] [(.ref b1)]))
  refine Gets.of (fun t k => XS.astore X3.here hx rfl (hb hby at_7) rfl rfl (l' := #[.val (.int p1), .val (.int p2), .val (.int p3), .val (.int p4), .val (.int p5), .val (.ref b1), .unset, .unset, .unset, .unset, .unset, .unset, .unset, .unset]) rfl k) ?_
  show Gets p e below _ (T3.setTop (mkF m 9 #[.val (.int p1), .val (.int p2), .val (.int p3), .val (.int p4), .val (.int p5), .val (.ref b1), .unset, .unset, .unset, .unset, .unset, .unset, .unset, .unset] []))
  refine Gets.of (fun t k => XS.iloadN X3.here hx rfl (hb hby at_9) rfl  k) ?_
  refine Gets.of (fun t k => X3.ldcInt hx hown (mvT hZ (w51 hw)) (g := (mkF m 10 #[.val (.int p1), .val (.int p2), .val (.int p3), .val (.int p4), .val (.int p5), .val (.ref b1), .unset, .unset, .unset, .unset, .unset, .unset, .unset, .unset] [(.int p1)])) rfl (hb hby at_10) t k) ?_
  show Gets p e below _ (T3.setTop (mkF m 12 #[.val (.int p1), .val (.int p2), .val (.int p3), .val (.int p4), .val (.int p5), .val (.ref b1), .unset, .unset, .unset, .unset, .unset, .unset, .unset, .unset] [(.int (2147483647 : Int32)), (.int p1)]))
  refine Gets.of (fun t k => XS.iand X3.here hx rfl (hb hby at_12) rfl k) ?_
  show Gets p e below _ (T3.setTop (mkF m 13 #[.val (.int p1), .val (.int p2), .val (.int p3), .val (.int p4), .val (.int p5), .val (.ref b1), .unset, .unset, .unset, .unset, .unset, .unset, .unset, .unset] [(.int (p1 &&& (2147483647 : Int32)))]))
  refine Gets.of (fun t k => XS.sipush X3.here hx rfl (hb hby at_13) k) ?_
  refine Gets.of (fun t k => iremM (g := (mkF m 16 #[.val (.int p1), .val (.int p2), .val (.int p3), .val (.int p4), .val (.int p5), .val (.ref b1), .unset, .unset, .unset, .unset, .unset, .unset, .unset, .unset] [(.int (129 : Int32)), (.int (p1 &&& (2147483647 : Int32)))])) X3 hx rfl (hb hby at_16) rfl (by decide) k) ?_
  show Gets p e below _ (T3.setTop (mkF m 17 #[.val (.int p1), .val (.int p2), .val (.int p3), .val (.int p4), .val (.int p5), .val (.ref b1), .unset, .unset, .unset, .unset, .unset, .unset, .unset, .unset] [(.int ((p1 &&& (2147483647 : Int32)) % (129 : Int32)))]))
  refine Gets.of (fun t k => XS.istore X3.here hx rfl (hb hby at_17) rfl (l' := #[.val (.int p1), .val (.int p2), .val (.int p3), .val (.int p4), .val (.int p5), .val (.ref b1), .val (.int ((p1 &&& (2147483647 : Int32)) % (129 : Int32))), .unset, .unset, .unset, .unset, .unset, .unset, .unset]) rfl k) ?_
  show Gets p e below _ (T3.setTop (mkF m 19 #[.val (.int p1), .val (.int p2), .val (.int p3), .val (.int p4), .val (.int p5), .val (.ref b1), .val (.int ((p1 &&& (2147483647 : Int32)) % (129 : Int32))), .unset, .unset, .unset, .unset, .unset, .unset, .unset] []))
  refine Gets.of (fun t k => XS.iloadN X3.here hx rfl (hb hby at_19) rfl  k) ?_
  refine Gets.of (fun t k => X3.ldcInt hx hown (mvT hZ (w51 hw)) (g := (mkF m 20 #[.val (.int p1), .val (.int p2), .val (.int p3), .val (.int p4), .val (.int p5), .val (.ref b1), .val (.int ((p1 &&& (2147483647 : Int32)) % (129 : Int32))), .unset, .unset, .unset, .unset, .unset, .unset, .unset] [(.int p2)])) rfl (hb hby at_20) t k) ?_
  show Gets p e below _ (T3.setTop (mkF m 22 #[.val (.int p1), .val (.int p2), .val (.int p3), .val (.int p4), .val (.int p5), .val (.ref b1), .val (.int ((p1 &&& (2147483647 : Int32)) % (129 : Int32))), .unset, .unset, .unset, .unset, .unset, .unset, .unset] [(.int (2147483647 : Int32)), (.int p2)]))
  refine Gets.of (fun t k => XS.iand X3.here hx rfl (hb hby at_22) rfl k) ?_
  show Gets p e below _ (T3.setTop (mkF m 23 #[.val (.int p1), .val (.int p2), .val (.int p3), .val (.int p4), .val (.int p5), .val (.ref b1), .val (.int ((p1 &&& (2147483647 : Int32)) % (129 : Int32))), .unset, .unset, .unset, .unset, .unset, .unset, .unset] [(.int (p2 &&& (2147483647 : Int32)))]))
  refine Gets.of (fun t k => XS.sipush X3.here hx rfl (hb hby at_23) k) ?_
  refine Gets.of (fun t k => iremM (g := (mkF m 26 #[.val (.int p1), .val (.int p2), .val (.int p3), .val (.int p4), .val (.int p5), .val (.ref b1), .val (.int ((p1 &&& (2147483647 : Int32)) % (129 : Int32))), .unset, .unset, .unset, .unset, .unset, .unset, .unset] [(.int (129 : Int32)), (.int (p2 &&& (2147483647 : Int32)))])) X3 hx rfl (hb hby at_26) rfl (by decide) k) ?_
  show Gets p e below _ (T3.setTop (mkF m 27 #[.val (.int p1), .val (.int p2), .val (.int p3), .val (.int p4), .val (.int p5), .val (.ref b1), .val (.int ((p1 &&& (2147483647 : Int32)) % (129 : Int32))), .unset, .unset, .unset, .unset, .unset, .unset, .unset] [(.int ((p2 &&& (2147483647 : Int32)) % (129 : Int32)))]))
  refine Gets.of (fun t k => XS.istore X3.here hx rfl (hb hby at_27) rfl (l' := #[.val (.int p1), .val (.int p2), .val (.int p3), .val (.int p4), .val (.int p5), .val (.ref b1), .val (.int ((p1 &&& (2147483647 : Int32)) % (129 : Int32))), .val (.int ((p2 &&& (2147483647 : Int32)) % (129 : Int32))), .unset, .unset, .unset, .unset, .unset, .unset]) rfl k) ?_
  show Gets p e below _ (T3.setTop (mkF m 29 #[.val (.int p1), .val (.int p2), .val (.int p3), .val (.int p4), .val (.int p5), .val (.ref b1), .val (.int ((p1 &&& (2147483647 : Int32)) % (129 : Int32))), .val (.int ((p2 &&& (2147483647 : Int32)) % (129 : Int32))), .unset, .unset, .unset, .unset, .unset, .unset] []))
  refine Gets.of (fun t k => XS.iloadN X3.here hx rfl (hb hby at_29) rfl  k) ?_
  refine Gets.of (fun t k => XS.istore X3.here hx rfl (hb hby at_30) rfl (l' := #[.val (.int p1), .val (.int p2), .val (.int p3), .val (.int p4), .val (.int p5), .val (.ref b1), .val (.int ((p1 &&& (2147483647 : Int32)) % (129 : Int32))), .val (.int ((p2 &&& (2147483647 : Int32)) % (129 : Int32))), .val (.int p3), .unset, .unset, .unset, .unset, .unset]) rfl k) ?_
  show Gets p e below _ (T3.setTop (mkF m 32 #[.val (.int p1), .val (.int p2), .val (.int p3), .val (.int p4), .val (.int p5), .val (.ref b1), .val (.int ((p1 &&& (2147483647 : Int32)) % (129 : Int32))), .val (.int ((p2 &&& (2147483647 : Int32)) % (129 : Int32))), .val (.int p3), .unset, .unset, .unset, .unset, .unset] []))
  refine Gets.of (fun t k => XS.iloadN X3.here hx rfl (hb hby at_32) rfl  k) ?_
  refine Gets.of (fun t k => XS.sipush X3.here hx rfl (hb hby at_33) k) ?_
  refine Gets.of (fun t k => iremM (g := (mkF m 36 #[.val (.int p1), .val (.int p2), .val (.int p3), .val (.int p4), .val (.int p5), .val (.ref b1), .val (.int ((p1 &&& (2147483647 : Int32)) % (129 : Int32))), .val (.int ((p2 &&& (2147483647 : Int32)) % (129 : Int32))), .val (.int p3), .unset, .unset, .unset, .unset, .unset] [(.int (200 : Int32)), (.int p4)])) X3 hx rfl (hb hby at_36) rfl (by decide) k) ?_
  show Gets p e below _ (T3.setTop (mkF m 37 #[.val (.int p1), .val (.int p2), .val (.int p3), .val (.int p4), .val (.int p5), .val (.ref b1), .val (.int ((p1 &&& (2147483647 : Int32)) % (129 : Int32))), .val (.int ((p2 &&& (2147483647 : Int32)) % (129 : Int32))), .val (.int p3), .unset, .unset, .unset, .unset, .unset] [(.int (p4 % (200 : Int32)))]))
  refine Gets.of (fun t k => XS.istore X3.here hx rfl (hb hby at_37) rfl (l' := #[.val (.int p1), .val (.int p2), .val (.int p3), .val (.int p4), .val (.int p5), .val (.ref b1), .val (.int ((p1 &&& (2147483647 : Int32)) % (129 : Int32))), .val (.int ((p2 &&& (2147483647 : Int32)) % (129 : Int32))), .val (.int p3), .val (.int (p4 % (200 : Int32))), .unset, .unset, .unset, .unset]) rfl k) ?_
  show Gets p e below _ (T3.setTop (mkF m 39 #[.val (.int p1), .val (.int p2), .val (.int p3), .val (.int p4), .val (.int p5), .val (.ref b1), .val (.int ((p1 &&& (2147483647 : Int32)) % (129 : Int32))), .val (.int ((p2 &&& (2147483647 : Int32)) % (129 : Int32))), .val (.int p3), .val (.int (p4 % (200 : Int32))), .unset, .unset, .unset, .unset] []))
  refine Gets.of (fun t k => XS.iload X3.here hx rfl (hb hby at_39) rfl  k) ?_
  refine Gets.of (fun t k => XS.iconst X3.here hx rfl (hb hby at_41) k) ?_
  refine Gets.of (fun t k => XS.iand X3.here hx rfl (hb hby at_42) rfl k) ?_
  show Gets p e below _ (T3.setTop (mkF m 43 #[.val (.int p1), .val (.int p2), .val (.int p3), .val (.int p4), .val (.int p5), .val (.ref b1), .val (.int ((p1 &&& (2147483647 : Int32)) % (129 : Int32))), .val (.int ((p2 &&& (2147483647 : Int32)) % (129 : Int32))), .val (.int p3), .val (.int (p4 % (200 : Int32))), .unset, .unset, .unset, .unset] [(.int (p5 &&& (1 : Int32)))]))
  by_cases hc5 : (p5 &&& (1 : Int32)) = (0 : Int32)
  · skip
    refine Gets.of (fun t k => XS.ifYes X3.here hx rfl (pc0 := 43) (pc' := 57) rfl (hb hby at_43) rfl ((if0 _ _).trans (teq hc5).1) (by decide) (by decide) k) ?_
    show Gets p e below _ (T3.setTop (mkF m 57 #[.val (.int p1), .val (.int p2), .val (.int p3), .val (.int p4), .val (.int p5), .val (.ref b1), .val (.int ((p1 &&& (2147483647 : Int32)) % (129 : Int32))), .val (.int ((p2 &&& (2147483647 : Int32)) % (129 : Int32))), .val (.int p3), .val (.int (p4 % (200 : Int32))), .unset, .unset, .unset, .unset] []))
    refine Gets.of (fun t k => XS.iconst X3.here hx rfl (hb hby at_57) k) ?_
    refine Gets.of (fun t k => XS.istore X3.here hx rfl (hb hby at_58) rfl (l' := #[.val (.int p1), .val (.int p2), .val (.int p3), .val (.int p4), .val (.int p5), .val (.ref b1), .val (.int ((p1 &&& (2147483647 : Int32)) % (129 : Int32))), .val (.int ((p2 &&& (2147483647 : Int32)) % (129 : Int32))), .val (.int p3), .val (.int (p4 % (200 : Int32))), .val (.int (0 : Int32)), .unset, .unset, .unset]) rfl k) ?_
    show Gets p e below _ (T3.setTop (mkF m 60 #[.val (.int p1), .val (.int p2), .val (.int p3), .val (.int p4), .val (.int p5), .val (.ref b1), .val (.int ((p1 &&& (2147483647 : Int32)) % (129 : Int32))), .val (.int ((p2 &&& (2147483647 : Int32)) % (129 : Int32))), .val (.int p3), .val (.int (p4 % (200 : Int32))), .val (.int (0 : Int32)), .unset, .unset, .unset] []))
    obtain ⟨T6, X6, e6, st6⟩ := getS2 X3 hx hZ hown (host := "") (Or.inl (w52 hw)) Via.refl rfl (oS13.ext O4.2) (g := (mkF m 60 #[.val (.int p1), .val (.int p2), .val (.int p3), .val (.int p4), .val (.int p5), .val (.ref b1), .val (.int ((p1 &&& (2147483647 : Int32)) % (129 : Int32))), .val (.int ((p2 &&& (2147483647 : Int32)) % (129 : Int32))), .val (.int p3), .val (.int (p4 % (200 : Int32))), .val (.int (0 : Int32)), .unset, .unset, .unset] [])) rfl (hb hby at_60)
    refine Gets.of st6 ?_
    show Gets p e below _ (T6.setTop (mkF m 63 #[.val (.int p1), .val (.int p2), .val (.int p3), .val (.int p4), .val (.int p5), .val (.ref b1), .val (.int ((p1 &&& (2147483647 : Int32)) % (129 : Int32))), .val (.int ((p2 &&& (2147483647 : Int32)) % (129 : Int32))), .val (.int p3), .val (.int (p4 % (200 : Int32))), .val (.int (0 : Int32)), .unset, .unset, .unset] [(.ref ov11)]))
    refine Gets.of (fun t k => XS.astore X6.here hx rfl (hb hby at_63) rfl rfl (l' := #[.val (.int p1), .val (.int p2), .val (.int p3), .val (.int p4), .val (.int p5), .val (.ref b1), .val (.int ((p1 &&& (2147483647 : Int32)) % (129 : Int32))), .val (.int ((p2 &&& (2147483647 : Int32)) % (129 : Int32))), .val (.int p3), .val (.int (p4 % (200 : Int32))), .val (.int (0 : Int32)), .val (.ref ov11), .unset, .unset]) rfl k) ?_
    show Gets p e below _ (T6.setTop (mkF m 65 #[.val (.int p1), .val (.int p2), .val (.int p3), .val (.int p4), .val (.int p5), .val (.ref b1), .val (.int ((p1 &&& (2147483647 : Int32)) % (129 : Int32))), .val (.int ((p2 &&& (2147483647 : Int32)) % (129 : Int32))), .val (.int p3), .val (.int (p4 % (200 : Int32))), .val (.int (0 : Int32)), .val (.ref ov11), .unset, .unset] []))
    obtain ⟨T7, X7, e7, st7⟩ := getS2 X6 hx hZ hown (host := "") (Or.inl (w55 hw)) Via.refl e6 (oS17.ext O4.2) (g := (mkF m 65 #[.val (.int p1), .val (.int p2), .val (.int p3), .val (.int p4), .val (.int p5), .val (.ref b1), .val (.int ((p1 &&& (2147483647 : Int32)) % (129 : Int32))), .val (.int ((p2 &&& (2147483647 : Int32)) % (129 : Int32))), .val (.int p3), .val (.int (p4 % (200 : Int32))), .val (.int (0 : Int32)), .val (.ref ov11), .unset, .unset] [])) rfl (hb hby at_65)
    refine Gets.of st7 ?_
    show Gets p e below _ (T7.setTop (mkF m 68 #[.val (.int p1), .val (.int p2), .val (.int p3), .val (.int p4), .val (.int p5), .val (.ref b1), .val (.int ((p1 &&& (2147483647 : Int32)) % (129 : Int32))), .val (.int ((p2 &&& (2147483647 : Int32)) % (129 : Int32))), .val (.int p3), .val (.int (p4 % (200 : Int32))), .val (.int (0 : Int32)), .val (.ref ov11), .unset, .unset] [(.ref ov15)]))
    refine Gets.of (fun t k => XS.astore X7.here hx rfl (hb hby at_68) rfl rfl (l' := #[.val (.int p1), .val (.int p2), .val (.int p3), .val (.int p4), .val (.int p5), .val (.ref b1), .val (.int ((p1 &&& (2147483647 : Int32)) % (129 : Int32))), .val (.int ((p2 &&& (2147483647 : Int32)) % (129 : Int32))), .val (.int p3), .val (.int (p4 % (200 : Int32))), .val (.int (0 : Int32)), .val (.ref ov11), .val (.ref ov15), .unset]) rfl k) ?_
    show Gets p e below _ (T7.setTop (mkF m 70 #[.val (.int p1), .val (.int p2), .val (.int p3), .val (.int p4), .val (.int p5), .val (.ref b1), .val (.int ((p1 &&& (2147483647 : Int32)) % (129 : Int32))), .val (.int ((p2 &&& (2147483647 : Int32)) % (129 : Int32))), .val (.int p3), .val (.int (p4 % (200 : Int32))), .val (.int (0 : Int32)), .val (.ref ov11), .val (.ref ov15), .unset] []))
    refine Gets.of (fun t k => XS.aload X7.here hx rfl (hb hby at_70) rfl rfl  k) ?_
    refine Gets.of (fun t k => XS.iload X7.here hx rfl (hb hby at_72) rfl  k) ?_
    have f9 : Exa Z T3.heap b1 cn0 := (A1.keep Kq3)
    obtain ⟨cq8, kq8, q8a, q8b, q8c⟩ := isOf hZ e7 f9
    obtain ⟨_, _, ⟨T8, L8, k8, n8⟩, -, X8, ⟨Lc8, hQ8, l8, y8, z8⟩, st8⟩ := X7.virtualBack hx (y := (⟨cn0, "layout", cn2⟩ : MethodName)) (z := (⟨cn0, "layout", cn2⟩ : MethodName)) hown (mvT hZ (w58 hw)) (mvT hZ (w59 hw)) (notFace_of_selects (args := #[]) (mvT hZ (w61 hw))) (mvT hZ (w61 hw)) (mvT hZ (w60 hw)) (by decide) (backOf (W := 0) (r5_layout l Z a0 hw [] b1 p3 b11_3 k11_3 T3.heap n0 O4 bf3_1 bf3_6) hZ (w62 hw) (w2 hw) (by decide) (by decide)) q8a q8c (g := (mkF m 74 #[.val (.int p1), .val (.int p2), .val (.int p3), .val (.int p4), .val (.int p5), .val (.ref b1), .val (.int ((p1 &&& (2147483647 : Int32)) % (129 : Int32))), .val (.int ((p2 &&& (2147483647 : Int32)) % (129 : Int32))), .val (.int p3), .val (.int (p4 % (200 : Int32))), .val (.int (0 : Int32)), .val (.ref ov11), .val (.ref ov15), .unset] [(.int p3), (.ref b1)])) rfl (by rw [hml]; rfl) (Steps.refl _) (argsL := [(.int p3)]) (rest := []) (lenOf pd__I_Lcom_example_cardwire_cardwire_core_Layout_ rfl) rfl (by show 2 * 0 + _ ≤ _; exact Nat.le_of_eq rfl) (hb hby at_74) (fun _ _ => ⟨rfl, e7, (by decide : 5 + 0 ≤ _), (by decide : 279 + 0 ≤ _)⟩)
    dsimp only [Pt.U, Pt.locs, Pt.cells, Pt.slots] at X8 l8 y8 z8 st8 hQ8
    subst l8 y8 z8
    obtain ⟨Nq8, eq8, hR8⟩ := hQ8
    have N8 := Fr.app N3 Nq8
    obtain rfl := hR8
    refine Gets.tr st8 ?_
    show Gets p e below _ (T8.setTop (mkF m 77 #[.val (.int p1), .val (.int p2), .val (.int p3), .val (.int p4), .val (.int p5), .val (.ref b1), .val (.int ((p1 &&& (2147483647 : Int32)) % (129 : Int32))), .val (.int ((p2 &&& (2147483647 : Int32)) % (129 : Int32))), .val (.int p3), .val (.int (p4 % (200 : Int32))), .val (.int (0 : Int32)), .val (.ref ov11), .val (.ref ov15), .unset] [.null]))
    refine Gets.of (fun t k => XS.ifnonnullNo X8.here hx rfl (hb hby at_77) rfl k) ?_
    show Gets p e below _ (T8.setTop (mkF m 80 #[.val (.int p1), .val (.int p2), .val (.int p3), .val (.int p4), .val (.int p5), .val (.ref b1), .val (.int ((p1 &&& (2147483647 : Int32)) % (129 : Int32))), .val (.int ((p2 &&& (2147483647 : Int32)) % (129 : Int32))), .val (.int p3), .val (.int (p4 % (200 : Int32))), .val (.int (0 : Int32)), .val (.ref ov11), .val (.ref ov15), .unset] []))
    refine Gets.of (fun t k => XS.aload X8.here hx rfl (hb hby at_80) rfl rfl  k) ?_
    refine Gets.of (fun t k => XS.iload X8.here hx rfl (hb hby at_82) rfl  k) ?_
    obtain ⟨cq10, kq10, q10a, q10b, q10c⟩ := isOf hZ eq8 f9
    obtain ⟨_, _, ⟨T10, L10, k10, n10⟩, -, X10, ⟨Lc10, hQ10, l10, y10, z10⟩, st10⟩ := X8.virtualBack hx (y := (⟨cn0, "layout", cn2⟩ : MethodName)) (z := (⟨cn0, "layout", cn2⟩ : MethodName)) hown (mvT hZ (w58 hw)) (mvT hZ (w59 hw)) (notFace_of_selects (args := #[]) (mvT hZ (w61 hw))) (mvT hZ (w61 hw)) (mvT hZ (w60 hw)) (by decide) (backOf (W := 0) (r5_layout l Z a0 hw [] b1 (p4 % (200 : Int32)) b11_3 k11_3 T3.heap n0 O4 bf3_1 bf3_6) hZ (w62 hw) (w2 hw) (by decide) (by decide)) q10a q10c (g := (mkF m 84 #[.val (.int p1), .val (.int p2), .val (.int p3), .val (.int p4), .val (.int p5), .val (.ref b1), .val (.int ((p1 &&& (2147483647 : Int32)) % (129 : Int32))), .val (.int ((p2 &&& (2147483647 : Int32)) % (129 : Int32))), .val (.int p3), .val (.int (p4 % (200 : Int32))), .val (.int (0 : Int32)), .val (.ref ov11), .val (.ref ov15), .unset] [(.int (p4 % (200 : Int32))), (.ref b1)])) rfl (by rw [hml]; rfl) (Steps.refl _) (argsL := [(.int (p4 % (200 : Int32)))]) (rest := []) (lenOf pd__I_Lcom_example_cardwire_cardwire_core_Layout_ rfl) rfl (by show 2 * 0 + _ ≤ _; exact Nat.le_of_eq rfl) (hb hby at_84) (fun _ _ => ⟨rfl, eq8, (by decide : 5 + 0 ≤ _), (by decide : 279 + 0 ≤ _)⟩)
    dsimp only [Pt.U, Pt.locs, Pt.cells, Pt.slots] at X10 l10 y10 z10 st10 hQ10
    subst l10 y10 z10
    obtain ⟨Nq10, eq10, hR10⟩ := hQ10
    have N10 := Fr.app N8 Nq10
    obtain rfl := hR10
    refine Gets.tr st10 ?_
    show Gets p e below _ (T10.setTop (mkF m 87 #[.val (.int p1), .val (.int p2), .val (.int p3), .val (.int p4), .val (.int p5), .val (.ref b1), .val (.int ((p1 &&& (2147483647 : Int32)) % (129 : Int32))), .val (.int ((p2 &&& (2147483647 : Int32)) % (129 : Int32))), .val (.int p3), .val (.int (p4 % (200 : Int32))), .val (.int (0 : Int32)), .val (.ref ov11), .val (.ref ov15), .unset] [.null]))
    refine Gets.of (fun t k => XS.ifnonnullNo X10.here hx rfl (hb hby at_87) rfl k) ?_
    show Gets p e below _ (T10.setTop (mkF m 90 #[.val (.int p1), .val (.int p2), .val (.int p3), .val (.int p4), .val (.int p5), .val (.ref b1), .val (.int ((p1 &&& (2147483647 : Int32)) % (129 : Int32))), .val (.int ((p2 &&& (2147483647 : Int32)) % (129 : Int32))), .val (.int p3), .val (.int (p4 % (200 : Int32))), .val (.int (0 : Int32)), .val (.ref ov11), .val (.ref ov15), .unset] []))
    refine Gets.of (fun t k => XS.iconst X10.here hx rfl (hb hby at_90) k) ?_
    refine Gets.of (fun t k => XS.goto X10.here hx rfl (pc0 := 91) (pc' := 95) rfl (hb hby at_91) (by decide) (by decide) k) ?_
    show Gets p e below _ (T10.setTop (mkF m 95 #[.val (.int p1), .val (.int p2), .val (.int p3), .val (.int p4), .val (.int p5), .val (.ref b1), .val (.int ((p1 &&& (2147483647 : Int32)) % (129 : Int32))), .val (.int ((p2 &&& (2147483647 : Int32)) % (129 : Int32))), .val (.int p3), .val (.int (p4 % (200 : Int32))), .val (.int (0 : Int32)), .val (.ref ov11), .val (.ref ov15), .unset] [(.int (1 : Int32))]))
    refine Gets.of (fun t k => XS.istore X10.here hx rfl (hb hby at_95) rfl (l' := #[.val (.int p1), .val (.int p2), .val (.int p3), .val (.int p4), .val (.int p5), .val (.ref b1), .val (.int ((p1 &&& (2147483647 : Int32)) % (129 : Int32))), .val (.int ((p2 &&& (2147483647 : Int32)) % (129 : Int32))), .val (.int p3), .val (.int (p4 % (200 : Int32))), .val (.int (0 : Int32)), .val (.ref ov11), .val (.ref ov15), .val (.int (1 : Int32))]) rfl k) ?_
    show Gets p e below _ (T10.setTop (mkF m 97 #[.val (.int p1), .val (.int p2), .val (.int p3), .val (.int p4), .val (.int p5), .val (.ref b1), .val (.int ((p1 &&& (2147483647 : Int32)) % (129 : Int32))), .val (.int ((p2 &&& (2147483647 : Int32)) % (129 : Int32))), .val (.int p3), .val (.int (p4 % (200 : Int32))), .val (.int (0 : Int32)), .val (.ref ov11), .val (.ref ov15), .val (.int (1 : Int32))] []))
    refine Gets.of (fun t k => XS.aload X10.here hx rfl (hb hby at_97) rfl rfl  k) ?_
    refine Gets.of (fun t k => XS.iload X10.here hx rfl (hb hby at_99) rfl  k) ?_
    refine Gets.of (fun t k => XS.aload X10.here hx rfl (hb hby at_101) rfl rfl  k) ?_
    obtain ⟨cq11, kq11, q11a, q11b, q11c⟩ := isOf hZ eq10 f9
    obtain ⟨_, _, ⟨T11, L11, k11, n11⟩, -, X11, ⟨Lc11, hQ11, l11, y11, z11⟩, st11⟩ := X10.virtualBack hx (y := (⟨cn0, "layOut", cn7⟩ : MethodName)) (z := (⟨cn0, "layOut", cn7⟩ : MethodName)) hown (mvT hZ (w63 hw)) (mvT hZ (w64 hw)) (notFace_of_selects (args := #[]) (mvT hZ (w66 hw))) (mvT hZ (w66 hw)) (mvT hZ (w65 hw)) (by decide) (backOf (W := 0) (r6_layOut l Z a0 hw [] b1 ((p1 &&& (2147483647 : Int32)) % (129 : Int32)) ov11 b11_3 k11_3 b27_3 ov3 oc6 T3.heap n0 O4 bf3_1 bf3_6 bf3_3 bf3_10 bf3_13 bf3_14 bf3_16 oS2 oS5 oE14 g_b11_3 (own_n129a p1) (own_n129b p1) hbx (by have := own_mod129 p1; rw [Int32.lt_iff_toInt_lt]; simp only [Int32.reduceToInt]; omega)) hZ (w67 hw) (w2 hw) (by decide) (by decide)) q11a q11c (g := (mkF m 103 #[.val (.int p1), .val (.int p2), .val (.int p3), .val (.int p4), .val (.int p5), .val (.ref b1), .val (.int ((p1 &&& (2147483647 : Int32)) % (129 : Int32))), .val (.int ((p2 &&& (2147483647 : Int32)) % (129 : Int32))), .val (.int p3), .val (.int (p4 % (200 : Int32))), .val (.int (0 : Int32)), .val (.ref ov11), .val (.ref ov15), .val (.int (1 : Int32))] [(.ref ov11), (.int ((p1 &&& (2147483647 : Int32)) % (129 : Int32))), (.ref b1)])) rfl (by rw [hml]; rfl) (Steps.refl _) (argsL := [(.int ((p1 &&& (2147483647 : Int32)) % (129 : Int32))), (.ref ov11)]) (rest := []) (lenOf pd__ILcom_example_cardwire_cardwire_core_Layout_V rfl) rfl (by show 2 * 0 + _ ≤ _; exact Nat.le_of_eq rfl) (hb hby at_103) (fun _ _ => ⟨rfl, eq10, (by decide : 5 + 1 ≤ _), (by decide : 279 + 1 ≤ _)⟩)
    dsimp only [Pt.U, Pt.locs, Pt.cells, Pt.slots] at X11 l11 y11 z11 st11 hQ11
    subst l11 y11 z11
    obtain ⟨Nq11, Kq11, hR11⟩ := hQ11
    have N11 := Fr.app N10 Nq11
    have K12 : Keep h0 _ [] := K4.trans Kq11 (allS (Or.inr sz_b11_3) all0)
    have O12 := O4.keep Kq11 (allS g_b11_3 all0)
    obtain ⟨rfl, bf11_0, bf11_1⟩ := hR11
    refine Gets.tr st11 ?_
    show Gets p e below _ (T11.setTop (mkF m 106 #[.val (.int p1), .val (.int p2), .val (.int p3), .val (.int p4), .val (.int p5), .val (.ref b1), .val (.int ((p1 &&& (2147483647 : Int32)) % (129 : Int32))), .val (.int ((p2 &&& (2147483647 : Int32)) % (129 : Int32))), .val (.int p3), .val (.int (p4 % (200 : Int32))), .val (.int (0 : Int32)), .val (.ref ov11), .val (.ref ov15), .val (.int (1 : Int32))] []))
    refine Gets.of (fun t k => XS.iload X11.here hx rfl (hb hby at_106) rfl  k) ?_
    refine Gets.of (fun t k => XS.ifYes X11.here hx rfl (pc0 := 108) (pc' := 120) rfl (hb hby at_108) rfl ((if0 _ _).trans (teq (by decide : (0 : Int32) = (0 : Int32))).1) (by decide) (by decide) k) ?_
    show Gets p e below _ (T11.setTop (mkF m 120 #[.val (.int p1), .val (.int p2), .val (.int p3), .val (.int p4), .val (.int p5), .val (.ref b1), .val (.int ((p1 &&& (2147483647 : Int32)) % (129 : Int32))), .val (.int ((p2 &&& (2147483647 : Int32)) % (129 : Int32))), .val (.int p3), .val (.int (p4 % (200 : Int32))), .val (.int (0 : Int32)), .val (.ref ov11), .val (.ref ov15), .val (.int (1 : Int32))] []))
    refine Gets.of (fun t k => XS.iload X11.here hx rfl (hb hby at_120) rfl  k) ?_
    refine Gets.of (fun t k => XS.ifNo X11.here hx rfl (hb hby at_122) rfl ((if0 _ _).trans (feq (by decide : ¬ ((1 : Int32) = (0 : Int32)))).1) k) ?_
    show Gets p e below _ (T11.setTop (mkF m 125 #[.val (.int p1), .val (.int p2), .val (.int p3), .val (.int p4), .val (.int p5), .val (.ref b1), .val (.int ((p1 &&& (2147483647 : Int32)) % (129 : Int32))), .val (.int ((p2 &&& (2147483647 : Int32)) % (129 : Int32))), .val (.int p3), .val (.int (p4 % (200 : Int32))), .val (.int (0 : Int32)), .val (.ref ov11), .val (.ref ov15), .val (.int (1 : Int32))] []))
    refine Gets.of (fun t k => XS.aload X11.here hx rfl (hb hby at_125) rfl rfl  k) ?_
    refine Gets.of (fun t k => XS.iload X11.here hx rfl (hb hby at_127) rfl  k) ?_
    have f13 : Fld Z T11.heap b1 cn0 "layouts" cn6 (.ref b11_3) := (bf3_1.keep Kq11 (ninS (Nat.ne_of_lt (Nat.lt_of_lt_of_le A1.lt bz3_1)) nin0))
    have f15 : Exa Z T11.heap b1 cn0 := (f9.keep Kq11)
    obtain ⟨cq14, kq14, q14a, q14b, q14c⟩ := isOf hZ rfl f15
    obtain ⟨_, _, ⟨T14, L14, k14, n14⟩, -, X14, ⟨Lc14, hQ14, l14, y14, z14⟩, st14⟩ := X11.virtualBack hx (y := (⟨cn0, "layout", cn2⟩ : MethodName)) (z := (⟨cn0, "layout", cn2⟩ : MethodName)) hown (mvT hZ (w58 hw)) (mvT hZ (w59 hw)) (notFace_of_selects (args := #[]) (mvT hZ (w61 hw))) (mvT hZ (w61 hw)) (mvT hZ (w60 hw)) (by decide) (backOf (W := 0) (rm_lay1 l Z a0 hw [] b1 b11_3 k11_3 p3 ((p1 &&& (2147483647 : Int32)) % (129 : Int32)) ov11 T11.heap n0 O12 f13 bf11_0 (own_n129a p1) (own_n129b p1)) hZ (w62 hw) (w2 hw) (by decide) (by decide)) q14a q14c (g := (mkF m 129 #[.val (.int p1), .val (.int p2), .val (.int p3), .val (.int p4), .val (.int p5), .val (.ref b1), .val (.int ((p1 &&& (2147483647 : Int32)) % (129 : Int32))), .val (.int ((p2 &&& (2147483647 : Int32)) % (129 : Int32))), .val (.int p3), .val (.int (p4 % (200 : Int32))), .val (.int (0 : Int32)), .val (.ref ov11), .val (.ref ov15), .val (.int (1 : Int32))] [(.int p3), (.ref b1)])) rfl (by rw [hml]; rfl) (Steps.refl _) (argsL := [(.int p3)]) (rest := []) (lenOf pd__I_Lcom_example_cardwire_cardwire_core_Layout_ rfl) rfl (by show 2 * 0 + _ ≤ _; exact Nat.le_of_eq rfl) (hb hby at_129) (fun _ _ => ⟨rfl, rfl, (by decide : 6 + 0 ≤ _), (by decide : 280 + 0 ≤ _)⟩)
    dsimp only [Pt.U, Pt.locs, Pt.cells, Pt.slots] at X14 l14 y14 z14 st14 hQ14
    subst l14 y14 z14
    obtain ⟨Nq14, eq14, hR14⟩ := hQ14
    have N14 := Fr.app N11 Nq14
    obtain rfl := hR14
    refine Gets.tr st14 ?_
    show Gets p e below _ (T14.setTop (mkF m 132 #[.val (.int p1), .val (.int p2), .val (.int p3), .val (.int p4), .val (.int p5), .val (.ref b1), .val (.int ((p1 &&& (2147483647 : Int32)) % (129 : Int32))), .val (.int ((p2 &&& (2147483647 : Int32)) % (129 : Int32))), .val (.int p3), .val (.int (p4 % (200 : Int32))), .val (.int (0 : Int32)), .val (.ref ov11), .val (.ref ov15), .val (.int (1 : Int32))] [(own_h1 p3 ((p1 &&& (2147483647 : Int32)) % (129 : Int32)) ov11)]))
    refine Gets.of (fun t k => XS.iload X14.here hx rfl (hb hby at_132) rfl  k) ?_
    refine Gets.of (fun t k => XS.iload X14.here hx rfl (hb hby at_134) rfl  k) ?_
    refine Gets.of (fun t k => XS.iload X14.here hx rfl (hb hby at_136) rfl  k) ?_
    refine Gets.of (fun t k => XS.iload X14.here hx rfl (hb hby at_138) rfl  k) ?_
    show Gets p e below _ (T14.setTop (mkF m 140 #[.val (.int p1), .val (.int p2), .val (.int p3), .val (.int p4), .val (.int p5), .val (.ref b1), .val (.int ((p1 &&& (2147483647 : Int32)) % (129 : Int32))), .val (.int ((p2 &&& (2147483647 : Int32)) % (129 : Int32))), .val (.int p3), .val (.int (p4 % (200 : Int32))), .val (.int (0 : Int32)), .val (.ref ov11), .val (.ref ov15), .val (.int (1 : Int32))] [(.int ((p2 &&& (2147483647 : Int32)) % (129 : Int32))), (.int (0 : Int32)), (.int ((p1 &&& (2147483647 : Int32)) % (129 : Int32))), (.int p3), (own_h1 p3 ((p1 &&& (2147483647 : Int32)) % (129 : Int32)) ov11)]))
    refine Gets.of (fun t k => XS.aload X14.here hx rfl (hb hby at_140) rfl rfl  k) ?_
    refine Gets.of (fun t k => XS.aload X14.here hx rfl (hb hby at_142) rfl rfl  k) ?_
    obtain ⟨_, _, ⟨T16, L16, k16, n16⟩, -, X16, ⟨Lc16, hQ16, l16, y16, z16⟩, st16⟩ := Jvm.LawKit.callS X14 hx (y := (⟨cn5, "expected", cn8⟩ : MethodName)) hown (mvT hZ (w98 hw)) (mvT hZ (w99 hw)) (mvT hZ (w100 hw)) (mvT hZ (w101 hw)) (by decide) (backOf (W := 1) (rm_exp0 l Z a0 hw [] p3 ((p1 &&& (2147483647 : Int32)) % (129 : Int32)) ((p2 &&& (2147483647 : Int32)) % (129 : Int32)) ov11 ov15 T11.heap n0 O12) hZ (w101 hw) (w100 hw) (by decide) (by decide)) (g := (mkF m 144 #[.val (.int p1), .val (.int p2), .val (.int p3), .val (.int p4), .val (.int p5), .val (.ref b1), .val (.int ((p1 &&& (2147483647 : Int32)) % (129 : Int32))), .val (.int ((p2 &&& (2147483647 : Int32)) % (129 : Int32))), .val (.int p3), .val (.int (p4 % (200 : Int32))), .val (.int (0 : Int32)), .val (.ref ov11), .val (.ref ov15), .val (.int (1 : Int32))] [(.ref ov15), (.ref ov11), (.int ((p2 &&& (2147483647 : Int32)) % (129 : Int32))), (.int (0 : Int32)), (.int ((p1 &&& (2147483647 : Int32)) % (129 : Int32))), (.int p3), (own_h1 p3 ((p1 &&& (2147483647 : Int32)) % (129 : Int32)) ov11)])) rfl (by rw [hml]; rfl) (argsL := [(.int p3), (.int ((p1 &&& (2147483647 : Int32)) % (129 : Int32))), (.int (0 : Int32)), (.int ((p2 &&& (2147483647 : Int32)) % (129 : Int32))), (.ref ov11), (.ref ov15)]) (rest := [(own_h1 p3 ((p1 &&& (2147483647 : Int32)) % (129 : Int32)) ov11)]) (lenOf pd__IIZILcom_example_cardwire_cardwire_core_Layout_Lcom_example_cardwire_cardwire_core_Layout_Lcom_example_cardwire_cardwire_core_Layout_ rfl) rfl (by show 2 * 0 + (List.map (fun v => v.category) [(own_h1 p3 ((p1 &&& (2147483647 : Int32)) % (129 : Int32)) ov11)]).sum ≤ _; simp only [List.map_cons, List.map_nil, own_catR (own_h1_ref _ _ _)]; exact Nat.le_of_eq rfl) (hb hby at_144) (fun _ _ => ⟨rfl, eq14, (by decide : 6 + 0 ≤ _), (by decide : 280 + 0 ≤ _)⟩)
    dsimp only [Pt.U, Pt.locs, Pt.cells, Pt.slots] at X16 l16 y16 z16 st16 hQ16
    subst l16 y16 z16
    obtain ⟨Nq16, eq16, hR16⟩ := hQ16
    have N16 := Fr.app N14 Nq16
    obtain rfl := hR16
    refine Gets.of st16 ?_
    show Gets p e below _ (T16.setTop (mkF m 147 #[.val (.int p1), .val (.int p2), .val (.int p3), .val (.int p4), .val (.int p5), .val (.ref b1), .val (.int ((p1 &&& (2147483647 : Int32)) % (129 : Int32))), .val (.int ((p2 &&& (2147483647 : Int32)) % (129 : Int32))), .val (.int p3), .val (.int (p4 % (200 : Int32))), .val (.int (0 : Int32)), .val (.ref ov11), .val (.ref ov15), .val (.int (1 : Int32))] [(own_h1 p3 ((p1 &&& (2147483647 : Int32)) % (129 : Int32)) ov11), (own_h1 p3 ((p1 &&& (2147483647 : Int32)) % (129 : Int32)) ov11)]))
    refine Gets.of (fun t k => Jvm.RoadKit.acmp (g := (mkF m 147 #[.val (.int p1), .val (.int p2), .val (.int p3), .val (.int p4), .val (.int p5), .val (.ref b1), .val (.int ((p1 &&& (2147483647 : Int32)) % (129 : Int32))), .val (.int ((p2 &&& (2147483647 : Int32)) % (129 : Int32))), .val (.int p3), .val (.int (p4 % (200 : Int32))), .val (.int (0 : Int32)), .val (.ref ov11), .val (.ref ov15), .val (.int (1 : Int32))] [(own_h1 p3 ((p1 &&& (2147483647 : Int32)) % (129 : Int32)) ov11), (own_h1 p3 ((p1 &&& (2147483647 : Int32)) % (129 : Int32)) ov11)])) X16 hx rfl (own_h1_ref _ _ _) (own_h1_ref _ _ _) (pc0 := 147) (pc' := 150) (same := true) rfl (hb hby at_147) rfl (decide_eq_true rfl) (by decide) (by decide) k) ?_
    show Gets p e below _ (T16.setTop (mkF m 150 #[.val (.int p1), .val (.int p2), .val (.int p3), .val (.int p4), .val (.int p5), .val (.ref b1), .val (.int ((p1 &&& (2147483647 : Int32)) % (129 : Int32))), .val (.int ((p2 &&& (2147483647 : Int32)) % (129 : Int32))), .val (.int p3), .val (.int (p4 % (200 : Int32))), .val (.int (0 : Int32)), .val (.ref ov11), .val (.ref ov15), .val (.int (1 : Int32))] []))
    refine Gets.of (fun t k => XS.iconst X16.here hx rfl (hb hby at_150) k) ?_
    refine Gets.of (fun t k => XS.goto X16.here hx rfl (pc0 := 151) (pc' := 155) rfl (hb hby at_151) (by decide) (by decide) k) ?_
    show Gets p e below _ (T16.setTop (mkF m 155 #[.val (.int p1), .val (.int p2), .val (.int p3), .val (.int p4), .val (.int p5), .val (.ref b1), .val (.int ((p1 &&& (2147483647 : Int32)) % (129 : Int32))), .val (.int ((p2 &&& (2147483647 : Int32)) % (129 : Int32))), .val (.int p3), .val (.int (p4 % (200 : Int32))), .val (.int (0 : Int32)), .val (.ref ov11), .val (.ref ov15), .val (.int (1 : Int32))] [(.int (1 : Int32))]))
    refine Gets.of (fun t k => XS.istore X16.here hx rfl (hb hby at_155) rfl (l' := #[.val (.int p1), .val (.int p2), .val (.int p3), .val (.int p4), .val (.int p5), .val (.ref b1), .val (.int ((p1 &&& (2147483647 : Int32)) % (129 : Int32))), .val (.int ((p2 &&& (2147483647 : Int32)) % (129 : Int32))), .val (.int p3), .val (.int (p4 % (200 : Int32))), .val (.int (0 : Int32)), .val (.ref ov11), .val (.ref ov15), .val (.int (1 : Int32))]) rfl k) ?_
    show Gets p e below _ (T16.setTop (mkF m 157 #[.val (.int p1), .val (.int p2), .val (.int p3), .val (.int p4), .val (.int p5), .val (.ref b1), .val (.int ((p1 &&& (2147483647 : Int32)) % (129 : Int32))), .val (.int ((p2 &&& (2147483647 : Int32)) % (129 : Int32))), .val (.int p3), .val (.int (p4 % (200 : Int32))), .val (.int (0 : Int32)), .val (.ref ov11), .val (.ref ov15), .val (.int (1 : Int32))] []))
    refine Gets.of (fun t k => XS.iload X16.here hx rfl (hb hby at_157) rfl  k) ?_
    refine Gets.of (fun t k => XS.ifNo X16.here hx rfl (hb hby at_159) rfl ((if0 _ _).trans (feq (by decide : ¬ ((1 : Int32) = (0 : Int32)))).1) k) ?_
    show Gets p e below _ (T16.setTop (mkF m 162 #[.val (.int p1), .val (.int p2), .val (.int p3), .val (.int p4), .val (.int p5), .val (.ref b1), .val (.int ((p1 &&& (2147483647 : Int32)) % (129 : Int32))), .val (.int ((p2 &&& (2147483647 : Int32)) % (129 : Int32))), .val (.int p3), .val (.int (p4 % (200 : Int32))), .val (.int (0 : Int32)), .val (.ref ov11), .val (.ref ov15), .val (.int (1 : Int32))] []))
    refine Gets.of (fun t k => XS.aload X16.here hx rfl (hb hby at_162) rfl rfl  k) ?_
    refine Gets.of (fun t k => XS.iload X16.here hx rfl (hb hby at_164) rfl  k) ?_
    obtain ⟨cq17, kq17, q17a, q17b, q17c⟩ := isOf hZ eq16 f15
    obtain ⟨_, _, ⟨T17, L17, k17, n17⟩, -, X17, ⟨Lc17, hQ17, l17, y17, z17⟩, st17⟩ := X16.virtualBack hx (y := (⟨cn0, "layout", cn2⟩ : MethodName)) (z := (⟨cn0, "layout", cn2⟩ : MethodName)) hown (mvT hZ (w58 hw)) (mvT hZ (w59 hw)) (notFace_of_selects (args := #[]) (mvT hZ (w61 hw))) (mvT hZ (w61 hw)) (mvT hZ (w60 hw)) (by decide) (backOf (W := 0) (rm_lay1 l Z a0 hw [] b1 b11_3 k11_3 (p4 % (200 : Int32)) ((p1 &&& (2147483647 : Int32)) % (129 : Int32)) ov11 T11.heap n0 O12 f13 bf11_0 (own_n129a p1) (own_n129b p1)) hZ (w62 hw) (w2 hw) (by decide) (by decide)) q17a q17c (g := (mkF m 166 #[.val (.int p1), .val (.int p2), .val (.int p3), .val (.int p4), .val (.int p5), .val (.ref b1), .val (.int ((p1 &&& (2147483647 : Int32)) % (129 : Int32))), .val (.int ((p2 &&& (2147483647 : Int32)) % (129 : Int32))), .val (.int p3), .val (.int (p4 % (200 : Int32))), .val (.int (0 : Int32)), .val (.ref ov11), .val (.ref ov15), .val (.int (1 : Int32))] [(.int (p4 % (200 : Int32))), (.ref b1)])) rfl (by rw [hml]; rfl) (Steps.refl _) (argsL := [(.int (p4 % (200 : Int32)))]) (rest := []) (lenOf pd__I_Lcom_example_cardwire_cardwire_core_Layout_ rfl) rfl (by show 2 * 0 + _ ≤ _; exact Nat.le_of_eq rfl) (hb hby at_166) (fun _ _ => ⟨rfl, eq16, (by decide : 6 + 0 ≤ _), (by decide : 280 + 0 ≤ _)⟩)
    dsimp only [Pt.U, Pt.locs, Pt.cells, Pt.slots] at X17 l17 y17 z17 st17 hQ17
    subst l17 y17 z17
    obtain ⟨Nq17, eq17, hR17⟩ := hQ17
    have N17 := Fr.app N16 Nq17
    obtain rfl := hR17
    refine Gets.tr st17 ?_
    show Gets p e below _ (T17.setTop (mkF m 169 #[.val (.int p1), .val (.int p2), .val (.int p3), .val (.int p4), .val (.int p5), .val (.ref b1), .val (.int ((p1 &&& (2147483647 : Int32)) % (129 : Int32))), .val (.int ((p2 &&& (2147483647 : Int32)) % (129 : Int32))), .val (.int p3), .val (.int (p4 % (200 : Int32))), .val (.int (0 : Int32)), .val (.ref ov11), .val (.ref ov15), .val (.int (1 : Int32))] [(own_h1 (p4 % (200 : Int32)) ((p1 &&& (2147483647 : Int32)) % (129 : Int32)) ov11)]))
    refine Gets.of (fun t k => XS.iload X17.here hx rfl (hb hby at_169) rfl  k) ?_
    refine Gets.of (fun t k => XS.iload X17.here hx rfl (hb hby at_171) rfl  k) ?_
    refine Gets.of (fun t k => XS.iload X17.here hx rfl (hb hby at_173) rfl  k) ?_
    refine Gets.of (fun t k => XS.iload X17.here hx rfl (hb hby at_175) rfl  k) ?_
    show Gets p e below _ (T17.setTop (mkF m 177 #[.val (.int p1), .val (.int p2), .val (.int p3), .val (.int p4), .val (.int p5), .val (.ref b1), .val (.int ((p1 &&& (2147483647 : Int32)) % (129 : Int32))), .val (.int ((p2 &&& (2147483647 : Int32)) % (129 : Int32))), .val (.int p3), .val (.int (p4 % (200 : Int32))), .val (.int (0 : Int32)), .val (.ref ov11), .val (.ref ov15), .val (.int (1 : Int32))] [(.int ((p2 &&& (2147483647 : Int32)) % (129 : Int32))), (.int (0 : Int32)), (.int ((p1 &&& (2147483647 : Int32)) % (129 : Int32))), (.int (p4 % (200 : Int32))), (own_h1 (p4 % (200 : Int32)) ((p1 &&& (2147483647 : Int32)) % (129 : Int32)) ov11)]))
    refine Gets.of (fun t k => XS.aload X17.here hx rfl (hb hby at_177) rfl rfl  k) ?_
    refine Gets.of (fun t k => XS.aload X17.here hx rfl (hb hby at_179) rfl rfl  k) ?_
    obtain ⟨_, _, ⟨T18, L18, k18, n18⟩, -, X18, ⟨Lc18, hQ18, l18, y18, z18⟩, st18⟩ := Jvm.LawKit.callS X17 hx (y := (⟨cn5, "expected", cn8⟩ : MethodName)) hown (mvT hZ (w98 hw)) (mvT hZ (w99 hw)) (mvT hZ (w100 hw)) (mvT hZ (w101 hw)) (by decide) (backOf (W := 1) (rm_exp0 l Z a0 hw [] (p4 % (200 : Int32)) ((p1 &&& (2147483647 : Int32)) % (129 : Int32)) ((p2 &&& (2147483647 : Int32)) % (129 : Int32)) ov11 ov15 T11.heap n0 O12) hZ (w101 hw) (w100 hw) (by decide) (by decide)) (g := (mkF m 181 #[.val (.int p1), .val (.int p2), .val (.int p3), .val (.int p4), .val (.int p5), .val (.ref b1), .val (.int ((p1 &&& (2147483647 : Int32)) % (129 : Int32))), .val (.int ((p2 &&& (2147483647 : Int32)) % (129 : Int32))), .val (.int p3), .val (.int (p4 % (200 : Int32))), .val (.int (0 : Int32)), .val (.ref ov11), .val (.ref ov15), .val (.int (1 : Int32))] [(.ref ov15), (.ref ov11), (.int ((p2 &&& (2147483647 : Int32)) % (129 : Int32))), (.int (0 : Int32)), (.int ((p1 &&& (2147483647 : Int32)) % (129 : Int32))), (.int (p4 % (200 : Int32))), (own_h1 (p4 % (200 : Int32)) ((p1 &&& (2147483647 : Int32)) % (129 : Int32)) ov11)])) rfl (by rw [hml]; rfl) (argsL := [(.int (p4 % (200 : Int32))), (.int ((p1 &&& (2147483647 : Int32)) % (129 : Int32))), (.int (0 : Int32)), (.int ((p2 &&& (2147483647 : Int32)) % (129 : Int32))), (.ref ov11), (.ref ov15)]) (rest := [(own_h1 (p4 % (200 : Int32)) ((p1 &&& (2147483647 : Int32)) % (129 : Int32)) ov11)]) (lenOf pd__IIZILcom_example_cardwire_cardwire_core_Layout_Lcom_example_cardwire_cardwire_core_Layout_Lcom_example_cardwire_cardwire_core_Layout_ rfl) rfl (by show 2 * 0 + (List.map (fun v => v.category) [(own_h1 (p4 % (200 : Int32)) ((p1 &&& (2147483647 : Int32)) % (129 : Int32)) ov11)]).sum ≤ _; simp only [List.map_cons, List.map_nil, own_catR (own_h1_ref _ _ _)]; exact Nat.le_of_eq rfl) (hb hby at_181) (fun _ _ => ⟨rfl, eq17, (by decide : 6 + 0 ≤ _), (by decide : 280 + 0 ≤ _)⟩)
    dsimp only [Pt.U, Pt.locs, Pt.cells, Pt.slots] at X18 l18 y18 z18 st18 hQ18
    subst l18 y18 z18
    obtain ⟨Nq18, eq18, hR18⟩ := hQ18
    have N18 := Fr.app N17 Nq18
    obtain rfl := hR18
    refine Gets.of st18 ?_
    show Gets p e below _ (T18.setTop (mkF m 184 #[.val (.int p1), .val (.int p2), .val (.int p3), .val (.int p4), .val (.int p5), .val (.ref b1), .val (.int ((p1 &&& (2147483647 : Int32)) % (129 : Int32))), .val (.int ((p2 &&& (2147483647 : Int32)) % (129 : Int32))), .val (.int p3), .val (.int (p4 % (200 : Int32))), .val (.int (0 : Int32)), .val (.ref ov11), .val (.ref ov15), .val (.int (1 : Int32))] [(own_h1 (p4 % (200 : Int32)) ((p1 &&& (2147483647 : Int32)) % (129 : Int32)) ov11), (own_h1 (p4 % (200 : Int32)) ((p1 &&& (2147483647 : Int32)) % (129 : Int32)) ov11)]))
    refine Gets.of (fun t k => Jvm.RoadKit.acmp (g := (mkF m 184 #[.val (.int p1), .val (.int p2), .val (.int p3), .val (.int p4), .val (.int p5), .val (.ref b1), .val (.int ((p1 &&& (2147483647 : Int32)) % (129 : Int32))), .val (.int ((p2 &&& (2147483647 : Int32)) % (129 : Int32))), .val (.int p3), .val (.int (p4 % (200 : Int32))), .val (.int (0 : Int32)), .val (.ref ov11), .val (.ref ov15), .val (.int (1 : Int32))] [(own_h1 (p4 % (200 : Int32)) ((p1 &&& (2147483647 : Int32)) % (129 : Int32)) ov11), (own_h1 (p4 % (200 : Int32)) ((p1 &&& (2147483647 : Int32)) % (129 : Int32)) ov11)])) X18 hx rfl (own_h1_ref _ _ _) (own_h1_ref _ _ _) (pc0 := 184) (pc' := 187) (same := true) rfl (hb hby at_184) rfl (decide_eq_true rfl) (by decide) (by decide) k) ?_
    show Gets p e below _ (T18.setTop (mkF m 187 #[.val (.int p1), .val (.int p2), .val (.int p3), .val (.int p4), .val (.int p5), .val (.ref b1), .val (.int ((p1 &&& (2147483647 : Int32)) % (129 : Int32))), .val (.int ((p2 &&& (2147483647 : Int32)) % (129 : Int32))), .val (.int p3), .val (.int (p4 % (200 : Int32))), .val (.int (0 : Int32)), .val (.ref ov11), .val (.ref ov15), .val (.int (1 : Int32))] []))
    refine Gets.of (fun t k => XS.iconst X18.here hx rfl (hb hby at_187) k) ?_
    refine Gets.of (fun t k => XS.goto X18.here hx rfl (pc0 := 188) (pc' := 192) rfl (hb hby at_188) (by decide) (by decide) k) ?_
    show Gets p e below _ (T18.setTop (mkF m 192 #[.val (.int p1), .val (.int p2), .val (.int p3), .val (.int p4), .val (.int p5), .val (.ref b1), .val (.int ((p1 &&& (2147483647 : Int32)) % (129 : Int32))), .val (.int ((p2 &&& (2147483647 : Int32)) % (129 : Int32))), .val (.int p3), .val (.int (p4 % (200 : Int32))), .val (.int (0 : Int32)), .val (.ref ov11), .val (.ref ov15), .val (.int (1 : Int32))] [(.int (1 : Int32))]))
    refine Gets.of (fun t k => XS.istore X18.here hx rfl (hb hby at_192) rfl (l' := #[.val (.int p1), .val (.int p2), .val (.int p3), .val (.int p4), .val (.int p5), .val (.ref b1), .val (.int ((p1 &&& (2147483647 : Int32)) % (129 : Int32))), .val (.int ((p2 &&& (2147483647 : Int32)) % (129 : Int32))), .val (.int p3), .val (.int (p4 % (200 : Int32))), .val (.int (0 : Int32)), .val (.ref ov11), .val (.ref ov15), .val (.int (1 : Int32))]) rfl k) ?_
    show Gets p e below _ (T18.setTop (mkF m 194 #[.val (.int p1), .val (.int p2), .val (.int p3), .val (.int p4), .val (.int p5), .val (.ref b1), .val (.int ((p1 &&& (2147483647 : Int32)) % (129 : Int32))), .val (.int ((p2 &&& (2147483647 : Int32)) % (129 : Int32))), .val (.int p3), .val (.int (p4 % (200 : Int32))), .val (.int (0 : Int32)), .val (.ref ov11), .val (.ref ov15), .val (.int (1 : Int32))] []))
    refine Gets.of (fun t k => XS.iload X18.here hx rfl (hb hby at_194) rfl  k) ?_
    refine Gets.of (fun t k => XS.ifNo X18.here hx rfl (hb hby at_196) rfl ((if0 _ _).trans (feq (by decide : ¬ ((1 : Int32) = (0 : Int32)))).1) k) ?_
    show Gets p e below _ (T18.setTop (mkF m 199 #[.val (.int p1), .val (.int p2), .val (.int p3), .val (.int p4), .val (.int p5), .val (.ref b1), .val (.int ((p1 &&& (2147483647 : Int32)) % (129 : Int32))), .val (.int ((p2 &&& (2147483647 : Int32)) % (129 : Int32))), .val (.int p3), .val (.int (p4 % (200 : Int32))), .val (.int (0 : Int32)), .val (.ref ov11), .val (.ref ov15), .val (.int (1 : Int32))] []))
    refine Gets.of (fun t k => XS.aload X18.here hx rfl (hb hby at_199) rfl rfl  k) ?_
    refine Gets.of (fun t k => XS.iload X18.here hx rfl (hb hby at_201) rfl  k) ?_
    obtain ⟨cq19, kq19, q19a, q19b, q19c⟩ := isOf hZ eq18 f15
    obtain ⟨_, _, ⟨T19, L19, k19, n19⟩, -, X19, ⟨Lc19, hQ19, l19, y19, z19⟩, st19⟩ := X18.virtualBack hx (y := (⟨cn0, "layout", cn2⟩ : MethodName)) (z := (⟨cn0, "layout", cn2⟩ : MethodName)) hown (mvT hZ (w58 hw)) (mvT hZ (w59 hw)) (notFace_of_selects (args := #[]) (mvT hZ (w61 hw))) (mvT hZ (w61 hw)) (mvT hZ (w60 hw)) (by decide) (backOf (W := 0) (rm_lay1 l Z a0 hw [] b1 b11_3 k11_3 ((p1 &&& (2147483647 : Int32)) % (129 : Int32)) ((p1 &&& (2147483647 : Int32)) % (129 : Int32)) ov11 T11.heap n0 O12 f13 bf11_0 (own_n129a p1) (own_n129b p1)) hZ (w62 hw) (w2 hw) (by decide) (by decide)) q19a q19c (g := (mkF m 203 #[.val (.int p1), .val (.int p2), .val (.int p3), .val (.int p4), .val (.int p5), .val (.ref b1), .val (.int ((p1 &&& (2147483647 : Int32)) % (129 : Int32))), .val (.int ((p2 &&& (2147483647 : Int32)) % (129 : Int32))), .val (.int p3), .val (.int (p4 % (200 : Int32))), .val (.int (0 : Int32)), .val (.ref ov11), .val (.ref ov15), .val (.int (1 : Int32))] [(.int ((p1 &&& (2147483647 : Int32)) % (129 : Int32))), (.ref b1)])) rfl (by rw [hml]; rfl) (Steps.refl _) (argsL := [(.int ((p1 &&& (2147483647 : Int32)) % (129 : Int32)))]) (rest := []) (lenOf pd__I_Lcom_example_cardwire_cardwire_core_Layout_ rfl) rfl (by show 2 * 0 + _ ≤ _; exact Nat.le_of_eq rfl) (hb hby at_203) (fun _ _ => ⟨rfl, eq18, (by decide : 6 + 0 ≤ _), (by decide : 280 + 0 ≤ _)⟩)
    dsimp only [Pt.U, Pt.locs, Pt.cells, Pt.slots] at X19 l19 y19 z19 st19 hQ19
    subst l19 y19 z19
    obtain ⟨Nq19, eq19, hR19⟩ := hQ19
    have N19 := Fr.app N18 Nq19
    obtain rfl := hR19
    refine Gets.tr st19 ?_
    show Gets p e below _ (T19.setTop (mkF m 206 #[.val (.int p1), .val (.int p2), .val (.int p3), .val (.int p4), .val (.int p5), .val (.ref b1), .val (.int ((p1 &&& (2147483647 : Int32)) % (129 : Int32))), .val (.int ((p2 &&& (2147483647 : Int32)) % (129 : Int32))), .val (.int p3), .val (.int (p4 % (200 : Int32))), .val (.int (0 : Int32)), .val (.ref ov11), .val (.ref ov15), .val (.int (1 : Int32))] [(own_h1 ((p1 &&& (2147483647 : Int32)) % (129 : Int32)) ((p1 &&& (2147483647 : Int32)) % (129 : Int32)) ov11)]))
    refine Gets.of (fun t k => XS.aload X19.here hx rfl (hb hby at_206) rfl rfl  k) ?_
    refine Gets.of (fun t k => Jvm.RoadKit.acmp (g := (mkF m 208 #[.val (.int p1), .val (.int p2), .val (.int p3), .val (.int p4), .val (.int p5), .val (.ref b1), .val (.int ((p1 &&& (2147483647 : Int32)) % (129 : Int32))), .val (.int ((p2 &&& (2147483647 : Int32)) % (129 : Int32))), .val (.int p3), .val (.int (p4 % (200 : Int32))), .val (.int (0 : Int32)), .val (.ref ov11), .val (.ref ov15), .val (.int (1 : Int32))] [(.ref ov11), (own_h1 ((p1 &&& (2147483647 : Int32)) % (129 : Int32)) ((p1 &&& (2147483647 : Int32)) % (129 : Int32)) ov11)])) X19 hx rfl (own_h1_ref _ _ _) rfl (pc0 := 208) (pc' := 211) (same := true) rfl (hb hby at_208) rfl (decide_eq_true (own_h1_self _ _)) (by decide) (by decide) k) ?_
    show Gets p e below _ (T19.setTop (mkF m 211 #[.val (.int p1), .val (.int p2), .val (.int p3), .val (.int p4), .val (.int p5), .val (.ref b1), .val (.int ((p1 &&& (2147483647 : Int32)) % (129 : Int32))), .val (.int ((p2 &&& (2147483647 : Int32)) % (129 : Int32))), .val (.int p3), .val (.int (p4 % (200 : Int32))), .val (.int (0 : Int32)), .val (.ref ov11), .val (.ref ov15), .val (.int (1 : Int32))] []))
    refine Gets.of (fun t k => XS.iconst X19.here hx rfl (hb hby at_211) k) ?_
    refine Gets.of (fun t k => XS.goto X19.here hx rfl (pc0 := 212) (pc' := 216) rfl (hb hby at_212) (by decide) (by decide) k) ?_
    show Gets p e below _ (T19.setTop (mkF m 216 #[.val (.int p1), .val (.int p2), .val (.int p3), .val (.int p4), .val (.int p5), .val (.ref b1), .val (.int ((p1 &&& (2147483647 : Int32)) % (129 : Int32))), .val (.int ((p2 &&& (2147483647 : Int32)) % (129 : Int32))), .val (.int p3), .val (.int (p4 % (200 : Int32))), .val (.int (0 : Int32)), .val (.ref ov11), .val (.ref ov15), .val (.int (1 : Int32))] [(.int (1 : Int32))]))
    refine Gets.of (fun t k => XS.istore X19.here hx rfl (hb hby at_216) rfl (l' := #[.val (.int p1), .val (.int p2), .val (.int p3), .val (.int p4), .val (.int p5), .val (.ref b1), .val (.int ((p1 &&& (2147483647 : Int32)) % (129 : Int32))), .val (.int ((p2 &&& (2147483647 : Int32)) % (129 : Int32))), .val (.int p3), .val (.int (p4 % (200 : Int32))), .val (.int (0 : Int32)), .val (.ref ov11), .val (.ref ov15), .val (.int (1 : Int32))]) rfl k) ?_
    show Gets p e below _ (T19.setTop (mkF m 218 #[.val (.int p1), .val (.int p2), .val (.int p3), .val (.int p4), .val (.int p5), .val (.ref b1), .val (.int ((p1 &&& (2147483647 : Int32)) % (129 : Int32))), .val (.int ((p2 &&& (2147483647 : Int32)) % (129 : Int32))), .val (.int p3), .val (.int (p4 % (200 : Int32))), .val (.int (0 : Int32)), .val (.ref ov11), .val (.ref ov15), .val (.int (1 : Int32))] []))
    refine Gets.of (fun t k => XS.iload X19.here hx rfl (hb hby at_218) rfl  k) ?_
    refine Gets.of (fun t k => XS.ifNo X19.here hx rfl (hb hby at_220) rfl ((if0 _ _).trans (feq (by decide : ¬ ((1 : Int32) = (0 : Int32)))).1) k) ?_
    show Gets p e below _ (T19.setTop (mkF m 223 #[.val (.int p1), .val (.int p2), .val (.int p3), .val (.int p4), .val (.int p5), .val (.ref b1), .val (.int ((p1 &&& (2147483647 : Int32)) % (129 : Int32))), .val (.int ((p2 &&& (2147483647 : Int32)) % (129 : Int32))), .val (.int p3), .val (.int (p4 % (200 : Int32))), .val (.int (0 : Int32)), .val (.ref ov11), .val (.ref ov15), .val (.int (1 : Int32))] []))
    refine Gets.of (fun t k => XS.aload X19.here hx rfl (hb hby at_223) rfl rfl  k) ?_
    refine Gets.of (fun t k => XS.iload X19.here hx rfl (hb hby at_225) rfl  k) ?_
    obtain ⟨cq20, kq20, q20a, q20b, q20c⟩ := isOf hZ eq19 f15
    obtain ⟨_, _, ⟨T20, L20, k20, n20⟩, -, X20, ⟨Lc20, hQ20, l20, y20, z20⟩, st20⟩ := X19.virtualBack hx (y := (⟨cn0, "layout", cn2⟩ : MethodName)) (z := (⟨cn0, "layout", cn2⟩ : MethodName)) hown (mvT hZ (w58 hw)) (mvT hZ (w59 hw)) (notFace_of_selects (args := #[]) (mvT hZ (w61 hw))) (mvT hZ (w61 hw)) (mvT hZ (w60 hw)) (by decide) (backOf (W := 0) (rm_lay1 l Z a0 hw [] b1 b11_3 k11_3 ((p2 &&& (2147483647 : Int32)) % (129 : Int32)) ((p1 &&& (2147483647 : Int32)) % (129 : Int32)) ov11 T11.heap n0 O12 f13 bf11_0 (own_n129a p1) (own_n129b p1)) hZ (w62 hw) (w2 hw) (by decide) (by decide)) q20a q20c (g := (mkF m 227 #[.val (.int p1), .val (.int p2), .val (.int p3), .val (.int p4), .val (.int p5), .val (.ref b1), .val (.int ((p1 &&& (2147483647 : Int32)) % (129 : Int32))), .val (.int ((p2 &&& (2147483647 : Int32)) % (129 : Int32))), .val (.int p3), .val (.int (p4 % (200 : Int32))), .val (.int (0 : Int32)), .val (.ref ov11), .val (.ref ov15), .val (.int (1 : Int32))] [(.int ((p2 &&& (2147483647 : Int32)) % (129 : Int32))), (.ref b1)])) rfl (by rw [hml]; rfl) (Steps.refl _) (argsL := [(.int ((p2 &&& (2147483647 : Int32)) % (129 : Int32)))]) (rest := []) (lenOf pd__I_Lcom_example_cardwire_cardwire_core_Layout_ rfl) rfl (by show 2 * 0 + _ ≤ _; exact Nat.le_of_eq rfl) (hb hby at_227) (fun _ _ => ⟨rfl, eq19, (by decide : 6 + 0 ≤ _), (by decide : 280 + 0 ≤ _)⟩)
    dsimp only [Pt.U, Pt.locs, Pt.cells, Pt.slots] at X20 l20 y20 z20 st20 hQ20
    subst l20 y20 z20
    obtain ⟨Nq20, eq20, hR20⟩ := hQ20
    have N20 := Fr.app N19 Nq20
    obtain rfl := hR20
    refine Gets.tr st20 ?_
    show Gets p e below _ (T20.setTop (mkF m 230 #[.val (.int p1), .val (.int p2), .val (.int p3), .val (.int p4), .val (.int p5), .val (.ref b1), .val (.int ((p1 &&& (2147483647 : Int32)) % (129 : Int32))), .val (.int ((p2 &&& (2147483647 : Int32)) % (129 : Int32))), .val (.int p3), .val (.int (p4 % (200 : Int32))), .val (.int (0 : Int32)), .val (.ref ov11), .val (.ref ov15), .val (.int (1 : Int32))] [(own_h1 ((p2 &&& (2147483647 : Int32)) % (129 : Int32)) ((p1 &&& (2147483647 : Int32)) % (129 : Int32)) ov11)]))
    refine Gets.of (fun t k => XS.iload X20.here hx rfl (hb hby at_230) rfl  k) ?_
    refine Gets.of (fun t k => XS.iload X20.here hx rfl (hb hby at_232) rfl  k) ?_
    refine Gets.of (fun t k => XS.iload X20.here hx rfl (hb hby at_234) rfl  k) ?_
    refine Gets.of (fun t k => XS.iload X20.here hx rfl (hb hby at_236) rfl  k) ?_
    show Gets p e below _ (T20.setTop (mkF m 238 #[.val (.int p1), .val (.int p2), .val (.int p3), .val (.int p4), .val (.int p5), .val (.ref b1), .val (.int ((p1 &&& (2147483647 : Int32)) % (129 : Int32))), .val (.int ((p2 &&& (2147483647 : Int32)) % (129 : Int32))), .val (.int p3), .val (.int (p4 % (200 : Int32))), .val (.int (0 : Int32)), .val (.ref ov11), .val (.ref ov15), .val (.int (1 : Int32))] [(.int ((p2 &&& (2147483647 : Int32)) % (129 : Int32))), (.int (0 : Int32)), (.int ((p1 &&& (2147483647 : Int32)) % (129 : Int32))), (.int ((p2 &&& (2147483647 : Int32)) % (129 : Int32))), (own_h1 ((p2 &&& (2147483647 : Int32)) % (129 : Int32)) ((p1 &&& (2147483647 : Int32)) % (129 : Int32)) ov11)]))
    refine Gets.of (fun t k => XS.aload X20.here hx rfl (hb hby at_238) rfl rfl  k) ?_
    refine Gets.of (fun t k => XS.aload X20.here hx rfl (hb hby at_240) rfl rfl  k) ?_
    obtain ⟨_, _, ⟨T21, L21, k21, n21⟩, -, X21, ⟨Lc21, hQ21, l21, y21, z21⟩, st21⟩ := Jvm.LawKit.callS X20 hx (y := (⟨cn5, "expected", cn8⟩ : MethodName)) hown (mvT hZ (w98 hw)) (mvT hZ (w99 hw)) (mvT hZ (w100 hw)) (mvT hZ (w101 hw)) (by decide) (backOf (W := 1) (rm_exp0 l Z a0 hw [] ((p2 &&& (2147483647 : Int32)) % (129 : Int32)) ((p1 &&& (2147483647 : Int32)) % (129 : Int32)) ((p2 &&& (2147483647 : Int32)) % (129 : Int32)) ov11 ov15 T11.heap n0 O12) hZ (w101 hw) (w100 hw) (by decide) (by decide)) (g := (mkF m 242 #[.val (.int p1), .val (.int p2), .val (.int p3), .val (.int p4), .val (.int p5), .val (.ref b1), .val (.int ((p1 &&& (2147483647 : Int32)) % (129 : Int32))), .val (.int ((p2 &&& (2147483647 : Int32)) % (129 : Int32))), .val (.int p3), .val (.int (p4 % (200 : Int32))), .val (.int (0 : Int32)), .val (.ref ov11), .val (.ref ov15), .val (.int (1 : Int32))] [(.ref ov15), (.ref ov11), (.int ((p2 &&& (2147483647 : Int32)) % (129 : Int32))), (.int (0 : Int32)), (.int ((p1 &&& (2147483647 : Int32)) % (129 : Int32))), (.int ((p2 &&& (2147483647 : Int32)) % (129 : Int32))), (own_h1 ((p2 &&& (2147483647 : Int32)) % (129 : Int32)) ((p1 &&& (2147483647 : Int32)) % (129 : Int32)) ov11)])) rfl (by rw [hml]; rfl) (argsL := [(.int ((p2 &&& (2147483647 : Int32)) % (129 : Int32))), (.int ((p1 &&& (2147483647 : Int32)) % (129 : Int32))), (.int (0 : Int32)), (.int ((p2 &&& (2147483647 : Int32)) % (129 : Int32))), (.ref ov11), (.ref ov15)]) (rest := [(own_h1 ((p2 &&& (2147483647 : Int32)) % (129 : Int32)) ((p1 &&& (2147483647 : Int32)) % (129 : Int32)) ov11)]) (lenOf pd__IIZILcom_example_cardwire_cardwire_core_Layout_Lcom_example_cardwire_cardwire_core_Layout_Lcom_example_cardwire_cardwire_core_Layout_ rfl) rfl (by show 2 * 0 + (List.map (fun v => v.category) [(own_h1 ((p2 &&& (2147483647 : Int32)) % (129 : Int32)) ((p1 &&& (2147483647 : Int32)) % (129 : Int32)) ov11)]).sum ≤ _; simp only [List.map_cons, List.map_nil, own_catR (own_h1_ref _ _ _)]; exact Nat.le_of_eq rfl) (hb hby at_242) (fun _ _ => ⟨rfl, eq20, (by decide : 6 + 0 ≤ _), (by decide : 280 + 0 ≤ _)⟩)
    dsimp only [Pt.U, Pt.locs, Pt.cells, Pt.slots] at X21 l21 y21 z21 st21 hQ21
    subst l21 y21 z21
    obtain ⟨Nq21, eq21, hR21⟩ := hQ21
    have N21 := Fr.app N20 Nq21
    obtain rfl := hR21
    refine Gets.of st21 ?_
    show Gets p e below _ (T21.setTop (mkF m 245 #[.val (.int p1), .val (.int p2), .val (.int p3), .val (.int p4), .val (.int p5), .val (.ref b1), .val (.int ((p1 &&& (2147483647 : Int32)) % (129 : Int32))), .val (.int ((p2 &&& (2147483647 : Int32)) % (129 : Int32))), .val (.int p3), .val (.int (p4 % (200 : Int32))), .val (.int (0 : Int32)), .val (.ref ov11), .val (.ref ov15), .val (.int (1 : Int32))] [(own_h1 ((p2 &&& (2147483647 : Int32)) % (129 : Int32)) ((p1 &&& (2147483647 : Int32)) % (129 : Int32)) ov11), (own_h1 ((p2 &&& (2147483647 : Int32)) % (129 : Int32)) ((p1 &&& (2147483647 : Int32)) % (129 : Int32)) ov11)]))
    refine Gets.of (fun t k => Jvm.RoadKit.acmp (g := (mkF m 245 #[.val (.int p1), .val (.int p2), .val (.int p3), .val (.int p4), .val (.int p5), .val (.ref b1), .val (.int ((p1 &&& (2147483647 : Int32)) % (129 : Int32))), .val (.int ((p2 &&& (2147483647 : Int32)) % (129 : Int32))), .val (.int p3), .val (.int (p4 % (200 : Int32))), .val (.int (0 : Int32)), .val (.ref ov11), .val (.ref ov15), .val (.int (1 : Int32))] [(own_h1 ((p2 &&& (2147483647 : Int32)) % (129 : Int32)) ((p1 &&& (2147483647 : Int32)) % (129 : Int32)) ov11), (own_h1 ((p2 &&& (2147483647 : Int32)) % (129 : Int32)) ((p1 &&& (2147483647 : Int32)) % (129 : Int32)) ov11)])) X21 hx rfl (own_h1_ref _ _ _) (own_h1_ref _ _ _) (pc0 := 245) (pc' := 248) (same := true) rfl (hb hby at_245) rfl (decide_eq_true rfl) (by decide) (by decide) k) ?_
    show Gets p e below _ (T21.setTop (mkF m 248 #[.val (.int p1), .val (.int p2), .val (.int p3), .val (.int p4), .val (.int p5), .val (.ref b1), .val (.int ((p1 &&& (2147483647 : Int32)) % (129 : Int32))), .val (.int ((p2 &&& (2147483647 : Int32)) % (129 : Int32))), .val (.int p3), .val (.int (p4 % (200 : Int32))), .val (.int (0 : Int32)), .val (.ref ov11), .val (.ref ov15), .val (.int (1 : Int32))] []))
    refine Gets.of (fun t k => XS.iconst X21.here hx rfl (hb hby at_248) k) ?_
    refine Gets.of (fun t k => XS.goto X21.here hx rfl (pc0 := 249) (pc' := 253) rfl (hb hby at_249) (by decide) (by decide) k) ?_
    show Gets p e below _ (T21.setTop (mkF m 253 #[.val (.int p1), .val (.int p2), .val (.int p3), .val (.int p4), .val (.int p5), .val (.ref b1), .val (.int ((p1 &&& (2147483647 : Int32)) % (129 : Int32))), .val (.int ((p2 &&& (2147483647 : Int32)) % (129 : Int32))), .val (.int p3), .val (.int (p4 % (200 : Int32))), .val (.int (0 : Int32)), .val (.ref ov11), .val (.ref ov15), .val (.int (1 : Int32))] [(.int (1 : Int32))]))
    refine Gets.of (fun t k => XS.istore X21.here hx rfl (hb hby at_253) rfl (l' := #[.val (.int p1), .val (.int p2), .val (.int p3), .val (.int p4), .val (.int p5), .val (.ref b1), .val (.int ((p1 &&& (2147483647 : Int32)) % (129 : Int32))), .val (.int ((p2 &&& (2147483647 : Int32)) % (129 : Int32))), .val (.int p3), .val (.int (p4 % (200 : Int32))), .val (.int (0 : Int32)), .val (.ref ov11), .val (.ref ov15), .val (.int (1 : Int32))]) rfl k) ?_
    show Gets p e below _ (T21.setTop (mkF m 255 #[.val (.int p1), .val (.int p2), .val (.int p3), .val (.int p4), .val (.int p5), .val (.ref b1), .val (.int ((p1 &&& (2147483647 : Int32)) % (129 : Int32))), .val (.int ((p2 &&& (2147483647 : Int32)) % (129 : Int32))), .val (.int p3), .val (.int (p4 % (200 : Int32))), .val (.int (0 : Int32)), .val (.ref ov11), .val (.ref ov15), .val (.int (1 : Int32))] []))
    refine Gets.of (fun t k => XS.iload X21.here hx rfl (hb hby at_255) rfl  k) ?_
    refine Gets.retN X21 hx (t := .boolean) Bd.returns (by simp) (hb hby at_257) ?_ (by decide) (by decide)
    rw [eq21]
    exact ⟨N21, K12, rfl⟩
  · skip
    refine Gets.of (fun t k => XS.ifNo X3.here hx rfl (hb hby at_43) rfl ((if0 _ _).trans (feq hc5).1) k) ?_
    show Gets p e below _ (T3.setTop (mkF m 46 #[.val (.int p1), .val (.int p2), .val (.int p3), .val (.int p4), .val (.int p5), .val (.ref b1), .val (.int ((p1 &&& (2147483647 : Int32)) % (129 : Int32))), .val (.int ((p2 &&& (2147483647 : Int32)) % (129 : Int32))), .val (.int p3), .val (.int (p4 % (200 : Int32))), .unset, .unset, .unset, .unset] []))
    refine Gets.of (fun t k => XS.iload X3.here hx rfl (hb hby at_46) rfl  k) ?_
    refine Gets.of (fun t k => XS.iload X3.here hx rfl (hb hby at_48) rfl  k) ?_
    by_cases hc22 : ((p1 &&& (2147483647 : Int32)) % (129 : Int32)) = ((p2 &&& (2147483647 : Int32)) % (129 : Int32))
    · skip
      refine Gets.of (fun t k => XS.icmpYes X3.here hx rfl (pc0 := 50) (pc' := 57) rfl (hb hby at_50) rfl (teq hc22).1 (by decide) (by decide) k) ?_
      show Gets p e below _ (T3.setTop (mkF m 57 #[.val (.int p1), .val (.int p2), .val (.int p3), .val (.int p4), .val (.int p5), .val (.ref b1), .val (.int ((p1 &&& (2147483647 : Int32)) % (129 : Int32))), .val (.int ((p2 &&& (2147483647 : Int32)) % (129 : Int32))), .val (.int p3), .val (.int (p4 % (200 : Int32))), .unset, .unset, .unset, .unset] []))
      refine Gets.of (fun t k => XS.iconst X3.here hx rfl (hb hby at_57) k) ?_
      refine Gets.of (fun t k => XS.istore X3.here hx rfl (hb hby at_58) rfl (l' := #[.val (.int p1), .val (.int p2), .val (.int p3), .val (.int p4), .val (.int p5), .val (.ref b1), .val (.int ((p1 &&& (2147483647 : Int32)) % (129 : Int32))), .val (.int ((p2 &&& (2147483647 : Int32)) % (129 : Int32))), .val (.int p3), .val (.int (p4 % (200 : Int32))), .val (.int (0 : Int32)), .unset, .unset, .unset]) rfl k) ?_
      show Gets p e below _ (T3.setTop (mkF m 60 #[.val (.int p1), .val (.int p2), .val (.int p3), .val (.int p4), .val (.int p5), .val (.ref b1), .val (.int ((p1 &&& (2147483647 : Int32)) % (129 : Int32))), .val (.int ((p2 &&& (2147483647 : Int32)) % (129 : Int32))), .val (.int p3), .val (.int (p4 % (200 : Int32))), .val (.int (0 : Int32)), .unset, .unset, .unset] []))
      obtain ⟨T23, X23, e23, st23⟩ := getS2 X3 hx hZ hown (host := "") (Or.inl (w52 hw)) Via.refl rfl (oS13.ext O4.2) (g := (mkF m 60 #[.val (.int p1), .val (.int p2), .val (.int p3), .val (.int p4), .val (.int p5), .val (.ref b1), .val (.int ((p1 &&& (2147483647 : Int32)) % (129 : Int32))), .val (.int ((p2 &&& (2147483647 : Int32)) % (129 : Int32))), .val (.int p3), .val (.int (p4 % (200 : Int32))), .val (.int (0 : Int32)), .unset, .unset, .unset] [])) rfl (hb hby at_60)
      refine Gets.of st23 ?_
      show Gets p e below _ (T23.setTop (mkF m 63 #[.val (.int p1), .val (.int p2), .val (.int p3), .val (.int p4), .val (.int p5), .val (.ref b1), .val (.int ((p1 &&& (2147483647 : Int32)) % (129 : Int32))), .val (.int ((p2 &&& (2147483647 : Int32)) % (129 : Int32))), .val (.int p3), .val (.int (p4 % (200 : Int32))), .val (.int (0 : Int32)), .unset, .unset, .unset] [(.ref ov11)]))
      refine Gets.of (fun t k => XS.astore X23.here hx rfl (hb hby at_63) rfl rfl (l' := #[.val (.int p1), .val (.int p2), .val (.int p3), .val (.int p4), .val (.int p5), .val (.ref b1), .val (.int ((p1 &&& (2147483647 : Int32)) % (129 : Int32))), .val (.int ((p2 &&& (2147483647 : Int32)) % (129 : Int32))), .val (.int p3), .val (.int (p4 % (200 : Int32))), .val (.int (0 : Int32)), .val (.ref ov11), .unset, .unset]) rfl k) ?_
      show Gets p e below _ (T23.setTop (mkF m 65 #[.val (.int p1), .val (.int p2), .val (.int p3), .val (.int p4), .val (.int p5), .val (.ref b1), .val (.int ((p1 &&& (2147483647 : Int32)) % (129 : Int32))), .val (.int ((p2 &&& (2147483647 : Int32)) % (129 : Int32))), .val (.int p3), .val (.int (p4 % (200 : Int32))), .val (.int (0 : Int32)), .val (.ref ov11), .unset, .unset] []))
      obtain ⟨T24, X24, e24, st24⟩ := getS2 X23 hx hZ hown (host := "") (Or.inl (w55 hw)) Via.refl e23 (oS17.ext O4.2) (g := (mkF m 65 #[.val (.int p1), .val (.int p2), .val (.int p3), .val (.int p4), .val (.int p5), .val (.ref b1), .val (.int ((p1 &&& (2147483647 : Int32)) % (129 : Int32))), .val (.int ((p2 &&& (2147483647 : Int32)) % (129 : Int32))), .val (.int p3), .val (.int (p4 % (200 : Int32))), .val (.int (0 : Int32)), .val (.ref ov11), .unset, .unset] [])) rfl (hb hby at_65)
      refine Gets.of st24 ?_
      show Gets p e below _ (T24.setTop (mkF m 68 #[.val (.int p1), .val (.int p2), .val (.int p3), .val (.int p4), .val (.int p5), .val (.ref b1), .val (.int ((p1 &&& (2147483647 : Int32)) % (129 : Int32))), .val (.int ((p2 &&& (2147483647 : Int32)) % (129 : Int32))), .val (.int p3), .val (.int (p4 % (200 : Int32))), .val (.int (0 : Int32)), .val (.ref ov11), .unset, .unset] [(.ref ov15)]))
      refine Gets.of (fun t k => XS.astore X24.here hx rfl (hb hby at_68) rfl rfl (l' := #[.val (.int p1), .val (.int p2), .val (.int p3), .val (.int p4), .val (.int p5), .val (.ref b1), .val (.int ((p1 &&& (2147483647 : Int32)) % (129 : Int32))), .val (.int ((p2 &&& (2147483647 : Int32)) % (129 : Int32))), .val (.int p3), .val (.int (p4 % (200 : Int32))), .val (.int (0 : Int32)), .val (.ref ov11), .val (.ref ov15), .unset]) rfl k) ?_
      show Gets p e below _ (T24.setTop (mkF m 70 #[.val (.int p1), .val (.int p2), .val (.int p3), .val (.int p4), .val (.int p5), .val (.ref b1), .val (.int ((p1 &&& (2147483647 : Int32)) % (129 : Int32))), .val (.int ((p2 &&& (2147483647 : Int32)) % (129 : Int32))), .val (.int p3), .val (.int (p4 % (200 : Int32))), .val (.int (0 : Int32)), .val (.ref ov11), .val (.ref ov15), .unset] []))
      refine Gets.of (fun t k => XS.aload X24.here hx rfl (hb hby at_70) rfl rfl  k) ?_
      refine Gets.of (fun t k => XS.iload X24.here hx rfl (hb hby at_72) rfl  k) ?_
      have f26 : Exa Z T3.heap b1 cn0 := (A1.keep Kq3)
      obtain ⟨cq25, kq25, q25a, q25b, q25c⟩ := isOf hZ e24 f26
      obtain ⟨_, _, ⟨T25, L25, k25, n25⟩, -, X25, ⟨Lc25, hQ25, l25, y25, z25⟩, st25⟩ := X24.virtualBack hx (y := (⟨cn0, "layout", cn2⟩ : MethodName)) (z := (⟨cn0, "layout", cn2⟩ : MethodName)) hown (mvT hZ (w58 hw)) (mvT hZ (w59 hw)) (notFace_of_selects (args := #[]) (mvT hZ (w61 hw))) (mvT hZ (w61 hw)) (mvT hZ (w60 hw)) (by decide) (backOf (W := 0) (r5_layout l Z a0 hw [] b1 p3 b11_3 k11_3 T3.heap n0 O4 bf3_1 bf3_6) hZ (w62 hw) (w2 hw) (by decide) (by decide)) q25a q25c (g := (mkF m 74 #[.val (.int p1), .val (.int p2), .val (.int p3), .val (.int p4), .val (.int p5), .val (.ref b1), .val (.int ((p1 &&& (2147483647 : Int32)) % (129 : Int32))), .val (.int ((p2 &&& (2147483647 : Int32)) % (129 : Int32))), .val (.int p3), .val (.int (p4 % (200 : Int32))), .val (.int (0 : Int32)), .val (.ref ov11), .val (.ref ov15), .unset] [(.int p3), (.ref b1)])) rfl (by rw [hml]; rfl) (Steps.refl _) (argsL := [(.int p3)]) (rest := []) (lenOf pd__I_Lcom_example_cardwire_cardwire_core_Layout_ rfl) rfl (by show 2 * 0 + _ ≤ _; exact Nat.le_of_eq rfl) (hb hby at_74) (fun _ _ => ⟨rfl, e24, (by decide : 5 + 0 ≤ _), (by decide : 279 + 0 ≤ _)⟩)
      dsimp only [Pt.U, Pt.locs, Pt.cells, Pt.slots] at X25 l25 y25 z25 st25 hQ25
      subst l25 y25 z25
      obtain ⟨Nq25, eq25, hR25⟩ := hQ25
      have N25 := Fr.app N3 Nq25
      obtain rfl := hR25
      refine Gets.tr st25 ?_
      show Gets p e below _ (T25.setTop (mkF m 77 #[.val (.int p1), .val (.int p2), .val (.int p3), .val (.int p4), .val (.int p5), .val (.ref b1), .val (.int ((p1 &&& (2147483647 : Int32)) % (129 : Int32))), .val (.int ((p2 &&& (2147483647 : Int32)) % (129 : Int32))), .val (.int p3), .val (.int (p4 % (200 : Int32))), .val (.int (0 : Int32)), .val (.ref ov11), .val (.ref ov15), .unset] [.null]))
      refine Gets.of (fun t k => XS.ifnonnullNo X25.here hx rfl (hb hby at_77) rfl k) ?_
      show Gets p e below _ (T25.setTop (mkF m 80 #[.val (.int p1), .val (.int p2), .val (.int p3), .val (.int p4), .val (.int p5), .val (.ref b1), .val (.int ((p1 &&& (2147483647 : Int32)) % (129 : Int32))), .val (.int ((p2 &&& (2147483647 : Int32)) % (129 : Int32))), .val (.int p3), .val (.int (p4 % (200 : Int32))), .val (.int (0 : Int32)), .val (.ref ov11), .val (.ref ov15), .unset] []))
      refine Gets.of (fun t k => XS.aload X25.here hx rfl (hb hby at_80) rfl rfl  k) ?_
      refine Gets.of (fun t k => XS.iload X25.here hx rfl (hb hby at_82) rfl  k) ?_
      obtain ⟨cq27, kq27, q27a, q27b, q27c⟩ := isOf hZ eq25 f26
      obtain ⟨_, _, ⟨T27, L27, k27, n27⟩, -, X27, ⟨Lc27, hQ27, l27, y27, z27⟩, st27⟩ := X25.virtualBack hx (y := (⟨cn0, "layout", cn2⟩ : MethodName)) (z := (⟨cn0, "layout", cn2⟩ : MethodName)) hown (mvT hZ (w58 hw)) (mvT hZ (w59 hw)) (notFace_of_selects (args := #[]) (mvT hZ (w61 hw))) (mvT hZ (w61 hw)) (mvT hZ (w60 hw)) (by decide) (backOf (W := 0) (r5_layout l Z a0 hw [] b1 (p4 % (200 : Int32)) b11_3 k11_3 T3.heap n0 O4 bf3_1 bf3_6) hZ (w62 hw) (w2 hw) (by decide) (by decide)) q27a q27c (g := (mkF m 84 #[.val (.int p1), .val (.int p2), .val (.int p3), .val (.int p4), .val (.int p5), .val (.ref b1), .val (.int ((p1 &&& (2147483647 : Int32)) % (129 : Int32))), .val (.int ((p2 &&& (2147483647 : Int32)) % (129 : Int32))), .val (.int p3), .val (.int (p4 % (200 : Int32))), .val (.int (0 : Int32)), .val (.ref ov11), .val (.ref ov15), .unset] [(.int (p4 % (200 : Int32))), (.ref b1)])) rfl (by rw [hml]; rfl) (Steps.refl _) (argsL := [(.int (p4 % (200 : Int32)))]) (rest := []) (lenOf pd__I_Lcom_example_cardwire_cardwire_core_Layout_ rfl) rfl (by show 2 * 0 + _ ≤ _; exact Nat.le_of_eq rfl) (hb hby at_84) (fun _ _ => ⟨rfl, eq25, (by decide : 5 + 0 ≤ _), (by decide : 279 + 0 ≤ _)⟩)
      dsimp only [Pt.U, Pt.locs, Pt.cells, Pt.slots] at X27 l27 y27 z27 st27 hQ27
      subst l27 y27 z27
      obtain ⟨Nq27, eq27, hR27⟩ := hQ27
      have N27 := Fr.app N25 Nq27
      obtain rfl := hR27
      refine Gets.tr st27 ?_
      show Gets p e below _ (T27.setTop (mkF m 87 #[.val (.int p1), .val (.int p2), .val (.int p3), .val (.int p4), .val (.int p5), .val (.ref b1), .val (.int ((p1 &&& (2147483647 : Int32)) % (129 : Int32))), .val (.int ((p2 &&& (2147483647 : Int32)) % (129 : Int32))), .val (.int p3), .val (.int (p4 % (200 : Int32))), .val (.int (0 : Int32)), .val (.ref ov11), .val (.ref ov15), .unset] [.null]))
      refine Gets.of (fun t k => XS.ifnonnullNo X27.here hx rfl (hb hby at_87) rfl k) ?_
      show Gets p e below _ (T27.setTop (mkF m 90 #[.val (.int p1), .val (.int p2), .val (.int p3), .val (.int p4), .val (.int p5), .val (.ref b1), .val (.int ((p1 &&& (2147483647 : Int32)) % (129 : Int32))), .val (.int ((p2 &&& (2147483647 : Int32)) % (129 : Int32))), .val (.int p3), .val (.int (p4 % (200 : Int32))), .val (.int (0 : Int32)), .val (.ref ov11), .val (.ref ov15), .unset] []))
      refine Gets.of (fun t k => XS.iconst X27.here hx rfl (hb hby at_90) k) ?_
      refine Gets.of (fun t k => XS.goto X27.here hx rfl (pc0 := 91) (pc' := 95) rfl (hb hby at_91) (by decide) (by decide) k) ?_
      show Gets p e below _ (T27.setTop (mkF m 95 #[.val (.int p1), .val (.int p2), .val (.int p3), .val (.int p4), .val (.int p5), .val (.ref b1), .val (.int ((p1 &&& (2147483647 : Int32)) % (129 : Int32))), .val (.int ((p2 &&& (2147483647 : Int32)) % (129 : Int32))), .val (.int p3), .val (.int (p4 % (200 : Int32))), .val (.int (0 : Int32)), .val (.ref ov11), .val (.ref ov15), .unset] [(.int (1 : Int32))]))
      refine Gets.of (fun t k => XS.istore X27.here hx rfl (hb hby at_95) rfl (l' := #[.val (.int p1), .val (.int p2), .val (.int p3), .val (.int p4), .val (.int p5), .val (.ref b1), .val (.int ((p1 &&& (2147483647 : Int32)) % (129 : Int32))), .val (.int ((p2 &&& (2147483647 : Int32)) % (129 : Int32))), .val (.int p3), .val (.int (p4 % (200 : Int32))), .val (.int (0 : Int32)), .val (.ref ov11), .val (.ref ov15), .val (.int (1 : Int32))]) rfl k) ?_
      show Gets p e below _ (T27.setTop (mkF m 97 #[.val (.int p1), .val (.int p2), .val (.int p3), .val (.int p4), .val (.int p5), .val (.ref b1), .val (.int ((p1 &&& (2147483647 : Int32)) % (129 : Int32))), .val (.int ((p2 &&& (2147483647 : Int32)) % (129 : Int32))), .val (.int p3), .val (.int (p4 % (200 : Int32))), .val (.int (0 : Int32)), .val (.ref ov11), .val (.ref ov15), .val (.int (1 : Int32))] []))
      refine Gets.of (fun t k => XS.aload X27.here hx rfl (hb hby at_97) rfl rfl  k) ?_
      refine Gets.of (fun t k => XS.iload X27.here hx rfl (hb hby at_99) rfl  k) ?_
      refine Gets.of (fun t k => XS.aload X27.here hx rfl (hb hby at_101) rfl rfl  k) ?_
      obtain ⟨cq28, kq28, q28a, q28b, q28c⟩ := isOf hZ eq27 f26
      obtain ⟨_, _, ⟨T28, L28, k28, n28⟩, -, X28, ⟨Lc28, hQ28, l28, y28, z28⟩, st28⟩ := X27.virtualBack hx (y := (⟨cn0, "layOut", cn7⟩ : MethodName)) (z := (⟨cn0, "layOut", cn7⟩ : MethodName)) hown (mvT hZ (w63 hw)) (mvT hZ (w64 hw)) (notFace_of_selects (args := #[]) (mvT hZ (w66 hw))) (mvT hZ (w66 hw)) (mvT hZ (w65 hw)) (by decide) (backOf (W := 0) (r6_layOut l Z a0 hw [] b1 ((p1 &&& (2147483647 : Int32)) % (129 : Int32)) ov11 b11_3 k11_3 b27_3 ov3 oc6 T3.heap n0 O4 bf3_1 bf3_6 bf3_3 bf3_10 bf3_13 bf3_14 bf3_16 oS2 oS5 oE14 g_b11_3 (own_n129a p1) (own_n129b p1) hbx (by have := own_mod129 p1; rw [Int32.lt_iff_toInt_lt]; simp only [Int32.reduceToInt]; omega)) hZ (w67 hw) (w2 hw) (by decide) (by decide)) q28a q28c (g := (mkF m 103 #[.val (.int p1), .val (.int p2), .val (.int p3), .val (.int p4), .val (.int p5), .val (.ref b1), .val (.int ((p1 &&& (2147483647 : Int32)) % (129 : Int32))), .val (.int ((p2 &&& (2147483647 : Int32)) % (129 : Int32))), .val (.int p3), .val (.int (p4 % (200 : Int32))), .val (.int (0 : Int32)), .val (.ref ov11), .val (.ref ov15), .val (.int (1 : Int32))] [(.ref ov11), (.int ((p1 &&& (2147483647 : Int32)) % (129 : Int32))), (.ref b1)])) rfl (by rw [hml]; rfl) (Steps.refl _) (argsL := [(.int ((p1 &&& (2147483647 : Int32)) % (129 : Int32))), (.ref ov11)]) (rest := []) (lenOf pd__ILcom_example_cardwire_cardwire_core_Layout_V rfl) rfl (by show 2 * 0 + _ ≤ _; exact Nat.le_of_eq rfl) (hb hby at_103) (fun _ _ => ⟨rfl, eq27, (by decide : 5 + 1 ≤ _), (by decide : 279 + 1 ≤ _)⟩)
      dsimp only [Pt.U, Pt.locs, Pt.cells, Pt.slots] at X28 l28 y28 z28 st28 hQ28
      subst l28 y28 z28
      obtain ⟨Nq28, Kq28, hR28⟩ := hQ28
      have N28 := Fr.app N27 Nq28
      have K29 : Keep h0 _ [] := K4.trans Kq28 (allS (Or.inr sz_b11_3) all0)
      have O29 := O4.keep Kq28 (allS g_b11_3 all0)
      obtain ⟨rfl, bf28_0, bf28_1⟩ := hR28
      refine Gets.tr st28 ?_
      show Gets p e below _ (T28.setTop (mkF m 106 #[.val (.int p1), .val (.int p2), .val (.int p3), .val (.int p4), .val (.int p5), .val (.ref b1), .val (.int ((p1 &&& (2147483647 : Int32)) % (129 : Int32))), .val (.int ((p2 &&& (2147483647 : Int32)) % (129 : Int32))), .val (.int p3), .val (.int (p4 % (200 : Int32))), .val (.int (0 : Int32)), .val (.ref ov11), .val (.ref ov15), .val (.int (1 : Int32))] []))
      refine Gets.of (fun t k => XS.iload X28.here hx rfl (hb hby at_106) rfl  k) ?_
      refine Gets.of (fun t k => XS.ifYes X28.here hx rfl (pc0 := 108) (pc' := 120) rfl (hb hby at_108) rfl ((if0 _ _).trans (teq (by decide : (0 : Int32) = (0 : Int32))).1) (by decide) (by decide) k) ?_
      show Gets p e below _ (T28.setTop (mkF m 120 #[.val (.int p1), .val (.int p2), .val (.int p3), .val (.int p4), .val (.int p5), .val (.ref b1), .val (.int ((p1 &&& (2147483647 : Int32)) % (129 : Int32))), .val (.int ((p2 &&& (2147483647 : Int32)) % (129 : Int32))), .val (.int p3), .val (.int (p4 % (200 : Int32))), .val (.int (0 : Int32)), .val (.ref ov11), .val (.ref ov15), .val (.int (1 : Int32))] []))
      refine Gets.of (fun t k => XS.iload X28.here hx rfl (hb hby at_120) rfl  k) ?_
      refine Gets.of (fun t k => XS.ifNo X28.here hx rfl (hb hby at_122) rfl ((if0 _ _).trans (feq (by decide : ¬ ((1 : Int32) = (0 : Int32)))).1) k) ?_
      show Gets p e below _ (T28.setTop (mkF m 125 #[.val (.int p1), .val (.int p2), .val (.int p3), .val (.int p4), .val (.int p5), .val (.ref b1), .val (.int ((p1 &&& (2147483647 : Int32)) % (129 : Int32))), .val (.int ((p2 &&& (2147483647 : Int32)) % (129 : Int32))), .val (.int p3), .val (.int (p4 % (200 : Int32))), .val (.int (0 : Int32)), .val (.ref ov11), .val (.ref ov15), .val (.int (1 : Int32))] []))
      refine Gets.of (fun t k => XS.aload X28.here hx rfl (hb hby at_125) rfl rfl  k) ?_
      refine Gets.of (fun t k => XS.iload X28.here hx rfl (hb hby at_127) rfl  k) ?_
      have f30 : Fld Z T28.heap b1 cn0 "layouts" cn6 (.ref b11_3) := (bf3_1.keep Kq28 (ninS (Nat.ne_of_lt (Nat.lt_of_lt_of_le A1.lt bz3_1)) nin0))
      have f32 : Exa Z T28.heap b1 cn0 := (f26.keep Kq28)
      obtain ⟨cq31, kq31, q31a, q31b, q31c⟩ := isOf hZ rfl f32
      obtain ⟨_, _, ⟨T31, L31, k31, n31⟩, -, X31, ⟨Lc31, hQ31, l31, y31, z31⟩, st31⟩ := X28.virtualBack hx (y := (⟨cn0, "layout", cn2⟩ : MethodName)) (z := (⟨cn0, "layout", cn2⟩ : MethodName)) hown (mvT hZ (w58 hw)) (mvT hZ (w59 hw)) (notFace_of_selects (args := #[]) (mvT hZ (w61 hw))) (mvT hZ (w61 hw)) (mvT hZ (w60 hw)) (by decide) (backOf (W := 0) (rm_lay1 l Z a0 hw [] b1 b11_3 k11_3 p3 ((p1 &&& (2147483647 : Int32)) % (129 : Int32)) ov11 T28.heap n0 O29 f30 bf28_0 (own_n129a p1) (own_n129b p1)) hZ (w62 hw) (w2 hw) (by decide) (by decide)) q31a q31c (g := (mkF m 129 #[.val (.int p1), .val (.int p2), .val (.int p3), .val (.int p4), .val (.int p5), .val (.ref b1), .val (.int ((p1 &&& (2147483647 : Int32)) % (129 : Int32))), .val (.int ((p2 &&& (2147483647 : Int32)) % (129 : Int32))), .val (.int p3), .val (.int (p4 % (200 : Int32))), .val (.int (0 : Int32)), .val (.ref ov11), .val (.ref ov15), .val (.int (1 : Int32))] [(.int p3), (.ref b1)])) rfl (by rw [hml]; rfl) (Steps.refl _) (argsL := [(.int p3)]) (rest := []) (lenOf pd__I_Lcom_example_cardwire_cardwire_core_Layout_ rfl) rfl (by show 2 * 0 + _ ≤ _; exact Nat.le_of_eq rfl) (hb hby at_129) (fun _ _ => ⟨rfl, rfl, (by decide : 6 + 0 ≤ _), (by decide : 280 + 0 ≤ _)⟩)
      dsimp only [Pt.U, Pt.locs, Pt.cells, Pt.slots] at X31 l31 y31 z31 st31 hQ31
      subst l31 y31 z31
      obtain ⟨Nq31, eq31, hR31⟩ := hQ31
      have N31 := Fr.app N28 Nq31
      obtain rfl := hR31
      refine Gets.tr st31 ?_
      show Gets p e below _ (T31.setTop (mkF m 132 #[.val (.int p1), .val (.int p2), .val (.int p3), .val (.int p4), .val (.int p5), .val (.ref b1), .val (.int ((p1 &&& (2147483647 : Int32)) % (129 : Int32))), .val (.int ((p2 &&& (2147483647 : Int32)) % (129 : Int32))), .val (.int p3), .val (.int (p4 % (200 : Int32))), .val (.int (0 : Int32)), .val (.ref ov11), .val (.ref ov15), .val (.int (1 : Int32))] [(own_h1 p3 ((p1 &&& (2147483647 : Int32)) % (129 : Int32)) ov11)]))
      refine Gets.of (fun t k => XS.iload X31.here hx rfl (hb hby at_132) rfl  k) ?_
      refine Gets.of (fun t k => XS.iload X31.here hx rfl (hb hby at_134) rfl  k) ?_
      refine Gets.of (fun t k => XS.iload X31.here hx rfl (hb hby at_136) rfl  k) ?_
      refine Gets.of (fun t k => XS.iload X31.here hx rfl (hb hby at_138) rfl  k) ?_
      show Gets p e below _ (T31.setTop (mkF m 140 #[.val (.int p1), .val (.int p2), .val (.int p3), .val (.int p4), .val (.int p5), .val (.ref b1), .val (.int ((p1 &&& (2147483647 : Int32)) % (129 : Int32))), .val (.int ((p2 &&& (2147483647 : Int32)) % (129 : Int32))), .val (.int p3), .val (.int (p4 % (200 : Int32))), .val (.int (0 : Int32)), .val (.ref ov11), .val (.ref ov15), .val (.int (1 : Int32))] [(.int ((p2 &&& (2147483647 : Int32)) % (129 : Int32))), (.int (0 : Int32)), (.int ((p1 &&& (2147483647 : Int32)) % (129 : Int32))), (.int p3), (own_h1 p3 ((p1 &&& (2147483647 : Int32)) % (129 : Int32)) ov11)]))
      refine Gets.of (fun t k => XS.aload X31.here hx rfl (hb hby at_140) rfl rfl  k) ?_
      refine Gets.of (fun t k => XS.aload X31.here hx rfl (hb hby at_142) rfl rfl  k) ?_
      obtain ⟨_, _, ⟨T33, L33, k33, n33⟩, -, X33, ⟨Lc33, hQ33, l33, y33, z33⟩, st33⟩ := Jvm.LawKit.callS X31 hx (y := (⟨cn5, "expected", cn8⟩ : MethodName)) hown (mvT hZ (w98 hw)) (mvT hZ (w99 hw)) (mvT hZ (w100 hw)) (mvT hZ (w101 hw)) (by decide) (backOf (W := 1) (rm_exp0 l Z a0 hw [] p3 ((p1 &&& (2147483647 : Int32)) % (129 : Int32)) ((p2 &&& (2147483647 : Int32)) % (129 : Int32)) ov11 ov15 T28.heap n0 O29) hZ (w101 hw) (w100 hw) (by decide) (by decide)) (g := (mkF m 144 #[.val (.int p1), .val (.int p2), .val (.int p3), .val (.int p4), .val (.int p5), .val (.ref b1), .val (.int ((p1 &&& (2147483647 : Int32)) % (129 : Int32))), .val (.int ((p2 &&& (2147483647 : Int32)) % (129 : Int32))), .val (.int p3), .val (.int (p4 % (200 : Int32))), .val (.int (0 : Int32)), .val (.ref ov11), .val (.ref ov15), .val (.int (1 : Int32))] [(.ref ov15), (.ref ov11), (.int ((p2 &&& (2147483647 : Int32)) % (129 : Int32))), (.int (0 : Int32)), (.int ((p1 &&& (2147483647 : Int32)) % (129 : Int32))), (.int p3), (own_h1 p3 ((p1 &&& (2147483647 : Int32)) % (129 : Int32)) ov11)])) rfl (by rw [hml]; rfl) (argsL := [(.int p3), (.int ((p1 &&& (2147483647 : Int32)) % (129 : Int32))), (.int (0 : Int32)), (.int ((p2 &&& (2147483647 : Int32)) % (129 : Int32))), (.ref ov11), (.ref ov15)]) (rest := [(own_h1 p3 ((p1 &&& (2147483647 : Int32)) % (129 : Int32)) ov11)]) (lenOf pd__IIZILcom_example_cardwire_cardwire_core_Layout_Lcom_example_cardwire_cardwire_core_Layout_Lcom_example_cardwire_cardwire_core_Layout_ rfl) rfl (by show 2 * 0 + (List.map (fun v => v.category) [(own_h1 p3 ((p1 &&& (2147483647 : Int32)) % (129 : Int32)) ov11)]).sum ≤ _; simp only [List.map_cons, List.map_nil, own_catR (own_h1_ref _ _ _)]; exact Nat.le_of_eq rfl) (hb hby at_144) (fun _ _ => ⟨rfl, eq31, (by decide : 6 + 0 ≤ _), (by decide : 280 + 0 ≤ _)⟩)
      dsimp only [Pt.U, Pt.locs, Pt.cells, Pt.slots] at X33 l33 y33 z33 st33 hQ33
      subst l33 y33 z33
      obtain ⟨Nq33, eq33, hR33⟩ := hQ33
      have N33 := Fr.app N31 Nq33
      obtain rfl := hR33
      refine Gets.of st33 ?_
      show Gets p e below _ (T33.setTop (mkF m 147 #[.val (.int p1), .val (.int p2), .val (.int p3), .val (.int p4), .val (.int p5), .val (.ref b1), .val (.int ((p1 &&& (2147483647 : Int32)) % (129 : Int32))), .val (.int ((p2 &&& (2147483647 : Int32)) % (129 : Int32))), .val (.int p3), .val (.int (p4 % (200 : Int32))), .val (.int (0 : Int32)), .val (.ref ov11), .val (.ref ov15), .val (.int (1 : Int32))] [(own_h1 p3 ((p1 &&& (2147483647 : Int32)) % (129 : Int32)) ov11), (own_h1 p3 ((p1 &&& (2147483647 : Int32)) % (129 : Int32)) ov11)]))
      refine Gets.of (fun t k => Jvm.RoadKit.acmp (g := (mkF m 147 #[.val (.int p1), .val (.int p2), .val (.int p3), .val (.int p4), .val (.int p5), .val (.ref b1), .val (.int ((p1 &&& (2147483647 : Int32)) % (129 : Int32))), .val (.int ((p2 &&& (2147483647 : Int32)) % (129 : Int32))), .val (.int p3), .val (.int (p4 % (200 : Int32))), .val (.int (0 : Int32)), .val (.ref ov11), .val (.ref ov15), .val (.int (1 : Int32))] [(own_h1 p3 ((p1 &&& (2147483647 : Int32)) % (129 : Int32)) ov11), (own_h1 p3 ((p1 &&& (2147483647 : Int32)) % (129 : Int32)) ov11)])) X33 hx rfl (own_h1_ref _ _ _) (own_h1_ref _ _ _) (pc0 := 147) (pc' := 150) (same := true) rfl (hb hby at_147) rfl (decide_eq_true rfl) (by decide) (by decide) k) ?_
      show Gets p e below _ (T33.setTop (mkF m 150 #[.val (.int p1), .val (.int p2), .val (.int p3), .val (.int p4), .val (.int p5), .val (.ref b1), .val (.int ((p1 &&& (2147483647 : Int32)) % (129 : Int32))), .val (.int ((p2 &&& (2147483647 : Int32)) % (129 : Int32))), .val (.int p3), .val (.int (p4 % (200 : Int32))), .val (.int (0 : Int32)), .val (.ref ov11), .val (.ref ov15), .val (.int (1 : Int32))] []))
      refine Gets.of (fun t k => XS.iconst X33.here hx rfl (hb hby at_150) k) ?_
      refine Gets.of (fun t k => XS.goto X33.here hx rfl (pc0 := 151) (pc' := 155) rfl (hb hby at_151) (by decide) (by decide) k) ?_
      show Gets p e below _ (T33.setTop (mkF m 155 #[.val (.int p1), .val (.int p2), .val (.int p3), .val (.int p4), .val (.int p5), .val (.ref b1), .val (.int ((p1 &&& (2147483647 : Int32)) % (129 : Int32))), .val (.int ((p2 &&& (2147483647 : Int32)) % (129 : Int32))), .val (.int p3), .val (.int (p4 % (200 : Int32))), .val (.int (0 : Int32)), .val (.ref ov11), .val (.ref ov15), .val (.int (1 : Int32))] [(.int (1 : Int32))]))
      refine Gets.of (fun t k => XS.istore X33.here hx rfl (hb hby at_155) rfl (l' := #[.val (.int p1), .val (.int p2), .val (.int p3), .val (.int p4), .val (.int p5), .val (.ref b1), .val (.int ((p1 &&& (2147483647 : Int32)) % (129 : Int32))), .val (.int ((p2 &&& (2147483647 : Int32)) % (129 : Int32))), .val (.int p3), .val (.int (p4 % (200 : Int32))), .val (.int (0 : Int32)), .val (.ref ov11), .val (.ref ov15), .val (.int (1 : Int32))]) rfl k) ?_
      show Gets p e below _ (T33.setTop (mkF m 157 #[.val (.int p1), .val (.int p2), .val (.int p3), .val (.int p4), .val (.int p5), .val (.ref b1), .val (.int ((p1 &&& (2147483647 : Int32)) % (129 : Int32))), .val (.int ((p2 &&& (2147483647 : Int32)) % (129 : Int32))), .val (.int p3), .val (.int (p4 % (200 : Int32))), .val (.int (0 : Int32)), .val (.ref ov11), .val (.ref ov15), .val (.int (1 : Int32))] []))
      refine Gets.of (fun t k => XS.iload X33.here hx rfl (hb hby at_157) rfl  k) ?_
      refine Gets.of (fun t k => XS.ifNo X33.here hx rfl (hb hby at_159) rfl ((if0 _ _).trans (feq (by decide : ¬ ((1 : Int32) = (0 : Int32)))).1) k) ?_
      show Gets p e below _ (T33.setTop (mkF m 162 #[.val (.int p1), .val (.int p2), .val (.int p3), .val (.int p4), .val (.int p5), .val (.ref b1), .val (.int ((p1 &&& (2147483647 : Int32)) % (129 : Int32))), .val (.int ((p2 &&& (2147483647 : Int32)) % (129 : Int32))), .val (.int p3), .val (.int (p4 % (200 : Int32))), .val (.int (0 : Int32)), .val (.ref ov11), .val (.ref ov15), .val (.int (1 : Int32))] []))
      refine Gets.of (fun t k => XS.aload X33.here hx rfl (hb hby at_162) rfl rfl  k) ?_
      refine Gets.of (fun t k => XS.iload X33.here hx rfl (hb hby at_164) rfl  k) ?_
      obtain ⟨cq34, kq34, q34a, q34b, q34c⟩ := isOf hZ eq33 f32
      obtain ⟨_, _, ⟨T34, L34, k34, n34⟩, -, X34, ⟨Lc34, hQ34, l34, y34, z34⟩, st34⟩ := X33.virtualBack hx (y := (⟨cn0, "layout", cn2⟩ : MethodName)) (z := (⟨cn0, "layout", cn2⟩ : MethodName)) hown (mvT hZ (w58 hw)) (mvT hZ (w59 hw)) (notFace_of_selects (args := #[]) (mvT hZ (w61 hw))) (mvT hZ (w61 hw)) (mvT hZ (w60 hw)) (by decide) (backOf (W := 0) (rm_lay1 l Z a0 hw [] b1 b11_3 k11_3 (p4 % (200 : Int32)) ((p1 &&& (2147483647 : Int32)) % (129 : Int32)) ov11 T28.heap n0 O29 f30 bf28_0 (own_n129a p1) (own_n129b p1)) hZ (w62 hw) (w2 hw) (by decide) (by decide)) q34a q34c (g := (mkF m 166 #[.val (.int p1), .val (.int p2), .val (.int p3), .val (.int p4), .val (.int p5), .val (.ref b1), .val (.int ((p1 &&& (2147483647 : Int32)) % (129 : Int32))), .val (.int ((p2 &&& (2147483647 : Int32)) % (129 : Int32))), .val (.int p3), .val (.int (p4 % (200 : Int32))), .val (.int (0 : Int32)), .val (.ref ov11), .val (.ref ov15), .val (.int (1 : Int32))] [(.int (p4 % (200 : Int32))), (.ref b1)])) rfl (by rw [hml]; rfl) (Steps.refl _) (argsL := [(.int (p4 % (200 : Int32)))]) (rest := []) (lenOf pd__I_Lcom_example_cardwire_cardwire_core_Layout_ rfl) rfl (by show 2 * 0 + _ ≤ _; exact Nat.le_of_eq rfl) (hb hby at_166) (fun _ _ => ⟨rfl, eq33, (by decide : 6 + 0 ≤ _), (by decide : 280 + 0 ≤ _)⟩)
      dsimp only [Pt.U, Pt.locs, Pt.cells, Pt.slots] at X34 l34 y34 z34 st34 hQ34
      subst l34 y34 z34
      obtain ⟨Nq34, eq34, hR34⟩ := hQ34
      have N34 := Fr.app N33 Nq34
      obtain rfl := hR34
      refine Gets.tr st34 ?_
      show Gets p e below _ (T34.setTop (mkF m 169 #[.val (.int p1), .val (.int p2), .val (.int p3), .val (.int p4), .val (.int p5), .val (.ref b1), .val (.int ((p1 &&& (2147483647 : Int32)) % (129 : Int32))), .val (.int ((p2 &&& (2147483647 : Int32)) % (129 : Int32))), .val (.int p3), .val (.int (p4 % (200 : Int32))), .val (.int (0 : Int32)), .val (.ref ov11), .val (.ref ov15), .val (.int (1 : Int32))] [(own_h1 (p4 % (200 : Int32)) ((p1 &&& (2147483647 : Int32)) % (129 : Int32)) ov11)]))
      refine Gets.of (fun t k => XS.iload X34.here hx rfl (hb hby at_169) rfl  k) ?_
      refine Gets.of (fun t k => XS.iload X34.here hx rfl (hb hby at_171) rfl  k) ?_
      refine Gets.of (fun t k => XS.iload X34.here hx rfl (hb hby at_173) rfl  k) ?_
      refine Gets.of (fun t k => XS.iload X34.here hx rfl (hb hby at_175) rfl  k) ?_
      show Gets p e below _ (T34.setTop (mkF m 177 #[.val (.int p1), .val (.int p2), .val (.int p3), .val (.int p4), .val (.int p5), .val (.ref b1), .val (.int ((p1 &&& (2147483647 : Int32)) % (129 : Int32))), .val (.int ((p2 &&& (2147483647 : Int32)) % (129 : Int32))), .val (.int p3), .val (.int (p4 % (200 : Int32))), .val (.int (0 : Int32)), .val (.ref ov11), .val (.ref ov15), .val (.int (1 : Int32))] [(.int ((p2 &&& (2147483647 : Int32)) % (129 : Int32))), (.int (0 : Int32)), (.int ((p1 &&& (2147483647 : Int32)) % (129 : Int32))), (.int (p4 % (200 : Int32))), (own_h1 (p4 % (200 : Int32)) ((p1 &&& (2147483647 : Int32)) % (129 : Int32)) ov11)]))
      refine Gets.of (fun t k => XS.aload X34.here hx rfl (hb hby at_177) rfl rfl  k) ?_
      refine Gets.of (fun t k => XS.aload X34.here hx rfl (hb hby at_179) rfl rfl  k) ?_
      obtain ⟨_, _, ⟨T35, L35, k35, n35⟩, -, X35, ⟨Lc35, hQ35, l35, y35, z35⟩, st35⟩ := Jvm.LawKit.callS X34 hx (y := (⟨cn5, "expected", cn8⟩ : MethodName)) hown (mvT hZ (w98 hw)) (mvT hZ (w99 hw)) (mvT hZ (w100 hw)) (mvT hZ (w101 hw)) (by decide) (backOf (W := 1) (rm_exp0 l Z a0 hw [] (p4 % (200 : Int32)) ((p1 &&& (2147483647 : Int32)) % (129 : Int32)) ((p2 &&& (2147483647 : Int32)) % (129 : Int32)) ov11 ov15 T28.heap n0 O29) hZ (w101 hw) (w100 hw) (by decide) (by decide)) (g := (mkF m 181 #[.val (.int p1), .val (.int p2), .val (.int p3), .val (.int p4), .val (.int p5), .val (.ref b1), .val (.int ((p1 &&& (2147483647 : Int32)) % (129 : Int32))), .val (.int ((p2 &&& (2147483647 : Int32)) % (129 : Int32))), .val (.int p3), .val (.int (p4 % (200 : Int32))), .val (.int (0 : Int32)), .val (.ref ov11), .val (.ref ov15), .val (.int (1 : Int32))] [(.ref ov15), (.ref ov11), (.int ((p2 &&& (2147483647 : Int32)) % (129 : Int32))), (.int (0 : Int32)), (.int ((p1 &&& (2147483647 : Int32)) % (129 : Int32))), (.int (p4 % (200 : Int32))), (own_h1 (p4 % (200 : Int32)) ((p1 &&& (2147483647 : Int32)) % (129 : Int32)) ov11)])) rfl (by rw [hml]; rfl) (argsL := [(.int (p4 % (200 : Int32))), (.int ((p1 &&& (2147483647 : Int32)) % (129 : Int32))), (.int (0 : Int32)), (.int ((p2 &&& (2147483647 : Int32)) % (129 : Int32))), (.ref ov11), (.ref ov15)]) (rest := [(own_h1 (p4 % (200 : Int32)) ((p1 &&& (2147483647 : Int32)) % (129 : Int32)) ov11)]) (lenOf pd__IIZILcom_example_cardwire_cardwire_core_Layout_Lcom_example_cardwire_cardwire_core_Layout_Lcom_example_cardwire_cardwire_core_Layout_ rfl) rfl (by show 2 * 0 + (List.map (fun v => v.category) [(own_h1 (p4 % (200 : Int32)) ((p1 &&& (2147483647 : Int32)) % (129 : Int32)) ov11)]).sum ≤ _; simp only [List.map_cons, List.map_nil, own_catR (own_h1_ref _ _ _)]; exact Nat.le_of_eq rfl) (hb hby at_181) (fun _ _ => ⟨rfl, eq34, (by decide : 6 + 0 ≤ _), (by decide : 280 + 0 ≤ _)⟩)
      dsimp only [Pt.U, Pt.locs, Pt.cells, Pt.slots] at X35 l35 y35 z35 st35 hQ35
      subst l35 y35 z35
      obtain ⟨Nq35, eq35, hR35⟩ := hQ35
      have N35 := Fr.app N34 Nq35
      obtain rfl := hR35
      refine Gets.of st35 ?_
      show Gets p e below _ (T35.setTop (mkF m 184 #[.val (.int p1), .val (.int p2), .val (.int p3), .val (.int p4), .val (.int p5), .val (.ref b1), .val (.int ((p1 &&& (2147483647 : Int32)) % (129 : Int32))), .val (.int ((p2 &&& (2147483647 : Int32)) % (129 : Int32))), .val (.int p3), .val (.int (p4 % (200 : Int32))), .val (.int (0 : Int32)), .val (.ref ov11), .val (.ref ov15), .val (.int (1 : Int32))] [(own_h1 (p4 % (200 : Int32)) ((p1 &&& (2147483647 : Int32)) % (129 : Int32)) ov11), (own_h1 (p4 % (200 : Int32)) ((p1 &&& (2147483647 : Int32)) % (129 : Int32)) ov11)]))
      refine Gets.of (fun t k => Jvm.RoadKit.acmp (g := (mkF m 184 #[.val (.int p1), .val (.int p2), .val (.int p3), .val (.int p4), .val (.int p5), .val (.ref b1), .val (.int ((p1 &&& (2147483647 : Int32)) % (129 : Int32))), .val (.int ((p2 &&& (2147483647 : Int32)) % (129 : Int32))), .val (.int p3), .val (.int (p4 % (200 : Int32))), .val (.int (0 : Int32)), .val (.ref ov11), .val (.ref ov15), .val (.int (1 : Int32))] [(own_h1 (p4 % (200 : Int32)) ((p1 &&& (2147483647 : Int32)) % (129 : Int32)) ov11), (own_h1 (p4 % (200 : Int32)) ((p1 &&& (2147483647 : Int32)) % (129 : Int32)) ov11)])) X35 hx rfl (own_h1_ref _ _ _) (own_h1_ref _ _ _) (pc0 := 184) (pc' := 187) (same := true) rfl (hb hby at_184) rfl (decide_eq_true rfl) (by decide) (by decide) k) ?_
      show Gets p e below _ (T35.setTop (mkF m 187 #[.val (.int p1), .val (.int p2), .val (.int p3), .val (.int p4), .val (.int p5), .val (.ref b1), .val (.int ((p1 &&& (2147483647 : Int32)) % (129 : Int32))), .val (.int ((p2 &&& (2147483647 : Int32)) % (129 : Int32))), .val (.int p3), .val (.int (p4 % (200 : Int32))), .val (.int (0 : Int32)), .val (.ref ov11), .val (.ref ov15), .val (.int (1 : Int32))] []))
      refine Gets.of (fun t k => XS.iconst X35.here hx rfl (hb hby at_187) k) ?_
      refine Gets.of (fun t k => XS.goto X35.here hx rfl (pc0 := 188) (pc' := 192) rfl (hb hby at_188) (by decide) (by decide) k) ?_
      show Gets p e below _ (T35.setTop (mkF m 192 #[.val (.int p1), .val (.int p2), .val (.int p3), .val (.int p4), .val (.int p5), .val (.ref b1), .val (.int ((p1 &&& (2147483647 : Int32)) % (129 : Int32))), .val (.int ((p2 &&& (2147483647 : Int32)) % (129 : Int32))), .val (.int p3), .val (.int (p4 % (200 : Int32))), .val (.int (0 : Int32)), .val (.ref ov11), .val (.ref ov15), .val (.int (1 : Int32))] [(.int (1 : Int32))]))
      refine Gets.of (fun t k => XS.istore X35.here hx rfl (hb hby at_192) rfl (l' := #[.val (.int p1), .val (.int p2), .val (.int p3), .val (.int p4), .val (.int p5), .val (.ref b1), .val (.int ((p1 &&& (2147483647 : Int32)) % (129 : Int32))), .val (.int ((p2 &&& (2147483647 : Int32)) % (129 : Int32))), .val (.int p3), .val (.int (p4 % (200 : Int32))), .val (.int (0 : Int32)), .val (.ref ov11), .val (.ref ov15), .val (.int (1 : Int32))]) rfl k) ?_
      show Gets p e below _ (T35.setTop (mkF m 194 #[.val (.int p1), .val (.int p2), .val (.int p3), .val (.int p4), .val (.int p5), .val (.ref b1), .val (.int ((p1 &&& (2147483647 : Int32)) % (129 : Int32))), .val (.int ((p2 &&& (2147483647 : Int32)) % (129 : Int32))), .val (.int p3), .val (.int (p4 % (200 : Int32))), .val (.int (0 : Int32)), .val (.ref ov11), .val (.ref ov15), .val (.int (1 : Int32))] []))
      refine Gets.of (fun t k => XS.iload X35.here hx rfl (hb hby at_194) rfl  k) ?_
      refine Gets.of (fun t k => XS.ifNo X35.here hx rfl (hb hby at_196) rfl ((if0 _ _).trans (feq (by decide : ¬ ((1 : Int32) = (0 : Int32)))).1) k) ?_
      show Gets p e below _ (T35.setTop (mkF m 199 #[.val (.int p1), .val (.int p2), .val (.int p3), .val (.int p4), .val (.int p5), .val (.ref b1), .val (.int ((p1 &&& (2147483647 : Int32)) % (129 : Int32))), .val (.int ((p2 &&& (2147483647 : Int32)) % (129 : Int32))), .val (.int p3), .val (.int (p4 % (200 : Int32))), .val (.int (0 : Int32)), .val (.ref ov11), .val (.ref ov15), .val (.int (1 : Int32))] []))
      refine Gets.of (fun t k => XS.aload X35.here hx rfl (hb hby at_199) rfl rfl  k) ?_
      refine Gets.of (fun t k => XS.iload X35.here hx rfl (hb hby at_201) rfl  k) ?_
      obtain ⟨cq36, kq36, q36a, q36b, q36c⟩ := isOf hZ eq35 f32
      obtain ⟨_, _, ⟨T36, L36, k36, n36⟩, -, X36, ⟨Lc36, hQ36, l36, y36, z36⟩, st36⟩ := X35.virtualBack hx (y := (⟨cn0, "layout", cn2⟩ : MethodName)) (z := (⟨cn0, "layout", cn2⟩ : MethodName)) hown (mvT hZ (w58 hw)) (mvT hZ (w59 hw)) (notFace_of_selects (args := #[]) (mvT hZ (w61 hw))) (mvT hZ (w61 hw)) (mvT hZ (w60 hw)) (by decide) (backOf (W := 0) (rm_lay1 l Z a0 hw [] b1 b11_3 k11_3 ((p1 &&& (2147483647 : Int32)) % (129 : Int32)) ((p1 &&& (2147483647 : Int32)) % (129 : Int32)) ov11 T28.heap n0 O29 f30 bf28_0 (own_n129a p1) (own_n129b p1)) hZ (w62 hw) (w2 hw) (by decide) (by decide)) q36a q36c (g := (mkF m 203 #[.val (.int p1), .val (.int p2), .val (.int p3), .val (.int p4), .val (.int p5), .val (.ref b1), .val (.int ((p1 &&& (2147483647 : Int32)) % (129 : Int32))), .val (.int ((p2 &&& (2147483647 : Int32)) % (129 : Int32))), .val (.int p3), .val (.int (p4 % (200 : Int32))), .val (.int (0 : Int32)), .val (.ref ov11), .val (.ref ov15), .val (.int (1 : Int32))] [(.int ((p1 &&& (2147483647 : Int32)) % (129 : Int32))), (.ref b1)])) rfl (by rw [hml]; rfl) (Steps.refl _) (argsL := [(.int ((p1 &&& (2147483647 : Int32)) % (129 : Int32)))]) (rest := []) (lenOf pd__I_Lcom_example_cardwire_cardwire_core_Layout_ rfl) rfl (by show 2 * 0 + _ ≤ _; exact Nat.le_of_eq rfl) (hb hby at_203) (fun _ _ => ⟨rfl, eq35, (by decide : 6 + 0 ≤ _), (by decide : 280 + 0 ≤ _)⟩)
      dsimp only [Pt.U, Pt.locs, Pt.cells, Pt.slots] at X36 l36 y36 z36 st36 hQ36
      subst l36 y36 z36
      obtain ⟨Nq36, eq36, hR36⟩ := hQ36
      have N36 := Fr.app N35 Nq36
      obtain rfl := hR36
      refine Gets.tr st36 ?_
      show Gets p e below _ (T36.setTop (mkF m 206 #[.val (.int p1), .val (.int p2), .val (.int p3), .val (.int p4), .val (.int p5), .val (.ref b1), .val (.int ((p1 &&& (2147483647 : Int32)) % (129 : Int32))), .val (.int ((p2 &&& (2147483647 : Int32)) % (129 : Int32))), .val (.int p3), .val (.int (p4 % (200 : Int32))), .val (.int (0 : Int32)), .val (.ref ov11), .val (.ref ov15), .val (.int (1 : Int32))] [(own_h1 ((p1 &&& (2147483647 : Int32)) % (129 : Int32)) ((p1 &&& (2147483647 : Int32)) % (129 : Int32)) ov11)]))
      refine Gets.of (fun t k => XS.aload X36.here hx rfl (hb hby at_206) rfl rfl  k) ?_
      refine Gets.of (fun t k => Jvm.RoadKit.acmp (g := (mkF m 208 #[.val (.int p1), .val (.int p2), .val (.int p3), .val (.int p4), .val (.int p5), .val (.ref b1), .val (.int ((p1 &&& (2147483647 : Int32)) % (129 : Int32))), .val (.int ((p2 &&& (2147483647 : Int32)) % (129 : Int32))), .val (.int p3), .val (.int (p4 % (200 : Int32))), .val (.int (0 : Int32)), .val (.ref ov11), .val (.ref ov15), .val (.int (1 : Int32))] [(.ref ov11), (own_h1 ((p1 &&& (2147483647 : Int32)) % (129 : Int32)) ((p1 &&& (2147483647 : Int32)) % (129 : Int32)) ov11)])) X36 hx rfl (own_h1_ref _ _ _) rfl (pc0 := 208) (pc' := 211) (same := true) rfl (hb hby at_208) rfl (decide_eq_true (own_h1_self _ _)) (by decide) (by decide) k) ?_
      show Gets p e below _ (T36.setTop (mkF m 211 #[.val (.int p1), .val (.int p2), .val (.int p3), .val (.int p4), .val (.int p5), .val (.ref b1), .val (.int ((p1 &&& (2147483647 : Int32)) % (129 : Int32))), .val (.int ((p2 &&& (2147483647 : Int32)) % (129 : Int32))), .val (.int p3), .val (.int (p4 % (200 : Int32))), .val (.int (0 : Int32)), .val (.ref ov11), .val (.ref ov15), .val (.int (1 : Int32))] []))
      refine Gets.of (fun t k => XS.iconst X36.here hx rfl (hb hby at_211) k) ?_
      refine Gets.of (fun t k => XS.goto X36.here hx rfl (pc0 := 212) (pc' := 216) rfl (hb hby at_212) (by decide) (by decide) k) ?_
      show Gets p e below _ (T36.setTop (mkF m 216 #[.val (.int p1), .val (.int p2), .val (.int p3), .val (.int p4), .val (.int p5), .val (.ref b1), .val (.int ((p1 &&& (2147483647 : Int32)) % (129 : Int32))), .val (.int ((p2 &&& (2147483647 : Int32)) % (129 : Int32))), .val (.int p3), .val (.int (p4 % (200 : Int32))), .val (.int (0 : Int32)), .val (.ref ov11), .val (.ref ov15), .val (.int (1 : Int32))] [(.int (1 : Int32))]))
      refine Gets.of (fun t k => XS.istore X36.here hx rfl (hb hby at_216) rfl (l' := #[.val (.int p1), .val (.int p2), .val (.int p3), .val (.int p4), .val (.int p5), .val (.ref b1), .val (.int ((p1 &&& (2147483647 : Int32)) % (129 : Int32))), .val (.int ((p2 &&& (2147483647 : Int32)) % (129 : Int32))), .val (.int p3), .val (.int (p4 % (200 : Int32))), .val (.int (0 : Int32)), .val (.ref ov11), .val (.ref ov15), .val (.int (1 : Int32))]) rfl k) ?_
      show Gets p e below _ (T36.setTop (mkF m 218 #[.val (.int p1), .val (.int p2), .val (.int p3), .val (.int p4), .val (.int p5), .val (.ref b1), .val (.int ((p1 &&& (2147483647 : Int32)) % (129 : Int32))), .val (.int ((p2 &&& (2147483647 : Int32)) % (129 : Int32))), .val (.int p3), .val (.int (p4 % (200 : Int32))), .val (.int (0 : Int32)), .val (.ref ov11), .val (.ref ov15), .val (.int (1 : Int32))] []))
      refine Gets.of (fun t k => XS.iload X36.here hx rfl (hb hby at_218) rfl  k) ?_
      refine Gets.of (fun t k => XS.ifNo X36.here hx rfl (hb hby at_220) rfl ((if0 _ _).trans (feq (by decide : ¬ ((1 : Int32) = (0 : Int32)))).1) k) ?_
      show Gets p e below _ (T36.setTop (mkF m 223 #[.val (.int p1), .val (.int p2), .val (.int p3), .val (.int p4), .val (.int p5), .val (.ref b1), .val (.int ((p1 &&& (2147483647 : Int32)) % (129 : Int32))), .val (.int ((p2 &&& (2147483647 : Int32)) % (129 : Int32))), .val (.int p3), .val (.int (p4 % (200 : Int32))), .val (.int (0 : Int32)), .val (.ref ov11), .val (.ref ov15), .val (.int (1 : Int32))] []))
      refine Gets.of (fun t k => XS.aload X36.here hx rfl (hb hby at_223) rfl rfl  k) ?_
      refine Gets.of (fun t k => XS.iload X36.here hx rfl (hb hby at_225) rfl  k) ?_
      obtain ⟨cq37, kq37, q37a, q37b, q37c⟩ := isOf hZ eq36 f32
      obtain ⟨_, _, ⟨T37, L37, k37, n37⟩, -, X37, ⟨Lc37, hQ37, l37, y37, z37⟩, st37⟩ := X36.virtualBack hx (y := (⟨cn0, "layout", cn2⟩ : MethodName)) (z := (⟨cn0, "layout", cn2⟩ : MethodName)) hown (mvT hZ (w58 hw)) (mvT hZ (w59 hw)) (notFace_of_selects (args := #[]) (mvT hZ (w61 hw))) (mvT hZ (w61 hw)) (mvT hZ (w60 hw)) (by decide) (backOf (W := 0) (rm_lay1 l Z a0 hw [] b1 b11_3 k11_3 ((p2 &&& (2147483647 : Int32)) % (129 : Int32)) ((p1 &&& (2147483647 : Int32)) % (129 : Int32)) ov11 T28.heap n0 O29 f30 bf28_0 (own_n129a p1) (own_n129b p1)) hZ (w62 hw) (w2 hw) (by decide) (by decide)) q37a q37c (g := (mkF m 227 #[.val (.int p1), .val (.int p2), .val (.int p3), .val (.int p4), .val (.int p5), .val (.ref b1), .val (.int ((p1 &&& (2147483647 : Int32)) % (129 : Int32))), .val (.int ((p2 &&& (2147483647 : Int32)) % (129 : Int32))), .val (.int p3), .val (.int (p4 % (200 : Int32))), .val (.int (0 : Int32)), .val (.ref ov11), .val (.ref ov15), .val (.int (1 : Int32))] [(.int ((p2 &&& (2147483647 : Int32)) % (129 : Int32))), (.ref b1)])) rfl (by rw [hml]; rfl) (Steps.refl _) (argsL := [(.int ((p2 &&& (2147483647 : Int32)) % (129 : Int32)))]) (rest := []) (lenOf pd__I_Lcom_example_cardwire_cardwire_core_Layout_ rfl) rfl (by show 2 * 0 + _ ≤ _; exact Nat.le_of_eq rfl) (hb hby at_227) (fun _ _ => ⟨rfl, eq36, (by decide : 6 + 0 ≤ _), (by decide : 280 + 0 ≤ _)⟩)
      dsimp only [Pt.U, Pt.locs, Pt.cells, Pt.slots] at X37 l37 y37 z37 st37 hQ37
      subst l37 y37 z37
      obtain ⟨Nq37, eq37, hR37⟩ := hQ37
      have N37 := Fr.app N36 Nq37
      obtain rfl := hR37
      refine Gets.tr st37 ?_
      show Gets p e below _ (T37.setTop (mkF m 230 #[.val (.int p1), .val (.int p2), .val (.int p3), .val (.int p4), .val (.int p5), .val (.ref b1), .val (.int ((p1 &&& (2147483647 : Int32)) % (129 : Int32))), .val (.int ((p2 &&& (2147483647 : Int32)) % (129 : Int32))), .val (.int p3), .val (.int (p4 % (200 : Int32))), .val (.int (0 : Int32)), .val (.ref ov11), .val (.ref ov15), .val (.int (1 : Int32))] [(own_h1 ((p2 &&& (2147483647 : Int32)) % (129 : Int32)) ((p1 &&& (2147483647 : Int32)) % (129 : Int32)) ov11)]))
      refine Gets.of (fun t k => XS.iload X37.here hx rfl (hb hby at_230) rfl  k) ?_
      refine Gets.of (fun t k => XS.iload X37.here hx rfl (hb hby at_232) rfl  k) ?_
      refine Gets.of (fun t k => XS.iload X37.here hx rfl (hb hby at_234) rfl  k) ?_
      refine Gets.of (fun t k => XS.iload X37.here hx rfl (hb hby at_236) rfl  k) ?_
      show Gets p e below _ (T37.setTop (mkF m 238 #[.val (.int p1), .val (.int p2), .val (.int p3), .val (.int p4), .val (.int p5), .val (.ref b1), .val (.int ((p1 &&& (2147483647 : Int32)) % (129 : Int32))), .val (.int ((p2 &&& (2147483647 : Int32)) % (129 : Int32))), .val (.int p3), .val (.int (p4 % (200 : Int32))), .val (.int (0 : Int32)), .val (.ref ov11), .val (.ref ov15), .val (.int (1 : Int32))] [(.int ((p2 &&& (2147483647 : Int32)) % (129 : Int32))), (.int (0 : Int32)), (.int ((p1 &&& (2147483647 : Int32)) % (129 : Int32))), (.int ((p2 &&& (2147483647 : Int32)) % (129 : Int32))), (own_h1 ((p2 &&& (2147483647 : Int32)) % (129 : Int32)) ((p1 &&& (2147483647 : Int32)) % (129 : Int32)) ov11)]))
      refine Gets.of (fun t k => XS.aload X37.here hx rfl (hb hby at_238) rfl rfl  k) ?_
      refine Gets.of (fun t k => XS.aload X37.here hx rfl (hb hby at_240) rfl rfl  k) ?_
      obtain ⟨_, _, ⟨T38, L38, k38, n38⟩, -, X38, ⟨Lc38, hQ38, l38, y38, z38⟩, st38⟩ := Jvm.LawKit.callS X37 hx (y := (⟨cn5, "expected", cn8⟩ : MethodName)) hown (mvT hZ (w98 hw)) (mvT hZ (w99 hw)) (mvT hZ (w100 hw)) (mvT hZ (w101 hw)) (by decide) (backOf (W := 1) (rm_exp0 l Z a0 hw [] ((p2 &&& (2147483647 : Int32)) % (129 : Int32)) ((p1 &&& (2147483647 : Int32)) % (129 : Int32)) ((p2 &&& (2147483647 : Int32)) % (129 : Int32)) ov11 ov15 T28.heap n0 O29) hZ (w101 hw) (w100 hw) (by decide) (by decide)) (g := (mkF m 242 #[.val (.int p1), .val (.int p2), .val (.int p3), .val (.int p4), .val (.int p5), .val (.ref b1), .val (.int ((p1 &&& (2147483647 : Int32)) % (129 : Int32))), .val (.int ((p2 &&& (2147483647 : Int32)) % (129 : Int32))), .val (.int p3), .val (.int (p4 % (200 : Int32))), .val (.int (0 : Int32)), .val (.ref ov11), .val (.ref ov15), .val (.int (1 : Int32))] [(.ref ov15), (.ref ov11), (.int ((p2 &&& (2147483647 : Int32)) % (129 : Int32))), (.int (0 : Int32)), (.int ((p1 &&& (2147483647 : Int32)) % (129 : Int32))), (.int ((p2 &&& (2147483647 : Int32)) % (129 : Int32))), (own_h1 ((p2 &&& (2147483647 : Int32)) % (129 : Int32)) ((p1 &&& (2147483647 : Int32)) % (129 : Int32)) ov11)])) rfl (by rw [hml]; rfl) (argsL := [(.int ((p2 &&& (2147483647 : Int32)) % (129 : Int32))), (.int ((p1 &&& (2147483647 : Int32)) % (129 : Int32))), (.int (0 : Int32)), (.int ((p2 &&& (2147483647 : Int32)) % (129 : Int32))), (.ref ov11), (.ref ov15)]) (rest := [(own_h1 ((p2 &&& (2147483647 : Int32)) % (129 : Int32)) ((p1 &&& (2147483647 : Int32)) % (129 : Int32)) ov11)]) (lenOf pd__IIZILcom_example_cardwire_cardwire_core_Layout_Lcom_example_cardwire_cardwire_core_Layout_Lcom_example_cardwire_cardwire_core_Layout_ rfl) rfl (by show 2 * 0 + (List.map (fun v => v.category) [(own_h1 ((p2 &&& (2147483647 : Int32)) % (129 : Int32)) ((p1 &&& (2147483647 : Int32)) % (129 : Int32)) ov11)]).sum ≤ _; simp only [List.map_cons, List.map_nil, own_catR (own_h1_ref _ _ _)]; exact Nat.le_of_eq rfl) (hb hby at_242) (fun _ _ => ⟨rfl, eq37, (by decide : 6 + 0 ≤ _), (by decide : 280 + 0 ≤ _)⟩)
      dsimp only [Pt.U, Pt.locs, Pt.cells, Pt.slots] at X38 l38 y38 z38 st38 hQ38
      subst l38 y38 z38
      obtain ⟨Nq38, eq38, hR38⟩ := hQ38
      have N38 := Fr.app N37 Nq38
      obtain rfl := hR38
      refine Gets.of st38 ?_
      show Gets p e below _ (T38.setTop (mkF m 245 #[.val (.int p1), .val (.int p2), .val (.int p3), .val (.int p4), .val (.int p5), .val (.ref b1), .val (.int ((p1 &&& (2147483647 : Int32)) % (129 : Int32))), .val (.int ((p2 &&& (2147483647 : Int32)) % (129 : Int32))), .val (.int p3), .val (.int (p4 % (200 : Int32))), .val (.int (0 : Int32)), .val (.ref ov11), .val (.ref ov15), .val (.int (1 : Int32))] [(own_h1 ((p2 &&& (2147483647 : Int32)) % (129 : Int32)) ((p1 &&& (2147483647 : Int32)) % (129 : Int32)) ov11), (own_h1 ((p2 &&& (2147483647 : Int32)) % (129 : Int32)) ((p1 &&& (2147483647 : Int32)) % (129 : Int32)) ov11)]))
      refine Gets.of (fun t k => Jvm.RoadKit.acmp (g := (mkF m 245 #[.val (.int p1), .val (.int p2), .val (.int p3), .val (.int p4), .val (.int p5), .val (.ref b1), .val (.int ((p1 &&& (2147483647 : Int32)) % (129 : Int32))), .val (.int ((p2 &&& (2147483647 : Int32)) % (129 : Int32))), .val (.int p3), .val (.int (p4 % (200 : Int32))), .val (.int (0 : Int32)), .val (.ref ov11), .val (.ref ov15), .val (.int (1 : Int32))] [(own_h1 ((p2 &&& (2147483647 : Int32)) % (129 : Int32)) ((p1 &&& (2147483647 : Int32)) % (129 : Int32)) ov11), (own_h1 ((p2 &&& (2147483647 : Int32)) % (129 : Int32)) ((p1 &&& (2147483647 : Int32)) % (129 : Int32)) ov11)])) X38 hx rfl (own_h1_ref _ _ _) (own_h1_ref _ _ _) (pc0 := 245) (pc' := 248) (same := true) rfl (hb hby at_245) rfl (decide_eq_true rfl) (by decide) (by decide) k) ?_
      show Gets p e below _ (T38.setTop (mkF m 248 #[.val (.int p1), .val (.int p2), .val (.int p3), .val (.int p4), .val (.int p5), .val (.ref b1), .val (.int ((p1 &&& (2147483647 : Int32)) % (129 : Int32))), .val (.int ((p2 &&& (2147483647 : Int32)) % (129 : Int32))), .val (.int p3), .val (.int (p4 % (200 : Int32))), .val (.int (0 : Int32)), .val (.ref ov11), .val (.ref ov15), .val (.int (1 : Int32))] []))
      refine Gets.of (fun t k => XS.iconst X38.here hx rfl (hb hby at_248) k) ?_
      refine Gets.of (fun t k => XS.goto X38.here hx rfl (pc0 := 249) (pc' := 253) rfl (hb hby at_249) (by decide) (by decide) k) ?_
      show Gets p e below _ (T38.setTop (mkF m 253 #[.val (.int p1), .val (.int p2), .val (.int p3), .val (.int p4), .val (.int p5), .val (.ref b1), .val (.int ((p1 &&& (2147483647 : Int32)) % (129 : Int32))), .val (.int ((p2 &&& (2147483647 : Int32)) % (129 : Int32))), .val (.int p3), .val (.int (p4 % (200 : Int32))), .val (.int (0 : Int32)), .val (.ref ov11), .val (.ref ov15), .val (.int (1 : Int32))] [(.int (1 : Int32))]))
      refine Gets.of (fun t k => XS.istore X38.here hx rfl (hb hby at_253) rfl (l' := #[.val (.int p1), .val (.int p2), .val (.int p3), .val (.int p4), .val (.int p5), .val (.ref b1), .val (.int ((p1 &&& (2147483647 : Int32)) % (129 : Int32))), .val (.int ((p2 &&& (2147483647 : Int32)) % (129 : Int32))), .val (.int p3), .val (.int (p4 % (200 : Int32))), .val (.int (0 : Int32)), .val (.ref ov11), .val (.ref ov15), .val (.int (1 : Int32))]) rfl k) ?_
      show Gets p e below _ (T38.setTop (mkF m 255 #[.val (.int p1), .val (.int p2), .val (.int p3), .val (.int p4), .val (.int p5), .val (.ref b1), .val (.int ((p1 &&& (2147483647 : Int32)) % (129 : Int32))), .val (.int ((p2 &&& (2147483647 : Int32)) % (129 : Int32))), .val (.int p3), .val (.int (p4 % (200 : Int32))), .val (.int (0 : Int32)), .val (.ref ov11), .val (.ref ov15), .val (.int (1 : Int32))] []))
      refine Gets.of (fun t k => XS.iload X38.here hx rfl (hb hby at_255) rfl  k) ?_
      refine Gets.retN X38 hx (t := .boolean) Bd.returns (by simp) (hb hby at_257) ?_ (by decide) (by decide)
      rw [eq38]
      exact ⟨N38, K29, rfl⟩
    · skip
      refine Gets.of (fun t k => XS.icmpNo X3.here hx rfl (hb hby at_50) rfl (feq hc22).1 k) ?_
      show Gets p e below _ (T3.setTop (mkF m 53 #[.val (.int p1), .val (.int p2), .val (.int p3), .val (.int p4), .val (.int p5), .val (.ref b1), .val (.int ((p1 &&& (2147483647 : Int32)) % (129 : Int32))), .val (.int ((p2 &&& (2147483647 : Int32)) % (129 : Int32))), .val (.int p3), .val (.int (p4 % (200 : Int32))), .unset, .unset, .unset, .unset] []))
      refine Gets.of (fun t k => XS.iconst X3.here hx rfl (hb hby at_53) k) ?_
      refine Gets.of (fun t k => XS.goto X3.here hx rfl (pc0 := 54) (pc' := 58) rfl (hb hby at_54) (by decide) (by decide) k) ?_
      show Gets p e below _ (T3.setTop (mkF m 58 #[.val (.int p1), .val (.int p2), .val (.int p3), .val (.int p4), .val (.int p5), .val (.ref b1), .val (.int ((p1 &&& (2147483647 : Int32)) % (129 : Int32))), .val (.int ((p2 &&& (2147483647 : Int32)) % (129 : Int32))), .val (.int p3), .val (.int (p4 % (200 : Int32))), .unset, .unset, .unset, .unset] [(.int (1 : Int32))]))
      refine Gets.of (fun t k => XS.istore X3.here hx rfl (hb hby at_58) rfl (l' := #[.val (.int p1), .val (.int p2), .val (.int p3), .val (.int p4), .val (.int p5), .val (.ref b1), .val (.int ((p1 &&& (2147483647 : Int32)) % (129 : Int32))), .val (.int ((p2 &&& (2147483647 : Int32)) % (129 : Int32))), .val (.int p3), .val (.int (p4 % (200 : Int32))), .val (.int (1 : Int32)), .unset, .unset, .unset]) rfl k) ?_
      show Gets p e below _ (T3.setTop (mkF m 60 #[.val (.int p1), .val (.int p2), .val (.int p3), .val (.int p4), .val (.int p5), .val (.ref b1), .val (.int ((p1 &&& (2147483647 : Int32)) % (129 : Int32))), .val (.int ((p2 &&& (2147483647 : Int32)) % (129 : Int32))), .val (.int p3), .val (.int (p4 % (200 : Int32))), .val (.int (1 : Int32)), .unset, .unset, .unset] []))
      obtain ⟨T39, X39, e39, st39⟩ := getS2 X3 hx hZ hown (host := "") (Or.inl (w52 hw)) Via.refl rfl (oS13.ext O4.2) (g := (mkF m 60 #[.val (.int p1), .val (.int p2), .val (.int p3), .val (.int p4), .val (.int p5), .val (.ref b1), .val (.int ((p1 &&& (2147483647 : Int32)) % (129 : Int32))), .val (.int ((p2 &&& (2147483647 : Int32)) % (129 : Int32))), .val (.int p3), .val (.int (p4 % (200 : Int32))), .val (.int (1 : Int32)), .unset, .unset, .unset] [])) rfl (hb hby at_60)
      refine Gets.of st39 ?_
      show Gets p e below _ (T39.setTop (mkF m 63 #[.val (.int p1), .val (.int p2), .val (.int p3), .val (.int p4), .val (.int p5), .val (.ref b1), .val (.int ((p1 &&& (2147483647 : Int32)) % (129 : Int32))), .val (.int ((p2 &&& (2147483647 : Int32)) % (129 : Int32))), .val (.int p3), .val (.int (p4 % (200 : Int32))), .val (.int (1 : Int32)), .unset, .unset, .unset] [(.ref ov11)]))
      refine Gets.of (fun t k => XS.astore X39.here hx rfl (hb hby at_63) rfl rfl (l' := #[.val (.int p1), .val (.int p2), .val (.int p3), .val (.int p4), .val (.int p5), .val (.ref b1), .val (.int ((p1 &&& (2147483647 : Int32)) % (129 : Int32))), .val (.int ((p2 &&& (2147483647 : Int32)) % (129 : Int32))), .val (.int p3), .val (.int (p4 % (200 : Int32))), .val (.int (1 : Int32)), .val (.ref ov11), .unset, .unset]) rfl k) ?_
      show Gets p e below _ (T39.setTop (mkF m 65 #[.val (.int p1), .val (.int p2), .val (.int p3), .val (.int p4), .val (.int p5), .val (.ref b1), .val (.int ((p1 &&& (2147483647 : Int32)) % (129 : Int32))), .val (.int ((p2 &&& (2147483647 : Int32)) % (129 : Int32))), .val (.int p3), .val (.int (p4 % (200 : Int32))), .val (.int (1 : Int32)), .val (.ref ov11), .unset, .unset] []))
      obtain ⟨T40, X40, e40, st40⟩ := getS2 X39 hx hZ hown (host := "") (Or.inl (w55 hw)) Via.refl e39 (oS17.ext O4.2) (g := (mkF m 65 #[.val (.int p1), .val (.int p2), .val (.int p3), .val (.int p4), .val (.int p5), .val (.ref b1), .val (.int ((p1 &&& (2147483647 : Int32)) % (129 : Int32))), .val (.int ((p2 &&& (2147483647 : Int32)) % (129 : Int32))), .val (.int p3), .val (.int (p4 % (200 : Int32))), .val (.int (1 : Int32)), .val (.ref ov11), .unset, .unset] [])) rfl (hb hby at_65)
      refine Gets.of st40 ?_
      show Gets p e below _ (T40.setTop (mkF m 68 #[.val (.int p1), .val (.int p2), .val (.int p3), .val (.int p4), .val (.int p5), .val (.ref b1), .val (.int ((p1 &&& (2147483647 : Int32)) % (129 : Int32))), .val (.int ((p2 &&& (2147483647 : Int32)) % (129 : Int32))), .val (.int p3), .val (.int (p4 % (200 : Int32))), .val (.int (1 : Int32)), .val (.ref ov11), .unset, .unset] [(.ref ov15)]))
      refine Gets.of (fun t k => XS.astore X40.here hx rfl (hb hby at_68) rfl rfl (l' := #[.val (.int p1), .val (.int p2), .val (.int p3), .val (.int p4), .val (.int p5), .val (.ref b1), .val (.int ((p1 &&& (2147483647 : Int32)) % (129 : Int32))), .val (.int ((p2 &&& (2147483647 : Int32)) % (129 : Int32))), .val (.int p3), .val (.int (p4 % (200 : Int32))), .val (.int (1 : Int32)), .val (.ref ov11), .val (.ref ov15), .unset]) rfl k) ?_
      show Gets p e below _ (T40.setTop (mkF m 70 #[.val (.int p1), .val (.int p2), .val (.int p3), .val (.int p4), .val (.int p5), .val (.ref b1), .val (.int ((p1 &&& (2147483647 : Int32)) % (129 : Int32))), .val (.int ((p2 &&& (2147483647 : Int32)) % (129 : Int32))), .val (.int p3), .val (.int (p4 % (200 : Int32))), .val (.int (1 : Int32)), .val (.ref ov11), .val (.ref ov15), .unset] []))
      refine Gets.of (fun t k => XS.aload X40.here hx rfl (hb hby at_70) rfl rfl  k) ?_
      refine Gets.of (fun t k => XS.iload X40.here hx rfl (hb hby at_72) rfl  k) ?_
      have f42 : Exa Z T3.heap b1 cn0 := (A1.keep Kq3)
      obtain ⟨cq41, kq41, q41a, q41b, q41c⟩ := isOf hZ e40 f42
      obtain ⟨_, _, ⟨T41, L41, k41, n41⟩, -, X41, ⟨Lc41, hQ41, l41, y41, z41⟩, st41⟩ := X40.virtualBack hx (y := (⟨cn0, "layout", cn2⟩ : MethodName)) (z := (⟨cn0, "layout", cn2⟩ : MethodName)) hown (mvT hZ (w58 hw)) (mvT hZ (w59 hw)) (notFace_of_selects (args := #[]) (mvT hZ (w61 hw))) (mvT hZ (w61 hw)) (mvT hZ (w60 hw)) (by decide) (backOf (W := 0) (r5_layout l Z a0 hw [] b1 p3 b11_3 k11_3 T3.heap n0 O4 bf3_1 bf3_6) hZ (w62 hw) (w2 hw) (by decide) (by decide)) q41a q41c (g := (mkF m 74 #[.val (.int p1), .val (.int p2), .val (.int p3), .val (.int p4), .val (.int p5), .val (.ref b1), .val (.int ((p1 &&& (2147483647 : Int32)) % (129 : Int32))), .val (.int ((p2 &&& (2147483647 : Int32)) % (129 : Int32))), .val (.int p3), .val (.int (p4 % (200 : Int32))), .val (.int (1 : Int32)), .val (.ref ov11), .val (.ref ov15), .unset] [(.int p3), (.ref b1)])) rfl (by rw [hml]; rfl) (Steps.refl _) (argsL := [(.int p3)]) (rest := []) (lenOf pd__I_Lcom_example_cardwire_cardwire_core_Layout_ rfl) rfl (by show 2 * 0 + _ ≤ _; exact Nat.le_of_eq rfl) (hb hby at_74) (fun _ _ => ⟨rfl, e40, (by decide : 5 + 0 ≤ _), (by decide : 279 + 0 ≤ _)⟩)
      dsimp only [Pt.U, Pt.locs, Pt.cells, Pt.slots] at X41 l41 y41 z41 st41 hQ41
      subst l41 y41 z41
      obtain ⟨Nq41, eq41, hR41⟩ := hQ41
      have N41 := Fr.app N3 Nq41
      obtain rfl := hR41
      refine Gets.tr st41 ?_
      show Gets p e below _ (T41.setTop (mkF m 77 #[.val (.int p1), .val (.int p2), .val (.int p3), .val (.int p4), .val (.int p5), .val (.ref b1), .val (.int ((p1 &&& (2147483647 : Int32)) % (129 : Int32))), .val (.int ((p2 &&& (2147483647 : Int32)) % (129 : Int32))), .val (.int p3), .val (.int (p4 % (200 : Int32))), .val (.int (1 : Int32)), .val (.ref ov11), .val (.ref ov15), .unset] [.null]))
      refine Gets.of (fun t k => XS.ifnonnullNo X41.here hx rfl (hb hby at_77) rfl k) ?_
      show Gets p e below _ (T41.setTop (mkF m 80 #[.val (.int p1), .val (.int p2), .val (.int p3), .val (.int p4), .val (.int p5), .val (.ref b1), .val (.int ((p1 &&& (2147483647 : Int32)) % (129 : Int32))), .val (.int ((p2 &&& (2147483647 : Int32)) % (129 : Int32))), .val (.int p3), .val (.int (p4 % (200 : Int32))), .val (.int (1 : Int32)), .val (.ref ov11), .val (.ref ov15), .unset] []))
      refine Gets.of (fun t k => XS.aload X41.here hx rfl (hb hby at_80) rfl rfl  k) ?_
      refine Gets.of (fun t k => XS.iload X41.here hx rfl (hb hby at_82) rfl  k) ?_
      obtain ⟨cq43, kq43, q43a, q43b, q43c⟩ := isOf hZ eq41 f42
      obtain ⟨_, _, ⟨T43, L43, k43, n43⟩, -, X43, ⟨Lc43, hQ43, l43, y43, z43⟩, st43⟩ := X41.virtualBack hx (y := (⟨cn0, "layout", cn2⟩ : MethodName)) (z := (⟨cn0, "layout", cn2⟩ : MethodName)) hown (mvT hZ (w58 hw)) (mvT hZ (w59 hw)) (notFace_of_selects (args := #[]) (mvT hZ (w61 hw))) (mvT hZ (w61 hw)) (mvT hZ (w60 hw)) (by decide) (backOf (W := 0) (r5_layout l Z a0 hw [] b1 (p4 % (200 : Int32)) b11_3 k11_3 T3.heap n0 O4 bf3_1 bf3_6) hZ (w62 hw) (w2 hw) (by decide) (by decide)) q43a q43c (g := (mkF m 84 #[.val (.int p1), .val (.int p2), .val (.int p3), .val (.int p4), .val (.int p5), .val (.ref b1), .val (.int ((p1 &&& (2147483647 : Int32)) % (129 : Int32))), .val (.int ((p2 &&& (2147483647 : Int32)) % (129 : Int32))), .val (.int p3), .val (.int (p4 % (200 : Int32))), .val (.int (1 : Int32)), .val (.ref ov11), .val (.ref ov15), .unset] [(.int (p4 % (200 : Int32))), (.ref b1)])) rfl (by rw [hml]; rfl) (Steps.refl _) (argsL := [(.int (p4 % (200 : Int32)))]) (rest := []) (lenOf pd__I_Lcom_example_cardwire_cardwire_core_Layout_ rfl) rfl (by show 2 * 0 + _ ≤ _; exact Nat.le_of_eq rfl) (hb hby at_84) (fun _ _ => ⟨rfl, eq41, (by decide : 5 + 0 ≤ _), (by decide : 279 + 0 ≤ _)⟩)
      dsimp only [Pt.U, Pt.locs, Pt.cells, Pt.slots] at X43 l43 y43 z43 st43 hQ43
      subst l43 y43 z43
      obtain ⟨Nq43, eq43, hR43⟩ := hQ43
      have N43 := Fr.app N41 Nq43
      obtain rfl := hR43
      refine Gets.tr st43 ?_
      show Gets p e below _ (T43.setTop (mkF m 87 #[.val (.int p1), .val (.int p2), .val (.int p3), .val (.int p4), .val (.int p5), .val (.ref b1), .val (.int ((p1 &&& (2147483647 : Int32)) % (129 : Int32))), .val (.int ((p2 &&& (2147483647 : Int32)) % (129 : Int32))), .val (.int p3), .val (.int (p4 % (200 : Int32))), .val (.int (1 : Int32)), .val (.ref ov11), .val (.ref ov15), .unset] [.null]))
      refine Gets.of (fun t k => XS.ifnonnullNo X43.here hx rfl (hb hby at_87) rfl k) ?_
      show Gets p e below _ (T43.setTop (mkF m 90 #[.val (.int p1), .val (.int p2), .val (.int p3), .val (.int p4), .val (.int p5), .val (.ref b1), .val (.int ((p1 &&& (2147483647 : Int32)) % (129 : Int32))), .val (.int ((p2 &&& (2147483647 : Int32)) % (129 : Int32))), .val (.int p3), .val (.int (p4 % (200 : Int32))), .val (.int (1 : Int32)), .val (.ref ov11), .val (.ref ov15), .unset] []))
      refine Gets.of (fun t k => XS.iconst X43.here hx rfl (hb hby at_90) k) ?_
      refine Gets.of (fun t k => XS.goto X43.here hx rfl (pc0 := 91) (pc' := 95) rfl (hb hby at_91) (by decide) (by decide) k) ?_
      show Gets p e below _ (T43.setTop (mkF m 95 #[.val (.int p1), .val (.int p2), .val (.int p3), .val (.int p4), .val (.int p5), .val (.ref b1), .val (.int ((p1 &&& (2147483647 : Int32)) % (129 : Int32))), .val (.int ((p2 &&& (2147483647 : Int32)) % (129 : Int32))), .val (.int p3), .val (.int (p4 % (200 : Int32))), .val (.int (1 : Int32)), .val (.ref ov11), .val (.ref ov15), .unset] [(.int (1 : Int32))]))
      refine Gets.of (fun t k => XS.istore X43.here hx rfl (hb hby at_95) rfl (l' := #[.val (.int p1), .val (.int p2), .val (.int p3), .val (.int p4), .val (.int p5), .val (.ref b1), .val (.int ((p1 &&& (2147483647 : Int32)) % (129 : Int32))), .val (.int ((p2 &&& (2147483647 : Int32)) % (129 : Int32))), .val (.int p3), .val (.int (p4 % (200 : Int32))), .val (.int (1 : Int32)), .val (.ref ov11), .val (.ref ov15), .val (.int (1 : Int32))]) rfl k) ?_
      show Gets p e below _ (T43.setTop (mkF m 97 #[.val (.int p1), .val (.int p2), .val (.int p3), .val (.int p4), .val (.int p5), .val (.ref b1), .val (.int ((p1 &&& (2147483647 : Int32)) % (129 : Int32))), .val (.int ((p2 &&& (2147483647 : Int32)) % (129 : Int32))), .val (.int p3), .val (.int (p4 % (200 : Int32))), .val (.int (1 : Int32)), .val (.ref ov11), .val (.ref ov15), .val (.int (1 : Int32))] []))
      refine Gets.of (fun t k => XS.aload X43.here hx rfl (hb hby at_97) rfl rfl  k) ?_
      refine Gets.of (fun t k => XS.iload X43.here hx rfl (hb hby at_99) rfl  k) ?_
      refine Gets.of (fun t k => XS.aload X43.here hx rfl (hb hby at_101) rfl rfl  k) ?_
      obtain ⟨cq44, kq44, q44a, q44b, q44c⟩ := isOf hZ eq43 f42
      obtain ⟨_, _, ⟨T44, L44, k44, n44⟩, -, X44, ⟨Lc44, hQ44, l44, y44, z44⟩, st44⟩ := X43.virtualBack hx (y := (⟨cn0, "layOut", cn7⟩ : MethodName)) (z := (⟨cn0, "layOut", cn7⟩ : MethodName)) hown (mvT hZ (w63 hw)) (mvT hZ (w64 hw)) (notFace_of_selects (args := #[]) (mvT hZ (w66 hw))) (mvT hZ (w66 hw)) (mvT hZ (w65 hw)) (by decide) (backOf (W := 0) (r6_layOut l Z a0 hw [] b1 ((p1 &&& (2147483647 : Int32)) % (129 : Int32)) ov11 b11_3 k11_3 b27_3 ov3 oc6 T3.heap n0 O4 bf3_1 bf3_6 bf3_3 bf3_10 bf3_13 bf3_14 bf3_16 oS2 oS5 oE14 g_b11_3 (own_n129a p1) (own_n129b p1) hbx (by have := own_mod129 p1; rw [Int32.lt_iff_toInt_lt]; simp only [Int32.reduceToInt]; omega)) hZ (w67 hw) (w2 hw) (by decide) (by decide)) q44a q44c (g := (mkF m 103 #[.val (.int p1), .val (.int p2), .val (.int p3), .val (.int p4), .val (.int p5), .val (.ref b1), .val (.int ((p1 &&& (2147483647 : Int32)) % (129 : Int32))), .val (.int ((p2 &&& (2147483647 : Int32)) % (129 : Int32))), .val (.int p3), .val (.int (p4 % (200 : Int32))), .val (.int (1 : Int32)), .val (.ref ov11), .val (.ref ov15), .val (.int (1 : Int32))] [(.ref ov11), (.int ((p1 &&& (2147483647 : Int32)) % (129 : Int32))), (.ref b1)])) rfl (by rw [hml]; rfl) (Steps.refl _) (argsL := [(.int ((p1 &&& (2147483647 : Int32)) % (129 : Int32))), (.ref ov11)]) (rest := []) (lenOf pd__ILcom_example_cardwire_cardwire_core_Layout_V rfl) rfl (by show 2 * 0 + _ ≤ _; exact Nat.le_of_eq rfl) (hb hby at_103) (fun _ _ => ⟨rfl, eq43, (by decide : 5 + 1 ≤ _), (by decide : 279 + 1 ≤ _)⟩)
      dsimp only [Pt.U, Pt.locs, Pt.cells, Pt.slots] at X44 l44 y44 z44 st44 hQ44
      subst l44 y44 z44
      obtain ⟨Nq44, Kq44, hR44⟩ := hQ44
      have N44 := Fr.app N43 Nq44
      have K45 : Keep h0 _ [] := K4.trans Kq44 (allS (Or.inr sz_b11_3) all0)
      have O45 := O4.keep Kq44 (allS g_b11_3 all0)
      obtain ⟨rfl, bf44_0, bf44_1⟩ := hR44
      refine Gets.tr st44 ?_
      show Gets p e below _ (T44.setTop (mkF m 106 #[.val (.int p1), .val (.int p2), .val (.int p3), .val (.int p4), .val (.int p5), .val (.ref b1), .val (.int ((p1 &&& (2147483647 : Int32)) % (129 : Int32))), .val (.int ((p2 &&& (2147483647 : Int32)) % (129 : Int32))), .val (.int p3), .val (.int (p4 % (200 : Int32))), .val (.int (1 : Int32)), .val (.ref ov11), .val (.ref ov15), .val (.int (1 : Int32))] []))
      refine Gets.of (fun t k => XS.iload X44.here hx rfl (hb hby at_106) rfl  k) ?_
      refine Gets.of (fun t k => XS.ifNo X44.here hx rfl (hb hby at_108) rfl ((if0 _ _).trans (feq (by decide : ¬ ((1 : Int32) = (0 : Int32)))).1) k) ?_
      show Gets p e below _ (T44.setTop (mkF m 111 #[.val (.int p1), .val (.int p2), .val (.int p3), .val (.int p4), .val (.int p5), .val (.ref b1), .val (.int ((p1 &&& (2147483647 : Int32)) % (129 : Int32))), .val (.int ((p2 &&& (2147483647 : Int32)) % (129 : Int32))), .val (.int p3), .val (.int (p4 % (200 : Int32))), .val (.int (1 : Int32)), .val (.ref ov11), .val (.ref ov15), .val (.int (1 : Int32))] []))
      refine Gets.of (fun t k => XS.aload X44.here hx rfl (hb hby at_111) rfl rfl  k) ?_
      refine Gets.of (fun t k => XS.iload X44.here hx rfl (hb hby at_113) rfl  k) ?_
      refine Gets.of (fun t k => XS.aload X44.here hx rfl (hb hby at_115) rfl rfl  k) ?_
      have f46 : Fld Z T44.heap b1 cn0 "layouts" cn6 (.ref b11_3) := (bf3_1.keep Kq44 (ninS (Nat.ne_of_lt (Nat.lt_of_lt_of_le A1.lt bz3_1)) nin0))
      have f47 : Fld Z T44.heap b1 cn0 "subElements" "Ljava/util/Map;" (.ref b27_3) := (bf3_3.keep Kq44 (ninS (Nat.ne_of_lt (Nat.lt_of_lt_of_le A1.lt bz3_1)) nin0))
      have f48 : Exa Z T44.heap b27_3 cn1 := (bf3_10.keep Kq44)
      have f49 : Fld Z T44.heap b27_3 cn1 "comparator" "Ljava/util/Comparator;" .null := (bf3_13.keep Kq44 (ninS (Ne.symm bn3_4) nin0))
      have f50 : Fld Z T44.heap b27_3 cn1 "root" "Ljava/util/TreeMap$Entry;" .null := (bf3_14.keep Kq44 (ninS (Ne.symm bn3_4) nin0))
      have f52 : Exa Z T44.heap b1 cn0 := (f42.keep Kq44)
      obtain ⟨cq51, kq51, q51a, q51b, q51c⟩ := isOf hZ rfl f52
      obtain ⟨_, _, ⟨T51, L51, k51, n51⟩, -, X51, ⟨Lc51, hQ51, l51, y51, z51⟩, st51⟩ := X44.virtualBack hx (y := (⟨cn0, "layOut", cn7⟩ : MethodName)) (z := (⟨cn0, "layOut", cn7⟩ : MethodName)) hown (mvT hZ (w63 hw)) (mvT hZ (w64 hw)) (notFace_of_selects (args := #[]) (mvT hZ (w66 hw))) (mvT hZ (w66 hw)) (mvT hZ (w65 hw)) (by decide) (backOf (W := 0) (r10_layOut l Z a0 hw [] b1 ((p2 &&& (2147483647 : Int32)) % (129 : Int32)) ov15 b11_3 k11_3 ((p1 &&& (2147483647 : Int32)) % (129 : Int32)) ov11 b27_3 ov3 oc6 T44.heap n0 O45 f46 bf44_0 f47 f48 f49 f50 bf44_1 oS2 oS5 oE18 g_b11_3 hc22 (own_n129a p2) (own_n129b p2) hbx (by have := own_mod129 p2; rw [Int32.lt_iff_toInt_lt]; simp only [Int32.reduceToInt]; omega)) hZ (w67 hw) (w2 hw) (by decide) (by decide)) q51a q51c (g := (mkF m 117 #[.val (.int p1), .val (.int p2), .val (.int p3), .val (.int p4), .val (.int p5), .val (.ref b1), .val (.int ((p1 &&& (2147483647 : Int32)) % (129 : Int32))), .val (.int ((p2 &&& (2147483647 : Int32)) % (129 : Int32))), .val (.int p3), .val (.int (p4 % (200 : Int32))), .val (.int (1 : Int32)), .val (.ref ov11), .val (.ref ov15), .val (.int (1 : Int32))] [(.ref ov15), (.int ((p2 &&& (2147483647 : Int32)) % (129 : Int32))), (.ref b1)])) rfl (by rw [hml]; rfl) (Steps.refl _) (argsL := [(.int ((p2 &&& (2147483647 : Int32)) % (129 : Int32))), (.ref ov15)]) (rest := []) (lenOf pd__ILcom_example_cardwire_cardwire_core_Layout_V rfl) rfl (by show 2 * 0 + _ ≤ _; exact Nat.le_of_eq rfl) (hb hby at_117) (fun _ _ => ⟨rfl, rfl, (by decide : 6 + 1 ≤ _), (by decide : 280 + 1 ≤ _)⟩)
      dsimp only [Pt.U, Pt.locs, Pt.cells, Pt.slots] at X51 l51 y51 z51 st51 hQ51
      subst l51 y51 z51
      obtain ⟨Nq51, Kq51, hR51⟩ := hQ51
      have N51 := Fr.app N44 Nq51
      have K53 : Keep h0 _ [] := K45.trans Kq51 (allS (Or.inr sz_b11_3) all0)
      have O53 := O45.keep Kq51 (allS g_b11_3 all0)
      obtain ⟨rfl, bf51_0, bf51_1⟩ := hR51
      refine Gets.tr st51 ?_
      show Gets p e below _ (T51.setTop (mkF m 120 #[.val (.int p1), .val (.int p2), .val (.int p3), .val (.int p4), .val (.int p5), .val (.ref b1), .val (.int ((p1 &&& (2147483647 : Int32)) % (129 : Int32))), .val (.int ((p2 &&& (2147483647 : Int32)) % (129 : Int32))), .val (.int p3), .val (.int (p4 % (200 : Int32))), .val (.int (1 : Int32)), .val (.ref ov11), .val (.ref ov15), .val (.int (1 : Int32))] []))
      refine Gets.of (fun t k => XS.iload X51.here hx rfl (hb hby at_120) rfl  k) ?_
      refine Gets.of (fun t k => XS.ifNo X51.here hx rfl (hb hby at_122) rfl ((if0 _ _).trans (feq (by decide : ¬ ((1 : Int32) = (0 : Int32)))).1) k) ?_
      show Gets p e below _ (T51.setTop (mkF m 125 #[.val (.int p1), .val (.int p2), .val (.int p3), .val (.int p4), .val (.int p5), .val (.ref b1), .val (.int ((p1 &&& (2147483647 : Int32)) % (129 : Int32))), .val (.int ((p2 &&& (2147483647 : Int32)) % (129 : Int32))), .val (.int p3), .val (.int (p4 % (200 : Int32))), .val (.int (1 : Int32)), .val (.ref ov11), .val (.ref ov15), .val (.int (1 : Int32))] []))
      refine Gets.of (fun t k => XS.aload X51.here hx rfl (hb hby at_125) rfl rfl  k) ?_
      refine Gets.of (fun t k => XS.iload X51.here hx rfl (hb hby at_127) rfl  k) ?_
      have f54 : Fld Z T51.heap b1 cn0 "layouts" cn6 (.ref b11_3) := (f46.keep Kq51 (ninS (Nat.ne_of_lt (Nat.lt_of_lt_of_le A1.lt bz3_1)) nin0))
      have f56 : Exa Z T51.heap b1 cn0 := (f52.keep Kq51)
      obtain ⟨cq55, kq55, q55a, q55b, q55c⟩ := isOf hZ rfl f56
      obtain ⟨_, _, ⟨T55, L55, k55, n55⟩, -, X55, ⟨Lc55, hQ55, l55, y55, z55⟩, st55⟩ := X51.virtualBack hx (y := (⟨cn0, "layout", cn2⟩ : MethodName)) (z := (⟨cn0, "layout", cn2⟩ : MethodName)) hown (mvT hZ (w58 hw)) (mvT hZ (w59 hw)) (notFace_of_selects (args := #[]) (mvT hZ (w61 hw))) (mvT hZ (w61 hw)) (mvT hZ (w60 hw)) (by decide) (backOf (W := 0) (rm_lay2 l Z a0 hw [] b1 b11_3 k11_3 p3 ((p1 &&& (2147483647 : Int32)) % (129 : Int32)) ov11 ((p2 &&& (2147483647 : Int32)) % (129 : Int32)) ov15 T51.heap n0 O53 f54 bf51_0 (own_n129a p1) (own_n129b p1) (own_n129a p2) (own_n129b p2) hc22) hZ (w62 hw) (w2 hw) (by decide) (by decide)) q55a q55c (g := (mkF m 129 #[.val (.int p1), .val (.int p2), .val (.int p3), .val (.int p4), .val (.int p5), .val (.ref b1), .val (.int ((p1 &&& (2147483647 : Int32)) % (129 : Int32))), .val (.int ((p2 &&& (2147483647 : Int32)) % (129 : Int32))), .val (.int p3), .val (.int (p4 % (200 : Int32))), .val (.int (1 : Int32)), .val (.ref ov11), .val (.ref ov15), .val (.int (1 : Int32))] [(.int p3), (.ref b1)])) rfl (by rw [hml]; rfl) (Steps.refl _) (argsL := [(.int p3)]) (rest := []) (lenOf pd__I_Lcom_example_cardwire_cardwire_core_Layout_ rfl) rfl (by show 2 * 0 + _ ≤ _; exact Nat.le_of_eq rfl) (hb hby at_129) (fun _ _ => ⟨rfl, rfl, (by decide : 7 + 0 ≤ _), (by decide : 281 + 0 ≤ _)⟩)
      dsimp only [Pt.U, Pt.locs, Pt.cells, Pt.slots] at X55 l55 y55 z55 st55 hQ55
      subst l55 y55 z55
      obtain ⟨Nq55, eq55, hR55⟩ := hQ55
      have N55 := Fr.app N51 Nq55
      obtain rfl := hR55
      refine Gets.tr st55 ?_
      show Gets p e below _ (T55.setTop (mkF m 132 #[.val (.int p1), .val (.int p2), .val (.int p3), .val (.int p4), .val (.int p5), .val (.ref b1), .val (.int ((p1 &&& (2147483647 : Int32)) % (129 : Int32))), .val (.int ((p2 &&& (2147483647 : Int32)) % (129 : Int32))), .val (.int p3), .val (.int (p4 % (200 : Int32))), .val (.int (1 : Int32)), .val (.ref ov11), .val (.ref ov15), .val (.int (1 : Int32))] [(own_h2 p3 ((p1 &&& (2147483647 : Int32)) % (129 : Int32)) ((p2 &&& (2147483647 : Int32)) % (129 : Int32)) ov11 ov15)]))
      refine Gets.of (fun t k => XS.iload X55.here hx rfl (hb hby at_132) rfl  k) ?_
      refine Gets.of (fun t k => XS.iload X55.here hx rfl (hb hby at_134) rfl  k) ?_
      refine Gets.of (fun t k => XS.iload X55.here hx rfl (hb hby at_136) rfl  k) ?_
      refine Gets.of (fun t k => XS.iload X55.here hx rfl (hb hby at_138) rfl  k) ?_
      show Gets p e below _ (T55.setTop (mkF m 140 #[.val (.int p1), .val (.int p2), .val (.int p3), .val (.int p4), .val (.int p5), .val (.ref b1), .val (.int ((p1 &&& (2147483647 : Int32)) % (129 : Int32))), .val (.int ((p2 &&& (2147483647 : Int32)) % (129 : Int32))), .val (.int p3), .val (.int (p4 % (200 : Int32))), .val (.int (1 : Int32)), .val (.ref ov11), .val (.ref ov15), .val (.int (1 : Int32))] [(.int ((p2 &&& (2147483647 : Int32)) % (129 : Int32))), (.int (1 : Int32)), (.int ((p1 &&& (2147483647 : Int32)) % (129 : Int32))), (.int p3), (own_h2 p3 ((p1 &&& (2147483647 : Int32)) % (129 : Int32)) ((p2 &&& (2147483647 : Int32)) % (129 : Int32)) ov11 ov15)]))
      refine Gets.of (fun t k => XS.aload X55.here hx rfl (hb hby at_140) rfl rfl  k) ?_
      refine Gets.of (fun t k => XS.aload X55.here hx rfl (hb hby at_142) rfl rfl  k) ?_
      obtain ⟨_, _, ⟨T57, L57, k57, n57⟩, -, X57, ⟨Lc57, hQ57, l57, y57, z57⟩, st57⟩ := Jvm.LawKit.callS X55 hx (y := (⟨cn5, "expected", cn8⟩ : MethodName)) hown (mvT hZ (w98 hw)) (mvT hZ (w99 hw)) (mvT hZ (w100 hw)) (mvT hZ (w101 hw)) (by decide) (backOf (W := 1) (rm_exp1 l Z a0 hw [] p3 ((p1 &&& (2147483647 : Int32)) % (129 : Int32)) ((p2 &&& (2147483647 : Int32)) % (129 : Int32)) ov11 ov15 T51.heap n0 O53) hZ (w101 hw) (w100 hw) (by decide) (by decide)) (g := (mkF m 144 #[.val (.int p1), .val (.int p2), .val (.int p3), .val (.int p4), .val (.int p5), .val (.ref b1), .val (.int ((p1 &&& (2147483647 : Int32)) % (129 : Int32))), .val (.int ((p2 &&& (2147483647 : Int32)) % (129 : Int32))), .val (.int p3), .val (.int (p4 % (200 : Int32))), .val (.int (1 : Int32)), .val (.ref ov11), .val (.ref ov15), .val (.int (1 : Int32))] [(.ref ov15), (.ref ov11), (.int ((p2 &&& (2147483647 : Int32)) % (129 : Int32))), (.int (1 : Int32)), (.int ((p1 &&& (2147483647 : Int32)) % (129 : Int32))), (.int p3), (own_h2 p3 ((p1 &&& (2147483647 : Int32)) % (129 : Int32)) ((p2 &&& (2147483647 : Int32)) % (129 : Int32)) ov11 ov15)])) rfl (by rw [hml]; rfl) (argsL := [(.int p3), (.int ((p1 &&& (2147483647 : Int32)) % (129 : Int32))), (.int (1 : Int32)), (.int ((p2 &&& (2147483647 : Int32)) % (129 : Int32))), (.ref ov11), (.ref ov15)]) (rest := [(own_h2 p3 ((p1 &&& (2147483647 : Int32)) % (129 : Int32)) ((p2 &&& (2147483647 : Int32)) % (129 : Int32)) ov11 ov15)]) (lenOf pd__IIZILcom_example_cardwire_cardwire_core_Layout_Lcom_example_cardwire_cardwire_core_Layout_Lcom_example_cardwire_cardwire_core_Layout_ rfl) rfl (by show 2 * 0 + (List.map (fun v => v.category) [(own_h2 p3 ((p1 &&& (2147483647 : Int32)) % (129 : Int32)) ((p2 &&& (2147483647 : Int32)) % (129 : Int32)) ov11 ov15)]).sum ≤ _; simp only [List.map_cons, List.map_nil, own_catR (own_h2_ref _ _ _ _ _)]; exact Nat.le_of_eq rfl) (hb hby at_144) (fun _ _ => ⟨rfl, eq55, (by decide : 7 + 0 ≤ _), (by decide : 281 + 0 ≤ _)⟩)
      dsimp only [Pt.U, Pt.locs, Pt.cells, Pt.slots] at X57 l57 y57 z57 st57 hQ57
      subst l57 y57 z57
      obtain ⟨Nq57, eq57, hR57⟩ := hQ57
      have N57 := Fr.app N55 Nq57
      obtain rfl := hR57
      refine Gets.of st57 ?_
      show Gets p e below _ (T57.setTop (mkF m 147 #[.val (.int p1), .val (.int p2), .val (.int p3), .val (.int p4), .val (.int p5), .val (.ref b1), .val (.int ((p1 &&& (2147483647 : Int32)) % (129 : Int32))), .val (.int ((p2 &&& (2147483647 : Int32)) % (129 : Int32))), .val (.int p3), .val (.int (p4 % (200 : Int32))), .val (.int (1 : Int32)), .val (.ref ov11), .val (.ref ov15), .val (.int (1 : Int32))] [(own_h2 p3 ((p1 &&& (2147483647 : Int32)) % (129 : Int32)) ((p2 &&& (2147483647 : Int32)) % (129 : Int32)) ov11 ov15), (own_h2 p3 ((p1 &&& (2147483647 : Int32)) % (129 : Int32)) ((p2 &&& (2147483647 : Int32)) % (129 : Int32)) ov11 ov15)]))
      refine Gets.of (fun t k => Jvm.RoadKit.acmp (g := (mkF m 147 #[.val (.int p1), .val (.int p2), .val (.int p3), .val (.int p4), .val (.int p5), .val (.ref b1), .val (.int ((p1 &&& (2147483647 : Int32)) % (129 : Int32))), .val (.int ((p2 &&& (2147483647 : Int32)) % (129 : Int32))), .val (.int p3), .val (.int (p4 % (200 : Int32))), .val (.int (1 : Int32)), .val (.ref ov11), .val (.ref ov15), .val (.int (1 : Int32))] [(own_h2 p3 ((p1 &&& (2147483647 : Int32)) % (129 : Int32)) ((p2 &&& (2147483647 : Int32)) % (129 : Int32)) ov11 ov15), (own_h2 p3 ((p1 &&& (2147483647 : Int32)) % (129 : Int32)) ((p2 &&& (2147483647 : Int32)) % (129 : Int32)) ov11 ov15)])) X57 hx rfl (own_h2_ref _ _ _ _ _) (own_h2_ref _ _ _ _ _) (pc0 := 147) (pc' := 150) (same := true) rfl (hb hby at_147) rfl (decide_eq_true rfl) (by decide) (by decide) k) ?_
      show Gets p e below _ (T57.setTop (mkF m 150 #[.val (.int p1), .val (.int p2), .val (.int p3), .val (.int p4), .val (.int p5), .val (.ref b1), .val (.int ((p1 &&& (2147483647 : Int32)) % (129 : Int32))), .val (.int ((p2 &&& (2147483647 : Int32)) % (129 : Int32))), .val (.int p3), .val (.int (p4 % (200 : Int32))), .val (.int (1 : Int32)), .val (.ref ov11), .val (.ref ov15), .val (.int (1 : Int32))] []))
      refine Gets.of (fun t k => XS.iconst X57.here hx rfl (hb hby at_150) k) ?_
      refine Gets.of (fun t k => XS.goto X57.here hx rfl (pc0 := 151) (pc' := 155) rfl (hb hby at_151) (by decide) (by decide) k) ?_
      show Gets p e below _ (T57.setTop (mkF m 155 #[.val (.int p1), .val (.int p2), .val (.int p3), .val (.int p4), .val (.int p5), .val (.ref b1), .val (.int ((p1 &&& (2147483647 : Int32)) % (129 : Int32))), .val (.int ((p2 &&& (2147483647 : Int32)) % (129 : Int32))), .val (.int p3), .val (.int (p4 % (200 : Int32))), .val (.int (1 : Int32)), .val (.ref ov11), .val (.ref ov15), .val (.int (1 : Int32))] [(.int (1 : Int32))]))
      refine Gets.of (fun t k => XS.istore X57.here hx rfl (hb hby at_155) rfl (l' := #[.val (.int p1), .val (.int p2), .val (.int p3), .val (.int p4), .val (.int p5), .val (.ref b1), .val (.int ((p1 &&& (2147483647 : Int32)) % (129 : Int32))), .val (.int ((p2 &&& (2147483647 : Int32)) % (129 : Int32))), .val (.int p3), .val (.int (p4 % (200 : Int32))), .val (.int (1 : Int32)), .val (.ref ov11), .val (.ref ov15), .val (.int (1 : Int32))]) rfl k) ?_
      show Gets p e below _ (T57.setTop (mkF m 157 #[.val (.int p1), .val (.int p2), .val (.int p3), .val (.int p4), .val (.int p5), .val (.ref b1), .val (.int ((p1 &&& (2147483647 : Int32)) % (129 : Int32))), .val (.int ((p2 &&& (2147483647 : Int32)) % (129 : Int32))), .val (.int p3), .val (.int (p4 % (200 : Int32))), .val (.int (1 : Int32)), .val (.ref ov11), .val (.ref ov15), .val (.int (1 : Int32))] []))
      refine Gets.of (fun t k => XS.iload X57.here hx rfl (hb hby at_157) rfl  k) ?_
      refine Gets.of (fun t k => XS.ifNo X57.here hx rfl (hb hby at_159) rfl ((if0 _ _).trans (feq (by decide : ¬ ((1 : Int32) = (0 : Int32)))).1) k) ?_
      show Gets p e below _ (T57.setTop (mkF m 162 #[.val (.int p1), .val (.int p2), .val (.int p3), .val (.int p4), .val (.int p5), .val (.ref b1), .val (.int ((p1 &&& (2147483647 : Int32)) % (129 : Int32))), .val (.int ((p2 &&& (2147483647 : Int32)) % (129 : Int32))), .val (.int p3), .val (.int (p4 % (200 : Int32))), .val (.int (1 : Int32)), .val (.ref ov11), .val (.ref ov15), .val (.int (1 : Int32))] []))
      refine Gets.of (fun t k => XS.aload X57.here hx rfl (hb hby at_162) rfl rfl  k) ?_
      refine Gets.of (fun t k => XS.iload X57.here hx rfl (hb hby at_164) rfl  k) ?_
      obtain ⟨cq58, kq58, q58a, q58b, q58c⟩ := isOf hZ eq57 f56
      obtain ⟨_, _, ⟨T58, L58, k58, n58⟩, -, X58, ⟨Lc58, hQ58, l58, y58, z58⟩, st58⟩ := X57.virtualBack hx (y := (⟨cn0, "layout", cn2⟩ : MethodName)) (z := (⟨cn0, "layout", cn2⟩ : MethodName)) hown (mvT hZ (w58 hw)) (mvT hZ (w59 hw)) (notFace_of_selects (args := #[]) (mvT hZ (w61 hw))) (mvT hZ (w61 hw)) (mvT hZ (w60 hw)) (by decide) (backOf (W := 0) (rm_lay2 l Z a0 hw [] b1 b11_3 k11_3 (p4 % (200 : Int32)) ((p1 &&& (2147483647 : Int32)) % (129 : Int32)) ov11 ((p2 &&& (2147483647 : Int32)) % (129 : Int32)) ov15 T51.heap n0 O53 f54 bf51_0 (own_n129a p1) (own_n129b p1) (own_n129a p2) (own_n129b p2) hc22) hZ (w62 hw) (w2 hw) (by decide) (by decide)) q58a q58c (g := (mkF m 166 #[.val (.int p1), .val (.int p2), .val (.int p3), .val (.int p4), .val (.int p5), .val (.ref b1), .val (.int ((p1 &&& (2147483647 : Int32)) % (129 : Int32))), .val (.int ((p2 &&& (2147483647 : Int32)) % (129 : Int32))), .val (.int p3), .val (.int (p4 % (200 : Int32))), .val (.int (1 : Int32)), .val (.ref ov11), .val (.ref ov15), .val (.int (1 : Int32))] [(.int (p4 % (200 : Int32))), (.ref b1)])) rfl (by rw [hml]; rfl) (Steps.refl _) (argsL := [(.int (p4 % (200 : Int32)))]) (rest := []) (lenOf pd__I_Lcom_example_cardwire_cardwire_core_Layout_ rfl) rfl (by show 2 * 0 + _ ≤ _; exact Nat.le_of_eq rfl) (hb hby at_166) (fun _ _ => ⟨rfl, eq57, (by decide : 7 + 0 ≤ _), (by decide : 281 + 0 ≤ _)⟩)
      dsimp only [Pt.U, Pt.locs, Pt.cells, Pt.slots] at X58 l58 y58 z58 st58 hQ58
      subst l58 y58 z58
      obtain ⟨Nq58, eq58, hR58⟩ := hQ58
      have N58 := Fr.app N57 Nq58
      obtain rfl := hR58
      refine Gets.tr st58 ?_
      show Gets p e below _ (T58.setTop (mkF m 169 #[.val (.int p1), .val (.int p2), .val (.int p3), .val (.int p4), .val (.int p5), .val (.ref b1), .val (.int ((p1 &&& (2147483647 : Int32)) % (129 : Int32))), .val (.int ((p2 &&& (2147483647 : Int32)) % (129 : Int32))), .val (.int p3), .val (.int (p4 % (200 : Int32))), .val (.int (1 : Int32)), .val (.ref ov11), .val (.ref ov15), .val (.int (1 : Int32))] [(own_h2 (p4 % (200 : Int32)) ((p1 &&& (2147483647 : Int32)) % (129 : Int32)) ((p2 &&& (2147483647 : Int32)) % (129 : Int32)) ov11 ov15)]))
      refine Gets.of (fun t k => XS.iload X58.here hx rfl (hb hby at_169) rfl  k) ?_
      refine Gets.of (fun t k => XS.iload X58.here hx rfl (hb hby at_171) rfl  k) ?_
      refine Gets.of (fun t k => XS.iload X58.here hx rfl (hb hby at_173) rfl  k) ?_
      refine Gets.of (fun t k => XS.iload X58.here hx rfl (hb hby at_175) rfl  k) ?_
      show Gets p e below _ (T58.setTop (mkF m 177 #[.val (.int p1), .val (.int p2), .val (.int p3), .val (.int p4), .val (.int p5), .val (.ref b1), .val (.int ((p1 &&& (2147483647 : Int32)) % (129 : Int32))), .val (.int ((p2 &&& (2147483647 : Int32)) % (129 : Int32))), .val (.int p3), .val (.int (p4 % (200 : Int32))), .val (.int (1 : Int32)), .val (.ref ov11), .val (.ref ov15), .val (.int (1 : Int32))] [(.int ((p2 &&& (2147483647 : Int32)) % (129 : Int32))), (.int (1 : Int32)), (.int ((p1 &&& (2147483647 : Int32)) % (129 : Int32))), (.int (p4 % (200 : Int32))), (own_h2 (p4 % (200 : Int32)) ((p1 &&& (2147483647 : Int32)) % (129 : Int32)) ((p2 &&& (2147483647 : Int32)) % (129 : Int32)) ov11 ov15)]))
      refine Gets.of (fun t k => XS.aload X58.here hx rfl (hb hby at_177) rfl rfl  k) ?_
      refine Gets.of (fun t k => XS.aload X58.here hx rfl (hb hby at_179) rfl rfl  k) ?_
      obtain ⟨_, _, ⟨T59, L59, k59, n59⟩, -, X59, ⟨Lc59, hQ59, l59, y59, z59⟩, st59⟩ := Jvm.LawKit.callS X58 hx (y := (⟨cn5, "expected", cn8⟩ : MethodName)) hown (mvT hZ (w98 hw)) (mvT hZ (w99 hw)) (mvT hZ (w100 hw)) (mvT hZ (w101 hw)) (by decide) (backOf (W := 1) (rm_exp1 l Z a0 hw [] (p4 % (200 : Int32)) ((p1 &&& (2147483647 : Int32)) % (129 : Int32)) ((p2 &&& (2147483647 : Int32)) % (129 : Int32)) ov11 ov15 T51.heap n0 O53) hZ (w101 hw) (w100 hw) (by decide) (by decide)) (g := (mkF m 181 #[.val (.int p1), .val (.int p2), .val (.int p3), .val (.int p4), .val (.int p5), .val (.ref b1), .val (.int ((p1 &&& (2147483647 : Int32)) % (129 : Int32))), .val (.int ((p2 &&& (2147483647 : Int32)) % (129 : Int32))), .val (.int p3), .val (.int (p4 % (200 : Int32))), .val (.int (1 : Int32)), .val (.ref ov11), .val (.ref ov15), .val (.int (1 : Int32))] [(.ref ov15), (.ref ov11), (.int ((p2 &&& (2147483647 : Int32)) % (129 : Int32))), (.int (1 : Int32)), (.int ((p1 &&& (2147483647 : Int32)) % (129 : Int32))), (.int (p4 % (200 : Int32))), (own_h2 (p4 % (200 : Int32)) ((p1 &&& (2147483647 : Int32)) % (129 : Int32)) ((p2 &&& (2147483647 : Int32)) % (129 : Int32)) ov11 ov15)])) rfl (by rw [hml]; rfl) (argsL := [(.int (p4 % (200 : Int32))), (.int ((p1 &&& (2147483647 : Int32)) % (129 : Int32))), (.int (1 : Int32)), (.int ((p2 &&& (2147483647 : Int32)) % (129 : Int32))), (.ref ov11), (.ref ov15)]) (rest := [(own_h2 (p4 % (200 : Int32)) ((p1 &&& (2147483647 : Int32)) % (129 : Int32)) ((p2 &&& (2147483647 : Int32)) % (129 : Int32)) ov11 ov15)]) (lenOf pd__IIZILcom_example_cardwire_cardwire_core_Layout_Lcom_example_cardwire_cardwire_core_Layout_Lcom_example_cardwire_cardwire_core_Layout_ rfl) rfl (by show 2 * 0 + (List.map (fun v => v.category) [(own_h2 (p4 % (200 : Int32)) ((p1 &&& (2147483647 : Int32)) % (129 : Int32)) ((p2 &&& (2147483647 : Int32)) % (129 : Int32)) ov11 ov15)]).sum ≤ _; simp only [List.map_cons, List.map_nil, own_catR (own_h2_ref _ _ _ _ _)]; exact Nat.le_of_eq rfl) (hb hby at_181) (fun _ _ => ⟨rfl, eq58, (by decide : 7 + 0 ≤ _), (by decide : 281 + 0 ≤ _)⟩)
      dsimp only [Pt.U, Pt.locs, Pt.cells, Pt.slots] at X59 l59 y59 z59 st59 hQ59
      subst l59 y59 z59
      obtain ⟨Nq59, eq59, hR59⟩ := hQ59
      have N59 := Fr.app N58 Nq59
      obtain rfl := hR59
      refine Gets.of st59 ?_
      show Gets p e below _ (T59.setTop (mkF m 184 #[.val (.int p1), .val (.int p2), .val (.int p3), .val (.int p4), .val (.int p5), .val (.ref b1), .val (.int ((p1 &&& (2147483647 : Int32)) % (129 : Int32))), .val (.int ((p2 &&& (2147483647 : Int32)) % (129 : Int32))), .val (.int p3), .val (.int (p4 % (200 : Int32))), .val (.int (1 : Int32)), .val (.ref ov11), .val (.ref ov15), .val (.int (1 : Int32))] [(own_h2 (p4 % (200 : Int32)) ((p1 &&& (2147483647 : Int32)) % (129 : Int32)) ((p2 &&& (2147483647 : Int32)) % (129 : Int32)) ov11 ov15), (own_h2 (p4 % (200 : Int32)) ((p1 &&& (2147483647 : Int32)) % (129 : Int32)) ((p2 &&& (2147483647 : Int32)) % (129 : Int32)) ov11 ov15)]))
      refine Gets.of (fun t k => Jvm.RoadKit.acmp (g := (mkF m 184 #[.val (.int p1), .val (.int p2), .val (.int p3), .val (.int p4), .val (.int p5), .val (.ref b1), .val (.int ((p1 &&& (2147483647 : Int32)) % (129 : Int32))), .val (.int ((p2 &&& (2147483647 : Int32)) % (129 : Int32))), .val (.int p3), .val (.int (p4 % (200 : Int32))), .val (.int (1 : Int32)), .val (.ref ov11), .val (.ref ov15), .val (.int (1 : Int32))] [(own_h2 (p4 % (200 : Int32)) ((p1 &&& (2147483647 : Int32)) % (129 : Int32)) ((p2 &&& (2147483647 : Int32)) % (129 : Int32)) ov11 ov15), (own_h2 (p4 % (200 : Int32)) ((p1 &&& (2147483647 : Int32)) % (129 : Int32)) ((p2 &&& (2147483647 : Int32)) % (129 : Int32)) ov11 ov15)])) X59 hx rfl (own_h2_ref _ _ _ _ _) (own_h2_ref _ _ _ _ _) (pc0 := 184) (pc' := 187) (same := true) rfl (hb hby at_184) rfl (decide_eq_true rfl) (by decide) (by decide) k) ?_
      show Gets p e below _ (T59.setTop (mkF m 187 #[.val (.int p1), .val (.int p2), .val (.int p3), .val (.int p4), .val (.int p5), .val (.ref b1), .val (.int ((p1 &&& (2147483647 : Int32)) % (129 : Int32))), .val (.int ((p2 &&& (2147483647 : Int32)) % (129 : Int32))), .val (.int p3), .val (.int (p4 % (200 : Int32))), .val (.int (1 : Int32)), .val (.ref ov11), .val (.ref ov15), .val (.int (1 : Int32))] []))
      refine Gets.of (fun t k => XS.iconst X59.here hx rfl (hb hby at_187) k) ?_
      refine Gets.of (fun t k => XS.goto X59.here hx rfl (pc0 := 188) (pc' := 192) rfl (hb hby at_188) (by decide) (by decide) k) ?_
      show Gets p e below _ (T59.setTop (mkF m 192 #[.val (.int p1), .val (.int p2), .val (.int p3), .val (.int p4), .val (.int p5), .val (.ref b1), .val (.int ((p1 &&& (2147483647 : Int32)) % (129 : Int32))), .val (.int ((p2 &&& (2147483647 : Int32)) % (129 : Int32))), .val (.int p3), .val (.int (p4 % (200 : Int32))), .val (.int (1 : Int32)), .val (.ref ov11), .val (.ref ov15), .val (.int (1 : Int32))] [(.int (1 : Int32))]))
      refine Gets.of (fun t k => XS.istore X59.here hx rfl (hb hby at_192) rfl (l' := #[.val (.int p1), .val (.int p2), .val (.int p3), .val (.int p4), .val (.int p5), .val (.ref b1), .val (.int ((p1 &&& (2147483647 : Int32)) % (129 : Int32))), .val (.int ((p2 &&& (2147483647 : Int32)) % (129 : Int32))), .val (.int p3), .val (.int (p4 % (200 : Int32))), .val (.int (1 : Int32)), .val (.ref ov11), .val (.ref ov15), .val (.int (1 : Int32))]) rfl k) ?_
      show Gets p e below _ (T59.setTop (mkF m 194 #[.val (.int p1), .val (.int p2), .val (.int p3), .val (.int p4), .val (.int p5), .val (.ref b1), .val (.int ((p1 &&& (2147483647 : Int32)) % (129 : Int32))), .val (.int ((p2 &&& (2147483647 : Int32)) % (129 : Int32))), .val (.int p3), .val (.int (p4 % (200 : Int32))), .val (.int (1 : Int32)), .val (.ref ov11), .val (.ref ov15), .val (.int (1 : Int32))] []))
      refine Gets.of (fun t k => XS.iload X59.here hx rfl (hb hby at_194) rfl  k) ?_
      refine Gets.of (fun t k => XS.ifNo X59.here hx rfl (hb hby at_196) rfl ((if0 _ _).trans (feq (by decide : ¬ ((1 : Int32) = (0 : Int32)))).1) k) ?_
      show Gets p e below _ (T59.setTop (mkF m 199 #[.val (.int p1), .val (.int p2), .val (.int p3), .val (.int p4), .val (.int p5), .val (.ref b1), .val (.int ((p1 &&& (2147483647 : Int32)) % (129 : Int32))), .val (.int ((p2 &&& (2147483647 : Int32)) % (129 : Int32))), .val (.int p3), .val (.int (p4 % (200 : Int32))), .val (.int (1 : Int32)), .val (.ref ov11), .val (.ref ov15), .val (.int (1 : Int32))] []))
      refine Gets.of (fun t k => XS.aload X59.here hx rfl (hb hby at_199) rfl rfl  k) ?_
      refine Gets.of (fun t k => XS.iload X59.here hx rfl (hb hby at_201) rfl  k) ?_
      obtain ⟨cq60, kq60, q60a, q60b, q60c⟩ := isOf hZ eq59 f56
      obtain ⟨_, _, ⟨T60, L60, k60, n60⟩, -, X60, ⟨Lc60, hQ60, l60, y60, z60⟩, st60⟩ := X59.virtualBack hx (y := (⟨cn0, "layout", cn2⟩ : MethodName)) (z := (⟨cn0, "layout", cn2⟩ : MethodName)) hown (mvT hZ (w58 hw)) (mvT hZ (w59 hw)) (notFace_of_selects (args := #[]) (mvT hZ (w61 hw))) (mvT hZ (w61 hw)) (mvT hZ (w60 hw)) (by decide) (backOf (W := 0) (rm_lay2 l Z a0 hw [] b1 b11_3 k11_3 ((p1 &&& (2147483647 : Int32)) % (129 : Int32)) ((p1 &&& (2147483647 : Int32)) % (129 : Int32)) ov11 ((p2 &&& (2147483647 : Int32)) % (129 : Int32)) ov15 T51.heap n0 O53 f54 bf51_0 (own_n129a p1) (own_n129b p1) (own_n129a p2) (own_n129b p2) hc22) hZ (w62 hw) (w2 hw) (by decide) (by decide)) q60a q60c (g := (mkF m 203 #[.val (.int p1), .val (.int p2), .val (.int p3), .val (.int p4), .val (.int p5), .val (.ref b1), .val (.int ((p1 &&& (2147483647 : Int32)) % (129 : Int32))), .val (.int ((p2 &&& (2147483647 : Int32)) % (129 : Int32))), .val (.int p3), .val (.int (p4 % (200 : Int32))), .val (.int (1 : Int32)), .val (.ref ov11), .val (.ref ov15), .val (.int (1 : Int32))] [(.int ((p1 &&& (2147483647 : Int32)) % (129 : Int32))), (.ref b1)])) rfl (by rw [hml]; rfl) (Steps.refl _) (argsL := [(.int ((p1 &&& (2147483647 : Int32)) % (129 : Int32)))]) (rest := []) (lenOf pd__I_Lcom_example_cardwire_cardwire_core_Layout_ rfl) rfl (by show 2 * 0 + _ ≤ _; exact Nat.le_of_eq rfl) (hb hby at_203) (fun _ _ => ⟨rfl, eq59, (by decide : 7 + 0 ≤ _), (by decide : 281 + 0 ≤ _)⟩)
      dsimp only [Pt.U, Pt.locs, Pt.cells, Pt.slots] at X60 l60 y60 z60 st60 hQ60
      subst l60 y60 z60
      obtain ⟨Nq60, eq60, hR60⟩ := hQ60
      have N60 := Fr.app N59 Nq60
      obtain rfl := hR60
      refine Gets.tr st60 ?_
      show Gets p e below _ (T60.setTop (mkF m 206 #[.val (.int p1), .val (.int p2), .val (.int p3), .val (.int p4), .val (.int p5), .val (.ref b1), .val (.int ((p1 &&& (2147483647 : Int32)) % (129 : Int32))), .val (.int ((p2 &&& (2147483647 : Int32)) % (129 : Int32))), .val (.int p3), .val (.int (p4 % (200 : Int32))), .val (.int (1 : Int32)), .val (.ref ov11), .val (.ref ov15), .val (.int (1 : Int32))] [(own_h2 ((p1 &&& (2147483647 : Int32)) % (129 : Int32)) ((p1 &&& (2147483647 : Int32)) % (129 : Int32)) ((p2 &&& (2147483647 : Int32)) % (129 : Int32)) ov11 ov15)]))
      refine Gets.of (fun t k => XS.aload X60.here hx rfl (hb hby at_206) rfl rfl  k) ?_
      refine Gets.of (fun t k => Jvm.RoadKit.acmp (g := (mkF m 208 #[.val (.int p1), .val (.int p2), .val (.int p3), .val (.int p4), .val (.int p5), .val (.ref b1), .val (.int ((p1 &&& (2147483647 : Int32)) % (129 : Int32))), .val (.int ((p2 &&& (2147483647 : Int32)) % (129 : Int32))), .val (.int p3), .val (.int (p4 % (200 : Int32))), .val (.int (1 : Int32)), .val (.ref ov11), .val (.ref ov15), .val (.int (1 : Int32))] [(.ref ov11), (own_h2 ((p1 &&& (2147483647 : Int32)) % (129 : Int32)) ((p1 &&& (2147483647 : Int32)) % (129 : Int32)) ((p2 &&& (2147483647 : Int32)) % (129 : Int32)) ov11 ov15)])) X60 hx rfl (own_h2_ref _ _ _ _ _) rfl (pc0 := 208) (pc' := 211) (same := true) rfl (hb hby at_208) rfl (decide_eq_true (own_h2_self _ _ _ _)) (by decide) (by decide) k) ?_
      show Gets p e below _ (T60.setTop (mkF m 211 #[.val (.int p1), .val (.int p2), .val (.int p3), .val (.int p4), .val (.int p5), .val (.ref b1), .val (.int ((p1 &&& (2147483647 : Int32)) % (129 : Int32))), .val (.int ((p2 &&& (2147483647 : Int32)) % (129 : Int32))), .val (.int p3), .val (.int (p4 % (200 : Int32))), .val (.int (1 : Int32)), .val (.ref ov11), .val (.ref ov15), .val (.int (1 : Int32))] []))
      refine Gets.of (fun t k => XS.iconst X60.here hx rfl (hb hby at_211) k) ?_
      refine Gets.of (fun t k => XS.goto X60.here hx rfl (pc0 := 212) (pc' := 216) rfl (hb hby at_212) (by decide) (by decide) k) ?_
      show Gets p e below _ (T60.setTop (mkF m 216 #[.val (.int p1), .val (.int p2), .val (.int p3), .val (.int p4), .val (.int p5), .val (.ref b1), .val (.int ((p1 &&& (2147483647 : Int32)) % (129 : Int32))), .val (.int ((p2 &&& (2147483647 : Int32)) % (129 : Int32))), .val (.int p3), .val (.int (p4 % (200 : Int32))), .val (.int (1 : Int32)), .val (.ref ov11), .val (.ref ov15), .val (.int (1 : Int32))] [(.int (1 : Int32))]))
      refine Gets.of (fun t k => XS.istore X60.here hx rfl (hb hby at_216) rfl (l' := #[.val (.int p1), .val (.int p2), .val (.int p3), .val (.int p4), .val (.int p5), .val (.ref b1), .val (.int ((p1 &&& (2147483647 : Int32)) % (129 : Int32))), .val (.int ((p2 &&& (2147483647 : Int32)) % (129 : Int32))), .val (.int p3), .val (.int (p4 % (200 : Int32))), .val (.int (1 : Int32)), .val (.ref ov11), .val (.ref ov15), .val (.int (1 : Int32))]) rfl k) ?_
      show Gets p e below _ (T60.setTop (mkF m 218 #[.val (.int p1), .val (.int p2), .val (.int p3), .val (.int p4), .val (.int p5), .val (.ref b1), .val (.int ((p1 &&& (2147483647 : Int32)) % (129 : Int32))), .val (.int ((p2 &&& (2147483647 : Int32)) % (129 : Int32))), .val (.int p3), .val (.int (p4 % (200 : Int32))), .val (.int (1 : Int32)), .val (.ref ov11), .val (.ref ov15), .val (.int (1 : Int32))] []))
      refine Gets.of (fun t k => XS.iload X60.here hx rfl (hb hby at_218) rfl  k) ?_
      refine Gets.of (fun t k => XS.ifNo X60.here hx rfl (hb hby at_220) rfl ((if0 _ _).trans (feq (by decide : ¬ ((1 : Int32) = (0 : Int32)))).1) k) ?_
      show Gets p e below _ (T60.setTop (mkF m 223 #[.val (.int p1), .val (.int p2), .val (.int p3), .val (.int p4), .val (.int p5), .val (.ref b1), .val (.int ((p1 &&& (2147483647 : Int32)) % (129 : Int32))), .val (.int ((p2 &&& (2147483647 : Int32)) % (129 : Int32))), .val (.int p3), .val (.int (p4 % (200 : Int32))), .val (.int (1 : Int32)), .val (.ref ov11), .val (.ref ov15), .val (.int (1 : Int32))] []))
      refine Gets.of (fun t k => XS.aload X60.here hx rfl (hb hby at_223) rfl rfl  k) ?_
      refine Gets.of (fun t k => XS.iload X60.here hx rfl (hb hby at_225) rfl  k) ?_
      obtain ⟨cq61, kq61, q61a, q61b, q61c⟩ := isOf hZ eq60 f56
      obtain ⟨_, _, ⟨T61, L61, k61, n61⟩, -, X61, ⟨Lc61, hQ61, l61, y61, z61⟩, st61⟩ := X60.virtualBack hx (y := (⟨cn0, "layout", cn2⟩ : MethodName)) (z := (⟨cn0, "layout", cn2⟩ : MethodName)) hown (mvT hZ (w58 hw)) (mvT hZ (w59 hw)) (notFace_of_selects (args := #[]) (mvT hZ (w61 hw))) (mvT hZ (w61 hw)) (mvT hZ (w60 hw)) (by decide) (backOf (W := 0) (rm_lay2 l Z a0 hw [] b1 b11_3 k11_3 ((p2 &&& (2147483647 : Int32)) % (129 : Int32)) ((p1 &&& (2147483647 : Int32)) % (129 : Int32)) ov11 ((p2 &&& (2147483647 : Int32)) % (129 : Int32)) ov15 T51.heap n0 O53 f54 bf51_0 (own_n129a p1) (own_n129b p1) (own_n129a p2) (own_n129b p2) hc22) hZ (w62 hw) (w2 hw) (by decide) (by decide)) q61a q61c (g := (mkF m 227 #[.val (.int p1), .val (.int p2), .val (.int p3), .val (.int p4), .val (.int p5), .val (.ref b1), .val (.int ((p1 &&& (2147483647 : Int32)) % (129 : Int32))), .val (.int ((p2 &&& (2147483647 : Int32)) % (129 : Int32))), .val (.int p3), .val (.int (p4 % (200 : Int32))), .val (.int (1 : Int32)), .val (.ref ov11), .val (.ref ov15), .val (.int (1 : Int32))] [(.int ((p2 &&& (2147483647 : Int32)) % (129 : Int32))), (.ref b1)])) rfl (by rw [hml]; rfl) (Steps.refl _) (argsL := [(.int ((p2 &&& (2147483647 : Int32)) % (129 : Int32)))]) (rest := []) (lenOf pd__I_Lcom_example_cardwire_cardwire_core_Layout_ rfl) rfl (by show 2 * 0 + _ ≤ _; exact Nat.le_of_eq rfl) (hb hby at_227) (fun _ _ => ⟨rfl, eq60, (by decide : 7 + 0 ≤ _), (by decide : 281 + 0 ≤ _)⟩)
      dsimp only [Pt.U, Pt.locs, Pt.cells, Pt.slots] at X61 l61 y61 z61 st61 hQ61
      subst l61 y61 z61
      obtain ⟨Nq61, eq61, hR61⟩ := hQ61
      have N61 := Fr.app N60 Nq61
      obtain rfl := hR61
      refine Gets.tr st61 ?_
      show Gets p e below _ (T61.setTop (mkF m 230 #[.val (.int p1), .val (.int p2), .val (.int p3), .val (.int p4), .val (.int p5), .val (.ref b1), .val (.int ((p1 &&& (2147483647 : Int32)) % (129 : Int32))), .val (.int ((p2 &&& (2147483647 : Int32)) % (129 : Int32))), .val (.int p3), .val (.int (p4 % (200 : Int32))), .val (.int (1 : Int32)), .val (.ref ov11), .val (.ref ov15), .val (.int (1 : Int32))] [(own_h2 ((p2 &&& (2147483647 : Int32)) % (129 : Int32)) ((p1 &&& (2147483647 : Int32)) % (129 : Int32)) ((p2 &&& (2147483647 : Int32)) % (129 : Int32)) ov11 ov15)]))
      refine Gets.of (fun t k => XS.iload X61.here hx rfl (hb hby at_230) rfl  k) ?_
      refine Gets.of (fun t k => XS.iload X61.here hx rfl (hb hby at_232) rfl  k) ?_
      refine Gets.of (fun t k => XS.iload X61.here hx rfl (hb hby at_234) rfl  k) ?_
      refine Gets.of (fun t k => XS.iload X61.here hx rfl (hb hby at_236) rfl  k) ?_
      show Gets p e below _ (T61.setTop (mkF m 238 #[.val (.int p1), .val (.int p2), .val (.int p3), .val (.int p4), .val (.int p5), .val (.ref b1), .val (.int ((p1 &&& (2147483647 : Int32)) % (129 : Int32))), .val (.int ((p2 &&& (2147483647 : Int32)) % (129 : Int32))), .val (.int p3), .val (.int (p4 % (200 : Int32))), .val (.int (1 : Int32)), .val (.ref ov11), .val (.ref ov15), .val (.int (1 : Int32))] [(.int ((p2 &&& (2147483647 : Int32)) % (129 : Int32))), (.int (1 : Int32)), (.int ((p1 &&& (2147483647 : Int32)) % (129 : Int32))), (.int ((p2 &&& (2147483647 : Int32)) % (129 : Int32))), (own_h2 ((p2 &&& (2147483647 : Int32)) % (129 : Int32)) ((p1 &&& (2147483647 : Int32)) % (129 : Int32)) ((p2 &&& (2147483647 : Int32)) % (129 : Int32)) ov11 ov15)]))
      refine Gets.of (fun t k => XS.aload X61.here hx rfl (hb hby at_238) rfl rfl  k) ?_
      refine Gets.of (fun t k => XS.aload X61.here hx rfl (hb hby at_240) rfl rfl  k) ?_
      obtain ⟨_, _, ⟨T62, L62, k62, n62⟩, -, X62, ⟨Lc62, hQ62, l62, y62, z62⟩, st62⟩ := Jvm.LawKit.callS X61 hx (y := (⟨cn5, "expected", cn8⟩ : MethodName)) hown (mvT hZ (w98 hw)) (mvT hZ (w99 hw)) (mvT hZ (w100 hw)) (mvT hZ (w101 hw)) (by decide) (backOf (W := 1) (rm_exp1 l Z a0 hw [] ((p2 &&& (2147483647 : Int32)) % (129 : Int32)) ((p1 &&& (2147483647 : Int32)) % (129 : Int32)) ((p2 &&& (2147483647 : Int32)) % (129 : Int32)) ov11 ov15 T51.heap n0 O53) hZ (w101 hw) (w100 hw) (by decide) (by decide)) (g := (mkF m 242 #[.val (.int p1), .val (.int p2), .val (.int p3), .val (.int p4), .val (.int p5), .val (.ref b1), .val (.int ((p1 &&& (2147483647 : Int32)) % (129 : Int32))), .val (.int ((p2 &&& (2147483647 : Int32)) % (129 : Int32))), .val (.int p3), .val (.int (p4 % (200 : Int32))), .val (.int (1 : Int32)), .val (.ref ov11), .val (.ref ov15), .val (.int (1 : Int32))] [(.ref ov15), (.ref ov11), (.int ((p2 &&& (2147483647 : Int32)) % (129 : Int32))), (.int (1 : Int32)), (.int ((p1 &&& (2147483647 : Int32)) % (129 : Int32))), (.int ((p2 &&& (2147483647 : Int32)) % (129 : Int32))), (own_h2 ((p2 &&& (2147483647 : Int32)) % (129 : Int32)) ((p1 &&& (2147483647 : Int32)) % (129 : Int32)) ((p2 &&& (2147483647 : Int32)) % (129 : Int32)) ov11 ov15)])) rfl (by rw [hml]; rfl) (argsL := [(.int ((p2 &&& (2147483647 : Int32)) % (129 : Int32))), (.int ((p1 &&& (2147483647 : Int32)) % (129 : Int32))), (.int (1 : Int32)), (.int ((p2 &&& (2147483647 : Int32)) % (129 : Int32))), (.ref ov11), (.ref ov15)]) (rest := [(own_h2 ((p2 &&& (2147483647 : Int32)) % (129 : Int32)) ((p1 &&& (2147483647 : Int32)) % (129 : Int32)) ((p2 &&& (2147483647 : Int32)) % (129 : Int32)) ov11 ov15)]) (lenOf pd__IIZILcom_example_cardwire_cardwire_core_Layout_Lcom_example_cardwire_cardwire_core_Layout_Lcom_example_cardwire_cardwire_core_Layout_ rfl) rfl (by show 2 * 0 + (List.map (fun v => v.category) [(own_h2 ((p2 &&& (2147483647 : Int32)) % (129 : Int32)) ((p1 &&& (2147483647 : Int32)) % (129 : Int32)) ((p2 &&& (2147483647 : Int32)) % (129 : Int32)) ov11 ov15)]).sum ≤ _; simp only [List.map_cons, List.map_nil, own_catR (own_h2_ref _ _ _ _ _)]; exact Nat.le_of_eq rfl) (hb hby at_242) (fun _ _ => ⟨rfl, eq61, (by decide : 7 + 0 ≤ _), (by decide : 281 + 0 ≤ _)⟩)
      dsimp only [Pt.U, Pt.locs, Pt.cells, Pt.slots] at X62 l62 y62 z62 st62 hQ62
      subst l62 y62 z62
      obtain ⟨Nq62, eq62, hR62⟩ := hQ62
      have N62 := Fr.app N61 Nq62
      obtain rfl := hR62
      refine Gets.of st62 ?_
      show Gets p e below _ (T62.setTop (mkF m 245 #[.val (.int p1), .val (.int p2), .val (.int p3), .val (.int p4), .val (.int p5), .val (.ref b1), .val (.int ((p1 &&& (2147483647 : Int32)) % (129 : Int32))), .val (.int ((p2 &&& (2147483647 : Int32)) % (129 : Int32))), .val (.int p3), .val (.int (p4 % (200 : Int32))), .val (.int (1 : Int32)), .val (.ref ov11), .val (.ref ov15), .val (.int (1 : Int32))] [(own_h2 ((p2 &&& (2147483647 : Int32)) % (129 : Int32)) ((p1 &&& (2147483647 : Int32)) % (129 : Int32)) ((p2 &&& (2147483647 : Int32)) % (129 : Int32)) ov11 ov15), (own_h2 ((p2 &&& (2147483647 : Int32)) % (129 : Int32)) ((p1 &&& (2147483647 : Int32)) % (129 : Int32)) ((p2 &&& (2147483647 : Int32)) % (129 : Int32)) ov11 ov15)]))
      refine Gets.of (fun t k => Jvm.RoadKit.acmp (g := (mkF m 245 #[.val (.int p1), .val (.int p2), .val (.int p3), .val (.int p4), .val (.int p5), .val (.ref b1), .val (.int ((p1 &&& (2147483647 : Int32)) % (129 : Int32))), .val (.int ((p2 &&& (2147483647 : Int32)) % (129 : Int32))), .val (.int p3), .val (.int (p4 % (200 : Int32))), .val (.int (1 : Int32)), .val (.ref ov11), .val (.ref ov15), .val (.int (1 : Int32))] [(own_h2 ((p2 &&& (2147483647 : Int32)) % (129 : Int32)) ((p1 &&& (2147483647 : Int32)) % (129 : Int32)) ((p2 &&& (2147483647 : Int32)) % (129 : Int32)) ov11 ov15), (own_h2 ((p2 &&& (2147483647 : Int32)) % (129 : Int32)) ((p1 &&& (2147483647 : Int32)) % (129 : Int32)) ((p2 &&& (2147483647 : Int32)) % (129 : Int32)) ov11 ov15)])) X62 hx rfl (own_h2_ref _ _ _ _ _) (own_h2_ref _ _ _ _ _) (pc0 := 245) (pc' := 248) (same := true) rfl (hb hby at_245) rfl (decide_eq_true rfl) (by decide) (by decide) k) ?_
      show Gets p e below _ (T62.setTop (mkF m 248 #[.val (.int p1), .val (.int p2), .val (.int p3), .val (.int p4), .val (.int p5), .val (.ref b1), .val (.int ((p1 &&& (2147483647 : Int32)) % (129 : Int32))), .val (.int ((p2 &&& (2147483647 : Int32)) % (129 : Int32))), .val (.int p3), .val (.int (p4 % (200 : Int32))), .val (.int (1 : Int32)), .val (.ref ov11), .val (.ref ov15), .val (.int (1 : Int32))] []))
      refine Gets.of (fun t k => XS.iconst X62.here hx rfl (hb hby at_248) k) ?_
      refine Gets.of (fun t k => XS.goto X62.here hx rfl (pc0 := 249) (pc' := 253) rfl (hb hby at_249) (by decide) (by decide) k) ?_
      show Gets p e below _ (T62.setTop (mkF m 253 #[.val (.int p1), .val (.int p2), .val (.int p3), .val (.int p4), .val (.int p5), .val (.ref b1), .val (.int ((p1 &&& (2147483647 : Int32)) % (129 : Int32))), .val (.int ((p2 &&& (2147483647 : Int32)) % (129 : Int32))), .val (.int p3), .val (.int (p4 % (200 : Int32))), .val (.int (1 : Int32)), .val (.ref ov11), .val (.ref ov15), .val (.int (1 : Int32))] [(.int (1 : Int32))]))
      refine Gets.of (fun t k => XS.istore X62.here hx rfl (hb hby at_253) rfl (l' := #[.val (.int p1), .val (.int p2), .val (.int p3), .val (.int p4), .val (.int p5), .val (.ref b1), .val (.int ((p1 &&& (2147483647 : Int32)) % (129 : Int32))), .val (.int ((p2 &&& (2147483647 : Int32)) % (129 : Int32))), .val (.int p3), .val (.int (p4 % (200 : Int32))), .val (.int (1 : Int32)), .val (.ref ov11), .val (.ref ov15), .val (.int (1 : Int32))]) rfl k) ?_
      show Gets p e below _ (T62.setTop (mkF m 255 #[.val (.int p1), .val (.int p2), .val (.int p3), .val (.int p4), .val (.int p5), .val (.ref b1), .val (.int ((p1 &&& (2147483647 : Int32)) % (129 : Int32))), .val (.int ((p2 &&& (2147483647 : Int32)) % (129 : Int32))), .val (.int p3), .val (.int (p4 % (200 : Int32))), .val (.int (1 : Int32)), .val (.ref ov11), .val (.ref ov15), .val (.int (1 : Int32))] []))
      refine Gets.of (fun t k => XS.iload X62.here hx rfl (hb hby at_255) rfl  k) ?_
      refine Gets.retN X62 hx (t := .boolean) Bd.returns (by simp) (hb hby at_257) ?_ (by decide) (by decide)
      rw [eq62]
      exact ⟨N62, K53, rfl⟩
set_option maxRecDepth 65536 in
set_option maxHeartbeats 40000000 in
theorem comes_1 {Post : Tables → Env → Array Value → State → Outcome → State → Prop} (hpost : ∀ tb e args s v u, (limb_1_1.after args s (.returned v) u = true ∧ limb_1_2.after args s (.returned v) u = true ∧ True) → FrameEnd s (.returned v) u (Jvm.fieldLocs frame_1_writes args s ++ Jvm.arrayLocs frame_1_arrays args s ++ Jvm.staticLocs frame_1_statics s) 24 640 → Post tb e args s (.returned v) u) :
    ArmFor flags0 classFile x code maxLocals ret World_1 tables_1 room_1 Calls_1 rest_1 Pre_1 Post := by
  intro l hfl _ _ p e ha hc hk s m args below hf hA hF happ hP
  obtain ⟨hcalls, hrest, hpre⟩ := hP
  obtain ⟨-, -, -, hnamed, -, -, -, hat⟩ := (Spec.applies_iff hf).mp happ
  obtain ⟨hg, hn⟩ := and_e (Cond.before_iff.mp (show (Jvm.Cond.and given_1 narrow_1).before args s = true from hpre))
  obtain ⟨hcount, hk0⟩ := and_e hg
  obtain ⟨hi0, hk1⟩ := and_e hk0
  obtain ⟨hi1, hk2⟩ := and_e hk1
  obtain ⟨hi2, hk3⟩ := and_e hk2
  obtain ⟨hi3, hk4⟩ := and_e hk3
  have hi4 := hk4
  obtain ⟨w0, w1, w2, w3, w4, rfl⟩ : ∃ w0 w1 w2 w3 w4 : Value, args = #[w0, w1, w2, w3, w4] := by
    have hs : args.size = 5 := by simpa [Cond.value, given_1] using hcount
    obtain ⟨L⟩ := args
    match L, hs with
    | [w0, w1, w2, w3, w4], _ => exact ⟨w0, w1, w2, w3, w4, rfl⟩
  have hw := fun d (hd : d ∈ tables_1) => atoms_spec (ws := Jvm.Cond.code x code maxLocals ret :: tables_1) hat d (List.mem_cons_of_mem _ hd)
  have hfit : Fit s := fun {y c} hc i hi => by
    obtain ⟨ha, rfl⟩ := Array.getElem?_eq_some_iff.mp hc
    have q := List.all_eq_true.mp ((Array.all_eq_true_iff_forall_mem.mp hF) _ (Array.getElem_mem ha)) i (List.mem_range.mpr hi)
    simpa [Array.getElem?_eq_getElem hi] using q
  obtain ⟨hsets, hown0⟩ := atoms_of _ (rest_1_c_eq ▸ (show rest_1_c.before _ s = true from hrest))
  obtain ⟨i0, ei0⟩ := is_v hi0
  obtain rfl : w0 = (.int i0) := Option.some.inj ei0
  obtain ⟨i1, ei1⟩ := is_v hi1
  obtain rfl : w1 = (.int i1) := Option.some.inj ei1
  obtain ⟨i2, ei2⟩ := is_v hi2
  obtain rfl : w2 = (.int i2) := Option.some.inj ei2
  obtain ⟨i3, ei3⟩ := is_v hi3
  obtain rfl : w3 = (.int i3) := Option.some.inj ei3
  obtain ⟨i4, ei4⟩ := is_v hi4
  obtain rfl : w4 = (.int i4) := Option.some.inj ei4
  have oe1 := eqv_i (Term.int_eval (127)) (Cond.before_iff.mp (hsets _ (List.mem_of_getElem? (i := 3) rfl)))
  have oS2 : Sta s s.heap "java/lang/Integer$IntegerCache" "high" "I" (.int (127 : Int32)) := Sta.start oe1 (Or.inl (hsets _ (List.mem_of_getElem? (i := 1) rfl)))
  obtain ⟨ov3, oe4⟩ := arr_v (Cond.before_iff.mp (hsets _ (List.mem_of_getElem? (i := 4) rfl)))
  have oS5 : Sta s s.heap "java/lang/Integer$IntegerCache" "cache" "[Ljava/lang/Integer;" (.ref ov3) := Sta.start oe4 (Or.inr ⟨(w73 hw), (hsets _ (List.mem_of_getElem? (i := 2) rfl))⟩)
  obtain ⟨oc6, oA7⟩ := Arr.start oe4 (Cond.before_iff.mp (hsets _ (List.mem_of_getElem? (i := 4) rfl)))
  obtain ⟨oq9, oq10⟩ := own_len31 oe4 (oA7.fin (Vm.Alike.refl _)) (eqv_i (Term.int_eval (256)) (Cond.before_iff.mp (hsets _ (List.mem_of_getElem? (i := 6) rfl))))
  obtain ⟨hn0, hr0⟩ := and_e hn
  obtain ⟨ov11, oe12⟩ := exa_v hn0
  have oS13 : Sta s s.heap cn12 "LAYOUT" "Lcom/example/cardwire/cardwire/core/TagLengthValue;" (.ref ov11) := Sta.start oe12 (Or.inr ⟨(w53 hw), (w54 hw)⟩)
  have oE14 : Exa s s.heap ov11 cn12 := Exa.start oe12 hn0
  obtain ⟨ov15, oe16⟩ := exa_v hr0
  have oS17 : Sta s s.heap cn13 "LAYOUT" "Lcom/example/cardwire/cardwire/core/KeyValuePairs;" (.ref ov15) := Sta.start oe16 (Or.inr ⟨(w56 hw), (w57 hw)⟩)
  have oE18 : Exa s s.heap ov15 cn13 := Exa.start oe16 hr0
  have hbx : Bxs s ov3 oc6 cn4 "I" (256 : Int32) (fun j => .int (j - 128)) := Bxs.start (fun _ => oe4) oA7 oq9 oq10 (by decide) (Cond.before_iff.mp (hsets _ (List.mem_of_getElem? (i := 7) rfl))) (fun X j nn h => eqv_i (by simp [Term.eval, (back32 nn).1]) h)
  obtain ⟨n, o, h1, h2, h3, _, L, rfl, ⟨N, -, hR⟩, hq⟩ := rm_law l s _ hw tables_1 i0 i1 i2 i3 i4 ov3 ov11 ov15 oc6 s.heap s.heap.size (Old.start s) oS2 oS5 oS13 oE14 oS17 oE18 hbx p e ha hc hk s m _ below hf ((Spec.applies_iff_loose hf).mp happ).1 ⟨rfl, State.Warmed39.refl s, rfl⟩ trivial
  obtain rfl := hR
  refine ⟨n, _, h1, h2, h3, hpost _ _ _ _ _ _ ⟨Cond.after_iff.mpr rfl, Cond.after_iff.mpr (eq_i res_at (Term.int_eval (1)) rfl), trivial⟩ ⟨hq.1, hq.2.1, (hq.2.2.sift fun y hy => Or.inr (N y hy)).mono (by decide) (by decide)⟩⟩
theorem main_1_1 : Claimed_1_1 := comes_1 fun _ _ _ _ _ _ h hF => ⟨h.1, hF⟩
theorem main_1_2 : Claimed_1_2 := comes_1 fun _ _ _ _ _ _ h hF => ⟨h.2.1, hF⟩
end Jvm.Pilot.@@N@@
namespace Jvm.Pilot.@@N@@
open Jvm Jvm.ClassFile Sem Op Lib Jvm.Free Jvm.Stand Jvm.Pilot.@@N@@.Jvm.D
/-! MADE BY PROGRAM (witnessworld.py) out of the Statement's table words and the real class files: 33 classes; the members and pool entries that the words name. The judged class is class 1, her method 1. -/
namespace start1
open Jvm.ClassFile
def u (s : String) : CpInfo := .utf8 (stringToUtf16 s)
/-- a pool by its gaps: so many unusable entries, then the entry; so many at the end -/
def gap : Nat → List CpInfo → List CpInfo
  | 0, r => r
  | n + 1, r => .unusable :: gap n r
def poolList (es : List (Nat × CpInfo)) (last : Nat) : List CpInfo := es.foldr (fun e r => gap e.1 (e.2 :: r)) (gap last [])
def pool (es : List (Nat × CpInfo)) (last : Nat) : Array CpInfo := ⟨poolList es last⟩
def fileOf (pool : Array CpInfo) (this : Nat) (attrs : Array Attribute := #[]) (ms : Array MethodInfo := #[]) (fl : Nat := 33) (sup : Nat := 0) (ifs : Array Nat := #[]) (fds : Array FieldInfo := #[]) : ClassFile where
  minorVersion := 0
  majorVersion := 65
  constantPool := pool
  accessFlags := fl
  thisClass := this
  superClass := sup
  interfaces := ifs
  fields := fds
  methods := ms
  attributes := attrs
def plain (name : String) (sup : Option ClassId) : Class where
  name := name
  kind := .ordinary
  loader := none
  accessFlags := 33
  super := sup
  interfaces := #[]
  cf := none
  fields := #[]
  methods := #[]
  instanceTypes := #[]
  staticTypes := #[]
  resolved := #[]
  callSites := []
  init := .initialized
  statics := none
  mirror := none

def pool0 : Array CpInfo := pool [(5, u "<init>"), (0, u "()V"), (1, .class_ 10), (1, u "java/lang/Object")] 113

def k0c0 : Code := { maxStack := 0, maxLocals := 1, code := object_method_1_code, exceptionTable := #[], attributes := #[] }
def k0m0 : Method := { name := "<init>", desc := "()V", sig := { parameters := [], returnType := none }, accessFlags := 1, code := some k0c0 }
/-- java/lang/Object -/
def k0 : Class := { plain "java/lang/Object" none with
  accessFlags := 33
  interfaces := #[]
  cf := some (fileOf pool0 8 #[] #[{ accessFlags := 1, nameIndex := 5, descriptorIndex := 6, attributes := #[] }] 33 0 #[] #[])
  fields := #[]
  methods := #[k0m0]
  instanceTypes := #[]
  staticTypes := #[]
  resolved := Array.replicate 124 none
  statics := none }

def pool1 : Array CpInfo := pool [(2, .class_ 4), (0, .nameAndType 5 6), (0, u "java/lang/Object"), (0, u "<init>"), (0, u "()V"), (0, .class_ 8), (0, u "com/example/cardwire/cardwire/core/Elements"), (0, .methodref 7 3), (0, .integer 2147483647), (0, .fieldref 12 13), (0, .class_ 14), (0, .nameAndType 15 16), (0, u "com/example/cardwire/cardwire/core/TagLengthValue"), (0, u "LAYOUT"), (0, u "Lcom/example/cardwire/cardwire/core/TagLengthValue;"), (0, .fieldref 18 19), (0, .class_ 20), (0, .nameAndType 15 21), (0, u "com/example/cardwire/cardwire/core/KeyValuePairs"), (0, u "Lcom/example/cardwire/cardwire/core/KeyValuePairs;"), (0, .methodref 7 23), (0, .nameAndType 24 25), (0, u "layout"), (0, u "(I)Lcom/example/cardwire/cardwire/core/Layout;"), (0, .methodref 7 27), (0, .nameAndType 28 29), (0, u "layOut"), (0, u "(ILcom/example/cardwire/cardwire/core/Layout;)V"), (0, .methodref 31 32), (0, .class_ 33), (0, .nameAndType 34 35), (0, u "com/example/cardwire/cardwire/core/ElementsLayoutPinLaw"), (0, u "expected"), (0, u "(IIZILcom/example/cardwire/cardwire/core/Layout;Lcom/example/cardwire/cardwire/core/Layout;)Lcom/example/cardwire/cardwire/core/Layout;"), (2, u "law"), (0, u "(IIIII)Z")] 5

def k1m0 : Method := { name := "<init>", desc := "()V", sig := { parameters := [], returnType := none }, accessFlags := 1, code := none }
def k1c1 : Code := { maxStack := 7, maxLocals := 14, code := code, exceptionTable := #[], attributes := #[] }
def k1m1 : Method := { name := "law", desc := "(IIIII)Z", sig := { parameters := [.int, .int, .int, .int, .int], returnType := some .boolean }, accessFlags := 9, code := some k1c1 }
def k1c2 : Code := { maxStack := 2, maxLocals := 6, code := method_3_code, exceptionTable := #[], attributes := #[] }
def k1m2 : Method := { name := "expected", desc := "(IIZILcom/example/cardwire/cardwire/core/Layout;Lcom/example/cardwire/cardwire/core/Layout;)Lcom/example/cardwire/cardwire/core/Layout;", sig := { parameters := [.int, .int, .boolean, .int, (.object "com/example/cardwire/cardwire/core/Layout"), (.object "com/example/cardwire/cardwire/core/Layout")], returnType := some (.object "com/example/cardwire/cardwire/core/Layout") }, accessFlags := 10, code := some k1c2 }
/-- com/example/cardwire/cardwire/core/ElementsLayoutPinLaw -/
def k1 : Class := { plain "com/example/cardwire/cardwire/core/ElementsLayoutPinLaw" (some 0) with
  accessFlags := 49
  interfaces := #[]
  cf := some (fileOf pool1 31 #[] #[{ accessFlags := 1, nameIndex := 5, descriptorIndex := 6, attributes := #[] }, { accessFlags := 9, nameIndex := 38, descriptorIndex := 39, attributes := #[] }, { accessFlags := 10, nameIndex := 34, descriptorIndex := 35, attributes := #[] }] 49 2 #[] #[])
  fields := #[]
  methods := #[k1m0, k1m1, k1m2]
  instanceTypes := #[]
  staticTypes := #[]
  resolved := Array.replicate 45 none
  statics := none }

def pool2 : Array CpInfo := pool [(1, .methodref 2 3), (0, .class_ 4), (0, .nameAndType 5 6), (0, u "java/lang/Object"), (0, u "<init>"), (0, u "()V"), (2, .class_ 10), (0, u "com/example/cardwire/cardwire/core/ElementFormat"), (0, .fieldref 12 13), (0, .class_ 14), (0, .nameAndType 15 16), (0, u "com/example/cardwire/cardwire/core/Elements"), (0, u "formats"), (0, u "[Lcom/example/cardwire/cardwire/core/ElementFormat;"), (0, .class_ 18), (0, u "com/example/cardwire/cardwire/core/Layout"), (0, .fieldref 12 20), (0, .nameAndType 21 22), (0, u "layouts"), (0, u "[Lcom/example/cardwire/cardwire/core/Layout;"), (0, .class_ 24), (0, u "java/util/HashMap"), (0, .methodref 23 3), (0, .fieldref 12 27), (0, .nameAndType 28 29), (0, u "itemLayouts"), (0, u "Ljava/util/Map;"), (0, .class_ 31), (0, u "java/util/TreeMap"), (0, .methodref 30 3), (0, .fieldref 12 34), (0, .nameAndType 35 29), (0, u "subElements"), (25, .methodref 62 63), (0, .class_ 64), (0, .nameAndType 65 66), (0, u "java/lang/Integer"), (0, u "valueOf"), (0, u "(I)Ljava/lang/Integer;"), (5, .class_ 74), (1, u "java/util/Map"), (12, .interfaceMethodref 72 88), (0, .nameAndType 89 90), (0, u "containsKey"), (0, u "(Ljava/lang/Object;)Z"), (34, .class_ 126), (0, u "com/example/cardwire/cardwire/core/Elements$ItemLayout"), (71, u "layout"), (0, u "(I)Lcom/example/cardwire/cardwire/core/Layout;"), (86, u "layOut"), (0, u "(ILcom/example/cardwire/cardwire/core/Layout;)V")] 81

def k2c0 : Code := { maxStack := 3, maxLocals := 1, code := prog_104_method_1_code, exceptionTable := #[], attributes := #[] }
def k2m0 : Method := { name := "<init>", desc := "()V", sig := { parameters := [], returnType := none }, accessFlags := 0, code := some k2c0 }
def k2c1 : Code := { maxStack := 3, maxLocals := 3, code := prog_104_method_4_code, exceptionTable := #[], attributes := #[] }
def k2m1 : Method := { name := "layOut", desc := "(ILcom/example/cardwire/cardwire/core/Layout;)V", sig := { parameters := [.int, (.object "com/example/cardwire/cardwire/core/Layout")], returnType := none }, accessFlags := 0, code := some k2c1 }
def k2c2 : Code := { maxStack := 2, maxLocals := 2, code := prog_104_method_9_code, exceptionTable := #[], attributes := #[] }
def k2m2 : Method := { name := "layout", desc := "(I)Lcom/example/cardwire/cardwire/core/Layout;", sig := { parameters := [.int], returnType := some (.object "com/example/cardwire/cardwire/core/Layout") }, accessFlags := 0, code := some k2c2 }
/-- com/example/cardwire/cardwire/core/Elements -/
def k2 : Class := { plain "com/example/cardwire/cardwire/core/Elements" (some 0) with
  accessFlags := 48
  interfaces := #[]
  cf := some (fileOf pool2 12 #[.nestMembers #[125]] #[{ accessFlags := 0, nameIndex := 5, descriptorIndex := 6, attributes := #[] }, { accessFlags := 0, nameIndex := 286, descriptorIndex := 287, attributes := #[] }, { accessFlags := 0, nameIndex := 198, descriptorIndex := 199, attributes := #[] }] 48 2 #[] #[{ accessFlags := 18, nameIndex := 15, descriptorIndex := 16, attributes := #[] }, { accessFlags := 18, nameIndex := 21, descriptorIndex := 22, attributes := #[] }, { accessFlags := 18, nameIndex := 28, descriptorIndex := 29, attributes := #[] }, { accessFlags := 18, nameIndex := 35, descriptorIndex := 29, attributes := #[] }])
  fields := #[{ name := "formats", type := (.array (.object "com/example/cardwire/cardwire/core/ElementFormat")), accessFlags := 18, slot := 0, constantValue := 0 }, { name := "layouts", type := (.array (.object "com/example/cardwire/cardwire/core/Layout")), accessFlags := 18, slot := 1, constantValue := 0 }, { name := "itemLayouts", type := (.object "java/util/Map"), accessFlags := 18, slot := 2, constantValue := 0 }, { name := "subElements", type := (.object "java/util/Map"), accessFlags := 18, slot := 3, constantValue := 0 }]
  methods := #[k2m0, k2m1, k2m2]
  instanceTypes := #[(.array (.object "com/example/cardwire/cardwire/core/ElementFormat")), (.array (.object "com/example/cardwire/cardwire/core/Layout")), (.object "java/util/Map"), (.object "java/util/Map")]
  staticTypes := #[]
  resolved := Array.replicate 369 none
  statics := none }

def pool3 : Array CpInfo := pool [(2, .class_ 4), (1, u "java/lang/Object"), (0, u "<init>"), (0, u "()V"), (0, .class_ 8), (0, u "java/lang/Record")] 13

def k3m0 : Method := { name := "<init>", desc := "()V", sig := { parameters := [], returnType := none }, accessFlags := 4, code := none }
/-- java/lang/Record -/
def k3 : Class := { plain "java/lang/Record" (some 0) with
  accessFlags := 1057
  interfaces := #[]
  cf := some (fileOf pool3 7 #[] #[{ accessFlags := 4, nameIndex := 5, descriptorIndex := 6, attributes := #[] }] 1057 2 #[] #[])
  fields := #[]
  methods := #[k3m0]
  instanceTypes := #[]
  staticTypes := #[]
  resolved := Array.replicate 22 none
  statics := none }

def pool4 : Array CpInfo := pool [(2, .class_ 4), (1, u "java/lang/Record"), (34, .class_ 41), (1, u "com/example/cardwire/cardwire/core/ElementFormat")] 231

/-- com/example/cardwire/cardwire/core/ElementFormat -/
def k4 : Class := { plain "com/example/cardwire/cardwire/core/ElementFormat" (some 3) with
  accessFlags := 49
  interfaces := #[]
  cf := some (fileOf pool4 39 #[] #[] 49 2 #[] #[])
  fields := #[]
  methods := #[]
  instanceTypes := #[]
  staticTypes := #[]
  resolved := Array.replicate 273 none
  statics := none }

def pool5 : Array CpInfo := pool [(8, .class_ 10), (1, u "com/example/cardwire/cardwire/core/Layout"), (89, .class_ 101), (0, u "java/lang/Object"), (22, .class_ 125), (0, u "com/example/cardwire/cardwire/core/Layout$Item")] 19

/-- com/example/cardwire/cardwire/core/Layout -/
def k5 : Class := { plain "com/example/cardwire/cardwire/core/Layout" (some 0) with
  accessFlags := 1536
  interfaces := #[]
  cf := some (fileOf pool5 8 #[.nestMembers #[124]] #[] 1536 100 #[] #[])
  fields := #[]
  methods := #[]
  instanceTypes := #[]
  staticTypes := #[]
  resolved := Array.replicate 145 none
  statics := none }

def pool6 : Array CpInfo := pool [(2, .class_ 4), (1, u "java/util/Map"), (4, u "containsKey"), (0, u "(Ljava/lang/Object;)Z"), (25, .class_ 37), (0, u "java/util/Map$Entry"), (55, .class_ 94), (0, u "java/lang/Object")] 168

def k6m0 : Method := { name := "containsKey", desc := "(Ljava/lang/Object;)Z", sig := { parameters := [(.object "java/lang/Object")], returnType := some .boolean }, accessFlags := 1025, code := none }
/-- java/util/Map -/
def k6 : Class := { plain "java/util/Map" (some 0) with
  accessFlags := 1537
  interfaces := #[]
  cf := some (fileOf pool6 2 #[.nestMembers #[36]] #[{ accessFlags := 1025, nameIndex := 9, descriptorIndex := 10, attributes := #[] }] 1537 93 #[] #[])
  fields := #[]
  methods := #[k6m0]
  instanceTypes := #[]
  staticTypes := #[]
  resolved := Array.replicate 263 none
  statics := none }

def pool7 : Array CpInfo := pool [(1, .methodref 2 3), (0, .class_ 4), (0, .nameAndType 5 6), (0, u "java/lang/Object"), (0, u "<init>"), (0, u "()V"), (1, .class_ 10), (1, u "java/util/AbstractMap"), (42, .class_ 54), (0, u "java/util/Map"), (9, u "keySet"), (0, u "Ljava/util/Set;"), (0, .class_ 67), (0, u "java/util/AbstractMap$1"), (5, u "values"), (0, u "Ljava/util/Collection;"), (0, .class_ 76), (0, u "java/util/AbstractMap$2"), (104, .class_ 182), (0, u "java/util/AbstractMap$ViewCollection"), (0, .class_ 184), (0, u "java/util/AbstractMap$SimpleImmutableEntry"), (0, .class_ 186), (0, u "java/util/AbstractMap$SimpleEntry"), (0, .class_ 188), (0, u "java/util/AbstractMap$2$1"), (0, .class_ 190), (0, u "java/util/AbstractMap$1$1")] 5

def k7c0 : Code := { maxStack := 1, maxLocals := 1, code := jdk_71_method_1_code, exceptionTable := #[], attributes := #[] }
def k7m0 : Method := { name := "<init>", desc := "()V", sig := { parameters := [], returnType := none }, accessFlags := 4, code := some k7c0 }
/-- java/util/AbstractMap -/
def k7 : Class := { plain "java/util/AbstractMap" (some 0) with
  accessFlags := 1057
  interfaces := #[6]
  cf := some (fileOf pool7 8 #[.nestMembers #[181, 183, 185, 75, 187, 66, 189]] #[{ accessFlags := 4, nameIndex := 5, descriptorIndex := 6, attributes := #[] }] 1057 2 #[53] #[{ accessFlags := 128, nameIndex := 64, descriptorIndex := 65, attributes := #[] }, { accessFlags := 128, nameIndex := 73, descriptorIndex := 74, attributes := #[] }])
  fields := #[{ name := "keySet", type := (.object "java/util/Set"), accessFlags := 128, slot := 0, constantValue := 0 }, { name := "values", type := (.object "java/util/Collection"), accessFlags := 128, slot := 1, constantValue := 0 }]
  methods := #[k7m0]
  instanceTypes := #[(.object "java/util/Set"), (.object "java/util/Collection")]
  staticTypes := #[]
  resolved := Array.replicate 196 none
  statics := none }

def pool8 : Array CpInfo := pool [(1, .class_ 2), (0, u "java/lang/Cloneable"), (0, .class_ 4), (0, u "java/lang/Object")] 2

/-- java/lang/Cloneable -/
def k8 : Class := { plain "java/lang/Cloneable" (some 0) with
  accessFlags := 1537
  interfaces := #[]
  cf := some (fileOf pool8 1 #[] #[] 1537 3 #[] #[])
  fields := #[]
  methods := #[]
  instanceTypes := #[]
  staticTypes := #[]
  resolved := Array.replicate 7 none
  statics := none }

def pool9 : Array CpInfo := pool [(1, .class_ 2), (0, u "java/io/Serializable"), (0, .class_ 4), (0, u "java/lang/Object")] 2

/-- java/io/Serializable -/
def k9 : Class := { plain "java/io/Serializable" (some 0) with
  accessFlags := 1537
  interfaces := #[]
  cf := some (fileOf pool9 1 #[] #[] 1537 3 #[] #[])
  fields := #[]
  methods := #[]
  instanceTypes := #[]
  staticTypes := #[]
  resolved := Array.replicate 7 none
  statics := none }

def pool10 : Array CpInfo := pool [(40, .class_ 41), (0, u "java/util/HashMap"), (1, .methodref 44 45), (0, .class_ 46), (0, .nameAndType 47 48), (0, u "java/util/AbstractMap"), (0, u "<init>"), (0, u "()V"), (32, .fieldref 40 82), (0, .nameAndType 83 84), (0, u "loadFactor"), (0, u "F"), (5, u "threshold"), (0, u "I"), (0, .float 1061158912), (8, .class_ 103), (1, u "java/util/Map"), (0, u "size"), (2, u "table"), (0, u "[Ljava/util/HashMap$Node;"), (14, u "entrySet"), (39, .class_ 165), (1, u "java/util/HashMap$Node"), (14, .class_ 181), (0, u "java/util/HashMap$TreeNode"), (22, u "modCount"), (37, u "Ljava/util/Set;"), (0, .class_ 244), (0, u "java/util/HashMap$KeySet"), (18, .class_ 264), (0, u "java/util/HashMap$Values"), (3, .class_ 269), (0, u "java/util/HashMap$EntrySet"), (76, .class_ 348), (1, u "java/util/HashMap$UnsafeHolder"), (43, .class_ 393), (0, u "java/lang/Cloneable"), (0, .class_ 395), (0, u "java/io/Serializable"), (0, u "serialVersionUID"), (0, u "J"), (3, u "DEFAULT_INITIAL_CAPACITY"), (1, u "MAXIMUM_CAPACITY"), (0, u "DEFAULT_LOAD_FACTOR"), (0, u "TREEIFY_THRESHOLD"), (1, u "UNTREEIFY_THRESHOLD"), (1, u "MIN_TREEIFY_CAPACITY"), (186, .class_ 597), (0, u "java/util/HashMap$EntrySpliterator"), (0, .class_ 599), (0, u "java/util/HashMap$ValueSpliterator"), (0, .class_ 601), (0, u "java/util/HashMap$KeySpliterator"), (0, .class_ 603), (0, u "java/util/HashMap$HashMapSpliterator"), (0, .class_ 605), (0, u "java/util/HashMap$EntryIterator"), (0, .class_ 607), (0, u "java/util/HashMap$ValueIterator"), (0, .class_ 609), (0, u "java/util/HashMap$KeyIterator"), (0, .class_ 611), (0, u "java/util/HashMap$HashIterator")] 17

def k10c0 : Code := { maxStack := 2, maxLocals := 1, code := jdk_69_method_7_code, exceptionTable := #[], attributes := #[] }
def k10m0 : Method := { name := "<init>", desc := "()V", sig := { parameters := [], returnType := none }, accessFlags := 1, code := some k10c0 }
/-- java/util/HashMap -/
def k10 : Class := { plain "java/util/HashMap" (some 7) with
  accessFlags := 33
  interfaces := #[6, 8, 9]
  cf := some (fileOf pool10 40 #[.nestMembers #[180, 596, 598, 600, 602, 604, 606, 608, 610, 346, 268, 263, 243, 163]] #[{ accessFlags := 1, nameIndex := 47, descriptorIndex := 48, attributes := #[] }] 33 44 #[101, 392, 394] #[{ accessFlags := 26, nameIndex := 396, descriptorIndex := 397, attributes := #[] }, { accessFlags := 24, nameIndex := 401, descriptorIndex := 91, attributes := #[] }, { accessFlags := 24, nameIndex := 403, descriptorIndex := 91, attributes := #[] }, { accessFlags := 24, nameIndex := 404, descriptorIndex := 84, attributes := #[] }, { accessFlags := 24, nameIndex := 405, descriptorIndex := 91, attributes := #[] }, { accessFlags := 24, nameIndex := 407, descriptorIndex := 91, attributes := #[] }, { accessFlags := 24, nameIndex := 409, descriptorIndex := 91, attributes := #[] }, { accessFlags := 128, nameIndex := 107, descriptorIndex := 108, attributes := #[] }, { accessFlags := 128, nameIndex := 123, descriptorIndex := 242, attributes := #[] }, { accessFlags := 128, nameIndex := 104, descriptorIndex := 91, attributes := #[] }, { accessFlags := 128, nameIndex := 204, descriptorIndex := 91, attributes := #[] }, { accessFlags := 0, nameIndex := 90, descriptorIndex := 91, attributes := #[] }, { accessFlags := 16, nameIndex := 83, descriptorIndex := 84, attributes := #[] }])
  fields := #[{ name := "serialVersionUID", type := .long, accessFlags := 26, slot := 0, constantValue := 0 }, { name := "DEFAULT_INITIAL_CAPACITY", type := .int, accessFlags := 24, slot := 1, constantValue := 0 }, { name := "MAXIMUM_CAPACITY", type := .int, accessFlags := 24, slot := 2, constantValue := 0 }, { name := "DEFAULT_LOAD_FACTOR", type := .float, accessFlags := 24, slot := 3, constantValue := 0 }, { name := "TREEIFY_THRESHOLD", type := .int, accessFlags := 24, slot := 4, constantValue := 0 }, { name := "UNTREEIFY_THRESHOLD", type := .int, accessFlags := 24, slot := 5, constantValue := 0 }, { name := "MIN_TREEIFY_CAPACITY", type := .int, accessFlags := 24, slot := 6, constantValue := 0 }, { name := "table", type := (.array (.object "java/util/HashMap$Node")), accessFlags := 128, slot := 2, constantValue := 0 }, { name := "entrySet", type := (.object "java/util/Set"), accessFlags := 128, slot := 3, constantValue := 0 }, { name := "size", type := .int, accessFlags := 128, slot := 4, constantValue := 0 }, { name := "modCount", type := .int, accessFlags := 128, slot := 5, constantValue := 0 }, { name := "threshold", type := .int, accessFlags := 0, slot := 6, constantValue := 0 }, { name := "loadFactor", type := .float, accessFlags := 16, slot := 7, constantValue := 0 }]
  methods := #[k10m0]
  instanceTypes := #[(.object "java/util/Set"), (.object "java/util/Collection"), (.array (.object "java/util/HashMap$Node")), (.object "java/util/Set"), .int, .int, .int, .float]
  staticTypes := #[.long, .int, .int, .float, .int, .int, .int]
  resolved := Array.replicate 629 none
  statics := none }

def pool11 : Array CpInfo := pool [(2, .class_ 4), (1, u "java/util/SequencedMap"), (38, .class_ 44), (0, u "java/util/SequencedMap$1SeqKeySet"), (3, .class_ 49), (0, u "java/util/SequencedMap$1SeqValues"), (1, .class_ 52), (0, u "java/util/SequencedMap$1SeqEntrySet"), (1, .class_ 55), (0, u "java/lang/Object"), (0, .class_ 57), (0, u "java/util/Map")] 48

/-- java/util/SequencedMap -/
def k11 : Class := { plain "java/util/SequencedMap" (some 0) with
  accessFlags := 1537
  interfaces := #[6]
  cf := some (fileOf pool11 2 #[.nestMembers #[51, 48, 43]] #[] 1537 54 #[56] #[])
  fields := #[]
  methods := #[]
  instanceTypes := #[]
  staticTypes := #[]
  resolved := Array.replicate 106 none
  statics := none }

def pool12 : Array CpInfo := pool [(14, .class_ 16), (1, u "java/util/SortedMap"), (2, .class_ 20), (0, u "java/lang/Object"), (0, .class_ 22), (0, u "java/util/SequencedMap")] 50

/-- java/util/SortedMap -/
def k12 : Class := { plain "java/util/SortedMap" (some 0) with
  accessFlags := 1537
  interfaces := #[11]
  cf := some (fileOf pool12 14 #[] #[] 1537 19 #[21] #[])
  fields := #[]
  methods := #[]
  instanceTypes := #[]
  staticTypes := #[]
  resolved := Array.replicate 73 none
  statics := none }

def pool13 : Array CpInfo := pool [(2, .class_ 4), (1, u "java/util/NavigableMap"), (5, .class_ 11), (0, u "java/lang/Object"), (0, .class_ 13), (0, u "java/util/SortedMap")] 53

/-- java/util/NavigableMap -/
def k13 : Class := { plain "java/util/NavigableMap" (some 0) with
  accessFlags := 1537
  interfaces := #[12]
  cf := some (fileOf pool13 2 #[] #[] 1537 10 #[12] #[])
  fields := #[]
  methods := #[]
  instanceTypes := #[]
  staticTypes := #[]
  resolved := Array.replicate 67 none
  statics := none }

def pool14 : Array CpInfo := pool [(1, .methodref 2 3), (0, .class_ 4), (0, .nameAndType 5 6), (0, u "java/util/AbstractMap"), (0, u "<init>"), (0, u "()V"), (0, .fieldref 8 9), (0, .class_ 10), (0, .nameAndType 11 12), (0, u "java/util/TreeMap"), (0, u "size"), (0, u "I"), (0, .fieldref 8 14), (0, .nameAndType 15 12), (0, u "modCount"), (0, .fieldref 8 17), (0, .nameAndType 18 19), (0, u "comparator"), (0, u "Ljava/util/Comparator;"), (14, u "entrySet"), (15, .methodref 8 51), (0, .nameAndType 52 53), (0, u "getEntry"), (0, u "(Ljava/lang/Object;)Ljava/util/TreeMap$Entry;"), (5, .class_ 61), (1, u "java/util/TreeMap$Entry"), (1, u "Ljava/lang/Object;"), (22, .class_ 88), (1, u "java/util/Objects"), (6, .methodref 86 96), (0, .nameAndType 97 98), (0, u "requireNonNull"), (0, u "(Ljava/lang/Object;)Ljava/lang/Object;"), (0, .class_ 100), (0, u "java/lang/Comparable"), (0, .fieldref 8 102), (0, .nameAndType 103 104), (0, u "root"), (0, u "Ljava/util/TreeMap$Entry;"), (85, u "Ljava/util/TreeMap$EntrySet;"), (2, u "navigableKeySet"), (0, u "Ljava/util/TreeMap$KeySet;"), (2, u "descendingMap"), (0, u "Ljava/util/NavigableMap;"), (23, .class_ 223), (0, u "java/util/TreeMap$KeySet"), (7, .class_ 232), (0, u "java/util/NavigableMap"), (4, .class_ 238), (0, u "java/util/TreeMap$Values"), (3, .class_ 243), (0, u "java/util/TreeMap$EntrySet"), (1, .class_ 246), (0, u "java/util/TreeMap$DescendingSubMap"), (3, .class_ 251), (0, u "java/util/TreeMap$AscendingSubMap"), (17, .class_ 270), (0, u "java/util/TreeMap$KeyIterator"), (3, .class_ 275), (0, u "java/util/TreeMap$DescendingKeyIterator"), (5, u "(Ljava/lang/Object;)Z"), (11, u "Z"), (94, .class_ 389), (0, u "java/util/TreeMap$NavigableSubMap"), (1, .class_ 392), (0, u "java/util/TreeMap$KeySpliterator"), (3, .class_ 397), (0, u "java/util/TreeMap$DescendingKeySpliterator"), (4, u "UNBOUNDED"), (0, .class_ 404), (0, u "java/lang/Cloneable"), (0, .class_ 406), (0, u "java/io/Serializable"), (6, u "RED"), (2, u "BLACK"), (1, u "serialVersionUID"), (0, u "J"), (20, u "containsKey"), (193, .class_ 635), (0, u "java/util/TreeMap$EntrySpliterator"), (0, .class_ 637), (0, u "java/util/TreeMap$ValueSpliterator"), (0, .class_ 639), (0, u "java/util/TreeMap$TreeMapSpliterator"), (0, .class_ 641), (0, u "java/util/TreeMap$SubMap"), (0, .class_ 643), (0, u "java/util/TreeMap$DescendingSubMap$DescendingEntrySetView"), (0, .class_ 645), (0, u "java/util/TreeMap$AscendingSubMap$AscendingEntrySetView"), (0, .class_ 647), (0, u "java/util/TreeMap$NavigableSubMap$DescendingSubMapKeyIterator"), (0, .class_ 649), (0, u "java/util/TreeMap$NavigableSubMap$SubMapKeyIterator"), (0, .class_ 651), (0, u "java/util/TreeMap$NavigableSubMap$DescendingSubMapEntryIterator"), (0, .class_ 653), (0, u "java/util/TreeMap$NavigableSubMap$SubMapEntryIterator"), (0, .class_ 655), (0, u "java/util/TreeMap$NavigableSubMap$SubMapIterator"), (0, .class_ 657), (0, u "java/util/TreeMap$NavigableSubMap$EntrySetView"), (0, .class_ 659), (0, u "java/util/TreeMap$ValueIterator"), (0, .class_ 661), (0, u "java/util/TreeMap$EntryIterator"), (0, .class_ 663), (0, u "java/util/TreeMap$PrivateEntryIterator")] 28

def k14c0 : Code := { maxStack := 2, maxLocals := 1, code := jdk_2729_method_1_code, exceptionTable := #[], attributes := #[] }
def k14m0 : Method := { name := "<init>", desc := "()V", sig := { parameters := [], returnType := none }, accessFlags := 1, code := some k14c0 }
def k14c1 : Code := { maxStack := 2, maxLocals := 2, code := jdk_2729_method_6_code, exceptionTable := #[], attributes := #[] }
def k14m1 : Method := { name := "containsKey", desc := "(Ljava/lang/Object;)Z", sig := { parameters := [(.object "java/lang/Object")], returnType := some .boolean }, accessFlags := 1, code := some k14c1 }
def k14c2 : Code := { maxStack := 2, maxLocals := 5, code := jdk_2729_method_15_code, exceptionTable := #[], attributes := #[] }
def k14m2 : Method := { name := "getEntry", desc := "(Ljava/lang/Object;)Ljava/util/TreeMap$Entry;", sig := { parameters := [(.object "java/lang/Object")], returnType := some (.object "java/util/TreeMap$Entry") }, accessFlags := 16, code := some k14c2 }
/-- java/util/TreeMap -/
def k14 : Class := { plain "java/util/TreeMap" (some 7) with
  accessFlags := 33
  interfaces := #[13, 8, 9]
  cf := some (fileOf pool14 8 #[.nestMembers #[634, 636, 396, 391, 638, 59, 640, 245, 642, 250, 644, 388, 646, 648, 650, 652, 654, 656, 274, 269, 658, 660, 662, 222, 242, 237]] #[{ accessFlags := 1, nameIndex := 5, descriptorIndex := 6, attributes := #[] }, { accessFlags := 1, nameIndex := 440, descriptorIndex := 281, attributes := #[] }, { accessFlags := 16, nameIndex := 52, descriptorIndex := 53, attributes := #[] }] 33 2 #[231, 403, 405] #[{ accessFlags := 18, nameIndex := 18, descriptorIndex := 19, attributes := #[] }, { accessFlags := 130, nameIndex := 103, descriptorIndex := 104, attributes := #[] }, { accessFlags := 130, nameIndex := 11, descriptorIndex := 12, attributes := #[] }, { accessFlags := 130, nameIndex := 15, descriptorIndex := 12, attributes := #[] }, { accessFlags := 130, nameIndex := 34, descriptorIndex := 190, attributes := #[] }, { accessFlags := 130, nameIndex := 193, descriptorIndex := 194, attributes := #[] }, { accessFlags := 130, nameIndex := 197, descriptorIndex := 198, attributes := #[] }, { accessFlags := 26, nameIndex := 402, descriptorIndex := 63, attributes := #[] }, { accessFlags := 26, nameIndex := 413, descriptorIndex := 293, attributes := #[] }, { accessFlags := 26, nameIndex := 416, descriptorIndex := 293, attributes := #[] }, { accessFlags := 26, nameIndex := 418, descriptorIndex := 419, attributes := #[] }])
  fields := #[{ name := "comparator", type := (.object "java/util/Comparator"), accessFlags := 18, slot := 2, constantValue := 0 }, { name := "root", type := (.object "java/util/TreeMap$Entry"), accessFlags := 130, slot := 3, constantValue := 0 }, { name := "size", type := .int, accessFlags := 130, slot := 4, constantValue := 0 }, { name := "modCount", type := .int, accessFlags := 130, slot := 5, constantValue := 0 }, { name := "entrySet", type := (.object "java/util/TreeMap$EntrySet"), accessFlags := 130, slot := 6, constantValue := 0 }, { name := "navigableKeySet", type := (.object "java/util/TreeMap$KeySet"), accessFlags := 130, slot := 7, constantValue := 0 }, { name := "descendingMap", type := (.object "java/util/NavigableMap"), accessFlags := 130, slot := 8, constantValue := 0 }, { name := "UNBOUNDED", type := (.object "java/lang/Object"), accessFlags := 26, slot := 0, constantValue := 0 }, { name := "RED", type := .boolean, accessFlags := 26, slot := 1, constantValue := 0 }, { name := "BLACK", type := .boolean, accessFlags := 26, slot := 2, constantValue := 0 }, { name := "serialVersionUID", type := .long, accessFlags := 26, slot := 3, constantValue := 0 }]
  methods := #[k14m0, k14m1, k14m2]
  instanceTypes := #[(.object "java/util/Set"), (.object "java/util/Collection"), (.object "java/util/Comparator"), (.object "java/util/TreeMap$Entry"), .int, .int, (.object "java/util/TreeMap$EntrySet"), (.object "java/util/TreeMap$KeySet"), (.object "java/util/NavigableMap")]
  staticTypes := #[(.object "java/lang/Object"), .boolean, .boolean, .long]
  resolved := Array.replicate 692 none
  statics := none }

def pool15 : Array CpInfo := pool [(2, .class_ 4), (1, u "com/example/cardwire/cardwire/core/Maskable"), (37, .class_ 43), (0, u "java/lang/Object"), (0, .class_ 45), (0, u "com/example/cardwire/cardwire/core/Layout")] 41

/-- com/example/cardwire/cardwire/core/Maskable -/
def k15 : Class := { plain "com/example/cardwire/cardwire/core/Maskable" (some 0) with
  accessFlags := 1536
  interfaces := #[5]
  cf := some (fileOf pool15 2 #[] #[] 1536 42 #[44] #[])
  fields := #[]
  methods := #[]
  instanceTypes := #[]
  staticTypes := #[]
  resolved := Array.replicate 87 none
  statics := none }

def pool16 : Array CpInfo := pool [(8, .class_ 10), (1, u "com/example/cardwire/cardwire/core/Container"), (45, .class_ 57), (0, u "java/lang/Object"), (0, .class_ 59), (0, u "com/example/cardwire/cardwire/core/Maskable")] 26

/-- com/example/cardwire/cardwire/core/Container -/
def k16 : Class := { plain "com/example/cardwire/cardwire/core/Container" (some 0) with
  accessFlags := 1536
  interfaces := #[15]
  cf := some (fileOf pool16 8 #[] #[] 1536 56 #[58] #[])
  fields := #[]
  methods := #[]
  instanceTypes := #[]
  staticTypes := #[]
  resolved := Array.replicate 86 none
  statics := none }

def pool17 : Array CpInfo := pool [(1, .class_ 2), (0, u "com/example/cardwire/cardwire/core/TagLengthValue"), (1, .class_ 6), (1, u "java/lang/Object"), (0, u "<init>"), (0, u "()V"), (134, u "LAYOUT"), (0, u "Lcom/example/cardwire/cardwire/core/TagLengthValue;"), (0, .class_ 146), (0, u "com/example/cardwire/cardwire/core/Container"), (0, u "TAG_DIGITS"), (0, u "I"), (2, u "LENGTH_DIGITS"), (0, u "HEADER"), (1, u "LONGEST_VALUE")] 45

def k17m0 : Method := { name := "<init>", desc := "()V", sig := { parameters := [], returnType := none }, accessFlags := 2, code := none }
/-- com/example/cardwire/cardwire/core/TagLengthValue -/
def k17 : Class := { plain "com/example/cardwire/cardwire/core/TagLengthValue" (some 0) with
  accessFlags := 48
  interfaces := #[16]
  cf := some (fileOf pool17 1 #[] #[{ accessFlags := 2, nameIndex := 7, descriptorIndex := 8, attributes := #[] }] 48 4 #[145] #[{ accessFlags := 24, nameIndex := 143, descriptorIndex := 144, attributes := #[] }, { accessFlags := 24, nameIndex := 147, descriptorIndex := 148, attributes := #[] }, { accessFlags := 26, nameIndex := 151, descriptorIndex := 148, attributes := #[] }, { accessFlags := 26, nameIndex := 152, descriptorIndex := 148, attributes := #[] }, { accessFlags := 26, nameIndex := 154, descriptorIndex := 148, attributes := #[] }])
  fields := #[{ name := "LAYOUT", type := (.object "com/example/cardwire/cardwire/core/TagLengthValue"), accessFlags := 24, slot := 0, constantValue := 0 }, { name := "TAG_DIGITS", type := .int, accessFlags := 24, slot := 1, constantValue := 0 }, { name := "LENGTH_DIGITS", type := .int, accessFlags := 26, slot := 2, constantValue := 0 }, { name := "HEADER", type := .int, accessFlags := 26, slot := 3, constantValue := 0 }, { name := "LONGEST_VALUE", type := .int, accessFlags := 26, slot := 4, constantValue := 0 }]
  methods := #[k17m0]
  instanceTypes := #[]
  staticTypes := #[(.object "com/example/cardwire/cardwire/core/TagLengthValue"), .int, .int, .int, .int]
  resolved := Array.replicate 200 none
  statics := some 0 }

def pool18 : Array CpInfo := pool [(2, .class_ 4), (1, u "java/lang/Object"), (0, u "<init>"), (0, u "()V"), (2, .class_ 10), (0, u "com/example/cardwire/cardwire/core/KeyValuePairs$Reader"), (33, .class_ 46), (1, u "com/example/cardwire/cardwire/core/KeyValuePairs"), (76, u "LAYOUT"), (0, u "Lcom/example/cardwire/cardwire/core/KeyValuePairs;"), (0, .class_ 126), (0, u "com/example/cardwire/cardwire/core/Container")] 52

def k18m0 : Method := { name := "<init>", desc := "()V", sig := { parameters := [], returnType := none }, accessFlags := 2, code := none }
/-- com/example/cardwire/cardwire/core/KeyValuePairs -/
def k18 : Class := { plain "com/example/cardwire/cardwire/core/KeyValuePairs" (some 0) with
  accessFlags := 48
  interfaces := #[16]
  cf := some (fileOf pool18 44 #[.nestMembers #[9]] #[{ accessFlags := 2, nameIndex := 5, descriptorIndex := 6, attributes := #[] }] 48 2 #[125] #[{ accessFlags := 24, nameIndex := 123, descriptorIndex := 124, attributes := #[] }])
  fields := #[{ name := "LAYOUT", type := (.object "com/example/cardwire/cardwire/core/KeyValuePairs"), accessFlags := 24, slot := 0, constantValue := 0 }]
  methods := #[k18m0]
  instanceTypes := #[]
  staticTypes := #[(.object "com/example/cardwire/cardwire/core/KeyValuePairs")]
  resolved := Array.replicate 179 none
  statics := some 1 }

def pool19 : Array CpInfo := pool [(1, .methodref 2 3), (0, .class_ 4), (0, .nameAndType 5 6), (0, u "java/lang/Object"), (0, u "<init>"), (0, u "()V"), (1, .class_ 10), (1, u "java/lang/Number"), (2, .class_ 14), (0, u "java/io/Serializable"), (0, u "serialVersionUID"), (0, u "J")] 20

def k19c0 : Code := { maxStack := 1, maxLocals := 1, code := jdk_18_method_1_code, exceptionTable := #[], attributes := #[] }
def k19m0 : Method := { name := "<init>", desc := "()V", sig := { parameters := [], returnType := none }, accessFlags := 1, code := some k19c0 }
/-- java/lang/Number -/
def k19 : Class := { plain "java/lang/Number" (some 0) with
  accessFlags := 1057
  interfaces := #[9]
  cf := some (fileOf pool19 8 #[] #[{ accessFlags := 1, nameIndex := 5, descriptorIndex := 6, attributes := #[] }] 1057 2 #[13] #[{ accessFlags := 26, nameIndex := 15, descriptorIndex := 16, attributes := #[] }])
  fields := #[{ name := "serialVersionUID", type := .long, accessFlags := 26, slot := 0, constantValue := 0 }]
  methods := #[k19m0]
  instanceTypes := #[]
  staticTypes := #[.long]
  resolved := Array.replicate 37 none
  statics := none }

def pool20 : Array CpInfo := pool [(1, .class_ 2), (0, u "java/lang/Comparable"), (0, .class_ 4), (0, u "java/lang/Object")] 7

/-- java/lang/Comparable -/
def k20 : Class := { plain "java/lang/Comparable" (some 0) with
  accessFlags := 1537
  interfaces := #[]
  cf := some (fileOf pool20 1 #[] #[] 1537 3 #[] #[])
  fields := #[]
  methods := #[]
  instanceTypes := #[]
  staticTypes := #[]
  resolved := Array.replicate 12 none
  statics := none }

def pool21 : Array CpInfo := pool [(1, .class_ 2), (0, u "java/lang/constant/Constable"), (0, .class_ 4), (0, u "java/lang/Object")] 6

/-- java/lang/constant/Constable -/
def k21 : Class := { plain "java/lang/constant/Constable" (some 0) with
  accessFlags := 1537
  interfaces := #[]
  cf := some (fileOf pool21 1 #[] #[] 1537 3 #[] #[])
  fields := #[]
  methods := #[]
  instanceTypes := #[]
  staticTypes := #[]
  resolved := Array.replicate 11 none
  statics := none }

def pool22 : Array CpInfo := pool [(1, .class_ 2), (0, u "java/lang/constant/ConstantDesc"), (0, .class_ 4), (0, u "java/lang/Object")] 32

/-- java/lang/constant/ConstantDesc -/
def k22 : Class := { plain "java/lang/constant/ConstantDesc" (some 0) with
  accessFlags := 1537
  interfaces := #[]
  cf := some (fileOf pool22 1 #[] #[] 1537 3 #[] #[])
  fields := #[]
  methods := #[]
  instanceTypes := #[]
  staticTypes := #[]
  resolved := Array.replicate 37 none
  statics := none }

def pool23 : Array CpInfo := pool [(1, .class_ 2), (0, u "java/lang/Integer"), (16, u "digits"), (0, u "[C"), (46, u "<init>"), (17, u "DigitOnes"), (0, u "[B"), (2, u "DigitTens"), (10, .nameAndType 67 101), (0, u "()V"), (85, u "valueOf"), (0, u "(I)Ljava/lang/Integer;"), (0, .class_ 190), (0, u "java/lang/Integer$IntegerCache"), (0, .fieldref 189 192), (0, .nameAndType 193 194), (0, u "high"), (0, u "I"), (0, .fieldref 189 196), (0, .nameAndType 197 198), (0, u "cache"), (0, u "[Ljava/lang/Integer;"), (0, .methodref 1 200), (0, .nameAndType 67 201), (0, u "(I)V"), (0, .methodref 203 100), (0, .class_ 204), (0, u "java/lang/Number"), (0, .fieldref 1 206), (0, .nameAndType 207 194), (0, u "value"), (94, u "TYPE"), (0, u "Ljava/lang/Class;"), (0, .class_ 305), (0, u "java/lang/Comparable"), (0, .class_ 307), (0, u "java/lang/constant/Constable"), (0, .class_ 309), (0, u "java/lang/constant/ConstantDesc"), (0, u "MIN_VALUE"), (1, u "MAX_VALUE"), (3, u "SIZE"), (1, u "BYTES"), (1, u "serialVersionUID"), (0, u "J")] 131

def k23c0 : Code := { maxStack := 3, maxLocals := 1, code := jdk_33_method_22_code, exceptionTable := #[], attributes := #[] }
def k23m0 : Method := { name := "valueOf", desc := "(I)Ljava/lang/Integer;", sig := { parameters := [.int], returnType := some (.object "java/lang/Integer") }, accessFlags := 9, code := some k23c0 }
def k23c1 : Code := { maxStack := 2, maxLocals := 2, code := jdk_33_method_23_code, exceptionTable := #[], attributes := #[] }
def k23m1 : Method := { name := "<init>", desc := "(I)V", sig := { parameters := [.int], returnType := none }, accessFlags := 1, code := some k23c1 }
/-- java/lang/Integer -/
def k23 : Class := { plain "java/lang/Integer" (some 19) with
  accessFlags := 49
  interfaces := #[20, 21, 22]
  cf := some (fileOf pool23 1 #[.nestMembers #[189]] #[{ accessFlags := 9, nameIndex := 187, descriptorIndex := 188, attributes := #[] }, { accessFlags := 1, nameIndex := 67, descriptorIndex := 201, attributes := #[] }] 49 203 #[304, 306, 308] #[{ accessFlags := 25, nameIndex := 310, descriptorIndex := 194, attributes := #[] }, { accessFlags := 25, nameIndex := 312, descriptorIndex := 194, attributes := #[] }, { accessFlags := 25, nameIndex := 302, descriptorIndex := 303, attributes := #[] }, { accessFlags := 24, nameIndex := 19, descriptorIndex := 20, attributes := #[] }, { accessFlags := 24, nameIndex := 89, descriptorIndex := 86, attributes := #[] }, { accessFlags := 24, nameIndex := 85, descriptorIndex := 86, attributes := #[] }, { accessFlags := 18, nameIndex := 207, descriptorIndex := 194, attributes := #[] }, { accessFlags := 25, nameIndex := 316, descriptorIndex := 194, attributes := #[] }, { accessFlags := 25, nameIndex := 318, descriptorIndex := 194, attributes := #[] }, { accessFlags := 26, nameIndex := 320, descriptorIndex := 321, attributes := #[] }])
  fields := #[{ name := "MIN_VALUE", type := .int, accessFlags := 25, slot := 0, constantValue := 0 }, { name := "MAX_VALUE", type := .int, accessFlags := 25, slot := 1, constantValue := 0 }, { name := "TYPE", type := (.object "java/lang/Class"), accessFlags := 25, slot := 2, constantValue := 0 }, { name := "digits", type := (.array .char), accessFlags := 24, slot := 3, constantValue := 0 }, { name := "DigitTens", type := (.array .byte), accessFlags := 24, slot := 4, constantValue := 0 }, { name := "DigitOnes", type := (.array .byte), accessFlags := 24, slot := 5, constantValue := 0 }, { name := "value", type := .int, accessFlags := 18, slot := 0, constantValue := 0 }, { name := "SIZE", type := .int, accessFlags := 25, slot := 6, constantValue := 0 }, { name := "BYTES", type := .int, accessFlags := 25, slot := 7, constantValue := 0 }, { name := "serialVersionUID", type := .long, accessFlags := 26, slot := 8, constantValue := 0 }]
  methods := #[k23m0, k23m1]
  instanceTypes := #[.int]
  staticTypes := #[.int, .int, (.object "java/lang/Class"), (.array .char), (.array .byte), (.array .byte), .int, .int, .long]
  resolved := Array.replicate 453 none
  statics := none }

def pool24 : Array CpInfo := pool [(2, .class_ 4), (1, u "java/lang/Object"), (0, u "<init>"), (0, u "()V"), (0, .class_ 8), (0, u "java/lang/Integer"), (7, .class_ 18), (1, u "java/lang/Integer$IntegerCache"), (0, u "$assertionsDisabled"), (0, u "Z"), (26, u "high"), (0, u "I"), (8, u "archivedCache"), (0, u "[Ljava/lang/Integer;"), (12, u "cache"), (0, u "low")] 27

def k24m0 : Method := { name := "<init>", desc := "()V", sig := { parameters := [], returnType := none }, accessFlags := 2, code := none }
/-- java/lang/Integer$IntegerCache -/
def k24 : Class := { plain "java/lang/Integer$IntegerCache" (some 0) with
  accessFlags := 48
  interfaces := #[]
  cf := some (fileOf pool24 16 #[.nestHost 7] #[{ accessFlags := 2, nameIndex := 5, descriptorIndex := 6, attributes := #[] }] 48 2 #[] #[{ accessFlags := 24, nameIndex := 72, descriptorIndex := 48, attributes := #[] }, { accessFlags := 24, nameIndex := 47, descriptorIndex := 48, attributes := #[] }, { accessFlags := 24, nameIndex := 71, descriptorIndex := 58, attributes := #[] }, { accessFlags := 8, nameIndex := 57, descriptorIndex := 58, attributes := #[] }, { accessFlags := 4120, nameIndex := 19, descriptorIndex := 20, attributes := #[] }])
  fields := #[{ name := "low", type := .int, accessFlags := 24, slot := 0, constantValue := 0 }, { name := "high", type := .int, accessFlags := 24, slot := 1, constantValue := 0 }, { name := "cache", type := (.array (.object "java/lang/Integer")), accessFlags := 24, slot := 2, constantValue := 0 }, { name := "archivedCache", type := (.array (.object "java/lang/Integer")), accessFlags := 8, slot := 3, constantValue := 0 }, { name := "$assertionsDisabled", type := .boolean, accessFlags := 4120, slot := 4, constantValue := 0 }]
  methods := #[k24m0]
  instanceTypes := #[]
  staticTypes := #[.int, .int, (.array (.object "java/lang/Integer")), (.array (.object "java/lang/Integer")), .boolean]
  resolved := Array.replicate 100 none
  statics := some 2 }

def pool25 : Array CpInfo := pool [(2, .class_ 4), (1, u "java/lang/Object"), (0, u "<init>"), (0, u "()V"), (35, .class_ 44), (1, u "java/util/Objects"), (0, u "requireNonNull"), (0, u "(Ljava/lang/Object;)Ljava/lang/Object;")] 137

def k25m0 : Method := { name := "<init>", desc := "()V", sig := { parameters := [], returnType := none }, accessFlags := 2, code := none }
def k25c1 : Code := { maxStack := 2, maxLocals := 1, code := jdk_31_method_10_code, exceptionTable := #[], attributes := #[] }
def k25m1 : Method := { name := "requireNonNull", desc := "(Ljava/lang/Object;)Ljava/lang/Object;", sig := { parameters := [(.object "java/lang/Object")], returnType := some (.object "java/lang/Object") }, accessFlags := 9, code := some k25c1 }
/-- java/util/Objects -/
def k25 : Class := { plain "java/util/Objects" (some 0) with
  accessFlags := 49
  interfaces := #[]
  cf := some (fileOf pool25 42 #[] #[{ accessFlags := 2, nameIndex := 5, descriptorIndex := 6, attributes := #[] }, { accessFlags := 9, nameIndex := 45, descriptorIndex := 46, attributes := #[] }] 49 2 #[] #[])
  fields := #[]
  methods := #[k25m0, k25m1]
  instanceTypes := #[]
  staticTypes := #[]
  resolved := Array.replicate 184 none
  statics := none }

/-- the primitive byte -/
def k26 : Class := { plain "byte" none with kind := .primitive 'B', accessFlags := 0x411 }
/-- [B -/
def k27 : Class := { plain "[B" (some 0) with kind := .array 26 .byte, interfaces := #[8, 9], accessFlags := 1041 }

/-- the primitive int -/
def k28 : Class := { plain "int" none with kind := .primitive 'I', accessFlags := 0x411 }
/-- [I -/
def k29 : Class := { plain "[I" (some 0) with kind := .array 28 .int, interfaces := #[8, 9], accessFlags := 1041 }

/-- [Lcom/example/cardwire/cardwire/core/ElementFormat; -/
def k30 : Class := { plain "[Lcom/example/cardwire/cardwire/core/ElementFormat;" (some 0) with kind := .array 4 (.object "com/example/cardwire/cardwire/core/ElementFormat"), interfaces := #[8, 9], accessFlags := 1041 }

/-- [Lcom/example/cardwire/cardwire/core/Layout; -/
def k31 : Class := { plain "[Lcom/example/cardwire/cardwire/core/Layout;" (some 0) with kind := .array 5 (.object "com/example/cardwire/cardwire/core/Layout"), interfaces := #[8, 9], accessFlags := 1041 }

/-- [Ljava/lang/Integer; -/
def k32 : Class := { plain "[Ljava/lang/Integer;" (some 0) with kind := .array 23 (.object "java/lang/Integer"), interfaces := #[8, 9], accessFlags := 1041 }

def heap : Heap := #[{ cls := 17, slots := #[.ref 260, .int 0, .int 0, .int 0, .int 0], vm := .statics 17 },
  { cls := 18, slots := #[.ref 261], vm := .statics 18 },
  { cls := 24, slots := #[.int 0, .int 127, .ref 3, .null, .int 0], vm := .statics 24 },
  { cls := 32, slots := #[.ref 4, .ref 5, .ref 6, .ref 7, .ref 8, .ref 9, .ref 10, .ref 11, .ref 12, .ref 13, .ref 14, .ref 15, .ref 16, .ref 17, .ref 18, .ref 19, .ref 20, .ref 21, .ref 22, .ref 23, .ref 24, .ref 25, .ref 26, .ref 27, .ref 28, .ref 29, .ref 30, .ref 31, .ref 32, .ref 33, .ref 34, .ref 35, .ref 36, .ref 37, .ref 38, .ref 39, .ref 40, .ref 41, .ref 42, .ref 43, .ref 44, .ref 45, .ref 46, .ref 47, .ref 48, .ref 49, .ref 50, .ref 51, .ref 52, .ref 53, .ref 54, .ref 55, .ref 56, .ref 57, .ref 58, .ref 59, .ref 60, .ref 61, .ref 62, .ref 63, .ref 64, .ref 65, .ref 66, .ref 67, .ref 68, .ref 69, .ref 70, .ref 71, .ref 72, .ref 73, .ref 74, .ref 75, .ref 76, .ref 77, .ref 78, .ref 79, .ref 80, .ref 81, .ref 82, .ref 83, .ref 84, .ref 85, .ref 86, .ref 87, .ref 88, .ref 89, .ref 90, .ref 91, .ref 92, .ref 93, .ref 94, .ref 95, .ref 96, .ref 97, .ref 98, .ref 99, .ref 100, .ref 101, .ref 102, .ref 103, .ref 104, .ref 105, .ref 106, .ref 107, .ref 108, .ref 109, .ref 110, .ref 111, .ref 112, .ref 113, .ref 114, .ref 115, .ref 116, .ref 117, .ref 118, .ref 119, .ref 120, .ref 121, .ref 122, .ref 123, .ref 124, .ref 125, .ref 126, .ref 127, .ref 128, .ref 129, .ref 130, .ref 131, .ref 132, .ref 133, .ref 134, .ref 135, .ref 136, .ref 137, .ref 138, .ref 139, .ref 140, .ref 141, .ref 142, .ref 143, .ref 144, .ref 145, .ref 146, .ref 147, .ref 148, .ref 149, .ref 150, .ref 151, .ref 152, .ref 153, .ref 154, .ref 155, .ref 156, .ref 157, .ref 158, .ref 159, .ref 160, .ref 161, .ref 162, .ref 163, .ref 164, .ref 165, .ref 166, .ref 167, .ref 168, .ref 169, .ref 170, .ref 171, .ref 172, .ref 173, .ref 174, .ref 175, .ref 176, .ref 177, .ref 178, .ref 179, .ref 180, .ref 181, .ref 182, .ref 183, .ref 184, .ref 185, .ref 186, .ref 187, .ref 188, .ref 189, .ref 190, .ref 191, .ref 192, .ref 193, .ref 194, .ref 195, .ref 196, .ref 197, .ref 198, .ref 199, .ref 200, .ref 201, .ref 202, .ref 203, .ref 204, .ref 205, .ref 206, .ref 207, .ref 208, .ref 209, .ref 210, .ref 211, .ref 212, .ref 213, .ref 214, .ref 215, .ref 216, .ref 217, .ref 218, .ref 219, .ref 220, .ref 221, .ref 222, .ref 223, .ref 224, .ref 225, .ref 226, .ref 227, .ref 228, .ref 229, .ref 230, .ref 231, .ref 232, .ref 233, .ref 234, .ref 235, .ref 236, .ref 237, .ref 238, .ref 239, .ref 240, .ref 241, .ref 242, .ref 243, .ref 244, .ref 245, .ref 246, .ref 247, .ref 248, .ref 249, .ref 250, .ref 251, .ref 252, .ref 253, .ref 254, .ref 255, .ref 256, .ref 257, .ref 258, .ref 259], vm := .none },
  { cls := 23, slots := #[.int (-128)], vm := .none },
  { cls := 23, slots := #[.int (-127)], vm := .none },
  { cls := 23, slots := #[.int (-126)], vm := .none },
  { cls := 23, slots := #[.int (-125)], vm := .none },
  { cls := 23, slots := #[.int (-124)], vm := .none },
  { cls := 23, slots := #[.int (-123)], vm := .none },
  { cls := 23, slots := #[.int (-122)], vm := .none },
  { cls := 23, slots := #[.int (-121)], vm := .none },
  { cls := 23, slots := #[.int (-120)], vm := .none },
  { cls := 23, slots := #[.int (-119)], vm := .none },
  { cls := 23, slots := #[.int (-118)], vm := .none },
  { cls := 23, slots := #[.int (-117)], vm := .none },
  { cls := 23, slots := #[.int (-116)], vm := .none },
  { cls := 23, slots := #[.int (-115)], vm := .none },
  { cls := 23, slots := #[.int (-114)], vm := .none },
  { cls := 23, slots := #[.int (-113)], vm := .none },
  { cls := 23, slots := #[.int (-112)], vm := .none },
  { cls := 23, slots := #[.int (-111)], vm := .none },
  { cls := 23, slots := #[.int (-110)], vm := .none },
  { cls := 23, slots := #[.int (-109)], vm := .none },
  { cls := 23, slots := #[.int (-108)], vm := .none },
  { cls := 23, slots := #[.int (-107)], vm := .none },
  { cls := 23, slots := #[.int (-106)], vm := .none },
  { cls := 23, slots := #[.int (-105)], vm := .none },
  { cls := 23, slots := #[.int (-104)], vm := .none },
  { cls := 23, slots := #[.int (-103)], vm := .none },
  { cls := 23, slots := #[.int (-102)], vm := .none },
  { cls := 23, slots := #[.int (-101)], vm := .none },
  { cls := 23, slots := #[.int (-100)], vm := .none },
  { cls := 23, slots := #[.int (-99)], vm := .none },
  { cls := 23, slots := #[.int (-98)], vm := .none },
  { cls := 23, slots := #[.int (-97)], vm := .none },
  { cls := 23, slots := #[.int (-96)], vm := .none },
  { cls := 23, slots := #[.int (-95)], vm := .none },
  { cls := 23, slots := #[.int (-94)], vm := .none },
  { cls := 23, slots := #[.int (-93)], vm := .none },
  { cls := 23, slots := #[.int (-92)], vm := .none },
  { cls := 23, slots := #[.int (-91)], vm := .none },
  { cls := 23, slots := #[.int (-90)], vm := .none },
  { cls := 23, slots := #[.int (-89)], vm := .none },
  { cls := 23, slots := #[.int (-88)], vm := .none },
  { cls := 23, slots := #[.int (-87)], vm := .none },
  { cls := 23, slots := #[.int (-86)], vm := .none },
  { cls := 23, slots := #[.int (-85)], vm := .none },
  { cls := 23, slots := #[.int (-84)], vm := .none },
  { cls := 23, slots := #[.int (-83)], vm := .none },
  { cls := 23, slots := #[.int (-82)], vm := .none },
  { cls := 23, slots := #[.int (-81)], vm := .none },
  { cls := 23, slots := #[.int (-80)], vm := .none },
  { cls := 23, slots := #[.int (-79)], vm := .none },
  { cls := 23, slots := #[.int (-78)], vm := .none },
  { cls := 23, slots := #[.int (-77)], vm := .none },
  { cls := 23, slots := #[.int (-76)], vm := .none },
  { cls := 23, slots := #[.int (-75)], vm := .none },
  { cls := 23, slots := #[.int (-74)], vm := .none },
  { cls := 23, slots := #[.int (-73)], vm := .none },
  { cls := 23, slots := #[.int (-72)], vm := .none },
  { cls := 23, slots := #[.int (-71)], vm := .none },
  { cls := 23, slots := #[.int (-70)], vm := .none },
  { cls := 23, slots := #[.int (-69)], vm := .none },
  { cls := 23, slots := #[.int (-68)], vm := .none },
  { cls := 23, slots := #[.int (-67)], vm := .none },
  { cls := 23, slots := #[.int (-66)], vm := .none },
  { cls := 23, slots := #[.int (-65)], vm := .none },
  { cls := 23, slots := #[.int (-64)], vm := .none },
  { cls := 23, slots := #[.int (-63)], vm := .none },
  { cls := 23, slots := #[.int (-62)], vm := .none },
  { cls := 23, slots := #[.int (-61)], vm := .none },
  { cls := 23, slots := #[.int (-60)], vm := .none },
  { cls := 23, slots := #[.int (-59)], vm := .none },
  { cls := 23, slots := #[.int (-58)], vm := .none },
  { cls := 23, slots := #[.int (-57)], vm := .none },
  { cls := 23, slots := #[.int (-56)], vm := .none },
  { cls := 23, slots := #[.int (-55)], vm := .none },
  { cls := 23, slots := #[.int (-54)], vm := .none },
  { cls := 23, slots := #[.int (-53)], vm := .none },
  { cls := 23, slots := #[.int (-52)], vm := .none },
  { cls := 23, slots := #[.int (-51)], vm := .none },
  { cls := 23, slots := #[.int (-50)], vm := .none },
  { cls := 23, slots := #[.int (-49)], vm := .none },
  { cls := 23, slots := #[.int (-48)], vm := .none },
  { cls := 23, slots := #[.int (-47)], vm := .none },
  { cls := 23, slots := #[.int (-46)], vm := .none },
  { cls := 23, slots := #[.int (-45)], vm := .none },
  { cls := 23, slots := #[.int (-44)], vm := .none },
  { cls := 23, slots := #[.int (-43)], vm := .none },
  { cls := 23, slots := #[.int (-42)], vm := .none },
  { cls := 23, slots := #[.int (-41)], vm := .none },
  { cls := 23, slots := #[.int (-40)], vm := .none },
  { cls := 23, slots := #[.int (-39)], vm := .none },
  { cls := 23, slots := #[.int (-38)], vm := .none },
  { cls := 23, slots := #[.int (-37)], vm := .none },
  { cls := 23, slots := #[.int (-36)], vm := .none },
  { cls := 23, slots := #[.int (-35)], vm := .none },
  { cls := 23, slots := #[.int (-34)], vm := .none },
  { cls := 23, slots := #[.int (-33)], vm := .none },
  { cls := 23, slots := #[.int (-32)], vm := .none },
  { cls := 23, slots := #[.int (-31)], vm := .none },
  { cls := 23, slots := #[.int (-30)], vm := .none },
  { cls := 23, slots := #[.int (-29)], vm := .none },
  { cls := 23, slots := #[.int (-28)], vm := .none },
  { cls := 23, slots := #[.int (-27)], vm := .none },
  { cls := 23, slots := #[.int (-26)], vm := .none },
  { cls := 23, slots := #[.int (-25)], vm := .none },
  { cls := 23, slots := #[.int (-24)], vm := .none },
  { cls := 23, slots := #[.int (-23)], vm := .none },
  { cls := 23, slots := #[.int (-22)], vm := .none },
  { cls := 23, slots := #[.int (-21)], vm := .none },
  { cls := 23, slots := #[.int (-20)], vm := .none },
  { cls := 23, slots := #[.int (-19)], vm := .none },
  { cls := 23, slots := #[.int (-18)], vm := .none },
  { cls := 23, slots := #[.int (-17)], vm := .none },
  { cls := 23, slots := #[.int (-16)], vm := .none },
  { cls := 23, slots := #[.int (-15)], vm := .none },
  { cls := 23, slots := #[.int (-14)], vm := .none },
  { cls := 23, slots := #[.int (-13)], vm := .none },
  { cls := 23, slots := #[.int (-12)], vm := .none },
  { cls := 23, slots := #[.int (-11)], vm := .none },
  { cls := 23, slots := #[.int (-10)], vm := .none },
  { cls := 23, slots := #[.int (-9)], vm := .none },
  { cls := 23, slots := #[.int (-8)], vm := .none },
  { cls := 23, slots := #[.int (-7)], vm := .none },
  { cls := 23, slots := #[.int (-6)], vm := .none },
  { cls := 23, slots := #[.int (-5)], vm := .none },
  { cls := 23, slots := #[.int (-4)], vm := .none },
  { cls := 23, slots := #[.int (-3)], vm := .none },
  { cls := 23, slots := #[.int (-2)], vm := .none },
  { cls := 23, slots := #[.int (-1)], vm := .none },
  { cls := 23, slots := #[.int 0], vm := .none },
  { cls := 23, slots := #[.int 1], vm := .none },
  { cls := 23, slots := #[.int 2], vm := .none },
  { cls := 23, slots := #[.int 3], vm := .none },
  { cls := 23, slots := #[.int 4], vm := .none },
  { cls := 23, slots := #[.int 5], vm := .none },
  { cls := 23, slots := #[.int 6], vm := .none },
  { cls := 23, slots := #[.int 7], vm := .none },
  { cls := 23, slots := #[.int 8], vm := .none },
  { cls := 23, slots := #[.int 9], vm := .none },
  { cls := 23, slots := #[.int 10], vm := .none },
  { cls := 23, slots := #[.int 11], vm := .none },
  { cls := 23, slots := #[.int 12], vm := .none },
  { cls := 23, slots := #[.int 13], vm := .none },
  { cls := 23, slots := #[.int 14], vm := .none },
  { cls := 23, slots := #[.int 15], vm := .none },
  { cls := 23, slots := #[.int 16], vm := .none },
  { cls := 23, slots := #[.int 17], vm := .none },
  { cls := 23, slots := #[.int 18], vm := .none },
  { cls := 23, slots := #[.int 19], vm := .none },
  { cls := 23, slots := #[.int 20], vm := .none },
  { cls := 23, slots := #[.int 21], vm := .none },
  { cls := 23, slots := #[.int 22], vm := .none },
  { cls := 23, slots := #[.int 23], vm := .none },
  { cls := 23, slots := #[.int 24], vm := .none },
  { cls := 23, slots := #[.int 25], vm := .none },
  { cls := 23, slots := #[.int 26], vm := .none },
  { cls := 23, slots := #[.int 27], vm := .none },
  { cls := 23, slots := #[.int 28], vm := .none },
  { cls := 23, slots := #[.int 29], vm := .none },
  { cls := 23, slots := #[.int 30], vm := .none },
  { cls := 23, slots := #[.int 31], vm := .none },
  { cls := 23, slots := #[.int 32], vm := .none },
  { cls := 23, slots := #[.int 33], vm := .none },
  { cls := 23, slots := #[.int 34], vm := .none },
  { cls := 23, slots := #[.int 35], vm := .none },
  { cls := 23, slots := #[.int 36], vm := .none },
  { cls := 23, slots := #[.int 37], vm := .none },
  { cls := 23, slots := #[.int 38], vm := .none },
  { cls := 23, slots := #[.int 39], vm := .none },
  { cls := 23, slots := #[.int 40], vm := .none },
  { cls := 23, slots := #[.int 41], vm := .none },
  { cls := 23, slots := #[.int 42], vm := .none },
  { cls := 23, slots := #[.int 43], vm := .none },
  { cls := 23, slots := #[.int 44], vm := .none },
  { cls := 23, slots := #[.int 45], vm := .none },
  { cls := 23, slots := #[.int 46], vm := .none },
  { cls := 23, slots := #[.int 47], vm := .none },
  { cls := 23, slots := #[.int 48], vm := .none },
  { cls := 23, slots := #[.int 49], vm := .none },
  { cls := 23, slots := #[.int 50], vm := .none },
  { cls := 23, slots := #[.int 51], vm := .none },
  { cls := 23, slots := #[.int 52], vm := .none },
  { cls := 23, slots := #[.int 53], vm := .none },
  { cls := 23, slots := #[.int 54], vm := .none },
  { cls := 23, slots := #[.int 55], vm := .none },
  { cls := 23, slots := #[.int 56], vm := .none },
  { cls := 23, slots := #[.int 57], vm := .none },
  { cls := 23, slots := #[.int 58], vm := .none },
  { cls := 23, slots := #[.int 59], vm := .none },
  { cls := 23, slots := #[.int 60], vm := .none },
  { cls := 23, slots := #[.int 61], vm := .none },
  { cls := 23, slots := #[.int 62], vm := .none },
  { cls := 23, slots := #[.int 63], vm := .none },
  { cls := 23, slots := #[.int 64], vm := .none },
  { cls := 23, slots := #[.int 65], vm := .none },
  { cls := 23, slots := #[.int 66], vm := .none },
  { cls := 23, slots := #[.int 67], vm := .none },
  { cls := 23, slots := #[.int 68], vm := .none },
  { cls := 23, slots := #[.int 69], vm := .none },
  { cls := 23, slots := #[.int 70], vm := .none },
  { cls := 23, slots := #[.int 71], vm := .none },
  { cls := 23, slots := #[.int 72], vm := .none },
  { cls := 23, slots := #[.int 73], vm := .none },
  { cls := 23, slots := #[.int 74], vm := .none },
  { cls := 23, slots := #[.int 75], vm := .none },
  { cls := 23, slots := #[.int 76], vm := .none },
  { cls := 23, slots := #[.int 77], vm := .none },
  { cls := 23, slots := #[.int 78], vm := .none },
  { cls := 23, slots := #[.int 79], vm := .none },
  { cls := 23, slots := #[.int 80], vm := .none },
  { cls := 23, slots := #[.int 81], vm := .none },
  { cls := 23, slots := #[.int 82], vm := .none },
  { cls := 23, slots := #[.int 83], vm := .none },
  { cls := 23, slots := #[.int 84], vm := .none },
  { cls := 23, slots := #[.int 85], vm := .none },
  { cls := 23, slots := #[.int 86], vm := .none },
  { cls := 23, slots := #[.int 87], vm := .none },
  { cls := 23, slots := #[.int 88], vm := .none },
  { cls := 23, slots := #[.int 89], vm := .none },
  { cls := 23, slots := #[.int 90], vm := .none },
  { cls := 23, slots := #[.int 91], vm := .none },
  { cls := 23, slots := #[.int 92], vm := .none },
  { cls := 23, slots := #[.int 93], vm := .none },
  { cls := 23, slots := #[.int 94], vm := .none },
  { cls := 23, slots := #[.int 95], vm := .none },
  { cls := 23, slots := #[.int 96], vm := .none },
  { cls := 23, slots := #[.int 97], vm := .none },
  { cls := 23, slots := #[.int 98], vm := .none },
  { cls := 23, slots := #[.int 99], vm := .none },
  { cls := 23, slots := #[.int 100], vm := .none },
  { cls := 23, slots := #[.int 101], vm := .none },
  { cls := 23, slots := #[.int 102], vm := .none },
  { cls := 23, slots := #[.int 103], vm := .none },
  { cls := 23, slots := #[.int 104], vm := .none },
  { cls := 23, slots := #[.int 105], vm := .none },
  { cls := 23, slots := #[.int 106], vm := .none },
  { cls := 23, slots := #[.int 107], vm := .none },
  { cls := 23, slots := #[.int 108], vm := .none },
  { cls := 23, slots := #[.int 109], vm := .none },
  { cls := 23, slots := #[.int 110], vm := .none },
  { cls := 23, slots := #[.int 111], vm := .none },
  { cls := 23, slots := #[.int 112], vm := .none },
  { cls := 23, slots := #[.int 113], vm := .none },
  { cls := 23, slots := #[.int 114], vm := .none },
  { cls := 23, slots := #[.int 115], vm := .none },
  { cls := 23, slots := #[.int 116], vm := .none },
  { cls := 23, slots := #[.int 117], vm := .none },
  { cls := 23, slots := #[.int 118], vm := .none },
  { cls := 23, slots := #[.int 119], vm := .none },
  { cls := 23, slots := #[.int 120], vm := .none },
  { cls := 23, slots := #[.int 121], vm := .none },
  { cls := 23, slots := #[.int 122], vm := .none },
  { cls := 23, slots := #[.int 123], vm := .none },
  { cls := 23, slots := #[.int 124], vm := .none },
  { cls := 23, slots := #[.int 125], vm := .none },
  { cls := 23, slots := #[.int 126], vm := .none },
  { cls := 23, slots := #[.int 127], vm := .none },
  { cls := 17, slots := #[], vm := .none },
  { cls := 18, slots := #[], vm := .none }]
def classes : Array Class := #[k0, k1, k2, k3, k4, k5, k6, k7, k8, k9, k10, k11, k12, k13, k14, k15, k16, k17, k18, k19, k20, k21, k22, k23, k24, k25, k26, k27, k28, k29, k30, k31, k32]
def interned : List (Array UInt16 × Addr) := []
def slotsUsed : Nat := 523
def theMethod : MethodId := ⟨1, 1⟩
def args0 : Array Value := #[.int 5, .int 5, .int 5, .int 5, .int 5]
def aboutOver (below : List Frame) : State where
  vm := { classes := classes, interned := interned.toArray }
  heap := heap
  slotsUsed := slotsUsed
  threads := #[{ frames := .invoking theMethod args0 :: below }]
def below0 : List Frame := [.native { method := ⟨0, 0⟩, args := #[] }]
def about1 : State := aboutOver below0
def p0 : Program := .bare "" "" ""
def e0 : Env := launch0.env 0 0 0
theorem w_frames : about1.frames = Frame.invoking theMethod args0 :: below0 := rfl
set_option maxRecDepth 65536 in
theorem w_args : argsFit about1.vm theMethod args0 = true := by decide +kernel
set_option maxRecDepth 65536 in
theorem w_heap : heapFits about1 = true := by decide +kernel
set_option maxRecDepth 65536 in
theorem w_runnable : about1.curStatus? = some .runnable := by decide +kernel
set_option maxRecDepth 65536 in
theorem w_alone : about1.alone = true := by decide +kernel
set_option maxRecDepth 65536 in
theorem w_named : about1.methodNamed? x = some theMethod := by decide +kernel
set_option maxRecDepth 65536 in
theorem w_hears : about1.hears theMethod below0 = true := by decide +kernel
set_option maxRecDepth 65536 in
theorem w_ripe : about1.ripe theMethod args0 below0 = true := by decide +kernel
theorem w_running : about1.status = .running := rfl
set_option maxRecDepth 65536 in
theorem w_room : about1.hasRoom e0.platform room_1 = true :=
  launch0.hasRoom_least _ room_1 (by decide +kernel) (by decide +kernel) (by decide +kernel) (by decide +kernel) (by decide +kernel) (by decide +kernel)
theorem allAtoms_all (ts : List Jvm.Cond) (a : Array Jvm.Value) (st : Jvm.State) : (allAtoms ts).before a st = ts.all (fun c => c.before a st) := by
  induction ts with
  | nil => rfl
  | cons c t ih =>
    show (Jvm.Cond.and c (allAtoms t)).before a st = _
    rw [Jvm.Cond.before_and, ih, List.all_cons]
def words1 : List Jvm.Cond := Jvm.Cond.code x code maxLocals ret :: tables_1
/-- a 'code' word, met by the world's own term for the bytes: nothing is compared byte by byte -/
theorem code_word {y : MethodName} {bytes : ByteArray} {mx : Nat} {rt : Option FieldType} {a : Array Value} {s : State} {m : MethodId} {meth : Method} {c : Code} (h1 : s.methodNamed? y = some m) (h2 : s.vm.method? m = some meth) (h3 : meth.code = some c) (h4 : c.code = bytes)
    (h5 : (c.maxLocals == mx && c.exceptionTable.isEmpty && decide (c.maxStack ≤ mostOperands) && decide (meth.sig.returnType = rt) && !meth.locks && decide (parseMethodDescriptor y.desc = some meth.sig)) = true) : (Jvm.Cond.code y bytes mx rt).before a s = true := by
  simp only [Bool.and_eq_true, beq_iff_eq, Bool.not_eq_true', decide_eq_true_eq] at h5
  obtain ⟨⟨⟨⟨⟨g1, g2⟩, g3⟩, g4⟩, g5⟩, g6⟩ := h5
  simp [Cond.before, Cond.holds, Cond.value, h1, h2, h3, h4, g1, g2, g3, g4, g5, g6]
def isCode : Jvm.Cond → Bool
  | .code _ _ _ _ => true
  | _ => false
theorem all_split {L : List Jvm.Cond} {P : Jvm.Cond → Bool} (h1 : L.all (fun c => isCode c || P c) = true) (h2 : ∀ c ∈ L.filter isCode, P c = true) : L.all P = true := by
  refine List.all_eq_true.mpr fun c hc => ?_
  have h := List.all_eq_true.mp h1 c hc
  rcases Bool.eq_false_or_eq_true (isCode c) with hi | hi
  · exact h2 c (List.mem_filter.mpr ⟨hc, hi⟩)
  · simpa [hi] using h
set_option maxRecDepth 65536 in
theorem w_c0 : (Jvm.Cond.code x code maxLocals ret).before args0 about1 = true := code_word (m := ⟨1, 1⟩) (meth := k1m1) (c := k1c1) (by decide +kernel) rfl rfl rfl (by decide +kernel)
set_option maxRecDepth 65536 in
theorem w_c1 : (Jvm.Cond.code ({ cls := "com/example/cardwire/cardwire/core/Elements", name := "<init>", desc := "()V" } : Jvm.MethodName) prog_104_method_1_code (1 : Nat) (Option.none : Option Jvm.ClassFile.FieldType)).before args0 about1 = true := code_word (m := ⟨2, 0⟩) (meth := k2m0) (c := k2c0) (by decide +kernel) rfl rfl rfl (by decide +kernel)
set_option maxRecDepth 65536 in
theorem w_c2 : (Jvm.Cond.code ({ cls := "java/lang/Object", name := "<init>", desc := "()V" } : Jvm.MethodName) object_method_1_code (1 : Nat) (Option.none : Option Jvm.ClassFile.FieldType)).before args0 about1 = true := code_word (m := ⟨0, 0⟩) (meth := k0m0) (c := k0c0) (by decide +kernel) rfl rfl rfl (by decide +kernel)
set_option maxRecDepth 65536 in
theorem w_c3 : (Jvm.Cond.code ({ cls := "java/util/HashMap", name := "<init>", desc := "()V" } : Jvm.MethodName) jdk_69_method_7_code (1 : Nat) (Option.none : Option Jvm.ClassFile.FieldType)).before args0 about1 = true := code_word (m := ⟨10, 0⟩) (meth := k10m0) (c := k10c0) (by decide +kernel) rfl rfl rfl (by decide +kernel)
set_option maxRecDepth 65536 in
theorem w_c4 : (Jvm.Cond.code ({ cls := "java/util/AbstractMap", name := "<init>", desc := "()V" } : Jvm.MethodName) jdk_71_method_1_code (1 : Nat) (Option.none : Option Jvm.ClassFile.FieldType)).before args0 about1 = true := code_word (m := ⟨7, 0⟩) (meth := k7m0) (c := k7c0) (by decide +kernel) rfl rfl rfl (by decide +kernel)
set_option maxRecDepth 65536 in
theorem w_c5 : (Jvm.Cond.code ({ cls := "java/util/TreeMap", name := "<init>", desc := "()V" } : Jvm.MethodName) jdk_2729_method_1_code (1 : Nat) (Option.none : Option Jvm.ClassFile.FieldType)).before args0 about1 = true := code_word (m := ⟨14, 0⟩) (meth := k14m0) (c := k14c0) (by decide +kernel) rfl rfl rfl (by decide +kernel)
set_option maxRecDepth 65536 in
theorem w_c6 : (Jvm.Cond.code ({ cls := "com/example/cardwire/cardwire/core/Elements", name := "layout", desc := "(I)Lcom/example/cardwire/cardwire/core/Layout;" } : Jvm.MethodName) prog_104_method_9_code (2 : Nat) (Option.some (Jvm.ClassFile.FieldType.object "com/example/cardwire/cardwire/core/Layout"))).before args0 about1 = true := code_word (m := ⟨2, 2⟩) (meth := k2m2) (c := k2c2) (by decide +kernel) rfl rfl rfl (by decide +kernel)
set_option maxRecDepth 65536 in
theorem w_c7 : (Jvm.Cond.code ({ cls := "com/example/cardwire/cardwire/core/Elements", name := "layOut", desc := "(ILcom/example/cardwire/cardwire/core/Layout;)V" } : Jvm.MethodName) prog_104_method_4_code (3 : Nat) (Option.none : Option Jvm.ClassFile.FieldType)).before args0 about1 = true := code_word (m := ⟨2, 1⟩) (meth := k2m1) (c := k2c1) (by decide +kernel) rfl rfl rfl (by decide +kernel)
set_option maxRecDepth 65536 in
theorem w_c8 : (Jvm.Cond.code ({ cls := "java/lang/Integer", name := "valueOf", desc := "(I)Ljava/lang/Integer;" } : Jvm.MethodName) jdk_33_method_22_code (1 : Nat) (Option.some (Jvm.ClassFile.FieldType.object "java/lang/Integer"))).before args0 about1 = true := code_word (m := ⟨23, 0⟩) (meth := k23m0) (c := k23c0) (by decide +kernel) rfl rfl rfl (by decide +kernel)
set_option maxRecDepth 65536 in
theorem w_c9 : (Jvm.Cond.code ({ cls := "java/util/TreeMap", name := "containsKey", desc := "(Ljava/lang/Object;)Z" } : Jvm.MethodName) jdk_2729_method_6_code (2 : Nat) (Option.some Jvm.ClassFile.FieldType.boolean)).before args0 about1 = true := code_word (m := ⟨14, 1⟩) (meth := k14m1) (c := k14c1) (by decide +kernel) rfl rfl rfl (by decide +kernel)
set_option maxRecDepth 65536 in
theorem w_c10 : (Jvm.Cond.code ({ cls := "java/util/TreeMap", name := "getEntry", desc := "(Ljava/lang/Object;)Ljava/util/TreeMap$Entry;" } : Jvm.MethodName) jdk_2729_method_15_code (5 : Nat) (Option.some (Jvm.ClassFile.FieldType.object "java/util/TreeMap$Entry"))).before args0 about1 = true := code_word (m := ⟨14, 2⟩) (meth := k14m2) (c := k14c2) (by decide +kernel) rfl rfl rfl (by decide +kernel)
set_option maxRecDepth 65536 in
theorem w_c11 : (Jvm.Cond.code ({ cls := "java/util/Objects", name := "requireNonNull", desc := "(Ljava/lang/Object;)Ljava/lang/Object;" } : Jvm.MethodName) jdk_31_method_10_code (1 : Nat) (Option.some (Jvm.ClassFile.FieldType.object "java/lang/Object"))).before args0 about1 = true := code_word (m := ⟨25, 1⟩) (meth := k25m1) (c := k25c1) (by decide +kernel) rfl rfl rfl (by decide +kernel)
set_option maxRecDepth 65536 in
theorem w_c12 : (Jvm.Cond.code ({ cls := "com/example/cardwire/cardwire/core/ElementsLayoutPinLaw", name := "expected", desc := "(IIZILcom/example/cardwire/cardwire/core/Layout;Lcom/example/cardwire/cardwire/core/Layout;)Lcom/example/cardwire/cardwire/core/Layout;" } : Jvm.MethodName) method_3_code (6 : Nat) (Option.some (Jvm.ClassFile.FieldType.object "com/example/cardwire/cardwire/core/Layout"))).before args0 about1 = true := code_word (m := ⟨1, 2⟩) (meth := k1m2) (c := k1c2) (by decide +kernel) rfl rfl rfl (by decide +kernel)
set_option maxRecDepth 65536 in
theorem w_c13 : (Jvm.Cond.code ({ cls := "java/lang/Integer", name := "<init>", desc := "(I)V" } : Jvm.MethodName) jdk_33_method_23_code (2 : Nat) (Option.none : Option Jvm.ClassFile.FieldType)).before args0 about1 = true := code_word (m := ⟨23, 1⟩) (meth := k23m1) (c := k23c1) (by decide +kernel) rfl rfl rfl (by decide +kernel)
set_option maxRecDepth 65536 in
theorem w_c14 : (Jvm.Cond.code ({ cls := "java/lang/Number", name := "<init>", desc := "()V" } : Jvm.MethodName) jdk_18_method_1_code (1 : Nat) (Option.none : Option Jvm.ClassFile.FieldType)).before args0 about1 = true := code_word (m := ⟨19, 0⟩) (meth := k19m0) (c := k19c0) (by decide +kernel) rfl rfl rfl (by decide +kernel)
def codes1 : List Jvm.Cond := [Jvm.Cond.code x code maxLocals ret, Jvm.Cond.code ({ cls := "com/example/cardwire/cardwire/core/Elements", name := "<init>", desc := "()V" } : Jvm.MethodName) prog_104_method_1_code (1 : Nat) (Option.none : Option Jvm.ClassFile.FieldType), Jvm.Cond.code ({ cls := "java/lang/Object", name := "<init>", desc := "()V" } : Jvm.MethodName) object_method_1_code (1 : Nat) (Option.none : Option Jvm.ClassFile.FieldType), Jvm.Cond.code ({ cls := "java/util/HashMap", name := "<init>", desc := "()V" } : Jvm.MethodName) jdk_69_method_7_code (1 : Nat) (Option.none : Option Jvm.ClassFile.FieldType), Jvm.Cond.code ({ cls := "java/util/AbstractMap", name := "<init>", desc := "()V" } : Jvm.MethodName) jdk_71_method_1_code (1 : Nat) (Option.none : Option Jvm.ClassFile.FieldType), Jvm.Cond.code ({ cls := "java/util/TreeMap", name := "<init>", desc := "()V" } : Jvm.MethodName) jdk_2729_method_1_code (1 : Nat) (Option.none : Option Jvm.ClassFile.FieldType), Jvm.Cond.code ({ cls := "com/example/cardwire/cardwire/core/Elements", name := "layout", desc := "(I)Lcom/example/cardwire/cardwire/core/Layout;" } : Jvm.MethodName) prog_104_method_9_code (2 : Nat) (Option.some (Jvm.ClassFile.FieldType.object "com/example/cardwire/cardwire/core/Layout")), Jvm.Cond.code ({ cls := "com/example/cardwire/cardwire/core/Elements", name := "layOut", desc := "(ILcom/example/cardwire/cardwire/core/Layout;)V" } : Jvm.MethodName) prog_104_method_4_code (3 : Nat) (Option.none : Option Jvm.ClassFile.FieldType), Jvm.Cond.code ({ cls := "java/lang/Integer", name := "valueOf", desc := "(I)Ljava/lang/Integer;" } : Jvm.MethodName) jdk_33_method_22_code (1 : Nat) (Option.some (Jvm.ClassFile.FieldType.object "java/lang/Integer")), Jvm.Cond.code ({ cls := "java/util/TreeMap", name := "containsKey", desc := "(Ljava/lang/Object;)Z" } : Jvm.MethodName) jdk_2729_method_6_code (2 : Nat) (Option.some Jvm.ClassFile.FieldType.boolean), Jvm.Cond.code ({ cls := "java/util/TreeMap", name := "getEntry", desc := "(Ljava/lang/Object;)Ljava/util/TreeMap$Entry;" } : Jvm.MethodName) jdk_2729_method_15_code (5 : Nat) (Option.some (Jvm.ClassFile.FieldType.object "java/util/TreeMap$Entry")), Jvm.Cond.code ({ cls := "java/util/Objects", name := "requireNonNull", desc := "(Ljava/lang/Object;)Ljava/lang/Object;" } : Jvm.MethodName) jdk_31_method_10_code (1 : Nat) (Option.some (Jvm.ClassFile.FieldType.object "java/lang/Object")), Jvm.Cond.code ({ cls := "com/example/cardwire/cardwire/core/ElementsLayoutPinLaw", name := "expected", desc := "(IIZILcom/example/cardwire/cardwire/core/Layout;Lcom/example/cardwire/cardwire/core/Layout;)Lcom/example/cardwire/cardwire/core/Layout;" } : Jvm.MethodName) method_3_code (6 : Nat) (Option.some (Jvm.ClassFile.FieldType.object "com/example/cardwire/cardwire/core/Layout")), Jvm.Cond.code ({ cls := "java/lang/Integer", name := "<init>", desc := "(I)V" } : Jvm.MethodName) jdk_33_method_23_code (2 : Nat) (Option.none : Option Jvm.ClassFile.FieldType), Jvm.Cond.code ({ cls := "java/lang/Number", name := "<init>", desc := "()V" } : Jvm.MethodName) jdk_18_method_1_code (1 : Nat) (Option.none : Option Jvm.ClassFile.FieldType)]
set_option maxRecDepth 65536 in
theorem codes_eq : words1.filter isCode = codes1 := rfl
theorem w_codes : ∀ c ∈ words1.filter isCode, c.before args0 about1 = true := by
  rw [codes_eq]
  intro c hc
  simp only [codes1, List.mem_cons, List.not_mem_nil, or_false] at hc
  rcases hc with rfl | rfl | rfl | rfl | rfl | rfl | rfl | rfl | rfl | rfl | rfl | rfl | rfl | rfl | rfl
  · exact w_c0
  · exact w_c1
  · exact w_c2
  · exact w_c3
  · exact w_c4
  · exact w_c5
  · exact w_c6
  · exact w_c7
  · exact w_c8
  · exact w_c9
  · exact w_c10
  · exact w_c11
  · exact w_c12
  · exact w_c13
  · exact w_c14
set_option maxRecDepth 65536 in
theorem w_t1 : (words1.take 24).all (fun c => isCode c || c.before args0 about1) = true := by decide +kernel
set_option maxRecDepth 65536 in
theorem w_t2 : ((words1.drop 24).take 24).all (fun c => isCode c || c.before args0 about1) = true := by decide +kernel
set_option maxRecDepth 65536 in
theorem w_t3 : (((words1.drop 24).drop 24).take 24).all (fun c => isCode c || c.before args0 about1) = true := by decide +kernel
set_option maxRecDepth 65536 in
theorem w_t4 : ((((words1.drop 24).drop 24).drop 24).take 24).all (fun c => isCode c || c.before args0 about1) = true := by decide +kernel
set_option maxRecDepth 65536 in
theorem w_t5 : ((((words1.drop 24).drop 24).drop 24).drop 24).all (fun c => isCode c || c.before args0 about1) = true := by decide +kernel
theorem w_tables : (allAtoms (Jvm.Cond.code x code maxLocals ret :: tables_1)).before args0 about1 = true := by
  rw [allAtoms_all]
  show words1.all (fun c => c.before args0 about1) = true
  refine all_split ?_ w_codes
  rw [← List.take_append_drop 24 words1, List.all_append, w_t1, ← List.take_append_drop 24 (words1.drop 24), List.all_append, w_t2, ← List.take_append_drop 24 ((words1.drop 24).drop 24), List.all_append, w_t3, ← List.take_append_drop 24 (((words1.drop 24).drop 24).drop 24), List.all_append, w_t4, w_t5]
  rfl
set_option maxRecDepth 65536 in
theorem w_rest : rest_1_c.before args0 about1 = true := by decide +kernel
set_option maxRecDepth 65536 in
theorem w_case : (Jvm.Cond.and given_1 narrow_1).before args0 about1 = true := by decide +kernel
theorem w_applies : (headSpec (Jvm.Cond.code x code maxLocals ret :: tables_1) room_1).applies x e0.platform about1 = true :=
  (Spec.applies_iff w_frames).mpr ⟨w_running, w_runnable, w_alone, w_named, w_hears, w_ripe, w_room, w_tables⟩
theorem atStart : AtStart classFile x code maxLocals ret World_1 tables_1 room_1 Calls_1 rest_1 Pre_1 launch0 p0 e0 about1 theMethod args0 below0 :=
  ⟨lists_1, trivial, launch0.admits_env _ _ _, launch0.least_env, fairChoices_fair.cas, fairChoices_fair.clock, w_frames, w_args, w_heap, w_applies, trivial, w_rest, w_case⟩
end start1
theorem witness_1 : WitnessClaimed_1 := ⟨start1.p0, start1.e0, start1.about1, start1.theMethod, start1.args0, start1.below0, start1.atStart⟩
end Jvm.Pilot.@@N@@
