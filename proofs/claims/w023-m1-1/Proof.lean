import JvmDerived
import JvmDerived.Pilot.@@N@@Statement
import JvmDerived.Pilot.@@N@@Code
set_option linter.unusedVariables false
set_option linter.unusedSimpArgs false
@@BLOCK:NumsL.lean.txt@@
namespace Jvm.RoadKit
open Sem ClassFile Op Lib Jvm.Stand Jvm.Free Jvm.LawKit
section Own
variable {p : Program} {l : Launch} {e : Env} {R : Room} {s : State} {m : MethodId} {args : Array Value} {below : List Frame} {meth : Method} {c : Code} {T : State} {locs : List Loc} {cells slots : Nat}
/-- from U the run comes to a state of which G holds -/
def Gets (p : Program) (e : Env) (below : List Frame) (G : State → Prop) (U : State) : Prop := ∃ t, Steps p.tables e below U t ∧ G t
theorem Gets.of {G : State → Prop} {U U' : State} (k : ∀ t, Steps p.tables e below U' t → Steps p.tables e below U t) (h : Gets p e below G U') : Gets p e below G U := by
  obtain ⟨t, a, b⟩ := h; exact ⟨t, k t a, b⟩
theorem Gets.tr {G : State → Prop} {U U' : State} (k : Steps p.tables e below U U') (h : Gets p e below G U') : Gets p e below G U := by
  obtain ⟨t, a, b⟩ := h; exact ⟨t, k.trans a, b⟩
/-- what is owed at the end of a body -/
def Out (Q : Option Value → Heap → List Loc → Prop) (s : State) (below : List Frame) (C S : Nat) (t : State) : Prop := ∃ o, t.status = .running ∧ Ended t below o ∧ ∃ v L, o = .returned v ∧ Q v t.heap L ∧ FrameEnd s o t L C S
theorem Gets.out {Q : Option Value → Heap → List Loc → Prop} {C S : Nat} {U : State} (h : Gets p e below (Out Q s below C S) U) : ∃ s₂ o, Steps p.tables e below U s₂ ∧ s₂.status = .running ∧ Ended s₂ below o ∧ ∃ v L, o = .returned v ∧ Q v s₂.heap L ∧ FrameEnd s o s₂ L C S := by
  obtain ⟨t, a, o, b⟩ := h; exact ⟨t, o, a, b⟩
theorem Gets.fin {Q : Option Value → Heap → List Loc → Prop} {C S : Nat} {U : State} (X : Stand p l e R s m args below meth c T locs cells slots) {v : Option Value} (hv : meth.sig.returnType = none → v = none) (hlk : meth.locks = false)
    (k : ∀ fs, (∀ (f : JFrame) (acts : List Action), f.method = m → f.locked = none → f.entered = [] → (doReturn e (T.setTop f) acts v).1 = T.setFrames fs) → Steps p.tables e below U (T.setFrames fs)) (hQ : Q v T.heap locs) (h1 : cells ≤ C) (h2 : slots ≤ S) : Gets p e below (Out Q s below C S) U := by
  obtain ⟨fs, hr, hrun, hended, hW, hsame⟩ := X.leave (v := v) hv hlk
  exact ⟨_, k fs hr, _, hrun, hended, _, _, rfl, hQ, ⟨_, rfl⟩, hW, hsame.mono h1 h2⟩
theorem retI0 (X : Stand p l e R s m args below meth c T locs cells slots) (hx : p.tables.exec = Jvm.exec) {pc : Nat} {Ls : Array Slot} {z : Int32} {rest : List Value} (hret : meth.sig.returnType = some .int) (hd : decode c.code pc = .ok (.ireturn, 1)) {fs : List Frame}
    (hl : ∀ (f : JFrame) (acts : List Action), f.method = m → f.locked = none → f.entered = [] → (doReturn e (T.setTop f) acts (some (.int z))).1 = T.setFrames fs) : Steps p.tables e below (T.setTop (mkF m pc Ls (.int z :: rest))) (T.setFrames fs) :=
  retOut X hx hret rfl (Or.inl ⟨rfl, Or.inl rfl, z, rfl⟩) hd hl
theorem Gets.retI {Q : Option Value → Heap → List Loc → Prop} {C S : Nat} (X : Stand p l e R s m args below meth c T locs cells slots) (hx : p.tables.exec = Jvm.exec) {pc : Nat} {Ls : Array Slot} {z : Int32} {rest : List Value} (hret : meth.sig.returnType = some .int) (hd : decode c.code pc = .ok (.ireturn, 1))
    (hQ : Q (some (.int z)) T.heap locs) (h1 : cells ≤ C) (h2 : slots ≤ S) (hlk : meth.locks = false := by assumption) : Gets p e below (Out Q s below C S) (T.setTop (mkF m pc Ls (.int z :: rest))) :=
  Gets.fin X (fun h => by rw [hret] at h; cases h) hlk (fun fs hr => retI0 X hx hret hd hr) hQ h1 h2
theorem Gets.retN {Q : Option Value → Heap → List Loc → Prop} {C S : Nat} (X : Stand p l e R s m args below meth c T locs cells slots) (hx : p.tables.exec = Jvm.exec) {pc : Nat} {Ls : Array Slot} {z : Int32} {t : FieldType} {rest : List Value} (hret : meth.sig.returnType = some t) (ht : t = .boolean ∨ t = .byte ∨ t = .char ∨ t = .short) (hd : decode c.code pc = .ok (.ireturn, 1))
    (hQ : Q (some (.int (nar t z))) T.heap locs) (h1 : cells ≤ C) (h2 : slots ≤ S) (hlk : meth.locks = false := by assumption) : Gets p e below (Out Q s below C S) (T.setTop (mkF m pc Ls (.int z :: rest))) :=
  Gets.fin X (fun h => by rw [hret] at h; cases h) hlk (fun fs hr => Jvm.RoadKit.retN X hx hret ht hd hr) hQ h1 h2
theorem Gets.retJ {Q : Option Value → Heap → List Loc → Prop} {C S : Nat} (X : Stand p l e R s m args below meth c T locs cells slots) (hx : p.tables.exec = Jvm.exec) {pc : Nat} {Ls : Array Slot} {z : Int64} {rest : List Value} (hret : meth.sig.returnType = some .long) (hd : decode c.code pc = .ok (.lreturn, 1))
    (hQ : Q (some (.long z)) T.heap locs) (h1 : cells ≤ C) (h2 : slots ≤ S) (hlk : meth.locks = false := by assumption) : Gets p e below (Out Q s below C S) (T.setTop (mkF m pc Ls (.long z :: rest))) :=
  Gets.fin X (fun h => by rw [hret] at h; cases h) hlk (fun fs hr => retOut X hx hret rfl (Or.inr (Or.inl ⟨rfl, rfl, z, rfl⟩)) hd hr) hQ h1 h2
theorem Gets.retA {Q : Option Value → Heap → List Loc → Prop} {C S : Nat} (X : Stand p l e R s m args below meth c T locs cells slots) (hx : p.tables.exec = Jvm.exec) {pc : Nat} {Ls : Array Slot} {w : Value} {t : FieldType} {rest : List Value} (hret : meth.sig.returnType = some t) (ht : t.isReference = true) (hw : w.isRef = true) (hd : decode c.code pc = .ok (.areturn, 1))
    (hQ : Q (some w) T.heap locs) (h1 : cells ≤ C) (h2 : slots ≤ S) (hlk : meth.locks = false := by assumption) : Gets p e below (Out Q s below C S) (T.setTop (mkF m pc Ls (w :: rest))) :=
  Gets.fin X (fun h => by rw [hret] at h; cases h) hlk (fun fs hr => retOut X hx hret (by cases t <;> first | (cases ht; done) | (cases w <;> first | rfl | (cases hw))) (Or.inr (Or.inr (Or.inr (Or.inr ⟨rfl, ht, hw⟩)))) hd hr) hQ h1 h2
theorem Gets.retV {Q : Option Value → Heap → List Loc → Prop} {C S : Nat} (X : Stand p l e R s m args below meth c T locs cells slots) (hx : p.tables.exec = Jvm.exec) {pc : Nat} {Ls : Array Slot} (hret : meth.sig.returnType = none) (hd : decode c.code pc = .ok (.return_, 1))
    (hQ : Q none T.heap locs) (h1 : cells ≤ C) (h2 : slots ≤ S) (hlk : meth.locks = false := by assumption) : Gets p e below (Out Q s below C S) (T.setTop (mkF m pc Ls [])) :=
  Gets.fin X (fun _ => rfl) hlk (fun fs hr => X.returnOut hx hret hd hr) hQ h1 h2
/-- what is owed at the end of a body that may load String constants -/
def OutW (Q : Option Value → Heap → List Loc → Prop) (s : State) (below : List Frame) (C S : Nat) (t : State) : Prop := ∃ o, t.status = .running ∧ Ended t below o ∧ ∃ v L, o = .returned v ∧ Q v t.heap L ∧ ReturnedEndW s o t L C S
theorem GetsW.out {Q : Option Value → Heap → List Loc → Prop} {C S : Nat} {U : State} (h : Gets p e below (OutW Q s below C S) U) : ∃ s₂ o, Steps p.tables e below U s₂ ∧ s₂.status = .running ∧ Ended s₂ below o ∧ ∃ v L, o = .returned v ∧ Q v s₂.heap L ∧ ReturnedEndW s o s₂ L C S := by
  obtain ⟨t, a, o, b⟩ := h; exact ⟨t, o, a, b⟩
theorem GetsW.fin {Q : Option Value → Heap → List Loc → Prop} {C S : Nat} {U : State} {vm₁ : Vm} (X : Stand p l e R (s.setVm vm₁) m args below meth c T locs cells slots) {n : Nat} (hS : s.Since vm₁ n) (hn : n ≤ T.heap.size) {v : Option Value} (hv : meth.sig.returnType = none → v = none) (hlk : meth.locks = false)
    (k : ∀ fs, (∀ (f : JFrame) (acts : List Action), f.method = m → f.locked = none → f.entered = [] → (doReturn e (T.setTop f) acts v).1 = T.setFrames fs) → Steps p.tables e below U (T.setFrames fs)) (hQ : Q v T.heap locs) (h1 : cells ≤ C) (h2 : slots ≤ S) : Gets p e below (OutW Q s below C S) U := by
  obtain ⟨fs, hr, hrun, hended, w1, w2, w3, w4⟩ := X.leaveW hS hn (v := v) hv hlk
  exact ⟨_, k fs hr, _, hrun, hended, _, _, rfl, hQ, w1, w2, w3, w4.mono h1 h2⟩
theorem GetsW.retN {Q : Option Value → Heap → List Loc → Prop} {C S : Nat} {vm₁ : Vm} (X : Stand p l e R (s.setVm vm₁) m args below meth c T locs cells slots) (hx : p.tables.exec = Jvm.exec) {pc : Nat} {Ls : Array Slot} {z : Int32} {t : FieldType} {rest : List Value} (hret : meth.sig.returnType = some t) (ht : t = .boolean ∨ t = .byte ∨ t = .char ∨ t = .short) (hd : decode c.code pc = .ok (.ireturn, 1)) {n : Nat} (hS : s.Since vm₁ n) (hn : n ≤ T.heap.size)
    (hQ : Q (some (.int (nar t z))) T.heap locs) (h1 : cells ≤ C) (h2 : slots ≤ S) (hlk : meth.locks = false := by assumption) : Gets p e below (OutW Q s below C S) (T.setTop (mkF m pc Ls (.int z :: rest))) :=
  GetsW.fin X hS hn (fun h => by rw [hret] at h; cases h) hlk (fun fs hr => Jvm.RoadKit.retN X hx hret ht hd hr) hQ h1 h2
theorem GetsW.retI {Q : Option Value → Heap → List Loc → Prop} {C S : Nat} {vm₁ : Vm} (X : Stand p l e R (s.setVm vm₁) m args below meth c T locs cells slots) (hx : p.tables.exec = Jvm.exec) {pc : Nat} {Ls : Array Slot} {z : Int32} {rest : List Value} (hret : meth.sig.returnType = some .int) (hd : decode c.code pc = .ok (.ireturn, 1)) {n : Nat} (hS : s.Since vm₁ n) (hn : n ≤ T.heap.size)
    (hQ : Q (some (.int z)) T.heap locs) (h1 : cells ≤ C) (h2 : slots ≤ S) (hlk : meth.locks = false := by assumption) : Gets p e below (OutW Q s below C S) (T.setTop (mkF m pc Ls (.int z :: rest))) :=
  GetsW.fin X hS hn (fun h => by rw [hret] at h; cases h) hlk (fun fs hr => retI0 X hx hret hd hr) hQ h1 h2
theorem GetsW.retA {Q : Option Value → Heap → List Loc → Prop} {C S : Nat} {vm₁ : Vm} (X : Stand p l e R (s.setVm vm₁) m args below meth c T locs cells slots) (hx : p.tables.exec = Jvm.exec) {pc : Nat} {Ls : Array Slot} {w : Value} {t : FieldType} {rest : List Value} (hret : meth.sig.returnType = some t) (ht : t.isReference = true) (hw : w.isRef = true) (hd : decode c.code pc = .ok (.areturn, 1)) {n : Nat} (hS : s.Since vm₁ n) (hn : n ≤ T.heap.size)
    (hQ : Q (some w) T.heap locs) (h1 : cells ≤ C) (h2 : slots ≤ S) (hlk : meth.locks = false := by assumption) : Gets p e below (OutW Q s below C S) (T.setTop (mkF m pc Ls (w :: rest))) :=
  GetsW.fin X hS hn (fun h => by rw [hret] at h; cases h) hlk (fun fs hr => retOut X hx hret (by cases t <;> first | (cases ht; done) | (cases w <;> first | rfl | (cases hw))) (Or.inr (Or.inr (Or.inr (Or.inr ⟨rfl, ht, hw⟩)))) hd hr) hQ h1 h2
theorem GetsW.retV {Q : Option Value → Heap → List Loc → Prop} {C S : Nat} {vm₁ : Vm} (X : Stand p l e R (s.setVm vm₁) m args below meth c T locs cells slots) (hx : p.tables.exec = Jvm.exec) {pc : Nat} {Ls : Array Slot} (hret : meth.sig.returnType = none) (hd : decode c.code pc = .ok (.return_, 1)) {n : Nat} (hS : s.Since vm₁ n) (hn : n ≤ T.heap.size)
    (hQ : Q none T.heap locs) (h1 : cells ≤ C) (h2 : slots ≤ S) (hlk : meth.locks = false := by assumption) : Gets p e below (OutW Q s below C S) (T.setTop (mkF m pc Ls [])) :=
  GetsW.fin X hS hn (fun _ => rfl) hlk (fun fs hr => X.returnOut hx hret hd hr) hQ h1 h2
/-- the payer of a callee that may load String constants, the constants' invariant handed over at its start -/
theorem own_backC {Z : State} {a0 : Array Value} {EL : List (String × Nat)} {h : Heap} {vm0 : Vm} {y : MethodName} {bytes : ByteArray} {maxL : Nat} {ret : Option FieldType} {rm : Room} {len W : Nat} {as' : Array Value} {Q : Option Value → Heap → List Loc → Prop}
    (hM : MetFree l y (head1 [Cond.code y bytes maxL ret] rm) (fun a U => a = as' ∧ Z.Warmed39 U.vm ∧ U.heap = h ∧ CHv Z EL U.vm h) (fun _ _ _ _ _ => True) (fun _ U o U' => ∃ v L, o = .returned v ∧ Q v U'.heap L ∧ ReturnedEndW U o U' L rm.cells rm.slots))
    (hZ : Z.Warmed39 vm0) (wc : (Cond.code y bytes maxL ret).before a0 Z = true) (wz : (Cond.initialized y.cls).before a0 Z = true) (hf : rm.frames + 1 ≤ R.frames) (hl : W + (maxL + 11) + rm.locals ≤ R.locals) (hEL : EW Z a0 EL) (H : CHv Z EL vm0 h) :
    BackS l R p e below (s.setVm vm0) args y len W (fun A a => a = as' ∧ A.U.heap = h ∧ A.cells + rm.cells ≤ R.cells ∧ A.slots + rm.slots ≤ R.slots)
      (fun A _ v B => ∃ L, Q v B.U.heap L ∧ B.locs = A.locs ++ L ∧ B.cells = A.cells + rm.cells ∧ B.slots = A.slots + rm.slots) := by
  refine BackS.of_freeW (bytes := bytes) (maxL := maxL) (ret := ret) (E := fun _ _ o t L k n => k = rm.cells ∧ n = rm.slots ∧ ∃ v, o = .returned v ∧ Q v t.heap L) hM hf hl ?_ ?_ (fun _ _ _ _ _ _ _ _ _ => trivial) ?_ ?_
  · intro m meth c A a Y hp
    have hU : Z.Warmed39 A.U.vm := wtrans (s := s.setVm vm0) hZ Y.warmed
    exact ⟨by show (Cond.and _ .tt).before a A.U = true; rw [Cond.before_and, mv hU wc]; rfl, mv hU wc, mv hU wz, hp.2.2.1, hp.2.2.2⟩
  · intro m meth c A a g mk Y hp
    exact ⟨hp.1, wtrans (s := s.setVm vm0) hZ Y.warmed, hp.2.1, (CHv.at Y hZ hEL H).1⟩
  · rintro _ _ _ _ ⟨v, L, h1, h2, h3⟩
    exact ⟨L, _, _, h3, rfl, rfl, v, h1, h2⟩
  · rintro m meth c A a g mk v t L k n Y hp _ _ ⟨e1, e2, v', e3, e4⟩
    cases e3; subst e1 e2
    exact ⟨L, e4, rfl, rfl, rfl⟩
theorem own_mir {Z : State} {C : String} {mr : Addr} (hZ : Z.Warmed39 s.vm) (M : Mir Z C mr) : (Term.mirror C).eval args s none [] s = some (.ref mr) := by
  obtain ⟨c, k, h1, h2, h3, -⟩ := M
  obtain ⟨k', q, ek⟩ := hZ.alike.2.2 _ _ h2
  have h4 : s.vm.findClass C = some c := by rw [hZ.alike.findClass]; exact h1
  have h5 : k'.mirror = some mr := by rw [ek]; exact h3
  simp [Term.eval, h4, q, h5]
theorem own_catR {w : Value} (hw : w.isRef = true) : w.category = 1 := by
  cases w <;> first | rfl | cases hw
theorem own_narrow_ref {ty : FieldType} {w : Value} (hw : w.isRef = true) : narrow ty w = w := by
  rcases ref_cases hw with rfl | ⟨a, rfl⟩ <;> cases ty <;> rfl
theorem own_fits_obj {C : String} {w : Value} (hw : w.isRef = true) : fits (.object C) w = true := by
  rcases ref_cases hw with rfl | ⟨a, rfl⟩ <;> rfl
theorem own_fits_arr {t : FieldType} {w : Value} (hw : w.isRef = true) : fits (.array t) w = true := by
  rcases ref_cases hw with rfl | ⟨a, rfl⟩ <;> rfl
theorem own_NS_root {Z : State} {a0 : Array Value} {O K : String} {n : Nat} (w : (Cond.noSuperclass O).before a0 Z = true) (wk : (Cond.instantiable K n).before a0 Z = true) (hn : O ≠ K) : NS Z O K := by
  obtain ⟨c, k, h1, h2, h3, -, -⟩ := Cond.noSuperclass_spec w
  obtain ⟨t, kt, g1, -⟩ := Cond.instantiable_spec wk
  have ne := ids_ne h1 g1 hn
  refine ⟨c, t, h1, g1, fun fuel => ?_⟩
  cases fuel with
  | zero => rfl
  | succ f => simp [Vm.isSubclassAux, ne, h2, h3]
theorem own_NS_no {Z : State} {a0 : Array Value} {C S K : String} {n : Nat} (w : (Cond.superclass C S).before a0 Z = true) (wk : (Cond.instantiable K n).before a0 Z = true) (nn : NS Z C K) (hn : C ≠ K) : ∃ c t, Z.vm.findClass C = some c ∧ Z.vm.findClass K = some t ∧ Z.vm.assignable c t = false := by
  obtain ⟨c, t, h0, g0, n3⟩ := nn
  obtain ⟨p, k, kp, h1, h2, h3, h4, h5, -, h7⟩ := Cond.superclass_spec h0 w
  obtain ⟨t', kt, g1, g2, g3, g4, -⟩ := Cond.instantiable_spec wk
  cases g0.symm.trans g1
  have ne := ids_ne h0 g0 hn
  have g5 : kt.isInterface = false := by cases hq : kt.isInterface <;> simp_all
  refine ⟨c, t, h0, g0, ?_⟩
  show Z.vm.assignableAux (255 + 1) c t = false
  simp [Vm.assignableAux, ne, h2, g2, h5, g3, g5, Vm.isSubclass, n3]
end Own
end Jvm.RoadKit
namespace Jvm.Pilot.@@N@@
open Jvm Jvm.ClassFile Sem Op Lib Jvm.Free Jvm.Stand Jvm.LawKit Jvm.RoadKit Bundle Jvm.Pilot.@@N@@.Jvm.D
abbrev cn0 : String := "java/lang/String"
abbrev cn1 : String := "com/example/cardwire/cardwire/core/Attribute"
abbrev cn2 : String := "(Ljava/lang/Object;)Z"
abbrev cn3 : String := "java/lang/StringLatin1"
abbrev cn4 : String := "Lcom/example/cardwire/cardwire/core/Attribute;"
abbrev cn5 : String := "()Ljava/lang/String;"
abbrev cn6 : String := "com/example/cardwire/cardwire/core/AttributeFillsPinLaw"

theorem own_len31 {args : Array Value} {first s : State} {o : Option Outcome} {idx : List Nat} {t : Term} {a : Addr} {cl : Cell} {z : Int32} (ht : t.eval args first o idx s = some (.ref a)) (ha : s.arrayAt? a = some cl) (h : (Term.length t).eval args first o idx s = some (.int z)) : cl.slots.size < 2 ^ 31 ∧ cl.slots.size.toInt32 = z := by
  by_cases q : cl.slots.size < 2 ^ 31
  · refine ⟨q, ?_⟩
    rw [len_f ht ha q] at h
    exact Value.int.inj (Option.some.inj h)
  · exfalso; simp [Term.eval, ht, ha, q] at h
def own_EL : List (String × Nat) := consts_1
theorem own_mod6 (x : Int32) : 0 ≤ ((x &&& (2147483647 : Int32)) % (6 : Int32)).toInt ∧ ((x &&& (2147483647 : Int32)) % (6 : Int32)).toInt < 6 := by
  have h : (x &&& 2147483647).toInt = x.toInt % 2 ^ 31 := Jvm.Kit.i32_mask x 2147483647 (k := 31) (by decide) (by decide)
  rw [Jvm.Kit.i32_rem_nonneg (by omega)]
  simp only [Int32.reduceToInt]; omega
theorem w15 {Z : State} {a0 : Array Value} (hw : ∀ d ∈ tables_1, d.before a0 Z = true) : (Jvm.Cond.stringLink cn6 (39 : Nat) "n").before a0 Z = true := hw _ (List.mem_of_getElem? (i := 15) rfl)
theorem w45 {Z : State} {a0 : Array Value} (hw : ∀ d ∈ tables_1, d.before a0 Z = true) : (Jvm.Cond.stringLink cn6 (47 : Nat) "an").before a0 Z = true := hw _ (List.mem_of_getElem? (i := 45) rfl)
theorem w46 {Z : State} {a0 : Array Value} (hw : ∀ d ∈ tables_1, d.before a0 Z = true) : (Jvm.Cond.stringLink cn6 (49 : Nat) "ans").before a0 Z = true := hw _ (List.mem_of_getElem? (i := 46) rfl)
theorem own_EW {Z : State} {a0 : Array Value} (hw : ∀ d ∈ tables_1, d.before a0 Z = true) : EW Z a0 own_EL := EW.cons (w15 hw) (by decide) (EW.cons (w45 hw) (by decide) (EW.cons (w46 hw) (by decide) EW.nil))
theorem w16 {Z : State} {a0 : Array Value} (hw : ∀ d ∈ tables_1, d.before a0 Z = true) : (Jvm.Cond.initialized cn0).before a0 Z = true := hw _ (List.mem_of_getElem? (i := 16) rfl)
theorem w17 {Z : State} {a0 : Array Value} (hw : ∀ d ∈ tables_1, d.before a0 Z = true) : (Jvm.Cond.instantiable cn0 (4 : Nat)).before a0 Z = true := hw _ (List.mem_of_getElem? (i := 17) rfl)
theorem w18 {Z : State} {a0 : Array Value} (hw : ∀ d ∈ tables_1, d.before a0 Z = true) : (Jvm.Cond.arrayClass Jvm.ClassFile.FieldType.byte).before a0 Z = true := hw _ (List.mem_of_getElem? (i := 18) rfl)
theorem w19 {Z : State} {a0 : Array Value} (hw : ∀ d ∈ tables_1, d.before a0 Z = true) : (Jvm.Cond.laysFinal cn0 cn0 "value" "[B").before a0 Z = true := hw _ (List.mem_of_getElem? (i := 19) rfl)
theorem w20 {Z : State} {a0 : Array Value} (hw : ∀ d ∈ tables_1, d.before a0 Z = true) : (Jvm.Cond.laysFinal cn0 cn0 "coder" "B").before a0 Z = true := hw _ (List.mem_of_getElem? (i := 20) rfl)
theorem w21 {Z : State} {a0 : Array Value} (hw : ∀ d ∈ tables_1, d.before a0 Z = true) : (Jvm.Cond.soleField cn0 "value").before a0 Z = true := hw _ (List.mem_of_getElem? (i := 21) rfl)
theorem w22 {Z : State} {a0 : Array Value} (hw : ∀ d ∈ tables_1, d.before a0 Z = true) : (Jvm.Cond.soleField cn0 "coder").before a0 Z = true := hw _ (List.mem_of_getElem? (i := 22) rfl)
theorem own_wS {Z : State} {a0 : Array Value} (hw : ∀ d ∈ tables_1, d.before a0 Z = true) : ∀ a ∈ Bundle.stringAtoms, a.before a0 Z = true := by
  intro d hd
  simp only [Bundle.stringAtoms, List.mem_cons, List.not_mem_nil, or_false] at hd
  rcases hd with rfl | rfl | rfl | rfl | rfl | rfl | rfl
  · exact (w16 hw)
  · exact (w17 hw)
  · exact (w18 hw)
  · exact (w19 hw)
  · exact (w20 hw)
  · exact (w21 hw)
  · exact (w22 hw)
theorem w6 {Z : State} {a0 : Array Value} (hw : ∀ d ∈ tables_1, d.before a0 Z = true) : (Jvm.Cond.initialized cn1).before a0 Z = true := hw _ (List.mem_of_getElem? (i := 6) rfl)
theorem w7 {Z : State} {a0 : Array Value} (hw : ∀ d ∈ tables_1, d.before a0 Z = true) : (Jvm.Cond.laysStatic cn1 "N" cn4).before a0 Z = true := hw _ (List.mem_of_getElem? (i := 7) rfl)
theorem w44 {Z : State} {a0 : Array Value} (hw : ∀ d ∈ tables_1, d.before a0 Z = true) : (Jvm.Cond.laysStatic cn1 "Z" cn4).before a0 Z = true := hw _ (List.mem_of_getElem? (i := 44) rfl)
theorem w48 {Z : State} {a0 : Array Value} (hw : ∀ d ∈ tables_1, d.before a0 Z = true) : (Jvm.Cond.laysStatic cn1 "AN" cn4).before a0 Z = true := hw _ (List.mem_of_getElem? (i := 48) rfl)
theorem w50 {Z : State} {a0 : Array Value} (hw : ∀ d ∈ tables_1, d.before a0 Z = true) : (Jvm.Cond.laysStatic cn1 "ANS" cn4).before a0 Z = true := hw _ (List.mem_of_getElem? (i := 50) rfl)
theorem w54 {Z : State} {a0 : Array Value} (hw : ∀ d ∈ tables_1, d.before a0 Z = true) : (Jvm.Cond.laysStatic cn1 "X_N" cn4).before a0 Z = true := hw _ (List.mem_of_getElem? (i := 54) rfl)
theorem w56 {Z : State} {a0 : Array Value} (hw : ∀ d ∈ tables_1, d.before a0 Z = true) : (Jvm.Cond.laysStatic cn1 "B" cn4).before a0 Z = true := hw _ (List.mem_of_getElem? (i := 56) rfl)
theorem w0 {Z : State} {a0 : Array Value} (hw : ∀ d ∈ tables_1, d.before a0 Z = true) : (Jvm.Cond.constant cn6 (28 : Nat) (2147483647 : Int32)).before a0 Z = true := hw _ (List.mem_of_getElem? (i := 0) rfl)
theorem w1 {Z : State} {a0 : Array Value} (hw : ∀ d ∈ tables_1, d.before a0 Z = true) : (Jvm.Cond.methodLink cn6 (29 : Nat) ({ cls := cn6, name := "pick", desc := "(I)Lcom/example/cardwire/cardwire/core/Attribute;" } : Jvm.MethodName)).before a0 Z = true := hw _ (List.mem_of_getElem? (i := 1) rfl)
theorem d1_0 : decode method_2_code 0 = .ok (.iload_n 0, 1) := by decide +kernel
theorem d1_1 : decode method_2_code 1 = .ok (.ifCond .ne 7, 3) := by decide +kernel
theorem d1_4 : decode method_2_code 4 = .ok (.getstatic 7, 3) := by decide +kernel
theorem w5 {Z : State} {a0 : Array Value} (hw : ∀ d ∈ tables_1, d.before a0 Z = true) : (Jvm.Cond.fieldLink cn6 (7 : Nat) cn1 "N" cn4).before a0 Z = true := hw _ (List.mem_of_getElem? (i := 5) rfl)
theorem d1_7 : decode method_2_code 7 = .ok (.areturn, 1) := by decide +kernel
theorem d1_8 : decode method_2_code 8 = .ok (.iload_n 0, 1) := by decide +kernel
theorem d1_9 : decode method_2_code 9 = .ok (.iconst 1, 1) := by decide +kernel
theorem d1_10 : decode method_2_code 10 = .ok (.if_icmp .ne 7, 3) := by decide +kernel
theorem d1_13 : decode method_2_code 13 = .ok (.getstatic 13, 3) := by decide +kernel
theorem w52 {Z : State} {a0 : Array Value} (hw : ∀ d ∈ tables_1, d.before a0 Z = true) : (Jvm.Cond.fieldLink cn6 (13 : Nat) cn1 "AN" cn4).before a0 Z = true := hw _ (List.mem_of_getElem? (i := 52) rfl)
theorem d1_16 : decode method_2_code 16 = .ok (.areturn, 1) := by decide +kernel
theorem d1_17 : decode method_2_code 17 = .ok (.iload_n 0, 1) := by decide +kernel
theorem d1_18 : decode method_2_code 18 = .ok (.iconst 2, 1) := by decide +kernel
theorem d1_19 : decode method_2_code 19 = .ok (.if_icmp .ne 7, 3) := by decide +kernel
theorem d1_22 : decode method_2_code 22 = .ok (.getstatic 16, 3) := by decide +kernel
theorem w51 {Z : State} {a0 : Array Value} (hw : ∀ d ∈ tables_1, d.before a0 Z = true) : (Jvm.Cond.fieldLink cn6 (16 : Nat) cn1 "ANS" cn4).before a0 Z = true := hw _ (List.mem_of_getElem? (i := 51) rfl)
theorem d1_25 : decode method_2_code 25 = .ok (.areturn, 1) := by decide +kernel
theorem d1_26 : decode method_2_code 26 = .ok (.iload_n 0, 1) := by decide +kernel
theorem d1_27 : decode method_2_code 27 = .ok (.iconst 3, 1) := by decide +kernel
theorem d1_28 : decode method_2_code 28 = .ok (.if_icmp .ne 7, 3) := by decide +kernel
theorem d1_31 : decode method_2_code 31 = .ok (.getstatic 19, 3) := by decide +kernel
theorem w43 {Z : State} {a0 : Array Value} (hw : ∀ d ∈ tables_1, d.before a0 Z = true) : (Jvm.Cond.fieldLink cn6 (19 : Nat) cn1 "Z" cn4).before a0 Z = true := hw _ (List.mem_of_getElem? (i := 43) rfl)
theorem d1_34 : decode method_2_code 34 = .ok (.areturn, 1) := by decide +kernel
theorem d1_35 : decode method_2_code 35 = .ok (.iload_n 0, 1) := by decide +kernel
theorem d1_36 : decode method_2_code 36 = .ok (.iconst 4, 1) := by decide +kernel
theorem d1_37 : decode method_2_code 37 = .ok (.if_icmp .ne 7, 3) := by decide +kernel
theorem d1_40 : decode method_2_code 40 = .ok (.getstatic 22, 3) := by decide +kernel
theorem w55 {Z : State} {a0 : Array Value} (hw : ∀ d ∈ tables_1, d.before a0 Z = true) : (Jvm.Cond.fieldLink cn6 (22 : Nat) cn1 "B" cn4).before a0 Z = true := hw _ (List.mem_of_getElem? (i := 55) rfl)
theorem d1_43 : decode method_2_code 43 = .ok (.areturn, 1) := by decide +kernel
theorem d1_44 : decode method_2_code 44 = .ok (.getstatic 25, 3) := by decide +kernel
theorem w53 {Z : State} {a0 : Array Value} (hw : ∀ d ∈ tables_1, d.before a0 Z = true) : (Jvm.Cond.fieldLink cn6 (25 : Nat) cn1 "X_N" cn4).before a0 Z = true := hw _ (List.mem_of_getElem? (i := 53) rfl)
theorem d1_47 : decode method_2_code 47 = .ok (.areturn, 1) := by decide +kernel
def Q_r1_pick (Z : State) (yi1 : Int32) (ov5 : Addr) (ov49 : Addr) (ov55 : Addr) (ov25 : Addr) (ov121 : Addr) (ov99 : Addr) (h0 : Heap) (n0 : Nat) (v : Option Value) (h : Heap) (L : List Loc) : Prop := Fr n0 L ∧ h = h0 ∧ (((yi1 = (0 : Int32)) ∧ v = some (.ref ov5)) ∨ ((¬ (yi1 = (0 : Int32))) ∧ (yi1 = (1 : Int32)) ∧ v = some (.ref ov49)) ∨ ((¬ (yi1 = (0 : Int32))) ∧ (¬ (yi1 = (1 : Int32))) ∧ (yi1 = (2 : Int32)) ∧ v = some (.ref ov55)) ∨ ((¬ (yi1 = (0 : Int32))) ∧ (¬ (yi1 = (1 : Int32))) ∧ (¬ (yi1 = (2 : Int32))) ∧ (yi1 = (3 : Int32)) ∧ v = some (.ref ov25)) ∨ ((¬ (yi1 = (0 : Int32))) ∧ (¬ (yi1 = (1 : Int32))) ∧ (¬ (yi1 = (2 : Int32))) ∧ (¬ (yi1 = (3 : Int32))) ∧ (yi1 = (4 : Int32)) ∧ v = some (.ref ov121)) ∨ ((¬ (yi1 = (0 : Int32))) ∧ (¬ (yi1 = (1 : Int32))) ∧ (¬ (yi1 = (2 : Int32))) ∧ (¬ (yi1 = (3 : Int32))) ∧ (¬ (yi1 = (4 : Int32))) ∧ v = some (.ref ov99)))
theorem pn_com_example_cardwire_cardwire_core_AttributeFillsPinLaw : plainName "com/example/cardwire/cardwire/core/AttributeFillsPinLaw" = true := by first | (simp [plainName, overriddenIn]; done) | decide +kernel
set_option maxRecDepth 65536 in
set_option maxHeartbeats 40000000 in
theorem r1_pick (l : Launch) (Z : State) (a0 : Array Value) (hw : ∀ d ∈ tables_1, d.before a0 Z = true) (ws : List Jvm.Cond) (yi1 : Int32) (ov5 : Addr) (ov49 : Addr) (ov55 : Addr) (ov25 : Addr) (ov121 : Addr) (ov99 : Addr) (h0 : Heap) (n0 : Nat) (O0 : Old Z n0 h0) (oS7 : Sta Z Z.heap cn1 "N" cn4 (.ref ov5)) (oS51 : Sta Z Z.heap cn1 "AN" cn4 (.ref ov49)) (oS57 : Sta Z Z.heap cn1 "ANS" cn4 (.ref ov55)) (oS27 : Sta Z Z.heap cn1 "Z" cn4 (.ref ov25)) (oS123 : Sta Z Z.heap cn1 "B" cn4 (.ref ov121)) (oS101 : Sta Z Z.heap cn1 "X_N" cn4 (.ref ov99)) :
    MetFree l (⟨cn6, "pick", "(I)Lcom/example/cardwire/cardwire/core/Attribute;"⟩ : MethodName) (head1 (Jvm.Cond.code (⟨cn6, "pick", "(I)Lcom/example/cardwire/cardwire/core/Attribute;"⟩ : MethodName) method_2_code 1 (some (.object cn1)) :: ws) ({ frames := 0, cells := 0, slots := 0, locals := 0 } : Room)) (fun a U => a = #[(.int yi1)] ∧ Z.Warmed39 U.vm ∧ U.heap = h0) (fun _ _ _ _ _ => True) (fun _ U o U' => ∃ v L, o = .returned v ∧ Q_r1_pick Z yi1 ov5 ov49 ov55 ov25 ov121 ov99 h0 n0 v U'.heap L ∧ FrameEnd U o U' L ({ frames := 0, cells := 0, slots := 0, locals := 0 } : Room).cells ({ frames := 0, cells := 0, slots := 0, locals := 0 } : Room).slots) := by
  refine MetFree.of_bodySF (plainFor_of_name pn_com_example_cardwire_cardwire_core_AttributeFillsPinLaw) hisR ?_
  intro p e s m args below meth c s₁ Bd hml0 hP hK
  obtain ⟨rfl, hZ, hh⟩ := hP
  have hx := Bd.exec
  have hby := Bd.bytes
  have hlk := Bd.notSynchronized
  have hml : c.maxLocals = 1 := hml0
  have hown : s.vm.findClass cn6 = some m.cls := findClass_of_methodNamed Bd.named
  have hnm := (name_of_methodNamed Bd.named Bd.method).1
  have X0 : Stand p l e ({ frames := 0, cells := 0, slots := 0, locals := 0 } : Room) s m #[(.int yi1)] below meth c s₁ [] 0 0 := Stand.of_body Bd
  have e0 : s₁.heap = h0 := by rw [← hh, Bd.state]; rfl
  have N0 := Fr.nil n0
  have K0 := Keep.refl h0 []
  have Z0 : n0 ≤ h0.size := O0.1 ▸ O0.2.1
  have hef : entryFrame m #[(.int yi1)] 1 = mkF m 0 #[.val (.int yi1)] [] := by first | (simp [entryFrame, mkF, argsToLocals, Value.category]; done) | rfl
  rw [hef]
  refine Gets.out (Q := Q_r1_pick Z yi1 ov5 ov49 ov55 ov25 ov121 ov99 h0 n0) ?_
  show Gets p e below _ (s₁.setTop (mkF m 0 #[.val (.int yi1)] []))
  refine Gets.of (fun t k => XS.iloadN X0.here hx rfl (hb hby d1_0) rfl  k) ?_
  by_cases hc1 : yi1 = (0 : Int32)
  · skip
    refine Gets.of (fun t k => XS.ifNo X0.here hx rfl (hb hby d1_1) rfl ((if0 _ _).trans (teq hc1).2) k) ?_
    show Gets p e below _ (s₁.setTop (mkF m 4 #[.val (.int yi1)] []))
    obtain ⟨T2, X2, e2, st2⟩ := getS2 X0 hx hZ hown (host := "") (Or.inl (w5 hw)) Via.refl e0 (oS7.ext O0.2) (g := (mkF m 4 #[.val (.int yi1)] [])) rfl (hb hby d1_4)
    refine Gets.of st2 ?_
    show Gets p e below _ (T2.setTop (mkF m 7 #[.val (.int yi1)] [(.ref ov5)]))
    refine Gets.retA X2 hx Bd.returns rfl rfl (hb hby d1_7) ?_ (by decide) (by decide)
    rw [e2]
    exact ⟨N0, rfl, (Or.inl ⟨hc1, rfl⟩)⟩
  · skip
    refine Gets.of (fun t k => XS.ifYes X0.here hx rfl (pc0 := 1) (pc' := 8) rfl (hb hby d1_1) rfl ((if0 _ _).trans (feq hc1).2) (by decide) (by decide) k) ?_
    show Gets p e below _ (s₁.setTop (mkF m 8 #[.val (.int yi1)] []))
    refine Gets.of (fun t k => XS.iloadN X0.here hx rfl (hb hby d1_8) rfl  k) ?_
    refine Gets.of (fun t k => XS.iconst X0.here hx rfl (hb hby d1_9) k) ?_
    by_cases hc3 : yi1 = (1 : Int32)
    · skip
      refine Gets.of (fun t k => XS.icmpNo X0.here hx rfl (hb hby d1_10) rfl (teq hc3).2 k) ?_
      show Gets p e below _ (s₁.setTop (mkF m 13 #[.val (.int yi1)] []))
      obtain ⟨T4, X4, e4, st4⟩ := getS2 X0 hx hZ hown (host := "") (Or.inl (w52 hw)) Via.refl e0 (oS51.ext O0.2) (g := (mkF m 13 #[.val (.int yi1)] [])) rfl (hb hby d1_13)
      refine Gets.of st4 ?_
      show Gets p e below _ (T4.setTop (mkF m 16 #[.val (.int yi1)] [(.ref ov49)]))
      refine Gets.retA X4 hx Bd.returns rfl rfl (hb hby d1_16) ?_ (by decide) (by decide)
      rw [e4]
      exact ⟨N0, rfl, (Or.inr (Or.inl ⟨hc1, hc3, rfl⟩))⟩
    · skip
      refine Gets.of (fun t k => XS.icmpYes X0.here hx rfl (pc0 := 10) (pc' := 17) rfl (hb hby d1_10) rfl (feq hc3).2 (by decide) (by decide) k) ?_
      show Gets p e below _ (s₁.setTop (mkF m 17 #[.val (.int yi1)] []))
      refine Gets.of (fun t k => XS.iloadN X0.here hx rfl (hb hby d1_17) rfl  k) ?_
      refine Gets.of (fun t k => XS.iconst X0.here hx rfl (hb hby d1_18) k) ?_
      by_cases hc5 : yi1 = (2 : Int32)
      · skip
        refine Gets.of (fun t k => XS.icmpNo X0.here hx rfl (hb hby d1_19) rfl (teq hc5).2 k) ?_
        show Gets p e below _ (s₁.setTop (mkF m 22 #[.val (.int yi1)] []))
        obtain ⟨T6, X6, e6, st6⟩ := getS2 X0 hx hZ hown (host := "") (Or.inl (w51 hw)) Via.refl e0 (oS57.ext O0.2) (g := (mkF m 22 #[.val (.int yi1)] [])) rfl (hb hby d1_22)
        refine Gets.of st6 ?_
        show Gets p e below _ (T6.setTop (mkF m 25 #[.val (.int yi1)] [(.ref ov55)]))
        refine Gets.retA X6 hx Bd.returns rfl rfl (hb hby d1_25) ?_ (by decide) (by decide)
        rw [e6]
        exact ⟨N0, rfl, (Or.inr (Or.inr (Or.inl ⟨hc1, hc3, hc5, rfl⟩)))⟩
      · skip
        refine Gets.of (fun t k => XS.icmpYes X0.here hx rfl (pc0 := 19) (pc' := 26) rfl (hb hby d1_19) rfl (feq hc5).2 (by decide) (by decide) k) ?_
        show Gets p e below _ (s₁.setTop (mkF m 26 #[.val (.int yi1)] []))
        refine Gets.of (fun t k => XS.iloadN X0.here hx rfl (hb hby d1_26) rfl  k) ?_
        refine Gets.of (fun t k => XS.iconst X0.here hx rfl (hb hby d1_27) k) ?_
        by_cases hc7 : yi1 = (3 : Int32)
        · skip
          refine Gets.of (fun t k => XS.icmpNo X0.here hx rfl (hb hby d1_28) rfl (teq hc7).2 k) ?_
          show Gets p e below _ (s₁.setTop (mkF m 31 #[.val (.int yi1)] []))
          obtain ⟨T8, X8, e8, st8⟩ := getS2 X0 hx hZ hown (host := "") (Or.inl (w43 hw)) Via.refl e0 (oS27.ext O0.2) (g := (mkF m 31 #[.val (.int yi1)] [])) rfl (hb hby d1_31)
          refine Gets.of st8 ?_
          show Gets p e below _ (T8.setTop (mkF m 34 #[.val (.int yi1)] [(.ref ov25)]))
          refine Gets.retA X8 hx Bd.returns rfl rfl (hb hby d1_34) ?_ (by decide) (by decide)
          rw [e8]
          exact ⟨N0, rfl, (Or.inr (Or.inr (Or.inr (Or.inl ⟨hc1, hc3, hc5, hc7, rfl⟩))))⟩
        · skip
          refine Gets.of (fun t k => XS.icmpYes X0.here hx rfl (pc0 := 28) (pc' := 35) rfl (hb hby d1_28) rfl (feq hc7).2 (by decide) (by decide) k) ?_
          show Gets p e below _ (s₁.setTop (mkF m 35 #[.val (.int yi1)] []))
          refine Gets.of (fun t k => XS.iloadN X0.here hx rfl (hb hby d1_35) rfl  k) ?_
          refine Gets.of (fun t k => XS.iconst X0.here hx rfl (hb hby d1_36) k) ?_
          by_cases hc9 : yi1 = (4 : Int32)
          · skip
            refine Gets.of (fun t k => XS.icmpNo X0.here hx rfl (hb hby d1_37) rfl (teq hc9).2 k) ?_
            show Gets p e below _ (s₁.setTop (mkF m 40 #[.val (.int yi1)] []))
            obtain ⟨T10, X10, e10, st10⟩ := getS2 X0 hx hZ hown (host := "") (Or.inl (w55 hw)) Via.refl e0 (oS123.ext O0.2) (g := (mkF m 40 #[.val (.int yi1)] [])) rfl (hb hby d1_40)
            refine Gets.of st10 ?_
            show Gets p e below _ (T10.setTop (mkF m 43 #[.val (.int yi1)] [(.ref ov121)]))
            refine Gets.retA X10 hx Bd.returns rfl rfl (hb hby d1_43) ?_ (by decide) (by decide)
            rw [e10]
            exact ⟨N0, rfl, (Or.inr (Or.inr (Or.inr (Or.inr (Or.inl ⟨hc1, hc3, hc5, hc7, hc9, rfl⟩)))))⟩
          · skip
            refine Gets.of (fun t k => XS.icmpYes X0.here hx rfl (pc0 := 37) (pc' := 44) rfl (hb hby d1_37) rfl (feq hc9).2 (by decide) (by decide) k) ?_
            show Gets p e below _ (s₁.setTop (mkF m 44 #[.val (.int yi1)] []))
            obtain ⟨T11, X11, e11, st11⟩ := getS2 X0 hx hZ hown (host := "") (Or.inl (w53 hw)) Via.refl e0 (oS101.ext O0.2) (g := (mkF m 44 #[.val (.int yi1)] [])) rfl (hb hby d1_44)
            refine Gets.of st11 ?_
            show Gets p e below _ (T11.setTop (mkF m 47 #[.val (.int yi1)] [(.ref ov99)]))
            refine Gets.retA X11 hx Bd.returns rfl rfl (hb hby d1_47) ?_ (by decide) (by decide)
            rw [e11]
            exact ⟨N0, rfl, (Or.inr (Or.inr (Or.inr (Or.inr (Or.inr (⟨hc1, hc3, hc5, hc7, hc9, rfl⟩))))))⟩
theorem w4 {Z : State} {a0 : Array Value} (hw : ∀ d ∈ tables_1, d.before a0 Z = true) : (Jvm.Cond.code ({ cls := cn6, name := "pick", desc := "(I)Lcom/example/cardwire/cardwire/core/Attribute;" } : Jvm.MethodName) method_2_code (1 : Nat) (Option.some (Jvm.ClassFile.FieldType.object cn1))).before a0 Z = true := hw _ (List.mem_of_getElem? (i := 4) rfl)
theorem w3 {Z : State} {a0 : Array Value} (hw : ∀ d ∈ tables_1, d.before a0 Z = true) : (Jvm.Cond.initialized cn6).before a0 Z = true := hw _ (List.mem_of_getElem? (i := 3) rfl)
theorem pd__I_Lcom_example_cardwire_cardwire_core_Attribute_ : parseMethodDescriptor "(I)Lcom/example/cardwire/cardwire/core/Attribute;" = some ⟨[.int], some (.object "com/example/cardwire/cardwire/core/Attribute")⟩ := by decide +kernel
theorem w2 {Z : State} {a0 : Array Value} (hw : ∀ d ∈ tables_1, d.before a0 Z = true) : (Jvm.Cond.static ({ cls := cn6, name := "pick", desc := "(I)Lcom/example/cardwire/cardwire/core/Attribute;" } : Jvm.MethodName)).before a0 Z = true := hw _ (List.mem_of_getElem? (i := 2) rfl)
theorem w8 {Z : State} {a0 : Array Value} (hw : ∀ d ∈ tables_1, d.before a0 Z = true) : (Jvm.Cond.methodLink cn6 (35 : Nat) ({ cls := cn1, name := "code", desc := cn5 } : Jvm.MethodName)).before a0 Z = true := hw _ (List.mem_of_getElem? (i := 8) rfl)
theorem d2_0 : decode prog_67_method_8_code 0 = .ok (.aload_n 0, 1) := by decide +kernel
theorem d2_1 : decode prog_67_method_8_code 1 = .ok (.getfield 44, 3) := by decide +kernel
theorem w13 {Z : State} {a0 : Array Value} (hw : ∀ d ∈ tables_1, d.before a0 Z = true) : (Jvm.Cond.fieldLink cn1 (44 : Nat) cn1 "code" "Ljava/lang/String;").before a0 Z = true := hw _ (List.mem_of_getElem? (i := 13) rfl)
theorem d2_4 : decode prog_67_method_8_code 4 = .ok (.areturn, 1) := by decide +kernel
def Q_r2_code (Z : State) (ov5 : Addr) (ov9 : Addr) (h0 : Heap) (n0 : Nat) (v : Option Value) (h : Heap) (L : List Loc) : Prop := Fr n0 L ∧ h = h0 ∧ ((v = some (.ref ov9)))
theorem pn_com_example_cardwire_cardwire_core_Attribute : plainName "com/example/cardwire/cardwire/core/Attribute" = true := by first | (simp [plainName, overriddenIn]; done) | decide +kernel
set_option maxRecDepth 65536 in
set_option maxHeartbeats 40000000 in
theorem r2_code (l : Launch) (Z : State) (a0 : Array Value) (hw : ∀ d ∈ tables_1, d.before a0 Z = true) (ws : List Jvm.Cond) (ov5 : Addr) (ov9 : Addr) (h0 : Heap) (n0 : Nat) (O0 : Old Z n0 h0) (oF11 : Fld Z Z.heap ov5 cn1 "code" "Ljava/lang/String;" (.ref ov9)) :
    MetFree l (⟨cn1, "code", cn5⟩ : MethodName) (head1 (Jvm.Cond.code (⟨cn1, "code", cn5⟩ : MethodName) prog_67_method_8_code 1 (some (.object cn0)) :: ws) ({ frames := 0, cells := 0, slots := 0, locals := 0 } : Room)) (fun a U => a = #[(.ref ov5)] ∧ Z.Warmed39 U.vm ∧ U.heap = h0) (fun _ _ _ _ _ => True) (fun _ U o U' => ∃ v L, o = .returned v ∧ Q_r2_code Z ov5 ov9 h0 n0 v U'.heap L ∧ FrameEnd U o U' L ({ frames := 0, cells := 0, slots := 0, locals := 0 } : Room).cells ({ frames := 0, cells := 0, slots := 0, locals := 0 } : Room).slots) := by
  refine MetFree.of_bodySF (plainFor_of_name pn_com_example_cardwire_cardwire_core_Attribute) hisR ?_
  intro p e s m args below meth c s₁ Bd hml0 hP hK
  obtain ⟨rfl, hZ, hh⟩ := hP
  have hx := Bd.exec
  have hby := Bd.bytes
  have hlk := Bd.notSynchronized
  have hml : c.maxLocals = 1 := hml0
  have hown : s.vm.findClass cn1 = some m.cls := findClass_of_methodNamed Bd.named
  have hnm := (name_of_methodNamed Bd.named Bd.method).1
  have X0 : Stand p l e ({ frames := 0, cells := 0, slots := 0, locals := 0 } : Room) s m #[(.ref ov5)] below meth c s₁ [] 0 0 := Stand.of_body Bd
  have e0 : s₁.heap = h0 := by rw [← hh, Bd.state]; rfl
  have N0 := Fr.nil n0
  have K0 := Keep.refl h0 []
  have Z0 : n0 ≤ h0.size := O0.1 ▸ O0.2.1
  have hef : entryFrame m #[(.ref ov5)] 1 = mkF m 0 #[.val (.ref ov5)] [] := by first | (simp [entryFrame, mkF, argsToLocals, Value.category]; done) | rfl
  rw [hef]
  refine Gets.out (Q := Q_r2_code Z ov5 ov9 h0 n0) ?_
  show Gets p e below _ (s₁.setTop (mkF m 0 #[.val (.ref ov5)] []))
  refine Gets.of (fun t k => XS.aloadN X0.here hx rfl (hb hby d2_0) rfl rfl  k) ?_
  obtain ⟨T1, X1, e1, st1⟩ := getF X0 hx hZ hown (host := "") (Or.inl (w13 hw)) Via.refl e0 (oF11.ext O0.2) (g := (mkF m 1 #[.val (.ref ov5)] [(.ref ov5)])) rfl rfl (hb hby d2_1)
  refine Gets.of st1 ?_
  show Gets p e below _ (T1.setTop (mkF m 4 #[.val (.ref ov5)] [(.ref ov9)]))
  refine Gets.retA X1 hx Bd.returns rfl rfl (hb hby d2_4) ?_ (by decide) (by decide)
  rw [e1]
  exact ⟨N0, rfl, rfl⟩
theorem w12 {Z : State} {a0 : Array Value} (hw : ∀ d ∈ tables_1, d.before a0 Z = true) : (Jvm.Cond.code ({ cls := cn1, name := "code", desc := cn5 } : Jvm.MethodName) prog_67_method_8_code (1 : Nat) (Option.some (Jvm.ClassFile.FieldType.object cn0))).before a0 Z = true := hw _ (List.mem_of_getElem? (i := 12) rfl)
theorem pd__Ljava_lang_String_ : parseMethodDescriptor "()Ljava/lang/String;" = some ⟨[], some (.object "java/lang/String")⟩ := by decide +kernel
theorem w11 {Z : State} {a0 : Array Value} (hw : ∀ d ∈ tables_1, d.before a0 Z = true) : (Jvm.Cond.selects cn1 ({ cls := cn1, name := "code", desc := cn5 } : Jvm.MethodName) ({ cls := cn1, name := "code", desc := cn5 } : Jvm.MethodName)).before a0 Z = true := hw _ (List.mem_of_getElem? (i := 11) rfl)
theorem w9 {Z : State} {a0 : Array Value} (hw : ∀ d ∈ tables_1, d.before a0 Z = true) : (Jvm.Cond.declares ({ cls := cn1, name := "code", desc := cn5 } : Jvm.MethodName)).before a0 Z = true := hw _ (List.mem_of_getElem? (i := 9) rfl)
theorem w10 {Z : State} {a0 : Array Value} (hw : ∀ d ∈ tables_1, d.before a0 Z = true) : (Jvm.Cond.instanceMethod ({ cls := cn1, name := "code", desc := cn5 } : Jvm.MethodName)).before a0 Z = true := hw _ (List.mem_of_getElem? (i := 10) rfl)
theorem w23 {Z : State} {a0 : Array Value} (hw : ∀ d ∈ tables_1, d.before a0 Z = true) : (Jvm.Cond.methodLink cn6 (41 : Nat) ({ cls := cn0, name := "equals", desc := cn2 } : Jvm.MethodName)).before a0 Z = true := hw _ (List.mem_of_getElem? (i := 23) rfl)
theorem d3_0 : decode jdk_42_method_66_code 0 = .ok (.aload_n 0, 1) := by decide +kernel
theorem d3_1 : decode jdk_42_method_66_code 1 = .ok (.aload_n 1, 1) := by decide +kernel
theorem d3_2 : decode jdk_42_method_66_code 2 = .ok (.if_acmp .ne 5, 3) := by decide +kernel
theorem d3_5 : decode jdk_42_method_66_code 5 = .ok (.iconst 1, 1) := by decide +kernel
theorem d3_6 : decode jdk_42_method_66_code 6 = .ok (.ireturn, 1) := by decide +kernel
theorem d3_7 : decode jdk_42_method_66_code 7 = .ok (.aload_n 1, 1) := by decide +kernel
theorem d3_8 : decode jdk_42_method_66_code 8 = .ok (.instanceof 10, 3) := by decide +kernel
theorem w28 {Z : State} {a0 : Array Value} (hw : ∀ d ∈ tables_1, d.before a0 Z = true) : (Jvm.Cond.classLink cn0 (10 : Nat) cn0).before a0 Z = true := hw _ (List.mem_of_getElem? (i := 28) rfl)
theorem d3_11 : decode jdk_42_method_66_code 11 = .ok (.ifCond .eq 43, 3) := by decide +kernel
theorem d3_14 : decode jdk_42_method_66_code 14 = .ok (.aload_n 1, 1) := by decide +kernel
theorem d3_15 : decode jdk_42_method_66_code 15 = .ok (.checkcast 10, 3) := by decide +kernel
theorem d3_18 : decode jdk_42_method_66_code 18 = .ok (.astore_n 2, 1) := by decide +kernel
theorem d3_19 : decode jdk_42_method_66_code 19 = .ok (.getstatic 38, 3) := by decide +kernel
theorem w30 {Z : State} {a0 : Array Value} (hw : ∀ d ∈ tables_1, d.before a0 Z = true) : (Jvm.Cond.fieldLink cn0 (38 : Nat) cn0 "COMPACT_STRINGS" "Z").before a0 Z = true := hw _ (List.mem_of_getElem? (i := 30) rfl)
theorem d3_22 : decode jdk_42_method_66_code 22 = .ok (.ifCond .eq 14, 3) := by decide +kernel
theorem d3_25 : decode jdk_42_method_66_code 25 = .ok (.aload_n 0, 1) := by decide +kernel
theorem d3_26 : decode jdk_42_method_66_code 26 = .ok (.getfield 15, 3) := by decide +kernel
theorem w31 {Z : State} {a0 : Array Value} (hw : ∀ d ∈ tables_1, d.before a0 Z = true) : (Jvm.Cond.fieldLink cn0 (15 : Nat) cn0 "coder" "B").before a0 Z = true := hw _ (List.mem_of_getElem? (i := 31) rfl)
theorem d3_29 : decode jdk_42_method_66_code 29 = .ok (.aload_n 2, 1) := by decide +kernel
theorem d3_30 : decode jdk_42_method_66_code 30 = .ok (.getfield 15, 3) := by decide +kernel
theorem d3_33 : decode jdk_42_method_66_code 33 = .ok (.if_icmp .ne 21, 3) := by decide +kernel
theorem d3_36 : decode jdk_42_method_66_code 36 = .ok (.aload_n 0, 1) := by decide +kernel
theorem d3_37 : decode jdk_42_method_66_code 37 = .ok (.getfield 9, 3) := by decide +kernel
theorem w32 {Z : State} {a0 : Array Value} (hw : ∀ d ∈ tables_1, d.before a0 Z = true) : (Jvm.Cond.fieldLink cn0 (9 : Nat) cn0 "value" "[B").before a0 Z = true := hw _ (List.mem_of_getElem? (i := 32) rfl)
theorem d3_40 : decode jdk_42_method_66_code 40 = .ok (.aload_n 2, 1) := by decide +kernel
theorem d3_41 : decode jdk_42_method_66_code 41 = .ok (.getfield 9, 3) := by decide +kernel
theorem d3_44 : decode jdk_42_method_66_code 44 = .ok (.invokestatic 541, 3) := by decide +kernel
theorem w33 {Z : State} {a0 : Array Value} (hw : ∀ d ∈ tables_1, d.before a0 Z = true) : (Jvm.Cond.methodLink cn0 (541 : Nat) ({ cls := cn3, name := "equals", desc := "([B[B)Z" } : Jvm.MethodName)).before a0 Z = true := hw _ (List.mem_of_getElem? (i := 33) rfl)
theorem d4_0 : decode jdk_43_method_13_code 0 = .ok (.aload_n 0, 1) := by decide +kernel
theorem d4_1 : decode jdk_43_method_13_code 1 = .ok (.arraylength, 1) := by decide +kernel
theorem d4_2 : decode jdk_43_method_13_code 2 = .ok (.aload_n 1, 1) := by decide +kernel
theorem d4_3 : decode jdk_43_method_13_code 3 = .ok (.arraylength, 1) := by decide +kernel
theorem d4_4 : decode jdk_43_method_13_code 4 = .ok (.if_icmp .ne 30, 3) := by decide +kernel
theorem d4_7 : decode jdk_43_method_13_code 7 = .ok (.iconst 0, 1) := by decide +kernel
theorem d4_8 : decode jdk_43_method_13_code 8 = .ok (.istore_n 2, 1) := by decide +kernel
theorem d4_9 : decode jdk_43_method_13_code 9 = .ok (.iload_n 2, 1) := by decide +kernel
theorem d4_10 : decode jdk_43_method_13_code 10 = .ok (.aload_n 0, 1) := by decide +kernel
theorem d4_11 : decode jdk_43_method_13_code 11 = .ok (.arraylength, 1) := by decide +kernel
theorem d4_12 : decode jdk_43_method_13_code 12 = .ok (.if_icmp .ge 20, 3) := by decide +kernel
theorem d4_15 : decode jdk_43_method_13_code 15 = .ok (.aload_n 0, 1) := by decide +kernel
theorem d4_16 : decode jdk_43_method_13_code 16 = .ok (.iload_n 2, 1) := by decide +kernel
theorem d4_17 : decode jdk_43_method_13_code 17 = .ok (.baload, 1) := by decide +kernel
theorem d4_18 : decode jdk_43_method_13_code 18 = .ok (.aload_n 1, 1) := by decide +kernel
theorem d4_19 : decode jdk_43_method_13_code 19 = .ok (.iload_n 2, 1) := by decide +kernel
theorem d4_20 : decode jdk_43_method_13_code 20 = .ok (.baload, 1) := by decide +kernel
theorem d4_21 : decode jdk_43_method_13_code 21 = .ok (.if_icmp .eq 5, 3) := by decide +kernel
theorem d4_26 : decode jdk_43_method_13_code 26 = .ok (.iinc 2 1, 3) := by decide +kernel
theorem d4_29 : decode jdk_43_method_13_code 29 = .ok (.goto (-20), 3) := by decide +kernel
theorem d4_32 : decode jdk_43_method_13_code 32 = .ok (.iconst 1, 1) := by decide +kernel
theorem d4_33 : decode jdk_43_method_13_code 33 = .ok (.ireturn, 1) := by decide +kernel
def Q_r4_equals (Z : State) (ov15 : Addr) (ya1 : Addr) (ok148 : ClassId) (yk2 : ClassId) (h0 : Heap) (n0 : Nat) (v : Option Value) (h : Heap) (L : List Loc) : Prop := Fr n0 L ∧ h = h0 ∧ ((v = some (.int (1 : Int32))))
theorem pn_java_lang_StringLatin1 : plainName "java/lang/StringLatin1" = true := by first | (simp [plainName, overriddenIn]; done) | decide +kernel
set_option maxRecDepth 65536 in
set_option maxHeartbeats 40000000 in
theorem r4_equals (l : Launch) (Z : State) (a0 : Array Value) (hw : ∀ d ∈ tables_1, d.before a0 Z = true) (ws : List Jvm.Cond) (ov15 : Addr) (ya1 : Addr) (ok148 : ClassId) (yk2 : ClassId) (h0 : Heap) (n0 : Nat) (O0 : Old Z n0 h0) (F0 : Arv Z h0 ya1 yk2 .byte (1 : Int32) [(.int (110 : Int32))] (.int (0 : Int32))) (oV147 : Arv Z Z.heap ov15 ok148 .byte (1 : Int32) [(.int (110 : Int32))] (.int (0 : Int32))) :
    MetFree l (⟨cn3, "equals", "([B[B)Z"⟩ : MethodName) (head1 (Jvm.Cond.code (⟨cn3, "equals", "([B[B)Z"⟩ : MethodName) jdk_43_method_13_code 3 (some .boolean) :: ws) ({ frames := 0, cells := 0, slots := 0, locals := 0 } : Room)) (fun a U => a = #[(.ref ov15), (.ref ya1)] ∧ Z.Warmed39 U.vm ∧ U.heap = h0) (fun _ _ _ _ _ => True) (fun _ U o U' => ∃ v L, o = .returned v ∧ Q_r4_equals Z ov15 ya1 ok148 yk2 h0 n0 v U'.heap L ∧ FrameEnd U o U' L ({ frames := 0, cells := 0, slots := 0, locals := 0 } : Room).cells ({ frames := 0, cells := 0, slots := 0, locals := 0 } : Room).slots) := by
  refine MetFree.of_bodySF (plainFor_of_name pn_java_lang_StringLatin1) hisR ?_
  intro p e s m args below meth c s₁ Bd hml0 hP hK
  obtain ⟨rfl, hZ, hh⟩ := hP
  have hx := Bd.exec
  have hby := Bd.bytes
  have hlk := Bd.notSynchronized
  have hml : c.maxLocals = 3 := hml0
  have hown : s.vm.findClass cn3 = some m.cls := findClass_of_methodNamed Bd.named
  have hnm := (name_of_methodNamed Bd.named Bd.method).1
  have X0 : Stand p l e ({ frames := 0, cells := 0, slots := 0, locals := 0 } : Room) s m #[(.ref ov15), (.ref ya1)] below meth c s₁ [] 0 0 := Stand.of_body Bd
  have e0 : s₁.heap = h0 := by rw [← hh, Bd.state]; rfl
  have N0 := Fr.nil n0
  have K0 := Keep.refl h0 []
  have Z0 : n0 ≤ h0.size := O0.1 ▸ O0.2.1
  have hef : entryFrame m #[(.ref ov15), (.ref ya1)] 3 = mkF m 0 #[.val (.ref ov15), .val (.ref ya1), .unset] [] := by first | (simp [entryFrame, mkF, argsToLocals, Value.category]; done) | rfl
  rw [hef]
  refine Gets.out (Q := Q_r4_equals Z ov15 ya1 ok148 yk2 h0 n0) ?_
  show Gets p e below _ (s₁.setTop (mkF m 0 #[.val (.ref ov15), .val (.ref ya1), .unset] []))
  refine Gets.of (fun t k => XS.aloadN X0.here hx rfl (hb hby d4_0) rfl rfl  k) ?_
  obtain ⟨cl1, Ar1, -, S1, N_1, -, -⟩ := id ((oV147.ext O0.2))
  refine Gets.of (X0.arraylength hx (by rw [e0]; exact Ar1.1) (State.isArrayOf_alike hZ.alike Ar1.2.1) (g := (mkF m 1 #[.val (.ref ov15), .val (.ref ya1), .unset] [(.ref ov15)])) rfl rfl (hb hby d4_1)) ?_
  rw [len_of S1 N_1]
  show Gets p e below _ (s₁.setTop (mkF m 2 #[.val (.ref ov15), .val (.ref ya1), .unset] [(.int (1 : Int32))]))
  refine Gets.of (fun t k => XS.aloadN X0.here hx rfl (hb hby d4_2) rfl rfl  k) ?_
  obtain ⟨cl2, Ar2, -, S2, N_2, -, -⟩ := id (F0)
  refine Gets.of (X0.arraylength hx (by rw [e0]; exact Ar2.1) (State.isArrayOf_alike hZ.alike Ar2.2.1) (g := (mkF m 3 #[.val (.ref ov15), .val (.ref ya1), .unset] [(.ref ya1), (.int (1 : Int32))])) rfl rfl (hb hby d4_3)) ?_
  rw [len_of S2 N_2]
  show Gets p e below _ (s₁.setTop (mkF m 4 #[.val (.ref ov15), .val (.ref ya1), .unset] [(.int (1 : Int32)), (.int (1 : Int32))]))
  refine Gets.of (fun t k => XS.icmpNo X0.here hx rfl (hb hby d4_4) rfl (teq (by decide : (1 : Int32) = (1 : Int32))).2 k) ?_
  show Gets p e below _ (s₁.setTop (mkF m 7 #[.val (.ref ov15), .val (.ref ya1), .unset] []))
  refine Gets.of (fun t k => XS.iconst X0.here hx rfl (hb hby d4_7) k) ?_
  refine Gets.of (fun t k => XS.istoreN X0.here hx rfl (hb hby d4_8) rfl (l' := #[.val (.ref ov15), .val (.ref ya1), .val (.int (0 : Int32))]) rfl k) ?_
  show Gets p e below _ (s₁.setTop (mkF m 9 #[.val (.ref ov15), .val (.ref ya1), .val (.int (0 : Int32))] []))
  refine Gets.of (fun t k => XS.iloadN X0.here hx rfl (hb hby d4_9) rfl  k) ?_
  refine Gets.of (fun t k => XS.aloadN X0.here hx rfl (hb hby d4_10) rfl rfl  k) ?_
  obtain ⟨cl3, Ar3, -, S3, N_3, -, -⟩ := id ((oV147.ext O0.2))
  refine Gets.of (X0.arraylength hx (by rw [e0]; exact Ar3.1) (State.isArrayOf_alike hZ.alike Ar3.2.1) (g := (mkF m 11 #[.val (.ref ov15), .val (.ref ya1), .val (.int (0 : Int32))] [(.ref ov15), (.int (0 : Int32))])) rfl rfl (hb hby d4_11)) ?_
  rw [len_of S3 N_3]
  show Gets p e below _ (s₁.setTop (mkF m 12 #[.val (.ref ov15), .val (.ref ya1), .val (.int (0 : Int32))] [(.int (1 : Int32)), (.int (0 : Int32))]))
  refine Gets.of (fun t k => XS.icmpNo X0.here hx rfl (hb hby d4_12) rfl (tlt (by decide : (0 : Int32) < (1 : Int32))).2.1 k) ?_
  show Gets p e below _ (s₁.setTop (mkF m 15 #[.val (.ref ov15), .val (.ref ya1), .val (.int (0 : Int32))] []))
  refine Gets.of (fun t k => XS.aloadN X0.here hx rfl (hb hby d4_15) rfl rfl  k) ?_
  refine Gets.of (fun t k => XS.iloadN X0.here hx rfl (hb hby d4_16) rfl  k) ?_
  obtain ⟨cl4, Ar4, q4, S4, N_4, H4, G4⟩ := id ((oV147.ext O0.2))
  have hin4 : ¬ ((0 : Int32) < 0 ∨ cl4.slots.size ≤ ((0 : Int32)).toNatClampNeg) := inb_of S4 ⟨by decide, by decide⟩
  refine Gets.of (fun t k => X0.baloadBytes hx (j := (0 : Int32)) (v := (.int (110 : Int32))) (by rw [e0]; exact Ar4.1) (State.isArrayOf_alike hZ.alike Ar4.2.1) Ar4.2.2 hin4 (Has.at H4 hin4 rfl) (g := (mkF m 17 #[.val (.ref ov15), .val (.ref ya1), .val (.int (0 : Int32))] [(.int (0 : Int32)), (.ref ov15)])) rfl rfl (hb hby d4_17) t k) ?_
  show Gets p e below _ (s₁.setTop (mkF m 18 #[.val (.ref ov15), .val (.ref ya1), .val (.int (0 : Int32))] [(.int (110 : Int32))]))
  refine Gets.of (fun t k => XS.aloadN X0.here hx rfl (hb hby d4_18) rfl rfl  k) ?_
  refine Gets.of (fun t k => XS.iloadN X0.here hx rfl (hb hby d4_19) rfl  k) ?_
  obtain ⟨cl5, Ar5, q5, S5, N_5, H5, G5⟩ := id (F0)
  have hin5 : ¬ ((0 : Int32) < 0 ∨ cl5.slots.size ≤ ((0 : Int32)).toNatClampNeg) := inb_of S5 ⟨by decide, by decide⟩
  refine Gets.of (fun t k => X0.baloadBytes hx (j := (0 : Int32)) (v := (.int (110 : Int32))) (by rw [e0]; exact Ar5.1) (State.isArrayOf_alike hZ.alike Ar5.2.1) Ar5.2.2 hin5 (Has.at H5 hin5 rfl) (g := (mkF m 20 #[.val (.ref ov15), .val (.ref ya1), .val (.int (0 : Int32))] [(.int (0 : Int32)), (.ref ya1), (.int (110 : Int32))])) rfl rfl (hb hby d4_20) t k) ?_
  show Gets p e below _ (s₁.setTop (mkF m 21 #[.val (.ref ov15), .val (.ref ya1), .val (.int (0 : Int32))] [(.int (110 : Int32)), (.int (110 : Int32))]))
  refine Gets.of (fun t k => XS.icmpYes X0.here hx rfl (pc0 := 21) (pc' := 26) rfl (hb hby d4_21) rfl (teq (by decide : (110 : Int32) = (110 : Int32))).1 (by decide) (by decide) k) ?_
  show Gets p e below _ (s₁.setTop (mkF m 26 #[.val (.ref ov15), .val (.ref ya1), .val (.int (0 : Int32))] []))
  refine Gets.of (fun t k => XS.iinc X0.here hx rfl (hb hby d4_26) rfl (l' := #[.val (.ref ov15), .val (.ref ya1), .val (.int (1 : Int32))]) rfl k) ?_
  show Gets p e below _ (s₁.setTop (mkF m 29 #[.val (.ref ov15), .val (.ref ya1), .val (.int (1 : Int32))] []))
  refine Gets.of (fun t k => XS.goto X0.here hx rfl (pc0 := 29) (pc' := 9) rfl (hb hby d4_29) (by decide) (by decide) k) ?_
  show Gets p e below _ (s₁.setTop (mkF m 9 #[.val (.ref ov15), .val (.ref ya1), .val (.int (1 : Int32))] []))
  refine Gets.of (fun t k => XS.iloadN X0.here hx rfl (hb hby d4_9) rfl  k) ?_
  refine Gets.of (fun t k => XS.aloadN X0.here hx rfl (hb hby d4_10) rfl rfl  k) ?_
  obtain ⟨cl6, Ar6, -, S6, N_6, -, -⟩ := id ((oV147.ext O0.2))
  refine Gets.of (X0.arraylength hx (by rw [e0]; exact Ar6.1) (State.isArrayOf_alike hZ.alike Ar6.2.1) (g := (mkF m 11 #[.val (.ref ov15), .val (.ref ya1), .val (.int (1 : Int32))] [(.ref ov15), (.int (1 : Int32))])) rfl rfl (hb hby d4_11)) ?_
  rw [len_of S6 N_6]
  show Gets p e below _ (s₁.setTop (mkF m 12 #[.val (.ref ov15), .val (.ref ya1), .val (.int (1 : Int32))] [(.int (1 : Int32)), (.int (1 : Int32))]))
  refine Gets.of (fun t k => XS.icmpYes X0.here hx rfl (pc0 := 12) (pc' := 32) rfl (hb hby d4_12) rfl (flt (by decide : ¬ ((1 : Int32) < (1 : Int32)))).2.1 (by decide) (by decide) k) ?_
  show Gets p e below _ (s₁.setTop (mkF m 32 #[.val (.ref ov15), .val (.ref ya1), .val (.int (1 : Int32))] []))
  refine Gets.of (fun t k => XS.iconst X0.here hx rfl (hb hby d4_32) k) ?_
  refine Gets.retN X0 hx (t := .boolean) Bd.returns (by simp) (hb hby d4_33) ?_ (by decide) (by decide)
  rw [e0]
  exact ⟨N0, rfl, rfl⟩
theorem w36 {Z : State} {a0 : Array Value} (hw : ∀ d ∈ tables_1, d.before a0 Z = true) : (Jvm.Cond.code ({ cls := cn3, name := "equals", desc := "([B[B)Z" } : Jvm.MethodName) jdk_43_method_13_code (3 : Nat) (Option.some Jvm.ClassFile.FieldType.boolean)).before a0 Z = true := hw _ (List.mem_of_getElem? (i := 36) rfl)
theorem w35 {Z : State} {a0 : Array Value} (hw : ∀ d ∈ tables_1, d.before a0 Z = true) : (Jvm.Cond.initialized cn3).before a0 Z = true := hw _ (List.mem_of_getElem? (i := 35) rfl)
theorem pd__B_B_Z : parseMethodDescriptor "([B[B)Z" = some ⟨[(.array .byte), (.array .byte)], some .boolean⟩ := by decide +kernel
theorem w34 {Z : State} {a0 : Array Value} (hw : ∀ d ∈ tables_1, d.before a0 Z = true) : (Jvm.Cond.static ({ cls := cn3, name := "equals", desc := "([B[B)Z" } : Jvm.MethodName)).before a0 Z = true := hw _ (List.mem_of_getElem? (i := 34) rfl)
theorem d3_47 : decode jdk_42_method_66_code 47 = .ok (.ifCond .eq 7, 3) := by decide +kernel
theorem d3_50 : decode jdk_42_method_66_code 50 = .ok (.iconst 1, 1) := by decide +kernel
theorem d3_51 : decode jdk_42_method_66_code 51 = .ok (.goto 4, 3) := by decide +kernel
theorem d3_55 : decode jdk_42_method_66_code 55 = .ok (.ireturn, 1) := by decide +kernel
def Q_r3_equals (Z : State) (ov9 : Addr) (ya1 : Addr) (oi1 : Int32) (ov15 : Addr) (ya2 : Addr) (yk3 : ClassId) (ok148 : ClassId) (h0 : Heap) (n0 : Nat) (v : Option Value) (h : Heap) (L : List Loc) : Prop := Fr n0 L ∧ h = h0 ∧ ((v = some (.int (1 : Int32))))
theorem pn_java_lang_String : plainName "java/lang/String" = true := by first | (simp [plainName, overriddenIn]; done) | decide +kernel
set_option maxRecDepth 65536 in
set_option maxHeartbeats 40000000 in
theorem r3_equals (l : Launch) (Z : State) (a0 : Array Value) (hw : ∀ d ∈ tables_1, d.before a0 Z = true) (ws : List Jvm.Cond) (ov9 : Addr) (ya1 : Addr) (oi1 : Int32) (ov15 : Addr) (ya2 : Addr) (yk3 : ClassId) (ok148 : ClassId) (h0 : Heap) (n0 : Nat) (O0 : Old Z n0 h0) (F0 : Exa Z h0 ya1 cn0) (F1 : Fld Z h0 ya1 cn0 "coder" "B" (.int (0 : Int32))) (F2 : Fld Z h0 ya1 cn0 "value" "[B" (.ref ya2)) (F3 : Arv Z h0 ya2 yk3 .byte (1 : Int32) [(.int (110 : Int32))] (.int (0 : Int32))) (oS3 : Sta Z Z.heap cn0 "COMPACT_STRINGS" "Z" (.int oi1)) (oF14 : Fld Z Z.heap ov9 cn0 "coder" "B" (.int (0 : Int32))) (oF17 : Fld Z Z.heap ov9 cn0 "value" "[B" (.ref ov15)) (oV147 : Arv Z Z.heap ov15 ok148 .byte (1 : Int32) [(.int (110 : Int32))] (.int (0 : Int32))) (hy1 : ¬ (oi1 = (0 : Int32))) :
    MetFree l (⟨cn0, "equals", cn2⟩ : MethodName) (head1 (Jvm.Cond.code (⟨cn0, "equals", cn2⟩ : MethodName) jdk_42_method_66_code 3 (some .boolean) :: ws) ({ frames := 1, cells := 0, slots := 0, locals := 14 } : Room)) (fun a U => a = #[(.ref ov9), (.ref ya1)] ∧ Z.Warmed39 U.vm ∧ U.heap = h0) (fun _ _ _ _ _ => True) (fun _ U o U' => ∃ v L, o = .returned v ∧ Q_r3_equals Z ov9 ya1 oi1 ov15 ya2 yk3 ok148 h0 n0 v U'.heap L ∧ FrameEnd U o U' L ({ frames := 1, cells := 0, slots := 0, locals := 14 } : Room).cells ({ frames := 1, cells := 0, slots := 0, locals := 14 } : Room).slots) := by
  refine MetFree.of_bodySF (plainFor_of_name pn_java_lang_String) hisR ?_
  intro p e s m args below meth c s₁ Bd hml0 hP hK
  obtain ⟨rfl, hZ, hh⟩ := hP
  have hx := Bd.exec
  have hby := Bd.bytes
  have hlk := Bd.notSynchronized
  have hml : c.maxLocals = 3 := hml0
  have hown : s.vm.findClass cn0 = some m.cls := findClass_of_methodNamed Bd.named
  have hnm := (name_of_methodNamed Bd.named Bd.method).1
  have X0 : Stand p l e ({ frames := 1, cells := 0, slots := 0, locals := 14 } : Room) s m #[(.ref ov9), (.ref ya1)] below meth c s₁ [] 0 0 := Stand.of_body Bd
  have e0 : s₁.heap = h0 := by rw [← hh, Bd.state]; rfl
  have N0 := Fr.nil n0
  have K0 := Keep.refl h0 []
  have Z0 : n0 ≤ h0.size := O0.1 ▸ O0.2.1
  have hef : entryFrame m #[(.ref ov9), (.ref ya1)] 3 = mkF m 0 #[.val (.ref ov9), .val (.ref ya1), .unset] [] := by first | (simp [entryFrame, mkF, argsToLocals, Value.category]; done) | rfl
  rw [hef]
  refine Gets.out (Q := Q_r3_equals Z ov9 ya1 oi1 ov15 ya2 yk3 ok148 h0 n0) ?_
  show Gets p e below _ (s₁.setTop (mkF m 0 #[.val (.ref ov9), .val (.ref ya1), .unset] []))
  refine Gets.of (fun t k => XS.aloadN X0.here hx rfl (hb hby d3_0) rfl rfl  k) ?_
  refine Gets.of (fun t k => XS.aloadN X0.here hx rfl (hb hby d3_1) rfl rfl  k) ?_
  by_cases hc1 : ov9 = ya1
  · skip
    refine Gets.of (fun t k => Jvm.RoadKit.acmp (g := (mkF m 2 #[.val (.ref ov9), .val (.ref ya1), .unset] [(.ref ya1), (.ref ov9)])) X0 hx rfl rfl rfl (pc0 := 2) (pc' := 5) (same := true) rfl (hb hby d3_2) rfl (decide_eq_true (congrArg Value.ref hc1)) (by decide) (by decide) k) ?_
    show Gets p e below _ (s₁.setTop (mkF m 5 #[.val (.ref ov9), .val (.ref ya1), .unset] []))
    refine Gets.of (fun t k => XS.iconst X0.here hx rfl (hb hby d3_5) k) ?_
    refine Gets.retN X0 hx (t := .boolean) Bd.returns (by simp) (hb hby d3_6) ?_ (by decide) (by decide)
    rw [e0]
    exact ⟨N0, rfl, rfl⟩
  · skip
    refine Gets.of (fun t k => Jvm.RoadKit.acmp (g := (mkF m 2 #[.val (.ref ov9), .val (.ref ya1), .unset] [(.ref ya1), (.ref ov9)])) X0 hx rfl rfl rfl (pc0 := 2) (pc' := 7) (same := false) rfl (hb hby d3_2) rfl (decide_eq_false fun q => hc1 (Value.ref.inj q)) (by decide) (by decide) k) ?_
    show Gets p e below _ (s₁.setTop (mkF m 7 #[.val (.ref ov9), .val (.ref ya1), .unset] []))
    refine Gets.of (fun t k => XS.aloadN X0.here hx rfl (hb hby d3_7) rfl rfl  k) ?_
    obtain ⟨T2, X2, e2, st2⟩ := instY X0 hx hZ hown (w28 hw) e0 (Ins.self F0) (g := (mkF m 8 #[.val (.ref ov9), .val (.ref ya1), .unset] [(.ref ya1)])) rfl rfl (hb hby d3_8)
    refine Gets.of st2 ?_
    show Gets p e below _ (T2.setTop (mkF m 11 #[.val (.ref ov9), .val (.ref ya1), .unset] [(.int (1 : Int32))]))
    refine Gets.of (fun t k => XS.ifNo X2.here hx rfl (hb hby d3_11) rfl ((if0 _ _).trans (feq (by decide : ¬ ((1 : Int32) = (0 : Int32)))).1) k) ?_
    show Gets p e below _ (T2.setTop (mkF m 14 #[.val (.ref ov9), .val (.ref ya1), .unset] []))
    refine Gets.of (fun t k => XS.aloadN X2.here hx rfl (hb hby d3_14) rfl rfl  k) ?_
    obtain ⟨T3, X3, e3, st3⟩ := castY X2 hx hZ hown (w28 hw) e2 (Ins.self F0) (g := (mkF m 15 #[.val (.ref ov9), .val (.ref ya1), .unset] [(.ref ya1)])) rfl rfl (hb hby d3_15)
    refine Gets.of st3 ?_
    show Gets p e below _ (T3.setTop (mkF m 18 #[.val (.ref ov9), .val (.ref ya1), .unset] [(.ref ya1)]))
    refine Gets.of (fun t k => XS.astoreN X3.here hx rfl (hb hby d3_18) rfl rfl (l' := #[.val (.ref ov9), .val (.ref ya1), .val (.ref ya1)]) rfl k) ?_
    show Gets p e below _ (T3.setTop (mkF m 19 #[.val (.ref ov9), .val (.ref ya1), .val (.ref ya1)] []))
    obtain ⟨T4, X4, e4, st4⟩ := getS2 X3 hx hZ hown (host := "") (Or.inl (w30 hw)) Via.refl e3 (oS3.ext O0.2) (g := (mkF m 19 #[.val (.ref ov9), .val (.ref ya1), .val (.ref ya1)] [])) rfl (hb hby d3_19)
    refine Gets.of st4 ?_
    show Gets p e below _ (T4.setTop (mkF m 22 #[.val (.ref ov9), .val (.ref ya1), .val (.ref ya1)] [(.int oi1)]))
    refine Gets.of (fun t k => XS.ifNo X4.here hx rfl (hb hby d3_22) rfl ((if0 _ _).trans (feq hy1).1) k) ?_
    show Gets p e below _ (T4.setTop (mkF m 25 #[.val (.ref ov9), .val (.ref ya1), .val (.ref ya1)] []))
    refine Gets.of (fun t k => XS.aloadN X4.here hx rfl (hb hby d3_25) rfl rfl  k) ?_
    obtain ⟨T5, X5, e5, st5⟩ := getF X4 hx hZ hown (host := "") (Or.inl (w31 hw)) Via.refl e4 (oF14.ext O0.2) (g := (mkF m 26 #[.val (.ref ov9), .val (.ref ya1), .val (.ref ya1)] [(.ref ov9)])) rfl rfl (hb hby d3_26)
    refine Gets.of st5 ?_
    show Gets p e below _ (T5.setTop (mkF m 29 #[.val (.ref ov9), .val (.ref ya1), .val (.ref ya1)] [(.int (0 : Int32))]))
    refine Gets.of (fun t k => XS.aloadN X5.here hx rfl (hb hby d3_29) rfl rfl  k) ?_
    obtain ⟨T6, X6, e6, st6⟩ := getF X5 hx hZ hown (host := "") (Or.inl (w31 hw)) Via.refl e5 F1 (g := (mkF m 30 #[.val (.ref ov9), .val (.ref ya1), .val (.ref ya1)] [(.ref ya1), (.int (0 : Int32))])) rfl rfl (hb hby d3_30)
    refine Gets.of st6 ?_
    show Gets p e below _ (T6.setTop (mkF m 33 #[.val (.ref ov9), .val (.ref ya1), .val (.ref ya1)] [(.int (0 : Int32)), (.int (0 : Int32))]))
    refine Gets.of (fun t k => XS.icmpNo X6.here hx rfl (hb hby d3_33) rfl (teq (by decide : (0 : Int32) = (0 : Int32))).2 k) ?_
    show Gets p e below _ (T6.setTop (mkF m 36 #[.val (.ref ov9), .val (.ref ya1), .val (.ref ya1)] []))
    refine Gets.of (fun t k => XS.aloadN X6.here hx rfl (hb hby d3_36) rfl rfl  k) ?_
    obtain ⟨T7, X7, e7, st7⟩ := getF X6 hx hZ hown (host := "") (Or.inl (w32 hw)) Via.refl e6 (oF17.ext O0.2) (g := (mkF m 37 #[.val (.ref ov9), .val (.ref ya1), .val (.ref ya1)] [(.ref ov9)])) rfl rfl (hb hby d3_37)
    refine Gets.of st7 ?_
    show Gets p e below _ (T7.setTop (mkF m 40 #[.val (.ref ov9), .val (.ref ya1), .val (.ref ya1)] [(.ref ov15)]))
    refine Gets.of (fun t k => XS.aloadN X7.here hx rfl (hb hby d3_40) rfl rfl  k) ?_
    obtain ⟨T8, X8, e8, st8⟩ := getF X7 hx hZ hown (host := "") (Or.inl (w32 hw)) Via.refl e7 F2 (g := (mkF m 41 #[.val (.ref ov9), .val (.ref ya1), .val (.ref ya1)] [(.ref ya1), (.ref ov15)])) rfl rfl (hb hby d3_41)
    refine Gets.of st8 ?_
    show Gets p e below _ (T8.setTop (mkF m 44 #[.val (.ref ov9), .val (.ref ya1), .val (.ref ya1)] [(.ref ya2), (.ref ov15)]))
    obtain ⟨_, _, ⟨T9, L9, k9, n9⟩, -, X9, ⟨Lc9, hQ9, l9, y9, z9⟩, st9⟩ := Jvm.LawKit.callS X8 hx (y := (⟨cn3, "equals", "([B[B)Z"⟩ : MethodName)) hown (mvT hZ (w33 hw)) (mvT hZ (w34 hw)) (mvT hZ (w35 hw)) (mvT hZ (w36 hw)) (by decide) (backOf (W := 0) (r4_equals l Z a0 hw [] ov15 ya2 ok148 yk3 h0 n0 O0 F3 oV147) hZ (w36 hw) (w35 hw) (by decide) (by decide)) (g := (mkF m 44 #[.val (.ref ov9), .val (.ref ya1), .val (.ref ya1)] [(.ref ya2), (.ref ov15)])) rfl (by rw [hml]; rfl) (argsL := [(.ref ov15), (.ref ya2)]) (rest := []) (lenOf pd__B_B_Z rfl) rfl (by show 2 * 0 + _ ≤ _; exact Nat.le_of_eq rfl) (hb hby d3_44) (fun _ _ => ⟨rfl, e8, (by decide : 0 + 0 ≤ _), (by decide : 0 + 0 ≤ _)⟩)
    dsimp only [Pt.U, Pt.locs, Pt.cells, Pt.slots] at X9 l9 y9 z9 st9 hQ9
    subst l9 y9 z9
    obtain ⟨Nq9, eq9, hR9⟩ := hQ9
    have N9 := Fr.app N0 Nq9
    obtain rfl := hR9
    refine Gets.of st9 ?_
    show Gets p e below _ (T9.setTop (mkF m 47 #[.val (.ref ov9), .val (.ref ya1), .val (.ref ya1)] [(.int (1 : Int32))]))
    refine Gets.of (fun t k => XS.ifNo X9.here hx rfl (hb hby d3_47) rfl ((if0 _ _).trans (feq (by decide : ¬ ((1 : Int32) = (0 : Int32)))).1) k) ?_
    show Gets p e below _ (T9.setTop (mkF m 50 #[.val (.ref ov9), .val (.ref ya1), .val (.ref ya1)] []))
    refine Gets.of (fun t k => XS.iconst X9.here hx rfl (hb hby d3_50) k) ?_
    refine Gets.of (fun t k => XS.goto X9.here hx rfl (pc0 := 51) (pc' := 55) rfl (hb hby d3_51) (by decide) (by decide) k) ?_
    show Gets p e below _ (T9.setTop (mkF m 55 #[.val (.ref ov9), .val (.ref ya1), .val (.ref ya1)] [(.int (1 : Int32))]))
    refine Gets.retN X9 hx (t := .boolean) Bd.returns (by simp) (hb hby d3_55) ?_ (by decide) (by decide)
    rw [eq9]
    exact ⟨N9, rfl, rfl⟩
theorem w27 {Z : State} {a0 : Array Value} (hw : ∀ d ∈ tables_1, d.before a0 Z = true) : (Jvm.Cond.code ({ cls := cn0, name := "equals", desc := cn2 } : Jvm.MethodName) jdk_42_method_66_code (3 : Nat) (Option.some Jvm.ClassFile.FieldType.boolean)).before a0 Z = true := hw _ (List.mem_of_getElem? (i := 27) rfl)
theorem pd__Ljava_lang_Object_Z : parseMethodDescriptor "(Ljava/lang/Object;)Z" = some ⟨[(.object "java/lang/Object")], some .boolean⟩ := by decide +kernel
theorem w26 {Z : State} {a0 : Array Value} (hw : ∀ d ∈ tables_1, d.before a0 Z = true) : (Jvm.Cond.selects cn0 ({ cls := cn0, name := "equals", desc := cn2 } : Jvm.MethodName) ({ cls := cn0, name := "equals", desc := cn2 } : Jvm.MethodName)).before a0 Z = true := hw _ (List.mem_of_getElem? (i := 26) rfl)
theorem w24 {Z : State} {a0 : Array Value} (hw : ∀ d ∈ tables_1, d.before a0 Z = true) : (Jvm.Cond.declares ({ cls := cn0, name := "equals", desc := cn2 } : Jvm.MethodName)).before a0 Z = true := hw _ (List.mem_of_getElem? (i := 24) rfl)
theorem w25 {Z : State} {a0 : Array Value} (hw : ∀ d ∈ tables_1, d.before a0 Z = true) : (Jvm.Cond.instanceMethod ({ cls := cn0, name := "equals", desc := cn2 } : Jvm.MethodName)).before a0 Z = true := hw _ (List.mem_of_getElem? (i := 25) rfl)
theorem w37 {Z : State} {a0 : Array Value} (hw : ∀ d ∈ tables_1, d.before a0 Z = true) : (Jvm.Cond.methodLink cn6 (51 : Nat) ({ cls := cn1, name := "fills", desc := "()Z" } : Jvm.MethodName)).before a0 Z = true := hw _ (List.mem_of_getElem? (i := 37) rfl)
theorem d5_0 : decode prog_67_method_12_code 0 = .ok (.aload_n 0, 1) := by decide +kernel
theorem d5_1 : decode prog_67_method_12_code 1 = .ok (.getstatic 3, 3) := by decide +kernel
theorem w42 {Z : State} {a0 : Array Value} (hw : ∀ d ∈ tables_1, d.before a0 Z = true) : (Jvm.Cond.fieldLink cn1 (3 : Nat) cn1 "N" cn4).before a0 Z = true := hw _ (List.mem_of_getElem? (i := 42) rfl)
theorem d5_4 : decode prog_67_method_12_code 4 = .ok (.if_acmp .eq 17, 3) := by decide +kernel
theorem d5_21 : decode prog_67_method_12_code 21 = .ok (.iconst 1, 1) := by decide +kernel
theorem d5_22 : decode prog_67_method_12_code 22 = .ok (.goto 4, 3) := by decide +kernel
theorem d5_26 : decode prog_67_method_12_code 26 = .ok (.ireturn, 1) := by decide +kernel
def Q_r5_fills (Z : State) (ov5 : Addr) (h0 : Heap) (n0 : Nat) (v : Option Value) (h : Heap) (L : List Loc) : Prop := Fr n0 L ∧ h = h0 ∧ ((v = some (.int (1 : Int32))))
set_option maxRecDepth 65536 in
set_option maxHeartbeats 40000000 in
theorem r5_fills (l : Launch) (Z : State) (a0 : Array Value) (hw : ∀ d ∈ tables_1, d.before a0 Z = true) (ws : List Jvm.Cond) (ov5 : Addr) (h0 : Heap) (n0 : Nat) (O0 : Old Z n0 h0) (oS7 : Sta Z Z.heap cn1 "N" cn4 (.ref ov5)) :
    MetFree l (⟨cn1, "fills", "()Z"⟩ : MethodName) (head1 (Jvm.Cond.code (⟨cn1, "fills", "()Z"⟩ : MethodName) prog_67_method_12_code 1 (some .boolean) :: ws) ({ frames := 0, cells := 0, slots := 0, locals := 0 } : Room)) (fun a U => a = #[(.ref ov5)] ∧ Z.Warmed39 U.vm ∧ U.heap = h0) (fun _ _ _ _ _ => True) (fun _ U o U' => ∃ v L, o = .returned v ∧ Q_r5_fills Z ov5 h0 n0 v U'.heap L ∧ FrameEnd U o U' L ({ frames := 0, cells := 0, slots := 0, locals := 0 } : Room).cells ({ frames := 0, cells := 0, slots := 0, locals := 0 } : Room).slots) := by
  refine MetFree.of_bodySF (plainFor_of_name pn_com_example_cardwire_cardwire_core_Attribute) hisR ?_
  intro p e s m args below meth c s₁ Bd hml0 hP hK
  obtain ⟨rfl, hZ, hh⟩ := hP
  have hx := Bd.exec
  have hby := Bd.bytes
  have hlk := Bd.notSynchronized
  have hml : c.maxLocals = 1 := hml0
  have hown : s.vm.findClass cn1 = some m.cls := findClass_of_methodNamed Bd.named
  have hnm := (name_of_methodNamed Bd.named Bd.method).1
  have X0 : Stand p l e ({ frames := 0, cells := 0, slots := 0, locals := 0 } : Room) s m #[(.ref ov5)] below meth c s₁ [] 0 0 := Stand.of_body Bd
  have e0 : s₁.heap = h0 := by rw [← hh, Bd.state]; rfl
  have N0 := Fr.nil n0
  have K0 := Keep.refl h0 []
  have Z0 : n0 ≤ h0.size := O0.1 ▸ O0.2.1
  have hef : entryFrame m #[(.ref ov5)] 1 = mkF m 0 #[.val (.ref ov5)] [] := by first | (simp [entryFrame, mkF, argsToLocals, Value.category]; done) | rfl
  rw [hef]
  refine Gets.out (Q := Q_r5_fills Z ov5 h0 n0) ?_
  show Gets p e below _ (s₁.setTop (mkF m 0 #[.val (.ref ov5)] []))
  refine Gets.of (fun t k => XS.aloadN X0.here hx rfl (hb hby d5_0) rfl rfl  k) ?_
  obtain ⟨T1, X1, e1, st1⟩ := getS2 X0 hx hZ hown (host := "") (Or.inl (w42 hw)) Via.refl e0 (oS7.ext O0.2) (g := (mkF m 1 #[.val (.ref ov5)] [(.ref ov5)])) rfl (hb hby d5_1)
  refine Gets.of st1 ?_
  show Gets p e below _ (T1.setTop (mkF m 4 #[.val (.ref ov5)] [(.ref ov5), (.ref ov5)]))
  refine Gets.of (fun t k => Jvm.RoadKit.acmp (g := (mkF m 4 #[.val (.ref ov5)] [(.ref ov5), (.ref ov5)])) X1 hx rfl rfl rfl (pc0 := 4) (pc' := 21) (same := true) rfl (hb hby d5_4) rfl (decide_eq_true rfl) (by decide) (by decide) k) ?_
  show Gets p e below _ (T1.setTop (mkF m 21 #[.val (.ref ov5)] []))
  refine Gets.of (fun t k => XS.iconst X1.here hx rfl (hb hby d5_21) k) ?_
  refine Gets.of (fun t k => XS.goto X1.here hx rfl (pc0 := 22) (pc' := 26) rfl (hb hby d5_22) (by decide) (by decide) k) ?_
  show Gets p e below _ (T1.setTop (mkF m 26 #[.val (.ref ov5)] [(.int (1 : Int32))]))
  refine Gets.retN X1 hx (t := .boolean) Bd.returns (by simp) (hb hby d5_26) ?_ (by decide) (by decide)
  rw [e1]
  exact ⟨N0, rfl, rfl⟩
theorem w41 {Z : State} {a0 : Array Value} (hw : ∀ d ∈ tables_1, d.before a0 Z = true) : (Jvm.Cond.code ({ cls := cn1, name := "fills", desc := "()Z" } : Jvm.MethodName) prog_67_method_12_code (1 : Nat) (Option.some Jvm.ClassFile.FieldType.boolean)).before a0 Z = true := hw _ (List.mem_of_getElem? (i := 41) rfl)
theorem pd__Z : parseMethodDescriptor "()Z" = some ⟨[], some .boolean⟩ := by decide +kernel
theorem w40 {Z : State} {a0 : Array Value} (hw : ∀ d ∈ tables_1, d.before a0 Z = true) : (Jvm.Cond.selects cn1 ({ cls := cn1, name := "fills", desc := "()Z" } : Jvm.MethodName) ({ cls := cn1, name := "fills", desc := "()Z" } : Jvm.MethodName)).before a0 Z = true := hw _ (List.mem_of_getElem? (i := 40) rfl)
theorem w38 {Z : State} {a0 : Array Value} (hw : ∀ d ∈ tables_1, d.before a0 Z = true) : (Jvm.Cond.declares ({ cls := cn1, name := "fills", desc := "()Z" } : Jvm.MethodName)).before a0 Z = true := hw _ (List.mem_of_getElem? (i := 38) rfl)
theorem w39 {Z : State} {a0 : Array Value} (hw : ∀ d ∈ tables_1, d.before a0 Z = true) : (Jvm.Cond.instanceMethod ({ cls := cn1, name := "fills", desc := "()Z" } : Jvm.MethodName)).before a0 Z = true := hw _ (List.mem_of_getElem? (i := 39) rfl)
def Q_r6_code (Z : State) (ov49 : Addr) (ov81 : Addr) (h0 : Heap) (n0 : Nat) (v : Option Value) (h : Heap) (L : List Loc) : Prop := Fr n0 L ∧ h = h0 ∧ ((v = some (.ref ov81)))
set_option maxRecDepth 65536 in
set_option maxHeartbeats 40000000 in
theorem r6_code (l : Launch) (Z : State) (a0 : Array Value) (hw : ∀ d ∈ tables_1, d.before a0 Z = true) (ws : List Jvm.Cond) (ov49 : Addr) (ov81 : Addr) (h0 : Heap) (n0 : Nat) (O0 : Old Z n0 h0) (oF83 : Fld Z Z.heap ov49 cn1 "code" "Ljava/lang/String;" (.ref ov81)) :
    MetFree l (⟨cn1, "code", cn5⟩ : MethodName) (head1 (Jvm.Cond.code (⟨cn1, "code", cn5⟩ : MethodName) prog_67_method_8_code 1 (some (.object cn0)) :: ws) ({ frames := 0, cells := 0, slots := 0, locals := 0 } : Room)) (fun a U => a = #[(.ref ov49)] ∧ Z.Warmed39 U.vm ∧ U.heap = h0) (fun _ _ _ _ _ => True) (fun _ U o U' => ∃ v L, o = .returned v ∧ Q_r6_code Z ov49 ov81 h0 n0 v U'.heap L ∧ FrameEnd U o U' L ({ frames := 0, cells := 0, slots := 0, locals := 0 } : Room).cells ({ frames := 0, cells := 0, slots := 0, locals := 0 } : Room).slots) := by
  refine MetFree.of_bodySF (plainFor_of_name pn_com_example_cardwire_cardwire_core_Attribute) hisR ?_
  intro p e s m args below meth c s₁ Bd hml0 hP hK
  obtain ⟨rfl, hZ, hh⟩ := hP
  have hx := Bd.exec
  have hby := Bd.bytes
  have hlk := Bd.notSynchronized
  have hml : c.maxLocals = 1 := hml0
  have hown : s.vm.findClass cn1 = some m.cls := findClass_of_methodNamed Bd.named
  have hnm := (name_of_methodNamed Bd.named Bd.method).1
  have X0 : Stand p l e ({ frames := 0, cells := 0, slots := 0, locals := 0 } : Room) s m #[(.ref ov49)] below meth c s₁ [] 0 0 := Stand.of_body Bd
  have e0 : s₁.heap = h0 := by rw [← hh, Bd.state]; rfl
  have N0 := Fr.nil n0
  have K0 := Keep.refl h0 []
  have Z0 : n0 ≤ h0.size := O0.1 ▸ O0.2.1
  have hef : entryFrame m #[(.ref ov49)] 1 = mkF m 0 #[.val (.ref ov49)] [] := by first | (simp [entryFrame, mkF, argsToLocals, Value.category]; done) | rfl
  rw [hef]
  refine Gets.out (Q := Q_r6_code Z ov49 ov81 h0 n0) ?_
  show Gets p e below _ (s₁.setTop (mkF m 0 #[.val (.ref ov49)] []))
  refine Gets.of (fun t k => XS.aloadN X0.here hx rfl (hb hby d2_0) rfl rfl  k) ?_
  obtain ⟨T1, X1, e1, st1⟩ := getF X0 hx hZ hown (host := "") (Or.inl (w13 hw)) Via.refl e0 (oF83.ext O0.2) (g := (mkF m 1 #[.val (.ref ov49)] [(.ref ov49)])) rfl rfl (hb hby d2_1)
  refine Gets.of st1 ?_
  show Gets p e below _ (T1.setTop (mkF m 4 #[.val (.ref ov49)] [(.ref ov81)]))
  refine Gets.retA X1 hx Bd.returns rfl rfl (hb hby d2_4) ?_ (by decide) (by decide)
  rw [e1]
  exact ⟨N0, rfl, rfl⟩
theorem d4_34 : decode jdk_43_method_13_code 34 = .ok (.iconst 0, 1) := by decide +kernel
theorem d4_35 : decode jdk_43_method_13_code 35 = .ok (.ireturn, 1) := by decide +kernel
def Q_r8_equals (Z : State) (ov87 : Addr) (ya1 : Addr) (ok154 : ClassId) (yk2 : ClassId) (h0 : Heap) (n0 : Nat) (v : Option Value) (h : Heap) (L : List Loc) : Prop := Fr n0 L ∧ h = h0 ∧ ((v = some (.int (0 : Int32))))
set_option maxRecDepth 65536 in
set_option maxHeartbeats 40000000 in
theorem r8_equals (l : Launch) (Z : State) (a0 : Array Value) (hw : ∀ d ∈ tables_1, d.before a0 Z = true) (ws : List Jvm.Cond) (ov87 : Addr) (ya1 : Addr) (ok154 : ClassId) (yk2 : ClassId) (h0 : Heap) (n0 : Nat) (O0 : Old Z n0 h0) (F0 : Arv Z h0 ya1 yk2 .byte (1 : Int32) [(.int (110 : Int32))] (.int (0 : Int32))) (oV153 : Arv Z Z.heap ov87 ok154 .byte (2 : Int32) [(.int (97 : Int32)), (.int (110 : Int32))] (.int (0 : Int32))) :
    MetFree l (⟨cn3, "equals", "([B[B)Z"⟩ : MethodName) (head1 (Jvm.Cond.code (⟨cn3, "equals", "([B[B)Z"⟩ : MethodName) jdk_43_method_13_code 3 (some .boolean) :: ws) ({ frames := 0, cells := 0, slots := 0, locals := 0 } : Room)) (fun a U => a = #[(.ref ov87), (.ref ya1)] ∧ Z.Warmed39 U.vm ∧ U.heap = h0) (fun _ _ _ _ _ => True) (fun _ U o U' => ∃ v L, o = .returned v ∧ Q_r8_equals Z ov87 ya1 ok154 yk2 h0 n0 v U'.heap L ∧ FrameEnd U o U' L ({ frames := 0, cells := 0, slots := 0, locals := 0 } : Room).cells ({ frames := 0, cells := 0, slots := 0, locals := 0 } : Room).slots) := by
  refine MetFree.of_bodySF (plainFor_of_name pn_java_lang_StringLatin1) hisR ?_
  intro p e s m args below meth c s₁ Bd hml0 hP hK
  obtain ⟨rfl, hZ, hh⟩ := hP
  have hx := Bd.exec
  have hby := Bd.bytes
  have hlk := Bd.notSynchronized
  have hml : c.maxLocals = 3 := hml0
  have hown : s.vm.findClass cn3 = some m.cls := findClass_of_methodNamed Bd.named
  have hnm := (name_of_methodNamed Bd.named Bd.method).1
  have X0 : Stand p l e ({ frames := 0, cells := 0, slots := 0, locals := 0 } : Room) s m #[(.ref ov87), (.ref ya1)] below meth c s₁ [] 0 0 := Stand.of_body Bd
  have e0 : s₁.heap = h0 := by rw [← hh, Bd.state]; rfl
  have N0 := Fr.nil n0
  have K0 := Keep.refl h0 []
  have Z0 : n0 ≤ h0.size := O0.1 ▸ O0.2.1
  have hef : entryFrame m #[(.ref ov87), (.ref ya1)] 3 = mkF m 0 #[.val (.ref ov87), .val (.ref ya1), .unset] [] := by first | (simp [entryFrame, mkF, argsToLocals, Value.category]; done) | rfl
  rw [hef]
  refine Gets.out (Q := Q_r8_equals Z ov87 ya1 ok154 yk2 h0 n0) ?_
  show Gets p e below _ (s₁.setTop (mkF m 0 #[.val (.ref ov87), .val (.ref ya1), .unset] []))
  refine Gets.of (fun t k => XS.aloadN X0.here hx rfl (hb hby d4_0) rfl rfl  k) ?_
  obtain ⟨cl1, Ar1, -, S1, N_1, -, -⟩ := id ((oV153.ext O0.2))
  refine Gets.of (X0.arraylength hx (by rw [e0]; exact Ar1.1) (State.isArrayOf_alike hZ.alike Ar1.2.1) (g := (mkF m 1 #[.val (.ref ov87), .val (.ref ya1), .unset] [(.ref ov87)])) rfl rfl (hb hby d4_1)) ?_
  rw [len_of S1 N_1]
  show Gets p e below _ (s₁.setTop (mkF m 2 #[.val (.ref ov87), .val (.ref ya1), .unset] [(.int (2 : Int32))]))
  refine Gets.of (fun t k => XS.aloadN X0.here hx rfl (hb hby d4_2) rfl rfl  k) ?_
  obtain ⟨cl2, Ar2, -, S2, N_2, -, -⟩ := id (F0)
  refine Gets.of (X0.arraylength hx (by rw [e0]; exact Ar2.1) (State.isArrayOf_alike hZ.alike Ar2.2.1) (g := (mkF m 3 #[.val (.ref ov87), .val (.ref ya1), .unset] [(.ref ya1), (.int (2 : Int32))])) rfl rfl (hb hby d4_3)) ?_
  rw [len_of S2 N_2]
  show Gets p e below _ (s₁.setTop (mkF m 4 #[.val (.ref ov87), .val (.ref ya1), .unset] [(.int (1 : Int32)), (.int (2 : Int32))]))
  refine Gets.of (fun t k => XS.icmpYes X0.here hx rfl (pc0 := 4) (pc' := 34) rfl (hb hby d4_4) rfl (feq (by decide : ¬ ((2 : Int32) = (1 : Int32)))).2 (by decide) (by decide) k) ?_
  show Gets p e below _ (s₁.setTop (mkF m 34 #[.val (.ref ov87), .val (.ref ya1), .unset] []))
  refine Gets.of (fun t k => XS.iconst X0.here hx rfl (hb hby d4_34) k) ?_
  refine Gets.retN X0 hx (t := .boolean) Bd.returns (by simp) (hb hby d4_35) ?_ (by decide) (by decide)
  rw [e0]
  exact ⟨N0, rfl, rfl⟩
theorem d3_54 : decode jdk_42_method_66_code 54 = .ok (.iconst 0, 1) := by decide +kernel
def Q_r7_equals (Z : State) (ov81 : Addr) (ya1 : Addr) (ov87 : Addr) (ok154 : ClassId) (ya2 : Addr) (yk3 : ClassId) (oi1 : Int32) (ok148 : ClassId) (h0 : Heap) (n0 : Nat) (v : Option Value) (h : Heap) (L : List Loc) : Prop := Fr n0 L ∧ h = h0 ∧ ((v = some (.int (0 : Int32))))
set_option maxRecDepth 65536 in
set_option maxHeartbeats 40000000 in
theorem r7_equals (l : Launch) (Z : State) (a0 : Array Value) (hw : ∀ d ∈ tables_1, d.before a0 Z = true) (ws : List Jvm.Cond) (ov81 : Addr) (ya1 : Addr) (ov87 : Addr) (ok154 : ClassId) (ya2 : Addr) (yk3 : ClassId) (oi1 : Int32) (ok148 : ClassId) (h0 : Heap) (n0 : Nat) (O0 : Old Z n0 h0) (F0 : Arv Z h0 ya2 yk3 .byte (1 : Int32) [(.int (110 : Int32))] (.int (0 : Int32))) (F1 : Fld Z h0 ya1 cn0 "value" "[B" (.ref ya2)) (F2 : Exa Z h0 ya1 cn0) (F3 : Fld Z h0 ya1 cn0 "coder" "B" (.int (0 : Int32))) (oV153 : Arv Z Z.heap ov87 ok154 .byte (2 : Int32) [(.int (97 : Int32)), (.int (110 : Int32))] (.int (0 : Int32))) (oF89 : Fld Z Z.heap ov81 cn0 "value" "[B" (.ref ov87)) (oS3 : Sta Z Z.heap cn0 "COMPACT_STRINGS" "Z" (.int oi1)) (oF86 : Fld Z Z.heap ov81 cn0 "coder" "B" (.int (0 : Int32))) (hy1 : ¬ (oi1 = (0 : Int32))) :
    MetFree l (⟨cn0, "equals", cn2⟩ : MethodName) (head1 (Jvm.Cond.code (⟨cn0, "equals", cn2⟩ : MethodName) jdk_42_method_66_code 3 (some .boolean) :: ws) ({ frames := 1, cells := 0, slots := 0, locals := 14 } : Room)) (fun a U => a = #[(.ref ov81), (.ref ya1)] ∧ Z.Warmed39 U.vm ∧ U.heap = h0) (fun _ _ _ _ _ => True) (fun _ U o U' => ∃ v L, o = .returned v ∧ Q_r7_equals Z ov81 ya1 ov87 ok154 ya2 yk3 oi1 ok148 h0 n0 v U'.heap L ∧ FrameEnd U o U' L ({ frames := 1, cells := 0, slots := 0, locals := 14 } : Room).cells ({ frames := 1, cells := 0, slots := 0, locals := 14 } : Room).slots) := by
  refine MetFree.of_bodySF (plainFor_of_name pn_java_lang_String) hisR ?_
  intro p e s m args below meth c s₁ Bd hml0 hP hK
  obtain ⟨rfl, hZ, hh⟩ := hP
  have hx := Bd.exec
  have hby := Bd.bytes
  have hlk := Bd.notSynchronized
  have hml : c.maxLocals = 3 := hml0
  have hown : s.vm.findClass cn0 = some m.cls := findClass_of_methodNamed Bd.named
  have hnm := (name_of_methodNamed Bd.named Bd.method).1
  have X0 : Stand p l e ({ frames := 1, cells := 0, slots := 0, locals := 14 } : Room) s m #[(.ref ov81), (.ref ya1)] below meth c s₁ [] 0 0 := Stand.of_body Bd
  have e0 : s₁.heap = h0 := by rw [← hh, Bd.state]; rfl
  have N0 := Fr.nil n0
  have K0 := Keep.refl h0 []
  have Z0 : n0 ≤ h0.size := O0.1 ▸ O0.2.1
  have hef : entryFrame m #[(.ref ov81), (.ref ya1)] 3 = mkF m 0 #[.val (.ref ov81), .val (.ref ya1), .unset] [] := by first | (simp [entryFrame, mkF, argsToLocals, Value.category]; done) | rfl
  rw [hef]
  refine Gets.out (Q := Q_r7_equals Z ov81 ya1 ov87 ok154 ya2 yk3 oi1 ok148 h0 n0) ?_
  show Gets p e below _ (s₁.setTop (mkF m 0 #[.val (.ref ov81), .val (.ref ya1), .unset] []))
  refine Gets.of (fun t k => XS.aloadN X0.here hx rfl (hb hby d3_0) rfl rfl  k) ?_
  refine Gets.of (fun t k => XS.aloadN X0.here hx rfl (hb hby d3_1) rfl rfl  k) ?_
  refine Gets.of (fun t k => Jvm.RoadKit.acmp (g := (mkF m 2 #[.val (.ref ov81), .val (.ref ya1), .unset] [(.ref ya1), (.ref ov81)])) X0 hx rfl rfl rfl (pc0 := 2) (pc' := 7) (same := false) rfl (hb hby d3_2) rfl (decide_eq_false fun q => (Fld.ne (oF89.ext O0.2) F1 (fun q => (arv_ne (oV153.ext O0.2) F0 (Or.inl (by decide))) (Value.ref.inj q))) (Value.ref.inj q)) (by decide) (by decide) k) ?_
  show Gets p e below _ (s₁.setTop (mkF m 7 #[.val (.ref ov81), .val (.ref ya1), .unset] []))
  refine Gets.of (fun t k => XS.aloadN X0.here hx rfl (hb hby d3_7) rfl rfl  k) ?_
  obtain ⟨T1, X1, e1, st1⟩ := instY X0 hx hZ hown (w28 hw) e0 (Ins.self F2) (g := (mkF m 8 #[.val (.ref ov81), .val (.ref ya1), .unset] [(.ref ya1)])) rfl rfl (hb hby d3_8)
  refine Gets.of st1 ?_
  show Gets p e below _ (T1.setTop (mkF m 11 #[.val (.ref ov81), .val (.ref ya1), .unset] [(.int (1 : Int32))]))
  refine Gets.of (fun t k => XS.ifNo X1.here hx rfl (hb hby d3_11) rfl ((if0 _ _).trans (feq (by decide : ¬ ((1 : Int32) = (0 : Int32)))).1) k) ?_
  show Gets p e below _ (T1.setTop (mkF m 14 #[.val (.ref ov81), .val (.ref ya1), .unset] []))
  refine Gets.of (fun t k => XS.aloadN X1.here hx rfl (hb hby d3_14) rfl rfl  k) ?_
  obtain ⟨T2, X2, e2, st2⟩ := castY X1 hx hZ hown (w28 hw) e1 (Ins.self F2) (g := (mkF m 15 #[.val (.ref ov81), .val (.ref ya1), .unset] [(.ref ya1)])) rfl rfl (hb hby d3_15)
  refine Gets.of st2 ?_
  show Gets p e below _ (T2.setTop (mkF m 18 #[.val (.ref ov81), .val (.ref ya1), .unset] [(.ref ya1)]))
  refine Gets.of (fun t k => XS.astoreN X2.here hx rfl (hb hby d3_18) rfl rfl (l' := #[.val (.ref ov81), .val (.ref ya1), .val (.ref ya1)]) rfl k) ?_
  show Gets p e below _ (T2.setTop (mkF m 19 #[.val (.ref ov81), .val (.ref ya1), .val (.ref ya1)] []))
  obtain ⟨T3, X3, e3, st3⟩ := getS2 X2 hx hZ hown (host := "") (Or.inl (w30 hw)) Via.refl e2 (oS3.ext O0.2) (g := (mkF m 19 #[.val (.ref ov81), .val (.ref ya1), .val (.ref ya1)] [])) rfl (hb hby d3_19)
  refine Gets.of st3 ?_
  show Gets p e below _ (T3.setTop (mkF m 22 #[.val (.ref ov81), .val (.ref ya1), .val (.ref ya1)] [(.int oi1)]))
  refine Gets.of (fun t k => XS.ifNo X3.here hx rfl (hb hby d3_22) rfl ((if0 _ _).trans (feq hy1).1) k) ?_
  show Gets p e below _ (T3.setTop (mkF m 25 #[.val (.ref ov81), .val (.ref ya1), .val (.ref ya1)] []))
  refine Gets.of (fun t k => XS.aloadN X3.here hx rfl (hb hby d3_25) rfl rfl  k) ?_
  obtain ⟨T4, X4, e4, st4⟩ := getF X3 hx hZ hown (host := "") (Or.inl (w31 hw)) Via.refl e3 (oF86.ext O0.2) (g := (mkF m 26 #[.val (.ref ov81), .val (.ref ya1), .val (.ref ya1)] [(.ref ov81)])) rfl rfl (hb hby d3_26)
  refine Gets.of st4 ?_
  show Gets p e below _ (T4.setTop (mkF m 29 #[.val (.ref ov81), .val (.ref ya1), .val (.ref ya1)] [(.int (0 : Int32))]))
  refine Gets.of (fun t k => XS.aloadN X4.here hx rfl (hb hby d3_29) rfl rfl  k) ?_
  obtain ⟨T5, X5, e5, st5⟩ := getF X4 hx hZ hown (host := "") (Or.inl (w31 hw)) Via.refl e4 F3 (g := (mkF m 30 #[.val (.ref ov81), .val (.ref ya1), .val (.ref ya1)] [(.ref ya1), (.int (0 : Int32))])) rfl rfl (hb hby d3_30)
  refine Gets.of st5 ?_
  show Gets p e below _ (T5.setTop (mkF m 33 #[.val (.ref ov81), .val (.ref ya1), .val (.ref ya1)] [(.int (0 : Int32)), (.int (0 : Int32))]))
  refine Gets.of (fun t k => XS.icmpNo X5.here hx rfl (hb hby d3_33) rfl (teq (by decide : (0 : Int32) = (0 : Int32))).2 k) ?_
  show Gets p e below _ (T5.setTop (mkF m 36 #[.val (.ref ov81), .val (.ref ya1), .val (.ref ya1)] []))
  refine Gets.of (fun t k => XS.aloadN X5.here hx rfl (hb hby d3_36) rfl rfl  k) ?_
  obtain ⟨T6, X6, e6, st6⟩ := getF X5 hx hZ hown (host := "") (Or.inl (w32 hw)) Via.refl e5 (oF89.ext O0.2) (g := (mkF m 37 #[.val (.ref ov81), .val (.ref ya1), .val (.ref ya1)] [(.ref ov81)])) rfl rfl (hb hby d3_37)
  refine Gets.of st6 ?_
  show Gets p e below _ (T6.setTop (mkF m 40 #[.val (.ref ov81), .val (.ref ya1), .val (.ref ya1)] [(.ref ov87)]))
  refine Gets.of (fun t k => XS.aloadN X6.here hx rfl (hb hby d3_40) rfl rfl  k) ?_
  obtain ⟨T7, X7, e7, st7⟩ := getF X6 hx hZ hown (host := "") (Or.inl (w32 hw)) Via.refl e6 F1 (g := (mkF m 41 #[.val (.ref ov81), .val (.ref ya1), .val (.ref ya1)] [(.ref ya1), (.ref ov87)])) rfl rfl (hb hby d3_41)
  refine Gets.of st7 ?_
  show Gets p e below _ (T7.setTop (mkF m 44 #[.val (.ref ov81), .val (.ref ya1), .val (.ref ya1)] [(.ref ya2), (.ref ov87)]))
  obtain ⟨_, _, ⟨T8, L8, k8, n8⟩, -, X8, ⟨Lc8, hQ8, l8, y8, z8⟩, st8⟩ := Jvm.LawKit.callS X7 hx (y := (⟨cn3, "equals", "([B[B)Z"⟩ : MethodName)) hown (mvT hZ (w33 hw)) (mvT hZ (w34 hw)) (mvT hZ (w35 hw)) (mvT hZ (w36 hw)) (by decide) (backOf (W := 0) (r8_equals l Z a0 hw [] ov87 ya2 ok154 yk3 h0 n0 O0 F0 oV153) hZ (w36 hw) (w35 hw) (by decide) (by decide)) (g := (mkF m 44 #[.val (.ref ov81), .val (.ref ya1), .val (.ref ya1)] [(.ref ya2), (.ref ov87)])) rfl (by rw [hml]; rfl) (argsL := [(.ref ov87), (.ref ya2)]) (rest := []) (lenOf pd__B_B_Z rfl) rfl (by show 2 * 0 + _ ≤ _; exact Nat.le_of_eq rfl) (hb hby d3_44) (fun _ _ => ⟨rfl, e7, (by decide : 0 + 0 ≤ _), (by decide : 0 + 0 ≤ _)⟩)
  dsimp only [Pt.U, Pt.locs, Pt.cells, Pt.slots] at X8 l8 y8 z8 st8 hQ8
  subst l8 y8 z8
  obtain ⟨Nq8, eq8, hR8⟩ := hQ8
  have N8 := Fr.app N0 Nq8
  obtain rfl := hR8
  refine Gets.of st8 ?_
  show Gets p e below _ (T8.setTop (mkF m 47 #[.val (.ref ov81), .val (.ref ya1), .val (.ref ya1)] [(.int (0 : Int32))]))
  refine Gets.of (fun t k => XS.ifYes X8.here hx rfl (pc0 := 47) (pc' := 54) rfl (hb hby d3_47) rfl ((if0 _ _).trans (teq (by decide : (0 : Int32) = (0 : Int32))).1) (by decide) (by decide) k) ?_
  show Gets p e below _ (T8.setTop (mkF m 54 #[.val (.ref ov81), .val (.ref ya1), .val (.ref ya1)] []))
  refine Gets.of (fun t k => XS.iconst X8.here hx rfl (hb hby d3_54) k) ?_
  refine Gets.retN X8 hx (t := .boolean) Bd.returns (by simp) (hb hby d3_55) ?_ (by decide) (by decide)
  rw [eq8]
  exact ⟨N8, rfl, rfl⟩
def Q_r10_equals (Z : State) (ov87 : Addr) (ya1 : Addr) (ok154 : ClassId) (yk2 : ClassId) (h0 : Heap) (n0 : Nat) (v : Option Value) (h : Heap) (L : List Loc) : Prop := Fr n0 L ∧ h = h0 ∧ ((v = some (.int (1 : Int32))))
set_option maxRecDepth 65536 in
set_option maxHeartbeats 40000000 in
theorem r10_equals (l : Launch) (Z : State) (a0 : Array Value) (hw : ∀ d ∈ tables_1, d.before a0 Z = true) (ws : List Jvm.Cond) (ov87 : Addr) (ya1 : Addr) (ok154 : ClassId) (yk2 : ClassId) (h0 : Heap) (n0 : Nat) (O0 : Old Z n0 h0) (F0 : Arv Z h0 ya1 yk2 .byte (2 : Int32) [(.int (97 : Int32)), (.int (110 : Int32))] (.int (0 : Int32))) (oV153 : Arv Z Z.heap ov87 ok154 .byte (2 : Int32) [(.int (97 : Int32)), (.int (110 : Int32))] (.int (0 : Int32))) :
    MetFree l (⟨cn3, "equals", "([B[B)Z"⟩ : MethodName) (head1 (Jvm.Cond.code (⟨cn3, "equals", "([B[B)Z"⟩ : MethodName) jdk_43_method_13_code 3 (some .boolean) :: ws) ({ frames := 0, cells := 0, slots := 0, locals := 0 } : Room)) (fun a U => a = #[(.ref ov87), (.ref ya1)] ∧ Z.Warmed39 U.vm ∧ U.heap = h0) (fun _ _ _ _ _ => True) (fun _ U o U' => ∃ v L, o = .returned v ∧ Q_r10_equals Z ov87 ya1 ok154 yk2 h0 n0 v U'.heap L ∧ FrameEnd U o U' L ({ frames := 0, cells := 0, slots := 0, locals := 0 } : Room).cells ({ frames := 0, cells := 0, slots := 0, locals := 0 } : Room).slots) := by
  refine MetFree.of_bodySF (plainFor_of_name pn_java_lang_StringLatin1) hisR ?_
  intro p e s m args below meth c s₁ Bd hml0 hP hK
  obtain ⟨rfl, hZ, hh⟩ := hP
  have hx := Bd.exec
  have hby := Bd.bytes
  have hlk := Bd.notSynchronized
  have hml : c.maxLocals = 3 := hml0
  have hown : s.vm.findClass cn3 = some m.cls := findClass_of_methodNamed Bd.named
  have hnm := (name_of_methodNamed Bd.named Bd.method).1
  have X0 : Stand p l e ({ frames := 0, cells := 0, slots := 0, locals := 0 } : Room) s m #[(.ref ov87), (.ref ya1)] below meth c s₁ [] 0 0 := Stand.of_body Bd
  have e0 : s₁.heap = h0 := by rw [← hh, Bd.state]; rfl
  have N0 := Fr.nil n0
  have K0 := Keep.refl h0 []
  have Z0 : n0 ≤ h0.size := O0.1 ▸ O0.2.1
  have hef : entryFrame m #[(.ref ov87), (.ref ya1)] 3 = mkF m 0 #[.val (.ref ov87), .val (.ref ya1), .unset] [] := by first | (simp [entryFrame, mkF, argsToLocals, Value.category]; done) | rfl
  rw [hef]
  refine Gets.out (Q := Q_r10_equals Z ov87 ya1 ok154 yk2 h0 n0) ?_
  show Gets p e below _ (s₁.setTop (mkF m 0 #[.val (.ref ov87), .val (.ref ya1), .unset] []))
  refine Gets.of (fun t k => XS.aloadN X0.here hx rfl (hb hby d4_0) rfl rfl  k) ?_
  obtain ⟨cl1, Ar1, -, S1, N_1, -, -⟩ := id ((oV153.ext O0.2))
  refine Gets.of (X0.arraylength hx (by rw [e0]; exact Ar1.1) (State.isArrayOf_alike hZ.alike Ar1.2.1) (g := (mkF m 1 #[.val (.ref ov87), .val (.ref ya1), .unset] [(.ref ov87)])) rfl rfl (hb hby d4_1)) ?_
  rw [len_of S1 N_1]
  show Gets p e below _ (s₁.setTop (mkF m 2 #[.val (.ref ov87), .val (.ref ya1), .unset] [(.int (2 : Int32))]))
  refine Gets.of (fun t k => XS.aloadN X0.here hx rfl (hb hby d4_2) rfl rfl  k) ?_
  obtain ⟨cl2, Ar2, -, S2, N_2, -, -⟩ := id (F0)
  refine Gets.of (X0.arraylength hx (by rw [e0]; exact Ar2.1) (State.isArrayOf_alike hZ.alike Ar2.2.1) (g := (mkF m 3 #[.val (.ref ov87), .val (.ref ya1), .unset] [(.ref ya1), (.int (2 : Int32))])) rfl rfl (hb hby d4_3)) ?_
  rw [len_of S2 N_2]
  show Gets p e below _ (s₁.setTop (mkF m 4 #[.val (.ref ov87), .val (.ref ya1), .unset] [(.int (2 : Int32)), (.int (2 : Int32))]))
  refine Gets.of (fun t k => XS.icmpNo X0.here hx rfl (hb hby d4_4) rfl (teq (by decide : (2 : Int32) = (2 : Int32))).2 k) ?_
  show Gets p e below _ (s₁.setTop (mkF m 7 #[.val (.ref ov87), .val (.ref ya1), .unset] []))
  refine Gets.of (fun t k => XS.iconst X0.here hx rfl (hb hby d4_7) k) ?_
  refine Gets.of (fun t k => XS.istoreN X0.here hx rfl (hb hby d4_8) rfl (l' := #[.val (.ref ov87), .val (.ref ya1), .val (.int (0 : Int32))]) rfl k) ?_
  show Gets p e below _ (s₁.setTop (mkF m 9 #[.val (.ref ov87), .val (.ref ya1), .val (.int (0 : Int32))] []))
  refine Gets.of (fun t k => XS.iloadN X0.here hx rfl (hb hby d4_9) rfl  k) ?_
  refine Gets.of (fun t k => XS.aloadN X0.here hx rfl (hb hby d4_10) rfl rfl  k) ?_
  obtain ⟨cl3, Ar3, -, S3, N_3, -, -⟩ := id ((oV153.ext O0.2))
  refine Gets.of (X0.arraylength hx (by rw [e0]; exact Ar3.1) (State.isArrayOf_alike hZ.alike Ar3.2.1) (g := (mkF m 11 #[.val (.ref ov87), .val (.ref ya1), .val (.int (0 : Int32))] [(.ref ov87), (.int (0 : Int32))])) rfl rfl (hb hby d4_11)) ?_
  rw [len_of S3 N_3]
  show Gets p e below _ (s₁.setTop (mkF m 12 #[.val (.ref ov87), .val (.ref ya1), .val (.int (0 : Int32))] [(.int (2 : Int32)), (.int (0 : Int32))]))
  refine Gets.of (fun t k => XS.icmpNo X0.here hx rfl (hb hby d4_12) rfl (tlt (by decide : (0 : Int32) < (2 : Int32))).2.1 k) ?_
  show Gets p e below _ (s₁.setTop (mkF m 15 #[.val (.ref ov87), .val (.ref ya1), .val (.int (0 : Int32))] []))
  refine Gets.of (fun t k => XS.aloadN X0.here hx rfl (hb hby d4_15) rfl rfl  k) ?_
  refine Gets.of (fun t k => XS.iloadN X0.here hx rfl (hb hby d4_16) rfl  k) ?_
  obtain ⟨cl4, Ar4, q4, S4, N_4, H4, G4⟩ := id ((oV153.ext O0.2))
  have hin4 : ¬ ((0 : Int32) < 0 ∨ cl4.slots.size ≤ ((0 : Int32)).toNatClampNeg) := inb_of S4 ⟨by decide, by decide⟩
  refine Gets.of (fun t k => X0.baloadBytes hx (j := (0 : Int32)) (v := (.int (97 : Int32))) (by rw [e0]; exact Ar4.1) (State.isArrayOf_alike hZ.alike Ar4.2.1) Ar4.2.2 hin4 (Has.at H4 hin4 rfl) (g := (mkF m 17 #[.val (.ref ov87), .val (.ref ya1), .val (.int (0 : Int32))] [(.int (0 : Int32)), (.ref ov87)])) rfl rfl (hb hby d4_17) t k) ?_
  show Gets p e below _ (s₁.setTop (mkF m 18 #[.val (.ref ov87), .val (.ref ya1), .val (.int (0 : Int32))] [(.int (97 : Int32))]))
  refine Gets.of (fun t k => XS.aloadN X0.here hx rfl (hb hby d4_18) rfl rfl  k) ?_
  refine Gets.of (fun t k => XS.iloadN X0.here hx rfl (hb hby d4_19) rfl  k) ?_
  obtain ⟨cl5, Ar5, q5, S5, N_5, H5, G5⟩ := id (F0)
  have hin5 : ¬ ((0 : Int32) < 0 ∨ cl5.slots.size ≤ ((0 : Int32)).toNatClampNeg) := inb_of S5 ⟨by decide, by decide⟩
  refine Gets.of (fun t k => X0.baloadBytes hx (j := (0 : Int32)) (v := (.int (97 : Int32))) (by rw [e0]; exact Ar5.1) (State.isArrayOf_alike hZ.alike Ar5.2.1) Ar5.2.2 hin5 (Has.at H5 hin5 rfl) (g := (mkF m 20 #[.val (.ref ov87), .val (.ref ya1), .val (.int (0 : Int32))] [(.int (0 : Int32)), (.ref ya1), (.int (97 : Int32))])) rfl rfl (hb hby d4_20) t k) ?_
  show Gets p e below _ (s₁.setTop (mkF m 21 #[.val (.ref ov87), .val (.ref ya1), .val (.int (0 : Int32))] [(.int (97 : Int32)), (.int (97 : Int32))]))
  refine Gets.of (fun t k => XS.icmpYes X0.here hx rfl (pc0 := 21) (pc' := 26) rfl (hb hby d4_21) rfl (teq (by decide : (97 : Int32) = (97 : Int32))).1 (by decide) (by decide) k) ?_
  show Gets p e below _ (s₁.setTop (mkF m 26 #[.val (.ref ov87), .val (.ref ya1), .val (.int (0 : Int32))] []))
  refine Gets.of (fun t k => XS.iinc X0.here hx rfl (hb hby d4_26) rfl (l' := #[.val (.ref ov87), .val (.ref ya1), .val (.int (1 : Int32))]) rfl k) ?_
  show Gets p e below _ (s₁.setTop (mkF m 29 #[.val (.ref ov87), .val (.ref ya1), .val (.int (1 : Int32))] []))
  refine Gets.of (fun t k => XS.goto X0.here hx rfl (pc0 := 29) (pc' := 9) rfl (hb hby d4_29) (by decide) (by decide) k) ?_
  show Gets p e below _ (s₁.setTop (mkF m 9 #[.val (.ref ov87), .val (.ref ya1), .val (.int (1 : Int32))] []))
  refine Gets.of (fun t k => XS.iloadN X0.here hx rfl (hb hby d4_9) rfl  k) ?_
  refine Gets.of (fun t k => XS.aloadN X0.here hx rfl (hb hby d4_10) rfl rfl  k) ?_
  obtain ⟨cl6, Ar6, -, S6, N_6, -, -⟩ := id ((oV153.ext O0.2))
  refine Gets.of (X0.arraylength hx (by rw [e0]; exact Ar6.1) (State.isArrayOf_alike hZ.alike Ar6.2.1) (g := (mkF m 11 #[.val (.ref ov87), .val (.ref ya1), .val (.int (1 : Int32))] [(.ref ov87), (.int (1 : Int32))])) rfl rfl (hb hby d4_11)) ?_
  rw [len_of S6 N_6]
  show Gets p e below _ (s₁.setTop (mkF m 12 #[.val (.ref ov87), .val (.ref ya1), .val (.int (1 : Int32))] [(.int (2 : Int32)), (.int (1 : Int32))]))
  refine Gets.of (fun t k => XS.icmpNo X0.here hx rfl (hb hby d4_12) rfl (tlt (by decide : (1 : Int32) < (2 : Int32))).2.1 k) ?_
  show Gets p e below _ (s₁.setTop (mkF m 15 #[.val (.ref ov87), .val (.ref ya1), .val (.int (1 : Int32))] []))
  refine Gets.of (fun t k => XS.aloadN X0.here hx rfl (hb hby d4_15) rfl rfl  k) ?_
  refine Gets.of (fun t k => XS.iloadN X0.here hx rfl (hb hby d4_16) rfl  k) ?_
  obtain ⟨cl7, Ar7, q7, S7, N_7, H7, G7⟩ := id ((oV153.ext O0.2))
  have hin7 : ¬ ((1 : Int32) < 0 ∨ cl7.slots.size ≤ ((1 : Int32)).toNatClampNeg) := inb_of S7 ⟨by decide, by decide⟩
  refine Gets.of (fun t k => X0.baloadBytes hx (j := (1 : Int32)) (v := (.int (110 : Int32))) (by rw [e0]; exact Ar7.1) (State.isArrayOf_alike hZ.alike Ar7.2.1) Ar7.2.2 hin7 (Has.at H7 hin7 rfl) (g := (mkF m 17 #[.val (.ref ov87), .val (.ref ya1), .val (.int (1 : Int32))] [(.int (1 : Int32)), (.ref ov87)])) rfl rfl (hb hby d4_17) t k) ?_
  show Gets p e below _ (s₁.setTop (mkF m 18 #[.val (.ref ov87), .val (.ref ya1), .val (.int (1 : Int32))] [(.int (110 : Int32))]))
  refine Gets.of (fun t k => XS.aloadN X0.here hx rfl (hb hby d4_18) rfl rfl  k) ?_
  refine Gets.of (fun t k => XS.iloadN X0.here hx rfl (hb hby d4_19) rfl  k) ?_
  obtain ⟨cl8, Ar8, q8, S8, N_8, H8, G8⟩ := id (F0)
  have hin8 : ¬ ((1 : Int32) < 0 ∨ cl8.slots.size ≤ ((1 : Int32)).toNatClampNeg) := inb_of S8 ⟨by decide, by decide⟩
  refine Gets.of (fun t k => X0.baloadBytes hx (j := (1 : Int32)) (v := (.int (110 : Int32))) (by rw [e0]; exact Ar8.1) (State.isArrayOf_alike hZ.alike Ar8.2.1) Ar8.2.2 hin8 (Has.at H8 hin8 rfl) (g := (mkF m 20 #[.val (.ref ov87), .val (.ref ya1), .val (.int (1 : Int32))] [(.int (1 : Int32)), (.ref ya1), (.int (110 : Int32))])) rfl rfl (hb hby d4_20) t k) ?_
  show Gets p e below _ (s₁.setTop (mkF m 21 #[.val (.ref ov87), .val (.ref ya1), .val (.int (1 : Int32))] [(.int (110 : Int32)), (.int (110 : Int32))]))
  refine Gets.of (fun t k => XS.icmpYes X0.here hx rfl (pc0 := 21) (pc' := 26) rfl (hb hby d4_21) rfl (teq (by decide : (110 : Int32) = (110 : Int32))).1 (by decide) (by decide) k) ?_
  show Gets p e below _ (s₁.setTop (mkF m 26 #[.val (.ref ov87), .val (.ref ya1), .val (.int (1 : Int32))] []))
  refine Gets.of (fun t k => XS.iinc X0.here hx rfl (hb hby d4_26) rfl (l' := #[.val (.ref ov87), .val (.ref ya1), .val (.int (2 : Int32))]) rfl k) ?_
  show Gets p e below _ (s₁.setTop (mkF m 29 #[.val (.ref ov87), .val (.ref ya1), .val (.int (2 : Int32))] []))
  refine Gets.of (fun t k => XS.goto X0.here hx rfl (pc0 := 29) (pc' := 9) rfl (hb hby d4_29) (by decide) (by decide) k) ?_
  show Gets p e below _ (s₁.setTop (mkF m 9 #[.val (.ref ov87), .val (.ref ya1), .val (.int (2 : Int32))] []))
  refine Gets.of (fun t k => XS.iloadN X0.here hx rfl (hb hby d4_9) rfl  k) ?_
  refine Gets.of (fun t k => XS.aloadN X0.here hx rfl (hb hby d4_10) rfl rfl  k) ?_
  obtain ⟨cl9, Ar9, -, S9, N_9, -, -⟩ := id ((oV153.ext O0.2))
  refine Gets.of (X0.arraylength hx (by rw [e0]; exact Ar9.1) (State.isArrayOf_alike hZ.alike Ar9.2.1) (g := (mkF m 11 #[.val (.ref ov87), .val (.ref ya1), .val (.int (2 : Int32))] [(.ref ov87), (.int (2 : Int32))])) rfl rfl (hb hby d4_11)) ?_
  rw [len_of S9 N_9]
  show Gets p e below _ (s₁.setTop (mkF m 12 #[.val (.ref ov87), .val (.ref ya1), .val (.int (2 : Int32))] [(.int (2 : Int32)), (.int (2 : Int32))]))
  refine Gets.of (fun t k => XS.icmpYes X0.here hx rfl (pc0 := 12) (pc' := 32) rfl (hb hby d4_12) rfl (flt (by decide : ¬ ((2 : Int32) < (2 : Int32)))).2.1 (by decide) (by decide) k) ?_
  show Gets p e below _ (s₁.setTop (mkF m 32 #[.val (.ref ov87), .val (.ref ya1), .val (.int (2 : Int32))] []))
  refine Gets.of (fun t k => XS.iconst X0.here hx rfl (hb hby d4_32) k) ?_
  refine Gets.retN X0 hx (t := .boolean) Bd.returns (by simp) (hb hby d4_33) ?_ (by decide) (by decide)
  rw [e0]
  exact ⟨N0, rfl, rfl⟩
def Q_r9_equals (Z : State) (ov81 : Addr) (ya1 : Addr) (oi1 : Int32) (ov87 : Addr) (ya2 : Addr) (yk3 : ClassId) (ok154 : ClassId) (h0 : Heap) (n0 : Nat) (v : Option Value) (h : Heap) (L : List Loc) : Prop := Fr n0 L ∧ h = h0 ∧ ((v = some (.int (1 : Int32))))
set_option maxRecDepth 65536 in
set_option maxHeartbeats 40000000 in
theorem r9_equals (l : Launch) (Z : State) (a0 : Array Value) (hw : ∀ d ∈ tables_1, d.before a0 Z = true) (ws : List Jvm.Cond) (ov81 : Addr) (ya1 : Addr) (oi1 : Int32) (ov87 : Addr) (ya2 : Addr) (yk3 : ClassId) (ok154 : ClassId) (h0 : Heap) (n0 : Nat) (O0 : Old Z n0 h0) (F0 : Exa Z h0 ya1 cn0) (F1 : Fld Z h0 ya1 cn0 "coder" "B" (.int (0 : Int32))) (F2 : Fld Z h0 ya1 cn0 "value" "[B" (.ref ya2)) (F3 : Arv Z h0 ya2 yk3 .byte (2 : Int32) [(.int (97 : Int32)), (.int (110 : Int32))] (.int (0 : Int32))) (oS3 : Sta Z Z.heap cn0 "COMPACT_STRINGS" "Z" (.int oi1)) (oF86 : Fld Z Z.heap ov81 cn0 "coder" "B" (.int (0 : Int32))) (oF89 : Fld Z Z.heap ov81 cn0 "value" "[B" (.ref ov87)) (oV153 : Arv Z Z.heap ov87 ok154 .byte (2 : Int32) [(.int (97 : Int32)), (.int (110 : Int32))] (.int (0 : Int32))) (hy1 : ¬ (oi1 = (0 : Int32))) :
    MetFree l (⟨cn0, "equals", cn2⟩ : MethodName) (head1 (Jvm.Cond.code (⟨cn0, "equals", cn2⟩ : MethodName) jdk_42_method_66_code 3 (some .boolean) :: ws) ({ frames := 1, cells := 0, slots := 0, locals := 14 } : Room)) (fun a U => a = #[(.ref ov81), (.ref ya1)] ∧ Z.Warmed39 U.vm ∧ U.heap = h0) (fun _ _ _ _ _ => True) (fun _ U o U' => ∃ v L, o = .returned v ∧ Q_r9_equals Z ov81 ya1 oi1 ov87 ya2 yk3 ok154 h0 n0 v U'.heap L ∧ FrameEnd U o U' L ({ frames := 1, cells := 0, slots := 0, locals := 14 } : Room).cells ({ frames := 1, cells := 0, slots := 0, locals := 14 } : Room).slots) := by
  refine MetFree.of_bodySF (plainFor_of_name pn_java_lang_String) hisR ?_
  intro p e s m args below meth c s₁ Bd hml0 hP hK
  obtain ⟨rfl, hZ, hh⟩ := hP
  have hx := Bd.exec
  have hby := Bd.bytes
  have hlk := Bd.notSynchronized
  have hml : c.maxLocals = 3 := hml0
  have hown : s.vm.findClass cn0 = some m.cls := findClass_of_methodNamed Bd.named
  have hnm := (name_of_methodNamed Bd.named Bd.method).1
  have X0 : Stand p l e ({ frames := 1, cells := 0, slots := 0, locals := 14 } : Room) s m #[(.ref ov81), (.ref ya1)] below meth c s₁ [] 0 0 := Stand.of_body Bd
  have e0 : s₁.heap = h0 := by rw [← hh, Bd.state]; rfl
  have N0 := Fr.nil n0
  have K0 := Keep.refl h0 []
  have Z0 : n0 ≤ h0.size := O0.1 ▸ O0.2.1
  have hef : entryFrame m #[(.ref ov81), (.ref ya1)] 3 = mkF m 0 #[.val (.ref ov81), .val (.ref ya1), .unset] [] := by first | (simp [entryFrame, mkF, argsToLocals, Value.category]; done) | rfl
  rw [hef]
  refine Gets.out (Q := Q_r9_equals Z ov81 ya1 oi1 ov87 ya2 yk3 ok154 h0 n0) ?_
  show Gets p e below _ (s₁.setTop (mkF m 0 #[.val (.ref ov81), .val (.ref ya1), .unset] []))
  refine Gets.of (fun t k => XS.aloadN X0.here hx rfl (hb hby d3_0) rfl rfl  k) ?_
  refine Gets.of (fun t k => XS.aloadN X0.here hx rfl (hb hby d3_1) rfl rfl  k) ?_
  by_cases hc1 : ov81 = ya1
  · skip
    refine Gets.of (fun t k => Jvm.RoadKit.acmp (g := (mkF m 2 #[.val (.ref ov81), .val (.ref ya1), .unset] [(.ref ya1), (.ref ov81)])) X0 hx rfl rfl rfl (pc0 := 2) (pc' := 5) (same := true) rfl (hb hby d3_2) rfl (decide_eq_true (congrArg Value.ref hc1)) (by decide) (by decide) k) ?_
    show Gets p e below _ (s₁.setTop (mkF m 5 #[.val (.ref ov81), .val (.ref ya1), .unset] []))
    refine Gets.of (fun t k => XS.iconst X0.here hx rfl (hb hby d3_5) k) ?_
    refine Gets.retN X0 hx (t := .boolean) Bd.returns (by simp) (hb hby d3_6) ?_ (by decide) (by decide)
    rw [e0]
    exact ⟨N0, rfl, rfl⟩
  · skip
    refine Gets.of (fun t k => Jvm.RoadKit.acmp (g := (mkF m 2 #[.val (.ref ov81), .val (.ref ya1), .unset] [(.ref ya1), (.ref ov81)])) X0 hx rfl rfl rfl (pc0 := 2) (pc' := 7) (same := false) rfl (hb hby d3_2) rfl (decide_eq_false fun q => hc1 (Value.ref.inj q)) (by decide) (by decide) k) ?_
    show Gets p e below _ (s₁.setTop (mkF m 7 #[.val (.ref ov81), .val (.ref ya1), .unset] []))
    refine Gets.of (fun t k => XS.aloadN X0.here hx rfl (hb hby d3_7) rfl rfl  k) ?_
    obtain ⟨T2, X2, e2, st2⟩ := instY X0 hx hZ hown (w28 hw) e0 (Ins.self F0) (g := (mkF m 8 #[.val (.ref ov81), .val (.ref ya1), .unset] [(.ref ya1)])) rfl rfl (hb hby d3_8)
    refine Gets.of st2 ?_
    show Gets p e below _ (T2.setTop (mkF m 11 #[.val (.ref ov81), .val (.ref ya1), .unset] [(.int (1 : Int32))]))
    refine Gets.of (fun t k => XS.ifNo X2.here hx rfl (hb hby d3_11) rfl ((if0 _ _).trans (feq (by decide : ¬ ((1 : Int32) = (0 : Int32)))).1) k) ?_
    show Gets p e below _ (T2.setTop (mkF m 14 #[.val (.ref ov81), .val (.ref ya1), .unset] []))
    refine Gets.of (fun t k => XS.aloadN X2.here hx rfl (hb hby d3_14) rfl rfl  k) ?_
    obtain ⟨T3, X3, e3, st3⟩ := castY X2 hx hZ hown (w28 hw) e2 (Ins.self F0) (g := (mkF m 15 #[.val (.ref ov81), .val (.ref ya1), .unset] [(.ref ya1)])) rfl rfl (hb hby d3_15)
    refine Gets.of st3 ?_
    show Gets p e below _ (T3.setTop (mkF m 18 #[.val (.ref ov81), .val (.ref ya1), .unset] [(.ref ya1)]))
    refine Gets.of (fun t k => XS.astoreN X3.here hx rfl (hb hby d3_18) rfl rfl (l' := #[.val (.ref ov81), .val (.ref ya1), .val (.ref ya1)]) rfl k) ?_
    show Gets p e below _ (T3.setTop (mkF m 19 #[.val (.ref ov81), .val (.ref ya1), .val (.ref ya1)] []))
    obtain ⟨T4, X4, e4, st4⟩ := getS2 X3 hx hZ hown (host := "") (Or.inl (w30 hw)) Via.refl e3 (oS3.ext O0.2) (g := (mkF m 19 #[.val (.ref ov81), .val (.ref ya1), .val (.ref ya1)] [])) rfl (hb hby d3_19)
    refine Gets.of st4 ?_
    show Gets p e below _ (T4.setTop (mkF m 22 #[.val (.ref ov81), .val (.ref ya1), .val (.ref ya1)] [(.int oi1)]))
    refine Gets.of (fun t k => XS.ifNo X4.here hx rfl (hb hby d3_22) rfl ((if0 _ _).trans (feq hy1).1) k) ?_
    show Gets p e below _ (T4.setTop (mkF m 25 #[.val (.ref ov81), .val (.ref ya1), .val (.ref ya1)] []))
    refine Gets.of (fun t k => XS.aloadN X4.here hx rfl (hb hby d3_25) rfl rfl  k) ?_
    obtain ⟨T5, X5, e5, st5⟩ := getF X4 hx hZ hown (host := "") (Or.inl (w31 hw)) Via.refl e4 (oF86.ext O0.2) (g := (mkF m 26 #[.val (.ref ov81), .val (.ref ya1), .val (.ref ya1)] [(.ref ov81)])) rfl rfl (hb hby d3_26)
    refine Gets.of st5 ?_
    show Gets p e below _ (T5.setTop (mkF m 29 #[.val (.ref ov81), .val (.ref ya1), .val (.ref ya1)] [(.int (0 : Int32))]))
    refine Gets.of (fun t k => XS.aloadN X5.here hx rfl (hb hby d3_29) rfl rfl  k) ?_
    obtain ⟨T6, X6, e6, st6⟩ := getF X5 hx hZ hown (host := "") (Or.inl (w31 hw)) Via.refl e5 F1 (g := (mkF m 30 #[.val (.ref ov81), .val (.ref ya1), .val (.ref ya1)] [(.ref ya1), (.int (0 : Int32))])) rfl rfl (hb hby d3_30)
    refine Gets.of st6 ?_
    show Gets p e below _ (T6.setTop (mkF m 33 #[.val (.ref ov81), .val (.ref ya1), .val (.ref ya1)] [(.int (0 : Int32)), (.int (0 : Int32))]))
    refine Gets.of (fun t k => XS.icmpNo X6.here hx rfl (hb hby d3_33) rfl (teq (by decide : (0 : Int32) = (0 : Int32))).2 k) ?_
    show Gets p e below _ (T6.setTop (mkF m 36 #[.val (.ref ov81), .val (.ref ya1), .val (.ref ya1)] []))
    refine Gets.of (fun t k => XS.aloadN X6.here hx rfl (hb hby d3_36) rfl rfl  k) ?_
    obtain ⟨T7, X7, e7, st7⟩ := getF X6 hx hZ hown (host := "") (Or.inl (w32 hw)) Via.refl e6 (oF89.ext O0.2) (g := (mkF m 37 #[.val (.ref ov81), .val (.ref ya1), .val (.ref ya1)] [(.ref ov81)])) rfl rfl (hb hby d3_37)
    refine Gets.of st7 ?_
    show Gets p e below _ (T7.setTop (mkF m 40 #[.val (.ref ov81), .val (.ref ya1), .val (.ref ya1)] [(.ref ov87)]))
    refine Gets.of (fun t k => XS.aloadN X7.here hx rfl (hb hby d3_40) rfl rfl  k) ?_
    obtain ⟨T8, X8, e8, st8⟩ := getF X7 hx hZ hown (host := "") (Or.inl (w32 hw)) Via.refl e7 F2 (g := (mkF m 41 #[.val (.ref ov81), .val (.ref ya1), .val (.ref ya1)] [(.ref ya1), (.ref ov87)])) rfl rfl (hb hby d3_41)
    refine Gets.of st8 ?_
    show Gets p e below _ (T8.setTop (mkF m 44 #[.val (.ref ov81), .val (.ref ya1), .val (.ref ya1)] [(.ref ya2), (.ref ov87)]))
    obtain ⟨_, _, ⟨T9, L9, k9, n9⟩, -, X9, ⟨Lc9, hQ9, l9, y9, z9⟩, st9⟩ := Jvm.LawKit.callS X8 hx (y := (⟨cn3, "equals", "([B[B)Z"⟩ : MethodName)) hown (mvT hZ (w33 hw)) (mvT hZ (w34 hw)) (mvT hZ (w35 hw)) (mvT hZ (w36 hw)) (by decide) (backOf (W := 0) (r10_equals l Z a0 hw [] ov87 ya2 ok154 yk3 h0 n0 O0 F3 oV153) hZ (w36 hw) (w35 hw) (by decide) (by decide)) (g := (mkF m 44 #[.val (.ref ov81), .val (.ref ya1), .val (.ref ya1)] [(.ref ya2), (.ref ov87)])) rfl (by rw [hml]; rfl) (argsL := [(.ref ov87), (.ref ya2)]) (rest := []) (lenOf pd__B_B_Z rfl) rfl (by show 2 * 0 + _ ≤ _; exact Nat.le_of_eq rfl) (hb hby d3_44) (fun _ _ => ⟨rfl, e8, (by decide : 0 + 0 ≤ _), (by decide : 0 + 0 ≤ _)⟩)
    dsimp only [Pt.U, Pt.locs, Pt.cells, Pt.slots] at X9 l9 y9 z9 st9 hQ9
    subst l9 y9 z9
    obtain ⟨Nq9, eq9, hR9⟩ := hQ9
    have N9 := Fr.app N0 Nq9
    obtain rfl := hR9
    refine Gets.of st9 ?_
    show Gets p e below _ (T9.setTop (mkF m 47 #[.val (.ref ov81), .val (.ref ya1), .val (.ref ya1)] [(.int (1 : Int32))]))
    refine Gets.of (fun t k => XS.ifNo X9.here hx rfl (hb hby d3_47) rfl ((if0 _ _).trans (feq (by decide : ¬ ((1 : Int32) = (0 : Int32)))).1) k) ?_
    show Gets p e below _ (T9.setTop (mkF m 50 #[.val (.ref ov81), .val (.ref ya1), .val (.ref ya1)] []))
    refine Gets.of (fun t k => XS.iconst X9.here hx rfl (hb hby d3_50) k) ?_
    refine Gets.of (fun t k => XS.goto X9.here hx rfl (pc0 := 51) (pc' := 55) rfl (hb hby d3_51) (by decide) (by decide) k) ?_
    show Gets p e below _ (T9.setTop (mkF m 55 #[.val (.ref ov81), .val (.ref ya1), .val (.ref ya1)] [(.int (1 : Int32))]))
    refine Gets.retN X9 hx (t := .boolean) Bd.returns (by simp) (hb hby d3_55) ?_ (by decide) (by decide)
    rw [eq9]
    exact ⟨N9, rfl, rfl⟩
theorem d5_7 : decode prog_67_method_12_code 7 = .ok (.aload_n 0, 1) := by decide +kernel
theorem d5_8 : decode prog_67_method_12_code 8 = .ok (.getstatic 7, 3) := by decide +kernel
theorem w47 {Z : State} {a0 : Array Value} (hw : ∀ d ∈ tables_1, d.before a0 Z = true) : (Jvm.Cond.fieldLink cn1 (7 : Nat) cn1 "AN" cn4).before a0 Z = true := hw _ (List.mem_of_getElem? (i := 47) rfl)
theorem d5_11 : decode prog_67_method_12_code 11 = .ok (.if_acmp .eq 10, 3) := by decide +kernel
def Q_r11_fills (Z : State) (ov49 : Addr) (ov5 : Addr) (h0 : Heap) (n0 : Nat) (v : Option Value) (h : Heap) (L : List Loc) : Prop := Fr n0 L ∧ h = h0 ∧ ((v = some (.int (1 : Int32))))
set_option maxRecDepth 65536 in
set_option maxHeartbeats 40000000 in
theorem r11_fills (l : Launch) (Z : State) (a0 : Array Value) (hw : ∀ d ∈ tables_1, d.before a0 Z = true) (ws : List Jvm.Cond) (ov49 : Addr) (ov5 : Addr) (h0 : Heap) (n0 : Nat) (O0 : Old Z n0 h0) (oS7 : Sta Z Z.heap cn1 "N" cn4 (.ref ov5)) (oF54 : Fld Z Z.heap ov49 "java/lang/Enum" "ordinal" "I" (.int (1 : Int32))) (oF48 : Fld Z Z.heap ov5 "java/lang/Enum" "ordinal" "I" (.int (0 : Int32))) (oS51 : Sta Z Z.heap cn1 "AN" cn4 (.ref ov49)) :
    MetFree l (⟨cn1, "fills", "()Z"⟩ : MethodName) (head1 (Jvm.Cond.code (⟨cn1, "fills", "()Z"⟩ : MethodName) prog_67_method_12_code 1 (some .boolean) :: ws) ({ frames := 0, cells := 0, slots := 0, locals := 0 } : Room)) (fun a U => a = #[(.ref ov49)] ∧ Z.Warmed39 U.vm ∧ U.heap = h0) (fun _ _ _ _ _ => True) (fun _ U o U' => ∃ v L, o = .returned v ∧ Q_r11_fills Z ov49 ov5 h0 n0 v U'.heap L ∧ FrameEnd U o U' L ({ frames := 0, cells := 0, slots := 0, locals := 0 } : Room).cells ({ frames := 0, cells := 0, slots := 0, locals := 0 } : Room).slots) := by
  refine MetFree.of_bodySF (plainFor_of_name pn_com_example_cardwire_cardwire_core_Attribute) hisR ?_
  intro p e s m args below meth c s₁ Bd hml0 hP hK
  obtain ⟨rfl, hZ, hh⟩ := hP
  have hx := Bd.exec
  have hby := Bd.bytes
  have hlk := Bd.notSynchronized
  have hml : c.maxLocals = 1 := hml0
  have hown : s.vm.findClass cn1 = some m.cls := findClass_of_methodNamed Bd.named
  have hnm := (name_of_methodNamed Bd.named Bd.method).1
  have X0 : Stand p l e ({ frames := 0, cells := 0, slots := 0, locals := 0 } : Room) s m #[(.ref ov49)] below meth c s₁ [] 0 0 := Stand.of_body Bd
  have e0 : s₁.heap = h0 := by rw [← hh, Bd.state]; rfl
  have N0 := Fr.nil n0
  have K0 := Keep.refl h0 []
  have Z0 : n0 ≤ h0.size := O0.1 ▸ O0.2.1
  have hef : entryFrame m #[(.ref ov49)] 1 = mkF m 0 #[.val (.ref ov49)] [] := by first | (simp [entryFrame, mkF, argsToLocals, Value.category]; done) | rfl
  rw [hef]
  refine Gets.out (Q := Q_r11_fills Z ov49 ov5 h0 n0) ?_
  show Gets p e below _ (s₁.setTop (mkF m 0 #[.val (.ref ov49)] []))
  refine Gets.of (fun t k => XS.aloadN X0.here hx rfl (hb hby d5_0) rfl rfl  k) ?_
  obtain ⟨T1, X1, e1, st1⟩ := getS2 X0 hx hZ hown (host := "") (Or.inl (w42 hw)) Via.refl e0 (oS7.ext O0.2) (g := (mkF m 1 #[.val (.ref ov49)] [(.ref ov49)])) rfl (hb hby d5_1)
  refine Gets.of st1 ?_
  show Gets p e below _ (T1.setTop (mkF m 4 #[.val (.ref ov49)] [(.ref ov5), (.ref ov49)]))
  refine Gets.of (fun t k => Jvm.RoadKit.acmp (g := (mkF m 4 #[.val (.ref ov49)] [(.ref ov5), (.ref ov49)])) X1 hx rfl rfl rfl (pc0 := 4) (pc' := 7) (same := false) rfl (hb hby d5_4) rfl (decide_eq_false fun q => (Fld.ne (oF54.ext O0.2) (oF48.ext O0.2) (fun q => absurd (Value.int.inj q) (by decide))) (Value.ref.inj q)) (by decide) (by decide) k) ?_
  show Gets p e below _ (T1.setTop (mkF m 7 #[.val (.ref ov49)] []))
  refine Gets.of (fun t k => XS.aloadN X1.here hx rfl (hb hby d5_7) rfl rfl  k) ?_
  obtain ⟨T2, X2, e2, st2⟩ := getS2 X1 hx hZ hown (host := "") (Or.inl (w47 hw)) Via.refl e1 (oS51.ext O0.2) (g := (mkF m 8 #[.val (.ref ov49)] [(.ref ov49)])) rfl (hb hby d5_8)
  refine Gets.of st2 ?_
  show Gets p e below _ (T2.setTop (mkF m 11 #[.val (.ref ov49)] [(.ref ov49), (.ref ov49)]))
  refine Gets.of (fun t k => Jvm.RoadKit.acmp (g := (mkF m 11 #[.val (.ref ov49)] [(.ref ov49), (.ref ov49)])) X2 hx rfl rfl rfl (pc0 := 11) (pc' := 21) (same := true) rfl (hb hby d5_11) rfl (decide_eq_true rfl) (by decide) (by decide) k) ?_
  show Gets p e below _ (T2.setTop (mkF m 21 #[.val (.ref ov49)] []))
  refine Gets.of (fun t k => XS.iconst X2.here hx rfl (hb hby d5_21) k) ?_
  refine Gets.of (fun t k => XS.goto X2.here hx rfl (pc0 := 22) (pc' := 26) rfl (hb hby d5_22) (by decide) (by decide) k) ?_
  show Gets p e below _ (T2.setTop (mkF m 26 #[.val (.ref ov49)] [(.int (1 : Int32))]))
  refine Gets.retN X2 hx (t := .boolean) Bd.returns (by simp) (hb hby d5_26) ?_ (by decide) (by decide)
  rw [e2]
  exact ⟨N0, rfl, rfl⟩
def Q_r12_code (Z : State) (ov55 : Addr) (ov61 : Addr) (h0 : Heap) (n0 : Nat) (v : Option Value) (h : Heap) (L : List Loc) : Prop := Fr n0 L ∧ h = h0 ∧ ((v = some (.ref ov61)))
set_option maxRecDepth 65536 in
set_option maxHeartbeats 40000000 in
theorem r12_code (l : Launch) (Z : State) (a0 : Array Value) (hw : ∀ d ∈ tables_1, d.before a0 Z = true) (ws : List Jvm.Cond) (ov55 : Addr) (ov61 : Addr) (h0 : Heap) (n0 : Nat) (O0 : Old Z n0 h0) (oF63 : Fld Z Z.heap ov55 cn1 "code" "Ljava/lang/String;" (.ref ov61)) :
    MetFree l (⟨cn1, "code", cn5⟩ : MethodName) (head1 (Jvm.Cond.code (⟨cn1, "code", cn5⟩ : MethodName) prog_67_method_8_code 1 (some (.object cn0)) :: ws) ({ frames := 0, cells := 0, slots := 0, locals := 0 } : Room)) (fun a U => a = #[(.ref ov55)] ∧ Z.Warmed39 U.vm ∧ U.heap = h0) (fun _ _ _ _ _ => True) (fun _ U o U' => ∃ v L, o = .returned v ∧ Q_r12_code Z ov55 ov61 h0 n0 v U'.heap L ∧ FrameEnd U o U' L ({ frames := 0, cells := 0, slots := 0, locals := 0 } : Room).cells ({ frames := 0, cells := 0, slots := 0, locals := 0 } : Room).slots) := by
  refine MetFree.of_bodySF (plainFor_of_name pn_com_example_cardwire_cardwire_core_Attribute) hisR ?_
  intro p e s m args below meth c s₁ Bd hml0 hP hK
  obtain ⟨rfl, hZ, hh⟩ := hP
  have hx := Bd.exec
  have hby := Bd.bytes
  have hlk := Bd.notSynchronized
  have hml : c.maxLocals = 1 := hml0
  have hown : s.vm.findClass cn1 = some m.cls := findClass_of_methodNamed Bd.named
  have hnm := (name_of_methodNamed Bd.named Bd.method).1
  have X0 : Stand p l e ({ frames := 0, cells := 0, slots := 0, locals := 0 } : Room) s m #[(.ref ov55)] below meth c s₁ [] 0 0 := Stand.of_body Bd
  have e0 : s₁.heap = h0 := by rw [← hh, Bd.state]; rfl
  have N0 := Fr.nil n0
  have K0 := Keep.refl h0 []
  have Z0 : n0 ≤ h0.size := O0.1 ▸ O0.2.1
  have hef : entryFrame m #[(.ref ov55)] 1 = mkF m 0 #[.val (.ref ov55)] [] := by first | (simp [entryFrame, mkF, argsToLocals, Value.category]; done) | rfl
  rw [hef]
  refine Gets.out (Q := Q_r12_code Z ov55 ov61 h0 n0) ?_
  show Gets p e below _ (s₁.setTop (mkF m 0 #[.val (.ref ov55)] []))
  refine Gets.of (fun t k => XS.aloadN X0.here hx rfl (hb hby d2_0) rfl rfl  k) ?_
  obtain ⟨T1, X1, e1, st1⟩ := getF X0 hx hZ hown (host := "") (Or.inl (w13 hw)) Via.refl e0 (oF63.ext O0.2) (g := (mkF m 1 #[.val (.ref ov55)] [(.ref ov55)])) rfl rfl (hb hby d2_1)
  refine Gets.of st1 ?_
  show Gets p e below _ (T1.setTop (mkF m 4 #[.val (.ref ov55)] [(.ref ov61)]))
  refine Gets.retA X1 hx Bd.returns rfl rfl (hb hby d2_4) ?_ (by decide) (by decide)
  rw [e1]
  exact ⟨N0, rfl, rfl⟩
def Q_r14_equals (Z : State) (ov67 : Addr) (ya1 : Addr) (ok152 : ClassId) (yk2 : ClassId) (h0 : Heap) (n0 : Nat) (v : Option Value) (h : Heap) (L : List Loc) : Prop := Fr n0 L ∧ h = h0 ∧ ((v = some (.int (0 : Int32))))
set_option maxRecDepth 65536 in
set_option maxHeartbeats 40000000 in
theorem r14_equals (l : Launch) (Z : State) (a0 : Array Value) (hw : ∀ d ∈ tables_1, d.before a0 Z = true) (ws : List Jvm.Cond) (ov67 : Addr) (ya1 : Addr) (ok152 : ClassId) (yk2 : ClassId) (h0 : Heap) (n0 : Nat) (O0 : Old Z n0 h0) (F0 : Arv Z h0 ya1 yk2 .byte (1 : Int32) [(.int (110 : Int32))] (.int (0 : Int32))) (oV151 : Arv Z Z.heap ov67 ok152 .byte (3 : Int32) [(.int (97 : Int32)), (.int (110 : Int32)), (.int (115 : Int32))] (.int (0 : Int32))) :
    MetFree l (⟨cn3, "equals", "([B[B)Z"⟩ : MethodName) (head1 (Jvm.Cond.code (⟨cn3, "equals", "([B[B)Z"⟩ : MethodName) jdk_43_method_13_code 3 (some .boolean) :: ws) ({ frames := 0, cells := 0, slots := 0, locals := 0 } : Room)) (fun a U => a = #[(.ref ov67), (.ref ya1)] ∧ Z.Warmed39 U.vm ∧ U.heap = h0) (fun _ _ _ _ _ => True) (fun _ U o U' => ∃ v L, o = .returned v ∧ Q_r14_equals Z ov67 ya1 ok152 yk2 h0 n0 v U'.heap L ∧ FrameEnd U o U' L ({ frames := 0, cells := 0, slots := 0, locals := 0 } : Room).cells ({ frames := 0, cells := 0, slots := 0, locals := 0 } : Room).slots) := by
  refine MetFree.of_bodySF (plainFor_of_name pn_java_lang_StringLatin1) hisR ?_
  intro p e s m args below meth c s₁ Bd hml0 hP hK
  obtain ⟨rfl, hZ, hh⟩ := hP
  have hx := Bd.exec
  have hby := Bd.bytes
  have hlk := Bd.notSynchronized
  have hml : c.maxLocals = 3 := hml0
  have hown : s.vm.findClass cn3 = some m.cls := findClass_of_methodNamed Bd.named
  have hnm := (name_of_methodNamed Bd.named Bd.method).1
  have X0 : Stand p l e ({ frames := 0, cells := 0, slots := 0, locals := 0 } : Room) s m #[(.ref ov67), (.ref ya1)] below meth c s₁ [] 0 0 := Stand.of_body Bd
  have e0 : s₁.heap = h0 := by rw [← hh, Bd.state]; rfl
  have N0 := Fr.nil n0
  have K0 := Keep.refl h0 []
  have Z0 : n0 ≤ h0.size := O0.1 ▸ O0.2.1
  have hef : entryFrame m #[(.ref ov67), (.ref ya1)] 3 = mkF m 0 #[.val (.ref ov67), .val (.ref ya1), .unset] [] := by first | (simp [entryFrame, mkF, argsToLocals, Value.category]; done) | rfl
  rw [hef]
  refine Gets.out (Q := Q_r14_equals Z ov67 ya1 ok152 yk2 h0 n0) ?_
  show Gets p e below _ (s₁.setTop (mkF m 0 #[.val (.ref ov67), .val (.ref ya1), .unset] []))
  refine Gets.of (fun t k => XS.aloadN X0.here hx rfl (hb hby d4_0) rfl rfl  k) ?_
  obtain ⟨cl1, Ar1, -, S1, N_1, -, -⟩ := id ((oV151.ext O0.2))
  refine Gets.of (X0.arraylength hx (by rw [e0]; exact Ar1.1) (State.isArrayOf_alike hZ.alike Ar1.2.1) (g := (mkF m 1 #[.val (.ref ov67), .val (.ref ya1), .unset] [(.ref ov67)])) rfl rfl (hb hby d4_1)) ?_
  rw [len_of S1 N_1]
  show Gets p e below _ (s₁.setTop (mkF m 2 #[.val (.ref ov67), .val (.ref ya1), .unset] [(.int (3 : Int32))]))
  refine Gets.of (fun t k => XS.aloadN X0.here hx rfl (hb hby d4_2) rfl rfl  k) ?_
  obtain ⟨cl2, Ar2, -, S2, N_2, -, -⟩ := id (F0)
  refine Gets.of (X0.arraylength hx (by rw [e0]; exact Ar2.1) (State.isArrayOf_alike hZ.alike Ar2.2.1) (g := (mkF m 3 #[.val (.ref ov67), .val (.ref ya1), .unset] [(.ref ya1), (.int (3 : Int32))])) rfl rfl (hb hby d4_3)) ?_
  rw [len_of S2 N_2]
  show Gets p e below _ (s₁.setTop (mkF m 4 #[.val (.ref ov67), .val (.ref ya1), .unset] [(.int (1 : Int32)), (.int (3 : Int32))]))
  refine Gets.of (fun t k => XS.icmpYes X0.here hx rfl (pc0 := 4) (pc' := 34) rfl (hb hby d4_4) rfl (feq (by decide : ¬ ((3 : Int32) = (1 : Int32)))).2 (by decide) (by decide) k) ?_
  show Gets p e below _ (s₁.setTop (mkF m 34 #[.val (.ref ov67), .val (.ref ya1), .unset] []))
  refine Gets.of (fun t k => XS.iconst X0.here hx rfl (hb hby d4_34) k) ?_
  refine Gets.retN X0 hx (t := .boolean) Bd.returns (by simp) (hb hby d4_35) ?_ (by decide) (by decide)
  rw [e0]
  exact ⟨N0, rfl, rfl⟩
def Q_r13_equals (Z : State) (ov61 : Addr) (ya1 : Addr) (ov67 : Addr) (ok152 : ClassId) (ya2 : Addr) (yk3 : ClassId) (oi1 : Int32) (ok154 : ClassId) (ok148 : ClassId) (h0 : Heap) (n0 : Nat) (v : Option Value) (h : Heap) (L : List Loc) : Prop := Fr n0 L ∧ h = h0 ∧ ((v = some (.int (0 : Int32))))
set_option maxRecDepth 65536 in
set_option maxHeartbeats 40000000 in
theorem r13_equals (l : Launch) (Z : State) (a0 : Array Value) (hw : ∀ d ∈ tables_1, d.before a0 Z = true) (ws : List Jvm.Cond) (ov61 : Addr) (ya1 : Addr) (ov67 : Addr) (ok152 : ClassId) (ya2 : Addr) (yk3 : ClassId) (oi1 : Int32) (ok154 : ClassId) (ok148 : ClassId) (h0 : Heap) (n0 : Nat) (O0 : Old Z n0 h0) (F0 : Arv Z h0 ya2 yk3 .byte (1 : Int32) [(.int (110 : Int32))] (.int (0 : Int32))) (F1 : Fld Z h0 ya1 cn0 "value" "[B" (.ref ya2)) (F2 : Exa Z h0 ya1 cn0) (F3 : Fld Z h0 ya1 cn0 "coder" "B" (.int (0 : Int32))) (oV151 : Arv Z Z.heap ov67 ok152 .byte (3 : Int32) [(.int (97 : Int32)), (.int (110 : Int32)), (.int (115 : Int32))] (.int (0 : Int32))) (oF69 : Fld Z Z.heap ov61 cn0 "value" "[B" (.ref ov67)) (oS3 : Sta Z Z.heap cn0 "COMPACT_STRINGS" "Z" (.int oi1)) (oF66 : Fld Z Z.heap ov61 cn0 "coder" "B" (.int (0 : Int32))) (hy1 : ¬ (oi1 = (0 : Int32))) :
    MetFree l (⟨cn0, "equals", cn2⟩ : MethodName) (head1 (Jvm.Cond.code (⟨cn0, "equals", cn2⟩ : MethodName) jdk_42_method_66_code 3 (some .boolean) :: ws) ({ frames := 1, cells := 0, slots := 0, locals := 14 } : Room)) (fun a U => a = #[(.ref ov61), (.ref ya1)] ∧ Z.Warmed39 U.vm ∧ U.heap = h0) (fun _ _ _ _ _ => True) (fun _ U o U' => ∃ v L, o = .returned v ∧ Q_r13_equals Z ov61 ya1 ov67 ok152 ya2 yk3 oi1 ok154 ok148 h0 n0 v U'.heap L ∧ FrameEnd U o U' L ({ frames := 1, cells := 0, slots := 0, locals := 14 } : Room).cells ({ frames := 1, cells := 0, slots := 0, locals := 14 } : Room).slots) := by
  refine MetFree.of_bodySF (plainFor_of_name pn_java_lang_String) hisR ?_
  intro p e s m args below meth c s₁ Bd hml0 hP hK
  obtain ⟨rfl, hZ, hh⟩ := hP
  have hx := Bd.exec
  have hby := Bd.bytes
  have hlk := Bd.notSynchronized
  have hml : c.maxLocals = 3 := hml0
  have hown : s.vm.findClass cn0 = some m.cls := findClass_of_methodNamed Bd.named
  have hnm := (name_of_methodNamed Bd.named Bd.method).1
  have X0 : Stand p l e ({ frames := 1, cells := 0, slots := 0, locals := 14 } : Room) s m #[(.ref ov61), (.ref ya1)] below meth c s₁ [] 0 0 := Stand.of_body Bd
  have e0 : s₁.heap = h0 := by rw [← hh, Bd.state]; rfl
  have N0 := Fr.nil n0
  have K0 := Keep.refl h0 []
  have Z0 : n0 ≤ h0.size := O0.1 ▸ O0.2.1
  have hef : entryFrame m #[(.ref ov61), (.ref ya1)] 3 = mkF m 0 #[.val (.ref ov61), .val (.ref ya1), .unset] [] := by first | (simp [entryFrame, mkF, argsToLocals, Value.category]; done) | rfl
  rw [hef]
  refine Gets.out (Q := Q_r13_equals Z ov61 ya1 ov67 ok152 ya2 yk3 oi1 ok154 ok148 h0 n0) ?_
  show Gets p e below _ (s₁.setTop (mkF m 0 #[.val (.ref ov61), .val (.ref ya1), .unset] []))
  refine Gets.of (fun t k => XS.aloadN X0.here hx rfl (hb hby d3_0) rfl rfl  k) ?_
  refine Gets.of (fun t k => XS.aloadN X0.here hx rfl (hb hby d3_1) rfl rfl  k) ?_
  refine Gets.of (fun t k => Jvm.RoadKit.acmp (g := (mkF m 2 #[.val (.ref ov61), .val (.ref ya1), .unset] [(.ref ya1), (.ref ov61)])) X0 hx rfl rfl rfl (pc0 := 2) (pc' := 7) (same := false) rfl (hb hby d3_2) rfl (decide_eq_false fun q => (Fld.ne (oF69.ext O0.2) F1 (fun q => (arv_ne (oV151.ext O0.2) F0 (Or.inl (by decide))) (Value.ref.inj q))) (Value.ref.inj q)) (by decide) (by decide) k) ?_
  show Gets p e below _ (s₁.setTop (mkF m 7 #[.val (.ref ov61), .val (.ref ya1), .unset] []))
  refine Gets.of (fun t k => XS.aloadN X0.here hx rfl (hb hby d3_7) rfl rfl  k) ?_
  obtain ⟨T1, X1, e1, st1⟩ := instY X0 hx hZ hown (w28 hw) e0 (Ins.self F2) (g := (mkF m 8 #[.val (.ref ov61), .val (.ref ya1), .unset] [(.ref ya1)])) rfl rfl (hb hby d3_8)
  refine Gets.of st1 ?_
  show Gets p e below _ (T1.setTop (mkF m 11 #[.val (.ref ov61), .val (.ref ya1), .unset] [(.int (1 : Int32))]))
  refine Gets.of (fun t k => XS.ifNo X1.here hx rfl (hb hby d3_11) rfl ((if0 _ _).trans (feq (by decide : ¬ ((1 : Int32) = (0 : Int32)))).1) k) ?_
  show Gets p e below _ (T1.setTop (mkF m 14 #[.val (.ref ov61), .val (.ref ya1), .unset] []))
  refine Gets.of (fun t k => XS.aloadN X1.here hx rfl (hb hby d3_14) rfl rfl  k) ?_
  obtain ⟨T2, X2, e2, st2⟩ := castY X1 hx hZ hown (w28 hw) e1 (Ins.self F2) (g := (mkF m 15 #[.val (.ref ov61), .val (.ref ya1), .unset] [(.ref ya1)])) rfl rfl (hb hby d3_15)
  refine Gets.of st2 ?_
  show Gets p e below _ (T2.setTop (mkF m 18 #[.val (.ref ov61), .val (.ref ya1), .unset] [(.ref ya1)]))
  refine Gets.of (fun t k => XS.astoreN X2.here hx rfl (hb hby d3_18) rfl rfl (l' := #[.val (.ref ov61), .val (.ref ya1), .val (.ref ya1)]) rfl k) ?_
  show Gets p e below _ (T2.setTop (mkF m 19 #[.val (.ref ov61), .val (.ref ya1), .val (.ref ya1)] []))
  obtain ⟨T3, X3, e3, st3⟩ := getS2 X2 hx hZ hown (host := "") (Or.inl (w30 hw)) Via.refl e2 (oS3.ext O0.2) (g := (mkF m 19 #[.val (.ref ov61), .val (.ref ya1), .val (.ref ya1)] [])) rfl (hb hby d3_19)
  refine Gets.of st3 ?_
  show Gets p e below _ (T3.setTop (mkF m 22 #[.val (.ref ov61), .val (.ref ya1), .val (.ref ya1)] [(.int oi1)]))
  refine Gets.of (fun t k => XS.ifNo X3.here hx rfl (hb hby d3_22) rfl ((if0 _ _).trans (feq hy1).1) k) ?_
  show Gets p e below _ (T3.setTop (mkF m 25 #[.val (.ref ov61), .val (.ref ya1), .val (.ref ya1)] []))
  refine Gets.of (fun t k => XS.aloadN X3.here hx rfl (hb hby d3_25) rfl rfl  k) ?_
  obtain ⟨T4, X4, e4, st4⟩ := getF X3 hx hZ hown (host := "") (Or.inl (w31 hw)) Via.refl e3 (oF66.ext O0.2) (g := (mkF m 26 #[.val (.ref ov61), .val (.ref ya1), .val (.ref ya1)] [(.ref ov61)])) rfl rfl (hb hby d3_26)
  refine Gets.of st4 ?_
  show Gets p e below _ (T4.setTop (mkF m 29 #[.val (.ref ov61), .val (.ref ya1), .val (.ref ya1)] [(.int (0 : Int32))]))
  refine Gets.of (fun t k => XS.aloadN X4.here hx rfl (hb hby d3_29) rfl rfl  k) ?_
  obtain ⟨T5, X5, e5, st5⟩ := getF X4 hx hZ hown (host := "") (Or.inl (w31 hw)) Via.refl e4 F3 (g := (mkF m 30 #[.val (.ref ov61), .val (.ref ya1), .val (.ref ya1)] [(.ref ya1), (.int (0 : Int32))])) rfl rfl (hb hby d3_30)
  refine Gets.of st5 ?_
  show Gets p e below _ (T5.setTop (mkF m 33 #[.val (.ref ov61), .val (.ref ya1), .val (.ref ya1)] [(.int (0 : Int32)), (.int (0 : Int32))]))
  refine Gets.of (fun t k => XS.icmpNo X5.here hx rfl (hb hby d3_33) rfl (teq (by decide : (0 : Int32) = (0 : Int32))).2 k) ?_
  show Gets p e below _ (T5.setTop (mkF m 36 #[.val (.ref ov61), .val (.ref ya1), .val (.ref ya1)] []))
  refine Gets.of (fun t k => XS.aloadN X5.here hx rfl (hb hby d3_36) rfl rfl  k) ?_
  obtain ⟨T6, X6, e6, st6⟩ := getF X5 hx hZ hown (host := "") (Or.inl (w32 hw)) Via.refl e5 (oF69.ext O0.2) (g := (mkF m 37 #[.val (.ref ov61), .val (.ref ya1), .val (.ref ya1)] [(.ref ov61)])) rfl rfl (hb hby d3_37)
  refine Gets.of st6 ?_
  show Gets p e below _ (T6.setTop (mkF m 40 #[.val (.ref ov61), .val (.ref ya1), .val (.ref ya1)] [(.ref ov67)]))
  refine Gets.of (fun t k => XS.aloadN X6.here hx rfl (hb hby d3_40) rfl rfl  k) ?_
  obtain ⟨T7, X7, e7, st7⟩ := getF X6 hx hZ hown (host := "") (Or.inl (w32 hw)) Via.refl e6 F1 (g := (mkF m 41 #[.val (.ref ov61), .val (.ref ya1), .val (.ref ya1)] [(.ref ya1), (.ref ov67)])) rfl rfl (hb hby d3_41)
  refine Gets.of st7 ?_
  show Gets p e below _ (T7.setTop (mkF m 44 #[.val (.ref ov61), .val (.ref ya1), .val (.ref ya1)] [(.ref ya2), (.ref ov67)]))
  obtain ⟨_, _, ⟨T8, L8, k8, n8⟩, -, X8, ⟨Lc8, hQ8, l8, y8, z8⟩, st8⟩ := Jvm.LawKit.callS X7 hx (y := (⟨cn3, "equals", "([B[B)Z"⟩ : MethodName)) hown (mvT hZ (w33 hw)) (mvT hZ (w34 hw)) (mvT hZ (w35 hw)) (mvT hZ (w36 hw)) (by decide) (backOf (W := 0) (r14_equals l Z a0 hw [] ov67 ya2 ok152 yk3 h0 n0 O0 F0 oV151) hZ (w36 hw) (w35 hw) (by decide) (by decide)) (g := (mkF m 44 #[.val (.ref ov61), .val (.ref ya1), .val (.ref ya1)] [(.ref ya2), (.ref ov67)])) rfl (by rw [hml]; rfl) (argsL := [(.ref ov67), (.ref ya2)]) (rest := []) (lenOf pd__B_B_Z rfl) rfl (by show 2 * 0 + _ ≤ _; exact Nat.le_of_eq rfl) (hb hby d3_44) (fun _ _ => ⟨rfl, e7, (by decide : 0 + 0 ≤ _), (by decide : 0 + 0 ≤ _)⟩)
  dsimp only [Pt.U, Pt.locs, Pt.cells, Pt.slots] at X8 l8 y8 z8 st8 hQ8
  subst l8 y8 z8
  obtain ⟨Nq8, eq8, hR8⟩ := hQ8
  have N8 := Fr.app N0 Nq8
  obtain rfl := hR8
  refine Gets.of st8 ?_
  show Gets p e below _ (T8.setTop (mkF m 47 #[.val (.ref ov61), .val (.ref ya1), .val (.ref ya1)] [(.int (0 : Int32))]))
  refine Gets.of (fun t k => XS.ifYes X8.here hx rfl (pc0 := 47) (pc' := 54) rfl (hb hby d3_47) rfl ((if0 _ _).trans (teq (by decide : (0 : Int32) = (0 : Int32))).1) (by decide) (by decide) k) ?_
  show Gets p e below _ (T8.setTop (mkF m 54 #[.val (.ref ov61), .val (.ref ya1), .val (.ref ya1)] []))
  refine Gets.of (fun t k => XS.iconst X8.here hx rfl (hb hby d3_54) k) ?_
  refine Gets.retN X8 hx (t := .boolean) Bd.returns (by simp) (hb hby d3_55) ?_ (by decide) (by decide)
  rw [eq8]
  exact ⟨N8, rfl, rfl⟩
def Q_r16_equals (Z : State) (ov67 : Addr) (ya1 : Addr) (ok152 : ClassId) (yk2 : ClassId) (h0 : Heap) (n0 : Nat) (v : Option Value) (h : Heap) (L : List Loc) : Prop := Fr n0 L ∧ h = h0 ∧ ((v = some (.int (0 : Int32))))
set_option maxRecDepth 65536 in
set_option maxHeartbeats 40000000 in
theorem r16_equals (l : Launch) (Z : State) (a0 : Array Value) (hw : ∀ d ∈ tables_1, d.before a0 Z = true) (ws : List Jvm.Cond) (ov67 : Addr) (ya1 : Addr) (ok152 : ClassId) (yk2 : ClassId) (h0 : Heap) (n0 : Nat) (O0 : Old Z n0 h0) (F0 : Arv Z h0 ya1 yk2 .byte (2 : Int32) [(.int (97 : Int32)), (.int (110 : Int32))] (.int (0 : Int32))) (oV151 : Arv Z Z.heap ov67 ok152 .byte (3 : Int32) [(.int (97 : Int32)), (.int (110 : Int32)), (.int (115 : Int32))] (.int (0 : Int32))) :
    MetFree l (⟨cn3, "equals", "([B[B)Z"⟩ : MethodName) (head1 (Jvm.Cond.code (⟨cn3, "equals", "([B[B)Z"⟩ : MethodName) jdk_43_method_13_code 3 (some .boolean) :: ws) ({ frames := 0, cells := 0, slots := 0, locals := 0 } : Room)) (fun a U => a = #[(.ref ov67), (.ref ya1)] ∧ Z.Warmed39 U.vm ∧ U.heap = h0) (fun _ _ _ _ _ => True) (fun _ U o U' => ∃ v L, o = .returned v ∧ Q_r16_equals Z ov67 ya1 ok152 yk2 h0 n0 v U'.heap L ∧ FrameEnd U o U' L ({ frames := 0, cells := 0, slots := 0, locals := 0 } : Room).cells ({ frames := 0, cells := 0, slots := 0, locals := 0 } : Room).slots) := by
  refine MetFree.of_bodySF (plainFor_of_name pn_java_lang_StringLatin1) hisR ?_
  intro p e s m args below meth c s₁ Bd hml0 hP hK
  obtain ⟨rfl, hZ, hh⟩ := hP
  have hx := Bd.exec
  have hby := Bd.bytes
  have hlk := Bd.notSynchronized
  have hml : c.maxLocals = 3 := hml0
  have hown : s.vm.findClass cn3 = some m.cls := findClass_of_methodNamed Bd.named
  have hnm := (name_of_methodNamed Bd.named Bd.method).1
  have X0 : Stand p l e ({ frames := 0, cells := 0, slots := 0, locals := 0 } : Room) s m #[(.ref ov67), (.ref ya1)] below meth c s₁ [] 0 0 := Stand.of_body Bd
  have e0 : s₁.heap = h0 := by rw [← hh, Bd.state]; rfl
  have N0 := Fr.nil n0
  have K0 := Keep.refl h0 []
  have Z0 : n0 ≤ h0.size := O0.1 ▸ O0.2.1
  have hef : entryFrame m #[(.ref ov67), (.ref ya1)] 3 = mkF m 0 #[.val (.ref ov67), .val (.ref ya1), .unset] [] := by first | (simp [entryFrame, mkF, argsToLocals, Value.category]; done) | rfl
  rw [hef]
  refine Gets.out (Q := Q_r16_equals Z ov67 ya1 ok152 yk2 h0 n0) ?_
  show Gets p e below _ (s₁.setTop (mkF m 0 #[.val (.ref ov67), .val (.ref ya1), .unset] []))
  refine Gets.of (fun t k => XS.aloadN X0.here hx rfl (hb hby d4_0) rfl rfl  k) ?_
  obtain ⟨cl1, Ar1, -, S1, N_1, -, -⟩ := id ((oV151.ext O0.2))
  refine Gets.of (X0.arraylength hx (by rw [e0]; exact Ar1.1) (State.isArrayOf_alike hZ.alike Ar1.2.1) (g := (mkF m 1 #[.val (.ref ov67), .val (.ref ya1), .unset] [(.ref ov67)])) rfl rfl (hb hby d4_1)) ?_
  rw [len_of S1 N_1]
  show Gets p e below _ (s₁.setTop (mkF m 2 #[.val (.ref ov67), .val (.ref ya1), .unset] [(.int (3 : Int32))]))
  refine Gets.of (fun t k => XS.aloadN X0.here hx rfl (hb hby d4_2) rfl rfl  k) ?_
  obtain ⟨cl2, Ar2, -, S2, N_2, -, -⟩ := id (F0)
  refine Gets.of (X0.arraylength hx (by rw [e0]; exact Ar2.1) (State.isArrayOf_alike hZ.alike Ar2.2.1) (g := (mkF m 3 #[.val (.ref ov67), .val (.ref ya1), .unset] [(.ref ya1), (.int (3 : Int32))])) rfl rfl (hb hby d4_3)) ?_
  rw [len_of S2 N_2]
  show Gets p e below _ (s₁.setTop (mkF m 4 #[.val (.ref ov67), .val (.ref ya1), .unset] [(.int (2 : Int32)), (.int (3 : Int32))]))
  refine Gets.of (fun t k => XS.icmpYes X0.here hx rfl (pc0 := 4) (pc' := 34) rfl (hb hby d4_4) rfl (feq (by decide : ¬ ((3 : Int32) = (2 : Int32)))).2 (by decide) (by decide) k) ?_
  show Gets p e below _ (s₁.setTop (mkF m 34 #[.val (.ref ov67), .val (.ref ya1), .unset] []))
  refine Gets.of (fun t k => XS.iconst X0.here hx rfl (hb hby d4_34) k) ?_
  refine Gets.retN X0 hx (t := .boolean) Bd.returns (by simp) (hb hby d4_35) ?_ (by decide) (by decide)
  rw [e0]
  exact ⟨N0, rfl, rfl⟩
def Q_r15_equals (Z : State) (ov61 : Addr) (ya1 : Addr) (ov67 : Addr) (ok152 : ClassId) (ya2 : Addr) (yk3 : ClassId) (oi1 : Int32) (ok154 : ClassId) (h0 : Heap) (n0 : Nat) (v : Option Value) (h : Heap) (L : List Loc) : Prop := Fr n0 L ∧ h = h0 ∧ ((v = some (.int (0 : Int32))))
set_option maxRecDepth 65536 in
set_option maxHeartbeats 40000000 in
theorem r15_equals (l : Launch) (Z : State) (a0 : Array Value) (hw : ∀ d ∈ tables_1, d.before a0 Z = true) (ws : List Jvm.Cond) (ov61 : Addr) (ya1 : Addr) (ov67 : Addr) (ok152 : ClassId) (ya2 : Addr) (yk3 : ClassId) (oi1 : Int32) (ok154 : ClassId) (h0 : Heap) (n0 : Nat) (O0 : Old Z n0 h0) (F0 : Arv Z h0 ya2 yk3 .byte (2 : Int32) [(.int (97 : Int32)), (.int (110 : Int32))] (.int (0 : Int32))) (F1 : Fld Z h0 ya1 cn0 "value" "[B" (.ref ya2)) (F2 : Exa Z h0 ya1 cn0) (F3 : Fld Z h0 ya1 cn0 "coder" "B" (.int (0 : Int32))) (oV151 : Arv Z Z.heap ov67 ok152 .byte (3 : Int32) [(.int (97 : Int32)), (.int (110 : Int32)), (.int (115 : Int32))] (.int (0 : Int32))) (oF69 : Fld Z Z.heap ov61 cn0 "value" "[B" (.ref ov67)) (oS3 : Sta Z Z.heap cn0 "COMPACT_STRINGS" "Z" (.int oi1)) (oF66 : Fld Z Z.heap ov61 cn0 "coder" "B" (.int (0 : Int32))) (hy1 : ¬ (oi1 = (0 : Int32))) :
    MetFree l (⟨cn0, "equals", cn2⟩ : MethodName) (head1 (Jvm.Cond.code (⟨cn0, "equals", cn2⟩ : MethodName) jdk_42_method_66_code 3 (some .boolean) :: ws) ({ frames := 1, cells := 0, slots := 0, locals := 14 } : Room)) (fun a U => a = #[(.ref ov61), (.ref ya1)] ∧ Z.Warmed39 U.vm ∧ U.heap = h0) (fun _ _ _ _ _ => True) (fun _ U o U' => ∃ v L, o = .returned v ∧ Q_r15_equals Z ov61 ya1 ov67 ok152 ya2 yk3 oi1 ok154 h0 n0 v U'.heap L ∧ FrameEnd U o U' L ({ frames := 1, cells := 0, slots := 0, locals := 14 } : Room).cells ({ frames := 1, cells := 0, slots := 0, locals := 14 } : Room).slots) := by
  refine MetFree.of_bodySF (plainFor_of_name pn_java_lang_String) hisR ?_
  intro p e s m args below meth c s₁ Bd hml0 hP hK
  obtain ⟨rfl, hZ, hh⟩ := hP
  have hx := Bd.exec
  have hby := Bd.bytes
  have hlk := Bd.notSynchronized
  have hml : c.maxLocals = 3 := hml0
  have hown : s.vm.findClass cn0 = some m.cls := findClass_of_methodNamed Bd.named
  have hnm := (name_of_methodNamed Bd.named Bd.method).1
  have X0 : Stand p l e ({ frames := 1, cells := 0, slots := 0, locals := 14 } : Room) s m #[(.ref ov61), (.ref ya1)] below meth c s₁ [] 0 0 := Stand.of_body Bd
  have e0 : s₁.heap = h0 := by rw [← hh, Bd.state]; rfl
  have N0 := Fr.nil n0
  have K0 := Keep.refl h0 []
  have Z0 : n0 ≤ h0.size := O0.1 ▸ O0.2.1
  have hef : entryFrame m #[(.ref ov61), (.ref ya1)] 3 = mkF m 0 #[.val (.ref ov61), .val (.ref ya1), .unset] [] := by first | (simp [entryFrame, mkF, argsToLocals, Value.category]; done) | rfl
  rw [hef]
  refine Gets.out (Q := Q_r15_equals Z ov61 ya1 ov67 ok152 ya2 yk3 oi1 ok154 h0 n0) ?_
  show Gets p e below _ (s₁.setTop (mkF m 0 #[.val (.ref ov61), .val (.ref ya1), .unset] []))
  refine Gets.of (fun t k => XS.aloadN X0.here hx rfl (hb hby d3_0) rfl rfl  k) ?_
  refine Gets.of (fun t k => XS.aloadN X0.here hx rfl (hb hby d3_1) rfl rfl  k) ?_
  refine Gets.of (fun t k => Jvm.RoadKit.acmp (g := (mkF m 2 #[.val (.ref ov61), .val (.ref ya1), .unset] [(.ref ya1), (.ref ov61)])) X0 hx rfl rfl rfl (pc0 := 2) (pc' := 7) (same := false) rfl (hb hby d3_2) rfl (decide_eq_false fun q => (Fld.ne (oF69.ext O0.2) F1 (fun q => (arv_ne (oV151.ext O0.2) F0 (Or.inl (by decide))) (Value.ref.inj q))) (Value.ref.inj q)) (by decide) (by decide) k) ?_
  show Gets p e below _ (s₁.setTop (mkF m 7 #[.val (.ref ov61), .val (.ref ya1), .unset] []))
  refine Gets.of (fun t k => XS.aloadN X0.here hx rfl (hb hby d3_7) rfl rfl  k) ?_
  obtain ⟨T1, X1, e1, st1⟩ := instY X0 hx hZ hown (w28 hw) e0 (Ins.self F2) (g := (mkF m 8 #[.val (.ref ov61), .val (.ref ya1), .unset] [(.ref ya1)])) rfl rfl (hb hby d3_8)
  refine Gets.of st1 ?_
  show Gets p e below _ (T1.setTop (mkF m 11 #[.val (.ref ov61), .val (.ref ya1), .unset] [(.int (1 : Int32))]))
  refine Gets.of (fun t k => XS.ifNo X1.here hx rfl (hb hby d3_11) rfl ((if0 _ _).trans (feq (by decide : ¬ ((1 : Int32) = (0 : Int32)))).1) k) ?_
  show Gets p e below _ (T1.setTop (mkF m 14 #[.val (.ref ov61), .val (.ref ya1), .unset] []))
  refine Gets.of (fun t k => XS.aloadN X1.here hx rfl (hb hby d3_14) rfl rfl  k) ?_
  obtain ⟨T2, X2, e2, st2⟩ := castY X1 hx hZ hown (w28 hw) e1 (Ins.self F2) (g := (mkF m 15 #[.val (.ref ov61), .val (.ref ya1), .unset] [(.ref ya1)])) rfl rfl (hb hby d3_15)
  refine Gets.of st2 ?_
  show Gets p e below _ (T2.setTop (mkF m 18 #[.val (.ref ov61), .val (.ref ya1), .unset] [(.ref ya1)]))
  refine Gets.of (fun t k => XS.astoreN X2.here hx rfl (hb hby d3_18) rfl rfl (l' := #[.val (.ref ov61), .val (.ref ya1), .val (.ref ya1)]) rfl k) ?_
  show Gets p e below _ (T2.setTop (mkF m 19 #[.val (.ref ov61), .val (.ref ya1), .val (.ref ya1)] []))
  obtain ⟨T3, X3, e3, st3⟩ := getS2 X2 hx hZ hown (host := "") (Or.inl (w30 hw)) Via.refl e2 (oS3.ext O0.2) (g := (mkF m 19 #[.val (.ref ov61), .val (.ref ya1), .val (.ref ya1)] [])) rfl (hb hby d3_19)
  refine Gets.of st3 ?_
  show Gets p e below _ (T3.setTop (mkF m 22 #[.val (.ref ov61), .val (.ref ya1), .val (.ref ya1)] [(.int oi1)]))
  refine Gets.of (fun t k => XS.ifNo X3.here hx rfl (hb hby d3_22) rfl ((if0 _ _).trans (feq hy1).1) k) ?_
  show Gets p e below _ (T3.setTop (mkF m 25 #[.val (.ref ov61), .val (.ref ya1), .val (.ref ya1)] []))
  refine Gets.of (fun t k => XS.aloadN X3.here hx rfl (hb hby d3_25) rfl rfl  k) ?_
  obtain ⟨T4, X4, e4, st4⟩ := getF X3 hx hZ hown (host := "") (Or.inl (w31 hw)) Via.refl e3 (oF66.ext O0.2) (g := (mkF m 26 #[.val (.ref ov61), .val (.ref ya1), .val (.ref ya1)] [(.ref ov61)])) rfl rfl (hb hby d3_26)
  refine Gets.of st4 ?_
  show Gets p e below _ (T4.setTop (mkF m 29 #[.val (.ref ov61), .val (.ref ya1), .val (.ref ya1)] [(.int (0 : Int32))]))
  refine Gets.of (fun t k => XS.aloadN X4.here hx rfl (hb hby d3_29) rfl rfl  k) ?_
  obtain ⟨T5, X5, e5, st5⟩ := getF X4 hx hZ hown (host := "") (Or.inl (w31 hw)) Via.refl e4 F3 (g := (mkF m 30 #[.val (.ref ov61), .val (.ref ya1), .val (.ref ya1)] [(.ref ya1), (.int (0 : Int32))])) rfl rfl (hb hby d3_30)
  refine Gets.of st5 ?_
  show Gets p e below _ (T5.setTop (mkF m 33 #[.val (.ref ov61), .val (.ref ya1), .val (.ref ya1)] [(.int (0 : Int32)), (.int (0 : Int32))]))
  refine Gets.of (fun t k => XS.icmpNo X5.here hx rfl (hb hby d3_33) rfl (teq (by decide : (0 : Int32) = (0 : Int32))).2 k) ?_
  show Gets p e below _ (T5.setTop (mkF m 36 #[.val (.ref ov61), .val (.ref ya1), .val (.ref ya1)] []))
  refine Gets.of (fun t k => XS.aloadN X5.here hx rfl (hb hby d3_36) rfl rfl  k) ?_
  obtain ⟨T6, X6, e6, st6⟩ := getF X5 hx hZ hown (host := "") (Or.inl (w32 hw)) Via.refl e5 (oF69.ext O0.2) (g := (mkF m 37 #[.val (.ref ov61), .val (.ref ya1), .val (.ref ya1)] [(.ref ov61)])) rfl rfl (hb hby d3_37)
  refine Gets.of st6 ?_
  show Gets p e below _ (T6.setTop (mkF m 40 #[.val (.ref ov61), .val (.ref ya1), .val (.ref ya1)] [(.ref ov67)]))
  refine Gets.of (fun t k => XS.aloadN X6.here hx rfl (hb hby d3_40) rfl rfl  k) ?_
  obtain ⟨T7, X7, e7, st7⟩ := getF X6 hx hZ hown (host := "") (Or.inl (w32 hw)) Via.refl e6 F1 (g := (mkF m 41 #[.val (.ref ov61), .val (.ref ya1), .val (.ref ya1)] [(.ref ya1), (.ref ov67)])) rfl rfl (hb hby d3_41)
  refine Gets.of st7 ?_
  show Gets p e below _ (T7.setTop (mkF m 44 #[.val (.ref ov61), .val (.ref ya1), .val (.ref ya1)] [(.ref ya2), (.ref ov67)]))
  obtain ⟨_, _, ⟨T8, L8, k8, n8⟩, -, X8, ⟨Lc8, hQ8, l8, y8, z8⟩, st8⟩ := Jvm.LawKit.callS X7 hx (y := (⟨cn3, "equals", "([B[B)Z"⟩ : MethodName)) hown (mvT hZ (w33 hw)) (mvT hZ (w34 hw)) (mvT hZ (w35 hw)) (mvT hZ (w36 hw)) (by decide) (backOf (W := 0) (r16_equals l Z a0 hw [] ov67 ya2 ok152 yk3 h0 n0 O0 F0 oV151) hZ (w36 hw) (w35 hw) (by decide) (by decide)) (g := (mkF m 44 #[.val (.ref ov61), .val (.ref ya1), .val (.ref ya1)] [(.ref ya2), (.ref ov67)])) rfl (by rw [hml]; rfl) (argsL := [(.ref ov67), (.ref ya2)]) (rest := []) (lenOf pd__B_B_Z rfl) rfl (by show 2 * 0 + _ ≤ _; exact Nat.le_of_eq rfl) (hb hby d3_44) (fun _ _ => ⟨rfl, e7, (by decide : 0 + 0 ≤ _), (by decide : 0 + 0 ≤ _)⟩)
  dsimp only [Pt.U, Pt.locs, Pt.cells, Pt.slots] at X8 l8 y8 z8 st8 hQ8
  subst l8 y8 z8
  obtain ⟨Nq8, eq8, hR8⟩ := hQ8
  have N8 := Fr.app N0 Nq8
  obtain rfl := hR8
  refine Gets.of st8 ?_
  show Gets p e below _ (T8.setTop (mkF m 47 #[.val (.ref ov61), .val (.ref ya1), .val (.ref ya1)] [(.int (0 : Int32))]))
  refine Gets.of (fun t k => XS.ifYes X8.here hx rfl (pc0 := 47) (pc' := 54) rfl (hb hby d3_47) rfl ((if0 _ _).trans (teq (by decide : (0 : Int32) = (0 : Int32))).1) (by decide) (by decide) k) ?_
  show Gets p e below _ (T8.setTop (mkF m 54 #[.val (.ref ov61), .val (.ref ya1), .val (.ref ya1)] []))
  refine Gets.of (fun t k => XS.iconst X8.here hx rfl (hb hby d3_54) k) ?_
  refine Gets.retN X8 hx (t := .boolean) Bd.returns (by simp) (hb hby d3_55) ?_ (by decide) (by decide)
  rw [eq8]
  exact ⟨N8, rfl, rfl⟩
def Q_r18_equals (Z : State) (ov67 : Addr) (ya1 : Addr) (ok152 : ClassId) (yk2 : ClassId) (h0 : Heap) (n0 : Nat) (v : Option Value) (h : Heap) (L : List Loc) : Prop := Fr n0 L ∧ h = h0 ∧ ((v = some (.int (1 : Int32))))
set_option maxRecDepth 65536 in
set_option maxHeartbeats 40000000 in
theorem r18_equals (l : Launch) (Z : State) (a0 : Array Value) (hw : ∀ d ∈ tables_1, d.before a0 Z = true) (ws : List Jvm.Cond) (ov67 : Addr) (ya1 : Addr) (ok152 : ClassId) (yk2 : ClassId) (h0 : Heap) (n0 : Nat) (O0 : Old Z n0 h0) (F0 : Arv Z h0 ya1 yk2 .byte (3 : Int32) [(.int (97 : Int32)), (.int (110 : Int32)), (.int (115 : Int32))] (.int (0 : Int32))) (oV151 : Arv Z Z.heap ov67 ok152 .byte (3 : Int32) [(.int (97 : Int32)), (.int (110 : Int32)), (.int (115 : Int32))] (.int (0 : Int32))) :
    MetFree l (⟨cn3, "equals", "([B[B)Z"⟩ : MethodName) (head1 (Jvm.Cond.code (⟨cn3, "equals", "([B[B)Z"⟩ : MethodName) jdk_43_method_13_code 3 (some .boolean) :: ws) ({ frames := 0, cells := 0, slots := 0, locals := 0 } : Room)) (fun a U => a = #[(.ref ov67), (.ref ya1)] ∧ Z.Warmed39 U.vm ∧ U.heap = h0) (fun _ _ _ _ _ => True) (fun _ U o U' => ∃ v L, o = .returned v ∧ Q_r18_equals Z ov67 ya1 ok152 yk2 h0 n0 v U'.heap L ∧ FrameEnd U o U' L ({ frames := 0, cells := 0, slots := 0, locals := 0 } : Room).cells ({ frames := 0, cells := 0, slots := 0, locals := 0 } : Room).slots) := by
  refine MetFree.of_bodySF (plainFor_of_name pn_java_lang_StringLatin1) hisR ?_
  intro p e s m args below meth c s₁ Bd hml0 hP hK
  obtain ⟨rfl, hZ, hh⟩ := hP
  have hx := Bd.exec
  have hby := Bd.bytes
  have hlk := Bd.notSynchronized
  have hml : c.maxLocals = 3 := hml0
  have hown : s.vm.findClass cn3 = some m.cls := findClass_of_methodNamed Bd.named
  have hnm := (name_of_methodNamed Bd.named Bd.method).1
  have X0 : Stand p l e ({ frames := 0, cells := 0, slots := 0, locals := 0 } : Room) s m #[(.ref ov67), (.ref ya1)] below meth c s₁ [] 0 0 := Stand.of_body Bd
  have e0 : s₁.heap = h0 := by rw [← hh, Bd.state]; rfl
  have N0 := Fr.nil n0
  have K0 := Keep.refl h0 []
  have Z0 : n0 ≤ h0.size := O0.1 ▸ O0.2.1
  have hef : entryFrame m #[(.ref ov67), (.ref ya1)] 3 = mkF m 0 #[.val (.ref ov67), .val (.ref ya1), .unset] [] := by first | (simp [entryFrame, mkF, argsToLocals, Value.category]; done) | rfl
  rw [hef]
  refine Gets.out (Q := Q_r18_equals Z ov67 ya1 ok152 yk2 h0 n0) ?_
  show Gets p e below _ (s₁.setTop (mkF m 0 #[.val (.ref ov67), .val (.ref ya1), .unset] []))
  refine Gets.of (fun t k => XS.aloadN X0.here hx rfl (hb hby d4_0) rfl rfl  k) ?_
  obtain ⟨cl1, Ar1, -, S1, N_1, -, -⟩ := id ((oV151.ext O0.2))
  refine Gets.of (X0.arraylength hx (by rw [e0]; exact Ar1.1) (State.isArrayOf_alike hZ.alike Ar1.2.1) (g := (mkF m 1 #[.val (.ref ov67), .val (.ref ya1), .unset] [(.ref ov67)])) rfl rfl (hb hby d4_1)) ?_
  rw [len_of S1 N_1]
  show Gets p e below _ (s₁.setTop (mkF m 2 #[.val (.ref ov67), .val (.ref ya1), .unset] [(.int (3 : Int32))]))
  refine Gets.of (fun t k => XS.aloadN X0.here hx rfl (hb hby d4_2) rfl rfl  k) ?_
  obtain ⟨cl2, Ar2, -, S2, N_2, -, -⟩ := id (F0)
  refine Gets.of (X0.arraylength hx (by rw [e0]; exact Ar2.1) (State.isArrayOf_alike hZ.alike Ar2.2.1) (g := (mkF m 3 #[.val (.ref ov67), .val (.ref ya1), .unset] [(.ref ya1), (.int (3 : Int32))])) rfl rfl (hb hby d4_3)) ?_
  rw [len_of S2 N_2]
  show Gets p e below _ (s₁.setTop (mkF m 4 #[.val (.ref ov67), .val (.ref ya1), .unset] [(.int (3 : Int32)), (.int (3 : Int32))]))
  refine Gets.of (fun t k => XS.icmpNo X0.here hx rfl (hb hby d4_4) rfl (teq (by decide : (3 : Int32) = (3 : Int32))).2 k) ?_
  show Gets p e below _ (s₁.setTop (mkF m 7 #[.val (.ref ov67), .val (.ref ya1), .unset] []))
  refine Gets.of (fun t k => XS.iconst X0.here hx rfl (hb hby d4_7) k) ?_
  refine Gets.of (fun t k => XS.istoreN X0.here hx rfl (hb hby d4_8) rfl (l' := #[.val (.ref ov67), .val (.ref ya1), .val (.int (0 : Int32))]) rfl k) ?_
  show Gets p e below _ (s₁.setTop (mkF m 9 #[.val (.ref ov67), .val (.ref ya1), .val (.int (0 : Int32))] []))
  refine Gets.of (fun t k => XS.iloadN X0.here hx rfl (hb hby d4_9) rfl  k) ?_
  refine Gets.of (fun t k => XS.aloadN X0.here hx rfl (hb hby d4_10) rfl rfl  k) ?_
  obtain ⟨cl3, Ar3, -, S3, N_3, -, -⟩ := id ((oV151.ext O0.2))
  refine Gets.of (X0.arraylength hx (by rw [e0]; exact Ar3.1) (State.isArrayOf_alike hZ.alike Ar3.2.1) (g := (mkF m 11 #[.val (.ref ov67), .val (.ref ya1), .val (.int (0 : Int32))] [(.ref ov67), (.int (0 : Int32))])) rfl rfl (hb hby d4_11)) ?_
  rw [len_of S3 N_3]
  show Gets p e below _ (s₁.setTop (mkF m 12 #[.val (.ref ov67), .val (.ref ya1), .val (.int (0 : Int32))] [(.int (3 : Int32)), (.int (0 : Int32))]))
  refine Gets.of (fun t k => XS.icmpNo X0.here hx rfl (hb hby d4_12) rfl (tlt (by decide : (0 : Int32) < (3 : Int32))).2.1 k) ?_
  show Gets p e below _ (s₁.setTop (mkF m 15 #[.val (.ref ov67), .val (.ref ya1), .val (.int (0 : Int32))] []))
  refine Gets.of (fun t k => XS.aloadN X0.here hx rfl (hb hby d4_15) rfl rfl  k) ?_
  refine Gets.of (fun t k => XS.iloadN X0.here hx rfl (hb hby d4_16) rfl  k) ?_
  obtain ⟨cl4, Ar4, q4, S4, N_4, H4, G4⟩ := id ((oV151.ext O0.2))
  have hin4 : ¬ ((0 : Int32) < 0 ∨ cl4.slots.size ≤ ((0 : Int32)).toNatClampNeg) := inb_of S4 ⟨by decide, by decide⟩
  refine Gets.of (fun t k => X0.baloadBytes hx (j := (0 : Int32)) (v := (.int (97 : Int32))) (by rw [e0]; exact Ar4.1) (State.isArrayOf_alike hZ.alike Ar4.2.1) Ar4.2.2 hin4 (Has.at H4 hin4 rfl) (g := (mkF m 17 #[.val (.ref ov67), .val (.ref ya1), .val (.int (0 : Int32))] [(.int (0 : Int32)), (.ref ov67)])) rfl rfl (hb hby d4_17) t k) ?_
  show Gets p e below _ (s₁.setTop (mkF m 18 #[.val (.ref ov67), .val (.ref ya1), .val (.int (0 : Int32))] [(.int (97 : Int32))]))
  refine Gets.of (fun t k => XS.aloadN X0.here hx rfl (hb hby d4_18) rfl rfl  k) ?_
  refine Gets.of (fun t k => XS.iloadN X0.here hx rfl (hb hby d4_19) rfl  k) ?_
  obtain ⟨cl5, Ar5, q5, S5, N_5, H5, G5⟩ := id (F0)
  have hin5 : ¬ ((0 : Int32) < 0 ∨ cl5.slots.size ≤ ((0 : Int32)).toNatClampNeg) := inb_of S5 ⟨by decide, by decide⟩
  refine Gets.of (fun t k => X0.baloadBytes hx (j := (0 : Int32)) (v := (.int (97 : Int32))) (by rw [e0]; exact Ar5.1) (State.isArrayOf_alike hZ.alike Ar5.2.1) Ar5.2.2 hin5 (Has.at H5 hin5 rfl) (g := (mkF m 20 #[.val (.ref ov67), .val (.ref ya1), .val (.int (0 : Int32))] [(.int (0 : Int32)), (.ref ya1), (.int (97 : Int32))])) rfl rfl (hb hby d4_20) t k) ?_
  show Gets p e below _ (s₁.setTop (mkF m 21 #[.val (.ref ov67), .val (.ref ya1), .val (.int (0 : Int32))] [(.int (97 : Int32)), (.int (97 : Int32))]))
  refine Gets.of (fun t k => XS.icmpYes X0.here hx rfl (pc0 := 21) (pc' := 26) rfl (hb hby d4_21) rfl (teq (by decide : (97 : Int32) = (97 : Int32))).1 (by decide) (by decide) k) ?_
  show Gets p e below _ (s₁.setTop (mkF m 26 #[.val (.ref ov67), .val (.ref ya1), .val (.int (0 : Int32))] []))
  refine Gets.of (fun t k => XS.iinc X0.here hx rfl (hb hby d4_26) rfl (l' := #[.val (.ref ov67), .val (.ref ya1), .val (.int (1 : Int32))]) rfl k) ?_
  show Gets p e below _ (s₁.setTop (mkF m 29 #[.val (.ref ov67), .val (.ref ya1), .val (.int (1 : Int32))] []))
  refine Gets.of (fun t k => XS.goto X0.here hx rfl (pc0 := 29) (pc' := 9) rfl (hb hby d4_29) (by decide) (by decide) k) ?_
  show Gets p e below _ (s₁.setTop (mkF m 9 #[.val (.ref ov67), .val (.ref ya1), .val (.int (1 : Int32))] []))
  refine Gets.of (fun t k => XS.iloadN X0.here hx rfl (hb hby d4_9) rfl  k) ?_
  refine Gets.of (fun t k => XS.aloadN X0.here hx rfl (hb hby d4_10) rfl rfl  k) ?_
  obtain ⟨cl6, Ar6, -, S6, N_6, -, -⟩ := id ((oV151.ext O0.2))
  refine Gets.of (X0.arraylength hx (by rw [e0]; exact Ar6.1) (State.isArrayOf_alike hZ.alike Ar6.2.1) (g := (mkF m 11 #[.val (.ref ov67), .val (.ref ya1), .val (.int (1 : Int32))] [(.ref ov67), (.int (1 : Int32))])) rfl rfl (hb hby d4_11)) ?_
  rw [len_of S6 N_6]
  show Gets p e below _ (s₁.setTop (mkF m 12 #[.val (.ref ov67), .val (.ref ya1), .val (.int (1 : Int32))] [(.int (3 : Int32)), (.int (1 : Int32))]))
  refine Gets.of (fun t k => XS.icmpNo X0.here hx rfl (hb hby d4_12) rfl (tlt (by decide : (1 : Int32) < (3 : Int32))).2.1 k) ?_
  show Gets p e below _ (s₁.setTop (mkF m 15 #[.val (.ref ov67), .val (.ref ya1), .val (.int (1 : Int32))] []))
  refine Gets.of (fun t k => XS.aloadN X0.here hx rfl (hb hby d4_15) rfl rfl  k) ?_
  refine Gets.of (fun t k => XS.iloadN X0.here hx rfl (hb hby d4_16) rfl  k) ?_
  obtain ⟨cl7, Ar7, q7, S7, N_7, H7, G7⟩ := id ((oV151.ext O0.2))
  have hin7 : ¬ ((1 : Int32) < 0 ∨ cl7.slots.size ≤ ((1 : Int32)).toNatClampNeg) := inb_of S7 ⟨by decide, by decide⟩
  refine Gets.of (fun t k => X0.baloadBytes hx (j := (1 : Int32)) (v := (.int (110 : Int32))) (by rw [e0]; exact Ar7.1) (State.isArrayOf_alike hZ.alike Ar7.2.1) Ar7.2.2 hin7 (Has.at H7 hin7 rfl) (g := (mkF m 17 #[.val (.ref ov67), .val (.ref ya1), .val (.int (1 : Int32))] [(.int (1 : Int32)), (.ref ov67)])) rfl rfl (hb hby d4_17) t k) ?_
  show Gets p e below _ (s₁.setTop (mkF m 18 #[.val (.ref ov67), .val (.ref ya1), .val (.int (1 : Int32))] [(.int (110 : Int32))]))
  refine Gets.of (fun t k => XS.aloadN X0.here hx rfl (hb hby d4_18) rfl rfl  k) ?_
  refine Gets.of (fun t k => XS.iloadN X0.here hx rfl (hb hby d4_19) rfl  k) ?_
  obtain ⟨cl8, Ar8, q8, S8, N_8, H8, G8⟩ := id (F0)
  have hin8 : ¬ ((1 : Int32) < 0 ∨ cl8.slots.size ≤ ((1 : Int32)).toNatClampNeg) := inb_of S8 ⟨by decide, by decide⟩
  refine Gets.of (fun t k => X0.baloadBytes hx (j := (1 : Int32)) (v := (.int (110 : Int32))) (by rw [e0]; exact Ar8.1) (State.isArrayOf_alike hZ.alike Ar8.2.1) Ar8.2.2 hin8 (Has.at H8 hin8 rfl) (g := (mkF m 20 #[.val (.ref ov67), .val (.ref ya1), .val (.int (1 : Int32))] [(.int (1 : Int32)), (.ref ya1), (.int (110 : Int32))])) rfl rfl (hb hby d4_20) t k) ?_
  show Gets p e below _ (s₁.setTop (mkF m 21 #[.val (.ref ov67), .val (.ref ya1), .val (.int (1 : Int32))] [(.int (110 : Int32)), (.int (110 : Int32))]))
  refine Gets.of (fun t k => XS.icmpYes X0.here hx rfl (pc0 := 21) (pc' := 26) rfl (hb hby d4_21) rfl (teq (by decide : (110 : Int32) = (110 : Int32))).1 (by decide) (by decide) k) ?_
  show Gets p e below _ (s₁.setTop (mkF m 26 #[.val (.ref ov67), .val (.ref ya1), .val (.int (1 : Int32))] []))
  refine Gets.of (fun t k => XS.iinc X0.here hx rfl (hb hby d4_26) rfl (l' := #[.val (.ref ov67), .val (.ref ya1), .val (.int (2 : Int32))]) rfl k) ?_
  show Gets p e below _ (s₁.setTop (mkF m 29 #[.val (.ref ov67), .val (.ref ya1), .val (.int (2 : Int32))] []))
  refine Gets.of (fun t k => XS.goto X0.here hx rfl (pc0 := 29) (pc' := 9) rfl (hb hby d4_29) (by decide) (by decide) k) ?_
  show Gets p e below _ (s₁.setTop (mkF m 9 #[.val (.ref ov67), .val (.ref ya1), .val (.int (2 : Int32))] []))
  refine Gets.of (fun t k => XS.iloadN X0.here hx rfl (hb hby d4_9) rfl  k) ?_
  refine Gets.of (fun t k => XS.aloadN X0.here hx rfl (hb hby d4_10) rfl rfl  k) ?_
  obtain ⟨cl9, Ar9, -, S9, N_9, -, -⟩ := id ((oV151.ext O0.2))
  refine Gets.of (X0.arraylength hx (by rw [e0]; exact Ar9.1) (State.isArrayOf_alike hZ.alike Ar9.2.1) (g := (mkF m 11 #[.val (.ref ov67), .val (.ref ya1), .val (.int (2 : Int32))] [(.ref ov67), (.int (2 : Int32))])) rfl rfl (hb hby d4_11)) ?_
  rw [len_of S9 N_9]
  show Gets p e below _ (s₁.setTop (mkF m 12 #[.val (.ref ov67), .val (.ref ya1), .val (.int (2 : Int32))] [(.int (3 : Int32)), (.int (2 : Int32))]))
  refine Gets.of (fun t k => XS.icmpNo X0.here hx rfl (hb hby d4_12) rfl (tlt (by decide : (2 : Int32) < (3 : Int32))).2.1 k) ?_
  show Gets p e below _ (s₁.setTop (mkF m 15 #[.val (.ref ov67), .val (.ref ya1), .val (.int (2 : Int32))] []))
  refine Gets.of (fun t k => XS.aloadN X0.here hx rfl (hb hby d4_15) rfl rfl  k) ?_
  refine Gets.of (fun t k => XS.iloadN X0.here hx rfl (hb hby d4_16) rfl  k) ?_
  obtain ⟨cl10, Ar10, q10, S10, N_10, H10, G10⟩ := id ((oV151.ext O0.2))
  have hin10 : ¬ ((2 : Int32) < 0 ∨ cl10.slots.size ≤ ((2 : Int32)).toNatClampNeg) := inb_of S10 ⟨by decide, by decide⟩
  refine Gets.of (fun t k => X0.baloadBytes hx (j := (2 : Int32)) (v := (.int (115 : Int32))) (by rw [e0]; exact Ar10.1) (State.isArrayOf_alike hZ.alike Ar10.2.1) Ar10.2.2 hin10 (Has.at H10 hin10 rfl) (g := (mkF m 17 #[.val (.ref ov67), .val (.ref ya1), .val (.int (2 : Int32))] [(.int (2 : Int32)), (.ref ov67)])) rfl rfl (hb hby d4_17) t k) ?_
  show Gets p e below _ (s₁.setTop (mkF m 18 #[.val (.ref ov67), .val (.ref ya1), .val (.int (2 : Int32))] [(.int (115 : Int32))]))
  refine Gets.of (fun t k => XS.aloadN X0.here hx rfl (hb hby d4_18) rfl rfl  k) ?_
  refine Gets.of (fun t k => XS.iloadN X0.here hx rfl (hb hby d4_19) rfl  k) ?_
  obtain ⟨cl11, Ar11, q11, S11, N_11, H11, G11⟩ := id (F0)
  have hin11 : ¬ ((2 : Int32) < 0 ∨ cl11.slots.size ≤ ((2 : Int32)).toNatClampNeg) := inb_of S11 ⟨by decide, by decide⟩
  refine Gets.of (fun t k => X0.baloadBytes hx (j := (2 : Int32)) (v := (.int (115 : Int32))) (by rw [e0]; exact Ar11.1) (State.isArrayOf_alike hZ.alike Ar11.2.1) Ar11.2.2 hin11 (Has.at H11 hin11 rfl) (g := (mkF m 20 #[.val (.ref ov67), .val (.ref ya1), .val (.int (2 : Int32))] [(.int (2 : Int32)), (.ref ya1), (.int (115 : Int32))])) rfl rfl (hb hby d4_20) t k) ?_
  show Gets p e below _ (s₁.setTop (mkF m 21 #[.val (.ref ov67), .val (.ref ya1), .val (.int (2 : Int32))] [(.int (115 : Int32)), (.int (115 : Int32))]))
  refine Gets.of (fun t k => XS.icmpYes X0.here hx rfl (pc0 := 21) (pc' := 26) rfl (hb hby d4_21) rfl (teq (by decide : (115 : Int32) = (115 : Int32))).1 (by decide) (by decide) k) ?_
  show Gets p e below _ (s₁.setTop (mkF m 26 #[.val (.ref ov67), .val (.ref ya1), .val (.int (2 : Int32))] []))
  refine Gets.of (fun t k => XS.iinc X0.here hx rfl (hb hby d4_26) rfl (l' := #[.val (.ref ov67), .val (.ref ya1), .val (.int (3 : Int32))]) rfl k) ?_
  show Gets p e below _ (s₁.setTop (mkF m 29 #[.val (.ref ov67), .val (.ref ya1), .val (.int (3 : Int32))] []))
  refine Gets.of (fun t k => XS.goto X0.here hx rfl (pc0 := 29) (pc' := 9) rfl (hb hby d4_29) (by decide) (by decide) k) ?_
  show Gets p e below _ (s₁.setTop (mkF m 9 #[.val (.ref ov67), .val (.ref ya1), .val (.int (3 : Int32))] []))
  refine Gets.of (fun t k => XS.iloadN X0.here hx rfl (hb hby d4_9) rfl  k) ?_
  refine Gets.of (fun t k => XS.aloadN X0.here hx rfl (hb hby d4_10) rfl rfl  k) ?_
  obtain ⟨cl12, Ar12, -, S12, N_12, -, -⟩ := id ((oV151.ext O0.2))
  refine Gets.of (X0.arraylength hx (by rw [e0]; exact Ar12.1) (State.isArrayOf_alike hZ.alike Ar12.2.1) (g := (mkF m 11 #[.val (.ref ov67), .val (.ref ya1), .val (.int (3 : Int32))] [(.ref ov67), (.int (3 : Int32))])) rfl rfl (hb hby d4_11)) ?_
  rw [len_of S12 N_12]
  show Gets p e below _ (s₁.setTop (mkF m 12 #[.val (.ref ov67), .val (.ref ya1), .val (.int (3 : Int32))] [(.int (3 : Int32)), (.int (3 : Int32))]))
  refine Gets.of (fun t k => XS.icmpYes X0.here hx rfl (pc0 := 12) (pc' := 32) rfl (hb hby d4_12) rfl (flt (by decide : ¬ ((3 : Int32) < (3 : Int32)))).2.1 (by decide) (by decide) k) ?_
  show Gets p e below _ (s₁.setTop (mkF m 32 #[.val (.ref ov67), .val (.ref ya1), .val (.int (3 : Int32))] []))
  refine Gets.of (fun t k => XS.iconst X0.here hx rfl (hb hby d4_32) k) ?_
  refine Gets.retN X0 hx (t := .boolean) Bd.returns (by simp) (hb hby d4_33) ?_ (by decide) (by decide)
  rw [e0]
  exact ⟨N0, rfl, rfl⟩
def Q_r17_equals (Z : State) (ov61 : Addr) (ya1 : Addr) (oi1 : Int32) (ov67 : Addr) (ya2 : Addr) (yk3 : ClassId) (ok152 : ClassId) (h0 : Heap) (n0 : Nat) (v : Option Value) (h : Heap) (L : List Loc) : Prop := Fr n0 L ∧ h = h0 ∧ ((v = some (.int (1 : Int32))))
set_option maxRecDepth 65536 in
set_option maxHeartbeats 40000000 in
theorem r17_equals (l : Launch) (Z : State) (a0 : Array Value) (hw : ∀ d ∈ tables_1, d.before a0 Z = true) (ws : List Jvm.Cond) (ov61 : Addr) (ya1 : Addr) (oi1 : Int32) (ov67 : Addr) (ya2 : Addr) (yk3 : ClassId) (ok152 : ClassId) (h0 : Heap) (n0 : Nat) (O0 : Old Z n0 h0) (F0 : Exa Z h0 ya1 cn0) (F1 : Fld Z h0 ya1 cn0 "coder" "B" (.int (0 : Int32))) (F2 : Fld Z h0 ya1 cn0 "value" "[B" (.ref ya2)) (F3 : Arv Z h0 ya2 yk3 .byte (3 : Int32) [(.int (97 : Int32)), (.int (110 : Int32)), (.int (115 : Int32))] (.int (0 : Int32))) (oS3 : Sta Z Z.heap cn0 "COMPACT_STRINGS" "Z" (.int oi1)) (oF66 : Fld Z Z.heap ov61 cn0 "coder" "B" (.int (0 : Int32))) (oF69 : Fld Z Z.heap ov61 cn0 "value" "[B" (.ref ov67)) (oV151 : Arv Z Z.heap ov67 ok152 .byte (3 : Int32) [(.int (97 : Int32)), (.int (110 : Int32)), (.int (115 : Int32))] (.int (0 : Int32))) (hy1 : ¬ (oi1 = (0 : Int32))) :
    MetFree l (⟨cn0, "equals", cn2⟩ : MethodName) (head1 (Jvm.Cond.code (⟨cn0, "equals", cn2⟩ : MethodName) jdk_42_method_66_code 3 (some .boolean) :: ws) ({ frames := 1, cells := 0, slots := 0, locals := 14 } : Room)) (fun a U => a = #[(.ref ov61), (.ref ya1)] ∧ Z.Warmed39 U.vm ∧ U.heap = h0) (fun _ _ _ _ _ => True) (fun _ U o U' => ∃ v L, o = .returned v ∧ Q_r17_equals Z ov61 ya1 oi1 ov67 ya2 yk3 ok152 h0 n0 v U'.heap L ∧ FrameEnd U o U' L ({ frames := 1, cells := 0, slots := 0, locals := 14 } : Room).cells ({ frames := 1, cells := 0, slots := 0, locals := 14 } : Room).slots) := by
  refine MetFree.of_bodySF (plainFor_of_name pn_java_lang_String) hisR ?_
  intro p e s m args below meth c s₁ Bd hml0 hP hK
  obtain ⟨rfl, hZ, hh⟩ := hP
  have hx := Bd.exec
  have hby := Bd.bytes
  have hlk := Bd.notSynchronized
  have hml : c.maxLocals = 3 := hml0
  have hown : s.vm.findClass cn0 = some m.cls := findClass_of_methodNamed Bd.named
  have hnm := (name_of_methodNamed Bd.named Bd.method).1
  have X0 : Stand p l e ({ frames := 1, cells := 0, slots := 0, locals := 14 } : Room) s m #[(.ref ov61), (.ref ya1)] below meth c s₁ [] 0 0 := Stand.of_body Bd
  have e0 : s₁.heap = h0 := by rw [← hh, Bd.state]; rfl
  have N0 := Fr.nil n0
  have K0 := Keep.refl h0 []
  have Z0 : n0 ≤ h0.size := O0.1 ▸ O0.2.1
  have hef : entryFrame m #[(.ref ov61), (.ref ya1)] 3 = mkF m 0 #[.val (.ref ov61), .val (.ref ya1), .unset] [] := by first | (simp [entryFrame, mkF, argsToLocals, Value.category]; done) | rfl
  rw [hef]
  refine Gets.out (Q := Q_r17_equals Z ov61 ya1 oi1 ov67 ya2 yk3 ok152 h0 n0) ?_
  show Gets p e below _ (s₁.setTop (mkF m 0 #[.val (.ref ov61), .val (.ref ya1), .unset] []))
  refine Gets.of (fun t k => XS.aloadN X0.here hx rfl (hb hby d3_0) rfl rfl  k) ?_
  refine Gets.of (fun t k => XS.aloadN X0.here hx rfl (hb hby d3_1) rfl rfl  k) ?_
  by_cases hc1 : ov61 = ya1
  · skip
    refine Gets.of (fun t k => Jvm.RoadKit.acmp (g := (mkF m 2 #[.val (.ref ov61), .val (.ref ya1), .unset] [(.ref ya1), (.ref ov61)])) X0 hx rfl rfl rfl (pc0 := 2) (pc' := 5) (same := true) rfl (hb hby d3_2) rfl (decide_eq_true (congrArg Value.ref hc1)) (by decide) (by decide) k) ?_
    show Gets p e below _ (s₁.setTop (mkF m 5 #[.val (.ref ov61), .val (.ref ya1), .unset] []))
    refine Gets.of (fun t k => XS.iconst X0.here hx rfl (hb hby d3_5) k) ?_
    refine Gets.retN X0 hx (t := .boolean) Bd.returns (by simp) (hb hby d3_6) ?_ (by decide) (by decide)
    rw [e0]
    exact ⟨N0, rfl, rfl⟩
  · skip
    refine Gets.of (fun t k => Jvm.RoadKit.acmp (g := (mkF m 2 #[.val (.ref ov61), .val (.ref ya1), .unset] [(.ref ya1), (.ref ov61)])) X0 hx rfl rfl rfl (pc0 := 2) (pc' := 7) (same := false) rfl (hb hby d3_2) rfl (decide_eq_false fun q => hc1 (Value.ref.inj q)) (by decide) (by decide) k) ?_
    show Gets p e below _ (s₁.setTop (mkF m 7 #[.val (.ref ov61), .val (.ref ya1), .unset] []))
    refine Gets.of (fun t k => XS.aloadN X0.here hx rfl (hb hby d3_7) rfl rfl  k) ?_
    obtain ⟨T2, X2, e2, st2⟩ := instY X0 hx hZ hown (w28 hw) e0 (Ins.self F0) (g := (mkF m 8 #[.val (.ref ov61), .val (.ref ya1), .unset] [(.ref ya1)])) rfl rfl (hb hby d3_8)
    refine Gets.of st2 ?_
    show Gets p e below _ (T2.setTop (mkF m 11 #[.val (.ref ov61), .val (.ref ya1), .unset] [(.int (1 : Int32))]))
    refine Gets.of (fun t k => XS.ifNo X2.here hx rfl (hb hby d3_11) rfl ((if0 _ _).trans (feq (by decide : ¬ ((1 : Int32) = (0 : Int32)))).1) k) ?_
    show Gets p e below _ (T2.setTop (mkF m 14 #[.val (.ref ov61), .val (.ref ya1), .unset] []))
    refine Gets.of (fun t k => XS.aloadN X2.here hx rfl (hb hby d3_14) rfl rfl  k) ?_
    obtain ⟨T3, X3, e3, st3⟩ := castY X2 hx hZ hown (w28 hw) e2 (Ins.self F0) (g := (mkF m 15 #[.val (.ref ov61), .val (.ref ya1), .unset] [(.ref ya1)])) rfl rfl (hb hby d3_15)
    refine Gets.of st3 ?_
    show Gets p e below _ (T3.setTop (mkF m 18 #[.val (.ref ov61), .val (.ref ya1), .unset] [(.ref ya1)]))
    refine Gets.of (fun t k => XS.astoreN X3.here hx rfl (hb hby d3_18) rfl rfl (l' := #[.val (.ref ov61), .val (.ref ya1), .val (.ref ya1)]) rfl k) ?_
    show Gets p e below _ (T3.setTop (mkF m 19 #[.val (.ref ov61), .val (.ref ya1), .val (.ref ya1)] []))
    obtain ⟨T4, X4, e4, st4⟩ := getS2 X3 hx hZ hown (host := "") (Or.inl (w30 hw)) Via.refl e3 (oS3.ext O0.2) (g := (mkF m 19 #[.val (.ref ov61), .val (.ref ya1), .val (.ref ya1)] [])) rfl (hb hby d3_19)
    refine Gets.of st4 ?_
    show Gets p e below _ (T4.setTop (mkF m 22 #[.val (.ref ov61), .val (.ref ya1), .val (.ref ya1)] [(.int oi1)]))
    refine Gets.of (fun t k => XS.ifNo X4.here hx rfl (hb hby d3_22) rfl ((if0 _ _).trans (feq hy1).1) k) ?_
    show Gets p e below _ (T4.setTop (mkF m 25 #[.val (.ref ov61), .val (.ref ya1), .val (.ref ya1)] []))
    refine Gets.of (fun t k => XS.aloadN X4.here hx rfl (hb hby d3_25) rfl rfl  k) ?_
    obtain ⟨T5, X5, e5, st5⟩ := getF X4 hx hZ hown (host := "") (Or.inl (w31 hw)) Via.refl e4 (oF66.ext O0.2) (g := (mkF m 26 #[.val (.ref ov61), .val (.ref ya1), .val (.ref ya1)] [(.ref ov61)])) rfl rfl (hb hby d3_26)
    refine Gets.of st5 ?_
    show Gets p e below _ (T5.setTop (mkF m 29 #[.val (.ref ov61), .val (.ref ya1), .val (.ref ya1)] [(.int (0 : Int32))]))
    refine Gets.of (fun t k => XS.aloadN X5.here hx rfl (hb hby d3_29) rfl rfl  k) ?_
    obtain ⟨T6, X6, e6, st6⟩ := getF X5 hx hZ hown (host := "") (Or.inl (w31 hw)) Via.refl e5 F1 (g := (mkF m 30 #[.val (.ref ov61), .val (.ref ya1), .val (.ref ya1)] [(.ref ya1), (.int (0 : Int32))])) rfl rfl (hb hby d3_30)
    refine Gets.of st6 ?_
    show Gets p e below _ (T6.setTop (mkF m 33 #[.val (.ref ov61), .val (.ref ya1), .val (.ref ya1)] [(.int (0 : Int32)), (.int (0 : Int32))]))
    refine Gets.of (fun t k => XS.icmpNo X6.here hx rfl (hb hby d3_33) rfl (teq (by decide : (0 : Int32) = (0 : Int32))).2 k) ?_
    show Gets p e below _ (T6.setTop (mkF m 36 #[.val (.ref ov61), .val (.ref ya1), .val (.ref ya1)] []))
    refine Gets.of (fun t k => XS.aloadN X6.here hx rfl (hb hby d3_36) rfl rfl  k) ?_
    obtain ⟨T7, X7, e7, st7⟩ := getF X6 hx hZ hown (host := "") (Or.inl (w32 hw)) Via.refl e6 (oF69.ext O0.2) (g := (mkF m 37 #[.val (.ref ov61), .val (.ref ya1), .val (.ref ya1)] [(.ref ov61)])) rfl rfl (hb hby d3_37)
    refine Gets.of st7 ?_
    show Gets p e below _ (T7.setTop (mkF m 40 #[.val (.ref ov61), .val (.ref ya1), .val (.ref ya1)] [(.ref ov67)]))
    refine Gets.of (fun t k => XS.aloadN X7.here hx rfl (hb hby d3_40) rfl rfl  k) ?_
    obtain ⟨T8, X8, e8, st8⟩ := getF X7 hx hZ hown (host := "") (Or.inl (w32 hw)) Via.refl e7 F2 (g := (mkF m 41 #[.val (.ref ov61), .val (.ref ya1), .val (.ref ya1)] [(.ref ya1), (.ref ov67)])) rfl rfl (hb hby d3_41)
    refine Gets.of st8 ?_
    show Gets p e below _ (T8.setTop (mkF m 44 #[.val (.ref ov61), .val (.ref ya1), .val (.ref ya1)] [(.ref ya2), (.ref ov67)]))
    obtain ⟨_, _, ⟨T9, L9, k9, n9⟩, -, X9, ⟨Lc9, hQ9, l9, y9, z9⟩, st9⟩ := Jvm.LawKit.callS X8 hx (y := (⟨cn3, "equals", "([B[B)Z"⟩ : MethodName)) hown (mvT hZ (w33 hw)) (mvT hZ (w34 hw)) (mvT hZ (w35 hw)) (mvT hZ (w36 hw)) (by decide) (backOf (W := 0) (r18_equals l Z a0 hw [] ov67 ya2 ok152 yk3 h0 n0 O0 F3 oV151) hZ (w36 hw) (w35 hw) (by decide) (by decide)) (g := (mkF m 44 #[.val (.ref ov61), .val (.ref ya1), .val (.ref ya1)] [(.ref ya2), (.ref ov67)])) rfl (by rw [hml]; rfl) (argsL := [(.ref ov67), (.ref ya2)]) (rest := []) (lenOf pd__B_B_Z rfl) rfl (by show 2 * 0 + _ ≤ _; exact Nat.le_of_eq rfl) (hb hby d3_44) (fun _ _ => ⟨rfl, e8, (by decide : 0 + 0 ≤ _), (by decide : 0 + 0 ≤ _)⟩)
    dsimp only [Pt.U, Pt.locs, Pt.cells, Pt.slots] at X9 l9 y9 z9 st9 hQ9
    subst l9 y9 z9
    obtain ⟨Nq9, eq9, hR9⟩ := hQ9
    have N9 := Fr.app N0 Nq9
    obtain rfl := hR9
    refine Gets.of st9 ?_
    show Gets p e below _ (T9.setTop (mkF m 47 #[.val (.ref ov61), .val (.ref ya1), .val (.ref ya1)] [(.int (1 : Int32))]))
    refine Gets.of (fun t k => XS.ifNo X9.here hx rfl (hb hby d3_47) rfl ((if0 _ _).trans (feq (by decide : ¬ ((1 : Int32) = (0 : Int32)))).1) k) ?_
    show Gets p e below _ (T9.setTop (mkF m 50 #[.val (.ref ov61), .val (.ref ya1), .val (.ref ya1)] []))
    refine Gets.of (fun t k => XS.iconst X9.here hx rfl (hb hby d3_50) k) ?_
    refine Gets.of (fun t k => XS.goto X9.here hx rfl (pc0 := 51) (pc' := 55) rfl (hb hby d3_51) (by decide) (by decide) k) ?_
    show Gets p e below _ (T9.setTop (mkF m 55 #[.val (.ref ov61), .val (.ref ya1), .val (.ref ya1)] [(.int (1 : Int32))]))
    refine Gets.retN X9 hx (t := .boolean) Bd.returns (by simp) (hb hby d3_55) ?_ (by decide) (by decide)
    rw [eq9]
    exact ⟨N9, rfl, rfl⟩
theorem d5_14 : decode prog_67_method_12_code 14 = .ok (.aload_n 0, 1) := by decide +kernel
theorem d5_15 : decode prog_67_method_12_code 15 = .ok (.getstatic 10, 3) := by decide +kernel
theorem w49 {Z : State} {a0 : Array Value} (hw : ∀ d ∈ tables_1, d.before a0 Z = true) : (Jvm.Cond.fieldLink cn1 (10 : Nat) cn1 "ANS" cn4).before a0 Z = true := hw _ (List.mem_of_getElem? (i := 49) rfl)
theorem d5_18 : decode prog_67_method_12_code 18 = .ok (.if_acmp .ne 7, 3) := by decide +kernel
def Q_r19_fills (Z : State) (ov55 : Addr) (ov5 : Addr) (ov49 : Addr) (h0 : Heap) (n0 : Nat) (v : Option Value) (h : Heap) (L : List Loc) : Prop := Fr n0 L ∧ h = h0 ∧ ((v = some (.int (1 : Int32))))
set_option maxRecDepth 65536 in
set_option maxHeartbeats 40000000 in
theorem r19_fills (l : Launch) (Z : State) (a0 : Array Value) (hw : ∀ d ∈ tables_1, d.before a0 Z = true) (ws : List Jvm.Cond) (ov55 : Addr) (ov5 : Addr) (ov49 : Addr) (h0 : Heap) (n0 : Nat) (O0 : Old Z n0 h0) (oS7 : Sta Z Z.heap cn1 "N" cn4 (.ref ov5)) (oF60 : Fld Z Z.heap ov55 "java/lang/Enum" "ordinal" "I" (.int (2 : Int32))) (oF48 : Fld Z Z.heap ov5 "java/lang/Enum" "ordinal" "I" (.int (0 : Int32))) (oS51 : Sta Z Z.heap cn1 "AN" cn4 (.ref ov49)) (oF54 : Fld Z Z.heap ov49 "java/lang/Enum" "ordinal" "I" (.int (1 : Int32))) (oS57 : Sta Z Z.heap cn1 "ANS" cn4 (.ref ov55)) :
    MetFree l (⟨cn1, "fills", "()Z"⟩ : MethodName) (head1 (Jvm.Cond.code (⟨cn1, "fills", "()Z"⟩ : MethodName) prog_67_method_12_code 1 (some .boolean) :: ws) ({ frames := 0, cells := 0, slots := 0, locals := 0 } : Room)) (fun a U => a = #[(.ref ov55)] ∧ Z.Warmed39 U.vm ∧ U.heap = h0) (fun _ _ _ _ _ => True) (fun _ U o U' => ∃ v L, o = .returned v ∧ Q_r19_fills Z ov55 ov5 ov49 h0 n0 v U'.heap L ∧ FrameEnd U o U' L ({ frames := 0, cells := 0, slots := 0, locals := 0 } : Room).cells ({ frames := 0, cells := 0, slots := 0, locals := 0 } : Room).slots) := by
  refine MetFree.of_bodySF (plainFor_of_name pn_com_example_cardwire_cardwire_core_Attribute) hisR ?_
  intro p e s m args below meth c s₁ Bd hml0 hP hK
  obtain ⟨rfl, hZ, hh⟩ := hP
  have hx := Bd.exec
  have hby := Bd.bytes
  have hlk := Bd.notSynchronized
  have hml : c.maxLocals = 1 := hml0
  have hown : s.vm.findClass cn1 = some m.cls := findClass_of_methodNamed Bd.named
  have hnm := (name_of_methodNamed Bd.named Bd.method).1
  have X0 : Stand p l e ({ frames := 0, cells := 0, slots := 0, locals := 0 } : Room) s m #[(.ref ov55)] below meth c s₁ [] 0 0 := Stand.of_body Bd
  have e0 : s₁.heap = h0 := by rw [← hh, Bd.state]; rfl
  have N0 := Fr.nil n0
  have K0 := Keep.refl h0 []
  have Z0 : n0 ≤ h0.size := O0.1 ▸ O0.2.1
  have hef : entryFrame m #[(.ref ov55)] 1 = mkF m 0 #[.val (.ref ov55)] [] := by first | (simp [entryFrame, mkF, argsToLocals, Value.category]; done) | rfl
  rw [hef]
  refine Gets.out (Q := Q_r19_fills Z ov55 ov5 ov49 h0 n0) ?_
  show Gets p e below _ (s₁.setTop (mkF m 0 #[.val (.ref ov55)] []))
  refine Gets.of (fun t k => XS.aloadN X0.here hx rfl (hb hby d5_0) rfl rfl  k) ?_
  obtain ⟨T1, X1, e1, st1⟩ := getS2 X0 hx hZ hown (host := "") (Or.inl (w42 hw)) Via.refl e0 (oS7.ext O0.2) (g := (mkF m 1 #[.val (.ref ov55)] [(.ref ov55)])) rfl (hb hby d5_1)
  refine Gets.of st1 ?_
  show Gets p e below _ (T1.setTop (mkF m 4 #[.val (.ref ov55)] [(.ref ov5), (.ref ov55)]))
  refine Gets.of (fun t k => Jvm.RoadKit.acmp (g := (mkF m 4 #[.val (.ref ov55)] [(.ref ov5), (.ref ov55)])) X1 hx rfl rfl rfl (pc0 := 4) (pc' := 7) (same := false) rfl (hb hby d5_4) rfl (decide_eq_false fun q => (Fld.ne (oF60.ext O0.2) (oF48.ext O0.2) (fun q => absurd (Value.int.inj q) (by decide))) (Value.ref.inj q)) (by decide) (by decide) k) ?_
  show Gets p e below _ (T1.setTop (mkF m 7 #[.val (.ref ov55)] []))
  refine Gets.of (fun t k => XS.aloadN X1.here hx rfl (hb hby d5_7) rfl rfl  k) ?_
  obtain ⟨T2, X2, e2, st2⟩ := getS2 X1 hx hZ hown (host := "") (Or.inl (w47 hw)) Via.refl e1 (oS51.ext O0.2) (g := (mkF m 8 #[.val (.ref ov55)] [(.ref ov55)])) rfl (hb hby d5_8)
  refine Gets.of st2 ?_
  show Gets p e below _ (T2.setTop (mkF m 11 #[.val (.ref ov55)] [(.ref ov49), (.ref ov55)]))
  refine Gets.of (fun t k => Jvm.RoadKit.acmp (g := (mkF m 11 #[.val (.ref ov55)] [(.ref ov49), (.ref ov55)])) X2 hx rfl rfl rfl (pc0 := 11) (pc' := 14) (same := false) rfl (hb hby d5_11) rfl (decide_eq_false fun q => (Fld.ne (oF60.ext O0.2) (oF54.ext O0.2) (fun q => absurd (Value.int.inj q) (by decide))) (Value.ref.inj q)) (by decide) (by decide) k) ?_
  show Gets p e below _ (T2.setTop (mkF m 14 #[.val (.ref ov55)] []))
  refine Gets.of (fun t k => XS.aloadN X2.here hx rfl (hb hby d5_14) rfl rfl  k) ?_
  obtain ⟨T3, X3, e3, st3⟩ := getS2 X2 hx hZ hown (host := "") (Or.inl (w49 hw)) Via.refl e2 (oS57.ext O0.2) (g := (mkF m 15 #[.val (.ref ov55)] [(.ref ov55)])) rfl (hb hby d5_15)
  refine Gets.of st3 ?_
  show Gets p e below _ (T3.setTop (mkF m 18 #[.val (.ref ov55)] [(.ref ov55), (.ref ov55)]))
  refine Gets.of (fun t k => Jvm.RoadKit.acmp (g := (mkF m 18 #[.val (.ref ov55)] [(.ref ov55), (.ref ov55)])) X3 hx rfl rfl rfl (pc0 := 18) (pc' := 21) (same := true) rfl (hb hby d5_18) rfl (decide_eq_true rfl) (by decide) (by decide) k) ?_
  show Gets p e below _ (T3.setTop (mkF m 21 #[.val (.ref ov55)] []))
  refine Gets.of (fun t k => XS.iconst X3.here hx rfl (hb hby d5_21) k) ?_
  refine Gets.of (fun t k => XS.goto X3.here hx rfl (pc0 := 22) (pc' := 26) rfl (hb hby d5_22) (by decide) (by decide) k) ?_
  show Gets p e below _ (T3.setTop (mkF m 26 #[.val (.ref ov55)] [(.int (1 : Int32))]))
  refine Gets.retN X3 hx (t := .boolean) Bd.returns (by simp) (hb hby d5_26) ?_ (by decide) (by decide)
  rw [e3]
  exact ⟨N0, rfl, rfl⟩
def Q_r20_code (Z : State) (ov25 : Addr) (ov29 : Addr) (h0 : Heap) (n0 : Nat) (v : Option Value) (h : Heap) (L : List Loc) : Prop := Fr n0 L ∧ h = h0 ∧ ((v = some (.ref ov29)))
set_option maxRecDepth 65536 in
set_option maxHeartbeats 40000000 in
theorem r20_code (l : Launch) (Z : State) (a0 : Array Value) (hw : ∀ d ∈ tables_1, d.before a0 Z = true) (ws : List Jvm.Cond) (ov25 : Addr) (ov29 : Addr) (h0 : Heap) (n0 : Nat) (O0 : Old Z n0 h0) (oF31 : Fld Z Z.heap ov25 cn1 "code" "Ljava/lang/String;" (.ref ov29)) :
    MetFree l (⟨cn1, "code", cn5⟩ : MethodName) (head1 (Jvm.Cond.code (⟨cn1, "code", cn5⟩ : MethodName) prog_67_method_8_code 1 (some (.object cn0)) :: ws) ({ frames := 0, cells := 0, slots := 0, locals := 0 } : Room)) (fun a U => a = #[(.ref ov25)] ∧ Z.Warmed39 U.vm ∧ U.heap = h0) (fun _ _ _ _ _ => True) (fun _ U o U' => ∃ v L, o = .returned v ∧ Q_r20_code Z ov25 ov29 h0 n0 v U'.heap L ∧ FrameEnd U o U' L ({ frames := 0, cells := 0, slots := 0, locals := 0 } : Room).cells ({ frames := 0, cells := 0, slots := 0, locals := 0 } : Room).slots) := by
  refine MetFree.of_bodySF (plainFor_of_name pn_com_example_cardwire_cardwire_core_Attribute) hisR ?_
  intro p e s m args below meth c s₁ Bd hml0 hP hK
  obtain ⟨rfl, hZ, hh⟩ := hP
  have hx := Bd.exec
  have hby := Bd.bytes
  have hlk := Bd.notSynchronized
  have hml : c.maxLocals = 1 := hml0
  have hown : s.vm.findClass cn1 = some m.cls := findClass_of_methodNamed Bd.named
  have hnm := (name_of_methodNamed Bd.named Bd.method).1
  have X0 : Stand p l e ({ frames := 0, cells := 0, slots := 0, locals := 0 } : Room) s m #[(.ref ov25)] below meth c s₁ [] 0 0 := Stand.of_body Bd
  have e0 : s₁.heap = h0 := by rw [← hh, Bd.state]; rfl
  have N0 := Fr.nil n0
  have K0 := Keep.refl h0 []
  have Z0 : n0 ≤ h0.size := O0.1 ▸ O0.2.1
  have hef : entryFrame m #[(.ref ov25)] 1 = mkF m 0 #[.val (.ref ov25)] [] := by first | (simp [entryFrame, mkF, argsToLocals, Value.category]; done) | rfl
  rw [hef]
  refine Gets.out (Q := Q_r20_code Z ov25 ov29 h0 n0) ?_
  show Gets p e below _ (s₁.setTop (mkF m 0 #[.val (.ref ov25)] []))
  refine Gets.of (fun t k => XS.aloadN X0.here hx rfl (hb hby d2_0) rfl rfl  k) ?_
  obtain ⟨T1, X1, e1, st1⟩ := getF X0 hx hZ hown (host := "") (Or.inl (w13 hw)) Via.refl e0 (oF31.ext O0.2) (g := (mkF m 1 #[.val (.ref ov25)] [(.ref ov25)])) rfl rfl (hb hby d2_1)
  refine Gets.of st1 ?_
  show Gets p e below _ (T1.setTop (mkF m 4 #[.val (.ref ov25)] [(.ref ov29)]))
  refine Gets.retA X1 hx Bd.returns rfl rfl (hb hby d2_4) ?_ (by decide) (by decide)
  rw [e1]
  exact ⟨N0, rfl, rfl⟩
theorem d4_24 : decode jdk_43_method_13_code 24 = .ok (.iconst 0, 1) := by decide +kernel
theorem d4_25 : decode jdk_43_method_13_code 25 = .ok (.ireturn, 1) := by decide +kernel
def Q_r22_equals (Z : State) (ov35 : Addr) (ya1 : Addr) (ok150 : ClassId) (yk2 : ClassId) (h0 : Heap) (n0 : Nat) (v : Option Value) (h : Heap) (L : List Loc) : Prop := Fr n0 L ∧ h = h0 ∧ ((v = some (.int (0 : Int32))))
set_option maxRecDepth 65536 in
set_option maxHeartbeats 40000000 in
theorem r22_equals (l : Launch) (Z : State) (a0 : Array Value) (hw : ∀ d ∈ tables_1, d.before a0 Z = true) (ws : List Jvm.Cond) (ov35 : Addr) (ya1 : Addr) (ok150 : ClassId) (yk2 : ClassId) (h0 : Heap) (n0 : Nat) (O0 : Old Z n0 h0) (F0 : Arv Z h0 ya1 yk2 .byte (1 : Int32) [(.int (110 : Int32))] (.int (0 : Int32))) (oV149 : Arv Z Z.heap ov35 ok150 .byte (1 : Int32) [(.int (122 : Int32))] (.int (0 : Int32))) :
    MetFree l (⟨cn3, "equals", "([B[B)Z"⟩ : MethodName) (head1 (Jvm.Cond.code (⟨cn3, "equals", "([B[B)Z"⟩ : MethodName) jdk_43_method_13_code 3 (some .boolean) :: ws) ({ frames := 0, cells := 0, slots := 0, locals := 0 } : Room)) (fun a U => a = #[(.ref ov35), (.ref ya1)] ∧ Z.Warmed39 U.vm ∧ U.heap = h0) (fun _ _ _ _ _ => True) (fun _ U o U' => ∃ v L, o = .returned v ∧ Q_r22_equals Z ov35 ya1 ok150 yk2 h0 n0 v U'.heap L ∧ FrameEnd U o U' L ({ frames := 0, cells := 0, slots := 0, locals := 0 } : Room).cells ({ frames := 0, cells := 0, slots := 0, locals := 0 } : Room).slots) := by
  refine MetFree.of_bodySF (plainFor_of_name pn_java_lang_StringLatin1) hisR ?_
  intro p e s m args below meth c s₁ Bd hml0 hP hK
  obtain ⟨rfl, hZ, hh⟩ := hP
  have hx := Bd.exec
  have hby := Bd.bytes
  have hlk := Bd.notSynchronized
  have hml : c.maxLocals = 3 := hml0
  have hown : s.vm.findClass cn3 = some m.cls := findClass_of_methodNamed Bd.named
  have hnm := (name_of_methodNamed Bd.named Bd.method).1
  have X0 : Stand p l e ({ frames := 0, cells := 0, slots := 0, locals := 0 } : Room) s m #[(.ref ov35), (.ref ya1)] below meth c s₁ [] 0 0 := Stand.of_body Bd
  have e0 : s₁.heap = h0 := by rw [← hh, Bd.state]; rfl
  have N0 := Fr.nil n0
  have K0 := Keep.refl h0 []
  have Z0 : n0 ≤ h0.size := O0.1 ▸ O0.2.1
  have hef : entryFrame m #[(.ref ov35), (.ref ya1)] 3 = mkF m 0 #[.val (.ref ov35), .val (.ref ya1), .unset] [] := by first | (simp [entryFrame, mkF, argsToLocals, Value.category]; done) | rfl
  rw [hef]
  refine Gets.out (Q := Q_r22_equals Z ov35 ya1 ok150 yk2 h0 n0) ?_
  show Gets p e below _ (s₁.setTop (mkF m 0 #[.val (.ref ov35), .val (.ref ya1), .unset] []))
  refine Gets.of (fun t k => XS.aloadN X0.here hx rfl (hb hby d4_0) rfl rfl  k) ?_
  obtain ⟨cl1, Ar1, -, S1, N_1, -, -⟩ := id ((oV149.ext O0.2))
  refine Gets.of (X0.arraylength hx (by rw [e0]; exact Ar1.1) (State.isArrayOf_alike hZ.alike Ar1.2.1) (g := (mkF m 1 #[.val (.ref ov35), .val (.ref ya1), .unset] [(.ref ov35)])) rfl rfl (hb hby d4_1)) ?_
  rw [len_of S1 N_1]
  show Gets p e below _ (s₁.setTop (mkF m 2 #[.val (.ref ov35), .val (.ref ya1), .unset] [(.int (1 : Int32))]))
  refine Gets.of (fun t k => XS.aloadN X0.here hx rfl (hb hby d4_2) rfl rfl  k) ?_
  obtain ⟨cl2, Ar2, -, S2, N_2, -, -⟩ := id (F0)
  refine Gets.of (X0.arraylength hx (by rw [e0]; exact Ar2.1) (State.isArrayOf_alike hZ.alike Ar2.2.1) (g := (mkF m 3 #[.val (.ref ov35), .val (.ref ya1), .unset] [(.ref ya1), (.int (1 : Int32))])) rfl rfl (hb hby d4_3)) ?_
  rw [len_of S2 N_2]
  show Gets p e below _ (s₁.setTop (mkF m 4 #[.val (.ref ov35), .val (.ref ya1), .unset] [(.int (1 : Int32)), (.int (1 : Int32))]))
  refine Gets.of (fun t k => XS.icmpNo X0.here hx rfl (hb hby d4_4) rfl (teq (by decide : (1 : Int32) = (1 : Int32))).2 k) ?_
  show Gets p e below _ (s₁.setTop (mkF m 7 #[.val (.ref ov35), .val (.ref ya1), .unset] []))
  refine Gets.of (fun t k => XS.iconst X0.here hx rfl (hb hby d4_7) k) ?_
  refine Gets.of (fun t k => XS.istoreN X0.here hx rfl (hb hby d4_8) rfl (l' := #[.val (.ref ov35), .val (.ref ya1), .val (.int (0 : Int32))]) rfl k) ?_
  show Gets p e below _ (s₁.setTop (mkF m 9 #[.val (.ref ov35), .val (.ref ya1), .val (.int (0 : Int32))] []))
  refine Gets.of (fun t k => XS.iloadN X0.here hx rfl (hb hby d4_9) rfl  k) ?_
  refine Gets.of (fun t k => XS.aloadN X0.here hx rfl (hb hby d4_10) rfl rfl  k) ?_
  obtain ⟨cl3, Ar3, -, S3, N_3, -, -⟩ := id ((oV149.ext O0.2))
  refine Gets.of (X0.arraylength hx (by rw [e0]; exact Ar3.1) (State.isArrayOf_alike hZ.alike Ar3.2.1) (g := (mkF m 11 #[.val (.ref ov35), .val (.ref ya1), .val (.int (0 : Int32))] [(.ref ov35), (.int (0 : Int32))])) rfl rfl (hb hby d4_11)) ?_
  rw [len_of S3 N_3]
  show Gets p e below _ (s₁.setTop (mkF m 12 #[.val (.ref ov35), .val (.ref ya1), .val (.int (0 : Int32))] [(.int (1 : Int32)), (.int (0 : Int32))]))
  refine Gets.of (fun t k => XS.icmpNo X0.here hx rfl (hb hby d4_12) rfl (tlt (by decide : (0 : Int32) < (1 : Int32))).2.1 k) ?_
  show Gets p e below _ (s₁.setTop (mkF m 15 #[.val (.ref ov35), .val (.ref ya1), .val (.int (0 : Int32))] []))
  refine Gets.of (fun t k => XS.aloadN X0.here hx rfl (hb hby d4_15) rfl rfl  k) ?_
  refine Gets.of (fun t k => XS.iloadN X0.here hx rfl (hb hby d4_16) rfl  k) ?_
  obtain ⟨cl4, Ar4, q4, S4, N_4, H4, G4⟩ := id ((oV149.ext O0.2))
  have hin4 : ¬ ((0 : Int32) < 0 ∨ cl4.slots.size ≤ ((0 : Int32)).toNatClampNeg) := inb_of S4 ⟨by decide, by decide⟩
  refine Gets.of (fun t k => X0.baloadBytes hx (j := (0 : Int32)) (v := (.int (122 : Int32))) (by rw [e0]; exact Ar4.1) (State.isArrayOf_alike hZ.alike Ar4.2.1) Ar4.2.2 hin4 (Has.at H4 hin4 rfl) (g := (mkF m 17 #[.val (.ref ov35), .val (.ref ya1), .val (.int (0 : Int32))] [(.int (0 : Int32)), (.ref ov35)])) rfl rfl (hb hby d4_17) t k) ?_
  show Gets p e below _ (s₁.setTop (mkF m 18 #[.val (.ref ov35), .val (.ref ya1), .val (.int (0 : Int32))] [(.int (122 : Int32))]))
  refine Gets.of (fun t k => XS.aloadN X0.here hx rfl (hb hby d4_18) rfl rfl  k) ?_
  refine Gets.of (fun t k => XS.iloadN X0.here hx rfl (hb hby d4_19) rfl  k) ?_
  obtain ⟨cl5, Ar5, q5, S5, N_5, H5, G5⟩ := id (F0)
  have hin5 : ¬ ((0 : Int32) < 0 ∨ cl5.slots.size ≤ ((0 : Int32)).toNatClampNeg) := inb_of S5 ⟨by decide, by decide⟩
  refine Gets.of (fun t k => X0.baloadBytes hx (j := (0 : Int32)) (v := (.int (110 : Int32))) (by rw [e0]; exact Ar5.1) (State.isArrayOf_alike hZ.alike Ar5.2.1) Ar5.2.2 hin5 (Has.at H5 hin5 rfl) (g := (mkF m 20 #[.val (.ref ov35), .val (.ref ya1), .val (.int (0 : Int32))] [(.int (0 : Int32)), (.ref ya1), (.int (122 : Int32))])) rfl rfl (hb hby d4_20) t k) ?_
  show Gets p e below _ (s₁.setTop (mkF m 21 #[.val (.ref ov35), .val (.ref ya1), .val (.int (0 : Int32))] [(.int (110 : Int32)), (.int (122 : Int32))]))
  refine Gets.of (fun t k => XS.icmpNo X0.here hx rfl (hb hby d4_21) rfl (feq (by decide : ¬ ((122 : Int32) = (110 : Int32)))).1 k) ?_
  show Gets p e below _ (s₁.setTop (mkF m 24 #[.val (.ref ov35), .val (.ref ya1), .val (.int (0 : Int32))] []))
  refine Gets.of (fun t k => XS.iconst X0.here hx rfl (hb hby d4_24) k) ?_
  refine Gets.retN X0 hx (t := .boolean) Bd.returns (by simp) (hb hby d4_25) ?_ (by decide) (by decide)
  rw [e0]
  exact ⟨N0, rfl, rfl⟩
def Q_r21_equals (Z : State) (ov29 : Addr) (ya1 : Addr) (ov35 : Addr) (ok150 : ClassId) (ya2 : Addr) (yk3 : ClassId) (oi1 : Int32) (ok152 : ClassId) (ok154 : ClassId) (ok148 : ClassId) (h0 : Heap) (n0 : Nat) (v : Option Value) (h : Heap) (L : List Loc) : Prop := Fr n0 L ∧ h = h0 ∧ ((v = some (.int (0 : Int32))))
set_option maxRecDepth 65536 in
set_option maxHeartbeats 40000000 in
theorem r21_equals (l : Launch) (Z : State) (a0 : Array Value) (hw : ∀ d ∈ tables_1, d.before a0 Z = true) (ws : List Jvm.Cond) (ov29 : Addr) (ya1 : Addr) (ov35 : Addr) (ok150 : ClassId) (ya2 : Addr) (yk3 : ClassId) (oi1 : Int32) (ok152 : ClassId) (ok154 : ClassId) (ok148 : ClassId) (h0 : Heap) (n0 : Nat) (O0 : Old Z n0 h0) (F0 : Arv Z h0 ya2 yk3 .byte (1 : Int32) [(.int (110 : Int32))] (.int (0 : Int32))) (F1 : Fld Z h0 ya1 cn0 "value" "[B" (.ref ya2)) (F2 : Exa Z h0 ya1 cn0) (F3 : Fld Z h0 ya1 cn0 "coder" "B" (.int (0 : Int32))) (oV149 : Arv Z Z.heap ov35 ok150 .byte (1 : Int32) [(.int (122 : Int32))] (.int (0 : Int32))) (oF37 : Fld Z Z.heap ov29 cn0 "value" "[B" (.ref ov35)) (oS3 : Sta Z Z.heap cn0 "COMPACT_STRINGS" "Z" (.int oi1)) (oF34 : Fld Z Z.heap ov29 cn0 "coder" "B" (.int (0 : Int32))) (hy1 : ¬ (oi1 = (0 : Int32))) :
    MetFree l (⟨cn0, "equals", cn2⟩ : MethodName) (head1 (Jvm.Cond.code (⟨cn0, "equals", cn2⟩ : MethodName) jdk_42_method_66_code 3 (some .boolean) :: ws) ({ frames := 1, cells := 0, slots := 0, locals := 14 } : Room)) (fun a U => a = #[(.ref ov29), (.ref ya1)] ∧ Z.Warmed39 U.vm ∧ U.heap = h0) (fun _ _ _ _ _ => True) (fun _ U o U' => ∃ v L, o = .returned v ∧ Q_r21_equals Z ov29 ya1 ov35 ok150 ya2 yk3 oi1 ok152 ok154 ok148 h0 n0 v U'.heap L ∧ FrameEnd U o U' L ({ frames := 1, cells := 0, slots := 0, locals := 14 } : Room).cells ({ frames := 1, cells := 0, slots := 0, locals := 14 } : Room).slots) := by
  refine MetFree.of_bodySF (plainFor_of_name pn_java_lang_String) hisR ?_
  intro p e s m args below meth c s₁ Bd hml0 hP hK
  obtain ⟨rfl, hZ, hh⟩ := hP
  have hx := Bd.exec
  have hby := Bd.bytes
  have hlk := Bd.notSynchronized
  have hml : c.maxLocals = 3 := hml0
  have hown : s.vm.findClass cn0 = some m.cls := findClass_of_methodNamed Bd.named
  have hnm := (name_of_methodNamed Bd.named Bd.method).1
  have X0 : Stand p l e ({ frames := 1, cells := 0, slots := 0, locals := 14 } : Room) s m #[(.ref ov29), (.ref ya1)] below meth c s₁ [] 0 0 := Stand.of_body Bd
  have e0 : s₁.heap = h0 := by rw [← hh, Bd.state]; rfl
  have N0 := Fr.nil n0
  have K0 := Keep.refl h0 []
  have Z0 : n0 ≤ h0.size := O0.1 ▸ O0.2.1
  have hef : entryFrame m #[(.ref ov29), (.ref ya1)] 3 = mkF m 0 #[.val (.ref ov29), .val (.ref ya1), .unset] [] := by first | (simp [entryFrame, mkF, argsToLocals, Value.category]; done) | rfl
  rw [hef]
  refine Gets.out (Q := Q_r21_equals Z ov29 ya1 ov35 ok150 ya2 yk3 oi1 ok152 ok154 ok148 h0 n0) ?_
  show Gets p e below _ (s₁.setTop (mkF m 0 #[.val (.ref ov29), .val (.ref ya1), .unset] []))
  refine Gets.of (fun t k => XS.aloadN X0.here hx rfl (hb hby d3_0) rfl rfl  k) ?_
  refine Gets.of (fun t k => XS.aloadN X0.here hx rfl (hb hby d3_1) rfl rfl  k) ?_
  refine Gets.of (fun t k => Jvm.RoadKit.acmp (g := (mkF m 2 #[.val (.ref ov29), .val (.ref ya1), .unset] [(.ref ya1), (.ref ov29)])) X0 hx rfl rfl rfl (pc0 := 2) (pc' := 7) (same := false) rfl (hb hby d3_2) rfl (decide_eq_false fun q => (Fld.ne (oF37.ext O0.2) F1 (fun q => (arv_ne (oV149.ext O0.2) F0 (Or.inr ⟨0, by decide, fun q => absurd (Value.int.inj q) (by decide)⟩)) (Value.ref.inj q))) (Value.ref.inj q)) (by decide) (by decide) k) ?_
  show Gets p e below _ (s₁.setTop (mkF m 7 #[.val (.ref ov29), .val (.ref ya1), .unset] []))
  refine Gets.of (fun t k => XS.aloadN X0.here hx rfl (hb hby d3_7) rfl rfl  k) ?_
  obtain ⟨T1, X1, e1, st1⟩ := instY X0 hx hZ hown (w28 hw) e0 (Ins.self F2) (g := (mkF m 8 #[.val (.ref ov29), .val (.ref ya1), .unset] [(.ref ya1)])) rfl rfl (hb hby d3_8)
  refine Gets.of st1 ?_
  show Gets p e below _ (T1.setTop (mkF m 11 #[.val (.ref ov29), .val (.ref ya1), .unset] [(.int (1 : Int32))]))
  refine Gets.of (fun t k => XS.ifNo X1.here hx rfl (hb hby d3_11) rfl ((if0 _ _).trans (feq (by decide : ¬ ((1 : Int32) = (0 : Int32)))).1) k) ?_
  show Gets p e below _ (T1.setTop (mkF m 14 #[.val (.ref ov29), .val (.ref ya1), .unset] []))
  refine Gets.of (fun t k => XS.aloadN X1.here hx rfl (hb hby d3_14) rfl rfl  k) ?_
  obtain ⟨T2, X2, e2, st2⟩ := castY X1 hx hZ hown (w28 hw) e1 (Ins.self F2) (g := (mkF m 15 #[.val (.ref ov29), .val (.ref ya1), .unset] [(.ref ya1)])) rfl rfl (hb hby d3_15)
  refine Gets.of st2 ?_
  show Gets p e below _ (T2.setTop (mkF m 18 #[.val (.ref ov29), .val (.ref ya1), .unset] [(.ref ya1)]))
  refine Gets.of (fun t k => XS.astoreN X2.here hx rfl (hb hby d3_18) rfl rfl (l' := #[.val (.ref ov29), .val (.ref ya1), .val (.ref ya1)]) rfl k) ?_
  show Gets p e below _ (T2.setTop (mkF m 19 #[.val (.ref ov29), .val (.ref ya1), .val (.ref ya1)] []))
  obtain ⟨T3, X3, e3, st3⟩ := getS2 X2 hx hZ hown (host := "") (Or.inl (w30 hw)) Via.refl e2 (oS3.ext O0.2) (g := (mkF m 19 #[.val (.ref ov29), .val (.ref ya1), .val (.ref ya1)] [])) rfl (hb hby d3_19)
  refine Gets.of st3 ?_
  show Gets p e below _ (T3.setTop (mkF m 22 #[.val (.ref ov29), .val (.ref ya1), .val (.ref ya1)] [(.int oi1)]))
  refine Gets.of (fun t k => XS.ifNo X3.here hx rfl (hb hby d3_22) rfl ((if0 _ _).trans (feq hy1).1) k) ?_
  show Gets p e below _ (T3.setTop (mkF m 25 #[.val (.ref ov29), .val (.ref ya1), .val (.ref ya1)] []))
  refine Gets.of (fun t k => XS.aloadN X3.here hx rfl (hb hby d3_25) rfl rfl  k) ?_
  obtain ⟨T4, X4, e4, st4⟩ := getF X3 hx hZ hown (host := "") (Or.inl (w31 hw)) Via.refl e3 (oF34.ext O0.2) (g := (mkF m 26 #[.val (.ref ov29), .val (.ref ya1), .val (.ref ya1)] [(.ref ov29)])) rfl rfl (hb hby d3_26)
  refine Gets.of st4 ?_
  show Gets p e below _ (T4.setTop (mkF m 29 #[.val (.ref ov29), .val (.ref ya1), .val (.ref ya1)] [(.int (0 : Int32))]))
  refine Gets.of (fun t k => XS.aloadN X4.here hx rfl (hb hby d3_29) rfl rfl  k) ?_
  obtain ⟨T5, X5, e5, st5⟩ := getF X4 hx hZ hown (host := "") (Or.inl (w31 hw)) Via.refl e4 F3 (g := (mkF m 30 #[.val (.ref ov29), .val (.ref ya1), .val (.ref ya1)] [(.ref ya1), (.int (0 : Int32))])) rfl rfl (hb hby d3_30)
  refine Gets.of st5 ?_
  show Gets p e below _ (T5.setTop (mkF m 33 #[.val (.ref ov29), .val (.ref ya1), .val (.ref ya1)] [(.int (0 : Int32)), (.int (0 : Int32))]))
  refine Gets.of (fun t k => XS.icmpNo X5.here hx rfl (hb hby d3_33) rfl (teq (by decide : (0 : Int32) = (0 : Int32))).2 k) ?_
  show Gets p e below _ (T5.setTop (mkF m 36 #[.val (.ref ov29), .val (.ref ya1), .val (.ref ya1)] []))
  refine Gets.of (fun t k => XS.aloadN X5.here hx rfl (hb hby d3_36) rfl rfl  k) ?_
  obtain ⟨T6, X6, e6, st6⟩ := getF X5 hx hZ hown (host := "") (Or.inl (w32 hw)) Via.refl e5 (oF37.ext O0.2) (g := (mkF m 37 #[.val (.ref ov29), .val (.ref ya1), .val (.ref ya1)] [(.ref ov29)])) rfl rfl (hb hby d3_37)
  refine Gets.of st6 ?_
  show Gets p e below _ (T6.setTop (mkF m 40 #[.val (.ref ov29), .val (.ref ya1), .val (.ref ya1)] [(.ref ov35)]))
  refine Gets.of (fun t k => XS.aloadN X6.here hx rfl (hb hby d3_40) rfl rfl  k) ?_
  obtain ⟨T7, X7, e7, st7⟩ := getF X6 hx hZ hown (host := "") (Or.inl (w32 hw)) Via.refl e6 F1 (g := (mkF m 41 #[.val (.ref ov29), .val (.ref ya1), .val (.ref ya1)] [(.ref ya1), (.ref ov35)])) rfl rfl (hb hby d3_41)
  refine Gets.of st7 ?_
  show Gets p e below _ (T7.setTop (mkF m 44 #[.val (.ref ov29), .val (.ref ya1), .val (.ref ya1)] [(.ref ya2), (.ref ov35)]))
  obtain ⟨_, _, ⟨T8, L8, k8, n8⟩, -, X8, ⟨Lc8, hQ8, l8, y8, z8⟩, st8⟩ := Jvm.LawKit.callS X7 hx (y := (⟨cn3, "equals", "([B[B)Z"⟩ : MethodName)) hown (mvT hZ (w33 hw)) (mvT hZ (w34 hw)) (mvT hZ (w35 hw)) (mvT hZ (w36 hw)) (by decide) (backOf (W := 0) (r22_equals l Z a0 hw [] ov35 ya2 ok150 yk3 h0 n0 O0 F0 oV149) hZ (w36 hw) (w35 hw) (by decide) (by decide)) (g := (mkF m 44 #[.val (.ref ov29), .val (.ref ya1), .val (.ref ya1)] [(.ref ya2), (.ref ov35)])) rfl (by rw [hml]; rfl) (argsL := [(.ref ov35), (.ref ya2)]) (rest := []) (lenOf pd__B_B_Z rfl) rfl (by show 2 * 0 + _ ≤ _; exact Nat.le_of_eq rfl) (hb hby d3_44) (fun _ _ => ⟨rfl, e7, (by decide : 0 + 0 ≤ _), (by decide : 0 + 0 ≤ _)⟩)
  dsimp only [Pt.U, Pt.locs, Pt.cells, Pt.slots] at X8 l8 y8 z8 st8 hQ8
  subst l8 y8 z8
  obtain ⟨Nq8, eq8, hR8⟩ := hQ8
  have N8 := Fr.app N0 Nq8
  obtain rfl := hR8
  refine Gets.of st8 ?_
  show Gets p e below _ (T8.setTop (mkF m 47 #[.val (.ref ov29), .val (.ref ya1), .val (.ref ya1)] [(.int (0 : Int32))]))
  refine Gets.of (fun t k => XS.ifYes X8.here hx rfl (pc0 := 47) (pc' := 54) rfl (hb hby d3_47) rfl ((if0 _ _).trans (teq (by decide : (0 : Int32) = (0 : Int32))).1) (by decide) (by decide) k) ?_
  show Gets p e below _ (T8.setTop (mkF m 54 #[.val (.ref ov29), .val (.ref ya1), .val (.ref ya1)] []))
  refine Gets.of (fun t k => XS.iconst X8.here hx rfl (hb hby d3_54) k) ?_
  refine Gets.retN X8 hx (t := .boolean) Bd.returns (by simp) (hb hby d3_55) ?_ (by decide) (by decide)
  rw [eq8]
  exact ⟨N8, rfl, rfl⟩
def Q_r24_equals (Z : State) (ov35 : Addr) (ya1 : Addr) (ok150 : ClassId) (yk2 : ClassId) (h0 : Heap) (n0 : Nat) (v : Option Value) (h : Heap) (L : List Loc) : Prop := Fr n0 L ∧ h = h0 ∧ ((v = some (.int (0 : Int32))))
set_option maxRecDepth 65536 in
set_option maxHeartbeats 40000000 in
theorem r24_equals (l : Launch) (Z : State) (a0 : Array Value) (hw : ∀ d ∈ tables_1, d.before a0 Z = true) (ws : List Jvm.Cond) (ov35 : Addr) (ya1 : Addr) (ok150 : ClassId) (yk2 : ClassId) (h0 : Heap) (n0 : Nat) (O0 : Old Z n0 h0) (F0 : Arv Z h0 ya1 yk2 .byte (2 : Int32) [(.int (97 : Int32)), (.int (110 : Int32))] (.int (0 : Int32))) (oV149 : Arv Z Z.heap ov35 ok150 .byte (1 : Int32) [(.int (122 : Int32))] (.int (0 : Int32))) :
    MetFree l (⟨cn3, "equals", "([B[B)Z"⟩ : MethodName) (head1 (Jvm.Cond.code (⟨cn3, "equals", "([B[B)Z"⟩ : MethodName) jdk_43_method_13_code 3 (some .boolean) :: ws) ({ frames := 0, cells := 0, slots := 0, locals := 0 } : Room)) (fun a U => a = #[(.ref ov35), (.ref ya1)] ∧ Z.Warmed39 U.vm ∧ U.heap = h0) (fun _ _ _ _ _ => True) (fun _ U o U' => ∃ v L, o = .returned v ∧ Q_r24_equals Z ov35 ya1 ok150 yk2 h0 n0 v U'.heap L ∧ FrameEnd U o U' L ({ frames := 0, cells := 0, slots := 0, locals := 0 } : Room).cells ({ frames := 0, cells := 0, slots := 0, locals := 0 } : Room).slots) := by
  refine MetFree.of_bodySF (plainFor_of_name pn_java_lang_StringLatin1) hisR ?_
  intro p e s m args below meth c s₁ Bd hml0 hP hK
  obtain ⟨rfl, hZ, hh⟩ := hP
  have hx := Bd.exec
  have hby := Bd.bytes
  have hlk := Bd.notSynchronized
  have hml : c.maxLocals = 3 := hml0
  have hown : s.vm.findClass cn3 = some m.cls := findClass_of_methodNamed Bd.named
  have hnm := (name_of_methodNamed Bd.named Bd.method).1
  have X0 : Stand p l e ({ frames := 0, cells := 0, slots := 0, locals := 0 } : Room) s m #[(.ref ov35), (.ref ya1)] below meth c s₁ [] 0 0 := Stand.of_body Bd
  have e0 : s₁.heap = h0 := by rw [← hh, Bd.state]; rfl
  have N0 := Fr.nil n0
  have K0 := Keep.refl h0 []
  have Z0 : n0 ≤ h0.size := O0.1 ▸ O0.2.1
  have hef : entryFrame m #[(.ref ov35), (.ref ya1)] 3 = mkF m 0 #[.val (.ref ov35), .val (.ref ya1), .unset] [] := by first | (simp [entryFrame, mkF, argsToLocals, Value.category]; done) | rfl
  rw [hef]
  refine Gets.out (Q := Q_r24_equals Z ov35 ya1 ok150 yk2 h0 n0) ?_
  show Gets p e below _ (s₁.setTop (mkF m 0 #[.val (.ref ov35), .val (.ref ya1), .unset] []))
  refine Gets.of (fun t k => XS.aloadN X0.here hx rfl (hb hby d4_0) rfl rfl  k) ?_
  obtain ⟨cl1, Ar1, -, S1, N_1, -, -⟩ := id ((oV149.ext O0.2))
  refine Gets.of (X0.arraylength hx (by rw [e0]; exact Ar1.1) (State.isArrayOf_alike hZ.alike Ar1.2.1) (g := (mkF m 1 #[.val (.ref ov35), .val (.ref ya1), .unset] [(.ref ov35)])) rfl rfl (hb hby d4_1)) ?_
  rw [len_of S1 N_1]
  show Gets p e below _ (s₁.setTop (mkF m 2 #[.val (.ref ov35), .val (.ref ya1), .unset] [(.int (1 : Int32))]))
  refine Gets.of (fun t k => XS.aloadN X0.here hx rfl (hb hby d4_2) rfl rfl  k) ?_
  obtain ⟨cl2, Ar2, -, S2, N_2, -, -⟩ := id (F0)
  refine Gets.of (X0.arraylength hx (by rw [e0]; exact Ar2.1) (State.isArrayOf_alike hZ.alike Ar2.2.1) (g := (mkF m 3 #[.val (.ref ov35), .val (.ref ya1), .unset] [(.ref ya1), (.int (1 : Int32))])) rfl rfl (hb hby d4_3)) ?_
  rw [len_of S2 N_2]
  show Gets p e below _ (s₁.setTop (mkF m 4 #[.val (.ref ov35), .val (.ref ya1), .unset] [(.int (2 : Int32)), (.int (1 : Int32))]))
  refine Gets.of (fun t k => XS.icmpYes X0.here hx rfl (pc0 := 4) (pc' := 34) rfl (hb hby d4_4) rfl (feq (by decide : ¬ ((1 : Int32) = (2 : Int32)))).2 (by decide) (by decide) k) ?_
  show Gets p e below _ (s₁.setTop (mkF m 34 #[.val (.ref ov35), .val (.ref ya1), .unset] []))
  refine Gets.of (fun t k => XS.iconst X0.here hx rfl (hb hby d4_34) k) ?_
  refine Gets.retN X0 hx (t := .boolean) Bd.returns (by simp) (hb hby d4_35) ?_ (by decide) (by decide)
  rw [e0]
  exact ⟨N0, rfl, rfl⟩
def Q_r23_equals (Z : State) (ov29 : Addr) (ya1 : Addr) (ov35 : Addr) (ok150 : ClassId) (ya2 : Addr) (yk3 : ClassId) (oi1 : Int32) (ok152 : ClassId) (ok154 : ClassId) (h0 : Heap) (n0 : Nat) (v : Option Value) (h : Heap) (L : List Loc) : Prop := Fr n0 L ∧ h = h0 ∧ ((v = some (.int (0 : Int32))))
set_option maxRecDepth 65536 in
set_option maxHeartbeats 40000000 in
theorem r23_equals (l : Launch) (Z : State) (a0 : Array Value) (hw : ∀ d ∈ tables_1, d.before a0 Z = true) (ws : List Jvm.Cond) (ov29 : Addr) (ya1 : Addr) (ov35 : Addr) (ok150 : ClassId) (ya2 : Addr) (yk3 : ClassId) (oi1 : Int32) (ok152 : ClassId) (ok154 : ClassId) (h0 : Heap) (n0 : Nat) (O0 : Old Z n0 h0) (F0 : Arv Z h0 ya2 yk3 .byte (2 : Int32) [(.int (97 : Int32)), (.int (110 : Int32))] (.int (0 : Int32))) (F1 : Fld Z h0 ya1 cn0 "value" "[B" (.ref ya2)) (F2 : Exa Z h0 ya1 cn0) (F3 : Fld Z h0 ya1 cn0 "coder" "B" (.int (0 : Int32))) (oV149 : Arv Z Z.heap ov35 ok150 .byte (1 : Int32) [(.int (122 : Int32))] (.int (0 : Int32))) (oF37 : Fld Z Z.heap ov29 cn0 "value" "[B" (.ref ov35)) (oS3 : Sta Z Z.heap cn0 "COMPACT_STRINGS" "Z" (.int oi1)) (oF34 : Fld Z Z.heap ov29 cn0 "coder" "B" (.int (0 : Int32))) (hy1 : ¬ (oi1 = (0 : Int32))) :
    MetFree l (⟨cn0, "equals", cn2⟩ : MethodName) (head1 (Jvm.Cond.code (⟨cn0, "equals", cn2⟩ : MethodName) jdk_42_method_66_code 3 (some .boolean) :: ws) ({ frames := 1, cells := 0, slots := 0, locals := 14 } : Room)) (fun a U => a = #[(.ref ov29), (.ref ya1)] ∧ Z.Warmed39 U.vm ∧ U.heap = h0) (fun _ _ _ _ _ => True) (fun _ U o U' => ∃ v L, o = .returned v ∧ Q_r23_equals Z ov29 ya1 ov35 ok150 ya2 yk3 oi1 ok152 ok154 h0 n0 v U'.heap L ∧ FrameEnd U o U' L ({ frames := 1, cells := 0, slots := 0, locals := 14 } : Room).cells ({ frames := 1, cells := 0, slots := 0, locals := 14 } : Room).slots) := by
  refine MetFree.of_bodySF (plainFor_of_name pn_java_lang_String) hisR ?_
  intro p e s m args below meth c s₁ Bd hml0 hP hK
  obtain ⟨rfl, hZ, hh⟩ := hP
  have hx := Bd.exec
  have hby := Bd.bytes
  have hlk := Bd.notSynchronized
  have hml : c.maxLocals = 3 := hml0
  have hown : s.vm.findClass cn0 = some m.cls := findClass_of_methodNamed Bd.named
  have hnm := (name_of_methodNamed Bd.named Bd.method).1
  have X0 : Stand p l e ({ frames := 1, cells := 0, slots := 0, locals := 14 } : Room) s m #[(.ref ov29), (.ref ya1)] below meth c s₁ [] 0 0 := Stand.of_body Bd
  have e0 : s₁.heap = h0 := by rw [← hh, Bd.state]; rfl
  have N0 := Fr.nil n0
  have K0 := Keep.refl h0 []
  have Z0 : n0 ≤ h0.size := O0.1 ▸ O0.2.1
  have hef : entryFrame m #[(.ref ov29), (.ref ya1)] 3 = mkF m 0 #[.val (.ref ov29), .val (.ref ya1), .unset] [] := by first | (simp [entryFrame, mkF, argsToLocals, Value.category]; done) | rfl
  rw [hef]
  refine Gets.out (Q := Q_r23_equals Z ov29 ya1 ov35 ok150 ya2 yk3 oi1 ok152 ok154 h0 n0) ?_
  show Gets p e below _ (s₁.setTop (mkF m 0 #[.val (.ref ov29), .val (.ref ya1), .unset] []))
  refine Gets.of (fun t k => XS.aloadN X0.here hx rfl (hb hby d3_0) rfl rfl  k) ?_
  refine Gets.of (fun t k => XS.aloadN X0.here hx rfl (hb hby d3_1) rfl rfl  k) ?_
  refine Gets.of (fun t k => Jvm.RoadKit.acmp (g := (mkF m 2 #[.val (.ref ov29), .val (.ref ya1), .unset] [(.ref ya1), (.ref ov29)])) X0 hx rfl rfl rfl (pc0 := 2) (pc' := 7) (same := false) rfl (hb hby d3_2) rfl (decide_eq_false fun q => (Fld.ne (oF37.ext O0.2) F1 (fun q => (arv_ne (oV149.ext O0.2) F0 (Or.inl (by decide))) (Value.ref.inj q))) (Value.ref.inj q)) (by decide) (by decide) k) ?_
  show Gets p e below _ (s₁.setTop (mkF m 7 #[.val (.ref ov29), .val (.ref ya1), .unset] []))
  refine Gets.of (fun t k => XS.aloadN X0.here hx rfl (hb hby d3_7) rfl rfl  k) ?_
  obtain ⟨T1, X1, e1, st1⟩ := instY X0 hx hZ hown (w28 hw) e0 (Ins.self F2) (g := (mkF m 8 #[.val (.ref ov29), .val (.ref ya1), .unset] [(.ref ya1)])) rfl rfl (hb hby d3_8)
  refine Gets.of st1 ?_
  show Gets p e below _ (T1.setTop (mkF m 11 #[.val (.ref ov29), .val (.ref ya1), .unset] [(.int (1 : Int32))]))
  refine Gets.of (fun t k => XS.ifNo X1.here hx rfl (hb hby d3_11) rfl ((if0 _ _).trans (feq (by decide : ¬ ((1 : Int32) = (0 : Int32)))).1) k) ?_
  show Gets p e below _ (T1.setTop (mkF m 14 #[.val (.ref ov29), .val (.ref ya1), .unset] []))
  refine Gets.of (fun t k => XS.aloadN X1.here hx rfl (hb hby d3_14) rfl rfl  k) ?_
  obtain ⟨T2, X2, e2, st2⟩ := castY X1 hx hZ hown (w28 hw) e1 (Ins.self F2) (g := (mkF m 15 #[.val (.ref ov29), .val (.ref ya1), .unset] [(.ref ya1)])) rfl rfl (hb hby d3_15)
  refine Gets.of st2 ?_
  show Gets p e below _ (T2.setTop (mkF m 18 #[.val (.ref ov29), .val (.ref ya1), .unset] [(.ref ya1)]))
  refine Gets.of (fun t k => XS.astoreN X2.here hx rfl (hb hby d3_18) rfl rfl (l' := #[.val (.ref ov29), .val (.ref ya1), .val (.ref ya1)]) rfl k) ?_
  show Gets p e below _ (T2.setTop (mkF m 19 #[.val (.ref ov29), .val (.ref ya1), .val (.ref ya1)] []))
  obtain ⟨T3, X3, e3, st3⟩ := getS2 X2 hx hZ hown (host := "") (Or.inl (w30 hw)) Via.refl e2 (oS3.ext O0.2) (g := (mkF m 19 #[.val (.ref ov29), .val (.ref ya1), .val (.ref ya1)] [])) rfl (hb hby d3_19)
  refine Gets.of st3 ?_
  show Gets p e below _ (T3.setTop (mkF m 22 #[.val (.ref ov29), .val (.ref ya1), .val (.ref ya1)] [(.int oi1)]))
  refine Gets.of (fun t k => XS.ifNo X3.here hx rfl (hb hby d3_22) rfl ((if0 _ _).trans (feq hy1).1) k) ?_
  show Gets p e below _ (T3.setTop (mkF m 25 #[.val (.ref ov29), .val (.ref ya1), .val (.ref ya1)] []))
  refine Gets.of (fun t k => XS.aloadN X3.here hx rfl (hb hby d3_25) rfl rfl  k) ?_
  obtain ⟨T4, X4, e4, st4⟩ := getF X3 hx hZ hown (host := "") (Or.inl (w31 hw)) Via.refl e3 (oF34.ext O0.2) (g := (mkF m 26 #[.val (.ref ov29), .val (.ref ya1), .val (.ref ya1)] [(.ref ov29)])) rfl rfl (hb hby d3_26)
  refine Gets.of st4 ?_
  show Gets p e below _ (T4.setTop (mkF m 29 #[.val (.ref ov29), .val (.ref ya1), .val (.ref ya1)] [(.int (0 : Int32))]))
  refine Gets.of (fun t k => XS.aloadN X4.here hx rfl (hb hby d3_29) rfl rfl  k) ?_
  obtain ⟨T5, X5, e5, st5⟩ := getF X4 hx hZ hown (host := "") (Or.inl (w31 hw)) Via.refl e4 F3 (g := (mkF m 30 #[.val (.ref ov29), .val (.ref ya1), .val (.ref ya1)] [(.ref ya1), (.int (0 : Int32))])) rfl rfl (hb hby d3_30)
  refine Gets.of st5 ?_
  show Gets p e below _ (T5.setTop (mkF m 33 #[.val (.ref ov29), .val (.ref ya1), .val (.ref ya1)] [(.int (0 : Int32)), (.int (0 : Int32))]))
  refine Gets.of (fun t k => XS.icmpNo X5.here hx rfl (hb hby d3_33) rfl (teq (by decide : (0 : Int32) = (0 : Int32))).2 k) ?_
  show Gets p e below _ (T5.setTop (mkF m 36 #[.val (.ref ov29), .val (.ref ya1), .val (.ref ya1)] []))
  refine Gets.of (fun t k => XS.aloadN X5.here hx rfl (hb hby d3_36) rfl rfl  k) ?_
  obtain ⟨T6, X6, e6, st6⟩ := getF X5 hx hZ hown (host := "") (Or.inl (w32 hw)) Via.refl e5 (oF37.ext O0.2) (g := (mkF m 37 #[.val (.ref ov29), .val (.ref ya1), .val (.ref ya1)] [(.ref ov29)])) rfl rfl (hb hby d3_37)
  refine Gets.of st6 ?_
  show Gets p e below _ (T6.setTop (mkF m 40 #[.val (.ref ov29), .val (.ref ya1), .val (.ref ya1)] [(.ref ov35)]))
  refine Gets.of (fun t k => XS.aloadN X6.here hx rfl (hb hby d3_40) rfl rfl  k) ?_
  obtain ⟨T7, X7, e7, st7⟩ := getF X6 hx hZ hown (host := "") (Or.inl (w32 hw)) Via.refl e6 F1 (g := (mkF m 41 #[.val (.ref ov29), .val (.ref ya1), .val (.ref ya1)] [(.ref ya1), (.ref ov35)])) rfl rfl (hb hby d3_41)
  refine Gets.of st7 ?_
  show Gets p e below _ (T7.setTop (mkF m 44 #[.val (.ref ov29), .val (.ref ya1), .val (.ref ya1)] [(.ref ya2), (.ref ov35)]))
  obtain ⟨_, _, ⟨T8, L8, k8, n8⟩, -, X8, ⟨Lc8, hQ8, l8, y8, z8⟩, st8⟩ := Jvm.LawKit.callS X7 hx (y := (⟨cn3, "equals", "([B[B)Z"⟩ : MethodName)) hown (mvT hZ (w33 hw)) (mvT hZ (w34 hw)) (mvT hZ (w35 hw)) (mvT hZ (w36 hw)) (by decide) (backOf (W := 0) (r24_equals l Z a0 hw [] ov35 ya2 ok150 yk3 h0 n0 O0 F0 oV149) hZ (w36 hw) (w35 hw) (by decide) (by decide)) (g := (mkF m 44 #[.val (.ref ov29), .val (.ref ya1), .val (.ref ya1)] [(.ref ya2), (.ref ov35)])) rfl (by rw [hml]; rfl) (argsL := [(.ref ov35), (.ref ya2)]) (rest := []) (lenOf pd__B_B_Z rfl) rfl (by show 2 * 0 + _ ≤ _; exact Nat.le_of_eq rfl) (hb hby d3_44) (fun _ _ => ⟨rfl, e7, (by decide : 0 + 0 ≤ _), (by decide : 0 + 0 ≤ _)⟩)
  dsimp only [Pt.U, Pt.locs, Pt.cells, Pt.slots] at X8 l8 y8 z8 st8 hQ8
  subst l8 y8 z8
  obtain ⟨Nq8, eq8, hR8⟩ := hQ8
  have N8 := Fr.app N0 Nq8
  obtain rfl := hR8
  refine Gets.of st8 ?_
  show Gets p e below _ (T8.setTop (mkF m 47 #[.val (.ref ov29), .val (.ref ya1), .val (.ref ya1)] [(.int (0 : Int32))]))
  refine Gets.of (fun t k => XS.ifYes X8.here hx rfl (pc0 := 47) (pc' := 54) rfl (hb hby d3_47) rfl ((if0 _ _).trans (teq (by decide : (0 : Int32) = (0 : Int32))).1) (by decide) (by decide) k) ?_
  show Gets p e below _ (T8.setTop (mkF m 54 #[.val (.ref ov29), .val (.ref ya1), .val (.ref ya1)] []))
  refine Gets.of (fun t k => XS.iconst X8.here hx rfl (hb hby d3_54) k) ?_
  refine Gets.retN X8 hx (t := .boolean) Bd.returns (by simp) (hb hby d3_55) ?_ (by decide) (by decide)
  rw [eq8]
  exact ⟨N8, rfl, rfl⟩
def Q_r26_equals (Z : State) (ov35 : Addr) (ya1 : Addr) (ok150 : ClassId) (yk2 : ClassId) (h0 : Heap) (n0 : Nat) (v : Option Value) (h : Heap) (L : List Loc) : Prop := Fr n0 L ∧ h = h0 ∧ ((v = some (.int (0 : Int32))))
set_option maxRecDepth 65536 in
set_option maxHeartbeats 40000000 in
theorem r26_equals (l : Launch) (Z : State) (a0 : Array Value) (hw : ∀ d ∈ tables_1, d.before a0 Z = true) (ws : List Jvm.Cond) (ov35 : Addr) (ya1 : Addr) (ok150 : ClassId) (yk2 : ClassId) (h0 : Heap) (n0 : Nat) (O0 : Old Z n0 h0) (F0 : Arv Z h0 ya1 yk2 .byte (3 : Int32) [(.int (97 : Int32)), (.int (110 : Int32)), (.int (115 : Int32))] (.int (0 : Int32))) (oV149 : Arv Z Z.heap ov35 ok150 .byte (1 : Int32) [(.int (122 : Int32))] (.int (0 : Int32))) :
    MetFree l (⟨cn3, "equals", "([B[B)Z"⟩ : MethodName) (head1 (Jvm.Cond.code (⟨cn3, "equals", "([B[B)Z"⟩ : MethodName) jdk_43_method_13_code 3 (some .boolean) :: ws) ({ frames := 0, cells := 0, slots := 0, locals := 0 } : Room)) (fun a U => a = #[(.ref ov35), (.ref ya1)] ∧ Z.Warmed39 U.vm ∧ U.heap = h0) (fun _ _ _ _ _ => True) (fun _ U o U' => ∃ v L, o = .returned v ∧ Q_r26_equals Z ov35 ya1 ok150 yk2 h0 n0 v U'.heap L ∧ FrameEnd U o U' L ({ frames := 0, cells := 0, slots := 0, locals := 0 } : Room).cells ({ frames := 0, cells := 0, slots := 0, locals := 0 } : Room).slots) := by
  refine MetFree.of_bodySF (plainFor_of_name pn_java_lang_StringLatin1) hisR ?_
  intro p e s m args below meth c s₁ Bd hml0 hP hK
  obtain ⟨rfl, hZ, hh⟩ := hP
  have hx := Bd.exec
  have hby := Bd.bytes
  have hlk := Bd.notSynchronized
  have hml : c.maxLocals = 3 := hml0
  have hown : s.vm.findClass cn3 = some m.cls := findClass_of_methodNamed Bd.named
  have hnm := (name_of_methodNamed Bd.named Bd.method).1
  have X0 : Stand p l e ({ frames := 0, cells := 0, slots := 0, locals := 0 } : Room) s m #[(.ref ov35), (.ref ya1)] below meth c s₁ [] 0 0 := Stand.of_body Bd
  have e0 : s₁.heap = h0 := by rw [← hh, Bd.state]; rfl
  have N0 := Fr.nil n0
  have K0 := Keep.refl h0 []
  have Z0 : n0 ≤ h0.size := O0.1 ▸ O0.2.1
  have hef : entryFrame m #[(.ref ov35), (.ref ya1)] 3 = mkF m 0 #[.val (.ref ov35), .val (.ref ya1), .unset] [] := by first | (simp [entryFrame, mkF, argsToLocals, Value.category]; done) | rfl
  rw [hef]
  refine Gets.out (Q := Q_r26_equals Z ov35 ya1 ok150 yk2 h0 n0) ?_
  show Gets p e below _ (s₁.setTop (mkF m 0 #[.val (.ref ov35), .val (.ref ya1), .unset] []))
  refine Gets.of (fun t k => XS.aloadN X0.here hx rfl (hb hby d4_0) rfl rfl  k) ?_
  obtain ⟨cl1, Ar1, -, S1, N_1, -, -⟩ := id ((oV149.ext O0.2))
  refine Gets.of (X0.arraylength hx (by rw [e0]; exact Ar1.1) (State.isArrayOf_alike hZ.alike Ar1.2.1) (g := (mkF m 1 #[.val (.ref ov35), .val (.ref ya1), .unset] [(.ref ov35)])) rfl rfl (hb hby d4_1)) ?_
  rw [len_of S1 N_1]
  show Gets p e below _ (s₁.setTop (mkF m 2 #[.val (.ref ov35), .val (.ref ya1), .unset] [(.int (1 : Int32))]))
  refine Gets.of (fun t k => XS.aloadN X0.here hx rfl (hb hby d4_2) rfl rfl  k) ?_
  obtain ⟨cl2, Ar2, -, S2, N_2, -, -⟩ := id (F0)
  refine Gets.of (X0.arraylength hx (by rw [e0]; exact Ar2.1) (State.isArrayOf_alike hZ.alike Ar2.2.1) (g := (mkF m 3 #[.val (.ref ov35), .val (.ref ya1), .unset] [(.ref ya1), (.int (1 : Int32))])) rfl rfl (hb hby d4_3)) ?_
  rw [len_of S2 N_2]
  show Gets p e below _ (s₁.setTop (mkF m 4 #[.val (.ref ov35), .val (.ref ya1), .unset] [(.int (3 : Int32)), (.int (1 : Int32))]))
  refine Gets.of (fun t k => XS.icmpYes X0.here hx rfl (pc0 := 4) (pc' := 34) rfl (hb hby d4_4) rfl (feq (by decide : ¬ ((1 : Int32) = (3 : Int32)))).2 (by decide) (by decide) k) ?_
  show Gets p e below _ (s₁.setTop (mkF m 34 #[.val (.ref ov35), .val (.ref ya1), .unset] []))
  refine Gets.of (fun t k => XS.iconst X0.here hx rfl (hb hby d4_34) k) ?_
  refine Gets.retN X0 hx (t := .boolean) Bd.returns (by simp) (hb hby d4_35) ?_ (by decide) (by decide)
  rw [e0]
  exact ⟨N0, rfl, rfl⟩
def Q_r25_equals (Z : State) (ov29 : Addr) (ya1 : Addr) (ov35 : Addr) (ok150 : ClassId) (ya2 : Addr) (yk3 : ClassId) (oi1 : Int32) (ok152 : ClassId) (h0 : Heap) (n0 : Nat) (v : Option Value) (h : Heap) (L : List Loc) : Prop := Fr n0 L ∧ h = h0 ∧ ((v = some (.int (0 : Int32))))
set_option maxRecDepth 65536 in
set_option maxHeartbeats 40000000 in
theorem r25_equals (l : Launch) (Z : State) (a0 : Array Value) (hw : ∀ d ∈ tables_1, d.before a0 Z = true) (ws : List Jvm.Cond) (ov29 : Addr) (ya1 : Addr) (ov35 : Addr) (ok150 : ClassId) (ya2 : Addr) (yk3 : ClassId) (oi1 : Int32) (ok152 : ClassId) (h0 : Heap) (n0 : Nat) (O0 : Old Z n0 h0) (F0 : Arv Z h0 ya2 yk3 .byte (3 : Int32) [(.int (97 : Int32)), (.int (110 : Int32)), (.int (115 : Int32))] (.int (0 : Int32))) (F1 : Fld Z h0 ya1 cn0 "value" "[B" (.ref ya2)) (F2 : Exa Z h0 ya1 cn0) (F3 : Fld Z h0 ya1 cn0 "coder" "B" (.int (0 : Int32))) (oV149 : Arv Z Z.heap ov35 ok150 .byte (1 : Int32) [(.int (122 : Int32))] (.int (0 : Int32))) (oF37 : Fld Z Z.heap ov29 cn0 "value" "[B" (.ref ov35)) (oS3 : Sta Z Z.heap cn0 "COMPACT_STRINGS" "Z" (.int oi1)) (oF34 : Fld Z Z.heap ov29 cn0 "coder" "B" (.int (0 : Int32))) (hy1 : ¬ (oi1 = (0 : Int32))) :
    MetFree l (⟨cn0, "equals", cn2⟩ : MethodName) (head1 (Jvm.Cond.code (⟨cn0, "equals", cn2⟩ : MethodName) jdk_42_method_66_code 3 (some .boolean) :: ws) ({ frames := 1, cells := 0, slots := 0, locals := 14 } : Room)) (fun a U => a = #[(.ref ov29), (.ref ya1)] ∧ Z.Warmed39 U.vm ∧ U.heap = h0) (fun _ _ _ _ _ => True) (fun _ U o U' => ∃ v L, o = .returned v ∧ Q_r25_equals Z ov29 ya1 ov35 ok150 ya2 yk3 oi1 ok152 h0 n0 v U'.heap L ∧ FrameEnd U o U' L ({ frames := 1, cells := 0, slots := 0, locals := 14 } : Room).cells ({ frames := 1, cells := 0, slots := 0, locals := 14 } : Room).slots) := by
  refine MetFree.of_bodySF (plainFor_of_name pn_java_lang_String) hisR ?_
  intro p e s m args below meth c s₁ Bd hml0 hP hK
  obtain ⟨rfl, hZ, hh⟩ := hP
  have hx := Bd.exec
  have hby := Bd.bytes
  have hlk := Bd.notSynchronized
  have hml : c.maxLocals = 3 := hml0
  have hown : s.vm.findClass cn0 = some m.cls := findClass_of_methodNamed Bd.named
  have hnm := (name_of_methodNamed Bd.named Bd.method).1
  have X0 : Stand p l e ({ frames := 1, cells := 0, slots := 0, locals := 14 } : Room) s m #[(.ref ov29), (.ref ya1)] below meth c s₁ [] 0 0 := Stand.of_body Bd
  have e0 : s₁.heap = h0 := by rw [← hh, Bd.state]; rfl
  have N0 := Fr.nil n0
  have K0 := Keep.refl h0 []
  have Z0 : n0 ≤ h0.size := O0.1 ▸ O0.2.1
  have hef : entryFrame m #[(.ref ov29), (.ref ya1)] 3 = mkF m 0 #[.val (.ref ov29), .val (.ref ya1), .unset] [] := by first | (simp [entryFrame, mkF, argsToLocals, Value.category]; done) | rfl
  rw [hef]
  refine Gets.out (Q := Q_r25_equals Z ov29 ya1 ov35 ok150 ya2 yk3 oi1 ok152 h0 n0) ?_
  show Gets p e below _ (s₁.setTop (mkF m 0 #[.val (.ref ov29), .val (.ref ya1), .unset] []))
  refine Gets.of (fun t k => XS.aloadN X0.here hx rfl (hb hby d3_0) rfl rfl  k) ?_
  refine Gets.of (fun t k => XS.aloadN X0.here hx rfl (hb hby d3_1) rfl rfl  k) ?_
  refine Gets.of (fun t k => Jvm.RoadKit.acmp (g := (mkF m 2 #[.val (.ref ov29), .val (.ref ya1), .unset] [(.ref ya1), (.ref ov29)])) X0 hx rfl rfl rfl (pc0 := 2) (pc' := 7) (same := false) rfl (hb hby d3_2) rfl (decide_eq_false fun q => (Fld.ne (oF37.ext O0.2) F1 (fun q => (arv_ne (oV149.ext O0.2) F0 (Or.inl (by decide))) (Value.ref.inj q))) (Value.ref.inj q)) (by decide) (by decide) k) ?_
  show Gets p e below _ (s₁.setTop (mkF m 7 #[.val (.ref ov29), .val (.ref ya1), .unset] []))
  refine Gets.of (fun t k => XS.aloadN X0.here hx rfl (hb hby d3_7) rfl rfl  k) ?_
  obtain ⟨T1, X1, e1, st1⟩ := instY X0 hx hZ hown (w28 hw) e0 (Ins.self F2) (g := (mkF m 8 #[.val (.ref ov29), .val (.ref ya1), .unset] [(.ref ya1)])) rfl rfl (hb hby d3_8)
  refine Gets.of st1 ?_
  show Gets p e below _ (T1.setTop (mkF m 11 #[.val (.ref ov29), .val (.ref ya1), .unset] [(.int (1 : Int32))]))
  refine Gets.of (fun t k => XS.ifNo X1.here hx rfl (hb hby d3_11) rfl ((if0 _ _).trans (feq (by decide : ¬ ((1 : Int32) = (0 : Int32)))).1) k) ?_
  show Gets p e below _ (T1.setTop (mkF m 14 #[.val (.ref ov29), .val (.ref ya1), .unset] []))
  refine Gets.of (fun t k => XS.aloadN X1.here hx rfl (hb hby d3_14) rfl rfl  k) ?_
  obtain ⟨T2, X2, e2, st2⟩ := castY X1 hx hZ hown (w28 hw) e1 (Ins.self F2) (g := (mkF m 15 #[.val (.ref ov29), .val (.ref ya1), .unset] [(.ref ya1)])) rfl rfl (hb hby d3_15)
  refine Gets.of st2 ?_
  show Gets p e below _ (T2.setTop (mkF m 18 #[.val (.ref ov29), .val (.ref ya1), .unset] [(.ref ya1)]))
  refine Gets.of (fun t k => XS.astoreN X2.here hx rfl (hb hby d3_18) rfl rfl (l' := #[.val (.ref ov29), .val (.ref ya1), .val (.ref ya1)]) rfl k) ?_
  show Gets p e below _ (T2.setTop (mkF m 19 #[.val (.ref ov29), .val (.ref ya1), .val (.ref ya1)] []))
  obtain ⟨T3, X3, e3, st3⟩ := getS2 X2 hx hZ hown (host := "") (Or.inl (w30 hw)) Via.refl e2 (oS3.ext O0.2) (g := (mkF m 19 #[.val (.ref ov29), .val (.ref ya1), .val (.ref ya1)] [])) rfl (hb hby d3_19)
  refine Gets.of st3 ?_
  show Gets p e below _ (T3.setTop (mkF m 22 #[.val (.ref ov29), .val (.ref ya1), .val (.ref ya1)] [(.int oi1)]))
  refine Gets.of (fun t k => XS.ifNo X3.here hx rfl (hb hby d3_22) rfl ((if0 _ _).trans (feq hy1).1) k) ?_
  show Gets p e below _ (T3.setTop (mkF m 25 #[.val (.ref ov29), .val (.ref ya1), .val (.ref ya1)] []))
  refine Gets.of (fun t k => XS.aloadN X3.here hx rfl (hb hby d3_25) rfl rfl  k) ?_
  obtain ⟨T4, X4, e4, st4⟩ := getF X3 hx hZ hown (host := "") (Or.inl (w31 hw)) Via.refl e3 (oF34.ext O0.2) (g := (mkF m 26 #[.val (.ref ov29), .val (.ref ya1), .val (.ref ya1)] [(.ref ov29)])) rfl rfl (hb hby d3_26)
  refine Gets.of st4 ?_
  show Gets p e below _ (T4.setTop (mkF m 29 #[.val (.ref ov29), .val (.ref ya1), .val (.ref ya1)] [(.int (0 : Int32))]))
  refine Gets.of (fun t k => XS.aloadN X4.here hx rfl (hb hby d3_29) rfl rfl  k) ?_
  obtain ⟨T5, X5, e5, st5⟩ := getF X4 hx hZ hown (host := "") (Or.inl (w31 hw)) Via.refl e4 F3 (g := (mkF m 30 #[.val (.ref ov29), .val (.ref ya1), .val (.ref ya1)] [(.ref ya1), (.int (0 : Int32))])) rfl rfl (hb hby d3_30)
  refine Gets.of st5 ?_
  show Gets p e below _ (T5.setTop (mkF m 33 #[.val (.ref ov29), .val (.ref ya1), .val (.ref ya1)] [(.int (0 : Int32)), (.int (0 : Int32))]))
  refine Gets.of (fun t k => XS.icmpNo X5.here hx rfl (hb hby d3_33) rfl (teq (by decide : (0 : Int32) = (0 : Int32))).2 k) ?_
  show Gets p e below _ (T5.setTop (mkF m 36 #[.val (.ref ov29), .val (.ref ya1), .val (.ref ya1)] []))
  refine Gets.of (fun t k => XS.aloadN X5.here hx rfl (hb hby d3_36) rfl rfl  k) ?_
  obtain ⟨T6, X6, e6, st6⟩ := getF X5 hx hZ hown (host := "") (Or.inl (w32 hw)) Via.refl e5 (oF37.ext O0.2) (g := (mkF m 37 #[.val (.ref ov29), .val (.ref ya1), .val (.ref ya1)] [(.ref ov29)])) rfl rfl (hb hby d3_37)
  refine Gets.of st6 ?_
  show Gets p e below _ (T6.setTop (mkF m 40 #[.val (.ref ov29), .val (.ref ya1), .val (.ref ya1)] [(.ref ov35)]))
  refine Gets.of (fun t k => XS.aloadN X6.here hx rfl (hb hby d3_40) rfl rfl  k) ?_
  obtain ⟨T7, X7, e7, st7⟩ := getF X6 hx hZ hown (host := "") (Or.inl (w32 hw)) Via.refl e6 F1 (g := (mkF m 41 #[.val (.ref ov29), .val (.ref ya1), .val (.ref ya1)] [(.ref ya1), (.ref ov35)])) rfl rfl (hb hby d3_41)
  refine Gets.of st7 ?_
  show Gets p e below _ (T7.setTop (mkF m 44 #[.val (.ref ov29), .val (.ref ya1), .val (.ref ya1)] [(.ref ya2), (.ref ov35)]))
  obtain ⟨_, _, ⟨T8, L8, k8, n8⟩, -, X8, ⟨Lc8, hQ8, l8, y8, z8⟩, st8⟩ := Jvm.LawKit.callS X7 hx (y := (⟨cn3, "equals", "([B[B)Z"⟩ : MethodName)) hown (mvT hZ (w33 hw)) (mvT hZ (w34 hw)) (mvT hZ (w35 hw)) (mvT hZ (w36 hw)) (by decide) (backOf (W := 0) (r26_equals l Z a0 hw [] ov35 ya2 ok150 yk3 h0 n0 O0 F0 oV149) hZ (w36 hw) (w35 hw) (by decide) (by decide)) (g := (mkF m 44 #[.val (.ref ov29), .val (.ref ya1), .val (.ref ya1)] [(.ref ya2), (.ref ov35)])) rfl (by rw [hml]; rfl) (argsL := [(.ref ov35), (.ref ya2)]) (rest := []) (lenOf pd__B_B_Z rfl) rfl (by show 2 * 0 + _ ≤ _; exact Nat.le_of_eq rfl) (hb hby d3_44) (fun _ _ => ⟨rfl, e7, (by decide : 0 + 0 ≤ _), (by decide : 0 + 0 ≤ _)⟩)
  dsimp only [Pt.U, Pt.locs, Pt.cells, Pt.slots] at X8 l8 y8 z8 st8 hQ8
  subst l8 y8 z8
  obtain ⟨Nq8, eq8, hR8⟩ := hQ8
  have N8 := Fr.app N0 Nq8
  obtain rfl := hR8
  refine Gets.of st8 ?_
  show Gets p e below _ (T8.setTop (mkF m 47 #[.val (.ref ov29), .val (.ref ya1), .val (.ref ya1)] [(.int (0 : Int32))]))
  refine Gets.of (fun t k => XS.ifYes X8.here hx rfl (pc0 := 47) (pc' := 54) rfl (hb hby d3_47) rfl ((if0 _ _).trans (teq (by decide : (0 : Int32) = (0 : Int32))).1) (by decide) (by decide) k) ?_
  show Gets p e below _ (T8.setTop (mkF m 54 #[.val (.ref ov29), .val (.ref ya1), .val (.ref ya1)] []))
  refine Gets.of (fun t k => XS.iconst X8.here hx rfl (hb hby d3_54) k) ?_
  refine Gets.retN X8 hx (t := .boolean) Bd.returns (by simp) (hb hby d3_55) ?_ (by decide) (by decide)
  rw [eq8]
  exact ⟨N8, rfl, rfl⟩
theorem d5_25 : decode prog_67_method_12_code 25 = .ok (.iconst 0, 1) := by decide +kernel
def Q_r27_fills (Z : State) (ov25 : Addr) (ov5 : Addr) (ov49 : Addr) (ov55 : Addr) (h0 : Heap) (n0 : Nat) (v : Option Value) (h : Heap) (L : List Loc) : Prop := Fr n0 L ∧ h = h0 ∧ ((v = some (.int (0 : Int32))))
set_option maxRecDepth 65536 in
set_option maxHeartbeats 40000000 in
theorem r27_fills (l : Launch) (Z : State) (a0 : Array Value) (hw : ∀ d ∈ tables_1, d.before a0 Z = true) (ws : List Jvm.Cond) (ov25 : Addr) (ov5 : Addr) (ov49 : Addr) (ov55 : Addr) (h0 : Heap) (n0 : Nat) (O0 : Old Z n0 h0) (oS7 : Sta Z Z.heap cn1 "N" cn4 (.ref ov5)) (oF46 : Fld Z Z.heap ov25 "java/lang/Enum" "ordinal" "I" (.int (3 : Int32))) (oF48 : Fld Z Z.heap ov5 "java/lang/Enum" "ordinal" "I" (.int (0 : Int32))) (oS51 : Sta Z Z.heap cn1 "AN" cn4 (.ref ov49)) (oF54 : Fld Z Z.heap ov49 "java/lang/Enum" "ordinal" "I" (.int (1 : Int32))) (oS57 : Sta Z Z.heap cn1 "ANS" cn4 (.ref ov55)) (oF60 : Fld Z Z.heap ov55 "java/lang/Enum" "ordinal" "I" (.int (2 : Int32))) :
    MetFree l (⟨cn1, "fills", "()Z"⟩ : MethodName) (head1 (Jvm.Cond.code (⟨cn1, "fills", "()Z"⟩ : MethodName) prog_67_method_12_code 1 (some .boolean) :: ws) ({ frames := 0, cells := 0, slots := 0, locals := 0 } : Room)) (fun a U => a = #[(.ref ov25)] ∧ Z.Warmed39 U.vm ∧ U.heap = h0) (fun _ _ _ _ _ => True) (fun _ U o U' => ∃ v L, o = .returned v ∧ Q_r27_fills Z ov25 ov5 ov49 ov55 h0 n0 v U'.heap L ∧ FrameEnd U o U' L ({ frames := 0, cells := 0, slots := 0, locals := 0 } : Room).cells ({ frames := 0, cells := 0, slots := 0, locals := 0 } : Room).slots) := by
  refine MetFree.of_bodySF (plainFor_of_name pn_com_example_cardwire_cardwire_core_Attribute) hisR ?_
  intro p e s m args below meth c s₁ Bd hml0 hP hK
  obtain ⟨rfl, hZ, hh⟩ := hP
  have hx := Bd.exec
  have hby := Bd.bytes
  have hlk := Bd.notSynchronized
  have hml : c.maxLocals = 1 := hml0
  have hown : s.vm.findClass cn1 = some m.cls := findClass_of_methodNamed Bd.named
  have hnm := (name_of_methodNamed Bd.named Bd.method).1
  have X0 : Stand p l e ({ frames := 0, cells := 0, slots := 0, locals := 0 } : Room) s m #[(.ref ov25)] below meth c s₁ [] 0 0 := Stand.of_body Bd
  have e0 : s₁.heap = h0 := by rw [← hh, Bd.state]; rfl
  have N0 := Fr.nil n0
  have K0 := Keep.refl h0 []
  have Z0 : n0 ≤ h0.size := O0.1 ▸ O0.2.1
  have hef : entryFrame m #[(.ref ov25)] 1 = mkF m 0 #[.val (.ref ov25)] [] := by first | (simp [entryFrame, mkF, argsToLocals, Value.category]; done) | rfl
  rw [hef]
  refine Gets.out (Q := Q_r27_fills Z ov25 ov5 ov49 ov55 h0 n0) ?_
  show Gets p e below _ (s₁.setTop (mkF m 0 #[.val (.ref ov25)] []))
  refine Gets.of (fun t k => XS.aloadN X0.here hx rfl (hb hby d5_0) rfl rfl  k) ?_
  obtain ⟨T1, X1, e1, st1⟩ := getS2 X0 hx hZ hown (host := "") (Or.inl (w42 hw)) Via.refl e0 (oS7.ext O0.2) (g := (mkF m 1 #[.val (.ref ov25)] [(.ref ov25)])) rfl (hb hby d5_1)
  refine Gets.of st1 ?_
  show Gets p e below _ (T1.setTop (mkF m 4 #[.val (.ref ov25)] [(.ref ov5), (.ref ov25)]))
  refine Gets.of (fun t k => Jvm.RoadKit.acmp (g := (mkF m 4 #[.val (.ref ov25)] [(.ref ov5), (.ref ov25)])) X1 hx rfl rfl rfl (pc0 := 4) (pc' := 7) (same := false) rfl (hb hby d5_4) rfl (decide_eq_false fun q => (Fld.ne (oF46.ext O0.2) (oF48.ext O0.2) (fun q => absurd (Value.int.inj q) (by decide))) (Value.ref.inj q)) (by decide) (by decide) k) ?_
  show Gets p e below _ (T1.setTop (mkF m 7 #[.val (.ref ov25)] []))
  refine Gets.of (fun t k => XS.aloadN X1.here hx rfl (hb hby d5_7) rfl rfl  k) ?_
  obtain ⟨T2, X2, e2, st2⟩ := getS2 X1 hx hZ hown (host := "") (Or.inl (w47 hw)) Via.refl e1 (oS51.ext O0.2) (g := (mkF m 8 #[.val (.ref ov25)] [(.ref ov25)])) rfl (hb hby d5_8)
  refine Gets.of st2 ?_
  show Gets p e below _ (T2.setTop (mkF m 11 #[.val (.ref ov25)] [(.ref ov49), (.ref ov25)]))
  refine Gets.of (fun t k => Jvm.RoadKit.acmp (g := (mkF m 11 #[.val (.ref ov25)] [(.ref ov49), (.ref ov25)])) X2 hx rfl rfl rfl (pc0 := 11) (pc' := 14) (same := false) rfl (hb hby d5_11) rfl (decide_eq_false fun q => (Fld.ne (oF46.ext O0.2) (oF54.ext O0.2) (fun q => absurd (Value.int.inj q) (by decide))) (Value.ref.inj q)) (by decide) (by decide) k) ?_
  show Gets p e below _ (T2.setTop (mkF m 14 #[.val (.ref ov25)] []))
  refine Gets.of (fun t k => XS.aloadN X2.here hx rfl (hb hby d5_14) rfl rfl  k) ?_
  obtain ⟨T3, X3, e3, st3⟩ := getS2 X2 hx hZ hown (host := "") (Or.inl (w49 hw)) Via.refl e2 (oS57.ext O0.2) (g := (mkF m 15 #[.val (.ref ov25)] [(.ref ov25)])) rfl (hb hby d5_15)
  refine Gets.of st3 ?_
  show Gets p e below _ (T3.setTop (mkF m 18 #[.val (.ref ov25)] [(.ref ov55), (.ref ov25)]))
  refine Gets.of (fun t k => Jvm.RoadKit.acmp (g := (mkF m 18 #[.val (.ref ov25)] [(.ref ov55), (.ref ov25)])) X3 hx rfl rfl rfl (pc0 := 18) (pc' := 25) (same := false) rfl (hb hby d5_18) rfl (decide_eq_false fun q => (Fld.ne (oF46.ext O0.2) (oF60.ext O0.2) (fun q => absurd (Value.int.inj q) (by decide))) (Value.ref.inj q)) (by decide) (by decide) k) ?_
  show Gets p e below _ (T3.setTop (mkF m 25 #[.val (.ref ov25)] []))
  refine Gets.of (fun t k => XS.iconst X3.here hx rfl (hb hby d5_25) k) ?_
  refine Gets.retN X3 hx (t := .boolean) Bd.returns (by simp) (hb hby d5_26) ?_ (by decide) (by decide)
  rw [e3]
  exact ⟨N0, rfl, rfl⟩
def Q_r28_code (Z : State) (ov121 : Addr) (ov125 : Addr) (h0 : Heap) (n0 : Nat) (v : Option Value) (h : Heap) (L : List Loc) : Prop := Fr n0 L ∧ h = h0 ∧ ((v = some (.ref ov125)))
set_option maxRecDepth 65536 in
set_option maxHeartbeats 40000000 in
theorem r28_code (l : Launch) (Z : State) (a0 : Array Value) (hw : ∀ d ∈ tables_1, d.before a0 Z = true) (ws : List Jvm.Cond) (ov121 : Addr) (ov125 : Addr) (h0 : Heap) (n0 : Nat) (O0 : Old Z n0 h0) (oF127 : Fld Z Z.heap ov121 cn1 "code" "Ljava/lang/String;" (.ref ov125)) :
    MetFree l (⟨cn1, "code", cn5⟩ : MethodName) (head1 (Jvm.Cond.code (⟨cn1, "code", cn5⟩ : MethodName) prog_67_method_8_code 1 (some (.object cn0)) :: ws) ({ frames := 0, cells := 0, slots := 0, locals := 0 } : Room)) (fun a U => a = #[(.ref ov121)] ∧ Z.Warmed39 U.vm ∧ U.heap = h0) (fun _ _ _ _ _ => True) (fun _ U o U' => ∃ v L, o = .returned v ∧ Q_r28_code Z ov121 ov125 h0 n0 v U'.heap L ∧ FrameEnd U o U' L ({ frames := 0, cells := 0, slots := 0, locals := 0 } : Room).cells ({ frames := 0, cells := 0, slots := 0, locals := 0 } : Room).slots) := by
  refine MetFree.of_bodySF (plainFor_of_name pn_com_example_cardwire_cardwire_core_Attribute) hisR ?_
  intro p e s m args below meth c s₁ Bd hml0 hP hK
  obtain ⟨rfl, hZ, hh⟩ := hP
  have hx := Bd.exec
  have hby := Bd.bytes
  have hlk := Bd.notSynchronized
  have hml : c.maxLocals = 1 := hml0
  have hown : s.vm.findClass cn1 = some m.cls := findClass_of_methodNamed Bd.named
  have hnm := (name_of_methodNamed Bd.named Bd.method).1
  have X0 : Stand p l e ({ frames := 0, cells := 0, slots := 0, locals := 0 } : Room) s m #[(.ref ov121)] below meth c s₁ [] 0 0 := Stand.of_body Bd
  have e0 : s₁.heap = h0 := by rw [← hh, Bd.state]; rfl
  have N0 := Fr.nil n0
  have K0 := Keep.refl h0 []
  have Z0 : n0 ≤ h0.size := O0.1 ▸ O0.2.1
  have hef : entryFrame m #[(.ref ov121)] 1 = mkF m 0 #[.val (.ref ov121)] [] := by first | (simp [entryFrame, mkF, argsToLocals, Value.category]; done) | rfl
  rw [hef]
  refine Gets.out (Q := Q_r28_code Z ov121 ov125 h0 n0) ?_
  show Gets p e below _ (s₁.setTop (mkF m 0 #[.val (.ref ov121)] []))
  refine Gets.of (fun t k => XS.aloadN X0.here hx rfl (hb hby d2_0) rfl rfl  k) ?_
  obtain ⟨T1, X1, e1, st1⟩ := getF X0 hx hZ hown (host := "") (Or.inl (w13 hw)) Via.refl e0 (oF127.ext O0.2) (g := (mkF m 1 #[.val (.ref ov121)] [(.ref ov121)])) rfl rfl (hb hby d2_1)
  refine Gets.of st1 ?_
  show Gets p e below _ (T1.setTop (mkF m 4 #[.val (.ref ov121)] [(.ref ov125)]))
  refine Gets.retA X1 hx Bd.returns rfl rfl (hb hby d2_4) ?_ (by decide) (by decide)
  rw [e1]
  exact ⟨N0, rfl, rfl⟩
def Q_r30_equals (Z : State) (ov131 : Addr) (ya1 : Addr) (ok158 : ClassId) (yk2 : ClassId) (h0 : Heap) (n0 : Nat) (v : Option Value) (h : Heap) (L : List Loc) : Prop := Fr n0 L ∧ h = h0 ∧ ((v = some (.int (0 : Int32))))
set_option maxRecDepth 65536 in
set_option maxHeartbeats 40000000 in
theorem r30_equals (l : Launch) (Z : State) (a0 : Array Value) (hw : ∀ d ∈ tables_1, d.before a0 Z = true) (ws : List Jvm.Cond) (ov131 : Addr) (ya1 : Addr) (ok158 : ClassId) (yk2 : ClassId) (h0 : Heap) (n0 : Nat) (O0 : Old Z n0 h0) (F0 : Arv Z h0 ya1 yk2 .byte (1 : Int32) [(.int (110 : Int32))] (.int (0 : Int32))) (oV157 : Arv Z Z.heap ov131 ok158 .byte (1 : Int32) [(.int (98 : Int32))] (.int (0 : Int32))) :
    MetFree l (⟨cn3, "equals", "([B[B)Z"⟩ : MethodName) (head1 (Jvm.Cond.code (⟨cn3, "equals", "([B[B)Z"⟩ : MethodName) jdk_43_method_13_code 3 (some .boolean) :: ws) ({ frames := 0, cells := 0, slots := 0, locals := 0 } : Room)) (fun a U => a = #[(.ref ov131), (.ref ya1)] ∧ Z.Warmed39 U.vm ∧ U.heap = h0) (fun _ _ _ _ _ => True) (fun _ U o U' => ∃ v L, o = .returned v ∧ Q_r30_equals Z ov131 ya1 ok158 yk2 h0 n0 v U'.heap L ∧ FrameEnd U o U' L ({ frames := 0, cells := 0, slots := 0, locals := 0 } : Room).cells ({ frames := 0, cells := 0, slots := 0, locals := 0 } : Room).slots) := by
  refine MetFree.of_bodySF (plainFor_of_name pn_java_lang_StringLatin1) hisR ?_
  intro p e s m args below meth c s₁ Bd hml0 hP hK
  obtain ⟨rfl, hZ, hh⟩ := hP
  have hx := Bd.exec
  have hby := Bd.bytes
  have hlk := Bd.notSynchronized
  have hml : c.maxLocals = 3 := hml0
  have hown : s.vm.findClass cn3 = some m.cls := findClass_of_methodNamed Bd.named
  have hnm := (name_of_methodNamed Bd.named Bd.method).1
  have X0 : Stand p l e ({ frames := 0, cells := 0, slots := 0, locals := 0 } : Room) s m #[(.ref ov131), (.ref ya1)] below meth c s₁ [] 0 0 := Stand.of_body Bd
  have e0 : s₁.heap = h0 := by rw [← hh, Bd.state]; rfl
  have N0 := Fr.nil n0
  have K0 := Keep.refl h0 []
  have Z0 : n0 ≤ h0.size := O0.1 ▸ O0.2.1
  have hef : entryFrame m #[(.ref ov131), (.ref ya1)] 3 = mkF m 0 #[.val (.ref ov131), .val (.ref ya1), .unset] [] := by first | (simp [entryFrame, mkF, argsToLocals, Value.category]; done) | rfl
  rw [hef]
  refine Gets.out (Q := Q_r30_equals Z ov131 ya1 ok158 yk2 h0 n0) ?_
  show Gets p e below _ (s₁.setTop (mkF m 0 #[.val (.ref ov131), .val (.ref ya1), .unset] []))
  refine Gets.of (fun t k => XS.aloadN X0.here hx rfl (hb hby d4_0) rfl rfl  k) ?_
  obtain ⟨cl1, Ar1, -, S1, N_1, -, -⟩ := id ((oV157.ext O0.2))
  refine Gets.of (X0.arraylength hx (by rw [e0]; exact Ar1.1) (State.isArrayOf_alike hZ.alike Ar1.2.1) (g := (mkF m 1 #[.val (.ref ov131), .val (.ref ya1), .unset] [(.ref ov131)])) rfl rfl (hb hby d4_1)) ?_
  rw [len_of S1 N_1]
  show Gets p e below _ (s₁.setTop (mkF m 2 #[.val (.ref ov131), .val (.ref ya1), .unset] [(.int (1 : Int32))]))
  refine Gets.of (fun t k => XS.aloadN X0.here hx rfl (hb hby d4_2) rfl rfl  k) ?_
  obtain ⟨cl2, Ar2, -, S2, N_2, -, -⟩ := id (F0)
  refine Gets.of (X0.arraylength hx (by rw [e0]; exact Ar2.1) (State.isArrayOf_alike hZ.alike Ar2.2.1) (g := (mkF m 3 #[.val (.ref ov131), .val (.ref ya1), .unset] [(.ref ya1), (.int (1 : Int32))])) rfl rfl (hb hby d4_3)) ?_
  rw [len_of S2 N_2]
  show Gets p e below _ (s₁.setTop (mkF m 4 #[.val (.ref ov131), .val (.ref ya1), .unset] [(.int (1 : Int32)), (.int (1 : Int32))]))
  refine Gets.of (fun t k => XS.icmpNo X0.here hx rfl (hb hby d4_4) rfl (teq (by decide : (1 : Int32) = (1 : Int32))).2 k) ?_
  show Gets p e below _ (s₁.setTop (mkF m 7 #[.val (.ref ov131), .val (.ref ya1), .unset] []))
  refine Gets.of (fun t k => XS.iconst X0.here hx rfl (hb hby d4_7) k) ?_
  refine Gets.of (fun t k => XS.istoreN X0.here hx rfl (hb hby d4_8) rfl (l' := #[.val (.ref ov131), .val (.ref ya1), .val (.int (0 : Int32))]) rfl k) ?_
  show Gets p e below _ (s₁.setTop (mkF m 9 #[.val (.ref ov131), .val (.ref ya1), .val (.int (0 : Int32))] []))
  refine Gets.of (fun t k => XS.iloadN X0.here hx rfl (hb hby d4_9) rfl  k) ?_
  refine Gets.of (fun t k => XS.aloadN X0.here hx rfl (hb hby d4_10) rfl rfl  k) ?_
  obtain ⟨cl3, Ar3, -, S3, N_3, -, -⟩ := id ((oV157.ext O0.2))
  refine Gets.of (X0.arraylength hx (by rw [e0]; exact Ar3.1) (State.isArrayOf_alike hZ.alike Ar3.2.1) (g := (mkF m 11 #[.val (.ref ov131), .val (.ref ya1), .val (.int (0 : Int32))] [(.ref ov131), (.int (0 : Int32))])) rfl rfl (hb hby d4_11)) ?_
  rw [len_of S3 N_3]
  show Gets p e below _ (s₁.setTop (mkF m 12 #[.val (.ref ov131), .val (.ref ya1), .val (.int (0 : Int32))] [(.int (1 : Int32)), (.int (0 : Int32))]))
  refine Gets.of (fun t k => XS.icmpNo X0.here hx rfl (hb hby d4_12) rfl (tlt (by decide : (0 : Int32) < (1 : Int32))).2.1 k) ?_
  show Gets p e below _ (s₁.setTop (mkF m 15 #[.val (.ref ov131), .val (.ref ya1), .val (.int (0 : Int32))] []))
  refine Gets.of (fun t k => XS.aloadN X0.here hx rfl (hb hby d4_15) rfl rfl  k) ?_
  refine Gets.of (fun t k => XS.iloadN X0.here hx rfl (hb hby d4_16) rfl  k) ?_
  obtain ⟨cl4, Ar4, q4, S4, N_4, H4, G4⟩ := id ((oV157.ext O0.2))
  have hin4 : ¬ ((0 : Int32) < 0 ∨ cl4.slots.size ≤ ((0 : Int32)).toNatClampNeg) := inb_of S4 ⟨by decide, by decide⟩
  refine Gets.of (fun t k => X0.baloadBytes hx (j := (0 : Int32)) (v := (.int (98 : Int32))) (by rw [e0]; exact Ar4.1) (State.isArrayOf_alike hZ.alike Ar4.2.1) Ar4.2.2 hin4 (Has.at H4 hin4 rfl) (g := (mkF m 17 #[.val (.ref ov131), .val (.ref ya1), .val (.int (0 : Int32))] [(.int (0 : Int32)), (.ref ov131)])) rfl rfl (hb hby d4_17) t k) ?_
  show Gets p e below _ (s₁.setTop (mkF m 18 #[.val (.ref ov131), .val (.ref ya1), .val (.int (0 : Int32))] [(.int (98 : Int32))]))
  refine Gets.of (fun t k => XS.aloadN X0.here hx rfl (hb hby d4_18) rfl rfl  k) ?_
  refine Gets.of (fun t k => XS.iloadN X0.here hx rfl (hb hby d4_19) rfl  k) ?_
  obtain ⟨cl5, Ar5, q5, S5, N_5, H5, G5⟩ := id (F0)
  have hin5 : ¬ ((0 : Int32) < 0 ∨ cl5.slots.size ≤ ((0 : Int32)).toNatClampNeg) := inb_of S5 ⟨by decide, by decide⟩
  refine Gets.of (fun t k => X0.baloadBytes hx (j := (0 : Int32)) (v := (.int (110 : Int32))) (by rw [e0]; exact Ar5.1) (State.isArrayOf_alike hZ.alike Ar5.2.1) Ar5.2.2 hin5 (Has.at H5 hin5 rfl) (g := (mkF m 20 #[.val (.ref ov131), .val (.ref ya1), .val (.int (0 : Int32))] [(.int (0 : Int32)), (.ref ya1), (.int (98 : Int32))])) rfl rfl (hb hby d4_20) t k) ?_
  show Gets p e below _ (s₁.setTop (mkF m 21 #[.val (.ref ov131), .val (.ref ya1), .val (.int (0 : Int32))] [(.int (110 : Int32)), (.int (98 : Int32))]))
  refine Gets.of (fun t k => XS.icmpNo X0.here hx rfl (hb hby d4_21) rfl (feq (by decide : ¬ ((98 : Int32) = (110 : Int32)))).1 k) ?_
  show Gets p e below _ (s₁.setTop (mkF m 24 #[.val (.ref ov131), .val (.ref ya1), .val (.int (0 : Int32))] []))
  refine Gets.of (fun t k => XS.iconst X0.here hx rfl (hb hby d4_24) k) ?_
  refine Gets.retN X0 hx (t := .boolean) Bd.returns (by simp) (hb hby d4_25) ?_ (by decide) (by decide)
  rw [e0]
  exact ⟨N0, rfl, rfl⟩
def Q_r29_equals (Z : State) (ov125 : Addr) (ya1 : Addr) (ov131 : Addr) (ok158 : ClassId) (ya2 : Addr) (yk3 : ClassId) (oi1 : Int32) (ok150 : ClassId) (ok152 : ClassId) (ok154 : ClassId) (ok148 : ClassId) (h0 : Heap) (n0 : Nat) (v : Option Value) (h : Heap) (L : List Loc) : Prop := Fr n0 L ∧ h = h0 ∧ ((v = some (.int (0 : Int32))))
set_option maxRecDepth 65536 in
set_option maxHeartbeats 40000000 in
theorem r29_equals (l : Launch) (Z : State) (a0 : Array Value) (hw : ∀ d ∈ tables_1, d.before a0 Z = true) (ws : List Jvm.Cond) (ov125 : Addr) (ya1 : Addr) (ov131 : Addr) (ok158 : ClassId) (ya2 : Addr) (yk3 : ClassId) (oi1 : Int32) (ok150 : ClassId) (ok152 : ClassId) (ok154 : ClassId) (ok148 : ClassId) (h0 : Heap) (n0 : Nat) (O0 : Old Z n0 h0) (F0 : Arv Z h0 ya2 yk3 .byte (1 : Int32) [(.int (110 : Int32))] (.int (0 : Int32))) (F1 : Fld Z h0 ya1 cn0 "value" "[B" (.ref ya2)) (F2 : Exa Z h0 ya1 cn0) (F3 : Fld Z h0 ya1 cn0 "coder" "B" (.int (0 : Int32))) (oV157 : Arv Z Z.heap ov131 ok158 .byte (1 : Int32) [(.int (98 : Int32))] (.int (0 : Int32))) (oF133 : Fld Z Z.heap ov125 cn0 "value" "[B" (.ref ov131)) (oS3 : Sta Z Z.heap cn0 "COMPACT_STRINGS" "Z" (.int oi1)) (oF130 : Fld Z Z.heap ov125 cn0 "coder" "B" (.int (0 : Int32))) (hy1 : ¬ (oi1 = (0 : Int32))) :
    MetFree l (⟨cn0, "equals", cn2⟩ : MethodName) (head1 (Jvm.Cond.code (⟨cn0, "equals", cn2⟩ : MethodName) jdk_42_method_66_code 3 (some .boolean) :: ws) ({ frames := 1, cells := 0, slots := 0, locals := 14 } : Room)) (fun a U => a = #[(.ref ov125), (.ref ya1)] ∧ Z.Warmed39 U.vm ∧ U.heap = h0) (fun _ _ _ _ _ => True) (fun _ U o U' => ∃ v L, o = .returned v ∧ Q_r29_equals Z ov125 ya1 ov131 ok158 ya2 yk3 oi1 ok150 ok152 ok154 ok148 h0 n0 v U'.heap L ∧ FrameEnd U o U' L ({ frames := 1, cells := 0, slots := 0, locals := 14 } : Room).cells ({ frames := 1, cells := 0, slots := 0, locals := 14 } : Room).slots) := by
  refine MetFree.of_bodySF (plainFor_of_name pn_java_lang_String) hisR ?_
  intro p e s m args below meth c s₁ Bd hml0 hP hK
  obtain ⟨rfl, hZ, hh⟩ := hP
  have hx := Bd.exec
  have hby := Bd.bytes
  have hlk := Bd.notSynchronized
  have hml : c.maxLocals = 3 := hml0
  have hown : s.vm.findClass cn0 = some m.cls := findClass_of_methodNamed Bd.named
  have hnm := (name_of_methodNamed Bd.named Bd.method).1
  have X0 : Stand p l e ({ frames := 1, cells := 0, slots := 0, locals := 14 } : Room) s m #[(.ref ov125), (.ref ya1)] below meth c s₁ [] 0 0 := Stand.of_body Bd
  have e0 : s₁.heap = h0 := by rw [← hh, Bd.state]; rfl
  have N0 := Fr.nil n0
  have K0 := Keep.refl h0 []
  have Z0 : n0 ≤ h0.size := O0.1 ▸ O0.2.1
  have hef : entryFrame m #[(.ref ov125), (.ref ya1)] 3 = mkF m 0 #[.val (.ref ov125), .val (.ref ya1), .unset] [] := by first | (simp [entryFrame, mkF, argsToLocals, Value.category]; done) | rfl
  rw [hef]
  refine Gets.out (Q := Q_r29_equals Z ov125 ya1 ov131 ok158 ya2 yk3 oi1 ok150 ok152 ok154 ok148 h0 n0) ?_
  show Gets p e below _ (s₁.setTop (mkF m 0 #[.val (.ref ov125), .val (.ref ya1), .unset] []))
  refine Gets.of (fun t k => XS.aloadN X0.here hx rfl (hb hby d3_0) rfl rfl  k) ?_
  refine Gets.of (fun t k => XS.aloadN X0.here hx rfl (hb hby d3_1) rfl rfl  k) ?_
  refine Gets.of (fun t k => Jvm.RoadKit.acmp (g := (mkF m 2 #[.val (.ref ov125), .val (.ref ya1), .unset] [(.ref ya1), (.ref ov125)])) X0 hx rfl rfl rfl (pc0 := 2) (pc' := 7) (same := false) rfl (hb hby d3_2) rfl (decide_eq_false fun q => (Fld.ne (oF133.ext O0.2) F1 (fun q => (arv_ne (oV157.ext O0.2) F0 (Or.inr ⟨0, by decide, fun q => absurd (Value.int.inj q) (by decide)⟩)) (Value.ref.inj q))) (Value.ref.inj q)) (by decide) (by decide) k) ?_
  show Gets p e below _ (s₁.setTop (mkF m 7 #[.val (.ref ov125), .val (.ref ya1), .unset] []))
  refine Gets.of (fun t k => XS.aloadN X0.here hx rfl (hb hby d3_7) rfl rfl  k) ?_
  obtain ⟨T1, X1, e1, st1⟩ := instY X0 hx hZ hown (w28 hw) e0 (Ins.self F2) (g := (mkF m 8 #[.val (.ref ov125), .val (.ref ya1), .unset] [(.ref ya1)])) rfl rfl (hb hby d3_8)
  refine Gets.of st1 ?_
  show Gets p e below _ (T1.setTop (mkF m 11 #[.val (.ref ov125), .val (.ref ya1), .unset] [(.int (1 : Int32))]))
  refine Gets.of (fun t k => XS.ifNo X1.here hx rfl (hb hby d3_11) rfl ((if0 _ _).trans (feq (by decide : ¬ ((1 : Int32) = (0 : Int32)))).1) k) ?_
  show Gets p e below _ (T1.setTop (mkF m 14 #[.val (.ref ov125), .val (.ref ya1), .unset] []))
  refine Gets.of (fun t k => XS.aloadN X1.here hx rfl (hb hby d3_14) rfl rfl  k) ?_
  obtain ⟨T2, X2, e2, st2⟩ := castY X1 hx hZ hown (w28 hw) e1 (Ins.self F2) (g := (mkF m 15 #[.val (.ref ov125), .val (.ref ya1), .unset] [(.ref ya1)])) rfl rfl (hb hby d3_15)
  refine Gets.of st2 ?_
  show Gets p e below _ (T2.setTop (mkF m 18 #[.val (.ref ov125), .val (.ref ya1), .unset] [(.ref ya1)]))
  refine Gets.of (fun t k => XS.astoreN X2.here hx rfl (hb hby d3_18) rfl rfl (l' := #[.val (.ref ov125), .val (.ref ya1), .val (.ref ya1)]) rfl k) ?_
  show Gets p e below _ (T2.setTop (mkF m 19 #[.val (.ref ov125), .val (.ref ya1), .val (.ref ya1)] []))
  obtain ⟨T3, X3, e3, st3⟩ := getS2 X2 hx hZ hown (host := "") (Or.inl (w30 hw)) Via.refl e2 (oS3.ext O0.2) (g := (mkF m 19 #[.val (.ref ov125), .val (.ref ya1), .val (.ref ya1)] [])) rfl (hb hby d3_19)
  refine Gets.of st3 ?_
  show Gets p e below _ (T3.setTop (mkF m 22 #[.val (.ref ov125), .val (.ref ya1), .val (.ref ya1)] [(.int oi1)]))
  refine Gets.of (fun t k => XS.ifNo X3.here hx rfl (hb hby d3_22) rfl ((if0 _ _).trans (feq hy1).1) k) ?_
  show Gets p e below _ (T3.setTop (mkF m 25 #[.val (.ref ov125), .val (.ref ya1), .val (.ref ya1)] []))
  refine Gets.of (fun t k => XS.aloadN X3.here hx rfl (hb hby d3_25) rfl rfl  k) ?_
  obtain ⟨T4, X4, e4, st4⟩ := getF X3 hx hZ hown (host := "") (Or.inl (w31 hw)) Via.refl e3 (oF130.ext O0.2) (g := (mkF m 26 #[.val (.ref ov125), .val (.ref ya1), .val (.ref ya1)] [(.ref ov125)])) rfl rfl (hb hby d3_26)
  refine Gets.of st4 ?_
  show Gets p e below _ (T4.setTop (mkF m 29 #[.val (.ref ov125), .val (.ref ya1), .val (.ref ya1)] [(.int (0 : Int32))]))
  refine Gets.of (fun t k => XS.aloadN X4.here hx rfl (hb hby d3_29) rfl rfl  k) ?_
  obtain ⟨T5, X5, e5, st5⟩ := getF X4 hx hZ hown (host := "") (Or.inl (w31 hw)) Via.refl e4 F3 (g := (mkF m 30 #[.val (.ref ov125), .val (.ref ya1), .val (.ref ya1)] [(.ref ya1), (.int (0 : Int32))])) rfl rfl (hb hby d3_30)
  refine Gets.of st5 ?_
  show Gets p e below _ (T5.setTop (mkF m 33 #[.val (.ref ov125), .val (.ref ya1), .val (.ref ya1)] [(.int (0 : Int32)), (.int (0 : Int32))]))
  refine Gets.of (fun t k => XS.icmpNo X5.here hx rfl (hb hby d3_33) rfl (teq (by decide : (0 : Int32) = (0 : Int32))).2 k) ?_
  show Gets p e below _ (T5.setTop (mkF m 36 #[.val (.ref ov125), .val (.ref ya1), .val (.ref ya1)] []))
  refine Gets.of (fun t k => XS.aloadN X5.here hx rfl (hb hby d3_36) rfl rfl  k) ?_
  obtain ⟨T6, X6, e6, st6⟩ := getF X5 hx hZ hown (host := "") (Or.inl (w32 hw)) Via.refl e5 (oF133.ext O0.2) (g := (mkF m 37 #[.val (.ref ov125), .val (.ref ya1), .val (.ref ya1)] [(.ref ov125)])) rfl rfl (hb hby d3_37)
  refine Gets.of st6 ?_
  show Gets p e below _ (T6.setTop (mkF m 40 #[.val (.ref ov125), .val (.ref ya1), .val (.ref ya1)] [(.ref ov131)]))
  refine Gets.of (fun t k => XS.aloadN X6.here hx rfl (hb hby d3_40) rfl rfl  k) ?_
  obtain ⟨T7, X7, e7, st7⟩ := getF X6 hx hZ hown (host := "") (Or.inl (w32 hw)) Via.refl e6 F1 (g := (mkF m 41 #[.val (.ref ov125), .val (.ref ya1), .val (.ref ya1)] [(.ref ya1), (.ref ov131)])) rfl rfl (hb hby d3_41)
  refine Gets.of st7 ?_
  show Gets p e below _ (T7.setTop (mkF m 44 #[.val (.ref ov125), .val (.ref ya1), .val (.ref ya1)] [(.ref ya2), (.ref ov131)]))
  obtain ⟨_, _, ⟨T8, L8, k8, n8⟩, -, X8, ⟨Lc8, hQ8, l8, y8, z8⟩, st8⟩ := Jvm.LawKit.callS X7 hx (y := (⟨cn3, "equals", "([B[B)Z"⟩ : MethodName)) hown (mvT hZ (w33 hw)) (mvT hZ (w34 hw)) (mvT hZ (w35 hw)) (mvT hZ (w36 hw)) (by decide) (backOf (W := 0) (r30_equals l Z a0 hw [] ov131 ya2 ok158 yk3 h0 n0 O0 F0 oV157) hZ (w36 hw) (w35 hw) (by decide) (by decide)) (g := (mkF m 44 #[.val (.ref ov125), .val (.ref ya1), .val (.ref ya1)] [(.ref ya2), (.ref ov131)])) rfl (by rw [hml]; rfl) (argsL := [(.ref ov131), (.ref ya2)]) (rest := []) (lenOf pd__B_B_Z rfl) rfl (by show 2 * 0 + _ ≤ _; exact Nat.le_of_eq rfl) (hb hby d3_44) (fun _ _ => ⟨rfl, e7, (by decide : 0 + 0 ≤ _), (by decide : 0 + 0 ≤ _)⟩)
  dsimp only [Pt.U, Pt.locs, Pt.cells, Pt.slots] at X8 l8 y8 z8 st8 hQ8
  subst l8 y8 z8
  obtain ⟨Nq8, eq8, hR8⟩ := hQ8
  have N8 := Fr.app N0 Nq8
  obtain rfl := hR8
  refine Gets.of st8 ?_
  show Gets p e below _ (T8.setTop (mkF m 47 #[.val (.ref ov125), .val (.ref ya1), .val (.ref ya1)] [(.int (0 : Int32))]))
  refine Gets.of (fun t k => XS.ifYes X8.here hx rfl (pc0 := 47) (pc' := 54) rfl (hb hby d3_47) rfl ((if0 _ _).trans (teq (by decide : (0 : Int32) = (0 : Int32))).1) (by decide) (by decide) k) ?_
  show Gets p e below _ (T8.setTop (mkF m 54 #[.val (.ref ov125), .val (.ref ya1), .val (.ref ya1)] []))
  refine Gets.of (fun t k => XS.iconst X8.here hx rfl (hb hby d3_54) k) ?_
  refine Gets.retN X8 hx (t := .boolean) Bd.returns (by simp) (hb hby d3_55) ?_ (by decide) (by decide)
  rw [eq8]
  exact ⟨N8, rfl, rfl⟩
def Q_r32_equals (Z : State) (ov131 : Addr) (ya1 : Addr) (ok158 : ClassId) (yk2 : ClassId) (h0 : Heap) (n0 : Nat) (v : Option Value) (h : Heap) (L : List Loc) : Prop := Fr n0 L ∧ h = h0 ∧ ((v = some (.int (0 : Int32))))
set_option maxRecDepth 65536 in
set_option maxHeartbeats 40000000 in
theorem r32_equals (l : Launch) (Z : State) (a0 : Array Value) (hw : ∀ d ∈ tables_1, d.before a0 Z = true) (ws : List Jvm.Cond) (ov131 : Addr) (ya1 : Addr) (ok158 : ClassId) (yk2 : ClassId) (h0 : Heap) (n0 : Nat) (O0 : Old Z n0 h0) (F0 : Arv Z h0 ya1 yk2 .byte (2 : Int32) [(.int (97 : Int32)), (.int (110 : Int32))] (.int (0 : Int32))) (oV157 : Arv Z Z.heap ov131 ok158 .byte (1 : Int32) [(.int (98 : Int32))] (.int (0 : Int32))) :
    MetFree l (⟨cn3, "equals", "([B[B)Z"⟩ : MethodName) (head1 (Jvm.Cond.code (⟨cn3, "equals", "([B[B)Z"⟩ : MethodName) jdk_43_method_13_code 3 (some .boolean) :: ws) ({ frames := 0, cells := 0, slots := 0, locals := 0 } : Room)) (fun a U => a = #[(.ref ov131), (.ref ya1)] ∧ Z.Warmed39 U.vm ∧ U.heap = h0) (fun _ _ _ _ _ => True) (fun _ U o U' => ∃ v L, o = .returned v ∧ Q_r32_equals Z ov131 ya1 ok158 yk2 h0 n0 v U'.heap L ∧ FrameEnd U o U' L ({ frames := 0, cells := 0, slots := 0, locals := 0 } : Room).cells ({ frames := 0, cells := 0, slots := 0, locals := 0 } : Room).slots) := by
  refine MetFree.of_bodySF (plainFor_of_name pn_java_lang_StringLatin1) hisR ?_
  intro p e s m args below meth c s₁ Bd hml0 hP hK
  obtain ⟨rfl, hZ, hh⟩ := hP
  have hx := Bd.exec
  have hby := Bd.bytes
  have hlk := Bd.notSynchronized
  have hml : c.maxLocals = 3 := hml0
  have hown : s.vm.findClass cn3 = some m.cls := findClass_of_methodNamed Bd.named
  have hnm := (name_of_methodNamed Bd.named Bd.method).1
  have X0 : Stand p l e ({ frames := 0, cells := 0, slots := 0, locals := 0 } : Room) s m #[(.ref ov131), (.ref ya1)] below meth c s₁ [] 0 0 := Stand.of_body Bd
  have e0 : s₁.heap = h0 := by rw [← hh, Bd.state]; rfl
  have N0 := Fr.nil n0
  have K0 := Keep.refl h0 []
  have Z0 : n0 ≤ h0.size := O0.1 ▸ O0.2.1
  have hef : entryFrame m #[(.ref ov131), (.ref ya1)] 3 = mkF m 0 #[.val (.ref ov131), .val (.ref ya1), .unset] [] := by first | (simp [entryFrame, mkF, argsToLocals, Value.category]; done) | rfl
  rw [hef]
  refine Gets.out (Q := Q_r32_equals Z ov131 ya1 ok158 yk2 h0 n0) ?_
  show Gets p e below _ (s₁.setTop (mkF m 0 #[.val (.ref ov131), .val (.ref ya1), .unset] []))
  refine Gets.of (fun t k => XS.aloadN X0.here hx rfl (hb hby d4_0) rfl rfl  k) ?_
  obtain ⟨cl1, Ar1, -, S1, N_1, -, -⟩ := id ((oV157.ext O0.2))
  refine Gets.of (X0.arraylength hx (by rw [e0]; exact Ar1.1) (State.isArrayOf_alike hZ.alike Ar1.2.1) (g := (mkF m 1 #[.val (.ref ov131), .val (.ref ya1), .unset] [(.ref ov131)])) rfl rfl (hb hby d4_1)) ?_
  rw [len_of S1 N_1]
  show Gets p e below _ (s₁.setTop (mkF m 2 #[.val (.ref ov131), .val (.ref ya1), .unset] [(.int (1 : Int32))]))
  refine Gets.of (fun t k => XS.aloadN X0.here hx rfl (hb hby d4_2) rfl rfl  k) ?_
  obtain ⟨cl2, Ar2, -, S2, N_2, -, -⟩ := id (F0)
  refine Gets.of (X0.arraylength hx (by rw [e0]; exact Ar2.1) (State.isArrayOf_alike hZ.alike Ar2.2.1) (g := (mkF m 3 #[.val (.ref ov131), .val (.ref ya1), .unset] [(.ref ya1), (.int (1 : Int32))])) rfl rfl (hb hby d4_3)) ?_
  rw [len_of S2 N_2]
  show Gets p e below _ (s₁.setTop (mkF m 4 #[.val (.ref ov131), .val (.ref ya1), .unset] [(.int (2 : Int32)), (.int (1 : Int32))]))
  refine Gets.of (fun t k => XS.icmpYes X0.here hx rfl (pc0 := 4) (pc' := 34) rfl (hb hby d4_4) rfl (feq (by decide : ¬ ((1 : Int32) = (2 : Int32)))).2 (by decide) (by decide) k) ?_
  show Gets p e below _ (s₁.setTop (mkF m 34 #[.val (.ref ov131), .val (.ref ya1), .unset] []))
  refine Gets.of (fun t k => XS.iconst X0.here hx rfl (hb hby d4_34) k) ?_
  refine Gets.retN X0 hx (t := .boolean) Bd.returns (by simp) (hb hby d4_35) ?_ (by decide) (by decide)
  rw [e0]
  exact ⟨N0, rfl, rfl⟩
def Q_r31_equals (Z : State) (ov125 : Addr) (ya1 : Addr) (ov131 : Addr) (ok158 : ClassId) (ya2 : Addr) (yk3 : ClassId) (oi1 : Int32) (ok150 : ClassId) (ok152 : ClassId) (ok154 : ClassId) (h0 : Heap) (n0 : Nat) (v : Option Value) (h : Heap) (L : List Loc) : Prop := Fr n0 L ∧ h = h0 ∧ ((v = some (.int (0 : Int32))))
set_option maxRecDepth 65536 in
set_option maxHeartbeats 40000000 in
theorem r31_equals (l : Launch) (Z : State) (a0 : Array Value) (hw : ∀ d ∈ tables_1, d.before a0 Z = true) (ws : List Jvm.Cond) (ov125 : Addr) (ya1 : Addr) (ov131 : Addr) (ok158 : ClassId) (ya2 : Addr) (yk3 : ClassId) (oi1 : Int32) (ok150 : ClassId) (ok152 : ClassId) (ok154 : ClassId) (h0 : Heap) (n0 : Nat) (O0 : Old Z n0 h0) (F0 : Arv Z h0 ya2 yk3 .byte (2 : Int32) [(.int (97 : Int32)), (.int (110 : Int32))] (.int (0 : Int32))) (F1 : Fld Z h0 ya1 cn0 "value" "[B" (.ref ya2)) (F2 : Exa Z h0 ya1 cn0) (F3 : Fld Z h0 ya1 cn0 "coder" "B" (.int (0 : Int32))) (oV157 : Arv Z Z.heap ov131 ok158 .byte (1 : Int32) [(.int (98 : Int32))] (.int (0 : Int32))) (oF133 : Fld Z Z.heap ov125 cn0 "value" "[B" (.ref ov131)) (oS3 : Sta Z Z.heap cn0 "COMPACT_STRINGS" "Z" (.int oi1)) (oF130 : Fld Z Z.heap ov125 cn0 "coder" "B" (.int (0 : Int32))) (hy1 : ¬ (oi1 = (0 : Int32))) :
    MetFree l (⟨cn0, "equals", cn2⟩ : MethodName) (head1 (Jvm.Cond.code (⟨cn0, "equals", cn2⟩ : MethodName) jdk_42_method_66_code 3 (some .boolean) :: ws) ({ frames := 1, cells := 0, slots := 0, locals := 14 } : Room)) (fun a U => a = #[(.ref ov125), (.ref ya1)] ∧ Z.Warmed39 U.vm ∧ U.heap = h0) (fun _ _ _ _ _ => True) (fun _ U o U' => ∃ v L, o = .returned v ∧ Q_r31_equals Z ov125 ya1 ov131 ok158 ya2 yk3 oi1 ok150 ok152 ok154 h0 n0 v U'.heap L ∧ FrameEnd U o U' L ({ frames := 1, cells := 0, slots := 0, locals := 14 } : Room).cells ({ frames := 1, cells := 0, slots := 0, locals := 14 } : Room).slots) := by
  refine MetFree.of_bodySF (plainFor_of_name pn_java_lang_String) hisR ?_
  intro p e s m args below meth c s₁ Bd hml0 hP hK
  obtain ⟨rfl, hZ, hh⟩ := hP
  have hx := Bd.exec
  have hby := Bd.bytes
  have hlk := Bd.notSynchronized
  have hml : c.maxLocals = 3 := hml0
  have hown : s.vm.findClass cn0 = some m.cls := findClass_of_methodNamed Bd.named
  have hnm := (name_of_methodNamed Bd.named Bd.method).1
  have X0 : Stand p l e ({ frames := 1, cells := 0, slots := 0, locals := 14 } : Room) s m #[(.ref ov125), (.ref ya1)] below meth c s₁ [] 0 0 := Stand.of_body Bd
  have e0 : s₁.heap = h0 := by rw [← hh, Bd.state]; rfl
  have N0 := Fr.nil n0
  have K0 := Keep.refl h0 []
  have Z0 : n0 ≤ h0.size := O0.1 ▸ O0.2.1
  have hef : entryFrame m #[(.ref ov125), (.ref ya1)] 3 = mkF m 0 #[.val (.ref ov125), .val (.ref ya1), .unset] [] := by first | (simp [entryFrame, mkF, argsToLocals, Value.category]; done) | rfl
  rw [hef]
  refine Gets.out (Q := Q_r31_equals Z ov125 ya1 ov131 ok158 ya2 yk3 oi1 ok150 ok152 ok154 h0 n0) ?_
  show Gets p e below _ (s₁.setTop (mkF m 0 #[.val (.ref ov125), .val (.ref ya1), .unset] []))
  refine Gets.of (fun t k => XS.aloadN X0.here hx rfl (hb hby d3_0) rfl rfl  k) ?_
  refine Gets.of (fun t k => XS.aloadN X0.here hx rfl (hb hby d3_1) rfl rfl  k) ?_
  refine Gets.of (fun t k => Jvm.RoadKit.acmp (g := (mkF m 2 #[.val (.ref ov125), .val (.ref ya1), .unset] [(.ref ya1), (.ref ov125)])) X0 hx rfl rfl rfl (pc0 := 2) (pc' := 7) (same := false) rfl (hb hby d3_2) rfl (decide_eq_false fun q => (Fld.ne (oF133.ext O0.2) F1 (fun q => (arv_ne (oV157.ext O0.2) F0 (Or.inl (by decide))) (Value.ref.inj q))) (Value.ref.inj q)) (by decide) (by decide) k) ?_
  show Gets p e below _ (s₁.setTop (mkF m 7 #[.val (.ref ov125), .val (.ref ya1), .unset] []))
  refine Gets.of (fun t k => XS.aloadN X0.here hx rfl (hb hby d3_7) rfl rfl  k) ?_
  obtain ⟨T1, X1, e1, st1⟩ := instY X0 hx hZ hown (w28 hw) e0 (Ins.self F2) (g := (mkF m 8 #[.val (.ref ov125), .val (.ref ya1), .unset] [(.ref ya1)])) rfl rfl (hb hby d3_8)
  refine Gets.of st1 ?_
  show Gets p e below _ (T1.setTop (mkF m 11 #[.val (.ref ov125), .val (.ref ya1), .unset] [(.int (1 : Int32))]))
  refine Gets.of (fun t k => XS.ifNo X1.here hx rfl (hb hby d3_11) rfl ((if0 _ _).trans (feq (by decide : ¬ ((1 : Int32) = (0 : Int32)))).1) k) ?_
  show Gets p e below _ (T1.setTop (mkF m 14 #[.val (.ref ov125), .val (.ref ya1), .unset] []))
  refine Gets.of (fun t k => XS.aloadN X1.here hx rfl (hb hby d3_14) rfl rfl  k) ?_
  obtain ⟨T2, X2, e2, st2⟩ := castY X1 hx hZ hown (w28 hw) e1 (Ins.self F2) (g := (mkF m 15 #[.val (.ref ov125), .val (.ref ya1), .unset] [(.ref ya1)])) rfl rfl (hb hby d3_15)
  refine Gets.of st2 ?_
  show Gets p e below _ (T2.setTop (mkF m 18 #[.val (.ref ov125), .val (.ref ya1), .unset] [(.ref ya1)]))
  refine Gets.of (fun t k => XS.astoreN X2.here hx rfl (hb hby d3_18) rfl rfl (l' := #[.val (.ref ov125), .val (.ref ya1), .val (.ref ya1)]) rfl k) ?_
  show Gets p e below _ (T2.setTop (mkF m 19 #[.val (.ref ov125), .val (.ref ya1), .val (.ref ya1)] []))
  obtain ⟨T3, X3, e3, st3⟩ := getS2 X2 hx hZ hown (host := "") (Or.inl (w30 hw)) Via.refl e2 (oS3.ext O0.2) (g := (mkF m 19 #[.val (.ref ov125), .val (.ref ya1), .val (.ref ya1)] [])) rfl (hb hby d3_19)
  refine Gets.of st3 ?_
  show Gets p e below _ (T3.setTop (mkF m 22 #[.val (.ref ov125), .val (.ref ya1), .val (.ref ya1)] [(.int oi1)]))
  refine Gets.of (fun t k => XS.ifNo X3.here hx rfl (hb hby d3_22) rfl ((if0 _ _).trans (feq hy1).1) k) ?_
  show Gets p e below _ (T3.setTop (mkF m 25 #[.val (.ref ov125), .val (.ref ya1), .val (.ref ya1)] []))
  refine Gets.of (fun t k => XS.aloadN X3.here hx rfl (hb hby d3_25) rfl rfl  k) ?_
  obtain ⟨T4, X4, e4, st4⟩ := getF X3 hx hZ hown (host := "") (Or.inl (w31 hw)) Via.refl e3 (oF130.ext O0.2) (g := (mkF m 26 #[.val (.ref ov125), .val (.ref ya1), .val (.ref ya1)] [(.ref ov125)])) rfl rfl (hb hby d3_26)
  refine Gets.of st4 ?_
  show Gets p e below _ (T4.setTop (mkF m 29 #[.val (.ref ov125), .val (.ref ya1), .val (.ref ya1)] [(.int (0 : Int32))]))
  refine Gets.of (fun t k => XS.aloadN X4.here hx rfl (hb hby d3_29) rfl rfl  k) ?_
  obtain ⟨T5, X5, e5, st5⟩ := getF X4 hx hZ hown (host := "") (Or.inl (w31 hw)) Via.refl e4 F3 (g := (mkF m 30 #[.val (.ref ov125), .val (.ref ya1), .val (.ref ya1)] [(.ref ya1), (.int (0 : Int32))])) rfl rfl (hb hby d3_30)
  refine Gets.of st5 ?_
  show Gets p e below _ (T5.setTop (mkF m 33 #[.val (.ref ov125), .val (.ref ya1), .val (.ref ya1)] [(.int (0 : Int32)), (.int (0 : Int32))]))
  refine Gets.of (fun t k => XS.icmpNo X5.here hx rfl (hb hby d3_33) rfl (teq (by decide : (0 : Int32) = (0 : Int32))).2 k) ?_
  show Gets p e below _ (T5.setTop (mkF m 36 #[.val (.ref ov125), .val (.ref ya1), .val (.ref ya1)] []))
  refine Gets.of (fun t k => XS.aloadN X5.here hx rfl (hb hby d3_36) rfl rfl  k) ?_
  obtain ⟨T6, X6, e6, st6⟩ := getF X5 hx hZ hown (host := "") (Or.inl (w32 hw)) Via.refl e5 (oF133.ext O0.2) (g := (mkF m 37 #[.val (.ref ov125), .val (.ref ya1), .val (.ref ya1)] [(.ref ov125)])) rfl rfl (hb hby d3_37)
  refine Gets.of st6 ?_
  show Gets p e below _ (T6.setTop (mkF m 40 #[.val (.ref ov125), .val (.ref ya1), .val (.ref ya1)] [(.ref ov131)]))
  refine Gets.of (fun t k => XS.aloadN X6.here hx rfl (hb hby d3_40) rfl rfl  k) ?_
  obtain ⟨T7, X7, e7, st7⟩ := getF X6 hx hZ hown (host := "") (Or.inl (w32 hw)) Via.refl e6 F1 (g := (mkF m 41 #[.val (.ref ov125), .val (.ref ya1), .val (.ref ya1)] [(.ref ya1), (.ref ov131)])) rfl rfl (hb hby d3_41)
  refine Gets.of st7 ?_
  show Gets p e below _ (T7.setTop (mkF m 44 #[.val (.ref ov125), .val (.ref ya1), .val (.ref ya1)] [(.ref ya2), (.ref ov131)]))
  obtain ⟨_, _, ⟨T8, L8, k8, n8⟩, -, X8, ⟨Lc8, hQ8, l8, y8, z8⟩, st8⟩ := Jvm.LawKit.callS X7 hx (y := (⟨cn3, "equals", "([B[B)Z"⟩ : MethodName)) hown (mvT hZ (w33 hw)) (mvT hZ (w34 hw)) (mvT hZ (w35 hw)) (mvT hZ (w36 hw)) (by decide) (backOf (W := 0) (r32_equals l Z a0 hw [] ov131 ya2 ok158 yk3 h0 n0 O0 F0 oV157) hZ (w36 hw) (w35 hw) (by decide) (by decide)) (g := (mkF m 44 #[.val (.ref ov125), .val (.ref ya1), .val (.ref ya1)] [(.ref ya2), (.ref ov131)])) rfl (by rw [hml]; rfl) (argsL := [(.ref ov131), (.ref ya2)]) (rest := []) (lenOf pd__B_B_Z rfl) rfl (by show 2 * 0 + _ ≤ _; exact Nat.le_of_eq rfl) (hb hby d3_44) (fun _ _ => ⟨rfl, e7, (by decide : 0 + 0 ≤ _), (by decide : 0 + 0 ≤ _)⟩)
  dsimp only [Pt.U, Pt.locs, Pt.cells, Pt.slots] at X8 l8 y8 z8 st8 hQ8
  subst l8 y8 z8
  obtain ⟨Nq8, eq8, hR8⟩ := hQ8
  have N8 := Fr.app N0 Nq8
  obtain rfl := hR8
  refine Gets.of st8 ?_
  show Gets p e below _ (T8.setTop (mkF m 47 #[.val (.ref ov125), .val (.ref ya1), .val (.ref ya1)] [(.int (0 : Int32))]))
  refine Gets.of (fun t k => XS.ifYes X8.here hx rfl (pc0 := 47) (pc' := 54) rfl (hb hby d3_47) rfl ((if0 _ _).trans (teq (by decide : (0 : Int32) = (0 : Int32))).1) (by decide) (by decide) k) ?_
  show Gets p e below _ (T8.setTop (mkF m 54 #[.val (.ref ov125), .val (.ref ya1), .val (.ref ya1)] []))
  refine Gets.of (fun t k => XS.iconst X8.here hx rfl (hb hby d3_54) k) ?_
  refine Gets.retN X8 hx (t := .boolean) Bd.returns (by simp) (hb hby d3_55) ?_ (by decide) (by decide)
  rw [eq8]
  exact ⟨N8, rfl, rfl⟩
def Q_r34_equals (Z : State) (ov131 : Addr) (ya1 : Addr) (ok158 : ClassId) (yk2 : ClassId) (h0 : Heap) (n0 : Nat) (v : Option Value) (h : Heap) (L : List Loc) : Prop := Fr n0 L ∧ h = h0 ∧ ((v = some (.int (0 : Int32))))
set_option maxRecDepth 65536 in
set_option maxHeartbeats 40000000 in
theorem r34_equals (l : Launch) (Z : State) (a0 : Array Value) (hw : ∀ d ∈ tables_1, d.before a0 Z = true) (ws : List Jvm.Cond) (ov131 : Addr) (ya1 : Addr) (ok158 : ClassId) (yk2 : ClassId) (h0 : Heap) (n0 : Nat) (O0 : Old Z n0 h0) (F0 : Arv Z h0 ya1 yk2 .byte (3 : Int32) [(.int (97 : Int32)), (.int (110 : Int32)), (.int (115 : Int32))] (.int (0 : Int32))) (oV157 : Arv Z Z.heap ov131 ok158 .byte (1 : Int32) [(.int (98 : Int32))] (.int (0 : Int32))) :
    MetFree l (⟨cn3, "equals", "([B[B)Z"⟩ : MethodName) (head1 (Jvm.Cond.code (⟨cn3, "equals", "([B[B)Z"⟩ : MethodName) jdk_43_method_13_code 3 (some .boolean) :: ws) ({ frames := 0, cells := 0, slots := 0, locals := 0 } : Room)) (fun a U => a = #[(.ref ov131), (.ref ya1)] ∧ Z.Warmed39 U.vm ∧ U.heap = h0) (fun _ _ _ _ _ => True) (fun _ U o U' => ∃ v L, o = .returned v ∧ Q_r34_equals Z ov131 ya1 ok158 yk2 h0 n0 v U'.heap L ∧ FrameEnd U o U' L ({ frames := 0, cells := 0, slots := 0, locals := 0 } : Room).cells ({ frames := 0, cells := 0, slots := 0, locals := 0 } : Room).slots) := by
  refine MetFree.of_bodySF (plainFor_of_name pn_java_lang_StringLatin1) hisR ?_
  intro p e s m args below meth c s₁ Bd hml0 hP hK
  obtain ⟨rfl, hZ, hh⟩ := hP
  have hx := Bd.exec
  have hby := Bd.bytes
  have hlk := Bd.notSynchronized
  have hml : c.maxLocals = 3 := hml0
  have hown : s.vm.findClass cn3 = some m.cls := findClass_of_methodNamed Bd.named
  have hnm := (name_of_methodNamed Bd.named Bd.method).1
  have X0 : Stand p l e ({ frames := 0, cells := 0, slots := 0, locals := 0 } : Room) s m #[(.ref ov131), (.ref ya1)] below meth c s₁ [] 0 0 := Stand.of_body Bd
  have e0 : s₁.heap = h0 := by rw [← hh, Bd.state]; rfl
  have N0 := Fr.nil n0
  have K0 := Keep.refl h0 []
  have Z0 : n0 ≤ h0.size := O0.1 ▸ O0.2.1
  have hef : entryFrame m #[(.ref ov131), (.ref ya1)] 3 = mkF m 0 #[.val (.ref ov131), .val (.ref ya1), .unset] [] := by first | (simp [entryFrame, mkF, argsToLocals, Value.category]; done) | rfl
  rw [hef]
  refine Gets.out (Q := Q_r34_equals Z ov131 ya1 ok158 yk2 h0 n0) ?_
  show Gets p e below _ (s₁.setTop (mkF m 0 #[.val (.ref ov131), .val (.ref ya1), .unset] []))
  refine Gets.of (fun t k => XS.aloadN X0.here hx rfl (hb hby d4_0) rfl rfl  k) ?_
  obtain ⟨cl1, Ar1, -, S1, N_1, -, -⟩ := id ((oV157.ext O0.2))
  refine Gets.of (X0.arraylength hx (by rw [e0]; exact Ar1.1) (State.isArrayOf_alike hZ.alike Ar1.2.1) (g := (mkF m 1 #[.val (.ref ov131), .val (.ref ya1), .unset] [(.ref ov131)])) rfl rfl (hb hby d4_1)) ?_
  rw [len_of S1 N_1]
  show Gets p e below _ (s₁.setTop (mkF m 2 #[.val (.ref ov131), .val (.ref ya1), .unset] [(.int (1 : Int32))]))
  refine Gets.of (fun t k => XS.aloadN X0.here hx rfl (hb hby d4_2) rfl rfl  k) ?_
  obtain ⟨cl2, Ar2, -, S2, N_2, -, -⟩ := id (F0)
  refine Gets.of (X0.arraylength hx (by rw [e0]; exact Ar2.1) (State.isArrayOf_alike hZ.alike Ar2.2.1) (g := (mkF m 3 #[.val (.ref ov131), .val (.ref ya1), .unset] [(.ref ya1), (.int (1 : Int32))])) rfl rfl (hb hby d4_3)) ?_
  rw [len_of S2 N_2]
  show Gets p e below _ (s₁.setTop (mkF m 4 #[.val (.ref ov131), .val (.ref ya1), .unset] [(.int (3 : Int32)), (.int (1 : Int32))]))
  refine Gets.of (fun t k => XS.icmpYes X0.here hx rfl (pc0 := 4) (pc' := 34) rfl (hb hby d4_4) rfl (feq (by decide : ¬ ((1 : Int32) = (3 : Int32)))).2 (by decide) (by decide) k) ?_
  show Gets p e below _ (s₁.setTop (mkF m 34 #[.val (.ref ov131), .val (.ref ya1), .unset] []))
  refine Gets.of (fun t k => XS.iconst X0.here hx rfl (hb hby d4_34) k) ?_
  refine Gets.retN X0 hx (t := .boolean) Bd.returns (by simp) (hb hby d4_35) ?_ (by decide) (by decide)
  rw [e0]
  exact ⟨N0, rfl, rfl⟩
def Q_r33_equals (Z : State) (ov125 : Addr) (ya1 : Addr) (ov131 : Addr) (ok158 : ClassId) (ya2 : Addr) (yk3 : ClassId) (oi1 : Int32) (ok150 : ClassId) (ok152 : ClassId) (h0 : Heap) (n0 : Nat) (v : Option Value) (h : Heap) (L : List Loc) : Prop := Fr n0 L ∧ h = h0 ∧ ((v = some (.int (0 : Int32))))
set_option maxRecDepth 65536 in
set_option maxHeartbeats 40000000 in
theorem r33_equals (l : Launch) (Z : State) (a0 : Array Value) (hw : ∀ d ∈ tables_1, d.before a0 Z = true) (ws : List Jvm.Cond) (ov125 : Addr) (ya1 : Addr) (ov131 : Addr) (ok158 : ClassId) (ya2 : Addr) (yk3 : ClassId) (oi1 : Int32) (ok150 : ClassId) (ok152 : ClassId) (h0 : Heap) (n0 : Nat) (O0 : Old Z n0 h0) (F0 : Arv Z h0 ya2 yk3 .byte (3 : Int32) [(.int (97 : Int32)), (.int (110 : Int32)), (.int (115 : Int32))] (.int (0 : Int32))) (F1 : Fld Z h0 ya1 cn0 "value" "[B" (.ref ya2)) (F2 : Exa Z h0 ya1 cn0) (F3 : Fld Z h0 ya1 cn0 "coder" "B" (.int (0 : Int32))) (oV157 : Arv Z Z.heap ov131 ok158 .byte (1 : Int32) [(.int (98 : Int32))] (.int (0 : Int32))) (oF133 : Fld Z Z.heap ov125 cn0 "value" "[B" (.ref ov131)) (oS3 : Sta Z Z.heap cn0 "COMPACT_STRINGS" "Z" (.int oi1)) (oF130 : Fld Z Z.heap ov125 cn0 "coder" "B" (.int (0 : Int32))) (hy1 : ¬ (oi1 = (0 : Int32))) :
    MetFree l (⟨cn0, "equals", cn2⟩ : MethodName) (head1 (Jvm.Cond.code (⟨cn0, "equals", cn2⟩ : MethodName) jdk_42_method_66_code 3 (some .boolean) :: ws) ({ frames := 1, cells := 0, slots := 0, locals := 14 } : Room)) (fun a U => a = #[(.ref ov125), (.ref ya1)] ∧ Z.Warmed39 U.vm ∧ U.heap = h0) (fun _ _ _ _ _ => True) (fun _ U o U' => ∃ v L, o = .returned v ∧ Q_r33_equals Z ov125 ya1 ov131 ok158 ya2 yk3 oi1 ok150 ok152 h0 n0 v U'.heap L ∧ FrameEnd U o U' L ({ frames := 1, cells := 0, slots := 0, locals := 14 } : Room).cells ({ frames := 1, cells := 0, slots := 0, locals := 14 } : Room).slots) := by
  refine MetFree.of_bodySF (plainFor_of_name pn_java_lang_String) hisR ?_
  intro p e s m args below meth c s₁ Bd hml0 hP hK
  obtain ⟨rfl, hZ, hh⟩ := hP
  have hx := Bd.exec
  have hby := Bd.bytes
  have hlk := Bd.notSynchronized
  have hml : c.maxLocals = 3 := hml0
  have hown : s.vm.findClass cn0 = some m.cls := findClass_of_methodNamed Bd.named
  have hnm := (name_of_methodNamed Bd.named Bd.method).1
  have X0 : Stand p l e ({ frames := 1, cells := 0, slots := 0, locals := 14 } : Room) s m #[(.ref ov125), (.ref ya1)] below meth c s₁ [] 0 0 := Stand.of_body Bd
  have e0 : s₁.heap = h0 := by rw [← hh, Bd.state]; rfl
  have N0 := Fr.nil n0
  have K0 := Keep.refl h0 []
  have Z0 : n0 ≤ h0.size := O0.1 ▸ O0.2.1
  have hef : entryFrame m #[(.ref ov125), (.ref ya1)] 3 = mkF m 0 #[.val (.ref ov125), .val (.ref ya1), .unset] [] := by first | (simp [entryFrame, mkF, argsToLocals, Value.category]; done) | rfl
  rw [hef]
  refine Gets.out (Q := Q_r33_equals Z ov125 ya1 ov131 ok158 ya2 yk3 oi1 ok150 ok152 h0 n0) ?_
  show Gets p e below _ (s₁.setTop (mkF m 0 #[.val (.ref ov125), .val (.ref ya1), .unset] []))
  refine Gets.of (fun t k => XS.aloadN X0.here hx rfl (hb hby d3_0) rfl rfl  k) ?_
  refine Gets.of (fun t k => XS.aloadN X0.here hx rfl (hb hby d3_1) rfl rfl  k) ?_
  refine Gets.of (fun t k => Jvm.RoadKit.acmp (g := (mkF m 2 #[.val (.ref ov125), .val (.ref ya1), .unset] [(.ref ya1), (.ref ov125)])) X0 hx rfl rfl rfl (pc0 := 2) (pc' := 7) (same := false) rfl (hb hby d3_2) rfl (decide_eq_false fun q => (Fld.ne (oF133.ext O0.2) F1 (fun q => (arv_ne (oV157.ext O0.2) F0 (Or.inl (by decide))) (Value.ref.inj q))) (Value.ref.inj q)) (by decide) (by decide) k) ?_
  show Gets p e below _ (s₁.setTop (mkF m 7 #[.val (.ref ov125), .val (.ref ya1), .unset] []))
  refine Gets.of (fun t k => XS.aloadN X0.here hx rfl (hb hby d3_7) rfl rfl  k) ?_
  obtain ⟨T1, X1, e1, st1⟩ := instY X0 hx hZ hown (w28 hw) e0 (Ins.self F2) (g := (mkF m 8 #[.val (.ref ov125), .val (.ref ya1), .unset] [(.ref ya1)])) rfl rfl (hb hby d3_8)
  refine Gets.of st1 ?_
  show Gets p e below _ (T1.setTop (mkF m 11 #[.val (.ref ov125), .val (.ref ya1), .unset] [(.int (1 : Int32))]))
  refine Gets.of (fun t k => XS.ifNo X1.here hx rfl (hb hby d3_11) rfl ((if0 _ _).trans (feq (by decide : ¬ ((1 : Int32) = (0 : Int32)))).1) k) ?_
  show Gets p e below _ (T1.setTop (mkF m 14 #[.val (.ref ov125), .val (.ref ya1), .unset] []))
  refine Gets.of (fun t k => XS.aloadN X1.here hx rfl (hb hby d3_14) rfl rfl  k) ?_
  obtain ⟨T2, X2, e2, st2⟩ := castY X1 hx hZ hown (w28 hw) e1 (Ins.self F2) (g := (mkF m 15 #[.val (.ref ov125), .val (.ref ya1), .unset] [(.ref ya1)])) rfl rfl (hb hby d3_15)
  refine Gets.of st2 ?_
  show Gets p e below _ (T2.setTop (mkF m 18 #[.val (.ref ov125), .val (.ref ya1), .unset] [(.ref ya1)]))
  refine Gets.of (fun t k => XS.astoreN X2.here hx rfl (hb hby d3_18) rfl rfl (l' := #[.val (.ref ov125), .val (.ref ya1), .val (.ref ya1)]) rfl k) ?_
  show Gets p e below _ (T2.setTop (mkF m 19 #[.val (.ref ov125), .val (.ref ya1), .val (.ref ya1)] []))
  obtain ⟨T3, X3, e3, st3⟩ := getS2 X2 hx hZ hown (host := "") (Or.inl (w30 hw)) Via.refl e2 (oS3.ext O0.2) (g := (mkF m 19 #[.val (.ref ov125), .val (.ref ya1), .val (.ref ya1)] [])) rfl (hb hby d3_19)
  refine Gets.of st3 ?_
  show Gets p e below _ (T3.setTop (mkF m 22 #[.val (.ref ov125), .val (.ref ya1), .val (.ref ya1)] [(.int oi1)]))
  refine Gets.of (fun t k => XS.ifNo X3.here hx rfl (hb hby d3_22) rfl ((if0 _ _).trans (feq hy1).1) k) ?_
  show Gets p e below _ (T3.setTop (mkF m 25 #[.val (.ref ov125), .val (.ref ya1), .val (.ref ya1)] []))
  refine Gets.of (fun t k => XS.aloadN X3.here hx rfl (hb hby d3_25) rfl rfl  k) ?_
  obtain ⟨T4, X4, e4, st4⟩ := getF X3 hx hZ hown (host := "") (Or.inl (w31 hw)) Via.refl e3 (oF130.ext O0.2) (g := (mkF m 26 #[.val (.ref ov125), .val (.ref ya1), .val (.ref ya1)] [(.ref ov125)])) rfl rfl (hb hby d3_26)
  refine Gets.of st4 ?_
  show Gets p e below _ (T4.setTop (mkF m 29 #[.val (.ref ov125), .val (.ref ya1), .val (.ref ya1)] [(.int (0 : Int32))]))
  refine Gets.of (fun t k => XS.aloadN X4.here hx rfl (hb hby d3_29) rfl rfl  k) ?_
  obtain ⟨T5, X5, e5, st5⟩ := getF X4 hx hZ hown (host := "") (Or.inl (w31 hw)) Via.refl e4 F3 (g := (mkF m 30 #[.val (.ref ov125), .val (.ref ya1), .val (.ref ya1)] [(.ref ya1), (.int (0 : Int32))])) rfl rfl (hb hby d3_30)
  refine Gets.of st5 ?_
  show Gets p e below _ (T5.setTop (mkF m 33 #[.val (.ref ov125), .val (.ref ya1), .val (.ref ya1)] [(.int (0 : Int32)), (.int (0 : Int32))]))
  refine Gets.of (fun t k => XS.icmpNo X5.here hx rfl (hb hby d3_33) rfl (teq (by decide : (0 : Int32) = (0 : Int32))).2 k) ?_
  show Gets p e below _ (T5.setTop (mkF m 36 #[.val (.ref ov125), .val (.ref ya1), .val (.ref ya1)] []))
  refine Gets.of (fun t k => XS.aloadN X5.here hx rfl (hb hby d3_36) rfl rfl  k) ?_
  obtain ⟨T6, X6, e6, st6⟩ := getF X5 hx hZ hown (host := "") (Or.inl (w32 hw)) Via.refl e5 (oF133.ext O0.2) (g := (mkF m 37 #[.val (.ref ov125), .val (.ref ya1), .val (.ref ya1)] [(.ref ov125)])) rfl rfl (hb hby d3_37)
  refine Gets.of st6 ?_
  show Gets p e below _ (T6.setTop (mkF m 40 #[.val (.ref ov125), .val (.ref ya1), .val (.ref ya1)] [(.ref ov131)]))
  refine Gets.of (fun t k => XS.aloadN X6.here hx rfl (hb hby d3_40) rfl rfl  k) ?_
  obtain ⟨T7, X7, e7, st7⟩ := getF X6 hx hZ hown (host := "") (Or.inl (w32 hw)) Via.refl e6 F1 (g := (mkF m 41 #[.val (.ref ov125), .val (.ref ya1), .val (.ref ya1)] [(.ref ya1), (.ref ov131)])) rfl rfl (hb hby d3_41)
  refine Gets.of st7 ?_
  show Gets p e below _ (T7.setTop (mkF m 44 #[.val (.ref ov125), .val (.ref ya1), .val (.ref ya1)] [(.ref ya2), (.ref ov131)]))
  obtain ⟨_, _, ⟨T8, L8, k8, n8⟩, -, X8, ⟨Lc8, hQ8, l8, y8, z8⟩, st8⟩ := Jvm.LawKit.callS X7 hx (y := (⟨cn3, "equals", "([B[B)Z"⟩ : MethodName)) hown (mvT hZ (w33 hw)) (mvT hZ (w34 hw)) (mvT hZ (w35 hw)) (mvT hZ (w36 hw)) (by decide) (backOf (W := 0) (r34_equals l Z a0 hw [] ov131 ya2 ok158 yk3 h0 n0 O0 F0 oV157) hZ (w36 hw) (w35 hw) (by decide) (by decide)) (g := (mkF m 44 #[.val (.ref ov125), .val (.ref ya1), .val (.ref ya1)] [(.ref ya2), (.ref ov131)])) rfl (by rw [hml]; rfl) (argsL := [(.ref ov131), (.ref ya2)]) (rest := []) (lenOf pd__B_B_Z rfl) rfl (by show 2 * 0 + _ ≤ _; exact Nat.le_of_eq rfl) (hb hby d3_44) (fun _ _ => ⟨rfl, e7, (by decide : 0 + 0 ≤ _), (by decide : 0 + 0 ≤ _)⟩)
  dsimp only [Pt.U, Pt.locs, Pt.cells, Pt.slots] at X8 l8 y8 z8 st8 hQ8
  subst l8 y8 z8
  obtain ⟨Nq8, eq8, hR8⟩ := hQ8
  have N8 := Fr.app N0 Nq8
  obtain rfl := hR8
  refine Gets.of st8 ?_
  show Gets p e below _ (T8.setTop (mkF m 47 #[.val (.ref ov125), .val (.ref ya1), .val (.ref ya1)] [(.int (0 : Int32))]))
  refine Gets.of (fun t k => XS.ifYes X8.here hx rfl (pc0 := 47) (pc' := 54) rfl (hb hby d3_47) rfl ((if0 _ _).trans (teq (by decide : (0 : Int32) = (0 : Int32))).1) (by decide) (by decide) k) ?_
  show Gets p e below _ (T8.setTop (mkF m 54 #[.val (.ref ov125), .val (.ref ya1), .val (.ref ya1)] []))
  refine Gets.of (fun t k => XS.iconst X8.here hx rfl (hb hby d3_54) k) ?_
  refine Gets.retN X8 hx (t := .boolean) Bd.returns (by simp) (hb hby d3_55) ?_ (by decide) (by decide)
  rw [eq8]
  exact ⟨N8, rfl, rfl⟩
def Q_r35_fills (Z : State) (ov121 : Addr) (ov5 : Addr) (ov49 : Addr) (ov55 : Addr) (h0 : Heap) (n0 : Nat) (v : Option Value) (h : Heap) (L : List Loc) : Prop := Fr n0 L ∧ h = h0 ∧ ((v = some (.int (0 : Int32))))
set_option maxRecDepth 65536 in
set_option maxHeartbeats 40000000 in
theorem r35_fills (l : Launch) (Z : State) (a0 : Array Value) (hw : ∀ d ∈ tables_1, d.before a0 Z = true) (ws : List Jvm.Cond) (ov121 : Addr) (ov5 : Addr) (ov49 : Addr) (ov55 : Addr) (h0 : Heap) (n0 : Nat) (O0 : Old Z n0 h0) (oS7 : Sta Z Z.heap cn1 "N" cn4 (.ref ov5)) (oF142 : Fld Z Z.heap ov121 "java/lang/Enum" "ordinal" "I" (.int (4 : Int32))) (oF48 : Fld Z Z.heap ov5 "java/lang/Enum" "ordinal" "I" (.int (0 : Int32))) (oS51 : Sta Z Z.heap cn1 "AN" cn4 (.ref ov49)) (oF54 : Fld Z Z.heap ov49 "java/lang/Enum" "ordinal" "I" (.int (1 : Int32))) (oS57 : Sta Z Z.heap cn1 "ANS" cn4 (.ref ov55)) (oF60 : Fld Z Z.heap ov55 "java/lang/Enum" "ordinal" "I" (.int (2 : Int32))) :
    MetFree l (⟨cn1, "fills", "()Z"⟩ : MethodName) (head1 (Jvm.Cond.code (⟨cn1, "fills", "()Z"⟩ : MethodName) prog_67_method_12_code 1 (some .boolean) :: ws) ({ frames := 0, cells := 0, slots := 0, locals := 0 } : Room)) (fun a U => a = #[(.ref ov121)] ∧ Z.Warmed39 U.vm ∧ U.heap = h0) (fun _ _ _ _ _ => True) (fun _ U o U' => ∃ v L, o = .returned v ∧ Q_r35_fills Z ov121 ov5 ov49 ov55 h0 n0 v U'.heap L ∧ FrameEnd U o U' L ({ frames := 0, cells := 0, slots := 0, locals := 0 } : Room).cells ({ frames := 0, cells := 0, slots := 0, locals := 0 } : Room).slots) := by
  refine MetFree.of_bodySF (plainFor_of_name pn_com_example_cardwire_cardwire_core_Attribute) hisR ?_
  intro p e s m args below meth c s₁ Bd hml0 hP hK
  obtain ⟨rfl, hZ, hh⟩ := hP
  have hx := Bd.exec
  have hby := Bd.bytes
  have hlk := Bd.notSynchronized
  have hml : c.maxLocals = 1 := hml0
  have hown : s.vm.findClass cn1 = some m.cls := findClass_of_methodNamed Bd.named
  have hnm := (name_of_methodNamed Bd.named Bd.method).1
  have X0 : Stand p l e ({ frames := 0, cells := 0, slots := 0, locals := 0 } : Room) s m #[(.ref ov121)] below meth c s₁ [] 0 0 := Stand.of_body Bd
  have e0 : s₁.heap = h0 := by rw [← hh, Bd.state]; rfl
  have N0 := Fr.nil n0
  have K0 := Keep.refl h0 []
  have Z0 : n0 ≤ h0.size := O0.1 ▸ O0.2.1
  have hef : entryFrame m #[(.ref ov121)] 1 = mkF m 0 #[.val (.ref ov121)] [] := by first | (simp [entryFrame, mkF, argsToLocals, Value.category]; done) | rfl
  rw [hef]
  refine Gets.out (Q := Q_r35_fills Z ov121 ov5 ov49 ov55 h0 n0) ?_
  show Gets p e below _ (s₁.setTop (mkF m 0 #[.val (.ref ov121)] []))
  refine Gets.of (fun t k => XS.aloadN X0.here hx rfl (hb hby d5_0) rfl rfl  k) ?_
  obtain ⟨T1, X1, e1, st1⟩ := getS2 X0 hx hZ hown (host := "") (Or.inl (w42 hw)) Via.refl e0 (oS7.ext O0.2) (g := (mkF m 1 #[.val (.ref ov121)] [(.ref ov121)])) rfl (hb hby d5_1)
  refine Gets.of st1 ?_
  show Gets p e below _ (T1.setTop (mkF m 4 #[.val (.ref ov121)] [(.ref ov5), (.ref ov121)]))
  refine Gets.of (fun t k => Jvm.RoadKit.acmp (g := (mkF m 4 #[.val (.ref ov121)] [(.ref ov5), (.ref ov121)])) X1 hx rfl rfl rfl (pc0 := 4) (pc' := 7) (same := false) rfl (hb hby d5_4) rfl (decide_eq_false fun q => (Fld.ne (oF142.ext O0.2) (oF48.ext O0.2) (fun q => absurd (Value.int.inj q) (by decide))) (Value.ref.inj q)) (by decide) (by decide) k) ?_
  show Gets p e below _ (T1.setTop (mkF m 7 #[.val (.ref ov121)] []))
  refine Gets.of (fun t k => XS.aloadN X1.here hx rfl (hb hby d5_7) rfl rfl  k) ?_
  obtain ⟨T2, X2, e2, st2⟩ := getS2 X1 hx hZ hown (host := "") (Or.inl (w47 hw)) Via.refl e1 (oS51.ext O0.2) (g := (mkF m 8 #[.val (.ref ov121)] [(.ref ov121)])) rfl (hb hby d5_8)
  refine Gets.of st2 ?_
  show Gets p e below _ (T2.setTop (mkF m 11 #[.val (.ref ov121)] [(.ref ov49), (.ref ov121)]))
  refine Gets.of (fun t k => Jvm.RoadKit.acmp (g := (mkF m 11 #[.val (.ref ov121)] [(.ref ov49), (.ref ov121)])) X2 hx rfl rfl rfl (pc0 := 11) (pc' := 14) (same := false) rfl (hb hby d5_11) rfl (decide_eq_false fun q => (Fld.ne (oF142.ext O0.2) (oF54.ext O0.2) (fun q => absurd (Value.int.inj q) (by decide))) (Value.ref.inj q)) (by decide) (by decide) k) ?_
  show Gets p e below _ (T2.setTop (mkF m 14 #[.val (.ref ov121)] []))
  refine Gets.of (fun t k => XS.aloadN X2.here hx rfl (hb hby d5_14) rfl rfl  k) ?_
  obtain ⟨T3, X3, e3, st3⟩ := getS2 X2 hx hZ hown (host := "") (Or.inl (w49 hw)) Via.refl e2 (oS57.ext O0.2) (g := (mkF m 15 #[.val (.ref ov121)] [(.ref ov121)])) rfl (hb hby d5_15)
  refine Gets.of st3 ?_
  show Gets p e below _ (T3.setTop (mkF m 18 #[.val (.ref ov121)] [(.ref ov55), (.ref ov121)]))
  refine Gets.of (fun t k => Jvm.RoadKit.acmp (g := (mkF m 18 #[.val (.ref ov121)] [(.ref ov55), (.ref ov121)])) X3 hx rfl rfl rfl (pc0 := 18) (pc' := 25) (same := false) rfl (hb hby d5_18) rfl (decide_eq_false fun q => (Fld.ne (oF142.ext O0.2) (oF60.ext O0.2) (fun q => absurd (Value.int.inj q) (by decide))) (Value.ref.inj q)) (by decide) (by decide) k) ?_
  show Gets p e below _ (T3.setTop (mkF m 25 #[.val (.ref ov121)] []))
  refine Gets.of (fun t k => XS.iconst X3.here hx rfl (hb hby d5_25) k) ?_
  refine Gets.retN X3 hx (t := .boolean) Bd.returns (by simp) (hb hby d5_26) ?_ (by decide) (by decide)
  rw [e3]
  exact ⟨N0, rfl, rfl⟩
def Q_r36_code (Z : State) (ov99 : Addr) (ov103 : Addr) (h0 : Heap) (n0 : Nat) (v : Option Value) (h : Heap) (L : List Loc) : Prop := Fr n0 L ∧ h = h0 ∧ ((v = some (.ref ov103)))
set_option maxRecDepth 65536 in
set_option maxHeartbeats 40000000 in
theorem r36_code (l : Launch) (Z : State) (a0 : Array Value) (hw : ∀ d ∈ tables_1, d.before a0 Z = true) (ws : List Jvm.Cond) (ov99 : Addr) (ov103 : Addr) (h0 : Heap) (n0 : Nat) (O0 : Old Z n0 h0) (oF105 : Fld Z Z.heap ov99 cn1 "code" "Ljava/lang/String;" (.ref ov103)) :
    MetFree l (⟨cn1, "code", cn5⟩ : MethodName) (head1 (Jvm.Cond.code (⟨cn1, "code", cn5⟩ : MethodName) prog_67_method_8_code 1 (some (.object cn0)) :: ws) ({ frames := 0, cells := 0, slots := 0, locals := 0 } : Room)) (fun a U => a = #[(.ref ov99)] ∧ Z.Warmed39 U.vm ∧ U.heap = h0) (fun _ _ _ _ _ => True) (fun _ U o U' => ∃ v L, o = .returned v ∧ Q_r36_code Z ov99 ov103 h0 n0 v U'.heap L ∧ FrameEnd U o U' L ({ frames := 0, cells := 0, slots := 0, locals := 0 } : Room).cells ({ frames := 0, cells := 0, slots := 0, locals := 0 } : Room).slots) := by
  refine MetFree.of_bodySF (plainFor_of_name pn_com_example_cardwire_cardwire_core_Attribute) hisR ?_
  intro p e s m args below meth c s₁ Bd hml0 hP hK
  obtain ⟨rfl, hZ, hh⟩ := hP
  have hx := Bd.exec
  have hby := Bd.bytes
  have hlk := Bd.notSynchronized
  have hml : c.maxLocals = 1 := hml0
  have hown : s.vm.findClass cn1 = some m.cls := findClass_of_methodNamed Bd.named
  have hnm := (name_of_methodNamed Bd.named Bd.method).1
  have X0 : Stand p l e ({ frames := 0, cells := 0, slots := 0, locals := 0 } : Room) s m #[(.ref ov99)] below meth c s₁ [] 0 0 := Stand.of_body Bd
  have e0 : s₁.heap = h0 := by rw [← hh, Bd.state]; rfl
  have N0 := Fr.nil n0
  have K0 := Keep.refl h0 []
  have Z0 : n0 ≤ h0.size := O0.1 ▸ O0.2.1
  have hef : entryFrame m #[(.ref ov99)] 1 = mkF m 0 #[.val (.ref ov99)] [] := by first | (simp [entryFrame, mkF, argsToLocals, Value.category]; done) | rfl
  rw [hef]
  refine Gets.out (Q := Q_r36_code Z ov99 ov103 h0 n0) ?_
  show Gets p e below _ (s₁.setTop (mkF m 0 #[.val (.ref ov99)] []))
  refine Gets.of (fun t k => XS.aloadN X0.here hx rfl (hb hby d2_0) rfl rfl  k) ?_
  obtain ⟨T1, X1, e1, st1⟩ := getF X0 hx hZ hown (host := "") (Or.inl (w13 hw)) Via.refl e0 (oF105.ext O0.2) (g := (mkF m 1 #[.val (.ref ov99)] [(.ref ov99)])) rfl rfl (hb hby d2_1)
  refine Gets.of st1 ?_
  show Gets p e below _ (T1.setTop (mkF m 4 #[.val (.ref ov99)] [(.ref ov103)]))
  refine Gets.retA X1 hx Bd.returns rfl rfl (hb hby d2_4) ?_ (by decide) (by decide)
  rw [e1]
  exact ⟨N0, rfl, rfl⟩
def Q_r38_equals (Z : State) (ov109 : Addr) (ya1 : Addr) (ok156 : ClassId) (yk2 : ClassId) (h0 : Heap) (n0 : Nat) (v : Option Value) (h : Heap) (L : List Loc) : Prop := Fr n0 L ∧ h = h0 ∧ ((v = some (.int (0 : Int32))))
set_option maxRecDepth 65536 in
set_option maxHeartbeats 40000000 in
theorem r38_equals (l : Launch) (Z : State) (a0 : Array Value) (hw : ∀ d ∈ tables_1, d.before a0 Z = true) (ws : List Jvm.Cond) (ov109 : Addr) (ya1 : Addr) (ok156 : ClassId) (yk2 : ClassId) (h0 : Heap) (n0 : Nat) (O0 : Old Z n0 h0) (F0 : Arv Z h0 ya1 yk2 .byte (1 : Int32) [(.int (110 : Int32))] (.int (0 : Int32))) (oV155 : Arv Z Z.heap ov109 ok156 .byte (3 : Int32) [(.int (120 : Int32)), (.int (43 : Int32)), (.int (110 : Int32))] (.int (0 : Int32))) :
    MetFree l (⟨cn3, "equals", "([B[B)Z"⟩ : MethodName) (head1 (Jvm.Cond.code (⟨cn3, "equals", "([B[B)Z"⟩ : MethodName) jdk_43_method_13_code 3 (some .boolean) :: ws) ({ frames := 0, cells := 0, slots := 0, locals := 0 } : Room)) (fun a U => a = #[(.ref ov109), (.ref ya1)] ∧ Z.Warmed39 U.vm ∧ U.heap = h0) (fun _ _ _ _ _ => True) (fun _ U o U' => ∃ v L, o = .returned v ∧ Q_r38_equals Z ov109 ya1 ok156 yk2 h0 n0 v U'.heap L ∧ FrameEnd U o U' L ({ frames := 0, cells := 0, slots := 0, locals := 0 } : Room).cells ({ frames := 0, cells := 0, slots := 0, locals := 0 } : Room).slots) := by
  refine MetFree.of_bodySF (plainFor_of_name pn_java_lang_StringLatin1) hisR ?_
  intro p e s m args below meth c s₁ Bd hml0 hP hK
  obtain ⟨rfl, hZ, hh⟩ := hP
  have hx := Bd.exec
  have hby := Bd.bytes
  have hlk := Bd.notSynchronized
  have hml : c.maxLocals = 3 := hml0
  have hown : s.vm.findClass cn3 = some m.cls := findClass_of_methodNamed Bd.named
  have hnm := (name_of_methodNamed Bd.named Bd.method).1
  have X0 : Stand p l e ({ frames := 0, cells := 0, slots := 0, locals := 0 } : Room) s m #[(.ref ov109), (.ref ya1)] below meth c s₁ [] 0 0 := Stand.of_body Bd
  have e0 : s₁.heap = h0 := by rw [← hh, Bd.state]; rfl
  have N0 := Fr.nil n0
  have K0 := Keep.refl h0 []
  have Z0 : n0 ≤ h0.size := O0.1 ▸ O0.2.1
  have hef : entryFrame m #[(.ref ov109), (.ref ya1)] 3 = mkF m 0 #[.val (.ref ov109), .val (.ref ya1), .unset] [] := by first | (simp [entryFrame, mkF, argsToLocals, Value.category]; done) | rfl
  rw [hef]
  refine Gets.out (Q := Q_r38_equals Z ov109 ya1 ok156 yk2 h0 n0) ?_
  show Gets p e below _ (s₁.setTop (mkF m 0 #[.val (.ref ov109), .val (.ref ya1), .unset] []))
  refine Gets.of (fun t k => XS.aloadN X0.here hx rfl (hb hby d4_0) rfl rfl  k) ?_
  obtain ⟨cl1, Ar1, -, S1, N_1, -, -⟩ := id ((oV155.ext O0.2))
  refine Gets.of (X0.arraylength hx (by rw [e0]; exact Ar1.1) (State.isArrayOf_alike hZ.alike Ar1.2.1) (g := (mkF m 1 #[.val (.ref ov109), .val (.ref ya1), .unset] [(.ref ov109)])) rfl rfl (hb hby d4_1)) ?_
  rw [len_of S1 N_1]
  show Gets p e below _ (s₁.setTop (mkF m 2 #[.val (.ref ov109), .val (.ref ya1), .unset] [(.int (3 : Int32))]))
  refine Gets.of (fun t k => XS.aloadN X0.here hx rfl (hb hby d4_2) rfl rfl  k) ?_
  obtain ⟨cl2, Ar2, -, S2, N_2, -, -⟩ := id (F0)
  refine Gets.of (X0.arraylength hx (by rw [e0]; exact Ar2.1) (State.isArrayOf_alike hZ.alike Ar2.2.1) (g := (mkF m 3 #[.val (.ref ov109), .val (.ref ya1), .unset] [(.ref ya1), (.int (3 : Int32))])) rfl rfl (hb hby d4_3)) ?_
  rw [len_of S2 N_2]
  show Gets p e below _ (s₁.setTop (mkF m 4 #[.val (.ref ov109), .val (.ref ya1), .unset] [(.int (1 : Int32)), (.int (3 : Int32))]))
  refine Gets.of (fun t k => XS.icmpYes X0.here hx rfl (pc0 := 4) (pc' := 34) rfl (hb hby d4_4) rfl (feq (by decide : ¬ ((3 : Int32) = (1 : Int32)))).2 (by decide) (by decide) k) ?_
  show Gets p e below _ (s₁.setTop (mkF m 34 #[.val (.ref ov109), .val (.ref ya1), .unset] []))
  refine Gets.of (fun t k => XS.iconst X0.here hx rfl (hb hby d4_34) k) ?_
  refine Gets.retN X0 hx (t := .boolean) Bd.returns (by simp) (hb hby d4_35) ?_ (by decide) (by decide)
  rw [e0]
  exact ⟨N0, rfl, rfl⟩
def Q_r37_equals (Z : State) (ov103 : Addr) (ya1 : Addr) (ov109 : Addr) (ok156 : ClassId) (ya2 : Addr) (yk3 : ClassId) (oi1 : Int32) (ok158 : ClassId) (ok150 : ClassId) (ok152 : ClassId) (ok154 : ClassId) (ok148 : ClassId) (h0 : Heap) (n0 : Nat) (v : Option Value) (h : Heap) (L : List Loc) : Prop := Fr n0 L ∧ h = h0 ∧ ((v = some (.int (0 : Int32))))
set_option maxRecDepth 65536 in
set_option maxHeartbeats 40000000 in
theorem r37_equals (l : Launch) (Z : State) (a0 : Array Value) (hw : ∀ d ∈ tables_1, d.before a0 Z = true) (ws : List Jvm.Cond) (ov103 : Addr) (ya1 : Addr) (ov109 : Addr) (ok156 : ClassId) (ya2 : Addr) (yk3 : ClassId) (oi1 : Int32) (ok158 : ClassId) (ok150 : ClassId) (ok152 : ClassId) (ok154 : ClassId) (ok148 : ClassId) (h0 : Heap) (n0 : Nat) (O0 : Old Z n0 h0) (F0 : Arv Z h0 ya2 yk3 .byte (1 : Int32) [(.int (110 : Int32))] (.int (0 : Int32))) (F1 : Fld Z h0 ya1 cn0 "value" "[B" (.ref ya2)) (F2 : Exa Z h0 ya1 cn0) (F3 : Fld Z h0 ya1 cn0 "coder" "B" (.int (0 : Int32))) (oV155 : Arv Z Z.heap ov109 ok156 .byte (3 : Int32) [(.int (120 : Int32)), (.int (43 : Int32)), (.int (110 : Int32))] (.int (0 : Int32))) (oF111 : Fld Z Z.heap ov103 cn0 "value" "[B" (.ref ov109)) (oS3 : Sta Z Z.heap cn0 "COMPACT_STRINGS" "Z" (.int oi1)) (oF108 : Fld Z Z.heap ov103 cn0 "coder" "B" (.int (0 : Int32))) (hy1 : ¬ (oi1 = (0 : Int32))) :
    MetFree l (⟨cn0, "equals", cn2⟩ : MethodName) (head1 (Jvm.Cond.code (⟨cn0, "equals", cn2⟩ : MethodName) jdk_42_method_66_code 3 (some .boolean) :: ws) ({ frames := 1, cells := 0, slots := 0, locals := 14 } : Room)) (fun a U => a = #[(.ref ov103), (.ref ya1)] ∧ Z.Warmed39 U.vm ∧ U.heap = h0) (fun _ _ _ _ _ => True) (fun _ U o U' => ∃ v L, o = .returned v ∧ Q_r37_equals Z ov103 ya1 ov109 ok156 ya2 yk3 oi1 ok158 ok150 ok152 ok154 ok148 h0 n0 v U'.heap L ∧ FrameEnd U o U' L ({ frames := 1, cells := 0, slots := 0, locals := 14 } : Room).cells ({ frames := 1, cells := 0, slots := 0, locals := 14 } : Room).slots) := by
  refine MetFree.of_bodySF (plainFor_of_name pn_java_lang_String) hisR ?_
  intro p e s m args below meth c s₁ Bd hml0 hP hK
  obtain ⟨rfl, hZ, hh⟩ := hP
  have hx := Bd.exec
  have hby := Bd.bytes
  have hlk := Bd.notSynchronized
  have hml : c.maxLocals = 3 := hml0
  have hown : s.vm.findClass cn0 = some m.cls := findClass_of_methodNamed Bd.named
  have hnm := (name_of_methodNamed Bd.named Bd.method).1
  have X0 : Stand p l e ({ frames := 1, cells := 0, slots := 0, locals := 14 } : Room) s m #[(.ref ov103), (.ref ya1)] below meth c s₁ [] 0 0 := Stand.of_body Bd
  have e0 : s₁.heap = h0 := by rw [← hh, Bd.state]; rfl
  have N0 := Fr.nil n0
  have K0 := Keep.refl h0 []
  have Z0 : n0 ≤ h0.size := O0.1 ▸ O0.2.1
  have hef : entryFrame m #[(.ref ov103), (.ref ya1)] 3 = mkF m 0 #[.val (.ref ov103), .val (.ref ya1), .unset] [] := by first | (simp [entryFrame, mkF, argsToLocals, Value.category]; done) | rfl
  rw [hef]
  refine Gets.out (Q := Q_r37_equals Z ov103 ya1 ov109 ok156 ya2 yk3 oi1 ok158 ok150 ok152 ok154 ok148 h0 n0) ?_
  show Gets p e below _ (s₁.setTop (mkF m 0 #[.val (.ref ov103), .val (.ref ya1), .unset] []))
  refine Gets.of (fun t k => XS.aloadN X0.here hx rfl (hb hby d3_0) rfl rfl  k) ?_
  refine Gets.of (fun t k => XS.aloadN X0.here hx rfl (hb hby d3_1) rfl rfl  k) ?_
  refine Gets.of (fun t k => Jvm.RoadKit.acmp (g := (mkF m 2 #[.val (.ref ov103), .val (.ref ya1), .unset] [(.ref ya1), (.ref ov103)])) X0 hx rfl rfl rfl (pc0 := 2) (pc' := 7) (same := false) rfl (hb hby d3_2) rfl (decide_eq_false fun q => (Fld.ne (oF111.ext O0.2) F1 (fun q => (arv_ne (oV155.ext O0.2) F0 (Or.inl (by decide))) (Value.ref.inj q))) (Value.ref.inj q)) (by decide) (by decide) k) ?_
  show Gets p e below _ (s₁.setTop (mkF m 7 #[.val (.ref ov103), .val (.ref ya1), .unset] []))
  refine Gets.of (fun t k => XS.aloadN X0.here hx rfl (hb hby d3_7) rfl rfl  k) ?_
  obtain ⟨T1, X1, e1, st1⟩ := instY X0 hx hZ hown (w28 hw) e0 (Ins.self F2) (g := (mkF m 8 #[.val (.ref ov103), .val (.ref ya1), .unset] [(.ref ya1)])) rfl rfl (hb hby d3_8)
  refine Gets.of st1 ?_
  show Gets p e below _ (T1.setTop (mkF m 11 #[.val (.ref ov103), .val (.ref ya1), .unset] [(.int (1 : Int32))]))
  refine Gets.of (fun t k => XS.ifNo X1.here hx rfl (hb hby d3_11) rfl ((if0 _ _).trans (feq (by decide : ¬ ((1 : Int32) = (0 : Int32)))).1) k) ?_
  show Gets p e below _ (T1.setTop (mkF m 14 #[.val (.ref ov103), .val (.ref ya1), .unset] []))
  refine Gets.of (fun t k => XS.aloadN X1.here hx rfl (hb hby d3_14) rfl rfl  k) ?_
  obtain ⟨T2, X2, e2, st2⟩ := castY X1 hx hZ hown (w28 hw) e1 (Ins.self F2) (g := (mkF m 15 #[.val (.ref ov103), .val (.ref ya1), .unset] [(.ref ya1)])) rfl rfl (hb hby d3_15)
  refine Gets.of st2 ?_
  show Gets p e below _ (T2.setTop (mkF m 18 #[.val (.ref ov103), .val (.ref ya1), .unset] [(.ref ya1)]))
  refine Gets.of (fun t k => XS.astoreN X2.here hx rfl (hb hby d3_18) rfl rfl (l' := #[.val (.ref ov103), .val (.ref ya1), .val (.ref ya1)]) rfl k) ?_
  show Gets p e below _ (T2.setTop (mkF m 19 #[.val (.ref ov103), .val (.ref ya1), .val (.ref ya1)] []))
  obtain ⟨T3, X3, e3, st3⟩ := getS2 X2 hx hZ hown (host := "") (Or.inl (w30 hw)) Via.refl e2 (oS3.ext O0.2) (g := (mkF m 19 #[.val (.ref ov103), .val (.ref ya1), .val (.ref ya1)] [])) rfl (hb hby d3_19)
  refine Gets.of st3 ?_
  show Gets p e below _ (T3.setTop (mkF m 22 #[.val (.ref ov103), .val (.ref ya1), .val (.ref ya1)] [(.int oi1)]))
  refine Gets.of (fun t k => XS.ifNo X3.here hx rfl (hb hby d3_22) rfl ((if0 _ _).trans (feq hy1).1) k) ?_
  show Gets p e below _ (T3.setTop (mkF m 25 #[.val (.ref ov103), .val (.ref ya1), .val (.ref ya1)] []))
  refine Gets.of (fun t k => XS.aloadN X3.here hx rfl (hb hby d3_25) rfl rfl  k) ?_
  obtain ⟨T4, X4, e4, st4⟩ := getF X3 hx hZ hown (host := "") (Or.inl (w31 hw)) Via.refl e3 (oF108.ext O0.2) (g := (mkF m 26 #[.val (.ref ov103), .val (.ref ya1), .val (.ref ya1)] [(.ref ov103)])) rfl rfl (hb hby d3_26)
  refine Gets.of st4 ?_
  show Gets p e below _ (T4.setTop (mkF m 29 #[.val (.ref ov103), .val (.ref ya1), .val (.ref ya1)] [(.int (0 : Int32))]))
  refine Gets.of (fun t k => XS.aloadN X4.here hx rfl (hb hby d3_29) rfl rfl  k) ?_
  obtain ⟨T5, X5, e5, st5⟩ := getF X4 hx hZ hown (host := "") (Or.inl (w31 hw)) Via.refl e4 F3 (g := (mkF m 30 #[.val (.ref ov103), .val (.ref ya1), .val (.ref ya1)] [(.ref ya1), (.int (0 : Int32))])) rfl rfl (hb hby d3_30)
  refine Gets.of st5 ?_
  show Gets p e below _ (T5.setTop (mkF m 33 #[.val (.ref ov103), .val (.ref ya1), .val (.ref ya1)] [(.int (0 : Int32)), (.int (0 : Int32))]))
  refine Gets.of (fun t k => XS.icmpNo X5.here hx rfl (hb hby d3_33) rfl (teq (by decide : (0 : Int32) = (0 : Int32))).2 k) ?_
  show Gets p e below _ (T5.setTop (mkF m 36 #[.val (.ref ov103), .val (.ref ya1), .val (.ref ya1)] []))
  refine Gets.of (fun t k => XS.aloadN X5.here hx rfl (hb hby d3_36) rfl rfl  k) ?_
  obtain ⟨T6, X6, e6, st6⟩ := getF X5 hx hZ hown (host := "") (Or.inl (w32 hw)) Via.refl e5 (oF111.ext O0.2) (g := (mkF m 37 #[.val (.ref ov103), .val (.ref ya1), .val (.ref ya1)] [(.ref ov103)])) rfl rfl (hb hby d3_37)
  refine Gets.of st6 ?_
  show Gets p e below _ (T6.setTop (mkF m 40 #[.val (.ref ov103), .val (.ref ya1), .val (.ref ya1)] [(.ref ov109)]))
  refine Gets.of (fun t k => XS.aloadN X6.here hx rfl (hb hby d3_40) rfl rfl  k) ?_
  obtain ⟨T7, X7, e7, st7⟩ := getF X6 hx hZ hown (host := "") (Or.inl (w32 hw)) Via.refl e6 F1 (g := (mkF m 41 #[.val (.ref ov103), .val (.ref ya1), .val (.ref ya1)] [(.ref ya1), (.ref ov109)])) rfl rfl (hb hby d3_41)
  refine Gets.of st7 ?_
  show Gets p e below _ (T7.setTop (mkF m 44 #[.val (.ref ov103), .val (.ref ya1), .val (.ref ya1)] [(.ref ya2), (.ref ov109)]))
  obtain ⟨_, _, ⟨T8, L8, k8, n8⟩, -, X8, ⟨Lc8, hQ8, l8, y8, z8⟩, st8⟩ := Jvm.LawKit.callS X7 hx (y := (⟨cn3, "equals", "([B[B)Z"⟩ : MethodName)) hown (mvT hZ (w33 hw)) (mvT hZ (w34 hw)) (mvT hZ (w35 hw)) (mvT hZ (w36 hw)) (by decide) (backOf (W := 0) (r38_equals l Z a0 hw [] ov109 ya2 ok156 yk3 h0 n0 O0 F0 oV155) hZ (w36 hw) (w35 hw) (by decide) (by decide)) (g := (mkF m 44 #[.val (.ref ov103), .val (.ref ya1), .val (.ref ya1)] [(.ref ya2), (.ref ov109)])) rfl (by rw [hml]; rfl) (argsL := [(.ref ov109), (.ref ya2)]) (rest := []) (lenOf pd__B_B_Z rfl) rfl (by show 2 * 0 + _ ≤ _; exact Nat.le_of_eq rfl) (hb hby d3_44) (fun _ _ => ⟨rfl, e7, (by decide : 0 + 0 ≤ _), (by decide : 0 + 0 ≤ _)⟩)
  dsimp only [Pt.U, Pt.locs, Pt.cells, Pt.slots] at X8 l8 y8 z8 st8 hQ8
  subst l8 y8 z8
  obtain ⟨Nq8, eq8, hR8⟩ := hQ8
  have N8 := Fr.app N0 Nq8
  obtain rfl := hR8
  refine Gets.of st8 ?_
  show Gets p e below _ (T8.setTop (mkF m 47 #[.val (.ref ov103), .val (.ref ya1), .val (.ref ya1)] [(.int (0 : Int32))]))
  refine Gets.of (fun t k => XS.ifYes X8.here hx rfl (pc0 := 47) (pc' := 54) rfl (hb hby d3_47) rfl ((if0 _ _).trans (teq (by decide : (0 : Int32) = (0 : Int32))).1) (by decide) (by decide) k) ?_
  show Gets p e below _ (T8.setTop (mkF m 54 #[.val (.ref ov103), .val (.ref ya1), .val (.ref ya1)] []))
  refine Gets.of (fun t k => XS.iconst X8.here hx rfl (hb hby d3_54) k) ?_
  refine Gets.retN X8 hx (t := .boolean) Bd.returns (by simp) (hb hby d3_55) ?_ (by decide) (by decide)
  rw [eq8]
  exact ⟨N8, rfl, rfl⟩
def Q_r40_equals (Z : State) (ov109 : Addr) (ya1 : Addr) (ok156 : ClassId) (yk2 : ClassId) (h0 : Heap) (n0 : Nat) (v : Option Value) (h : Heap) (L : List Loc) : Prop := Fr n0 L ∧ h = h0 ∧ ((v = some (.int (0 : Int32))))
set_option maxRecDepth 65536 in
set_option maxHeartbeats 40000000 in
theorem r40_equals (l : Launch) (Z : State) (a0 : Array Value) (hw : ∀ d ∈ tables_1, d.before a0 Z = true) (ws : List Jvm.Cond) (ov109 : Addr) (ya1 : Addr) (ok156 : ClassId) (yk2 : ClassId) (h0 : Heap) (n0 : Nat) (O0 : Old Z n0 h0) (F0 : Arv Z h0 ya1 yk2 .byte (2 : Int32) [(.int (97 : Int32)), (.int (110 : Int32))] (.int (0 : Int32))) (oV155 : Arv Z Z.heap ov109 ok156 .byte (3 : Int32) [(.int (120 : Int32)), (.int (43 : Int32)), (.int (110 : Int32))] (.int (0 : Int32))) :
    MetFree l (⟨cn3, "equals", "([B[B)Z"⟩ : MethodName) (head1 (Jvm.Cond.code (⟨cn3, "equals", "([B[B)Z"⟩ : MethodName) jdk_43_method_13_code 3 (some .boolean) :: ws) ({ frames := 0, cells := 0, slots := 0, locals := 0 } : Room)) (fun a U => a = #[(.ref ov109), (.ref ya1)] ∧ Z.Warmed39 U.vm ∧ U.heap = h0) (fun _ _ _ _ _ => True) (fun _ U o U' => ∃ v L, o = .returned v ∧ Q_r40_equals Z ov109 ya1 ok156 yk2 h0 n0 v U'.heap L ∧ FrameEnd U o U' L ({ frames := 0, cells := 0, slots := 0, locals := 0 } : Room).cells ({ frames := 0, cells := 0, slots := 0, locals := 0 } : Room).slots) := by
  refine MetFree.of_bodySF (plainFor_of_name pn_java_lang_StringLatin1) hisR ?_
  intro p e s m args below meth c s₁ Bd hml0 hP hK
  obtain ⟨rfl, hZ, hh⟩ := hP
  have hx := Bd.exec
  have hby := Bd.bytes
  have hlk := Bd.notSynchronized
  have hml : c.maxLocals = 3 := hml0
  have hown : s.vm.findClass cn3 = some m.cls := findClass_of_methodNamed Bd.named
  have hnm := (name_of_methodNamed Bd.named Bd.method).1
  have X0 : Stand p l e ({ frames := 0, cells := 0, slots := 0, locals := 0 } : Room) s m #[(.ref ov109), (.ref ya1)] below meth c s₁ [] 0 0 := Stand.of_body Bd
  have e0 : s₁.heap = h0 := by rw [← hh, Bd.state]; rfl
  have N0 := Fr.nil n0
  have K0 := Keep.refl h0 []
  have Z0 : n0 ≤ h0.size := O0.1 ▸ O0.2.1
  have hef : entryFrame m #[(.ref ov109), (.ref ya1)] 3 = mkF m 0 #[.val (.ref ov109), .val (.ref ya1), .unset] [] := by first | (simp [entryFrame, mkF, argsToLocals, Value.category]; done) | rfl
  rw [hef]
  refine Gets.out (Q := Q_r40_equals Z ov109 ya1 ok156 yk2 h0 n0) ?_
  show Gets p e below _ (s₁.setTop (mkF m 0 #[.val (.ref ov109), .val (.ref ya1), .unset] []))
  refine Gets.of (fun t k => XS.aloadN X0.here hx rfl (hb hby d4_0) rfl rfl  k) ?_
  obtain ⟨cl1, Ar1, -, S1, N_1, -, -⟩ := id ((oV155.ext O0.2))
  refine Gets.of (X0.arraylength hx (by rw [e0]; exact Ar1.1) (State.isArrayOf_alike hZ.alike Ar1.2.1) (g := (mkF m 1 #[.val (.ref ov109), .val (.ref ya1), .unset] [(.ref ov109)])) rfl rfl (hb hby d4_1)) ?_
  rw [len_of S1 N_1]
  show Gets p e below _ (s₁.setTop (mkF m 2 #[.val (.ref ov109), .val (.ref ya1), .unset] [(.int (3 : Int32))]))
  refine Gets.of (fun t k => XS.aloadN X0.here hx rfl (hb hby d4_2) rfl rfl  k) ?_
  obtain ⟨cl2, Ar2, -, S2, N_2, -, -⟩ := id (F0)
  refine Gets.of (X0.arraylength hx (by rw [e0]; exact Ar2.1) (State.isArrayOf_alike hZ.alike Ar2.2.1) (g := (mkF m 3 #[.val (.ref ov109), .val (.ref ya1), .unset] [(.ref ya1), (.int (3 : Int32))])) rfl rfl (hb hby d4_3)) ?_
  rw [len_of S2 N_2]
  show Gets p e below _ (s₁.setTop (mkF m 4 #[.val (.ref ov109), .val (.ref ya1), .unset] [(.int (2 : Int32)), (.int (3 : Int32))]))
  refine Gets.of (fun t k => XS.icmpYes X0.here hx rfl (pc0 := 4) (pc' := 34) rfl (hb hby d4_4) rfl (feq (by decide : ¬ ((3 : Int32) = (2 : Int32)))).2 (by decide) (by decide) k) ?_
  show Gets p e below _ (s₁.setTop (mkF m 34 #[.val (.ref ov109), .val (.ref ya1), .unset] []))
  refine Gets.of (fun t k => XS.iconst X0.here hx rfl (hb hby d4_34) k) ?_
  refine Gets.retN X0 hx (t := .boolean) Bd.returns (by simp) (hb hby d4_35) ?_ (by decide) (by decide)
  rw [e0]
  exact ⟨N0, rfl, rfl⟩
def Q_r39_equals (Z : State) (ov103 : Addr) (ya1 : Addr) (ov109 : Addr) (ok156 : ClassId) (ya2 : Addr) (yk3 : ClassId) (oi1 : Int32) (ok158 : ClassId) (ok150 : ClassId) (ok152 : ClassId) (ok154 : ClassId) (h0 : Heap) (n0 : Nat) (v : Option Value) (h : Heap) (L : List Loc) : Prop := Fr n0 L ∧ h = h0 ∧ ((v = some (.int (0 : Int32))))
set_option maxRecDepth 65536 in
set_option maxHeartbeats 40000000 in
theorem r39_equals (l : Launch) (Z : State) (a0 : Array Value) (hw : ∀ d ∈ tables_1, d.before a0 Z = true) (ws : List Jvm.Cond) (ov103 : Addr) (ya1 : Addr) (ov109 : Addr) (ok156 : ClassId) (ya2 : Addr) (yk3 : ClassId) (oi1 : Int32) (ok158 : ClassId) (ok150 : ClassId) (ok152 : ClassId) (ok154 : ClassId) (h0 : Heap) (n0 : Nat) (O0 : Old Z n0 h0) (F0 : Arv Z h0 ya2 yk3 .byte (2 : Int32) [(.int (97 : Int32)), (.int (110 : Int32))] (.int (0 : Int32))) (F1 : Fld Z h0 ya1 cn0 "value" "[B" (.ref ya2)) (F2 : Exa Z h0 ya1 cn0) (F3 : Fld Z h0 ya1 cn0 "coder" "B" (.int (0 : Int32))) (oV155 : Arv Z Z.heap ov109 ok156 .byte (3 : Int32) [(.int (120 : Int32)), (.int (43 : Int32)), (.int (110 : Int32))] (.int (0 : Int32))) (oF111 : Fld Z Z.heap ov103 cn0 "value" "[B" (.ref ov109)) (oS3 : Sta Z Z.heap cn0 "COMPACT_STRINGS" "Z" (.int oi1)) (oF108 : Fld Z Z.heap ov103 cn0 "coder" "B" (.int (0 : Int32))) (hy1 : ¬ (oi1 = (0 : Int32))) :
    MetFree l (⟨cn0, "equals", cn2⟩ : MethodName) (head1 (Jvm.Cond.code (⟨cn0, "equals", cn2⟩ : MethodName) jdk_42_method_66_code 3 (some .boolean) :: ws) ({ frames := 1, cells := 0, slots := 0, locals := 14 } : Room)) (fun a U => a = #[(.ref ov103), (.ref ya1)] ∧ Z.Warmed39 U.vm ∧ U.heap = h0) (fun _ _ _ _ _ => True) (fun _ U o U' => ∃ v L, o = .returned v ∧ Q_r39_equals Z ov103 ya1 ov109 ok156 ya2 yk3 oi1 ok158 ok150 ok152 ok154 h0 n0 v U'.heap L ∧ FrameEnd U o U' L ({ frames := 1, cells := 0, slots := 0, locals := 14 } : Room).cells ({ frames := 1, cells := 0, slots := 0, locals := 14 } : Room).slots) := by
  refine MetFree.of_bodySF (plainFor_of_name pn_java_lang_String) hisR ?_
  intro p e s m args below meth c s₁ Bd hml0 hP hK
  obtain ⟨rfl, hZ, hh⟩ := hP
  have hx := Bd.exec
  have hby := Bd.bytes
  have hlk := Bd.notSynchronized
  have hml : c.maxLocals = 3 := hml0
  have hown : s.vm.findClass cn0 = some m.cls := findClass_of_methodNamed Bd.named
  have hnm := (name_of_methodNamed Bd.named Bd.method).1
  have X0 : Stand p l e ({ frames := 1, cells := 0, slots := 0, locals := 14 } : Room) s m #[(.ref ov103), (.ref ya1)] below meth c s₁ [] 0 0 := Stand.of_body Bd
  have e0 : s₁.heap = h0 := by rw [← hh, Bd.state]; rfl
  have N0 := Fr.nil n0
  have K0 := Keep.refl h0 []
  have Z0 : n0 ≤ h0.size := O0.1 ▸ O0.2.1
  have hef : entryFrame m #[(.ref ov103), (.ref ya1)] 3 = mkF m 0 #[.val (.ref ov103), .val (.ref ya1), .unset] [] := by first | (simp [entryFrame, mkF, argsToLocals, Value.category]; done) | rfl
  rw [hef]
  refine Gets.out (Q := Q_r39_equals Z ov103 ya1 ov109 ok156 ya2 yk3 oi1 ok158 ok150 ok152 ok154 h0 n0) ?_
  show Gets p e below _ (s₁.setTop (mkF m 0 #[.val (.ref ov103), .val (.ref ya1), .unset] []))
  refine Gets.of (fun t k => XS.aloadN X0.here hx rfl (hb hby d3_0) rfl rfl  k) ?_
  refine Gets.of (fun t k => XS.aloadN X0.here hx rfl (hb hby d3_1) rfl rfl  k) ?_
  refine Gets.of (fun t k => Jvm.RoadKit.acmp (g := (mkF m 2 #[.val (.ref ov103), .val (.ref ya1), .unset] [(.ref ya1), (.ref ov103)])) X0 hx rfl rfl rfl (pc0 := 2) (pc' := 7) (same := false) rfl (hb hby d3_2) rfl (decide_eq_false fun q => (Fld.ne (oF111.ext O0.2) F1 (fun q => (arv_ne (oV155.ext O0.2) F0 (Or.inl (by decide))) (Value.ref.inj q))) (Value.ref.inj q)) (by decide) (by decide) k) ?_
  show Gets p e below _ (s₁.setTop (mkF m 7 #[.val (.ref ov103), .val (.ref ya1), .unset] []))
  refine Gets.of (fun t k => XS.aloadN X0.here hx rfl (hb hby d3_7) rfl rfl  k) ?_
  obtain ⟨T1, X1, e1, st1⟩ := instY X0 hx hZ hown (w28 hw) e0 (Ins.self F2) (g := (mkF m 8 #[.val (.ref ov103), .val (.ref ya1), .unset] [(.ref ya1)])) rfl rfl (hb hby d3_8)
  refine Gets.of st1 ?_
  show Gets p e below _ (T1.setTop (mkF m 11 #[.val (.ref ov103), .val (.ref ya1), .unset] [(.int (1 : Int32))]))
  refine Gets.of (fun t k => XS.ifNo X1.here hx rfl (hb hby d3_11) rfl ((if0 _ _).trans (feq (by decide : ¬ ((1 : Int32) = (0 : Int32)))).1) k) ?_
  show Gets p e below _ (T1.setTop (mkF m 14 #[.val (.ref ov103), .val (.ref ya1), .unset] []))
  refine Gets.of (fun t k => XS.aloadN X1.here hx rfl (hb hby d3_14) rfl rfl  k) ?_
  obtain ⟨T2, X2, e2, st2⟩ := castY X1 hx hZ hown (w28 hw) e1 (Ins.self F2) (g := (mkF m 15 #[.val (.ref ov103), .val (.ref ya1), .unset] [(.ref ya1)])) rfl rfl (hb hby d3_15)
  refine Gets.of st2 ?_
  show Gets p e below _ (T2.setTop (mkF m 18 #[.val (.ref ov103), .val (.ref ya1), .unset] [(.ref ya1)]))
  refine Gets.of (fun t k => XS.astoreN X2.here hx rfl (hb hby d3_18) rfl rfl (l' := #[.val (.ref ov103), .val (.ref ya1), .val (.ref ya1)]) rfl k) ?_
  show Gets p e below _ (T2.setTop (mkF m 19 #[.val (.ref ov103), .val (.ref ya1), .val (.ref ya1)] []))
  obtain ⟨T3, X3, e3, st3⟩ := getS2 X2 hx hZ hown (host := "") (Or.inl (w30 hw)) Via.refl e2 (oS3.ext O0.2) (g := (mkF m 19 #[.val (.ref ov103), .val (.ref ya1), .val (.ref ya1)] [])) rfl (hb hby d3_19)
  refine Gets.of st3 ?_
  show Gets p e below _ (T3.setTop (mkF m 22 #[.val (.ref ov103), .val (.ref ya1), .val (.ref ya1)] [(.int oi1)]))
  refine Gets.of (fun t k => XS.ifNo X3.here hx rfl (hb hby d3_22) rfl ((if0 _ _).trans (feq hy1).1) k) ?_
  show Gets p e below _ (T3.setTop (mkF m 25 #[.val (.ref ov103), .val (.ref ya1), .val (.ref ya1)] []))
  refine Gets.of (fun t k => XS.aloadN X3.here hx rfl (hb hby d3_25) rfl rfl  k) ?_
  obtain ⟨T4, X4, e4, st4⟩ := getF X3 hx hZ hown (host := "") (Or.inl (w31 hw)) Via.refl e3 (oF108.ext O0.2) (g := (mkF m 26 #[.val (.ref ov103), .val (.ref ya1), .val (.ref ya1)] [(.ref ov103)])) rfl rfl (hb hby d3_26)
  refine Gets.of st4 ?_
  show Gets p e below _ (T4.setTop (mkF m 29 #[.val (.ref ov103), .val (.ref ya1), .val (.ref ya1)] [(.int (0 : Int32))]))
  refine Gets.of (fun t k => XS.aloadN X4.here hx rfl (hb hby d3_29) rfl rfl  k) ?_
  obtain ⟨T5, X5, e5, st5⟩ := getF X4 hx hZ hown (host := "") (Or.inl (w31 hw)) Via.refl e4 F3 (g := (mkF m 30 #[.val (.ref ov103), .val (.ref ya1), .val (.ref ya1)] [(.ref ya1), (.int (0 : Int32))])) rfl rfl (hb hby d3_30)
  refine Gets.of st5 ?_
  show Gets p e below _ (T5.setTop (mkF m 33 #[.val (.ref ov103), .val (.ref ya1), .val (.ref ya1)] [(.int (0 : Int32)), (.int (0 : Int32))]))
  refine Gets.of (fun t k => XS.icmpNo X5.here hx rfl (hb hby d3_33) rfl (teq (by decide : (0 : Int32) = (0 : Int32))).2 k) ?_
  show Gets p e below _ (T5.setTop (mkF m 36 #[.val (.ref ov103), .val (.ref ya1), .val (.ref ya1)] []))
  refine Gets.of (fun t k => XS.aloadN X5.here hx rfl (hb hby d3_36) rfl rfl  k) ?_
  obtain ⟨T6, X6, e6, st6⟩ := getF X5 hx hZ hown (host := "") (Or.inl (w32 hw)) Via.refl e5 (oF111.ext O0.2) (g := (mkF m 37 #[.val (.ref ov103), .val (.ref ya1), .val (.ref ya1)] [(.ref ov103)])) rfl rfl (hb hby d3_37)
  refine Gets.of st6 ?_
  show Gets p e below _ (T6.setTop (mkF m 40 #[.val (.ref ov103), .val (.ref ya1), .val (.ref ya1)] [(.ref ov109)]))
  refine Gets.of (fun t k => XS.aloadN X6.here hx rfl (hb hby d3_40) rfl rfl  k) ?_
  obtain ⟨T7, X7, e7, st7⟩ := getF X6 hx hZ hown (host := "") (Or.inl (w32 hw)) Via.refl e6 F1 (g := (mkF m 41 #[.val (.ref ov103), .val (.ref ya1), .val (.ref ya1)] [(.ref ya1), (.ref ov109)])) rfl rfl (hb hby d3_41)
  refine Gets.of st7 ?_
  show Gets p e below _ (T7.setTop (mkF m 44 #[.val (.ref ov103), .val (.ref ya1), .val (.ref ya1)] [(.ref ya2), (.ref ov109)]))
  obtain ⟨_, _, ⟨T8, L8, k8, n8⟩, -, X8, ⟨Lc8, hQ8, l8, y8, z8⟩, st8⟩ := Jvm.LawKit.callS X7 hx (y := (⟨cn3, "equals", "([B[B)Z"⟩ : MethodName)) hown (mvT hZ (w33 hw)) (mvT hZ (w34 hw)) (mvT hZ (w35 hw)) (mvT hZ (w36 hw)) (by decide) (backOf (W := 0) (r40_equals l Z a0 hw [] ov109 ya2 ok156 yk3 h0 n0 O0 F0 oV155) hZ (w36 hw) (w35 hw) (by decide) (by decide)) (g := (mkF m 44 #[.val (.ref ov103), .val (.ref ya1), .val (.ref ya1)] [(.ref ya2), (.ref ov109)])) rfl (by rw [hml]; rfl) (argsL := [(.ref ov109), (.ref ya2)]) (rest := []) (lenOf pd__B_B_Z rfl) rfl (by show 2 * 0 + _ ≤ _; exact Nat.le_of_eq rfl) (hb hby d3_44) (fun _ _ => ⟨rfl, e7, (by decide : 0 + 0 ≤ _), (by decide : 0 + 0 ≤ _)⟩)
  dsimp only [Pt.U, Pt.locs, Pt.cells, Pt.slots] at X8 l8 y8 z8 st8 hQ8
  subst l8 y8 z8
  obtain ⟨Nq8, eq8, hR8⟩ := hQ8
  have N8 := Fr.app N0 Nq8
  obtain rfl := hR8
  refine Gets.of st8 ?_
  show Gets p e below _ (T8.setTop (mkF m 47 #[.val (.ref ov103), .val (.ref ya1), .val (.ref ya1)] [(.int (0 : Int32))]))
  refine Gets.of (fun t k => XS.ifYes X8.here hx rfl (pc0 := 47) (pc' := 54) rfl (hb hby d3_47) rfl ((if0 _ _).trans (teq (by decide : (0 : Int32) = (0 : Int32))).1) (by decide) (by decide) k) ?_
  show Gets p e below _ (T8.setTop (mkF m 54 #[.val (.ref ov103), .val (.ref ya1), .val (.ref ya1)] []))
  refine Gets.of (fun t k => XS.iconst X8.here hx rfl (hb hby d3_54) k) ?_
  refine Gets.retN X8 hx (t := .boolean) Bd.returns (by simp) (hb hby d3_55) ?_ (by decide) (by decide)
  rw [eq8]
  exact ⟨N8, rfl, rfl⟩
def Q_r42_equals (Z : State) (ov109 : Addr) (ya1 : Addr) (ok156 : ClassId) (yk2 : ClassId) (h0 : Heap) (n0 : Nat) (v : Option Value) (h : Heap) (L : List Loc) : Prop := Fr n0 L ∧ h = h0 ∧ ((v = some (.int (0 : Int32))))
set_option maxRecDepth 65536 in
set_option maxHeartbeats 40000000 in
theorem r42_equals (l : Launch) (Z : State) (a0 : Array Value) (hw : ∀ d ∈ tables_1, d.before a0 Z = true) (ws : List Jvm.Cond) (ov109 : Addr) (ya1 : Addr) (ok156 : ClassId) (yk2 : ClassId) (h0 : Heap) (n0 : Nat) (O0 : Old Z n0 h0) (F0 : Arv Z h0 ya1 yk2 .byte (3 : Int32) [(.int (97 : Int32)), (.int (110 : Int32)), (.int (115 : Int32))] (.int (0 : Int32))) (oV155 : Arv Z Z.heap ov109 ok156 .byte (3 : Int32) [(.int (120 : Int32)), (.int (43 : Int32)), (.int (110 : Int32))] (.int (0 : Int32))) :
    MetFree l (⟨cn3, "equals", "([B[B)Z"⟩ : MethodName) (head1 (Jvm.Cond.code (⟨cn3, "equals", "([B[B)Z"⟩ : MethodName) jdk_43_method_13_code 3 (some .boolean) :: ws) ({ frames := 0, cells := 0, slots := 0, locals := 0 } : Room)) (fun a U => a = #[(.ref ov109), (.ref ya1)] ∧ Z.Warmed39 U.vm ∧ U.heap = h0) (fun _ _ _ _ _ => True) (fun _ U o U' => ∃ v L, o = .returned v ∧ Q_r42_equals Z ov109 ya1 ok156 yk2 h0 n0 v U'.heap L ∧ FrameEnd U o U' L ({ frames := 0, cells := 0, slots := 0, locals := 0 } : Room).cells ({ frames := 0, cells := 0, slots := 0, locals := 0 } : Room).slots) := by
  refine MetFree.of_bodySF (plainFor_of_name pn_java_lang_StringLatin1) hisR ?_
  intro p e s m args below meth c s₁ Bd hml0 hP hK
  obtain ⟨rfl, hZ, hh⟩ := hP
  have hx := Bd.exec
  have hby := Bd.bytes
  have hlk := Bd.notSynchronized
  have hml : c.maxLocals = 3 := hml0
  have hown : s.vm.findClass cn3 = some m.cls := findClass_of_methodNamed Bd.named
  have hnm := (name_of_methodNamed Bd.named Bd.method).1
  have X0 : Stand p l e ({ frames := 0, cells := 0, slots := 0, locals := 0 } : Room) s m #[(.ref ov109), (.ref ya1)] below meth c s₁ [] 0 0 := Stand.of_body Bd
  have e0 : s₁.heap = h0 := by rw [← hh, Bd.state]; rfl
  have N0 := Fr.nil n0
  have K0 := Keep.refl h0 []
  have Z0 : n0 ≤ h0.size := O0.1 ▸ O0.2.1
  have hef : entryFrame m #[(.ref ov109), (.ref ya1)] 3 = mkF m 0 #[.val (.ref ov109), .val (.ref ya1), .unset] [] := by first | (simp [entryFrame, mkF, argsToLocals, Value.category]; done) | rfl
  rw [hef]
  refine Gets.out (Q := Q_r42_equals Z ov109 ya1 ok156 yk2 h0 n0) ?_
  show Gets p e below _ (s₁.setTop (mkF m 0 #[.val (.ref ov109), .val (.ref ya1), .unset] []))
  refine Gets.of (fun t k => XS.aloadN X0.here hx rfl (hb hby d4_0) rfl rfl  k) ?_
  obtain ⟨cl1, Ar1, -, S1, N_1, -, -⟩ := id ((oV155.ext O0.2))
  refine Gets.of (X0.arraylength hx (by rw [e0]; exact Ar1.1) (State.isArrayOf_alike hZ.alike Ar1.2.1) (g := (mkF m 1 #[.val (.ref ov109), .val (.ref ya1), .unset] [(.ref ov109)])) rfl rfl (hb hby d4_1)) ?_
  rw [len_of S1 N_1]
  show Gets p e below _ (s₁.setTop (mkF m 2 #[.val (.ref ov109), .val (.ref ya1), .unset] [(.int (3 : Int32))]))
  refine Gets.of (fun t k => XS.aloadN X0.here hx rfl (hb hby d4_2) rfl rfl  k) ?_
  obtain ⟨cl2, Ar2, -, S2, N_2, -, -⟩ := id (F0)
  refine Gets.of (X0.arraylength hx (by rw [e0]; exact Ar2.1) (State.isArrayOf_alike hZ.alike Ar2.2.1) (g := (mkF m 3 #[.val (.ref ov109), .val (.ref ya1), .unset] [(.ref ya1), (.int (3 : Int32))])) rfl rfl (hb hby d4_3)) ?_
  rw [len_of S2 N_2]
  show Gets p e below _ (s₁.setTop (mkF m 4 #[.val (.ref ov109), .val (.ref ya1), .unset] [(.int (3 : Int32)), (.int (3 : Int32))]))
  refine Gets.of (fun t k => XS.icmpNo X0.here hx rfl (hb hby d4_4) rfl (teq (by decide : (3 : Int32) = (3 : Int32))).2 k) ?_
  show Gets p e below _ (s₁.setTop (mkF m 7 #[.val (.ref ov109), .val (.ref ya1), .unset] []))
  refine Gets.of (fun t k => XS.iconst X0.here hx rfl (hb hby d4_7) k) ?_
  refine Gets.of (fun t k => XS.istoreN X0.here hx rfl (hb hby d4_8) rfl (l' := #[.val (.ref ov109), .val (.ref ya1), .val (.int (0 : Int32))]) rfl k) ?_
  show Gets p e below _ (s₁.setTop (mkF m 9 #[.val (.ref ov109), .val (.ref ya1), .val (.int (0 : Int32))] []))
  refine Gets.of (fun t k => XS.iloadN X0.here hx rfl (hb hby d4_9) rfl  k) ?_
  refine Gets.of (fun t k => XS.aloadN X0.here hx rfl (hb hby d4_10) rfl rfl  k) ?_
  obtain ⟨cl3, Ar3, -, S3, N_3, -, -⟩ := id ((oV155.ext O0.2))
  refine Gets.of (X0.arraylength hx (by rw [e0]; exact Ar3.1) (State.isArrayOf_alike hZ.alike Ar3.2.1) (g := (mkF m 11 #[.val (.ref ov109), .val (.ref ya1), .val (.int (0 : Int32))] [(.ref ov109), (.int (0 : Int32))])) rfl rfl (hb hby d4_11)) ?_
  rw [len_of S3 N_3]
  show Gets p e below _ (s₁.setTop (mkF m 12 #[.val (.ref ov109), .val (.ref ya1), .val (.int (0 : Int32))] [(.int (3 : Int32)), (.int (0 : Int32))]))
  refine Gets.of (fun t k => XS.icmpNo X0.here hx rfl (hb hby d4_12) rfl (tlt (by decide : (0 : Int32) < (3 : Int32))).2.1 k) ?_
  show Gets p e below _ (s₁.setTop (mkF m 15 #[.val (.ref ov109), .val (.ref ya1), .val (.int (0 : Int32))] []))
  refine Gets.of (fun t k => XS.aloadN X0.here hx rfl (hb hby d4_15) rfl rfl  k) ?_
  refine Gets.of (fun t k => XS.iloadN X0.here hx rfl (hb hby d4_16) rfl  k) ?_
  obtain ⟨cl4, Ar4, q4, S4, N_4, H4, G4⟩ := id ((oV155.ext O0.2))
  have hin4 : ¬ ((0 : Int32) < 0 ∨ cl4.slots.size ≤ ((0 : Int32)).toNatClampNeg) := inb_of S4 ⟨by decide, by decide⟩
  refine Gets.of (fun t k => X0.baloadBytes hx (j := (0 : Int32)) (v := (.int (120 : Int32))) (by rw [e0]; exact Ar4.1) (State.isArrayOf_alike hZ.alike Ar4.2.1) Ar4.2.2 hin4 (Has.at H4 hin4 rfl) (g := (mkF m 17 #[.val (.ref ov109), .val (.ref ya1), .val (.int (0 : Int32))] [(.int (0 : Int32)), (.ref ov109)])) rfl rfl (hb hby d4_17) t k) ?_
  show Gets p e below _ (s₁.setTop (mkF m 18 #[.val (.ref ov109), .val (.ref ya1), .val (.int (0 : Int32))] [(.int (120 : Int32))]))
  refine Gets.of (fun t k => XS.aloadN X0.here hx rfl (hb hby d4_18) rfl rfl  k) ?_
  refine Gets.of (fun t k => XS.iloadN X0.here hx rfl (hb hby d4_19) rfl  k) ?_
  obtain ⟨cl5, Ar5, q5, S5, N_5, H5, G5⟩ := id (F0)
  have hin5 : ¬ ((0 : Int32) < 0 ∨ cl5.slots.size ≤ ((0 : Int32)).toNatClampNeg) := inb_of S5 ⟨by decide, by decide⟩
  refine Gets.of (fun t k => X0.baloadBytes hx (j := (0 : Int32)) (v := (.int (97 : Int32))) (by rw [e0]; exact Ar5.1) (State.isArrayOf_alike hZ.alike Ar5.2.1) Ar5.2.2 hin5 (Has.at H5 hin5 rfl) (g := (mkF m 20 #[.val (.ref ov109), .val (.ref ya1), .val (.int (0 : Int32))] [(.int (0 : Int32)), (.ref ya1), (.int (120 : Int32))])) rfl rfl (hb hby d4_20) t k) ?_
  show Gets p e below _ (s₁.setTop (mkF m 21 #[.val (.ref ov109), .val (.ref ya1), .val (.int (0 : Int32))] [(.int (97 : Int32)), (.int (120 : Int32))]))
  refine Gets.of (fun t k => XS.icmpNo X0.here hx rfl (hb hby d4_21) rfl (feq (by decide : ¬ ((120 : Int32) = (97 : Int32)))).1 k) ?_
  show Gets p e below _ (s₁.setTop (mkF m 24 #[.val (.ref ov109), .val (.ref ya1), .val (.int (0 : Int32))] []))
  refine Gets.of (fun t k => XS.iconst X0.here hx rfl (hb hby d4_24) k) ?_
  refine Gets.retN X0 hx (t := .boolean) Bd.returns (by simp) (hb hby d4_25) ?_ (by decide) (by decide)
  rw [e0]
  exact ⟨N0, rfl, rfl⟩
def Q_r41_equals (Z : State) (ov103 : Addr) (ya1 : Addr) (ov109 : Addr) (ok156 : ClassId) (ya2 : Addr) (yk3 : ClassId) (oi1 : Int32) (ok158 : ClassId) (ok150 : ClassId) (ok152 : ClassId) (h0 : Heap) (n0 : Nat) (v : Option Value) (h : Heap) (L : List Loc) : Prop := Fr n0 L ∧ h = h0 ∧ ((v = some (.int (0 : Int32))))
set_option maxRecDepth 65536 in
set_option maxHeartbeats 40000000 in
theorem r41_equals (l : Launch) (Z : State) (a0 : Array Value) (hw : ∀ d ∈ tables_1, d.before a0 Z = true) (ws : List Jvm.Cond) (ov103 : Addr) (ya1 : Addr) (ov109 : Addr) (ok156 : ClassId) (ya2 : Addr) (yk3 : ClassId) (oi1 : Int32) (ok158 : ClassId) (ok150 : ClassId) (ok152 : ClassId) (h0 : Heap) (n0 : Nat) (O0 : Old Z n0 h0) (F0 : Arv Z h0 ya2 yk3 .byte (3 : Int32) [(.int (97 : Int32)), (.int (110 : Int32)), (.int (115 : Int32))] (.int (0 : Int32))) (F1 : Fld Z h0 ya1 cn0 "value" "[B" (.ref ya2)) (F2 : Exa Z h0 ya1 cn0) (F3 : Fld Z h0 ya1 cn0 "coder" "B" (.int (0 : Int32))) (oV155 : Arv Z Z.heap ov109 ok156 .byte (3 : Int32) [(.int (120 : Int32)), (.int (43 : Int32)), (.int (110 : Int32))] (.int (0 : Int32))) (oF111 : Fld Z Z.heap ov103 cn0 "value" "[B" (.ref ov109)) (oS3 : Sta Z Z.heap cn0 "COMPACT_STRINGS" "Z" (.int oi1)) (oF108 : Fld Z Z.heap ov103 cn0 "coder" "B" (.int (0 : Int32))) (hy1 : ¬ (oi1 = (0 : Int32))) :
    MetFree l (⟨cn0, "equals", cn2⟩ : MethodName) (head1 (Jvm.Cond.code (⟨cn0, "equals", cn2⟩ : MethodName) jdk_42_method_66_code 3 (some .boolean) :: ws) ({ frames := 1, cells := 0, slots := 0, locals := 14 } : Room)) (fun a U => a = #[(.ref ov103), (.ref ya1)] ∧ Z.Warmed39 U.vm ∧ U.heap = h0) (fun _ _ _ _ _ => True) (fun _ U o U' => ∃ v L, o = .returned v ∧ Q_r41_equals Z ov103 ya1 ov109 ok156 ya2 yk3 oi1 ok158 ok150 ok152 h0 n0 v U'.heap L ∧ FrameEnd U o U' L ({ frames := 1, cells := 0, slots := 0, locals := 14 } : Room).cells ({ frames := 1, cells := 0, slots := 0, locals := 14 } : Room).slots) := by
  refine MetFree.of_bodySF (plainFor_of_name pn_java_lang_String) hisR ?_
  intro p e s m args below meth c s₁ Bd hml0 hP hK
  obtain ⟨rfl, hZ, hh⟩ := hP
  have hx := Bd.exec
  have hby := Bd.bytes
  have hlk := Bd.notSynchronized
  have hml : c.maxLocals = 3 := hml0
  have hown : s.vm.findClass cn0 = some m.cls := findClass_of_methodNamed Bd.named
  have hnm := (name_of_methodNamed Bd.named Bd.method).1
  have X0 : Stand p l e ({ frames := 1, cells := 0, slots := 0, locals := 14 } : Room) s m #[(.ref ov103), (.ref ya1)] below meth c s₁ [] 0 0 := Stand.of_body Bd
  have e0 : s₁.heap = h0 := by rw [← hh, Bd.state]; rfl
  have N0 := Fr.nil n0
  have K0 := Keep.refl h0 []
  have Z0 : n0 ≤ h0.size := O0.1 ▸ O0.2.1
  have hef : entryFrame m #[(.ref ov103), (.ref ya1)] 3 = mkF m 0 #[.val (.ref ov103), .val (.ref ya1), .unset] [] := by first | (simp [entryFrame, mkF, argsToLocals, Value.category]; done) | rfl
  rw [hef]
  refine Gets.out (Q := Q_r41_equals Z ov103 ya1 ov109 ok156 ya2 yk3 oi1 ok158 ok150 ok152 h0 n0) ?_
  show Gets p e below _ (s₁.setTop (mkF m 0 #[.val (.ref ov103), .val (.ref ya1), .unset] []))
  refine Gets.of (fun t k => XS.aloadN X0.here hx rfl (hb hby d3_0) rfl rfl  k) ?_
  refine Gets.of (fun t k => XS.aloadN X0.here hx rfl (hb hby d3_1) rfl rfl  k) ?_
  refine Gets.of (fun t k => Jvm.RoadKit.acmp (g := (mkF m 2 #[.val (.ref ov103), .val (.ref ya1), .unset] [(.ref ya1), (.ref ov103)])) X0 hx rfl rfl rfl (pc0 := 2) (pc' := 7) (same := false) rfl (hb hby d3_2) rfl (decide_eq_false fun q => (Fld.ne (oF111.ext O0.2) F1 (fun q => (arv_ne (oV155.ext O0.2) F0 (Or.inr ⟨0, by decide, fun q => absurd (Value.int.inj q) (by decide)⟩)) (Value.ref.inj q))) (Value.ref.inj q)) (by decide) (by decide) k) ?_
  show Gets p e below _ (s₁.setTop (mkF m 7 #[.val (.ref ov103), .val (.ref ya1), .unset] []))
  refine Gets.of (fun t k => XS.aloadN X0.here hx rfl (hb hby d3_7) rfl rfl  k) ?_
  obtain ⟨T1, X1, e1, st1⟩ := instY X0 hx hZ hown (w28 hw) e0 (Ins.self F2) (g := (mkF m 8 #[.val (.ref ov103), .val (.ref ya1), .unset] [(.ref ya1)])) rfl rfl (hb hby d3_8)
  refine Gets.of st1 ?_
  show Gets p e below _ (T1.setTop (mkF m 11 #[.val (.ref ov103), .val (.ref ya1), .unset] [(.int (1 : Int32))]))
  refine Gets.of (fun t k => XS.ifNo X1.here hx rfl (hb hby d3_11) rfl ((if0 _ _).trans (feq (by decide : ¬ ((1 : Int32) = (0 : Int32)))).1) k) ?_
  show Gets p e below _ (T1.setTop (mkF m 14 #[.val (.ref ov103), .val (.ref ya1), .unset] []))
  refine Gets.of (fun t k => XS.aloadN X1.here hx rfl (hb hby d3_14) rfl rfl  k) ?_
  obtain ⟨T2, X2, e2, st2⟩ := castY X1 hx hZ hown (w28 hw) e1 (Ins.self F2) (g := (mkF m 15 #[.val (.ref ov103), .val (.ref ya1), .unset] [(.ref ya1)])) rfl rfl (hb hby d3_15)
  refine Gets.of st2 ?_
  show Gets p e below _ (T2.setTop (mkF m 18 #[.val (.ref ov103), .val (.ref ya1), .unset] [(.ref ya1)]))
  refine Gets.of (fun t k => XS.astoreN X2.here hx rfl (hb hby d3_18) rfl rfl (l' := #[.val (.ref ov103), .val (.ref ya1), .val (.ref ya1)]) rfl k) ?_
  show Gets p e below _ (T2.setTop (mkF m 19 #[.val (.ref ov103), .val (.ref ya1), .val (.ref ya1)] []))
  obtain ⟨T3, X3, e3, st3⟩ := getS2 X2 hx hZ hown (host := "") (Or.inl (w30 hw)) Via.refl e2 (oS3.ext O0.2) (g := (mkF m 19 #[.val (.ref ov103), .val (.ref ya1), .val (.ref ya1)] [])) rfl (hb hby d3_19)
  refine Gets.of st3 ?_
  show Gets p e below _ (T3.setTop (mkF m 22 #[.val (.ref ov103), .val (.ref ya1), .val (.ref ya1)] [(.int oi1)]))
  refine Gets.of (fun t k => XS.ifNo X3.here hx rfl (hb hby d3_22) rfl ((if0 _ _).trans (feq hy1).1) k) ?_
  show Gets p e below _ (T3.setTop (mkF m 25 #[.val (.ref ov103), .val (.ref ya1), .val (.ref ya1)] []))
  refine Gets.of (fun t k => XS.aloadN X3.here hx rfl (hb hby d3_25) rfl rfl  k) ?_
  obtain ⟨T4, X4, e4, st4⟩ := getF X3 hx hZ hown (host := "") (Or.inl (w31 hw)) Via.refl e3 (oF108.ext O0.2) (g := (mkF m 26 #[.val (.ref ov103), .val (.ref ya1), .val (.ref ya1)] [(.ref ov103)])) rfl rfl (hb hby d3_26)
  refine Gets.of st4 ?_
  show Gets p e below _ (T4.setTop (mkF m 29 #[.val (.ref ov103), .val (.ref ya1), .val (.ref ya1)] [(.int (0 : Int32))]))
  refine Gets.of (fun t k => XS.aloadN X4.here hx rfl (hb hby d3_29) rfl rfl  k) ?_
  obtain ⟨T5, X5, e5, st5⟩ := getF X4 hx hZ hown (host := "") (Or.inl (w31 hw)) Via.refl e4 F3 (g := (mkF m 30 #[.val (.ref ov103), .val (.ref ya1), .val (.ref ya1)] [(.ref ya1), (.int (0 : Int32))])) rfl rfl (hb hby d3_30)
  refine Gets.of st5 ?_
  show Gets p e below _ (T5.setTop (mkF m 33 #[.val (.ref ov103), .val (.ref ya1), .val (.ref ya1)] [(.int (0 : Int32)), (.int (0 : Int32))]))
  refine Gets.of (fun t k => XS.icmpNo X5.here hx rfl (hb hby d3_33) rfl (teq (by decide : (0 : Int32) = (0 : Int32))).2 k) ?_
  show Gets p e below _ (T5.setTop (mkF m 36 #[.val (.ref ov103), .val (.ref ya1), .val (.ref ya1)] []))
  refine Gets.of (fun t k => XS.aloadN X5.here hx rfl (hb hby d3_36) rfl rfl  k) ?_
  obtain ⟨T6, X6, e6, st6⟩ := getF X5 hx hZ hown (host := "") (Or.inl (w32 hw)) Via.refl e5 (oF111.ext O0.2) (g := (mkF m 37 #[.val (.ref ov103), .val (.ref ya1), .val (.ref ya1)] [(.ref ov103)])) rfl rfl (hb hby d3_37)
  refine Gets.of st6 ?_
  show Gets p e below _ (T6.setTop (mkF m 40 #[.val (.ref ov103), .val (.ref ya1), .val (.ref ya1)] [(.ref ov109)]))
  refine Gets.of (fun t k => XS.aloadN X6.here hx rfl (hb hby d3_40) rfl rfl  k) ?_
  obtain ⟨T7, X7, e7, st7⟩ := getF X6 hx hZ hown (host := "") (Or.inl (w32 hw)) Via.refl e6 F1 (g := (mkF m 41 #[.val (.ref ov103), .val (.ref ya1), .val (.ref ya1)] [(.ref ya1), (.ref ov109)])) rfl rfl (hb hby d3_41)
  refine Gets.of st7 ?_
  show Gets p e below _ (T7.setTop (mkF m 44 #[.val (.ref ov103), .val (.ref ya1), .val (.ref ya1)] [(.ref ya2), (.ref ov109)]))
  obtain ⟨_, _, ⟨T8, L8, k8, n8⟩, -, X8, ⟨Lc8, hQ8, l8, y8, z8⟩, st8⟩ := Jvm.LawKit.callS X7 hx (y := (⟨cn3, "equals", "([B[B)Z"⟩ : MethodName)) hown (mvT hZ (w33 hw)) (mvT hZ (w34 hw)) (mvT hZ (w35 hw)) (mvT hZ (w36 hw)) (by decide) (backOf (W := 0) (r42_equals l Z a0 hw [] ov109 ya2 ok156 yk3 h0 n0 O0 F0 oV155) hZ (w36 hw) (w35 hw) (by decide) (by decide)) (g := (mkF m 44 #[.val (.ref ov103), .val (.ref ya1), .val (.ref ya1)] [(.ref ya2), (.ref ov109)])) rfl (by rw [hml]; rfl) (argsL := [(.ref ov109), (.ref ya2)]) (rest := []) (lenOf pd__B_B_Z rfl) rfl (by show 2 * 0 + _ ≤ _; exact Nat.le_of_eq rfl) (hb hby d3_44) (fun _ _ => ⟨rfl, e7, (by decide : 0 + 0 ≤ _), (by decide : 0 + 0 ≤ _)⟩)
  dsimp only [Pt.U, Pt.locs, Pt.cells, Pt.slots] at X8 l8 y8 z8 st8 hQ8
  subst l8 y8 z8
  obtain ⟨Nq8, eq8, hR8⟩ := hQ8
  have N8 := Fr.app N0 Nq8
  obtain rfl := hR8
  refine Gets.of st8 ?_
  show Gets p e below _ (T8.setTop (mkF m 47 #[.val (.ref ov103), .val (.ref ya1), .val (.ref ya1)] [(.int (0 : Int32))]))
  refine Gets.of (fun t k => XS.ifYes X8.here hx rfl (pc0 := 47) (pc' := 54) rfl (hb hby d3_47) rfl ((if0 _ _).trans (teq (by decide : (0 : Int32) = (0 : Int32))).1) (by decide) (by decide) k) ?_
  show Gets p e below _ (T8.setTop (mkF m 54 #[.val (.ref ov103), .val (.ref ya1), .val (.ref ya1)] []))
  refine Gets.of (fun t k => XS.iconst X8.here hx rfl (hb hby d3_54) k) ?_
  refine Gets.retN X8 hx (t := .boolean) Bd.returns (by simp) (hb hby d3_55) ?_ (by decide) (by decide)
  rw [eq8]
  exact ⟨N8, rfl, rfl⟩
def Q_r43_fills (Z : State) (ov99 : Addr) (ov5 : Addr) (ov49 : Addr) (ov55 : Addr) (h0 : Heap) (n0 : Nat) (v : Option Value) (h : Heap) (L : List Loc) : Prop := Fr n0 L ∧ h = h0 ∧ ((v = some (.int (0 : Int32))))
set_option maxRecDepth 65536 in
set_option maxHeartbeats 40000000 in
theorem r43_fills (l : Launch) (Z : State) (a0 : Array Value) (hw : ∀ d ∈ tables_1, d.before a0 Z = true) (ws : List Jvm.Cond) (ov99 : Addr) (ov5 : Addr) (ov49 : Addr) (ov55 : Addr) (h0 : Heap) (n0 : Nat) (O0 : Old Z n0 h0) (oS7 : Sta Z Z.heap cn1 "N" cn4 (.ref ov5)) (oF120 : Fld Z Z.heap ov99 "java/lang/Enum" "ordinal" "I" (.int (5 : Int32))) (oF48 : Fld Z Z.heap ov5 "java/lang/Enum" "ordinal" "I" (.int (0 : Int32))) (oS51 : Sta Z Z.heap cn1 "AN" cn4 (.ref ov49)) (oF54 : Fld Z Z.heap ov49 "java/lang/Enum" "ordinal" "I" (.int (1 : Int32))) (oS57 : Sta Z Z.heap cn1 "ANS" cn4 (.ref ov55)) (oF60 : Fld Z Z.heap ov55 "java/lang/Enum" "ordinal" "I" (.int (2 : Int32))) :
    MetFree l (⟨cn1, "fills", "()Z"⟩ : MethodName) (head1 (Jvm.Cond.code (⟨cn1, "fills", "()Z"⟩ : MethodName) prog_67_method_12_code 1 (some .boolean) :: ws) ({ frames := 0, cells := 0, slots := 0, locals := 0 } : Room)) (fun a U => a = #[(.ref ov99)] ∧ Z.Warmed39 U.vm ∧ U.heap = h0) (fun _ _ _ _ _ => True) (fun _ U o U' => ∃ v L, o = .returned v ∧ Q_r43_fills Z ov99 ov5 ov49 ov55 h0 n0 v U'.heap L ∧ FrameEnd U o U' L ({ frames := 0, cells := 0, slots := 0, locals := 0 } : Room).cells ({ frames := 0, cells := 0, slots := 0, locals := 0 } : Room).slots) := by
  refine MetFree.of_bodySF (plainFor_of_name pn_com_example_cardwire_cardwire_core_Attribute) hisR ?_
  intro p e s m args below meth c s₁ Bd hml0 hP hK
  obtain ⟨rfl, hZ, hh⟩ := hP
  have hx := Bd.exec
  have hby := Bd.bytes
  have hlk := Bd.notSynchronized
  have hml : c.maxLocals = 1 := hml0
  have hown : s.vm.findClass cn1 = some m.cls := findClass_of_methodNamed Bd.named
  have hnm := (name_of_methodNamed Bd.named Bd.method).1
  have X0 : Stand p l e ({ frames := 0, cells := 0, slots := 0, locals := 0 } : Room) s m #[(.ref ov99)] below meth c s₁ [] 0 0 := Stand.of_body Bd
  have e0 : s₁.heap = h0 := by rw [← hh, Bd.state]; rfl
  have N0 := Fr.nil n0
  have K0 := Keep.refl h0 []
  have Z0 : n0 ≤ h0.size := O0.1 ▸ O0.2.1
  have hef : entryFrame m #[(.ref ov99)] 1 = mkF m 0 #[.val (.ref ov99)] [] := by first | (simp [entryFrame, mkF, argsToLocals, Value.category]; done) | rfl
  rw [hef]
  refine Gets.out (Q := Q_r43_fills Z ov99 ov5 ov49 ov55 h0 n0) ?_
  show Gets p e below _ (s₁.setTop (mkF m 0 #[.val (.ref ov99)] []))
  refine Gets.of (fun t k => XS.aloadN X0.here hx rfl (hb hby d5_0) rfl rfl  k) ?_
  obtain ⟨T1, X1, e1, st1⟩ := getS2 X0 hx hZ hown (host := "") (Or.inl (w42 hw)) Via.refl e0 (oS7.ext O0.2) (g := (mkF m 1 #[.val (.ref ov99)] [(.ref ov99)])) rfl (hb hby d5_1)
  refine Gets.of st1 ?_
  show Gets p e below _ (T1.setTop (mkF m 4 #[.val (.ref ov99)] [(.ref ov5), (.ref ov99)]))
  refine Gets.of (fun t k => Jvm.RoadKit.acmp (g := (mkF m 4 #[.val (.ref ov99)] [(.ref ov5), (.ref ov99)])) X1 hx rfl rfl rfl (pc0 := 4) (pc' := 7) (same := false) rfl (hb hby d5_4) rfl (decide_eq_false fun q => (Fld.ne (oF120.ext O0.2) (oF48.ext O0.2) (fun q => absurd (Value.int.inj q) (by decide))) (Value.ref.inj q)) (by decide) (by decide) k) ?_
  show Gets p e below _ (T1.setTop (mkF m 7 #[.val (.ref ov99)] []))
  refine Gets.of (fun t k => XS.aloadN X1.here hx rfl (hb hby d5_7) rfl rfl  k) ?_
  obtain ⟨T2, X2, e2, st2⟩ := getS2 X1 hx hZ hown (host := "") (Or.inl (w47 hw)) Via.refl e1 (oS51.ext O0.2) (g := (mkF m 8 #[.val (.ref ov99)] [(.ref ov99)])) rfl (hb hby d5_8)
  refine Gets.of st2 ?_
  show Gets p e below _ (T2.setTop (mkF m 11 #[.val (.ref ov99)] [(.ref ov49), (.ref ov99)]))
  refine Gets.of (fun t k => Jvm.RoadKit.acmp (g := (mkF m 11 #[.val (.ref ov99)] [(.ref ov49), (.ref ov99)])) X2 hx rfl rfl rfl (pc0 := 11) (pc' := 14) (same := false) rfl (hb hby d5_11) rfl (decide_eq_false fun q => (Fld.ne (oF120.ext O0.2) (oF54.ext O0.2) (fun q => absurd (Value.int.inj q) (by decide))) (Value.ref.inj q)) (by decide) (by decide) k) ?_
  show Gets p e below _ (T2.setTop (mkF m 14 #[.val (.ref ov99)] []))
  refine Gets.of (fun t k => XS.aloadN X2.here hx rfl (hb hby d5_14) rfl rfl  k) ?_
  obtain ⟨T3, X3, e3, st3⟩ := getS2 X2 hx hZ hown (host := "") (Or.inl (w49 hw)) Via.refl e2 (oS57.ext O0.2) (g := (mkF m 15 #[.val (.ref ov99)] [(.ref ov99)])) rfl (hb hby d5_15)
  refine Gets.of st3 ?_
  show Gets p e below _ (T3.setTop (mkF m 18 #[.val (.ref ov99)] [(.ref ov55), (.ref ov99)]))
  refine Gets.of (fun t k => Jvm.RoadKit.acmp (g := (mkF m 18 #[.val (.ref ov99)] [(.ref ov55), (.ref ov99)])) X3 hx rfl rfl rfl (pc0 := 18) (pc' := 25) (same := false) rfl (hb hby d5_18) rfl (decide_eq_false fun q => (Fld.ne (oF120.ext O0.2) (oF60.ext O0.2) (fun q => absurd (Value.int.inj q) (by decide))) (Value.ref.inj q)) (by decide) (by decide) k) ?_
  show Gets p e below _ (T3.setTop (mkF m 25 #[.val (.ref ov99)] []))
  refine Gets.of (fun t k => XS.iconst X3.here hx rfl (hb hby d5_25) k) ?_
  refine Gets.retN X3 hx (t := .boolean) Bd.returns (by simp) (hb hby d5_26) ?_ (by decide) (by decide)
  rw [e3]
  exact ⟨N0, rfl, rfl⟩
def Q_rm_law (Z : State) (p1 : Int32) (oi1 : Int32) (ov5 : Addr) (ov9 : Addr) (ov15 : Addr) (ov25 : Addr) (ov29 : Addr) (ov35 : Addr) (ov49 : Addr) (ov55 : Addr) (ov61 : Addr) (ov67 : Addr) (ov81 : Addr) (ov87 : Addr) (ov99 : Addr) (ov103 : Addr) (ov109 : Addr) (ov121 : Addr) (ov125 : Addr) (ov131 : Addr) (ok148 : ClassId) (ok150 : ClassId) (ok152 : ClassId) (ok154 : ClassId) (ok156 : ClassId) (ok158 : ClassId) (h0 : Heap) (n0 : Nat) (v : Option Value) (h : Heap) (L : List Loc) : Prop := Fr n0 L ∧ Keep h0 h [] ∧ ((v = some (.int (1 : Int32))))
set_option maxRecDepth 65536 in
set_option maxHeartbeats 40000000 in
theorem rm_law (l : Launch) (Z : State) (a0 : Array Value) (hw : ∀ d ∈ tables_1, d.before a0 Z = true) (ws : List Jvm.Cond) (p1 : Int32) (oi1 : Int32) (ov5 : Addr) (ov9 : Addr) (ov15 : Addr) (ov25 : Addr) (ov29 : Addr) (ov35 : Addr) (ov49 : Addr) (ov55 : Addr) (ov61 : Addr) (ov67 : Addr) (ov81 : Addr) (ov87 : Addr) (ov99 : Addr) (ov103 : Addr) (ov109 : Addr) (ov121 : Addr) (ov125 : Addr) (ov131 : Addr) (ok148 : ClassId) (ok150 : ClassId) (ok152 : ClassId) (ok154 : ClassId) (ok156 : ClassId) (ok158 : ClassId) (h0 : Heap) (n0 : Nat) (O0 : Old Z n0 h0) (oS3 : Sta Z Z.heap cn0 "COMPACT_STRINGS" "Z" (.int oi1)) (oS7 : Sta Z Z.heap cn1 "N" cn4 (.ref ov5)) (oE8 : Exa Z Z.heap ov5 cn1) (oF11 : Fld Z Z.heap ov5 cn1 "code" "Ljava/lang/String;" (.ref ov9)) (oE12 : Exa Z Z.heap ov9 cn0) (oF14 : Fld Z Z.heap ov9 cn0 "coder" "B" (.int (0 : Int32))) (oF17 : Fld Z Z.heap ov9 cn0 "value" "[B" (.ref ov15)) (oS27 : Sta Z Z.heap cn1 "Z" cn4 (.ref ov25)) (oE28 : Exa Z Z.heap ov25 cn1) (oF31 : Fld Z Z.heap ov25 cn1 "code" "Ljava/lang/String;" (.ref ov29)) (oE32 : Exa Z Z.heap ov29 cn0) (oF34 : Fld Z Z.heap ov29 cn0 "coder" "B" (.int (0 : Int32))) (oF37 : Fld Z Z.heap ov29 cn0 "value" "[B" (.ref ov35)) (oF46 : Fld Z Z.heap ov25 "java/lang/Enum" "ordinal" "I" (.int (3 : Int32))) (oF48 : Fld Z Z.heap ov5 "java/lang/Enum" "ordinal" "I" (.int (0 : Int32))) (oS51 : Sta Z Z.heap cn1 "AN" cn4 (.ref ov49)) (oE52 : Exa Z Z.heap ov49 cn1) (oF54 : Fld Z Z.heap ov49 "java/lang/Enum" "ordinal" "I" (.int (1 : Int32))) (oS57 : Sta Z Z.heap cn1 "ANS" cn4 (.ref ov55)) (oE58 : Exa Z Z.heap ov55 cn1) (oF60 : Fld Z Z.heap ov55 "java/lang/Enum" "ordinal" "I" (.int (2 : Int32))) (oF63 : Fld Z Z.heap ov55 cn1 "code" "Ljava/lang/String;" (.ref ov61)) (oE64 : Exa Z Z.heap ov61 cn0) (oF66 : Fld Z Z.heap ov61 cn0 "coder" "B" (.int (0 : Int32))) (oF69 : Fld Z Z.heap ov61 cn0 "value" "[B" (.ref ov67)) (oF83 : Fld Z Z.heap ov49 cn1 "code" "Ljava/lang/String;" (.ref ov81)) (oE84 : Exa Z Z.heap ov81 cn0) (oF86 : Fld Z Z.heap ov81 cn0 "coder" "B" (.int (0 : Int32))) (oF89 : Fld Z Z.heap ov81 cn0 "value" "[B" (.ref ov87)) (oS101 : Sta Z Z.heap cn1 "X_N" cn4 (.ref ov99)) (oE102 : Exa Z Z.heap ov99 cn1) (oF105 : Fld Z Z.heap ov99 cn1 "code" "Ljava/lang/String;" (.ref ov103)) (oE106 : Exa Z Z.heap ov103 cn0) (oF108 : Fld Z Z.heap ov103 cn0 "coder" "B" (.int (0 : Int32))) (oF111 : Fld Z Z.heap ov103 cn0 "value" "[B" (.ref ov109)) (oF120 : Fld Z Z.heap ov99 "java/lang/Enum" "ordinal" "I" (.int (5 : Int32))) (oS123 : Sta Z Z.heap cn1 "B" cn4 (.ref ov121)) (oE124 : Exa Z Z.heap ov121 cn1) (oF127 : Fld Z Z.heap ov121 cn1 "code" "Ljava/lang/String;" (.ref ov125)) (oE128 : Exa Z Z.heap ov125 cn0) (oF130 : Fld Z Z.heap ov125 cn0 "coder" "B" (.int (0 : Int32))) (oF133 : Fld Z Z.heap ov125 cn0 "value" "[B" (.ref ov131)) (oF142 : Fld Z Z.heap ov121 "java/lang/Enum" "ordinal" "I" (.int (4 : Int32))) (oV147 : Arv Z Z.heap ov15 ok148 .byte (1 : Int32) [(.int (110 : Int32))] (.int (0 : Int32))) (oV149 : Arv Z Z.heap ov35 ok150 .byte (1 : Int32) [(.int (122 : Int32))] (.int (0 : Int32))) (oV151 : Arv Z Z.heap ov67 ok152 .byte (3 : Int32) [(.int (97 : Int32)), (.int (110 : Int32)), (.int (115 : Int32))] (.int (0 : Int32))) (oV153 : Arv Z Z.heap ov87 ok154 .byte (2 : Int32) [(.int (97 : Int32)), (.int (110 : Int32))] (.int (0 : Int32))) (oV155 : Arv Z Z.heap ov109 ok156 .byte (3 : Int32) [(.int (120 : Int32)), (.int (43 : Int32)), (.int (110 : Int32))] (.int (0 : Int32))) (oV157 : Arv Z Z.heap ov131 ok158 .byte (1 : Int32) [(.int (98 : Int32))] (.int (0 : Int32))) (oh4 : ¬ (oi1 = (0 : Int32))) :
    MetFree l x (head1 (Jvm.Cond.code x code maxLocals ret :: ws) room_1) (fun a U => a = #[(.int p1)] ∧ Z.Warmed39 U.vm ∧ U.heap = h0 ∧ CHv Z own_EL U.vm h0) (fun _ _ _ _ _ => True) (fun _ U o U' => ∃ v L, o = .returned v ∧ Q_rm_law Z p1 oi1 ov5 ov9 ov15 ov25 ov29 ov35 ov49 ov55 ov61 ov67 ov81 ov87 ov99 ov103 ov109 ov121 ov125 ov131 ok148 ok150 ok152 ok154 ok156 ok158 h0 n0 v U'.heap L ∧ ReturnedEndW U o U' L room_1.cells room_1.slots) := by
  refine MetFree.of_bodySF (plainFor_of_name pn_com_example_cardwire_cardwire_core_AttributeFillsPinLaw) hisR ?_
  intro p e s m args below meth c s₁ Bd hml0 hP hK
  obtain ⟨rfl, hZ0, hh, hC0⟩ := hP
  have hx := Bd.exec
  have hby := Bd.bytes
  have hlk := Bd.notSynchronized
  have hml : c.maxLocals = 7 := hml0
  have hZ : Z.Warmed39 (s.setVm s.vm).vm := hZ0
  have hown : (s.setVm s.vm).vm.findClass cn6 = some m.cls := findClass_of_methodNamed Bd.named
  have hnm := (name_of_methodNamed Bd.named Bd.method).1
  have X0 : Stand p l e room_1 (s.setVm s.vm) m #[(.int p1)] below meth c s₁ [] 0 0 := Stand.of_body Bd
  have hS0 : s.Since s.vm s.heap.size := (State.WarmedH.refl s).since _
  have hk0 : s.heap.size ≤ h0.size := Nat.le_of_eq (congrArg Array.size hh)
  have e0 : s₁.heap = h0 := by rw [← hh, Bd.state]; rfl
  have N0 := Fr.nil n0
  have K0 := Keep.refl h0 []
  have Z0 : n0 ≤ h0.size := O0.1 ▸ O0.2.1
  have hef : entryFrame m #[(.int p1)] maxLocals = mkF m 0 #[.val (.int p1), .unset, .unset, .unset, .unset, .unset, .unset] [] := by first | (simp [entryFrame, mkF, argsToLocals, Value.category, maxLocals]; done) | rfl
  rw [hef]
  refine GetsW.out (Q := Q_rm_law Z p1 oi1 ov5 ov9 ov15 ov25 ov29 ov35 ov49 ov55 ov61 ov67 ov81 ov87 ov99 ov103 ov109 ov121 ov125 ov131 ok148 ok150 ok152 ok154 ok156 ok158 h0 n0) ?_
  show Gets p e below _ (s₁.setTop (mkF m 0 #[.val (.int p1), .unset, .unset, .unset, .unset, .unset, .unset] []))
  refine Gets.of (fun t k => XS.iloadN X0.here hx rfl (hb hby at_0) rfl  k) ?_
  refine Gets.of (fun t k => X0.ldcInt hx hown (mvT hZ (w0 hw)) (g := (mkF m 1 #[.val (.int p1), .unset, .unset, .unset, .unset, .unset, .unset] [(.int p1)])) rfl (hb hby at_1) t k) ?_
  show Gets p e below _ (s₁.setTop (mkF m 3 #[.val (.int p1), .unset, .unset, .unset, .unset, .unset, .unset] [(.int (2147483647 : Int32)), (.int p1)]))
  refine Gets.of (fun t k => XS.iand X0.here hx rfl (hb hby at_3) rfl k) ?_
  show Gets p e below _ (s₁.setTop (mkF m 4 #[.val (.int p1), .unset, .unset, .unset, .unset, .unset, .unset] [(.int (p1 &&& (2147483647 : Int32)))]))
  refine Gets.of (fun t k => XS.bipush X0.here hx rfl (hb hby at_4) k) ?_
  refine Gets.of (fun t k => iremM (g := (mkF m 6 #[.val (.int p1), .unset, .unset, .unset, .unset, .unset, .unset] [(.int (6 : Int32)), (.int (p1 &&& (2147483647 : Int32)))])) X0 hx rfl (hb hby at_6) rfl (by decide) k) ?_
  show Gets p e below _ (s₁.setTop (mkF m 7 #[.val (.int p1), .unset, .unset, .unset, .unset, .unset, .unset] [(.int ((p1 &&& (2147483647 : Int32)) % (6 : Int32)))]))
  refine Gets.of (fun t k => XS.istoreN X0.here hx rfl (hb hby at_7) rfl (l' := #[.val (.int p1), .val (.int ((p1 &&& (2147483647 : Int32)) % (6 : Int32))), .unset, .unset, .unset, .unset, .unset]) rfl k) ?_
  show Gets p e below _ (s₁.setTop (mkF m 8 #[.val (.int p1), .val (.int ((p1 &&& (2147483647 : Int32)) % (6 : Int32))), .unset, .unset, .unset, .unset, .unset] []))
  refine Gets.of (fun t k => XS.iloadN X0.here hx rfl (hb hby at_8) rfl  k) ?_
  obtain ⟨_, _, ⟨T1, L1, k1, n1⟩, -, X1, ⟨Lc1, hQ1, l1, y1, z1⟩, st1⟩ := Jvm.LawKit.callS X0 hx (y := (⟨cn6, "pick", "(I)Lcom/example/cardwire/cardwire/core/Attribute;"⟩ : MethodName)) hown (mvT hZ (w1 hw)) (mvT hZ (w2 hw)) (mvT hZ (w3 hw)) (mvT hZ (w4 hw)) (by decide) (backOf (W := 0) (r1_pick l Z a0 hw [] ((p1 &&& (2147483647 : Int32)) % (6 : Int32)) ov5 ov49 ov55 ov25 ov121 ov99 h0 n0 O0 oS7 oS51 oS57 oS27 oS123 oS101) hZ (w4 hw) (w3 hw) (by decide) (by decide)) (g := (mkF m 9 #[.val (.int p1), .val (.int ((p1 &&& (2147483647 : Int32)) % (6 : Int32))), .unset, .unset, .unset, .unset, .unset] [(.int ((p1 &&& (2147483647 : Int32)) % (6 : Int32)))])) rfl (by rw [hml]; rfl) (argsL := [(.int ((p1 &&& (2147483647 : Int32)) % (6 : Int32)))]) (rest := []) (lenOf pd__I_Lcom_example_cardwire_cardwire_core_Attribute_ rfl) rfl (by show 2 * 0 + _ ≤ _; exact Nat.le_of_eq rfl) (hb hby at_9) (fun _ _ => ⟨rfl, e0, (by decide : 0 + 0 ≤ _), (by decide : 0 + 0 ≤ _)⟩)
  dsimp only [Pt.U, Pt.locs, Pt.cells, Pt.slots] at X1 l1 y1 z1 st1 hQ1
  subst l1 y1 z1
  obtain ⟨Nq1, eq1, hR1⟩ := hQ1
  have N1 := Fr.app N0 Nq1
  rcases hR1 with ⟨hh1_0, rfl⟩ | ⟨hh1_0, hh1_1, rfl⟩ | ⟨hh1_0, hh1_1, hh1_2, rfl⟩ | ⟨hh1_0, hh1_1, hh1_2, hh1_3, rfl⟩ | ⟨hh1_0, hh1_1, hh1_2, hh1_3, hh1_4, rfl⟩ | ⟨hh1_0, hh1_1, hh1_2, hh1_3, hh1_4, rfl⟩
  · skip
    refine Gets.of st1 ?_
    show Gets p e below _ (T1.setTop (mkF m 12 #[.val (.int p1), .val (.int ((p1 &&& (2147483647 : Int32)) % (6 : Int32))), .unset, .unset, .unset, .unset, .unset] [(.ref ov5)]))
    refine Gets.of (fun t k => XS.astoreN X1.here hx rfl (hb hby at_12) rfl rfl (l' := #[.val (.int p1), .val (.int ((p1 &&& (2147483647 : Int32)) % (6 : Int32))), .val (.ref ov5), .unset, .unset, .unset, .unset]) rfl k) ?_
    show Gets p e below _ (T1.setTop (mkF m 13 #[.val (.int p1), .val (.int ((p1 &&& (2147483647 : Int32)) % (6 : Int32))), .val (.ref ov5), .unset, .unset, .unset, .unset] []))
    refine Gets.of (fun t k => XS.iloadN X1.here hx rfl (hb hby at_13) rfl  k) ?_
    refine Gets.of (fun t k => XS.iconst X1.here hx rfl (hb hby at_14) k) ?_
    have ho2 : ((p1 &&& (2147483647 : Int32)) % (6 : Int32)) < (3 : Int32) := by rw [hh1_0]; decide
    refine Gets.of (fun t k => XS.icmpNo X1.here hx rfl (hb hby at_15) rfl (tlt ho2).2.1 k) ?_
    show Gets p e below _ (T1.setTop (mkF m 18 #[.val (.int p1), .val (.int ((p1 &&& (2147483647 : Int32)) % (6 : Int32))), .val (.ref ov5), .unset, .unset, .unset, .unset] []))
    refine Gets.of (fun t k => XS.iconst X1.here hx rfl (hb hby at_18) k) ?_
    refine Gets.of (fun t k => XS.goto X1.here hx rfl (pc0 := 19) (pc' := 23) rfl (hb hby at_19) (by decide) (by decide) k) ?_
    show Gets p e below _ (T1.setTop (mkF m 23 #[.val (.int p1), .val (.int ((p1 &&& (2147483647 : Int32)) % (6 : Int32))), .val (.ref ov5), .unset, .unset, .unset, .unset] [(.int (1 : Int32))]))
    refine Gets.of (fun t k => XS.istoreN X1.here hx rfl (hb hby at_23) rfl (l' := #[.val (.int p1), .val (.int ((p1 &&& (2147483647 : Int32)) % (6 : Int32))), .val (.ref ov5), .val (.int (1 : Int32)), .unset, .unset, .unset]) rfl k) ?_
    show Gets p e below _ (T1.setTop (mkF m 24 #[.val (.int p1), .val (.int ((p1 &&& (2147483647 : Int32)) % (6 : Int32))), .val (.ref ov5), .val (.int (1 : Int32)), .unset, .unset, .unset] []))
    refine Gets.of (fun t k => XS.aloadN X1.here hx rfl (hb hby at_24) rfl rfl  k) ?_
    obtain ⟨cq3, kq3, q3a, q3b, q3c⟩ := isOf hZ eq1 (oE8.ext O0.2)
    obtain ⟨_, _, ⟨T3, L3, k3, n3⟩, -, X3, ⟨Lc3, hQ3, l3, y3, z3⟩, st3⟩ := X1.virtualBack hx (y := (⟨cn1, "code", cn5⟩ : MethodName)) (z := (⟨cn1, "code", cn5⟩ : MethodName)) hown (mvT hZ (w8 hw)) (mvT hZ (w9 hw)) (notFace_of_selects (args := #[]) (mvT hZ (w11 hw))) (mvT hZ (w11 hw)) (mvT hZ (w10 hw)) (by decide) (backOf (W := 0) (r2_code l Z a0 hw [] ov5 ov9 h0 n0 O0 oF11) hZ (w12 hw) (w6 hw) (by decide) (by decide)) q3a q3c (g := (mkF m 25 #[.val (.int p1), .val (.int ((p1 &&& (2147483647 : Int32)) % (6 : Int32))), .val (.ref ov5), .val (.int (1 : Int32)), .unset, .unset, .unset] [(.ref ov5)])) rfl (by rw [hml]; rfl) (Steps.refl _) (argsL := []) (rest := []) (lenOf pd__Ljava_lang_String_ rfl) rfl (by show 2 * 0 + _ ≤ _; exact Nat.le_of_eq rfl) (hb hby at_25) (fun _ _ => ⟨rfl, eq1, (by decide : 0 + 0 ≤ _), (by decide : 0 + 0 ≤ _)⟩)
    dsimp only [Pt.U, Pt.locs, Pt.cells, Pt.slots] at X3 l3 y3 z3 st3 hQ3
    subst l3 y3 z3
    obtain ⟨Nq3, eq3, hR3⟩ := hQ3
    have N3 := Fr.app N1 Nq3
    obtain rfl := hR3
    refine Gets.tr st3 ?_
    show Gets p e below _ (T3.setTop (mkF m 28 #[.val (.int p1), .val (.int ((p1 &&& (2147483647 : Int32)) % (6 : Int32))), .val (.ref ov5), .val (.int (1 : Int32)), .unset, .unset, .unset] [(.ref ov9)]))
    refine Gets.of (fun t k => XS.astore X3.here hx rfl (hb hby at_28) rfl rfl (l' := #[.val (.int p1), .val (.int ((p1 &&& (2147483647 : Int32)) % (6 : Int32))), .val (.ref ov5), .val (.int (1 : Int32)), .val (.ref ov9), .unset, .unset]) rfl k) ?_
    show Gets p e below _ (T3.setTop (mkF m 30 #[.val (.int p1), .val (.int ((p1 &&& (2147483647 : Int32)) % (6 : Int32))), .val (.ref ov5), .val (.int (1 : Int32)), .val (.ref ov9), .unset, .unset] []))
    refine Gets.of (fun t k => XS.aload X3.here hx rfl (hb hby at_30) rfl rfl  k) ?_
    obtain ⟨a4, T4, h4, k14, b4, k4, X4, e4, E4, hS4, hk4, hZ4, hown4, A4, Fc4, Fv4, V4, -, -, C4, Li4, -, st4⟩ := ldcCH X3 hx hZ hown (w15 hw) (own_wS hw) eq3 hS0 hk0 (own_EW hw) (List.mem_of_getElem? (l := own_EL) (i := 0) rfl) hC0 (vs := [(.int (110 : Int32))]) (z := (1 : Int32)) ⟨by decide, by decide⟩ (by decide) (by decide) (g := (mkF m 32 #[.val (.int p1), .val (.int ((p1 &&& (2147483647 : Int32)) % (6 : Int32))), .val (.ref ov5), .val (.int (1 : Int32)), .val (.ref ov9), .unset, .unset] [(.ref ov9)])) rfl (hb hby at_32) (n := 4) (by decide) (by decide) (by decide) (by decide)
    have K5 := K0.ext E4
    have O5 := O0.ext E4
    refine Gets.of st4 ?_
    show Gets p e below _ (T4.setTop (mkF m 34 #[.val (.int p1), .val (.int ((p1 &&& (2147483647 : Int32)) % (6 : Int32))), .val (.ref ov5), .val (.int (1 : Int32)), .val (.ref ov9), .unset, .unset] [(.ref a4), (.ref ov9)]))
    obtain ⟨cq6, kq6, q6a, q6b, q6c⟩ := isOf hZ4 e4 (oE12.ext O5.2)
    obtain ⟨_, _, ⟨T6, L6, k6, n6⟩, -, X6, ⟨Lc6, hQ6, l6, y6, z6⟩, st6⟩ := X4.virtualBack hx (y := (⟨cn0, "equals", cn2⟩ : MethodName)) (z := (⟨cn0, "equals", cn2⟩ : MethodName)) hown4 (mvT hZ4 (w23 hw)) (mvT hZ4 (w24 hw)) (notFace_of_selects (args := #[]) (mvT hZ4 (w26 hw))) (mvT hZ4 (w26 hw)) (mvT hZ4 (w25 hw)) (by decide) (backOf (W := 0) (r3_equals l Z a0 hw [] ov9 a4 oi1 ov15 b4 k4 ok148 h4 n0 O5 A4 Fc4 Fv4 V4 oS3 oF14 oF17 oV147 oh4) hZ4 (w27 hw) (w16 hw) (by decide) (by decide)) q6a q6c (g := (mkF m 34 #[.val (.int p1), .val (.int ((p1 &&& (2147483647 : Int32)) % (6 : Int32))), .val (.ref ov5), .val (.int (1 : Int32)), .val (.ref ov9), .unset, .unset] [(.ref a4), (.ref ov9)])) rfl (by rw [hml]; rfl) (Steps.refl _) (argsL := [(.ref a4)]) (rest := []) (lenOf pd__Ljava_lang_Object_Z rfl) rfl (by show 2 * 0 + _ ≤ _; exact Nat.le_of_eq rfl) (hb hby at_34) (fun _ _ => ⟨rfl, e4, (by decide : 2 + 0 ≤ _), (by decide : 8 + 0 ≤ _)⟩)
    dsimp only [Pt.U, Pt.locs, Pt.cells, Pt.slots] at X6 l6 y6 z6 st6 hQ6
    subst l6 y6 z6
    obtain ⟨Nq6, eq6, hR6⟩ := hQ6
    have N6 := Fr.app N3 Nq6
    obtain rfl := hR6
    refine Gets.tr st6 ?_
    show Gets p e below _ (T6.setTop (mkF m 37 #[.val (.int p1), .val (.int ((p1 &&& (2147483647 : Int32)) % (6 : Int32))), .val (.ref ov5), .val (.int (1 : Int32)), .val (.ref ov9), .unset, .unset] [(.int (1 : Int32))]))
    refine Gets.of (fun t k => XS.ifYes X6.here hx rfl (pc0 := 37) (pc' := 60) rfl (hb hby at_37) rfl ((if0 _ _).trans (feq (by decide : ¬ ((1 : Int32) = (0 : Int32)))).2) (by decide) (by decide) k) ?_
    show Gets p e below _ (T6.setTop (mkF m 60 #[.val (.int p1), .val (.int ((p1 &&& (2147483647 : Int32)) % (6 : Int32))), .val (.ref ov5), .val (.int (1 : Int32)), .val (.ref ov9), .unset, .unset] []))
    refine Gets.of (fun t k => XS.iconst X6.here hx rfl (hb hby at_60) k) ?_
    refine Gets.of (fun t k => XS.goto X6.here hx rfl (pc0 := 61) (pc' := 65) rfl (hb hby at_61) (by decide) (by decide) k) ?_
    show Gets p e below _ (T6.setTop (mkF m 65 #[.val (.int p1), .val (.int ((p1 &&& (2147483647 : Int32)) % (6 : Int32))), .val (.ref ov5), .val (.int (1 : Int32)), .val (.ref ov9), .unset, .unset] [(.int (1 : Int32))]))
    refine Gets.of (fun t k => XS.istore X6.here hx rfl (hb hby at_65) rfl (l' := #[.val (.int p1), .val (.int ((p1 &&& (2147483647 : Int32)) % (6 : Int32))), .val (.ref ov5), .val (.int (1 : Int32)), .val (.ref ov9), .val (.int (1 : Int32)), .unset]) rfl k) ?_
    show Gets p e below _ (T6.setTop (mkF m 67 #[.val (.int p1), .val (.int ((p1 &&& (2147483647 : Int32)) % (6 : Int32))), .val (.ref ov5), .val (.int (1 : Int32)), .val (.ref ov9), .val (.int (1 : Int32)), .unset] []))
    refine Gets.of (fun t k => XS.aloadN X6.here hx rfl (hb hby at_67) rfl rfl  k) ?_
    obtain ⟨cq7, kq7, q7a, q7b, q7c⟩ := isOf hZ4 eq6 (oE8.ext O5.2)
    obtain ⟨_, _, ⟨T7, L7, k7, n7⟩, -, X7, ⟨Lc7, hQ7, l7, y7, z7⟩, st7⟩ := X6.virtualBack hx (y := (⟨cn1, "fills", "()Z"⟩ : MethodName)) (z := (⟨cn1, "fills", "()Z"⟩ : MethodName)) hown4 (mvT hZ4 (w37 hw)) (mvT hZ4 (w38 hw)) (notFace_of_selects (args := #[]) (mvT hZ4 (w40 hw))) (mvT hZ4 (w40 hw)) (mvT hZ4 (w39 hw)) (by decide) (backOf (W := 0) (r5_fills l Z a0 hw [] ov5 h4 n0 O5 oS7) hZ4 (w41 hw) (w6 hw) (by decide) (by decide)) q7a q7c (g := (mkF m 68 #[.val (.int p1), .val (.int ((p1 &&& (2147483647 : Int32)) % (6 : Int32))), .val (.ref ov5), .val (.int (1 : Int32)), .val (.ref ov9), .val (.int (1 : Int32)), .unset] [(.ref ov5)])) rfl (by rw [hml]; rfl) (Steps.refl _) (argsL := []) (rest := []) (lenOf pd__Z rfl) rfl (by show 2 * 0 + _ ≤ _; exact Nat.le_of_eq rfl) (hb hby at_68) (fun _ _ => ⟨rfl, eq6, (by decide : 2 + 0 ≤ _), (by decide : 8 + 0 ≤ _)⟩)
    dsimp only [Pt.U, Pt.locs, Pt.cells, Pt.slots] at X7 l7 y7 z7 st7 hQ7
    subst l7 y7 z7
    obtain ⟨Nq7, eq7, hR7⟩ := hQ7
    have N7 := Fr.app N6 Nq7
    obtain rfl := hR7
    refine Gets.tr st7 ?_
    show Gets p e below _ (T7.setTop (mkF m 71 #[.val (.int p1), .val (.int ((p1 &&& (2147483647 : Int32)) % (6 : Int32))), .val (.ref ov5), .val (.int (1 : Int32)), .val (.ref ov9), .val (.int (1 : Int32)), .unset] [(.int (1 : Int32))]))
    refine Gets.of (fun t k => XS.istore X7.here hx rfl (hb hby at_71) rfl (l' := #[.val (.int p1), .val (.int ((p1 &&& (2147483647 : Int32)) % (6 : Int32))), .val (.ref ov5), .val (.int (1 : Int32)), .val (.ref ov9), .val (.int (1 : Int32)), .val (.int (1 : Int32))]) rfl k) ?_
    show Gets p e below _ (T7.setTop (mkF m 73 #[.val (.int p1), .val (.int ((p1 &&& (2147483647 : Int32)) % (6 : Int32))), .val (.ref ov5), .val (.int (1 : Int32)), .val (.ref ov9), .val (.int (1 : Int32)), .val (.int (1 : Int32))] []))
    refine Gets.of (fun t k => XS.iload X7.here hx rfl (hb hby at_73) rfl  k) ?_
    refine Gets.of (fun t k => XS.iloadN X7.here hx rfl (hb hby at_75) rfl  k) ?_
    refine Gets.of (fun t k => XS.icmpNo X7.here hx rfl (hb hby at_76) rfl (teq (by decide : (1 : Int32) = (1 : Int32))).2 k) ?_
    show Gets p e below _ (T7.setTop (mkF m 79 #[.val (.int p1), .val (.int ((p1 &&& (2147483647 : Int32)) % (6 : Int32))), .val (.ref ov5), .val (.int (1 : Int32)), .val (.ref ov9), .val (.int (1 : Int32)), .val (.int (1 : Int32))] []))
    refine Gets.of (fun t k => XS.iload X7.here hx rfl (hb hby at_79) rfl  k) ?_
    refine Gets.of (fun t k => XS.iload X7.here hx rfl (hb hby at_81) rfl  k) ?_
    refine Gets.of (fun t k => XS.icmpNo X7.here hx rfl (hb hby at_83) rfl (teq (by decide : (1 : Int32) = (1 : Int32))).2 k) ?_
    show Gets p e below _ (T7.setTop (mkF m 86 #[.val (.int p1), .val (.int ((p1 &&& (2147483647 : Int32)) % (6 : Int32))), .val (.ref ov5), .val (.int (1 : Int32)), .val (.ref ov9), .val (.int (1 : Int32)), .val (.int (1 : Int32))] []))
    refine Gets.of (fun t k => XS.iconst X7.here hx rfl (hb hby at_86) k) ?_
    refine Gets.of (fun t k => XS.goto X7.here hx rfl (pc0 := 87) (pc' := 91) rfl (hb hby at_87) (by decide) (by decide) k) ?_
    show Gets p e below _ (T7.setTop (mkF m 91 #[.val (.int p1), .val (.int ((p1 &&& (2147483647 : Int32)) % (6 : Int32))), .val (.ref ov5), .val (.int (1 : Int32)), .val (.ref ov9), .val (.int (1 : Int32)), .val (.int (1 : Int32))] [(.int (1 : Int32))]))
    refine GetsW.retN X7 hx (t := .boolean) Bd.returns (by simp) (hb hby at_91) hS4 (eq7 ▸ hk4) ?_ (by decide) (by decide)
    rw [eq7]
    exact ⟨N7, K5, rfl⟩
  · skip
    refine Gets.of st1 ?_
    show Gets p e below _ (T1.setTop (mkF m 12 #[.val (.int p1), .val (.int ((p1 &&& (2147483647 : Int32)) % (6 : Int32))), .unset, .unset, .unset, .unset, .unset] [(.ref ov49)]))
    refine Gets.of (fun t k => XS.astoreN X1.here hx rfl (hb hby at_12) rfl rfl (l' := #[.val (.int p1), .val (.int ((p1 &&& (2147483647 : Int32)) % (6 : Int32))), .val (.ref ov49), .unset, .unset, .unset, .unset]) rfl k) ?_
    show Gets p e below _ (T1.setTop (mkF m 13 #[.val (.int p1), .val (.int ((p1 &&& (2147483647 : Int32)) % (6 : Int32))), .val (.ref ov49), .unset, .unset, .unset, .unset] []))
    refine Gets.of (fun t k => XS.iloadN X1.here hx rfl (hb hby at_13) rfl  k) ?_
    refine Gets.of (fun t k => XS.iconst X1.here hx rfl (hb hby at_14) k) ?_
    have ho8 : ((p1 &&& (2147483647 : Int32)) % (6 : Int32)) < (3 : Int32) := by rw [hh1_1]; decide
    refine Gets.of (fun t k => XS.icmpNo X1.here hx rfl (hb hby at_15) rfl (tlt ho8).2.1 k) ?_
    show Gets p e below _ (T1.setTop (mkF m 18 #[.val (.int p1), .val (.int ((p1 &&& (2147483647 : Int32)) % (6 : Int32))), .val (.ref ov49), .unset, .unset, .unset, .unset] []))
    refine Gets.of (fun t k => XS.iconst X1.here hx rfl (hb hby at_18) k) ?_
    refine Gets.of (fun t k => XS.goto X1.here hx rfl (pc0 := 19) (pc' := 23) rfl (hb hby at_19) (by decide) (by decide) k) ?_
    show Gets p e below _ (T1.setTop (mkF m 23 #[.val (.int p1), .val (.int ((p1 &&& (2147483647 : Int32)) % (6 : Int32))), .val (.ref ov49), .unset, .unset, .unset, .unset] [(.int (1 : Int32))]))
    refine Gets.of (fun t k => XS.istoreN X1.here hx rfl (hb hby at_23) rfl (l' := #[.val (.int p1), .val (.int ((p1 &&& (2147483647 : Int32)) % (6 : Int32))), .val (.ref ov49), .val (.int (1 : Int32)), .unset, .unset, .unset]) rfl k) ?_
    show Gets p e below _ (T1.setTop (mkF m 24 #[.val (.int p1), .val (.int ((p1 &&& (2147483647 : Int32)) % (6 : Int32))), .val (.ref ov49), .val (.int (1 : Int32)), .unset, .unset, .unset] []))
    refine Gets.of (fun t k => XS.aloadN X1.here hx rfl (hb hby at_24) rfl rfl  k) ?_
    obtain ⟨cq9, kq9, q9a, q9b, q9c⟩ := isOf hZ eq1 (oE52.ext O0.2)
    obtain ⟨_, _, ⟨T9, L9, k9, n9⟩, -, X9, ⟨Lc9, hQ9, l9, y9, z9⟩, st9⟩ := X1.virtualBack hx (y := (⟨cn1, "code", cn5⟩ : MethodName)) (z := (⟨cn1, "code", cn5⟩ : MethodName)) hown (mvT hZ (w8 hw)) (mvT hZ (w9 hw)) (notFace_of_selects (args := #[]) (mvT hZ (w11 hw))) (mvT hZ (w11 hw)) (mvT hZ (w10 hw)) (by decide) (backOf (W := 0) (r6_code l Z a0 hw [] ov49 ov81 h0 n0 O0 oF83) hZ (w12 hw) (w6 hw) (by decide) (by decide)) q9a q9c (g := (mkF m 25 #[.val (.int p1), .val (.int ((p1 &&& (2147483647 : Int32)) % (6 : Int32))), .val (.ref ov49), .val (.int (1 : Int32)), .unset, .unset, .unset] [(.ref ov49)])) rfl (by rw [hml]; rfl) (Steps.refl _) (argsL := []) (rest := []) (lenOf pd__Ljava_lang_String_ rfl) rfl (by show 2 * 0 + _ ≤ _; exact Nat.le_of_eq rfl) (hb hby at_25) (fun _ _ => ⟨rfl, eq1, (by decide : 0 + 0 ≤ _), (by decide : 0 + 0 ≤ _)⟩)
    dsimp only [Pt.U, Pt.locs, Pt.cells, Pt.slots] at X9 l9 y9 z9 st9 hQ9
    subst l9 y9 z9
    obtain ⟨Nq9, eq9, hR9⟩ := hQ9
    have N9 := Fr.app N1 Nq9
    obtain rfl := hR9
    refine Gets.tr st9 ?_
    show Gets p e below _ (T9.setTop (mkF m 28 #[.val (.int p1), .val (.int ((p1 &&& (2147483647 : Int32)) % (6 : Int32))), .val (.ref ov49), .val (.int (1 : Int32)), .unset, .unset, .unset] [(.ref ov81)]))
    refine Gets.of (fun t k => XS.astore X9.here hx rfl (hb hby at_28) rfl rfl (l' := #[.val (.int p1), .val (.int ((p1 &&& (2147483647 : Int32)) % (6 : Int32))), .val (.ref ov49), .val (.int (1 : Int32)), .val (.ref ov81), .unset, .unset]) rfl k) ?_
    show Gets p e below _ (T9.setTop (mkF m 30 #[.val (.int p1), .val (.int ((p1 &&& (2147483647 : Int32)) % (6 : Int32))), .val (.ref ov49), .val (.int (1 : Int32)), .val (.ref ov81), .unset, .unset] []))
    refine Gets.of (fun t k => XS.aload X9.here hx rfl (hb hby at_30) rfl rfl  k) ?_
    obtain ⟨a10, T10, h10, k110, b10, k10, X10, e10, E10, hS10, hk10, hZ10, hown10, A10, Fc10, Fv10, V10, -, -, C10, Li10, -, st10⟩ := ldcCH X9 hx hZ hown (w15 hw) (own_wS hw) eq9 hS0 hk0 (own_EW hw) (List.mem_of_getElem? (l := own_EL) (i := 0) rfl) hC0 (vs := [(.int (110 : Int32))]) (z := (1 : Int32)) ⟨by decide, by decide⟩ (by decide) (by decide) (g := (mkF m 32 #[.val (.int p1), .val (.int ((p1 &&& (2147483647 : Int32)) % (6 : Int32))), .val (.ref ov49), .val (.int (1 : Int32)), .val (.ref ov81), .unset, .unset] [(.ref ov81)])) rfl (hb hby at_32) (n := 4) (by decide) (by decide) (by decide) (by decide)
    have K11 := K0.ext E10
    have O11 := O0.ext E10
    refine Gets.of st10 ?_
    show Gets p e below _ (T10.setTop (mkF m 34 #[.val (.int p1), .val (.int ((p1 &&& (2147483647 : Int32)) % (6 : Int32))), .val (.ref ov49), .val (.int (1 : Int32)), .val (.ref ov81), .unset, .unset] [(.ref a10), (.ref ov81)]))
    obtain ⟨cq12, kq12, q12a, q12b, q12c⟩ := isOf hZ10 e10 (oE84.ext O11.2)
    obtain ⟨_, _, ⟨T12, L12, k12, n12⟩, -, X12, ⟨Lc12, hQ12, l12, y12, z12⟩, st12⟩ := X10.virtualBack hx (y := (⟨cn0, "equals", cn2⟩ : MethodName)) (z := (⟨cn0, "equals", cn2⟩ : MethodName)) hown10 (mvT hZ10 (w23 hw)) (mvT hZ10 (w24 hw)) (notFace_of_selects (args := #[]) (mvT hZ10 (w26 hw))) (mvT hZ10 (w26 hw)) (mvT hZ10 (w25 hw)) (by decide) (backOf (W := 0) (r7_equals l Z a0 hw [] ov81 a10 ov87 ok154 b10 k10 oi1 ok148 h10 n0 O11 V10 Fv10 A10 Fc10 oV153 oF89 oS3 oF86 oh4) hZ10 (w27 hw) (w16 hw) (by decide) (by decide)) q12a q12c (g := (mkF m 34 #[.val (.int p1), .val (.int ((p1 &&& (2147483647 : Int32)) % (6 : Int32))), .val (.ref ov49), .val (.int (1 : Int32)), .val (.ref ov81), .unset, .unset] [(.ref a10), (.ref ov81)])) rfl (by rw [hml]; rfl) (Steps.refl _) (argsL := [(.ref a10)]) (rest := []) (lenOf pd__Ljava_lang_Object_Z rfl) rfl (by show 2 * 0 + _ ≤ _; exact Nat.le_of_eq rfl) (hb hby at_34) (fun _ _ => ⟨rfl, e10, (by decide : 2 + 0 ≤ _), (by decide : 8 + 0 ≤ _)⟩)
    dsimp only [Pt.U, Pt.locs, Pt.cells, Pt.slots] at X12 l12 y12 z12 st12 hQ12
    subst l12 y12 z12
    obtain ⟨Nq12, eq12, hR12⟩ := hQ12
    have N12 := Fr.app N9 Nq12
    obtain rfl := hR12
    refine Gets.tr st12 ?_
    show Gets p e below _ (T12.setTop (mkF m 37 #[.val (.int p1), .val (.int ((p1 &&& (2147483647 : Int32)) % (6 : Int32))), .val (.ref ov49), .val (.int (1 : Int32)), .val (.ref ov81), .unset, .unset] [(.int (0 : Int32))]))
    refine Gets.of (fun t k => XS.ifNo X12.here hx rfl (hb hby at_37) rfl ((if0 _ _).trans (teq (by decide : (0 : Int32) = (0 : Int32))).2) k) ?_
    show Gets p e below _ (T12.setTop (mkF m 40 #[.val (.int p1), .val (.int ((p1 &&& (2147483647 : Int32)) % (6 : Int32))), .val (.ref ov49), .val (.int (1 : Int32)), .val (.ref ov81), .unset, .unset] []))
    refine Gets.of (fun t k => XS.aload X12.here hx rfl (hb hby at_40) rfl rfl  k) ?_
    obtain ⟨a13, T13, h13, k113, b13, k13, X13, e13, E13, hS13, hk13, hZ13, hown13, A13, Fc13, Fv13, V13, -, -, C13, Li13, -, st13⟩ := ldcCH X12 hx hZ10 hown10 (w45 hw) (own_wS hw) eq12 hS10 hk10 (own_EW hw) (List.mem_of_getElem? (l := own_EL) (i := 1) rfl) C10.1 (vs := [(.int (97 : Int32)), (.int (110 : Int32))]) (z := (2 : Int32)) ⟨by decide, by decide⟩ (by decide) (by decide) (g := (mkF m 42 #[.val (.int p1), .val (.int ((p1 &&& (2147483647 : Int32)) % (6 : Int32))), .val (.ref ov49), .val (.int (1 : Int32)), .val (.ref ov81), .unset, .unset] [(.ref ov81)])) rfl (hb hby at_42) (n := 8) (by decide) (by decide) (by decide) (by decide)
    have K14 := K11.ext E13
    have O14 := O11.ext E13
    refine Gets.of st13 ?_
    show Gets p e below _ (T13.setTop (mkF m 44 #[.val (.int p1), .val (.int ((p1 &&& (2147483647 : Int32)) % (6 : Int32))), .val (.ref ov49), .val (.int (1 : Int32)), .val (.ref ov81), .unset, .unset] [(.ref a13), (.ref ov81)]))
    obtain ⟨cq15, kq15, q15a, q15b, q15c⟩ := isOf hZ13 e13 (oE84.ext O14.2)
    obtain ⟨_, _, ⟨T15, L15, k15, n15⟩, -, X15, ⟨Lc15, hQ15, l15, y15, z15⟩, st15⟩ := X13.virtualBack hx (y := (⟨cn0, "equals", cn2⟩ : MethodName)) (z := (⟨cn0, "equals", cn2⟩ : MethodName)) hown13 (mvT hZ13 (w23 hw)) (mvT hZ13 (w24 hw)) (notFace_of_selects (args := #[]) (mvT hZ13 (w26 hw))) (mvT hZ13 (w26 hw)) (mvT hZ13 (w25 hw)) (by decide) (backOf (W := 0) (r9_equals l Z a0 hw [] ov81 a13 oi1 ov87 b13 k13 ok154 h13 n0 O14 A13 Fc13 Fv13 V13 oS3 oF86 oF89 oV153 oh4) hZ13 (w27 hw) (w16 hw) (by decide) (by decide)) q15a q15c (g := (mkF m 44 #[.val (.int p1), .val (.int ((p1 &&& (2147483647 : Int32)) % (6 : Int32))), .val (.ref ov49), .val (.int (1 : Int32)), .val (.ref ov81), .unset, .unset] [(.ref a13), (.ref ov81)])) rfl (by rw [hml]; rfl) (Steps.refl _) (argsL := [(.ref a13)]) (rest := []) (lenOf pd__Ljava_lang_Object_Z rfl) rfl (by show 2 * 0 + _ ≤ _; exact Nat.le_of_eq rfl) (hb hby at_44) (fun _ _ => ⟨rfl, e13, (by decide : 4 + 0 ≤ _), (by decide : 20 + 0 ≤ _)⟩)
    dsimp only [Pt.U, Pt.locs, Pt.cells, Pt.slots] at X15 l15 y15 z15 st15 hQ15
    subst l15 y15 z15
    obtain ⟨Nq15, eq15, hR15⟩ := hQ15
    have N15 := Fr.app N12 Nq15
    obtain rfl := hR15
    refine Gets.tr st15 ?_
    show Gets p e below _ (T15.setTop (mkF m 47 #[.val (.int p1), .val (.int ((p1 &&& (2147483647 : Int32)) % (6 : Int32))), .val (.ref ov49), .val (.int (1 : Int32)), .val (.ref ov81), .unset, .unset] [(.int (1 : Int32))]))
    refine Gets.of (fun t k => XS.ifYes X15.here hx rfl (pc0 := 47) (pc' := 60) rfl (hb hby at_47) rfl ((if0 _ _).trans (feq (by decide : ¬ ((1 : Int32) = (0 : Int32)))).2) (by decide) (by decide) k) ?_
    show Gets p e below _ (T15.setTop (mkF m 60 #[.val (.int p1), .val (.int ((p1 &&& (2147483647 : Int32)) % (6 : Int32))), .val (.ref ov49), .val (.int (1 : Int32)), .val (.ref ov81), .unset, .unset] []))
    refine Gets.of (fun t k => XS.iconst X15.here hx rfl (hb hby at_60) k) ?_
    refine Gets.of (fun t k => XS.goto X15.here hx rfl (pc0 := 61) (pc' := 65) rfl (hb hby at_61) (by decide) (by decide) k) ?_
    show Gets p e below _ (T15.setTop (mkF m 65 #[.val (.int p1), .val (.int ((p1 &&& (2147483647 : Int32)) % (6 : Int32))), .val (.ref ov49), .val (.int (1 : Int32)), .val (.ref ov81), .unset, .unset] [(.int (1 : Int32))]))
    refine Gets.of (fun t k => XS.istore X15.here hx rfl (hb hby at_65) rfl (l' := #[.val (.int p1), .val (.int ((p1 &&& (2147483647 : Int32)) % (6 : Int32))), .val (.ref ov49), .val (.int (1 : Int32)), .val (.ref ov81), .val (.int (1 : Int32)), .unset]) rfl k) ?_
    show Gets p e below _ (T15.setTop (mkF m 67 #[.val (.int p1), .val (.int ((p1 &&& (2147483647 : Int32)) % (6 : Int32))), .val (.ref ov49), .val (.int (1 : Int32)), .val (.ref ov81), .val (.int (1 : Int32)), .unset] []))
    refine Gets.of (fun t k => XS.aloadN X15.here hx rfl (hb hby at_67) rfl rfl  k) ?_
    obtain ⟨cq16, kq16, q16a, q16b, q16c⟩ := isOf hZ13 eq15 (oE52.ext O14.2)
    obtain ⟨_, _, ⟨T16, L16, k16, n16⟩, -, X16, ⟨Lc16, hQ16, l16, y16, z16⟩, st16⟩ := X15.virtualBack hx (y := (⟨cn1, "fills", "()Z"⟩ : MethodName)) (z := (⟨cn1, "fills", "()Z"⟩ : MethodName)) hown13 (mvT hZ13 (w37 hw)) (mvT hZ13 (w38 hw)) (notFace_of_selects (args := #[]) (mvT hZ13 (w40 hw))) (mvT hZ13 (w40 hw)) (mvT hZ13 (w39 hw)) (by decide) (backOf (W := 0) (r11_fills l Z a0 hw [] ov49 ov5 h13 n0 O14 oS7 oF54 oF48 oS51) hZ13 (w41 hw) (w6 hw) (by decide) (by decide)) q16a q16c (g := (mkF m 68 #[.val (.int p1), .val (.int ((p1 &&& (2147483647 : Int32)) % (6 : Int32))), .val (.ref ov49), .val (.int (1 : Int32)), .val (.ref ov81), .val (.int (1 : Int32)), .unset] [(.ref ov49)])) rfl (by rw [hml]; rfl) (Steps.refl _) (argsL := []) (rest := []) (lenOf pd__Z rfl) rfl (by show 2 * 0 + _ ≤ _; exact Nat.le_of_eq rfl) (hb hby at_68) (fun _ _ => ⟨rfl, eq15, (by decide : 4 + 0 ≤ _), (by decide : 20 + 0 ≤ _)⟩)
    dsimp only [Pt.U, Pt.locs, Pt.cells, Pt.slots] at X16 l16 y16 z16 st16 hQ16
    subst l16 y16 z16
    obtain ⟨Nq16, eq16, hR16⟩ := hQ16
    have N16 := Fr.app N15 Nq16
    obtain rfl := hR16
    refine Gets.tr st16 ?_
    show Gets p e below _ (T16.setTop (mkF m 71 #[.val (.int p1), .val (.int ((p1 &&& (2147483647 : Int32)) % (6 : Int32))), .val (.ref ov49), .val (.int (1 : Int32)), .val (.ref ov81), .val (.int (1 : Int32)), .unset] [(.int (1 : Int32))]))
    refine Gets.of (fun t k => XS.istore X16.here hx rfl (hb hby at_71) rfl (l' := #[.val (.int p1), .val (.int ((p1 &&& (2147483647 : Int32)) % (6 : Int32))), .val (.ref ov49), .val (.int (1 : Int32)), .val (.ref ov81), .val (.int (1 : Int32)), .val (.int (1 : Int32))]) rfl k) ?_
    show Gets p e below _ (T16.setTop (mkF m 73 #[.val (.int p1), .val (.int ((p1 &&& (2147483647 : Int32)) % (6 : Int32))), .val (.ref ov49), .val (.int (1 : Int32)), .val (.ref ov81), .val (.int (1 : Int32)), .val (.int (1 : Int32))] []))
    refine Gets.of (fun t k => XS.iload X16.here hx rfl (hb hby at_73) rfl  k) ?_
    refine Gets.of (fun t k => XS.iloadN X16.here hx rfl (hb hby at_75) rfl  k) ?_
    refine Gets.of (fun t k => XS.icmpNo X16.here hx rfl (hb hby at_76) rfl (teq (by decide : (1 : Int32) = (1 : Int32))).2 k) ?_
    show Gets p e below _ (T16.setTop (mkF m 79 #[.val (.int p1), .val (.int ((p1 &&& (2147483647 : Int32)) % (6 : Int32))), .val (.ref ov49), .val (.int (1 : Int32)), .val (.ref ov81), .val (.int (1 : Int32)), .val (.int (1 : Int32))] []))
    refine Gets.of (fun t k => XS.iload X16.here hx rfl (hb hby at_79) rfl  k) ?_
    refine Gets.of (fun t k => XS.iload X16.here hx rfl (hb hby at_81) rfl  k) ?_
    refine Gets.of (fun t k => XS.icmpNo X16.here hx rfl (hb hby at_83) rfl (teq (by decide : (1 : Int32) = (1 : Int32))).2 k) ?_
    show Gets p e below _ (T16.setTop (mkF m 86 #[.val (.int p1), .val (.int ((p1 &&& (2147483647 : Int32)) % (6 : Int32))), .val (.ref ov49), .val (.int (1 : Int32)), .val (.ref ov81), .val (.int (1 : Int32)), .val (.int (1 : Int32))] []))
    refine Gets.of (fun t k => XS.iconst X16.here hx rfl (hb hby at_86) k) ?_
    refine Gets.of (fun t k => XS.goto X16.here hx rfl (pc0 := 87) (pc' := 91) rfl (hb hby at_87) (by decide) (by decide) k) ?_
    show Gets p e below _ (T16.setTop (mkF m 91 #[.val (.int p1), .val (.int ((p1 &&& (2147483647 : Int32)) % (6 : Int32))), .val (.ref ov49), .val (.int (1 : Int32)), .val (.ref ov81), .val (.int (1 : Int32)), .val (.int (1 : Int32))] [(.int (1 : Int32))]))
    refine GetsW.retN X16 hx (t := .boolean) Bd.returns (by simp) (hb hby at_91) hS13 (eq16 ▸ hk13) ?_ (by decide) (by decide)
    rw [eq16]
    exact ⟨N16, K14, rfl⟩
  · skip
    refine Gets.of st1 ?_
    show Gets p e below _ (T1.setTop (mkF m 12 #[.val (.int p1), .val (.int ((p1 &&& (2147483647 : Int32)) % (6 : Int32))), .unset, .unset, .unset, .unset, .unset] [(.ref ov55)]))
    refine Gets.of (fun t k => XS.astoreN X1.here hx rfl (hb hby at_12) rfl rfl (l' := #[.val (.int p1), .val (.int ((p1 &&& (2147483647 : Int32)) % (6 : Int32))), .val (.ref ov55), .unset, .unset, .unset, .unset]) rfl k) ?_
    show Gets p e below _ (T1.setTop (mkF m 13 #[.val (.int p1), .val (.int ((p1 &&& (2147483647 : Int32)) % (6 : Int32))), .val (.ref ov55), .unset, .unset, .unset, .unset] []))
    refine Gets.of (fun t k => XS.iloadN X1.here hx rfl (hb hby at_13) rfl  k) ?_
    refine Gets.of (fun t k => XS.iconst X1.here hx rfl (hb hby at_14) k) ?_
    have ho17 : ((p1 &&& (2147483647 : Int32)) % (6 : Int32)) < (3 : Int32) := by rw [hh1_2]; decide
    refine Gets.of (fun t k => XS.icmpNo X1.here hx rfl (hb hby at_15) rfl (tlt ho17).2.1 k) ?_
    show Gets p e below _ (T1.setTop (mkF m 18 #[.val (.int p1), .val (.int ((p1 &&& (2147483647 : Int32)) % (6 : Int32))), .val (.ref ov55), .unset, .unset, .unset, .unset] []))
    refine Gets.of (fun t k => XS.iconst X1.here hx rfl (hb hby at_18) k) ?_
    refine Gets.of (fun t k => XS.goto X1.here hx rfl (pc0 := 19) (pc' := 23) rfl (hb hby at_19) (by decide) (by decide) k) ?_
    show Gets p e below _ (T1.setTop (mkF m 23 #[.val (.int p1), .val (.int ((p1 &&& (2147483647 : Int32)) % (6 : Int32))), .val (.ref ov55), .unset, .unset, .unset, .unset] [(.int (1 : Int32))]))
    refine Gets.of (fun t k => XS.istoreN X1.here hx rfl (hb hby at_23) rfl (l' := #[.val (.int p1), .val (.int ((p1 &&& (2147483647 : Int32)) % (6 : Int32))), .val (.ref ov55), .val (.int (1 : Int32)), .unset, .unset, .unset]) rfl k) ?_
    show Gets p e below _ (T1.setTop (mkF m 24 #[.val (.int p1), .val (.int ((p1 &&& (2147483647 : Int32)) % (6 : Int32))), .val (.ref ov55), .val (.int (1 : Int32)), .unset, .unset, .unset] []))
    refine Gets.of (fun t k => XS.aloadN X1.here hx rfl (hb hby at_24) rfl rfl  k) ?_
    obtain ⟨cq18, kq18, q18a, q18b, q18c⟩ := isOf hZ eq1 (oE58.ext O0.2)
    obtain ⟨_, _, ⟨T18, L18, k18, n18⟩, -, X18, ⟨Lc18, hQ18, l18, y18, z18⟩, st18⟩ := X1.virtualBack hx (y := (⟨cn1, "code", cn5⟩ : MethodName)) (z := (⟨cn1, "code", cn5⟩ : MethodName)) hown (mvT hZ (w8 hw)) (mvT hZ (w9 hw)) (notFace_of_selects (args := #[]) (mvT hZ (w11 hw))) (mvT hZ (w11 hw)) (mvT hZ (w10 hw)) (by decide) (backOf (W := 0) (r12_code l Z a0 hw [] ov55 ov61 h0 n0 O0 oF63) hZ (w12 hw) (w6 hw) (by decide) (by decide)) q18a q18c (g := (mkF m 25 #[.val (.int p1), .val (.int ((p1 &&& (2147483647 : Int32)) % (6 : Int32))), .val (.ref ov55), .val (.int (1 : Int32)), .unset, .unset, .unset] [(.ref ov55)])) rfl (by rw [hml]; rfl) (Steps.refl _) (argsL := []) (rest := []) (lenOf pd__Ljava_lang_String_ rfl) rfl (by show 2 * 0 + _ ≤ _; exact Nat.le_of_eq rfl) (hb hby at_25) (fun _ _ => ⟨rfl, eq1, (by decide : 0 + 0 ≤ _), (by decide : 0 + 0 ≤ _)⟩)
    dsimp only [Pt.U, Pt.locs, Pt.cells, Pt.slots] at X18 l18 y18 z18 st18 hQ18
    subst l18 y18 z18
    obtain ⟨Nq18, eq18, hR18⟩ := hQ18
    have N18 := Fr.app N1 Nq18
    obtain rfl := hR18
    refine Gets.tr st18 ?_
    show Gets p e below _ (T18.setTop (mkF m 28 #[.val (.int p1), .val (.int ((p1 &&& (2147483647 : Int32)) % (6 : Int32))), .val (.ref ov55), .val (.int (1 : Int32)), .unset, .unset, .unset] [(.ref ov61)]))
    refine Gets.of (fun t k => XS.astore X18.here hx rfl (hb hby at_28) rfl rfl (l' := #[.val (.int p1), .val (.int ((p1 &&& (2147483647 : Int32)) % (6 : Int32))), .val (.ref ov55), .val (.int (1 : Int32)), .val (.ref ov61), .unset, .unset]) rfl k) ?_
    show Gets p e below _ (T18.setTop (mkF m 30 #[.val (.int p1), .val (.int ((p1 &&& (2147483647 : Int32)) % (6 : Int32))), .val (.ref ov55), .val (.int (1 : Int32)), .val (.ref ov61), .unset, .unset] []))
    refine Gets.of (fun t k => XS.aload X18.here hx rfl (hb hby at_30) rfl rfl  k) ?_
    obtain ⟨a19, T19, h19, k119, b19, k19, X19, e19, E19, hS19, hk19, hZ19, hown19, A19, Fc19, Fv19, V19, -, -, C19, Li19, -, st19⟩ := ldcCH X18 hx hZ hown (w15 hw) (own_wS hw) eq18 hS0 hk0 (own_EW hw) (List.mem_of_getElem? (l := own_EL) (i := 0) rfl) hC0 (vs := [(.int (110 : Int32))]) (z := (1 : Int32)) ⟨by decide, by decide⟩ (by decide) (by decide) (g := (mkF m 32 #[.val (.int p1), .val (.int ((p1 &&& (2147483647 : Int32)) % (6 : Int32))), .val (.ref ov55), .val (.int (1 : Int32)), .val (.ref ov61), .unset, .unset] [(.ref ov61)])) rfl (hb hby at_32) (n := 4) (by decide) (by decide) (by decide) (by decide)
    have K20 := K0.ext E19
    have O20 := O0.ext E19
    refine Gets.of st19 ?_
    show Gets p e below _ (T19.setTop (mkF m 34 #[.val (.int p1), .val (.int ((p1 &&& (2147483647 : Int32)) % (6 : Int32))), .val (.ref ov55), .val (.int (1 : Int32)), .val (.ref ov61), .unset, .unset] [(.ref a19), (.ref ov61)]))
    obtain ⟨cq21, kq21, q21a, q21b, q21c⟩ := isOf hZ19 e19 (oE64.ext O20.2)
    obtain ⟨_, _, ⟨T21, L21, k21, n21⟩, -, X21, ⟨Lc21, hQ21, l21, y21, z21⟩, st21⟩ := X19.virtualBack hx (y := (⟨cn0, "equals", cn2⟩ : MethodName)) (z := (⟨cn0, "equals", cn2⟩ : MethodName)) hown19 (mvT hZ19 (w23 hw)) (mvT hZ19 (w24 hw)) (notFace_of_selects (args := #[]) (mvT hZ19 (w26 hw))) (mvT hZ19 (w26 hw)) (mvT hZ19 (w25 hw)) (by decide) (backOf (W := 0) (r13_equals l Z a0 hw [] ov61 a19 ov67 ok152 b19 k19 oi1 ok154 ok148 h19 n0 O20 V19 Fv19 A19 Fc19 oV151 oF69 oS3 oF66 oh4) hZ19 (w27 hw) (w16 hw) (by decide) (by decide)) q21a q21c (g := (mkF m 34 #[.val (.int p1), .val (.int ((p1 &&& (2147483647 : Int32)) % (6 : Int32))), .val (.ref ov55), .val (.int (1 : Int32)), .val (.ref ov61), .unset, .unset] [(.ref a19), (.ref ov61)])) rfl (by rw [hml]; rfl) (Steps.refl _) (argsL := [(.ref a19)]) (rest := []) (lenOf pd__Ljava_lang_Object_Z rfl) rfl (by show 2 * 0 + _ ≤ _; exact Nat.le_of_eq rfl) (hb hby at_34) (fun _ _ => ⟨rfl, e19, (by decide : 2 + 0 ≤ _), (by decide : 8 + 0 ≤ _)⟩)
    dsimp only [Pt.U, Pt.locs, Pt.cells, Pt.slots] at X21 l21 y21 z21 st21 hQ21
    subst l21 y21 z21
    obtain ⟨Nq21, eq21, hR21⟩ := hQ21
    have N21 := Fr.app N18 Nq21
    obtain rfl := hR21
    refine Gets.tr st21 ?_
    show Gets p e below _ (T21.setTop (mkF m 37 #[.val (.int p1), .val (.int ((p1 &&& (2147483647 : Int32)) % (6 : Int32))), .val (.ref ov55), .val (.int (1 : Int32)), .val (.ref ov61), .unset, .unset] [(.int (0 : Int32))]))
    refine Gets.of (fun t k => XS.ifNo X21.here hx rfl (hb hby at_37) rfl ((if0 _ _).trans (teq (by decide : (0 : Int32) = (0 : Int32))).2) k) ?_
    show Gets p e below _ (T21.setTop (mkF m 40 #[.val (.int p1), .val (.int ((p1 &&& (2147483647 : Int32)) % (6 : Int32))), .val (.ref ov55), .val (.int (1 : Int32)), .val (.ref ov61), .unset, .unset] []))
    refine Gets.of (fun t k => XS.aload X21.here hx rfl (hb hby at_40) rfl rfl  k) ?_
    obtain ⟨a22, T22, h22, k122, b22, k22, X22, e22, E22, hS22, hk22, hZ22, hown22, A22, Fc22, Fv22, V22, -, -, C22, Li22, -, st22⟩ := ldcCH X21 hx hZ19 hown19 (w45 hw) (own_wS hw) eq21 hS19 hk19 (own_EW hw) (List.mem_of_getElem? (l := own_EL) (i := 1) rfl) C19.1 (vs := [(.int (97 : Int32)), (.int (110 : Int32))]) (z := (2 : Int32)) ⟨by decide, by decide⟩ (by decide) (by decide) (g := (mkF m 42 #[.val (.int p1), .val (.int ((p1 &&& (2147483647 : Int32)) % (6 : Int32))), .val (.ref ov55), .val (.int (1 : Int32)), .val (.ref ov61), .unset, .unset] [(.ref ov61)])) rfl (hb hby at_42) (n := 8) (by decide) (by decide) (by decide) (by decide)
    have K23 := K20.ext E22
    have O23 := O20.ext E22
    refine Gets.of st22 ?_
    show Gets p e below _ (T22.setTop (mkF m 44 #[.val (.int p1), .val (.int ((p1 &&& (2147483647 : Int32)) % (6 : Int32))), .val (.ref ov55), .val (.int (1 : Int32)), .val (.ref ov61), .unset, .unset] [(.ref a22), (.ref ov61)]))
    obtain ⟨cq24, kq24, q24a, q24b, q24c⟩ := isOf hZ22 e22 (oE64.ext O23.2)
    obtain ⟨_, _, ⟨T24, L24, k24, n24⟩, -, X24, ⟨Lc24, hQ24, l24, y24, z24⟩, st24⟩ := X22.virtualBack hx (y := (⟨cn0, "equals", cn2⟩ : MethodName)) (z := (⟨cn0, "equals", cn2⟩ : MethodName)) hown22 (mvT hZ22 (w23 hw)) (mvT hZ22 (w24 hw)) (notFace_of_selects (args := #[]) (mvT hZ22 (w26 hw))) (mvT hZ22 (w26 hw)) (mvT hZ22 (w25 hw)) (by decide) (backOf (W := 0) (r15_equals l Z a0 hw [] ov61 a22 ov67 ok152 b22 k22 oi1 ok154 h22 n0 O23 V22 Fv22 A22 Fc22 oV151 oF69 oS3 oF66 oh4) hZ22 (w27 hw) (w16 hw) (by decide) (by decide)) q24a q24c (g := (mkF m 44 #[.val (.int p1), .val (.int ((p1 &&& (2147483647 : Int32)) % (6 : Int32))), .val (.ref ov55), .val (.int (1 : Int32)), .val (.ref ov61), .unset, .unset] [(.ref a22), (.ref ov61)])) rfl (by rw [hml]; rfl) (Steps.refl _) (argsL := [(.ref a22)]) (rest := []) (lenOf pd__Ljava_lang_Object_Z rfl) rfl (by show 2 * 0 + _ ≤ _; exact Nat.le_of_eq rfl) (hb hby at_44) (fun _ _ => ⟨rfl, e22, (by decide : 4 + 0 ≤ _), (by decide : 20 + 0 ≤ _)⟩)
    dsimp only [Pt.U, Pt.locs, Pt.cells, Pt.slots] at X24 l24 y24 z24 st24 hQ24
    subst l24 y24 z24
    obtain ⟨Nq24, eq24, hR24⟩ := hQ24
    have N24 := Fr.app N21 Nq24
    obtain rfl := hR24
    refine Gets.tr st24 ?_
    show Gets p e below _ (T24.setTop (mkF m 47 #[.val (.int p1), .val (.int ((p1 &&& (2147483647 : Int32)) % (6 : Int32))), .val (.ref ov55), .val (.int (1 : Int32)), .val (.ref ov61), .unset, .unset] [(.int (0 : Int32))]))
    refine Gets.of (fun t k => XS.ifNo X24.here hx rfl (hb hby at_47) rfl ((if0 _ _).trans (teq (by decide : (0 : Int32) = (0 : Int32))).2) k) ?_
    show Gets p e below _ (T24.setTop (mkF m 50 #[.val (.int p1), .val (.int ((p1 &&& (2147483647 : Int32)) % (6 : Int32))), .val (.ref ov55), .val (.int (1 : Int32)), .val (.ref ov61), .unset, .unset] []))
    refine Gets.of (fun t k => XS.aload X24.here hx rfl (hb hby at_50) rfl rfl  k) ?_
    obtain ⟨a25, T25, h25, k125, b25, k25, X25, e25, E25, hS25, hk25, hZ25, hown25, A25, Fc25, Fv25, V25, -, -, C25, Li25, -, st25⟩ := ldcCH X24 hx hZ22 hown22 (w46 hw) (own_wS hw) eq24 hS22 hk22 (own_EW hw) (List.mem_of_getElem? (l := own_EL) (i := 2) rfl) C22.1 (vs := [(.int (97 : Int32)), (.int (110 : Int32)), (.int (115 : Int32))]) (z := (3 : Int32)) ⟨by decide, by decide⟩ (by decide) (by decide) (g := (mkF m 52 #[.val (.int p1), .val (.int ((p1 &&& (2147483647 : Int32)) % (6 : Int32))), .val (.ref ov55), .val (.int (1 : Int32)), .val (.ref ov61), .unset, .unset] [(.ref ov61)])) rfl (hb hby at_52) (n := 12) (by decide) (by decide) (by decide) (by decide)
    have K26 := K23.ext E25
    have O26 := O23.ext E25
    refine Gets.of st25 ?_
    show Gets p e below _ (T25.setTop (mkF m 54 #[.val (.int p1), .val (.int ((p1 &&& (2147483647 : Int32)) % (6 : Int32))), .val (.ref ov55), .val (.int (1 : Int32)), .val (.ref ov61), .unset, .unset] [(.ref a25), (.ref ov61)]))
    obtain ⟨cq27, kq27, q27a, q27b, q27c⟩ := isOf hZ25 e25 (oE64.ext O26.2)
    obtain ⟨_, _, ⟨T27, L27, k27, n27⟩, -, X27, ⟨Lc27, hQ27, l27, y27, z27⟩, st27⟩ := X25.virtualBack hx (y := (⟨cn0, "equals", cn2⟩ : MethodName)) (z := (⟨cn0, "equals", cn2⟩ : MethodName)) hown25 (mvT hZ25 (w23 hw)) (mvT hZ25 (w24 hw)) (notFace_of_selects (args := #[]) (mvT hZ25 (w26 hw))) (mvT hZ25 (w26 hw)) (mvT hZ25 (w25 hw)) (by decide) (backOf (W := 0) (r17_equals l Z a0 hw [] ov61 a25 oi1 ov67 b25 k25 ok152 h25 n0 O26 A25 Fc25 Fv25 V25 oS3 oF66 oF69 oV151 oh4) hZ25 (w27 hw) (w16 hw) (by decide) (by decide)) q27a q27c (g := (mkF m 54 #[.val (.int p1), .val (.int ((p1 &&& (2147483647 : Int32)) % (6 : Int32))), .val (.ref ov55), .val (.int (1 : Int32)), .val (.ref ov61), .unset, .unset] [(.ref a25), (.ref ov61)])) rfl (by rw [hml]; rfl) (Steps.refl _) (argsL := [(.ref a25)]) (rest := []) (lenOf pd__Ljava_lang_Object_Z rfl) rfl (by show 2 * 0 + _ ≤ _; exact Nat.le_of_eq rfl) (hb hby at_54) (fun _ _ => ⟨rfl, e25, (by decide : 6 + 0 ≤ _), (by decide : 36 + 0 ≤ _)⟩)
    dsimp only [Pt.U, Pt.locs, Pt.cells, Pt.slots] at X27 l27 y27 z27 st27 hQ27
    subst l27 y27 z27
    obtain ⟨Nq27, eq27, hR27⟩ := hQ27
    have N27 := Fr.app N24 Nq27
    obtain rfl := hR27
    refine Gets.tr st27 ?_
    show Gets p e below _ (T27.setTop (mkF m 57 #[.val (.int p1), .val (.int ((p1 &&& (2147483647 : Int32)) % (6 : Int32))), .val (.ref ov55), .val (.int (1 : Int32)), .val (.ref ov61), .unset, .unset] [(.int (1 : Int32))]))
    refine Gets.of (fun t k => XS.ifNo X27.here hx rfl (hb hby at_57) rfl ((if0 _ _).trans (feq (by decide : ¬ ((1 : Int32) = (0 : Int32)))).1) k) ?_
    show Gets p e below _ (T27.setTop (mkF m 60 #[.val (.int p1), .val (.int ((p1 &&& (2147483647 : Int32)) % (6 : Int32))), .val (.ref ov55), .val (.int (1 : Int32)), .val (.ref ov61), .unset, .unset] []))
    refine Gets.of (fun t k => XS.iconst X27.here hx rfl (hb hby at_60) k) ?_
    refine Gets.of (fun t k => XS.goto X27.here hx rfl (pc0 := 61) (pc' := 65) rfl (hb hby at_61) (by decide) (by decide) k) ?_
    show Gets p e below _ (T27.setTop (mkF m 65 #[.val (.int p1), .val (.int ((p1 &&& (2147483647 : Int32)) % (6 : Int32))), .val (.ref ov55), .val (.int (1 : Int32)), .val (.ref ov61), .unset, .unset] [(.int (1 : Int32))]))
    refine Gets.of (fun t k => XS.istore X27.here hx rfl (hb hby at_65) rfl (l' := #[.val (.int p1), .val (.int ((p1 &&& (2147483647 : Int32)) % (6 : Int32))), .val (.ref ov55), .val (.int (1 : Int32)), .val (.ref ov61), .val (.int (1 : Int32)), .unset]) rfl k) ?_
    show Gets p e below _ (T27.setTop (mkF m 67 #[.val (.int p1), .val (.int ((p1 &&& (2147483647 : Int32)) % (6 : Int32))), .val (.ref ov55), .val (.int (1 : Int32)), .val (.ref ov61), .val (.int (1 : Int32)), .unset] []))
    refine Gets.of (fun t k => XS.aloadN X27.here hx rfl (hb hby at_67) rfl rfl  k) ?_
    obtain ⟨cq28, kq28, q28a, q28b, q28c⟩ := isOf hZ25 eq27 (oE58.ext O26.2)
    obtain ⟨_, _, ⟨T28, L28, k28, n28⟩, -, X28, ⟨Lc28, hQ28, l28, y28, z28⟩, st28⟩ := X27.virtualBack hx (y := (⟨cn1, "fills", "()Z"⟩ : MethodName)) (z := (⟨cn1, "fills", "()Z"⟩ : MethodName)) hown25 (mvT hZ25 (w37 hw)) (mvT hZ25 (w38 hw)) (notFace_of_selects (args := #[]) (mvT hZ25 (w40 hw))) (mvT hZ25 (w40 hw)) (mvT hZ25 (w39 hw)) (by decide) (backOf (W := 0) (r19_fills l Z a0 hw [] ov55 ov5 ov49 h25 n0 O26 oS7 oF60 oF48 oS51 oF54 oS57) hZ25 (w41 hw) (w6 hw) (by decide) (by decide)) q28a q28c (g := (mkF m 68 #[.val (.int p1), .val (.int ((p1 &&& (2147483647 : Int32)) % (6 : Int32))), .val (.ref ov55), .val (.int (1 : Int32)), .val (.ref ov61), .val (.int (1 : Int32)), .unset] [(.ref ov55)])) rfl (by rw [hml]; rfl) (Steps.refl _) (argsL := []) (rest := []) (lenOf pd__Z rfl) rfl (by show 2 * 0 + _ ≤ _; exact Nat.le_of_eq rfl) (hb hby at_68) (fun _ _ => ⟨rfl, eq27, (by decide : 6 + 0 ≤ _), (by decide : 36 + 0 ≤ _)⟩)
    dsimp only [Pt.U, Pt.locs, Pt.cells, Pt.slots] at X28 l28 y28 z28 st28 hQ28
    subst l28 y28 z28
    obtain ⟨Nq28, eq28, hR28⟩ := hQ28
    have N28 := Fr.app N27 Nq28
    obtain rfl := hR28
    refine Gets.tr st28 ?_
    show Gets p e below _ (T28.setTop (mkF m 71 #[.val (.int p1), .val (.int ((p1 &&& (2147483647 : Int32)) % (6 : Int32))), .val (.ref ov55), .val (.int (1 : Int32)), .val (.ref ov61), .val (.int (1 : Int32)), .unset] [(.int (1 : Int32))]))
    refine Gets.of (fun t k => XS.istore X28.here hx rfl (hb hby at_71) rfl (l' := #[.val (.int p1), .val (.int ((p1 &&& (2147483647 : Int32)) % (6 : Int32))), .val (.ref ov55), .val (.int (1 : Int32)), .val (.ref ov61), .val (.int (1 : Int32)), .val (.int (1 : Int32))]) rfl k) ?_
    show Gets p e below _ (T28.setTop (mkF m 73 #[.val (.int p1), .val (.int ((p1 &&& (2147483647 : Int32)) % (6 : Int32))), .val (.ref ov55), .val (.int (1 : Int32)), .val (.ref ov61), .val (.int (1 : Int32)), .val (.int (1 : Int32))] []))
    refine Gets.of (fun t k => XS.iload X28.here hx rfl (hb hby at_73) rfl  k) ?_
    refine Gets.of (fun t k => XS.iloadN X28.here hx rfl (hb hby at_75) rfl  k) ?_
    refine Gets.of (fun t k => XS.icmpNo X28.here hx rfl (hb hby at_76) rfl (teq (by decide : (1 : Int32) = (1 : Int32))).2 k) ?_
    show Gets p e below _ (T28.setTop (mkF m 79 #[.val (.int p1), .val (.int ((p1 &&& (2147483647 : Int32)) % (6 : Int32))), .val (.ref ov55), .val (.int (1 : Int32)), .val (.ref ov61), .val (.int (1 : Int32)), .val (.int (1 : Int32))] []))
    refine Gets.of (fun t k => XS.iload X28.here hx rfl (hb hby at_79) rfl  k) ?_
    refine Gets.of (fun t k => XS.iload X28.here hx rfl (hb hby at_81) rfl  k) ?_
    refine Gets.of (fun t k => XS.icmpNo X28.here hx rfl (hb hby at_83) rfl (teq (by decide : (1 : Int32) = (1 : Int32))).2 k) ?_
    show Gets p e below _ (T28.setTop (mkF m 86 #[.val (.int p1), .val (.int ((p1 &&& (2147483647 : Int32)) % (6 : Int32))), .val (.ref ov55), .val (.int (1 : Int32)), .val (.ref ov61), .val (.int (1 : Int32)), .val (.int (1 : Int32))] []))
    refine Gets.of (fun t k => XS.iconst X28.here hx rfl (hb hby at_86) k) ?_
    refine Gets.of (fun t k => XS.goto X28.here hx rfl (pc0 := 87) (pc' := 91) rfl (hb hby at_87) (by decide) (by decide) k) ?_
    show Gets p e below _ (T28.setTop (mkF m 91 #[.val (.int p1), .val (.int ((p1 &&& (2147483647 : Int32)) % (6 : Int32))), .val (.ref ov55), .val (.int (1 : Int32)), .val (.ref ov61), .val (.int (1 : Int32)), .val (.int (1 : Int32))] [(.int (1 : Int32))]))
    refine GetsW.retN X28 hx (t := .boolean) Bd.returns (by simp) (hb hby at_91) hS25 (eq28 ▸ hk25) ?_ (by decide) (by decide)
    rw [eq28]
    exact ⟨N28, K26, rfl⟩
  · skip
    refine Gets.of st1 ?_
    show Gets p e below _ (T1.setTop (mkF m 12 #[.val (.int p1), .val (.int ((p1 &&& (2147483647 : Int32)) % (6 : Int32))), .unset, .unset, .unset, .unset, .unset] [(.ref ov25)]))
    refine Gets.of (fun t k => XS.astoreN X1.here hx rfl (hb hby at_12) rfl rfl (l' := #[.val (.int p1), .val (.int ((p1 &&& (2147483647 : Int32)) % (6 : Int32))), .val (.ref ov25), .unset, .unset, .unset, .unset]) rfl k) ?_
    show Gets p e below _ (T1.setTop (mkF m 13 #[.val (.int p1), .val (.int ((p1 &&& (2147483647 : Int32)) % (6 : Int32))), .val (.ref ov25), .unset, .unset, .unset, .unset] []))
    refine Gets.of (fun t k => XS.iloadN X1.here hx rfl (hb hby at_13) rfl  k) ?_
    refine Gets.of (fun t k => XS.iconst X1.here hx rfl (hb hby at_14) k) ?_
    have ho29 : ¬ (((p1 &&& (2147483647 : Int32)) % (6 : Int32)) < (3 : Int32)) := by rw [hh1_3]; decide
    refine Gets.of (fun t k => XS.icmpYes X1.here hx rfl (pc0 := 15) (pc' := 22) rfl (hb hby at_15) rfl (flt ho29).2.1 (by decide) (by decide) k) ?_
    show Gets p e below _ (T1.setTop (mkF m 22 #[.val (.int p1), .val (.int ((p1 &&& (2147483647 : Int32)) % (6 : Int32))), .val (.ref ov25), .unset, .unset, .unset, .unset] []))
    refine Gets.of (fun t k => XS.iconst X1.here hx rfl (hb hby at_22) k) ?_
    refine Gets.of (fun t k => XS.istoreN X1.here hx rfl (hb hby at_23) rfl (l' := #[.val (.int p1), .val (.int ((p1 &&& (2147483647 : Int32)) % (6 : Int32))), .val (.ref ov25), .val (.int (0 : Int32)), .unset, .unset, .unset]) rfl k) ?_
    show Gets p e below _ (T1.setTop (mkF m 24 #[.val (.int p1), .val (.int ((p1 &&& (2147483647 : Int32)) % (6 : Int32))), .val (.ref ov25), .val (.int (0 : Int32)), .unset, .unset, .unset] []))
    refine Gets.of (fun t k => XS.aloadN X1.here hx rfl (hb hby at_24) rfl rfl  k) ?_
    obtain ⟨cq30, kq30, q30a, q30b, q30c⟩ := isOf hZ eq1 (oE28.ext O0.2)
    obtain ⟨_, _, ⟨T30, L30, k30, n30⟩, -, X30, ⟨Lc30, hQ30, l30, y30, z30⟩, st30⟩ := X1.virtualBack hx (y := (⟨cn1, "code", cn5⟩ : MethodName)) (z := (⟨cn1, "code", cn5⟩ : MethodName)) hown (mvT hZ (w8 hw)) (mvT hZ (w9 hw)) (notFace_of_selects (args := #[]) (mvT hZ (w11 hw))) (mvT hZ (w11 hw)) (mvT hZ (w10 hw)) (by decide) (backOf (W := 0) (r20_code l Z a0 hw [] ov25 ov29 h0 n0 O0 oF31) hZ (w12 hw) (w6 hw) (by decide) (by decide)) q30a q30c (g := (mkF m 25 #[.val (.int p1), .val (.int ((p1 &&& (2147483647 : Int32)) % (6 : Int32))), .val (.ref ov25), .val (.int (0 : Int32)), .unset, .unset, .unset] [(.ref ov25)])) rfl (by rw [hml]; rfl) (Steps.refl _) (argsL := []) (rest := []) (lenOf pd__Ljava_lang_String_ rfl) rfl (by show 2 * 0 + _ ≤ _; exact Nat.le_of_eq rfl) (hb hby at_25) (fun _ _ => ⟨rfl, eq1, (by decide : 0 + 0 ≤ _), (by decide : 0 + 0 ≤ _)⟩)
    dsimp only [Pt.U, Pt.locs, Pt.cells, Pt.slots] at X30 l30 y30 z30 st30 hQ30
    subst l30 y30 z30
    obtain ⟨Nq30, eq30, hR30⟩ := hQ30
    have N30 := Fr.app N1 Nq30
    obtain rfl := hR30
    refine Gets.tr st30 ?_
    show Gets p e below _ (T30.setTop (mkF m 28 #[.val (.int p1), .val (.int ((p1 &&& (2147483647 : Int32)) % (6 : Int32))), .val (.ref ov25), .val (.int (0 : Int32)), .unset, .unset, .unset] [(.ref ov29)]))
    refine Gets.of (fun t k => XS.astore X30.here hx rfl (hb hby at_28) rfl rfl (l' := #[.val (.int p1), .val (.int ((p1 &&& (2147483647 : Int32)) % (6 : Int32))), .val (.ref ov25), .val (.int (0 : Int32)), .val (.ref ov29), .unset, .unset]) rfl k) ?_
    show Gets p e below _ (T30.setTop (mkF m 30 #[.val (.int p1), .val (.int ((p1 &&& (2147483647 : Int32)) % (6 : Int32))), .val (.ref ov25), .val (.int (0 : Int32)), .val (.ref ov29), .unset, .unset] []))
    refine Gets.of (fun t k => XS.aload X30.here hx rfl (hb hby at_30) rfl rfl  k) ?_
    obtain ⟨a31, T31, h31, k131, b31, k31, X31, e31, E31, hS31, hk31, hZ31, hown31, A31, Fc31, Fv31, V31, -, -, C31, Li31, -, st31⟩ := ldcCH X30 hx hZ hown (w15 hw) (own_wS hw) eq30 hS0 hk0 (own_EW hw) (List.mem_of_getElem? (l := own_EL) (i := 0) rfl) hC0 (vs := [(.int (110 : Int32))]) (z := (1 : Int32)) ⟨by decide, by decide⟩ (by decide) (by decide) (g := (mkF m 32 #[.val (.int p1), .val (.int ((p1 &&& (2147483647 : Int32)) % (6 : Int32))), .val (.ref ov25), .val (.int (0 : Int32)), .val (.ref ov29), .unset, .unset] [(.ref ov29)])) rfl (hb hby at_32) (n := 4) (by decide) (by decide) (by decide) (by decide)
    have K32 := K0.ext E31
    have O32 := O0.ext E31
    refine Gets.of st31 ?_
    show Gets p e below _ (T31.setTop (mkF m 34 #[.val (.int p1), .val (.int ((p1 &&& (2147483647 : Int32)) % (6 : Int32))), .val (.ref ov25), .val (.int (0 : Int32)), .val (.ref ov29), .unset, .unset] [(.ref a31), (.ref ov29)]))
    obtain ⟨cq33, kq33, q33a, q33b, q33c⟩ := isOf hZ31 e31 (oE32.ext O32.2)
    obtain ⟨_, _, ⟨T33, L33, k33, n33⟩, -, X33, ⟨Lc33, hQ33, l33, y33, z33⟩, st33⟩ := X31.virtualBack hx (y := (⟨cn0, "equals", cn2⟩ : MethodName)) (z := (⟨cn0, "equals", cn2⟩ : MethodName)) hown31 (mvT hZ31 (w23 hw)) (mvT hZ31 (w24 hw)) (notFace_of_selects (args := #[]) (mvT hZ31 (w26 hw))) (mvT hZ31 (w26 hw)) (mvT hZ31 (w25 hw)) (by decide) (backOf (W := 0) (r21_equals l Z a0 hw [] ov29 a31 ov35 ok150 b31 k31 oi1 ok152 ok154 ok148 h31 n0 O32 V31 Fv31 A31 Fc31 oV149 oF37 oS3 oF34 oh4) hZ31 (w27 hw) (w16 hw) (by decide) (by decide)) q33a q33c (g := (mkF m 34 #[.val (.int p1), .val (.int ((p1 &&& (2147483647 : Int32)) % (6 : Int32))), .val (.ref ov25), .val (.int (0 : Int32)), .val (.ref ov29), .unset, .unset] [(.ref a31), (.ref ov29)])) rfl (by rw [hml]; rfl) (Steps.refl _) (argsL := [(.ref a31)]) (rest := []) (lenOf pd__Ljava_lang_Object_Z rfl) rfl (by show 2 * 0 + _ ≤ _; exact Nat.le_of_eq rfl) (hb hby at_34) (fun _ _ => ⟨rfl, e31, (by decide : 2 + 0 ≤ _), (by decide : 8 + 0 ≤ _)⟩)
    dsimp only [Pt.U, Pt.locs, Pt.cells, Pt.slots] at X33 l33 y33 z33 st33 hQ33
    subst l33 y33 z33
    obtain ⟨Nq33, eq33, hR33⟩ := hQ33
    have N33 := Fr.app N30 Nq33
    obtain rfl := hR33
    refine Gets.tr st33 ?_
    show Gets p e below _ (T33.setTop (mkF m 37 #[.val (.int p1), .val (.int ((p1 &&& (2147483647 : Int32)) % (6 : Int32))), .val (.ref ov25), .val (.int (0 : Int32)), .val (.ref ov29), .unset, .unset] [(.int (0 : Int32))]))
    refine Gets.of (fun t k => XS.ifNo X33.here hx rfl (hb hby at_37) rfl ((if0 _ _).trans (teq (by decide : (0 : Int32) = (0 : Int32))).2) k) ?_
    show Gets p e below _ (T33.setTop (mkF m 40 #[.val (.int p1), .val (.int ((p1 &&& (2147483647 : Int32)) % (6 : Int32))), .val (.ref ov25), .val (.int (0 : Int32)), .val (.ref ov29), .unset, .unset] []))
    refine Gets.of (fun t k => XS.aload X33.here hx rfl (hb hby at_40) rfl rfl  k) ?_
    obtain ⟨a34, T34, h34, k134, b34, k34, X34, e34, E34, hS34, hk34, hZ34, hown34, A34, Fc34, Fv34, V34, -, -, C34, Li34, -, st34⟩ := ldcCH X33 hx hZ31 hown31 (w45 hw) (own_wS hw) eq33 hS31 hk31 (own_EW hw) (List.mem_of_getElem? (l := own_EL) (i := 1) rfl) C31.1 (vs := [(.int (97 : Int32)), (.int (110 : Int32))]) (z := (2 : Int32)) ⟨by decide, by decide⟩ (by decide) (by decide) (g := (mkF m 42 #[.val (.int p1), .val (.int ((p1 &&& (2147483647 : Int32)) % (6 : Int32))), .val (.ref ov25), .val (.int (0 : Int32)), .val (.ref ov29), .unset, .unset] [(.ref ov29)])) rfl (hb hby at_42) (n := 8) (by decide) (by decide) (by decide) (by decide)
    have K35 := K32.ext E34
    have O35 := O32.ext E34
    refine Gets.of st34 ?_
    show Gets p e below _ (T34.setTop (mkF m 44 #[.val (.int p1), .val (.int ((p1 &&& (2147483647 : Int32)) % (6 : Int32))), .val (.ref ov25), .val (.int (0 : Int32)), .val (.ref ov29), .unset, .unset] [(.ref a34), (.ref ov29)]))
    obtain ⟨cq36, kq36, q36a, q36b, q36c⟩ := isOf hZ34 e34 (oE32.ext O35.2)
    obtain ⟨_, _, ⟨T36, L36, k36, n36⟩, -, X36, ⟨Lc36, hQ36, l36, y36, z36⟩, st36⟩ := X34.virtualBack hx (y := (⟨cn0, "equals", cn2⟩ : MethodName)) (z := (⟨cn0, "equals", cn2⟩ : MethodName)) hown34 (mvT hZ34 (w23 hw)) (mvT hZ34 (w24 hw)) (notFace_of_selects (args := #[]) (mvT hZ34 (w26 hw))) (mvT hZ34 (w26 hw)) (mvT hZ34 (w25 hw)) (by decide) (backOf (W := 0) (r23_equals l Z a0 hw [] ov29 a34 ov35 ok150 b34 k34 oi1 ok152 ok154 h34 n0 O35 V34 Fv34 A34 Fc34 oV149 oF37 oS3 oF34 oh4) hZ34 (w27 hw) (w16 hw) (by decide) (by decide)) q36a q36c (g := (mkF m 44 #[.val (.int p1), .val (.int ((p1 &&& (2147483647 : Int32)) % (6 : Int32))), .val (.ref ov25), .val (.int (0 : Int32)), .val (.ref ov29), .unset, .unset] [(.ref a34), (.ref ov29)])) rfl (by rw [hml]; rfl) (Steps.refl _) (argsL := [(.ref a34)]) (rest := []) (lenOf pd__Ljava_lang_Object_Z rfl) rfl (by show 2 * 0 + _ ≤ _; exact Nat.le_of_eq rfl) (hb hby at_44) (fun _ _ => ⟨rfl, e34, (by decide : 4 + 0 ≤ _), (by decide : 20 + 0 ≤ _)⟩)
    dsimp only [Pt.U, Pt.locs, Pt.cells, Pt.slots] at X36 l36 y36 z36 st36 hQ36
    subst l36 y36 z36
    obtain ⟨Nq36, eq36, hR36⟩ := hQ36
    have N36 := Fr.app N33 Nq36
    obtain rfl := hR36
    refine Gets.tr st36 ?_
    show Gets p e below _ (T36.setTop (mkF m 47 #[.val (.int p1), .val (.int ((p1 &&& (2147483647 : Int32)) % (6 : Int32))), .val (.ref ov25), .val (.int (0 : Int32)), .val (.ref ov29), .unset, .unset] [(.int (0 : Int32))]))
    refine Gets.of (fun t k => XS.ifNo X36.here hx rfl (hb hby at_47) rfl ((if0 _ _).trans (teq (by decide : (0 : Int32) = (0 : Int32))).2) k) ?_
    show Gets p e below _ (T36.setTop (mkF m 50 #[.val (.int p1), .val (.int ((p1 &&& (2147483647 : Int32)) % (6 : Int32))), .val (.ref ov25), .val (.int (0 : Int32)), .val (.ref ov29), .unset, .unset] []))
    refine Gets.of (fun t k => XS.aload X36.here hx rfl (hb hby at_50) rfl rfl  k) ?_
    obtain ⟨a37, T37, h37, k137, b37, k37, X37, e37, E37, hS37, hk37, hZ37, hown37, A37, Fc37, Fv37, V37, -, -, C37, Li37, -, st37⟩ := ldcCH X36 hx hZ34 hown34 (w46 hw) (own_wS hw) eq36 hS34 hk34 (own_EW hw) (List.mem_of_getElem? (l := own_EL) (i := 2) rfl) C34.1 (vs := [(.int (97 : Int32)), (.int (110 : Int32)), (.int (115 : Int32))]) (z := (3 : Int32)) ⟨by decide, by decide⟩ (by decide) (by decide) (g := (mkF m 52 #[.val (.int p1), .val (.int ((p1 &&& (2147483647 : Int32)) % (6 : Int32))), .val (.ref ov25), .val (.int (0 : Int32)), .val (.ref ov29), .unset, .unset] [(.ref ov29)])) rfl (hb hby at_52) (n := 12) (by decide) (by decide) (by decide) (by decide)
    have K38 := K35.ext E37
    have O38 := O35.ext E37
    refine Gets.of st37 ?_
    show Gets p e below _ (T37.setTop (mkF m 54 #[.val (.int p1), .val (.int ((p1 &&& (2147483647 : Int32)) % (6 : Int32))), .val (.ref ov25), .val (.int (0 : Int32)), .val (.ref ov29), .unset, .unset] [(.ref a37), (.ref ov29)]))
    obtain ⟨cq39, kq39, q39a, q39b, q39c⟩ := isOf hZ37 e37 (oE32.ext O38.2)
    obtain ⟨_, _, ⟨T39, L39, k39, n39⟩, -, X39, ⟨Lc39, hQ39, l39, y39, z39⟩, st39⟩ := X37.virtualBack hx (y := (⟨cn0, "equals", cn2⟩ : MethodName)) (z := (⟨cn0, "equals", cn2⟩ : MethodName)) hown37 (mvT hZ37 (w23 hw)) (mvT hZ37 (w24 hw)) (notFace_of_selects (args := #[]) (mvT hZ37 (w26 hw))) (mvT hZ37 (w26 hw)) (mvT hZ37 (w25 hw)) (by decide) (backOf (W := 0) (r25_equals l Z a0 hw [] ov29 a37 ov35 ok150 b37 k37 oi1 ok152 h37 n0 O38 V37 Fv37 A37 Fc37 oV149 oF37 oS3 oF34 oh4) hZ37 (w27 hw) (w16 hw) (by decide) (by decide)) q39a q39c (g := (mkF m 54 #[.val (.int p1), .val (.int ((p1 &&& (2147483647 : Int32)) % (6 : Int32))), .val (.ref ov25), .val (.int (0 : Int32)), .val (.ref ov29), .unset, .unset] [(.ref a37), (.ref ov29)])) rfl (by rw [hml]; rfl) (Steps.refl _) (argsL := [(.ref a37)]) (rest := []) (lenOf pd__Ljava_lang_Object_Z rfl) rfl (by show 2 * 0 + _ ≤ _; exact Nat.le_of_eq rfl) (hb hby at_54) (fun _ _ => ⟨rfl, e37, (by decide : 6 + 0 ≤ _), (by decide : 36 + 0 ≤ _)⟩)
    dsimp only [Pt.U, Pt.locs, Pt.cells, Pt.slots] at X39 l39 y39 z39 st39 hQ39
    subst l39 y39 z39
    obtain ⟨Nq39, eq39, hR39⟩ := hQ39
    have N39 := Fr.app N36 Nq39
    obtain rfl := hR39
    refine Gets.tr st39 ?_
    show Gets p e below _ (T39.setTop (mkF m 57 #[.val (.int p1), .val (.int ((p1 &&& (2147483647 : Int32)) % (6 : Int32))), .val (.ref ov25), .val (.int (0 : Int32)), .val (.ref ov29), .unset, .unset] [(.int (0 : Int32))]))
    refine Gets.of (fun t k => XS.ifYes X39.here hx rfl (pc0 := 57) (pc' := 64) rfl (hb hby at_57) rfl ((if0 _ _).trans (teq (by decide : (0 : Int32) = (0 : Int32))).1) (by decide) (by decide) k) ?_
    show Gets p e below _ (T39.setTop (mkF m 64 #[.val (.int p1), .val (.int ((p1 &&& (2147483647 : Int32)) % (6 : Int32))), .val (.ref ov25), .val (.int (0 : Int32)), .val (.ref ov29), .unset, .unset] []))
    refine Gets.of (fun t k => XS.iconst X39.here hx rfl (hb hby at_64) k) ?_
    refine Gets.of (fun t k => XS.istore X39.here hx rfl (hb hby at_65) rfl (l' := #[.val (.int p1), .val (.int ((p1 &&& (2147483647 : Int32)) % (6 : Int32))), .val (.ref ov25), .val (.int (0 : Int32)), .val (.ref ov29), .val (.int (0 : Int32)), .unset]) rfl k) ?_
    show Gets p e below _ (T39.setTop (mkF m 67 #[.val (.int p1), .val (.int ((p1 &&& (2147483647 : Int32)) % (6 : Int32))), .val (.ref ov25), .val (.int (0 : Int32)), .val (.ref ov29), .val (.int (0 : Int32)), .unset] []))
    refine Gets.of (fun t k => XS.aloadN X39.here hx rfl (hb hby at_67) rfl rfl  k) ?_
    obtain ⟨cq40, kq40, q40a, q40b, q40c⟩ := isOf hZ37 eq39 (oE28.ext O38.2)
    obtain ⟨_, _, ⟨T40, L40, k40, n40⟩, -, X40, ⟨Lc40, hQ40, l40, y40, z40⟩, st40⟩ := X39.virtualBack hx (y := (⟨cn1, "fills", "()Z"⟩ : MethodName)) (z := (⟨cn1, "fills", "()Z"⟩ : MethodName)) hown37 (mvT hZ37 (w37 hw)) (mvT hZ37 (w38 hw)) (notFace_of_selects (args := #[]) (mvT hZ37 (w40 hw))) (mvT hZ37 (w40 hw)) (mvT hZ37 (w39 hw)) (by decide) (backOf (W := 0) (r27_fills l Z a0 hw [] ov25 ov5 ov49 ov55 h37 n0 O38 oS7 oF46 oF48 oS51 oF54 oS57 oF60) hZ37 (w41 hw) (w6 hw) (by decide) (by decide)) q40a q40c (g := (mkF m 68 #[.val (.int p1), .val (.int ((p1 &&& (2147483647 : Int32)) % (6 : Int32))), .val (.ref ov25), .val (.int (0 : Int32)), .val (.ref ov29), .val (.int (0 : Int32)), .unset] [(.ref ov25)])) rfl (by rw [hml]; rfl) (Steps.refl _) (argsL := []) (rest := []) (lenOf pd__Z rfl) rfl (by show 2 * 0 + _ ≤ _; exact Nat.le_of_eq rfl) (hb hby at_68) (fun _ _ => ⟨rfl, eq39, (by decide : 6 + 0 ≤ _), (by decide : 36 + 0 ≤ _)⟩)
    dsimp only [Pt.U, Pt.locs, Pt.cells, Pt.slots] at X40 l40 y40 z40 st40 hQ40
    subst l40 y40 z40
    obtain ⟨Nq40, eq40, hR40⟩ := hQ40
    have N40 := Fr.app N39 Nq40
    obtain rfl := hR40
    refine Gets.tr st40 ?_
    show Gets p e below _ (T40.setTop (mkF m 71 #[.val (.int p1), .val (.int ((p1 &&& (2147483647 : Int32)) % (6 : Int32))), .val (.ref ov25), .val (.int (0 : Int32)), .val (.ref ov29), .val (.int (0 : Int32)), .unset] [(.int (0 : Int32))]))
    refine Gets.of (fun t k => XS.istore X40.here hx rfl (hb hby at_71) rfl (l' := #[.val (.int p1), .val (.int ((p1 &&& (2147483647 : Int32)) % (6 : Int32))), .val (.ref ov25), .val (.int (0 : Int32)), .val (.ref ov29), .val (.int (0 : Int32)), .val (.int (0 : Int32))]) rfl k) ?_
    show Gets p e below _ (T40.setTop (mkF m 73 #[.val (.int p1), .val (.int ((p1 &&& (2147483647 : Int32)) % (6 : Int32))), .val (.ref ov25), .val (.int (0 : Int32)), .val (.ref ov29), .val (.int (0 : Int32)), .val (.int (0 : Int32))] []))
    refine Gets.of (fun t k => XS.iload X40.here hx rfl (hb hby at_73) rfl  k) ?_
    refine Gets.of (fun t k => XS.iloadN X40.here hx rfl (hb hby at_75) rfl  k) ?_
    refine Gets.of (fun t k => XS.icmpNo X40.here hx rfl (hb hby at_76) rfl (teq (by decide : (0 : Int32) = (0 : Int32))).2 k) ?_
    show Gets p e below _ (T40.setTop (mkF m 79 #[.val (.int p1), .val (.int ((p1 &&& (2147483647 : Int32)) % (6 : Int32))), .val (.ref ov25), .val (.int (0 : Int32)), .val (.ref ov29), .val (.int (0 : Int32)), .val (.int (0 : Int32))] []))
    refine Gets.of (fun t k => XS.iload X40.here hx rfl (hb hby at_79) rfl  k) ?_
    refine Gets.of (fun t k => XS.iload X40.here hx rfl (hb hby at_81) rfl  k) ?_
    refine Gets.of (fun t k => XS.icmpNo X40.here hx rfl (hb hby at_83) rfl (teq (by decide : (0 : Int32) = (0 : Int32))).2 k) ?_
    show Gets p e below _ (T40.setTop (mkF m 86 #[.val (.int p1), .val (.int ((p1 &&& (2147483647 : Int32)) % (6 : Int32))), .val (.ref ov25), .val (.int (0 : Int32)), .val (.ref ov29), .val (.int (0 : Int32)), .val (.int (0 : Int32))] []))
    refine Gets.of (fun t k => XS.iconst X40.here hx rfl (hb hby at_86) k) ?_
    refine Gets.of (fun t k => XS.goto X40.here hx rfl (pc0 := 87) (pc' := 91) rfl (hb hby at_87) (by decide) (by decide) k) ?_
    show Gets p e below _ (T40.setTop (mkF m 91 #[.val (.int p1), .val (.int ((p1 &&& (2147483647 : Int32)) % (6 : Int32))), .val (.ref ov25), .val (.int (0 : Int32)), .val (.ref ov29), .val (.int (0 : Int32)), .val (.int (0 : Int32))] [(.int (1 : Int32))]))
    refine GetsW.retN X40 hx (t := .boolean) Bd.returns (by simp) (hb hby at_91) hS37 (eq40 ▸ hk37) ?_ (by decide) (by decide)
    rw [eq40]
    exact ⟨N40, K38, rfl⟩
  · skip
    refine Gets.of st1 ?_
    show Gets p e below _ (T1.setTop (mkF m 12 #[.val (.int p1), .val (.int ((p1 &&& (2147483647 : Int32)) % (6 : Int32))), .unset, .unset, .unset, .unset, .unset] [(.ref ov121)]))
    refine Gets.of (fun t k => XS.astoreN X1.here hx rfl (hb hby at_12) rfl rfl (l' := #[.val (.int p1), .val (.int ((p1 &&& (2147483647 : Int32)) % (6 : Int32))), .val (.ref ov121), .unset, .unset, .unset, .unset]) rfl k) ?_
    show Gets p e below _ (T1.setTop (mkF m 13 #[.val (.int p1), .val (.int ((p1 &&& (2147483647 : Int32)) % (6 : Int32))), .val (.ref ov121), .unset, .unset, .unset, .unset] []))
    refine Gets.of (fun t k => XS.iloadN X1.here hx rfl (hb hby at_13) rfl  k) ?_
    refine Gets.of (fun t k => XS.iconst X1.here hx rfl (hb hby at_14) k) ?_
    have ho41 : ¬ (((p1 &&& (2147483647 : Int32)) % (6 : Int32)) < (3 : Int32)) := by rw [hh1_4]; decide
    refine Gets.of (fun t k => XS.icmpYes X1.here hx rfl (pc0 := 15) (pc' := 22) rfl (hb hby at_15) rfl (flt ho41).2.1 (by decide) (by decide) k) ?_
    show Gets p e below _ (T1.setTop (mkF m 22 #[.val (.int p1), .val (.int ((p1 &&& (2147483647 : Int32)) % (6 : Int32))), .val (.ref ov121), .unset, .unset, .unset, .unset] []))
    refine Gets.of (fun t k => XS.iconst X1.here hx rfl (hb hby at_22) k) ?_
    refine Gets.of (fun t k => XS.istoreN X1.here hx rfl (hb hby at_23) rfl (l' := #[.val (.int p1), .val (.int ((p1 &&& (2147483647 : Int32)) % (6 : Int32))), .val (.ref ov121), .val (.int (0 : Int32)), .unset, .unset, .unset]) rfl k) ?_
    show Gets p e below _ (T1.setTop (mkF m 24 #[.val (.int p1), .val (.int ((p1 &&& (2147483647 : Int32)) % (6 : Int32))), .val (.ref ov121), .val (.int (0 : Int32)), .unset, .unset, .unset] []))
    refine Gets.of (fun t k => XS.aloadN X1.here hx rfl (hb hby at_24) rfl rfl  k) ?_
    obtain ⟨cq42, kq42, q42a, q42b, q42c⟩ := isOf hZ eq1 (oE124.ext O0.2)
    obtain ⟨_, _, ⟨T42, L42, k42, n42⟩, -, X42, ⟨Lc42, hQ42, l42, y42, z42⟩, st42⟩ := X1.virtualBack hx (y := (⟨cn1, "code", cn5⟩ : MethodName)) (z := (⟨cn1, "code", cn5⟩ : MethodName)) hown (mvT hZ (w8 hw)) (mvT hZ (w9 hw)) (notFace_of_selects (args := #[]) (mvT hZ (w11 hw))) (mvT hZ (w11 hw)) (mvT hZ (w10 hw)) (by decide) (backOf (W := 0) (r28_code l Z a0 hw [] ov121 ov125 h0 n0 O0 oF127) hZ (w12 hw) (w6 hw) (by decide) (by decide)) q42a q42c (g := (mkF m 25 #[.val (.int p1), .val (.int ((p1 &&& (2147483647 : Int32)) % (6 : Int32))), .val (.ref ov121), .val (.int (0 : Int32)), .unset, .unset, .unset] [(.ref ov121)])) rfl (by rw [hml]; rfl) (Steps.refl _) (argsL := []) (rest := []) (lenOf pd__Ljava_lang_String_ rfl) rfl (by show 2 * 0 + _ ≤ _; exact Nat.le_of_eq rfl) (hb hby at_25) (fun _ _ => ⟨rfl, eq1, (by decide : 0 + 0 ≤ _), (by decide : 0 + 0 ≤ _)⟩)
    dsimp only [Pt.U, Pt.locs, Pt.cells, Pt.slots] at X42 l42 y42 z42 st42 hQ42
    subst l42 y42 z42
    obtain ⟨Nq42, eq42, hR42⟩ := hQ42
    have N42 := Fr.app N1 Nq42
    obtain rfl := hR42
    refine Gets.tr st42 ?_
    show Gets p e below _ (T42.setTop (mkF m 28 #[.val (.int p1), .val (.int ((p1 &&& (2147483647 : Int32)) % (6 : Int32))), .val (.ref ov121), .val (.int (0 : Int32)), .unset, .unset, .unset] [(.ref ov125)]))
    refine Gets.of (fun t k => XS.astore X42.here hx rfl (hb hby at_28) rfl rfl (l' := #[.val (.int p1), .val (.int ((p1 &&& (2147483647 : Int32)) % (6 : Int32))), .val (.ref ov121), .val (.int (0 : Int32)), .val (.ref ov125), .unset, .unset]) rfl k) ?_
    show Gets p e below _ (T42.setTop (mkF m 30 #[.val (.int p1), .val (.int ((p1 &&& (2147483647 : Int32)) % (6 : Int32))), .val (.ref ov121), .val (.int (0 : Int32)), .val (.ref ov125), .unset, .unset] []))
    refine Gets.of (fun t k => XS.aload X42.here hx rfl (hb hby at_30) rfl rfl  k) ?_
    obtain ⟨a43, T43, h43, k143, b43, k43, X43, e43, E43, hS43, hk43, hZ43, hown43, A43, Fc43, Fv43, V43, -, -, C43, Li43, -, st43⟩ := ldcCH X42 hx hZ hown (w15 hw) (own_wS hw) eq42 hS0 hk0 (own_EW hw) (List.mem_of_getElem? (l := own_EL) (i := 0) rfl) hC0 (vs := [(.int (110 : Int32))]) (z := (1 : Int32)) ⟨by decide, by decide⟩ (by decide) (by decide) (g := (mkF m 32 #[.val (.int p1), .val (.int ((p1 &&& (2147483647 : Int32)) % (6 : Int32))), .val (.ref ov121), .val (.int (0 : Int32)), .val (.ref ov125), .unset, .unset] [(.ref ov125)])) rfl (hb hby at_32) (n := 4) (by decide) (by decide) (by decide) (by decide)
    have K44 := K0.ext E43
    have O44 := O0.ext E43
    refine Gets.of st43 ?_
    show Gets p e below _ (T43.setTop (mkF m 34 #[.val (.int p1), .val (.int ((p1 &&& (2147483647 : Int32)) % (6 : Int32))), .val (.ref ov121), .val (.int (0 : Int32)), .val (.ref ov125), .unset, .unset] [(.ref a43), (.ref ov125)]))
    obtain ⟨cq45, kq45, q45a, q45b, q45c⟩ := isOf hZ43 e43 (oE128.ext O44.2)
    obtain ⟨_, _, ⟨T45, L45, k45, n45⟩, -, X45, ⟨Lc45, hQ45, l45, y45, z45⟩, st45⟩ := X43.virtualBack hx (y := (⟨cn0, "equals", cn2⟩ : MethodName)) (z := (⟨cn0, "equals", cn2⟩ : MethodName)) hown43 (mvT hZ43 (w23 hw)) (mvT hZ43 (w24 hw)) (notFace_of_selects (args := #[]) (mvT hZ43 (w26 hw))) (mvT hZ43 (w26 hw)) (mvT hZ43 (w25 hw)) (by decide) (backOf (W := 0) (r29_equals l Z a0 hw [] ov125 a43 ov131 ok158 b43 k43 oi1 ok150 ok152 ok154 ok148 h43 n0 O44 V43 Fv43 A43 Fc43 oV157 oF133 oS3 oF130 oh4) hZ43 (w27 hw) (w16 hw) (by decide) (by decide)) q45a q45c (g := (mkF m 34 #[.val (.int p1), .val (.int ((p1 &&& (2147483647 : Int32)) % (6 : Int32))), .val (.ref ov121), .val (.int (0 : Int32)), .val (.ref ov125), .unset, .unset] [(.ref a43), (.ref ov125)])) rfl (by rw [hml]; rfl) (Steps.refl _) (argsL := [(.ref a43)]) (rest := []) (lenOf pd__Ljava_lang_Object_Z rfl) rfl (by show 2 * 0 + _ ≤ _; exact Nat.le_of_eq rfl) (hb hby at_34) (fun _ _ => ⟨rfl, e43, (by decide : 2 + 0 ≤ _), (by decide : 8 + 0 ≤ _)⟩)
    dsimp only [Pt.U, Pt.locs, Pt.cells, Pt.slots] at X45 l45 y45 z45 st45 hQ45
    subst l45 y45 z45
    obtain ⟨Nq45, eq45, hR45⟩ := hQ45
    have N45 := Fr.app N42 Nq45
    obtain rfl := hR45
    refine Gets.tr st45 ?_
    show Gets p e below _ (T45.setTop (mkF m 37 #[.val (.int p1), .val (.int ((p1 &&& (2147483647 : Int32)) % (6 : Int32))), .val (.ref ov121), .val (.int (0 : Int32)), .val (.ref ov125), .unset, .unset] [(.int (0 : Int32))]))
    refine Gets.of (fun t k => XS.ifNo X45.here hx rfl (hb hby at_37) rfl ((if0 _ _).trans (teq (by decide : (0 : Int32) = (0 : Int32))).2) k) ?_
    show Gets p e below _ (T45.setTop (mkF m 40 #[.val (.int p1), .val (.int ((p1 &&& (2147483647 : Int32)) % (6 : Int32))), .val (.ref ov121), .val (.int (0 : Int32)), .val (.ref ov125), .unset, .unset] []))
    refine Gets.of (fun t k => XS.aload X45.here hx rfl (hb hby at_40) rfl rfl  k) ?_
    obtain ⟨a46, T46, h46, k146, b46, k46, X46, e46, E46, hS46, hk46, hZ46, hown46, A46, Fc46, Fv46, V46, -, -, C46, Li46, -, st46⟩ := ldcCH X45 hx hZ43 hown43 (w45 hw) (own_wS hw) eq45 hS43 hk43 (own_EW hw) (List.mem_of_getElem? (l := own_EL) (i := 1) rfl) C43.1 (vs := [(.int (97 : Int32)), (.int (110 : Int32))]) (z := (2 : Int32)) ⟨by decide, by decide⟩ (by decide) (by decide) (g := (mkF m 42 #[.val (.int p1), .val (.int ((p1 &&& (2147483647 : Int32)) % (6 : Int32))), .val (.ref ov121), .val (.int (0 : Int32)), .val (.ref ov125), .unset, .unset] [(.ref ov125)])) rfl (hb hby at_42) (n := 8) (by decide) (by decide) (by decide) (by decide)
    have K47 := K44.ext E46
    have O47 := O44.ext E46
    refine Gets.of st46 ?_
    show Gets p e below _ (T46.setTop (mkF m 44 #[.val (.int p1), .val (.int ((p1 &&& (2147483647 : Int32)) % (6 : Int32))), .val (.ref ov121), .val (.int (0 : Int32)), .val (.ref ov125), .unset, .unset] [(.ref a46), (.ref ov125)]))
    obtain ⟨cq48, kq48, q48a, q48b, q48c⟩ := isOf hZ46 e46 (oE128.ext O47.2)
    obtain ⟨_, _, ⟨T48, L48, k48, n48⟩, -, X48, ⟨Lc48, hQ48, l48, y48, z48⟩, st48⟩ := X46.virtualBack hx (y := (⟨cn0, "equals", cn2⟩ : MethodName)) (z := (⟨cn0, "equals", cn2⟩ : MethodName)) hown46 (mvT hZ46 (w23 hw)) (mvT hZ46 (w24 hw)) (notFace_of_selects (args := #[]) (mvT hZ46 (w26 hw))) (mvT hZ46 (w26 hw)) (mvT hZ46 (w25 hw)) (by decide) (backOf (W := 0) (r31_equals l Z a0 hw [] ov125 a46 ov131 ok158 b46 k46 oi1 ok150 ok152 ok154 h46 n0 O47 V46 Fv46 A46 Fc46 oV157 oF133 oS3 oF130 oh4) hZ46 (w27 hw) (w16 hw) (by decide) (by decide)) q48a q48c (g := (mkF m 44 #[.val (.int p1), .val (.int ((p1 &&& (2147483647 : Int32)) % (6 : Int32))), .val (.ref ov121), .val (.int (0 : Int32)), .val (.ref ov125), .unset, .unset] [(.ref a46), (.ref ov125)])) rfl (by rw [hml]; rfl) (Steps.refl _) (argsL := [(.ref a46)]) (rest := []) (lenOf pd__Ljava_lang_Object_Z rfl) rfl (by show 2 * 0 + _ ≤ _; exact Nat.le_of_eq rfl) (hb hby at_44) (fun _ _ => ⟨rfl, e46, (by decide : 4 + 0 ≤ _), (by decide : 20 + 0 ≤ _)⟩)
    dsimp only [Pt.U, Pt.locs, Pt.cells, Pt.slots] at X48 l48 y48 z48 st48 hQ48
    subst l48 y48 z48
    obtain ⟨Nq48, eq48, hR48⟩ := hQ48
    have N48 := Fr.app N45 Nq48
    obtain rfl := hR48
    refine Gets.tr st48 ?_
    show Gets p e below _ (T48.setTop (mkF m 47 #[.val (.int p1), .val (.int ((p1 &&& (2147483647 : Int32)) % (6 : Int32))), .val (.ref ov121), .val (.int (0 : Int32)), .val (.ref ov125), .unset, .unset] [(.int (0 : Int32))]))
    refine Gets.of (fun t k => XS.ifNo X48.here hx rfl (hb hby at_47) rfl ((if0 _ _).trans (teq (by decide : (0 : Int32) = (0 : Int32))).2) k) ?_
    show Gets p e below _ (T48.setTop (mkF m 50 #[.val (.int p1), .val (.int ((p1 &&& (2147483647 : Int32)) % (6 : Int32))), .val (.ref ov121), .val (.int (0 : Int32)), .val (.ref ov125), .unset, .unset] []))
    refine Gets.of (fun t k => XS.aload X48.here hx rfl (hb hby at_50) rfl rfl  k) ?_
    obtain ⟨a49, T49, h49, k149, b49, k49, X49, e49, E49, hS49, hk49, hZ49, hown49, A49, Fc49, Fv49, V49, -, -, C49, Li49, -, st49⟩ := ldcCH X48 hx hZ46 hown46 (w46 hw) (own_wS hw) eq48 hS46 hk46 (own_EW hw) (List.mem_of_getElem? (l := own_EL) (i := 2) rfl) C46.1 (vs := [(.int (97 : Int32)), (.int (110 : Int32)), (.int (115 : Int32))]) (z := (3 : Int32)) ⟨by decide, by decide⟩ (by decide) (by decide) (g := (mkF m 52 #[.val (.int p1), .val (.int ((p1 &&& (2147483647 : Int32)) % (6 : Int32))), .val (.ref ov121), .val (.int (0 : Int32)), .val (.ref ov125), .unset, .unset] [(.ref ov125)])) rfl (hb hby at_52) (n := 12) (by decide) (by decide) (by decide) (by decide)
    have K50 := K47.ext E49
    have O50 := O47.ext E49
    refine Gets.of st49 ?_
    show Gets p e below _ (T49.setTop (mkF m 54 #[.val (.int p1), .val (.int ((p1 &&& (2147483647 : Int32)) % (6 : Int32))), .val (.ref ov121), .val (.int (0 : Int32)), .val (.ref ov125), .unset, .unset] [(.ref a49), (.ref ov125)]))
    obtain ⟨cq51, kq51, q51a, q51b, q51c⟩ := isOf hZ49 e49 (oE128.ext O50.2)
    obtain ⟨_, _, ⟨T51, L51, k51, n51⟩, -, X51, ⟨Lc51, hQ51, l51, y51, z51⟩, st51⟩ := X49.virtualBack hx (y := (⟨cn0, "equals", cn2⟩ : MethodName)) (z := (⟨cn0, "equals", cn2⟩ : MethodName)) hown49 (mvT hZ49 (w23 hw)) (mvT hZ49 (w24 hw)) (notFace_of_selects (args := #[]) (mvT hZ49 (w26 hw))) (mvT hZ49 (w26 hw)) (mvT hZ49 (w25 hw)) (by decide) (backOf (W := 0) (r33_equals l Z a0 hw [] ov125 a49 ov131 ok158 b49 k49 oi1 ok150 ok152 h49 n0 O50 V49 Fv49 A49 Fc49 oV157 oF133 oS3 oF130 oh4) hZ49 (w27 hw) (w16 hw) (by decide) (by decide)) q51a q51c (g := (mkF m 54 #[.val (.int p1), .val (.int ((p1 &&& (2147483647 : Int32)) % (6 : Int32))), .val (.ref ov121), .val (.int (0 : Int32)), .val (.ref ov125), .unset, .unset] [(.ref a49), (.ref ov125)])) rfl (by rw [hml]; rfl) (Steps.refl _) (argsL := [(.ref a49)]) (rest := []) (lenOf pd__Ljava_lang_Object_Z rfl) rfl (by show 2 * 0 + _ ≤ _; exact Nat.le_of_eq rfl) (hb hby at_54) (fun _ _ => ⟨rfl, e49, (by decide : 6 + 0 ≤ _), (by decide : 36 + 0 ≤ _)⟩)
    dsimp only [Pt.U, Pt.locs, Pt.cells, Pt.slots] at X51 l51 y51 z51 st51 hQ51
    subst l51 y51 z51
    obtain ⟨Nq51, eq51, hR51⟩ := hQ51
    have N51 := Fr.app N48 Nq51
    obtain rfl := hR51
    refine Gets.tr st51 ?_
    show Gets p e below _ (T51.setTop (mkF m 57 #[.val (.int p1), .val (.int ((p1 &&& (2147483647 : Int32)) % (6 : Int32))), .val (.ref ov121), .val (.int (0 : Int32)), .val (.ref ov125), .unset, .unset] [(.int (0 : Int32))]))
    refine Gets.of (fun t k => XS.ifYes X51.here hx rfl (pc0 := 57) (pc' := 64) rfl (hb hby at_57) rfl ((if0 _ _).trans (teq (by decide : (0 : Int32) = (0 : Int32))).1) (by decide) (by decide) k) ?_
    show Gets p e below _ (T51.setTop (mkF m 64 #[.val (.int p1), .val (.int ((p1 &&& (2147483647 : Int32)) % (6 : Int32))), .val (.ref ov121), .val (.int (0 : Int32)), .val (.ref ov125), .unset, .unset] []))
    refine Gets.of (fun t k => XS.iconst X51.here hx rfl (hb hby at_64) k) ?_
    refine Gets.of (fun t k => XS.istore X51.here hx rfl (hb hby at_65) rfl (l' := #[.val (.int p1), .val (.int ((p1 &&& (2147483647 : Int32)) % (6 : Int32))), .val (.ref ov121), .val (.int (0 : Int32)), .val (.ref ov125), .val (.int (0 : Int32)), .unset]) rfl k) ?_
    show Gets p e below _ (T51.setTop (mkF m 67 #[.val (.int p1), .val (.int ((p1 &&& (2147483647 : Int32)) % (6 : Int32))), .val (.ref ov121), .val (.int (0 : Int32)), .val (.ref ov125), .val (.int (0 : Int32)), .unset] []))
    refine Gets.of (fun t k => XS.aloadN X51.here hx rfl (hb hby at_67) rfl rfl  k) ?_
    obtain ⟨cq52, kq52, q52a, q52b, q52c⟩ := isOf hZ49 eq51 (oE124.ext O50.2)
    obtain ⟨_, _, ⟨T52, L52, k52, n52⟩, -, X52, ⟨Lc52, hQ52, l52, y52, z52⟩, st52⟩ := X51.virtualBack hx (y := (⟨cn1, "fills", "()Z"⟩ : MethodName)) (z := (⟨cn1, "fills", "()Z"⟩ : MethodName)) hown49 (mvT hZ49 (w37 hw)) (mvT hZ49 (w38 hw)) (notFace_of_selects (args := #[]) (mvT hZ49 (w40 hw))) (mvT hZ49 (w40 hw)) (mvT hZ49 (w39 hw)) (by decide) (backOf (W := 0) (r35_fills l Z a0 hw [] ov121 ov5 ov49 ov55 h49 n0 O50 oS7 oF142 oF48 oS51 oF54 oS57 oF60) hZ49 (w41 hw) (w6 hw) (by decide) (by decide)) q52a q52c (g := (mkF m 68 #[.val (.int p1), .val (.int ((p1 &&& (2147483647 : Int32)) % (6 : Int32))), .val (.ref ov121), .val (.int (0 : Int32)), .val (.ref ov125), .val (.int (0 : Int32)), .unset] [(.ref ov121)])) rfl (by rw [hml]; rfl) (Steps.refl _) (argsL := []) (rest := []) (lenOf pd__Z rfl) rfl (by show 2 * 0 + _ ≤ _; exact Nat.le_of_eq rfl) (hb hby at_68) (fun _ _ => ⟨rfl, eq51, (by decide : 6 + 0 ≤ _), (by decide : 36 + 0 ≤ _)⟩)
    dsimp only [Pt.U, Pt.locs, Pt.cells, Pt.slots] at X52 l52 y52 z52 st52 hQ52
    subst l52 y52 z52
    obtain ⟨Nq52, eq52, hR52⟩ := hQ52
    have N52 := Fr.app N51 Nq52
    obtain rfl := hR52
    refine Gets.tr st52 ?_
    show Gets p e below _ (T52.setTop (mkF m 71 #[.val (.int p1), .val (.int ((p1 &&& (2147483647 : Int32)) % (6 : Int32))), .val (.ref ov121), .val (.int (0 : Int32)), .val (.ref ov125), .val (.int (0 : Int32)), .unset] [(.int (0 : Int32))]))
    refine Gets.of (fun t k => XS.istore X52.here hx rfl (hb hby at_71) rfl (l' := #[.val (.int p1), .val (.int ((p1 &&& (2147483647 : Int32)) % (6 : Int32))), .val (.ref ov121), .val (.int (0 : Int32)), .val (.ref ov125), .val (.int (0 : Int32)), .val (.int (0 : Int32))]) rfl k) ?_
    show Gets p e below _ (T52.setTop (mkF m 73 #[.val (.int p1), .val (.int ((p1 &&& (2147483647 : Int32)) % (6 : Int32))), .val (.ref ov121), .val (.int (0 : Int32)), .val (.ref ov125), .val (.int (0 : Int32)), .val (.int (0 : Int32))] []))
    refine Gets.of (fun t k => XS.iload X52.here hx rfl (hb hby at_73) rfl  k) ?_
    refine Gets.of (fun t k => XS.iloadN X52.here hx rfl (hb hby at_75) rfl  k) ?_
    refine Gets.of (fun t k => XS.icmpNo X52.here hx rfl (hb hby at_76) rfl (teq (by decide : (0 : Int32) = (0 : Int32))).2 k) ?_
    show Gets p e below _ (T52.setTop (mkF m 79 #[.val (.int p1), .val (.int ((p1 &&& (2147483647 : Int32)) % (6 : Int32))), .val (.ref ov121), .val (.int (0 : Int32)), .val (.ref ov125), .val (.int (0 : Int32)), .val (.int (0 : Int32))] []))
    refine Gets.of (fun t k => XS.iload X52.here hx rfl (hb hby at_79) rfl  k) ?_
    refine Gets.of (fun t k => XS.iload X52.here hx rfl (hb hby at_81) rfl  k) ?_
    refine Gets.of (fun t k => XS.icmpNo X52.here hx rfl (hb hby at_83) rfl (teq (by decide : (0 : Int32) = (0 : Int32))).2 k) ?_
    show Gets p e below _ (T52.setTop (mkF m 86 #[.val (.int p1), .val (.int ((p1 &&& (2147483647 : Int32)) % (6 : Int32))), .val (.ref ov121), .val (.int (0 : Int32)), .val (.ref ov125), .val (.int (0 : Int32)), .val (.int (0 : Int32))] []))
    refine Gets.of (fun t k => XS.iconst X52.here hx rfl (hb hby at_86) k) ?_
    refine Gets.of (fun t k => XS.goto X52.here hx rfl (pc0 := 87) (pc' := 91) rfl (hb hby at_87) (by decide) (by decide) k) ?_
    show Gets p e below _ (T52.setTop (mkF m 91 #[.val (.int p1), .val (.int ((p1 &&& (2147483647 : Int32)) % (6 : Int32))), .val (.ref ov121), .val (.int (0 : Int32)), .val (.ref ov125), .val (.int (0 : Int32)), .val (.int (0 : Int32))] [(.int (1 : Int32))]))
    refine GetsW.retN X52 hx (t := .boolean) Bd.returns (by simp) (hb hby at_91) hS49 (eq52 ▸ hk49) ?_ (by decide) (by decide)
    rw [eq52]
    exact ⟨N52, K50, rfl⟩
  · skip
    refine Gets.of st1 ?_
    show Gets p e below _ (T1.setTop (mkF m 12 #[.val (.int p1), .val (.int ((p1 &&& (2147483647 : Int32)) % (6 : Int32))), .unset, .unset, .unset, .unset, .unset] [(.ref ov99)]))
    refine Gets.of (fun t k => XS.astoreN X1.here hx rfl (hb hby at_12) rfl rfl (l' := #[.val (.int p1), .val (.int ((p1 &&& (2147483647 : Int32)) % (6 : Int32))), .val (.ref ov99), .unset, .unset, .unset, .unset]) rfl k) ?_
    show Gets p e below _ (T1.setTop (mkF m 13 #[.val (.int p1), .val (.int ((p1 &&& (2147483647 : Int32)) % (6 : Int32))), .val (.ref ov99), .unset, .unset, .unset, .unset] []))
    refine Gets.of (fun t k => XS.iloadN X1.here hx rfl (hb hby at_13) rfl  k) ?_
    refine Gets.of (fun t k => XS.iconst X1.here hx rfl (hb hby at_14) k) ?_
    have ho53 : ¬ (((p1 &&& (2147483647 : Int32)) % (6 : Int32)) < (3 : Int32)) := by have hb := own_mod6 p1; have hb2 := hb; have q0 := mt Int32.toInt_inj.mp oh4; have q1 := mt Int32.toInt_inj.mp hh1_0; have q2 := mt Int32.toInt_inj.mp hh1_1; have q3 := mt Int32.toInt_inj.mp hh1_2; have q4 := mt Int32.toInt_inj.mp hh1_3; have q5 := mt Int32.toInt_inj.mp hh1_4; simp only [Int32.reduceToInt] at q0 q1 q2 q3 q4 q5; rw [Int32.lt_iff_toInt_lt]; simp only [Int32.reduceToInt]; omega
    refine Gets.of (fun t k => XS.icmpYes X1.here hx rfl (pc0 := 15) (pc' := 22) rfl (hb hby at_15) rfl (flt ho53).2.1 (by decide) (by decide) k) ?_
    show Gets p e below _ (T1.setTop (mkF m 22 #[.val (.int p1), .val (.int ((p1 &&& (2147483647 : Int32)) % (6 : Int32))), .val (.ref ov99), .unset, .unset, .unset, .unset] []))
    refine Gets.of (fun t k => XS.iconst X1.here hx rfl (hb hby at_22) k) ?_
    refine Gets.of (fun t k => XS.istoreN X1.here hx rfl (hb hby at_23) rfl (l' := #[.val (.int p1), .val (.int ((p1 &&& (2147483647 : Int32)) % (6 : Int32))), .val (.ref ov99), .val (.int (0 : Int32)), .unset, .unset, .unset]) rfl k) ?_
    show Gets p e below _ (T1.setTop (mkF m 24 #[.val (.int p1), .val (.int ((p1 &&& (2147483647 : Int32)) % (6 : Int32))), .val (.ref ov99), .val (.int (0 : Int32)), .unset, .unset, .unset] []))
    refine Gets.of (fun t k => XS.aloadN X1.here hx rfl (hb hby at_24) rfl rfl  k) ?_
    obtain ⟨cq54, kq54, q54a, q54b, q54c⟩ := isOf hZ eq1 (oE102.ext O0.2)
    obtain ⟨_, _, ⟨T54, L54, k54, n54⟩, -, X54, ⟨Lc54, hQ54, l54, y54, z54⟩, st54⟩ := X1.virtualBack hx (y := (⟨cn1, "code", cn5⟩ : MethodName)) (z := (⟨cn1, "code", cn5⟩ : MethodName)) hown (mvT hZ (w8 hw)) (mvT hZ (w9 hw)) (notFace_of_selects (args := #[]) (mvT hZ (w11 hw))) (mvT hZ (w11 hw)) (mvT hZ (w10 hw)) (by decide) (backOf (W := 0) (r36_code l Z a0 hw [] ov99 ov103 h0 n0 O0 oF105) hZ (w12 hw) (w6 hw) (by decide) (by decide)) q54a q54c (g := (mkF m 25 #[.val (.int p1), .val (.int ((p1 &&& (2147483647 : Int32)) % (6 : Int32))), .val (.ref ov99), .val (.int (0 : Int32)), .unset, .unset, .unset] [(.ref ov99)])) rfl (by rw [hml]; rfl) (Steps.refl _) (argsL := []) (rest := []) (lenOf pd__Ljava_lang_String_ rfl) rfl (by show 2 * 0 + _ ≤ _; exact Nat.le_of_eq rfl) (hb hby at_25) (fun _ _ => ⟨rfl, eq1, (by decide : 0 + 0 ≤ _), (by decide : 0 + 0 ≤ _)⟩)
    dsimp only [Pt.U, Pt.locs, Pt.cells, Pt.slots] at X54 l54 y54 z54 st54 hQ54
    subst l54 y54 z54
    obtain ⟨Nq54, eq54, hR54⟩ := hQ54
    have N54 := Fr.app N1 Nq54
    obtain rfl := hR54
    refine Gets.tr st54 ?_
    show Gets p e below _ (T54.setTop (mkF m 28 #[.val (.int p1), .val (.int ((p1 &&& (2147483647 : Int32)) % (6 : Int32))), .val (.ref ov99), .val (.int (0 : Int32)), .unset, .unset, .unset] [(.ref ov103)]))
    refine Gets.of (fun t k => XS.astore X54.here hx rfl (hb hby at_28) rfl rfl (l' := #[.val (.int p1), .val (.int ((p1 &&& (2147483647 : Int32)) % (6 : Int32))), .val (.ref ov99), .val (.int (0 : Int32)), .val (.ref ov103), .unset, .unset]) rfl k) ?_
    show Gets p e below _ (T54.setTop (mkF m 30 #[.val (.int p1), .val (.int ((p1 &&& (2147483647 : Int32)) % (6 : Int32))), .val (.ref ov99), .val (.int (0 : Int32)), .val (.ref ov103), .unset, .unset] []))
    refine Gets.of (fun t k => XS.aload X54.here hx rfl (hb hby at_30) rfl rfl  k) ?_
    obtain ⟨a55, T55, h55, k155, b55, k55, X55, e55, E55, hS55, hk55, hZ55, hown55, A55, Fc55, Fv55, V55, -, -, C55, Li55, -, st55⟩ := ldcCH X54 hx hZ hown (w15 hw) (own_wS hw) eq54 hS0 hk0 (own_EW hw) (List.mem_of_getElem? (l := own_EL) (i := 0) rfl) hC0 (vs := [(.int (110 : Int32))]) (z := (1 : Int32)) ⟨by decide, by decide⟩ (by decide) (by decide) (g := (mkF m 32 #[.val (.int p1), .val (.int ((p1 &&& (2147483647 : Int32)) % (6 : Int32))), .val (.ref ov99), .val (.int (0 : Int32)), .val (.ref ov103), .unset, .unset] [(.ref ov103)])) rfl (hb hby at_32) (n := 4) (by decide) (by decide) (by decide) (by decide)
    have K56 := K0.ext E55
    have O56 := O0.ext E55
    refine Gets.of st55 ?_
    show Gets p e below _ (T55.setTop (mkF m 34 #[.val (.int p1), .val (.int ((p1 &&& (2147483647 : Int32)) % (6 : Int32))), .val (.ref ov99), .val (.int (0 : Int32)), .val (.ref ov103), .unset, .unset] [(.ref a55), (.ref ov103)]))
    obtain ⟨cq57, kq57, q57a, q57b, q57c⟩ := isOf hZ55 e55 (oE106.ext O56.2)
    obtain ⟨_, _, ⟨T57, L57, k57, n57⟩, -, X57, ⟨Lc57, hQ57, l57, y57, z57⟩, st57⟩ := X55.virtualBack hx (y := (⟨cn0, "equals", cn2⟩ : MethodName)) (z := (⟨cn0, "equals", cn2⟩ : MethodName)) hown55 (mvT hZ55 (w23 hw)) (mvT hZ55 (w24 hw)) (notFace_of_selects (args := #[]) (mvT hZ55 (w26 hw))) (mvT hZ55 (w26 hw)) (mvT hZ55 (w25 hw)) (by decide) (backOf (W := 0) (r37_equals l Z a0 hw [] ov103 a55 ov109 ok156 b55 k55 oi1 ok158 ok150 ok152 ok154 ok148 h55 n0 O56 V55 Fv55 A55 Fc55 oV155 oF111 oS3 oF108 oh4) hZ55 (w27 hw) (w16 hw) (by decide) (by decide)) q57a q57c (g := (mkF m 34 #[.val (.int p1), .val (.int ((p1 &&& (2147483647 : Int32)) % (6 : Int32))), .val (.ref ov99), .val (.int (0 : Int32)), .val (.ref ov103), .unset, .unset] [(.ref a55), (.ref ov103)])) rfl (by rw [hml]; rfl) (Steps.refl _) (argsL := [(.ref a55)]) (rest := []) (lenOf pd__Ljava_lang_Object_Z rfl) rfl (by show 2 * 0 + _ ≤ _; exact Nat.le_of_eq rfl) (hb hby at_34) (fun _ _ => ⟨rfl, e55, (by decide : 2 + 0 ≤ _), (by decide : 8 + 0 ≤ _)⟩)
    dsimp only [Pt.U, Pt.locs, Pt.cells, Pt.slots] at X57 l57 y57 z57 st57 hQ57
    subst l57 y57 z57
    obtain ⟨Nq57, eq57, hR57⟩ := hQ57
    have N57 := Fr.app N54 Nq57
    obtain rfl := hR57
    refine Gets.tr st57 ?_
    show Gets p e below _ (T57.setTop (mkF m 37 #[.val (.int p1), .val (.int ((p1 &&& (2147483647 : Int32)) % (6 : Int32))), .val (.ref ov99), .val (.int (0 : Int32)), .val (.ref ov103), .unset, .unset] [(.int (0 : Int32))]))
    refine Gets.of (fun t k => XS.ifNo X57.here hx rfl (hb hby at_37) rfl ((if0 _ _).trans (teq (by decide : (0 : Int32) = (0 : Int32))).2) k) ?_
    show Gets p e below _ (T57.setTop (mkF m 40 #[.val (.int p1), .val (.int ((p1 &&& (2147483647 : Int32)) % (6 : Int32))), .val (.ref ov99), .val (.int (0 : Int32)), .val (.ref ov103), .unset, .unset] []))
    refine Gets.of (fun t k => XS.aload X57.here hx rfl (hb hby at_40) rfl rfl  k) ?_
    obtain ⟨a58, T58, h58, k158, b58, k58, X58, e58, E58, hS58, hk58, hZ58, hown58, A58, Fc58, Fv58, V58, -, -, C58, Li58, -, st58⟩ := ldcCH X57 hx hZ55 hown55 (w45 hw) (own_wS hw) eq57 hS55 hk55 (own_EW hw) (List.mem_of_getElem? (l := own_EL) (i := 1) rfl) C55.1 (vs := [(.int (97 : Int32)), (.int (110 : Int32))]) (z := (2 : Int32)) ⟨by decide, by decide⟩ (by decide) (by decide) (g := (mkF m 42 #[.val (.int p1), .val (.int ((p1 &&& (2147483647 : Int32)) % (6 : Int32))), .val (.ref ov99), .val (.int (0 : Int32)), .val (.ref ov103), .unset, .unset] [(.ref ov103)])) rfl (hb hby at_42) (n := 8) (by decide) (by decide) (by decide) (by decide)
    have K59 := K56.ext E58
    have O59 := O56.ext E58
    refine Gets.of st58 ?_
    show Gets p e below _ (T58.setTop (mkF m 44 #[.val (.int p1), .val (.int ((p1 &&& (2147483647 : Int32)) % (6 : Int32))), .val (.ref ov99), .val (.int (0 : Int32)), .val (.ref ov103), .unset, .unset] [(.ref a58), (.ref ov103)]))
    obtain ⟨cq60, kq60, q60a, q60b, q60c⟩ := isOf hZ58 e58 (oE106.ext O59.2)
    obtain ⟨_, _, ⟨T60, L60, k60, n60⟩, -, X60, ⟨Lc60, hQ60, l60, y60, z60⟩, st60⟩ := X58.virtualBack hx (y := (⟨cn0, "equals", cn2⟩ : MethodName)) (z := (⟨cn0, "equals", cn2⟩ : MethodName)) hown58 (mvT hZ58 (w23 hw)) (mvT hZ58 (w24 hw)) (notFace_of_selects (args := #[]) (mvT hZ58 (w26 hw))) (mvT hZ58 (w26 hw)) (mvT hZ58 (w25 hw)) (by decide) (backOf (W := 0) (r39_equals l Z a0 hw [] ov103 a58 ov109 ok156 b58 k58 oi1 ok158 ok150 ok152 ok154 h58 n0 O59 V58 Fv58 A58 Fc58 oV155 oF111 oS3 oF108 oh4) hZ58 (w27 hw) (w16 hw) (by decide) (by decide)) q60a q60c (g := (mkF m 44 #[.val (.int p1), .val (.int ((p1 &&& (2147483647 : Int32)) % (6 : Int32))), .val (.ref ov99), .val (.int (0 : Int32)), .val (.ref ov103), .unset, .unset] [(.ref a58), (.ref ov103)])) rfl (by rw [hml]; rfl) (Steps.refl _) (argsL := [(.ref a58)]) (rest := []) (lenOf pd__Ljava_lang_Object_Z rfl) rfl (by show 2 * 0 + _ ≤ _; exact Nat.le_of_eq rfl) (hb hby at_44) (fun _ _ => ⟨rfl, e58, (by decide : 4 + 0 ≤ _), (by decide : 20 + 0 ≤ _)⟩)
    dsimp only [Pt.U, Pt.locs, Pt.cells, Pt.slots] at X60 l60 y60 z60 st60 hQ60
    subst l60 y60 z60
    obtain ⟨Nq60, eq60, hR60⟩ := hQ60
    have N60 := Fr.app N57 Nq60
    obtain rfl := hR60
    refine Gets.tr st60 ?_
    show Gets p e below _ (T60.setTop (mkF m 47 #[.val (.int p1), .val (.int ((p1 &&& (2147483647 : Int32)) % (6 : Int32))), .val (.ref ov99), .val (.int (0 : Int32)), .val (.ref ov103), .unset, .unset] [(.int (0 : Int32))]))
    refine Gets.of (fun t k => XS.ifNo X60.here hx rfl (hb hby at_47) rfl ((if0 _ _).trans (teq (by decide : (0 : Int32) = (0 : Int32))).2) k) ?_
    show Gets p e below _ (T60.setTop (mkF m 50 #[.val (.int p1), .val (.int ((p1 &&& (2147483647 : Int32)) % (6 : Int32))), .val (.ref ov99), .val (.int (0 : Int32)), .val (.ref ov103), .unset, .unset] []))
    refine Gets.of (fun t k => XS.aload X60.here hx rfl (hb hby at_50) rfl rfl  k) ?_
    obtain ⟨a61, T61, h61, k161, b61, k61, X61, e61, E61, hS61, hk61, hZ61, hown61, A61, Fc61, Fv61, V61, -, -, C61, Li61, -, st61⟩ := ldcCH X60 hx hZ58 hown58 (w46 hw) (own_wS hw) eq60 hS58 hk58 (own_EW hw) (List.mem_of_getElem? (l := own_EL) (i := 2) rfl) C58.1 (vs := [(.int (97 : Int32)), (.int (110 : Int32)), (.int (115 : Int32))]) (z := (3 : Int32)) ⟨by decide, by decide⟩ (by decide) (by decide) (g := (mkF m 52 #[.val (.int p1), .val (.int ((p1 &&& (2147483647 : Int32)) % (6 : Int32))), .val (.ref ov99), .val (.int (0 : Int32)), .val (.ref ov103), .unset, .unset] [(.ref ov103)])) rfl (hb hby at_52) (n := 12) (by decide) (by decide) (by decide) (by decide)
    have K62 := K59.ext E61
    have O62 := O59.ext E61
    refine Gets.of st61 ?_
    show Gets p e below _ (T61.setTop (mkF m 54 #[.val (.int p1), .val (.int ((p1 &&& (2147483647 : Int32)) % (6 : Int32))), .val (.ref ov99), .val (.int (0 : Int32)), .val (.ref ov103), .unset, .unset] [(.ref a61), (.ref ov103)]))
    obtain ⟨cq63, kq63, q63a, q63b, q63c⟩ := isOf hZ61 e61 (oE106.ext O62.2)
    obtain ⟨_, _, ⟨T63, L63, k63, n63⟩, -, X63, ⟨Lc63, hQ63, l63, y63, z63⟩, st63⟩ := X61.virtualBack hx (y := (⟨cn0, "equals", cn2⟩ : MethodName)) (z := (⟨cn0, "equals", cn2⟩ : MethodName)) hown61 (mvT hZ61 (w23 hw)) (mvT hZ61 (w24 hw)) (notFace_of_selects (args := #[]) (mvT hZ61 (w26 hw))) (mvT hZ61 (w26 hw)) (mvT hZ61 (w25 hw)) (by decide) (backOf (W := 0) (r41_equals l Z a0 hw [] ov103 a61 ov109 ok156 b61 k61 oi1 ok158 ok150 ok152 h61 n0 O62 V61 Fv61 A61 Fc61 oV155 oF111 oS3 oF108 oh4) hZ61 (w27 hw) (w16 hw) (by decide) (by decide)) q63a q63c (g := (mkF m 54 #[.val (.int p1), .val (.int ((p1 &&& (2147483647 : Int32)) % (6 : Int32))), .val (.ref ov99), .val (.int (0 : Int32)), .val (.ref ov103), .unset, .unset] [(.ref a61), (.ref ov103)])) rfl (by rw [hml]; rfl) (Steps.refl _) (argsL := [(.ref a61)]) (rest := []) (lenOf pd__Ljava_lang_Object_Z rfl) rfl (by show 2 * 0 + _ ≤ _; exact Nat.le_of_eq rfl) (hb hby at_54) (fun _ _ => ⟨rfl, e61, (by decide : 6 + 0 ≤ _), (by decide : 36 + 0 ≤ _)⟩)
    dsimp only [Pt.U, Pt.locs, Pt.cells, Pt.slots] at X63 l63 y63 z63 st63 hQ63
    subst l63 y63 z63
    obtain ⟨Nq63, eq63, hR63⟩ := hQ63
    have N63 := Fr.app N60 Nq63
    obtain rfl := hR63
    refine Gets.tr st63 ?_
    show Gets p e below _ (T63.setTop (mkF m 57 #[.val (.int p1), .val (.int ((p1 &&& (2147483647 : Int32)) % (6 : Int32))), .val (.ref ov99), .val (.int (0 : Int32)), .val (.ref ov103), .unset, .unset] [(.int (0 : Int32))]))
    refine Gets.of (fun t k => XS.ifYes X63.here hx rfl (pc0 := 57) (pc' := 64) rfl (hb hby at_57) rfl ((if0 _ _).trans (teq (by decide : (0 : Int32) = (0 : Int32))).1) (by decide) (by decide) k) ?_
    show Gets p e below _ (T63.setTop (mkF m 64 #[.val (.int p1), .val (.int ((p1 &&& (2147483647 : Int32)) % (6 : Int32))), .val (.ref ov99), .val (.int (0 : Int32)), .val (.ref ov103), .unset, .unset] []))
    refine Gets.of (fun t k => XS.iconst X63.here hx rfl (hb hby at_64) k) ?_
    refine Gets.of (fun t k => XS.istore X63.here hx rfl (hb hby at_65) rfl (l' := #[.val (.int p1), .val (.int ((p1 &&& (2147483647 : Int32)) % (6 : Int32))), .val (.ref ov99), .val (.int (0 : Int32)), .val (.ref ov103), .val (.int (0 : Int32)), .unset]) rfl k) ?_
    show Gets p e below _ (T63.setTop (mkF m 67 #[.val (.int p1), .val (.int ((p1 &&& (2147483647 : Int32)) % (6 : Int32))), .val (.ref ov99), .val (.int (0 : Int32)), .val (.ref ov103), .val (.int (0 : Int32)), .unset] []))
    refine Gets.of (fun t k => XS.aloadN X63.here hx rfl (hb hby at_67) rfl rfl  k) ?_
    obtain ⟨cq64, kq64, q64a, q64b, q64c⟩ := isOf hZ61 eq63 (oE102.ext O62.2)
    obtain ⟨_, _, ⟨T64, L64, k64, n64⟩, -, X64, ⟨Lc64, hQ64, l64, y64, z64⟩, st64⟩ := X63.virtualBack hx (y := (⟨cn1, "fills", "()Z"⟩ : MethodName)) (z := (⟨cn1, "fills", "()Z"⟩ : MethodName)) hown61 (mvT hZ61 (w37 hw)) (mvT hZ61 (w38 hw)) (notFace_of_selects (args := #[]) (mvT hZ61 (w40 hw))) (mvT hZ61 (w40 hw)) (mvT hZ61 (w39 hw)) (by decide) (backOf (W := 0) (r43_fills l Z a0 hw [] ov99 ov5 ov49 ov55 h61 n0 O62 oS7 oF120 oF48 oS51 oF54 oS57 oF60) hZ61 (w41 hw) (w6 hw) (by decide) (by decide)) q64a q64c (g := (mkF m 68 #[.val (.int p1), .val (.int ((p1 &&& (2147483647 : Int32)) % (6 : Int32))), .val (.ref ov99), .val (.int (0 : Int32)), .val (.ref ov103), .val (.int (0 : Int32)), .unset] [(.ref ov99)])) rfl (by rw [hml]; rfl) (Steps.refl _) (argsL := []) (rest := []) (lenOf pd__Z rfl) rfl (by show 2 * 0 + _ ≤ _; exact Nat.le_of_eq rfl) (hb hby at_68) (fun _ _ => ⟨rfl, eq63, (by decide : 6 + 0 ≤ _), (by decide : 36 + 0 ≤ _)⟩)
    dsimp only [Pt.U, Pt.locs, Pt.cells, Pt.slots] at X64 l64 y64 z64 st64 hQ64
    subst l64 y64 z64
    obtain ⟨Nq64, eq64, hR64⟩ := hQ64
    have N64 := Fr.app N63 Nq64
    obtain rfl := hR64
    refine Gets.tr st64 ?_
    show Gets p e below _ (T64.setTop (mkF m 71 #[.val (.int p1), .val (.int ((p1 &&& (2147483647 : Int32)) % (6 : Int32))), .val (.ref ov99), .val (.int (0 : Int32)), .val (.ref ov103), .val (.int (0 : Int32)), .unset] [(.int (0 : Int32))]))
    refine Gets.of (fun t k => XS.istore X64.here hx rfl (hb hby at_71) rfl (l' := #[.val (.int p1), .val (.int ((p1 &&& (2147483647 : Int32)) % (6 : Int32))), .val (.ref ov99), .val (.int (0 : Int32)), .val (.ref ov103), .val (.int (0 : Int32)), .val (.int (0 : Int32))]) rfl k) ?_
    show Gets p e below _ (T64.setTop (mkF m 73 #[.val (.int p1), .val (.int ((p1 &&& (2147483647 : Int32)) % (6 : Int32))), .val (.ref ov99), .val (.int (0 : Int32)), .val (.ref ov103), .val (.int (0 : Int32)), .val (.int (0 : Int32))] []))
    refine Gets.of (fun t k => XS.iload X64.here hx rfl (hb hby at_73) rfl  k) ?_
    refine Gets.of (fun t k => XS.iloadN X64.here hx rfl (hb hby at_75) rfl  k) ?_
    refine Gets.of (fun t k => XS.icmpNo X64.here hx rfl (hb hby at_76) rfl (teq (by decide : (0 : Int32) = (0 : Int32))).2 k) ?_
    show Gets p e below _ (T64.setTop (mkF m 79 #[.val (.int p1), .val (.int ((p1 &&& (2147483647 : Int32)) % (6 : Int32))), .val (.ref ov99), .val (.int (0 : Int32)), .val (.ref ov103), .val (.int (0 : Int32)), .val (.int (0 : Int32))] []))
    refine Gets.of (fun t k => XS.iload X64.here hx rfl (hb hby at_79) rfl  k) ?_
    refine Gets.of (fun t k => XS.iload X64.here hx rfl (hb hby at_81) rfl  k) ?_
    refine Gets.of (fun t k => XS.icmpNo X64.here hx rfl (hb hby at_83) rfl (teq (by decide : (0 : Int32) = (0 : Int32))).2 k) ?_
    show Gets p e below _ (T64.setTop (mkF m 86 #[.val (.int p1), .val (.int ((p1 &&& (2147483647 : Int32)) % (6 : Int32))), .val (.ref ov99), .val (.int (0 : Int32)), .val (.ref ov103), .val (.int (0 : Int32)), .val (.int (0 : Int32))] []))
    refine Gets.of (fun t k => XS.iconst X64.here hx rfl (hb hby at_86) k) ?_
    refine Gets.of (fun t k => XS.goto X64.here hx rfl (pc0 := 87) (pc' := 91) rfl (hb hby at_87) (by decide) (by decide) k) ?_
    show Gets p e below _ (T64.setTop (mkF m 91 #[.val (.int p1), .val (.int ((p1 &&& (2147483647 : Int32)) % (6 : Int32))), .val (.ref ov99), .val (.int (0 : Int32)), .val (.ref ov103), .val (.int (0 : Int32)), .val (.int (0 : Int32))] [(.int (1 : Int32))]))
    refine GetsW.retN X64 hx (t := .boolean) Bd.returns (by simp) (hb hby at_91) hS61 (eq64 ▸ hk61) ?_ (by decide) (by decide)
    rw [eq64]
    exact ⟨N64, K62, rfl⟩
set_option maxRecDepth 65536 in
set_option maxHeartbeats 40000000 in
theorem comes_1 {Post : Tables → Env → Array Value → State → Outcome → State → Prop} (hpost : ∀ tb e args s v u, (limb_1_1.after args s (.returned v) u = true ∧ limb_1_2.after args s (.returned v) u = true ∧ True) → ReturnedEndW s (.returned v) u (Jvm.fieldLocs frame_1_writes args s ++ Jvm.arrayLocs frame_1_arrays args s ++ Jvm.staticLocs frame_1_statics s) 8 3136 → Post tb e args s (.returned v) u) :
    ArmFor flags0 classFile x code maxLocals ret World_1 tables_1 room_1 Calls_1 rest_1 Pre_1 Post := by
  intro l hfl _ _ p e ha hc hk s m args below hf hA hF happ hP
  obtain ⟨hcalls, hrest, hpre⟩ := hP
  obtain ⟨-, -, -, hnamed, -, -, -, hat⟩ := (Spec.applies_iff hf).mp happ
  obtain ⟨hg, hn⟩ := and_e (Cond.before_iff.mp (show (Jvm.Cond.and given_1 narrow_1).before args s = true from hpre))
  obtain ⟨hcount, hk0⟩ := and_e hg
  have hi0 := hk0
  obtain ⟨w0, rfl⟩ : ∃ w0 : Value, args = #[w0] := by
    have hs : args.size = 1 := by simpa [Cond.value, given_1] using hcount
    obtain ⟨L⟩ := args
    match L, hs with
    | [w0], _ => exact ⟨w0, rfl⟩
  have hw := fun d (hd : d ∈ tables_1) => atoms_spec (ws := Jvm.Cond.code x code maxLocals ret :: tables_1) hat d (List.mem_cons_of_mem _ hd)
  have hfit : Fit s := fun {y c} hc i hi => by
    obtain ⟨ha, rfl⟩ := Array.getElem?_eq_some_iff.mp hc
    have q := List.all_eq_true.mp ((Array.all_eq_true_iff_forall_mem.mp hF) _ (Array.getElem_mem ha)) i (List.mem_range.mpr hi)
    simpa [Array.getElem?_eq_getElem hi] using q
  obtain ⟨hsets, hown0⟩ := atoms_of _ (rest_1_c_eq ▸ (show rest_1_c.before _ s = true from hrest))
  obtain ⟨i0, ei0⟩ := is_v hi0
  obtain rfl : w0 = (.int i0) := Option.some.inj ei0
  obtain ⟨oi1, oe2⟩ := is_v (Cond.before_iff.mp (hsets _ (List.mem_of_getElem? (i := 1) rfl)))
  have oS3 : Sta s s.heap cn0 "COMPACT_STRINGS" "Z" (.int oi1) := Sta.start oe2 (Or.inl (hsets _ (List.mem_of_getElem? (i := 0) rfl)))
  have oh4 : ¬ (oi1 = (0 : Int32)) := by
    intro q
    have q2 := not_v (Cond.before_iff.mp (hsets _ (List.mem_of_getElem? (i := 2) rfl)))
    rw [eq_i oe2 (Term.int_eval (0)) (congrArg Value.int q)] at q2; cases q2
  obtain ⟨hn0, hr0⟩ := and_e hn
  obtain ⟨ov5, oe6⟩ := exa_v hn0
  have oS7 : Sta s s.heap cn1 "N" cn4 (.ref ov5) := Sta.start oe6 (Or.inr ⟨(w6 hw), (w7 hw)⟩)
  have oE8 : Exa s s.heap ov5 cn1 := Exa.start oe6 hn0
  obtain ⟨hn1, hr1⟩ := and_e hr0
  obtain ⟨ov9, oe10⟩ := exa_v hn1
  have oF11 : Fld s s.heap ov5 cn1 "code" "Ljava/lang/String;" (.ref ov9) := Fld.start ((fld_at oe6).symm.trans oe10)
  have oE12 : Exa s s.heap ov9 cn0 := Exa.start oe10 hn1
  obtain ⟨hn2, hr2⟩ := and_e hr1
  have oe13 := eqv_i (Term.int_eval (0)) hn2
  have oF14 : Fld s s.heap ov9 cn0 "coder" "B" (.int (0 : Int32)) := Fld.start ((fld_at oe10).symm.trans oe13)
  obtain ⟨hn3, hr3⟩ := and_e hr2
  obtain ⟨ov15, oe16⟩ := arr_v hn3
  have oF17 : Fld s s.heap ov9 cn0 "value" "[B" (.ref ov15) := Fld.start ((fld_at oe10).symm.trans oe16)
  obtain ⟨oc18, oA19⟩ := Arr.start oe16 hn3
  obtain ⟨hn4, hr4⟩ := and_e hr3
  obtain ⟨oq21, oq22⟩ := own_len31 oe16 (oA19.fin (Vm.Alike.refl _)) (eqv_i (Term.int_eval (1)) hn4)
  obtain ⟨hn5, hr5⟩ := and_e hr4
  have oq24 : oc18.slots[0]? = some (.int (110 : Int32)) := (elem_f oe16 (Term.int_eval (0)) (oA19.fin (Vm.Alike.refl _)) (by decide)).symm.trans (eqv_i (Term.int_eval (110)) hn5)
  obtain ⟨hn6, hr6⟩ := and_e hr5
  obtain ⟨ov25, oe26⟩ := exa_v hn6
  have oS27 : Sta s s.heap cn1 "Z" cn4 (.ref ov25) := Sta.start oe26 (Or.inr ⟨(w6 hw), (w44 hw)⟩)
  have oE28 : Exa s s.heap ov25 cn1 := Exa.start oe26 hn6
  obtain ⟨hn7, hr7⟩ := and_e hr6
  obtain ⟨ov29, oe30⟩ := exa_v hn7
  have oF31 : Fld s s.heap ov25 cn1 "code" "Ljava/lang/String;" (.ref ov29) := Fld.start ((fld_at oe26).symm.trans oe30)
  have oE32 : Exa s s.heap ov29 cn0 := Exa.start oe30 hn7
  obtain ⟨hn8, hr8⟩ := and_e hr7
  have oe33 := eqv_i (Term.int_eval (0)) hn8
  have oF34 : Fld s s.heap ov29 cn0 "coder" "B" (.int (0 : Int32)) := Fld.start ((fld_at oe30).symm.trans oe33)
  obtain ⟨hn9, hr9⟩ := and_e hr8
  obtain ⟨ov35, oe36⟩ := arr_v hn9
  have oF37 : Fld s s.heap ov29 cn0 "value" "[B" (.ref ov35) := Fld.start ((fld_at oe30).symm.trans oe36)
  obtain ⟨oc38, oA39⟩ := Arr.start oe36 hn9
  obtain ⟨hn10, hr10⟩ := and_e hr9
  obtain ⟨oq41, oq42⟩ := own_len31 oe36 (oA39.fin (Vm.Alike.refl _)) (eqv_i (Term.int_eval (1)) hn10)
  obtain ⟨hn11, hr11⟩ := and_e hr10
  have oq44 : oc38.slots[0]? = some (.int (122 : Int32)) := (elem_f oe36 (Term.int_eval (0)) (oA39.fin (Vm.Alike.refl _)) (by decide)).symm.trans (eqv_i (Term.int_eval (122)) hn11)
  obtain ⟨hn12, hr12⟩ := and_e hr11
  have oe45 := eqv_i (Term.int_eval (3)) hn12
  have oF46 : Fld s s.heap ov25 "java/lang/Enum" "ordinal" "I" (.int (3 : Int32)) := Fld.start ((fld_at oe26).symm.trans oe45)
  obtain ⟨hn13, hr13⟩ := and_e hr12
  have oe47 := eqv_i (Term.int_eval (0)) hn13
  have oF48 : Fld s s.heap ov5 "java/lang/Enum" "ordinal" "I" (.int (0 : Int32)) := Fld.start ((fld_at oe6).symm.trans oe47)
  obtain ⟨hn14, hr14⟩ := and_e hr13
  obtain ⟨ov49, oe50⟩ := exa_v hn14
  have oS51 : Sta s s.heap cn1 "AN" cn4 (.ref ov49) := Sta.start oe50 (Or.inr ⟨(w6 hw), (w48 hw)⟩)
  have oE52 : Exa s s.heap ov49 cn1 := Exa.start oe50 hn14
  obtain ⟨hn15, hr15⟩ := and_e hr14
  have oe53 := eqv_i (Term.int_eval (1)) hn15
  have oF54 : Fld s s.heap ov49 "java/lang/Enum" "ordinal" "I" (.int (1 : Int32)) := Fld.start ((fld_at oe50).symm.trans oe53)
  obtain ⟨hn16, hr16⟩ := and_e hr15
  obtain ⟨ov55, oe56⟩ := exa_v hn16
  have oS57 : Sta s s.heap cn1 "ANS" cn4 (.ref ov55) := Sta.start oe56 (Or.inr ⟨(w6 hw), (w50 hw)⟩)
  have oE58 : Exa s s.heap ov55 cn1 := Exa.start oe56 hn16
  obtain ⟨hn17, hr17⟩ := and_e hr16
  have oe59 := eqv_i (Term.int_eval (2)) hn17
  have oF60 : Fld s s.heap ov55 "java/lang/Enum" "ordinal" "I" (.int (2 : Int32)) := Fld.start ((fld_at oe56).symm.trans oe59)
  obtain ⟨hn18, hr18⟩ := and_e hr17
  obtain ⟨ov61, oe62⟩ := exa_v hn18
  have oF63 : Fld s s.heap ov55 cn1 "code" "Ljava/lang/String;" (.ref ov61) := Fld.start ((fld_at oe56).symm.trans oe62)
  have oE64 : Exa s s.heap ov61 cn0 := Exa.start oe62 hn18
  obtain ⟨hn19, hr19⟩ := and_e hr18
  have oe65 := eqv_i (Term.int_eval (0)) hn19
  have oF66 : Fld s s.heap ov61 cn0 "coder" "B" (.int (0 : Int32)) := Fld.start ((fld_at oe62).symm.trans oe65)
  obtain ⟨hn20, hr20⟩ := and_e hr19
  obtain ⟨ov67, oe68⟩ := arr_v hn20
  have oF69 : Fld s s.heap ov61 cn0 "value" "[B" (.ref ov67) := Fld.start ((fld_at oe62).symm.trans oe68)
  obtain ⟨oc70, oA71⟩ := Arr.start oe68 hn20
  obtain ⟨hn21, hr21⟩ := and_e hr20
  obtain ⟨oq73, oq74⟩ := own_len31 oe68 (oA71.fin (Vm.Alike.refl _)) (eqv_i (Term.int_eval (3)) hn21)
  obtain ⟨hn22, hr22⟩ := and_e hr21
  have oq76 : oc70.slots[0]? = some (.int (97 : Int32)) := (elem_f oe68 (Term.int_eval (0)) (oA71.fin (Vm.Alike.refl _)) (by decide)).symm.trans (eqv_i (Term.int_eval (97)) hn22)
  obtain ⟨hn23, hr23⟩ := and_e hr22
  have oq78 : oc70.slots[1]? = some (.int (110 : Int32)) := (elem_f oe68 (Term.int_eval (1)) (oA71.fin (Vm.Alike.refl _)) (by decide)).symm.trans (eqv_i (Term.int_eval (110)) hn23)
  obtain ⟨hn24, hr24⟩ := and_e hr23
  have oq80 : oc70.slots[2]? = some (.int (115 : Int32)) := (elem_f oe68 (Term.int_eval (2)) (oA71.fin (Vm.Alike.refl _)) (by decide)).symm.trans (eqv_i (Term.int_eval (115)) hn24)
  obtain ⟨hn25, hr25⟩ := and_e hr24
  obtain ⟨ov81, oe82⟩ := exa_v hn25
  have oF83 : Fld s s.heap ov49 cn1 "code" "Ljava/lang/String;" (.ref ov81) := Fld.start ((fld_at oe50).symm.trans oe82)
  have oE84 : Exa s s.heap ov81 cn0 := Exa.start oe82 hn25
  obtain ⟨hn26, hr26⟩ := and_e hr25
  have oe85 := eqv_i (Term.int_eval (0)) hn26
  have oF86 : Fld s s.heap ov81 cn0 "coder" "B" (.int (0 : Int32)) := Fld.start ((fld_at oe82).symm.trans oe85)
  obtain ⟨hn27, hr27⟩ := and_e hr26
  obtain ⟨ov87, oe88⟩ := arr_v hn27
  have oF89 : Fld s s.heap ov81 cn0 "value" "[B" (.ref ov87) := Fld.start ((fld_at oe82).symm.trans oe88)
  obtain ⟨oc90, oA91⟩ := Arr.start oe88 hn27
  obtain ⟨hn28, hr28⟩ := and_e hr27
  obtain ⟨oq93, oq94⟩ := own_len31 oe88 (oA91.fin (Vm.Alike.refl _)) (eqv_i (Term.int_eval (2)) hn28)
  obtain ⟨hn29, hr29⟩ := and_e hr28
  have oq96 : oc90.slots[0]? = some (.int (97 : Int32)) := (elem_f oe88 (Term.int_eval (0)) (oA91.fin (Vm.Alike.refl _)) (by decide)).symm.trans (eqv_i (Term.int_eval (97)) hn29)
  obtain ⟨hn30, hr30⟩ := and_e hr29
  have oq98 : oc90.slots[1]? = some (.int (110 : Int32)) := (elem_f oe88 (Term.int_eval (1)) (oA91.fin (Vm.Alike.refl _)) (by decide)).symm.trans (eqv_i (Term.int_eval (110)) hn30)
  obtain ⟨hn31, hr31⟩ := and_e hr30
  obtain ⟨ov99, oe100⟩ := exa_v hn31
  have oS101 : Sta s s.heap cn1 "X_N" cn4 (.ref ov99) := Sta.start oe100 (Or.inr ⟨(w6 hw), (w54 hw)⟩)
  have oE102 : Exa s s.heap ov99 cn1 := Exa.start oe100 hn31
  obtain ⟨hn32, hr32⟩ := and_e hr31
  obtain ⟨ov103, oe104⟩ := exa_v hn32
  have oF105 : Fld s s.heap ov99 cn1 "code" "Ljava/lang/String;" (.ref ov103) := Fld.start ((fld_at oe100).symm.trans oe104)
  have oE106 : Exa s s.heap ov103 cn0 := Exa.start oe104 hn32
  obtain ⟨hn33, hr33⟩ := and_e hr32
  have oe107 := eqv_i (Term.int_eval (0)) hn33
  have oF108 : Fld s s.heap ov103 cn0 "coder" "B" (.int (0 : Int32)) := Fld.start ((fld_at oe104).symm.trans oe107)
  obtain ⟨hn34, hr34⟩ := and_e hr33
  obtain ⟨ov109, oe110⟩ := arr_v hn34
  have oF111 : Fld s s.heap ov103 cn0 "value" "[B" (.ref ov109) := Fld.start ((fld_at oe104).symm.trans oe110)
  obtain ⟨oc112, oA113⟩ := Arr.start oe110 hn34
  obtain ⟨hn35, hr35⟩ := and_e hr34
  obtain ⟨oq115, oq116⟩ := own_len31 oe110 (oA113.fin (Vm.Alike.refl _)) (eqv_i (Term.int_eval (3)) hn35)
  obtain ⟨hn36, hr36⟩ := and_e hr35
  have oq118 : oc112.slots[0]? = some (.int (120 : Int32)) := (elem_f oe110 (Term.int_eval (0)) (oA113.fin (Vm.Alike.refl _)) (by decide)).symm.trans (eqv_i (Term.int_eval (120)) hn36)
  obtain ⟨hn37, hr37⟩ := and_e hr36
  have oe119 := eqv_i (Term.int_eval (5)) hn37
  have oF120 : Fld s s.heap ov99 "java/lang/Enum" "ordinal" "I" (.int (5 : Int32)) := Fld.start ((fld_at oe100).symm.trans oe119)
  obtain ⟨hn38, hr38⟩ := and_e hr37
  obtain ⟨ov121, oe122⟩ := exa_v hn38
  have oS123 : Sta s s.heap cn1 "B" cn4 (.ref ov121) := Sta.start oe122 (Or.inr ⟨(w6 hw), (w56 hw)⟩)
  have oE124 : Exa s s.heap ov121 cn1 := Exa.start oe122 hn38
  obtain ⟨hn39, hr39⟩ := and_e hr38
  obtain ⟨ov125, oe126⟩ := exa_v hn39
  have oF127 : Fld s s.heap ov121 cn1 "code" "Ljava/lang/String;" (.ref ov125) := Fld.start ((fld_at oe122).symm.trans oe126)
  have oE128 : Exa s s.heap ov125 cn0 := Exa.start oe126 hn39
  obtain ⟨hn40, hr40⟩ := and_e hr39
  have oe129 := eqv_i (Term.int_eval (0)) hn40
  have oF130 : Fld s s.heap ov125 cn0 "coder" "B" (.int (0 : Int32)) := Fld.start ((fld_at oe126).symm.trans oe129)
  obtain ⟨hn41, hr41⟩ := and_e hr40
  obtain ⟨ov131, oe132⟩ := arr_v hn41
  have oF133 : Fld s s.heap ov125 cn0 "value" "[B" (.ref ov131) := Fld.start ((fld_at oe126).symm.trans oe132)
  obtain ⟨oc134, oA135⟩ := Arr.start oe132 hn41
  obtain ⟨hn42, hr42⟩ := and_e hr41
  obtain ⟨oq137, oq138⟩ := own_len31 oe132 (oA135.fin (Vm.Alike.refl _)) (eqv_i (Term.int_eval (1)) hn42)
  obtain ⟨hn43, hr43⟩ := and_e hr42
  have oq140 : oc134.slots[0]? = some (.int (98 : Int32)) := (elem_f oe132 (Term.int_eval (0)) (oA135.fin (Vm.Alike.refl _)) (by decide)).symm.trans (eqv_i (Term.int_eval (98)) hn43)
  obtain ⟨hn44, hr44⟩ := and_e hr43
  have oe141 := eqv_i (Term.int_eval (4)) hn44
  have oF142 : Fld s s.heap ov121 "java/lang/Enum" "ordinal" "I" (.int (4 : Int32)) := Fld.start ((fld_at oe122).symm.trans oe141)
  obtain ⟨hn45, hr45⟩ := and_e hr44
  have oq144 : oc112.slots[1]? = some (.int (43 : Int32)) := (elem_f oe110 (Term.int_eval (1)) (oA113.fin (Vm.Alike.refl _)) (by decide)).symm.trans (eqv_i (Term.int_eval (43)) hn45)
  have oq146 : oc112.slots[2]? = some (.int (110 : Int32)) := (elem_f oe110 (Term.int_eval (2)) (oA113.fin (Vm.Alike.refl _)) (by decide)).symm.trans (eqv_i (Term.int_eval (110)) hr45)
  obtain ⟨ok148, hok148⟩ : ∃ k, k = oc18.cls := ⟨_, rfl⟩
  have oV147 : Arv s s.heap ov15 ok148 .byte (1 : Int32) [(.int (110 : Int32))] (.int (0 : Int32)) := hok148 ▸ Arv.start hfit oA19 oq21 oq22 (by decide) rfl ⟨oq24, trivial⟩
  obtain ⟨ok150, hok150⟩ : ∃ k, k = oc38.cls := ⟨_, rfl⟩
  have oV149 : Arv s s.heap ov35 ok150 .byte (1 : Int32) [(.int (122 : Int32))] (.int (0 : Int32)) := hok150 ▸ Arv.start hfit oA39 oq41 oq42 (by decide) rfl ⟨oq44, trivial⟩
  obtain ⟨ok152, hok152⟩ : ∃ k, k = oc70.cls := ⟨_, rfl⟩
  have oV151 : Arv s s.heap ov67 ok152 .byte (3 : Int32) [(.int (97 : Int32)), (.int (110 : Int32)), (.int (115 : Int32))] (.int (0 : Int32)) := hok152 ▸ Arv.start hfit oA71 oq73 oq74 (by decide) rfl ⟨oq76, oq78, oq80, trivial⟩
  obtain ⟨ok154, hok154⟩ : ∃ k, k = oc90.cls := ⟨_, rfl⟩
  have oV153 : Arv s s.heap ov87 ok154 .byte (2 : Int32) [(.int (97 : Int32)), (.int (110 : Int32))] (.int (0 : Int32)) := hok154 ▸ Arv.start hfit oA91 oq93 oq94 (by decide) rfl ⟨oq96, oq98, trivial⟩
  obtain ⟨ok156, hok156⟩ : ∃ k, k = oc112.cls := ⟨_, rfl⟩
  have oV155 : Arv s s.heap ov109 ok156 .byte (3 : Int32) [(.int (120 : Int32)), (.int (43 : Int32)), (.int (110 : Int32))] (.int (0 : Int32)) := hok156 ▸ Arv.start hfit oA113 oq115 oq116 (by decide) rfl ⟨oq118, oq144, oq146, trivial⟩
  obtain ⟨ok158, hok158⟩ : ∃ k, k = oc134.cls := ⟨_, rfl⟩
  have oV157 : Arv s s.heap ov131 ok158 .byte (1 : Int32) [(.int (98 : Int32))] (.int (0 : Int32)) := hok158 ▸ Arv.start hfit oA135 oq137 oq138 (by decide) rfl ⟨oq140, trivial⟩
  have hCH : CHv s own_EL s.vm s.heap := CHv.start (own_EW hw) (fun q hq => hcalls.1 q hq) (hsets _ (List.mem_of_getElem? (i := 2) rfl)) (w18 hw) (w17 hw)
  obtain ⟨n, o, h1, h2, h3, _, L, rfl, ⟨N, -, hR⟩, hq⟩ := rm_law l s _ hw tables_1 i0 oi1 ov5 ov9 ov15 ov25 ov29 ov35 ov49 ov55 ov61 ov67 ov81 ov87 ov99 ov103 ov109 ov121 ov125 ov131 ok148 ok150 ok152 ok154 ok156 ok158 s.heap s.heap.size (Old.start s) oS3 oS7 oE8 oF11 oE12 oF14 oF17 oS27 oE28 oF31 oE32 oF34 oF37 oF46 oF48 oS51 oE52 oF54 oS57 oE58 oF60 oF63 oE64 oF66 oF69 oF83 oE84 oF86 oF89 oS101 oE102 oF105 oE106 oF108 oF111 oF120 oS123 oE124 oF127 oE128 oF130 oF133 oF142 oV147 oV149 oV151 oV153 oV155 oV157 oh4 p e ha hc hk s m _ below hf ((Spec.applies_iff_loose hf).mp happ).1 ⟨rfl, State.Warmed39.refl s, rfl, hCH⟩ trivial
  obtain rfl := hR
  refine ⟨n, _, h1, h2, h3, hpost _ _ _ _ _ _ ⟨Cond.after_iff.mpr rfl, Cond.after_iff.mpr (eq_i res_at (Term.int_eval (1)) rfl), trivial⟩ ⟨hq.1, hq.2.1, hq.2.2.1, (hq.2.2.2.sift fun y hy => Or.inr (N y hy)).mono (by decide) (by decide)⟩⟩
theorem main_1_1 : Claimed_1_1 := comes_1 fun _ _ _ _ _ _ h hF => ⟨h.1, hF⟩
theorem main_1_2 : Claimed_1_2 := comes_1 fun _ _ _ _ _ _ h hF => ⟨h.2.1, hF⟩
end Jvm.Pilot.@@N@@
namespace Jvm.Pilot.@@N@@
open Jvm Jvm.ClassFile Sem Op Lib Jvm.Free Jvm.Stand Jvm.Pilot.@@N@@.Jvm.D
/-! MADE BY PROGRAM (witnessworld.py) out of the Statement's table words and the real class files: 18 classes; the members and pool entries that the words name. The judged class is class 1, her method 2. -/
namespace start1
open Jvm.ClassFile
def u (s : String) : CpInfo := .utf8 (stringToUtf16 s)
/-- a pool by its gaps: so many unusable entries, then the entry; so many at the end -/
def gap : Nat → List CpInfo → List CpInfo
  | 0, r => r
  | n + 1, r => .unusable :: gap n r
def poolList (es : List (Nat × CpInfo)) (last : Nat) : List CpInfo := es.foldr (fun e r => gap e.1 (e.2 :: r)) (gap last [])
def pool (es : List (Nat × CpInfo)) (last : Nat) : Array CpInfo := ⟨poolList es last⟩
def fileOf (pool : Array CpInfo) (this : Nat) (attrs : Array Attribute := #[]) (ms : Array MethodInfo := #[]) (fl : Nat := 33) (sup : Nat := 0) (ifs : Array Nat := #[]) (fds : Array FieldInfo := #[]) : ClassFile where
  minorVersion := 0
  majorVersion := 65
  constantPool := pool
  accessFlags := fl
  thisClass := this
  superClass := sup
  interfaces := ifs
  fields := fds
  methods := ms
  attributes := attrs
def plain (name : String) (sup : Option ClassId) : Class where
  name := name
  kind := .ordinary
  loader := none
  accessFlags := 33
  super := sup
  interfaces := #[]
  cf := none
  fields := #[]
  methods := #[]
  instanceTypes := #[]
  staticTypes := #[]
  resolved := #[]
  callSites := []
  init := .initialized
  statics := none
  mirror := none

def pool0 : Array CpInfo := pool [(5, u "<init>"), (0, u "()V"), (1, .class_ 10), (1, u "java/lang/Object")] 113

def k0m0 : Method := { name := "<init>", desc := "()V", sig := { parameters := [], returnType := none }, accessFlags := 1, code := none }
/-- java/lang/Object -/
def k0 : Class := { plain "java/lang/Object" none with
  accessFlags := 33
  interfaces := #[]
  cf := some (fileOf pool0 8 #[] #[{ accessFlags := 1, nameIndex := 5, descriptorIndex := 6, attributes := #[] }] 33 0 #[] #[])
  fields := #[]
  methods := #[k0m0]
  instanceTypes := #[]
  staticTypes := #[]
  resolved := Array.replicate 124 none
  statics := none }

def pool1 : Array CpInfo := pool [(2, .class_ 4), (1, u "java/lang/Object"), (0, u "<init>"), (0, u "()V"), (0, .fieldref 8 9), (0, .class_ 10), (0, .nameAndType 11 12), (0, u "com/example/cardwire/cardwire/core/Attribute"), (0, u "N"), (0, u "Lcom/example/cardwire/cardwire/core/Attribute;"), (0, .fieldref 8 14), (0, .nameAndType 15 12), (0, u "AN"), (0, .fieldref 8 17), (0, .nameAndType 18 12), (0, u "ANS"), (0, .fieldref 8 20), (0, .nameAndType 21 12), (0, u "Z"), (0, .fieldref 8 23), (0, .nameAndType 24 12), (0, u "B"), (0, .fieldref 8 26), (0, .nameAndType 27 12), (0, u "X_N"), (0, .integer 2147483647), (0, .methodref 30 31), (0, .class_ 32), (0, .nameAndType 33 34), (0, u "com/example/cardwire/cardwire/core/AttributeFillsPinLaw"), (0, u "pick"), (0, u "(I)Lcom/example/cardwire/cardwire/core/Attribute;"), (0, .methodref 8 36), (0, .nameAndType 37 38), (0, u "code"), (0, u "()Ljava/lang/String;"), (0, .string 40), (0, u "n"), (0, .methodref 42 43), (0, .class_ 44), (0, .nameAndType 45 46), (0, u "java/lang/String"), (0, u "equals"), (0, u "(Ljava/lang/Object;)Z"), (0, .string 48), (0, u "an"), (0, .string 50), (0, u "ans"), (0, .methodref 8 52), (0, .nameAndType 53 54), (0, u "fills"), (0, u "()Z"), (3, u "law"), (0, u "(I)Z")] 2

def k1m0 : Method := { name := "<init>", desc := "()V", sig := { parameters := [], returnType := none }, accessFlags := 2, code := none }
def k1c1 : Code := { maxStack := 2, maxLocals := 1, code := method_2_code, exceptionTable := #[], attributes := #[] }
def k1m1 : Method := { name := "pick", desc := "(I)Lcom/example/cardwire/cardwire/core/Attribute;", sig := { parameters := [.int], returnType := some (.object "com/example/cardwire/cardwire/core/Attribute") }, accessFlags := 10, code := some k1c1 }
def k1c2 : Code := { maxStack := 2, maxLocals := 7, code := code, exceptionTable := #[], attributes := #[] }
def k1m2 : Method := { name := "law", desc := "(I)Z", sig := { parameters := [.int], returnType := some .boolean }, accessFlags := 9, code := some k1c2 }
/-- com/example/cardwire/cardwire/core/AttributeFillsPinLaw -/
def k1 : Class := { plain "com/example/cardwire/cardwire/core/AttributeFillsPinLaw" (some 0) with
  accessFlags := 49
  interfaces := #[]
  cf := some (fileOf pool1 30 #[] #[{ accessFlags := 2, nameIndex := 5, descriptorIndex := 6, attributes := #[] }, { accessFlags := 10, nameIndex := 33, descriptorIndex := 34, attributes := #[] }, { accessFlags := 9, nameIndex := 58, descriptorIndex := 59, attributes := #[] }] 49 2 #[] #[])
  fields := #[]
  methods := #[k1m0, k1m1, k1m2]
  instanceTypes := #[]
  staticTypes := #[]
  resolved := Array.replicate 62 none
  statics := none }

def pool2 : Array CpInfo := pool [(1, .class_ 2), (0, u "java/lang/constant/Constable"), (0, .class_ 4), (0, u "java/lang/Object")] 6

/-- java/lang/constant/Constable -/
def k2 : Class := { plain "java/lang/constant/Constable" (some 0) with
  accessFlags := 1537
  interfaces := #[]
  cf := some (fileOf pool2 1 #[] #[] 1537 3 #[] #[])
  fields := #[]
  methods := #[]
  instanceTypes := #[]
  staticTypes := #[]
  resolved := Array.replicate 11 none
  statics := none }

def pool3 : Array CpInfo := pool [(1, .class_ 2), (0, u "java/lang/Comparable"), (0, .class_ 4), (0, u "java/lang/Object")] 7

/-- java/lang/Comparable -/
def k3 : Class := { plain "java/lang/Comparable" (some 0) with
  accessFlags := 1537
  interfaces := #[]
  cf := some (fileOf pool3 1 #[] #[] 1537 3 #[] #[])
  fields := #[]
  methods := #[]
  instanceTypes := #[]
  staticTypes := #[]
  resolved := Array.replicate 12 none
  statics := none }

def pool4 : Array CpInfo := pool [(1, .class_ 2), (0, u "java/io/Serializable"), (0, .class_ 4), (0, u "java/lang/Object")] 2

/-- java/io/Serializable -/
def k4 : Class := { plain "java/io/Serializable" (some 0) with
  accessFlags := 1537
  interfaces := #[]
  cf := some (fileOf pool4 1 #[] #[] 1537 3 #[] #[])
  fields := #[]
  methods := #[]
  instanceTypes := #[]
  staticTypes := #[]
  resolved := Array.replicate 7 none
  statics := none }

def pool5 : Array CpInfo := pool [(2, .class_ 4), (1, u "java/lang/Enum"), (0, u "name"), (0, u "Ljava/lang/String;"), (2, u "ordinal"), (0, u "I"), (1, .class_ 14), (1, u "java/lang/Object"), (4, u "hash"), (86, .class_ 108), (1, u "java/lang/Enum$EnumDesc"), (2, .class_ 112), (0, u "java/lang/constant/Constable"), (0, .class_ 114), (0, u "java/lang/Comparable"), (0, .class_ 116), (0, u "java/io/Serializable")] 87

/-- java/lang/Enum -/
def k5 : Class := { plain "java/lang/Enum" (some 0) with
  accessFlags := 1057
  interfaces := #[2, 3, 4]
  cf := some (fileOf pool5 2 #[.nestMembers #[106]] #[] 1057 12 #[111, 113, 115] #[{ accessFlags := 18, nameIndex := 5, descriptorIndex := 6, attributes := #[] }, { accessFlags := 18, nameIndex := 9, descriptorIndex := 10, attributes := #[] }, { accessFlags := 2, nameIndex := 19, descriptorIndex := 10, attributes := #[] }])
  fields := #[{ name := "name", type := (.object "java/lang/String"), accessFlags := 18, slot := 0, constantValue := 0 }, { name := "ordinal", type := .int, accessFlags := 18, slot := 1, constantValue := 0 }, { name := "hash", type := .int, accessFlags := 2, slot := 2, constantValue := 0 }]
  methods := #[]
  instanceTypes := #[(.object "java/lang/String"), .int, .int]
  staticTypes := #[]
  resolved := Array.replicate 204 none
  statics := none }

def pool6 : Array CpInfo := pool [(1, .class_ 2), (0, u "com/example/cardwire/cardwire/core/Attribute"), (0, .fieldref 1 4), (0, .nameAndType 5 6), (0, u "N"), (0, u "Lcom/example/cardwire/cardwire/core/Attribute;"), (0, .fieldref 1 8), (0, .nameAndType 9 6), (0, u "AN"), (0, .fieldref 1 11), (0, .nameAndType 12 6), (0, u "ANS"), (2, u "Z"), (2, u "B"), (2, u "X_N"), (2, u "$VALUES"), (0, u "[Lcom/example/cardwire/cardwire/core/Attribute;"), (6, .class_ 34), (1, u "java/lang/Enum"), (9, .fieldref 1 45), (0, .nameAndType 46 47), (0, u "code"), (0, u "Ljava/lang/String;"), (2, u "allowed"), (2, u "perByte"), (0, u "I"), (6, u "first"), (0, u "[Z"), (2, u "rest"), (22, u "fills"), (0, u "()Z"), (79, u "ASCII"), (14, u "()Ljava/lang/String;")] 56

def k6c0 : Code := { maxStack := 1, maxLocals := 1, code := prog_67_method_8_code, exceptionTable := #[], attributes := #[] }
def k6m0 : Method := { name := "code", desc := "()Ljava/lang/String;", sig := { parameters := [], returnType := some (.object "java/lang/String") }, accessFlags := 1, code := some k6c0 }
def k6c1 : Code := { maxStack := 2, maxLocals := 1, code := prog_67_method_12_code, exceptionTable := #[], attributes := #[] }
def k6m1 : Method := { name := "fills", desc := "()Z", sig := { parameters := [], returnType := some .boolean }, accessFlags := 0, code := some k6c1 }
/-- com/example/cardwire/cardwire/core/Attribute -/
def k6 : Class := { plain "com/example/cardwire/cardwire/core/Attribute" (some 5) with
  accessFlags := 16433
  interfaces := #[]
  cf := some (fileOf pool6 1 #[] #[{ accessFlags := 1, nameIndex := 46, descriptorIndex := 184, attributes := #[] }, { accessFlags := 0, nameIndex := 88, descriptorIndex := 89, attributes := #[] }] 16433 32 #[] #[{ accessFlags := 16409, nameIndex := 5, descriptorIndex := 6, attributes := #[] }, { accessFlags := 16409, nameIndex := 9, descriptorIndex := 6, attributes := #[] }, { accessFlags := 16409, nameIndex := 12, descriptorIndex := 6, attributes := #[] }, { accessFlags := 16409, nameIndex := 15, descriptorIndex := 6, attributes := #[] }, { accessFlags := 16409, nameIndex := 18, descriptorIndex := 6, attributes := #[] }, { accessFlags := 16409, nameIndex := 21, descriptorIndex := 6, attributes := #[] }, { accessFlags := 26, nameIndex := 169, descriptorIndex := 54, attributes := #[] }, { accessFlags := 18, nameIndex := 46, descriptorIndex := 47, attributes := #[] }, { accessFlags := 18, nameIndex := 50, descriptorIndex := 47, attributes := #[] }, { accessFlags := 18, nameIndex := 53, descriptorIndex := 54, attributes := #[] }, { accessFlags := 18, nameIndex := 61, descriptorIndex := 62, attributes := #[] }, { accessFlags := 18, nameIndex := 65, descriptorIndex := 62, attributes := #[] }, { accessFlags := 4122, nameIndex := 24, descriptorIndex := 25, attributes := #[] }])
  fields := #[{ name := "N", type := (.object "com/example/cardwire/cardwire/core/Attribute"), accessFlags := 16409, slot := 0, constantValue := 0 }, { name := "AN", type := (.object "com/example/cardwire/cardwire/core/Attribute"), accessFlags := 16409, slot := 1, constantValue := 0 }, { name := "ANS", type := (.object "com/example/cardwire/cardwire/core/Attribute"), accessFlags := 16409, slot := 2, constantValue := 0 }, { name := "Z", type := (.object "com/example/cardwire/cardwire/core/Attribute"), accessFlags := 16409, slot := 3, constantValue := 0 }, { name := "B", type := (.object "com/example/cardwire/cardwire/core/Attribute"), accessFlags := 16409, slot := 4, constantValue := 0 }, { name := "X_N", type := (.object "com/example/cardwire/cardwire/core/Attribute"), accessFlags := 16409, slot := 5, constantValue := 0 }, { name := "ASCII", type := .int, accessFlags := 26, slot := 6, constantValue := 0 }, { name := "code", type := (.object "java/lang/String"), accessFlags := 18, slot := 3, constantValue := 0 }, { name := "allowed", type := (.object "java/lang/String"), accessFlags := 18, slot := 4, constantValue := 0 }, { name := "perByte", type := .int, accessFlags := 18, slot := 5, constantValue := 0 }, { name := "first", type := (.array .boolean), accessFlags := 18, slot := 6, constantValue := 0 }, { name := "rest", type := (.array .boolean), accessFlags := 18, slot := 7, constantValue := 0 }, { name := "$VALUES", type := (.array (.object "com/example/cardwire/cardwire/core/Attribute")), accessFlags := 4122, slot := 7, constantValue := 0 }]
  methods := #[k6m0, k6m1]
  instanceTypes := #[(.object "java/lang/String"), .int, .int, (.object "java/lang/String"), (.object "java/lang/String"), .int, (.array .boolean), (.array .boolean)]
  staticTypes := #[(.object "com/example/cardwire/cardwire/core/Attribute"), (.object "com/example/cardwire/cardwire/core/Attribute"), (.object "com/example/cardwire/cardwire/core/Attribute"), (.object "com/example/cardwire/cardwire/core/Attribute"), (.object "com/example/cardwire/cardwire/core/Attribute"), (.object "com/example/cardwire/cardwire/core/Attribute"), .int, (.array (.object "com/example/cardwire/cardwire/core/Attribute"))]
  resolved := Array.replicate 241 none
  statics := some 0 }

def pool7 : Array CpInfo := pool [(2, .class_ 4), (1, u "java/lang/CharSequence"), (42, .class_ 48), (0, u "java/lang/CharSequence$1CodePointIterator"), (10, .class_ 60), (0, u "java/lang/CharSequence$1CharIterator"), (5, .class_ 67), (0, u "java/lang/Object")] 63

/-- java/lang/CharSequence -/
def k7 : Class := { plain "java/lang/CharSequence" (some 0) with
  accessFlags := 1537
  interfaces := #[]
  cf := some (fileOf pool7 2 #[.nestMembers #[47, 59]] #[] 1537 66 #[] #[])
  fields := #[]
  methods := #[]
  instanceTypes := #[]
  staticTypes := #[]
  resolved := Array.replicate 131 none
  statics := none }

def pool8 : Array CpInfo := pool [(1, .class_ 2), (0, u "java/lang/constant/ConstantDesc"), (0, .class_ 4), (0, u "java/lang/Object")] 32

/-- java/lang/constant/ConstantDesc -/
def k8 : Class := { plain "java/lang/constant/ConstantDesc" (some 0) with
  accessFlags := 1537
  interfaces := #[]
  cf := some (fileOf pool8 1 #[] #[] 1537 3 #[] #[])
  fields := #[]
  methods := #[]
  instanceTypes := #[]
  staticTypes := #[]
  resolved := Array.replicate 37 none
  statics := none }

def pool9 : Array CpInfo := pool [(2, .class_ 4), (1, u "java/lang/Object"), (0, u "<init>"), (0, u "()V"), (2, .fieldref 10 11), (0, .class_ 12), (0, .nameAndType 13 14), (0, u "java/lang/String"), (0, u "value"), (0, u "[B"), (0, .fieldref 10 16), (0, .nameAndType 17 18), (0, u "coder"), (0, u "B"), (2, u "hash"), (0, u "I"), (2, u "hashIsZero"), (0, u "Z"), (11, .fieldref 10 39), (0, .nameAndType 40 26), (0, u "COMPACT_STRINGS"), (66, .class_ 109), (1, u "java/lang/StringLatin1"), (431, .methodref 107 542), (0, .nameAndType 543 544), (0, u "equals"), (0, u "([B[B)Z"), (28, u "(Ljava/lang/Object;)Z"), (1, .class_ 576), (0, u "java/lang/CharSequence"), (22, u "CASE_INSENSITIVE_ORDER"), (0, u "Ljava/util/Comparator;"), (500, u "serialPersistentFields"), (0, u "[Ljava/io/ObjectStreamField;"), (0, .class_ 1104), (0, u "java/lang/String$CaseInsensitiveComparator"), (1, .class_ 1107), (0, u "java/io/Serializable"), (0, .class_ 1109), (0, u "java/lang/Comparable"), (0, .class_ 1111), (0, u "java/lang/constant/Constable"), (0, .class_ 1113), (0, u "java/lang/constant/ConstantDesc"), (2, u "serialVersionUID"), (0, u "J"), (3, u "REPL"), (0, u "C"), (2, u "LATIN1"), (1, u "UTF16")] 323

def k9m0 : Method := { name := "<init>", desc := "()V", sig := { parameters := [], returnType := none }, accessFlags := 1, code := none }
def k9c1 : Code := { maxStack := 2, maxLocals := 3, code := jdk_42_method_66_code, exceptionTable := #[], attributes := #[] }
def k9m1 : Method := { name := "equals", desc := "(Ljava/lang/Object;)Z", sig := { parameters := [(.object "java/lang/Object")], returnType := some .boolean }, accessFlags := 1, code := some k9c1 }
/-- java/lang/String -/
def k9 : Class := { plain "java/lang/String" (some 0) with
  accessFlags := 49
  interfaces := #[4, 3, 7, 2, 8]
  cf := some (fileOf pool9 10 #[.nestMembers #[1103]] #[{ accessFlags := 1, nameIndex := 5, descriptorIndex := 6, attributes := #[] }, { accessFlags := 1, nameIndex := 543, descriptorIndex := 573, attributes := #[] }] 49 2 #[1106, 1108, 575, 1110, 1112] #[{ accessFlags := 18, nameIndex := 13, descriptorIndex := 14, attributes := #[] }, { accessFlags := 18, nameIndex := 17, descriptorIndex := 18, attributes := #[] }, { accessFlags := 2, nameIndex := 21, descriptorIndex := 22, attributes := #[] }, { accessFlags := 2, nameIndex := 25, descriptorIndex := 26, attributes := #[] }, { accessFlags := 26, nameIndex := 1116, descriptorIndex := 1117, attributes := #[] }, { accessFlags := 24, nameIndex := 40, descriptorIndex := 26, attributes := #[] }, { accessFlags := 26, nameIndex := 1101, descriptorIndex := 1102, attributes := #[] }, { accessFlags := 26, nameIndex := 1121, descriptorIndex := 1122, attributes := #[] }, { accessFlags := 25, nameIndex := 599, descriptorIndex := 600, attributes := #[] }, { accessFlags := 24, nameIndex := 1125, descriptorIndex := 18, attributes := #[] }, { accessFlags := 24, nameIndex := 1127, descriptorIndex := 18, attributes := #[] }])
  fields := #[{ name := "value", type := (.array .byte), accessFlags := 18, slot := 0, constantValue := 0 }, { name := "coder", type := .byte, accessFlags := 18, slot := 1, constantValue := 0 }, { name := "hash", type := .int, accessFlags := 2, slot := 2, constantValue := 0 }, { name := "hashIsZero", type := .boolean, accessFlags := 2, slot := 3, constantValue := 0 }, { name := "serialVersionUID", type := .long, accessFlags := 26, slot := 0, constantValue := 0 }, { name := "COMPACT_STRINGS", type := .boolean, accessFlags := 24, slot := 1, constantValue := 0 }, { name := "serialPersistentFields", type := (.array (.object "java/io/ObjectStreamField")), accessFlags := 26, slot := 2, constantValue := 0 }, { name := "REPL", type := .char, accessFlags := 26, slot := 3, constantValue := 0 }, { name := "CASE_INSENSITIVE_ORDER", type := (.object "java/util/Comparator"), accessFlags := 25, slot := 4, constantValue := 0 }, { name := "LATIN1", type := .byte, accessFlags := 24, slot := 5, constantValue := 0 }, { name := "UTF16", type := .byte, accessFlags := 24, slot := 6, constantValue := 0 }]
  methods := #[k9m0, k9m1]
  instanceTypes := #[(.array .byte), .byte, .int, .boolean]
  staticTypes := #[.long, .boolean, (.array (.object "java/io/ObjectStreamField")), .char, (.object "java/util/Comparator"), .byte, .byte]
  resolved := Array.replicate 1451 none
  statics := some 1 }

def pool10 : Array CpInfo := pool [(4, .class_ 6), (1, u "java/lang/Object"), (0, u "<init>"), (0, u "()V"), (5, .class_ 16), (1, u "java/lang/StringLatin1"), (104, u "$assertionsDisabled"), (0, u "Z"), (98, .class_ 223), (1, u "java/lang/StringLatin1$LinesSpliterator"), (57, u "equals"), (0, u "([B[B)Z"), (107, .class_ 391), (0, u "java/lang/StringLatin1$CharsSpliterator")] 3

def k10m0 : Method := { name := "<init>", desc := "()V", sig := { parameters := [], returnType := none }, accessFlags := 0, code := none }
def k10c1 : Code := { maxStack := 3, maxLocals := 3, code := jdk_43_method_13_code, exceptionTable := #[], attributes := #[] }
def k10m1 : Method := { name := "equals", desc := "([B[B)Z", sig := { parameters := [(.array .byte), (.array .byte)], returnType := some .boolean }, accessFlags := 9, code := some k10c1 }
/-- java/lang/StringLatin1 -/
def k10 : Class := { plain "java/lang/StringLatin1" (some 0) with
  accessFlags := 48
  interfaces := #[]
  cf := some (fileOf pool10 14 #[.nestMembers #[390, 221]] #[{ accessFlags := 0, nameIndex := 7, descriptorIndex := 8, attributes := #[] }, { accessFlags := 9, nameIndex := 281, descriptorIndex := 282, attributes := #[] }] 48 4 #[] #[{ accessFlags := 4120, nameIndex := 121, descriptorIndex := 122, attributes := #[] }])
  fields := #[{ name := "$assertionsDisabled", type := .boolean, accessFlags := 4120, slot := 0, constantValue := 0 }]
  methods := #[k10m0, k10m1]
  instanceTypes := #[]
  staticTypes := #[.boolean]
  resolved := Array.replicate 395 none
  statics := none }

def pool11 : Array CpInfo := pool [(2, .class_ 4), (1, u "java/lang/Object"), (0, u "<init>"), (0, u "()V"), (17, .class_ 26), (1, u "jdk/internal/util/Preconditions"), (28, .class_ 56), (0, u "jdk/internal/util/Preconditions$4"), (57, .class_ 115), (0, u "jdk/internal/util/Preconditions$1"), (7, u "SIOOBE_FORMATTER"), (0, u "Ljava/util/function/BiFunction;"), (0, .class_ 126), (0, u "jdk/internal/util/Preconditions$2"), (3, u "AIOOBE_FORMATTER"), (0, .class_ 132), (0, u "jdk/internal/util/Preconditions$3"), (3, u "IOOBE_FORMATTER")] 57

def k11m0 : Method := { name := "<init>", desc := "()V", sig := { parameters := [], returnType := none }, accessFlags := 1, code := none }
/-- jdk/internal/util/Preconditions -/
def k11 : Class := { plain "jdk/internal/util/Preconditions" (some 0) with
  accessFlags := 33
  interfaces := #[]
  cf := some (fileOf pool11 24 #[.nestMembers #[55, 131, 125, 114]] #[{ accessFlags := 1, nameIndex := 5, descriptorIndex := 6, attributes := #[] }] 33 2 #[] #[{ accessFlags := 25, nameIndex := 123, descriptorIndex := 124, attributes := #[] }, { accessFlags := 25, nameIndex := 130, descriptorIndex := 124, attributes := #[] }, { accessFlags := 25, nameIndex := 136, descriptorIndex := 124, attributes := #[] }])
  fields := #[{ name := "SIOOBE_FORMATTER", type := (.object "java/util/function/BiFunction"), accessFlags := 25, slot := 0, constantValue := 0 }, { name := "AIOOBE_FORMATTER", type := (.object "java/util/function/BiFunction"), accessFlags := 25, slot := 1, constantValue := 0 }, { name := "IOOBE_FORMATTER", type := (.object "java/util/function/BiFunction"), accessFlags := 25, slot := 2, constantValue := 0 }]
  methods := #[k11m0]
  instanceTypes := #[]
  staticTypes := #[(.object "java/util/function/BiFunction"), (.object "java/util/function/BiFunction"), (.object "java/util/function/BiFunction")]
  resolved := Array.replicate 194 none
  statics := some 2 }

def pool12 : Array CpInfo := pool [(9, u "<init>"), (6, .class_ 18), (1, u "java/lang/Object"), (0, u "()V"), (1, .class_ 23), (1, u "jdk/internal/util/ArraysSupport"), (0, u "LOG2_ARRAY_LONG_INDEX_SCALE"), (0, u "I"), (2, u "U"), (0, u "Ljdk/internal/misc/Unsafe;"), (8, u "BIG_ENDIAN"), (0, u "Z"), (8, u "LOG2_BYTE_BIT_SIZE"), (4, u "LOG2_ARRAY_INT_INDEX_SCALE"), (54, u "JLA"), (0, u "Ljdk/internal/access/JavaLangAccess;"), (11, u "LOG2_ARRAY_BOOLEAN_INDEX_SCALE"), (9, u "LOG2_ARRAY_BYTE_INDEX_SCALE"), (5, u "LOG2_ARRAY_CHAR_INDEX_SCALE"), (5, u "LOG2_ARRAY_SHORT_INDEX_SCALE"), (18, u "LOG2_ARRAY_FLOAT_INDEX_SCALE"), (24, u "LOG2_ARRAY_DOUBLE_INDEX_SCALE"), (89, u "T_BOOLEAN"), (2, u "T_CHAR"), (1, u "T_FLOAT"), (1, u "T_DOUBLE"), (1, u "T_BYTE"), (1, u "T_SHORT"), (1, u "T_INT"), (1, u "T_LONG"), (1, u "SOFT_MAX_ARRAY_LENGTH")] 83

def k12m0 : Method := { name := "<init>", desc := "()V", sig := { parameters := [], returnType := none }, accessFlags := 2, code := none }
/-- jdk/internal/util/ArraysSupport -/
def k12 : Class := { plain "jdk/internal/util/ArraysSupport" (some 0) with
  accessFlags := 33
  interfaces := #[]
  cf := some (fileOf pool12 21 #[] #[{ accessFlags := 2, nameIndex := 9, descriptorIndex := 19, attributes := #[] }] 33 16 #[] #[{ accessFlags := 24, nameIndex := 28, descriptorIndex := 29, attributes := #[] }, { accessFlags := 26, nameIndex := 38, descriptorIndex := 39, attributes := #[] }, { accessFlags := 25, nameIndex := 121, descriptorIndex := 25, attributes := #[] }, { accessFlags := 25, nameIndex := 131, descriptorIndex := 25, attributes := #[] }, { accessFlags := 25, nameIndex := 137, descriptorIndex := 25, attributes := #[] }, { accessFlags := 25, nameIndex := 143, descriptorIndex := 25, attributes := #[] }, { accessFlags := 25, nameIndex := 53, descriptorIndex := 25, attributes := #[] }, { accessFlags := 25, nameIndex := 24, descriptorIndex := 25, attributes := #[] }, { accessFlags := 25, nameIndex := 162, descriptorIndex := 25, attributes := #[] }, { accessFlags := 25, nameIndex := 187, descriptorIndex := 25, attributes := #[] }, { accessFlags := 26, nameIndex := 48, descriptorIndex := 25, attributes := #[] }, { accessFlags := 25, nameIndex := 277, descriptorIndex := 25, attributes := #[] }, { accessFlags := 25, nameIndex := 280, descriptorIndex := 25, attributes := #[] }, { accessFlags := 25, nameIndex := 282, descriptorIndex := 25, attributes := #[] }, { accessFlags := 25, nameIndex := 284, descriptorIndex := 25, attributes := #[] }, { accessFlags := 25, nameIndex := 286, descriptorIndex := 25, attributes := #[] }, { accessFlags := 25, nameIndex := 288, descriptorIndex := 25, attributes := #[] }, { accessFlags := 25, nameIndex := 290, descriptorIndex := 25, attributes := #[] }, { accessFlags := 25, nameIndex := 292, descriptorIndex := 25, attributes := #[] }, { accessFlags := 26, nameIndex := 108, descriptorIndex := 109, attributes := #[] }, { accessFlags := 25, nameIndex := 294, descriptorIndex := 25, attributes := #[] }])
  fields := #[{ name := "U", type := (.object "jdk/internal/misc/Unsafe"), accessFlags := 24, slot := 0, constantValue := 0 }, { name := "BIG_ENDIAN", type := .boolean, accessFlags := 26, slot := 1, constantValue := 0 }, { name := "LOG2_ARRAY_BOOLEAN_INDEX_SCALE", type := .int, accessFlags := 25, slot := 2, constantValue := 0 }, { name := "LOG2_ARRAY_BYTE_INDEX_SCALE", type := .int, accessFlags := 25, slot := 3, constantValue := 0 }, { name := "LOG2_ARRAY_CHAR_INDEX_SCALE", type := .int, accessFlags := 25, slot := 4, constantValue := 0 }, { name := "LOG2_ARRAY_SHORT_INDEX_SCALE", type := .int, accessFlags := 25, slot := 5, constantValue := 0 }, { name := "LOG2_ARRAY_INT_INDEX_SCALE", type := .int, accessFlags := 25, slot := 6, constantValue := 0 }, { name := "LOG2_ARRAY_LONG_INDEX_SCALE", type := .int, accessFlags := 25, slot := 7, constantValue := 0 }, { name := "LOG2_ARRAY_FLOAT_INDEX_SCALE", type := .int, accessFlags := 25, slot := 8, constantValue := 0 }, { name := "LOG2_ARRAY_DOUBLE_INDEX_SCALE", type := .int, accessFlags := 25, slot := 9, constantValue := 0 }, { name := "LOG2_BYTE_BIT_SIZE", type := .int, accessFlags := 26, slot := 10, constantValue := 0 }, { name := "T_BOOLEAN", type := .int, accessFlags := 25, slot := 11, constantValue := 0 }, { name := "T_CHAR", type := .int, accessFlags := 25, slot := 12, constantValue := 0 }, { name := "T_FLOAT", type := .int, accessFlags := 25, slot := 13, constantValue := 0 }, { name := "T_DOUBLE", type := .int, accessFlags := 25, slot := 14, constantValue := 0 }, { name := "T_BYTE", type := .int, accessFlags := 25, slot := 15, constantValue := 0 }, { name := "T_SHORT", type := .int, accessFlags := 25, slot := 16, constantValue := 0 }, { name := "T_INT", type := .int, accessFlags := 25, slot := 17, constantValue := 0 }, { name := "T_LONG", type := .int, accessFlags := 25, slot := 18, constantValue := 0 }, { name := "JLA", type := (.object "jdk/internal/access/JavaLangAccess"), accessFlags := 26, slot := 19, constantValue := 0 }, { name := "SOFT_MAX_ARRAY_LENGTH", type := .int, accessFlags := 25, slot := 20, constantValue := 0 }]
  methods := #[k12m0]
  instanceTypes := #[]
  staticTypes := #[(.object "jdk/internal/misc/Unsafe"), .boolean, .int, .int, .int, .int, .int, .int, .int, .int, .int, .int, .int, .int, .int, .int, .int, .int, .int, (.object "jdk/internal/access/JavaLangAccess"), .int]
  resolved := Array.replicate 378 none
  statics := none }

def pool13 : Array CpInfo := pool [(1, u "java/lang/Cloneable"), (0, .class_ 1), (0, u "java/lang/Object"), (0, .class_ 3)] 3

/-- java/lang/Cloneable -/
def k13 : Class := { plain "java/lang/Cloneable" (some 0) with
  accessFlags := 1537
  interfaces := #[]
  cf := some (fileOf pool13 2 #[] #[] 1537 4 #[] #[])
  fields := #[]
  methods := #[]
  instanceTypes := #[]
  staticTypes := #[]
  resolved := Array.replicate 8 none
  statics := none }

/-- the primitive byte -/
def k14 : Class := { plain "byte" none with kind := .primitive 'B', accessFlags := 0x411 }
/-- [B -/
def k15 : Class := { plain "[B" (some 0) with kind := .array 14 .byte, interfaces := #[13, 4], accessFlags := 1041 }

/-- the primitive int -/
def k16 : Class := { plain "int" none with kind := .primitive 'I', accessFlags := 0x411 }
/-- [I -/
def k17 : Class := { plain "[I" (some 0) with kind := .array 16 .int, interfaces := #[13, 4], accessFlags := 1041 }

def heap : Heap := #[{ cls := 6, slots := #[.ref 5, .ref 8, .ref 11, .ref 14, .ref 17, .ref 20, .int 0, .null], vm := .statics 6 },
  { cls := 9, slots := #[.long 0, .int 1, .null, .int 0, .null, .int 0, .int 0], vm := .statics 9 },
  { cls := 11, slots := #[.null, .null, .null], vm := .statics 11 },
  { cls := 15, slots := #[.int 110], vm := .none },
  { cls := 9, slots := #[.ref 3, .int 0, .int 0, .int 0], vm := .none },
  { cls := 6, slots := #[.null, .int 0, .int 0, .ref 4, .null, .int 0, .null, .null], vm := .none },
  { cls := 15, slots := #[.int 97, .int 110], vm := .none },
  { cls := 9, slots := #[.ref 6, .int 0, .int 0, .int 0], vm := .none },
  { cls := 6, slots := #[.null, .int 1, .int 0, .ref 7, .null, .int 0, .null, .null], vm := .none },
  { cls := 15, slots := #[.int 97, .int 110, .int 115], vm := .none },
  { cls := 9, slots := #[.ref 9, .int 0, .int 0, .int 0], vm := .none },
  { cls := 6, slots := #[.null, .int 2, .int 0, .ref 10, .null, .int 0, .null, .null], vm := .none },
  { cls := 15, slots := #[.int 122], vm := .none },
  { cls := 9, slots := #[.ref 12, .int 0, .int 0, .int 0], vm := .none },
  { cls := 6, slots := #[.null, .int 3, .int 0, .ref 13, .null, .int 0, .null, .null], vm := .none },
  { cls := 15, slots := #[.int 98], vm := .none },
  { cls := 9, slots := #[.ref 15, .int 0, .int 0, .int 0], vm := .none },
  { cls := 6, slots := #[.null, .int 4, .int 0, .ref 16, .null, .int 0, .null, .null], vm := .none },
  { cls := 15, slots := #[.int 120, .int 43, .int 110], vm := .none },
  { cls := 9, slots := #[.ref 18, .int 0, .int 0, .int 0], vm := .none },
  { cls := 6, slots := #[.null, .int 5, .int 0, .ref 19, .null, .int 0, .null, .null], vm := .none }]
def classes : Array Class := #[k0, k1, k2, k3, k4, k5, k6, k7, k8, k9, k10, k11, k12, k13, k14, k15, k16, k17]
def interned : List (Array UInt16 × Addr) := []
def slotsUsed : Nat := 101
def theMethod : MethodId := ⟨1, 2⟩
def args0 : Array Value := #[.int 5]
def aboutOver (below : List Frame) : State where
  vm := { classes := classes, interned := interned.toArray }
  heap := heap
  slotsUsed := slotsUsed
  threads := #[{ frames := .invoking theMethod args0 :: below }]
def below0 : List Frame := [.native { method := ⟨0, 0⟩, args := #[] }]
def about1 : State := aboutOver below0
def p0 : Program := .bare "" "" ""
def e0 : Env := launch0.env 0 0 0
theorem w_frames : about1.frames = Frame.invoking theMethod args0 :: below0 := rfl
set_option maxRecDepth 65536 in
theorem w_args : argsFit about1.vm theMethod args0 = true := by decide +kernel
set_option maxRecDepth 65536 in
theorem w_heap : heapFits about1 = true := by decide +kernel
set_option maxRecDepth 65536 in
theorem w_runnable : about1.curStatus? = some .runnable := by decide +kernel
set_option maxRecDepth 65536 in
theorem w_alone : about1.alone = true := by decide +kernel
set_option maxRecDepth 65536 in
theorem w_named : about1.methodNamed? x = some theMethod := by decide +kernel
set_option maxRecDepth 65536 in
theorem w_hears : about1.hears theMethod below0 = true := by decide +kernel
set_option maxRecDepth 65536 in
theorem w_ripe : about1.ripe theMethod args0 below0 = true := by decide +kernel
theorem w_running : about1.status = .running := rfl
set_option maxRecDepth 65536 in
theorem w_room : about1.hasRoom e0.platform room_1 = true :=
  launch0.hasRoom_least _ room_1 (by decide +kernel) (by decide +kernel) (by decide +kernel) (by decide +kernel) (by decide +kernel) (by decide +kernel)
theorem allAtoms_all (ts : List Jvm.Cond) (a : Array Jvm.Value) (st : Jvm.State) : (allAtoms ts).before a st = ts.all (fun c => c.before a st) := by
  induction ts with
  | nil => rfl
  | cons c t ih =>
    show (Jvm.Cond.and c (allAtoms t)).before a st = _
    rw [Jvm.Cond.before_and, ih, List.all_cons]
def words1 : List Jvm.Cond := Jvm.Cond.code x code maxLocals ret :: tables_1
/-- a 'code' word, met by the world's own term for the bytes: nothing is compared byte by byte -/
theorem code_word {y : MethodName} {bytes : ByteArray} {mx : Nat} {rt : Option FieldType} {a : Array Value} {s : State} {m : MethodId} {meth : Method} {c : Code} (h1 : s.methodNamed? y = some m) (h2 : s.vm.method? m = some meth) (h3 : meth.code = some c) (h4 : c.code = bytes)
    (h5 : (c.maxLocals == mx && c.exceptionTable.isEmpty && decide (c.maxStack ≤ mostOperands) && decide (meth.sig.returnType = rt) && !meth.locks && decide (parseMethodDescriptor y.desc = some meth.sig)) = true) : (Jvm.Cond.code y bytes mx rt).before a s = true := by
  simp only [Bool.and_eq_true, beq_iff_eq, Bool.not_eq_true', decide_eq_true_eq] at h5
  obtain ⟨⟨⟨⟨⟨g1, g2⟩, g3⟩, g4⟩, g5⟩, g6⟩ := h5
  simp [Cond.before, Cond.holds, Cond.value, h1, h2, h3, h4, g1, g2, g3, g4, g5, g6]
def isCode : Jvm.Cond → Bool
  | .code _ _ _ _ => true
  | _ => false
theorem all_split {L : List Jvm.Cond} {P : Jvm.Cond → Bool} (h1 : L.all (fun c => isCode c || P c) = true) (h2 : ∀ c ∈ L.filter isCode, P c = true) : L.all P = true := by
  refine List.all_eq_true.mpr fun c hc => ?_
  have h := List.all_eq_true.mp h1 c hc
  rcases Bool.eq_false_or_eq_true (isCode c) with hi | hi
  · exact h2 c (List.mem_filter.mpr ⟨hc, hi⟩)
  · simpa [hi] using h
set_option maxRecDepth 65536 in
theorem w_c0 : (Jvm.Cond.code x code maxLocals ret).before args0 about1 = true := code_word (m := ⟨1, 2⟩) (meth := k1m2) (c := k1c2) (by decide +kernel) rfl rfl rfl (by decide +kernel)
set_option maxRecDepth 65536 in
theorem w_c1 : (Jvm.Cond.code ({ cls := "com/example/cardwire/cardwire/core/AttributeFillsPinLaw", name := "pick", desc := "(I)Lcom/example/cardwire/cardwire/core/Attribute;" } : Jvm.MethodName) method_2_code (1 : Nat) (Option.some (Jvm.ClassFile.FieldType.object "com/example/cardwire/cardwire/core/Attribute"))).before args0 about1 = true := code_word (m := ⟨1, 1⟩) (meth := k1m1) (c := k1c1) (by decide +kernel) rfl rfl rfl (by decide +kernel)
set_option maxRecDepth 65536 in
theorem w_c2 : (Jvm.Cond.code ({ cls := "com/example/cardwire/cardwire/core/Attribute", name := "code", desc := "()Ljava/lang/String;" } : Jvm.MethodName) prog_67_method_8_code (1 : Nat) (Option.some (Jvm.ClassFile.FieldType.object "java/lang/String"))).before args0 about1 = true := code_word (m := ⟨6, 0⟩) (meth := k6m0) (c := k6c0) (by decide +kernel) rfl rfl rfl (by decide +kernel)
set_option maxRecDepth 65536 in
theorem w_c3 : (Jvm.Cond.code ({ cls := "java/lang/String", name := "equals", desc := "(Ljava/lang/Object;)Z" } : Jvm.MethodName) jdk_42_method_66_code (3 : Nat) (Option.some Jvm.ClassFile.FieldType.boolean)).before args0 about1 = true := code_word (m := ⟨9, 1⟩) (meth := k9m1) (c := k9c1) (by decide +kernel) rfl rfl rfl (by decide +kernel)
set_option maxRecDepth 65536 in
theorem w_c4 : (Jvm.Cond.code ({ cls := "java/lang/StringLatin1", name := "equals", desc := "([B[B)Z" } : Jvm.MethodName) jdk_43_method_13_code (3 : Nat) (Option.some Jvm.ClassFile.FieldType.boolean)).before args0 about1 = true := code_word (m := ⟨10, 1⟩) (meth := k10m1) (c := k10c1) (by decide +kernel) rfl rfl rfl (by decide +kernel)
set_option maxRecDepth 65536 in
theorem w_c5 : (Jvm.Cond.code ({ cls := "com/example/cardwire/cardwire/core/Attribute", name := "fills", desc := "()Z" } : Jvm.MethodName) prog_67_method_12_code (1 : Nat) (Option.some Jvm.ClassFile.FieldType.boolean)).before args0 about1 = true := code_word (m := ⟨6, 1⟩) (meth := k6m1) (c := k6c1) (by decide +kernel) rfl rfl rfl (by decide +kernel)
def codes1 : List Jvm.Cond := [Jvm.Cond.code x code maxLocals ret, Jvm.Cond.code ({ cls := "com/example/cardwire/cardwire/core/AttributeFillsPinLaw", name := "pick", desc := "(I)Lcom/example/cardwire/cardwire/core/Attribute;" } : Jvm.MethodName) method_2_code (1 : Nat) (Option.some (Jvm.ClassFile.FieldType.object "com/example/cardwire/cardwire/core/Attribute")), Jvm.Cond.code ({ cls := "com/example/cardwire/cardwire/core/Attribute", name := "code", desc := "()Ljava/lang/String;" } : Jvm.MethodName) prog_67_method_8_code (1 : Nat) (Option.some (Jvm.ClassFile.FieldType.object "java/lang/String")), Jvm.Cond.code ({ cls := "java/lang/String", name := "equals", desc := "(Ljava/lang/Object;)Z" } : Jvm.MethodName) jdk_42_method_66_code (3 : Nat) (Option.some Jvm.ClassFile.FieldType.boolean), Jvm.Cond.code ({ cls := "java/lang/StringLatin1", name := "equals", desc := "([B[B)Z" } : Jvm.MethodName) jdk_43_method_13_code (3 : Nat) (Option.some Jvm.ClassFile.FieldType.boolean), Jvm.Cond.code ({ cls := "com/example/cardwire/cardwire/core/Attribute", name := "fills", desc := "()Z" } : Jvm.MethodName) prog_67_method_12_code (1 : Nat) (Option.some Jvm.ClassFile.FieldType.boolean)]
set_option maxRecDepth 65536 in
theorem codes_eq : words1.filter isCode = codes1 := rfl
theorem w_codes : ∀ c ∈ words1.filter isCode, c.before args0 about1 = true := by
  rw [codes_eq]
  intro c hc
  simp only [codes1, List.mem_cons, List.not_mem_nil, or_false] at hc
  rcases hc with rfl | rfl | rfl | rfl | rfl | rfl
  · exact w_c0
  · exact w_c1
  · exact w_c2
  · exact w_c3
  · exact w_c4
  · exact w_c5
set_option maxRecDepth 65536 in
theorem w_t1 : (words1.take 24).all (fun c => isCode c || c.before args0 about1) = true := by decide +kernel
set_option maxRecDepth 65536 in
theorem w_t2 : ((words1.drop 24).take 24).all (fun c => isCode c || c.before args0 about1) = true := by decide +kernel
set_option maxRecDepth 65536 in
theorem w_t3 : ((words1.drop 24).drop 24).all (fun c => isCode c || c.before args0 about1) = true := by decide +kernel
theorem w_tables : (allAtoms (Jvm.Cond.code x code maxLocals ret :: tables_1)).before args0 about1 = true := by
  rw [allAtoms_all]
  show words1.all (fun c => c.before args0 about1) = true
  refine all_split ?_ w_codes
  rw [← List.take_append_drop 24 words1, List.all_append, w_t1, ← List.take_append_drop 24 (words1.drop 24), List.all_append, w_t2, w_t3]
  rfl
set_option maxRecDepth 65536 in
theorem w_rest : rest_1_c.before args0 about1 = true := by decide +kernel
set_option maxRecDepth 65536 in
theorem w_case : (Jvm.Cond.and given_1 narrow_1).before args0 about1 = true := by decide +kernel
set_option maxRecDepth 65536 in
theorem w_consts : constsHeld consts_1 about1 := Jvm.Lit.constsHeldB_iff.mp (by decide +kernel)
theorem w_applies : (headSpec (Jvm.Cond.code x code maxLocals ret :: tables_1) room_1).applies x e0.platform about1 = true :=
  (Spec.applies_iff w_frames).mpr ⟨w_running, w_runnable, w_alone, w_named, w_hears, w_ripe, w_room, w_tables⟩
theorem atStart : AtStart classFile x code maxLocals ret World_1 tables_1 room_1 Calls_1 rest_1 Pre_1 launch0 p0 e0 about1 theMethod args0 below0 :=
  ⟨lists_1, trivial, launch0.admits_env _ _ _, launch0.least_env, fairChoices_fair.cas, fairChoices_fair.clock, w_frames, w_args, w_heap, w_applies, ⟨w_consts, trivial⟩, w_rest, w_case⟩
end start1
theorem witness_1 : WitnessClaimed_1 := ⟨start1.p0, start1.e0, start1.about1, start1.theMethod, start1.args0, start1.below0, start1.atStart⟩
end Jvm.Pilot.@@N@@
