import JvmDerived
import JvmDerived.Pilot.@@N@@Statement
import JvmDerived.Pilot.@@N@@Code
set_option linter.unusedVariables false
set_option linter.unusedSimpArgs false
@@BLOCK:NumsL.lean.txt@@
namespace Jvm.RoadKit
open Sem ClassFile Op Lib Jvm.Stand Jvm.Free Jvm.LawKit
section Own
variable {p : Program} {l : Launch} {e : Env} {R : Room} {s : State} {m : MethodId} {args : Array Value} {below : List Frame} {meth : Method} {c : Code} {T : State} {locs : List Loc} {cells slots : Nat}
/-- from U the run comes to a state of which G holds -/
def Gets (p : Program) (e : Env) (below : List Frame) (G : State → Prop) (U : State) : Prop := ∃ t, Steps p.tables e below U t ∧ G t
theorem Gets.of {G : State → Prop} {U U' : State} (k : ∀ t, Steps p.tables e below U' t → Steps p.tables e below U t) (h : Gets p e below G U') : Gets p e below G U := by
  obtain ⟨t, a, b⟩ := h; exact ⟨t, k t a, b⟩
theorem Gets.tr {G : State → Prop} {U U' : State} (k : Steps p.tables e below U U') (h : Gets p e below G U') : Gets p e below G U := by
  obtain ⟨t, a, b⟩ := h; exact ⟨t, k.trans a, b⟩
/-- what is owed at the end of a body -/
def Out (Q : Option Value → Heap → List Loc → Prop) (s : State) (below : List Frame) (C S : Nat) (t : State) : Prop := ∃ o, t.status = .running ∧ Ended t below o ∧ ∃ v L, o = .returned v ∧ Q v t.heap L ∧ FrameEnd s o t L C S
theorem Gets.out {Q : Option Value → Heap → List Loc → Prop} {C S : Nat} {U : State} (h : Gets p e below (Out Q s below C S) U) : ∃ s₂ o, Steps p.tables e below U s₂ ∧ s₂.status = .running ∧ Ended s₂ below o ∧ ∃ v L, o = .returned v ∧ Q v s₂.heap L ∧ FrameEnd s o s₂ L C S := by
  obtain ⟨t, a, o, b⟩ := h; exact ⟨t, o, a, b⟩
theorem Gets.fin {Q : Option Value → Heap → List Loc → Prop} {C S : Nat} {U : State} (X : Stand p l e R s m args below meth c T locs cells slots) {v : Option Value} (hv : meth.sig.returnType = none → v = none) (hlk : meth.locks = false)
    (k : ∀ fs, (∀ (f : JFrame) (acts : List Action), f.method = m → f.locked = none → f.entered = [] → (doReturn e (T.setTop f) acts v).1 = T.setFrames fs) → Steps p.tables e below U (T.setFrames fs)) (hQ : Q v T.heap locs) (h1 : cells ≤ C) (h2 : slots ≤ S) : Gets p e below (Out Q s below C S) U := by
  obtain ⟨fs, hr, hrun, hended, hW, hsame⟩ := X.leave (v := v) hv hlk
  exact ⟨_, k fs hr, _, hrun, hended, _, _, rfl, hQ, ⟨_, rfl⟩, hW, hsame.mono h1 h2⟩
theorem retI0 (X : Stand p l e R s m args below meth c T locs cells slots) (hx : p.tables.exec = Jvm.exec) {pc : Nat} {Ls : Array Slot} {z : Int32} {rest : List Value} (hret : meth.sig.returnType = some .int) (hd : decode c.code pc = .ok (.ireturn, 1)) {fs : List Frame}
    (hl : ∀ (f : JFrame) (acts : List Action), f.method = m → f.locked = none → f.entered = [] → (doReturn e (T.setTop f) acts (some (.int z))).1 = T.setFrames fs) : Steps p.tables e below (T.setTop (mkF m pc Ls (.int z :: rest))) (T.setFrames fs) :=
  retOut X hx hret rfl (Or.inl ⟨rfl, Or.inl rfl, z, rfl⟩) hd hl
theorem Gets.retI {Q : Option Value → Heap → List Loc → Prop} {C S : Nat} (X : Stand p l e R s m args below meth c T locs cells slots) (hx : p.tables.exec = Jvm.exec) {pc : Nat} {Ls : Array Slot} {z : Int32} {rest : List Value} (hret : meth.sig.returnType = some .int) (hd : decode c.code pc = .ok (.ireturn, 1))
    (hQ : Q (some (.int z)) T.heap locs) (h1 : cells ≤ C) (h2 : slots ≤ S) (hlk : meth.locks = false := by assumption) : Gets p e below (Out Q s below C S) (T.setTop (mkF m pc Ls (.int z :: rest))) :=
  Gets.fin X (fun h => by rw [hret] at h; cases h) hlk (fun fs hr => retI0 X hx hret hd hr) hQ h1 h2
theorem Gets.retN {Q : Option Value → Heap → List Loc → Prop} {C S : Nat} (X : Stand p l e R s m args below meth c T locs cells slots) (hx : p.tables.exec = Jvm.exec) {pc : Nat} {Ls : Array Slot} {z : Int32} {t : FieldType} {rest : List Value} (hret : meth.sig.returnType = some t) (ht : t = .boolean ∨ t = .byte ∨ t = .char ∨ t = .short) (hd : decode c.code pc = .ok (.ireturn, 1))
    (hQ : Q (some (.int (nar t z))) T.heap locs) (h1 : cells ≤ C) (h2 : slots ≤ S) (hlk : meth.locks = false := by assumption) : Gets p e below (Out Q s below C S) (T.setTop (mkF m pc Ls (.int z :: rest))) :=
  Gets.fin X (fun h => by rw [hret] at h; cases h) hlk (fun fs hr => Jvm.RoadKit.retN X hx hret ht hd hr) hQ h1 h2
theorem Gets.retJ {Q : Option Value → Heap → List Loc → Prop} {C S : Nat} (X : Stand p l e R s m args below meth c T locs cells slots) (hx : p.tables.exec = Jvm.exec) {pc : Nat} {Ls : Array Slot} {z : Int64} {rest : List Value} (hret : meth.sig.returnType = some .long) (hd : decode c.code pc = .ok (.lreturn, 1))
    (hQ : Q (some (.long z)) T.heap locs) (h1 : cells ≤ C) (h2 : slots ≤ S) (hlk : meth.locks = false := by assumption) : Gets p e below (Out Q s below C S) (T.setTop (mkF m pc Ls (.long z :: rest))) :=
  Gets.fin X (fun h => by rw [hret] at h; cases h) hlk (fun fs hr => retOut X hx hret rfl (Or.inr (Or.inl ⟨rfl, rfl, z, rfl⟩)) hd hr) hQ h1 h2
theorem Gets.retA {Q : Option Value → Heap → List Loc → Prop} {C S : Nat} (X : Stand p l e R s m args below meth c T locs cells slots) (hx : p.tables.exec = Jvm.exec) {pc : Nat} {Ls : Array Slot} {w : Value} {t : FieldType} {rest : List Value} (hret : meth.sig.returnType = some t) (ht : t.isReference = true) (hw : w.isRef = true) (hd : decode c.code pc = .ok (.areturn, 1))
    (hQ : Q (some w) T.heap locs) (h1 : cells ≤ C) (h2 : slots ≤ S) (hlk : meth.locks = false := by assumption) : Gets p e below (Out Q s below C S) (T.setTop (mkF m pc Ls (w :: rest))) :=
  Gets.fin X (fun h => by rw [hret] at h; cases h) hlk (fun fs hr => retOut X hx hret (by cases t <;> first | (cases ht; done) | (cases w <;> first | rfl | (cases hw))) (Or.inr (Or.inr (Or.inr (Or.inr ⟨rfl, ht, hw⟩)))) hd hr) hQ h1 h2
theorem Gets.retV {Q : Option Value → Heap → List Loc → Prop} {C S : Nat} (X : Stand p l e R s m args below meth c T locs cells slots) (hx : p.tables.exec = Jvm.exec) {pc : Nat} {Ls : Array Slot} (hret : meth.sig.returnType = none) (hd : decode c.code pc = .ok (.return_, 1))
    (hQ : Q none T.heap locs) (h1 : cells ≤ C) (h2 : slots ≤ S) (hlk : meth.locks = false := by assumption) : Gets p e below (Out Q s below C S) (T.setTop (mkF m pc Ls [])) :=
  Gets.fin X (fun _ => rfl) hlk (fun fs hr => X.returnOut hx hret hd hr) hQ h1 h2
/-- what is owed at the end of a body that may load String constants -/
def OutW (Q : Option Value → Heap → List Loc → Prop) (s : State) (below : List Frame) (C S : Nat) (t : State) : Prop := ∃ o, t.status = .running ∧ Ended t below o ∧ ∃ v L, o = .returned v ∧ Q v t.heap L ∧ ReturnedEndW s o t L C S
theorem GetsW.out {Q : Option Value → Heap → List Loc → Prop} {C S : Nat} {U : State} (h : Gets p e below (OutW Q s below C S) U) : ∃ s₂ o, Steps p.tables e below U s₂ ∧ s₂.status = .running ∧ Ended s₂ below o ∧ ∃ v L, o = .returned v ∧ Q v s₂.heap L ∧ ReturnedEndW s o s₂ L C S := by
  obtain ⟨t, a, o, b⟩ := h; exact ⟨t, o, a, b⟩
theorem GetsW.fin {Q : Option Value → Heap → List Loc → Prop} {C S : Nat} {U : State} {vm₁ : Vm} (X : Stand p l e R (s.setVm vm₁) m args below meth c T locs cells slots) {n : Nat} (hS : s.Since vm₁ n) (hn : n ≤ T.heap.size) {v : Option Value} (hv : meth.sig.returnType = none → v = none) (hlk : meth.locks = false)
    (k : ∀ fs, (∀ (f : JFrame) (acts : List Action), f.method = m → f.locked = none → f.entered = [] → (doReturn e (T.setTop f) acts v).1 = T.setFrames fs) → Steps p.tables e below U (T.setFrames fs)) (hQ : Q v T.heap locs) (h1 : cells ≤ C) (h2 : slots ≤ S) : Gets p e below (OutW Q s below C S) U := by
  obtain ⟨fs, hr, hrun, hended, w1, w2, w3, w4⟩ := X.leaveW hS hn (v := v) hv hlk
  exact ⟨_, k fs hr, _, hrun, hended, _, _, rfl, hQ, w1, w2, w3, w4.mono h1 h2⟩
theorem GetsW.retN {Q : Option Value → Heap → List Loc → Prop} {C S : Nat} {vm₁ : Vm} (X : Stand p l e R (s.setVm vm₁) m args below meth c T locs cells slots) (hx : p.tables.exec = Jvm.exec) {pc : Nat} {Ls : Array Slot} {z : Int32} {t : FieldType} {rest : List Value} (hret : meth.sig.returnType = some t) (ht : t = .boolean ∨ t = .byte ∨ t = .char ∨ t = .short) (hd : decode c.code pc = .ok (.ireturn, 1)) {n : Nat} (hS : s.Since vm₁ n) (hn : n ≤ T.heap.size)
    (hQ : Q (some (.int (nar t z))) T.heap locs) (h1 : cells ≤ C) (h2 : slots ≤ S) (hlk : meth.locks = false := by assumption) : Gets p e below (OutW Q s below C S) (T.setTop (mkF m pc Ls (.int z :: rest))) :=
  GetsW.fin X hS hn (fun h => by rw [hret] at h; cases h) hlk (fun fs hr => Jvm.RoadKit.retN X hx hret ht hd hr) hQ h1 h2
theorem GetsW.retI {Q : Option Value → Heap → List Loc → Prop} {C S : Nat} {vm₁ : Vm} (X : Stand p l e R (s.setVm vm₁) m args below meth c T locs cells slots) (hx : p.tables.exec = Jvm.exec) {pc : Nat} {Ls : Array Slot} {z : Int32} {rest : List Value} (hret : meth.sig.returnType = some .int) (hd : decode c.code pc = .ok (.ireturn, 1)) {n : Nat} (hS : s.Since vm₁ n) (hn : n ≤ T.heap.size)
    (hQ : Q (some (.int z)) T.heap locs) (h1 : cells ≤ C) (h2 : slots ≤ S) (hlk : meth.locks = false := by assumption) : Gets p e below (OutW Q s below C S) (T.setTop (mkF m pc Ls (.int z :: rest))) :=
  GetsW.fin X hS hn (fun h => by rw [hret] at h; cases h) hlk (fun fs hr => retI0 X hx hret hd hr) hQ h1 h2
theorem GetsW.retA {Q : Option Value → Heap → List Loc → Prop} {C S : Nat} {vm₁ : Vm} (X : Stand p l e R (s.setVm vm₁) m args below meth c T locs cells slots) (hx : p.tables.exec = Jvm.exec) {pc : Nat} {Ls : Array Slot} {w : Value} {t : FieldType} {rest : List Value} (hret : meth.sig.returnType = some t) (ht : t.isReference = true) (hw : w.isRef = true) (hd : decode c.code pc = .ok (.areturn, 1)) {n : Nat} (hS : s.Since vm₁ n) (hn : n ≤ T.heap.size)
    (hQ : Q (some w) T.heap locs) (h1 : cells ≤ C) (h2 : slots ≤ S) (hlk : meth.locks = false := by assumption) : Gets p e below (OutW Q s below C S) (T.setTop (mkF m pc Ls (w :: rest))) :=
  GetsW.fin X hS hn (fun h => by rw [hret] at h; cases h) hlk (fun fs hr => retOut X hx hret (by cases t <;> first | (cases ht; done) | (cases w <;> first | rfl | (cases hw))) (Or.inr (Or.inr (Or.inr (Or.inr ⟨rfl, ht, hw⟩)))) hd hr) hQ h1 h2
theorem GetsW.retV {Q : Option Value → Heap → List Loc → Prop} {C S : Nat} {vm₁ : Vm} (X : Stand p l e R (s.setVm vm₁) m args below meth c T locs cells slots) (hx : p.tables.exec = Jvm.exec) {pc : Nat} {Ls : Array Slot} (hret : meth.sig.returnType = none) (hd : decode c.code pc = .ok (.return_, 1)) {n : Nat} (hS : s.Since vm₁ n) (hn : n ≤ T.heap.size)
    (hQ : Q none T.heap locs) (h1 : cells ≤ C) (h2 : slots ≤ S) (hlk : meth.locks = false := by assumption) : Gets p e below (OutW Q s below C S) (T.setTop (mkF m pc Ls [])) :=
  GetsW.fin X hS hn (fun _ => rfl) hlk (fun fs hr => X.returnOut hx hret hd hr) hQ h1 h2
/-- the payer of a callee that may load String constants, the constants' invariant handed over at its start -/
theorem own_backC {Z : State} {a0 : Array Value} {EL : List (String × Nat)} {h : Heap} {vm0 : Vm} {y : MethodName} {bytes : ByteArray} {maxL : Nat} {ret : Option FieldType} {rm : Room} {len W : Nat} {as' : Array Value} {Q : Option Value → Heap → List Loc → Prop}
    (hM : MetFree l y (head1 [Cond.code y bytes maxL ret] rm) (fun a U => a = as' ∧ Z.Warmed39 U.vm ∧ U.heap = h ∧ CHv Z EL U.vm h) (fun _ _ _ _ _ => True) (fun _ U o U' => ∃ v L, o = .returned v ∧ Q v U'.heap L ∧ ReturnedEndW U o U' L rm.cells rm.slots))
    (hZ : Z.Warmed39 vm0) (wc : (Cond.code y bytes maxL ret).before a0 Z = true) (wz : (Cond.initialized y.cls).before a0 Z = true) (hf : rm.frames + 1 ≤ R.frames) (hl : W + (maxL + 11) + rm.locals ≤ R.locals) (hEL : EW Z a0 EL) (H : CHv Z EL vm0 h) :
    BackS l R p e below (s.setVm vm0) args y len W (fun A a => a = as' ∧ A.U.heap = h ∧ A.cells + rm.cells ≤ R.cells ∧ A.slots + rm.slots ≤ R.slots)
      (fun A _ v B => ∃ L, Q v B.U.heap L ∧ B.locs = A.locs ++ L ∧ B.cells = A.cells + rm.cells ∧ B.slots = A.slots + rm.slots) := by
  refine BackS.of_freeW (bytes := bytes) (maxL := maxL) (ret := ret) (E := fun _ _ o t L k n => k = rm.cells ∧ n = rm.slots ∧ ∃ v, o = .returned v ∧ Q v t.heap L) hM hf hl ?_ ?_ (fun _ _ _ _ _ _ _ _ _ => trivial) ?_ ?_
  · intro m meth c A a Y hp
    have hU : Z.Warmed39 A.U.vm := wtrans (s := s.setVm vm0) hZ Y.warmed
    exact ⟨by show (Cond.and _ .tt).before a A.U = true; rw [Cond.before_and, mv hU wc]; rfl, mv hU wc, mv hU wz, hp.2.2.1, hp.2.2.2⟩
  · intro m meth c A a g mk Y hp
    exact ⟨hp.1, wtrans (s := s.setVm vm0) hZ Y.warmed, hp.2.1, (CHv.at Y hZ hEL H).1⟩
  · rintro _ _ _ _ ⟨v, L, h1, h2, h3⟩
    exact ⟨L, _, _, h3, rfl, rfl, v, h1, h2⟩
  · rintro m meth c A a g mk v t L k n Y hp _ _ ⟨e1, e2, v', e3, e4⟩
    cases e3; subst e1 e2
    exact ⟨L, e4, rfl, rfl, rfl⟩
theorem own_mir {Z : State} {C : String} {mr : Addr} (hZ : Z.Warmed39 s.vm) (M : Mir Z C mr) : (Term.mirror C).eval args s none [] s = some (.ref mr) := by
  obtain ⟨c, k, h1, h2, h3, -⟩ := M
  obtain ⟨k', q, ek⟩ := hZ.alike.2.2 _ _ h2
  have h4 : s.vm.findClass C = some c := by rw [hZ.alike.findClass]; exact h1
  have h5 : k'.mirror = some mr := by rw [ek]; exact h3
  simp [Term.eval, h4, q, h5]
theorem own_catR {w : Value} (hw : w.isRef = true) : w.category = 1 := by
  cases w <;> first | rfl | cases hw
theorem own_narrow_ref {ty : FieldType} {w : Value} (hw : w.isRef = true) : narrow ty w = w := by
  rcases ref_cases hw with rfl | ⟨a, rfl⟩ <;> cases ty <;> rfl
theorem own_fits_obj {C : String} {w : Value} (hw : w.isRef = true) : fits (.object C) w = true := by
  rcases ref_cases hw with rfl | ⟨a, rfl⟩ <;> rfl
theorem own_fits_arr {t : FieldType} {w : Value} (hw : w.isRef = true) : fits (.array t) w = true := by
  rcases ref_cases hw with rfl | ⟨a, rfl⟩ <;> rfl
theorem own_NS_root {Z : State} {a0 : Array Value} {O K : String} {n : Nat} (w : (Cond.noSuperclass O).before a0 Z = true) (wk : (Cond.instantiable K n).before a0 Z = true) (hn : O ≠ K) : NS Z O K := by
  obtain ⟨c, k, h1, h2, h3, -, -⟩ := Cond.noSuperclass_spec w
  obtain ⟨t, kt, g1, -⟩ := Cond.instantiable_spec wk
  have ne := ids_ne h1 g1 hn
  refine ⟨c, t, h1, g1, fun fuel => ?_⟩
  cases fuel with
  | zero => rfl
  | succ f => simp [Vm.isSubclassAux, ne, h2, h3]
theorem own_NS_no {Z : State} {a0 : Array Value} {C S K : String} {n : Nat} (w : (Cond.superclass C S).before a0 Z = true) (wk : (Cond.instantiable K n).before a0 Z = true) (nn : NS Z C K) (hn : C ≠ K) : ∃ c t, Z.vm.findClass C = some c ∧ Z.vm.findClass K = some t ∧ Z.vm.assignable c t = false := by
  obtain ⟨c, t, h0, g0, n3⟩ := nn
  obtain ⟨p, k, kp, h1, h2, h3, h4, h5, -, h7⟩ := Cond.superclass_spec h0 w
  obtain ⟨t', kt, g1, g2, g3, g4, -⟩ := Cond.instantiable_spec wk
  cases g0.symm.trans g1
  have ne := ids_ne h0 g0 hn
  have g5 : kt.isInterface = false := by cases hq : kt.isInterface <;> simp_all
  refine ⟨c, t, h0, g0, ?_⟩
  show Z.vm.assignableAux (255 + 1) c t = false
  simp [Vm.assignableAux, ne, h2, g2, h5, g3, g5, Vm.isSubclass, n3]
end Own
end Jvm.RoadKit
namespace Jvm.Pilot.@@N@@
open Jvm Jvm.ClassFile Sem Op Lib Jvm.Free Jvm.Stand Jvm.LawKit Jvm.RoadKit Bundle Jvm.Pilot.@@N@@.Jvm.D
abbrev cn0 : String := "com/example/causeway/causeway/formats/XmlTextIsXmlCharPinLaw"
abbrev cn1 : String := "com/example/causeway/causeway/formats/XmlText"

def own_isX (c : Int32) : Prop := c.toInt = 9 ∨ c.toInt = 10 ∨ c.toInt = 13 ∨ (32 ≤ c.toInt ∧ c.toInt ≤ 55295) ∨ (57344 ≤ c.toInt ∧ c.toInt ≤ 65533) ∨ (65536 ≤ c.toInt ∧ c.toInt ≤ 1114111)
theorem own_getD (vs : List Int32) (k : Nat) : ∃ w, (vs.map Value.int).getD k (.int 0) = .int w := by
  induction vs generalizing k with
  | nil => exact ⟨0, by simp⟩
  | cons a l ih =>
    cases k with
    | zero => exact ⟨a, rfl⟩
    | succ k => obtain ⟨w, h⟩ := ih k; exact ⟨w, by simpa using h⟩
theorem own_and15 (x : Int32) : ¬ (x &&& (15 : Int32)) < 0 ∧ (x &&& (15 : Int32)) < (16 : Int32) := by
  have h : (x &&& 15).toInt = x.toInt % 2 ^ 4 := Jvm.Kit.i32_mask x 15 (k := 4) (by decide) (by decide)
  constructor
  · rw [Int32.lt_iff_toInt_lt, h]; simp only [Int32.reduceToInt]; omega
  · rw [Int32.lt_iff_toInt_lt, h]; simp only [Int32.reduceToInt]; omega
theorem d1_0 : decode prog_53_method_3_code 0 = .ok (.iload_n 0, 1) := by decide +kernel
theorem d1_1 : decode prog_53_method_3_code 1 = .ok (.bipush 9, 2) := by decide +kernel
theorem d1_3 : decode prog_53_method_3_code 3 = .ok (.if_icmp .eq 51, 3) := by decide +kernel
theorem d1_54 : decode prog_53_method_3_code 54 = .ok (.iconst 1, 1) := by decide +kernel
theorem d1_55 : decode prog_53_method_3_code 55 = .ok (.goto 4, 3) := by decide +kernel
theorem d1_59 : decode prog_53_method_3_code 59 = .ok (.ireturn, 1) := by decide +kernel
theorem d1_6 : decode prog_53_method_3_code 6 = .ok (.iload_n 0, 1) := by decide +kernel
theorem d1_7 : decode prog_53_method_3_code 7 = .ok (.bipush 10, 2) := by decide +kernel
theorem d1_9 : decode prog_53_method_3_code 9 = .ok (.if_icmp .eq 45, 3) := by decide +kernel
theorem d1_12 : decode prog_53_method_3_code 12 = .ok (.iload_n 0, 1) := by decide +kernel
theorem d1_13 : decode prog_53_method_3_code 13 = .ok (.bipush 13, 2) := by decide +kernel
theorem d1_15 : decode prog_53_method_3_code 15 = .ok (.if_icmp .eq 39, 3) := by decide +kernel
theorem d1_18 : decode prog_53_method_3_code 18 = .ok (.iload_n 0, 1) := by decide +kernel
theorem d1_19 : decode prog_53_method_3_code 19 = .ok (.bipush 32, 2) := by decide +kernel
theorem d1_21 : decode prog_53_method_3_code 21 = .ok (.if_icmp .lt 9, 3) := by decide +kernel
theorem d1_30 : decode prog_53_method_3_code 30 = .ok (.iload_n 0, 1) := by decide +kernel
theorem d1_31 : decode prog_53_method_3_code 31 = .ok (.ldc 62, 2) := by decide +kernel
theorem w19 {Z : State} {a0 : Array Value} (hw : ∀ d ∈ tables_1, d.before a0 Z = true) : (Jvm.Cond.constant cn1 (62 : Nat) (57344 : Int32)).before a0 Z = true := hw _ (List.mem_of_getElem? (i := 19) rfl)
theorem d1_33 : decode prog_53_method_3_code 33 = .ok (.if_icmp .lt 9, 3) := by decide +kernel
theorem d1_42 : decode prog_53_method_3_code 42 = .ok (.iload_n 0, 1) := by decide +kernel
theorem d1_43 : decode prog_53_method_3_code 43 = .ok (.ldc 64, 2) := by decide +kernel
theorem w20 {Z : State} {a0 : Array Value} (hw : ∀ d ∈ tables_1, d.before a0 Z = true) : (Jvm.Cond.constant cn1 (64 : Nat) (65536 : Int32)).before a0 Z = true := hw _ (List.mem_of_getElem? (i := 20) rfl)
theorem d1_45 : decode prog_53_method_3_code 45 = .ok (.if_icmp .lt 13, 3) := by decide +kernel
theorem d1_58 : decode prog_53_method_3_code 58 = .ok (.iconst 0, 1) := by decide +kernel
theorem d1_48 : decode prog_53_method_3_code 48 = .ok (.iload_n 0, 1) := by decide +kernel
theorem d1_49 : decode prog_53_method_3_code 49 = .ok (.ldc 65, 2) := by decide +kernel
theorem w23 {Z : State} {a0 : Array Value} (hw : ∀ d ∈ tables_1, d.before a0 Z = true) : (Jvm.Cond.constant cn1 (65 : Nat) (1114111 : Int32)).before a0 Z = true := hw _ (List.mem_of_getElem? (i := 23) rfl)
theorem d1_51 : decode prog_53_method_3_code 51 = .ok (.if_icmp .gt 7, 3) := by decide +kernel
theorem d1_36 : decode prog_53_method_3_code 36 = .ok (.iload_n 0, 1) := by decide +kernel
theorem d1_37 : decode prog_53_method_3_code 37 = .ok (.ldc 63, 2) := by decide +kernel
theorem w22 {Z : State} {a0 : Array Value} (hw : ∀ d ∈ tables_1, d.before a0 Z = true) : (Jvm.Cond.constant cn1 (63 : Nat) (65533 : Int32)).before a0 Z = true := hw _ (List.mem_of_getElem? (i := 22) rfl)
theorem d1_39 : decode prog_53_method_3_code 39 = .ok (.if_icmp .le 15, 3) := by decide +kernel
theorem d1_24 : decode prog_53_method_3_code 24 = .ok (.iload_n 0, 1) := by decide +kernel
theorem d1_25 : decode prog_53_method_3_code 25 = .ok (.ldc 61, 2) := by decide +kernel
theorem w21 {Z : State} {a0 : Array Value} (hw : ∀ d ∈ tables_1, d.before a0 Z = true) : (Jvm.Cond.constant cn1 (61 : Nat) (55295 : Int32)).before a0 Z = true := hw _ (List.mem_of_getElem? (i := 21) rfl)
theorem d1_27 : decode prog_53_method_3_code 27 = .ok (.if_icmp .le 27, 3) := by decide +kernel
def Q_rm_isx (Z : State) (p1 : Int32) (h0 : Heap) (n0 : Nat) (v : Option Value) (h : Heap) (L : List Loc) : Prop := Fr n0 L ∧ h = h0 ∧ (((own_isX p1) ∧ v = some (.int (1 : Int32))) ∨ ((¬ (own_isX p1)) ∧ v = some (.int (0 : Int32))))
theorem pn_com_example_causeway_causeway_formats_XmlText : plainName "com/example/causeway/causeway/formats/XmlText" = true := by first | (simp [plainName, overriddenIn]; done) | decide +kernel
set_option maxRecDepth 65536 in
set_option maxHeartbeats 40000000 in
theorem rm_isx (l : Launch) (Z : State) (a0 : Array Value) (hw : ∀ d ∈ tables_1, d.before a0 Z = true) (ws : List Jvm.Cond) (p1 : Int32) (h0 : Heap) (n0 : Nat) (O0 : Old Z n0 h0) :
    MetFree l (⟨cn1, "isXmlChar", "(I)Z"⟩ : MethodName) (head1 (Jvm.Cond.code (⟨cn1, "isXmlChar", "(I)Z"⟩ : MethodName) prog_53_method_3_code 1 (some .boolean) :: ws) ({ frames := 0, cells := 0, slots := 0, locals := 0 } : Room)) (fun a U => a = #[(.int p1)] ∧ Z.Warmed39 U.vm ∧ U.heap = h0) (fun _ _ _ _ _ => True) (fun _ U o U' => ∃ v L, o = .returned v ∧ Q_rm_isx Z p1 h0 n0 v U'.heap L ∧ FrameEnd U o U' L ({ frames := 0, cells := 0, slots := 0, locals := 0 } : Room).cells ({ frames := 0, cells := 0, slots := 0, locals := 0 } : Room).slots) := by
  refine MetFree.of_bodySF (plainFor_of_name pn_com_example_causeway_causeway_formats_XmlText) hisR ?_
  intro p e s m args below meth c s₁ Bd hml0 hP hK
  obtain ⟨rfl, hZ, hh⟩ := hP
  have hx := Bd.exec
  have hby := Bd.bytes
  have hlk := Bd.notSynchronized
  have hml : c.maxLocals = 1 := hml0
  have hown : s.vm.findClass cn1 = some m.cls := findClass_of_methodNamed Bd.named
  have hnm := (name_of_methodNamed Bd.named Bd.method).1
  have X0 : Stand p l e ({ frames := 0, cells := 0, slots := 0, locals := 0 } : Room) s m #[(.int p1)] below meth c s₁ [] 0 0 := Stand.of_body Bd
  have e0 : s₁.heap = h0 := by rw [← hh, Bd.state]; rfl
  have N0 := Fr.nil n0
  have K0 := Keep.refl h0 []
  have Z0 : n0 ≤ h0.size := O0.1 ▸ O0.2.1
  have hef : entryFrame m #[(.int p1)] 1 = mkF m 0 #[.val (.int p1)] [] := by first | (simp [entryFrame, mkF, argsToLocals, Value.category]; done) | rfl
  rw [hef]
  refine Gets.out (Q := Q_rm_isx Z p1 h0 n0) ?_
  show Gets p e below _ (s₁.setTop (mkF m 0 #[.val (.int p1)] []))
  refine Gets.of (fun t k => XS.iloadN X0.here hx rfl (hb hby d1_0) rfl  k) ?_
  refine Gets.of (fun t k => XS.bipush X0.here hx rfl (hb hby d1_1) k) ?_
  by_cases hc1 : p1 = (9 : Int32)
  · skip
    refine Gets.of (fun t k => XS.icmpYes X0.here hx rfl (pc0 := 3) (pc' := 54) rfl (hb hby d1_3) rfl (teq hc1).1 (by decide) (by decide) k) ?_
    show Gets p e below _ (s₁.setTop (mkF m 54 #[.val (.int p1)] []))
    refine Gets.of (fun t k => XS.iconst X0.here hx rfl (hb hby d1_54) k) ?_
    refine Gets.of (fun t k => XS.goto X0.here hx rfl (pc0 := 55) (pc' := 59) rfl (hb hby d1_55) (by decide) (by decide) k) ?_
    show Gets p e below _ (s₁.setTop (mkF m 59 #[.val (.int p1)] [(.int (1 : Int32))]))
    refine Gets.retN X0 hx (t := .boolean) Bd.returns (by simp) (hb hby d1_59) ?_ (by decide) (by decide)
    rw [e0]
    exact ⟨N0, rfl, (Or.inl ⟨(by have q0 := Int32.toInt_inj.mpr hc1; simp only [Int32.reduceToInt] at q0; unfold own_isX; omega), rfl⟩)⟩
  · skip
    refine Gets.of (fun t k => XS.icmpNo X0.here hx rfl (hb hby d1_3) rfl (feq hc1).1 k) ?_
    show Gets p e below _ (s₁.setTop (mkF m 6 #[.val (.int p1)] []))
    refine Gets.of (fun t k => XS.iloadN X0.here hx rfl (hb hby d1_6) rfl  k) ?_
    refine Gets.of (fun t k => XS.bipush X0.here hx rfl (hb hby d1_7) k) ?_
    by_cases hc2 : p1 = (10 : Int32)
    · skip
      refine Gets.of (fun t k => XS.icmpYes X0.here hx rfl (pc0 := 9) (pc' := 54) rfl (hb hby d1_9) rfl (teq hc2).1 (by decide) (by decide) k) ?_
      show Gets p e below _ (s₁.setTop (mkF m 54 #[.val (.int p1)] []))
      refine Gets.of (fun t k => XS.iconst X0.here hx rfl (hb hby d1_54) k) ?_
      refine Gets.of (fun t k => XS.goto X0.here hx rfl (pc0 := 55) (pc' := 59) rfl (hb hby d1_55) (by decide) (by decide) k) ?_
      show Gets p e below _ (s₁.setTop (mkF m 59 #[.val (.int p1)] [(.int (1 : Int32))]))
      refine Gets.retN X0 hx (t := .boolean) Bd.returns (by simp) (hb hby d1_59) ?_ (by decide) (by decide)
      rw [e0]
      exact ⟨N0, rfl, (Or.inl ⟨(by have q0 := mt Int32.toInt_inj.mp hc1; have q1 := Int32.toInt_inj.mpr hc2; simp only [Int32.reduceToInt] at q0 q1; unfold own_isX; omega), rfl⟩)⟩
    · skip
      refine Gets.of (fun t k => XS.icmpNo X0.here hx rfl (hb hby d1_9) rfl (feq hc2).1 k) ?_
      show Gets p e below _ (s₁.setTop (mkF m 12 #[.val (.int p1)] []))
      refine Gets.of (fun t k => XS.iloadN X0.here hx rfl (hb hby d1_12) rfl  k) ?_
      refine Gets.of (fun t k => XS.bipush X0.here hx rfl (hb hby d1_13) k) ?_
      by_cases hc3 : p1 = (13 : Int32)
      · skip
        refine Gets.of (fun t k => XS.icmpYes X0.here hx rfl (pc0 := 15) (pc' := 54) rfl (hb hby d1_15) rfl (teq hc3).1 (by decide) (by decide) k) ?_
        show Gets p e below _ (s₁.setTop (mkF m 54 #[.val (.int p1)] []))
        refine Gets.of (fun t k => XS.iconst X0.here hx rfl (hb hby d1_54) k) ?_
        refine Gets.of (fun t k => XS.goto X0.here hx rfl (pc0 := 55) (pc' := 59) rfl (hb hby d1_55) (by decide) (by decide) k) ?_
        show Gets p e below _ (s₁.setTop (mkF m 59 #[.val (.int p1)] [(.int (1 : Int32))]))
        refine Gets.retN X0 hx (t := .boolean) Bd.returns (by simp) (hb hby d1_59) ?_ (by decide) (by decide)
        rw [e0]
        exact ⟨N0, rfl, (Or.inl ⟨(by have q0 := mt Int32.toInt_inj.mp hc1; have q1 := mt Int32.toInt_inj.mp hc2; have q2 := Int32.toInt_inj.mpr hc3; simp only [Int32.reduceToInt] at q0 q1 q2; unfold own_isX; omega), rfl⟩)⟩
      · skip
        refine Gets.of (fun t k => XS.icmpNo X0.here hx rfl (hb hby d1_15) rfl (feq hc3).1 k) ?_
        show Gets p e below _ (s₁.setTop (mkF m 18 #[.val (.int p1)] []))
        refine Gets.of (fun t k => XS.iloadN X0.here hx rfl (hb hby d1_18) rfl  k) ?_
        refine Gets.of (fun t k => XS.bipush X0.here hx rfl (hb hby d1_19) k) ?_
        by_cases hc4 : p1 < (32 : Int32)
        · skip
          refine Gets.of (fun t k => XS.icmpYes X0.here hx rfl (pc0 := 21) (pc' := 30) rfl (hb hby d1_21) rfl (tlt hc4).1 (by decide) (by decide) k) ?_
          show Gets p e below _ (s₁.setTop (mkF m 30 #[.val (.int p1)] []))
          refine Gets.of (fun t k => XS.iloadN X0.here hx rfl (hb hby d1_30) rfl  k) ?_
          refine Gets.of (fun t k => X0.ldcInt hx hown (mvT hZ (w19 hw)) (g := (mkF m 31 #[.val (.int p1)] [(.int p1)])) rfl (hb hby d1_31) t k) ?_
          show Gets p e below _ (s₁.setTop (mkF m 33 #[.val (.int p1)] [(.int (57344 : Int32)), (.int p1)]))
          by_cases hc5 : p1 < (57344 : Int32)
          · skip
            refine Gets.of (fun t k => XS.icmpYes X0.here hx rfl (pc0 := 33) (pc' := 42) rfl (hb hby d1_33) rfl (tlt hc5).1 (by decide) (by decide) k) ?_
            show Gets p e below _ (s₁.setTop (mkF m 42 #[.val (.int p1)] []))
            refine Gets.of (fun t k => XS.iloadN X0.here hx rfl (hb hby d1_42) rfl  k) ?_
            refine Gets.of (fun t k => X0.ldcInt hx hown (mvT hZ (w20 hw)) (g := (mkF m 43 #[.val (.int p1)] [(.int p1)])) rfl (hb hby d1_43) t k) ?_
            show Gets p e below _ (s₁.setTop (mkF m 45 #[.val (.int p1)] [(.int (65536 : Int32)), (.int p1)]))
            by_cases hc6 : p1 < (65536 : Int32)
            · skip
              refine Gets.of (fun t k => XS.icmpYes X0.here hx rfl (pc0 := 45) (pc' := 58) rfl (hb hby d1_45) rfl (tlt hc6).1 (by decide) (by decide) k) ?_
              show Gets p e below _ (s₁.setTop (mkF m 58 #[.val (.int p1)] []))
              refine Gets.of (fun t k => XS.iconst X0.here hx rfl (hb hby d1_58) k) ?_
              refine Gets.retN X0 hx (t := .boolean) Bd.returns (by simp) (hb hby d1_59) ?_ (by decide) (by decide)
              rw [e0]
              exact ⟨N0, rfl, (Or.inr (⟨(by have q0 := mt Int32.toInt_inj.mp hc1; have q1 := mt Int32.toInt_inj.mp hc2; have q2 := mt Int32.toInt_inj.mp hc3; have q3 := Int32.lt_iff_toInt_lt.mp hc4; have q4 := Int32.lt_iff_toInt_lt.mp hc5; have q5 := Int32.lt_iff_toInt_lt.mp hc6; simp only [Int32.reduceToInt] at q0 q1 q2 q3 q4 q5; unfold own_isX; omega), rfl⟩))⟩
            · skip
              refine Gets.of (fun t k => XS.icmpNo X0.here hx rfl (hb hby d1_45) rfl (flt hc6).1 k) ?_
              show Gets p e below _ (s₁.setTop (mkF m 48 #[.val (.int p1)] []))
              refine Gets.of (fun t k => XS.iloadN X0.here hx rfl (hb hby d1_48) rfl  k) ?_
              refine Gets.of (fun t k => X0.ldcInt hx hown (mvT hZ (w23 hw)) (g := (mkF m 49 #[.val (.int p1)] [(.int p1)])) rfl (hb hby d1_49) t k) ?_
              show Gets p e below _ (s₁.setTop (mkF m 51 #[.val (.int p1)] [(.int (1114111 : Int32)), (.int p1)]))
              by_cases hc7 : (1114111 : Int32) < p1
              · skip
                refine Gets.of (fun t k => XS.icmpYes X0.here hx rfl (pc0 := 51) (pc' := 58) rfl (hb hby d1_51) rfl (tlt hc7).2.2.1 (by decide) (by decide) k) ?_
                show Gets p e below _ (s₁.setTop (mkF m 58 #[.val (.int p1)] []))
                refine Gets.of (fun t k => XS.iconst X0.here hx rfl (hb hby d1_58) k) ?_
                refine Gets.retN X0 hx (t := .boolean) Bd.returns (by simp) (hb hby d1_59) ?_ (by decide) (by decide)
                rw [e0]
                exact ⟨N0, rfl, (Or.inr (⟨(by have q0 := mt Int32.toInt_inj.mp hc1; have q1 := mt Int32.toInt_inj.mp hc2; have q2 := mt Int32.toInt_inj.mp hc3; have q3 := Int32.lt_iff_toInt_lt.mp hc4; have q4 := Int32.lt_iff_toInt_lt.mp hc5; have q5 := mt Int32.lt_iff_toInt_lt.mpr hc6; have q6 := Int32.lt_iff_toInt_lt.mp hc7; simp only [Int32.reduceToInt] at q0 q1 q2 q3 q4 q5 q6; unfold own_isX; omega), rfl⟩))⟩
              · skip
                refine Gets.of (fun t k => XS.icmpNo X0.here hx rfl (hb hby d1_51) rfl (flt hc7).2.2.1 k) ?_
                show Gets p e below _ (s₁.setTop (mkF m 54 #[.val (.int p1)] []))
                refine Gets.of (fun t k => XS.iconst X0.here hx rfl (hb hby d1_54) k) ?_
                refine Gets.of (fun t k => XS.goto X0.here hx rfl (pc0 := 55) (pc' := 59) rfl (hb hby d1_55) (by decide) (by decide) k) ?_
                show Gets p e below _ (s₁.setTop (mkF m 59 #[.val (.int p1)] [(.int (1 : Int32))]))
                refine Gets.retN X0 hx (t := .boolean) Bd.returns (by simp) (hb hby d1_59) ?_ (by decide) (by decide)
                rw [e0]
                exact ⟨N0, rfl, (Or.inl ⟨(by have q0 := mt Int32.toInt_inj.mp hc1; have q1 := mt Int32.toInt_inj.mp hc2; have q2 := mt Int32.toInt_inj.mp hc3; have q3 := Int32.lt_iff_toInt_lt.mp hc4; have q4 := Int32.lt_iff_toInt_lt.mp hc5; have q5 := mt Int32.lt_iff_toInt_lt.mpr hc6; have q6 := mt Int32.lt_iff_toInt_lt.mpr hc7; simp only [Int32.reduceToInt] at q0 q1 q2 q3 q4 q5 q6; unfold own_isX; omega), rfl⟩)⟩
          · skip
            refine Gets.of (fun t k => XS.icmpNo X0.here hx rfl (hb hby d1_33) rfl (flt hc5).1 k) ?_
            show Gets p e below _ (s₁.setTop (mkF m 36 #[.val (.int p1)] []))
            refine Gets.of (fun t k => XS.iloadN X0.here hx rfl (hb hby d1_36) rfl  k) ?_
            refine Gets.of (fun t k => X0.ldcInt hx hown (mvT hZ (w22 hw)) (g := (mkF m 37 #[.val (.int p1)] [(.int p1)])) rfl (hb hby d1_37) t k) ?_
            show Gets p e below _ (s₁.setTop (mkF m 39 #[.val (.int p1)] [(.int (65533 : Int32)), (.int p1)]))
            by_cases hc8 : (65533 : Int32) < p1
            · skip
              refine Gets.of (fun t k => XS.icmpNo X0.here hx rfl (hb hby d1_39) rfl (tlt hc8).2.2.2 k) ?_
              show Gets p e below _ (s₁.setTop (mkF m 42 #[.val (.int p1)] []))
              refine Gets.of (fun t k => XS.iloadN X0.here hx rfl (hb hby d1_42) rfl  k) ?_
              refine Gets.of (fun t k => X0.ldcInt hx hown (mvT hZ (w20 hw)) (g := (mkF m 43 #[.val (.int p1)] [(.int p1)])) rfl (hb hby d1_43) t k) ?_
              show Gets p e below _ (s₁.setTop (mkF m 45 #[.val (.int p1)] [(.int (65536 : Int32)), (.int p1)]))
              by_cases hc9 : p1 < (65536 : Int32)
              · skip
                refine Gets.of (fun t k => XS.icmpYes X0.here hx rfl (pc0 := 45) (pc' := 58) rfl (hb hby d1_45) rfl (tlt hc9).1 (by decide) (by decide) k) ?_
                show Gets p e below _ (s₁.setTop (mkF m 58 #[.val (.int p1)] []))
                refine Gets.of (fun t k => XS.iconst X0.here hx rfl (hb hby d1_58) k) ?_
                refine Gets.retN X0 hx (t := .boolean) Bd.returns (by simp) (hb hby d1_59) ?_ (by decide) (by decide)
                rw [e0]
                exact ⟨N0, rfl, (Or.inr (⟨(by have q0 := mt Int32.toInt_inj.mp hc1; have q1 := mt Int32.toInt_inj.mp hc2; have q2 := mt Int32.toInt_inj.mp hc3; have q3 := Int32.lt_iff_toInt_lt.mp hc4; have q4 := mt Int32.lt_iff_toInt_lt.mpr hc5; have q5 := Int32.lt_iff_toInt_lt.mp hc8; have q6 := Int32.lt_iff_toInt_lt.mp hc9; simp only [Int32.reduceToInt] at q0 q1 q2 q3 q4 q5 q6; unfold own_isX; omega), rfl⟩))⟩
              · skip
                refine Gets.of (fun t k => XS.icmpNo X0.here hx rfl (hb hby d1_45) rfl (flt hc9).1 k) ?_
                show Gets p e below _ (s₁.setTop (mkF m 48 #[.val (.int p1)] []))
                refine Gets.of (fun t k => XS.iloadN X0.here hx rfl (hb hby d1_48) rfl  k) ?_
                refine Gets.of (fun t k => X0.ldcInt hx hown (mvT hZ (w23 hw)) (g := (mkF m 49 #[.val (.int p1)] [(.int p1)])) rfl (hb hby d1_49) t k) ?_
                show Gets p e below _ (s₁.setTop (mkF m 51 #[.val (.int p1)] [(.int (1114111 : Int32)), (.int p1)]))
                by_cases hc10 : (1114111 : Int32) < p1
                · skip
                  refine Gets.of (fun t k => XS.icmpYes X0.here hx rfl (pc0 := 51) (pc' := 58) rfl (hb hby d1_51) rfl (tlt hc10).2.2.1 (by decide) (by decide) k) ?_
                  show Gets p e below _ (s₁.setTop (mkF m 58 #[.val (.int p1)] []))
                  refine Gets.of (fun t k => XS.iconst X0.here hx rfl (hb hby d1_58) k) ?_
                  refine Gets.retN X0 hx (t := .boolean) Bd.returns (by simp) (hb hby d1_59) ?_ (by decide) (by decide)
                  rw [e0]
                  exact ⟨N0, rfl, (Or.inr (⟨(by have q0 := mt Int32.toInt_inj.mp hc1; have q1 := mt Int32.toInt_inj.mp hc2; have q2 := mt Int32.toInt_inj.mp hc3; have q3 := Int32.lt_iff_toInt_lt.mp hc4; have q4 := mt Int32.lt_iff_toInt_lt.mpr hc5; have q5 := Int32.lt_iff_toInt_lt.mp hc8; have q6 := mt Int32.lt_iff_toInt_lt.mpr hc9; have q7 := Int32.lt_iff_toInt_lt.mp hc10; simp only [Int32.reduceToInt] at q0 q1 q2 q3 q4 q5 q6 q7; unfold own_isX; omega), rfl⟩))⟩
                · skip
                  refine Gets.of (fun t k => XS.icmpNo X0.here hx rfl (hb hby d1_51) rfl (flt hc10).2.2.1 k) ?_
                  show Gets p e below _ (s₁.setTop (mkF m 54 #[.val (.int p1)] []))
                  refine Gets.of (fun t k => XS.iconst X0.here hx rfl (hb hby d1_54) k) ?_
                  refine Gets.of (fun t k => XS.goto X0.here hx rfl (pc0 := 55) (pc' := 59) rfl (hb hby d1_55) (by decide) (by decide) k) ?_
                  show Gets p e below _ (s₁.setTop (mkF m 59 #[.val (.int p1)] [(.int (1 : Int32))]))
                  refine Gets.retN X0 hx (t := .boolean) Bd.returns (by simp) (hb hby d1_59) ?_ (by decide) (by decide)
                  rw [e0]
                  exact ⟨N0, rfl, (Or.inl ⟨(by have q0 := mt Int32.toInt_inj.mp hc1; have q1 := mt Int32.toInt_inj.mp hc2; have q2 := mt Int32.toInt_inj.mp hc3; have q3 := Int32.lt_iff_toInt_lt.mp hc4; have q4 := mt Int32.lt_iff_toInt_lt.mpr hc5; have q5 := Int32.lt_iff_toInt_lt.mp hc8; have q6 := mt Int32.lt_iff_toInt_lt.mpr hc9; have q7 := mt Int32.lt_iff_toInt_lt.mpr hc10; simp only [Int32.reduceToInt] at q0 q1 q2 q3 q4 q5 q6 q7; unfold own_isX; omega), rfl⟩)⟩
            · skip
              refine Gets.of (fun t k => XS.icmpYes X0.here hx rfl (pc0 := 39) (pc' := 54) rfl (hb hby d1_39) rfl (flt hc8).2.2.2 (by decide) (by decide) k) ?_
              show Gets p e below _ (s₁.setTop (mkF m 54 #[.val (.int p1)] []))
              refine Gets.of (fun t k => XS.iconst X0.here hx rfl (hb hby d1_54) k) ?_
              refine Gets.of (fun t k => XS.goto X0.here hx rfl (pc0 := 55) (pc' := 59) rfl (hb hby d1_55) (by decide) (by decide) k) ?_
              show Gets p e below _ (s₁.setTop (mkF m 59 #[.val (.int p1)] [(.int (1 : Int32))]))
              refine Gets.retN X0 hx (t := .boolean) Bd.returns (by simp) (hb hby d1_59) ?_ (by decide) (by decide)
              rw [e0]
              exact ⟨N0, rfl, (Or.inl ⟨(by have q0 := mt Int32.toInt_inj.mp hc1; have q1 := mt Int32.toInt_inj.mp hc2; have q2 := mt Int32.toInt_inj.mp hc3; have q3 := Int32.lt_iff_toInt_lt.mp hc4; have q4 := mt Int32.lt_iff_toInt_lt.mpr hc5; have q5 := mt Int32.lt_iff_toInt_lt.mpr hc8; simp only [Int32.reduceToInt] at q0 q1 q2 q3 q4 q5; unfold own_isX; omega), rfl⟩)⟩
        · skip
          refine Gets.of (fun t k => XS.icmpNo X0.here hx rfl (hb hby d1_21) rfl (flt hc4).1 k) ?_
          show Gets p e below _ (s₁.setTop (mkF m 24 #[.val (.int p1)] []))
          refine Gets.of (fun t k => XS.iloadN X0.here hx rfl (hb hby d1_24) rfl  k) ?_
          refine Gets.of (fun t k => X0.ldcInt hx hown (mvT hZ (w21 hw)) (g := (mkF m 25 #[.val (.int p1)] [(.int p1)])) rfl (hb hby d1_25) t k) ?_
          show Gets p e below _ (s₁.setTop (mkF m 27 #[.val (.int p1)] [(.int (55295 : Int32)), (.int p1)]))
          by_cases hc11 : (55295 : Int32) < p1
          · skip
            refine Gets.of (fun t k => XS.icmpNo X0.here hx rfl (hb hby d1_27) rfl (tlt hc11).2.2.2 k) ?_
            show Gets p e below _ (s₁.setTop (mkF m 30 #[.val (.int p1)] []))
            refine Gets.of (fun t k => XS.iloadN X0.here hx rfl (hb hby d1_30) rfl  k) ?_
            refine Gets.of (fun t k => X0.ldcInt hx hown (mvT hZ (w19 hw)) (g := (mkF m 31 #[.val (.int p1)] [(.int p1)])) rfl (hb hby d1_31) t k) ?_
            show Gets p e below _ (s₁.setTop (mkF m 33 #[.val (.int p1)] [(.int (57344 : Int32)), (.int p1)]))
            by_cases hc12 : p1 < (57344 : Int32)
            · skip
              refine Gets.of (fun t k => XS.icmpYes X0.here hx rfl (pc0 := 33) (pc' := 42) rfl (hb hby d1_33) rfl (tlt hc12).1 (by decide) (by decide) k) ?_
              show Gets p e below _ (s₁.setTop (mkF m 42 #[.val (.int p1)] []))
              refine Gets.of (fun t k => XS.iloadN X0.here hx rfl (hb hby d1_42) rfl  k) ?_
              refine Gets.of (fun t k => X0.ldcInt hx hown (mvT hZ (w20 hw)) (g := (mkF m 43 #[.val (.int p1)] [(.int p1)])) rfl (hb hby d1_43) t k) ?_
              show Gets p e below _ (s₁.setTop (mkF m 45 #[.val (.int p1)] [(.int (65536 : Int32)), (.int p1)]))
              by_cases hc13 : p1 < (65536 : Int32)
              · skip
                refine Gets.of (fun t k => XS.icmpYes X0.here hx rfl (pc0 := 45) (pc' := 58) rfl (hb hby d1_45) rfl (tlt hc13).1 (by decide) (by decide) k) ?_
                show Gets p e below _ (s₁.setTop (mkF m 58 #[.val (.int p1)] []))
                refine Gets.of (fun t k => XS.iconst X0.here hx rfl (hb hby d1_58) k) ?_
                refine Gets.retN X0 hx (t := .boolean) Bd.returns (by simp) (hb hby d1_59) ?_ (by decide) (by decide)
                rw [e0]
                exact ⟨N0, rfl, (Or.inr (⟨(by have q0 := mt Int32.toInt_inj.mp hc1; have q1 := mt Int32.toInt_inj.mp hc2; have q2 := mt Int32.toInt_inj.mp hc3; have q3 := mt Int32.lt_iff_toInt_lt.mpr hc4; have q4 := Int32.lt_iff_toInt_lt.mp hc11; have q5 := Int32.lt_iff_toInt_lt.mp hc12; have q6 := Int32.lt_iff_toInt_lt.mp hc13; simp only [Int32.reduceToInt] at q0 q1 q2 q3 q4 q5 q6; unfold own_isX; omega), rfl⟩))⟩
              · skip
                refine Gets.of (fun t k => XS.icmpNo X0.here hx rfl (hb hby d1_45) rfl (flt hc13).1 k) ?_
                show Gets p e below _ (s₁.setTop (mkF m 48 #[.val (.int p1)] []))
                refine Gets.of (fun t k => XS.iloadN X0.here hx rfl (hb hby d1_48) rfl  k) ?_
                refine Gets.of (fun t k => X0.ldcInt hx hown (mvT hZ (w23 hw)) (g := (mkF m 49 #[.val (.int p1)] [(.int p1)])) rfl (hb hby d1_49) t k) ?_
                show Gets p e below _ (s₁.setTop (mkF m 51 #[.val (.int p1)] [(.int (1114111 : Int32)), (.int p1)]))
                by_cases hc14 : (1114111 : Int32) < p1
                · skip
                  refine Gets.of (fun t k => XS.icmpYes X0.here hx rfl (pc0 := 51) (pc' := 58) rfl (hb hby d1_51) rfl (tlt hc14).2.2.1 (by decide) (by decide) k) ?_
                  show Gets p e below _ (s₁.setTop (mkF m 58 #[.val (.int p1)] []))
                  refine Gets.of (fun t k => XS.iconst X0.here hx rfl (hb hby d1_58) k) ?_
                  refine Gets.retN X0 hx (t := .boolean) Bd.returns (by simp) (hb hby d1_59) ?_ (by decide) (by decide)
                  rw [e0]
                  exact ⟨N0, rfl, (Or.inr (⟨(by have q0 := mt Int32.toInt_inj.mp hc1; have q1 := mt Int32.toInt_inj.mp hc2; have q2 := mt Int32.toInt_inj.mp hc3; have q3 := mt Int32.lt_iff_toInt_lt.mpr hc4; have q4 := Int32.lt_iff_toInt_lt.mp hc11; have q5 := Int32.lt_iff_toInt_lt.mp hc12; have q6 := mt Int32.lt_iff_toInt_lt.mpr hc13; have q7 := Int32.lt_iff_toInt_lt.mp hc14; simp only [Int32.reduceToInt] at q0 q1 q2 q3 q4 q5 q6 q7; unfold own_isX; omega), rfl⟩))⟩
                · skip
                  refine Gets.of (fun t k => XS.icmpNo X0.here hx rfl (hb hby d1_51) rfl (flt hc14).2.2.1 k) ?_
                  show Gets p e below _ (s₁.setTop (mkF m 54 #[.val (.int p1)] []))
                  refine Gets.of (fun t k => XS.iconst X0.here hx rfl (hb hby d1_54) k) ?_
                  refine Gets.of (fun t k => XS.goto X0.here hx rfl (pc0 := 55) (pc' := 59) rfl (hb hby d1_55) (by decide) (by decide) k) ?_
                  show Gets p e below _ (s₁.setTop (mkF m 59 #[.val (.int p1)] [(.int (1 : Int32))]))
                  refine Gets.retN X0 hx (t := .boolean) Bd.returns (by simp) (hb hby d1_59) ?_ (by decide) (by decide)
                  rw [e0]
                  exact ⟨N0, rfl, (Or.inl ⟨(by have q0 := mt Int32.toInt_inj.mp hc1; have q1 := mt Int32.toInt_inj.mp hc2; have q2 := mt Int32.toInt_inj.mp hc3; have q3 := mt Int32.lt_iff_toInt_lt.mpr hc4; have q4 := Int32.lt_iff_toInt_lt.mp hc11; have q5 := Int32.lt_iff_toInt_lt.mp hc12; have q6 := mt Int32.lt_iff_toInt_lt.mpr hc13; have q7 := mt Int32.lt_iff_toInt_lt.mpr hc14; simp only [Int32.reduceToInt] at q0 q1 q2 q3 q4 q5 q6 q7; unfold own_isX; omega), rfl⟩)⟩
            · skip
              refine Gets.of (fun t k => XS.icmpNo X0.here hx rfl (hb hby d1_33) rfl (flt hc12).1 k) ?_
              show Gets p e below _ (s₁.setTop (mkF m 36 #[.val (.int p1)] []))
              refine Gets.of (fun t k => XS.iloadN X0.here hx rfl (hb hby d1_36) rfl  k) ?_
              refine Gets.of (fun t k => X0.ldcInt hx hown (mvT hZ (w22 hw)) (g := (mkF m 37 #[.val (.int p1)] [(.int p1)])) rfl (hb hby d1_37) t k) ?_
              show Gets p e below _ (s₁.setTop (mkF m 39 #[.val (.int p1)] [(.int (65533 : Int32)), (.int p1)]))
              by_cases hc15 : (65533 : Int32) < p1
              · skip
                refine Gets.of (fun t k => XS.icmpNo X0.here hx rfl (hb hby d1_39) rfl (tlt hc15).2.2.2 k) ?_
                show Gets p e below _ (s₁.setTop (mkF m 42 #[.val (.int p1)] []))
                refine Gets.of (fun t k => XS.iloadN X0.here hx rfl (hb hby d1_42) rfl  k) ?_
                refine Gets.of (fun t k => X0.ldcInt hx hown (mvT hZ (w20 hw)) (g := (mkF m 43 #[.val (.int p1)] [(.int p1)])) rfl (hb hby d1_43) t k) ?_
                show Gets p e below _ (s₁.setTop (mkF m 45 #[.val (.int p1)] [(.int (65536 : Int32)), (.int p1)]))
                by_cases hc16 : p1 < (65536 : Int32)
                · skip
                  refine Gets.of (fun t k => XS.icmpYes X0.here hx rfl (pc0 := 45) (pc' := 58) rfl (hb hby d1_45) rfl (tlt hc16).1 (by decide) (by decide) k) ?_
                  show Gets p e below _ (s₁.setTop (mkF m 58 #[.val (.int p1)] []))
                  refine Gets.of (fun t k => XS.iconst X0.here hx rfl (hb hby d1_58) k) ?_
                  refine Gets.retN X0 hx (t := .boolean) Bd.returns (by simp) (hb hby d1_59) ?_ (by decide) (by decide)
                  rw [e0]
                  exact ⟨N0, rfl, (Or.inr (⟨(by have q0 := mt Int32.toInt_inj.mp hc1; have q1 := mt Int32.toInt_inj.mp hc2; have q2 := mt Int32.toInt_inj.mp hc3; have q3 := mt Int32.lt_iff_toInt_lt.mpr hc4; have q4 := Int32.lt_iff_toInt_lt.mp hc11; have q5 := mt Int32.lt_iff_toInt_lt.mpr hc12; have q6 := Int32.lt_iff_toInt_lt.mp hc15; have q7 := Int32.lt_iff_toInt_lt.mp hc16; simp only [Int32.reduceToInt] at q0 q1 q2 q3 q4 q5 q6 q7; unfold own_isX; omega), rfl⟩))⟩
                · skip
                  refine Gets.of (fun t k => XS.icmpNo X0.here hx rfl (hb hby d1_45) rfl (flt hc16).1 k) ?_
                  show Gets p e below _ (s₁.setTop (mkF m 48 #[.val (.int p1)] []))
                  refine Gets.of (fun t k => XS.iloadN X0.here hx rfl (hb hby d1_48) rfl  k) ?_
                  refine Gets.of (fun t k => X0.ldcInt hx hown (mvT hZ (w23 hw)) (g := (mkF m 49 #[.val (.int p1)] [(.int p1)])) rfl (hb hby d1_49) t k) ?_
                  show Gets p e below _ (s₁.setTop (mkF m 51 #[.val (.int p1)] [(.int (1114111 : Int32)), (.int p1)]))
                  by_cases hc17 : (1114111 : Int32) < p1
                  · skip
                    refine Gets.of (fun t k => XS.icmpYes X0.here hx rfl (pc0 := 51) (pc' := 58) rfl (hb hby d1_51) rfl (tlt hc17).2.2.1 (by decide) (by decide) k) ?_
                    show Gets p e below _ (s₁.setTop (mkF m 58 #[.val (.int p1)] []))
                    refine Gets.of (fun t k => XS.iconst X0.here hx rfl (hb hby d1_58) k) ?_
                    refine Gets.retN X0 hx (t := .boolean) Bd.returns (by simp) (hb hby d1_59) ?_ (by decide) (by decide)
                    rw [e0]
                    exact ⟨N0, rfl, (Or.inr (⟨(by have q0 := mt Int32.toInt_inj.mp hc1; have q1 := mt Int32.toInt_inj.mp hc2; have q2 := mt Int32.toInt_inj.mp hc3; have q3 := mt Int32.lt_iff_toInt_lt.mpr hc4; have q4 := Int32.lt_iff_toInt_lt.mp hc11; have q5 := mt Int32.lt_iff_toInt_lt.mpr hc12; have q6 := Int32.lt_iff_toInt_lt.mp hc15; have q7 := mt Int32.lt_iff_toInt_lt.mpr hc16; have q8 := Int32.lt_iff_toInt_lt.mp hc17; simp only [Int32.reduceToInt] at q0 q1 q2 q3 q4 q5 q6 q7 q8; unfold own_isX; omega), rfl⟩))⟩
                  · skip
                    refine Gets.of (fun t k => XS.icmpNo X0.here hx rfl (hb hby d1_51) rfl (flt hc17).2.2.1 k) ?_
                    show Gets p e below _ (s₁.setTop (mkF m 54 #[.val (.int p1)] []))
                    refine Gets.of (fun t k => XS.iconst X0.here hx rfl (hb hby d1_54) k) ?_
                    refine Gets.of (fun t k => XS.goto X0.here hx rfl (pc0 := 55) (pc' := 59) rfl (hb hby d1_55) (by decide) (by decide) k) ?_
                    show Gets p e below _ (s₁.setTop (mkF m 59 #[.val (.int p1)] [(.int (1 : Int32))]))
                    refine Gets.retN X0 hx (t := .boolean) Bd.returns (by simp) (hb hby d1_59) ?_ (by decide) (by decide)
                    rw [e0]
                    exact ⟨N0, rfl, (Or.inl ⟨(by have q0 := mt Int32.toInt_inj.mp hc1; have q1 := mt Int32.toInt_inj.mp hc2; have q2 := mt Int32.toInt_inj.mp hc3; have q3 := mt Int32.lt_iff_toInt_lt.mpr hc4; have q4 := Int32.lt_iff_toInt_lt.mp hc11; have q5 := mt Int32.lt_iff_toInt_lt.mpr hc12; have q6 := Int32.lt_iff_toInt_lt.mp hc15; have q7 := mt Int32.lt_iff_toInt_lt.mpr hc16; have q8 := mt Int32.lt_iff_toInt_lt.mpr hc17; simp only [Int32.reduceToInt] at q0 q1 q2 q3 q4 q5 q6 q7 q8; unfold own_isX; omega), rfl⟩)⟩
              · skip
                refine Gets.of (fun t k => XS.icmpYes X0.here hx rfl (pc0 := 39) (pc' := 54) rfl (hb hby d1_39) rfl (flt hc15).2.2.2 (by decide) (by decide) k) ?_
                show Gets p e below _ (s₁.setTop (mkF m 54 #[.val (.int p1)] []))
                refine Gets.of (fun t k => XS.iconst X0.here hx rfl (hb hby d1_54) k) ?_
                refine Gets.of (fun t k => XS.goto X0.here hx rfl (pc0 := 55) (pc' := 59) rfl (hb hby d1_55) (by decide) (by decide) k) ?_
                show Gets p e below _ (s₁.setTop (mkF m 59 #[.val (.int p1)] [(.int (1 : Int32))]))
                refine Gets.retN X0 hx (t := .boolean) Bd.returns (by simp) (hb hby d1_59) ?_ (by decide) (by decide)
                rw [e0]
                exact ⟨N0, rfl, (Or.inl ⟨(by have q0 := mt Int32.toInt_inj.mp hc1; have q1 := mt Int32.toInt_inj.mp hc2; have q2 := mt Int32.toInt_inj.mp hc3; have q3 := mt Int32.lt_iff_toInt_lt.mpr hc4; have q4 := Int32.lt_iff_toInt_lt.mp hc11; have q5 := mt Int32.lt_iff_toInt_lt.mpr hc12; have q6 := mt Int32.lt_iff_toInt_lt.mpr hc15; simp only [Int32.reduceToInt] at q0 q1 q2 q3 q4 q5 q6; unfold own_isX; omega), rfl⟩)⟩
          · skip
            refine Gets.of (fun t k => XS.icmpYes X0.here hx rfl (pc0 := 27) (pc' := 54) rfl (hb hby d1_27) rfl (flt hc11).2.2.2 (by decide) (by decide) k) ?_
            show Gets p e below _ (s₁.setTop (mkF m 54 #[.val (.int p1)] []))
            refine Gets.of (fun t k => XS.iconst X0.here hx rfl (hb hby d1_54) k) ?_
            refine Gets.of (fun t k => XS.goto X0.here hx rfl (pc0 := 55) (pc' := 59) rfl (hb hby d1_55) (by decide) (by decide) k) ?_
            show Gets p e below _ (s₁.setTop (mkF m 59 #[.val (.int p1)] [(.int (1 : Int32))]))
            refine Gets.retN X0 hx (t := .boolean) Bd.returns (by simp) (hb hby d1_59) ?_ (by decide) (by decide)
            rw [e0]
            exact ⟨N0, rfl, (Or.inl ⟨(by have q0 := mt Int32.toInt_inj.mp hc1; have q1 := mt Int32.toInt_inj.mp hc2; have q2 := mt Int32.toInt_inj.mp hc3; have q3 := mt Int32.lt_iff_toInt_lt.mpr hc4; have q4 := mt Int32.lt_iff_toInt_lt.mpr hc11; simp only [Int32.reduceToInt] at q0 q1 q2 q3 q4; unfold own_isX; omega), rfl⟩)⟩
theorem d2_0 : decode method_2_code 0 = .ok (.iload_n 0, 1) := by decide +kernel
theorem d2_1 : decode method_2_code 1 = .ok (.ifCond .ge 5, 3) := by decide +kernel
theorem d2_4 : decode method_2_code 4 = .ok (.iconst 1, 1) := by decide +kernel
theorem d2_5 : decode method_2_code 5 = .ok (.ireturn, 1) := by decide +kernel
theorem d2_6 : decode method_2_code 6 = .ok (.iload_n 0, 1) := by decide +kernel
theorem d2_7 : decode method_2_code 7 = .ok (.bipush 8, 2) := by decide +kernel
theorem d2_9 : decode method_2_code 9 = .ok (.if_icmp .gt 5, 3) := by decide +kernel
theorem d2_14 : decode method_2_code 14 = .ok (.iload_n 0, 1) := by decide +kernel
theorem d2_15 : decode method_2_code 15 = .ok (.bipush 11, 2) := by decide +kernel
theorem d2_17 : decode method_2_code 17 = .ok (.if_icmp .eq 9, 3) := by decide +kernel
theorem d2_26 : decode method_2_code 26 = .ok (.iconst 1, 1) := by decide +kernel
theorem d2_27 : decode method_2_code 27 = .ok (.ireturn, 1) := by decide +kernel
theorem d2_20 : decode method_2_code 20 = .ok (.iload_n 0, 1) := by decide +kernel
theorem d2_21 : decode method_2_code 21 = .ok (.bipush 12, 2) := by decide +kernel
theorem d2_23 : decode method_2_code 23 = .ok (.if_icmp .ne 5, 3) := by decide +kernel
theorem d2_28 : decode method_2_code 28 = .ok (.iload_n 0, 1) := by decide +kernel
theorem d2_29 : decode method_2_code 29 = .ok (.bipush 14, 2) := by decide +kernel
theorem d2_31 : decode method_2_code 31 = .ok (.if_icmp .lt 11, 3) := by decide +kernel
theorem d2_42 : decode method_2_code 42 = .ok (.iload_n 0, 1) := by decide +kernel
theorem d2_43 : decode method_2_code 43 = .ok (.ldc 7, 2) := by decide +kernel
theorem w6 {Z : State} {a0 : Array Value} (hw : ∀ d ∈ tables_1, d.before a0 Z = true) : (Jvm.Cond.constant cn0 (7 : Nat) (55296 : Int32)).before a0 Z = true := hw _ (List.mem_of_getElem? (i := 6) rfl)
theorem d2_45 : decode method_2_code 45 = .ok (.if_icmp .lt 11, 3) := by decide +kernel
theorem d2_56 : decode method_2_code 56 = .ok (.iload_n 0, 1) := by decide +kernel
theorem d2_57 : decode method_2_code 57 = .ok (.ldc 9, 2) := by decide +kernel
theorem w18 {Z : State} {a0 : Array Value} (hw : ∀ d ∈ tables_1, d.before a0 Z = true) : (Jvm.Cond.constant cn0 (9 : Nat) (65534 : Int32)).before a0 Z = true := hw _ (List.mem_of_getElem? (i := 18) rfl)
theorem d2_59 : decode method_2_code 59 = .ok (.if_icmp .eq 9, 3) := by decide +kernel
theorem d2_68 : decode method_2_code 68 = .ok (.iconst 1, 1) := by decide +kernel
theorem d2_69 : decode method_2_code 69 = .ok (.ireturn, 1) := by decide +kernel
theorem d2_62 : decode method_2_code 62 = .ok (.iload_n 0, 1) := by decide +kernel
theorem d2_63 : decode method_2_code 63 = .ok (.ldc 10, 2) := by decide +kernel
theorem w8 {Z : State} {a0 : Array Value} (hw : ∀ d ∈ tables_1, d.before a0 Z = true) : (Jvm.Cond.constant cn0 (10 : Nat) (65535 : Int32)).before a0 Z = true := hw _ (List.mem_of_getElem? (i := 8) rfl)
theorem d2_65 : decode method_2_code 65 = .ok (.if_icmp .ne 5, 3) := by decide +kernel
theorem d2_70 : decode method_2_code 70 = .ok (.iload_n 0, 1) := by decide +kernel
theorem d2_71 : decode method_2_code 71 = .ok (.ldc 11, 2) := by decide +kernel
theorem w5 {Z : State} {a0 : Array Value} (hw : ∀ d ∈ tables_1, d.before a0 Z = true) : (Jvm.Cond.constant cn0 (11 : Nat) (1114111 : Int32)).before a0 Z = true := hw _ (List.mem_of_getElem? (i := 5) rfl)
theorem d2_73 : decode method_2_code 73 = .ok (.if_icmp .le 7, 3) := by decide +kernel
theorem d2_76 : decode method_2_code 76 = .ok (.iconst 1, 1) := by decide +kernel
theorem d2_77 : decode method_2_code 77 = .ok (.goto 4, 3) := by decide +kernel
theorem d2_81 : decode method_2_code 81 = .ok (.ireturn, 1) := by decide +kernel
theorem d2_80 : decode method_2_code 80 = .ok (.iconst 0, 1) := by decide +kernel
theorem d2_48 : decode method_2_code 48 = .ok (.iload_n 0, 1) := by decide +kernel
theorem d2_49 : decode method_2_code 49 = .ok (.ldc 8, 2) := by decide +kernel
theorem w7 {Z : State} {a0 : Array Value} (hw : ∀ d ∈ tables_1, d.before a0 Z = true) : (Jvm.Cond.constant cn0 (8 : Nat) (57343 : Int32)).before a0 Z = true := hw _ (List.mem_of_getElem? (i := 7) rfl)
theorem d2_51 : decode method_2_code 51 = .ok (.if_icmp .gt 5, 3) := by decide +kernel
theorem d2_54 : decode method_2_code 54 = .ok (.iconst 1, 1) := by decide +kernel
theorem d2_55 : decode method_2_code 55 = .ok (.ireturn, 1) := by decide +kernel
theorem d2_34 : decode method_2_code 34 = .ok (.iload_n 0, 1) := by decide +kernel
theorem d2_35 : decode method_2_code 35 = .ok (.bipush 31, 2) := by decide +kernel
theorem d2_37 : decode method_2_code 37 = .ok (.if_icmp .gt 5, 3) := by decide +kernel
theorem d2_40 : decode method_2_code 40 = .ok (.iconst 1, 1) := by decide +kernel
theorem d2_41 : decode method_2_code 41 = .ok (.ireturn, 1) := by decide +kernel
theorem d2_12 : decode method_2_code 12 = .ok (.iconst 1, 1) := by decide +kernel
theorem d2_13 : decode method_2_code 13 = .ok (.ireturn, 1) := by decide +kernel
def Q_rm_exc (Z : State) (p1 : Int32) (h0 : Heap) (n0 : Nat) (v : Option Value) (h : Heap) (L : List Loc) : Prop := Fr n0 L ∧ h = h0 ∧ (((¬ (own_isX p1)) ∧ v = some (.int (1 : Int32))) ∨ ((own_isX p1) ∧ v = some (.int (0 : Int32))))
theorem pn_com_example_causeway_causeway_formats_XmlTextIsXmlCharPinLaw : plainName "com/example/causeway/causeway/formats/XmlTextIsXmlCharPinLaw" = true := by first | (simp [plainName, overriddenIn]; done) | decide +kernel
set_option maxRecDepth 65536 in
set_option maxHeartbeats 40000000 in
theorem rm_exc (l : Launch) (Z : State) (a0 : Array Value) (hw : ∀ d ∈ tables_1, d.before a0 Z = true) (ws : List Jvm.Cond) (p1 : Int32) (h0 : Heap) (n0 : Nat) (O0 : Old Z n0 h0) :
    MetFree l (⟨cn0, "excluded", "(I)Z"⟩ : MethodName) (head1 (Jvm.Cond.code (⟨cn0, "excluded", "(I)Z"⟩ : MethodName) method_2_code 1 (some .boolean) :: ws) ({ frames := 0, cells := 0, slots := 0, locals := 0 } : Room)) (fun a U => a = #[(.int p1)] ∧ Z.Warmed39 U.vm ∧ U.heap = h0) (fun _ _ _ _ _ => True) (fun _ U o U' => ∃ v L, o = .returned v ∧ Q_rm_exc Z p1 h0 n0 v U'.heap L ∧ FrameEnd U o U' L ({ frames := 0, cells := 0, slots := 0, locals := 0 } : Room).cells ({ frames := 0, cells := 0, slots := 0, locals := 0 } : Room).slots) := by
  refine MetFree.of_bodySF (plainFor_of_name pn_com_example_causeway_causeway_formats_XmlTextIsXmlCharPinLaw) hisR ?_
  intro p e s m args below meth c s₁ Bd hml0 hP hK
  obtain ⟨rfl, hZ, hh⟩ := hP
  have hx := Bd.exec
  have hby := Bd.bytes
  have hlk := Bd.notSynchronized
  have hml : c.maxLocals = 1 := hml0
  have hown : s.vm.findClass cn0 = some m.cls := findClass_of_methodNamed Bd.named
  have hnm := (name_of_methodNamed Bd.named Bd.method).1
  have X0 : Stand p l e ({ frames := 0, cells := 0, slots := 0, locals := 0 } : Room) s m #[(.int p1)] below meth c s₁ [] 0 0 := Stand.of_body Bd
  have e0 : s₁.heap = h0 := by rw [← hh, Bd.state]; rfl
  have N0 := Fr.nil n0
  have K0 := Keep.refl h0 []
  have Z0 : n0 ≤ h0.size := O0.1 ▸ O0.2.1
  have hef : entryFrame m #[(.int p1)] 1 = mkF m 0 #[.val (.int p1)] [] := by first | (simp [entryFrame, mkF, argsToLocals, Value.category]; done) | rfl
  rw [hef]
  refine Gets.out (Q := Q_rm_exc Z p1 h0 n0) ?_
  show Gets p e below _ (s₁.setTop (mkF m 0 #[.val (.int p1)] []))
  refine Gets.of (fun t k => XS.iloadN X0.here hx rfl (hb hby d2_0) rfl  k) ?_
  by_cases hc1 : p1 < (0 : Int32)
  · skip
    refine Gets.of (fun t k => XS.ifNo X0.here hx rfl (hb hby d2_1) rfl ((if0 _ _).trans (tlt hc1).2.1) k) ?_
    show Gets p e below _ (s₁.setTop (mkF m 4 #[.val (.int p1)] []))
    refine Gets.of (fun t k => XS.iconst X0.here hx rfl (hb hby d2_4) k) ?_
    refine Gets.retN X0 hx (t := .boolean) Bd.returns (by simp) (hb hby d2_5) ?_ (by decide) (by decide)
    rw [e0]
    exact ⟨N0, rfl, (Or.inl ⟨(by have q0 := Int32.lt_iff_toInt_lt.mp hc1; simp only [Int32.reduceToInt] at q0; unfold own_isX; omega), rfl⟩)⟩
  · skip
    refine Gets.of (fun t k => XS.ifYes X0.here hx rfl (pc0 := 1) (pc' := 6) rfl (hb hby d2_1) rfl ((if0 _ _).trans (flt hc1).2.1) (by decide) (by decide) k) ?_
    show Gets p e below _ (s₁.setTop (mkF m 6 #[.val (.int p1)] []))
    refine Gets.of (fun t k => XS.iloadN X0.here hx rfl (hb hby d2_6) rfl  k) ?_
    refine Gets.of (fun t k => XS.bipush X0.here hx rfl (hb hby d2_7) k) ?_
    by_cases hc2 : (8 : Int32) < p1
    · skip
      refine Gets.of (fun t k => XS.icmpYes X0.here hx rfl (pc0 := 9) (pc' := 14) rfl (hb hby d2_9) rfl (tlt hc2).2.2.1 (by decide) (by decide) k) ?_
      show Gets p e below _ (s₁.setTop (mkF m 14 #[.val (.int p1)] []))
      refine Gets.of (fun t k => XS.iloadN X0.here hx rfl (hb hby d2_14) rfl  k) ?_
      refine Gets.of (fun t k => XS.bipush X0.here hx rfl (hb hby d2_15) k) ?_
      by_cases hc3 : p1 = (11 : Int32)
      · skip
        refine Gets.of (fun t k => XS.icmpYes X0.here hx rfl (pc0 := 17) (pc' := 26) rfl (hb hby d2_17) rfl (teq hc3).1 (by decide) (by decide) k) ?_
        show Gets p e below _ (s₁.setTop (mkF m 26 #[.val (.int p1)] []))
        refine Gets.of (fun t k => XS.iconst X0.here hx rfl (hb hby d2_26) k) ?_
        refine Gets.retN X0 hx (t := .boolean) Bd.returns (by simp) (hb hby d2_27) ?_ (by decide) (by decide)
        rw [e0]
        exact ⟨N0, rfl, (Or.inl ⟨(by have q0 := mt Int32.lt_iff_toInt_lt.mpr hc1; have q1 := Int32.lt_iff_toInt_lt.mp hc2; have q2 := Int32.toInt_inj.mpr hc3; simp only [Int32.reduceToInt] at q0 q1 q2; unfold own_isX; omega), rfl⟩)⟩
      · skip
        refine Gets.of (fun t k => XS.icmpNo X0.here hx rfl (hb hby d2_17) rfl (feq hc3).1 k) ?_
        show Gets p e below _ (s₁.setTop (mkF m 20 #[.val (.int p1)] []))
        refine Gets.of (fun t k => XS.iloadN X0.here hx rfl (hb hby d2_20) rfl  k) ?_
        refine Gets.of (fun t k => XS.bipush X0.here hx rfl (hb hby d2_21) k) ?_
        by_cases hc4 : p1 = (12 : Int32)
        · skip
          refine Gets.of (fun t k => XS.icmpNo X0.here hx rfl (hb hby d2_23) rfl (teq hc4).2 k) ?_
          show Gets p e below _ (s₁.setTop (mkF m 26 #[.val (.int p1)] []))
          refine Gets.of (fun t k => XS.iconst X0.here hx rfl (hb hby d2_26) k) ?_
          refine Gets.retN X0 hx (t := .boolean) Bd.returns (by simp) (hb hby d2_27) ?_ (by decide) (by decide)
          rw [e0]
          exact ⟨N0, rfl, (Or.inl ⟨(by have q0 := mt Int32.lt_iff_toInt_lt.mpr hc1; have q1 := Int32.lt_iff_toInt_lt.mp hc2; have q2 := mt Int32.toInt_inj.mp hc3; have q3 := Int32.toInt_inj.mpr hc4; simp only [Int32.reduceToInt] at q0 q1 q2 q3; unfold own_isX; omega), rfl⟩)⟩
        · skip
          refine Gets.of (fun t k => XS.icmpYes X0.here hx rfl (pc0 := 23) (pc' := 28) rfl (hb hby d2_23) rfl (feq hc4).2 (by decide) (by decide) k) ?_
          show Gets p e below _ (s₁.setTop (mkF m 28 #[.val (.int p1)] []))
          refine Gets.of (fun t k => XS.iloadN X0.here hx rfl (hb hby d2_28) rfl  k) ?_
          refine Gets.of (fun t k => XS.bipush X0.here hx rfl (hb hby d2_29) k) ?_
          by_cases hc5 : p1 < (14 : Int32)
          · skip
            refine Gets.of (fun t k => XS.icmpYes X0.here hx rfl (pc0 := 31) (pc' := 42) rfl (hb hby d2_31) rfl (tlt hc5).1 (by decide) (by decide) k) ?_
            show Gets p e below _ (s₁.setTop (mkF m 42 #[.val (.int p1)] []))
            refine Gets.of (fun t k => XS.iloadN X0.here hx rfl (hb hby d2_42) rfl  k) ?_
            refine Gets.of (fun t k => X0.ldcInt hx hown (mvT hZ (w6 hw)) (g := (mkF m 43 #[.val (.int p1)] [(.int p1)])) rfl (hb hby d2_43) t k) ?_
            show Gets p e below _ (s₁.setTop (mkF m 45 #[.val (.int p1)] [(.int (55296 : Int32)), (.int p1)]))
            by_cases hc6 : p1 < (55296 : Int32)
            · skip
              refine Gets.of (fun t k => XS.icmpYes X0.here hx rfl (pc0 := 45) (pc' := 56) rfl (hb hby d2_45) rfl (tlt hc6).1 (by decide) (by decide) k) ?_
              show Gets p e below _ (s₁.setTop (mkF m 56 #[.val (.int p1)] []))
              refine Gets.of (fun t k => XS.iloadN X0.here hx rfl (hb hby d2_56) rfl  k) ?_
              refine Gets.of (fun t k => X0.ldcInt hx hown (mvT hZ (w18 hw)) (g := (mkF m 57 #[.val (.int p1)] [(.int p1)])) rfl (hb hby d2_57) t k) ?_
              show Gets p e below _ (s₁.setTop (mkF m 59 #[.val (.int p1)] [(.int (65534 : Int32)), (.int p1)]))
              by_cases hc7 : p1 = (65534 : Int32)
              · skip
                refine Gets.of (fun t k => XS.icmpYes X0.here hx rfl (pc0 := 59) (pc' := 68) rfl (hb hby d2_59) rfl (teq hc7).1 (by decide) (by decide) k) ?_
                show Gets p e below _ (s₁.setTop (mkF m 68 #[.val (.int p1)] []))
                refine Gets.of (fun t k => XS.iconst X0.here hx rfl (hb hby d2_68) k) ?_
                refine Gets.retN X0 hx (t := .boolean) Bd.returns (by simp) (hb hby d2_69) ?_ (by decide) (by decide)
                rw [e0]
                exact ⟨N0, rfl, (Or.inl ⟨(by have q0 := mt Int32.lt_iff_toInt_lt.mpr hc1; have q1 := Int32.lt_iff_toInt_lt.mp hc2; have q2 := mt Int32.toInt_inj.mp hc3; have q3 := mt Int32.toInt_inj.mp hc4; have q4 := Int32.lt_iff_toInt_lt.mp hc5; have q5 := Int32.lt_iff_toInt_lt.mp hc6; have q6 := Int32.toInt_inj.mpr hc7; simp only [Int32.reduceToInt] at q0 q1 q2 q3 q4 q5 q6; unfold own_isX; omega), rfl⟩)⟩
              · skip
                refine Gets.of (fun t k => XS.icmpNo X0.here hx rfl (hb hby d2_59) rfl (feq hc7).1 k) ?_
                show Gets p e below _ (s₁.setTop (mkF m 62 #[.val (.int p1)] []))
                refine Gets.of (fun t k => XS.iloadN X0.here hx rfl (hb hby d2_62) rfl  k) ?_
                refine Gets.of (fun t k => X0.ldcInt hx hown (mvT hZ (w8 hw)) (g := (mkF m 63 #[.val (.int p1)] [(.int p1)])) rfl (hb hby d2_63) t k) ?_
                show Gets p e below _ (s₁.setTop (mkF m 65 #[.val (.int p1)] [(.int (65535 : Int32)), (.int p1)]))
                by_cases hc8 : p1 = (65535 : Int32)
                · skip
                  refine Gets.of (fun t k => XS.icmpNo X0.here hx rfl (hb hby d2_65) rfl (teq hc8).2 k) ?_
                  show Gets p e below _ (s₁.setTop (mkF m 68 #[.val (.int p1)] []))
                  refine Gets.of (fun t k => XS.iconst X0.here hx rfl (hb hby d2_68) k) ?_
                  refine Gets.retN X0 hx (t := .boolean) Bd.returns (by simp) (hb hby d2_69) ?_ (by decide) (by decide)
                  rw [e0]
                  exact ⟨N0, rfl, (Or.inl ⟨(by have q0 := mt Int32.lt_iff_toInt_lt.mpr hc1; have q1 := Int32.lt_iff_toInt_lt.mp hc2; have q2 := mt Int32.toInt_inj.mp hc3; have q3 := mt Int32.toInt_inj.mp hc4; have q4 := Int32.lt_iff_toInt_lt.mp hc5; have q5 := Int32.lt_iff_toInt_lt.mp hc6; have q6 := mt Int32.toInt_inj.mp hc7; have q7 := Int32.toInt_inj.mpr hc8; simp only [Int32.reduceToInt] at q0 q1 q2 q3 q4 q5 q6 q7; unfold own_isX; omega), rfl⟩)⟩
                · skip
                  refine Gets.of (fun t k => XS.icmpYes X0.here hx rfl (pc0 := 65) (pc' := 70) rfl (hb hby d2_65) rfl (feq hc8).2 (by decide) (by decide) k) ?_
                  show Gets p e below _ (s₁.setTop (mkF m 70 #[.val (.int p1)] []))
                  refine Gets.of (fun t k => XS.iloadN X0.here hx rfl (hb hby d2_70) rfl  k) ?_
                  refine Gets.of (fun t k => X0.ldcInt hx hown (mvT hZ (w5 hw)) (g := (mkF m 71 #[.val (.int p1)] [(.int p1)])) rfl (hb hby d2_71) t k) ?_
                  show Gets p e below _ (s₁.setTop (mkF m 73 #[.val (.int p1)] [(.int (1114111 : Int32)), (.int p1)]))
                  by_cases hc9 : (1114111 : Int32) < p1
                  · skip
                    refine Gets.of (fun t k => XS.icmpNo X0.here hx rfl (hb hby d2_73) rfl (tlt hc9).2.2.2 k) ?_
                    show Gets p e below _ (s₁.setTop (mkF m 76 #[.val (.int p1)] []))
                    refine Gets.of (fun t k => XS.iconst X0.here hx rfl (hb hby d2_76) k) ?_
                    refine Gets.of (fun t k => XS.goto X0.here hx rfl (pc0 := 77) (pc' := 81) rfl (hb hby d2_77) (by decide) (by decide) k) ?_
                    show Gets p e below _ (s₁.setTop (mkF m 81 #[.val (.int p1)] [(.int (1 : Int32))]))
                    refine Gets.retN X0 hx (t := .boolean) Bd.returns (by simp) (hb hby d2_81) ?_ (by decide) (by decide)
                    rw [e0]
                    exact ⟨N0, rfl, (Or.inl ⟨(by have q0 := mt Int32.lt_iff_toInt_lt.mpr hc1; have q1 := Int32.lt_iff_toInt_lt.mp hc2; have q2 := mt Int32.toInt_inj.mp hc3; have q3 := mt Int32.toInt_inj.mp hc4; have q4 := Int32.lt_iff_toInt_lt.mp hc5; have q5 := Int32.lt_iff_toInt_lt.mp hc6; have q6 := mt Int32.toInt_inj.mp hc7; have q7 := mt Int32.toInt_inj.mp hc8; have q8 := Int32.lt_iff_toInt_lt.mp hc9; simp only [Int32.reduceToInt] at q0 q1 q2 q3 q4 q5 q6 q7 q8; unfold own_isX; omega), rfl⟩)⟩
                  · skip
                    refine Gets.of (fun t k => XS.icmpYes X0.here hx rfl (pc0 := 73) (pc' := 80) rfl (hb hby d2_73) rfl (flt hc9).2.2.2 (by decide) (by decide) k) ?_
                    show Gets p e below _ (s₁.setTop (mkF m 80 #[.val (.int p1)] []))
                    refine Gets.of (fun t k => XS.iconst X0.here hx rfl (hb hby d2_80) k) ?_
                    refine Gets.retN X0 hx (t := .boolean) Bd.returns (by simp) (hb hby d2_81) ?_ (by decide) (by decide)
                    rw [e0]
                    exact ⟨N0, rfl, (Or.inr (⟨(by have q0 := mt Int32.lt_iff_toInt_lt.mpr hc1; have q1 := Int32.lt_iff_toInt_lt.mp hc2; have q2 := mt Int32.toInt_inj.mp hc3; have q3 := mt Int32.toInt_inj.mp hc4; have q4 := Int32.lt_iff_toInt_lt.mp hc5; have q5 := Int32.lt_iff_toInt_lt.mp hc6; have q6 := mt Int32.toInt_inj.mp hc7; have q7 := mt Int32.toInt_inj.mp hc8; have q8 := mt Int32.lt_iff_toInt_lt.mpr hc9; simp only [Int32.reduceToInt] at q0 q1 q2 q3 q4 q5 q6 q7 q8; unfold own_isX; omega), rfl⟩))⟩
            · skip
              refine Gets.of (fun t k => XS.icmpNo X0.here hx rfl (hb hby d2_45) rfl (flt hc6).1 k) ?_
              show Gets p e below _ (s₁.setTop (mkF m 48 #[.val (.int p1)] []))
              refine Gets.of (fun t k => XS.iloadN X0.here hx rfl (hb hby d2_48) rfl  k) ?_
              refine Gets.of (fun t k => X0.ldcInt hx hown (mvT hZ (w7 hw)) (g := (mkF m 49 #[.val (.int p1)] [(.int p1)])) rfl (hb hby d2_49) t k) ?_
              show Gets p e below _ (s₁.setTop (mkF m 51 #[.val (.int p1)] [(.int (57343 : Int32)), (.int p1)]))
              by_cases hc10 : (57343 : Int32) < p1
              · skip
                refine Gets.of (fun t k => XS.icmpYes X0.here hx rfl (pc0 := 51) (pc' := 56) rfl (hb hby d2_51) rfl (tlt hc10).2.2.1 (by decide) (by decide) k) ?_
                show Gets p e below _ (s₁.setTop (mkF m 56 #[.val (.int p1)] []))
                refine Gets.of (fun t k => XS.iloadN X0.here hx rfl (hb hby d2_56) rfl  k) ?_
                refine Gets.of (fun t k => X0.ldcInt hx hown (mvT hZ (w18 hw)) (g := (mkF m 57 #[.val (.int p1)] [(.int p1)])) rfl (hb hby d2_57) t k) ?_
                show Gets p e below _ (s₁.setTop (mkF m 59 #[.val (.int p1)] [(.int (65534 : Int32)), (.int p1)]))
                by_cases hc11 : p1 = (65534 : Int32)
                · skip
                  refine Gets.of (fun t k => XS.icmpYes X0.here hx rfl (pc0 := 59) (pc' := 68) rfl (hb hby d2_59) rfl (teq hc11).1 (by decide) (by decide) k) ?_
                  show Gets p e below _ (s₁.setTop (mkF m 68 #[.val (.int p1)] []))
                  refine Gets.of (fun t k => XS.iconst X0.here hx rfl (hb hby d2_68) k) ?_
                  refine Gets.retN X0 hx (t := .boolean) Bd.returns (by simp) (hb hby d2_69) ?_ (by decide) (by decide)
                  rw [e0]
                  exact ⟨N0, rfl, (Or.inl ⟨(by have q0 := mt Int32.lt_iff_toInt_lt.mpr hc1; have q1 := Int32.lt_iff_toInt_lt.mp hc2; have q2 := mt Int32.toInt_inj.mp hc3; have q3 := mt Int32.toInt_inj.mp hc4; have q4 := Int32.lt_iff_toInt_lt.mp hc5; have q5 := mt Int32.lt_iff_toInt_lt.mpr hc6; have q6 := Int32.lt_iff_toInt_lt.mp hc10; have q7 := Int32.toInt_inj.mpr hc11; simp only [Int32.reduceToInt] at q0 q1 q2 q3 q4 q5 q6 q7; unfold own_isX; omega), rfl⟩)⟩
                · skip
                  refine Gets.of (fun t k => XS.icmpNo X0.here hx rfl (hb hby d2_59) rfl (feq hc11).1 k) ?_
                  show Gets p e below _ (s₁.setTop (mkF m 62 #[.val (.int p1)] []))
                  refine Gets.of (fun t k => XS.iloadN X0.here hx rfl (hb hby d2_62) rfl  k) ?_
                  refine Gets.of (fun t k => X0.ldcInt hx hown (mvT hZ (w8 hw)) (g := (mkF m 63 #[.val (.int p1)] [(.int p1)])) rfl (hb hby d2_63) t k) ?_
                  show Gets p e below _ (s₁.setTop (mkF m 65 #[.val (.int p1)] [(.int (65535 : Int32)), (.int p1)]))
                  by_cases hc12 : p1 = (65535 : Int32)
                  · skip
                    refine Gets.of (fun t k => XS.icmpNo X0.here hx rfl (hb hby d2_65) rfl (teq hc12).2 k) ?_
                    show Gets p e below _ (s₁.setTop (mkF m 68 #[.val (.int p1)] []))
                    refine Gets.of (fun t k => XS.iconst X0.here hx rfl (hb hby d2_68) k) ?_
                    refine Gets.retN X0 hx (t := .boolean) Bd.returns (by simp) (hb hby d2_69) ?_ (by decide) (by decide)
                    rw [e0]
                    exact ⟨N0, rfl, (Or.inl ⟨(by have q0 := mt Int32.lt_iff_toInt_lt.mpr hc1; have q1 := Int32.lt_iff_toInt_lt.mp hc2; have q2 := mt Int32.toInt_inj.mp hc3; have q3 := mt Int32.toInt_inj.mp hc4; have q4 := Int32.lt_iff_toInt_lt.mp hc5; have q5 := mt Int32.lt_iff_toInt_lt.mpr hc6; have q6 := Int32.lt_iff_toInt_lt.mp hc10; have q7 := mt Int32.toInt_inj.mp hc11; have q8 := Int32.toInt_inj.mpr hc12; simp only [Int32.reduceToInt] at q0 q1 q2 q3 q4 q5 q6 q7 q8; unfold own_isX; omega), rfl⟩)⟩
                  · skip
                    refine Gets.of (fun t k => XS.icmpYes X0.here hx rfl (pc0 := 65) (pc' := 70) rfl (hb hby d2_65) rfl (feq hc12).2 (by decide) (by decide) k) ?_
                    show Gets p e below _ (s₁.setTop (mkF m 70 #[.val (.int p1)] []))
                    refine Gets.of (fun t k => XS.iloadN X0.here hx rfl (hb hby d2_70) rfl  k) ?_
                    refine Gets.of (fun t k => X0.ldcInt hx hown (mvT hZ (w5 hw)) (g := (mkF m 71 #[.val (.int p1)] [(.int p1)])) rfl (hb hby d2_71) t k) ?_
                    show Gets p e below _ (s₁.setTop (mkF m 73 #[.val (.int p1)] [(.int (1114111 : Int32)), (.int p1)]))
                    by_cases hc13 : (1114111 : Int32) < p1
                    · skip
                      refine Gets.of (fun t k => XS.icmpNo X0.here hx rfl (hb hby d2_73) rfl (tlt hc13).2.2.2 k) ?_
                      show Gets p e below _ (s₁.setTop (mkF m 76 #[.val (.int p1)] []))
                      refine Gets.of (fun t k => XS.iconst X0.here hx rfl (hb hby d2_76) k) ?_
                      refine Gets.of (fun t k => XS.goto X0.here hx rfl (pc0 := 77) (pc' := 81) rfl (hb hby d2_77) (by decide) (by decide) k) ?_
                      show Gets p e below _ (s₁.setTop (mkF m 81 #[.val (.int p1)] [(.int (1 : Int32))]))
                      refine Gets.retN X0 hx (t := .boolean) Bd.returns (by simp) (hb hby d2_81) ?_ (by decide) (by decide)
                      rw [e0]
                      exact ⟨N0, rfl, (Or.inl ⟨(by have q0 := mt Int32.lt_iff_toInt_lt.mpr hc1; have q1 := Int32.lt_iff_toInt_lt.mp hc2; have q2 := mt Int32.toInt_inj.mp hc3; have q3 := mt Int32.toInt_inj.mp hc4; have q4 := Int32.lt_iff_toInt_lt.mp hc5; have q5 := mt Int32.lt_iff_toInt_lt.mpr hc6; have q6 := Int32.lt_iff_toInt_lt.mp hc10; have q7 := mt Int32.toInt_inj.mp hc11; have q8 := mt Int32.toInt_inj.mp hc12; have q9 := Int32.lt_iff_toInt_lt.mp hc13; simp only [Int32.reduceToInt] at q0 q1 q2 q3 q4 q5 q6 q7 q8 q9; unfold own_isX; omega), rfl⟩)⟩
                    · skip
                      refine Gets.of (fun t k => XS.icmpYes X0.here hx rfl (pc0 := 73) (pc' := 80) rfl (hb hby d2_73) rfl (flt hc13).2.2.2 (by decide) (by decide) k) ?_
                      show Gets p e below _ (s₁.setTop (mkF m 80 #[.val (.int p1)] []))
                      refine Gets.of (fun t k => XS.iconst X0.here hx rfl (hb hby d2_80) k) ?_
                      refine Gets.retN X0 hx (t := .boolean) Bd.returns (by simp) (hb hby d2_81) ?_ (by decide) (by decide)
                      rw [e0]
                      exact ⟨N0, rfl, (Or.inr (⟨(by have q0 := mt Int32.lt_iff_toInt_lt.mpr hc1; have q1 := Int32.lt_iff_toInt_lt.mp hc2; have q2 := mt Int32.toInt_inj.mp hc3; have q3 := mt Int32.toInt_inj.mp hc4; have q4 := Int32.lt_iff_toInt_lt.mp hc5; have q5 := mt Int32.lt_iff_toInt_lt.mpr hc6; have q6 := Int32.lt_iff_toInt_lt.mp hc10; have q7 := mt Int32.toInt_inj.mp hc11; have q8 := mt Int32.toInt_inj.mp hc12; have q9 := mt Int32.lt_iff_toInt_lt.mpr hc13; simp only [Int32.reduceToInt] at q0 q1 q2 q3 q4 q5 q6 q7 q8 q9; unfold own_isX; omega), rfl⟩))⟩
              · skip
                refine Gets.of (fun t k => XS.icmpNo X0.here hx rfl (hb hby d2_51) rfl (flt hc10).2.2.1 k) ?_
                show Gets p e below _ (s₁.setTop (mkF m 54 #[.val (.int p1)] []))
                refine Gets.of (fun t k => XS.iconst X0.here hx rfl (hb hby d2_54) k) ?_
                refine Gets.retN X0 hx (t := .boolean) Bd.returns (by simp) (hb hby d2_55) ?_ (by decide) (by decide)
                rw [e0]
                exact ⟨N0, rfl, (Or.inl ⟨(by have q0 := mt Int32.lt_iff_toInt_lt.mpr hc1; have q1 := Int32.lt_iff_toInt_lt.mp hc2; have q2 := mt Int32.toInt_inj.mp hc3; have q3 := mt Int32.toInt_inj.mp hc4; have q4 := Int32.lt_iff_toInt_lt.mp hc5; have q5 := mt Int32.lt_iff_toInt_lt.mpr hc6; have q6 := mt Int32.lt_iff_toInt_lt.mpr hc10; simp only [Int32.reduceToInt] at q0 q1 q2 q3 q4 q5 q6; unfold own_isX; omega), rfl⟩)⟩
          · skip
            refine Gets.of (fun t k => XS.icmpNo X0.here hx rfl (hb hby d2_31) rfl (flt hc5).1 k) ?_
            show Gets p e below _ (s₁.setTop (mkF m 34 #[.val (.int p1)] []))
            refine Gets.of (fun t k => XS.iloadN X0.here hx rfl (hb hby d2_34) rfl  k) ?_
            refine Gets.of (fun t k => XS.bipush X0.here hx rfl (hb hby d2_35) k) ?_
            by_cases hc14 : (31 : Int32) < p1
            · skip
              refine Gets.of (fun t k => XS.icmpYes X0.here hx rfl (pc0 := 37) (pc' := 42) rfl (hb hby d2_37) rfl (tlt hc14).2.2.1 (by decide) (by decide) k) ?_
              show Gets p e below _ (s₁.setTop (mkF m 42 #[.val (.int p1)] []))
              refine Gets.of (fun t k => XS.iloadN X0.here hx rfl (hb hby d2_42) rfl  k) ?_
              refine Gets.of (fun t k => X0.ldcInt hx hown (mvT hZ (w6 hw)) (g := (mkF m 43 #[.val (.int p1)] [(.int p1)])) rfl (hb hby d2_43) t k) ?_
              show Gets p e below _ (s₁.setTop (mkF m 45 #[.val (.int p1)] [(.int (55296 : Int32)), (.int p1)]))
              by_cases hc15 : p1 < (55296 : Int32)
              · skip
                refine Gets.of (fun t k => XS.icmpYes X0.here hx rfl (pc0 := 45) (pc' := 56) rfl (hb hby d2_45) rfl (tlt hc15).1 (by decide) (by decide) k) ?_
                show Gets p e below _ (s₁.setTop (mkF m 56 #[.val (.int p1)] []))
                refine Gets.of (fun t k => XS.iloadN X0.here hx rfl (hb hby d2_56) rfl  k) ?_
                refine Gets.of (fun t k => X0.ldcInt hx hown (mvT hZ (w18 hw)) (g := (mkF m 57 #[.val (.int p1)] [(.int p1)])) rfl (hb hby d2_57) t k) ?_
                show Gets p e below _ (s₁.setTop (mkF m 59 #[.val (.int p1)] [(.int (65534 : Int32)), (.int p1)]))
                by_cases hc16 : p1 = (65534 : Int32)
                · skip
                  refine Gets.of (fun t k => XS.icmpYes X0.here hx rfl (pc0 := 59) (pc' := 68) rfl (hb hby d2_59) rfl (teq hc16).1 (by decide) (by decide) k) ?_
                  show Gets p e below _ (s₁.setTop (mkF m 68 #[.val (.int p1)] []))
                  refine Gets.of (fun t k => XS.iconst X0.here hx rfl (hb hby d2_68) k) ?_
                  refine Gets.retN X0 hx (t := .boolean) Bd.returns (by simp) (hb hby d2_69) ?_ (by decide) (by decide)
                  rw [e0]
                  exact ⟨N0, rfl, (Or.inl ⟨(by have q0 := mt Int32.lt_iff_toInt_lt.mpr hc1; have q1 := Int32.lt_iff_toInt_lt.mp hc2; have q2 := mt Int32.toInt_inj.mp hc3; have q3 := mt Int32.toInt_inj.mp hc4; have q4 := mt Int32.lt_iff_toInt_lt.mpr hc5; have q5 := Int32.lt_iff_toInt_lt.mp hc14; have q6 := Int32.lt_iff_toInt_lt.mp hc15; have q7 := Int32.toInt_inj.mpr hc16; simp only [Int32.reduceToInt] at q0 q1 q2 q3 q4 q5 q6 q7; unfold own_isX; omega), rfl⟩)⟩
                · skip
                  refine Gets.of (fun t k => XS.icmpNo X0.here hx rfl (hb hby d2_59) rfl (feq hc16).1 k) ?_
                  show Gets p e below _ (s₁.setTop (mkF m 62 #[.val (.int p1)] []))
                  refine Gets.of (fun t k => XS.iloadN X0.here hx rfl (hb hby d2_62) rfl  k) ?_
                  refine Gets.of (fun t k => X0.ldcInt hx hown (mvT hZ (w8 hw)) (g := (mkF m 63 #[.val (.int p1)] [(.int p1)])) rfl (hb hby d2_63) t k) ?_
                  show Gets p e below _ (s₁.setTop (mkF m 65 #[.val (.int p1)] [(.int (65535 : Int32)), (.int p1)]))
                  by_cases hc17 : p1 = (65535 : Int32)
                  · skip
                    refine Gets.of (fun t k => XS.icmpNo X0.here hx rfl (hb hby d2_65) rfl (teq hc17).2 k) ?_
                    show Gets p e below _ (s₁.setTop (mkF m 68 #[.val (.int p1)] []))
                    refine Gets.of (fun t k => XS.iconst X0.here hx rfl (hb hby d2_68) k) ?_
                    refine Gets.retN X0 hx (t := .boolean) Bd.returns (by simp) (hb hby d2_69) ?_ (by decide) (by decide)
                    rw [e0]
                    exact ⟨N0, rfl, (Or.inl ⟨(by have q0 := mt Int32.lt_iff_toInt_lt.mpr hc1; have q1 := Int32.lt_iff_toInt_lt.mp hc2; have q2 := mt Int32.toInt_inj.mp hc3; have q3 := mt Int32.toInt_inj.mp hc4; have q4 := mt Int32.lt_iff_toInt_lt.mpr hc5; have q5 := Int32.lt_iff_toInt_lt.mp hc14; have q6 := Int32.lt_iff_toInt_lt.mp hc15; have q7 := mt Int32.toInt_inj.mp hc16; have q8 := Int32.toInt_inj.mpr hc17; simp only [Int32.reduceToInt] at q0 q1 q2 q3 q4 q5 q6 q7 q8; unfold own_isX; omega), rfl⟩)⟩
                  · skip
                    refine Gets.of (fun t k => XS.icmpYes X0.here hx rfl (pc0 := 65) (pc' := 70) rfl (hb hby d2_65) rfl (feq hc17).2 (by decide) (by decide) k) ?_
                    show Gets p e below _ (s₁.setTop (mkF m 70 #[.val (.int p1)] []))
                    refine Gets.of (fun t k => XS.iloadN X0.here hx rfl (hb hby d2_70) rfl  k) ?_
                    refine Gets.of (fun t k => X0.ldcInt hx hown (mvT hZ (w5 hw)) (g := (mkF m 71 #[.val (.int p1)] [(.int p1)])) rfl (hb hby d2_71) t k) ?_
                    show Gets p e below _ (s₁.setTop (mkF m 73 #[.val (.int p1)] [(.int (1114111 : Int32)), (.int p1)]))
                    by_cases hc18 : (1114111 : Int32) < p1
                    · skip
                      refine Gets.of (fun t k => XS.icmpNo X0.here hx rfl (hb hby d2_73) rfl (tlt hc18).2.2.2 k) ?_
                      show Gets p e below _ (s₁.setTop (mkF m 76 #[.val (.int p1)] []))
                      refine Gets.of (fun t k => XS.iconst X0.here hx rfl (hb hby d2_76) k) ?_
                      refine Gets.of (fun t k => XS.goto X0.here hx rfl (pc0 := 77) (pc' := 81) rfl (hb hby d2_77) (by decide) (by decide) k) ?_
                      show Gets p e below _ (s₁.setTop (mkF m 81 #[.val (.int p1)] [(.int (1 : Int32))]))
                      refine Gets.retN X0 hx (t := .boolean) Bd.returns (by simp) (hb hby d2_81) ?_ (by decide) (by decide)
                      rw [e0]
                      exact ⟨N0, rfl, (Or.inl ⟨(by have q0 := mt Int32.lt_iff_toInt_lt.mpr hc1; have q1 := Int32.lt_iff_toInt_lt.mp hc2; have q2 := mt Int32.toInt_inj.mp hc3; have q3 := mt Int32.toInt_inj.mp hc4; have q4 := mt Int32.lt_iff_toInt_lt.mpr hc5; have q5 := Int32.lt_iff_toInt_lt.mp hc14; have q6 := Int32.lt_iff_toInt_lt.mp hc15; have q7 := mt Int32.toInt_inj.mp hc16; have q8 := mt Int32.toInt_inj.mp hc17; have q9 := Int32.lt_iff_toInt_lt.mp hc18; simp only [Int32.reduceToInt] at q0 q1 q2 q3 q4 q5 q6 q7 q8 q9; unfold own_isX; omega), rfl⟩)⟩
                    · skip
                      refine Gets.of (fun t k => XS.icmpYes X0.here hx rfl (pc0 := 73) (pc' := 80) rfl (hb hby d2_73) rfl (flt hc18).2.2.2 (by decide) (by decide) k) ?_
                      show Gets p e below _ (s₁.setTop (mkF m 80 #[.val (.int p1)] []))
                      refine Gets.of (fun t k => XS.iconst X0.here hx rfl (hb hby d2_80) k) ?_
                      refine Gets.retN X0 hx (t := .boolean) Bd.returns (by simp) (hb hby d2_81) ?_ (by decide) (by decide)
                      rw [e0]
                      exact ⟨N0, rfl, (Or.inr (⟨(by have q0 := mt Int32.lt_iff_toInt_lt.mpr hc1; have q1 := Int32.lt_iff_toInt_lt.mp hc2; have q2 := mt Int32.toInt_inj.mp hc3; have q3 := mt Int32.toInt_inj.mp hc4; have q4 := mt Int32.lt_iff_toInt_lt.mpr hc5; have q5 := Int32.lt_iff_toInt_lt.mp hc14; have q6 := Int32.lt_iff_toInt_lt.mp hc15; have q7 := mt Int32.toInt_inj.mp hc16; have q8 := mt Int32.toInt_inj.mp hc17; have q9 := mt Int32.lt_iff_toInt_lt.mpr hc18; simp only [Int32.reduceToInt] at q0 q1 q2 q3 q4 q5 q6 q7 q8 q9; unfold own_isX; omega), rfl⟩))⟩
              · skip
                refine Gets.of (fun t k => XS.icmpNo X0.here hx rfl (hb hby d2_45) rfl (flt hc15).1 k) ?_
                show Gets p e below _ (s₁.setTop (mkF m 48 #[.val (.int p1)] []))
                refine Gets.of (fun t k => XS.iloadN X0.here hx rfl (hb hby d2_48) rfl  k) ?_
                refine Gets.of (fun t k => X0.ldcInt hx hown (mvT hZ (w7 hw)) (g := (mkF m 49 #[.val (.int p1)] [(.int p1)])) rfl (hb hby d2_49) t k) ?_
                show Gets p e below _ (s₁.setTop (mkF m 51 #[.val (.int p1)] [(.int (57343 : Int32)), (.int p1)]))
                by_cases hc19 : (57343 : Int32) < p1
                · skip
                  refine Gets.of (fun t k => XS.icmpYes X0.here hx rfl (pc0 := 51) (pc' := 56) rfl (hb hby d2_51) rfl (tlt hc19).2.2.1 (by decide) (by decide) k) ?_
                  show Gets p e below _ (s₁.setTop (mkF m 56 #[.val (.int p1)] []))
                  refine Gets.of (fun t k => XS.iloadN X0.here hx rfl (hb hby d2_56) rfl  k) ?_
                  refine Gets.of (fun t k => X0.ldcInt hx hown (mvT hZ (w18 hw)) (g := (mkF m 57 #[.val (.int p1)] [(.int p1)])) rfl (hb hby d2_57) t k) ?_
                  show Gets p e below _ (s₁.setTop (mkF m 59 #[.val (.int p1)] [(.int (65534 : Int32)), (.int p1)]))
                  by_cases hc20 : p1 = (65534 : Int32)
                  · skip
                    refine Gets.of (fun t k => XS.icmpYes X0.here hx rfl (pc0 := 59) (pc' := 68) rfl (hb hby d2_59) rfl (teq hc20).1 (by decide) (by decide) k) ?_
                    show Gets p e below _ (s₁.setTop (mkF m 68 #[.val (.int p1)] []))
                    refine Gets.of (fun t k => XS.iconst X0.here hx rfl (hb hby d2_68) k) ?_
                    refine Gets.retN X0 hx (t := .boolean) Bd.returns (by simp) (hb hby d2_69) ?_ (by decide) (by decide)
                    rw [e0]
                    exact ⟨N0, rfl, (Or.inl ⟨(by have q0 := mt Int32.lt_iff_toInt_lt.mpr hc1; have q1 := Int32.lt_iff_toInt_lt.mp hc2; have q2 := mt Int32.toInt_inj.mp hc3; have q3 := mt Int32.toInt_inj.mp hc4; have q4 := mt Int32.lt_iff_toInt_lt.mpr hc5; have q5 := Int32.lt_iff_toInt_lt.mp hc14; have q6 := mt Int32.lt_iff_toInt_lt.mpr hc15; have q7 := Int32.lt_iff_toInt_lt.mp hc19; have q8 := Int32.toInt_inj.mpr hc20; simp only [Int32.reduceToInt] at q0 q1 q2 q3 q4 q5 q6 q7 q8; unfold own_isX; omega), rfl⟩)⟩
                  · skip
                    refine Gets.of (fun t k => XS.icmpNo X0.here hx rfl (hb hby d2_59) rfl (feq hc20).1 k) ?_
                    show Gets p e below _ (s₁.setTop (mkF m 62 #[.val (.int p1)] []))
                    refine Gets.of (fun t k => XS.iloadN X0.here hx rfl (hb hby d2_62) rfl  k) ?_
                    refine Gets.of (fun t k => X0.ldcInt hx hown (mvT hZ (w8 hw)) (g := (mkF m 63 #[.val (.int p1)] [(.int p1)])) rfl (hb hby d2_63) t k) ?_
                    show Gets p e below _ (s₁.setTop (mkF m 65 #[.val (.int p1)] [(.int (65535 : Int32)), (.int p1)]))
                    by_cases hc21 : p1 = (65535 : Int32)
                    · skip
                      refine Gets.of (fun t k => XS.icmpNo X0.here hx rfl (hb hby d2_65) rfl (teq hc21).2 k) ?_
                      show Gets p e below _ (s₁.setTop (mkF m 68 #[.val (.int p1)] []))
                      refine Gets.of (fun t k => XS.iconst X0.here hx rfl (hb hby d2_68) k) ?_
                      refine Gets.retN X0 hx (t := .boolean) Bd.returns (by simp) (hb hby d2_69) ?_ (by decide) (by decide)
                      rw [e0]
                      exact ⟨N0, rfl, (Or.inl ⟨(by have q0 := mt Int32.lt_iff_toInt_lt.mpr hc1; have q1 := Int32.lt_iff_toInt_lt.mp hc2; have q2 := mt Int32.toInt_inj.mp hc3; have q3 := mt Int32.toInt_inj.mp hc4; have q4 := mt Int32.lt_iff_toInt_lt.mpr hc5; have q5 := Int32.lt_iff_toInt_lt.mp hc14; have q6 := mt Int32.lt_iff_toInt_lt.mpr hc15; have q7 := Int32.lt_iff_toInt_lt.mp hc19; have q8 := mt Int32.toInt_inj.mp hc20; have q9 := Int32.toInt_inj.mpr hc21; simp only [Int32.reduceToInt] at q0 q1 q2 q3 q4 q5 q6 q7 q8 q9; unfold own_isX; omega), rfl⟩)⟩
                    · skip
                      refine Gets.of (fun t k => XS.icmpYes X0.here hx rfl (pc0 := 65) (pc' := 70) rfl (hb hby d2_65) rfl (feq hc21).2 (by decide) (by decide) k) ?_
                      show Gets p e below _ (s₁.setTop (mkF m 70 #[.val (.int p1)] []))
                      refine Gets.of (fun t k => XS.iloadN X0.here hx rfl (hb hby d2_70) rfl  k) ?_
                      refine Gets.of (fun t k => X0.ldcInt hx hown (mvT hZ (w5 hw)) (g := (mkF m 71 #[.val (.int p1)] [(.int p1)])) rfl (hb hby d2_71) t k) ?_
                      show Gets p e below _ (s₁.setTop (mkF m 73 #[.val (.int p1)] [(.int (1114111 : Int32)), (.int p1)]))
                      by_cases hc22 : (1114111 : Int32) < p1
                      · skip
                        refine Gets.of (fun t k => XS.icmpNo X0.here hx rfl (hb hby d2_73) rfl (tlt hc22).2.2.2 k) ?_
                        show Gets p e below _ (s₁.setTop (mkF m 76 #[.val (.int p1)] []))
                        refine Gets.of (fun t k => XS.iconst X0.here hx rfl (hb hby d2_76) k) ?_
                        refine Gets.of (fun t k => XS.goto X0.here hx rfl (pc0 := 77) (pc' := 81) rfl (hb hby d2_77) (by decide) (by decide) k) ?_
                        show Gets p e below _ (s₁.setTop (mkF m 81 #[.val (.int p1)] [(.int (1 : Int32))]))
                        refine Gets.retN X0 hx (t := .boolean) Bd.returns (by simp) (hb hby d2_81) ?_ (by decide) (by decide)
                        rw [e0]
                        exact ⟨N0, rfl, (Or.inl ⟨(by have q0 := mt Int32.lt_iff_toInt_lt.mpr hc1; have q1 := Int32.lt_iff_toInt_lt.mp hc2; have q2 := mt Int32.toInt_inj.mp hc3; have q3 := mt Int32.toInt_inj.mp hc4; have q4 := mt Int32.lt_iff_toInt_lt.mpr hc5; have q5 := Int32.lt_iff_toInt_lt.mp hc14; have q6 := mt Int32.lt_iff_toInt_lt.mpr hc15; have q7 := Int32.lt_iff_toInt_lt.mp hc19; have q8 := mt Int32.toInt_inj.mp hc20; have q9 := mt Int32.toInt_inj.mp hc21; have q10 := Int32.lt_iff_toInt_lt.mp hc22; simp only [Int32.reduceToInt] at q0 q1 q2 q3 q4 q5 q6 q7 q8 q9 q10; unfold own_isX; omega), rfl⟩)⟩
                      · skip
                        refine Gets.of (fun t k => XS.icmpYes X0.here hx rfl (pc0 := 73) (pc' := 80) rfl (hb hby d2_73) rfl (flt hc22).2.2.2 (by decide) (by decide) k) ?_
                        show Gets p e below _ (s₁.setTop (mkF m 80 #[.val (.int p1)] []))
                        refine Gets.of (fun t k => XS.iconst X0.here hx rfl (hb hby d2_80) k) ?_
                        refine Gets.retN X0 hx (t := .boolean) Bd.returns (by simp) (hb hby d2_81) ?_ (by decide) (by decide)
                        rw [e0]
                        exact ⟨N0, rfl, (Or.inr (⟨(by have q0 := mt Int32.lt_iff_toInt_lt.mpr hc1; have q1 := Int32.lt_iff_toInt_lt.mp hc2; have q2 := mt Int32.toInt_inj.mp hc3; have q3 := mt Int32.toInt_inj.mp hc4; have q4 := mt Int32.lt_iff_toInt_lt.mpr hc5; have q5 := Int32.lt_iff_toInt_lt.mp hc14; have q6 := mt Int32.lt_iff_toInt_lt.mpr hc15; have q7 := Int32.lt_iff_toInt_lt.mp hc19; have q8 := mt Int32.toInt_inj.mp hc20; have q9 := mt Int32.toInt_inj.mp hc21; have q10 := mt Int32.lt_iff_toInt_lt.mpr hc22; simp only [Int32.reduceToInt] at q0 q1 q2 q3 q4 q5 q6 q7 q8 q9 q10; unfold own_isX; omega), rfl⟩))⟩
                · skip
                  refine Gets.of (fun t k => XS.icmpNo X0.here hx rfl (hb hby d2_51) rfl (flt hc19).2.2.1 k) ?_
                  show Gets p e below _ (s₁.setTop (mkF m 54 #[.val (.int p1)] []))
                  refine Gets.of (fun t k => XS.iconst X0.here hx rfl (hb hby d2_54) k) ?_
                  refine Gets.retN X0 hx (t := .boolean) Bd.returns (by simp) (hb hby d2_55) ?_ (by decide) (by decide)
                  rw [e0]
                  exact ⟨N0, rfl, (Or.inl ⟨(by have q0 := mt Int32.lt_iff_toInt_lt.mpr hc1; have q1 := Int32.lt_iff_toInt_lt.mp hc2; have q2 := mt Int32.toInt_inj.mp hc3; have q3 := mt Int32.toInt_inj.mp hc4; have q4 := mt Int32.lt_iff_toInt_lt.mpr hc5; have q5 := Int32.lt_iff_toInt_lt.mp hc14; have q6 := mt Int32.lt_iff_toInt_lt.mpr hc15; have q7 := mt Int32.lt_iff_toInt_lt.mpr hc19; simp only [Int32.reduceToInt] at q0 q1 q2 q3 q4 q5 q6 q7; unfold own_isX; omega), rfl⟩)⟩
            · skip
              refine Gets.of (fun t k => XS.icmpNo X0.here hx rfl (hb hby d2_37) rfl (flt hc14).2.2.1 k) ?_
              show Gets p e below _ (s₁.setTop (mkF m 40 #[.val (.int p1)] []))
              refine Gets.of (fun t k => XS.iconst X0.here hx rfl (hb hby d2_40) k) ?_
              refine Gets.retN X0 hx (t := .boolean) Bd.returns (by simp) (hb hby d2_41) ?_ (by decide) (by decide)
              rw [e0]
              exact ⟨N0, rfl, (Or.inl ⟨(by have q0 := mt Int32.lt_iff_toInt_lt.mpr hc1; have q1 := Int32.lt_iff_toInt_lt.mp hc2; have q2 := mt Int32.toInt_inj.mp hc3; have q3 := mt Int32.toInt_inj.mp hc4; have q4 := mt Int32.lt_iff_toInt_lt.mpr hc5; have q5 := mt Int32.lt_iff_toInt_lt.mpr hc14; simp only [Int32.reduceToInt] at q0 q1 q2 q3 q4 q5; unfold own_isX; omega), rfl⟩)⟩
    · skip
      refine Gets.of (fun t k => XS.icmpNo X0.here hx rfl (hb hby d2_9) rfl (flt hc2).2.2.1 k) ?_
      show Gets p e below _ (s₁.setTop (mkF m 12 #[.val (.int p1)] []))
      refine Gets.of (fun t k => XS.iconst X0.here hx rfl (hb hby d2_12) k) ?_
      refine Gets.retN X0 hx (t := .boolean) Bd.returns (by simp) (hb hby d2_13) ?_ (by decide) (by decide)
      rw [e0]
      exact ⟨N0, rfl, (Or.inl ⟨(by have q0 := mt Int32.lt_iff_toInt_lt.mpr hc1; have q1 := mt Int32.lt_iff_toInt_lt.mpr hc2; simp only [Int32.reduceToInt] at q0 q1; unfold own_isX; omega), rfl⟩)⟩
theorem w0 {Z : State} {a0 : Array Value} (hw : ∀ d ∈ tables_1, d.before a0 Z = true) : (Jvm.Cond.arrayClass Jvm.ClassFile.FieldType.int).before a0 Z = true := hw _ (List.mem_of_getElem? (i := 0) rfl)
theorem w1 {Z : State} {a0 : Array Value} (hw : ∀ d ∈ tables_1, d.before a0 Z = true) : (Jvm.Cond.constant cn0 (12 : Nat) (55295 : Int32)).before a0 Z = true := hw _ (List.mem_of_getElem? (i := 1) rfl)
theorem w2 {Z : State} {a0 : Array Value} (hw : ∀ d ∈ tables_1, d.before a0 Z = true) : (Jvm.Cond.constant cn0 (13 : Nat) (57344 : Int32)).before a0 Z = true := hw _ (List.mem_of_getElem? (i := 2) rfl)
theorem w3 {Z : State} {a0 : Array Value} (hw : ∀ d ∈ tables_1, d.before a0 Z = true) : (Jvm.Cond.constant cn0 (14 : Nat) (65533 : Int32)).before a0 Z = true := hw _ (List.mem_of_getElem? (i := 3) rfl)
theorem w4 {Z : State} {a0 : Array Value} (hw : ∀ d ∈ tables_1, d.before a0 Z = true) : (Jvm.Cond.constant cn0 (15 : Nat) (65536 : Int32)).before a0 Z = true := hw _ (List.mem_of_getElem? (i := 4) rfl)
theorem w9 {Z : State} {a0 : Array Value} (hw : ∀ d ∈ tables_1, d.before a0 Z = true) : (Jvm.Cond.constant cn0 (16 : Nat) (1114112 : Int32)).before a0 Z = true := hw _ (List.mem_of_getElem? (i := 9) rfl)
theorem w10 {Z : State} {a0 : Array Value} (hw : ∀ d ∈ tables_1, d.before a0 Z = true) : (Jvm.Cond.methodLink cn0 (17 : Nat) ({ cls := cn1, name := "isXmlChar", desc := "(I)Z" } : Jvm.MethodName)).before a0 Z = true := hw _ (List.mem_of_getElem? (i := 10) rfl)
theorem w13 {Z : State} {a0 : Array Value} (hw : ∀ d ∈ tables_1, d.before a0 Z = true) : (Jvm.Cond.code ({ cls := cn1, name := "isXmlChar", desc := "(I)Z" } : Jvm.MethodName) prog_53_method_3_code (1 : Nat) (Option.some Jvm.ClassFile.FieldType.boolean)).before a0 Z = true := hw _ (List.mem_of_getElem? (i := 13) rfl)
theorem w12 {Z : State} {a0 : Array Value} (hw : ∀ d ∈ tables_1, d.before a0 Z = true) : (Jvm.Cond.initialized cn1).before a0 Z = true := hw _ (List.mem_of_getElem? (i := 12) rfl)
theorem pd__I_Z : parseMethodDescriptor "(I)Z" = some ⟨[.int], some .boolean⟩ := by decide +kernel
theorem w11 {Z : State} {a0 : Array Value} (hw : ∀ d ∈ tables_1, d.before a0 Z = true) : (Jvm.Cond.static ({ cls := cn1, name := "isXmlChar", desc := "(I)Z" } : Jvm.MethodName)).before a0 Z = true := hw _ (List.mem_of_getElem? (i := 11) rfl)
theorem w14 {Z : State} {a0 : Array Value} (hw : ∀ d ∈ tables_1, d.before a0 Z = true) : (Jvm.Cond.methodLink cn0 (23 : Nat) ({ cls := cn0, name := "excluded", desc := "(I)Z" } : Jvm.MethodName)).before a0 Z = true := hw _ (List.mem_of_getElem? (i := 14) rfl)
theorem w17 {Z : State} {a0 : Array Value} (hw : ∀ d ∈ tables_1, d.before a0 Z = true) : (Jvm.Cond.code ({ cls := cn0, name := "excluded", desc := "(I)Z" } : Jvm.MethodName) method_2_code (1 : Nat) (Option.some Jvm.ClassFile.FieldType.boolean)).before a0 Z = true := hw _ (List.mem_of_getElem? (i := 17) rfl)
theorem w16 {Z : State} {a0 : Array Value} (hw : ∀ d ∈ tables_1, d.before a0 Z = true) : (Jvm.Cond.initialized cn0).before a0 Z = true := hw _ (List.mem_of_getElem? (i := 16) rfl)
theorem w15 {Z : State} {a0 : Array Value} (hw : ∀ d ∈ tables_1, d.before a0 Z = true) : (Jvm.Cond.static ({ cls := cn0, name := "excluded", desc := "(I)Z" } : Jvm.MethodName)).before a0 Z = true := hw _ (List.mem_of_getElem? (i := 15) rfl)
def Q_rm_law (Z : State) (p1 : Int32) (p2 : Int32) (h0 : Heap) (n0 : Nat) (v : Option Value) (h : Heap) (L : List Loc) : Prop := Fr n0 L ∧ Keep h0 h [] ∧ ((v = some (.int (1 : Int32))))
set_option maxRecDepth 65536 in
set_option maxHeartbeats 40000000 in
theorem rm_law (l : Launch) (Z : State) (a0 : Array Value) (hw : ∀ d ∈ tables_1, d.before a0 Z = true) (ws : List Jvm.Cond) (p1 : Int32) (p2 : Int32) (h0 : Heap) (n0 : Nat) (O0 : Old Z n0 h0) :
    MetFree l x (head1 (Jvm.Cond.code x code maxLocals ret :: ws) room_1) (fun a U => a = #[(.int p1), (.int p2)] ∧ Z.Warmed39 U.vm ∧ U.heap = h0) (fun _ _ _ _ _ => True) (fun _ U o U' => ∃ v L, o = .returned v ∧ Q_rm_law Z p1 p2 h0 n0 v U'.heap L ∧ FrameEnd U o U' L room_1.cells room_1.slots) := by
  refine MetFree.of_bodySF (plainFor_of_name pn_com_example_causeway_causeway_formats_XmlTextIsXmlCharPinLaw) hisR ?_
  intro p e s m args below meth c s₁ Bd hml0 hP hK
  obtain ⟨rfl, hZ, hh⟩ := hP
  have hx := Bd.exec
  have hby := Bd.bytes
  have hlk := Bd.notSynchronized
  have hml : c.maxLocals = 4 := hml0
  have hown : s.vm.findClass cn0 = some m.cls := findClass_of_methodNamed Bd.named
  have hnm := (name_of_methodNamed Bd.named Bd.method).1
  have X0 : Stand p l e room_1 s m #[(.int p1), (.int p2)] below meth c s₁ [] 0 0 := Stand.of_body Bd
  have e0 : s₁.heap = h0 := by rw [← hh, Bd.state]; rfl
  have N0 := Fr.nil n0
  have K0 := Keep.refl h0 []
  have Z0 : n0 ≤ h0.size := O0.1 ▸ O0.2.1
  have hef : entryFrame m #[(.int p1), (.int p2)] maxLocals = mkF m 0 #[.val (.int p1), .val (.int p2), .unset, .unset] [] := by first | (simp [entryFrame, mkF, argsToLocals, Value.category, maxLocals]; done) | rfl
  rw [hef]
  refine Gets.out (Q := Q_rm_law Z p1 p2 h0 n0) ?_
  show Gets p e below _ (s₁.setTop (mkF m 0 #[.val (.int p1), .val (.int p2), .unset, .unset] []))
  refine Gets.of (fun t k => XS.bipush X0.here hx rfl (hb hby at_0) k) ?_
  obtain ⟨T1, h1, k1, X1, e1, E1, A1, Ex1, st1⟩ := newPE X0 hx hZ (aty := .int) (w0 hw) e0 (g := (mkF m 2 #[.val (.int p1), .val (.int p2), .unset, .unset] [(.int (16 : Int32))])) rfl (hb hby at_2) rfl (by decide) (cap := 16) (by decide) (by decide) (by decide) (by decide) (ad := "[I") rfl
  obtain ⟨b1, g1⟩ : ∃ z, z = h0.size := ⟨_, rfl⟩
  rw [← g1] at A1 Ex1 st1
  have sz_b1 : h0.size ≤ b1 := Nat.le_trans K0.1 (Nat.le_of_eq g1.symm)
  have g_b1 : n0 ≤ b1 := Nat.le_trans Z0 sz_b1
  have K2 := K0.ext E1
  have O2 := O0.ext E1
  have V1 : Arv Z h1 b1 k1 .int (16 : Int32) [(.int (0 : Int32)), (.int (0 : Int32)), (.int (0 : Int32)), (.int (0 : Int32)), (.int (0 : Int32)), (.int (0 : Int32)), (.int (0 : Int32)), (.int (0 : Int32)), (.int (0 : Int32)), (.int (0 : Int32)), (.int (0 : Int32)), (.int (0 : Int32)), (.int (0 : Int32)), (.int (0 : Int32)), (.int (0 : Int32)), (.int (0 : Int32))] (.int (0 : Int32)) := (Arv.new A1 (by decide)).pad (pad_rep [] (.int (0 : Int32)) 16)
  refine Gets.of st1 ?_
  show Gets p e below _ (T1.setTop (mkF m 4 #[.val (.int p1), .val (.int p2), .unset, .unset] [(.ref b1)]))
  refine Gets.of (fun t k => XS.dup X1.here hx rfl (hb hby at_4) rfl rfl k) ?_
  refine Gets.of (fun t k => XS.iconst X1.here hx rfl (hb hby at_5) k) ?_
  refine Gets.of (fun t k => XS.bipush X1.here hx rfl (hb hby at_6) k) ?_
  obtain ⟨cl3, Ar3, q3, S3, N_3, H3, G3⟩ := id (V1)
  have hin3 : ¬ ((0 : Int32) < 0 ∨ cl3.slots.size ≤ ((0 : Int32)).toNatClampNeg) := inb_of S3 ⟨by decide, by decide⟩
  obtain ⟨T4, h4, X4, e4, W4, st4⟩ := stI X1 hx hZ e1 Ar3 (j := (0 : Int32)) hin3 (g := (mkF m 8 #[.val (.int p1), .val (.int p2), .unset, .unset] [(.int (9 : Int32)), (.int (0 : Int32)), (.ref b1), (.ref b1)])) rfl rfl (hb hby at_8)
  have V4 : Arv Z h4 b1 k1 .int (16 : Int32) [(.int (9 : Int32)), (.int (0 : Int32)), (.int (0 : Int32)), (.int (0 : Int32)), (.int (0 : Int32)), (.int (0 : Int32)), (.int (0 : Int32)), (.int (0 : Int32)), (.int (0 : Int32)), (.int (0 : Int32)), (.int (0 : Int32)), (.int (0 : Int32)), (.int (0 : Int32)), (.int (0 : Int32)), (.int (0 : Int32)), (.int (0 : Int32))] (.int (0 : Int32)) := Arv.set Ar3 q3 S3 N_3 H3 G3 rfl W4 0 rfl (Nat.le_of_ble_eq_true rfl)
  have N4 := Fr.snoc X4 N0 g_b1
  have K5 : Keep h0 _ [] := K2.wr W4 (Or.inr sz_b1)
  have O5 := O2.wr W4 g_b1
  refine Gets.of st4 ?_
  show Gets p e below _ (T4.setTop (mkF m 9 #[.val (.int p1), .val (.int p2), .unset, .unset] [(.ref b1)]))
  refine Gets.of (fun t k => XS.dup X4.here hx rfl (hb hby at_9) rfl rfl k) ?_
  refine Gets.of (fun t k => XS.iconst X4.here hx rfl (hb hby at_10) k) ?_
  refine Gets.of (fun t k => XS.bipush X4.here hx rfl (hb hby at_11) k) ?_
  obtain ⟨cl6, Ar6, q6, S6, N_6, H6, G6⟩ := id (V4)
  have hin6 : ¬ ((1 : Int32) < 0 ∨ cl6.slots.size ≤ ((1 : Int32)).toNatClampNeg) := inb_of S6 ⟨by decide, by decide⟩
  obtain ⟨T7, h7, X7, e7, W7, st7⟩ := stI X4 hx hZ e4 Ar6 (j := (1 : Int32)) hin6 (g := (mkF m 13 #[.val (.int p1), .val (.int p2), .unset, .unset] [(.int (10 : Int32)), (.int (1 : Int32)), (.ref b1), (.ref b1)])) rfl rfl (hb hby at_13)
  have V7 : Arv Z h7 b1 k1 .int (16 : Int32) [(.int (9 : Int32)), (.int (10 : Int32)), (.int (0 : Int32)), (.int (0 : Int32)), (.int (0 : Int32)), (.int (0 : Int32)), (.int (0 : Int32)), (.int (0 : Int32)), (.int (0 : Int32)), (.int (0 : Int32)), (.int (0 : Int32)), (.int (0 : Int32)), (.int (0 : Int32)), (.int (0 : Int32)), (.int (0 : Int32)), (.int (0 : Int32))] (.int (0 : Int32)) := Arv.set Ar6 q6 S6 N_6 H6 G6 rfl W7 1 rfl (Nat.le_of_ble_eq_true rfl)
  have N7 := Fr.snoc X7 N4 g_b1
  have K8 : Keep h0 _ [] := K5.wr W7 (Or.inr sz_b1)
  have O8 := O5.wr W7 g_b1
  refine Gets.of st7 ?_
  show Gets p e below _ (T7.setTop (mkF m 14 #[.val (.int p1), .val (.int p2), .unset, .unset] [(.ref b1)]))
  refine Gets.of (fun t k => XS.dup X7.here hx rfl (hb hby at_14) rfl rfl k) ?_
  refine Gets.of (fun t k => XS.iconst X7.here hx rfl (hb hby at_15) k) ?_
  refine Gets.of (fun t k => XS.bipush X7.here hx rfl (hb hby at_16) k) ?_
  obtain ⟨cl9, Ar9, q9, S9, N_9, H9, G9⟩ := id (V7)
  have hin9 : ¬ ((2 : Int32) < 0 ∨ cl9.slots.size ≤ ((2 : Int32)).toNatClampNeg) := inb_of S9 ⟨by decide, by decide⟩
  obtain ⟨T10, h10, X10, e10, W10, st10⟩ := stI X7 hx hZ e7 Ar9 (j := (2 : Int32)) hin9 (g := (mkF m 18 #[.val (.int p1), .val (.int p2), .unset, .unset] [(.int (13 : Int32)), (.int (2 : Int32)), (.ref b1), (.ref b1)])) rfl rfl (hb hby at_18)
  have V10 : Arv Z h10 b1 k1 .int (16 : Int32) [(.int (9 : Int32)), (.int (10 : Int32)), (.int (13 : Int32)), (.int (0 : Int32)), (.int (0 : Int32)), (.int (0 : Int32)), (.int (0 : Int32)), (.int (0 : Int32)), (.int (0 : Int32)), (.int (0 : Int32)), (.int (0 : Int32)), (.int (0 : Int32)), (.int (0 : Int32)), (.int (0 : Int32)), (.int (0 : Int32)), (.int (0 : Int32))] (.int (0 : Int32)) := Arv.set Ar9 q9 S9 N_9 H9 G9 rfl W10 2 rfl (Nat.le_of_ble_eq_true rfl)
  have N10 := Fr.snoc X10 N7 g_b1
  have K11 : Keep h0 _ [] := K8.wr W10 (Or.inr sz_b1)
  have O11 := O8.wr W10 g_b1
  refine Gets.of st10 ?_
  show Gets p e below _ (T10.setTop (mkF m 19 #[.val (.int p1), .val (.int p2), .unset, .unset] [(.ref b1)]))
  refine Gets.of (fun t k => XS.dup X10.here hx rfl (hb hby at_19) rfl rfl k) ?_
  refine Gets.of (fun t k => XS.iconst X10.here hx rfl (hb hby at_20) k) ?_
  refine Gets.of (fun t k => XS.bipush X10.here hx rfl (hb hby at_21) k) ?_
  obtain ⟨cl12, Ar12, q12, S12, N_12, H12, G12⟩ := id (V10)
  have hin12 : ¬ ((3 : Int32) < 0 ∨ cl12.slots.size ≤ ((3 : Int32)).toNatClampNeg) := inb_of S12 ⟨by decide, by decide⟩
  obtain ⟨T13, h13, X13, e13, W13, st13⟩ := stI X10 hx hZ e10 Ar12 (j := (3 : Int32)) hin12 (g := (mkF m 23 #[.val (.int p1), .val (.int p2), .unset, .unset] [(.int (32 : Int32)), (.int (3 : Int32)), (.ref b1), (.ref b1)])) rfl rfl (hb hby at_23)
  have V13 : Arv Z h13 b1 k1 .int (16 : Int32) [(.int (9 : Int32)), (.int (10 : Int32)), (.int (13 : Int32)), (.int (32 : Int32)), (.int (0 : Int32)), (.int (0 : Int32)), (.int (0 : Int32)), (.int (0 : Int32)), (.int (0 : Int32)), (.int (0 : Int32)), (.int (0 : Int32)), (.int (0 : Int32)), (.int (0 : Int32)), (.int (0 : Int32)), (.int (0 : Int32)), (.int (0 : Int32))] (.int (0 : Int32)) := Arv.set Ar12 q12 S12 N_12 H12 G12 rfl W13 3 rfl (Nat.le_of_ble_eq_true rfl)
  have N13 := Fr.snoc X13 N10 g_b1
  have K14 : Keep h0 _ [] := K11.wr W13 (Or.inr sz_b1)
  have O14 := O11.wr W13 g_b1
  refine Gets.of st13 ?_
  show Gets p e below _ (T13.setTop (mkF m 24 #[.val (.int p1), .val (.int p2), .unset, .unset] [(.ref b1)]))
  refine Gets.of (fun t k => XS.dup X13.here hx rfl (hb hby at_24) rfl rfl k) ?_
  refine Gets.of (fun t k => XS.iconst X13.here hx rfl (hb hby at_25) k) ?_
  refine Gets.of (fun t k => X13.ldcInt hx hown (mvT hZ (w1 hw)) (g := (mkF m 26 #[.val (.int p1), .val (.int p2), .unset, .unset] [(.int (4 : Int32)), (.ref b1), (.ref b1)])) rfl (hb hby at_26) t k) ?_
  show Gets p e below _ (T13.setTop (mkF m 28 #[.val (.int p1), .val (.int p2), .unset, .unset] [(.int (55295 : Int32)), (.int (4 : Int32)), (.ref b1), (.ref b1)]))
  obtain ⟨cl15, Ar15, q15, S15, N_15, H15, G15⟩ := id (V13)
  have hin15 : ¬ ((4 : Int32) < 0 ∨ cl15.slots.size ≤ ((4 : Int32)).toNatClampNeg) := inb_of S15 ⟨by decide, by decide⟩
  obtain ⟨T16, h16, X16, e16, W16, st16⟩ := stI X13 hx hZ e13 Ar15 (j := (4 : Int32)) hin15 (g := (mkF m 28 #[.val (.int p1), .val (.int p2), .unset, .unset] [(.int (55295 : Int32)), (.int (4 : Int32)), (.ref b1), (.ref b1)])) rfl rfl (hb hby at_28)
  have V16 : Arv Z h16 b1 k1 .int (16 : Int32) [(.int (9 : Int32)), (.int (10 : Int32)), (.int (13 : Int32)), (.int (32 : Int32)), (.int (55295 : Int32)), (.int (0 : Int32)), (.int (0 : Int32)), (.int (0 : Int32)), (.int (0 : Int32)), (.int (0 : Int32)), (.int (0 : Int32)), (.int (0 : Int32)), (.int (0 : Int32)), (.int (0 : Int32)), (.int (0 : Int32)), (.int (0 : Int32))] (.int (0 : Int32)) := Arv.set Ar15 q15 S15 N_15 H15 G15 rfl W16 4 rfl (Nat.le_of_ble_eq_true rfl)
  have N16 := Fr.snoc X16 N13 g_b1
  have K17 : Keep h0 _ [] := K14.wr W16 (Or.inr sz_b1)
  have O17 := O14.wr W16 g_b1
  refine Gets.of st16 ?_
  show Gets p e below _ (T16.setTop (mkF m 29 #[.val (.int p1), .val (.int p2), .unset, .unset] [(.ref b1)]))
  refine Gets.of (fun t k => XS.dup X16.here hx rfl (hb hby at_29) rfl rfl k) ?_
  refine Gets.of (fun t k => XS.iconst X16.here hx rfl (hb hby at_30) k) ?_
  refine Gets.of (fun t k => X16.ldcInt hx hown (mvT hZ (w2 hw)) (g := (mkF m 31 #[.val (.int p1), .val (.int p2), .unset, .unset] [(.int (5 : Int32)), (.ref b1), (.ref b1)])) rfl (hb hby at_31) t k) ?_
  show Gets p e below _ (T16.setTop (mkF m 33 #[.val (.int p1), .val (.int p2), .unset, .unset] [(.int (57344 : Int32)), (.int (5 : Int32)), (.ref b1), (.ref b1)]))
  obtain ⟨cl18, Ar18, q18, S18, N_18, H18, G18⟩ := id (V16)
  have hin18 : ¬ ((5 : Int32) < 0 ∨ cl18.slots.size ≤ ((5 : Int32)).toNatClampNeg) := inb_of S18 ⟨by decide, by decide⟩
  obtain ⟨T19, h19, X19, e19, W19, st19⟩ := stI X16 hx hZ e16 Ar18 (j := (5 : Int32)) hin18 (g := (mkF m 33 #[.val (.int p1), .val (.int p2), .unset, .unset] [(.int (57344 : Int32)), (.int (5 : Int32)), (.ref b1), (.ref b1)])) rfl rfl (hb hby at_33)
  have V19 : Arv Z h19 b1 k1 .int (16 : Int32) [(.int (9 : Int32)), (.int (10 : Int32)), (.int (13 : Int32)), (.int (32 : Int32)), (.int (55295 : Int32)), (.int (57344 : Int32)), (.int (0 : Int32)), (.int (0 : Int32)), (.int (0 : Int32)), (.int (0 : Int32)), (.int (0 : Int32)), (.int (0 : Int32)), (.int (0 : Int32)), (.int (0 : Int32)), (.int (0 : Int32)), (.int (0 : Int32))] (.int (0 : Int32)) := Arv.set Ar18 q18 S18 N_18 H18 G18 rfl W19 5 rfl (Nat.le_of_ble_eq_true rfl)
  have N19 := Fr.snoc X19 N16 g_b1
  have K20 : Keep h0 _ [] := K17.wr W19 (Or.inr sz_b1)
  have O20 := O17.wr W19 g_b1
  refine Gets.of st19 ?_
  show Gets p e below _ (T19.setTop (mkF m 34 #[.val (.int p1), .val (.int p2), .unset, .unset] [(.ref b1)]))
  refine Gets.of (fun t k => XS.dup X19.here hx rfl (hb hby at_34) rfl rfl k) ?_
  refine Gets.of (fun t k => XS.bipush X19.here hx rfl (hb hby at_35) k) ?_
  refine Gets.of (fun t k => X19.ldcInt hx hown (mvT hZ (w3 hw)) (g := (mkF m 37 #[.val (.int p1), .val (.int p2), .unset, .unset] [(.int (6 : Int32)), (.ref b1), (.ref b1)])) rfl (hb hby at_37) t k) ?_
  show Gets p e below _ (T19.setTop (mkF m 39 #[.val (.int p1), .val (.int p2), .unset, .unset] [(.int (65533 : Int32)), (.int (6 : Int32)), (.ref b1), (.ref b1)]))
  obtain ⟨cl21, Ar21, q21, S21, N_21, H21, G21⟩ := id (V19)
  have hin21 : ¬ ((6 : Int32) < 0 ∨ cl21.slots.size ≤ ((6 : Int32)).toNatClampNeg) := inb_of S21 ⟨by decide, by decide⟩
  obtain ⟨T22, h22, X22, e22, W22, st22⟩ := stI X19 hx hZ e19 Ar21 (j := (6 : Int32)) hin21 (g := (mkF m 39 #[.val (.int p1), .val (.int p2), .unset, .unset] [(.int (65533 : Int32)), (.int (6 : Int32)), (.ref b1), (.ref b1)])) rfl rfl (hb hby at_39)
  have V22 : Arv Z h22 b1 k1 .int (16 : Int32) [(.int (9 : Int32)), (.int (10 : Int32)), (.int (13 : Int32)), (.int (32 : Int32)), (.int (55295 : Int32)), (.int (57344 : Int32)), (.int (65533 : Int32)), (.int (0 : Int32)), (.int (0 : Int32)), (.int (0 : Int32)), (.int (0 : Int32)), (.int (0 : Int32)), (.int (0 : Int32)), (.int (0 : Int32)), (.int (0 : Int32)), (.int (0 : Int32))] (.int (0 : Int32)) := Arv.set Ar21 q21 S21 N_21 H21 G21 rfl W22 6 rfl (Nat.le_of_ble_eq_true rfl)
  have N22 := Fr.snoc X22 N19 g_b1
  have K23 : Keep h0 _ [] := K20.wr W22 (Or.inr sz_b1)
  have O23 := O20.wr W22 g_b1
  refine Gets.of st22 ?_
  show Gets p e below _ (T22.setTop (mkF m 40 #[.val (.int p1), .val (.int p2), .unset, .unset] [(.ref b1)]))
  refine Gets.of (fun t k => XS.dup X22.here hx rfl (hb hby at_40) rfl rfl k) ?_
  refine Gets.of (fun t k => XS.bipush X22.here hx rfl (hb hby at_41) k) ?_
  refine Gets.of (fun t k => X22.ldcInt hx hown (mvT hZ (w4 hw)) (g := (mkF m 43 #[.val (.int p1), .val (.int p2), .unset, .unset] [(.int (7 : Int32)), (.ref b1), (.ref b1)])) rfl (hb hby at_43) t k) ?_
  show Gets p e below _ (T22.setTop (mkF m 45 #[.val (.int p1), .val (.int p2), .unset, .unset] [(.int (65536 : Int32)), (.int (7 : Int32)), (.ref b1), (.ref b1)]))
  obtain ⟨cl24, Ar24, q24, S24, N_24, H24, G24⟩ := id (V22)
  have hin24 : ¬ ((7 : Int32) < 0 ∨ cl24.slots.size ≤ ((7 : Int32)).toNatClampNeg) := inb_of S24 ⟨by decide, by decide⟩
  obtain ⟨T25, h25, X25, e25, W25, st25⟩ := stI X22 hx hZ e22 Ar24 (j := (7 : Int32)) hin24 (g := (mkF m 45 #[.val (.int p1), .val (.int p2), .unset, .unset] [(.int (65536 : Int32)), (.int (7 : Int32)), (.ref b1), (.ref b1)])) rfl rfl (hb hby at_45)
  have V25 : Arv Z h25 b1 k1 .int (16 : Int32) [(.int (9 : Int32)), (.int (10 : Int32)), (.int (13 : Int32)), (.int (32 : Int32)), (.int (55295 : Int32)), (.int (57344 : Int32)), (.int (65533 : Int32)), (.int (65536 : Int32)), (.int (0 : Int32)), (.int (0 : Int32)), (.int (0 : Int32)), (.int (0 : Int32)), (.int (0 : Int32)), (.int (0 : Int32)), (.int (0 : Int32)), (.int (0 : Int32))] (.int (0 : Int32)) := Arv.set Ar24 q24 S24 N_24 H24 G24 rfl W25 7 rfl (Nat.le_of_ble_eq_true rfl)
  have N25 := Fr.snoc X25 N22 g_b1
  have K26 : Keep h0 _ [] := K23.wr W25 (Or.inr sz_b1)
  have O26 := O23.wr W25 g_b1
  refine Gets.of st25 ?_
  show Gets p e below _ (T25.setTop (mkF m 46 #[.val (.int p1), .val (.int p2), .unset, .unset] [(.ref b1)]))
  refine Gets.of (fun t k => XS.dup X25.here hx rfl (hb hby at_46) rfl rfl k) ?_
  refine Gets.of (fun t k => XS.bipush X25.here hx rfl (hb hby at_47) k) ?_
  refine Gets.of (fun t k => X25.ldcInt hx hown (mvT hZ (w5 hw)) (g := (mkF m 49 #[.val (.int p1), .val (.int p2), .unset, .unset] [(.int (8 : Int32)), (.ref b1), (.ref b1)])) rfl (hb hby at_49) t k) ?_
  show Gets p e below _ (T25.setTop (mkF m 51 #[.val (.int p1), .val (.int p2), .unset, .unset] [(.int (1114111 : Int32)), (.int (8 : Int32)), (.ref b1), (.ref b1)]))
  obtain ⟨cl27, Ar27, q27, S27, N_27, H27, G27⟩ := id (V25)
  have hin27 : ¬ ((8 : Int32) < 0 ∨ cl27.slots.size ≤ ((8 : Int32)).toNatClampNeg) := inb_of S27 ⟨by decide, by decide⟩
  obtain ⟨T28, h28, X28, e28, W28, st28⟩ := stI X25 hx hZ e25 Ar27 (j := (8 : Int32)) hin27 (g := (mkF m 51 #[.val (.int p1), .val (.int p2), .unset, .unset] [(.int (1114111 : Int32)), (.int (8 : Int32)), (.ref b1), (.ref b1)])) rfl rfl (hb hby at_51)
  have V28 : Arv Z h28 b1 k1 .int (16 : Int32) [(.int (9 : Int32)), (.int (10 : Int32)), (.int (13 : Int32)), (.int (32 : Int32)), (.int (55295 : Int32)), (.int (57344 : Int32)), (.int (65533 : Int32)), (.int (65536 : Int32)), (.int (1114111 : Int32)), (.int (0 : Int32)), (.int (0 : Int32)), (.int (0 : Int32)), (.int (0 : Int32)), (.int (0 : Int32)), (.int (0 : Int32)), (.int (0 : Int32))] (.int (0 : Int32)) := Arv.set Ar27 q27 S27 N_27 H27 G27 rfl W28 8 rfl (Nat.le_of_ble_eq_true rfl)
  have N28 := Fr.snoc X28 N25 g_b1
  have K29 : Keep h0 _ [] := K26.wr W28 (Or.inr sz_b1)
  have O29 := O26.wr W28 g_b1
  refine Gets.of st28 ?_
  show Gets p e below _ (T28.setTop (mkF m 52 #[.val (.int p1), .val (.int p2), .unset, .unset] [(.ref b1)]))
  refine Gets.of (fun t k => XS.dup X28.here hx rfl (hb hby at_52) rfl rfl k) ?_
  refine Gets.of (fun t k => XS.bipush X28.here hx rfl (hb hby at_53) k) ?_
  refine Gets.of (fun t k => XS.iconst X28.here hx rfl (hb hby at_55) k) ?_
  obtain ⟨cl30, Ar30, q30, S30, N_30, H30, G30⟩ := id (V28)
  have hin30 : ¬ ((9 : Int32) < 0 ∨ cl30.slots.size ≤ ((9 : Int32)).toNatClampNeg) := inb_of S30 ⟨by decide, by decide⟩
  obtain ⟨T31, h31, X31, e31, W31, st31⟩ := stI X28 hx hZ e28 Ar30 (j := (9 : Int32)) hin30 (g := (mkF m 56 #[.val (.int p1), .val (.int p2), .unset, .unset] [(.int (0 : Int32)), (.int (9 : Int32)), (.ref b1), (.ref b1)])) rfl rfl (hb hby at_56)
  have V31 : Arv Z h31 b1 k1 .int (16 : Int32) [(.int (9 : Int32)), (.int (10 : Int32)), (.int (13 : Int32)), (.int (32 : Int32)), (.int (55295 : Int32)), (.int (57344 : Int32)), (.int (65533 : Int32)), (.int (65536 : Int32)), (.int (1114111 : Int32)), (.int (0 : Int32)), (.int (0 : Int32)), (.int (0 : Int32)), (.int (0 : Int32)), (.int (0 : Int32)), (.int (0 : Int32)), (.int (0 : Int32))] (.int (0 : Int32)) := Arv.set Ar30 q30 S30 N_30 H30 G30 rfl W31 9 rfl (Nat.le_of_ble_eq_true rfl)
  have N31 := Fr.snoc X31 N28 g_b1
  have K32 : Keep h0 _ [] := K29.wr W31 (Or.inr sz_b1)
  have O32 := O29.wr W31 g_b1
  refine Gets.of st31 ?_
  show Gets p e below _ (T31.setTop (mkF m 57 #[.val (.int p1), .val (.int p2), .unset, .unset] [(.ref b1)]))
  refine Gets.of (fun t k => XS.dup X31.here hx rfl (hb hby at_57) rfl rfl k) ?_
  refine Gets.of (fun t k => XS.bipush X31.here hx rfl (hb hby at_58) k) ?_
  refine Gets.of (fun t k => XS.bipush X31.here hx rfl (hb hby at_60) k) ?_
  obtain ⟨cl33, Ar33, q33, S33, N_33, H33, G33⟩ := id (V31)
  have hin33 : ¬ ((10 : Int32) < 0 ∨ cl33.slots.size ≤ ((10 : Int32)).toNatClampNeg) := inb_of S33 ⟨by decide, by decide⟩
  obtain ⟨T34, h34, X34, e34, W34, st34⟩ := stI X31 hx hZ e31 Ar33 (j := (10 : Int32)) hin33 (g := (mkF m 62 #[.val (.int p1), .val (.int p2), .unset, .unset] [(.int (11 : Int32)), (.int (10 : Int32)), (.ref b1), (.ref b1)])) rfl rfl (hb hby at_62)
  have V34 : Arv Z h34 b1 k1 .int (16 : Int32) [(.int (9 : Int32)), (.int (10 : Int32)), (.int (13 : Int32)), (.int (32 : Int32)), (.int (55295 : Int32)), (.int (57344 : Int32)), (.int (65533 : Int32)), (.int (65536 : Int32)), (.int (1114111 : Int32)), (.int (0 : Int32)), (.int (11 : Int32)), (.int (0 : Int32)), (.int (0 : Int32)), (.int (0 : Int32)), (.int (0 : Int32)), (.int (0 : Int32))] (.int (0 : Int32)) := Arv.set Ar33 q33 S33 N_33 H33 G33 rfl W34 10 rfl (Nat.le_of_ble_eq_true rfl)
  have N34 := Fr.snoc X34 N31 g_b1
  have K35 : Keep h0 _ [] := K32.wr W34 (Or.inr sz_b1)
  have O35 := O32.wr W34 g_b1
  refine Gets.of st34 ?_
  show Gets p e below _ (T34.setTop (mkF m 63 #[.val (.int p1), .val (.int p2), .unset, .unset] [(.ref b1)]))
  refine Gets.of (fun t k => XS.dup X34.here hx rfl (hb hby at_63) rfl rfl k) ?_
  refine Gets.of (fun t k => XS.bipush X34.here hx rfl (hb hby at_64) k) ?_
  refine Gets.of (fun t k => X34.ldcInt hx hown (mvT hZ (w6 hw)) (g := (mkF m 66 #[.val (.int p1), .val (.int p2), .unset, .unset] [(.int (11 : Int32)), (.ref b1), (.ref b1)])) rfl (hb hby at_66) t k) ?_
  show Gets p e below _ (T34.setTop (mkF m 68 #[.val (.int p1), .val (.int p2), .unset, .unset] [(.int (55296 : Int32)), (.int (11 : Int32)), (.ref b1), (.ref b1)]))
  obtain ⟨cl36, Ar36, q36, S36, N_36, H36, G36⟩ := id (V34)
  have hin36 : ¬ ((11 : Int32) < 0 ∨ cl36.slots.size ≤ ((11 : Int32)).toNatClampNeg) := inb_of S36 ⟨by decide, by decide⟩
  obtain ⟨T37, h37, X37, e37, W37, st37⟩ := stI X34 hx hZ e34 Ar36 (j := (11 : Int32)) hin36 (g := (mkF m 68 #[.val (.int p1), .val (.int p2), .unset, .unset] [(.int (55296 : Int32)), (.int (11 : Int32)), (.ref b1), (.ref b1)])) rfl rfl (hb hby at_68)
  have V37 : Arv Z h37 b1 k1 .int (16 : Int32) [(.int (9 : Int32)), (.int (10 : Int32)), (.int (13 : Int32)), (.int (32 : Int32)), (.int (55295 : Int32)), (.int (57344 : Int32)), (.int (65533 : Int32)), (.int (65536 : Int32)), (.int (1114111 : Int32)), (.int (0 : Int32)), (.int (11 : Int32)), (.int (55296 : Int32)), (.int (0 : Int32)), (.int (0 : Int32)), (.int (0 : Int32)), (.int (0 : Int32))] (.int (0 : Int32)) := Arv.set Ar36 q36 S36 N_36 H36 G36 rfl W37 11 rfl (Nat.le_of_ble_eq_true rfl)
  have N37 := Fr.snoc X37 N34 g_b1
  have K38 : Keep h0 _ [] := K35.wr W37 (Or.inr sz_b1)
  have O38 := O35.wr W37 g_b1
  refine Gets.of st37 ?_
  show Gets p e below _ (T37.setTop (mkF m 69 #[.val (.int p1), .val (.int p2), .unset, .unset] [(.ref b1)]))
  refine Gets.of (fun t k => XS.dup X37.here hx rfl (hb hby at_69) rfl rfl k) ?_
  refine Gets.of (fun t k => XS.bipush X37.here hx rfl (hb hby at_70) k) ?_
  refine Gets.of (fun t k => X37.ldcInt hx hown (mvT hZ (w7 hw)) (g := (mkF m 72 #[.val (.int p1), .val (.int p2), .unset, .unset] [(.int (12 : Int32)), (.ref b1), (.ref b1)])) rfl (hb hby at_72) t k) ?_
  show Gets p e below _ (T37.setTop (mkF m 74 #[.val (.int p1), .val (.int p2), .unset, .unset] [(.int (57343 : Int32)), (.int (12 : Int32)), (.ref b1), (.ref b1)]))
  obtain ⟨cl39, Ar39, q39, S39, N_39, H39, G39⟩ := id (V37)
  have hin39 : ¬ ((12 : Int32) < 0 ∨ cl39.slots.size ≤ ((12 : Int32)).toNatClampNeg) := inb_of S39 ⟨by decide, by decide⟩
  obtain ⟨T40, h40, X40, e40, W40, st40⟩ := stI X37 hx hZ e37 Ar39 (j := (12 : Int32)) hin39 (g := (mkF m 74 #[.val (.int p1), .val (.int p2), .unset, .unset] [(.int (57343 : Int32)), (.int (12 : Int32)), (.ref b1), (.ref b1)])) rfl rfl (hb hby at_74)
  have V40 : Arv Z h40 b1 k1 .int (16 : Int32) [(.int (9 : Int32)), (.int (10 : Int32)), (.int (13 : Int32)), (.int (32 : Int32)), (.int (55295 : Int32)), (.int (57344 : Int32)), (.int (65533 : Int32)), (.int (65536 : Int32)), (.int (1114111 : Int32)), (.int (0 : Int32)), (.int (11 : Int32)), (.int (55296 : Int32)), (.int (57343 : Int32)), (.int (0 : Int32)), (.int (0 : Int32)), (.int (0 : Int32))] (.int (0 : Int32)) := Arv.set Ar39 q39 S39 N_39 H39 G39 rfl W40 12 rfl (Nat.le_of_ble_eq_true rfl)
  have N40 := Fr.snoc X40 N37 g_b1
  have K41 : Keep h0 _ [] := K38.wr W40 (Or.inr sz_b1)
  have O41 := O38.wr W40 g_b1
  refine Gets.of st40 ?_
  show Gets p e below _ (T40.setTop (mkF m 75 #[.val (.int p1), .val (.int p2), .unset, .unset] [(.ref b1)]))
  refine Gets.of (fun t k => XS.dup X40.here hx rfl (hb hby at_75) rfl rfl k) ?_
  refine Gets.of (fun t k => XS.bipush X40.here hx rfl (hb hby at_76) k) ?_
  refine Gets.of (fun t k => X40.ldcInt hx hown (mvT hZ (w8 hw)) (g := (mkF m 78 #[.val (.int p1), .val (.int p2), .unset, .unset] [(.int (13 : Int32)), (.ref b1), (.ref b1)])) rfl (hb hby at_78) t k) ?_
  show Gets p e below _ (T40.setTop (mkF m 80 #[.val (.int p1), .val (.int p2), .unset, .unset] [(.int (65535 : Int32)), (.int (13 : Int32)), (.ref b1), (.ref b1)]))
  obtain ⟨cl42, Ar42, q42, S42, N_42, H42, G42⟩ := id (V40)
  have hin42 : ¬ ((13 : Int32) < 0 ∨ cl42.slots.size ≤ ((13 : Int32)).toNatClampNeg) := inb_of S42 ⟨by decide, by decide⟩
  obtain ⟨T43, h43, X43, e43, W43, st43⟩ := stI X40 hx hZ e40 Ar42 (j := (13 : Int32)) hin42 (g := (mkF m 80 #[.val (.int p1), .val (.int p2), .unset, .unset] [(.int (65535 : Int32)), (.int (13 : Int32)), (.ref b1), (.ref b1)])) rfl rfl (hb hby at_80)
  have V43 : Arv Z h43 b1 k1 .int (16 : Int32) [(.int (9 : Int32)), (.int (10 : Int32)), (.int (13 : Int32)), (.int (32 : Int32)), (.int (55295 : Int32)), (.int (57344 : Int32)), (.int (65533 : Int32)), (.int (65536 : Int32)), (.int (1114111 : Int32)), (.int (0 : Int32)), (.int (11 : Int32)), (.int (55296 : Int32)), (.int (57343 : Int32)), (.int (65535 : Int32)), (.int (0 : Int32)), (.int (0 : Int32))] (.int (0 : Int32)) := Arv.set Ar42 q42 S42 N_42 H42 G42 rfl W43 13 rfl (Nat.le_of_ble_eq_true rfl)
  have N43 := Fr.snoc X43 N40 g_b1
  have K44 : Keep h0 _ [] := K41.wr W43 (Or.inr sz_b1)
  have O44 := O41.wr W43 g_b1
  refine Gets.of st43 ?_
  show Gets p e below _ (T43.setTop (mkF m 81 #[.val (.int p1), .val (.int p2), .unset, .unset] [(.ref b1)]))
  refine Gets.of (fun t k => XS.dup X43.here hx rfl (hb hby at_81) rfl rfl k) ?_
  refine Gets.of (fun t k => XS.bipush X43.here hx rfl (hb hby at_82) k) ?_
  refine Gets.of (fun t k => XS.bipush X43.here hx rfl (hb hby at_84) k) ?_
  obtain ⟨cl45, Ar45, q45, S45, N_45, H45, G45⟩ := id (V43)
  have hin45 : ¬ ((14 : Int32) < 0 ∨ cl45.slots.size ≤ ((14 : Int32)).toNatClampNeg) := inb_of S45 ⟨by decide, by decide⟩
  obtain ⟨T46, h46, X46, e46, W46, st46⟩ := stI X43 hx hZ e43 Ar45 (j := (14 : Int32)) hin45 (g := (mkF m 86 #[.val (.int p1), .val (.int p2), .unset, .unset] [(.int (31 : Int32)), (.int (14 : Int32)), (.ref b1), (.ref b1)])) rfl rfl (hb hby at_86)
  have V46 : Arv Z h46 b1 k1 .int (16 : Int32) [(.int (9 : Int32)), (.int (10 : Int32)), (.int (13 : Int32)), (.int (32 : Int32)), (.int (55295 : Int32)), (.int (57344 : Int32)), (.int (65533 : Int32)), (.int (65536 : Int32)), (.int (1114111 : Int32)), (.int (0 : Int32)), (.int (11 : Int32)), (.int (55296 : Int32)), (.int (57343 : Int32)), (.int (65535 : Int32)), (.int (31 : Int32)), (.int (0 : Int32))] (.int (0 : Int32)) := Arv.set Ar45 q45 S45 N_45 H45 G45 rfl W46 14 rfl (Nat.le_of_ble_eq_true rfl)
  have N46 := Fr.snoc X46 N43 g_b1
  have K47 : Keep h0 _ [] := K44.wr W46 (Or.inr sz_b1)
  have O47 := O44.wr W46 g_b1
  refine Gets.of st46 ?_
  show Gets p e below _ (T46.setTop (mkF m 87 #[.val (.int p1), .val (.int p2), .unset, .unset] [(.ref b1)]))
  refine Gets.of (fun t k => XS.dup X46.here hx rfl (hb hby at_87) rfl rfl k) ?_
  refine Gets.of (fun t k => XS.bipush X46.here hx rfl (hb hby at_88) k) ?_
  refine Gets.of (fun t k => X46.ldcInt hx hown (mvT hZ (w9 hw)) (g := (mkF m 90 #[.val (.int p1), .val (.int p2), .unset, .unset] [(.int (15 : Int32)), (.ref b1), (.ref b1)])) rfl (hb hby at_90) t k) ?_
  show Gets p e below _ (T46.setTop (mkF m 92 #[.val (.int p1), .val (.int p2), .unset, .unset] [(.int (1114112 : Int32)), (.int (15 : Int32)), (.ref b1), (.ref b1)]))
  obtain ⟨cl48, Ar48, q48, S48, N_48, H48, G48⟩ := id (V46)
  have hin48 : ¬ ((15 : Int32) < 0 ∨ cl48.slots.size ≤ ((15 : Int32)).toNatClampNeg) := inb_of S48 ⟨by decide, by decide⟩
  obtain ⟨T49, h49, X49, e49, W49, st49⟩ := stI X46 hx hZ e46 Ar48 (j := (15 : Int32)) hin48 (g := (mkF m 92 #[.val (.int p1), .val (.int p2), .unset, .unset] [(.int (1114112 : Int32)), (.int (15 : Int32)), (.ref b1), (.ref b1)])) rfl rfl (hb hby at_92)
  have V49 : Arv Z h49 b1 k1 .int (16 : Int32) [(.int (9 : Int32)), (.int (10 : Int32)), (.int (13 : Int32)), (.int (32 : Int32)), (.int (55295 : Int32)), (.int (57344 : Int32)), (.int (65533 : Int32)), (.int (65536 : Int32)), (.int (1114111 : Int32)), (.int (0 : Int32)), (.int (11 : Int32)), (.int (55296 : Int32)), (.int (57343 : Int32)), (.int (65535 : Int32)), (.int (31 : Int32)), (.int (1114112 : Int32))] (.int (0 : Int32)) := Arv.set Ar48 q48 S48 N_48 H48 G48 rfl W49 15 rfl (Nat.le_of_ble_eq_true rfl)
  have N49 := Fr.snoc X49 N46 g_b1
  have K50 : Keep h0 _ [] := K47.wr W49 (Or.inr sz_b1)
  have O50 := O47.wr W49 g_b1
  refine Gets.of st49 ?_
  show Gets p e below _ (T49.setTop (mkF m 93 #[.val (.int p1), .val (.int p2), .unset, .unset] [(.ref b1)]))
  refine Gets.of (fun t k => XS.astoreN X49.here hx rfl (hb hby at_93) rfl rfl (l' := #[.val (.int p1), .val (.int p2), .val (.ref b1), .unset]) rfl k) ?_
  show Gets p e below _ (T49.setTop (mkF m 94 #[.val (.int p1), .val (.int p2), .val (.ref b1), .unset] []))
  refine Gets.of (fun t k => XS.iloadN X49.here hx rfl (hb hby at_94) rfl  k) ?_
  refine Gets.of (fun t k => XS.iconst X49.here hx rfl (hb hby at_95) k) ?_
  refine Gets.of (fun t k => XS.iand X49.here hx rfl (hb hby at_96) rfl k) ?_
  show Gets p e below _ (T49.setTop (mkF m 97 #[.val (.int p1), .val (.int p2), .val (.ref b1), .unset] [(.int (p2 &&& (1 : Int32)))]))
  by_cases hc51 : (p2 &&& (1 : Int32)) = (0 : Int32)
  · skip
    refine Gets.of (fun t k => XS.ifNo X49.here hx rfl (hb hby at_97) rfl ((if0 _ _).trans (teq hc51).2) k) ?_
    show Gets p e below _ (T49.setTop (mkF m 100 #[.val (.int p1), .val (.int p2), .val (.ref b1), .unset] []))
    refine Gets.of (fun t k => XS.iloadN X49.here hx rfl (hb hby at_100) rfl  k) ?_
    refine Gets.of (fun t k => XS.istoreN X49.here hx rfl (hb hby at_101) rfl (l' := #[.val (.int p1), .val (.int p2), .val (.ref b1), .val (.int p1)]) rfl k) ?_
    show Gets p e below _ (T49.setTop (mkF m 102 #[.val (.int p1), .val (.int p2), .val (.ref b1), .val (.int p1)] []))
    refine Gets.of (fun t k => XS.goto X49.here hx rfl (pc0 := 102) (pc' := 118) rfl (hb hby at_102) (by decide) (by decide) k) ?_
    show Gets p e below _ (T49.setTop (mkF m 118 #[.val (.int p1), .val (.int p2), .val (.ref b1), .val (.int p1)] []))
    refine Gets.of (fun t k => XS.iloadN X49.here hx rfl (hb hby at_118) rfl  k) ?_
    obtain ⟨_, _, ⟨T52, L52, k52, n52⟩, -, X52, ⟨Lc52, hQ52, l52, y52, z52⟩, st52⟩ := Jvm.LawKit.callS X49 hx (y := (⟨cn1, "isXmlChar", "(I)Z"⟩ : MethodName)) hown (mvT hZ (w10 hw)) (mvT hZ (w11 hw)) (mvT hZ (w12 hw)) (mvT hZ (w13 hw)) (by decide) (backOf (W := 0) (rm_isx l Z a0 hw [] p1 h49 n0 O50) hZ (w13 hw) (w12 hw) (by decide) (by decide)) (g := (mkF m 119 #[.val (.int p1), .val (.int p2), .val (.ref b1), .val (.int p1)] [(.int p1)])) rfl (by rw [hml]; rfl) (argsL := [(.int p1)]) (rest := []) (lenOf pd__I_Z rfl) rfl (by show 2 * 0 + _ ≤ _; exact Nat.le_of_eq rfl) (hb hby at_119) (fun _ _ => ⟨rfl, e49, (by decide : 1 + 0 ≤ _), (by decide : 16 + 0 ≤ _)⟩)
    dsimp only [Pt.U, Pt.locs, Pt.cells, Pt.slots] at X52 l52 y52 z52 st52 hQ52
    subst l52 y52 z52
    obtain ⟨Nq52, eq52, hR52⟩ := hQ52
    have N52 := Fr.app N49 Nq52
    rcases hR52 with ⟨hh52_0, rfl⟩ | ⟨hh52_0, rfl⟩
    · skip
      refine Gets.of st52 ?_
      show Gets p e below _ (T52.setTop (mkF m 122 #[.val (.int p1), .val (.int p2), .val (.ref b1), .val (.int p1)] [(.int (1 : Int32))]))
      refine Gets.of (fun t k => XS.iloadN X52.here hx rfl (hb hby at_122) rfl  k) ?_
      obtain ⟨_, _, ⟨T53, L53, k53, n53⟩, -, X53, ⟨Lc53, hQ53, l53, y53, z53⟩, st53⟩ := Jvm.LawKit.callS X52 hx (y := (⟨cn0, "excluded", "(I)Z"⟩ : MethodName)) hown (mvT hZ (w14 hw)) (mvT hZ (w15 hw)) (mvT hZ (w16 hw)) (mvT hZ (w17 hw)) (by decide) (backOf (W := 1) (rm_exc l Z a0 hw [] p1 h49 n0 O50) hZ (w17 hw) (w16 hw) (by decide) (by decide)) (g := (mkF m 123 #[.val (.int p1), .val (.int p2), .val (.ref b1), .val (.int p1)] [(.int p1), (.int (1 : Int32))])) rfl (by rw [hml]; rfl) (argsL := [(.int p1)]) (rest := [(.int (1 : Int32))]) (lenOf pd__I_Z rfl) rfl (by show 2 * 0 + _ ≤ _; exact Nat.le_of_eq rfl) (hb hby at_123) (fun _ _ => ⟨rfl, eq52, (by decide : 1 + 0 ≤ _), (by decide : 16 + 0 ≤ _)⟩)
      dsimp only [Pt.U, Pt.locs, Pt.cells, Pt.slots] at X53 l53 y53 z53 st53 hQ53
      subst l53 y53 z53
      obtain ⟨Nq53, eq53, hR53⟩ := hQ53
      have N53 := Fr.app N52 Nq53
      rcases hR53 with ⟨hh53_0, rfl⟩ | ⟨hh53_0, rfl⟩
      · skip
        refine Gets.of st53 ?_
        exact absurd hh52_0 hh53_0
      · skip
        refine Gets.of st53 ?_
        show Gets p e below _ (T53.setTop (mkF m 126 #[.val (.int p1), .val (.int p2), .val (.ref b1), .val (.int p1)] [(.int (0 : Int32)), (.int (1 : Int32))]))
        refine Gets.of (fun t k => XS.ifNo X53.here hx rfl (hb hby at_126) rfl ((if0 _ _).trans (teq (by decide : (0 : Int32) = (0 : Int32))).2) k) ?_
        show Gets p e below _ (T53.setTop (mkF m 129 #[.val (.int p1), .val (.int p2), .val (.ref b1), .val (.int p1)] [(.int (1 : Int32))]))
        refine Gets.of (fun t k => XS.iconst X53.here hx rfl (hb hby at_129) k) ?_
        refine Gets.of (fun t k => XS.goto X53.here hx rfl (pc0 := 130) (pc' := 134) rfl (hb hby at_130) (by decide) (by decide) k) ?_
        show Gets p e below _ (T53.setTop (mkF m 134 #[.val (.int p1), .val (.int p2), .val (.ref b1), .val (.int p1)] [(.int (1 : Int32)), (.int (1 : Int32))]))
        refine Gets.of (fun t k => XS.icmpNo X53.here hx rfl (hb hby at_134) rfl (teq (by decide : (1 : Int32) = (1 : Int32))).2 k) ?_
        show Gets p e below _ (T53.setTop (mkF m 137 #[.val (.int p1), .val (.int p2), .val (.ref b1), .val (.int p1)] []))
        refine Gets.of (fun t k => XS.iconst X53.here hx rfl (hb hby at_137) k) ?_
        refine Gets.of (fun t k => XS.goto X53.here hx rfl (pc0 := 138) (pc' := 142) rfl (hb hby at_138) (by decide) (by decide) k) ?_
        show Gets p e below _ (T53.setTop (mkF m 142 #[.val (.int p1), .val (.int p2), .val (.ref b1), .val (.int p1)] [(.int (1 : Int32))]))
        refine Gets.retN X53 hx (t := .boolean) Bd.returns (by simp) (hb hby at_142) ?_ (by decide) (by decide)
        rw [eq53]
        exact ⟨N53, K50, rfl⟩
    · skip
      refine Gets.of st52 ?_
      show Gets p e below _ (T52.setTop (mkF m 122 #[.val (.int p1), .val (.int p2), .val (.ref b1), .val (.int p1)] [(.int (0 : Int32))]))
      refine Gets.of (fun t k => XS.iloadN X52.here hx rfl (hb hby at_122) rfl  k) ?_
      obtain ⟨_, _, ⟨T54, L54, k54, n54⟩, -, X54, ⟨Lc54, hQ54, l54, y54, z54⟩, st54⟩ := Jvm.LawKit.callS X52 hx (y := (⟨cn0, "excluded", "(I)Z"⟩ : MethodName)) hown (mvT hZ (w14 hw)) (mvT hZ (w15 hw)) (mvT hZ (w16 hw)) (mvT hZ (w17 hw)) (by decide) (backOf (W := 1) (rm_exc l Z a0 hw [] p1 h49 n0 O50) hZ (w17 hw) (w16 hw) (by decide) (by decide)) (g := (mkF m 123 #[.val (.int p1), .val (.int p2), .val (.ref b1), .val (.int p1)] [(.int p1), (.int (0 : Int32))])) rfl (by rw [hml]; rfl) (argsL := [(.int p1)]) (rest := [(.int (0 : Int32))]) (lenOf pd__I_Z rfl) rfl (by show 2 * 0 + _ ≤ _; exact Nat.le_of_eq rfl) (hb hby at_123) (fun _ _ => ⟨rfl, eq52, (by decide : 1 + 0 ≤ _), (by decide : 16 + 0 ≤ _)⟩)
      dsimp only [Pt.U, Pt.locs, Pt.cells, Pt.slots] at X54 l54 y54 z54 st54 hQ54
      subst l54 y54 z54
      obtain ⟨Nq54, eq54, hR54⟩ := hQ54
      have N54 := Fr.app N52 Nq54
      rcases hR54 with ⟨hh54_0, rfl⟩ | ⟨hh54_0, rfl⟩
      · skip
        refine Gets.of st54 ?_
        show Gets p e below _ (T54.setTop (mkF m 126 #[.val (.int p1), .val (.int p2), .val (.ref b1), .val (.int p1)] [(.int (1 : Int32)), (.int (0 : Int32))]))
        refine Gets.of (fun t k => XS.ifYes X54.here hx rfl (pc0 := 126) (pc' := 133) rfl (hb hby at_126) rfl ((if0 _ _).trans (feq (by decide : ¬ ((1 : Int32) = (0 : Int32)))).2) (by decide) (by decide) k) ?_
        show Gets p e below _ (T54.setTop (mkF m 133 #[.val (.int p1), .val (.int p2), .val (.ref b1), .val (.int p1)] [(.int (0 : Int32))]))
        refine Gets.of (fun t k => XS.iconst X54.here hx rfl (hb hby at_133) k) ?_
        refine Gets.of (fun t k => XS.icmpNo X54.here hx rfl (hb hby at_134) rfl (teq (by decide : (0 : Int32) = (0 : Int32))).2 k) ?_
        show Gets p e below _ (T54.setTop (mkF m 137 #[.val (.int p1), .val (.int p2), .val (.ref b1), .val (.int p1)] []))
        refine Gets.of (fun t k => XS.iconst X54.here hx rfl (hb hby at_137) k) ?_
        refine Gets.of (fun t k => XS.goto X54.here hx rfl (pc0 := 138) (pc' := 142) rfl (hb hby at_138) (by decide) (by decide) k) ?_
        show Gets p e below _ (T54.setTop (mkF m 142 #[.val (.int p1), .val (.int p2), .val (.ref b1), .val (.int p1)] [(.int (1 : Int32))]))
        refine Gets.retN X54 hx (t := .boolean) Bd.returns (by simp) (hb hby at_142) ?_ (by decide) (by decide)
        rw [eq54]
        exact ⟨N54, K50, rfl⟩
      · skip
        refine Gets.of st54 ?_
        exact absurd hh54_0 hh52_0
  · skip
    refine Gets.of (fun t k => XS.ifYes X49.here hx rfl (pc0 := 97) (pc' := 105) rfl (hb hby at_97) rfl ((if0 _ _).trans (feq hc51).2) (by decide) (by decide) k) ?_
    show Gets p e below _ (T49.setTop (mkF m 105 #[.val (.int p1), .val (.int p2), .val (.ref b1), .unset] []))
    refine Gets.of (fun t k => XS.aloadN X49.here hx rfl (hb hby at_105) rfl rfl  k) ?_
    refine Gets.of (fun t k => XS.iloadN X49.here hx rfl (hb hby at_106) rfl  k) ?_
    refine Gets.of (fun t k => XS.iconst X49.here hx rfl (hb hby at_107) k) ?_
    refine Gets.of (fun t k => XS.iushr X49.here hx rfl (hb hby at_108) rfl k) ?_
    show Gets p e below _ (T49.setTop (mkF m 109 #[.val (.int p1), .val (.int p2), .val (.ref b1), .unset] [(.int ((p2.toUInt32 >>> ((1 : Int32) &&& 31).toUInt32).toInt32)), (.ref b1)]))
    refine Gets.of (fun t k => XS.bipush X49.here hx rfl (hb hby at_109) k) ?_
    refine Gets.of (fun t k => XS.iand X49.here hx rfl (hb hby at_111) rfl k) ?_
    show Gets p e below _ (T49.setTop (mkF m 112 #[.val (.int p1), .val (.int p2), .val (.ref b1), .unset] [(.int (((p2.toUInt32 >>> ((1 : Int32) &&& 31).toUInt32).toInt32) &&& (15 : Int32))), (.ref b1)]))
    obtain ⟨cl55, Ar55, q55, S55, N_55, H55, G55⟩ := id (V49)
    have hin55 : ¬ ((((p2.toUInt32 >>> ((1 : Int32) &&& 31).toUInt32).toInt32) &&& (15 : Int32)) < 0 ∨ cl55.slots.size ≤ ((((p2.toUInt32 >>> ((1 : Int32) &&& 31).toUInt32).toInt32) &&& (15 : Int32))).toNatClampNeg) := inb_of S55 (own_and15 _)
    obtain ⟨w55, hw55⟩ := own_getD [(9 : Int32), (10 : Int32), (13 : Int32), (32 : Int32), (55295 : Int32), (57344 : Int32), (65533 : Int32), (65536 : Int32), (1114111 : Int32), (0 : Int32), (11 : Int32), (55296 : Int32), (57343 : Int32), (65535 : Int32), (31 : Int32), (1114112 : Int32)] ((((p2.toUInt32 >>> ((1 : Int32) &&& 31).toUInt32).toInt32) &&& (15 : Int32))).toNatClampNeg
    refine Gets.of (fun t k => X49.iaload hx (j := (((p2.toUInt32 >>> ((1 : Int32) &&& 31).toUInt32).toInt32) &&& (15 : Int32))) (v := (.int w55)) (by rw [e49]; exact Ar55.1) (State.isArrayOf_alike hZ.alike Ar55.2.1) Ar55.2.2 hin55 (Has.at H55 hin55 hw55) (g := (mkF m 112 #[.val (.int p1), .val (.int p2), .val (.ref b1), .unset] [(.int (((p2.toUInt32 >>> ((1 : Int32) &&& 31).toUInt32).toInt32) &&& (15 : Int32))), (.ref b1)])) rfl rfl (hb hby at_112) t k) ?_
    show Gets p e below _ (T49.setTop (mkF m 113 #[.val (.int p1), .val (.int p2), .val (.ref b1), .unset] [(.int w55)]))
    refine Gets.of (fun t k => XS.iloadN X49.here hx rfl (hb hby at_113) rfl  k) ?_
    refine Gets.of (fun t k => XS.iconst X49.here hx rfl (hb hby at_114) k) ?_
    refine Gets.of (fun t k => iremM (g := (mkF m 115 #[.val (.int p1), .val (.int p2), .val (.ref b1), .unset] [(.int (3 : Int32)), (.int p1), (.int w55)])) X49 hx rfl (hb hby at_115) rfl (by decide) k) ?_
    show Gets p e below _ (T49.setTop (mkF m 116 #[.val (.int p1), .val (.int p2), .val (.ref b1), .unset] [(.int (p1 % (3 : Int32))), (.int w55)]))
    refine Gets.of (fun t k => XS.iadd X49.here hx rfl (hb hby at_116) rfl k) ?_
    show Gets p e below _ (T49.setTop (mkF m 117 #[.val (.int p1), .val (.int p2), .val (.ref b1), .unset] [(.int (w55 + (p1 % (3 : Int32))))]))
    refine Gets.of (fun t k => XS.istoreN X49.here hx rfl (hb hby at_117) rfl (l' := #[.val (.int p1), .val (.int p2), .val (.ref b1), .val (.int (w55 + (p1 % (3 : Int32))))]) rfl k) ?_
    show Gets p e below _ (T49.setTop (mkF m 118 #[.val (.int p1), .val (.int p2), .val (.ref b1), .val (.int (w55 + (p1 % (3 : Int32))))] []))
    refine Gets.of (fun t k => XS.iloadN X49.here hx rfl (hb hby at_118) rfl  k) ?_
    obtain ⟨_, _, ⟨T56, L56, k56, n56⟩, -, X56, ⟨Lc56, hQ56, l56, y56, z56⟩, st56⟩ := Jvm.LawKit.callS X49 hx (y := (⟨cn1, "isXmlChar", "(I)Z"⟩ : MethodName)) hown (mvT hZ (w10 hw)) (mvT hZ (w11 hw)) (mvT hZ (w12 hw)) (mvT hZ (w13 hw)) (by decide) (backOf (W := 0) (rm_isx l Z a0 hw [] (w55 + (p1 % (3 : Int32))) h49 n0 O50) hZ (w13 hw) (w12 hw) (by decide) (by decide)) (g := (mkF m 119 #[.val (.int p1), .val (.int p2), .val (.ref b1), .val (.int (w55 + (p1 % (3 : Int32))))] [(.int (w55 + (p1 % (3 : Int32))))])) rfl (by rw [hml]; rfl) (argsL := [(.int (w55 + (p1 % (3 : Int32))))]) (rest := []) (lenOf pd__I_Z rfl) rfl (by show 2 * 0 + _ ≤ _; exact Nat.le_of_eq rfl) (hb hby at_119) (fun _ _ => ⟨rfl, e49, (by decide : 1 + 0 ≤ _), (by decide : 16 + 0 ≤ _)⟩)
    dsimp only [Pt.U, Pt.locs, Pt.cells, Pt.slots] at X56 l56 y56 z56 st56 hQ56
    subst l56 y56 z56
    obtain ⟨Nq56, eq56, hR56⟩ := hQ56
    have N56 := Fr.app N49 Nq56
    rcases hR56 with ⟨hh56_0, rfl⟩ | ⟨hh56_0, rfl⟩
    · skip
      refine Gets.of st56 ?_
      show Gets p e below _ (T56.setTop (mkF m 122 #[.val (.int p1), .val (.int p2), .val (.ref b1), .val (.int (w55 + (p1 % (3 : Int32))))] [(.int (1 : Int32))]))
      refine Gets.of (fun t k => XS.iloadN X56.here hx rfl (hb hby at_122) rfl  k) ?_
      obtain ⟨_, _, ⟨T57, L57, k57, n57⟩, -, X57, ⟨Lc57, hQ57, l57, y57, z57⟩, st57⟩ := Jvm.LawKit.callS X56 hx (y := (⟨cn0, "excluded", "(I)Z"⟩ : MethodName)) hown (mvT hZ (w14 hw)) (mvT hZ (w15 hw)) (mvT hZ (w16 hw)) (mvT hZ (w17 hw)) (by decide) (backOf (W := 1) (rm_exc l Z a0 hw [] (w55 + (p1 % (3 : Int32))) h49 n0 O50) hZ (w17 hw) (w16 hw) (by decide) (by decide)) (g := (mkF m 123 #[.val (.int p1), .val (.int p2), .val (.ref b1), .val (.int (w55 + (p1 % (3 : Int32))))] [(.int (w55 + (p1 % (3 : Int32)))), (.int (1 : Int32))])) rfl (by rw [hml]; rfl) (argsL := [(.int (w55 + (p1 % (3 : Int32))))]) (rest := [(.int (1 : Int32))]) (lenOf pd__I_Z rfl) rfl (by show 2 * 0 + _ ≤ _; exact Nat.le_of_eq rfl) (hb hby at_123) (fun _ _ => ⟨rfl, eq56, (by decide : 1 + 0 ≤ _), (by decide : 16 + 0 ≤ _)⟩)
      dsimp only [Pt.U, Pt.locs, Pt.cells, Pt.slots] at X57 l57 y57 z57 st57 hQ57
      subst l57 y57 z57
      obtain ⟨Nq57, eq57, hR57⟩ := hQ57
      have N57 := Fr.app N56 Nq57
      rcases hR57 with ⟨hh57_0, rfl⟩ | ⟨hh57_0, rfl⟩
      · skip
        refine Gets.of st57 ?_
        exact absurd hh56_0 hh57_0
      · skip
        refine Gets.of st57 ?_
        show Gets p e below _ (T57.setTop (mkF m 126 #[.val (.int p1), .val (.int p2), .val (.ref b1), .val (.int (w55 + (p1 % (3 : Int32))))] [(.int (0 : Int32)), (.int (1 : Int32))]))
        refine Gets.of (fun t k => XS.ifNo X57.here hx rfl (hb hby at_126) rfl ((if0 _ _).trans (teq (by decide : (0 : Int32) = (0 : Int32))).2) k) ?_
        show Gets p e below _ (T57.setTop (mkF m 129 #[.val (.int p1), .val (.int p2), .val (.ref b1), .val (.int (w55 + (p1 % (3 : Int32))))] [(.int (1 : Int32))]))
        refine Gets.of (fun t k => XS.iconst X57.here hx rfl (hb hby at_129) k) ?_
        refine Gets.of (fun t k => XS.goto X57.here hx rfl (pc0 := 130) (pc' := 134) rfl (hb hby at_130) (by decide) (by decide) k) ?_
        show Gets p e below _ (T57.setTop (mkF m 134 #[.val (.int p1), .val (.int p2), .val (.ref b1), .val (.int (w55 + (p1 % (3 : Int32))))] [(.int (1 : Int32)), (.int (1 : Int32))]))
        refine Gets.of (fun t k => XS.icmpNo X57.here hx rfl (hb hby at_134) rfl (teq (by decide : (1 : Int32) = (1 : Int32))).2 k) ?_
        show Gets p e below _ (T57.setTop (mkF m 137 #[.val (.int p1), .val (.int p2), .val (.ref b1), .val (.int (w55 + (p1 % (3 : Int32))))] []))
        refine Gets.of (fun t k => XS.iconst X57.here hx rfl (hb hby at_137) k) ?_
        refine Gets.of (fun t k => XS.goto X57.here hx rfl (pc0 := 138) (pc' := 142) rfl (hb hby at_138) (by decide) (by decide) k) ?_
        show Gets p e below _ (T57.setTop (mkF m 142 #[.val (.int p1), .val (.int p2), .val (.ref b1), .val (.int (w55 + (p1 % (3 : Int32))))] [(.int (1 : Int32))]))
        refine Gets.retN X57 hx (t := .boolean) Bd.returns (by simp) (hb hby at_142) ?_ (by decide) (by decide)
        rw [eq57]
        exact ⟨N57, K50, rfl⟩
    · skip
      refine Gets.of st56 ?_
      show Gets p e below _ (T56.setTop (mkF m 122 #[.val (.int p1), .val (.int p2), .val (.ref b1), .val (.int (w55 + (p1 % (3 : Int32))))] [(.int (0 : Int32))]))
      refine Gets.of (fun t k => XS.iloadN X56.here hx rfl (hb hby at_122) rfl  k) ?_
      obtain ⟨_, _, ⟨T58, L58, k58, n58⟩, -, X58, ⟨Lc58, hQ58, l58, y58, z58⟩, st58⟩ := Jvm.LawKit.callS X56 hx (y := (⟨cn0, "excluded", "(I)Z"⟩ : MethodName)) hown (mvT hZ (w14 hw)) (mvT hZ (w15 hw)) (mvT hZ (w16 hw)) (mvT hZ (w17 hw)) (by decide) (backOf (W := 1) (rm_exc l Z a0 hw [] (w55 + (p1 % (3 : Int32))) h49 n0 O50) hZ (w17 hw) (w16 hw) (by decide) (by decide)) (g := (mkF m 123 #[.val (.int p1), .val (.int p2), .val (.ref b1), .val (.int (w55 + (p1 % (3 : Int32))))] [(.int (w55 + (p1 % (3 : Int32)))), (.int (0 : Int32))])) rfl (by rw [hml]; rfl) (argsL := [(.int (w55 + (p1 % (3 : Int32))))]) (rest := [(.int (0 : Int32))]) (lenOf pd__I_Z rfl) rfl (by show 2 * 0 + _ ≤ _; exact Nat.le_of_eq rfl) (hb hby at_123) (fun _ _ => ⟨rfl, eq56, (by decide : 1 + 0 ≤ _), (by decide : 16 + 0 ≤ _)⟩)
      dsimp only [Pt.U, Pt.locs, Pt.cells, Pt.slots] at X58 l58 y58 z58 st58 hQ58
      subst l58 y58 z58
      obtain ⟨Nq58, eq58, hR58⟩ := hQ58
      have N58 := Fr.app N56 Nq58
      rcases hR58 with ⟨hh58_0, rfl⟩ | ⟨hh58_0, rfl⟩
      · skip
        refine Gets.of st58 ?_
        show Gets p e below _ (T58.setTop (mkF m 126 #[.val (.int p1), .val (.int p2), .val (.ref b1), .val (.int (w55 + (p1 % (3 : Int32))))] [(.int (1 : Int32)), (.int (0 : Int32))]))
        refine Gets.of (fun t k => XS.ifYes X58.here hx rfl (pc0 := 126) (pc' := 133) rfl (hb hby at_126) rfl ((if0 _ _).trans (feq (by decide : ¬ ((1 : Int32) = (0 : Int32)))).2) (by decide) (by decide) k) ?_
        show Gets p e below _ (T58.setTop (mkF m 133 #[.val (.int p1), .val (.int p2), .val (.ref b1), .val (.int (w55 + (p1 % (3 : Int32))))] [(.int (0 : Int32))]))
        refine Gets.of (fun t k => XS.iconst X58.here hx rfl (hb hby at_133) k) ?_
        refine Gets.of (fun t k => XS.icmpNo X58.here hx rfl (hb hby at_134) rfl (teq (by decide : (0 : Int32) = (0 : Int32))).2 k) ?_
        show Gets p e below _ (T58.setTop (mkF m 137 #[.val (.int p1), .val (.int p2), .val (.ref b1), .val (.int (w55 + (p1 % (3 : Int32))))] []))
        refine Gets.of (fun t k => XS.iconst X58.here hx rfl (hb hby at_137) k) ?_
        refine Gets.of (fun t k => XS.goto X58.here hx rfl (pc0 := 138) (pc' := 142) rfl (hb hby at_138) (by decide) (by decide) k) ?_
        show Gets p e below _ (T58.setTop (mkF m 142 #[.val (.int p1), .val (.int p2), .val (.ref b1), .val (.int (w55 + (p1 % (3 : Int32))))] [(.int (1 : Int32))]))
        refine Gets.retN X58 hx (t := .boolean) Bd.returns (by simp) (hb hby at_142) ?_ (by decide) (by decide)
        rw [eq58]
        exact ⟨N58, K50, rfl⟩
      · skip
        refine Gets.of st58 ?_
        exact absurd hh58_0 hh56_0
set_option maxRecDepth 65536 in
set_option maxHeartbeats 40000000 in
theorem comes_1 {Post : Tables → Env → Array Value → State → Outcome → State → Prop} (hpost : ∀ tb e args s v u, (limb_1_1.after args s (.returned v) u = true ∧ limb_1_2.after args s (.returned v) u = true ∧ True) → FrameEnd s (.returned v) u (Jvm.fieldLocs frame_1_writes args s ++ Jvm.arrayLocs frame_1_arrays args s ++ Jvm.staticLocs frame_1_statics s) 16 128 → Post tb e args s (.returned v) u) :
    ArmFor flags0 classFile x code maxLocals ret World_1 tables_1 room_1 Calls_1 rest_1 Pre_1 Post := by
  intro l hfl _ _ p e ha hc hk s m args below hf hA hF happ hP
  obtain ⟨hcalls, hrest, hpre⟩ := hP
  obtain ⟨-, -, -, hnamed, -, -, -, hat⟩ := (Spec.applies_iff hf).mp happ
  obtain ⟨hg, hn⟩ := and_e (Cond.before_iff.mp (show (Jvm.Cond.and given_1 narrow_1).before args s = true from hpre))
  obtain ⟨hcount, hk0⟩ := and_e hg
  obtain ⟨hi0, hk1⟩ := and_e hk0
  have hi1 := hk1
  obtain ⟨w0, w1, rfl⟩ : ∃ w0 w1 : Value, args = #[w0, w1] := by
    have hs : args.size = 2 := by simpa [Cond.value, given_1] using hcount
    obtain ⟨L⟩ := args
    match L, hs with
    | [w0, w1], _ => exact ⟨w0, w1, rfl⟩
  have hw := fun d (hd : d ∈ tables_1) => atoms_spec (ws := Jvm.Cond.code x code maxLocals ret :: tables_1) hat d (List.mem_cons_of_mem _ hd)
  have hfit : Fit s := fun {y c} hc i hi => by
    obtain ⟨ha, rfl⟩ := Array.getElem?_eq_some_iff.mp hc
    have q := List.all_eq_true.mp ((Array.all_eq_true_iff_forall_mem.mp hF) _ (Array.getElem_mem ha)) i (List.mem_range.mpr hi)
    simpa [Array.getElem?_eq_getElem hi] using q
  obtain ⟨i0, ei0⟩ := is_v hi0
  obtain rfl : w0 = (.int i0) := Option.some.inj ei0
  obtain ⟨i1, ei1⟩ := is_v hi1
  obtain rfl : w1 = (.int i1) := Option.some.inj ei1
  obtain ⟨n, o, h1, h2, h3, _, L, rfl, ⟨N, -, hR⟩, hq⟩ := rm_law l s _ hw tables_1 i0 i1 s.heap s.heap.size (Old.start s)  p e ha hc hk s m _ below hf ((Spec.applies_iff_loose hf).mp happ).1 ⟨rfl, State.Warmed39.refl s, rfl⟩ trivial
  obtain rfl := hR
  refine ⟨n, _, h1, h2, h3, hpost _ _ _ _ _ _ ⟨Cond.after_iff.mpr rfl, Cond.after_iff.mpr (eq_i res_at (Term.int_eval (1)) rfl), trivial⟩ ⟨hq.1, hq.2.1, (hq.2.2.sift fun y hy => Or.inr (N y hy)).mono (by decide) (by decide)⟩⟩
theorem main_1_1 : Claimed_1_1 := comes_1 fun _ _ _ _ _ _ h hF => ⟨h.1, hF⟩
theorem main_1_2 : Claimed_1_2 := comes_1 fun _ _ _ _ _ _ h hF => ⟨h.2.1, hF⟩
end Jvm.Pilot.@@N@@
namespace Jvm.Pilot.@@N@@
open Jvm Jvm.ClassFile Sem Op Lib Jvm.Free Jvm.Stand Jvm.Pilot.@@N@@.Jvm.D
/-! MADE BY PROGRAM (witnessworld.py) out of the Statement's table words and the real class files: 9 classes; the members and pool entries that the words name. The judged class is class 1, her method 2. -/
namespace start1
open Jvm.ClassFile
def u (s : String) : CpInfo := .utf8 (stringToUtf16 s)
/-- a pool by its gaps: so many unusable entries, then the entry; so many at the end -/
def gap : Nat → List CpInfo → List CpInfo
  | 0, r => r
  | n + 1, r => .unusable :: gap n r
def poolList (es : List (Nat × CpInfo)) (last : Nat) : List CpInfo := es.foldr (fun e r => gap e.1 (e.2 :: r)) (gap last [])
def pool (es : List (Nat × CpInfo)) (last : Nat) : Array CpInfo := ⟨poolList es last⟩
def fileOf (pool : Array CpInfo) (this : Nat) (attrs : Array Attribute := #[]) (ms : Array MethodInfo := #[]) (fl : Nat := 33) (sup : Nat := 0) (ifs : Array Nat := #[]) (fds : Array FieldInfo := #[]) : ClassFile where
  minorVersion := 0
  majorVersion := 65
  constantPool := pool
  accessFlags := fl
  thisClass := this
  superClass := sup
  interfaces := ifs
  fields := fds
  methods := ms
  attributes := attrs
def plain (name : String) (sup : Option ClassId) : Class where
  name := name
  kind := .ordinary
  loader := none
  accessFlags := 33
  super := sup
  interfaces := #[]
  cf := none
  fields := #[]
  methods := #[]
  instanceTypes := #[]
  staticTypes := #[]
  resolved := #[]
  callSites := []
  init := .initialized
  statics := none
  mirror := none

def pool0 : Array CpInfo := pool [(5, u "<init>"), (0, u "()V"), (1, .class_ 10), (1, u "java/lang/Object")] 113

def k0m0 : Method := { name := "<init>", desc := "()V", sig := { parameters := [], returnType := none }, accessFlags := 1, code := none }
/-- java/lang/Object -/
def k0 : Class := { plain "java/lang/Object" none with
  accessFlags := 33
  interfaces := #[]
  cf := some (fileOf pool0 8 #[] #[{ accessFlags := 1, nameIndex := 5, descriptorIndex := 6, attributes := #[] }] 33 0 #[] #[])
  fields := #[]
  methods := #[k0m0]
  instanceTypes := #[]
  staticTypes := #[]
  resolved := Array.replicate 124 none
  statics := none }

def pool1 : Array CpInfo := pool [(2, .class_ 4), (1, u "java/lang/Object"), (0, u "<init>"), (0, u "()V"), (0, .integer 55296), (0, .integer 57343), (0, .integer 65534), (0, .integer 65535), (0, .integer 1114111), (0, .integer 55295), (0, .integer 57344), (0, .integer 65533), (0, .integer 65536), (0, .integer 1114112), (0, .methodref 18 19), (0, .class_ 20), (0, .nameAndType 21 22), (0, u "com/example/causeway/causeway/formats/XmlText"), (0, u "isXmlChar"), (0, u "(I)Z"), (0, .methodref 24 25), (0, .class_ 26), (0, .nameAndType 27 22), (0, u "com/example/causeway/causeway/formats/XmlTextIsXmlCharPinLaw"), (0, u "excluded"), (3, u "law"), (0, u "(II)Z")] 4

def k1m0 : Method := { name := "<init>", desc := "()V", sig := { parameters := [], returnType := none }, accessFlags := 2, code := none }
def k1c1 : Code := { maxStack := 2, maxLocals := 1, code := method_2_code, exceptionTable := #[], attributes := #[] }
def k1m1 : Method := { name := "excluded", desc := "(I)Z", sig := { parameters := [.int], returnType := some .boolean }, accessFlags := 10, code := some k1c1 }
def k1c2 : Code := { maxStack := 4, maxLocals := 4, code := code, exceptionTable := #[], attributes := #[] }
def k1m2 : Method := { name := "law", desc := "(II)Z", sig := { parameters := [.int, .int], returnType := some .boolean }, accessFlags := 9, code := some k1c2 }
/-- com/example/causeway/causeway/formats/XmlTextIsXmlCharPinLaw -/
def k1 : Class := { plain "com/example/causeway/causeway/formats/XmlTextIsXmlCharPinLaw" (some 0) with
  accessFlags := 49
  interfaces := #[]
  cf := some (fileOf pool1 24 #[] #[{ accessFlags := 2, nameIndex := 5, descriptorIndex := 6, attributes := #[] }, { accessFlags := 10, nameIndex := 27, descriptorIndex := 22, attributes := #[] }, { accessFlags := 9, nameIndex := 31, descriptorIndex := 32, attributes := #[] }] 49 2 #[] #[])
  fields := #[]
  methods := #[k1m0, k1m1, k1m2]
  instanceTypes := #[]
  staticTypes := #[]
  resolved := Array.replicate 37 none
  statics := none }

def pool2 : Array CpInfo := pool [(2, .class_ 4), (1, u "java/lang/Object"), (0, u "<init>"), (0, u "()V"), (23, .class_ 32), (1, u "com/example/causeway/causeway/formats/XmlText"), (0, u "isXmlChar"), (0, u "(I)Z"), (26, .integer 55295), (0, .integer 57344), (0, .integer 65533), (0, .integer 65536), (0, .integer 1114111)] 49

def k2m0 : Method := { name := "<init>", desc := "()V", sig := { parameters := [], returnType := none }, accessFlags := 2, code := none }
def k2c1 : Code := { maxStack := 2, maxLocals := 1, code := prog_53_method_3_code, exceptionTable := #[], attributes := #[] }
def k2m1 : Method := { name := "isXmlChar", desc := "(I)Z", sig := { parameters := [.int], returnType := some .boolean }, accessFlags := 9, code := some k2c1 }
/-- com/example/causeway/causeway/formats/XmlText -/
def k2 : Class := { plain "com/example/causeway/causeway/formats/XmlText" (some 0) with
  accessFlags := 49
  interfaces := #[]
  cf := some (fileOf pool2 30 #[] #[{ accessFlags := 2, nameIndex := 5, descriptorIndex := 6, attributes := #[] }, { accessFlags := 9, nameIndex := 33, descriptorIndex := 34, attributes := #[] }] 49 2 #[] #[])
  fields := #[]
  methods := #[k2m0, k2m1]
  instanceTypes := #[]
  staticTypes := #[]
  resolved := Array.replicate 115 none
  statics := none }

def pool3 : Array CpInfo := pool [(1, u "java/lang/Cloneable"), (0, .class_ 1), (0, u "java/lang/Object"), (0, .class_ 3)] 3

/-- java/lang/Cloneable -/
def k3 : Class := { plain "java/lang/Cloneable" (some 0) with
  accessFlags := 1537
  interfaces := #[]
  cf := some (fileOf pool3 2 #[] #[] 1537 4 #[] #[])
  fields := #[]
  methods := #[]
  instanceTypes := #[]
  staticTypes := #[]
  resolved := Array.replicate 8 none
  statics := none }

def pool4 : Array CpInfo := pool [(1, u "java/io/Serializable"), (0, .class_ 1), (0, u "java/lang/Object"), (0, .class_ 3)] 3

/-- java/io/Serializable -/
def k4 : Class := { plain "java/io/Serializable" (some 0) with
  accessFlags := 1537
  interfaces := #[]
  cf := some (fileOf pool4 2 #[] #[] 1537 4 #[] #[])
  fields := #[]
  methods := #[]
  instanceTypes := #[]
  staticTypes := #[]
  resolved := Array.replicate 8 none
  statics := none }

/-- the primitive byte -/
def k5 : Class := { plain "byte" none with kind := .primitive 'B', accessFlags := 0x411 }
/-- [B -/
def k6 : Class := { plain "[B" (some 0) with kind := .array 5 .byte, interfaces := #[3, 4], accessFlags := 1041 }

/-- the primitive int -/
def k7 : Class := { plain "int" none with kind := .primitive 'I', accessFlags := 0x411 }
/-- [I -/
def k8 : Class := { plain "[I" (some 0) with kind := .array 7 .int, interfaces := #[3, 4], accessFlags := 1041 }

def heap : Heap := #[]
def classes : Array Class := #[k0, k1, k2, k3, k4, k5, k6, k7, k8]
def interned : List (Array UInt16 × Addr) := []
def slotsUsed : Nat := 0
def theMethod : MethodId := ⟨1, 2⟩
def args0 : Array Value := #[.int 5, .int 5]
def aboutOver (below : List Frame) : State where
  vm := { classes := classes, interned := interned.toArray }
  heap := heap
  slotsUsed := slotsUsed
  threads := #[{ frames := .invoking theMethod args0 :: below }]
def below0 : List Frame := [.native { method := ⟨0, 0⟩, args := #[] }]
def about1 : State := aboutOver below0
def p0 : Program := .bare "" "" ""
def e0 : Env := launch0.env 0 0 0
theorem w_frames : about1.frames = Frame.invoking theMethod args0 :: below0 := rfl
set_option maxRecDepth 65536 in
theorem w_args : argsFit about1.vm theMethod args0 = true := by decide +kernel
set_option maxRecDepth 65536 in
theorem w_heap : heapFits about1 = true := by decide +kernel
set_option maxRecDepth 65536 in
theorem w_runnable : about1.curStatus? = some .runnable := by decide +kernel
set_option maxRecDepth 65536 in
theorem w_alone : about1.alone = true := by decide +kernel
set_option maxRecDepth 65536 in
theorem w_named : about1.methodNamed? x = some theMethod := by decide +kernel
set_option maxRecDepth 65536 in
theorem w_hears : about1.hears theMethod below0 = true := by decide +kernel
set_option maxRecDepth 65536 in
theorem w_ripe : about1.ripe theMethod args0 below0 = true := by decide +kernel
theorem w_running : about1.status = .running := rfl
set_option maxRecDepth 65536 in
theorem w_room : about1.hasRoom e0.platform room_1 = true :=
  launch0.hasRoom_least _ room_1 (by decide +kernel) (by decide +kernel) (by decide +kernel) (by decide +kernel) (by decide +kernel) (by decide +kernel)
theorem allAtoms_all (ts : List Jvm.Cond) (a : Array Jvm.Value) (st : Jvm.State) : (allAtoms ts).before a st = ts.all (fun c => c.before a st) := by
  induction ts with
  | nil => rfl
  | cons c t ih =>
    show (Jvm.Cond.and c (allAtoms t)).before a st = _
    rw [Jvm.Cond.before_and, ih, List.all_cons]
def words1 : List Jvm.Cond := Jvm.Cond.code x code maxLocals ret :: tables_1
/-- a 'code' word, met by the world's own term for the bytes: nothing is compared byte by byte -/
theorem code_word {y : MethodName} {bytes : ByteArray} {mx : Nat} {rt : Option FieldType} {a : Array Value} {s : State} {m : MethodId} {meth : Method} {c : Code} (h1 : s.methodNamed? y = some m) (h2 : s.vm.method? m = some meth) (h3 : meth.code = some c) (h4 : c.code = bytes)
    (h5 : (c.maxLocals == mx && c.exceptionTable.isEmpty && decide (c.maxStack ≤ mostOperands) && decide (meth.sig.returnType = rt) && !meth.locks && decide (parseMethodDescriptor y.desc = some meth.sig)) = true) : (Jvm.Cond.code y bytes mx rt).before a s = true := by
  simp only [Bool.and_eq_true, beq_iff_eq, Bool.not_eq_true', decide_eq_true_eq] at h5
  obtain ⟨⟨⟨⟨⟨g1, g2⟩, g3⟩, g4⟩, g5⟩, g6⟩ := h5
  simp [Cond.before, Cond.holds, Cond.value, h1, h2, h3, h4, g1, g2, g3, g4, g5, g6]
def isCode : Jvm.Cond → Bool
  | .code _ _ _ _ => true
  | _ => false
theorem all_split {L : List Jvm.Cond} {P : Jvm.Cond → Bool} (h1 : L.all (fun c => isCode c || P c) = true) (h2 : ∀ c ∈ L.filter isCode, P c = true) : L.all P = true := by
  refine List.all_eq_true.mpr fun c hc => ?_
  have h := List.all_eq_true.mp h1 c hc
  rcases Bool.eq_false_or_eq_true (isCode c) with hi | hi
  · exact h2 c (List.mem_filter.mpr ⟨hc, hi⟩)
  · simpa [hi] using h
set_option maxRecDepth 65536 in
theorem w_c0 : (Jvm.Cond.code x code maxLocals ret).before args0 about1 = true := code_word (m := ⟨1, 2⟩) (meth := k1m2) (c := k1c2) (by decide +kernel) rfl rfl rfl (by decide +kernel)
set_option maxRecDepth 65536 in
theorem w_c1 : (Jvm.Cond.code ({ cls := "com/example/causeway/causeway/formats/XmlText", name := "isXmlChar", desc := "(I)Z" } : Jvm.MethodName) prog_53_method_3_code (1 : Nat) (Option.some Jvm.ClassFile.FieldType.boolean)).before args0 about1 = true := code_word (m := ⟨2, 1⟩) (meth := k2m1) (c := k2c1) (by decide +kernel) rfl rfl rfl (by decide +kernel)
set_option maxRecDepth 65536 in
theorem w_c2 : (Jvm.Cond.code ({ cls := "com/example/causeway/causeway/formats/XmlTextIsXmlCharPinLaw", name := "excluded", desc := "(I)Z" } : Jvm.MethodName) method_2_code (1 : Nat) (Option.some Jvm.ClassFile.FieldType.boolean)).before args0 about1 = true := code_word (m := ⟨1, 1⟩) (meth := k1m1) (c := k1c1) (by decide +kernel) rfl rfl rfl (by decide +kernel)
def codes1 : List Jvm.Cond := [Jvm.Cond.code x code maxLocals ret, Jvm.Cond.code ({ cls := "com/example/causeway/causeway/formats/XmlText", name := "isXmlChar", desc := "(I)Z" } : Jvm.MethodName) prog_53_method_3_code (1 : Nat) (Option.some Jvm.ClassFile.FieldType.boolean), Jvm.Cond.code ({ cls := "com/example/causeway/causeway/formats/XmlTextIsXmlCharPinLaw", name := "excluded", desc := "(I)Z" } : Jvm.MethodName) method_2_code (1 : Nat) (Option.some Jvm.ClassFile.FieldType.boolean)]
set_option maxRecDepth 65536 in
theorem codes_eq : words1.filter isCode = codes1 := rfl
theorem w_codes : ∀ c ∈ words1.filter isCode, c.before args0 about1 = true := by
  rw [codes_eq]
  intro c hc
  simp only [codes1, List.mem_cons, List.not_mem_nil, or_false] at hc
  rcases hc with rfl | rfl | rfl
  · exact w_c0
  · exact w_c1
  · exact w_c2
set_option maxRecDepth 65536 in
theorem w_t1 : (words1.take 24).all (fun c => isCode c || c.before args0 about1) = true := by decide +kernel
set_option maxRecDepth 65536 in
theorem w_t2 : (words1.drop 24).all (fun c => isCode c || c.before args0 about1) = true := by decide +kernel
theorem w_tables : (allAtoms (Jvm.Cond.code x code maxLocals ret :: tables_1)).before args0 about1 = true := by
  rw [allAtoms_all]
  show words1.all (fun c => c.before args0 about1) = true
  refine all_split ?_ w_codes
  rw [← List.take_append_drop 24 words1, List.all_append, w_t1, w_t2]
  rfl
set_option maxRecDepth 65536 in
theorem w_case : (Jvm.Cond.and given_1 narrow_1).before args0 about1 = true := by decide +kernel
theorem w_applies : (headSpec (Jvm.Cond.code x code maxLocals ret :: tables_1) room_1).applies x e0.platform about1 = true :=
  (Spec.applies_iff w_frames).mpr ⟨w_running, w_runnable, w_alone, w_named, w_hears, w_ripe, w_room, w_tables⟩
theorem atStart : AtStart classFile x code maxLocals ret World_1 tables_1 room_1 Calls_1 rest_1 Pre_1 launch0 p0 e0 about1 theMethod args0 below0 :=
  ⟨lists_1, trivial, launch0.admits_env _ _ _, launch0.least_env, fairChoices_fair.cas, fairChoices_fair.clock, w_frames, w_args, w_heap, w_applies, trivial, trivial, w_case⟩
end start1
theorem witness_1 : WitnessClaimed_1 := ⟨start1.p0, start1.e0, start1.about1, start1.theMethod, start1.args0, start1.below0, start1.atStart⟩
end Jvm.Pilot.@@N@@
