import JvmDerived
import JvmDerived.Pilot.@@N@@Statement
import JvmDerived.Pilot.@@N@@Code
set_option linter.unusedVariables false
set_option linter.unusedSimpArgs false
namespace Jvm.RoadKit
open Sem ClassFile Op Lib Jvm.Stand Jvm.Free Jvm.LawKit
section Own
variable {p : Program} {l : Launch} {e : Env} {R : Room} {s : State} {m : MethodId} {args : Array Value} {below : List Frame} {meth : Method} {c : Code} {T : State} {locs : List Loc} {cells slots : Nat}
/-- from U the run comes to a state of which G holds -/
def Gets (p : Program) (e : Env) (below : List Frame) (G : State → Prop) (U : State) : Prop := ∃ t, Steps p.tables e below U t ∧ G t
theorem Gets.of {G : State → Prop} {U U' : State} (k : ∀ t, Steps p.tables e below U' t → Steps p.tables e below U t) (h : Gets p e below G U') : Gets p e below G U := by
  obtain ⟨t, a, b⟩ := h; exact ⟨t, k t a, b⟩
theorem Gets.tr {G : State → Prop} {U U' : State} (k : Steps p.tables e below U U') (h : Gets p e below G U') : Gets p e below G U := by
  obtain ⟨t, a, b⟩ := h; exact ⟨t, k.trans a, b⟩
/-- what is owed at the end of a body -/
def Out (Q : Option Value → Heap → List Loc → Prop) (s : State) (below : List Frame) (C S : Nat) (t : State) : Prop := ∃ o, t.status = .running ∧ Ended t below o ∧ ∃ v L, o = .returned v ∧ Q v t.heap L ∧ FrameEnd s o t L C S
theorem Gets.out {Q : Option Value → Heap → List Loc → Prop} {C S : Nat} {U : State} (h : Gets p e below (Out Q s below C S) U) : ∃ s₂ o, Steps p.tables e below U s₂ ∧ s₂.status = .running ∧ Ended s₂ below o ∧ ∃ v L, o = .returned v ∧ Q v s₂.heap L ∧ FrameEnd s o s₂ L C S := by
  obtain ⟨t, a, o, b⟩ := h; exact ⟨t, o, a, b⟩
theorem Gets.fin {Q : Option Value → Heap → List Loc → Prop} {C S : Nat} {U : State} (X : Stand p l e R s m args below meth c T locs cells slots) {v : Option Value} (hv : meth.sig.returnType = none → v = none) (hlk : meth.locks = false)
    (k : ∀ fs, (∀ (f : JFrame) (acts : List Action), f.method = m → f.locked = none → f.entered = [] → (doReturn e (T.setTop f) acts v).1 = T.setFrames fs) → Steps p.tables e below U (T.setFrames fs)) (hQ : Q v T.heap locs) (h1 : cells ≤ C) (h2 : slots ≤ S) : Gets p e below (Out Q s below C S) U := by
  obtain ⟨fs, hr, hrun, hended, hW, hsame⟩ := X.leave (v := v) hv hlk
  exact ⟨_, k fs hr, _, hrun, hended, _, _, rfl, hQ, ⟨_, rfl⟩, hW, hsame.mono h1 h2⟩
theorem retI0 (X : Stand p l e R s m args below meth c T locs cells slots) (hx : p.tables.exec = Jvm.exec) {pc : Nat} {Ls : Array Slot} {z : Int32} {rest : List Value} (hret : meth.sig.returnType = some .int) (hd : decode c.code pc = .ok (.ireturn, 1)) {fs : List Frame}
    (hl : ∀ (f : JFrame) (acts : List Action), f.method = m → f.locked = none → f.entered = [] → (doReturn e (T.setTop f) acts (some (.int z))).1 = T.setFrames fs) : Steps p.tables e below (T.setTop (mkF m pc Ls (.int z :: rest))) (T.setFrames fs) :=
  retOut X hx hret rfl (Or.inl ⟨rfl, Or.inl rfl, z, rfl⟩) hd hl
theorem Gets.retI {Q : Option Value → Heap → List Loc → Prop} {C S : Nat} (X : Stand p l e R s m args below meth c T locs cells slots) (hx : p.tables.exec = Jvm.exec) {pc : Nat} {Ls : Array Slot} {z : Int32} {rest : List Value} (hret : meth.sig.returnType = some .int) (hd : decode c.code pc = .ok (.ireturn, 1))
    (hQ : Q (some (.int z)) T.heap locs) (h1 : cells ≤ C) (h2 : slots ≤ S) (hlk : meth.locks = false := by assumption) : Gets p e below (Out Q s below C S) (T.setTop (mkF m pc Ls (.int z :: rest))) :=
  Gets.fin X (fun h => by rw [hret] at h; cases h) hlk (fun fs hr => retI0 X hx hret hd hr) hQ h1 h2
theorem Gets.retN {Q : Option Value → Heap → List Loc → Prop} {C S : Nat} (X : Stand p l e R s m args below meth c T locs cells slots) (hx : p.tables.exec = Jvm.exec) {pc : Nat} {Ls : Array Slot} {z : Int32} {t : FieldType} {rest : List Value} (hret : meth.sig.returnType = some t) (ht : t = .boolean ∨ t = .byte ∨ t = .char ∨ t = .short) (hd : decode c.code pc = .ok (.ireturn, 1))
    (hQ : Q (some (.int (nar t z))) T.heap locs) (h1 : cells ≤ C) (h2 : slots ≤ S) (hlk : meth.locks = false := by assumption) : Gets p e below (Out Q s below C S) (T.setTop (mkF m pc Ls (.int z :: rest))) :=
  Gets.fin X (fun h => by rw [hret] at h; cases h) hlk (fun fs hr => Jvm.RoadKit.retN X hx hret ht hd hr) hQ h1 h2
theorem Gets.retJ {Q : Option Value → Heap → List Loc → Prop} {C S : Nat} (X : Stand p l e R s m args below meth c T locs cells slots) (hx : p.tables.exec = Jvm.exec) {pc : Nat} {Ls : Array Slot} {z : Int64} {rest : List Value} (hret : meth.sig.returnType = some .long) (hd : decode c.code pc = .ok (.lreturn, 1))
    (hQ : Q (some (.long z)) T.heap locs) (h1 : cells ≤ C) (h2 : slots ≤ S) (hlk : meth.locks = false := by assumption) : Gets p e below (Out Q s below C S) (T.setTop (mkF m pc Ls (.long z :: rest))) :=
  Gets.fin X (fun h => by rw [hret] at h; cases h) hlk (fun fs hr => retOut X hx hret rfl (Or.inr (Or.inl ⟨rfl, rfl, z, rfl⟩)) hd hr) hQ h1 h2
theorem Gets.retA {Q : Option Value → Heap → List Loc → Prop} {C S : Nat} (X : Stand p l e R s m args below meth c T locs cells slots) (hx : p.tables.exec = Jvm.exec) {pc : Nat} {Ls : Array Slot} {w : Value} {t : FieldType} {rest : List Value} (hret : meth.sig.returnType = some t) (ht : t.isReference = true) (hw : w.isRef = true) (hd : decode c.code pc = .ok (.areturn, 1))
    (hQ : Q (some w) T.heap locs) (h1 : cells ≤ C) (h2 : slots ≤ S) (hlk : meth.locks = false := by assumption) : Gets p e below (Out Q s below C S) (T.setTop (mkF m pc Ls (w :: rest))) :=
  Gets.fin X (fun h => by rw [hret] at h; cases h) hlk (fun fs hr => retOut X hx hret (by cases t <;> first | (cases ht; done) | (cases w <;> first | rfl | (cases hw))) (Or.inr (Or.inr (Or.inr (Or.inr ⟨rfl, ht, hw⟩)))) hd hr) hQ h1 h2
theorem Gets.retV {Q : Option Value → Heap → List Loc → Prop} {C S : Nat} (X : Stand p l e R s m args below meth c T locs cells slots) (hx : p.tables.exec = Jvm.exec) {pc : Nat} {Ls : Array Slot} (hret : meth.sig.returnType = none) (hd : decode c.code pc = .ok (.return_, 1))
    (hQ : Q none T.heap locs) (h1 : cells ≤ C) (h2 : slots ≤ S) (hlk : meth.locks = false := by assumption) : Gets p e below (Out Q s below C S) (T.setTop (mkF m pc Ls [])) :=
  Gets.fin X (fun _ => rfl) hlk (fun fs hr => X.returnOut hx hret hd hr) hQ h1 h2
/-- what is owed at the end of a body that may load String constants -/
def OutW (Q : Option Value → Heap → List Loc → Prop) (s : State) (below : List Frame) (C S : Nat) (t : State) : Prop := ∃ o, t.status = .running ∧ Ended t below o ∧ ∃ v L, o = .returned v ∧ Q v t.heap L ∧ ReturnedEndW s o t L C S
theorem GetsW.out {Q : Option Value → Heap → List Loc → Prop} {C S : Nat} {U : State} (h : Gets p e below (OutW Q s below C S) U) : ∃ s₂ o, Steps p.tables e below U s₂ ∧ s₂.status = .running ∧ Ended s₂ below o ∧ ∃ v L, o = .returned v ∧ Q v s₂.heap L ∧ ReturnedEndW s o s₂ L C S := by
  obtain ⟨t, a, o, b⟩ := h; exact ⟨t, o, a, b⟩
theorem GetsW.fin {Q : Option Value → Heap → List Loc → Prop} {C S : Nat} {U : State} {vm₁ : Vm} (X : Stand p l e R (s.setVm vm₁) m args below meth c T locs cells slots) {n : Nat} (hS : s.Since vm₁ n) (hn : n ≤ T.heap.size) {v : Option Value} (hv : meth.sig.returnType = none → v = none) (hlk : meth.locks = false)
    (k : ∀ fs, (∀ (f : JFrame) (acts : List Action), f.method = m → f.locked = none → f.entered = [] → (doReturn e (T.setTop f) acts v).1 = T.setFrames fs) → Steps p.tables e below U (T.setFrames fs)) (hQ : Q v T.heap locs) (h1 : cells ≤ C) (h2 : slots ≤ S) : Gets p e below (OutW Q s below C S) U := by
  obtain ⟨fs, hr, hrun, hended, w1, w2, w3, w4⟩ := X.leaveW hS hn (v := v) hv hlk
  exact ⟨_, k fs hr, _, hrun, hended, _, _, rfl, hQ, w1, w2, w3, w4.mono h1 h2⟩
theorem GetsW.retN {Q : Option Value → Heap → List Loc → Prop} {C S : Nat} {vm₁ : Vm} (X : Stand p l e R (s.setVm vm₁) m args below meth c T locs cells slots) (hx : p.tables.exec = Jvm.exec) {pc : Nat} {Ls : Array Slot} {z : Int32} {t : FieldType} {rest : List Value} (hret : meth.sig.returnType = some t) (ht : t = .boolean ∨ t = .byte ∨ t = .char ∨ t = .short) (hd : decode c.code pc = .ok (.ireturn, 1)) {n : Nat} (hS : s.Since vm₁ n) (hn : n ≤ T.heap.size)
    (hQ : Q (some (.int (nar t z))) T.heap locs) (h1 : cells ≤ C) (h2 : slots ≤ S) (hlk : meth.locks = false := by assumption) : Gets p e below (OutW Q s below C S) (T.setTop (mkF m pc Ls (.int z :: rest))) :=
  GetsW.fin X hS hn (fun h => by rw [hret] at h; cases h) hlk (fun fs hr => Jvm.RoadKit.retN X hx hret ht hd hr) hQ h1 h2
theorem GetsW.retI {Q : Option Value → Heap → List Loc → Prop} {C S : Nat} {vm₁ : Vm} (X : Stand p l e R (s.setVm vm₁) m args below meth c T locs cells slots) (hx : p.tables.exec = Jvm.exec) {pc : Nat} {Ls : Array Slot} {z : Int32} {rest : List Value} (hret : meth.sig.returnType = some .int) (hd : decode c.code pc = .ok (.ireturn, 1)) {n : Nat} (hS : s.Since vm₁ n) (hn : n ≤ T.heap.size)
    (hQ : Q (some (.int z)) T.heap locs) (h1 : cells ≤ C) (h2 : slots ≤ S) (hlk : meth.locks = false := by assumption) : Gets p e below (OutW Q s below C S) (T.setTop (mkF m pc Ls (.int z :: rest))) :=
  GetsW.fin X hS hn (fun h => by rw [hret] at h; cases h) hlk (fun fs hr => retI0 X hx hret hd hr) hQ h1 h2
theorem GetsW.retA {Q : Option Value → Heap → List Loc → Prop} {C S : Nat} {vm₁ : Vm} (X : Stand p l e R (s.setVm vm₁) m args below meth c T locs cells slots) (hx : p.tables.exec = Jvm.exec) {pc : Nat} {Ls : Array Slot} {w : Value} {t : FieldType} {rest : List Value} (hret : meth.sig.returnType = some t) (ht : t.isReference = true) (hw : w.isRef = true) (hd : decode c.code pc = .ok (.areturn, 1)) {n : Nat} (hS : s.Since vm₁ n) (hn : n ≤ T.heap.size)
    (hQ : Q (some w) T.heap locs) (h1 : cells ≤ C) (h2 : slots ≤ S) (hlk : meth.locks = false := by assumption) : Gets p e below (OutW Q s below C S) (T.setTop (mkF m pc Ls (w :: rest))) :=
  GetsW.fin X hS hn (fun h => by rw [hret] at h; cases h) hlk (fun fs hr => retOut X hx hret (by cases t <;> first | (cases ht; done) | (cases w <;> first | rfl | (cases hw))) (Or.inr (Or.inr (Or.inr (Or.inr ⟨rfl, ht, hw⟩)))) hd hr) hQ h1 h2
theorem GetsW.retV {Q : Option Value → Heap → List Loc → Prop} {C S : Nat} {vm₁ : Vm} (X : Stand p l e R (s.setVm vm₁) m args below meth c T locs cells slots) (hx : p.tables.exec = Jvm.exec) {pc : Nat} {Ls : Array Slot} (hret : meth.sig.returnType = none) (hd : decode c.code pc = .ok (.return_, 1)) {n : Nat} (hS : s.Since vm₁ n) (hn : n ≤ T.heap.size)
    (hQ : Q none T.heap locs) (h1 : cells ≤ C) (h2 : slots ≤ S) (hlk : meth.locks = false := by assumption) : Gets p e below (OutW Q s below C S) (T.setTop (mkF m pc Ls [])) :=
  GetsW.fin X hS hn (fun _ => rfl) hlk (fun fs hr => X.returnOut hx hret hd hr) hQ h1 h2
/-- the payer of a callee that may load String constants, the constants' invariant handed over at its start -/
theorem own_backC {Z : State} {a0 : Array Value} {EL : List (String × Nat)} {h : Heap} {vm0 : Vm} {y : MethodName} {bytes : ByteArray} {maxL : Nat} {ret : Option FieldType} {rm : Room} {len W : Nat} {as' : Array Value} {Q : Option Value → Heap → List Loc → Prop}
    (hM : MetFree l y (head1 [Cond.code y bytes maxL ret] rm) (fun a U => a = as' ∧ Z.Warmed39 U.vm ∧ U.heap = h ∧ CHv Z EL U.vm h) (fun _ _ _ _ _ => True) (fun _ U o U' => ∃ v L, o = .returned v ∧ Q v U'.heap L ∧ ReturnedEndW U o U' L rm.cells rm.slots))
    (hZ : Z.Warmed39 vm0) (wc : (Cond.code y bytes maxL ret).before a0 Z = true) (wz : (Cond.initialized y.cls).before a0 Z = true) (hf : rm.frames + 1 ≤ R.frames) (hl : W + (maxL + 11) + rm.locals ≤ R.locals) (hEL : EW Z a0 EL) (H : CHv Z EL vm0 h) :
    BackS l R p e below (s.setVm vm0) args y len W (fun A a => a = as' ∧ A.U.heap = h ∧ A.cells + rm.cells ≤ R.cells ∧ A.slots + rm.slots ≤ R.slots)
      (fun A _ v B => ∃ L, Q v B.U.heap L ∧ B.locs = A.locs ++ L ∧ B.cells = A.cells + rm.cells ∧ B.slots = A.slots + rm.slots) := by
  refine BackS.of_freeW (bytes := bytes) (maxL := maxL) (ret := ret) (E := fun _ _ o t L k n => k = rm.cells ∧ n = rm.slots ∧ ∃ v, o = .returned v ∧ Q v t.heap L) hM hf hl ?_ ?_ (fun _ _ _ _ _ _ _ _ _ => trivial) ?_ ?_
  · intro m meth c A a Y hp
    have hU : Z.Warmed39 A.U.vm := wtrans (s := s.setVm vm0) hZ Y.warmed
    exact ⟨by show (Cond.and _ .tt).before a A.U = true; rw [Cond.before_and, mv hU wc]; rfl, mv hU wc, mv hU wz, hp.2.2.1, hp.2.2.2⟩
  · intro m meth c A a g mk Y hp
    exact ⟨hp.1, wtrans (s := s.setVm vm0) hZ Y.warmed, hp.2.1, (CHv.at Y hZ hEL H).1⟩
  · rintro _ _ _ _ ⟨v, L, h1, h2, h3⟩
    exact ⟨L, _, _, h3, rfl, rfl, v, h1, h2⟩
  · rintro m meth c A a g mk v t L k n Y hp _ _ ⟨e1, e2, v', e3, e4⟩
    cases e3; subst e1 e2
    exact ⟨L, e4, rfl, rfl, rfl⟩
theorem own_mir {Z : State} {C : String} {mr : Addr} (hZ : Z.Warmed39 s.vm) (M : Mir Z C mr) : (Term.mirror C).eval args s none [] s = some (.ref mr) := by
  obtain ⟨c, k, h1, h2, h3, -⟩ := M
  obtain ⟨k', q, ek⟩ := hZ.alike.2.2 _ _ h2
  have h4 : s.vm.findClass C = some c := by rw [hZ.alike.findClass]; exact h1
  have h5 : k'.mirror = some mr := by rw [ek]; exact h3
  simp [Term.eval, h4, q, h5]
theorem own_narrow_ref {ty : FieldType} {w : Value} (hw : w.isRef = true) : narrow ty w = w := by
  rcases ref_cases hw with rfl | ⟨a, rfl⟩ <;> cases ty <;> rfl
theorem own_fits_obj {C : String} {w : Value} (hw : w.isRef = true) : fits (.object C) w = true := by
  rcases ref_cases hw with rfl | ⟨a, rfl⟩ <;> rfl
theorem own_fits_arr {t : FieldType} {w : Value} (hw : w.isRef = true) : fits (.array t) w = true := by
  rcases ref_cases hw with rfl | ⟨a, rfl⟩ <;> rfl
theorem own_NS_root {Z : State} {a0 : Array Value} {O K : String} {n : Nat} (w : (Cond.noSuperclass O).before a0 Z = true) (wk : (Cond.instantiable K n).before a0 Z = true) (hn : O ≠ K) : NS Z O K := by
  obtain ⟨c, k, h1, h2, h3, -, -⟩ := Cond.noSuperclass_spec w
  obtain ⟨t, kt, g1, -⟩ := Cond.instantiable_spec wk
  have ne := ids_ne h1 g1 hn
  refine ⟨c, t, h1, g1, fun fuel => ?_⟩
  cases fuel with
  | zero => rfl
  | succ f => simp [Vm.isSubclassAux, ne, h2, h3]
theorem own_NS_no {Z : State} {a0 : Array Value} {C S K : String} {n : Nat} (w : (Cond.superclass C S).before a0 Z = true) (wk : (Cond.instantiable K n).before a0 Z = true) (nn : NS Z C K) (hn : C ≠ K) : ∃ c t, Z.vm.findClass C = some c ∧ Z.vm.findClass K = some t ∧ Z.vm.assignable c t = false := by
  obtain ⟨c, t, h0, g0, n3⟩ := nn
  obtain ⟨p, k, kp, h1, h2, h3, h4, h5, -, h7⟩ := Cond.superclass_spec h0 w
  obtain ⟨t', kt, g1, g2, g3, g4, -⟩ := Cond.instantiable_spec wk
  cases g0.symm.trans g1
  have ne := ids_ne h0 g0 hn
  have g5 : kt.isInterface = false := by cases hq : kt.isInterface <;> simp_all
  refine ⟨c, t, h0, g0, ?_⟩
  show Z.vm.assignableAux (255 + 1) c t = false
  simp [Vm.assignableAux, ne, h2, g2, h5, g3, g5, Vm.isSubclass, n3]
end Own
end Jvm.RoadKit
namespace Jvm.Pilot.@@N@@
open Jvm Jvm.ClassFile Sem Op Lib Jvm.Free Jvm.Stand Jvm.LawKit Jvm.RoadKit Bundle Jvm.Pilot.@@N@@.Jvm.D
abbrev cn0 : String := "com/example/hornwort/hornwort/TupleMixPinLaw"

/-! the plain law: unmix undoes mix -/
def own_sh (x n : Int32) : Int32 := ((x.toUInt32 >>> (n &&& 31).toUInt32).toInt32)
def own_x16 (x : Int32) : Int32 := (x ^^^ own_sh x (16 : Int32))
def own_x13 (x : Int32) : Int32 := (x ^^^ own_sh x (13 : Int32))
def own_y13 (x : Int32) : Int32 := (x ^^^ (own_sh x (13 : Int32) ^^^ own_sh x (26 : Int32)))
def own_mix (x : Int32) : Int32 := own_x16 (own_x13 (own_x16 x * (-2048144789 : Int32)) * (-1028477387 : Int32))
def own_unmix (x : Int32) : Int32 := own_x16 (own_y13 (own_x16 x * (2127672349 : Int32)) * (-1513385405 : Int32))
theorem own_b16 (b : BitVec 32) : (b ^^^ (b >>> 16)) ^^^ ((b ^^^ (b >>> 16)) >>> 16) = b := by
  apply BitVec.eq_of_getLsbD_eq
  intro i hi
  have h : b.getLsbD (16 + (16 + i)) = false := BitVec.getLsbD_of_ge _ _ (by omega)
  simp only [BitVec.getLsbD_xor, BitVec.getLsbD_ushiftRight, h]
  cases b.getLsbD i <;> cases b.getLsbD (16 + i) <;> rfl
theorem own_b13 (b : BitVec 32) : (b ^^^ (b >>> 13)) ^^^ (((b ^^^ (b >>> 13)) >>> 13) ^^^ ((b ^^^ (b >>> 13)) >>> 26)) = b := by
  apply BitVec.eq_of_getLsbD_eq
  intro i hi
  have h : b.getLsbD (13 + (26 + i)) = false := BitVec.getLsbD_of_ge _ _ (by omega)
  have h' : b.getLsbD (13 + (13 + i)) = b.getLsbD (26 + i) := by congr 1; omega
  simp only [BitVec.getLsbD_xor, BitVec.getLsbD_ushiftRight, h, h']
  cases b.getLsbD i <;> cases b.getLsbD (13 + i) <;> cases b.getLsbD (26 + i) <;> rfl
theorem own_s16 (x : Int32) : (own_sh x (16 : Int32)).toBitVec = x.toBitVec >>> (16 : Nat) := rfl
theorem own_s13 (x : Int32) : (own_sh x (13 : Int32)).toBitVec = x.toBitVec >>> (13 : Nat) := rfl
theorem own_s26 (x : Int32) : (own_sh x (26 : Int32)).toBitVec = x.toBitVec >>> (26 : Nat) := rfl
theorem own_x16_x16 (x : Int32) : own_x16 (own_x16 x) = x := by
  apply Int32.toBitVec_inj.mp
  simp only [own_x16, Int32.toBitVec_xor, own_s16]
  exact own_b16 _
theorem own_y13_x13 (x : Int32) : own_y13 (own_x13 x) = x := by
  apply Int32.toBitVec_inj.mp
  simp only [own_y13, own_x13, Int32.toBitVec_xor, own_s13, own_s26]
  exact own_b13 _
theorem own_m1 (x : Int32) : x * (-1028477387 : Int32) * (2127672349 : Int32) = x := by
  rw [Int32.mul_assoc, show (-1028477387 : Int32) * (2127672349 : Int32) = 1 from by decide, Int32.mul_one]
theorem own_m2 (x : Int32) : x * (-2048144789 : Int32) * (-1513385405 : Int32) = x := by
  rw [Int32.mul_assoc, show (-2048144789 : Int32) * (-1513385405 : Int32) = 1 from by decide, Int32.mul_one]
theorem own_unmix_mix (x : Int32) : own_unmix (own_mix x) = x := by
  simp only [own_unmix, own_mix, own_x16_x16, own_m1, own_y13_x13, own_m2]
/-! the walk -/
theorem d1_0 : decode prog_66_method_6_code 0 = .ok (.iload_n 0, 1) := by decide +kernel
theorem d1_1 : decode prog_66_method_6_code 1 = .ok (.istore_n 1, 1) := by decide +kernel
theorem d1_2 : decode prog_66_method_6_code 2 = .ok (.iload_n 1, 1) := by decide +kernel
theorem d1_3 : decode prog_66_method_6_code 3 = .ok (.iload_n 1, 1) := by decide +kernel
theorem d1_4 : decode prog_66_method_6_code 4 = .ok (.bipush 16, 2) := by decide +kernel
theorem d1_6 : decode prog_66_method_6_code 6 = .ok (.iushr, 1) := by decide +kernel
theorem d1_7 : decode prog_66_method_6_code 7 = .ok (.ixor, 1) := by decide +kernel
theorem d1_8 : decode prog_66_method_6_code 8 = .ok (.istore_n 1, 1) := by decide +kernel
theorem d1_9 : decode prog_66_method_6_code 9 = .ok (.iload_n 1, 1) := by decide +kernel
theorem d1_10 : decode prog_66_method_6_code 10 = .ok (.ldc 80, 2) := by decide +kernel
theorem w4 {Z : State} {a0 : Array Value} (hw : ∀ d ∈ tables_1, d.before a0 Z = true) : (Jvm.Cond.constant "com/example/hornwort/hornwort/Tuple" (80 : Nat) (-2048144789 : Int32)).before a0 Z = true := hw _ (List.mem_of_getElem? (i := 4) rfl)
theorem d1_12 : decode prog_66_method_6_code 12 = .ok (.imul, 1) := by decide +kernel
theorem d1_13 : decode prog_66_method_6_code 13 = .ok (.istore_n 1, 1) := by decide +kernel
theorem d1_14 : decode prog_66_method_6_code 14 = .ok (.iload_n 1, 1) := by decide +kernel
theorem d1_15 : decode prog_66_method_6_code 15 = .ok (.iload_n 1, 1) := by decide +kernel
theorem d1_16 : decode prog_66_method_6_code 16 = .ok (.bipush 13, 2) := by decide +kernel
theorem d1_18 : decode prog_66_method_6_code 18 = .ok (.iushr, 1) := by decide +kernel
theorem d1_19 : decode prog_66_method_6_code 19 = .ok (.ixor, 1) := by decide +kernel
theorem d1_20 : decode prog_66_method_6_code 20 = .ok (.istore_n 1, 1) := by decide +kernel
theorem d1_21 : decode prog_66_method_6_code 21 = .ok (.iload_n 1, 1) := by decide +kernel
theorem d1_22 : decode prog_66_method_6_code 22 = .ok (.ldc 81, 2) := by decide +kernel
theorem w5 {Z : State} {a0 : Array Value} (hw : ∀ d ∈ tables_1, d.before a0 Z = true) : (Jvm.Cond.constant "com/example/hornwort/hornwort/Tuple" (81 : Nat) (-1028477387 : Int32)).before a0 Z = true := hw _ (List.mem_of_getElem? (i := 5) rfl)
theorem d1_24 : decode prog_66_method_6_code 24 = .ok (.imul, 1) := by decide +kernel
theorem d1_25 : decode prog_66_method_6_code 25 = .ok (.istore_n 1, 1) := by decide +kernel
theorem d1_26 : decode prog_66_method_6_code 26 = .ok (.iload_n 1, 1) := by decide +kernel
theorem d1_27 : decode prog_66_method_6_code 27 = .ok (.iload_n 1, 1) := by decide +kernel
theorem d1_28 : decode prog_66_method_6_code 28 = .ok (.bipush 16, 2) := by decide +kernel
theorem d1_30 : decode prog_66_method_6_code 30 = .ok (.iushr, 1) := by decide +kernel
theorem d1_31 : decode prog_66_method_6_code 31 = .ok (.ixor, 1) := by decide +kernel
theorem d1_32 : decode prog_66_method_6_code 32 = .ok (.istore_n 1, 1) := by decide +kernel
theorem d1_33 : decode prog_66_method_6_code 33 = .ok (.iload_n 1, 1) := by decide +kernel
theorem d1_34 : decode prog_66_method_6_code 34 = .ok (.ireturn, 1) := by decide +kernel
def Q_rm_mix (Z : State) (p1 : Int32) (h0 : Heap) (n0 : Nat) (v : Option Value) (h : Heap) (L : List Loc) : Prop := Fr n0 L ∧ h = h0 ∧ ((v = some (.int (own_mix p1))))
theorem pn_com_example_hornwort_hornwort_Tuple : plainName "com/example/hornwort/hornwort/Tuple" = true := by first | (simp [plainName, overriddenIn]; done) | decide +kernel
set_option maxRecDepth 65536 in
set_option maxHeartbeats 40000000 in
theorem rm_mix (l : Launch) (Z : State) (a0 : Array Value) (hw : ∀ d ∈ tables_1, d.before a0 Z = true) (ws : List Jvm.Cond) (p1 : Int32) (h0 : Heap) (n0 : Nat) (O0 : Old Z n0 h0) :
    MetFree l (⟨"com/example/hornwort/hornwort/Tuple", "mix", "(I)I"⟩ : MethodName) (head1 (Jvm.Cond.code (⟨"com/example/hornwort/hornwort/Tuple", "mix", "(I)I"⟩ : MethodName) prog_66_method_6_code 2 (some .int) :: ws) ({ frames := 0, cells := 0, slots := 0, locals := 0 } : Room)) (fun a U => a = #[(.int p1)] ∧ Z.Warmed39 U.vm ∧ U.heap = h0) (fun _ _ _ _ _ => True) (fun _ U o U' => ∃ v L, o = .returned v ∧ Q_rm_mix Z p1 h0 n0 v U'.heap L ∧ FrameEnd U o U' L ({ frames := 0, cells := 0, slots := 0, locals := 0 } : Room).cells ({ frames := 0, cells := 0, slots := 0, locals := 0 } : Room).slots) := by
  refine MetFree.of_bodySF (plainFor_of_name pn_com_example_hornwort_hornwort_Tuple) hisR ?_
  intro p e s m args below meth c s₁ Bd hml0 hP hK
  obtain ⟨rfl, hZ, hh⟩ := hP
  have hx := Bd.exec
  have hby := Bd.bytes
  have hlk := Bd.notSynchronized
  have hml : c.maxLocals = 2 := hml0
  have hown : s.vm.findClass "com/example/hornwort/hornwort/Tuple" = some m.cls := findClass_of_methodNamed Bd.named
  have hnm := (name_of_methodNamed Bd.named Bd.method).1
  have X0 : Stand p l e ({ frames := 0, cells := 0, slots := 0, locals := 0 } : Room) s m #[(.int p1)] below meth c s₁ [] 0 0 := Stand.of_body Bd
  have e0 : s₁.heap = h0 := by rw [← hh, Bd.state]; rfl
  have N0 := Fr.nil n0
  have K0 := Keep.refl h0 []
  have Z0 : n0 ≤ h0.size := O0.1 ▸ O0.2.1
  have hef : entryFrame m #[(.int p1)] 2 = mkF m 0 #[.val (.int p1), .unset] [] := by first | (simp [entryFrame, mkF, argsToLocals, Value.category]; done) | rfl
  rw [hef]
  refine Gets.out (Q := Q_rm_mix Z p1 h0 n0) ?_
  show Gets p e below _ (s₁.setTop (mkF m 0 #[.val (.int p1), .unset] []))
  refine Gets.of (fun t k => XS.iloadN X0.here hx rfl (hb hby d1_0) rfl  k) ?_
  refine Gets.of (fun t k => XS.istoreN X0.here hx rfl (hb hby d1_1) rfl (l' := #[.val (.int p1), .val (.int p1)]) rfl k) ?_
  show Gets p e below _ (s₁.setTop (mkF m 2 #[.val (.int p1), .val (.int p1)] []))
  refine Gets.of (fun t k => XS.iloadN X0.here hx rfl (hb hby d1_2) rfl  k) ?_
  refine Gets.of (fun t k => XS.iloadN X0.here hx rfl (hb hby d1_3) rfl  k) ?_
  refine Gets.of (fun t k => XS.bipush X0.here hx rfl (hb hby d1_4) k) ?_
  refine Gets.of (fun t k => XS.iushr X0.here hx rfl (hb hby d1_6) rfl k) ?_
  show Gets p e below _ (s₁.setTop (mkF m 7 #[.val (.int p1), .val (.int p1)] [(.int ((p1.toUInt32 >>> ((16 : Int32) &&& 31).toUInt32).toInt32)), (.int p1)]))
  refine Gets.of (fun t k => XS.ixor X0.here hx rfl (hb hby d1_7) rfl k) ?_
  show Gets p e below _ (s₁.setTop (mkF m 8 #[.val (.int p1), .val (.int p1)] [(.int (p1 ^^^ ((p1.toUInt32 >>> ((16 : Int32) &&& 31).toUInt32).toInt32)))]))
  refine Gets.of (fun t k => XS.istoreN X0.here hx rfl (hb hby d1_8) rfl (l' := #[.val (.int p1), .val (.int (p1 ^^^ ((p1.toUInt32 >>> ((16 : Int32) &&& 31).toUInt32).toInt32)))]) rfl k) ?_
  show Gets p e below _ (s₁.setTop (mkF m 9 #[.val (.int p1), .val (.int (p1 ^^^ ((p1.toUInt32 >>> ((16 : Int32) &&& 31).toUInt32).toInt32)))] []))
  refine Gets.of (fun t k => XS.iloadN X0.here hx rfl (hb hby d1_9) rfl  k) ?_
  refine Gets.of (fun t k => X0.ldcInt hx hown (mvT hZ (w4 hw)) (g := (mkF m 10 #[.val (.int p1), .val (.int (p1 ^^^ ((p1.toUInt32 >>> ((16 : Int32) &&& 31).toUInt32).toInt32)))] [(.int (p1 ^^^ ((p1.toUInt32 >>> ((16 : Int32) &&& 31).toUInt32).toInt32)))])) rfl (hb hby d1_10) t k) ?_
  show Gets p e below _ (s₁.setTop (mkF m 12 #[.val (.int p1), .val (.int (p1 ^^^ ((p1.toUInt32 >>> ((16 : Int32) &&& 31).toUInt32).toInt32)))] [(.int (-2048144789 : Int32)), (.int (p1 ^^^ ((p1.toUInt32 >>> ((16 : Int32) &&& 31).toUInt32).toInt32)))]))
  refine Gets.of (fun t k => XS.imul X0.here hx rfl (hb hby d1_12) rfl k) ?_
  show Gets p e below _ (s₁.setTop (mkF m 13 #[.val (.int p1), .val (.int (p1 ^^^ ((p1.toUInt32 >>> ((16 : Int32) &&& 31).toUInt32).toInt32)))] [(.int ((p1 ^^^ ((p1.toUInt32 >>> ((16 : Int32) &&& 31).toUInt32).toInt32)) * (-2048144789 : Int32)))]))
  refine Gets.of (fun t k => XS.istoreN X0.here hx rfl (hb hby d1_13) rfl (l' := #[.val (.int p1), .val (.int ((p1 ^^^ ((p1.toUInt32 >>> ((16 : Int32) &&& 31).toUInt32).toInt32)) * (-2048144789 : Int32)))]) rfl k) ?_
  show Gets p e below _ (s₁.setTop (mkF m 14 #[.val (.int p1), .val (.int ((p1 ^^^ ((p1.toUInt32 >>> ((16 : Int32) &&& 31).toUInt32).toInt32)) * (-2048144789 : Int32)))] []))
  refine Gets.of (fun t k => XS.iloadN X0.here hx rfl (hb hby d1_14) rfl  k) ?_
  refine Gets.of (fun t k => XS.iloadN X0.here hx rfl (hb hby d1_15) rfl  k) ?_
  refine Gets.of (fun t k => XS.bipush X0.here hx rfl (hb hby d1_16) k) ?_
  refine Gets.of (fun t k => XS.iushr X0.here hx rfl (hb hby d1_18) rfl k) ?_
  show Gets p e below _ (s₁.setTop (mkF m 19 #[.val (.int p1), .val (.int ((p1 ^^^ ((p1.toUInt32 >>> ((16 : Int32) &&& 31).toUInt32).toInt32)) * (-2048144789 : Int32)))] [(.int ((((p1 ^^^ ((p1.toUInt32 >>> ((16 : Int32) &&& 31).toUInt32).toInt32)) * (-2048144789 : Int32)).toUInt32 >>> ((13 : Int32) &&& 31).toUInt32).toInt32)), (.int ((p1 ^^^ ((p1.toUInt32 >>> ((16 : Int32) &&& 31).toUInt32).toInt32)) * (-2048144789 : Int32)))]))
  refine Gets.of (fun t k => XS.ixor X0.here hx rfl (hb hby d1_19) rfl k) ?_
  show Gets p e below _ (s₁.setTop (mkF m 20 #[.val (.int p1), .val (.int ((p1 ^^^ ((p1.toUInt32 >>> ((16 : Int32) &&& 31).toUInt32).toInt32)) * (-2048144789 : Int32)))] [(.int (((p1 ^^^ ((p1.toUInt32 >>> ((16 : Int32) &&& 31).toUInt32).toInt32)) * (-2048144789 : Int32)) ^^^ ((((p1 ^^^ ((p1.toUInt32 >>> ((16 : Int32) &&& 31).toUInt32).toInt32)) * (-2048144789 : Int32)).toUInt32 >>> ((13 : Int32) &&& 31).toUInt32).toInt32)))]))
  refine Gets.of (fun t k => XS.istoreN X0.here hx rfl (hb hby d1_20) rfl (l' := #[.val (.int p1), .val (.int (((p1 ^^^ ((p1.toUInt32 >>> ((16 : Int32) &&& 31).toUInt32).toInt32)) * (-2048144789 : Int32)) ^^^ ((((p1 ^^^ ((p1.toUInt32 >>> ((16 : Int32) &&& 31).toUInt32).toInt32)) * (-2048144789 : Int32)).toUInt32 >>> ((13 : Int32) &&& 31).toUInt32).toInt32)))]) rfl k) ?_
  show Gets p e below _ (s₁.setTop (mkF m 21 #[.val (.int p1), .val (.int (((p1 ^^^ ((p1.toUInt32 >>> ((16 : Int32) &&& 31).toUInt32).toInt32)) * (-2048144789 : Int32)) ^^^ ((((p1 ^^^ ((p1.toUInt32 >>> ((16 : Int32) &&& 31).toUInt32).toInt32)) * (-2048144789 : Int32)).toUInt32 >>> ((13 : Int32) &&& 31).toUInt32).toInt32)))] []))
  refine Gets.of (fun t k => XS.iloadN X0.here hx rfl (hb hby d1_21) rfl  k) ?_
  refine Gets.of (fun t k => X0.ldcInt hx hown (mvT hZ (w5 hw)) (g := (mkF m 22 #[.val (.int p1), .val (.int (((p1 ^^^ ((p1.toUInt32 >>> ((16 : Int32) &&& 31).toUInt32).toInt32)) * (-2048144789 : Int32)) ^^^ ((((p1 ^^^ ((p1.toUInt32 >>> ((16 : Int32) &&& 31).toUInt32).toInt32)) * (-2048144789 : Int32)).toUInt32 >>> ((13 : Int32) &&& 31).toUInt32).toInt32)))] [(.int (((p1 ^^^ ((p1.toUInt32 >>> ((16 : Int32) &&& 31).toUInt32).toInt32)) * (-2048144789 : Int32)) ^^^ ((((p1 ^^^ ((p1.toUInt32 >>> ((16 : Int32) &&& 31).toUInt32).toInt32)) * (-2048144789 : Int32)).toUInt32 >>> ((13 : Int32) &&& 31).toUInt32).toInt32)))])) rfl (hb hby d1_22) t k) ?_
  show Gets p e below _ (s₁.setTop (mkF m 24 #[.val (.int p1), .val (.int (((p1 ^^^ ((p1.toUInt32 >>> ((16 : Int32) &&& 31).toUInt32).toInt32)) * (-2048144789 : Int32)) ^^^ ((((p1 ^^^ ((p1.toUInt32 >>> ((16 : Int32) &&& 31).toUInt32).toInt32)) * (-2048144789 : Int32)).toUInt32 >>> ((13 : Int32) &&& 31).toUInt32).toInt32)))] [(.int (-1028477387 : Int32)), (.int (((p1 ^^^ ((p1.toUInt32 >>> ((16 : Int32) &&& 31).toUInt32).toInt32)) * (-2048144789 : Int32)) ^^^ ((((p1 ^^^ ((p1.toUInt32 >>> ((16 : Int32) &&& 31).toUInt32).toInt32)) * (-2048144789 : Int32)).toUInt32 >>> ((13 : Int32) &&& 31).toUInt32).toInt32)))]))
  refine Gets.of (fun t k => XS.imul X0.here hx rfl (hb hby d1_24) rfl k) ?_
  show Gets p e below _ (s₁.setTop (mkF m 25 #[.val (.int p1), .val (.int (((p1 ^^^ ((p1.toUInt32 >>> ((16 : Int32) &&& 31).toUInt32).toInt32)) * (-2048144789 : Int32)) ^^^ ((((p1 ^^^ ((p1.toUInt32 >>> ((16 : Int32) &&& 31).toUInt32).toInt32)) * (-2048144789 : Int32)).toUInt32 >>> ((13 : Int32) &&& 31).toUInt32).toInt32)))] [(.int ((((p1 ^^^ ((p1.toUInt32 >>> ((16 : Int32) &&& 31).toUInt32).toInt32)) * (-2048144789 : Int32)) ^^^ ((((p1 ^^^ ((p1.toUInt32 >>> ((16 : Int32) &&& 31).toUInt32).toInt32)) * (-2048144789 : Int32)).toUInt32 >>> ((13 : Int32) &&& 31).toUInt32).toInt32)) * (-1028477387 : Int32)))]))
  refine Gets.of (fun t k => XS.istoreN X0.here hx rfl (hb hby d1_25) rfl (l' := #[.val (.int p1), .val (.int ((((p1 ^^^ ((p1.toUInt32 >>> ((16 : Int32) &&& 31).toUInt32).toInt32)) * (-2048144789 : Int32)) ^^^ ((((p1 ^^^ ((p1.toUInt32 >>> ((16 : Int32) &&& 31).toUInt32).toInt32)) * (-2048144789 : Int32)).toUInt32 >>> ((13 : Int32) &&& 31).toUInt32).toInt32)) * (-1028477387 : Int32)))]) rfl k) ?_
  show Gets p e below _ (s₁.setTop (mkF m 26 #[.val (.int p1), .val (.int ((((p1 ^^^ ((p1.toUInt32 >>> ((16 : Int32) &&& 31).toUInt32).toInt32)) * (-2048144789 : Int32)) ^^^ ((((p1 ^^^ ((p1.toUInt32 >>> ((16 : Int32) &&& 31).toUInt32).toInt32)) * (-2048144789 : Int32)).toUInt32 >>> ((13 : Int32) &&& 31).toUInt32).toInt32)) * (-1028477387 : Int32)))] []))
  refine Gets.of (fun t k => XS.iloadN X0.here hx rfl (hb hby d1_26) rfl  k) ?_
  refine Gets.of (fun t k => XS.iloadN X0.here hx rfl (hb hby d1_27) rfl  k) ?_
  refine Gets.of (fun t k => XS.bipush X0.here hx rfl (hb hby d1_28) k) ?_
  refine Gets.of (fun t k => XS.iushr X0.here hx rfl (hb hby d1_30) rfl k) ?_
  show Gets p e below _ (s₁.setTop (mkF m 31 #[.val (.int p1), .val (.int ((((p1 ^^^ ((p1.toUInt32 >>> ((16 : Int32) &&& 31).toUInt32).toInt32)) * (-2048144789 : Int32)) ^^^ ((((p1 ^^^ ((p1.toUInt32 >>> ((16 : Int32) &&& 31).toUInt32).toInt32)) * (-2048144789 : Int32)).toUInt32 >>> ((13 : Int32) &&& 31).toUInt32).toInt32)) * (-1028477387 : Int32)))] [(.int ((((((p1 ^^^ ((p1.toUInt32 >>> ((16 : Int32) &&& 31).toUInt32).toInt32)) * (-2048144789 : Int32)) ^^^ ((((p1 ^^^ ((p1.toUInt32 >>> ((16 : Int32) &&& 31).toUInt32).toInt32)) * (-2048144789 : Int32)).toUInt32 >>> ((13 : Int32) &&& 31).toUInt32).toInt32)) * (-1028477387 : Int32)).toUInt32 >>> ((16 : Int32) &&& 31).toUInt32).toInt32)), (.int ((((p1 ^^^ ((p1.toUInt32 >>> ((16 : Int32) &&& 31).toUInt32).toInt32)) * (-2048144789 : Int32)) ^^^ ((((p1 ^^^ ((p1.toUInt32 >>> ((16 : Int32) &&& 31).toUInt32).toInt32)) * (-2048144789 : Int32)).toUInt32 >>> ((13 : Int32) &&& 31).toUInt32).toInt32)) * (-1028477387 : Int32)))]))
  refine Gets.of (fun t k => XS.ixor X0.here hx rfl (hb hby d1_31) rfl k) ?_
  show Gets p e below _ (s₁.setTop (mkF m 32 #[.val (.int p1), .val (.int ((((p1 ^^^ ((p1.toUInt32 >>> ((16 : Int32) &&& 31).toUInt32).toInt32)) * (-2048144789 : Int32)) ^^^ ((((p1 ^^^ ((p1.toUInt32 >>> ((16 : Int32) &&& 31).toUInt32).toInt32)) * (-2048144789 : Int32)).toUInt32 >>> ((13 : Int32) &&& 31).toUInt32).toInt32)) * (-1028477387 : Int32)))] [(.int (((((p1 ^^^ ((p1.toUInt32 >>> ((16 : Int32) &&& 31).toUInt32).toInt32)) * (-2048144789 : Int32)) ^^^ ((((p1 ^^^ ((p1.toUInt32 >>> ((16 : Int32) &&& 31).toUInt32).toInt32)) * (-2048144789 : Int32)).toUInt32 >>> ((13 : Int32) &&& 31).toUInt32).toInt32)) * (-1028477387 : Int32)) ^^^ ((((((p1 ^^^ ((p1.toUInt32 >>> ((16 : Int32) &&& 31).toUInt32).toInt32)) * (-2048144789 : Int32)) ^^^ ((((p1 ^^^ ((p1.toUInt32 >>> ((16 : Int32) &&& 31).toUInt32).toInt32)) * (-2048144789 : Int32)).toUInt32 >>> ((13 : Int32) &&& 31).toUInt32).toInt32)) * (-1028477387 : Int32)).toUInt32 >>> ((16 : Int32) &&& 31).toUInt32).toInt32)))]))
  refine Gets.of (fun t k => XS.istoreN X0.here hx rfl (hb hby d1_32) rfl (l' := #[.val (.int p1), .val (.int (((((p1 ^^^ ((p1.toUInt32 >>> ((16 : Int32) &&& 31).toUInt32).toInt32)) * (-2048144789 : Int32)) ^^^ ((((p1 ^^^ ((p1.toUInt32 >>> ((16 : Int32) &&& 31).toUInt32).toInt32)) * (-2048144789 : Int32)).toUInt32 >>> ((13 : Int32) &&& 31).toUInt32).toInt32)) * (-1028477387 : Int32)) ^^^ ((((((p1 ^^^ ((p1.toUInt32 >>> ((16 : Int32) &&& 31).toUInt32).toInt32)) * (-2048144789 : Int32)) ^^^ ((((p1 ^^^ ((p1.toUInt32 >>> ((16 : Int32) &&& 31).toUInt32).toInt32)) * (-2048144789 : Int32)).toUInt32 >>> ((13 : Int32) &&& 31).toUInt32).toInt32)) * (-1028477387 : Int32)).toUInt32 >>> ((16 : Int32) &&& 31).toUInt32).toInt32)))]) rfl k) ?_
  show Gets p e below _ (s₁.setTop (mkF m 33 #[.val (.int p1), .val (.int (((((p1 ^^^ ((p1.toUInt32 >>> ((16 : Int32) &&& 31).toUInt32).toInt32)) * (-2048144789 : Int32)) ^^^ ((((p1 ^^^ ((p1.toUInt32 >>> ((16 : Int32) &&& 31).toUInt32).toInt32)) * (-2048144789 : Int32)).toUInt32 >>> ((13 : Int32) &&& 31).toUInt32).toInt32)) * (-1028477387 : Int32)) ^^^ ((((((p1 ^^^ ((p1.toUInt32 >>> ((16 : Int32) &&& 31).toUInt32).toInt32)) * (-2048144789 : Int32)) ^^^ ((((p1 ^^^ ((p1.toUInt32 >>> ((16 : Int32) &&& 31).toUInt32).toInt32)) * (-2048144789 : Int32)).toUInt32 >>> ((13 : Int32) &&& 31).toUInt32).toInt32)) * (-1028477387 : Int32)).toUInt32 >>> ((16 : Int32) &&& 31).toUInt32).toInt32)))] []))
  refine Gets.of (fun t k => XS.iloadN X0.here hx rfl (hb hby d1_33) rfl  k) ?_
  refine Gets.retI X0 hx Bd.returns (hb hby d1_34) ?_ (by decide) (by decide)
  rw [e0]
  exact ⟨N0, rfl, rfl⟩
theorem d2_0 : decode method_2_code 0 = .ok (.iload_n 0, 1) := by decide +kernel
theorem d2_1 : decode method_2_code 1 = .ok (.istore_n 1, 1) := by decide +kernel
theorem d2_2 : decode method_2_code 2 = .ok (.iload_n 1, 1) := by decide +kernel
theorem d2_3 : decode method_2_code 3 = .ok (.iload_n 1, 1) := by decide +kernel
theorem d2_4 : decode method_2_code 4 = .ok (.bipush 16, 2) := by decide +kernel
theorem d2_6 : decode method_2_code 6 = .ok (.iushr, 1) := by decide +kernel
theorem d2_7 : decode method_2_code 7 = .ok (.ixor, 1) := by decide +kernel
theorem d2_8 : decode method_2_code 8 = .ok (.istore_n 1, 1) := by decide +kernel
theorem d2_9 : decode method_2_code 9 = .ok (.iload_n 1, 1) := by decide +kernel
theorem d2_10 : decode method_2_code 10 = .ok (.ldc 7, 2) := by decide +kernel
theorem w10 {Z : State} {a0 : Array Value} (hw : ∀ d ∈ tables_1, d.before a0 Z = true) : (Jvm.Cond.constant cn0 (7 : Nat) (2127672349 : Int32)).before a0 Z = true := hw _ (List.mem_of_getElem? (i := 10) rfl)
theorem d2_12 : decode method_2_code 12 = .ok (.imul, 1) := by decide +kernel
theorem d2_13 : decode method_2_code 13 = .ok (.istore_n 1, 1) := by decide +kernel
theorem d2_14 : decode method_2_code 14 = .ok (.iload_n 1, 1) := by decide +kernel
theorem d2_15 : decode method_2_code 15 = .ok (.iload_n 1, 1) := by decide +kernel
theorem d2_16 : decode method_2_code 16 = .ok (.bipush 13, 2) := by decide +kernel
theorem d2_18 : decode method_2_code 18 = .ok (.iushr, 1) := by decide +kernel
theorem d2_19 : decode method_2_code 19 = .ok (.iload_n 1, 1) := by decide +kernel
theorem d2_20 : decode method_2_code 20 = .ok (.bipush 26, 2) := by decide +kernel
theorem d2_22 : decode method_2_code 22 = .ok (.iushr, 1) := by decide +kernel
theorem d2_23 : decode method_2_code 23 = .ok (.ixor, 1) := by decide +kernel
theorem d2_24 : decode method_2_code 24 = .ok (.ixor, 1) := by decide +kernel
theorem d2_25 : decode method_2_code 25 = .ok (.istore_n 1, 1) := by decide +kernel
theorem d2_26 : decode method_2_code 26 = .ok (.iload_n 1, 1) := by decide +kernel
theorem d2_27 : decode method_2_code 27 = .ok (.ldc 8, 2) := by decide +kernel
theorem w11 {Z : State} {a0 : Array Value} (hw : ∀ d ∈ tables_1, d.before a0 Z = true) : (Jvm.Cond.constant cn0 (8 : Nat) (-1513385405 : Int32)).before a0 Z = true := hw _ (List.mem_of_getElem? (i := 11) rfl)
theorem d2_29 : decode method_2_code 29 = .ok (.imul, 1) := by decide +kernel
theorem d2_30 : decode method_2_code 30 = .ok (.istore_n 1, 1) := by decide +kernel
theorem d2_31 : decode method_2_code 31 = .ok (.iload_n 1, 1) := by decide +kernel
theorem d2_32 : decode method_2_code 32 = .ok (.iload_n 1, 1) := by decide +kernel
theorem d2_33 : decode method_2_code 33 = .ok (.bipush 16, 2) := by decide +kernel
theorem d2_35 : decode method_2_code 35 = .ok (.iushr, 1) := by decide +kernel
theorem d2_36 : decode method_2_code 36 = .ok (.ixor, 1) := by decide +kernel
theorem d2_37 : decode method_2_code 37 = .ok (.istore_n 1, 1) := by decide +kernel
theorem d2_38 : decode method_2_code 38 = .ok (.iload_n 1, 1) := by decide +kernel
theorem d2_39 : decode method_2_code 39 = .ok (.ireturn, 1) := by decide +kernel
def Q_rm_unmix (Z : State) (p1 : Int32) (h0 : Heap) (n0 : Nat) (v : Option Value) (h : Heap) (L : List Loc) : Prop := Fr n0 L ∧ h = h0 ∧ ((v = some (.int (own_unmix p1))))
theorem pn_com_example_hornwort_hornwort_TupleMixPinLaw : plainName "com/example/hornwort/hornwort/TupleMixPinLaw" = true := by first | (simp [plainName, overriddenIn]; done) | decide +kernel
set_option maxRecDepth 65536 in
set_option maxHeartbeats 40000000 in
theorem rm_unmix (l : Launch) (Z : State) (a0 : Array Value) (hw : ∀ d ∈ tables_1, d.before a0 Z = true) (ws : List Jvm.Cond) (p1 : Int32) (h0 : Heap) (n0 : Nat) (O0 : Old Z n0 h0) :
    MetFree l (⟨cn0, "unmix", "(I)I"⟩ : MethodName) (head1 (Jvm.Cond.code (⟨"com/example/hornwort/hornwort/TupleMixPinLaw", "unmix", "(I)I"⟩ : MethodName) method_2_code 2 (some .int) :: ws) ({ frames := 0, cells := 0, slots := 0, locals := 0 } : Room)) (fun a U => a = #[(.int p1)] ∧ Z.Warmed39 U.vm ∧ U.heap = h0) (fun _ _ _ _ _ => True) (fun _ U o U' => ∃ v L, o = .returned v ∧ Q_rm_unmix Z p1 h0 n0 v U'.heap L ∧ FrameEnd U o U' L ({ frames := 0, cells := 0, slots := 0, locals := 0 } : Room).cells ({ frames := 0, cells := 0, slots := 0, locals := 0 } : Room).slots) := by
  refine MetFree.of_bodySF (plainFor_of_name pn_com_example_hornwort_hornwort_TupleMixPinLaw) hisR ?_
  intro p e s m args below meth c s₁ Bd hml0 hP hK
  obtain ⟨rfl, hZ, hh⟩ := hP
  have hx := Bd.exec
  have hby := Bd.bytes
  have hlk := Bd.notSynchronized
  have hml : c.maxLocals = 2 := hml0
  have hown : s.vm.findClass cn0 = some m.cls := findClass_of_methodNamed Bd.named
  have hnm := (name_of_methodNamed Bd.named Bd.method).1
  have X0 : Stand p l e ({ frames := 0, cells := 0, slots := 0, locals := 0 } : Room) s m #[(.int p1)] below meth c s₁ [] 0 0 := Stand.of_body Bd
  have e0 : s₁.heap = h0 := by rw [← hh, Bd.state]; rfl
  have N0 := Fr.nil n0
  have K0 := Keep.refl h0 []
  have Z0 : n0 ≤ h0.size := O0.1 ▸ O0.2.1
  have hef : entryFrame m #[(.int p1)] 2 = mkF m 0 #[.val (.int p1), .unset] [] := by first | (simp [entryFrame, mkF, argsToLocals, Value.category]; done) | rfl
  rw [hef]
  refine Gets.out (Q := Q_rm_unmix Z p1 h0 n0) ?_
  show Gets p e below _ (s₁.setTop (mkF m 0 #[.val (.int p1), .unset] []))
  refine Gets.of (fun t k => XS.iloadN X0.here hx rfl (hb hby d2_0) rfl  k) ?_
  refine Gets.of (fun t k => XS.istoreN X0.here hx rfl (hb hby d2_1) rfl (l' := #[.val (.int p1), .val (.int p1)]) rfl k) ?_
  show Gets p e below _ (s₁.setTop (mkF m 2 #[.val (.int p1), .val (.int p1)] []))
  refine Gets.of (fun t k => XS.iloadN X0.here hx rfl (hb hby d2_2) rfl  k) ?_
  refine Gets.of (fun t k => XS.iloadN X0.here hx rfl (hb hby d2_3) rfl  k) ?_
  refine Gets.of (fun t k => XS.bipush X0.here hx rfl (hb hby d2_4) k) ?_
  refine Gets.of (fun t k => XS.iushr X0.here hx rfl (hb hby d2_6) rfl k) ?_
  show Gets p e below _ (s₁.setTop (mkF m 7 #[.val (.int p1), .val (.int p1)] [(.int ((p1.toUInt32 >>> ((16 : Int32) &&& 31).toUInt32).toInt32)), (.int p1)]))
  refine Gets.of (fun t k => XS.ixor X0.here hx rfl (hb hby d2_7) rfl k) ?_
  show Gets p e below _ (s₁.setTop (mkF m 8 #[.val (.int p1), .val (.int p1)] [(.int (p1 ^^^ ((p1.toUInt32 >>> ((16 : Int32) &&& 31).toUInt32).toInt32)))]))
  refine Gets.of (fun t k => XS.istoreN X0.here hx rfl (hb hby d2_8) rfl (l' := #[.val (.int p1), .val (.int (p1 ^^^ ((p1.toUInt32 >>> ((16 : Int32) &&& 31).toUInt32).toInt32)))]) rfl k) ?_
  show Gets p e below _ (s₁.setTop (mkF m 9 #[.val (.int p1), .val (.int (p1 ^^^ ((p1.toUInt32 >>> ((16 : Int32) &&& 31).toUInt32).toInt32)))] []))
  refine Gets.of (fun t k => XS.iloadN X0.here hx rfl (hb hby d2_9) rfl  k) ?_
  refine Gets.of (fun t k => X0.ldcInt hx hown (mvT hZ (w10 hw)) (g := (mkF m 10 #[.val (.int p1), .val (.int (p1 ^^^ ((p1.toUInt32 >>> ((16 : Int32) &&& 31).toUInt32).toInt32)))] [(.int (p1 ^^^ ((p1.toUInt32 >>> ((16 : Int32) &&& 31).toUInt32).toInt32)))])) rfl (hb hby d2_10) t k) ?_
  show Gets p e below _ (s₁.setTop (mkF m 12 #[.val (.int p1), .val (.int (p1 ^^^ ((p1.toUInt32 >>> ((16 : Int32) &&& 31).toUInt32).toInt32)))] [(.int (2127672349 : Int32)), (.int (p1 ^^^ ((p1.toUInt32 >>> ((16 : Int32) &&& 31).toUInt32).toInt32)))]))
  refine Gets.of (fun t k => XS.imul X0.here hx rfl (hb hby d2_12) rfl k) ?_
  show Gets p e below _ (s₁.setTop (mkF m 13 #[.val (.int p1), .val (.int (p1 ^^^ ((p1.toUInt32 >>> ((16 : Int32) &&& 31).toUInt32).toInt32)))] [(.int ((p1 ^^^ ((p1.toUInt32 >>> ((16 : Int32) &&& 31).toUInt32).toInt32)) * (2127672349 : Int32)))]))
  refine Gets.of (fun t k => XS.istoreN X0.here hx rfl (hb hby d2_13) rfl (l' := #[.val (.int p1), .val (.int ((p1 ^^^ ((p1.toUInt32 >>> ((16 : Int32) &&& 31).toUInt32).toInt32)) * (2127672349 : Int32)))]) rfl k) ?_
  show Gets p e below _ (s₁.setTop (mkF m 14 #[.val (.int p1), .val (.int ((p1 ^^^ ((p1.toUInt32 >>> ((16 : Int32) &&& 31).toUInt32).toInt32)) * (2127672349 : Int32)))] []))
  refine Gets.of (fun t k => XS.iloadN X0.here hx rfl (hb hby d2_14) rfl  k) ?_
  refine Gets.of (fun t k => XS.iloadN X0.here hx rfl (hb hby d2_15) rfl  k) ?_
  refine Gets.of (fun t k => XS.bipush X0.here hx rfl (hb hby d2_16) k) ?_
  refine Gets.of (fun t k => XS.iushr X0.here hx rfl (hb hby d2_18) rfl k) ?_
  show Gets p e below _ (s₁.setTop (mkF m 19 #[.val (.int p1), .val (.int ((p1 ^^^ ((p1.toUInt32 >>> ((16 : Int32) &&& 31).toUInt32).toInt32)) * (2127672349 : Int32)))] [(.int ((((p1 ^^^ ((p1.toUInt32 >>> ((16 : Int32) &&& 31).toUInt32).toInt32)) * (2127672349 : Int32)).toUInt32 >>> ((13 : Int32) &&& 31).toUInt32).toInt32)), (.int ((p1 ^^^ ((p1.toUInt32 >>> ((16 : Int32) &&& 31).toUInt32).toInt32)) * (2127672349 : Int32)))]))
  refine Gets.of (fun t k => XS.iloadN X0.here hx rfl (hb hby d2_19) rfl  k) ?_
  refine Gets.of (fun t k => XS.bipush X0.here hx rfl (hb hby d2_20) k) ?_
  refine Gets.of (fun t k => XS.iushr X0.here hx rfl (hb hby d2_22) rfl k) ?_
  show Gets p e below _ (s₁.setTop (mkF m 23 #[.val (.int p1), .val (.int ((p1 ^^^ ((p1.toUInt32 >>> ((16 : Int32) &&& 31).toUInt32).toInt32)) * (2127672349 : Int32)))] [(.int ((((p1 ^^^ ((p1.toUInt32 >>> ((16 : Int32) &&& 31).toUInt32).toInt32)) * (2127672349 : Int32)).toUInt32 >>> ((26 : Int32) &&& 31).toUInt32).toInt32)), (.int ((((p1 ^^^ ((p1.toUInt32 >>> ((16 : Int32) &&& 31).toUInt32).toInt32)) * (2127672349 : Int32)).toUInt32 >>> ((13 : Int32) &&& 31).toUInt32).toInt32)), (.int ((p1 ^^^ ((p1.toUInt32 >>> ((16 : Int32) &&& 31).toUInt32).toInt32)) * (2127672349 : Int32)))]))
  refine Gets.of (fun t k => XS.ixor X0.here hx rfl (hb hby d2_23) rfl k) ?_
  show Gets p e below _ (s₁.setTop (mkF m 24 #[.val (.int p1), .val (.int ((p1 ^^^ ((p1.toUInt32 >>> ((16 : Int32) &&& 31).toUInt32).toInt32)) * (2127672349 : Int32)))] [(.int (((((p1 ^^^ ((p1.toUInt32 >>> ((16 : Int32) &&& 31).toUInt32).toInt32)) * (2127672349 : Int32)).toUInt32 >>> ((13 : Int32) &&& 31).toUInt32).toInt32) ^^^ ((((p1 ^^^ ((p1.toUInt32 >>> ((16 : Int32) &&& 31).toUInt32).toInt32)) * (2127672349 : Int32)).toUInt32 >>> ((26 : Int32) &&& 31).toUInt32).toInt32))), (.int ((p1 ^^^ ((p1.toUInt32 >>> ((16 : Int32) &&& 31).toUInt32).toInt32)) * (2127672349 : Int32)))]))
  refine Gets.of (fun t k => XS.ixor X0.here hx rfl (hb hby d2_24) rfl k) ?_
  show Gets p e below _ (s₁.setTop (mkF m 25 #[.val (.int p1), .val (.int ((p1 ^^^ ((p1.toUInt32 >>> ((16 : Int32) &&& 31).toUInt32).toInt32)) * (2127672349 : Int32)))] [(.int (((p1 ^^^ ((p1.toUInt32 >>> ((16 : Int32) &&& 31).toUInt32).toInt32)) * (2127672349 : Int32)) ^^^ (((((p1 ^^^ ((p1.toUInt32 >>> ((16 : Int32) &&& 31).toUInt32).toInt32)) * (2127672349 : Int32)).toUInt32 >>> ((13 : Int32) &&& 31).toUInt32).toInt32) ^^^ ((((p1 ^^^ ((p1.toUInt32 >>> ((16 : Int32) &&& 31).toUInt32).toInt32)) * (2127672349 : Int32)).toUInt32 >>> ((26 : Int32) &&& 31).toUInt32).toInt32))))]))
  refine Gets.of (fun t k => XS.istoreN X0.here hx rfl (hb hby d2_25) rfl (l' := #[.val (.int p1), .val (.int (((p1 ^^^ ((p1.toUInt32 >>> ((16 : Int32) &&& 31).toUInt32).toInt32)) * (2127672349 : Int32)) ^^^ (((((p1 ^^^ ((p1.toUInt32 >>> ((16 : Int32) &&& 31).toUInt32).toInt32)) * (2127672349 : Int32)).toUInt32 >>> ((13 : Int32) &&& 31).toUInt32).toInt32) ^^^ ((((p1 ^^^ ((p1.toUInt32 >>> ((16 : Int32) &&& 31).toUInt32).toInt32)) * (2127672349 : Int32)).toUInt32 >>> ((26 : Int32) &&& 31).toUInt32).toInt32))))]) rfl k) ?_
  show Gets p e below _ (s₁.setTop (mkF m 26 #[.val (.int p1), .val (.int (((p1 ^^^ ((p1.toUInt32 >>> ((16 : Int32) &&& 31).toUInt32).toInt32)) * (2127672349 : Int32)) ^^^ (((((p1 ^^^ ((p1.toUInt32 >>> ((16 : Int32) &&& 31).toUInt32).toInt32)) * (2127672349 : Int32)).toUInt32 >>> ((13 : Int32) &&& 31).toUInt32).toInt32) ^^^ ((((p1 ^^^ ((p1.toUInt32 >>> ((16 : Int32) &&& 31).toUInt32).toInt32)) * (2127672349 : Int32)).toUInt32 >>> ((26 : Int32) &&& 31).toUInt32).toInt32))))] []))
  refine Gets.of (fun t k => XS.iloadN X0.here hx rfl (hb hby d2_26) rfl  k) ?_
  refine Gets.of (fun t k => X0.ldcInt hx hown (mvT hZ (w11 hw)) (g := (mkF m 27 #[.val (.int p1), .val (.int (((p1 ^^^ ((p1.toUInt32 >>> ((16 : Int32) &&& 31).toUInt32).toInt32)) * (2127672349 : Int32)) ^^^ (((((p1 ^^^ ((p1.toUInt32 >>> ((16 : Int32) &&& 31).toUInt32).toInt32)) * (2127672349 : Int32)).toUInt32 >>> ((13 : Int32) &&& 31).toUInt32).toInt32) ^^^ ((((p1 ^^^ ((p1.toUInt32 >>> ((16 : Int32) &&& 31).toUInt32).toInt32)) * (2127672349 : Int32)).toUInt32 >>> ((26 : Int32) &&& 31).toUInt32).toInt32))))] [(.int (((p1 ^^^ ((p1.toUInt32 >>> ((16 : Int32) &&& 31).toUInt32).toInt32)) * (2127672349 : Int32)) ^^^ (((((p1 ^^^ ((p1.toUInt32 >>> ((16 : Int32) &&& 31).toUInt32).toInt32)) * (2127672349 : Int32)).toUInt32 >>> ((13 : Int32) &&& 31).toUInt32).toInt32) ^^^ ((((p1 ^^^ ((p1.toUInt32 >>> ((16 : Int32) &&& 31).toUInt32).toInt32)) * (2127672349 : Int32)).toUInt32 >>> ((26 : Int32) &&& 31).toUInt32).toInt32))))])) rfl (hb hby d2_27) t k) ?_
  show Gets p e below _ (s₁.setTop (mkF m 29 #[.val (.int p1), .val (.int (((p1 ^^^ ((p1.toUInt32 >>> ((16 : Int32) &&& 31).toUInt32).toInt32)) * (2127672349 : Int32)) ^^^ (((((p1 ^^^ ((p1.toUInt32 >>> ((16 : Int32) &&& 31).toUInt32).toInt32)) * (2127672349 : Int32)).toUInt32 >>> ((13 : Int32) &&& 31).toUInt32).toInt32) ^^^ ((((p1 ^^^ ((p1.toUInt32 >>> ((16 : Int32) &&& 31).toUInt32).toInt32)) * (2127672349 : Int32)).toUInt32 >>> ((26 : Int32) &&& 31).toUInt32).toInt32))))] [(.int (-1513385405 : Int32)), (.int (((p1 ^^^ ((p1.toUInt32 >>> ((16 : Int32) &&& 31).toUInt32).toInt32)) * (2127672349 : Int32)) ^^^ (((((p1 ^^^ ((p1.toUInt32 >>> ((16 : Int32) &&& 31).toUInt32).toInt32)) * (2127672349 : Int32)).toUInt32 >>> ((13 : Int32) &&& 31).toUInt32).toInt32) ^^^ ((((p1 ^^^ ((p1.toUInt32 >>> ((16 : Int32) &&& 31).toUInt32).toInt32)) * (2127672349 : Int32)).toUInt32 >>> ((26 : Int32) &&& 31).toUInt32).toInt32))))]))
  refine Gets.of (fun t k => XS.imul X0.here hx rfl (hb hby d2_29) rfl k) ?_
  show Gets p e below _ (s₁.setTop (mkF m 30 #[.val (.int p1), .val (.int (((p1 ^^^ ((p1.toUInt32 >>> ((16 : Int32) &&& 31).toUInt32).toInt32)) * (2127672349 : Int32)) ^^^ (((((p1 ^^^ ((p1.toUInt32 >>> ((16 : Int32) &&& 31).toUInt32).toInt32)) * (2127672349 : Int32)).toUInt32 >>> ((13 : Int32) &&& 31).toUInt32).toInt32) ^^^ ((((p1 ^^^ ((p1.toUInt32 >>> ((16 : Int32) &&& 31).toUInt32).toInt32)) * (2127672349 : Int32)).toUInt32 >>> ((26 : Int32) &&& 31).toUInt32).toInt32))))] [(.int ((((p1 ^^^ ((p1.toUInt32 >>> ((16 : Int32) &&& 31).toUInt32).toInt32)) * (2127672349 : Int32)) ^^^ (((((p1 ^^^ ((p1.toUInt32 >>> ((16 : Int32) &&& 31).toUInt32).toInt32)) * (2127672349 : Int32)).toUInt32 >>> ((13 : Int32) &&& 31).toUInt32).toInt32) ^^^ ((((p1 ^^^ ((p1.toUInt32 >>> ((16 : Int32) &&& 31).toUInt32).toInt32)) * (2127672349 : Int32)).toUInt32 >>> ((26 : Int32) &&& 31).toUInt32).toInt32))) * (-1513385405 : Int32)))]))
  refine Gets.of (fun t k => XS.istoreN X0.here hx rfl (hb hby d2_30) rfl (l' := #[.val (.int p1), .val (.int ((((p1 ^^^ ((p1.toUInt32 >>> ((16 : Int32) &&& 31).toUInt32).toInt32)) * (2127672349 : Int32)) ^^^ (((((p1 ^^^ ((p1.toUInt32 >>> ((16 : Int32) &&& 31).toUInt32).toInt32)) * (2127672349 : Int32)).toUInt32 >>> ((13 : Int32) &&& 31).toUInt32).toInt32) ^^^ ((((p1 ^^^ ((p1.toUInt32 >>> ((16 : Int32) &&& 31).toUInt32).toInt32)) * (2127672349 : Int32)).toUInt32 >>> ((26 : Int32) &&& 31).toUInt32).toInt32))) * (-1513385405 : Int32)))]) rfl k) ?_
  show Gets p e below _ (s₁.setTop (mkF m 31 #[.val (.int p1), .val (.int ((((p1 ^^^ ((p1.toUInt32 >>> ((16 : Int32) &&& 31).toUInt32).toInt32)) * (2127672349 : Int32)) ^^^ (((((p1 ^^^ ((p1.toUInt32 >>> ((16 : Int32) &&& 31).toUInt32).toInt32)) * (2127672349 : Int32)).toUInt32 >>> ((13 : Int32) &&& 31).toUInt32).toInt32) ^^^ ((((p1 ^^^ ((p1.toUInt32 >>> ((16 : Int32) &&& 31).toUInt32).toInt32)) * (2127672349 : Int32)).toUInt32 >>> ((26 : Int32) &&& 31).toUInt32).toInt32))) * (-1513385405 : Int32)))] []))
  refine Gets.of (fun t k => XS.iloadN X0.here hx rfl (hb hby d2_31) rfl  k) ?_
  refine Gets.of (fun t k => XS.iloadN X0.here hx rfl (hb hby d2_32) rfl  k) ?_
  refine Gets.of (fun t k => XS.bipush X0.here hx rfl (hb hby d2_33) k) ?_
  refine Gets.of (fun t k => XS.iushr X0.here hx rfl (hb hby d2_35) rfl k) ?_
  show Gets p e below _ (s₁.setTop (mkF m 36 #[.val (.int p1), .val (.int ((((p1 ^^^ ((p1.toUInt32 >>> ((16 : Int32) &&& 31).toUInt32).toInt32)) * (2127672349 : Int32)) ^^^ (((((p1 ^^^ ((p1.toUInt32 >>> ((16 : Int32) &&& 31).toUInt32).toInt32)) * (2127672349 : Int32)).toUInt32 >>> ((13 : Int32) &&& 31).toUInt32).toInt32) ^^^ ((((p1 ^^^ ((p1.toUInt32 >>> ((16 : Int32) &&& 31).toUInt32).toInt32)) * (2127672349 : Int32)).toUInt32 >>> ((26 : Int32) &&& 31).toUInt32).toInt32))) * (-1513385405 : Int32)))] [(.int ((((((p1 ^^^ ((p1.toUInt32 >>> ((16 : Int32) &&& 31).toUInt32).toInt32)) * (2127672349 : Int32)) ^^^ (((((p1 ^^^ ((p1.toUInt32 >>> ((16 : Int32) &&& 31).toUInt32).toInt32)) * (2127672349 : Int32)).toUInt32 >>> ((13 : Int32) &&& 31).toUInt32).toInt32) ^^^ ((((p1 ^^^ ((p1.toUInt32 >>> ((16 : Int32) &&& 31).toUInt32).toInt32)) * (2127672349 : Int32)).toUInt32 >>> ((26 : Int32) &&& 31).toUInt32).toInt32))) * (-1513385405 : Int32)).toUInt32 >>> ((16 : Int32) &&& 31).toUInt32).toInt32)), (.int ((((p1 ^^^ ((p1.toUInt32 >>> ((16 : Int32) &&& 31).toUInt32).toInt32)) * (2127672349 : Int32)) ^^^ (((((p1 ^^^ ((p1.toUInt32 >>> ((16 : Int32) &&& 31).toUInt32).toInt32)) * (2127672349 : Int32)).toUInt32 >>> ((13 : Int32) &&& 31).toUInt32).toInt32) ^^^ ((((p1 ^^^ ((p1.toUInt32 >>> ((16 : Int32) &&& 31).toUInt32).toInt32)) * (2127672349 : Int32)).toUInt32 >>> ((26 : Int32) &&& 31).toUInt32).toInt32))) * (-1513385405 : Int32)))]))
  refine Gets.of (fun t k => XS.ixor X0.here hx rfl (hb hby d2_36) rfl k) ?_
  show Gets p e below _ (s₁.setTop (mkF m 37 #[.val (.int p1), .val (.int ((((p1 ^^^ ((p1.toUInt32 >>> ((16 : Int32) &&& 31).toUInt32).toInt32)) * (2127672349 : Int32)) ^^^ (((((p1 ^^^ ((p1.toUInt32 >>> ((16 : Int32) &&& 31).toUInt32).toInt32)) * (2127672349 : Int32)).toUInt32 >>> ((13 : Int32) &&& 31).toUInt32).toInt32) ^^^ ((((p1 ^^^ ((p1.toUInt32 >>> ((16 : Int32) &&& 31).toUInt32).toInt32)) * (2127672349 : Int32)).toUInt32 >>> ((26 : Int32) &&& 31).toUInt32).toInt32))) * (-1513385405 : Int32)))] [(.int (((((p1 ^^^ ((p1.toUInt32 >>> ((16 : Int32) &&& 31).toUInt32).toInt32)) * (2127672349 : Int32)) ^^^ (((((p1 ^^^ ((p1.toUInt32 >>> ((16 : Int32) &&& 31).toUInt32).toInt32)) * (2127672349 : Int32)).toUInt32 >>> ((13 : Int32) &&& 31).toUInt32).toInt32) ^^^ ((((p1 ^^^ ((p1.toUInt32 >>> ((16 : Int32) &&& 31).toUInt32).toInt32)) * (2127672349 : Int32)).toUInt32 >>> ((26 : Int32) &&& 31).toUInt32).toInt32))) * (-1513385405 : Int32)) ^^^ ((((((p1 ^^^ ((p1.toUInt32 >>> ((16 : Int32) &&& 31).toUInt32).toInt32)) * (2127672349 : Int32)) ^^^ (((((p1 ^^^ ((p1.toUInt32 >>> ((16 : Int32) &&& 31).toUInt32).toInt32)) * (2127672349 : Int32)).toUInt32 >>> ((13 : Int32) &&& 31).toUInt32).toInt32) ^^^ ((((p1 ^^^ ((p1.toUInt32 >>> ((16 : Int32) &&& 31).toUInt32).toInt32)) * (2127672349 : Int32)).toUInt32 >>> ((26 : Int32) &&& 31).toUInt32).toInt32))) * (-1513385405 : Int32)).toUInt32 >>> ((16 : Int32) &&& 31).toUInt32).toInt32)))]))
  refine Gets.of (fun t k => XS.istoreN X0.here hx rfl (hb hby d2_37) rfl (l' := #[.val (.int p1), .val (.int (((((p1 ^^^ ((p1.toUInt32 >>> ((16 : Int32) &&& 31).toUInt32).toInt32)) * (2127672349 : Int32)) ^^^ (((((p1 ^^^ ((p1.toUInt32 >>> ((16 : Int32) &&& 31).toUInt32).toInt32)) * (2127672349 : Int32)).toUInt32 >>> ((13 : Int32) &&& 31).toUInt32).toInt32) ^^^ ((((p1 ^^^ ((p1.toUInt32 >>> ((16 : Int32) &&& 31).toUInt32).toInt32)) * (2127672349 : Int32)).toUInt32 >>> ((26 : Int32) &&& 31).toUInt32).toInt32))) * (-1513385405 : Int32)) ^^^ ((((((p1 ^^^ ((p1.toUInt32 >>> ((16 : Int32) &&& 31).toUInt32).toInt32)) * (2127672349 : Int32)) ^^^ (((((p1 ^^^ ((p1.toUInt32 >>> ((16 : Int32) &&& 31).toUInt32).toInt32)) * (2127672349 : Int32)).toUInt32 >>> ((13 : Int32) &&& 31).toUInt32).toInt32) ^^^ ((((p1 ^^^ ((p1.toUInt32 >>> ((16 : Int32) &&& 31).toUInt32).toInt32)) * (2127672349 : Int32)).toUInt32 >>> ((26 : Int32) &&& 31).toUInt32).toInt32))) * (-1513385405 : Int32)).toUInt32 >>> ((16 : Int32) &&& 31).toUInt32).toInt32)))]) rfl k) ?_
  show Gets p e below _ (s₁.setTop (mkF m 38 #[.val (.int p1), .val (.int (((((p1 ^^^ ((p1.toUInt32 >>> ((16 : Int32) &&& 31).toUInt32).toInt32)) * (2127672349 : Int32)) ^^^ (((((p1 ^^^ ((p1.toUInt32 >>> ((16 : Int32) &&& 31).toUInt32).toInt32)) * (2127672349 : Int32)).toUInt32 >>> ((13 : Int32) &&& 31).toUInt32).toInt32) ^^^ ((((p1 ^^^ ((p1.toUInt32 >>> ((16 : Int32) &&& 31).toUInt32).toInt32)) * (2127672349 : Int32)).toUInt32 >>> ((26 : Int32) &&& 31).toUInt32).toInt32))) * (-1513385405 : Int32)) ^^^ ((((((p1 ^^^ ((p1.toUInt32 >>> ((16 : Int32) &&& 31).toUInt32).toInt32)) * (2127672349 : Int32)) ^^^ (((((p1 ^^^ ((p1.toUInt32 >>> ((16 : Int32) &&& 31).toUInt32).toInt32)) * (2127672349 : Int32)).toUInt32 >>> ((13 : Int32) &&& 31).toUInt32).toInt32) ^^^ ((((p1 ^^^ ((p1.toUInt32 >>> ((16 : Int32) &&& 31).toUInt32).toInt32)) * (2127672349 : Int32)).toUInt32 >>> ((26 : Int32) &&& 31).toUInt32).toInt32))) * (-1513385405 : Int32)).toUInt32 >>> ((16 : Int32) &&& 31).toUInt32).toInt32)))] []))
  refine Gets.of (fun t k => XS.iloadN X0.here hx rfl (hb hby d2_38) rfl  k) ?_
  refine Gets.retI X0 hx Bd.returns (hb hby d2_39) ?_ (by decide) (by decide)
  rw [e0]
  exact ⟨N0, rfl, rfl⟩
theorem w0 {Z : State} {a0 : Array Value} (hw : ∀ d ∈ tables_1, d.before a0 Z = true) : (Jvm.Cond.methodLink cn0 (9 : Nat) ({ cls := "com/example/hornwort/hornwort/Tuple", name := "mix", desc := "(I)I" } : Jvm.MethodName)).before a0 Z = true := hw _ (List.mem_of_getElem? (i := 0) rfl)
theorem w3 {Z : State} {a0 : Array Value} (hw : ∀ d ∈ tables_1, d.before a0 Z = true) : (Jvm.Cond.code ({ cls := "com/example/hornwort/hornwort/Tuple", name := "mix", desc := "(I)I" } : Jvm.MethodName) prog_66_method_6_code (2 : Nat) (Option.some Jvm.ClassFile.FieldType.int)).before a0 Z = true := hw _ (List.mem_of_getElem? (i := 3) rfl)
theorem w2 {Z : State} {a0 : Array Value} (hw : ∀ d ∈ tables_1, d.before a0 Z = true) : (Jvm.Cond.initialized "com/example/hornwort/hornwort/Tuple").before a0 Z = true := hw _ (List.mem_of_getElem? (i := 2) rfl)
theorem pd__I_I : parseMethodDescriptor "(I)I" = some ⟨[.int], some .int⟩ := by decide +kernel
theorem w1 {Z : State} {a0 : Array Value} (hw : ∀ d ∈ tables_1, d.before a0 Z = true) : (Jvm.Cond.static ({ cls := "com/example/hornwort/hornwort/Tuple", name := "mix", desc := "(I)I" } : Jvm.MethodName)).before a0 Z = true := hw _ (List.mem_of_getElem? (i := 1) rfl)
theorem w6 {Z : State} {a0 : Array Value} (hw : ∀ d ∈ tables_1, d.before a0 Z = true) : (Jvm.Cond.methodLink cn0 (15 : Nat) ({ cls := cn0, name := "unmix", desc := "(I)I" } : Jvm.MethodName)).before a0 Z = true := hw _ (List.mem_of_getElem? (i := 6) rfl)
theorem w9 {Z : State} {a0 : Array Value} (hw : ∀ d ∈ tables_1, d.before a0 Z = true) : (Jvm.Cond.code ({ cls := cn0, name := "unmix", desc := "(I)I" } : Jvm.MethodName) method_2_code (2 : Nat) (Option.some Jvm.ClassFile.FieldType.int)).before a0 Z = true := hw _ (List.mem_of_getElem? (i := 9) rfl)
theorem w8 {Z : State} {a0 : Array Value} (hw : ∀ d ∈ tables_1, d.before a0 Z = true) : (Jvm.Cond.initialized cn0).before a0 Z = true := hw _ (List.mem_of_getElem? (i := 8) rfl)
theorem w7 {Z : State} {a0 : Array Value} (hw : ∀ d ∈ tables_1, d.before a0 Z = true) : (Jvm.Cond.static ({ cls := cn0, name := "unmix", desc := "(I)I" } : Jvm.MethodName)).before a0 Z = true := hw _ (List.mem_of_getElem? (i := 7) rfl)
def Q_rm_law (Z : State) (p1 : Int32) (h0 : Heap) (n0 : Nat) (v : Option Value) (h : Heap) (L : List Loc) : Prop := Fr n0 L ∧ h = h0 ∧ ((v = some (.int (1 : Int32))))
set_option maxRecDepth 65536 in
set_option maxHeartbeats 40000000 in
theorem rm_law (l : Launch) (Z : State) (a0 : Array Value) (hw : ∀ d ∈ tables_1, d.before a0 Z = true) (ws : List Jvm.Cond) (p1 : Int32) (h0 : Heap) (n0 : Nat) (O0 : Old Z n0 h0) :
    MetFree l x (head1 (Jvm.Cond.code x code maxLocals ret :: ws) room_1) (fun a U => a = #[(.int p1)] ∧ Z.Warmed39 U.vm ∧ U.heap = h0) (fun _ _ _ _ _ => True) (fun _ U o U' => ∃ v L, o = .returned v ∧ Q_rm_law Z p1 h0 n0 v U'.heap L ∧ FrameEnd U o U' L room_1.cells room_1.slots) := by
  refine MetFree.of_bodySF (plainFor_of_name pn_com_example_hornwort_hornwort_TupleMixPinLaw) hisR ?_
  intro p e s m args below meth c s₁ Bd hml0 hP hK
  obtain ⟨rfl, hZ, hh⟩ := hP
  have hx := Bd.exec
  have hby := Bd.bytes
  have hlk := Bd.notSynchronized
  have hml : c.maxLocals = 2 := hml0
  have hown : s.vm.findClass cn0 = some m.cls := findClass_of_methodNamed Bd.named
  have hnm := (name_of_methodNamed Bd.named Bd.method).1
  have X0 : Stand p l e room_1 s m #[(.int p1)] below meth c s₁ [] 0 0 := Stand.of_body Bd
  have e0 : s₁.heap = h0 := by rw [← hh, Bd.state]; rfl
  have N0 := Fr.nil n0
  have K0 := Keep.refl h0 []
  have Z0 : n0 ≤ h0.size := O0.1 ▸ O0.2.1
  have hef : entryFrame m #[(.int p1)] maxLocals = mkF m 0 #[.val (.int p1), .unset] [] := by first | (simp [entryFrame, mkF, argsToLocals, Value.category, maxLocals]; done) | rfl
  rw [hef]
  refine Gets.out (Q := Q_rm_law Z p1 h0 n0) ?_
  show Gets p e below _ (s₁.setTop (mkF m 0 #[.val (.int p1), .unset] []))
  refine Gets.of (fun t k => XS.iloadN X0.here hx rfl (hb hby at_0) rfl  k) ?_
  obtain ⟨_, _, ⟨T1, L1, k1, n1⟩, -, X1, ⟨Lc1, hQ1, l1, y1, z1⟩, st1⟩ := Jvm.LawKit.callS X0 hx (y := (⟨"com/example/hornwort/hornwort/Tuple", "mix", "(I)I"⟩ : MethodName)) hown (mvT hZ (w0 hw)) (mvT hZ (w1 hw)) (mvT hZ (w2 hw)) (mvT hZ (w3 hw)) (by decide) (backOf (W := 0) (rm_mix l Z a0 hw [] p1 h0 n0 O0) hZ (w3 hw) (w2 hw) (by decide) (by decide)) (g := (mkF m 1 #[.val (.int p1), .unset] [(.int p1)])) rfl (by rw [hml]; rfl) (argsL := [(.int p1)]) (rest := []) (lenOf pd__I_I rfl) rfl (by show 2 * 0 + _ ≤ _; exact Nat.le_of_eq rfl) (hb hby at_1) (fun _ _ => ⟨rfl, e0, (by decide : 0 + 0 ≤ _), (by decide : 0 + 0 ≤ _)⟩)
  dsimp only [Pt.U, Pt.locs, Pt.cells, Pt.slots] at X1 l1 y1 z1 st1 hQ1
  subst l1 y1 z1
  obtain ⟨Nq1, eq1, hR1⟩ := hQ1
  have N1 := Fr.app N0 Nq1
  obtain rfl := hR1
  refine Gets.of st1 ?_
  show Gets p e below _ (T1.setTop (mkF m 4 #[.val (.int p1), .unset] [(.int (own_mix p1))]))
  refine Gets.of (fun t k => XS.istoreN X1.here hx rfl (hb hby at_4) rfl (l' := #[.val (.int p1), .val (.int (own_mix p1))]) rfl k) ?_
  show Gets p e below _ (T1.setTop (mkF m 5 #[.val (.int p1), .val (.int (own_mix p1))] []))
  refine Gets.of (fun t k => XS.iloadN X1.here hx rfl (hb hby at_5) rfl  k) ?_
  obtain ⟨_, _, ⟨T2, L2, k2, n2⟩, -, X2, ⟨Lc2, hQ2, l2, y2, z2⟩, st2⟩ := Jvm.LawKit.callS X1 hx (y := (⟨cn0, "unmix", "(I)I"⟩ : MethodName)) hown (mvT hZ (w6 hw)) (mvT hZ (w7 hw)) (mvT hZ (w8 hw)) (mvT hZ (w9 hw)) (by decide) (backOf (W := 0) (rm_unmix l Z a0 hw [] (own_mix p1) h0 n0 O0) hZ (w9 hw) (w8 hw) (by decide) (by decide)) (g := (mkF m 6 #[.val (.int p1), .val (.int (own_mix p1))] [(.int (own_mix p1))])) rfl (by rw [hml]; rfl) (argsL := [(.int (own_mix p1))]) (rest := []) (lenOf pd__I_I rfl) rfl (by show 2 * 0 + _ ≤ _; exact Nat.le_of_eq rfl) (hb hby at_6) (fun _ _ => ⟨rfl, eq1, (by decide : 0 + 0 ≤ _), (by decide : 0 + 0 ≤ _)⟩)
  dsimp only [Pt.U, Pt.locs, Pt.cells, Pt.slots] at X2 l2 y2 z2 st2 hQ2
  subst l2 y2 z2
  obtain ⟨Nq2, eq2, hR2⟩ := hQ2
  have N2 := Fr.app N1 Nq2
  obtain rfl := hR2
  refine Gets.of st2 ?_
  show Gets p e below _ (T2.setTop (mkF m 9 #[.val (.int p1), .val (.int (own_mix p1))] [(.int (own_unmix (own_mix p1)))]))
  refine Gets.of (fun t k => XS.iloadN X2.here hx rfl (hb hby at_9) rfl  k) ?_
  have ho3 : (own_unmix (own_mix p1)) = p1 := own_unmix_mix p1
  refine Gets.of (fun t k => XS.icmpNo X2.here hx rfl (hb hby at_10) rfl (teq ho3).2 k) ?_
  show Gets p e below _ (T2.setTop (mkF m 13 #[.val (.int p1), .val (.int (own_mix p1))] []))
  refine Gets.of (fun t k => XS.iconst X2.here hx rfl (hb hby at_13) k) ?_
  refine Gets.of (fun t k => XS.goto X2.here hx rfl (pc0 := 14) (pc' := 18) rfl (hb hby at_14) (by decide) (by decide) k) ?_
  show Gets p e below _ (T2.setTop (mkF m 18 #[.val (.int p1), .val (.int (own_mix p1))] [(.int (1 : Int32))]))
  refine Gets.retN X2 hx (t := .boolean) Bd.returns (by simp) (hb hby at_18) ?_ (by decide) (by decide)
  rw [eq2]
  exact ⟨N2, rfl, rfl⟩
set_option maxRecDepth 65536 in
set_option maxHeartbeats 40000000 in
theorem comes_1 {Post : Tables → Env → Array Value → State → Outcome → State → Prop} (hpost : ∀ tb e args s v u, (limb_1_1.after args s (.returned v) u = true ∧ limb_1_2.after args s (.returned v) u = true ∧ True) → FrameEnd s (.returned v) u (Jvm.fieldLocs frame_1_writes args s ++ Jvm.arrayLocs frame_1_arrays args s ++ Jvm.staticLocs frame_1_statics s) 0 0 → Post tb e args s (.returned v) u) :
    ArmFor flags0 classFile x code maxLocals ret World_1 tables_1 room_1 Calls_1 rest_1 Pre_1 Post := by
  intro l hfl _ _ p e ha hc hk s m args below hf hA hF happ hP
  obtain ⟨hcalls, hrest, hpre⟩ := hP
  obtain ⟨-, -, -, hnamed, -, -, -, hat⟩ := (Spec.applies_iff hf).mp happ
  obtain ⟨hg, hn⟩ := and_e (Cond.before_iff.mp (show (Jvm.Cond.and given_1 narrow_1).before args s = true from hpre))
  obtain ⟨hcount, hk0⟩ := and_e hg
  have hi0 := hk0
  obtain ⟨w0, rfl⟩ : ∃ w0 : Value, args = #[w0] := by
    have hs : args.size = 1 := by simpa [Cond.value, given_1] using hcount
    obtain ⟨L⟩ := args
    match L, hs with
    | [w0], _ => exact ⟨w0, rfl⟩
  have hw := fun d (hd : d ∈ tables_1) => atoms_spec (ws := Jvm.Cond.code x code maxLocals ret :: tables_1) hat d (List.mem_cons_of_mem _ hd)
  have hfit : Fit s := fun {y c} hc i hi => by
    obtain ⟨ha, rfl⟩ := Array.getElem?_eq_some_iff.mp hc
    have q := List.all_eq_true.mp ((Array.all_eq_true_iff_forall_mem.mp hF) _ (Array.getElem_mem ha)) i (List.mem_range.mpr hi)
    simpa [Array.getElem?_eq_getElem hi] using q
  obtain ⟨i0, ei0⟩ := is_v hi0
  obtain rfl : w0 = (.int i0) := Option.some.inj ei0
  obtain ⟨n, o, h1, h2, h3, _, L, rfl, ⟨N, -, hR⟩, hq⟩ := rm_law l s _ hw tables_1 i0 s.heap s.heap.size (Old.start s)  p e ha hc hk s m _ below hf ((Spec.applies_iff_loose hf).mp happ).1 ⟨rfl, State.Warmed39.refl s, rfl⟩ trivial
  obtain rfl := hR
  refine ⟨n, _, h1, h2, h3, hpost _ _ _ _ _ _ ⟨Cond.after_iff.mpr rfl, Cond.after_iff.mpr (eq_i res_at (Term.int_eval (1)) rfl), trivial⟩ ⟨hq.1, hq.2.1, (hq.2.2.sift fun y hy => Or.inr (N y hy)).mono (by decide) (by decide)⟩⟩
theorem main_1_1 : Claimed_1_1 := comes_1 fun _ _ _ _ _ _ h hF => ⟨h.1, hF⟩
theorem main_1_2 : Claimed_1_2 := comes_1 fun _ _ _ _ _ _ h hF => ⟨h.2.1, hF⟩
end Jvm.Pilot.@@N@@
namespace Jvm.Pilot.@@N@@
open Jvm Jvm.ClassFile Sem Op Lib Jvm.Free Jvm.Stand Jvm.Pilot.@@N@@.Jvm.D
/-! MADE BY PROGRAM (witnessworld.py) out of the Statement's table words and the real class files: 9 classes; the members and pool entries that the words name. The judged class is class 1, her method 2. -/
namespace start1
open Jvm.ClassFile
def u (s : String) : CpInfo := .utf8 (stringToUtf16 s)
/-- a pool by its gaps: so many unusable entries, then the entry; so many at the end -/
def gap : Nat → List CpInfo → List CpInfo
  | 0, r => r
  | n + 1, r => .unusable :: gap n r
def poolList (es : List (Nat × CpInfo)) (last : Nat) : List CpInfo := es.foldr (fun e r => gap e.1 (e.2 :: r)) (gap last [])
def pool (es : List (Nat × CpInfo)) (last : Nat) : Array CpInfo := ⟨poolList es last⟩
def fileOf (pool : Array CpInfo) (this : Nat) (attrs : Array Attribute := #[]) (ms : Array MethodInfo := #[]) (fl : Nat := 33) (sup : Nat := 0) (ifs : Array Nat := #[]) (fds : Array FieldInfo := #[]) : ClassFile where
  minorVersion := 0
  majorVersion := 65
  constantPool := pool
  accessFlags := fl
  thisClass := this
  superClass := sup
  interfaces := ifs
  fields := fds
  methods := ms
  attributes := attrs
def plain (name : String) (sup : Option ClassId) : Class where
  name := name
  kind := .ordinary
  loader := none
  accessFlags := 33
  super := sup
  interfaces := #[]
  cf := none
  fields := #[]
  methods := #[]
  instanceTypes := #[]
  staticTypes := #[]
  resolved := #[]
  callSites := []
  init := .initialized
  statics := none
  mirror := none

def pool0 : Array CpInfo := pool [(5, u "<init>"), (0, u "()V"), (1, .class_ 10), (1, u "java/lang/Object")] 113

def k0m0 : Method := { name := "<init>", desc := "()V", sig := { parameters := [], returnType := none }, accessFlags := 1, code := none }
/-- java/lang/Object -/
def k0 : Class := { plain "java/lang/Object" none with
  accessFlags := 33
  interfaces := #[]
  cf := some (fileOf pool0 8 #[] #[{ accessFlags := 1, nameIndex := 5, descriptorIndex := 6, attributes := #[] }] 33 0 #[] #[])
  fields := #[]
  methods := #[k0m0]
  instanceTypes := #[]
  staticTypes := #[]
  resolved := Array.replicate 124 none
  statics := none }

def pool1 : Array CpInfo := pool [(2, .class_ 4), (1, u "java/lang/Object"), (0, u "<init>"), (0, u "()V"), (0, .integer 2127672349), (0, .integer 2781581891), (0, .methodref 10 11), (0, .class_ 12), (0, .nameAndType 13 14), (0, u "com/example/hornwort/hornwort/Tuple"), (0, u "mix"), (0, u "(I)I"), (0, .methodref 16 17), (0, .class_ 18), (0, .nameAndType 19 14), (0, u "com/example/hornwort/hornwort/TupleMixPinLaw"), (0, u "unmix"), (2, u "law"), (0, u "(I)Z")] 3

def k1m0 : Method := { name := "<init>", desc := "()V", sig := { parameters := [], returnType := none }, accessFlags := 2, code := none }
def k1c1 : Code := { maxStack := 4, maxLocals := 2, code := method_2_code, exceptionTable := #[], attributes := #[] }
def k1m1 : Method := { name := "unmix", desc := "(I)I", sig := { parameters := [.int], returnType := some .int }, accessFlags := 10, code := some k1c1 }
def k1c2 : Code := { maxStack := 2, maxLocals := 2, code := code, exceptionTable := #[], attributes := #[] }
def k1m2 : Method := { name := "law", desc := "(I)Z", sig := { parameters := [.int], returnType := some .boolean }, accessFlags := 9, code := some k1c2 }
/-- com/example/hornwort/hornwort/TupleMixPinLaw -/
def k1 : Class := { plain "com/example/hornwort/hornwort/TupleMixPinLaw" (some 0) with
  accessFlags := 49
  interfaces := #[]
  cf := some (fileOf pool1 16 #[] #[{ accessFlags := 2, nameIndex := 5, descriptorIndex := 6, attributes := #[] }, { accessFlags := 10, nameIndex := 19, descriptorIndex := 14, attributes := #[] }, { accessFlags := 9, nameIndex := 22, descriptorIndex := 23, attributes := #[] }] 49 2 #[] #[])
  fields := #[]
  methods := #[k1m0, k1m1, k1m2]
  instanceTypes := #[]
  staticTypes := #[]
  resolved := Array.replicate 27 none
  statics := none }

def pool2 : Array CpInfo := pool [(2, .class_ 4), (1, u "java/lang/Object"), (3, .class_ 10), (1, u "com/example/hornwort/hornwort/Tuple"), (0, u "values"), (0, u "[Lcom/example/hornwort/hornwort/Term;"), (2, u "hash"), (3, u "I"), (8, u "ground"), (0, u "Z"), (48, u "mix"), (0, u "(I)I"), (0, .integer 2246822507), (0, .integer 3266489909)] 83

def k2c0 : Code := { maxStack := 3, maxLocals := 2, code := prog_66_method_6_code, exceptionTable := #[], attributes := #[] }
def k2m0 : Method := { name := "mix", desc := "(I)I", sig := { parameters := [.int], returnType := some .int }, accessFlags := 8, code := some k2c0 }
/-- com/example/hornwort/hornwort/Tuple -/
def k2 : Class := { plain "com/example/hornwort/hornwort/Tuple" (some 0) with
  accessFlags := 48
  interfaces := #[]
  cf := some (fileOf pool2 8 #[] #[{ accessFlags := 8, nameIndex := 78, descriptorIndex := 79, attributes := #[] }] 48 2 #[] #[{ accessFlags := 18, nameIndex := 11, descriptorIndex := 12, attributes := #[] }, { accessFlags := 18, nameIndex := 15, descriptorIndex := 19, attributes := #[] }, { accessFlags := 18, nameIndex := 28, descriptorIndex := 29, attributes := #[] }])
  fields := #[{ name := "values", type := (.array (.object "com/example/hornwort/hornwort/Term")), accessFlags := 18, slot := 0, constantValue := 0 }, { name := "hash", type := .int, accessFlags := 18, slot := 1, constantValue := 0 }, { name := "ground", type := .boolean, accessFlags := 18, slot := 2, constantValue := 0 }]
  methods := #[k2m0]
  instanceTypes := #[(.array (.object "com/example/hornwort/hornwort/Term")), .int, .boolean]
  staticTypes := #[]
  resolved := Array.replicate 165 none
  statics := none }

def pool3 : Array CpInfo := pool [(1, u "java/lang/Cloneable"), (0, .class_ 1), (0, u "java/lang/Object"), (0, .class_ 3)] 3

/-- java/lang/Cloneable -/
def k3 : Class := { plain "java/lang/Cloneable" (some 0) with
  accessFlags := 1537
  interfaces := #[]
  cf := some (fileOf pool3 2 #[] #[] 1537 4 #[] #[])
  fields := #[]
  methods := #[]
  instanceTypes := #[]
  staticTypes := #[]
  resolved := Array.replicate 8 none
  statics := none }

def pool4 : Array CpInfo := pool [(1, u "java/io/Serializable"), (0, .class_ 1), (0, u "java/lang/Object"), (0, .class_ 3)] 3

/-- java/io/Serializable -/
def k4 : Class := { plain "java/io/Serializable" (some 0) with
  accessFlags := 1537
  interfaces := #[]
  cf := some (fileOf pool4 2 #[] #[] 1537 4 #[] #[])
  fields := #[]
  methods := #[]
  instanceTypes := #[]
  staticTypes := #[]
  resolved := Array.replicate 8 none
  statics := none }

/-- the primitive byte -/
def k5 : Class := { plain "byte" none with kind := .primitive 'B', accessFlags := 0x411 }
/-- [B -/
def k6 : Class := { plain "[B" (some 0) with kind := .array 5 .byte, interfaces := #[3, 4], accessFlags := 1041 }

/-- the primitive int -/
def k7 : Class := { plain "int" none with kind := .primitive 'I', accessFlags := 0x411 }
/-- [I -/
def k8 : Class := { plain "[I" (some 0) with kind := .array 7 .int, interfaces := #[3, 4], accessFlags := 1041 }

def heap : Heap := #[]
def classes : Array Class := #[k0, k1, k2, k3, k4, k5, k6, k7, k8]
def interned : List (Array UInt16 × Addr) := []
def slotsUsed : Nat := 0
def theMethod : MethodId := ⟨1, 2⟩
def args0 : Array Value := #[.int 5]
def aboutOver (below : List Frame) : State where
  vm := { classes := classes, interned := interned.toArray }
  heap := heap
  slotsUsed := slotsUsed
  threads := #[{ frames := .invoking theMethod args0 :: below }]
def below0 : List Frame := [.native { method := ⟨0, 0⟩, args := #[] }]
def about1 : State := aboutOver below0
def p0 : Program := .bare "" "" ""
def e0 : Env := launch0.env 0 0 0
theorem w_frames : about1.frames = Frame.invoking theMethod args0 :: below0 := rfl
set_option maxRecDepth 65536 in
theorem w_args : argsFit about1.vm theMethod args0 = true := by decide +kernel
set_option maxRecDepth 65536 in
theorem w_heap : heapFits about1 = true := by decide +kernel
set_option maxRecDepth 65536 in
theorem w_runnable : about1.curStatus? = some .runnable := by decide +kernel
set_option maxRecDepth 65536 in
theorem w_alone : about1.alone = true := by decide +kernel
set_option maxRecDepth 65536 in
theorem w_named : about1.methodNamed? x = some theMethod := by decide +kernel
set_option maxRecDepth 65536 in
theorem w_hears : about1.hears theMethod below0 = true := by decide +kernel
set_option maxRecDepth 65536 in
theorem w_ripe : about1.ripe theMethod args0 below0 = true := by decide +kernel
theorem w_running : about1.status = .running := rfl
set_option maxRecDepth 65536 in
theorem w_room : about1.hasRoom e0.platform room_1 = true :=
  launch0.hasRoom_least _ room_1 (by decide +kernel) (by decide +kernel) (by decide +kernel) (by decide +kernel) (by decide +kernel) (by decide +kernel)
theorem allAtoms_all (ts : List Jvm.Cond) (a : Array Jvm.Value) (st : Jvm.State) : (allAtoms ts).before a st = ts.all (fun c => c.before a st) := by
  induction ts with
  | nil => rfl
  | cons c t ih =>
    show (Jvm.Cond.and c (allAtoms t)).before a st = _
    rw [Jvm.Cond.before_and, ih, List.all_cons]
def words1 : List Jvm.Cond := Jvm.Cond.code x code maxLocals ret :: tables_1
/-- a 'code' word, met by the world's own term for the bytes: nothing is compared byte by byte -/
theorem code_word {y : MethodName} {bytes : ByteArray} {mx : Nat} {rt : Option FieldType} {a : Array Value} {s : State} {m : MethodId} {meth : Method} {c : Code} (h1 : s.methodNamed? y = some m) (h2 : s.vm.method? m = some meth) (h3 : meth.code = some c) (h4 : c.code = bytes)
    (h5 : (c.maxLocals == mx && c.exceptionTable.isEmpty && decide (c.maxStack ≤ mostOperands) && decide (meth.sig.returnType = rt) && !meth.locks && decide (parseMethodDescriptor y.desc = some meth.sig)) = true) : (Jvm.Cond.code y bytes mx rt).before a s = true := by
  simp only [Bool.and_eq_true, beq_iff_eq, Bool.not_eq_true', decide_eq_true_eq] at h5
  obtain ⟨⟨⟨⟨⟨g1, g2⟩, g3⟩, g4⟩, g5⟩, g6⟩ := h5
  simp [Cond.before, Cond.holds, Cond.value, h1, h2, h3, h4, g1, g2, g3, g4, g5, g6]
def isCode : Jvm.Cond → Bool
  | .code _ _ _ _ => true
  | _ => false
theorem all_split {L : List Jvm.Cond} {P : Jvm.Cond → Bool} (h1 : L.all (fun c => isCode c || P c) = true) (h2 : ∀ c ∈ L.filter isCode, P c = true) : L.all P = true := by
  refine List.all_eq_true.mpr fun c hc => ?_
  have h := List.all_eq_true.mp h1 c hc
  rcases Bool.eq_false_or_eq_true (isCode c) with hi | hi
  · exact h2 c (List.mem_filter.mpr ⟨hc, hi⟩)
  · simpa [hi] using h
set_option maxRecDepth 65536 in
theorem w_c0 : (Jvm.Cond.code x code maxLocals ret).before args0 about1 = true := code_word (m := ⟨1, 2⟩) (meth := k1m2) (c := k1c2) (by decide +kernel) rfl rfl rfl (by decide +kernel)
set_option maxRecDepth 65536 in
theorem w_c1 : (Jvm.Cond.code ({ cls := "com/example/hornwort/hornwort/Tuple", name := "mix", desc := "(I)I" } : Jvm.MethodName) prog_66_method_6_code (2 : Nat) (Option.some Jvm.ClassFile.FieldType.int)).before args0 about1 = true := code_word (m := ⟨2, 0⟩) (meth := k2m0) (c := k2c0) (by decide +kernel) rfl rfl rfl (by decide +kernel)
set_option maxRecDepth 65536 in
theorem w_c2 : (Jvm.Cond.code ({ cls := "com/example/hornwort/hornwort/TupleMixPinLaw", name := "unmix", desc := "(I)I" } : Jvm.MethodName) method_2_code (2 : Nat) (Option.some Jvm.ClassFile.FieldType.int)).before args0 about1 = true := code_word (m := ⟨1, 1⟩) (meth := k1m1) (c := k1c1) (by decide +kernel) rfl rfl rfl (by decide +kernel)
def codes1 : List Jvm.Cond := [Jvm.Cond.code x code maxLocals ret, Jvm.Cond.code ({ cls := "com/example/hornwort/hornwort/Tuple", name := "mix", desc := "(I)I" } : Jvm.MethodName) prog_66_method_6_code (2 : Nat) (Option.some Jvm.ClassFile.FieldType.int), Jvm.Cond.code ({ cls := "com/example/hornwort/hornwort/TupleMixPinLaw", name := "unmix", desc := "(I)I" } : Jvm.MethodName) method_2_code (2 : Nat) (Option.some Jvm.ClassFile.FieldType.int)]
set_option maxRecDepth 65536 in
theorem codes_eq : words1.filter isCode = codes1 := rfl
theorem w_codes : ∀ c ∈ words1.filter isCode, c.before args0 about1 = true := by
  rw [codes_eq]
  intro c hc
  simp only [codes1, List.mem_cons, List.not_mem_nil, or_false] at hc
  rcases hc with rfl | rfl | rfl
  · exact w_c0
  · exact w_c1
  · exact w_c2
set_option maxRecDepth 65536 in
theorem w_t1 : words1.all (fun c => isCode c || c.before args0 about1) = true := by decide +kernel
theorem w_tables : (allAtoms (Jvm.Cond.code x code maxLocals ret :: tables_1)).before args0 about1 = true := by
  rw [allAtoms_all]
  show words1.all (fun c => c.before args0 about1) = true
  refine all_split ?_ w_codes
  rw [w_t1]
set_option maxRecDepth 65536 in
theorem w_case : (Jvm.Cond.and given_1 narrow_1).before args0 about1 = true := by decide +kernel
theorem w_applies : (headSpec (Jvm.Cond.code x code maxLocals ret :: tables_1) room_1).applies x e0.platform about1 = true :=
  (Spec.applies_iff w_frames).mpr ⟨w_running, w_runnable, w_alone, w_named, w_hears, w_ripe, w_room, w_tables⟩
theorem atStart : AtStart classFile x code maxLocals ret World_1 tables_1 room_1 Calls_1 rest_1 Pre_1 launch0 p0 e0 about1 theMethod args0 below0 :=
  ⟨lists_1, trivial, launch0.admits_env _ _ _, launch0.least_env, fairChoices_fair.cas, fairChoices_fair.clock, w_frames, w_args, w_heap, w_applies, trivial, trivial, w_case⟩
end start1
theorem witness_1 : WitnessClaimed_1 := ⟨start1.p0, start1.e0, start1.about1, start1.theMethod, start1.args0, start1.below0, start1.atStart⟩
end Jvm.Pilot.@@N@@
