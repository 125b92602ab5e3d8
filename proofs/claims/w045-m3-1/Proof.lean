import JvmDerived
import JvmDerived.Pilot.@@N@@Statement
import JvmDerived.Pilot.@@N@@Code
set_option linter.unusedVariables false
set_option linter.unusedSimpArgs false
@@BLOCK:NumsL.lean.txt@@
namespace Jvm.RoadKit
open Sem ClassFile Op Lib Jvm.Stand Jvm.Free Jvm.LawKit
section Own
variable {p : Program} {l : Launch} {e : Env} {R : Room} {s : State} {m : MethodId} {args : Array Value} {below : List Frame} {meth : Method} {c : Code} {T : State} {locs : List Loc} {cells slots : Nat}
/-- from U the run comes to a state of which G holds -/
def Gets (p : Program) (e : Env) (below : List Frame) (G : State → Prop) (U : State) : Prop := ∃ t, Steps p.tables e below U t ∧ G t
theorem Gets.of {G : State → Prop} {U U' : State} (k : ∀ t, Steps p.tables e below U' t → Steps p.tables e below U t) (h : Gets p e below G U') : Gets p e below G U := by
  obtain ⟨t, a, b⟩ := h; exact ⟨t, k t a, b⟩
theorem Gets.tr {G : State → Prop} {U U' : State} (k : Steps p.tables e below U U') (h : Gets p e below G U') : Gets p e below G U := by
  obtain ⟨t, a, b⟩ := h; exact ⟨t, k.trans a, b⟩
/-- what is owed at the end of a body -/
def Out (Q : Option Value → Heap → List Loc → Prop) (s : State) (below : List Frame) (C S : Nat) (t : State) : Prop := ∃ o, t.status = .running ∧ Ended t below o ∧ ∃ v L, o = .returned v ∧ Q v t.heap L ∧ FrameEnd s o t L C S
theorem Gets.out {Q : Option Value → Heap → List Loc → Prop} {C S : Nat} {U : State} (h : Gets p e below (Out Q s below C S) U) : ∃ s₂ o, Steps p.tables e below U s₂ ∧ s₂.status = .running ∧ Ended s₂ below o ∧ ∃ v L, o = .returned v ∧ Q v s₂.heap L ∧ FrameEnd s o s₂ L C S := by
  obtain ⟨t, a, o, b⟩ := h; exact ⟨t, o, a, b⟩
theorem Gets.fin {Q : Option Value → Heap → List Loc → Prop} {C S : Nat} {U : State} (X : Stand p l e R s m args below meth c T locs cells slots) {v : Option Value} (hv : meth.sig.returnType = none → v = none) (hlk : meth.locks = false)
    (k : ∀ fs, (∀ (f : JFrame) (acts : List Action), f.method = m → f.locked = none → f.entered = [] → (doReturn e (T.setTop f) acts v).1 = T.setFrames fs) → Steps p.tables e below U (T.setFrames fs)) (hQ : Q v T.heap locs) (h1 : cells ≤ C) (h2 : slots ≤ S) : Gets p e below (Out Q s below C S) U := by
  obtain ⟨fs, hr, hrun, hended, hW, hsame⟩ := X.leave (v := v) hv hlk
  exact ⟨_, k fs hr, _, hrun, hended, _, _, rfl, hQ, ⟨_, rfl⟩, hW, hsame.mono h1 h2⟩
theorem retI0 (X : Stand p l e R s m args below meth c T locs cells slots) (hx : p.tables.exec = Jvm.exec) {pc : Nat} {Ls : Array Slot} {z : Int32} {rest : List Value} (hret : meth.sig.returnType = some .int) (hd : decode c.code pc = .ok (.ireturn, 1)) {fs : List Frame}
    (hl : ∀ (f : JFrame) (acts : List Action), f.method = m → f.locked = none → f.entered = [] → (doReturn e (T.setTop f) acts (some (.int z))).1 = T.setFrames fs) : Steps p.tables e below (T.setTop (mkF m pc Ls (.int z :: rest))) (T.setFrames fs) :=
  retOut X hx hret rfl (Or.inl ⟨rfl, Or.inl rfl, z, rfl⟩) hd hl
theorem Gets.retI {Q : Option Value → Heap → List Loc → Prop} {C S : Nat} (X : Stand p l e R s m args below meth c T locs cells slots) (hx : p.tables.exec = Jvm.exec) {pc : Nat} {Ls : Array Slot} {z : Int32} {rest : List Value} (hret : meth.sig.returnType = some .int) (hd : decode c.code pc = .ok (.ireturn, 1))
    (hQ : Q (some (.int z)) T.heap locs) (h1 : cells ≤ C) (h2 : slots ≤ S) (hlk : meth.locks = false := by assumption) : Gets p e below (Out Q s below C S) (T.setTop (mkF m pc Ls (.int z :: rest))) :=
  Gets.fin X (fun h => by rw [hret] at h; cases h) hlk (fun fs hr => retI0 X hx hret hd hr) hQ h1 h2
theorem Gets.retN {Q : Option Value → Heap → List Loc → Prop} {C S : Nat} (X : Stand p l e R s m args below meth c T locs cells slots) (hx : p.tables.exec = Jvm.exec) {pc : Nat} {Ls : Array Slot} {z : Int32} {t : FieldType} {rest : List Value} (hret : meth.sig.returnType = some t) (ht : t = .boolean ∨ t = .byte ∨ t = .char ∨ t = .short) (hd : decode c.code pc = .ok (.ireturn, 1))
    (hQ : Q (some (.int (nar t z))) T.heap locs) (h1 : cells ≤ C) (h2 : slots ≤ S) (hlk : meth.locks = false := by assumption) : Gets p e below (Out Q s below C S) (T.setTop (mkF m pc Ls (.int z :: rest))) :=
  Gets.fin X (fun h => by rw [hret] at h; cases h) hlk (fun fs hr => Jvm.RoadKit.retN X hx hret ht hd hr) hQ h1 h2
theorem Gets.retJ {Q : Option Value → Heap → List Loc → Prop} {C S : Nat} (X : Stand p l e R s m args below meth c T locs cells slots) (hx : p.tables.exec = Jvm.exec) {pc : Nat} {Ls : Array Slot} {z : Int64} {rest : List Value} (hret : meth.sig.returnType = some .long) (hd : decode c.code pc = .ok (.lreturn, 1))
    (hQ : Q (some (.long z)) T.heap locs) (h1 : cells ≤ C) (h2 : slots ≤ S) (hlk : meth.locks = false := by assumption) : Gets p e below (Out Q s below C S) (T.setTop (mkF m pc Ls (.long z :: rest))) :=
  Gets.fin X (fun h => by rw [hret] at h; cases h) hlk (fun fs hr => retOut X hx hret rfl (Or.inr (Or.inl ⟨rfl, rfl, z, rfl⟩)) hd hr) hQ h1 h2
theorem Gets.retA {Q : Option Value → Heap → List Loc → Prop} {C S : Nat} (X : Stand p l e R s m args below meth c T locs cells slots) (hx : p.tables.exec = Jvm.exec) {pc : Nat} {Ls : Array Slot} {w : Value} {t : FieldType} {rest : List Value} (hret : meth.sig.returnType = some t) (ht : t.isReference = true) (hw : w.isRef = true) (hd : decode c.code pc = .ok (.areturn, 1))
    (hQ : Q (some w) T.heap locs) (h1 : cells ≤ C) (h2 : slots ≤ S) (hlk : meth.locks = false := by assumption) : Gets p e below (Out Q s below C S) (T.setTop (mkF m pc Ls (w :: rest))) :=
  Gets.fin X (fun h => by rw [hret] at h; cases h) hlk (fun fs hr => retOut X hx hret (by cases t <;> first | (cases ht; done) | (cases w <;> first | rfl | (cases hw))) (Or.inr (Or.inr (Or.inr (Or.inr ⟨rfl, ht, hw⟩)))) hd hr) hQ h1 h2
theorem Gets.retV {Q : Option Value → Heap → List Loc → Prop} {C S : Nat} (X : Stand p l e R s m args below meth c T locs cells slots) (hx : p.tables.exec = Jvm.exec) {pc : Nat} {Ls : Array Slot} (hret : meth.sig.returnType = none) (hd : decode c.code pc = .ok (.return_, 1))
    (hQ : Q none T.heap locs) (h1 : cells ≤ C) (h2 : slots ≤ S) (hlk : meth.locks = false := by assumption) : Gets p e below (Out Q s below C S) (T.setTop (mkF m pc Ls [])) :=
  Gets.fin X (fun _ => rfl) hlk (fun fs hr => X.returnOut hx hret hd hr) hQ h1 h2
/-- what is owed at the end of a body that may load String constants -/
def OutW (Q : Option Value → Heap → List Loc → Prop) (s : State) (below : List Frame) (C S : Nat) (t : State) : Prop := ∃ o, t.status = .running ∧ Ended t below o ∧ ∃ v L, o = .returned v ∧ Q v t.heap L ∧ ReturnedEndW s o t L C S
theorem GetsW.out {Q : Option Value → Heap → List Loc → Prop} {C S : Nat} {U : State} (h : Gets p e below (OutW Q s below C S) U) : ∃ s₂ o, Steps p.tables e below U s₂ ∧ s₂.status = .running ∧ Ended s₂ below o ∧ ∃ v L, o = .returned v ∧ Q v s₂.heap L ∧ ReturnedEndW s o s₂ L C S := by
  obtain ⟨t, a, o, b⟩ := h; exact ⟨t, o, a, b⟩
theorem GetsW.fin {Q : Option Value → Heap → List Loc → Prop} {C S : Nat} {U : State} {vm₁ : Vm} (X : Stand p l e R (s.setVm vm₁) m args below meth c T locs cells slots) {n : Nat} (hS : s.Since vm₁ n) (hn : n ≤ T.heap.size) {v : Option Value} (hv : meth.sig.returnType = none → v = none) (hlk : meth.locks = false)
    (k : ∀ fs, (∀ (f : JFrame) (acts : List Action), f.method = m → f.locked = none → f.entered = [] → (doReturn e (T.setTop f) acts v).1 = T.setFrames fs) → Steps p.tables e below U (T.setFrames fs)) (hQ : Q v T.heap locs) (h1 : cells ≤ C) (h2 : slots ≤ S) : Gets p e below (OutW Q s below C S) U := by
  obtain ⟨fs, hr, hrun, hended, w1, w2, w3, w4⟩ := X.leaveW hS hn (v := v) hv hlk
  exact ⟨_, k fs hr, _, hrun, hended, _, _, rfl, hQ, w1, w2, w3, w4.mono h1 h2⟩
theorem GetsW.retN {Q : Option Value → Heap → List Loc → Prop} {C S : Nat} {vm₁ : Vm} (X : Stand p l e R (s.setVm vm₁) m args below meth c T locs cells slots) (hx : p.tables.exec = Jvm.exec) {pc : Nat} {Ls : Array Slot} {z : Int32} {t : FieldType} {rest : List Value} (hret : meth.sig.returnType = some t) (ht : t = .boolean ∨ t = .byte ∨ t = .char ∨ t = .short) (hd : decode c.code pc = .ok (.ireturn, 1)) {n : Nat} (hS : s.Since vm₁ n) (hn : n ≤ T.heap.size)
    (hQ : Q (some (.int (nar t z))) T.heap locs) (h1 : cells ≤ C) (h2 : slots ≤ S) (hlk : meth.locks = false := by assumption) : Gets p e below (OutW Q s below C S) (T.setTop (mkF m pc Ls (.int z :: rest))) :=
  GetsW.fin X hS hn (fun h => by rw [hret] at h; cases h) hlk (fun fs hr => Jvm.RoadKit.retN X hx hret ht hd hr) hQ h1 h2
theorem GetsW.retI {Q : Option Value → Heap → List Loc → Prop} {C S : Nat} {vm₁ : Vm} (X : Stand p l e R (s.setVm vm₁) m args below meth c T locs cells slots) (hx : p.tables.exec = Jvm.exec) {pc : Nat} {Ls : Array Slot} {z : Int32} {rest : List Value} (hret : meth.sig.returnType = some .int) (hd : decode c.code pc = .ok (.ireturn, 1)) {n : Nat} (hS : s.Since vm₁ n) (hn : n ≤ T.heap.size)
    (hQ : Q (some (.int z)) T.heap locs) (h1 : cells ≤ C) (h2 : slots ≤ S) (hlk : meth.locks = false := by assumption) : Gets p e below (OutW Q s below C S) (T.setTop (mkF m pc Ls (.int z :: rest))) :=
  GetsW.fin X hS hn (fun h => by rw [hret] at h; cases h) hlk (fun fs hr => retI0 X hx hret hd hr) hQ h1 h2
theorem GetsW.retA {Q : Option Value → Heap → List Loc → Prop} {C S : Nat} {vm₁ : Vm} (X : Stand p l e R (s.setVm vm₁) m args below meth c T locs cells slots) (hx : p.tables.exec = Jvm.exec) {pc : Nat} {Ls : Array Slot} {w : Value} {t : FieldType} {rest : List Value} (hret : meth.sig.returnType = some t) (ht : t.isReference = true) (hw : w.isRef = true) (hd : decode c.code pc = .ok (.areturn, 1)) {n : Nat} (hS : s.Since vm₁ n) (hn : n ≤ T.heap.size)
    (hQ : Q (some w) T.heap locs) (h1 : cells ≤ C) (h2 : slots ≤ S) (hlk : meth.locks = false := by assumption) : Gets p e below (OutW Q s below C S) (T.setTop (mkF m pc Ls (w :: rest))) :=
  GetsW.fin X hS hn (fun h => by rw [hret] at h; cases h) hlk (fun fs hr => retOut X hx hret (by cases t <;> first | (cases ht; done) | (cases w <;> first | rfl | (cases hw))) (Or.inr (Or.inr (Or.inr (Or.inr ⟨rfl, ht, hw⟩)))) hd hr) hQ h1 h2
theorem GetsW.retV {Q : Option Value → Heap → List Loc → Prop} {C S : Nat} {vm₁ : Vm} (X : Stand p l e R (s.setVm vm₁) m args below meth c T locs cells slots) (hx : p.tables.exec = Jvm.exec) {pc : Nat} {Ls : Array Slot} (hret : meth.sig.returnType = none) (hd : decode c.code pc = .ok (.return_, 1)) {n : Nat} (hS : s.Since vm₁ n) (hn : n ≤ T.heap.size)
    (hQ : Q none T.heap locs) (h1 : cells ≤ C) (h2 : slots ≤ S) (hlk : meth.locks = false := by assumption) : Gets p e below (OutW Q s below C S) (T.setTop (mkF m pc Ls [])) :=
  GetsW.fin X hS hn (fun _ => rfl) hlk (fun fs hr => X.returnOut hx hret hd hr) hQ h1 h2
/-- the Strings xs are no constants', and stand -/
def Sfs (Z : State) (EL : List (String × Nat)) (vm : Vm) (h : Heap) (xs : List Addr) : Prop := ∀ x ∈ xs, Safe Z EL vm h x ∧ x < h.size
section Sf
variable {Z : State} {EL : List (String × Nat)} {vm vm1 : Vm} {h h' : Heap} {xs ws : List Addr}
theorem Sfs.nil : Sfs Z EL vm h [] := fun _ q => by cases q
theorem Sfs.cons {x : Addr} (q : Safe Z EL vm h x) (l : x < h.size) (S : Sfs Z EL vm h xs) : Sfs Z EL vm h (x :: xs) := fun y hy => by
  rcases List.mem_cons.mp hy with rfl | hy
  · exact ⟨q, l⟩
  · exact S y hy
theorem Sfs.sub {ys : List Addr} (S : Sfs Z EL vm h xs) (hs : ∀ y ∈ ys, y ∈ xs) : Sfs Z EL vm h ys := fun y hy => S y (hs y hy)
theorem Sfs.ext (E : Ext h h') (H : CHv Z EL vm h) (S : Sfs Z EL vm h xs) : Sfs Z EL vm h' xs := fun x hx => ⟨Safe.ext E H (S x hx).1, Nat.lt_of_lt_of_le (S x hx).2 E.1⟩
theorem Sfs.keep (K : Keep h h' ws) (hs : ∀ x ∈ ws, Safe Z EL vm h x) (H : CHv Z EL vm h) (S : Sfs Z EL vm h xs) : Sfs Z EL vm h' xs := fun x hx => ⟨Safe.keep K hs H (S x hx).1, Nat.lt_of_lt_of_le (S x hx).2 K.1⟩
theorem Sfs.wr {a : Addr} {sl : Nat} {w : Value} (W : Wr h h' a sl w) (Sa : Safe Z EL vm h a) (H : CHv Z EL vm h) (S : Sfs Z EL vm h xs) : Sfs Z EL vm h' xs := fun x hx => ⟨Safe.wr W Sa H (S x hx).1, Nat.lt_of_lt_of_le (S x hx).2 (Nat.le_of_eq W.size.symm)⟩
theorem Sfs.run (C : CHr Z EL vm h vm1 h') (S : Sfs Z EL vm h xs) : Sfs Z EL vm1 h' xs := fun x hx => ⟨C.safe (S x hx).2 (S x hx).1, Nat.lt_of_lt_of_le (S x hx).2 C.2.1⟩
end Sf
def OutH (Z : State) (EL : List (String × Nat)) (Q : Option Value → Heap → List Loc → Prop) (s : State) (below : List Frame) (C S : Nat) (t : State) : Prop := ∃ o, t.status = .running ∧ Ended t below o ∧ ∃ v L, o = .returned v ∧ Q v t.heap L ∧ CHr Z EL s.vm s.heap t.vm t.heap ∧ ReturnedEndW s o t L C S
theorem GetsH.out {Z : State} {EL : List (String × Nat)} {Q : Option Value → Heap → List Loc → Prop} {C S : Nat} {U : State} (h : Gets p e below (OutH Z EL Q s below C S) U) : ∃ s₂ o, Steps p.tables e below U s₂ ∧ s₂.status = .running ∧ Ended s₂ below o ∧ ∃ v L, o = .returned v ∧ Q v s₂.heap L ∧ CHr Z EL s.vm s.heap s₂.vm s₂.heap ∧ ReturnedEndW s o s₂ L C S := by
  obtain ⟨t, a, o, b⟩ := h; exact ⟨t, o, a, b⟩
theorem GetsH.fin {Z : State} {EL : List (String × Nat)} {Q : Option Value → Heap → List Loc → Prop} {C S : Nat} {U : State} {vm₁ : Vm} (X : Stand p l e R (s.setVm vm₁) m args below meth c T locs cells slots) {n : Nat} (hS : s.Since vm₁ n) (hn : n ≤ T.heap.size) {h0 h1' : Heap} (hh : s.heap = h0) (eT : T.heap = h1') (hC : CHr Z EL s.vm h0 T.vm h1') {v : Option Value} (hv : meth.sig.returnType = none → v = none) (hlk : meth.locks = false)
    (k : ∀ fs, (∀ (f : JFrame) (acts : List Action), f.method = m → f.locked = none → f.entered = [] → (doReturn e (T.setTop f) acts v).1 = T.setFrames fs) → Steps p.tables e below U (T.setFrames fs)) (hQ : Q v T.heap locs) (h1 : cells ≤ C) (h2 : slots ≤ S) : Gets p e below (OutH Z EL Q s below C S) U := by
  obtain ⟨fs, hr, hrun, hended, w1, w2, w3, w4⟩ := X.leaveW hS hn (v := v) hv hlk
  subst hh; subst eT
  exact ⟨_, k fs hr, _, hrun, hended, _, _, rfl, hQ, hC, w1, w2, w3, w4.mono h1 h2⟩
theorem GetsH.retN {Z : State} {EL : List (String × Nat)} {Q : Option Value → Heap → List Loc → Prop} {C S : Nat} {vm₁ : Vm} (X : Stand p l e R (s.setVm vm₁) m args below meth c T locs cells slots) (hx : p.tables.exec = Jvm.exec) {pc : Nat} {Ls : Array Slot} {z : Int32} {t : FieldType} {rest : List Value} (hret : meth.sig.returnType = some t) (ht : t = .boolean ∨ t = .byte ∨ t = .char ∨ t = .short) (hd : decode c.code pc = .ok (.ireturn, 1)) {n : Nat} (hS : s.Since vm₁ n) (hn : n ≤ T.heap.size)
    {h0 h1' : Heap} (hh : s.heap = h0) (eT : T.heap = h1') (hC : CHr Z EL s.vm h0 T.vm h1') (hQ : Q (some (.int (nar t z))) T.heap locs) (h1 : cells ≤ C) (h2 : slots ≤ S) (hlk : meth.locks = false := by assumption) : Gets p e below (OutH Z EL Q s below C S) (T.setTop (mkF m pc Ls (.int z :: rest))) :=
  GetsH.fin X hS hn hh eT hC (fun h => by rw [hret] at h; cases h) hlk (fun fs hr => Jvm.RoadKit.retN X hx hret ht hd hr) hQ h1 h2
/-- the payer of a callee that may load String constants and writes Strings that are no constants' -/
theorem own_backS {Z : State} {a0 : Array Value} {EL : List (String × Nat)} {h : Heap} {vm0 : Vm} {y : MethodName} {bytes : ByteArray} {maxL : Nat} {ret : Option FieldType} {rm : Room} {len W : Nat} {as' : Array Value} {Q : Option Value → Heap → List Loc → Prop} {xs : List Addr}
    (hM : MetFree l y (head1 [Cond.code y bytes maxL ret] rm) (fun a U => a = as' ∧ Z.Warmed39 U.vm ∧ U.heap = h ∧ CHv Z EL U.vm h ∧ Sfs Z EL U.vm h xs) (fun _ _ _ _ _ => True) (fun _ U o U' => ∃ v L, o = .returned v ∧ Q v U'.heap L ∧ ReturnedEndW U o U' L rm.cells rm.slots))
    (hZ : Z.Warmed39 vm0) (wc : (Cond.code y bytes maxL ret).before a0 Z = true) (wz : (Cond.initialized y.cls).before a0 Z = true) (hf : rm.frames + 1 ≤ R.frames) (hl : W + (maxL + 11) + rm.locals ≤ R.locals) (hEL : EW Z a0 EL) (H : CHv Z EL vm0 h) (Sf : Sfs Z EL vm0 h xs) :
    BackS l R p e below (s.setVm vm0) args y len W (fun A a => a = as' ∧ A.U.heap = h ∧ A.cells + rm.cells ≤ R.cells ∧ A.slots + rm.slots ≤ R.slots)
      (fun A _ v B => ∃ L, Q v B.U.heap L ∧ B.locs = A.locs ++ L ∧ B.cells = A.cells + rm.cells ∧ B.slots = A.slots + rm.slots) := by
  refine BackS.of_freeW (bytes := bytes) (maxL := maxL) (ret := ret) (E := fun _ _ o t L k n => k = rm.cells ∧ n = rm.slots ∧ ∃ v, o = .returned v ∧ Q v t.heap L) hM hf hl ?_ ?_ (fun _ _ _ _ _ _ _ _ _ => trivial) ?_ ?_
  · intro m meth c A a Y hp
    have hU : Z.Warmed39 A.U.vm := wtrans (s := s.setVm vm0) hZ Y.warmed
    exact ⟨by show (Cond.and _ .tt).before a A.U = true; rw [Cond.before_and, mv hU wc]; rfl, mv hU wc, mv hU wz, hp.2.2.1, hp.2.2.2⟩
  · intro m meth c A a g mk Y hp
    have q := CHv.at Y hZ hEL H
    exact ⟨hp.1, wtrans (s := s.setVm vm0) hZ Y.warmed, hp.2.1, q.1, Sfs.run q Sf⟩
  · rintro _ _ _ _ ⟨v, L, h1, h2, h3⟩
    exact ⟨L, _, _, h3, rfl, rfl, v, h1, h2⟩
  · rintro m meth c A a g mk v t L k n Y hp _ _ ⟨e1, e2, v', e3, e4⟩
    cases e3; subst e1 e2
    exact ⟨L, e4, rfl, rfl, rfl⟩
/-- the payer of a callee that may load String constants, the constants' invariant handed over at its start -/
theorem own_backC {Z : State} {a0 : Array Value} {EL : List (String × Nat)} {h : Heap} {vm0 : Vm} {y : MethodName} {bytes : ByteArray} {maxL : Nat} {ret : Option FieldType} {rm : Room} {len W : Nat} {as' : Array Value} {Q : Option Value → Heap → List Loc → Prop}
    (hM : MetFree l y (head1 [Cond.code y bytes maxL ret] rm) (fun a U => a = as' ∧ Z.Warmed39 U.vm ∧ U.heap = h ∧ CHv Z EL U.vm h) (fun _ _ _ _ _ => True) (fun _ U o U' => ∃ v L, o = .returned v ∧ Q v U'.heap L ∧ ReturnedEndW U o U' L rm.cells rm.slots))
    (hZ : Z.Warmed39 vm0) (wc : (Cond.code y bytes maxL ret).before a0 Z = true) (wz : (Cond.initialized y.cls).before a0 Z = true) (hf : rm.frames + 1 ≤ R.frames) (hl : W + (maxL + 11) + rm.locals ≤ R.locals) (hEL : EW Z a0 EL) (H : CHv Z EL vm0 h) :
    BackS l R p e below (s.setVm vm0) args y len W (fun A a => a = as' ∧ A.U.heap = h ∧ A.cells + rm.cells ≤ R.cells ∧ A.slots + rm.slots ≤ R.slots)
      (fun A _ v B => ∃ L, Q v B.U.heap L ∧ B.locs = A.locs ++ L ∧ B.cells = A.cells + rm.cells ∧ B.slots = A.slots + rm.slots) := by
  refine BackS.of_freeW (bytes := bytes) (maxL := maxL) (ret := ret) (E := fun _ _ o t L k n => k = rm.cells ∧ n = rm.slots ∧ ∃ v, o = .returned v ∧ Q v t.heap L) hM hf hl ?_ ?_ (fun _ _ _ _ _ _ _ _ _ => trivial) ?_ ?_
  · intro m meth c A a Y hp
    have hU : Z.Warmed39 A.U.vm := wtrans (s := s.setVm vm0) hZ Y.warmed
    exact ⟨by show (Cond.and _ .tt).before a A.U = true; rw [Cond.before_and, mv hU wc]; rfl, mv hU wc, mv hU wz, hp.2.2.1, hp.2.2.2⟩
  · intro m meth c A a g mk Y hp
    exact ⟨hp.1, wtrans (s := s.setVm vm0) hZ Y.warmed, hp.2.1, (CHv.at Y hZ hEL H).1⟩
  · rintro _ _ _ _ ⟨v, L, h1, h2, h3⟩
    exact ⟨L, _, _, h3, rfl, rfl, v, h1, h2⟩
  · rintro m meth c A a g mk v t L k n Y hp _ _ ⟨e1, e2, v', e3, e4⟩
    cases e3; subst e1 e2
    exact ⟨L, e4, rfl, rfl, rfl⟩
theorem own_mir {Z : State} {C : String} {mr : Addr} (hZ : Z.Warmed39 s.vm) (M : Mir Z C mr) : (Term.mirror C).eval args s none [] s = some (.ref mr) := by
  obtain ⟨c, k, h1, h2, h3, -⟩ := M
  obtain ⟨k', q, ek⟩ := hZ.alike.2.2 _ _ h2
  have h4 : s.vm.findClass C = some c := by rw [hZ.alike.findClass]; exact h1
  have h5 : k'.mirror = some mr := by rw [ek]; exact h3
  simp [Term.eval, h4, q, h5]
theorem own_cI (i : Int32) : (Value.int i).category = 1 := rfl
theorem own_cJ (i : Int64) : (Value.long i).category = 2 := rfl
theorem own_cR (a : Addr) : (Value.ref a).category = 1 := rfl
theorem own_cN : Value.null.category = 1 := rfl
theorem own_cF (i : UInt32) : (Value.float i).category = 1 := rfl
theorem own_cD (i : UInt64) : (Value.double i).category = 2 := rfl
theorem own_catR {w : Value} (hw : w.isRef = true) : w.category = 1 := by
  cases w <;> first | rfl | cases hw
theorem own_narrow_ref {ty : FieldType} {w : Value} (hw : w.isRef = true) : narrow ty w = w := by
  rcases ref_cases hw with rfl | ⟨a, rfl⟩ <;> cases ty <;> rfl
theorem own_fits_obj {C : String} {w : Value} (hw : w.isRef = true) : fits (.object C) w = true := by
  rcases ref_cases hw with rfl | ⟨a, rfl⟩ <;> rfl
theorem own_fits_arr {t : FieldType} {w : Value} (hw : w.isRef = true) : fits (.array t) w = true := by
  rcases ref_cases hw with rfl | ⟨a, rfl⟩ <;> rfl
theorem own_selPriv {Z : State} {a0 : Array Value} {y : MethodName} {n : Nat} (wi : (Cond.instantiable y.cls n).before a0 Z = true) (wp : (Cond.privateMethod y).before a0 Z = true) (wm : (Cond.instanceMethod y).before a0 Z = true) (hy : y.cls ≠ "java/lang/invoke/MethodHandle" ∧ y.cls ≠ "java/lang/invoke/VarHandle") : (Cond.selects y.cls y y).before a0 Z = true := by
  obtain ⟨c, k, h1, h2, -, h4, -, -⟩ := Cond.instantiable_spec wi
  exact Jvm.Stand.selects_self_of_private h1 h2 (Bool.or_eq_false_iff.mp h4).1 (Cond.privateMethod_at wp) wm hy
theorem own_NS_root {Z : State} {a0 : Array Value} {O K : String} {n : Nat} (w : (Cond.noSuperclass O).before a0 Z = true) (wk : (Cond.instantiable K n).before a0 Z = true) (hn : O ≠ K) : NS Z O K := by
  obtain ⟨c, k, h1, h2, h3, -, -⟩ := Cond.noSuperclass_spec w
  obtain ⟨t, kt, g1, -⟩ := Cond.instantiable_spec wk
  have ne := ids_ne h1 g1 hn
  refine ⟨c, t, h1, g1, fun fuel => ?_⟩
  cases fuel with
  | zero => rfl
  | succ f => simp [Vm.isSubclassAux, ne, h2, h3]
theorem own_NS_no {Z : State} {a0 : Array Value} {C S K : String} {n : Nat} (w : (Cond.superclass C S).before a0 Z = true) (wk : (Cond.instantiable K n).before a0 Z = true) (nn : NS Z C K) (hn : C ≠ K) : ∃ c t, Z.vm.findClass C = some c ∧ Z.vm.findClass K = some t ∧ Z.vm.assignable c t = false := by
  obtain ⟨c, t, h0, g0, n3⟩ := nn
  obtain ⟨p, k, kp, h1, h2, h3, h4, h5, -, h7⟩ := Cond.superclass_spec h0 w
  obtain ⟨t', kt, g1, g2, g3, g4, -⟩ := Cond.instantiable_spec wk
  cases g0.symm.trans g1
  have ne := ids_ne h0 g0 hn
  have g5 : kt.isInterface = false := by cases hq : kt.isInterface <;> simp_all
  refine ⟨c, t, h0, g0, ?_⟩
  show Z.vm.assignableAux (255 + 1) c t = false
  simp [Vm.assignableAux, ne, h2, g2, h5, g3, g5, Vm.isSubclass, n3]
end Own
end Jvm.RoadKit
namespace Jvm.Pilot.@@N@@
open Jvm Jvm.ClassFile Sem Op Lib Jvm.Free Jvm.Stand Jvm.LawKit Jvm.RoadKit Bundle Jvm.Pilot.@@N@@.Jvm.D
abbrev cn0 : String := "java/lang/String"
abbrev cn1 : String := "com/example/causeway/causeway/formats/OaiDcUnit"
abbrev cn2 : String := "java/util/ArrayList"
abbrev cn3 : String := "java/lang/Object"
abbrev cn4 : String := "Ljava/lang/String;"
abbrev cn5 : String := "com/example/causeway/causeway/formats/DcValue"
abbrev cn6 : String := "[Ljava/lang/Object;"
abbrev cn7 : String := "java/util/ImmutableCollections$List12"
abbrev cn8 : String := "java/lang/StringUTF16"
abbrev cn9 : String := "java/util/ImmutableCollections"
abbrev cn10 : String := "java/util/AbstractList"
abbrev cn11 : String := "Ljava/lang/Object;"
abbrev cn12 : String := "Ljava/util/List;"
abbrev cn13 : String := "com/example/causeway/causeway/formats/OaiDcUnitIsSetAsidePinLaw"
abbrev cn14 : String := "(Ljava/util/Collection;)Ljava/util/List;"
abbrev cn15 : String := "()[Ljava/lang/Object;"
abbrev cn16 : String := "(ILjava/lang/String;Ljava/lang/String;Ljava/util/List;Ljava/lang/String;)V"
abbrev cn17 : String := "com/example/causeway/causeway/formats/DcElement"
abbrev cn18 : String := "Lcom/example/causeway/causeway/formats/DcElement;"
abbrev cn19 : String := "java/util/ImmutableCollections$ListN"
abbrev cn20 : String := "(ILjava/lang/String;Ljava/lang/String;Ljava/util/List;)Lcom/example/causeway/causeway/formats/OaiDcUnit;"
abbrev cn21 : String := "java/util/ImmutableCollections$AbstractImmutableList"
abbrev cn22 : String := "java/util/ImmutableCollections$AbstractImmutableCollection"
abbrev cn23 : String := "(ILjava/lang/String;Ljava/lang/String;)Lcom/example/causeway/causeway/formats/OaiDcUnit;"
abbrev cn24 : String := "(Lcom/example/causeway/causeway/formats/DcElement;Ljava/lang/String;)V"
abbrev cn25 : String := "(Lcom/example/causeway/causeway/formats/DcElement;Ljava/lang/String;Ljava/lang/String;)V"

theorem own_len31 {args : Array Value} {first s : State} {o : Option Outcome} {idx : List Nat} {t : Term} {a : Addr} {cl : Cell} {z : Int32} (ht : t.eval args first o idx s = some (.ref a)) (ha : s.arrayAt? a = some cl) (h : (Term.length t).eval args first o idx s = some (.int z)) : cl.slots.size < 2 ^ 31 ∧ cl.slots.size.toInt32 = z := by
  by_cases q : cl.slots.size < 2 ^ 31
  · refine ⟨q, ?_⟩
    rw [len_f ht ha q] at h
    exact Value.int.inj (Option.some.inj h)
  · exfalso; simp [Term.eval, ht, ha, q] at h
theorem own_le255 (x : Int32) : ¬ ((255 : Int32) < ((x &&& (255 : Int32)).toUInt32.toUInt16.toUInt32.toInt32)) := by
  rw [i2c_mask, Int32.lt_iff_toInt_lt, Jvm.Kit.i32_mask x 255 (k := 8) (by decide) (by decide)]
  simp only [Int32.reduceToInt]; omega
theorem own_nar255 (x : Int32) : ¬ ((255 : Int32) < (nar .char ((x &&& (255 : Int32)).toUInt32.toUInt16.toUInt32.toInt32))) := by
  rw [i2c_mask]; show ¬ ((255 : Int32) < ((x &&& (255 : Int32)).toUInt32.toUInt16.toUInt32.toInt32)); exact own_le255 x
def own_EL : List (String × Nat) := consts_1
theorem w256 {Z : State} {a0 : Array Value} (hw : ∀ d ∈ tables_1, d.before a0 Z = true) : (Jvm.Cond.stringLink cn0 (7 : Nat) "").before a0 Z = true := hw _ (List.mem_of_getElem? (i := 256) rfl)
theorem own_EW {Z : State} {a0 : Array Value} (hw : ∀ d ∈ tables_1, d.before a0 Z = true) : EW Z a0 own_EL := (EW.cons (w256 hw) (by decide) EW.nil)
theorem w2 {Z : State} {a0 : Array Value} (hw : ∀ d ∈ tables_1, d.before a0 Z = true) : (Jvm.Cond.initialized cn0).before a0 Z = true := hw _ (List.mem_of_getElem? (i := 2) rfl)
theorem w10 {Z : State} {a0 : Array Value} (hw : ∀ d ∈ tables_1, d.before a0 Z = true) : (Jvm.Cond.instantiable cn0 (4 : Nat)).before a0 Z = true := hw _ (List.mem_of_getElem? (i := 10) rfl)
theorem w14 {Z : State} {a0 : Array Value} (hw : ∀ d ∈ tables_1, d.before a0 Z = true) : (Jvm.Cond.arrayClass Jvm.ClassFile.FieldType.byte).before a0 Z = true := hw _ (List.mem_of_getElem? (i := 14) rfl)
theorem w23 {Z : State} {a0 : Array Value} (hw : ∀ d ∈ tables_1, d.before a0 Z = true) : (Jvm.Cond.laysFinal cn0 cn0 "value" "[B").before a0 Z = true := hw _ (List.mem_of_getElem? (i := 23) rfl)
theorem w25 {Z : State} {a0 : Array Value} (hw : ∀ d ∈ tables_1, d.before a0 Z = true) : (Jvm.Cond.laysFinal cn0 cn0 "coder" "B").before a0 Z = true := hw _ (List.mem_of_getElem? (i := 25) rfl)
theorem w257 {Z : State} {a0 : Array Value} (hw : ∀ d ∈ tables_1, d.before a0 Z = true) : (Jvm.Cond.soleField cn0 "value").before a0 Z = true := hw _ (List.mem_of_getElem? (i := 257) rfl)
theorem w258 {Z : State} {a0 : Array Value} (hw : ∀ d ∈ tables_1, d.before a0 Z = true) : (Jvm.Cond.soleField cn0 "coder").before a0 Z = true := hw _ (List.mem_of_getElem? (i := 258) rfl)
theorem own_wS {Z : State} {a0 : Array Value} (hw : ∀ d ∈ tables_1, d.before a0 Z = true) : ∀ a ∈ Bundle.stringAtoms, a.before a0 Z = true := by
  intro d hd
  simp only [Bundle.stringAtoms, List.mem_cons, List.not_mem_nil, or_false] at hd
  rcases hd with rfl | rfl | rfl | rfl | rfl | rfl | rfl
  · exact (w2 hw)
  · exact (w10 hw)
  · exact (w14 hw)
  · exact (w23 hw)
  · exact (w25 hw)
  · exact (w257 hw)
  · exact (w258 hw)
theorem w28 {Z : State} {a0 : Array Value} (hw : ∀ d ∈ tables_1, d.before a0 Z = true) : (Jvm.Cond.initialized cn2).before a0 Z = true := hw _ (List.mem_of_getElem? (i := 28) rfl)
theorem w137 {Z : State} {a0 : Array Value} (hw : ∀ d ∈ tables_1, d.before a0 Z = true) : (Jvm.Cond.initialized cn17).before a0 Z = true := hw _ (List.mem_of_getElem? (i := 137) rfl)
theorem w138 {Z : State} {a0 : Array Value} (hw : ∀ d ∈ tables_1, d.before a0 Z = true) : (Jvm.Cond.laysStatic cn17 "TITLE" cn18).before a0 Z = true := hw _ (List.mem_of_getElem? (i := 138) rfl)
theorem d17_0 : decode method_3_code 0 = .ok (.iload_n 1, 1) := by decide +kernel
theorem d17_1 : decode method_3_code 1 = .ok (.sipush 255, 3) := by decide +kernel
theorem d17_4 : decode method_3_code 4 = .ok (.iand, 1) := by decide +kernel
theorem d17_5 : decode method_3_code 5 = .ok (.i2c, 1) := by decide +kernel
theorem d17_6 : decode method_3_code 6 = .ok (.istore_n 3, 1) := by decide +kernel
theorem d17_7 : decode method_3_code 7 = .ok (.iload_n 2, 1) := by decide +kernel
theorem d17_8 : decode method_3_code 8 = .ok (.sipush 255, 3) := by decide +kernel
theorem d17_11 : decode method_3_code 11 = .ok (.iand, 1) := by decide +kernel
theorem d17_12 : decode method_3_code 12 = .ok (.i2c, 1) := by decide +kernel
theorem d17_13 : decode method_3_code 13 = .ok (.istore 4, 2) := by decide +kernel
theorem d17_15 : decode method_3_code 15 = .ok (.iload_n 1, 1) := by decide +kernel
theorem d17_16 : decode method_3_code 16 = .ok (.bipush 8, 2) := by decide +kernel
theorem d17_18 : decode method_3_code 18 = .ok (.iushr, 1) := by decide +kernel
theorem d17_19 : decode method_3_code 19 = .ok (.sipush 255, 3) := by decide +kernel
theorem d17_22 : decode method_3_code 22 = .ok (.iand, 1) := by decide +kernel
theorem d17_23 : decode method_3_code 23 = .ok (.i2c, 1) := by decide +kernel
theorem d17_24 : decode method_3_code 24 = .ok (.istore 5, 2) := by decide +kernel
theorem d17_26 : decode method_3_code 26 = .ok (.iload_n 0, 1) := by decide +kernel
theorem d17_27 : decode method_3_code 27 = .ok (.ifCond .ne 14, 3) := by decide +kernel
theorem d17_30 : decode method_3_code 30 = .ok (.new 14, 3) := by decide +kernel
theorem w116 {Z : State} {a0 : Array Value} (hw : ∀ d ∈ tables_1, d.before a0 Z = true) : (Jvm.Cond.classLink cn13 (14 : Nat) cn0).before a0 Z = true := hw _ (List.mem_of_getElem? (i := 116) rfl)
theorem d17_33 : decode method_3_code 33 = .ok (.dup, 1) := by decide +kernel
theorem d17_34 : decode method_3_code 34 = .ok (.iconst 0, 1) := by decide +kernel
theorem d17_35 : decode method_3_code 35 = .ok (.newarray .char, 2) := by decide +kernel
theorem w115 {Z : State} {a0 : Array Value} (hw : ∀ d ∈ tables_1, d.before a0 Z = true) : (Jvm.Cond.arrayClass Jvm.ClassFile.FieldType.char).before a0 Z = true := hw _ (List.mem_of_getElem? (i := 115) rfl)
theorem d17_37 : decode method_3_code 37 = .ok (.invokespecial 54, 3) := by decide +kernel
theorem w117 {Z : State} {a0 : Array Value} (hw : ∀ d ∈ tables_1, d.before a0 Z = true) : (Jvm.Cond.methodLink cn13 (54 : Nat) ({ cls := cn0, name := "<init>", desc := "([C)V" } : Jvm.MethodName)).before a0 Z = true := hw _ (List.mem_of_getElem? (i := 117) rfl)
theorem d18_0 : decode jdk_42_method_3_code 0 = .ok (.aload_n 0, 1) := by decide +kernel
theorem d18_1 : decode jdk_42_method_3_code 1 = .ok (.aload_n 1, 1) := by decide +kernel
theorem d18_2 : decode jdk_42_method_3_code 2 = .ok (.iconst 0, 1) := by decide +kernel
theorem d18_3 : decode jdk_42_method_3_code 3 = .ok (.aload_n 1, 1) := by decide +kernel
theorem d18_4 : decode jdk_42_method_3_code 4 = .ok (.arraylength, 1) := by decide +kernel
theorem d18_5 : decode jdk_42_method_3_code 5 = .ok (.aconst_null, 1) := by decide +kernel
theorem d18_6 : decode jdk_42_method_3_code 6 = .ok (.invokespecial 27, 3) := by decide +kernel
theorem w120 {Z : State} {a0 : Array Value} (hw : ∀ d ∈ tables_1, d.before a0 Z = true) : (Jvm.Cond.methodLink cn0 (27 : Nat) ({ cls := cn0, name := "<init>", desc := "([CIILjava/lang/Void;)V" } : Jvm.MethodName)).before a0 Z = true := hw _ (List.mem_of_getElem? (i := 120) rfl)
theorem d19_0 : decode jdk_42_method_149_code 0 = .ok (.aload_n 0, 1) := by decide +kernel
theorem d19_1 : decode jdk_42_method_149_code 1 = .ok (.invokespecial 1, 3) := by decide +kernel
theorem w19 {Z : State} {a0 : Array Value} (hw : ∀ d ∈ tables_1, d.before a0 Z = true) : (Jvm.Cond.methodLink cn0 (1 : Nat) ({ cls := cn3, name := "<init>", desc := "()V" } : Jvm.MethodName)).before a0 Z = true := hw _ (List.mem_of_getElem? (i := 19) rfl)
theorem w20 {Z : State} {a0 : Array Value} (hw : ∀ d ∈ tables_1, d.before a0 Z = true) : (Jvm.Cond.instanceMethod ({ cls := cn3, name := "<init>", desc := "()V" } : Jvm.MethodName)).before a0 Z = true := hw _ (List.mem_of_getElem? (i := 20) rfl)
theorem w21 {Z : State} {a0 : Array Value} (hw : ∀ d ∈ tables_1, d.before a0 Z = true) : (Jvm.Cond.code ({ cls := cn3, name := "<init>", desc := "()V" } : Jvm.MethodName) object_method_1_code (1 : Nat) (Option.none : Option Jvm.ClassFile.FieldType)).before a0 Z = true := hw _ (List.mem_of_getElem? (i := 21) rfl)
theorem d19_4 : decode jdk_42_method_149_code 4 = .ok (.iload_n 3, 1) := by decide +kernel
theorem d19_5 : decode jdk_42_method_149_code 5 = .ok (.ifCond .ne 22, 3) := by decide +kernel
theorem d19_8 : decode jdk_42_method_149_code 8 = .ok (.aload_n 0, 1) := by decide +kernel
theorem d19_9 : decode jdk_42_method_149_code 9 = .ok (.ldc 7, 2) := by decide +kernel
theorem d19_11 : decode jdk_42_method_149_code 11 = .ok (.getfield 9, 3) := by decide +kernel
theorem w22 {Z : State} {a0 : Array Value} (hw : ∀ d ∈ tables_1, d.before a0 Z = true) : (Jvm.Cond.fieldLink cn0 (9 : Nat) cn0 "value" "[B").before a0 Z = true := hw _ (List.mem_of_getElem? (i := 22) rfl)
theorem d19_14 : decode jdk_42_method_149_code 14 = .ok (.putfield 9, 3) := by decide +kernel
theorem d19_17 : decode jdk_42_method_149_code 17 = .ok (.aload_n 0, 1) := by decide +kernel
theorem d19_18 : decode jdk_42_method_149_code 18 = .ok (.ldc 7, 2) := by decide +kernel
theorem d19_20 : decode jdk_42_method_149_code 20 = .ok (.getfield 15, 3) := by decide +kernel
theorem w24 {Z : State} {a0 : Array Value} (hw : ∀ d ∈ tables_1, d.before a0 Z = true) : (Jvm.Cond.fieldLink cn0 (15 : Nat) cn0 "coder" "B").before a0 Z = true := hw _ (List.mem_of_getElem? (i := 24) rfl)
theorem d19_23 : decode jdk_42_method_149_code 23 = .ok (.putfield 15, 3) := by decide +kernel
theorem d19_26 : decode jdk_42_method_149_code 26 = .ok (.return_, 1) := by decide +kernel
def Q_r2_init (Z : State) (ya1 : Addr) (ya2 : Addr) (h0 : Heap) (n0 : Nat) (v : Option Value) (h : Heap) (L : List Loc) : Prop := Fr n0 L ∧ Keep h0 h [ya1] ∧ ((∃ (b2 : Addr), v = none ∧ Fld Z h ya1 cn0 "value" "[B" (.ref b2) ∧ Fld Z h ya1 cn0 "coder" "B" (.int (0 : Int32))))
theorem pn_java_lang_String : plainName "java/lang/String" = true := by first | (simp [plainName, overriddenIn]; done) | decide +kernel
set_option maxRecDepth 65536 in
set_option maxHeartbeats 40000000 in
theorem r2_init (l : Launch) (Z : State) (a0 : Array Value) (hw : ∀ d ∈ tables_1, d.before a0 Z = true) (ws : List Jvm.Cond) (ya1 : Addr) (ya2 : Addr) (h0 : Heap) (n0 : Nat) (O0 : Old Z n0 h0) (F0 : Fld Z h0 ya1 cn0 "value" "[B" .null) (F1 : Exa Z h0 ya1 cn0) (F2 : Fld Z h0 ya1 cn0 "coder" "B" (.int (0 : Int32))) (gq_ya1 : n0 ≤ ya1) :
    MetFree l (⟨cn0, "<init>", "([CIILjava/lang/Void;)V"⟩ : MethodName) (head1 (Jvm.Cond.code (⟨cn0, "<init>", "([CIILjava/lang/Void;)V"⟩ : MethodName) jdk_42_method_149_code 6 none :: ws) ({ frames := 1, cells := 2, slots := 4, locals := 12 } : Room)) (fun a U => a = #[(.ref ya1), (.ref ya2), (.int (0 : Int32)), (.int (0 : Int32)), .null] ∧ Z.Warmed39 U.vm ∧ U.heap = h0 ∧ CHv Z own_EL U.vm h0) (fun _ _ _ _ _ => True) (fun _ U o U' => ∃ v L, o = .returned v ∧ Q_r2_init Z ya1 ya2 h0 n0 v U'.heap L ∧ ReturnedEndW U o U' L ({ frames := 1, cells := 2, slots := 4, locals := 12 } : Room).cells ({ frames := 1, cells := 2, slots := 4, locals := 12 } : Room).slots) := by
  refine MetFree.of_bodySF (plainFor_of_name pn_java_lang_String) hisR ?_
  intro p e s m args below meth c s₁ Bd hml0 hP hK
  obtain ⟨rfl, hZ0, hh, hC0⟩ := hP
  have hx := Bd.exec
  have hby := Bd.bytes
  have hlk := Bd.notSynchronized
  have hml : c.maxLocals = 6 := hml0
  have hZ : Z.Warmed39 (s.setVm s.vm).vm := hZ0
  have hown : (s.setVm s.vm).vm.findClass cn0 = some m.cls := findClass_of_methodNamed Bd.named
  have hnm := (name_of_methodNamed Bd.named Bd.method).1
  have X0 : Stand p l e ({ frames := 1, cells := 2, slots := 4, locals := 12 } : Room) (s.setVm s.vm) m #[(.ref ya1), (.ref ya2), (.int (0 : Int32)), (.int (0 : Int32)), .null] below meth c s₁ [] 0 0 := Stand.of_body Bd
  have hS0 : s.Since s.vm s.heap.size := (State.WarmedH.refl s).since _
  have hk0 : s.heap.size ≤ h0.size := Nat.le_of_eq (congrArg Array.size hh)
  have e0 : s₁.heap = h0 := by rw [← hh, Bd.state]; rfl
  have N0 := Fr.nil n0
  have K0 := Keep.refl h0 [ya1]
  have Z0 : n0 ≤ h0.size := O0.1 ▸ O0.2.1
  have hef : entryFrame m #[(.ref ya1), (.ref ya2), (.int (0 : Int32)), (.int (0 : Int32)), .null] 6 = mkF m 0 #[.val (.ref ya1), .val (.ref ya2), .val (.int (0 : Int32)), .val (.int (0 : Int32)), .val .null, .unset] [] := by first | (simp [entryFrame, mkF, argsToLocals, Value.category]; done) | rfl
  rw [hef]
  refine GetsW.out (Q := Q_r2_init Z ya1 ya2 h0 n0) ?_
  show Gets p e below _ (s₁.setTop (mkF m 0 #[.val (.ref ya1), .val (.ref ya2), .val (.int (0 : Int32)), .val (.int (0 : Int32)), .val .null, .unset] []))
  refine Gets.of (fun t k => XS.aloadN X0.here hx rfl (hb hby d19_0) rfl rfl  k) ?_
  obtain ⟨T1, X1, e1, st1⟩ := initO X0 hx hZ hown (w19 hw) (w20 hw) (w21 hw) e0 (g := (mkF m 1 #[.val (.ref ya1), .val (.ref ya2), .val (.int (0 : Int32)), .val (.int (0 : Int32)), .val .null, .unset] [(.ref ya1)])) rfl (by rw [hml]; rfl) rfl (hb hby d19_1) (by decide) (W := 0) (by show 2 * 0 + _ ≤ _; exact Nat.le_of_eq rfl) (by decide)
  refine Gets.of st1 ?_
  show Gets p e below _ (T1.setTop (mkF m 4 #[.val (.ref ya1), .val (.ref ya2), .val (.int (0 : Int32)), .val (.int (0 : Int32)), .val .null, .unset] []))
  refine Gets.of (fun t k => XS.iloadN X1.here hx rfl (hb hby d19_4) rfl  k) ?_
  refine Gets.of (fun t k => XS.ifNo X1.here hx rfl (hb hby d19_5) rfl ((if0 _ _).trans (teq (by decide : (0 : Int32) = (0 : Int32))).2) k) ?_
  show Gets p e below _ (T1.setTop (mkF m 8 #[.val (.ref ya1), .val (.ref ya2), .val (.int (0 : Int32)), .val (.int (0 : Int32)), .val .null, .unset] []))
  refine Gets.of (fun t k => XS.aloadN X1.here hx rfl (hb hby d19_8) rfl rfl  k) ?_
  obtain ⟨a2, T2, h2, k12, b2, k2, X2, e2, E2, hS2, hk2, hZ2, hown2, A2, Fc2, Fv2, V2, -, -, C2, Li2, -, st2⟩ := ldcCH X1 hx hZ hown (w256 hw) (own_wS hw) e1 hS0 hk0 (own_EW hw) (List.mem_of_getElem? (l := own_EL) (i := 0) rfl) hC0 (vs := []) (z := (0 : Int32)) ⟨by decide, by decide⟩ (by decide) (by decide) (g := (mkF m 9 #[.val (.ref ya1), .val (.ref ya2), .val (.int (0 : Int32)), .val (.int (0 : Int32)), .val .null, .unset] [(.ref ya1)])) rfl (hb hby d19_9) (n := 0) (by decide) (by decide) (by decide) (by decide)
  have K3 := K0.ext E2
  have O3 := O0.ext E2
  have hk4 := Nat.le_trans hk0 E2.1
  have f5 : Fld Z h2 ya1 cn0 "value" "[B" .null := (F0.ext E2)
  have nl6 : ya1 ≠ a2 := Fld.ne f5 Fv2 nofun
  refine Gets.of st2 ?_
  show Gets p e below _ (T2.setTop (mkF m 11 #[.val (.ref ya1), .val (.ref ya2), .val (.int (0 : Int32)), .val (.int (0 : Int32)), .val .null, .unset] [(.ref a2), (.ref ya1)]))
  obtain ⟨T7, X7, e7, st7⟩ := getF X2 hx hZ2 hown2 (host := "") (Or.inl (w22 hw)) Via.refl e2 Fv2 (g := (mkF m 11 #[.val (.ref ya1), .val (.ref ya2), .val (.int (0 : Int32)), .val (.int (0 : Int32)), .val .null, .unset] [(.ref a2), (.ref ya1)])) rfl rfl (hb hby d19_11)
  refine Gets.of st7 ?_
  show Gets p e below _ (T7.setTop (mkF m 14 #[.val (.ref ya1), .val (.ref ya2), .val (.int (0 : Int32)), .val (.int (0 : Int32)), .val .null, .unset] [(.ref b2), (.ref ya1)]))
  have f8 : Exa Z h2 ya1 cn0 := (F1.ext E2)
  obtain ⟨T9, h9, X9, e9, W9, st9⟩ := putF X7 hx hZ2 hown2 (host := "") (Or.inl (w22 hw)) Via.refl e7 f5 f8 (Or.inr ⟨(w23 hw), rfl, hnm⟩) (w10 hw) (ty := (.array .byte)) (by decide) rfl rfl (g := (mkF m 14 #[.val (.ref ya1), .val (.ref ya2), .val (.int (0 : Int32)), .val (.int (0 : Int32)), .val .null, .unset] [(.ref b2), (.ref ya1)])) rfl rfl (hb hby d19_14)
  have N9 := Fr.snoc X9 N0 gq_ya1
  have Fw9 : Fld Z h9 ya1 cn0 "value" "[B" (.ref b2) := (f5).same W9
  have K10 : Keep h0 _ [ya1] := K3.wr W9 (Or.inl (by simp))
  have O10 := O3.wr W9 gq_ya1
  have hk11 := Nat.le_trans hk2 (Nat.le_of_eq W9.size.symm)
  refine Gets.of st9 ?_
  show Gets p e below _ (T9.setTop (mkF m 17 #[.val (.ref ya1), .val (.ref ya2), .val (.int (0 : Int32)), .val (.int (0 : Int32)), .val .null, .unset] []))
  refine Gets.of (fun t k => XS.aloadN X9.here hx rfl (hb hby d19_17) rfl rfl  k) ?_
  refine Gets.of (fun t k => ldcAgain X9 hx hZ2 hown2 (w256 hw) Li2 (g := (mkF m 18 #[.val (.ref ya1), .val (.ref ya2), .val (.int (0 : Int32)), .val (.int (0 : Int32)), .val .null, .unset] [(.ref ya1)])) rfl (hb hby d19_18) t k) ?_
  show Gets p e below _ (T9.setTop (mkF m 20 #[.val (.ref ya1), .val (.ref ya2), .val (.int (0 : Int32)), .val (.int (0 : Int32)), .val .null, .unset] [(.ref a2), (.ref ya1)]))
  have f12 : Fld Z h9 a2 cn0 "coder" "B" (.int (0 : Int32)) := (Fc2.other W9 (Or.inl (Ne.symm nl6)))
  obtain ⟨T13, X13, e13, st13⟩ := getF X9 hx hZ2 hown2 (host := "") (Or.inl (w24 hw)) Via.refl e9 f12 (g := (mkF m 20 #[.val (.ref ya1), .val (.ref ya2), .val (.int (0 : Int32)), .val (.int (0 : Int32)), .val .null, .unset] [(.ref a2), (.ref ya1)])) rfl rfl (hb hby d19_20)
  refine Gets.of st13 ?_
  show Gets p e below _ (T13.setTop (mkF m 23 #[.val (.ref ya1), .val (.ref ya2), .val (.int (0 : Int32)), .val (.int (0 : Int32)), .val .null, .unset] [(.int (0 : Int32)), (.ref ya1)]))
  have f14 : Exa Z h9 ya1 cn0 := (f8.wr W9)
  have f15 : Fld Z h9 ya1 cn0 "coder" "B" (.int (0 : Int32)) := ((F2.ext E2).other W9 (Or.inr (slot_ne (Or.inr (w25 hw)) (Or.inr (w23 hw)) (by decide) (t := .byte) (t' := (.array .byte)) (by decide) (by decide))))
  obtain ⟨T16, h16, X16, e16, W16, st16⟩ := putFN X13 hx hZ2 hown2 (w24 hw) Via.refl e13 f15 f14 (Or.inr ⟨(w25 hw), rfl, hnm⟩) (w10 hw) (ty := .byte) (v' := (.int (0 : Int32))) (by decide) rfl (by decide) (g := (mkF m 23 #[.val (.ref ya1), .val (.ref ya2), .val (.int (0 : Int32)), .val (.int (0 : Int32)), .val .null, .unset] [(.int (0 : Int32)), (.ref ya1)])) rfl rfl (hb hby d19_23)
  have N16 := Fr.snoc X16 N9 gq_ya1
  have Fw16 : Fld Z h16 ya1 cn0 "coder" "B" (.int (0 : Int32)) := (f15).same W16
  have K17 : Keep h0 _ [ya1] := K10.wr W16 (Or.inl (by simp))
  have O17 := O10.wr W16 gq_ya1
  have hk18 := Nat.le_trans hk11 (Nat.le_of_eq W16.size.symm)
  refine Gets.of st16 ?_
  show Gets p e below _ (T16.setTop (mkF m 26 #[.val (.ref ya1), .val (.ref ya2), .val (.int (0 : Int32)), .val (.int (0 : Int32)), .val .null, .unset] []))
  refine GetsW.retV X16 hx Bd.returns (hb hby d19_26) hS2 (e16 ▸ hk18) ?_ (by decide) (by decide)
  rw [e16]
  have f19 : Fld Z h16 ya1 cn0 "value" "[B" (.ref b2) := (Fw9.other W16 (Or.inr (slot_ne (Or.inr (w23 hw)) (Or.inr (w25 hw)) (by decide) (t := (.array .byte)) (t' := .byte) (by decide) (by decide))))
  exact ⟨N16, K17, ⟨b2, rfl, f19, Fw16⟩⟩
theorem w122 {Z : State} {a0 : Array Value} (hw : ∀ d ∈ tables_1, d.before a0 Z = true) : (Jvm.Cond.code ({ cls := cn0, name := "<init>", desc := "([CIILjava/lang/Void;)V" } : Jvm.MethodName) jdk_42_method_149_code (6 : Nat) (Option.none : Option Jvm.ClassFile.FieldType)).before a0 Z = true := hw _ (List.mem_of_getElem? (i := 122) rfl)
theorem pd__CIILjava_lang_Void_V : parseMethodDescriptor "([CIILjava/lang/Void;)V" = some ⟨[(.array .char), .int, .int, (.object "java/lang/Void")], none⟩ := by decide +kernel
theorem w121 {Z : State} {a0 : Array Value} (hw : ∀ d ∈ tables_1, d.before a0 Z = true) : (Jvm.Cond.instanceMethod ({ cls := cn0, name := "<init>", desc := "([CIILjava/lang/Void;)V" } : Jvm.MethodName)).before a0 Z = true := hw _ (List.mem_of_getElem? (i := 121) rfl)
theorem d18_9 : decode jdk_42_method_3_code 9 = .ok (.return_, 1) := by decide +kernel
def Q_r1_init (Z : State) (ya1 : Addr) (ya2 : Addr) (yk3 : ClassId) (h0 : Heap) (n0 : Nat) (v : Option Value) (h : Heap) (L : List Loc) : Prop := Fr n0 L ∧ Keep h0 h [ya1] ∧ ((∃ (b2_2 : Addr), v = none ∧ Fld Z h ya1 cn0 "value" "[B" (.ref b2_2) ∧ Fld Z h ya1 cn0 "coder" "B" (.int (0 : Int32))))
set_option maxRecDepth 65536 in
set_option maxHeartbeats 40000000 in
theorem r1_init (l : Launch) (Z : State) (a0 : Array Value) (hw : ∀ d ∈ tables_1, d.before a0 Z = true) (ws : List Jvm.Cond) (ya1 : Addr) (ya2 : Addr) (yk3 : ClassId) (h0 : Heap) (n0 : Nat) (O0 : Old Z n0 h0) (F0 : Arv Z h0 ya2 yk3 .char (0 : Int32) [] (.int (0 : Int32))) (F1 : Fld Z h0 ya1 cn0 "value" "[B" .null) (F2 : Exa Z h0 ya1 cn0) (F3 : Fld Z h0 ya1 cn0 "coder" "B" (.int (0 : Int32))) (gq_ya1 : n0 ≤ ya1) :
    MetFree l (⟨cn0, "<init>", "([C)V"⟩ : MethodName) (head1 (Jvm.Cond.code (⟨cn0, "<init>", "([C)V"⟩ : MethodName) jdk_42_method_3_code 2 none :: ws) ({ frames := 2, cells := 2, slots := 4, locals := 29 } : Room)) (fun a U => a = #[(.ref ya1), (.ref ya2)] ∧ Z.Warmed39 U.vm ∧ U.heap = h0 ∧ CHv Z own_EL U.vm h0) (fun _ _ _ _ _ => True) (fun _ U o U' => ∃ v L, o = .returned v ∧ Q_r1_init Z ya1 ya2 yk3 h0 n0 v U'.heap L ∧ ReturnedEndW U o U' L ({ frames := 2, cells := 2, slots := 4, locals := 29 } : Room).cells ({ frames := 2, cells := 2, slots := 4, locals := 29 } : Room).slots) := by
  refine MetFree.of_bodySF (plainFor_of_name pn_java_lang_String) hisR ?_
  intro p e s m args below meth c s₁ Bd hml0 hP hK
  obtain ⟨rfl, hZ0, hh, hC0⟩ := hP
  have hx := Bd.exec
  have hby := Bd.bytes
  have hlk := Bd.notSynchronized
  have hml : c.maxLocals = 2 := hml0
  have hZ : Z.Warmed39 (s.setVm s.vm).vm := hZ0
  have hown : (s.setVm s.vm).vm.findClass cn0 = some m.cls := findClass_of_methodNamed Bd.named
  have hnm := (name_of_methodNamed Bd.named Bd.method).1
  have X0 : Stand p l e ({ frames := 2, cells := 2, slots := 4, locals := 29 } : Room) (s.setVm s.vm) m #[(.ref ya1), (.ref ya2)] below meth c s₁ [] 0 0 := Stand.of_body Bd
  have hS0 : s.Since s.vm s.heap.size := (State.WarmedH.refl s).since _
  have hk0 : s.heap.size ≤ h0.size := Nat.le_of_eq (congrArg Array.size hh)
  have e0 : s₁.heap = h0 := by rw [← hh, Bd.state]; rfl
  have N0 := Fr.nil n0
  have K0 := Keep.refl h0 [ya1]
  have Z0 : n0 ≤ h0.size := O0.1 ▸ O0.2.1
  have hef : entryFrame m #[(.ref ya1), (.ref ya2)] 2 = mkF m 0 #[.val (.ref ya1), .val (.ref ya2)] [] := by first | (simp [entryFrame, mkF, argsToLocals, Value.category]; done) | rfl
  rw [hef]
  refine GetsW.out (Q := Q_r1_init Z ya1 ya2 yk3 h0 n0) ?_
  show Gets p e below _ (s₁.setTop (mkF m 0 #[.val (.ref ya1), .val (.ref ya2)] []))
  refine Gets.of (fun t k => XS.aloadN X0.here hx rfl (hb hby d18_0) rfl rfl  k) ?_
  refine Gets.of (fun t k => XS.aloadN X0.here hx rfl (hb hby d18_1) rfl rfl  k) ?_
  refine Gets.of (fun t k => XS.iconst X0.here hx rfl (hb hby d18_2) k) ?_
  refine Gets.of (fun t k => XS.aloadN X0.here hx rfl (hb hby d18_3) rfl rfl  k) ?_
  show Gets p e below _ (s₁.setTop (mkF m 4 #[.val (.ref ya1), .val (.ref ya2)] [(.ref ya2), (.int (0 : Int32)), (.ref ya2), (.ref ya1)]))
  obtain ⟨cl1, Ar1, -, S1, N_1, -, -⟩ := id (F0)
  refine Gets.of (X0.arraylength hx (by rw [e0]; exact Ar1.1) (State.isArrayOf_alike hZ.alike Ar1.2.1) (g := (mkF m 4 #[.val (.ref ya1), .val (.ref ya2)] [(.ref ya2), (.int (0 : Int32)), (.ref ya2), (.ref ya1)])) rfl rfl (hb hby d18_4)) ?_
  rw [len_of S1 N_1]
  show Gets p e below _ (s₁.setTop (mkF m 5 #[.val (.ref ya1), .val (.ref ya2)] [(.int (0 : Int32)), (.int (0 : Int32)), (.ref ya2), (.ref ya1)]))
  refine Gets.of (fun t k => XS.aconstNull X0.here hx rfl (hb hby d18_5) k) ?_
  obtain ⟨_, _, ⟨T2, L2, k2, n2⟩, -, Xw2, hSw2, hgw2, ⟨Lc2, hQ2, l2, y2, z2⟩, st2⟩ := X0.specialBackS hx (y := (⟨cn0, "<init>", "([CIILjava/lang/Void;)V"⟩ : MethodName)) rfl hown (mvT hZ (w120 hw)) (mvT hZ (w121 hw)) (mvT hZ (w122 hw)) (by decide) (own_backC (W := 0) (r2_init l Z a0 hw [] ya1 ya2 h0 n0 O0 F1 F2 F3 gq_ya1) hZ (w122 hw) (w2 hw) (by decide) (by decide) (own_EW hw) hC0) (g := (mkF m 6 #[.val (.ref ya1), .val (.ref ya2)] [.null, (.int (0 : Int32)), (.int (0 : Int32)), (.ref ya2), (.ref ya1)])) rfl (by rw [hml]; rfl) (Steps.refl _) (a := ya1) (argsL := [(.ref ya2), (.int (0 : Int32)), (.int (0 : Int32)), .null]) (rest := []) (lenOf pd__CIILjava_lang_Void_V rfl) rfl (by show 2 * 0 + _ ≤ _; exact Nat.le_of_eq rfl) (hb hby d18_6) (fun _ _ => ⟨rfl, e0, (by decide : 0 + 2 ≤ _), (by decide : 0 + 4 ≤ _)⟩)
  dsimp only [Pt.U, Pt.locs, Pt.cells, Pt.slots] at Xw2 hSw2 hgw2 l2 y2 z2 st2 hQ2
  subst l2 y2 z2
  obtain ⟨X2, hS2, hZ2, hown2⟩ := rebS hS0 (by rw [e0]; exact hk0) Xw2 hSw2 hgw2 hZ hown
  obtain ⟨Nq2, Kq2, hR2⟩ := hQ2
  have N2 := Fr.app N0 Nq2
  have K3 : Keep h0 _ [ya1] := K0.trans Kq2 (allS (Or.inl (by simp)) all0)
  have O3 := O0.keep Kq2 (allS gq_ya1 all0)
  have hk4 := Nat.le_trans hk0 Kq2.1
  obtain ⟨b2_2, rfl, bf2_0, bf2_1⟩ := hR2
  refine Gets.tr st2 ?_
  show Gets p e below _ (T2.setTop (mkF m 9 #[.val (.ref ya1), .val (.ref ya2)] []))
  refine GetsW.retV X2 hx Bd.returns (hb hby d18_9) hS2 (Nat.le_refl T2.heap.size) ?_ (by decide) (by decide)
  exact ⟨N2, K3, ⟨b2_2, rfl, bf2_0, bf2_1⟩⟩
theorem w119 {Z : State} {a0 : Array Value} (hw : ∀ d ∈ tables_1, d.before a0 Z = true) : (Jvm.Cond.code ({ cls := cn0, name := "<init>", desc := "([C)V" } : Jvm.MethodName) jdk_42_method_3_code (2 : Nat) (Option.none : Option Jvm.ClassFile.FieldType)).before a0 Z = true := hw _ (List.mem_of_getElem? (i := 119) rfl)
theorem pd__C_V : parseMethodDescriptor "([C)V" = some ⟨[(.array .char)], none⟩ := by decide +kernel
theorem w118 {Z : State} {a0 : Array Value} (hw : ∀ d ∈ tables_1, d.before a0 Z = true) : (Jvm.Cond.instanceMethod ({ cls := cn0, name := "<init>", desc := "([C)V" } : Jvm.MethodName)).before a0 Z = true := hw _ (List.mem_of_getElem? (i := 118) rfl)
theorem d17_40 : decode method_3_code 40 = .ok (.areturn, 1) := by decide +kernel
theorem d17_41 : decode method_3_code 41 = .ok (.iload_n 0, 1) := by decide +kernel
theorem d17_42 : decode method_3_code 42 = .ok (.iconst 1, 1) := by decide +kernel
theorem d17_43 : decode method_3_code 43 = .ok (.if_icmp .ne 23, 3) := by decide +kernel
theorem d17_46 : decode method_3_code 46 = .ok (.iconst 1, 1) := by decide +kernel
theorem d17_47 : decode method_3_code 47 = .ok (.newarray .char, 2) := by decide +kernel
theorem d17_49 : decode method_3_code 49 = .ok (.astore 6, 2) := by decide +kernel
theorem d17_51 : decode method_3_code 51 = .ok (.aload 6, 2) := by decide +kernel
theorem d17_53 : decode method_3_code 53 = .ok (.iconst 0, 1) := by decide +kernel
theorem d17_54 : decode method_3_code 54 = .ok (.iload_n 3, 1) := by decide +kernel
theorem d17_55 : decode method_3_code 55 = .ok (.castore, 1) := by decide +kernel
theorem d17_56 : decode method_3_code 56 = .ok (.new 14, 3) := by decide +kernel
theorem d17_59 : decode method_3_code 59 = .ok (.dup, 1) := by decide +kernel
theorem d17_60 : decode method_3_code 60 = .ok (.aload 6, 2) := by decide +kernel
theorem d17_62 : decode method_3_code 62 = .ok (.invokespecial 54, 3) := by decide +kernel
theorem d19_27 : decode jdk_42_method_149_code 27 = .ok (.getstatic 38, 3) := by decide +kernel
theorem w4 {Z : State} {a0 : Array Value} (hw : ∀ d ∈ tables_1, d.before a0 Z = true) : (Jvm.Cond.fieldLink cn0 (38 : Nat) cn0 "COMPACT_STRINGS" "Z").before a0 Z = true := hw _ (List.mem_of_getElem? (i := 4) rfl)
theorem d19_30 : decode jdk_42_method_149_code 30 = .ok (.ifCond .eq 28, 3) := by decide +kernel
theorem d19_33 : decode jdk_42_method_149_code 33 = .ok (.aload_n 1, 1) := by decide +kernel
theorem d19_34 : decode jdk_42_method_149_code 34 = .ok (.iload_n 2, 1) := by decide +kernel
theorem d19_35 : decode jdk_42_method_149_code 35 = .ok (.iload_n 3, 1) := by decide +kernel
theorem d19_36 : decode jdk_42_method_149_code 36 = .ok (.invokestatic 177, 3) := by decide +kernel
theorem w123 {Z : State} {a0 : Array Value} (hw : ∀ d ∈ tables_1, d.before a0 Z = true) : (Jvm.Cond.methodLink cn0 (177 : Nat) ({ cls := cn8, name := "compress", desc := "([CII)[B" } : Jvm.MethodName)).before a0 Z = true := hw _ (List.mem_of_getElem? (i := 123) rfl)
theorem d20_0 : decode jdk_52_method_16_code 0 = .ok (.iload_n 2, 1) := by decide +kernel
theorem d20_1 : decode jdk_52_method_16_code 1 = .ok (.newarray .byte, 2) := by decide +kernel
theorem d20_3 : decode jdk_52_method_16_code 3 = .ok (.astore_n 3, 1) := by decide +kernel
theorem d20_4 : decode jdk_52_method_16_code 4 = .ok (.aload_n 0, 1) := by decide +kernel
theorem d20_5 : decode jdk_52_method_16_code 5 = .ok (.iload_n 1, 1) := by decide +kernel
theorem d20_6 : decode jdk_52_method_16_code 6 = .ok (.aload_n 3, 1) := by decide +kernel
theorem d20_7 : decode jdk_52_method_16_code 7 = .ok (.iconst 0, 1) := by decide +kernel
theorem d20_8 : decode jdk_52_method_16_code 8 = .ok (.iload_n 2, 1) := by decide +kernel
theorem d20_9 : decode jdk_52_method_16_code 9 = .ok (.invokestatic 115, 3) := by decide +kernel
theorem w127 {Z : State} {a0 : Array Value} (hw : ∀ d ∈ tables_1, d.before a0 Z = true) : (Jvm.Cond.methodLink cn8 (115 : Nat) ({ cls := cn8, name := "compress", desc := "([CI[BII)I" } : Jvm.MethodName)).before a0 Z = true := hw _ (List.mem_of_getElem? (i := 127) rfl)
theorem d21_0 : decode jdk_52_method_21_code 0 = .ok (.iconst 0, 1) := by decide +kernel
theorem d21_1 : decode jdk_52_method_21_code 1 = .ok (.istore 5, 2) := by decide +kernel
theorem d21_3 : decode jdk_52_method_21_code 3 = .ok (.iload 5, 2) := by decide +kernel
theorem d21_5 : decode jdk_52_method_21_code 5 = .ok (.iload 4, 2) := by decide +kernel
theorem d21_7 : decode jdk_52_method_21_code 7 = .ok (.if_icmp .ge 37, 3) := by decide +kernel
theorem d21_10 : decode jdk_52_method_21_code 10 = .ok (.aload_n 0, 1) := by decide +kernel
theorem d21_11 : decode jdk_52_method_21_code 11 = .ok (.iload_n 1, 1) := by decide +kernel
theorem d21_12 : decode jdk_52_method_21_code 12 = .ok (.caload, 1) := by decide +kernel
theorem d21_13 : decode jdk_52_method_21_code 13 = .ok (.istore 6, 2) := by decide +kernel
theorem d21_15 : decode jdk_52_method_21_code 15 = .ok (.iload 6, 2) := by decide +kernel
theorem d21_17 : decode jdk_52_method_21_code 17 = .ok (.sipush 255, 3) := by decide +kernel
theorem d21_20 : decode jdk_52_method_21_code 20 = .ok (.if_icmp .le 6, 3) := by decide +kernel
theorem d21_26 : decode jdk_52_method_21_code 26 = .ok (.aload_n 2, 1) := by decide +kernel
theorem d21_27 : decode jdk_52_method_21_code 27 = .ok (.iload_n 3, 1) := by decide +kernel
theorem d21_28 : decode jdk_52_method_21_code 28 = .ok (.iload 6, 2) := by decide +kernel
theorem d21_30 : decode jdk_52_method_21_code 30 = .ok (.i2b, 1) := by decide +kernel
theorem d21_31 : decode jdk_52_method_21_code 31 = .ok (.bastore, 1) := by decide +kernel
theorem d21_32 : decode jdk_52_method_21_code 32 = .ok (.iinc 1 1, 3) := by decide +kernel
theorem d21_35 : decode jdk_52_method_21_code 35 = .ok (.iinc 3 1, 3) := by decide +kernel
theorem d21_38 : decode jdk_52_method_21_code 38 = .ok (.iinc 5 1, 3) := by decide +kernel
theorem d21_41 : decode jdk_52_method_21_code 41 = .ok (.goto (-38), 3) := by decide +kernel
theorem d21_44 : decode jdk_52_method_21_code 44 = .ok (.iload 4, 2) := by decide +kernel
theorem d21_46 : decode jdk_52_method_21_code 46 = .ok (.ireturn, 1) := by decide +kernel
def Q_r6_compress (Z : State) (ya1 : Addr) (ya2 : Addr) (yk3 : ClassId) (yi4 : Int32) (yk5 : ClassId) (h0 : Heap) (n0 : Nat) (v : Option Value) (h : Heap) (L : List Loc) : Prop := Fr n0 L ∧ Keep h0 h [ya2] ∧ ((v = some (.int (1 : Int32)) ∧ Arv Z h ya2 yk5 .byte (1 : Int32) [(.int (nar .byte (yi4.toInt8.toInt32)))] (.int (0 : Int32))))
theorem pn_java_lang_StringUTF16 : plainName "java/lang/StringUTF16" = true := by first | (simp [plainName, overriddenIn]; done) | decide +kernel
set_option maxRecDepth 65536 in
set_option maxHeartbeats 40000000 in
theorem r6_compress (l : Launch) (Z : State) (a0 : Array Value) (hw : ∀ d ∈ tables_1, d.before a0 Z = true) (ws : List Jvm.Cond) (ya1 : Addr) (ya2 : Addr) (yk3 : ClassId) (yi4 : Int32) (yk5 : ClassId) (h0 : Heap) (n0 : Nat) (O0 : Old Z n0 h0) (F0 : Arv Z h0 ya1 yk3 .char (1 : Int32) [(.int yi4)] (.int (0 : Int32))) (F1 : Arv Z h0 ya2 yk5 .byte (1 : Int32) [(.int (0 : Int32))] (.int (0 : Int32))) (gq_ya2 : n0 ≤ ya2) (hy1 : ¬ ((255 : Int32) < yi4)) :
    MetFree l (⟨cn8, "compress", "([CI[BII)I"⟩ : MethodName) (head1 (Jvm.Cond.code (⟨cn8, "compress", "([CI[BII)I"⟩ : MethodName) jdk_52_method_21_code 7 (some .int) :: ws) ({ frames := 0, cells := 0, slots := 0, locals := 0 } : Room)) (fun a U => a = #[(.ref ya1), (.int (0 : Int32)), (.ref ya2), (.int (0 : Int32)), (.int (1 : Int32))] ∧ Z.Warmed39 U.vm ∧ U.heap = h0) (fun _ _ _ _ _ => True) (fun _ U o U' => ∃ v L, o = .returned v ∧ Q_r6_compress Z ya1 ya2 yk3 yi4 yk5 h0 n0 v U'.heap L ∧ FrameEnd U o U' L ({ frames := 0, cells := 0, slots := 0, locals := 0 } : Room).cells ({ frames := 0, cells := 0, slots := 0, locals := 0 } : Room).slots) := by
  refine MetFree.of_bodySF (plainFor_of_name pn_java_lang_StringUTF16) hisR ?_
  intro p e s m args below meth c s₁ Bd hml0 hP hK
  obtain ⟨rfl, hZ, hh⟩ := hP
  have hx := Bd.exec
  have hby := Bd.bytes
  have hlk := Bd.notSynchronized
  have hml : c.maxLocals = 7 := hml0
  have hown : s.vm.findClass cn8 = some m.cls := findClass_of_methodNamed Bd.named
  have hnm := (name_of_methodNamed Bd.named Bd.method).1
  have X0 : Stand p l e ({ frames := 0, cells := 0, slots := 0, locals := 0 } : Room) s m #[(.ref ya1), (.int (0 : Int32)), (.ref ya2), (.int (0 : Int32)), (.int (1 : Int32))] below meth c s₁ [] 0 0 := Stand.of_body Bd
  have e0 : s₁.heap = h0 := by rw [← hh, Bd.state]; rfl
  have N0 := Fr.nil n0
  have K0 := Keep.refl h0 [ya2]
  have Z0 : n0 ≤ h0.size := O0.1 ▸ O0.2.1
  have hef : entryFrame m #[(.ref ya1), (.int (0 : Int32)), (.ref ya2), (.int (0 : Int32)), (.int (1 : Int32))] 7 = mkF m 0 #[.val (.ref ya1), .val (.int (0 : Int32)), .val (.ref ya2), .val (.int (0 : Int32)), .val (.int (1 : Int32)), .unset, .unset] [] := by first | (simp [entryFrame, mkF, argsToLocals, Value.category]; done) | rfl
  rw [hef]
  refine Gets.out (Q := Q_r6_compress Z ya1 ya2 yk3 yi4 yk5 h0 n0) ?_
  show Gets p e below _ (s₁.setTop (mkF m 0 #[.val (.ref ya1), .val (.int (0 : Int32)), .val (.ref ya2), .val (.int (0 : Int32)), .val (.int (1 : Int32)), .unset, .unset] []))
  refine Gets.of (fun t k => XS.iconst X0.here hx rfl (hb hby d21_0) k) ?_
  refine Gets.of (fun t k => XS.istore X0.here hx rfl (hb hby d21_1) rfl (l' := #[.val (.ref ya1), .val (.int (0 : Int32)), .val (.ref ya2), .val (.int (0 : Int32)), .val (.int (1 : Int32)), .val (.int (0 : Int32)), .unset]) rfl k) ?_
  show Gets p e below _ (s₁.setTop (mkF m 3 #[.val (.ref ya1), .val (.int (0 : Int32)), .val (.ref ya2), .val (.int (0 : Int32)), .val (.int (1 : Int32)), .val (.int (0 : Int32)), .unset] []))
  refine Gets.of (fun t k => XS.iload X0.here hx rfl (hb hby d21_3) rfl  k) ?_
  refine Gets.of (fun t k => XS.iload X0.here hx rfl (hb hby d21_5) rfl  k) ?_
  refine Gets.of (fun t k => XS.icmpNo X0.here hx rfl (hb hby d21_7) rfl (tlt (by decide : (0 : Int32) < (1 : Int32))).2.1 k) ?_
  show Gets p e below _ (s₁.setTop (mkF m 10 #[.val (.ref ya1), .val (.int (0 : Int32)), .val (.ref ya2), .val (.int (0 : Int32)), .val (.int (1 : Int32)), .val (.int (0 : Int32)), .unset] []))
  refine Gets.of (fun t k => XS.aloadN X0.here hx rfl (hb hby d21_10) rfl rfl  k) ?_
  refine Gets.of (fun t k => XS.iloadN X0.here hx rfl (hb hby d21_11) rfl  k) ?_
  obtain ⟨cl1, Ar1, q1, S1, N_1, H1, G1⟩ := id (F0)
  have hin1 : ¬ ((0 : Int32) < 0 ∨ cl1.slots.size ≤ ((0 : Int32)).toNatClampNeg) := inb_of S1 ⟨by decide, by decide⟩
  refine Gets.of (fun t k => X0.caload hx (j := (0 : Int32)) (v := (.int yi4)) (by rw [e0]; exact Ar1.1) (State.isArrayOf_alike hZ.alike Ar1.2.1) Ar1.2.2 hin1 (Has.at H1 hin1 rfl) (g := (mkF m 12 #[.val (.ref ya1), .val (.int (0 : Int32)), .val (.ref ya2), .val (.int (0 : Int32)), .val (.int (1 : Int32)), .val (.int (0 : Int32)), .unset] [(.int (0 : Int32)), (.ref ya1)])) rfl rfl (hb hby d21_12) t k) ?_
  show Gets p e below _ (s₁.setTop (mkF m 13 #[.val (.ref ya1), .val (.int (0 : Int32)), .val (.ref ya2), .val (.int (0 : Int32)), .val (.int (1 : Int32)), .val (.int (0 : Int32)), .unset] [(.int yi4)]))
  refine Gets.of (fun t k => XS.istore X0.here hx rfl (hb hby d21_13) rfl (l' := #[.val (.ref ya1), .val (.int (0 : Int32)), .val (.ref ya2), .val (.int (0 : Int32)), .val (.int (1 : Int32)), .val (.int (0 : Int32)), .val (.int yi4)]) rfl k) ?_
  show Gets p e below _ (s₁.setTop (mkF m 15 #[.val (.ref ya1), .val (.int (0 : Int32)), .val (.ref ya2), .val (.int (0 : Int32)), .val (.int (1 : Int32)), .val (.int (0 : Int32)), .val (.int yi4)] []))
  refine Gets.of (fun t k => XS.iload X0.here hx rfl (hb hby d21_15) rfl  k) ?_
  refine Gets.of (fun t k => XS.sipush X0.here hx rfl (hb hby d21_17) k) ?_
  refine Gets.of (fun t k => XS.icmpYes X0.here hx rfl (pc0 := 20) (pc' := 26) rfl (hb hby d21_20) rfl (flt hy1).2.2.2 (by decide) (by decide) k) ?_
  show Gets p e below _ (s₁.setTop (mkF m 26 #[.val (.ref ya1), .val (.int (0 : Int32)), .val (.ref ya2), .val (.int (0 : Int32)), .val (.int (1 : Int32)), .val (.int (0 : Int32)), .val (.int yi4)] []))
  refine Gets.of (fun t k => XS.aloadN X0.here hx rfl (hb hby d21_26) rfl rfl  k) ?_
  refine Gets.of (fun t k => XS.iloadN X0.here hx rfl (hb hby d21_27) rfl  k) ?_
  refine Gets.of (fun t k => XS.iload X0.here hx rfl (hb hby d21_28) rfl  k) ?_
  refine Gets.of (fun t k => XS.i2b X0.here hx rfl (hb hby d21_30) rfl k) ?_
  show Gets p e below _ (s₁.setTop (mkF m 31 #[.val (.ref ya1), .val (.int (0 : Int32)), .val (.ref ya2), .val (.int (0 : Int32)), .val (.int (1 : Int32)), .val (.int (0 : Int32)), .val (.int yi4)] [(.int (yi4.toInt8.toInt32)), (.int (0 : Int32)), (.ref ya2)]))
  obtain ⟨cl2, Ar2, q2, S2, N_2, H2, G2⟩ := id (F1)
  have hin2 : ¬ ((0 : Int32) < 0 ∨ cl2.slots.size ≤ ((0 : Int32)).toNatClampNeg) := inb_of S2 ⟨by decide, by decide⟩
  obtain ⟨T3, h3, X3, e3, W3, st3⟩ := stB X0 hx hZ e0 Ar2 (j := (0 : Int32)) hin2 (g := (mkF m 31 #[.val (.ref ya1), .val (.int (0 : Int32)), .val (.ref ya2), .val (.int (0 : Int32)), .val (.int (1 : Int32)), .val (.int (0 : Int32)), .val (.int yi4)] [(.int (yi4.toInt8.toInt32)), (.int (0 : Int32)), (.ref ya2)])) rfl rfl (hb hby d21_31)
  have V3 : Arv Z h3 ya2 yk5 .byte (1 : Int32) [(.int (nar .byte (yi4.toInt8.toInt32)))] (.int (0 : Int32)) := Arv.set Ar2 q2 S2 N_2 H2 G2 (fits_nar_byte _) W3 0 rfl (Nat.le_of_ble_eq_true rfl)
  have N3 := Fr.snoc X3 N0 gq_ya2
  have K4 : Keep h0 _ [ya2] := K0.wr W3 (Or.inl (by simp))
  have O4 := O0.wr W3 gq_ya2
  refine Gets.of st3 ?_
  show Gets p e below _ (T3.setTop (mkF m 32 #[.val (.ref ya1), .val (.int (0 : Int32)), .val (.ref ya2), .val (.int (0 : Int32)), .val (.int (1 : Int32)), .val (.int (0 : Int32)), .val (.int yi4)] []))
  refine Gets.of (fun t k => XS.iinc X3.here hx rfl (hb hby d21_32) rfl (l' := #[.val (.ref ya1), .val (.int (1 : Int32)), .val (.ref ya2), .val (.int (0 : Int32)), .val (.int (1 : Int32)), .val (.int (0 : Int32)), .val (.int yi4)]) rfl k) ?_
  show Gets p e below _ (T3.setTop (mkF m 35 #[.val (.ref ya1), .val (.int (1 : Int32)), .val (.ref ya2), .val (.int (0 : Int32)), .val (.int (1 : Int32)), .val (.int (0 : Int32)), .val (.int yi4)] []))
  refine Gets.of (fun t k => XS.iinc X3.here hx rfl (hb hby d21_35) rfl (l' := #[.val (.ref ya1), .val (.int (1 : Int32)), .val (.ref ya2), .val (.int (1 : Int32)), .val (.int (1 : Int32)), .val (.int (0 : Int32)), .val (.int yi4)]) rfl k) ?_
  show Gets p e below _ (T3.setTop (mkF m 38 #[.val (.ref ya1), .val (.int (1 : Int32)), .val (.ref ya2), .val (.int (1 : Int32)), .val (.int (1 : Int32)), .val (.int (0 : Int32)), .val (.int yi4)] []))
  refine Gets.of (fun t k => XS.iinc X3.here hx rfl (hb hby d21_38) rfl (l' := #[.val (.ref ya1), .val (.int (1 : Int32)), .val (.ref ya2), .val (.int (1 : Int32)), .val (.int (1 : Int32)), .val (.int (1 : Int32)), .val (.int yi4)]) rfl k) ?_
  show Gets p e below _ (T3.setTop (mkF m 41 #[.val (.ref ya1), .val (.int (1 : Int32)), .val (.ref ya2), .val (.int (1 : Int32)), .val (.int (1 : Int32)), .val (.int (1 : Int32)), .val (.int yi4)] []))
  refine Gets.of (fun t k => XS.goto X3.here hx rfl (pc0 := 41) (pc' := 3) rfl (hb hby d21_41) (by decide) (by decide) k) ?_
  show Gets p e below _ (T3.setTop (mkF m 3 #[.val (.ref ya1), .val (.int (1 : Int32)), .val (.ref ya2), .val (.int (1 : Int32)), .val (.int (1 : Int32)), .val (.int (1 : Int32)), .val (.int yi4)] []))
  refine Gets.of (fun t k => XS.iload X3.here hx rfl (hb hby d21_3) rfl  k) ?_
  refine Gets.of (fun t k => XS.iload X3.here hx rfl (hb hby d21_5) rfl  k) ?_
  refine Gets.of (fun t k => XS.icmpYes X3.here hx rfl (pc0 := 7) (pc' := 44) rfl (hb hby d21_7) rfl (flt (by decide : ¬ ((1 : Int32) < (1 : Int32)))).2.1 (by decide) (by decide) k) ?_
  show Gets p e below _ (T3.setTop (mkF m 44 #[.val (.ref ya1), .val (.int (1 : Int32)), .val (.ref ya2), .val (.int (1 : Int32)), .val (.int (1 : Int32)), .val (.int (1 : Int32)), .val (.int yi4)] []))
  refine Gets.of (fun t k => XS.iload X3.here hx rfl (hb hby d21_44) rfl  k) ?_
  refine Gets.retI X3 hx Bd.returns (hb hby d21_46) ?_ (by decide) (by decide)
  rw [e3]
  exact ⟨N3, K4, ⟨rfl, V3⟩⟩
theorem w129 {Z : State} {a0 : Array Value} (hw : ∀ d ∈ tables_1, d.before a0 Z = true) : (Jvm.Cond.code ({ cls := cn8, name := "compress", desc := "([CI[BII)I" } : Jvm.MethodName) jdk_52_method_21_code (7 : Nat) (Option.some Jvm.ClassFile.FieldType.int)).before a0 Z = true := hw _ (List.mem_of_getElem? (i := 129) rfl)
theorem w125 {Z : State} {a0 : Array Value} (hw : ∀ d ∈ tables_1, d.before a0 Z = true) : (Jvm.Cond.initialized cn8).before a0 Z = true := hw _ (List.mem_of_getElem? (i := 125) rfl)
theorem pd__CI_BII_I : parseMethodDescriptor "([CI[BII)I" = some ⟨[(.array .char), .int, (.array .byte), .int, .int], some .int⟩ := by decide +kernel
theorem w128 {Z : State} {a0 : Array Value} (hw : ∀ d ∈ tables_1, d.before a0 Z = true) : (Jvm.Cond.static ({ cls := cn8, name := "compress", desc := "([CI[BII)I" } : Jvm.MethodName)).before a0 Z = true := hw _ (List.mem_of_getElem? (i := 128) rfl)
theorem d20_12 : decode jdk_52_method_16_code 12 = .ok (.istore 4, 2) := by decide +kernel
theorem d20_14 : decode jdk_52_method_16_code 14 = .ok (.iload 4, 2) := by decide +kernel
theorem d20_16 : decode jdk_52_method_16_code 16 = .ok (.iload_n 2, 1) := by decide +kernel
theorem d20_17 : decode jdk_52_method_16_code 17 = .ok (.if_icmp .eq 40, 3) := by decide +kernel
theorem d20_57 : decode jdk_52_method_16_code 57 = .ok (.aload_n 3, 1) := by decide +kernel
theorem d20_58 : decode jdk_52_method_16_code 58 = .ok (.areturn, 1) := by decide +kernel
def Q_r5_compress (Z : State) (ya1 : Addr) (yi3 : Int32) (yk2 : ClassId) (h0 : Heap) (n0 : Nat) (v : Option Value) (h : Heap) (L : List Loc) : Prop := Fr n0 L ∧ Keep h0 h [] ∧ ((∃ (b1 : Addr) (k1 : ClassId), v = some (.ref b1) ∧ h0.size ≤ b1 ∧ Exa Z h b1 "[B" ∧ Arv Z h b1 k1 .byte (1 : Int32) [(.int (nar .byte (yi3.toInt8.toInt32)))] (.int (0 : Int32))))
set_option maxRecDepth 65536 in
set_option maxHeartbeats 40000000 in
theorem r5_compress (l : Launch) (Z : State) (a0 : Array Value) (hw : ∀ d ∈ tables_1, d.before a0 Z = true) (ws : List Jvm.Cond) (ya1 : Addr) (yi3 : Int32) (yk2 : ClassId) (h0 : Heap) (n0 : Nat) (O0 : Old Z n0 h0) (F0 : Arv Z h0 ya1 yk2 .char (1 : Int32) [(.int yi3)] (.int (0 : Int32))) (hy1 : ¬ ((255 : Int32) < yi3)) :
    MetFree l (⟨cn8, "compress", "([CII)[B"⟩ : MethodName) (head1 (Jvm.Cond.code (⟨cn8, "compress", "([CII)[B"⟩ : MethodName) jdk_52_method_16_code 6 (some (.array .byte)) :: ws) ({ frames := 1, cells := 1, slots := 1, locals := 18 } : Room)) (fun a U => a = #[(.ref ya1), (.int (0 : Int32)), (.int (1 : Int32))] ∧ Z.Warmed39 U.vm ∧ U.heap = h0) (fun _ _ _ _ _ => True) (fun _ U o U' => ∃ v L, o = .returned v ∧ Q_r5_compress Z ya1 yi3 yk2 h0 n0 v U'.heap L ∧ FrameEnd U o U' L ({ frames := 1, cells := 1, slots := 1, locals := 18 } : Room).cells ({ frames := 1, cells := 1, slots := 1, locals := 18 } : Room).slots) := by
  refine MetFree.of_bodySF (plainFor_of_name pn_java_lang_StringUTF16) hisR ?_
  intro p e s m args below meth c s₁ Bd hml0 hP hK
  obtain ⟨rfl, hZ, hh⟩ := hP
  have hx := Bd.exec
  have hby := Bd.bytes
  have hlk := Bd.notSynchronized
  have hml : c.maxLocals = 6 := hml0
  have hown : s.vm.findClass cn8 = some m.cls := findClass_of_methodNamed Bd.named
  have hnm := (name_of_methodNamed Bd.named Bd.method).1
  have X0 : Stand p l e ({ frames := 1, cells := 1, slots := 1, locals := 18 } : Room) s m #[(.ref ya1), (.int (0 : Int32)), (.int (1 : Int32))] below meth c s₁ [] 0 0 := Stand.of_body Bd
  have e0 : s₁.heap = h0 := by rw [← hh, Bd.state]; rfl
  have N0 := Fr.nil n0
  have K0 := Keep.refl h0 []
  have Z0 : n0 ≤ h0.size := O0.1 ▸ O0.2.1
  have hef : entryFrame m #[(.ref ya1), (.int (0 : Int32)), (.int (1 : Int32))] 6 = mkF m 0 #[.val (.ref ya1), .val (.int (0 : Int32)), .val (.int (1 : Int32)), .unset, .unset, .unset] [] := by first | (simp [entryFrame, mkF, argsToLocals, Value.category]; done) | rfl
  rw [hef]
  refine Gets.out (Q := Q_r5_compress Z ya1 yi3 yk2 h0 n0) ?_
  show Gets p e below _ (s₁.setTop (mkF m 0 #[.val (.ref ya1), .val (.int (0 : Int32)), .val (.int (1 : Int32)), .unset, .unset, .unset] []))
  refine Gets.of (fun t k => XS.iloadN X0.here hx rfl (hb hby d20_0) rfl  k) ?_
  obtain ⟨T1, h1, k1, X1, e1, E1, A1, Ex1, st1⟩ := newPE X0 hx hZ (aty := .byte) (w14 hw) e0 (g := (mkF m 1 #[.val (.ref ya1), .val (.int (0 : Int32)), .val (.int (1 : Int32)), .unset, .unset, .unset] [(.int (1 : Int32))])) rfl (hb hby d20_1) rfl (by decide) (cap := 1) (by decide) (by decide) (by decide) (by decide) (ad := "[B") rfl
  obtain ⟨b1, g1⟩ : ∃ z, z = h0.size := ⟨_, rfl⟩
  rw [← g1] at A1 Ex1 st1
  have sz_b1 : h0.size ≤ b1 := Nat.le_trans K0.1 (Nat.le_of_eq g1.symm)
  have g_b1 : n0 ≤ b1 := Nat.le_trans Z0 sz_b1
  have K2 := K0.ext E1
  have O2 := O0.ext E1
  have V1 : Arv Z h1 b1 k1 .byte (1 : Int32) [(.int (0 : Int32))] (.int (0 : Int32)) := (Arv.new A1 (by decide)).pad (pad_rep [] (.int (0 : Int32)) 1)
  refine Gets.of st1 ?_
  show Gets p e below _ (T1.setTop (mkF m 3 #[.val (.ref ya1), .val (.int (0 : Int32)), .val (.int (1 : Int32)), .unset, .unset, .unset] [(.ref b1)]))
  refine Gets.of (fun t k => XS.astoreN X1.here hx rfl (hb hby d20_3) rfl rfl (l' := #[.val (.ref ya1), .val (.int (0 : Int32)), .val (.int (1 : Int32)), .val (.ref b1), .unset, .unset]) rfl k) ?_
  show Gets p e below _ (T1.setTop (mkF m 4 #[.val (.ref ya1), .val (.int (0 : Int32)), .val (.int (1 : Int32)), .val (.ref b1), .unset, .unset] []))
  refine Gets.of (fun t k => XS.aloadN X1.here hx rfl (hb hby d20_4) rfl rfl  k) ?_
  refine Gets.of (fun t k => XS.iloadN X1.here hx rfl (hb hby d20_5) rfl  k) ?_
  refine Gets.of (fun t k => XS.aloadN X1.here hx rfl (hb hby d20_6) rfl rfl  k) ?_
  refine Gets.of (fun t k => XS.iconst X1.here hx rfl (hb hby d20_7) k) ?_
  show Gets p e below _ (T1.setTop (mkF m 8 #[.val (.ref ya1), .val (.int (0 : Int32)), .val (.int (1 : Int32)), .val (.ref b1), .unset, .unset] [(.int (0 : Int32)), (.ref b1), (.int (0 : Int32)), (.ref ya1)]))
  refine Gets.of (fun t k => XS.iloadN X1.here hx rfl (hb hby d20_8) rfl  k) ?_
  have f3 : Arv Z h1 ya1 yk2 .char (1 : Int32) [(.int yi3)] (.int (0 : Int32)) := (F0.ext E1)
  obtain ⟨_, _, ⟨T4, L4, k4, n4⟩, -, X4, ⟨Lc4, hQ4, l4, y4, z4⟩, st4⟩ := Jvm.LawKit.callS X1 hx (y := (⟨cn8, "compress", "([CI[BII)I"⟩ : MethodName)) hown (mvT hZ (w127 hw)) (mvT hZ (w128 hw)) (mvT hZ (w125 hw)) (mvT hZ (w129 hw)) (by decide) (backOf (W := 0) (r6_compress l Z a0 hw [] ya1 b1 yk2 yi3 k1 h1 n0 O2 f3 V1 g_b1 hy1) hZ (w129 hw) (w125 hw) (by decide) (by decide)) (g := (mkF m 9 #[.val (.ref ya1), .val (.int (0 : Int32)), .val (.int (1 : Int32)), .val (.ref b1), .unset, .unset] [(.int (1 : Int32)), (.int (0 : Int32)), (.ref b1), (.int (0 : Int32)), (.ref ya1)])) rfl (by rw [hml]; rfl) (argsL := [(.ref ya1), (.int (0 : Int32)), (.ref b1), (.int (0 : Int32)), (.int (1 : Int32))]) (rest := []) (lenOf pd__CI_BII_I rfl) rfl (by show 2 * 0 + _ ≤ _; exact Nat.le_of_eq rfl) (hb hby d20_9) (fun _ _ => ⟨rfl, e1, (by decide : 1 + 0 ≤ _), (by decide : 1 + 0 ≤ _)⟩)
  dsimp only [Pt.U, Pt.locs, Pt.cells, Pt.slots] at X4 l4 y4 z4 st4 hQ4
  subst l4 y4 z4
  obtain ⟨Nq4, Kq4, hR4⟩ := hQ4
  have N4 := Fr.app N0 Nq4
  have K5 : Keep h0 _ [] := K2.trans Kq4 (allS (Or.inr sz_b1) all0)
  have O5 := O2.keep Kq4 (allS g_b1 all0)
  obtain ⟨rfl, bf4_0⟩ := hR4
  refine Gets.of st4 ?_
  show Gets p e below _ (T4.setTop (mkF m 12 #[.val (.ref ya1), .val (.int (0 : Int32)), .val (.int (1 : Int32)), .val (.ref b1), .unset, .unset] [(.int (1 : Int32))]))
  refine Gets.of (fun t k => XS.istore X4.here hx rfl (hb hby d20_12) rfl (l' := #[.val (.ref ya1), .val (.int (0 : Int32)), .val (.int (1 : Int32)), .val (.ref b1), .val (.int (1 : Int32)), .unset]) rfl k) ?_
  show Gets p e below _ (T4.setTop (mkF m 14 #[.val (.ref ya1), .val (.int (0 : Int32)), .val (.int (1 : Int32)), .val (.ref b1), .val (.int (1 : Int32)), .unset] []))
  refine Gets.of (fun t k => XS.iload X4.here hx rfl (hb hby d20_14) rfl  k) ?_
  refine Gets.of (fun t k => XS.iloadN X4.here hx rfl (hb hby d20_16) rfl  k) ?_
  refine Gets.of (fun t k => XS.icmpYes X4.here hx rfl (pc0 := 17) (pc' := 57) rfl (hb hby d20_17) rfl (teq (by decide : (1 : Int32) = (1 : Int32))).1 (by decide) (by decide) k) ?_
  show Gets p e below _ (T4.setTop (mkF m 57 #[.val (.ref ya1), .val (.int (0 : Int32)), .val (.int (1 : Int32)), .val (.ref b1), .val (.int (1 : Int32)), .unset] []))
  refine Gets.of (fun t k => XS.aloadN X4.here hx rfl (hb hby d20_57) rfl rfl  k) ?_
  refine Gets.retA X4 hx Bd.returns rfl rfl (hb hby d20_58) ?_ (by decide) (by decide)
  have f6 : Exa Z T4.heap b1 "[B" := (Ex1.keep Kq4)
  exact ⟨N4, K5, ⟨b1, k1, rfl, sz_b1, f6, bf4_0⟩⟩
theorem w126 {Z : State} {a0 : Array Value} (hw : ∀ d ∈ tables_1, d.before a0 Z = true) : (Jvm.Cond.code ({ cls := cn8, name := "compress", desc := "([CII)[B" } : Jvm.MethodName) jdk_52_method_16_code (6 : Nat) (Option.some (Jvm.ClassFile.FieldType.array Jvm.ClassFile.FieldType.byte))).before a0 Z = true := hw _ (List.mem_of_getElem? (i := 126) rfl)
theorem pd__CII_B : parseMethodDescriptor "([CII)[B" = some ⟨[(.array .char), .int, .int], some (.array .byte)⟩ := by decide +kernel
theorem w124 {Z : State} {a0 : Array Value} (hw : ∀ d ∈ tables_1, d.before a0 Z = true) : (Jvm.Cond.static ({ cls := cn8, name := "compress", desc := "([CII)[B" } : Jvm.MethodName)).before a0 Z = true := hw _ (List.mem_of_getElem? (i := 124) rfl)
theorem d19_39 : decode jdk_42_method_149_code 39 = .ok (.astore 5, 2) := by decide +kernel
theorem d19_41 : decode jdk_42_method_149_code 41 = .ok (.aload_n 0, 1) := by decide +kernel
theorem d19_42 : decode jdk_42_method_149_code 42 = .ok (.aload 5, 2) := by decide +kernel
theorem d19_44 : decode jdk_42_method_149_code 44 = .ok (.iload_n 3, 1) := by decide +kernel
theorem d19_45 : decode jdk_42_method_149_code 45 = .ok (.invokestatic 47, 3) := by decide +kernel
theorem w130 {Z : State} {a0 : Array Value} (hw : ∀ d ∈ tables_1, d.before a0 Z = true) : (Jvm.Cond.methodLink cn0 (47 : Nat) ({ cls := cn8, name := "coderFromArrayLen", desc := "([BI)B" } : Jvm.MethodName)).before a0 Z = true := hw _ (List.mem_of_getElem? (i := 130) rfl)
theorem d22_0 : decode jdk_52_method_15_code 0 = .ok (.iload_n 1, 1) := by decide +kernel
theorem d22_1 : decode jdk_52_method_15_code 1 = .ok (.aload_n 0, 1) := by decide +kernel
theorem d22_2 : decode jdk_52_method_15_code 2 = .ok (.arraylength, 1) := by decide +kernel
theorem d22_3 : decode jdk_52_method_15_code 3 = .ok (.isub, 1) := by decide +kernel
theorem d22_4 : decode jdk_52_method_15_code 4 = .ok (.bipush 31, 2) := by decide +kernel
theorem d22_6 : decode jdk_52_method_15_code 6 = .ok (.iushr, 1) := by decide +kernel
theorem d22_7 : decode jdk_52_method_15_code 7 = .ok (.i2b, 1) := by decide +kernel
theorem d22_8 : decode jdk_52_method_15_code 8 = .ok (.ireturn, 1) := by decide +kernel
def Q_r7_coderFromArrayLen (Z : State) (ya1 : Addr) (yk2 : ClassId) (yi3 : Int32) (h0 : Heap) (n0 : Nat) (v : Option Value) (h : Heap) (L : List Loc) : Prop := Fr n0 L ∧ h = h0 ∧ ((v = some (.int (0 : Int32))))
set_option maxRecDepth 65536 in
set_option maxHeartbeats 40000000 in
theorem r7_coderFromArrayLen (l : Launch) (Z : State) (a0 : Array Value) (hw : ∀ d ∈ tables_1, d.before a0 Z = true) (ws : List Jvm.Cond) (ya1 : Addr) (yk2 : ClassId) (yi3 : Int32) (h0 : Heap) (n0 : Nat) (O0 : Old Z n0 h0) (F0 : Arv Z h0 ya1 yk2 .byte (1 : Int32) [(.int yi3)] (.int (0 : Int32))) :
    MetFree l (⟨cn8, "coderFromArrayLen", "([BI)B"⟩ : MethodName) (head1 (Jvm.Cond.code (⟨cn8, "coderFromArrayLen", "([BI)B"⟩ : MethodName) jdk_52_method_15_code 2 (some .byte) :: ws) ({ frames := 0, cells := 0, slots := 0, locals := 0 } : Room)) (fun a U => a = #[(.ref ya1), (.int (1 : Int32))] ∧ Z.Warmed39 U.vm ∧ U.heap = h0) (fun _ _ _ _ _ => True) (fun _ U o U' => ∃ v L, o = .returned v ∧ Q_r7_coderFromArrayLen Z ya1 yk2 yi3 h0 n0 v U'.heap L ∧ FrameEnd U o U' L ({ frames := 0, cells := 0, slots := 0, locals := 0 } : Room).cells ({ frames := 0, cells := 0, slots := 0, locals := 0 } : Room).slots) := by
  refine MetFree.of_bodySF (plainFor_of_name pn_java_lang_StringUTF16) hisR ?_
  intro p e s m args below meth c s₁ Bd hml0 hP hK
  obtain ⟨rfl, hZ, hh⟩ := hP
  have hx := Bd.exec
  have hby := Bd.bytes
  have hlk := Bd.notSynchronized
  have hml : c.maxLocals = 2 := hml0
  have hown : s.vm.findClass cn8 = some m.cls := findClass_of_methodNamed Bd.named
  have hnm := (name_of_methodNamed Bd.named Bd.method).1
  have X0 : Stand p l e ({ frames := 0, cells := 0, slots := 0, locals := 0 } : Room) s m #[(.ref ya1), (.int (1 : Int32))] below meth c s₁ [] 0 0 := Stand.of_body Bd
  have e0 : s₁.heap = h0 := by rw [← hh, Bd.state]; rfl
  have N0 := Fr.nil n0
  have K0 := Keep.refl h0 []
  have Z0 : n0 ≤ h0.size := O0.1 ▸ O0.2.1
  have hef : entryFrame m #[(.ref ya1), (.int (1 : Int32))] 2 = mkF m 0 #[.val (.ref ya1), .val (.int (1 : Int32))] [] := by first | (simp [entryFrame, mkF, argsToLocals, Value.category]; done) | rfl
  rw [hef]
  refine Gets.out (Q := Q_r7_coderFromArrayLen Z ya1 yk2 yi3 h0 n0) ?_
  show Gets p e below _ (s₁.setTop (mkF m 0 #[.val (.ref ya1), .val (.int (1 : Int32))] []))
  refine Gets.of (fun t k => XS.iloadN X0.here hx rfl (hb hby d22_0) rfl  k) ?_
  refine Gets.of (fun t k => XS.aloadN X0.here hx rfl (hb hby d22_1) rfl rfl  k) ?_
  obtain ⟨cl1, Ar1, -, S1, N_1, -, -⟩ := id (F0)
  refine Gets.of (X0.arraylength hx (by rw [e0]; exact Ar1.1) (State.isArrayOf_alike hZ.alike Ar1.2.1) (g := (mkF m 2 #[.val (.ref ya1), .val (.int (1 : Int32))] [(.ref ya1), (.int (1 : Int32))])) rfl rfl (hb hby d22_2)) ?_
  rw [len_of S1 N_1]
  show Gets p e below _ (s₁.setTop (mkF m 3 #[.val (.ref ya1), .val (.int (1 : Int32))] [(.int (1 : Int32)), (.int (1 : Int32))]))
  refine Gets.of (fun t k => XS.isub X0.here hx rfl (hb hby d22_3) rfl k) ?_
  show Gets p e below _ (s₁.setTop (mkF m 4 #[.val (.ref ya1), .val (.int (1 : Int32))] [(.int (0 : Int32))]))
  refine Gets.of (fun t k => XS.bipush X0.here hx rfl (hb hby d22_4) k) ?_
  refine Gets.of (fun t k => XS.iushr X0.here hx rfl (hb hby d22_6) rfl k) ?_
  show Gets p e below _ (s₁.setTop (mkF m 7 #[.val (.ref ya1), .val (.int (1 : Int32))] [(.int (0 : Int32))]))
  refine Gets.of (fun t k => XS.i2b X0.here hx rfl (hb hby d22_7) rfl k) ?_
  show Gets p e below _ (s₁.setTop (mkF m 8 #[.val (.ref ya1), .val (.int (1 : Int32))] [(.int (0 : Int32))]))
  refine Gets.retN X0 hx (t := .byte) Bd.returns (by simp) (hb hby d22_8) ?_ (by decide) (by decide)
  rw [e0]
  exact ⟨N0, rfl, rfl⟩
theorem w132 {Z : State} {a0 : Array Value} (hw : ∀ d ∈ tables_1, d.before a0 Z = true) : (Jvm.Cond.code ({ cls := cn8, name := "coderFromArrayLen", desc := "([BI)B" } : Jvm.MethodName) jdk_52_method_15_code (2 : Nat) (Option.some Jvm.ClassFile.FieldType.byte)).before a0 Z = true := hw _ (List.mem_of_getElem? (i := 132) rfl)
theorem pd__BI_B : parseMethodDescriptor "([BI)B" = some ⟨[(.array .byte), .int], some .byte⟩ := by decide +kernel
theorem w131 {Z : State} {a0 : Array Value} (hw : ∀ d ∈ tables_1, d.before a0 Z = true) : (Jvm.Cond.static ({ cls := cn8, name := "coderFromArrayLen", desc := "([BI)B" } : Jvm.MethodName)).before a0 Z = true := hw _ (List.mem_of_getElem? (i := 131) rfl)
theorem d19_48 : decode jdk_42_method_149_code 48 = .ok (.putfield 15, 3) := by decide +kernel
theorem d19_51 : decode jdk_42_method_149_code 51 = .ok (.aload_n 0, 1) := by decide +kernel
theorem d19_52 : decode jdk_42_method_149_code 52 = .ok (.aload 5, 2) := by decide +kernel
theorem d19_54 : decode jdk_42_method_149_code 54 = .ok (.putfield 9, 3) := by decide +kernel
theorem d19_57 : decode jdk_42_method_149_code 57 = .ok (.return_, 1) := by decide +kernel
def Q_r4_init (Z : State) (ya1 : Addr) (ya2 : Addr) (oi1 : Int32) (yi4 : Int32) (yk3 : ClassId) (h0 : Heap) (n0 : Nat) (v : Option Value) (h : Heap) (L : List Loc) : Prop := Fr n0 L ∧ Keep h0 h [ya1] ∧ ((∃ (b1_3 : Addr) (k1_3 : ClassId), v = none ∧ h0.size ≤ b1_3 ∧ Fld Z h ya1 cn0 "coder" "B" (.int (0 : Int32)) ∧ Fld Z h ya1 cn0 "value" "[B" (.ref b1_3) ∧ Exa Z h b1_3 "[B" ∧ Arv Z h b1_3 k1_3 .byte (1 : Int32) [(.int (nar .byte (yi4.toInt8.toInt32)))] (.int (0 : Int32))))
set_option maxRecDepth 65536 in
set_option maxHeartbeats 40000000 in
theorem r4_init (l : Launch) (Z : State) (a0 : Array Value) (hw : ∀ d ∈ tables_1, d.before a0 Z = true) (ws : List Jvm.Cond) (ya1 : Addr) (ya2 : Addr) (oi1 : Int32) (yi4 : Int32) (yk3 : ClassId) (h0 : Heap) (n0 : Nat) (O0 : Old Z n0 h0) (F0 : Arv Z h0 ya2 yk3 .char (1 : Int32) [(.int yi4)] (.int (0 : Int32))) (F1 : Exa Z h0 ya1 cn0) (F2 : Fld Z h0 ya1 cn0 "coder" "B" (.int (0 : Int32))) (F3 : Fld Z h0 ya1 cn0 "value" "[B" .null) (oS3 : Sta Z Z.heap cn0 "COMPACT_STRINGS" "Z" (.int oi1)) (gq_ya1 : n0 ≤ ya1) (hy1 : ¬ (oi1 = (0 : Int32))) (hy2 : ¬ ((255 : Int32) < yi4)) :
    MetFree l (⟨cn0, "<init>", "([CIILjava/lang/Void;)V"⟩ : MethodName) (head1 (Jvm.Cond.code (⟨cn0, "<init>", "([CIILjava/lang/Void;)V"⟩ : MethodName) jdk_42_method_149_code 6 none :: ws) ({ frames := 2, cells := 1, slots := 1, locals := 35 } : Room)) (fun a U => a = #[(.ref ya1), (.ref ya2), (.int (0 : Int32)), (.int (1 : Int32)), .null] ∧ Z.Warmed39 U.vm ∧ U.heap = h0 ∧ CHv Z own_EL U.vm h0) (fun _ _ _ _ _ => True) (fun _ U o U' => ∃ v L, o = .returned v ∧ Q_r4_init Z ya1 ya2 oi1 yi4 yk3 h0 n0 v U'.heap L ∧ ReturnedEndW U o U' L ({ frames := 2, cells := 1, slots := 1, locals := 35 } : Room).cells ({ frames := 2, cells := 1, slots := 1, locals := 35 } : Room).slots) := by
  refine MetFree.of_bodySF (plainFor_of_name pn_java_lang_String) hisR ?_
  intro p e s m args below meth c s₁ Bd hml0 hP hK
  obtain ⟨rfl, hZ0, hh, hC0⟩ := hP
  have hx := Bd.exec
  have hby := Bd.bytes
  have hlk := Bd.notSynchronized
  have hml : c.maxLocals = 6 := hml0
  have hZ : Z.Warmed39 (s.setVm s.vm).vm := hZ0
  have hown : (s.setVm s.vm).vm.findClass cn0 = some m.cls := findClass_of_methodNamed Bd.named
  have hnm := (name_of_methodNamed Bd.named Bd.method).1
  have X0 : Stand p l e ({ frames := 2, cells := 1, slots := 1, locals := 35 } : Room) (s.setVm s.vm) m #[(.ref ya1), (.ref ya2), (.int (0 : Int32)), (.int (1 : Int32)), .null] below meth c s₁ [] 0 0 := Stand.of_body Bd
  have hS0 : s.Since s.vm s.heap.size := (State.WarmedH.refl s).since _
  have hk0 : s.heap.size ≤ h0.size := Nat.le_of_eq (congrArg Array.size hh)
  have e0 : s₁.heap = h0 := by rw [← hh, Bd.state]; rfl
  have N0 := Fr.nil n0
  have K0 := Keep.refl h0 [ya1]
  have Z0 : n0 ≤ h0.size := O0.1 ▸ O0.2.1
  have hef : entryFrame m #[(.ref ya1), (.ref ya2), (.int (0 : Int32)), (.int (1 : Int32)), .null] 6 = mkF m 0 #[.val (.ref ya1), .val (.ref ya2), .val (.int (0 : Int32)), .val (.int (1 : Int32)), .val .null, .unset] [] := by first | (simp [entryFrame, mkF, argsToLocals, Value.category]; done) | rfl
  rw [hef]
  refine GetsW.out (Q := Q_r4_init Z ya1 ya2 oi1 yi4 yk3 h0 n0) ?_
  show Gets p e below _ (s₁.setTop (mkF m 0 #[.val (.ref ya1), .val (.ref ya2), .val (.int (0 : Int32)), .val (.int (1 : Int32)), .val .null, .unset] []))
  refine Gets.of (fun t k => XS.aloadN X0.here hx rfl (hb hby d19_0) rfl rfl  k) ?_
  obtain ⟨T1, X1, e1, st1⟩ := initO X0 hx hZ hown (w19 hw) (w20 hw) (w21 hw) e0 (g := (mkF m 1 #[.val (.ref ya1), .val (.ref ya2), .val (.int (0 : Int32)), .val (.int (1 : Int32)), .val .null, .unset] [(.ref ya1)])) rfl (by rw [hml]; rfl) rfl (hb hby d19_1) (by decide) (W := 0) (by show 2 * 0 + _ ≤ _; exact Nat.le_of_eq rfl) (by decide)
  refine Gets.of st1 ?_
  show Gets p e below _ (T1.setTop (mkF m 4 #[.val (.ref ya1), .val (.ref ya2), .val (.int (0 : Int32)), .val (.int (1 : Int32)), .val .null, .unset] []))
  refine Gets.of (fun t k => XS.iloadN X1.here hx rfl (hb hby d19_4) rfl  k) ?_
  refine Gets.of (fun t k => XS.ifYes X1.here hx rfl (pc0 := 5) (pc' := 27) rfl (hb hby d19_5) rfl ((if0 _ _).trans (feq (by decide : ¬ ((1 : Int32) = (0 : Int32)))).2) (by decide) (by decide) k) ?_
  show Gets p e below _ (T1.setTop (mkF m 27 #[.val (.ref ya1), .val (.ref ya2), .val (.int (0 : Int32)), .val (.int (1 : Int32)), .val .null, .unset] []))
  obtain ⟨T2, X2, e2, st2⟩ := getS2 X1 hx hZ hown (host := "") (Or.inl (w4 hw)) Via.refl e1 (oS3.ext O0.2) (g := (mkF m 27 #[.val (.ref ya1), .val (.ref ya2), .val (.int (0 : Int32)), .val (.int (1 : Int32)), .val .null, .unset] [])) rfl (hb hby d19_27)
  refine Gets.of st2 ?_
  show Gets p e below _ (T2.setTop (mkF m 30 #[.val (.ref ya1), .val (.ref ya2), .val (.int (0 : Int32)), .val (.int (1 : Int32)), .val .null, .unset] [(.int oi1)]))
  refine Gets.of (fun t k => XS.ifNo X2.here hx rfl (hb hby d19_30) rfl ((if0 _ _).trans (feq hy1).1) k) ?_
  show Gets p e below _ (T2.setTop (mkF m 33 #[.val (.ref ya1), .val (.ref ya2), .val (.int (0 : Int32)), .val (.int (1 : Int32)), .val .null, .unset] []))
  refine Gets.of (fun t k => XS.aloadN X2.here hx rfl (hb hby d19_33) rfl rfl  k) ?_
  refine Gets.of (fun t k => XS.iloadN X2.here hx rfl (hb hby d19_34) rfl  k) ?_
  refine Gets.of (fun t k => XS.iloadN X2.here hx rfl (hb hby d19_35) rfl  k) ?_
  obtain ⟨_, _, ⟨T3, L3, k3, n3⟩, -, X3, ⟨Lc3, hQ3, l3, y3, z3⟩, st3⟩ := Jvm.LawKit.callS X2 hx (y := (⟨cn8, "compress", "([CII)[B"⟩ : MethodName)) hown (mvT hZ (w123 hw)) (mvT hZ (w124 hw)) (mvT hZ (w125 hw)) (mvT hZ (w126 hw)) (by decide) (backOf (W := 0) (r5_compress l Z a0 hw [] ya2 yi4 yk3 h0 n0 O0 F0 hy2) hZ (w126 hw) (w125 hw) (by decide) (by decide)) (g := (mkF m 36 #[.val (.ref ya1), .val (.ref ya2), .val (.int (0 : Int32)), .val (.int (1 : Int32)), .val .null, .unset] [(.int (1 : Int32)), (.int (0 : Int32)), (.ref ya2)])) rfl (by rw [hml]; rfl) (argsL := [(.ref ya2), (.int (0 : Int32)), (.int (1 : Int32))]) (rest := []) (lenOf pd__CII_B rfl) rfl (by show 2 * 0 + _ ≤ _; exact Nat.le_of_eq rfl) (hb hby d19_36) (fun _ _ => ⟨rfl, e2, (by decide : 0 + 1 ≤ _), (by decide : 0 + 1 ≤ _)⟩)
  dsimp only [Pt.U, Pt.locs, Pt.cells, Pt.slots] at X3 l3 y3 z3 st3 hQ3
  subst l3 y3 z3
  obtain ⟨Nq3, Kq3, hR3⟩ := hQ3
  have N3 := Fr.app N0 Nq3
  have Hc4 := CHv.keep Kq3 sf0 hC0
  have K4 : Keep h0 _ [ya1] := K0.trans Kq3 all0
  have O4 := O0.keep Kq3 all0
  have hk5 := Nat.le_trans hk0 Kq3.1
  obtain ⟨b1_3, k1_3, rfl, bz3_0, bf3_0, bf3_1⟩ := hR3
  have sz_b1_3 : h0.size ≤ b1_3 := Nat.le_trans K0.1 bz3_0
  have g_b1_3 : n0 ≤ b1_3 := Nat.le_trans Z0 sz_b1_3
  refine Gets.of st3 ?_
  show Gets p e below _ (T3.setTop (mkF m 39 #[.val (.ref ya1), .val (.ref ya2), .val (.int (0 : Int32)), .val (.int (1 : Int32)), .val .null, .unset] [(.ref b1_3)]))
  refine Gets.of (fun t k => XS.astore X3.here hx rfl (hb hby d19_39) rfl rfl (l' := #[.val (.ref ya1), .val (.ref ya2), .val (.int (0 : Int32)), .val (.int (1 : Int32)), .val .null, .val (.ref b1_3)]) rfl k) ?_
  show Gets p e below _ (T3.setTop (mkF m 41 #[.val (.ref ya1), .val (.ref ya2), .val (.int (0 : Int32)), .val (.int (1 : Int32)), .val .null, .val (.ref b1_3)] []))
  refine Gets.of (fun t k => XS.aloadN X3.here hx rfl (hb hby d19_41) rfl rfl  k) ?_
  refine Gets.of (fun t k => XS.aload X3.here hx rfl (hb hby d19_42) rfl rfl  k) ?_
  refine Gets.of (fun t k => XS.iloadN X3.here hx rfl (hb hby d19_44) rfl  k) ?_
  obtain ⟨_, _, ⟨T6, L6, k6, n6⟩, -, X6, ⟨Lc6, hQ6, l6, y6, z6⟩, st6⟩ := Jvm.LawKit.callS X3 hx (y := (⟨cn8, "coderFromArrayLen", "([BI)B"⟩ : MethodName)) hown (mvT hZ (w130 hw)) (mvT hZ (w131 hw)) (mvT hZ (w125 hw)) (mvT hZ (w132 hw)) (by decide) (backOf (W := 1) (r7_coderFromArrayLen l Z a0 hw [] b1_3 k1_3 (nar .byte (yi4.toInt8.toInt32)) T3.heap n0 O4 bf3_1) hZ (w132 hw) (w125 hw) (by decide) (by decide)) (g := (mkF m 45 #[.val (.ref ya1), .val (.ref ya2), .val (.int (0 : Int32)), .val (.int (1 : Int32)), .val .null, .val (.ref b1_3)] [(.int (1 : Int32)), (.ref b1_3), (.ref ya1)])) rfl (by rw [hml]; rfl) (argsL := [(.ref b1_3), (.int (1 : Int32))]) (rest := [(.ref ya1)]) (lenOf pd__BI_B rfl) rfl (by show 2 * 0 + _ ≤ _; exact Nat.le_of_eq rfl) (hb hby d19_45) (fun _ _ => ⟨rfl, rfl, (by decide : 1 + 0 ≤ _), (by decide : 1 + 0 ≤ _)⟩)
  dsimp only [Pt.U, Pt.locs, Pt.cells, Pt.slots] at X6 l6 y6 z6 st6 hQ6
  subst l6 y6 z6
  obtain ⟨Nq6, eq6, hR6⟩ := hQ6
  have N6 := Fr.app N3 Nq6
  obtain rfl := hR6
  refine Gets.of st6 ?_
  show Gets p e below _ (T6.setTop (mkF m 48 #[.val (.ref ya1), .val (.ref ya2), .val (.int (0 : Int32)), .val (.int (1 : Int32)), .val .null, .val (.ref b1_3)] [(.int (0 : Int32)), (.ref ya1)]))
  have f7 : Exa Z T3.heap ya1 cn0 := (F1.keep Kq3)
  have f8 : Fld Z T3.heap ya1 cn0 "coder" "B" (.int (0 : Int32)) := (F2.keep Kq3 nin0)
  obtain ⟨T9, h9, X9, e9, W9, st9⟩ := putFN X6 hx hZ hown (w24 hw) Via.refl eq6 f8 f7 (Or.inr ⟨(w25 hw), rfl, hnm⟩) (w10 hw) (ty := .byte) (v' := (.int (0 : Int32))) (by decide) rfl (by decide) (g := (mkF m 48 #[.val (.ref ya1), .val (.ref ya2), .val (.int (0 : Int32)), .val (.int (1 : Int32)), .val .null, .val (.ref b1_3)] [(.int (0 : Int32)), (.ref ya1)])) rfl rfl (hb hby d19_48)
  have N9 := Fr.snoc X9 N6 gq_ya1
  have Fw9 : Fld Z h9 ya1 cn0 "coder" "B" (.int (0 : Int32)) := (f8).same W9
  have K10 : Keep h0 _ [ya1] := K4.wr W9 (Or.inl (by simp))
  have O10 := O4.wr W9 gq_ya1
  have hk11 := Nat.le_trans hk5 (Nat.le_of_eq W9.size.symm)
  refine Gets.of st9 ?_
  show Gets p e below _ (T9.setTop (mkF m 51 #[.val (.ref ya1), .val (.ref ya2), .val (.int (0 : Int32)), .val (.int (1 : Int32)), .val .null, .val (.ref b1_3)] []))
  refine Gets.of (fun t k => XS.aloadN X9.here hx rfl (hb hby d19_51) rfl rfl  k) ?_
  refine Gets.of (fun t k => XS.aload X9.here hx rfl (hb hby d19_52) rfl rfl  k) ?_
  have f12 : Exa Z h9 ya1 cn0 := (f7.wr W9)
  have f13 : Fld Z h9 ya1 cn0 "value" "[B" .null := ((F3.keep Kq3 nin0).other W9 (Or.inr (slot_ne (Or.inr (w23 hw)) (Or.inr (w25 hw)) (by decide) (t := (.array .byte)) (t' := .byte) (by decide) (by decide))))
  obtain ⟨T14, h14, X14, e14, W14, st14⟩ := putF X9 hx hZ hown (host := "") (Or.inl (w22 hw)) Via.refl e9 f13 f12 (Or.inr ⟨(w23 hw), rfl, hnm⟩) (w10 hw) (ty := (.array .byte)) (by decide) rfl rfl (g := (mkF m 54 #[.val (.ref ya1), .val (.ref ya2), .val (.int (0 : Int32)), .val (.int (1 : Int32)), .val .null, .val (.ref b1_3)] [(.ref b1_3), (.ref ya1)])) rfl rfl (hb hby d19_54)
  have N14 := Fr.snoc X14 N9 gq_ya1
  have Fw14 : Fld Z h14 ya1 cn0 "value" "[B" (.ref b1_3) := (f13).same W14
  have K15 : Keep h0 _ [ya1] := K10.wr W14 (Or.inl (by simp))
  have O15 := O10.wr W14 gq_ya1
  have hk16 := Nat.le_trans hk11 (Nat.le_of_eq W14.size.symm)
  refine Gets.of st14 ?_
  show Gets p e below _ (T14.setTop (mkF m 57 #[.val (.ref ya1), .val (.ref ya2), .val (.int (0 : Int32)), .val (.int (1 : Int32)), .val .null, .val (.ref b1_3)] []))
  refine GetsW.retV X14 hx Bd.returns (hb hby d19_57) hS0 (e14 ▸ hk16) ?_ (by decide) (by decide)
  rw [e14]
  have f17 : Fld Z h14 ya1 cn0 "coder" "B" (.int (0 : Int32)) := (Fw9.other W14 (Or.inr (slot_ne (Or.inr (w25 hw)) (Or.inr (w23 hw)) (by decide) (t := .byte) (t' := (.array .byte)) (by decide) (by decide))))
  have f18 : Exa Z h14 b1_3 "[B" := ((bf3_0.wr W9).wr W14)
  have f19 : Arv Z h14 b1_3 k1_3 .byte (1 : Int32) [(.int (nar .byte (yi4.toInt8.toInt32)))] (.int (0 : Int32)) := ((bf3_1.other W9 (Ne.symm (Nat.ne_of_lt (Nat.lt_of_lt_of_le F1.lt sz_b1_3)))).other W14 (Ne.symm (Nat.ne_of_lt (Nat.lt_of_lt_of_le F1.lt sz_b1_3))))
  exact ⟨N14, K15, ⟨b1_3, k1_3, rfl, sz_b1_3, f17, Fw14, f18, f19⟩⟩
def Q_r3_init (Z : State) (ya1 : Addr) (ya2 : Addr) (yk3 : ClassId) (yi4 : Int32) (oi1 : Int32) (h0 : Heap) (n0 : Nat) (v : Option Value) (h : Heap) (L : List Loc) : Prop := Fr n0 L ∧ Keep h0 h [ya1] ∧ ((∃ (b1_3_2 : Addr) (k1_3_2 : ClassId), v = none ∧ h0.size ≤ b1_3_2 ∧ Fld Z h ya1 cn0 "coder" "B" (.int (0 : Int32)) ∧ Fld Z h ya1 cn0 "value" "[B" (.ref b1_3_2) ∧ Exa Z h b1_3_2 "[B" ∧ Arv Z h b1_3_2 k1_3_2 .byte (1 : Int32) [(.int (nar .byte (yi4.toInt8.toInt32)))] (.int (0 : Int32))))
set_option maxRecDepth 65536 in
set_option maxHeartbeats 40000000 in
theorem r3_init (l : Launch) (Z : State) (a0 : Array Value) (hw : ∀ d ∈ tables_1, d.before a0 Z = true) (ws : List Jvm.Cond) (ya1 : Addr) (ya2 : Addr) (yk3 : ClassId) (yi4 : Int32) (oi1 : Int32) (h0 : Heap) (n0 : Nat) (O0 : Old Z n0 h0) (F0 : Arv Z h0 ya2 yk3 .char (1 : Int32) [(.int yi4)] (.int (0 : Int32))) (F1 : Exa Z h0 ya1 cn0) (F2 : Fld Z h0 ya1 cn0 "coder" "B" (.int (0 : Int32))) (F3 : Fld Z h0 ya1 cn0 "value" "[B" .null) (oS3 : Sta Z Z.heap cn0 "COMPACT_STRINGS" "Z" (.int oi1)) (gq_ya1 : n0 ≤ ya1) (hy1 : ¬ (oi1 = (0 : Int32))) (hy2 : ¬ ((255 : Int32) < yi4)) :
    MetFree l (⟨cn0, "<init>", "([C)V"⟩ : MethodName) (head1 (Jvm.Cond.code (⟨cn0, "<init>", "([C)V"⟩ : MethodName) jdk_42_method_3_code 2 none :: ws) ({ frames := 3, cells := 1, slots := 1, locals := 52 } : Room)) (fun a U => a = #[(.ref ya1), (.ref ya2)] ∧ Z.Warmed39 U.vm ∧ U.heap = h0 ∧ CHv Z own_EL U.vm h0) (fun _ _ _ _ _ => True) (fun _ U o U' => ∃ v L, o = .returned v ∧ Q_r3_init Z ya1 ya2 yk3 yi4 oi1 h0 n0 v U'.heap L ∧ ReturnedEndW U o U' L ({ frames := 3, cells := 1, slots := 1, locals := 52 } : Room).cells ({ frames := 3, cells := 1, slots := 1, locals := 52 } : Room).slots) := by
  refine MetFree.of_bodySF (plainFor_of_name pn_java_lang_String) hisR ?_
  intro p e s m args below meth c s₁ Bd hml0 hP hK
  obtain ⟨rfl, hZ0, hh, hC0⟩ := hP
  have hx := Bd.exec
  have hby := Bd.bytes
  have hlk := Bd.notSynchronized
  have hml : c.maxLocals = 2 := hml0
  have hZ : Z.Warmed39 (s.setVm s.vm).vm := hZ0
  have hown : (s.setVm s.vm).vm.findClass cn0 = some m.cls := findClass_of_methodNamed Bd.named
  have hnm := (name_of_methodNamed Bd.named Bd.method).1
  have X0 : Stand p l e ({ frames := 3, cells := 1, slots := 1, locals := 52 } : Room) (s.setVm s.vm) m #[(.ref ya1), (.ref ya2)] below meth c s₁ [] 0 0 := Stand.of_body Bd
  have hS0 : s.Since s.vm s.heap.size := (State.WarmedH.refl s).since _
  have hk0 : s.heap.size ≤ h0.size := Nat.le_of_eq (congrArg Array.size hh)
  have e0 : s₁.heap = h0 := by rw [← hh, Bd.state]; rfl
  have N0 := Fr.nil n0
  have K0 := Keep.refl h0 [ya1]
  have Z0 : n0 ≤ h0.size := O0.1 ▸ O0.2.1
  have hef : entryFrame m #[(.ref ya1), (.ref ya2)] 2 = mkF m 0 #[.val (.ref ya1), .val (.ref ya2)] [] := by first | (simp [entryFrame, mkF, argsToLocals, Value.category]; done) | rfl
  rw [hef]
  refine GetsW.out (Q := Q_r3_init Z ya1 ya2 yk3 yi4 oi1 h0 n0) ?_
  show Gets p e below _ (s₁.setTop (mkF m 0 #[.val (.ref ya1), .val (.ref ya2)] []))
  refine Gets.of (fun t k => XS.aloadN X0.here hx rfl (hb hby d18_0) rfl rfl  k) ?_
  refine Gets.of (fun t k => XS.aloadN X0.here hx rfl (hb hby d18_1) rfl rfl  k) ?_
  refine Gets.of (fun t k => XS.iconst X0.here hx rfl (hb hby d18_2) k) ?_
  refine Gets.of (fun t k => XS.aloadN X0.here hx rfl (hb hby d18_3) rfl rfl  k) ?_
  show Gets p e below _ (s₁.setTop (mkF m 4 #[.val (.ref ya1), .val (.ref ya2)] [(.ref ya2), (.int (0 : Int32)), (.ref ya2), (.ref ya1)]))
  obtain ⟨cl1, Ar1, -, S1, N_1, -, -⟩ := id (F0)
  refine Gets.of (X0.arraylength hx (by rw [e0]; exact Ar1.1) (State.isArrayOf_alike hZ.alike Ar1.2.1) (g := (mkF m 4 #[.val (.ref ya1), .val (.ref ya2)] [(.ref ya2), (.int (0 : Int32)), (.ref ya2), (.ref ya1)])) rfl rfl (hb hby d18_4)) ?_
  rw [len_of S1 N_1]
  show Gets p e below _ (s₁.setTop (mkF m 5 #[.val (.ref ya1), .val (.ref ya2)] [(.int (1 : Int32)), (.int (0 : Int32)), (.ref ya2), (.ref ya1)]))
  refine Gets.of (fun t k => XS.aconstNull X0.here hx rfl (hb hby d18_5) k) ?_
  obtain ⟨_, _, ⟨T2, L2, k2, n2⟩, -, Xw2, hSw2, hgw2, ⟨Lc2, hQ2, l2, y2, z2⟩, st2⟩ := X0.specialBackS hx (y := (⟨cn0, "<init>", "([CIILjava/lang/Void;)V"⟩ : MethodName)) rfl hown (mvT hZ (w120 hw)) (mvT hZ (w121 hw)) (mvT hZ (w122 hw)) (by decide) (own_backC (W := 0) (r4_init l Z a0 hw [] ya1 ya2 oi1 yi4 yk3 h0 n0 O0 F0 F1 F2 F3 oS3 gq_ya1 hy1 hy2) hZ (w122 hw) (w2 hw) (by decide) (by decide) (own_EW hw) hC0) (g := (mkF m 6 #[.val (.ref ya1), .val (.ref ya2)] [.null, (.int (1 : Int32)), (.int (0 : Int32)), (.ref ya2), (.ref ya1)])) rfl (by rw [hml]; rfl) (Steps.refl _) (a := ya1) (argsL := [(.ref ya2), (.int (0 : Int32)), (.int (1 : Int32)), .null]) (rest := []) (lenOf pd__CIILjava_lang_Void_V rfl) rfl (by show 2 * 0 + _ ≤ _; exact Nat.le_of_eq rfl) (hb hby d18_6) (fun _ _ => ⟨rfl, e0, (by decide : 0 + 1 ≤ _), (by decide : 0 + 1 ≤ _)⟩)
  dsimp only [Pt.U, Pt.locs, Pt.cells, Pt.slots] at Xw2 hSw2 hgw2 l2 y2 z2 st2 hQ2
  subst l2 y2 z2
  obtain ⟨X2, hS2, hZ2, hown2⟩ := rebS hS0 (by rw [e0]; exact hk0) Xw2 hSw2 hgw2 hZ hown
  obtain ⟨Nq2, Kq2, hR2⟩ := hQ2
  have N2 := Fr.app N0 Nq2
  have K3 : Keep h0 _ [ya1] := K0.trans Kq2 (allS (Or.inl (by simp)) all0)
  have O3 := O0.keep Kq2 (allS gq_ya1 all0)
  have hk4 := Nat.le_trans hk0 Kq2.1
  obtain ⟨b1_3_2, k1_3_2, rfl, bz2_0, bf2_0, bf2_1, bf2_2, bf2_3⟩ := hR2
  have sz_b1_3_2 : h0.size ≤ b1_3_2 := Nat.le_trans K0.1 bz2_0
  have g_b1_3_2 : n0 ≤ b1_3_2 := Nat.le_trans Z0 sz_b1_3_2
  refine Gets.tr st2 ?_
  show Gets p e below _ (T2.setTop (mkF m 9 #[.val (.ref ya1), .val (.ref ya2)] []))
  refine GetsW.retV X2 hx Bd.returns (hb hby d18_9) hS2 (Nat.le_refl T2.heap.size) ?_ (by decide) (by decide)
  exact ⟨N2, K3, ⟨b1_3_2, k1_3_2, rfl, sz_b1_3_2, bf2_0, bf2_1, bf2_2, bf2_3⟩⟩
theorem d17_65 : decode method_3_code 65 = .ok (.areturn, 1) := by decide +kernel
theorem d17_66 : decode method_3_code 66 = .ok (.iload_n 0, 1) := by decide +kernel
theorem d17_67 : decode method_3_code 67 = .ok (.iconst 2, 1) := by decide +kernel
theorem d17_68 : decode method_3_code 68 = .ok (.if_icmp .ne 29, 3) := by decide +kernel
theorem d17_71 : decode method_3_code 71 = .ok (.iconst 2, 1) := by decide +kernel
theorem d17_72 : decode method_3_code 72 = .ok (.newarray .char, 2) := by decide +kernel
theorem d17_74 : decode method_3_code 74 = .ok (.astore 6, 2) := by decide +kernel
theorem d17_76 : decode method_3_code 76 = .ok (.aload 6, 2) := by decide +kernel
theorem d17_78 : decode method_3_code 78 = .ok (.iconst 0, 1) := by decide +kernel
theorem d17_79 : decode method_3_code 79 = .ok (.iload_n 3, 1) := by decide +kernel
theorem d17_80 : decode method_3_code 80 = .ok (.castore, 1) := by decide +kernel
theorem d17_81 : decode method_3_code 81 = .ok (.aload 6, 2) := by decide +kernel
theorem d17_83 : decode method_3_code 83 = .ok (.iconst 1, 1) := by decide +kernel
theorem d17_84 : decode method_3_code 84 = .ok (.iload 4, 2) := by decide +kernel
theorem d17_86 : decode method_3_code 86 = .ok (.castore, 1) := by decide +kernel
theorem d17_87 : decode method_3_code 87 = .ok (.new 14, 3) := by decide +kernel
theorem d17_90 : decode method_3_code 90 = .ok (.dup, 1) := by decide +kernel
theorem d17_91 : decode method_3_code 91 = .ok (.aload 6, 2) := by decide +kernel
theorem d17_93 : decode method_3_code 93 = .ok (.invokespecial 54, 3) := by decide +kernel
def Q_r11_compress (Z : State) (ya1 : Addr) (ya2 : Addr) (yk3 : ClassId) (yi4 : Int32) (yi5 : Int32) (yk6 : ClassId) (h0 : Heap) (n0 : Nat) (v : Option Value) (h : Heap) (L : List Loc) : Prop := Fr n0 L ∧ Keep h0 h [ya2] ∧ ((v = some (.int (2 : Int32)) ∧ Arv Z h ya2 yk6 .byte (2 : Int32) [(.int (nar .byte (yi4.toInt8.toInt32))), (.int (nar .byte (yi5.toInt8.toInt32)))] (.int (0 : Int32))))
set_option maxRecDepth 65536 in
set_option maxHeartbeats 40000000 in
theorem r11_compress (l : Launch) (Z : State) (a0 : Array Value) (hw : ∀ d ∈ tables_1, d.before a0 Z = true) (ws : List Jvm.Cond) (ya1 : Addr) (ya2 : Addr) (yk3 : ClassId) (yi4 : Int32) (yi5 : Int32) (yk6 : ClassId) (h0 : Heap) (n0 : Nat) (O0 : Old Z n0 h0) (F0 : Arv Z h0 ya1 yk3 .char (2 : Int32) [(.int yi4), (.int yi5)] (.int (0 : Int32))) (F1 : Arv Z h0 ya2 yk6 .byte (2 : Int32) [(.int (0 : Int32)), (.int (0 : Int32))] (.int (0 : Int32))) (F2 : Exa Z h0 ya1 "[C") (F3 : Exa Z h0 ya2 "[B") (gq_ya2 : n0 ≤ ya2) (hy1 : ¬ ((255 : Int32) < yi4)) (hy2 : ¬ ((255 : Int32) < yi5)) :
    MetFree l (⟨cn8, "compress", "([CI[BII)I"⟩ : MethodName) (head1 (Jvm.Cond.code (⟨cn8, "compress", "([CI[BII)I"⟩ : MethodName) jdk_52_method_21_code 7 (some .int) :: ws) ({ frames := 0, cells := 0, slots := 0, locals := 0 } : Room)) (fun a U => a = #[(.ref ya1), (.int (0 : Int32)), (.ref ya2), (.int (0 : Int32)), (.int (2 : Int32))] ∧ Z.Warmed39 U.vm ∧ U.heap = h0) (fun _ _ _ _ _ => True) (fun _ U o U' => ∃ v L, o = .returned v ∧ Q_r11_compress Z ya1 ya2 yk3 yi4 yi5 yk6 h0 n0 v U'.heap L ∧ FrameEnd U o U' L ({ frames := 0, cells := 0, slots := 0, locals := 0 } : Room).cells ({ frames := 0, cells := 0, slots := 0, locals := 0 } : Room).slots) := by
  refine MetFree.of_bodySF (plainFor_of_name pn_java_lang_StringUTF16) hisR ?_
  intro p e s m args below meth c s₁ Bd hml0 hP hK
  obtain ⟨rfl, hZ, hh⟩ := hP
  have hx := Bd.exec
  have hby := Bd.bytes
  have hlk := Bd.notSynchronized
  have hml : c.maxLocals = 7 := hml0
  have hown : s.vm.findClass cn8 = some m.cls := findClass_of_methodNamed Bd.named
  have hnm := (name_of_methodNamed Bd.named Bd.method).1
  have X0 : Stand p l e ({ frames := 0, cells := 0, slots := 0, locals := 0 } : Room) s m #[(.ref ya1), (.int (0 : Int32)), (.ref ya2), (.int (0 : Int32)), (.int (2 : Int32))] below meth c s₁ [] 0 0 := Stand.of_body Bd
  have e0 : s₁.heap = h0 := by rw [← hh, Bd.state]; rfl
  have N0 := Fr.nil n0
  have K0 := Keep.refl h0 [ya2]
  have Z0 : n0 ≤ h0.size := O0.1 ▸ O0.2.1
  have hef : entryFrame m #[(.ref ya1), (.int (0 : Int32)), (.ref ya2), (.int (0 : Int32)), (.int (2 : Int32))] 7 = mkF m 0 #[.val (.ref ya1), .val (.int (0 : Int32)), .val (.ref ya2), .val (.int (0 : Int32)), .val (.int (2 : Int32)), .unset, .unset] [] := by first | (simp [entryFrame, mkF, argsToLocals, Value.category]; done) | rfl
  rw [hef]
  refine Gets.out (Q := Q_r11_compress Z ya1 ya2 yk3 yi4 yi5 yk6 h0 n0) ?_
  show Gets p e below _ (s₁.setTop (mkF m 0 #[.val (.ref ya1), .val (.int (0 : Int32)), .val (.ref ya2), .val (.int (0 : Int32)), .val (.int (2 : Int32)), .unset, .unset] []))
  refine Gets.of (fun t k => XS.iconst X0.here hx rfl (hb hby d21_0) k) ?_
  refine Gets.of (fun t k => XS.istore X0.here hx rfl (hb hby d21_1) rfl (l' := #[.val (.ref ya1), .val (.int (0 : Int32)), .val (.ref ya2), .val (.int (0 : Int32)), .val (.int (2 : Int32)), .val (.int (0 : Int32)), .unset]) rfl k) ?_
  show Gets p e below _ (s₁.setTop (mkF m 3 #[.val (.ref ya1), .val (.int (0 : Int32)), .val (.ref ya2), .val (.int (0 : Int32)), .val (.int (2 : Int32)), .val (.int (0 : Int32)), .unset] []))
  refine Gets.of (fun t k => XS.iload X0.here hx rfl (hb hby d21_3) rfl  k) ?_
  refine Gets.of (fun t k => XS.iload X0.here hx rfl (hb hby d21_5) rfl  k) ?_
  refine Gets.of (fun t k => XS.icmpNo X0.here hx rfl (hb hby d21_7) rfl (tlt (by decide : (0 : Int32) < (2 : Int32))).2.1 k) ?_
  show Gets p e below _ (s₁.setTop (mkF m 10 #[.val (.ref ya1), .val (.int (0 : Int32)), .val (.ref ya2), .val (.int (0 : Int32)), .val (.int (2 : Int32)), .val (.int (0 : Int32)), .unset] []))
  refine Gets.of (fun t k => XS.aloadN X0.here hx rfl (hb hby d21_10) rfl rfl  k) ?_
  refine Gets.of (fun t k => XS.iloadN X0.here hx rfl (hb hby d21_11) rfl  k) ?_
  obtain ⟨cl1, Ar1, q1, S1, N_1, H1, G1⟩ := id (F0)
  have hin1 : ¬ ((0 : Int32) < 0 ∨ cl1.slots.size ≤ ((0 : Int32)).toNatClampNeg) := inb_of S1 ⟨by decide, by decide⟩
  refine Gets.of (fun t k => X0.caload hx (j := (0 : Int32)) (v := (.int yi4)) (by rw [e0]; exact Ar1.1) (State.isArrayOf_alike hZ.alike Ar1.2.1) Ar1.2.2 hin1 (Has.at H1 hin1 rfl) (g := (mkF m 12 #[.val (.ref ya1), .val (.int (0 : Int32)), .val (.ref ya2), .val (.int (0 : Int32)), .val (.int (2 : Int32)), .val (.int (0 : Int32)), .unset] [(.int (0 : Int32)), (.ref ya1)])) rfl rfl (hb hby d21_12) t k) ?_
  show Gets p e below _ (s₁.setTop (mkF m 13 #[.val (.ref ya1), .val (.int (0 : Int32)), .val (.ref ya2), .val (.int (0 : Int32)), .val (.int (2 : Int32)), .val (.int (0 : Int32)), .unset] [(.int yi4)]))
  refine Gets.of (fun t k => XS.istore X0.here hx rfl (hb hby d21_13) rfl (l' := #[.val (.ref ya1), .val (.int (0 : Int32)), .val (.ref ya2), .val (.int (0 : Int32)), .val (.int (2 : Int32)), .val (.int (0 : Int32)), .val (.int yi4)]) rfl k) ?_
  show Gets p e below _ (s₁.setTop (mkF m 15 #[.val (.ref ya1), .val (.int (0 : Int32)), .val (.ref ya2), .val (.int (0 : Int32)), .val (.int (2 : Int32)), .val (.int (0 : Int32)), .val (.int yi4)] []))
  refine Gets.of (fun t k => XS.iload X0.here hx rfl (hb hby d21_15) rfl  k) ?_
  refine Gets.of (fun t k => XS.sipush X0.here hx rfl (hb hby d21_17) k) ?_
  refine Gets.of (fun t k => XS.icmpYes X0.here hx rfl (pc0 := 20) (pc' := 26) rfl (hb hby d21_20) rfl (flt hy1).2.2.2 (by decide) (by decide) k) ?_
  show Gets p e below _ (s₁.setTop (mkF m 26 #[.val (.ref ya1), .val (.int (0 : Int32)), .val (.ref ya2), .val (.int (0 : Int32)), .val (.int (2 : Int32)), .val (.int (0 : Int32)), .val (.int yi4)] []))
  refine Gets.of (fun t k => XS.aloadN X0.here hx rfl (hb hby d21_26) rfl rfl  k) ?_
  refine Gets.of (fun t k => XS.iloadN X0.here hx rfl (hb hby d21_27) rfl  k) ?_
  refine Gets.of (fun t k => XS.iload X0.here hx rfl (hb hby d21_28) rfl  k) ?_
  refine Gets.of (fun t k => XS.i2b X0.here hx rfl (hb hby d21_30) rfl k) ?_
  show Gets p e below _ (s₁.setTop (mkF m 31 #[.val (.ref ya1), .val (.int (0 : Int32)), .val (.ref ya2), .val (.int (0 : Int32)), .val (.int (2 : Int32)), .val (.int (0 : Int32)), .val (.int yi4)] [(.int (yi4.toInt8.toInt32)), (.int (0 : Int32)), (.ref ya2)]))
  obtain ⟨cl2, Ar2, q2, S2, N_2, H2, G2⟩ := id (F1)
  have hin2 : ¬ ((0 : Int32) < 0 ∨ cl2.slots.size ≤ ((0 : Int32)).toNatClampNeg) := inb_of S2 ⟨by decide, by decide⟩
  obtain ⟨T3, h3, X3, e3, W3, st3⟩ := stB X0 hx hZ e0 Ar2 (j := (0 : Int32)) hin2 (g := (mkF m 31 #[.val (.ref ya1), .val (.int (0 : Int32)), .val (.ref ya2), .val (.int (0 : Int32)), .val (.int (2 : Int32)), .val (.int (0 : Int32)), .val (.int yi4)] [(.int (yi4.toInt8.toInt32)), (.int (0 : Int32)), (.ref ya2)])) rfl rfl (hb hby d21_31)
  have V3 : Arv Z h3 ya2 yk6 .byte (2 : Int32) [(.int (nar .byte (yi4.toInt8.toInt32))), (.int (0 : Int32))] (.int (0 : Int32)) := Arv.set Ar2 q2 S2 N_2 H2 G2 (fits_nar_byte _) W3 0 rfl (Nat.le_of_ble_eq_true rfl)
  have N3 := Fr.snoc X3 N0 gq_ya2
  have K4 : Keep h0 _ [ya2] := K0.wr W3 (Or.inl (by simp))
  have O4 := O0.wr W3 gq_ya2
  refine Gets.of st3 ?_
  show Gets p e below _ (T3.setTop (mkF m 32 #[.val (.ref ya1), .val (.int (0 : Int32)), .val (.ref ya2), .val (.int (0 : Int32)), .val (.int (2 : Int32)), .val (.int (0 : Int32)), .val (.int yi4)] []))
  refine Gets.of (fun t k => XS.iinc X3.here hx rfl (hb hby d21_32) rfl (l' := #[.val (.ref ya1), .val (.int (1 : Int32)), .val (.ref ya2), .val (.int (0 : Int32)), .val (.int (2 : Int32)), .val (.int (0 : Int32)), .val (.int yi4)]) rfl k) ?_
  show Gets p e below _ (T3.setTop (mkF m 35 #[.val (.ref ya1), .val (.int (1 : Int32)), .val (.ref ya2), .val (.int (0 : Int32)), .val (.int (2 : Int32)), .val (.int (0 : Int32)), .val (.int yi4)] []))
  refine Gets.of (fun t k => XS.iinc X3.here hx rfl (hb hby d21_35) rfl (l' := #[.val (.ref ya1), .val (.int (1 : Int32)), .val (.ref ya2), .val (.int (1 : Int32)), .val (.int (2 : Int32)), .val (.int (0 : Int32)), .val (.int yi4)]) rfl k) ?_
  show Gets p e below _ (T3.setTop (mkF m 38 #[.val (.ref ya1), .val (.int (1 : Int32)), .val (.ref ya2), .val (.int (1 : Int32)), .val (.int (2 : Int32)), .val (.int (0 : Int32)), .val (.int yi4)] []))
  refine Gets.of (fun t k => XS.iinc X3.here hx rfl (hb hby d21_38) rfl (l' := #[.val (.ref ya1), .val (.int (1 : Int32)), .val (.ref ya2), .val (.int (1 : Int32)), .val (.int (2 : Int32)), .val (.int (1 : Int32)), .val (.int yi4)]) rfl k) ?_
  show Gets p e below _ (T3.setTop (mkF m 41 #[.val (.ref ya1), .val (.int (1 : Int32)), .val (.ref ya2), .val (.int (1 : Int32)), .val (.int (2 : Int32)), .val (.int (1 : Int32)), .val (.int yi4)] []))
  refine Gets.of (fun t k => XS.goto X3.here hx rfl (pc0 := 41) (pc' := 3) rfl (hb hby d21_41) (by decide) (by decide) k) ?_
  show Gets p e below _ (T3.setTop (mkF m 3 #[.val (.ref ya1), .val (.int (1 : Int32)), .val (.ref ya2), .val (.int (1 : Int32)), .val (.int (2 : Int32)), .val (.int (1 : Int32)), .val (.int yi4)] []))
  refine Gets.of (fun t k => XS.iload X3.here hx rfl (hb hby d21_3) rfl  k) ?_
  refine Gets.of (fun t k => XS.iload X3.here hx rfl (hb hby d21_5) rfl  k) ?_
  refine Gets.of (fun t k => XS.icmpNo X3.here hx rfl (hb hby d21_7) rfl (tlt (by decide : (1 : Int32) < (2 : Int32))).2.1 k) ?_
  show Gets p e below _ (T3.setTop (mkF m 10 #[.val (.ref ya1), .val (.int (1 : Int32)), .val (.ref ya2), .val (.int (1 : Int32)), .val (.int (2 : Int32)), .val (.int (1 : Int32)), .val (.int yi4)] []))
  refine Gets.of (fun t k => XS.aloadN X3.here hx rfl (hb hby d21_10) rfl rfl  k) ?_
  refine Gets.of (fun t k => XS.iloadN X3.here hx rfl (hb hby d21_11) rfl  k) ?_
  have f5 : Exa Z h3 ya1 "[C" := (F2.wr W3)
  have f6 : Exa Z h3 ya2 "[B" := (F3.wr W3)
  have f7 : Arv Z h3 ya1 yk3 .char (2 : Int32) [(.int yi4), (.int yi5)] (.int (0 : Int32)) := (F0.other W3 (ne_exa f5 f6 (by decide)))
  obtain ⟨cl8, Ar8, q8, S8, N_8, H8, G8⟩ := id (f7)
  have hin8 : ¬ ((1 : Int32) < 0 ∨ cl8.slots.size ≤ ((1 : Int32)).toNatClampNeg) := inb_of S8 ⟨by decide, by decide⟩
  refine Gets.of (fun t k => X3.caload hx (j := (1 : Int32)) (v := (.int yi5)) (by rw [e3]; exact Ar8.1) (State.isArrayOf_alike hZ.alike Ar8.2.1) Ar8.2.2 hin8 (Has.at H8 hin8 rfl) (g := (mkF m 12 #[.val (.ref ya1), .val (.int (1 : Int32)), .val (.ref ya2), .val (.int (1 : Int32)), .val (.int (2 : Int32)), .val (.int (1 : Int32)), .val (.int yi4)] [(.int (1 : Int32)), (.ref ya1)])) rfl rfl (hb hby d21_12) t k) ?_
  show Gets p e below _ (T3.setTop (mkF m 13 #[.val (.ref ya1), .val (.int (1 : Int32)), .val (.ref ya2), .val (.int (1 : Int32)), .val (.int (2 : Int32)), .val (.int (1 : Int32)), .val (.int yi4)] [(.int yi5)]))
  refine Gets.of (fun t k => XS.istore X3.here hx rfl (hb hby d21_13) rfl (l' := #[.val (.ref ya1), .val (.int (1 : Int32)), .val (.ref ya2), .val (.int (1 : Int32)), .val (.int (2 : Int32)), .val (.int (1 : Int32)), .val (.int yi5)]) rfl k) ?_
  show Gets p e below _ (T3.setTop (mkF m 15 #[.val (.ref ya1), .val (.int (1 : Int32)), .val (.ref ya2), .val (.int (1 : Int32)), .val (.int (2 : Int32)), .val (.int (1 : Int32)), .val (.int yi5)] []))
  refine Gets.of (fun t k => XS.iload X3.here hx rfl (hb hby d21_15) rfl  k) ?_
  refine Gets.of (fun t k => XS.sipush X3.here hx rfl (hb hby d21_17) k) ?_
  refine Gets.of (fun t k => XS.icmpYes X3.here hx rfl (pc0 := 20) (pc' := 26) rfl (hb hby d21_20) rfl (flt hy2).2.2.2 (by decide) (by decide) k) ?_
  show Gets p e below _ (T3.setTop (mkF m 26 #[.val (.ref ya1), .val (.int (1 : Int32)), .val (.ref ya2), .val (.int (1 : Int32)), .val (.int (2 : Int32)), .val (.int (1 : Int32)), .val (.int yi5)] []))
  refine Gets.of (fun t k => XS.aloadN X3.here hx rfl (hb hby d21_26) rfl rfl  k) ?_
  refine Gets.of (fun t k => XS.iloadN X3.here hx rfl (hb hby d21_27) rfl  k) ?_
  refine Gets.of (fun t k => XS.iload X3.here hx rfl (hb hby d21_28) rfl  k) ?_
  refine Gets.of (fun t k => XS.i2b X3.here hx rfl (hb hby d21_30) rfl k) ?_
  show Gets p e below _ (T3.setTop (mkF m 31 #[.val (.ref ya1), .val (.int (1 : Int32)), .val (.ref ya2), .val (.int (1 : Int32)), .val (.int (2 : Int32)), .val (.int (1 : Int32)), .val (.int yi5)] [(.int (yi5.toInt8.toInt32)), (.int (1 : Int32)), (.ref ya2)]))
  obtain ⟨cl9, Ar9, q9, S9, N_9, H9, G9⟩ := id (V3)
  have hin9 : ¬ ((1 : Int32) < 0 ∨ cl9.slots.size ≤ ((1 : Int32)).toNatClampNeg) := inb_of S9 ⟨by decide, by decide⟩
  obtain ⟨T10, h10, X10, e10, W10, st10⟩ := stB X3 hx hZ e3 Ar9 (j := (1 : Int32)) hin9 (g := (mkF m 31 #[.val (.ref ya1), .val (.int (1 : Int32)), .val (.ref ya2), .val (.int (1 : Int32)), .val (.int (2 : Int32)), .val (.int (1 : Int32)), .val (.int yi5)] [(.int (yi5.toInt8.toInt32)), (.int (1 : Int32)), (.ref ya2)])) rfl rfl (hb hby d21_31)
  have V10 : Arv Z h10 ya2 yk6 .byte (2 : Int32) [(.int (nar .byte (yi4.toInt8.toInt32))), (.int (nar .byte (yi5.toInt8.toInt32)))] (.int (0 : Int32)) := Arv.set Ar9 q9 S9 N_9 H9 G9 (fits_nar_byte _) W10 1 rfl (Nat.le_of_ble_eq_true rfl)
  have N10 := Fr.snoc X10 N3 gq_ya2
  have K11 : Keep h0 _ [ya2] := K4.wr W10 (Or.inl (by simp))
  have O11 := O4.wr W10 gq_ya2
  refine Gets.of st10 ?_
  show Gets p e below _ (T10.setTop (mkF m 32 #[.val (.ref ya1), .val (.int (1 : Int32)), .val (.ref ya2), .val (.int (1 : Int32)), .val (.int (2 : Int32)), .val (.int (1 : Int32)), .val (.int yi5)] []))
  refine Gets.of (fun t k => XS.iinc X10.here hx rfl (hb hby d21_32) rfl (l' := #[.val (.ref ya1), .val (.int (2 : Int32)), .val (.ref ya2), .val (.int (1 : Int32)), .val (.int (2 : Int32)), .val (.int (1 : Int32)), .val (.int yi5)]) rfl k) ?_
  show Gets p e below _ (T10.setTop (mkF m 35 #[.val (.ref ya1), .val (.int (2 : Int32)), .val (.ref ya2), .val (.int (1 : Int32)), .val (.int (2 : Int32)), .val (.int (1 : Int32)), .val (.int yi5)] []))
  refine Gets.of (fun t k => XS.iinc X10.here hx rfl (hb hby d21_35) rfl (l' := #[.val (.ref ya1), .val (.int (2 : Int32)), .val (.ref ya2), .val (.int (2 : Int32)), .val (.int (2 : Int32)), .val (.int (1 : Int32)), .val (.int yi5)]) rfl k) ?_
  show Gets p e below _ (T10.setTop (mkF m 38 #[.val (.ref ya1), .val (.int (2 : Int32)), .val (.ref ya2), .val (.int (2 : Int32)), .val (.int (2 : Int32)), .val (.int (1 : Int32)), .val (.int yi5)] []))
  refine Gets.of (fun t k => XS.iinc X10.here hx rfl (hb hby d21_38) rfl (l' := #[.val (.ref ya1), .val (.int (2 : Int32)), .val (.ref ya2), .val (.int (2 : Int32)), .val (.int (2 : Int32)), .val (.int (2 : Int32)), .val (.int yi5)]) rfl k) ?_
  show Gets p e below _ (T10.setTop (mkF m 41 #[.val (.ref ya1), .val (.int (2 : Int32)), .val (.ref ya2), .val (.int (2 : Int32)), .val (.int (2 : Int32)), .val (.int (2 : Int32)), .val (.int yi5)] []))
  refine Gets.of (fun t k => XS.goto X10.here hx rfl (pc0 := 41) (pc' := 3) rfl (hb hby d21_41) (by decide) (by decide) k) ?_
  show Gets p e below _ (T10.setTop (mkF m 3 #[.val (.ref ya1), .val (.int (2 : Int32)), .val (.ref ya2), .val (.int (2 : Int32)), .val (.int (2 : Int32)), .val (.int (2 : Int32)), .val (.int yi5)] []))
  refine Gets.of (fun t k => XS.iload X10.here hx rfl (hb hby d21_3) rfl  k) ?_
  refine Gets.of (fun t k => XS.iload X10.here hx rfl (hb hby d21_5) rfl  k) ?_
  refine Gets.of (fun t k => XS.icmpYes X10.here hx rfl (pc0 := 7) (pc' := 44) rfl (hb hby d21_7) rfl (flt (by decide : ¬ ((2 : Int32) < (2 : Int32)))).2.1 (by decide) (by decide) k) ?_
  show Gets p e below _ (T10.setTop (mkF m 44 #[.val (.ref ya1), .val (.int (2 : Int32)), .val (.ref ya2), .val (.int (2 : Int32)), .val (.int (2 : Int32)), .val (.int (2 : Int32)), .val (.int yi5)] []))
  refine Gets.of (fun t k => XS.iload X10.here hx rfl (hb hby d21_44) rfl  k) ?_
  refine Gets.retI X10 hx Bd.returns (hb hby d21_46) ?_ (by decide) (by decide)
  rw [e10]
  exact ⟨N10, K11, ⟨rfl, V10⟩⟩
def Q_r10_compress (Z : State) (ya1 : Addr) (yi3 : Int32) (yi4 : Int32) (yk2 : ClassId) (h0 : Heap) (n0 : Nat) (v : Option Value) (h : Heap) (L : List Loc) : Prop := Fr n0 L ∧ Keep h0 h [] ∧ ((∃ (b1 : Addr) (k1 : ClassId), v = some (.ref b1) ∧ h0.size ≤ b1 ∧ Exa Z h b1 "[B" ∧ Arv Z h b1 k1 .byte (2 : Int32) [(.int (nar .byte (yi3.toInt8.toInt32))), (.int (nar .byte (yi4.toInt8.toInt32)))] (.int (0 : Int32))))
set_option maxRecDepth 65536 in
set_option maxHeartbeats 40000000 in
theorem r10_compress (l : Launch) (Z : State) (a0 : Array Value) (hw : ∀ d ∈ tables_1, d.before a0 Z = true) (ws : List Jvm.Cond) (ya1 : Addr) (yi3 : Int32) (yi4 : Int32) (yk2 : ClassId) (h0 : Heap) (n0 : Nat) (O0 : Old Z n0 h0) (F0 : Arv Z h0 ya1 yk2 .char (2 : Int32) [(.int yi3), (.int yi4)] (.int (0 : Int32))) (F1 : Exa Z h0 ya1 "[C") (hy1 : ¬ ((255 : Int32) < yi3)) (hy2 : ¬ ((255 : Int32) < yi4)) :
    MetFree l (⟨cn8, "compress", "([CII)[B"⟩ : MethodName) (head1 (Jvm.Cond.code (⟨cn8, "compress", "([CII)[B"⟩ : MethodName) jdk_52_method_16_code 6 (some (.array .byte)) :: ws) ({ frames := 1, cells := 1, slots := 2, locals := 18 } : Room)) (fun a U => a = #[(.ref ya1), (.int (0 : Int32)), (.int (2 : Int32))] ∧ Z.Warmed39 U.vm ∧ U.heap = h0) (fun _ _ _ _ _ => True) (fun _ U o U' => ∃ v L, o = .returned v ∧ Q_r10_compress Z ya1 yi3 yi4 yk2 h0 n0 v U'.heap L ∧ FrameEnd U o U' L ({ frames := 1, cells := 1, slots := 2, locals := 18 } : Room).cells ({ frames := 1, cells := 1, slots := 2, locals := 18 } : Room).slots) := by
  refine MetFree.of_bodySF (plainFor_of_name pn_java_lang_StringUTF16) hisR ?_
  intro p e s m args below meth c s₁ Bd hml0 hP hK
  obtain ⟨rfl, hZ, hh⟩ := hP
  have hx := Bd.exec
  have hby := Bd.bytes
  have hlk := Bd.notSynchronized
  have hml : c.maxLocals = 6 := hml0
  have hown : s.vm.findClass cn8 = some m.cls := findClass_of_methodNamed Bd.named
  have hnm := (name_of_methodNamed Bd.named Bd.method).1
  have X0 : Stand p l e ({ frames := 1, cells := 1, slots := 2, locals := 18 } : Room) s m #[(.ref ya1), (.int (0 : Int32)), (.int (2 : Int32))] below meth c s₁ [] 0 0 := Stand.of_body Bd
  have e0 : s₁.heap = h0 := by rw [← hh, Bd.state]; rfl
  have N0 := Fr.nil n0
  have K0 := Keep.refl h0 []
  have Z0 : n0 ≤ h0.size := O0.1 ▸ O0.2.1
  have hef : entryFrame m #[(.ref ya1), (.int (0 : Int32)), (.int (2 : Int32))] 6 = mkF m 0 #[.val (.ref ya1), .val (.int (0 : Int32)), .val (.int (2 : Int32)), .unset, .unset, .unset] [] := by first | (simp [entryFrame, mkF, argsToLocals, Value.category]; done) | rfl
  rw [hef]
  refine Gets.out (Q := Q_r10_compress Z ya1 yi3 yi4 yk2 h0 n0) ?_
  show Gets p e below _ (s₁.setTop (mkF m 0 #[.val (.ref ya1), .val (.int (0 : Int32)), .val (.int (2 : Int32)), .unset, .unset, .unset] []))
  refine Gets.of (fun t k => XS.iloadN X0.here hx rfl (hb hby d20_0) rfl  k) ?_
  obtain ⟨T1, h1, k1, X1, e1, E1, A1, Ex1, st1⟩ := newPE X0 hx hZ (aty := .byte) (w14 hw) e0 (g := (mkF m 1 #[.val (.ref ya1), .val (.int (0 : Int32)), .val (.int (2 : Int32)), .unset, .unset, .unset] [(.int (2 : Int32))])) rfl (hb hby d20_1) rfl (by decide) (cap := 2) (by decide) (by decide) (by decide) (by decide) (ad := "[B") rfl
  obtain ⟨b1, g1⟩ : ∃ z, z = h0.size := ⟨_, rfl⟩
  rw [← g1] at A1 Ex1 st1
  have sz_b1 : h0.size ≤ b1 := Nat.le_trans K0.1 (Nat.le_of_eq g1.symm)
  have g_b1 : n0 ≤ b1 := Nat.le_trans Z0 sz_b1
  have K2 := K0.ext E1
  have O2 := O0.ext E1
  have V1 : Arv Z h1 b1 k1 .byte (2 : Int32) [(.int (0 : Int32)), (.int (0 : Int32))] (.int (0 : Int32)) := (Arv.new A1 (by decide)).pad (pad_rep [] (.int (0 : Int32)) 2)
  refine Gets.of st1 ?_
  show Gets p e below _ (T1.setTop (mkF m 3 #[.val (.ref ya1), .val (.int (0 : Int32)), .val (.int (2 : Int32)), .unset, .unset, .unset] [(.ref b1)]))
  refine Gets.of (fun t k => XS.astoreN X1.here hx rfl (hb hby d20_3) rfl rfl (l' := #[.val (.ref ya1), .val (.int (0 : Int32)), .val (.int (2 : Int32)), .val (.ref b1), .unset, .unset]) rfl k) ?_
  show Gets p e below _ (T1.setTop (mkF m 4 #[.val (.ref ya1), .val (.int (0 : Int32)), .val (.int (2 : Int32)), .val (.ref b1), .unset, .unset] []))
  refine Gets.of (fun t k => XS.aloadN X1.here hx rfl (hb hby d20_4) rfl rfl  k) ?_
  refine Gets.of (fun t k => XS.iloadN X1.here hx rfl (hb hby d20_5) rfl  k) ?_
  refine Gets.of (fun t k => XS.aloadN X1.here hx rfl (hb hby d20_6) rfl rfl  k) ?_
  refine Gets.of (fun t k => XS.iconst X1.here hx rfl (hb hby d20_7) k) ?_
  show Gets p e below _ (T1.setTop (mkF m 8 #[.val (.ref ya1), .val (.int (0 : Int32)), .val (.int (2 : Int32)), .val (.ref b1), .unset, .unset] [(.int (0 : Int32)), (.ref b1), (.int (0 : Int32)), (.ref ya1)]))
  refine Gets.of (fun t k => XS.iloadN X1.here hx rfl (hb hby d20_8) rfl  k) ?_
  have f3 : Arv Z h1 ya1 yk2 .char (2 : Int32) [(.int yi3), (.int yi4)] (.int (0 : Int32)) := (F0.ext E1)
  have f4 : Exa Z h1 ya1 "[C" := (F1.ext E1)
  obtain ⟨_, _, ⟨T5, L5, k5, n5⟩, -, X5, ⟨Lc5, hQ5, l5, y5, z5⟩, st5⟩ := Jvm.LawKit.callS X1 hx (y := (⟨cn8, "compress", "([CI[BII)I"⟩ : MethodName)) hown (mvT hZ (w127 hw)) (mvT hZ (w128 hw)) (mvT hZ (w125 hw)) (mvT hZ (w129 hw)) (by decide) (backOf (W := 0) (r11_compress l Z a0 hw [] ya1 b1 yk2 yi3 yi4 k1 h1 n0 O2 f3 V1 f4 Ex1 g_b1 hy1 hy2) hZ (w129 hw) (w125 hw) (by decide) (by decide)) (g := (mkF m 9 #[.val (.ref ya1), .val (.int (0 : Int32)), .val (.int (2 : Int32)), .val (.ref b1), .unset, .unset] [(.int (2 : Int32)), (.int (0 : Int32)), (.ref b1), (.int (0 : Int32)), (.ref ya1)])) rfl (by rw [hml]; rfl) (argsL := [(.ref ya1), (.int (0 : Int32)), (.ref b1), (.int (0 : Int32)), (.int (2 : Int32))]) (rest := []) (lenOf pd__CI_BII_I rfl) rfl (by show 2 * 0 + _ ≤ _; exact Nat.le_of_eq rfl) (hb hby d20_9) (fun _ _ => ⟨rfl, e1, (by decide : 1 + 0 ≤ _), (by decide : 2 + 0 ≤ _)⟩)
  dsimp only [Pt.U, Pt.locs, Pt.cells, Pt.slots] at X5 l5 y5 z5 st5 hQ5
  subst l5 y5 z5
  obtain ⟨Nq5, Kq5, hR5⟩ := hQ5
  have N5 := Fr.app N0 Nq5
  have K6 : Keep h0 _ [] := K2.trans Kq5 (allS (Or.inr sz_b1) all0)
  have O6 := O2.keep Kq5 (allS g_b1 all0)
  obtain ⟨rfl, bf5_0⟩ := hR5
  refine Gets.of st5 ?_
  show Gets p e below _ (T5.setTop (mkF m 12 #[.val (.ref ya1), .val (.int (0 : Int32)), .val (.int (2 : Int32)), .val (.ref b1), .unset, .unset] [(.int (2 : Int32))]))
  refine Gets.of (fun t k => XS.istore X5.here hx rfl (hb hby d20_12) rfl (l' := #[.val (.ref ya1), .val (.int (0 : Int32)), .val (.int (2 : Int32)), .val (.ref b1), .val (.int (2 : Int32)), .unset]) rfl k) ?_
  show Gets p e below _ (T5.setTop (mkF m 14 #[.val (.ref ya1), .val (.int (0 : Int32)), .val (.int (2 : Int32)), .val (.ref b1), .val (.int (2 : Int32)), .unset] []))
  refine Gets.of (fun t k => XS.iload X5.here hx rfl (hb hby d20_14) rfl  k) ?_
  refine Gets.of (fun t k => XS.iloadN X5.here hx rfl (hb hby d20_16) rfl  k) ?_
  refine Gets.of (fun t k => XS.icmpYes X5.here hx rfl (pc0 := 17) (pc' := 57) rfl (hb hby d20_17) rfl (teq (by decide : (2 : Int32) = (2 : Int32))).1 (by decide) (by decide) k) ?_
  show Gets p e below _ (T5.setTop (mkF m 57 #[.val (.ref ya1), .val (.int (0 : Int32)), .val (.int (2 : Int32)), .val (.ref b1), .val (.int (2 : Int32)), .unset] []))
  refine Gets.of (fun t k => XS.aloadN X5.here hx rfl (hb hby d20_57) rfl rfl  k) ?_
  refine Gets.retA X5 hx Bd.returns rfl rfl (hb hby d20_58) ?_ (by decide) (by decide)
  have f7 : Exa Z T5.heap b1 "[B" := (Ex1.keep Kq5)
  exact ⟨N5, K6, ⟨b1, k1, rfl, sz_b1, f7, bf5_0⟩⟩
def Q_r12_coderFromArrayLen (Z : State) (ya1 : Addr) (yk2 : ClassId) (yi3 : Int32) (yi4 : Int32) (h0 : Heap) (n0 : Nat) (v : Option Value) (h : Heap) (L : List Loc) : Prop := Fr n0 L ∧ h = h0 ∧ ((v = some (.int (0 : Int32))))
set_option maxRecDepth 65536 in
set_option maxHeartbeats 40000000 in
theorem r12_coderFromArrayLen (l : Launch) (Z : State) (a0 : Array Value) (hw : ∀ d ∈ tables_1, d.before a0 Z = true) (ws : List Jvm.Cond) (ya1 : Addr) (yk2 : ClassId) (yi3 : Int32) (yi4 : Int32) (h0 : Heap) (n0 : Nat) (O0 : Old Z n0 h0) (F0 : Arv Z h0 ya1 yk2 .byte (2 : Int32) [(.int yi3), (.int yi4)] (.int (0 : Int32))) :
    MetFree l (⟨cn8, "coderFromArrayLen", "([BI)B"⟩ : MethodName) (head1 (Jvm.Cond.code (⟨cn8, "coderFromArrayLen", "([BI)B"⟩ : MethodName) jdk_52_method_15_code 2 (some .byte) :: ws) ({ frames := 0, cells := 0, slots := 0, locals := 0 } : Room)) (fun a U => a = #[(.ref ya1), (.int (2 : Int32))] ∧ Z.Warmed39 U.vm ∧ U.heap = h0) (fun _ _ _ _ _ => True) (fun _ U o U' => ∃ v L, o = .returned v ∧ Q_r12_coderFromArrayLen Z ya1 yk2 yi3 yi4 h0 n0 v U'.heap L ∧ FrameEnd U o U' L ({ frames := 0, cells := 0, slots := 0, locals := 0 } : Room).cells ({ frames := 0, cells := 0, slots := 0, locals := 0 } : Room).slots) := by
  refine MetFree.of_bodySF (plainFor_of_name pn_java_lang_StringUTF16) hisR ?_
  intro p e s m args below meth c s₁ Bd hml0 hP hK
  obtain ⟨rfl, hZ, hh⟩ := hP
  have hx := Bd.exec
  have hby := Bd.bytes
  have hlk := Bd.notSynchronized
  have hml : c.maxLocals = 2 := hml0
  have hown : s.vm.findClass cn8 = some m.cls := findClass_of_methodNamed Bd.named
  have hnm := (name_of_methodNamed Bd.named Bd.method).1
  have X0 : Stand p l e ({ frames := 0, cells := 0, slots := 0, locals := 0 } : Room) s m #[(.ref ya1), (.int (2 : Int32))] below meth c s₁ [] 0 0 := Stand.of_body Bd
  have e0 : s₁.heap = h0 := by rw [← hh, Bd.state]; rfl
  have N0 := Fr.nil n0
  have K0 := Keep.refl h0 []
  have Z0 : n0 ≤ h0.size := O0.1 ▸ O0.2.1
  have hef : entryFrame m #[(.ref ya1), (.int (2 : Int32))] 2 = mkF m 0 #[.val (.ref ya1), .val (.int (2 : Int32))] [] := by first | (simp [entryFrame, mkF, argsToLocals, Value.category]; done) | rfl
  rw [hef]
  refine Gets.out (Q := Q_r12_coderFromArrayLen Z ya1 yk2 yi3 yi4 h0 n0) ?_
  show Gets p e below _ (s₁.setTop (mkF m 0 #[.val (.ref ya1), .val (.int (2 : Int32))] []))
  refine Gets.of (fun t k => XS.iloadN X0.here hx rfl (hb hby d22_0) rfl  k) ?_
  refine Gets.of (fun t k => XS.aloadN X0.here hx rfl (hb hby d22_1) rfl rfl  k) ?_
  obtain ⟨cl1, Ar1, -, S1, N_1, -, -⟩ := id (F0)
  refine Gets.of (X0.arraylength hx (by rw [e0]; exact Ar1.1) (State.isArrayOf_alike hZ.alike Ar1.2.1) (g := (mkF m 2 #[.val (.ref ya1), .val (.int (2 : Int32))] [(.ref ya1), (.int (2 : Int32))])) rfl rfl (hb hby d22_2)) ?_
  rw [len_of S1 N_1]
  show Gets p e below _ (s₁.setTop (mkF m 3 #[.val (.ref ya1), .val (.int (2 : Int32))] [(.int (2 : Int32)), (.int (2 : Int32))]))
  refine Gets.of (fun t k => XS.isub X0.here hx rfl (hb hby d22_3) rfl k) ?_
  show Gets p e below _ (s₁.setTop (mkF m 4 #[.val (.ref ya1), .val (.int (2 : Int32))] [(.int (0 : Int32))]))
  refine Gets.of (fun t k => XS.bipush X0.here hx rfl (hb hby d22_4) k) ?_
  refine Gets.of (fun t k => XS.iushr X0.here hx rfl (hb hby d22_6) rfl k) ?_
  show Gets p e below _ (s₁.setTop (mkF m 7 #[.val (.ref ya1), .val (.int (2 : Int32))] [(.int (0 : Int32))]))
  refine Gets.of (fun t k => XS.i2b X0.here hx rfl (hb hby d22_7) rfl k) ?_
  show Gets p e below _ (s₁.setTop (mkF m 8 #[.val (.ref ya1), .val (.int (2 : Int32))] [(.int (0 : Int32))]))
  refine Gets.retN X0 hx (t := .byte) Bd.returns (by simp) (hb hby d22_8) ?_ (by decide) (by decide)
  rw [e0]
  exact ⟨N0, rfl, rfl⟩
def Q_r9_init (Z : State) (ya1 : Addr) (ya2 : Addr) (oi1 : Int32) (yi4 : Int32) (yi5 : Int32) (yk3 : ClassId) (h0 : Heap) (n0 : Nat) (v : Option Value) (h : Heap) (L : List Loc) : Prop := Fr n0 L ∧ Keep h0 h [ya1] ∧ ((∃ (b1_3 : Addr) (k1_3 : ClassId), v = none ∧ h0.size ≤ b1_3 ∧ Fld Z h ya1 cn0 "coder" "B" (.int (0 : Int32)) ∧ Fld Z h ya1 cn0 "value" "[B" (.ref b1_3) ∧ Exa Z h b1_3 "[B" ∧ Arv Z h b1_3 k1_3 .byte (2 : Int32) [(.int (nar .byte (yi4.toInt8.toInt32))), (.int (nar .byte (yi5.toInt8.toInt32)))] (.int (0 : Int32))))
set_option maxRecDepth 65536 in
set_option maxHeartbeats 40000000 in
theorem r9_init (l : Launch) (Z : State) (a0 : Array Value) (hw : ∀ d ∈ tables_1, d.before a0 Z = true) (ws : List Jvm.Cond) (ya1 : Addr) (ya2 : Addr) (oi1 : Int32) (yi4 : Int32) (yi5 : Int32) (yk3 : ClassId) (h0 : Heap) (n0 : Nat) (O0 : Old Z n0 h0) (F0 : Arv Z h0 ya2 yk3 .char (2 : Int32) [(.int yi4), (.int yi5)] (.int (0 : Int32))) (F1 : Exa Z h0 ya2 "[C") (F2 : Exa Z h0 ya1 cn0) (F3 : Fld Z h0 ya1 cn0 "coder" "B" (.int (0 : Int32))) (F4 : Fld Z h0 ya1 cn0 "value" "[B" .null) (oS3 : Sta Z Z.heap cn0 "COMPACT_STRINGS" "Z" (.int oi1)) (gq_ya1 : n0 ≤ ya1) (hy1 : ¬ (oi1 = (0 : Int32))) (hy2 : ¬ ((255 : Int32) < yi4)) (hy3 : ¬ ((255 : Int32) < yi5)) :
    MetFree l (⟨cn0, "<init>", "([CIILjava/lang/Void;)V"⟩ : MethodName) (head1 (Jvm.Cond.code (⟨cn0, "<init>", "([CIILjava/lang/Void;)V"⟩ : MethodName) jdk_42_method_149_code 6 none :: ws) ({ frames := 2, cells := 1, slots := 2, locals := 35 } : Room)) (fun a U => a = #[(.ref ya1), (.ref ya2), (.int (0 : Int32)), (.int (2 : Int32)), .null] ∧ Z.Warmed39 U.vm ∧ U.heap = h0 ∧ CHv Z own_EL U.vm h0) (fun _ _ _ _ _ => True) (fun _ U o U' => ∃ v L, o = .returned v ∧ Q_r9_init Z ya1 ya2 oi1 yi4 yi5 yk3 h0 n0 v U'.heap L ∧ ReturnedEndW U o U' L ({ frames := 2, cells := 1, slots := 2, locals := 35 } : Room).cells ({ frames := 2, cells := 1, slots := 2, locals := 35 } : Room).slots) := by
  refine MetFree.of_bodySF (plainFor_of_name pn_java_lang_String) hisR ?_
  intro p e s m args below meth c s₁ Bd hml0 hP hK
  obtain ⟨rfl, hZ0, hh, hC0⟩ := hP
  have hx := Bd.exec
  have hby := Bd.bytes
  have hlk := Bd.notSynchronized
  have hml : c.maxLocals = 6 := hml0
  have hZ : Z.Warmed39 (s.setVm s.vm).vm := hZ0
  have hown : (s.setVm s.vm).vm.findClass cn0 = some m.cls := findClass_of_methodNamed Bd.named
  have hnm := (name_of_methodNamed Bd.named Bd.method).1
  have X0 : Stand p l e ({ frames := 2, cells := 1, slots := 2, locals := 35 } : Room) (s.setVm s.vm) m #[(.ref ya1), (.ref ya2), (.int (0 : Int32)), (.int (2 : Int32)), .null] below meth c s₁ [] 0 0 := Stand.of_body Bd
  have hS0 : s.Since s.vm s.heap.size := (State.WarmedH.refl s).since _
  have hk0 : s.heap.size ≤ h0.size := Nat.le_of_eq (congrArg Array.size hh)
  have e0 : s₁.heap = h0 := by rw [← hh, Bd.state]; rfl
  have N0 := Fr.nil n0
  have K0 := Keep.refl h0 [ya1]
  have Z0 : n0 ≤ h0.size := O0.1 ▸ O0.2.1
  have hef : entryFrame m #[(.ref ya1), (.ref ya2), (.int (0 : Int32)), (.int (2 : Int32)), .null] 6 = mkF m 0 #[.val (.ref ya1), .val (.ref ya2), .val (.int (0 : Int32)), .val (.int (2 : Int32)), .val .null, .unset] [] := by first | (simp [entryFrame, mkF, argsToLocals, Value.category]; done) | rfl
  rw [hef]
  refine GetsW.out (Q := Q_r9_init Z ya1 ya2 oi1 yi4 yi5 yk3 h0 n0) ?_
  show Gets p e below _ (s₁.setTop (mkF m 0 #[.val (.ref ya1), .val (.ref ya2), .val (.int (0 : Int32)), .val (.int (2 : Int32)), .val .null, .unset] []))
  refine Gets.of (fun t k => XS.aloadN X0.here hx rfl (hb hby d19_0) rfl rfl  k) ?_
  obtain ⟨T1, X1, e1, st1⟩ := initO X0 hx hZ hown (w19 hw) (w20 hw) (w21 hw) e0 (g := (mkF m 1 #[.val (.ref ya1), .val (.ref ya2), .val (.int (0 : Int32)), .val (.int (2 : Int32)), .val .null, .unset] [(.ref ya1)])) rfl (by rw [hml]; rfl) rfl (hb hby d19_1) (by decide) (W := 0) (by show 2 * 0 + _ ≤ _; exact Nat.le_of_eq rfl) (by decide)
  refine Gets.of st1 ?_
  show Gets p e below _ (T1.setTop (mkF m 4 #[.val (.ref ya1), .val (.ref ya2), .val (.int (0 : Int32)), .val (.int (2 : Int32)), .val .null, .unset] []))
  refine Gets.of (fun t k => XS.iloadN X1.here hx rfl (hb hby d19_4) rfl  k) ?_
  refine Gets.of (fun t k => XS.ifYes X1.here hx rfl (pc0 := 5) (pc' := 27) rfl (hb hby d19_5) rfl ((if0 _ _).trans (feq (by decide : ¬ ((2 : Int32) = (0 : Int32)))).2) (by decide) (by decide) k) ?_
  show Gets p e below _ (T1.setTop (mkF m 27 #[.val (.ref ya1), .val (.ref ya2), .val (.int (0 : Int32)), .val (.int (2 : Int32)), .val .null, .unset] []))
  obtain ⟨T2, X2, e2, st2⟩ := getS2 X1 hx hZ hown (host := "") (Or.inl (w4 hw)) Via.refl e1 (oS3.ext O0.2) (g := (mkF m 27 #[.val (.ref ya1), .val (.ref ya2), .val (.int (0 : Int32)), .val (.int (2 : Int32)), .val .null, .unset] [])) rfl (hb hby d19_27)
  refine Gets.of st2 ?_
  show Gets p e below _ (T2.setTop (mkF m 30 #[.val (.ref ya1), .val (.ref ya2), .val (.int (0 : Int32)), .val (.int (2 : Int32)), .val .null, .unset] [(.int oi1)]))
  refine Gets.of (fun t k => XS.ifNo X2.here hx rfl (hb hby d19_30) rfl ((if0 _ _).trans (feq hy1).1) k) ?_
  show Gets p e below _ (T2.setTop (mkF m 33 #[.val (.ref ya1), .val (.ref ya2), .val (.int (0 : Int32)), .val (.int (2 : Int32)), .val .null, .unset] []))
  refine Gets.of (fun t k => XS.aloadN X2.here hx rfl (hb hby d19_33) rfl rfl  k) ?_
  refine Gets.of (fun t k => XS.iloadN X2.here hx rfl (hb hby d19_34) rfl  k) ?_
  refine Gets.of (fun t k => XS.iloadN X2.here hx rfl (hb hby d19_35) rfl  k) ?_
  obtain ⟨_, _, ⟨T3, L3, k3, n3⟩, -, X3, ⟨Lc3, hQ3, l3, y3, z3⟩, st3⟩ := Jvm.LawKit.callS X2 hx (y := (⟨cn8, "compress", "([CII)[B"⟩ : MethodName)) hown (mvT hZ (w123 hw)) (mvT hZ (w124 hw)) (mvT hZ (w125 hw)) (mvT hZ (w126 hw)) (by decide) (backOf (W := 0) (r10_compress l Z a0 hw [] ya2 yi4 yi5 yk3 h0 n0 O0 F0 F1 hy2 hy3) hZ (w126 hw) (w125 hw) (by decide) (by decide)) (g := (mkF m 36 #[.val (.ref ya1), .val (.ref ya2), .val (.int (0 : Int32)), .val (.int (2 : Int32)), .val .null, .unset] [(.int (2 : Int32)), (.int (0 : Int32)), (.ref ya2)])) rfl (by rw [hml]; rfl) (argsL := [(.ref ya2), (.int (0 : Int32)), (.int (2 : Int32))]) (rest := []) (lenOf pd__CII_B rfl) rfl (by show 2 * 0 + _ ≤ _; exact Nat.le_of_eq rfl) (hb hby d19_36) (fun _ _ => ⟨rfl, e2, (by decide : 0 + 1 ≤ _), (by decide : 0 + 2 ≤ _)⟩)
  dsimp only [Pt.U, Pt.locs, Pt.cells, Pt.slots] at X3 l3 y3 z3 st3 hQ3
  subst l3 y3 z3
  obtain ⟨Nq3, Kq3, hR3⟩ := hQ3
  have N3 := Fr.app N0 Nq3
  have Hc4 := CHv.keep Kq3 sf0 hC0
  have K4 : Keep h0 _ [ya1] := K0.trans Kq3 all0
  have O4 := O0.keep Kq3 all0
  have hk5 := Nat.le_trans hk0 Kq3.1
  obtain ⟨b1_3, k1_3, rfl, bz3_0, bf3_0, bf3_1⟩ := hR3
  have sz_b1_3 : h0.size ≤ b1_3 := Nat.le_trans K0.1 bz3_0
  have g_b1_3 : n0 ≤ b1_3 := Nat.le_trans Z0 sz_b1_3
  refine Gets.of st3 ?_
  show Gets p e below _ (T3.setTop (mkF m 39 #[.val (.ref ya1), .val (.ref ya2), .val (.int (0 : Int32)), .val (.int (2 : Int32)), .val .null, .unset] [(.ref b1_3)]))
  refine Gets.of (fun t k => XS.astore X3.here hx rfl (hb hby d19_39) rfl rfl (l' := #[.val (.ref ya1), .val (.ref ya2), .val (.int (0 : Int32)), .val (.int (2 : Int32)), .val .null, .val (.ref b1_3)]) rfl k) ?_
  show Gets p e below _ (T3.setTop (mkF m 41 #[.val (.ref ya1), .val (.ref ya2), .val (.int (0 : Int32)), .val (.int (2 : Int32)), .val .null, .val (.ref b1_3)] []))
  refine Gets.of (fun t k => XS.aloadN X3.here hx rfl (hb hby d19_41) rfl rfl  k) ?_
  refine Gets.of (fun t k => XS.aload X3.here hx rfl (hb hby d19_42) rfl rfl  k) ?_
  refine Gets.of (fun t k => XS.iloadN X3.here hx rfl (hb hby d19_44) rfl  k) ?_
  obtain ⟨_, _, ⟨T6, L6, k6, n6⟩, -, X6, ⟨Lc6, hQ6, l6, y6, z6⟩, st6⟩ := Jvm.LawKit.callS X3 hx (y := (⟨cn8, "coderFromArrayLen", "([BI)B"⟩ : MethodName)) hown (mvT hZ (w130 hw)) (mvT hZ (w131 hw)) (mvT hZ (w125 hw)) (mvT hZ (w132 hw)) (by decide) (backOf (W := 1) (r12_coderFromArrayLen l Z a0 hw [] b1_3 k1_3 (nar .byte (yi4.toInt8.toInt32)) (nar .byte (yi5.toInt8.toInt32)) T3.heap n0 O4 bf3_1) hZ (w132 hw) (w125 hw) (by decide) (by decide)) (g := (mkF m 45 #[.val (.ref ya1), .val (.ref ya2), .val (.int (0 : Int32)), .val (.int (2 : Int32)), .val .null, .val (.ref b1_3)] [(.int (2 : Int32)), (.ref b1_3), (.ref ya1)])) rfl (by rw [hml]; rfl) (argsL := [(.ref b1_3), (.int (2 : Int32))]) (rest := [(.ref ya1)]) (lenOf pd__BI_B rfl) rfl (by show 2 * 0 + _ ≤ _; exact Nat.le_of_eq rfl) (hb hby d19_45) (fun _ _ => ⟨rfl, rfl, (by decide : 1 + 0 ≤ _), (by decide : 2 + 0 ≤ _)⟩)
  dsimp only [Pt.U, Pt.locs, Pt.cells, Pt.slots] at X6 l6 y6 z6 st6 hQ6
  subst l6 y6 z6
  obtain ⟨Nq6, eq6, hR6⟩ := hQ6
  have N6 := Fr.app N3 Nq6
  obtain rfl := hR6
  refine Gets.of st6 ?_
  show Gets p e below _ (T6.setTop (mkF m 48 #[.val (.ref ya1), .val (.ref ya2), .val (.int (0 : Int32)), .val (.int (2 : Int32)), .val .null, .val (.ref b1_3)] [(.int (0 : Int32)), (.ref ya1)]))
  have f7 : Exa Z T3.heap ya1 cn0 := (F2.keep Kq3)
  have f8 : Fld Z T3.heap ya1 cn0 "coder" "B" (.int (0 : Int32)) := (F3.keep Kq3 nin0)
  obtain ⟨T9, h9, X9, e9, W9, st9⟩ := putFN X6 hx hZ hown (w24 hw) Via.refl eq6 f8 f7 (Or.inr ⟨(w25 hw), rfl, hnm⟩) (w10 hw) (ty := .byte) (v' := (.int (0 : Int32))) (by decide) rfl (by decide) (g := (mkF m 48 #[.val (.ref ya1), .val (.ref ya2), .val (.int (0 : Int32)), .val (.int (2 : Int32)), .val .null, .val (.ref b1_3)] [(.int (0 : Int32)), (.ref ya1)])) rfl rfl (hb hby d19_48)
  have N9 := Fr.snoc X9 N6 gq_ya1
  have Fw9 : Fld Z h9 ya1 cn0 "coder" "B" (.int (0 : Int32)) := (f8).same W9
  have K10 : Keep h0 _ [ya1] := K4.wr W9 (Or.inl (by simp))
  have O10 := O4.wr W9 gq_ya1
  have hk11 := Nat.le_trans hk5 (Nat.le_of_eq W9.size.symm)
  refine Gets.of st9 ?_
  show Gets p e below _ (T9.setTop (mkF m 51 #[.val (.ref ya1), .val (.ref ya2), .val (.int (0 : Int32)), .val (.int (2 : Int32)), .val .null, .val (.ref b1_3)] []))
  refine Gets.of (fun t k => XS.aloadN X9.here hx rfl (hb hby d19_51) rfl rfl  k) ?_
  refine Gets.of (fun t k => XS.aload X9.here hx rfl (hb hby d19_52) rfl rfl  k) ?_
  have f12 : Exa Z h9 ya1 cn0 := (f7.wr W9)
  have f13 : Fld Z h9 ya1 cn0 "value" "[B" .null := ((F4.keep Kq3 nin0).other W9 (Or.inr (slot_ne (Or.inr (w23 hw)) (Or.inr (w25 hw)) (by decide) (t := (.array .byte)) (t' := .byte) (by decide) (by decide))))
  obtain ⟨T14, h14, X14, e14, W14, st14⟩ := putF X9 hx hZ hown (host := "") (Or.inl (w22 hw)) Via.refl e9 f13 f12 (Or.inr ⟨(w23 hw), rfl, hnm⟩) (w10 hw) (ty := (.array .byte)) (by decide) rfl rfl (g := (mkF m 54 #[.val (.ref ya1), .val (.ref ya2), .val (.int (0 : Int32)), .val (.int (2 : Int32)), .val .null, .val (.ref b1_3)] [(.ref b1_3), (.ref ya1)])) rfl rfl (hb hby d19_54)
  have N14 := Fr.snoc X14 N9 gq_ya1
  have Fw14 : Fld Z h14 ya1 cn0 "value" "[B" (.ref b1_3) := (f13).same W14
  have K15 : Keep h0 _ [ya1] := K10.wr W14 (Or.inl (by simp))
  have O15 := O10.wr W14 gq_ya1
  have hk16 := Nat.le_trans hk11 (Nat.le_of_eq W14.size.symm)
  refine Gets.of st14 ?_
  show Gets p e below _ (T14.setTop (mkF m 57 #[.val (.ref ya1), .val (.ref ya2), .val (.int (0 : Int32)), .val (.int (2 : Int32)), .val .null, .val (.ref b1_3)] []))
  refine GetsW.retV X14 hx Bd.returns (hb hby d19_57) hS0 (e14 ▸ hk16) ?_ (by decide) (by decide)
  rw [e14]
  have f17 : Fld Z h14 ya1 cn0 "coder" "B" (.int (0 : Int32)) := (Fw9.other W14 (Or.inr (slot_ne (Or.inr (w25 hw)) (Or.inr (w23 hw)) (by decide) (t := .byte) (t' := (.array .byte)) (by decide) (by decide))))
  have f18 : Exa Z h14 b1_3 "[B" := ((bf3_0.wr W9).wr W14)
  have f19 : Arv Z h14 b1_3 k1_3 .byte (2 : Int32) [(.int (nar .byte (yi4.toInt8.toInt32))), (.int (nar .byte (yi5.toInt8.toInt32)))] (.int (0 : Int32)) := ((bf3_1.other W9 (Ne.symm (Nat.ne_of_lt (Nat.lt_of_lt_of_le F2.lt sz_b1_3)))).other W14 (Ne.symm (Nat.ne_of_lt (Nat.lt_of_lt_of_le F2.lt sz_b1_3))))
  exact ⟨N14, K15, ⟨b1_3, k1_3, rfl, sz_b1_3, f17, Fw14, f18, f19⟩⟩
def Q_r8_init (Z : State) (ya1 : Addr) (ya2 : Addr) (yk3 : ClassId) (yi4 : Int32) (yi5 : Int32) (oi1 : Int32) (h0 : Heap) (n0 : Nat) (v : Option Value) (h : Heap) (L : List Loc) : Prop := Fr n0 L ∧ Keep h0 h [ya1] ∧ ((∃ (b1_3_2 : Addr) (k1_3_2 : ClassId), v = none ∧ h0.size ≤ b1_3_2 ∧ Fld Z h ya1 cn0 "coder" "B" (.int (0 : Int32)) ∧ Fld Z h ya1 cn0 "value" "[B" (.ref b1_3_2) ∧ Exa Z h b1_3_2 "[B" ∧ Arv Z h b1_3_2 k1_3_2 .byte (2 : Int32) [(.int (nar .byte (yi4.toInt8.toInt32))), (.int (nar .byte (yi5.toInt8.toInt32)))] (.int (0 : Int32))))
set_option maxRecDepth 65536 in
set_option maxHeartbeats 40000000 in
theorem r8_init (l : Launch) (Z : State) (a0 : Array Value) (hw : ∀ d ∈ tables_1, d.before a0 Z = true) (ws : List Jvm.Cond) (ya1 : Addr) (ya2 : Addr) (yk3 : ClassId) (yi4 : Int32) (yi5 : Int32) (oi1 : Int32) (h0 : Heap) (n0 : Nat) (O0 : Old Z n0 h0) (F0 : Arv Z h0 ya2 yk3 .char (2 : Int32) [(.int yi4), (.int yi5)] (.int (0 : Int32))) (F1 : Exa Z h0 ya2 "[C") (F2 : Exa Z h0 ya1 cn0) (F3 : Fld Z h0 ya1 cn0 "coder" "B" (.int (0 : Int32))) (F4 : Fld Z h0 ya1 cn0 "value" "[B" .null) (oS3 : Sta Z Z.heap cn0 "COMPACT_STRINGS" "Z" (.int oi1)) (gq_ya1 : n0 ≤ ya1) (hy1 : ¬ (oi1 = (0 : Int32))) (hy2 : ¬ ((255 : Int32) < yi4)) (hy3 : ¬ ((255 : Int32) < yi5)) :
    MetFree l (⟨cn0, "<init>", "([C)V"⟩ : MethodName) (head1 (Jvm.Cond.code (⟨cn0, "<init>", "([C)V"⟩ : MethodName) jdk_42_method_3_code 2 none :: ws) ({ frames := 3, cells := 1, slots := 2, locals := 52 } : Room)) (fun a U => a = #[(.ref ya1), (.ref ya2)] ∧ Z.Warmed39 U.vm ∧ U.heap = h0 ∧ CHv Z own_EL U.vm h0) (fun _ _ _ _ _ => True) (fun _ U o U' => ∃ v L, o = .returned v ∧ Q_r8_init Z ya1 ya2 yk3 yi4 yi5 oi1 h0 n0 v U'.heap L ∧ ReturnedEndW U o U' L ({ frames := 3, cells := 1, slots := 2, locals := 52 } : Room).cells ({ frames := 3, cells := 1, slots := 2, locals := 52 } : Room).slots) := by
  refine MetFree.of_bodySF (plainFor_of_name pn_java_lang_String) hisR ?_
  intro p e s m args below meth c s₁ Bd hml0 hP hK
  obtain ⟨rfl, hZ0, hh, hC0⟩ := hP
  have hx := Bd.exec
  have hby := Bd.bytes
  have hlk := Bd.notSynchronized
  have hml : c.maxLocals = 2 := hml0
  have hZ : Z.Warmed39 (s.setVm s.vm).vm := hZ0
  have hown : (s.setVm s.vm).vm.findClass cn0 = some m.cls := findClass_of_methodNamed Bd.named
  have hnm := (name_of_methodNamed Bd.named Bd.method).1
  have X0 : Stand p l e ({ frames := 3, cells := 1, slots := 2, locals := 52 } : Room) (s.setVm s.vm) m #[(.ref ya1), (.ref ya2)] below meth c s₁ [] 0 0 := Stand.of_body Bd
  have hS0 : s.Since s.vm s.heap.size := (State.WarmedH.refl s).since _
  have hk0 : s.heap.size ≤ h0.size := Nat.le_of_eq (congrArg Array.size hh)
  have e0 : s₁.heap = h0 := by rw [← hh, Bd.state]; rfl
  have N0 := Fr.nil n0
  have K0 := Keep.refl h0 [ya1]
  have Z0 : n0 ≤ h0.size := O0.1 ▸ O0.2.1
  have hef : entryFrame m #[(.ref ya1), (.ref ya2)] 2 = mkF m 0 #[.val (.ref ya1), .val (.ref ya2)] [] := by first | (simp [entryFrame, mkF, argsToLocals, Value.category]; done) | rfl
  rw [hef]
  refine GetsW.out (Q := Q_r8_init Z ya1 ya2 yk3 yi4 yi5 oi1 h0 n0) ?_
  show Gets p e below _ (s₁.setTop (mkF m 0 #[.val (.ref ya1), .val (.ref ya2)] []))
  refine Gets.of (fun t k => XS.aloadN X0.here hx rfl (hb hby d18_0) rfl rfl  k) ?_
  refine Gets.of (fun t k => XS.aloadN X0.here hx rfl (hb hby d18_1) rfl rfl  k) ?_
  refine Gets.of (fun t k => XS.iconst X0.here hx rfl (hb hby d18_2) k) ?_
  refine Gets.of (fun t k => XS.aloadN X0.here hx rfl (hb hby d18_3) rfl rfl  k) ?_
  show Gets p e below _ (s₁.setTop (mkF m 4 #[.val (.ref ya1), .val (.ref ya2)] [(.ref ya2), (.int (0 : Int32)), (.ref ya2), (.ref ya1)]))
  obtain ⟨cl1, Ar1, -, S1, N_1, -, -⟩ := id (F0)
  refine Gets.of (X0.arraylength hx (by rw [e0]; exact Ar1.1) (State.isArrayOf_alike hZ.alike Ar1.2.1) (g := (mkF m 4 #[.val (.ref ya1), .val (.ref ya2)] [(.ref ya2), (.int (0 : Int32)), (.ref ya2), (.ref ya1)])) rfl rfl (hb hby d18_4)) ?_
  rw [len_of S1 N_1]
  show Gets p e below _ (s₁.setTop (mkF m 5 #[.val (.ref ya1), .val (.ref ya2)] [(.int (2 : Int32)), (.int (0 : Int32)), (.ref ya2), (.ref ya1)]))
  refine Gets.of (fun t k => XS.aconstNull X0.here hx rfl (hb hby d18_5) k) ?_
  obtain ⟨_, _, ⟨T2, L2, k2, n2⟩, -, Xw2, hSw2, hgw2, ⟨Lc2, hQ2, l2, y2, z2⟩, st2⟩ := X0.specialBackS hx (y := (⟨cn0, "<init>", "([CIILjava/lang/Void;)V"⟩ : MethodName)) rfl hown (mvT hZ (w120 hw)) (mvT hZ (w121 hw)) (mvT hZ (w122 hw)) (by decide) (own_backC (W := 0) (r9_init l Z a0 hw [] ya1 ya2 oi1 yi4 yi5 yk3 h0 n0 O0 F0 F1 F2 F3 F4 oS3 gq_ya1 hy1 hy2 hy3) hZ (w122 hw) (w2 hw) (by decide) (by decide) (own_EW hw) hC0) (g := (mkF m 6 #[.val (.ref ya1), .val (.ref ya2)] [.null, (.int (2 : Int32)), (.int (0 : Int32)), (.ref ya2), (.ref ya1)])) rfl (by rw [hml]; rfl) (Steps.refl _) (a := ya1) (argsL := [(.ref ya2), (.int (0 : Int32)), (.int (2 : Int32)), .null]) (rest := []) (lenOf pd__CIILjava_lang_Void_V rfl) rfl (by show 2 * 0 + _ ≤ _; exact Nat.le_of_eq rfl) (hb hby d18_6) (fun _ _ => ⟨rfl, e0, (by decide : 0 + 1 ≤ _), (by decide : 0 + 2 ≤ _)⟩)
  dsimp only [Pt.U, Pt.locs, Pt.cells, Pt.slots] at Xw2 hSw2 hgw2 l2 y2 z2 st2 hQ2
  subst l2 y2 z2
  obtain ⟨X2, hS2, hZ2, hown2⟩ := rebS hS0 (by rw [e0]; exact hk0) Xw2 hSw2 hgw2 hZ hown
  obtain ⟨Nq2, Kq2, hR2⟩ := hQ2
  have N2 := Fr.app N0 Nq2
  have K3 : Keep h0 _ [ya1] := K0.trans Kq2 (allS (Or.inl (by simp)) all0)
  have O3 := O0.keep Kq2 (allS gq_ya1 all0)
  have hk4 := Nat.le_trans hk0 Kq2.1
  obtain ⟨b1_3_2, k1_3_2, rfl, bz2_0, bf2_0, bf2_1, bf2_2, bf2_3⟩ := hR2
  have sz_b1_3_2 : h0.size ≤ b1_3_2 := Nat.le_trans K0.1 bz2_0
  have g_b1_3_2 : n0 ≤ b1_3_2 := Nat.le_trans Z0 sz_b1_3_2
  refine Gets.tr st2 ?_
  show Gets p e below _ (T2.setTop (mkF m 9 #[.val (.ref ya1), .val (.ref ya2)] []))
  refine GetsW.retV X2 hx Bd.returns (hb hby d18_9) hS2 (Nat.le_refl T2.heap.size) ?_ (by decide) (by decide)
  exact ⟨N2, K3, ⟨b1_3_2, k1_3_2, rfl, sz_b1_3_2, bf2_0, bf2_1, bf2_2, bf2_3⟩⟩
theorem d17_96 : decode method_3_code 96 = .ok (.areturn, 1) := by decide +kernel
theorem d17_97 : decode method_3_code 97 = .ok (.iconst 3, 1) := by decide +kernel
theorem d17_98 : decode method_3_code 98 = .ok (.newarray .char, 2) := by decide +kernel
theorem d17_100 : decode method_3_code 100 = .ok (.astore 6, 2) := by decide +kernel
theorem d17_102 : decode method_3_code 102 = .ok (.aload 6, 2) := by decide +kernel
theorem d17_104 : decode method_3_code 104 = .ok (.iconst 0, 1) := by decide +kernel
theorem d17_105 : decode method_3_code 105 = .ok (.iload_n 3, 1) := by decide +kernel
theorem d17_106 : decode method_3_code 106 = .ok (.castore, 1) := by decide +kernel
theorem d17_107 : decode method_3_code 107 = .ok (.aload 6, 2) := by decide +kernel
theorem d17_109 : decode method_3_code 109 = .ok (.iconst 1, 1) := by decide +kernel
theorem d17_110 : decode method_3_code 110 = .ok (.iload 4, 2) := by decide +kernel
theorem d17_112 : decode method_3_code 112 = .ok (.castore, 1) := by decide +kernel
theorem d17_113 : decode method_3_code 113 = .ok (.aload 6, 2) := by decide +kernel
theorem d17_115 : decode method_3_code 115 = .ok (.iconst 2, 1) := by decide +kernel
theorem d17_116 : decode method_3_code 116 = .ok (.iload 5, 2) := by decide +kernel
theorem d17_118 : decode method_3_code 118 = .ok (.castore, 1) := by decide +kernel
theorem d17_119 : decode method_3_code 119 = .ok (.new 14, 3) := by decide +kernel
theorem d17_122 : decode method_3_code 122 = .ok (.dup, 1) := by decide +kernel
theorem d17_123 : decode method_3_code 123 = .ok (.aload 6, 2) := by decide +kernel
theorem d17_125 : decode method_3_code 125 = .ok (.invokespecial 54, 3) := by decide +kernel
def Q_r16_compress (Z : State) (ya1 : Addr) (ya2 : Addr) (yk3 : ClassId) (yi4 : Int32) (yi5 : Int32) (yi6 : Int32) (yk7 : ClassId) (h0 : Heap) (n0 : Nat) (v : Option Value) (h : Heap) (L : List Loc) : Prop := Fr n0 L ∧ Keep h0 h [ya2] ∧ ((v = some (.int (3 : Int32)) ∧ Arv Z h ya2 yk7 .byte (3 : Int32) [(.int (nar .byte (yi4.toInt8.toInt32))), (.int (nar .byte (yi5.toInt8.toInt32))), (.int (nar .byte (yi6.toInt8.toInt32)))] (.int (0 : Int32))))
set_option maxRecDepth 65536 in
set_option maxHeartbeats 40000000 in
theorem r16_compress (l : Launch) (Z : State) (a0 : Array Value) (hw : ∀ d ∈ tables_1, d.before a0 Z = true) (ws : List Jvm.Cond) (ya1 : Addr) (ya2 : Addr) (yk3 : ClassId) (yi4 : Int32) (yi5 : Int32) (yi6 : Int32) (yk7 : ClassId) (h0 : Heap) (n0 : Nat) (O0 : Old Z n0 h0) (F0 : Arv Z h0 ya1 yk3 .char (3 : Int32) [(.int yi4), (.int yi5), (.int yi6)] (.int (0 : Int32))) (F1 : Arv Z h0 ya2 yk7 .byte (3 : Int32) [(.int (0 : Int32)), (.int (0 : Int32)), (.int (0 : Int32))] (.int (0 : Int32))) (F2 : Exa Z h0 ya1 "[C") (F3 : Exa Z h0 ya2 "[B") (gq_ya2 : n0 ≤ ya2) (hy1 : ¬ ((255 : Int32) < yi4)) (hy2 : ¬ ((255 : Int32) < yi5)) (hy3 : ¬ ((255 : Int32) < yi6)) :
    MetFree l (⟨cn8, "compress", "([CI[BII)I"⟩ : MethodName) (head1 (Jvm.Cond.code (⟨cn8, "compress", "([CI[BII)I"⟩ : MethodName) jdk_52_method_21_code 7 (some .int) :: ws) ({ frames := 0, cells := 0, slots := 0, locals := 0 } : Room)) (fun a U => a = #[(.ref ya1), (.int (0 : Int32)), (.ref ya2), (.int (0 : Int32)), (.int (3 : Int32))] ∧ Z.Warmed39 U.vm ∧ U.heap = h0) (fun _ _ _ _ _ => True) (fun _ U o U' => ∃ v L, o = .returned v ∧ Q_r16_compress Z ya1 ya2 yk3 yi4 yi5 yi6 yk7 h0 n0 v U'.heap L ∧ FrameEnd U o U' L ({ frames := 0, cells := 0, slots := 0, locals := 0 } : Room).cells ({ frames := 0, cells := 0, slots := 0, locals := 0 } : Room).slots) := by
  refine MetFree.of_bodySF (plainFor_of_name pn_java_lang_StringUTF16) hisR ?_
  intro p e s m args below meth c s₁ Bd hml0 hP hK
  obtain ⟨rfl, hZ, hh⟩ := hP
  have hx := Bd.exec
  have hby := Bd.bytes
  have hlk := Bd.notSynchronized
  have hml : c.maxLocals = 7 := hml0
  have hown : s.vm.findClass cn8 = some m.cls := findClass_of_methodNamed Bd.named
  have hnm := (name_of_methodNamed Bd.named Bd.method).1
  have X0 : Stand p l e ({ frames := 0, cells := 0, slots := 0, locals := 0 } : Room) s m #[(.ref ya1), (.int (0 : Int32)), (.ref ya2), (.int (0 : Int32)), (.int (3 : Int32))] below meth c s₁ [] 0 0 := Stand.of_body Bd
  have e0 : s₁.heap = h0 := by rw [← hh, Bd.state]; rfl
  have N0 := Fr.nil n0
  have K0 := Keep.refl h0 [ya2]
  have Z0 : n0 ≤ h0.size := O0.1 ▸ O0.2.1
  have hef : entryFrame m #[(.ref ya1), (.int (0 : Int32)), (.ref ya2), (.int (0 : Int32)), (.int (3 : Int32))] 7 = mkF m 0 #[.val (.ref ya1), .val (.int (0 : Int32)), .val (.ref ya2), .val (.int (0 : Int32)), .val (.int (3 : Int32)), .unset, .unset] [] := by first | (simp [entryFrame, mkF, argsToLocals, Value.category]; done) | rfl
  rw [hef]
  refine Gets.out (Q := Q_r16_compress Z ya1 ya2 yk3 yi4 yi5 yi6 yk7 h0 n0) ?_
  show Gets p e below _ (s₁.setTop (mkF m 0 #[.val (.ref ya1), .val (.int (0 : Int32)), .val (.ref ya2), .val (.int (0 : Int32)), .val (.int (3 : Int32)), .unset, .unset] []))
  refine Gets.of (fun t k => XS.iconst X0.here hx rfl (hb hby d21_0) k) ?_
  refine Gets.of (fun t k => XS.istore X0.here hx rfl (hb hby d21_1) rfl (l' := #[.val (.ref ya1), .val (.int (0 : Int32)), .val (.ref ya2), .val (.int (0 : Int32)), .val (.int (3 : Int32)), .val (.int (0 : Int32)), .unset]) rfl k) ?_
  show Gets p e below _ (s₁.setTop (mkF m 3 #[.val (.ref ya1), .val (.int (0 : Int32)), .val (.ref ya2), .val (.int (0 : Int32)), .val (.int (3 : Int32)), .val (.int (0 : Int32)), .unset] []))
  refine Gets.of (fun t k => XS.iload X0.here hx rfl (hb hby d21_3) rfl  k) ?_
  refine Gets.of (fun t k => XS.iload X0.here hx rfl (hb hby d21_5) rfl  k) ?_
  refine Gets.of (fun t k => XS.icmpNo X0.here hx rfl (hb hby d21_7) rfl (tlt (by decide : (0 : Int32) < (3 : Int32))).2.1 k) ?_
  show Gets p e below _ (s₁.setTop (mkF m 10 #[.val (.ref ya1), .val (.int (0 : Int32)), .val (.ref ya2), .val (.int (0 : Int32)), .val (.int (3 : Int32)), .val (.int (0 : Int32)), .unset] []))
  refine Gets.of (fun t k => XS.aloadN X0.here hx rfl (hb hby d21_10) rfl rfl  k) ?_
  refine Gets.of (fun t k => XS.iloadN X0.here hx rfl (hb hby d21_11) rfl  k) ?_
  obtain ⟨cl1, Ar1, q1, S1, N_1, H1, G1⟩ := id (F0)
  have hin1 : ¬ ((0 : Int32) < 0 ∨ cl1.slots.size ≤ ((0 : Int32)).toNatClampNeg) := inb_of S1 ⟨by decide, by decide⟩
  refine Gets.of (fun t k => X0.caload hx (j := (0 : Int32)) (v := (.int yi4)) (by rw [e0]; exact Ar1.1) (State.isArrayOf_alike hZ.alike Ar1.2.1) Ar1.2.2 hin1 (Has.at H1 hin1 rfl) (g := (mkF m 12 #[.val (.ref ya1), .val (.int (0 : Int32)), .val (.ref ya2), .val (.int (0 : Int32)), .val (.int (3 : Int32)), .val (.int (0 : Int32)), .unset] [(.int (0 : Int32)), (.ref ya1)])) rfl rfl (hb hby d21_12) t k) ?_
  show Gets p e below _ (s₁.setTop (mkF m 13 #[.val (.ref ya1), .val (.int (0 : Int32)), .val (.ref ya2), .val (.int (0 : Int32)), .val (.int (3 : Int32)), .val (.int (0 : Int32)), .unset] [(.int yi4)]))
  refine Gets.of (fun t k => XS.istore X0.here hx rfl (hb hby d21_13) rfl (l' := #[.val (.ref ya1), .val (.int (0 : Int32)), .val (.ref ya2), .val (.int (0 : Int32)), .val (.int (3 : Int32)), .val (.int (0 : Int32)), .val (.int yi4)]) rfl k) ?_
  show Gets p e below _ (s₁.setTop (mkF m 15 #[.val (.ref ya1), .val (.int (0 : Int32)), .val (.ref ya2), .val (.int (0 : Int32)), .val (.int (3 : Int32)), .val (.int (0 : Int32)), .val (.int yi4)] []))
  refine Gets.of (fun t k => XS.iload X0.here hx rfl (hb hby d21_15) rfl  k) ?_
  refine Gets.of (fun t k => XS.sipush X0.here hx rfl (hb hby d21_17) k) ?_
  refine Gets.of (fun t k => XS.icmpYes X0.here hx rfl (pc0 := 20) (pc' := 26) rfl (hb hby d21_20) rfl (flt hy1).2.2.2 (by decide) (by decide) k) ?_
  show Gets p e below _ (s₁.setTop (mkF m 26 #[.val (.ref ya1), .val (.int (0 : Int32)), .val (.ref ya2), .val (.int (0 : Int32)), .val (.int (3 : Int32)), .val (.int (0 : Int32)), .val (.int yi4)] []))
  refine Gets.of (fun t k => XS.aloadN X0.here hx rfl (hb hby d21_26) rfl rfl  k) ?_
  refine Gets.of (fun t k => XS.iloadN X0.here hx rfl (hb hby d21_27) rfl  k) ?_
  refine Gets.of (fun t k => XS.iload X0.here hx rfl (hb hby d21_28) rfl  k) ?_
  refine Gets.of (fun t k => XS.i2b X0.here hx rfl (hb hby d21_30) rfl k) ?_
  show Gets p e below _ (s₁.setTop (mkF m 31 #[.val (.ref ya1), .val (.int (0 : Int32)), .val (.ref ya2), .val (.int (0 : Int32)), .val (.int (3 : Int32)), .val (.int (0 : Int32)), .val (.int yi4)] [(.int (yi4.toInt8.toInt32)), (.int (0 : Int32)), (.ref ya2)]))
  obtain ⟨cl2, Ar2, q2, S2, N_2, H2, G2⟩ := id (F1)
  have hin2 : ¬ ((0 : Int32) < 0 ∨ cl2.slots.size ≤ ((0 : Int32)).toNatClampNeg) := inb_of S2 ⟨by decide, by decide⟩
  obtain ⟨T3, h3, X3, e3, W3, st3⟩ := stB X0 hx hZ e0 Ar2 (j := (0 : Int32)) hin2 (g := (mkF m 31 #[.val (.ref ya1), .val (.int (0 : Int32)), .val (.ref ya2), .val (.int (0 : Int32)), .val (.int (3 : Int32)), .val (.int (0 : Int32)), .val (.int yi4)] [(.int (yi4.toInt8.toInt32)), (.int (0 : Int32)), (.ref ya2)])) rfl rfl (hb hby d21_31)
  have V3 : Arv Z h3 ya2 yk7 .byte (3 : Int32) [(.int (nar .byte (yi4.toInt8.toInt32))), (.int (0 : Int32)), (.int (0 : Int32))] (.int (0 : Int32)) := Arv.set Ar2 q2 S2 N_2 H2 G2 (fits_nar_byte _) W3 0 rfl (Nat.le_of_ble_eq_true rfl)
  have N3 := Fr.snoc X3 N0 gq_ya2
  have K4 : Keep h0 _ [ya2] := K0.wr W3 (Or.inl (by simp))
  have O4 := O0.wr W3 gq_ya2
  refine Gets.of st3 ?_
  show Gets p e below _ (T3.setTop (mkF m 32 #[.val (.ref ya1), .val (.int (0 : Int32)), .val (.ref ya2), .val (.int (0 : Int32)), .val (.int (3 : Int32)), .val (.int (0 : Int32)), .val (.int yi4)] []))
  refine Gets.of (fun t k => XS.iinc X3.here hx rfl (hb hby d21_32) rfl (l' := #[.val (.ref ya1), .val (.int (1 : Int32)), .val (.ref ya2), .val (.int (0 : Int32)), .val (.int (3 : Int32)), .val (.int (0 : Int32)), .val (.int yi4)]) rfl k) ?_
  show Gets p e below _ (T3.setTop (mkF m 35 #[.val (.ref ya1), .val (.int (1 : Int32)), .val (.ref ya2), .val (.int (0 : Int32)), .val (.int (3 : Int32)), .val (.int (0 : Int32)), .val (.int yi4)] []))
  refine Gets.of (fun t k => XS.iinc X3.here hx rfl (hb hby d21_35) rfl (l' := #[.val (.ref ya1), .val (.int (1 : Int32)), .val (.ref ya2), .val (.int (1 : Int32)), .val (.int (3 : Int32)), .val (.int (0 : Int32)), .val (.int yi4)]) rfl k) ?_
  show Gets p e below _ (T3.setTop (mkF m 38 #[.val (.ref ya1), .val (.int (1 : Int32)), .val (.ref ya2), .val (.int (1 : Int32)), .val (.int (3 : Int32)), .val (.int (0 : Int32)), .val (.int yi4)] []))
  refine Gets.of (fun t k => XS.iinc X3.here hx rfl (hb hby d21_38) rfl (l' := #[.val (.ref ya1), .val (.int (1 : Int32)), .val (.ref ya2), .val (.int (1 : Int32)), .val (.int (3 : Int32)), .val (.int (1 : Int32)), .val (.int yi4)]) rfl k) ?_
  show Gets p e below _ (T3.setTop (mkF m 41 #[.val (.ref ya1), .val (.int (1 : Int32)), .val (.ref ya2), .val (.int (1 : Int32)), .val (.int (3 : Int32)), .val (.int (1 : Int32)), .val (.int yi4)] []))
  refine Gets.of (fun t k => XS.goto X3.here hx rfl (pc0 := 41) (pc' := 3) rfl (hb hby d21_41) (by decide) (by decide) k) ?_
  show Gets p e below _ (T3.setTop (mkF m 3 #[.val (.ref ya1), .val (.int (1 : Int32)), .val (.ref ya2), .val (.int (1 : Int32)), .val (.int (3 : Int32)), .val (.int (1 : Int32)), .val (.int yi4)] []))
  refine Gets.of (fun t k => XS.iload X3.here hx rfl (hb hby d21_3) rfl  k) ?_
  refine Gets.of (fun t k => XS.iload X3.here hx rfl (hb hby d21_5) rfl  k) ?_
  refine Gets.of (fun t k => XS.icmpNo X3.here hx rfl (hb hby d21_7) rfl (tlt (by decide : (1 : Int32) < (3 : Int32))).2.1 k) ?_
  show Gets p e below _ (T3.setTop (mkF m 10 #[.val (.ref ya1), .val (.int (1 : Int32)), .val (.ref ya2), .val (.int (1 : Int32)), .val (.int (3 : Int32)), .val (.int (1 : Int32)), .val (.int yi4)] []))
  refine Gets.of (fun t k => XS.aloadN X3.here hx rfl (hb hby d21_10) rfl rfl  k) ?_
  refine Gets.of (fun t k => XS.iloadN X3.here hx rfl (hb hby d21_11) rfl  k) ?_
  have f5 : Exa Z h3 ya1 "[C" := (F2.wr W3)
  have f6 : Exa Z h3 ya2 "[B" := (F3.wr W3)
  have f7 : Arv Z h3 ya1 yk3 .char (3 : Int32) [(.int yi4), (.int yi5), (.int yi6)] (.int (0 : Int32)) := (F0.other W3 (ne_exa f5 f6 (by decide)))
  obtain ⟨cl8, Ar8, q8, S8, N_8, H8, G8⟩ := id (f7)
  have hin8 : ¬ ((1 : Int32) < 0 ∨ cl8.slots.size ≤ ((1 : Int32)).toNatClampNeg) := inb_of S8 ⟨by decide, by decide⟩
  refine Gets.of (fun t k => X3.caload hx (j := (1 : Int32)) (v := (.int yi5)) (by rw [e3]; exact Ar8.1) (State.isArrayOf_alike hZ.alike Ar8.2.1) Ar8.2.2 hin8 (Has.at H8 hin8 rfl) (g := (mkF m 12 #[.val (.ref ya1), .val (.int (1 : Int32)), .val (.ref ya2), .val (.int (1 : Int32)), .val (.int (3 : Int32)), .val (.int (1 : Int32)), .val (.int yi4)] [(.int (1 : Int32)), (.ref ya1)])) rfl rfl (hb hby d21_12) t k) ?_
  show Gets p e below _ (T3.setTop (mkF m 13 #[.val (.ref ya1), .val (.int (1 : Int32)), .val (.ref ya2), .val (.int (1 : Int32)), .val (.int (3 : Int32)), .val (.int (1 : Int32)), .val (.int yi4)] [(.int yi5)]))
  refine Gets.of (fun t k => XS.istore X3.here hx rfl (hb hby d21_13) rfl (l' := #[.val (.ref ya1), .val (.int (1 : Int32)), .val (.ref ya2), .val (.int (1 : Int32)), .val (.int (3 : Int32)), .val (.int (1 : Int32)), .val (.int yi5)]) rfl k) ?_
  show Gets p e below _ (T3.setTop (mkF m 15 #[.val (.ref ya1), .val (.int (1 : Int32)), .val (.ref ya2), .val (.int (1 : Int32)), .val (.int (3 : Int32)), .val (.int (1 : Int32)), .val (.int yi5)] []))
  refine Gets.of (fun t k => XS.iload X3.here hx rfl (hb hby d21_15) rfl  k) ?_
  refine Gets.of (fun t k => XS.sipush X3.here hx rfl (hb hby d21_17) k) ?_
  refine Gets.of (fun t k => XS.icmpYes X3.here hx rfl (pc0 := 20) (pc' := 26) rfl (hb hby d21_20) rfl (flt hy2).2.2.2 (by decide) (by decide) k) ?_
  show Gets p e below _ (T3.setTop (mkF m 26 #[.val (.ref ya1), .val (.int (1 : Int32)), .val (.ref ya2), .val (.int (1 : Int32)), .val (.int (3 : Int32)), .val (.int (1 : Int32)), .val (.int yi5)] []))
  refine Gets.of (fun t k => XS.aloadN X3.here hx rfl (hb hby d21_26) rfl rfl  k) ?_
  refine Gets.of (fun t k => XS.iloadN X3.here hx rfl (hb hby d21_27) rfl  k) ?_
  refine Gets.of (fun t k => XS.iload X3.here hx rfl (hb hby d21_28) rfl  k) ?_
  refine Gets.of (fun t k => XS.i2b X3.here hx rfl (hb hby d21_30) rfl k) ?_
  show Gets p e below _ (T3.setTop (mkF m 31 #[.val (.ref ya1), .val (.int (1 : Int32)), .val (.ref ya2), .val (.int (1 : Int32)), .val (.int (3 : Int32)), .val (.int (1 : Int32)), .val (.int yi5)] [(.int (yi5.toInt8.toInt32)), (.int (1 : Int32)), (.ref ya2)]))
  obtain ⟨cl9, Ar9, q9, S9, N_9, H9, G9⟩ := id (V3)
  have hin9 : ¬ ((1 : Int32) < 0 ∨ cl9.slots.size ≤ ((1 : Int32)).toNatClampNeg) := inb_of S9 ⟨by decide, by decide⟩
  obtain ⟨T10, h10, X10, e10, W10, st10⟩ := stB X3 hx hZ e3 Ar9 (j := (1 : Int32)) hin9 (g := (mkF m 31 #[.val (.ref ya1), .val (.int (1 : Int32)), .val (.ref ya2), .val (.int (1 : Int32)), .val (.int (3 : Int32)), .val (.int (1 : Int32)), .val (.int yi5)] [(.int (yi5.toInt8.toInt32)), (.int (1 : Int32)), (.ref ya2)])) rfl rfl (hb hby d21_31)
  have V10 : Arv Z h10 ya2 yk7 .byte (3 : Int32) [(.int (nar .byte (yi4.toInt8.toInt32))), (.int (nar .byte (yi5.toInt8.toInt32))), (.int (0 : Int32))] (.int (0 : Int32)) := Arv.set Ar9 q9 S9 N_9 H9 G9 (fits_nar_byte _) W10 1 rfl (Nat.le_of_ble_eq_true rfl)
  have N10 := Fr.snoc X10 N3 gq_ya2
  have K11 : Keep h0 _ [ya2] := K4.wr W10 (Or.inl (by simp))
  have O11 := O4.wr W10 gq_ya2
  refine Gets.of st10 ?_
  show Gets p e below _ (T10.setTop (mkF m 32 #[.val (.ref ya1), .val (.int (1 : Int32)), .val (.ref ya2), .val (.int (1 : Int32)), .val (.int (3 : Int32)), .val (.int (1 : Int32)), .val (.int yi5)] []))
  refine Gets.of (fun t k => XS.iinc X10.here hx rfl (hb hby d21_32) rfl (l' := #[.val (.ref ya1), .val (.int (2 : Int32)), .val (.ref ya2), .val (.int (1 : Int32)), .val (.int (3 : Int32)), .val (.int (1 : Int32)), .val (.int yi5)]) rfl k) ?_
  show Gets p e below _ (T10.setTop (mkF m 35 #[.val (.ref ya1), .val (.int (2 : Int32)), .val (.ref ya2), .val (.int (1 : Int32)), .val (.int (3 : Int32)), .val (.int (1 : Int32)), .val (.int yi5)] []))
  refine Gets.of (fun t k => XS.iinc X10.here hx rfl (hb hby d21_35) rfl (l' := #[.val (.ref ya1), .val (.int (2 : Int32)), .val (.ref ya2), .val (.int (2 : Int32)), .val (.int (3 : Int32)), .val (.int (1 : Int32)), .val (.int yi5)]) rfl k) ?_
  show Gets p e below _ (T10.setTop (mkF m 38 #[.val (.ref ya1), .val (.int (2 : Int32)), .val (.ref ya2), .val (.int (2 : Int32)), .val (.int (3 : Int32)), .val (.int (1 : Int32)), .val (.int yi5)] []))
  refine Gets.of (fun t k => XS.iinc X10.here hx rfl (hb hby d21_38) rfl (l' := #[.val (.ref ya1), .val (.int (2 : Int32)), .val (.ref ya2), .val (.int (2 : Int32)), .val (.int (3 : Int32)), .val (.int (2 : Int32)), .val (.int yi5)]) rfl k) ?_
  show Gets p e below _ (T10.setTop (mkF m 41 #[.val (.ref ya1), .val (.int (2 : Int32)), .val (.ref ya2), .val (.int (2 : Int32)), .val (.int (3 : Int32)), .val (.int (2 : Int32)), .val (.int yi5)] []))
  refine Gets.of (fun t k => XS.goto X10.here hx rfl (pc0 := 41) (pc' := 3) rfl (hb hby d21_41) (by decide) (by decide) k) ?_
  show Gets p e below _ (T10.setTop (mkF m 3 #[.val (.ref ya1), .val (.int (2 : Int32)), .val (.ref ya2), .val (.int (2 : Int32)), .val (.int (3 : Int32)), .val (.int (2 : Int32)), .val (.int yi5)] []))
  refine Gets.of (fun t k => XS.iload X10.here hx rfl (hb hby d21_3) rfl  k) ?_
  refine Gets.of (fun t k => XS.iload X10.here hx rfl (hb hby d21_5) rfl  k) ?_
  refine Gets.of (fun t k => XS.icmpNo X10.here hx rfl (hb hby d21_7) rfl (tlt (by decide : (2 : Int32) < (3 : Int32))).2.1 k) ?_
  show Gets p e below _ (T10.setTop (mkF m 10 #[.val (.ref ya1), .val (.int (2 : Int32)), .val (.ref ya2), .val (.int (2 : Int32)), .val (.int (3 : Int32)), .val (.int (2 : Int32)), .val (.int yi5)] []))
  refine Gets.of (fun t k => XS.aloadN X10.here hx rfl (hb hby d21_10) rfl rfl  k) ?_
  refine Gets.of (fun t k => XS.iloadN X10.here hx rfl (hb hby d21_11) rfl  k) ?_
  have f12 : Arv Z h10 ya1 yk3 .char (3 : Int32) [(.int yi4), (.int yi5), (.int yi6)] (.int (0 : Int32)) := (f7.other W10 (ne_exa F2 F3 (by decide)))
  obtain ⟨cl13, Ar13, q13, S13, N_13, H13, G13⟩ := id (f12)
  have hin13 : ¬ ((2 : Int32) < 0 ∨ cl13.slots.size ≤ ((2 : Int32)).toNatClampNeg) := inb_of S13 ⟨by decide, by decide⟩
  refine Gets.of (fun t k => X10.caload hx (j := (2 : Int32)) (v := (.int yi6)) (by rw [e10]; exact Ar13.1) (State.isArrayOf_alike hZ.alike Ar13.2.1) Ar13.2.2 hin13 (Has.at H13 hin13 rfl) (g := (mkF m 12 #[.val (.ref ya1), .val (.int (2 : Int32)), .val (.ref ya2), .val (.int (2 : Int32)), .val (.int (3 : Int32)), .val (.int (2 : Int32)), .val (.int yi5)] [(.int (2 : Int32)), (.ref ya1)])) rfl rfl (hb hby d21_12) t k) ?_
  show Gets p e below _ (T10.setTop (mkF m 13 #[.val (.ref ya1), .val (.int (2 : Int32)), .val (.ref ya2), .val (.int (2 : Int32)), .val (.int (3 : Int32)), .val (.int (2 : Int32)), .val (.int yi5)] [(.int yi6)]))
  refine Gets.of (fun t k => XS.istore X10.here hx rfl (hb hby d21_13) rfl (l' := #[.val (.ref ya1), .val (.int (2 : Int32)), .val (.ref ya2), .val (.int (2 : Int32)), .val (.int (3 : Int32)), .val (.int (2 : Int32)), .val (.int yi6)]) rfl k) ?_
  show Gets p e below _ (T10.setTop (mkF m 15 #[.val (.ref ya1), .val (.int (2 : Int32)), .val (.ref ya2), .val (.int (2 : Int32)), .val (.int (3 : Int32)), .val (.int (2 : Int32)), .val (.int yi6)] []))
  refine Gets.of (fun t k => XS.iload X10.here hx rfl (hb hby d21_15) rfl  k) ?_
  refine Gets.of (fun t k => XS.sipush X10.here hx rfl (hb hby d21_17) k) ?_
  refine Gets.of (fun t k => XS.icmpYes X10.here hx rfl (pc0 := 20) (pc' := 26) rfl (hb hby d21_20) rfl (flt hy3).2.2.2 (by decide) (by decide) k) ?_
  show Gets p e below _ (T10.setTop (mkF m 26 #[.val (.ref ya1), .val (.int (2 : Int32)), .val (.ref ya2), .val (.int (2 : Int32)), .val (.int (3 : Int32)), .val (.int (2 : Int32)), .val (.int yi6)] []))
  refine Gets.of (fun t k => XS.aloadN X10.here hx rfl (hb hby d21_26) rfl rfl  k) ?_
  refine Gets.of (fun t k => XS.iloadN X10.here hx rfl (hb hby d21_27) rfl  k) ?_
  refine Gets.of (fun t k => XS.iload X10.here hx rfl (hb hby d21_28) rfl  k) ?_
  refine Gets.of (fun t k => XS.i2b X10.here hx rfl (hb hby d21_30) rfl k) ?_
  show Gets p e below _ (T10.setTop (mkF m 31 #[.val (.ref ya1), .val (.int (2 : Int32)), .val (.ref ya2), .val (.int (2 : Int32)), .val (.int (3 : Int32)), .val (.int (2 : Int32)), .val (.int yi6)] [(.int (yi6.toInt8.toInt32)), (.int (2 : Int32)), (.ref ya2)]))
  obtain ⟨cl14, Ar14, q14, S14, N_14, H14, G14⟩ := id (V10)
  have hin14 : ¬ ((2 : Int32) < 0 ∨ cl14.slots.size ≤ ((2 : Int32)).toNatClampNeg) := inb_of S14 ⟨by decide, by decide⟩
  obtain ⟨T15, h15, X15, e15, W15, st15⟩ := stB X10 hx hZ e10 Ar14 (j := (2 : Int32)) hin14 (g := (mkF m 31 #[.val (.ref ya1), .val (.int (2 : Int32)), .val (.ref ya2), .val (.int (2 : Int32)), .val (.int (3 : Int32)), .val (.int (2 : Int32)), .val (.int yi6)] [(.int (yi6.toInt8.toInt32)), (.int (2 : Int32)), (.ref ya2)])) rfl rfl (hb hby d21_31)
  have V15 : Arv Z h15 ya2 yk7 .byte (3 : Int32) [(.int (nar .byte (yi4.toInt8.toInt32))), (.int (nar .byte (yi5.toInt8.toInt32))), (.int (nar .byte (yi6.toInt8.toInt32)))] (.int (0 : Int32)) := Arv.set Ar14 q14 S14 N_14 H14 G14 (fits_nar_byte _) W15 2 rfl (Nat.le_of_ble_eq_true rfl)
  have N15 := Fr.snoc X15 N10 gq_ya2
  have K16 : Keep h0 _ [ya2] := K11.wr W15 (Or.inl (by simp))
  have O16 := O11.wr W15 gq_ya2
  refine Gets.of st15 ?_
  show Gets p e below _ (T15.setTop (mkF m 32 #[.val (.ref ya1), .val (.int (2 : Int32)), .val (.ref ya2), .val (.int (2 : Int32)), .val (.int (3 : Int32)), .val (.int (2 : Int32)), .val (.int yi6)] []))
  refine Gets.of (fun t k => XS.iinc X15.here hx rfl (hb hby d21_32) rfl (l' := #[.val (.ref ya1), .val (.int (3 : Int32)), .val (.ref ya2), .val (.int (2 : Int32)), .val (.int (3 : Int32)), .val (.int (2 : Int32)), .val (.int yi6)]) rfl k) ?_
  show Gets p e below _ (T15.setTop (mkF m 35 #[.val (.ref ya1), .val (.int (3 : Int32)), .val (.ref ya2), .val (.int (2 : Int32)), .val (.int (3 : Int32)), .val (.int (2 : Int32)), .val (.int yi6)] []))
  refine Gets.of (fun t k => XS.iinc X15.here hx rfl (hb hby d21_35) rfl (l' := #[.val (.ref ya1), .val (.int (3 : Int32)), .val (.ref ya2), .val (.int (3 : Int32)), .val (.int (3 : Int32)), .val (.int (2 : Int32)), .val (.int yi6)]) rfl k) ?_
  show Gets p e below _ (T15.setTop (mkF m 38 #[.val (.ref ya1), .val (.int (3 : Int32)), .val (.ref ya2), .val (.int (3 : Int32)), .val (.int (3 : Int32)), .val (.int (2 : Int32)), .val (.int yi6)] []))
  refine Gets.of (fun t k => XS.iinc X15.here hx rfl (hb hby d21_38) rfl (l' := #[.val (.ref ya1), .val (.int (3 : Int32)), .val (.ref ya2), .val (.int (3 : Int32)), .val (.int (3 : Int32)), .val (.int (3 : Int32)), .val (.int yi6)]) rfl k) ?_
  show Gets p e below _ (T15.setTop (mkF m 41 #[.val (.ref ya1), .val (.int (3 : Int32)), .val (.ref ya2), .val (.int (3 : Int32)), .val (.int (3 : Int32)), .val (.int (3 : Int32)), .val (.int yi6)] []))
  refine Gets.of (fun t k => XS.goto X15.here hx rfl (pc0 := 41) (pc' := 3) rfl (hb hby d21_41) (by decide) (by decide) k) ?_
  show Gets p e below _ (T15.setTop (mkF m 3 #[.val (.ref ya1), .val (.int (3 : Int32)), .val (.ref ya2), .val (.int (3 : Int32)), .val (.int (3 : Int32)), .val (.int (3 : Int32)), .val (.int yi6)] []))
  refine Gets.of (fun t k => XS.iload X15.here hx rfl (hb hby d21_3) rfl  k) ?_
  refine Gets.of (fun t k => XS.iload X15.here hx rfl (hb hby d21_5) rfl  k) ?_
  refine Gets.of (fun t k => XS.icmpYes X15.here hx rfl (pc0 := 7) (pc' := 44) rfl (hb hby d21_7) rfl (flt (by decide : ¬ ((3 : Int32) < (3 : Int32)))).2.1 (by decide) (by decide) k) ?_
  show Gets p e below _ (T15.setTop (mkF m 44 #[.val (.ref ya1), .val (.int (3 : Int32)), .val (.ref ya2), .val (.int (3 : Int32)), .val (.int (3 : Int32)), .val (.int (3 : Int32)), .val (.int yi6)] []))
  refine Gets.of (fun t k => XS.iload X15.here hx rfl (hb hby d21_44) rfl  k) ?_
  refine Gets.retI X15 hx Bd.returns (hb hby d21_46) ?_ (by decide) (by decide)
  rw [e15]
  exact ⟨N15, K16, ⟨rfl, V15⟩⟩
def Q_r15_compress (Z : State) (ya1 : Addr) (yi3 : Int32) (yi4 : Int32) (yi5 : Int32) (yk2 : ClassId) (h0 : Heap) (n0 : Nat) (v : Option Value) (h : Heap) (L : List Loc) : Prop := Fr n0 L ∧ Keep h0 h [] ∧ ((∃ (b1 : Addr) (k1 : ClassId), v = some (.ref b1) ∧ h0.size ≤ b1 ∧ Exa Z h b1 "[B" ∧ Arv Z h b1 k1 .byte (3 : Int32) [(.int (nar .byte (yi3.toInt8.toInt32))), (.int (nar .byte (yi4.toInt8.toInt32))), (.int (nar .byte (yi5.toInt8.toInt32)))] (.int (0 : Int32))))
set_option maxRecDepth 65536 in
set_option maxHeartbeats 40000000 in
theorem r15_compress (l : Launch) (Z : State) (a0 : Array Value) (hw : ∀ d ∈ tables_1, d.before a0 Z = true) (ws : List Jvm.Cond) (ya1 : Addr) (yi3 : Int32) (yi4 : Int32) (yi5 : Int32) (yk2 : ClassId) (h0 : Heap) (n0 : Nat) (O0 : Old Z n0 h0) (F0 : Arv Z h0 ya1 yk2 .char (3 : Int32) [(.int yi3), (.int yi4), (.int yi5)] (.int (0 : Int32))) (F1 : Exa Z h0 ya1 "[C") (hy1 : ¬ ((255 : Int32) < yi3)) (hy2 : ¬ ((255 : Int32) < yi4)) (hy3 : ¬ ((255 : Int32) < yi5)) :
    MetFree l (⟨cn8, "compress", "([CII)[B"⟩ : MethodName) (head1 (Jvm.Cond.code (⟨cn8, "compress", "([CII)[B"⟩ : MethodName) jdk_52_method_16_code 6 (some (.array .byte)) :: ws) ({ frames := 1, cells := 1, slots := 3, locals := 18 } : Room)) (fun a U => a = #[(.ref ya1), (.int (0 : Int32)), (.int (3 : Int32))] ∧ Z.Warmed39 U.vm ∧ U.heap = h0) (fun _ _ _ _ _ => True) (fun _ U o U' => ∃ v L, o = .returned v ∧ Q_r15_compress Z ya1 yi3 yi4 yi5 yk2 h0 n0 v U'.heap L ∧ FrameEnd U o U' L ({ frames := 1, cells := 1, slots := 3, locals := 18 } : Room).cells ({ frames := 1, cells := 1, slots := 3, locals := 18 } : Room).slots) := by
  refine MetFree.of_bodySF (plainFor_of_name pn_java_lang_StringUTF16) hisR ?_
  intro p e s m args below meth c s₁ Bd hml0 hP hK
  obtain ⟨rfl, hZ, hh⟩ := hP
  have hx := Bd.exec
  have hby := Bd.bytes
  have hlk := Bd.notSynchronized
  have hml : c.maxLocals = 6 := hml0
  have hown : s.vm.findClass cn8 = some m.cls := findClass_of_methodNamed Bd.named
  have hnm := (name_of_methodNamed Bd.named Bd.method).1
  have X0 : Stand p l e ({ frames := 1, cells := 1, slots := 3, locals := 18 } : Room) s m #[(.ref ya1), (.int (0 : Int32)), (.int (3 : Int32))] below meth c s₁ [] 0 0 := Stand.of_body Bd
  have e0 : s₁.heap = h0 := by rw [← hh, Bd.state]; rfl
  have N0 := Fr.nil n0
  have K0 := Keep.refl h0 []
  have Z0 : n0 ≤ h0.size := O0.1 ▸ O0.2.1
  have hef : entryFrame m #[(.ref ya1), (.int (0 : Int32)), (.int (3 : Int32))] 6 = mkF m 0 #[.val (.ref ya1), .val (.int (0 : Int32)), .val (.int (3 : Int32)), .unset, .unset, .unset] [] := by first | (simp [entryFrame, mkF, argsToLocals, Value.category]; done) | rfl
  rw [hef]
  refine Gets.out (Q := Q_r15_compress Z ya1 yi3 yi4 yi5 yk2 h0 n0) ?_
  show Gets p e below _ (s₁.setTop (mkF m 0 #[.val (.ref ya1), .val (.int (0 : Int32)), .val (.int (3 : Int32)), .unset, .unset, .unset] []))
  refine Gets.of (fun t k => XS.iloadN X0.here hx rfl (hb hby d20_0) rfl  k) ?_
  obtain ⟨T1, h1, k1, X1, e1, E1, A1, Ex1, st1⟩ := newPE X0 hx hZ (aty := .byte) (w14 hw) e0 (g := (mkF m 1 #[.val (.ref ya1), .val (.int (0 : Int32)), .val (.int (3 : Int32)), .unset, .unset, .unset] [(.int (3 : Int32))])) rfl (hb hby d20_1) rfl (by decide) (cap := 3) (by decide) (by decide) (by decide) (by decide) (ad := "[B") rfl
  obtain ⟨b1, g1⟩ : ∃ z, z = h0.size := ⟨_, rfl⟩
  rw [← g1] at A1 Ex1 st1
  have sz_b1 : h0.size ≤ b1 := Nat.le_trans K0.1 (Nat.le_of_eq g1.symm)
  have g_b1 : n0 ≤ b1 := Nat.le_trans Z0 sz_b1
  have K2 := K0.ext E1
  have O2 := O0.ext E1
  have V1 : Arv Z h1 b1 k1 .byte (3 : Int32) [(.int (0 : Int32)), (.int (0 : Int32)), (.int (0 : Int32))] (.int (0 : Int32)) := (Arv.new A1 (by decide)).pad (pad_rep [] (.int (0 : Int32)) 3)
  refine Gets.of st1 ?_
  show Gets p e below _ (T1.setTop (mkF m 3 #[.val (.ref ya1), .val (.int (0 : Int32)), .val (.int (3 : Int32)), .unset, .unset, .unset] [(.ref b1)]))
  refine Gets.of (fun t k => XS.astoreN X1.here hx rfl (hb hby d20_3) rfl rfl (l' := #[.val (.ref ya1), .val (.int (0 : Int32)), .val (.int (3 : Int32)), .val (.ref b1), .unset, .unset]) rfl k) ?_
  show Gets p e below _ (T1.setTop (mkF m 4 #[.val (.ref ya1), .val (.int (0 : Int32)), .val (.int (3 : Int32)), .val (.ref b1), .unset, .unset] []))
  refine Gets.of (fun t k => XS.aloadN X1.here hx rfl (hb hby d20_4) rfl rfl  k) ?_
  refine Gets.of (fun t k => XS.iloadN X1.here hx rfl (hb hby d20_5) rfl  k) ?_
  refine Gets.of (fun t k => XS.aloadN X1.here hx rfl (hb hby d20_6) rfl rfl  k) ?_
  refine Gets.of (fun t k => XS.iconst X1.here hx rfl (hb hby d20_7) k) ?_
  show Gets p e below _ (T1.setTop (mkF m 8 #[.val (.ref ya1), .val (.int (0 : Int32)), .val (.int (3 : Int32)), .val (.ref b1), .unset, .unset] [(.int (0 : Int32)), (.ref b1), (.int (0 : Int32)), (.ref ya1)]))
  refine Gets.of (fun t k => XS.iloadN X1.here hx rfl (hb hby d20_8) rfl  k) ?_
  have f3 : Arv Z h1 ya1 yk2 .char (3 : Int32) [(.int yi3), (.int yi4), (.int yi5)] (.int (0 : Int32)) := (F0.ext E1)
  have f4 : Exa Z h1 ya1 "[C" := (F1.ext E1)
  obtain ⟨_, _, ⟨T5, L5, k5, n5⟩, -, X5, ⟨Lc5, hQ5, l5, y5, z5⟩, st5⟩ := Jvm.LawKit.callS X1 hx (y := (⟨cn8, "compress", "([CI[BII)I"⟩ : MethodName)) hown (mvT hZ (w127 hw)) (mvT hZ (w128 hw)) (mvT hZ (w125 hw)) (mvT hZ (w129 hw)) (by decide) (backOf (W := 0) (r16_compress l Z a0 hw [] ya1 b1 yk2 yi3 yi4 yi5 k1 h1 n0 O2 f3 V1 f4 Ex1 g_b1 hy1 hy2 hy3) hZ (w129 hw) (w125 hw) (by decide) (by decide)) (g := (mkF m 9 #[.val (.ref ya1), .val (.int (0 : Int32)), .val (.int (3 : Int32)), .val (.ref b1), .unset, .unset] [(.int (3 : Int32)), (.int (0 : Int32)), (.ref b1), (.int (0 : Int32)), (.ref ya1)])) rfl (by rw [hml]; rfl) (argsL := [(.ref ya1), (.int (0 : Int32)), (.ref b1), (.int (0 : Int32)), (.int (3 : Int32))]) (rest := []) (lenOf pd__CI_BII_I rfl) rfl (by show 2 * 0 + _ ≤ _; exact Nat.le_of_eq rfl) (hb hby d20_9) (fun _ _ => ⟨rfl, e1, (by decide : 1 + 0 ≤ _), (by decide : 3 + 0 ≤ _)⟩)
  dsimp only [Pt.U, Pt.locs, Pt.cells, Pt.slots] at X5 l5 y5 z5 st5 hQ5
  subst l5 y5 z5
  obtain ⟨Nq5, Kq5, hR5⟩ := hQ5
  have N5 := Fr.app N0 Nq5
  have K6 : Keep h0 _ [] := K2.trans Kq5 (allS (Or.inr sz_b1) all0)
  have O6 := O2.keep Kq5 (allS g_b1 all0)
  obtain ⟨rfl, bf5_0⟩ := hR5
  refine Gets.of st5 ?_
  show Gets p e below _ (T5.setTop (mkF m 12 #[.val (.ref ya1), .val (.int (0 : Int32)), .val (.int (3 : Int32)), .val (.ref b1), .unset, .unset] [(.int (3 : Int32))]))
  refine Gets.of (fun t k => XS.istore X5.here hx rfl (hb hby d20_12) rfl (l' := #[.val (.ref ya1), .val (.int (0 : Int32)), .val (.int (3 : Int32)), .val (.ref b1), .val (.int (3 : Int32)), .unset]) rfl k) ?_
  show Gets p e below _ (T5.setTop (mkF m 14 #[.val (.ref ya1), .val (.int (0 : Int32)), .val (.int (3 : Int32)), .val (.ref b1), .val (.int (3 : Int32)), .unset] []))
  refine Gets.of (fun t k => XS.iload X5.here hx rfl (hb hby d20_14) rfl  k) ?_
  refine Gets.of (fun t k => XS.iloadN X5.here hx rfl (hb hby d20_16) rfl  k) ?_
  refine Gets.of (fun t k => XS.icmpYes X5.here hx rfl (pc0 := 17) (pc' := 57) rfl (hb hby d20_17) rfl (teq (by decide : (3 : Int32) = (3 : Int32))).1 (by decide) (by decide) k) ?_
  show Gets p e below _ (T5.setTop (mkF m 57 #[.val (.ref ya1), .val (.int (0 : Int32)), .val (.int (3 : Int32)), .val (.ref b1), .val (.int (3 : Int32)), .unset] []))
  refine Gets.of (fun t k => XS.aloadN X5.here hx rfl (hb hby d20_57) rfl rfl  k) ?_
  refine Gets.retA X5 hx Bd.returns rfl rfl (hb hby d20_58) ?_ (by decide) (by decide)
  have f7 : Exa Z T5.heap b1 "[B" := (Ex1.keep Kq5)
  exact ⟨N5, K6, ⟨b1, k1, rfl, sz_b1, f7, bf5_0⟩⟩
def Q_r17_coderFromArrayLen (Z : State) (ya1 : Addr) (yk2 : ClassId) (yi3 : Int32) (yi4 : Int32) (yi5 : Int32) (h0 : Heap) (n0 : Nat) (v : Option Value) (h : Heap) (L : List Loc) : Prop := Fr n0 L ∧ h = h0 ∧ ((v = some (.int (0 : Int32))))
set_option maxRecDepth 65536 in
set_option maxHeartbeats 40000000 in
theorem r17_coderFromArrayLen (l : Launch) (Z : State) (a0 : Array Value) (hw : ∀ d ∈ tables_1, d.before a0 Z = true) (ws : List Jvm.Cond) (ya1 : Addr) (yk2 : ClassId) (yi3 : Int32) (yi4 : Int32) (yi5 : Int32) (h0 : Heap) (n0 : Nat) (O0 : Old Z n0 h0) (F0 : Arv Z h0 ya1 yk2 .byte (3 : Int32) [(.int yi3), (.int yi4), (.int yi5)] (.int (0 : Int32))) :
    MetFree l (⟨cn8, "coderFromArrayLen", "([BI)B"⟩ : MethodName) (head1 (Jvm.Cond.code (⟨cn8, "coderFromArrayLen", "([BI)B"⟩ : MethodName) jdk_52_method_15_code 2 (some .byte) :: ws) ({ frames := 0, cells := 0, slots := 0, locals := 0 } : Room)) (fun a U => a = #[(.ref ya1), (.int (3 : Int32))] ∧ Z.Warmed39 U.vm ∧ U.heap = h0) (fun _ _ _ _ _ => True) (fun _ U o U' => ∃ v L, o = .returned v ∧ Q_r17_coderFromArrayLen Z ya1 yk2 yi3 yi4 yi5 h0 n0 v U'.heap L ∧ FrameEnd U o U' L ({ frames := 0, cells := 0, slots := 0, locals := 0 } : Room).cells ({ frames := 0, cells := 0, slots := 0, locals := 0 } : Room).slots) := by
  refine MetFree.of_bodySF (plainFor_of_name pn_java_lang_StringUTF16) hisR ?_
  intro p e s m args below meth c s₁ Bd hml0 hP hK
  obtain ⟨rfl, hZ, hh⟩ := hP
  have hx := Bd.exec
  have hby := Bd.bytes
  have hlk := Bd.notSynchronized
  have hml : c.maxLocals = 2 := hml0
  have hown : s.vm.findClass cn8 = some m.cls := findClass_of_methodNamed Bd.named
  have hnm := (name_of_methodNamed Bd.named Bd.method).1
  have X0 : Stand p l e ({ frames := 0, cells := 0, slots := 0, locals := 0 } : Room) s m #[(.ref ya1), (.int (3 : Int32))] below meth c s₁ [] 0 0 := Stand.of_body Bd
  have e0 : s₁.heap = h0 := by rw [← hh, Bd.state]; rfl
  have N0 := Fr.nil n0
  have K0 := Keep.refl h0 []
  have Z0 : n0 ≤ h0.size := O0.1 ▸ O0.2.1
  have hef : entryFrame m #[(.ref ya1), (.int (3 : Int32))] 2 = mkF m 0 #[.val (.ref ya1), .val (.int (3 : Int32))] [] := by first | (simp [entryFrame, mkF, argsToLocals, Value.category]; done) | rfl
  rw [hef]
  refine Gets.out (Q := Q_r17_coderFromArrayLen Z ya1 yk2 yi3 yi4 yi5 h0 n0) ?_
  show Gets p e below _ (s₁.setTop (mkF m 0 #[.val (.ref ya1), .val (.int (3 : Int32))] []))
  refine Gets.of (fun t k => XS.iloadN X0.here hx rfl (hb hby d22_0) rfl  k) ?_
  refine Gets.of (fun t k => XS.aloadN X0.here hx rfl (hb hby d22_1) rfl rfl  k) ?_
  obtain ⟨cl1, Ar1, -, S1, N_1, -, -⟩ := id (F0)
  refine Gets.of (X0.arraylength hx (by rw [e0]; exact Ar1.1) (State.isArrayOf_alike hZ.alike Ar1.2.1) (g := (mkF m 2 #[.val (.ref ya1), .val (.int (3 : Int32))] [(.ref ya1), (.int (3 : Int32))])) rfl rfl (hb hby d22_2)) ?_
  rw [len_of S1 N_1]
  show Gets p e below _ (s₁.setTop (mkF m 3 #[.val (.ref ya1), .val (.int (3 : Int32))] [(.int (3 : Int32)), (.int (3 : Int32))]))
  refine Gets.of (fun t k => XS.isub X0.here hx rfl (hb hby d22_3) rfl k) ?_
  show Gets p e below _ (s₁.setTop (mkF m 4 #[.val (.ref ya1), .val (.int (3 : Int32))] [(.int (0 : Int32))]))
  refine Gets.of (fun t k => XS.bipush X0.here hx rfl (hb hby d22_4) k) ?_
  refine Gets.of (fun t k => XS.iushr X0.here hx rfl (hb hby d22_6) rfl k) ?_
  show Gets p e below _ (s₁.setTop (mkF m 7 #[.val (.ref ya1), .val (.int (3 : Int32))] [(.int (0 : Int32))]))
  refine Gets.of (fun t k => XS.i2b X0.here hx rfl (hb hby d22_7) rfl k) ?_
  show Gets p e below _ (s₁.setTop (mkF m 8 #[.val (.ref ya1), .val (.int (3 : Int32))] [(.int (0 : Int32))]))
  refine Gets.retN X0 hx (t := .byte) Bd.returns (by simp) (hb hby d22_8) ?_ (by decide) (by decide)
  rw [e0]
  exact ⟨N0, rfl, rfl⟩
def Q_r14_init (Z : State) (ya1 : Addr) (ya2 : Addr) (oi1 : Int32) (yi4 : Int32) (yi5 : Int32) (yi6 : Int32) (yk3 : ClassId) (h0 : Heap) (n0 : Nat) (v : Option Value) (h : Heap) (L : List Loc) : Prop := Fr n0 L ∧ Keep h0 h [ya1] ∧ ((∃ (b1_3 : Addr) (k1_3 : ClassId), v = none ∧ h0.size ≤ b1_3 ∧ Fld Z h ya1 cn0 "coder" "B" (.int (0 : Int32)) ∧ Fld Z h ya1 cn0 "value" "[B" (.ref b1_3) ∧ Exa Z h b1_3 "[B" ∧ Arv Z h b1_3 k1_3 .byte (3 : Int32) [(.int (nar .byte (yi4.toInt8.toInt32))), (.int (nar .byte (yi5.toInt8.toInt32))), (.int (nar .byte (yi6.toInt8.toInt32)))] (.int (0 : Int32))))
set_option maxRecDepth 65536 in
set_option maxHeartbeats 40000000 in
theorem r14_init (l : Launch) (Z : State) (a0 : Array Value) (hw : ∀ d ∈ tables_1, d.before a0 Z = true) (ws : List Jvm.Cond) (ya1 : Addr) (ya2 : Addr) (oi1 : Int32) (yi4 : Int32) (yi5 : Int32) (yi6 : Int32) (yk3 : ClassId) (h0 : Heap) (n0 : Nat) (O0 : Old Z n0 h0) (F0 : Arv Z h0 ya2 yk3 .char (3 : Int32) [(.int yi4), (.int yi5), (.int yi6)] (.int (0 : Int32))) (F1 : Exa Z h0 ya2 "[C") (F2 : Exa Z h0 ya1 cn0) (F3 : Fld Z h0 ya1 cn0 "coder" "B" (.int (0 : Int32))) (F4 : Fld Z h0 ya1 cn0 "value" "[B" .null) (oS3 : Sta Z Z.heap cn0 "COMPACT_STRINGS" "Z" (.int oi1)) (gq_ya1 : n0 ≤ ya1) (hy1 : ¬ (oi1 = (0 : Int32))) (hy2 : ¬ ((255 : Int32) < yi4)) (hy3 : ¬ ((255 : Int32) < yi5)) (hy4 : ¬ ((255 : Int32) < yi6)) :
    MetFree l (⟨cn0, "<init>", "([CIILjava/lang/Void;)V"⟩ : MethodName) (head1 (Jvm.Cond.code (⟨cn0, "<init>", "([CIILjava/lang/Void;)V"⟩ : MethodName) jdk_42_method_149_code 6 none :: ws) ({ frames := 2, cells := 1, slots := 3, locals := 35 } : Room)) (fun a U => a = #[(.ref ya1), (.ref ya2), (.int (0 : Int32)), (.int (3 : Int32)), .null] ∧ Z.Warmed39 U.vm ∧ U.heap = h0 ∧ CHv Z own_EL U.vm h0) (fun _ _ _ _ _ => True) (fun _ U o U' => ∃ v L, o = .returned v ∧ Q_r14_init Z ya1 ya2 oi1 yi4 yi5 yi6 yk3 h0 n0 v U'.heap L ∧ ReturnedEndW U o U' L ({ frames := 2, cells := 1, slots := 3, locals := 35 } : Room).cells ({ frames := 2, cells := 1, slots := 3, locals := 35 } : Room).slots) := by
  refine MetFree.of_bodySF (plainFor_of_name pn_java_lang_String) hisR ?_
  intro p e s m args below meth c s₁ Bd hml0 hP hK
  obtain ⟨rfl, hZ0, hh, hC0⟩ := hP
  have hx := Bd.exec
  have hby := Bd.bytes
  have hlk := Bd.notSynchronized
  have hml : c.maxLocals = 6 := hml0
  have hZ : Z.Warmed39 (s.setVm s.vm).vm := hZ0
  have hown : (s.setVm s.vm).vm.findClass cn0 = some m.cls := findClass_of_methodNamed Bd.named
  have hnm := (name_of_methodNamed Bd.named Bd.method).1
  have X0 : Stand p l e ({ frames := 2, cells := 1, slots := 3, locals := 35 } : Room) (s.setVm s.vm) m #[(.ref ya1), (.ref ya2), (.int (0 : Int32)), (.int (3 : Int32)), .null] below meth c s₁ [] 0 0 := Stand.of_body Bd
  have hS0 : s.Since s.vm s.heap.size := (State.WarmedH.refl s).since _
  have hk0 : s.heap.size ≤ h0.size := Nat.le_of_eq (congrArg Array.size hh)
  have e0 : s₁.heap = h0 := by rw [← hh, Bd.state]; rfl
  have N0 := Fr.nil n0
  have K0 := Keep.refl h0 [ya1]
  have Z0 : n0 ≤ h0.size := O0.1 ▸ O0.2.1
  have hef : entryFrame m #[(.ref ya1), (.ref ya2), (.int (0 : Int32)), (.int (3 : Int32)), .null] 6 = mkF m 0 #[.val (.ref ya1), .val (.ref ya2), .val (.int (0 : Int32)), .val (.int (3 : Int32)), .val .null, .unset] [] := by first | (simp [entryFrame, mkF, argsToLocals, Value.category]; done) | rfl
  rw [hef]
  refine GetsW.out (Q := Q_r14_init Z ya1 ya2 oi1 yi4 yi5 yi6 yk3 h0 n0) ?_
  show Gets p e below _ (s₁.setTop (mkF m 0 #[.val (.ref ya1), .val (.ref ya2), .val (.int (0 : Int32)), .val (.int (3 : Int32)), .val .null, .unset] []))
  refine Gets.of (fun t k => XS.aloadN X0.here hx rfl (hb hby d19_0) rfl rfl  k) ?_
  obtain ⟨T1, X1, e1, st1⟩ := initO X0 hx hZ hown (w19 hw) (w20 hw) (w21 hw) e0 (g := (mkF m 1 #[.val (.ref ya1), .val (.ref ya2), .val (.int (0 : Int32)), .val (.int (3 : Int32)), .val .null, .unset] [(.ref ya1)])) rfl (by rw [hml]; rfl) rfl (hb hby d19_1) (by decide) (W := 0) (by show 2 * 0 + _ ≤ _; exact Nat.le_of_eq rfl) (by decide)
  refine Gets.of st1 ?_
  show Gets p e below _ (T1.setTop (mkF m 4 #[.val (.ref ya1), .val (.ref ya2), .val (.int (0 : Int32)), .val (.int (3 : Int32)), .val .null, .unset] []))
  refine Gets.of (fun t k => XS.iloadN X1.here hx rfl (hb hby d19_4) rfl  k) ?_
  refine Gets.of (fun t k => XS.ifYes X1.here hx rfl (pc0 := 5) (pc' := 27) rfl (hb hby d19_5) rfl ((if0 _ _).trans (feq (by decide : ¬ ((3 : Int32) = (0 : Int32)))).2) (by decide) (by decide) k) ?_
  show Gets p e below _ (T1.setTop (mkF m 27 #[.val (.ref ya1), .val (.ref ya2), .val (.int (0 : Int32)), .val (.int (3 : Int32)), .val .null, .unset] []))
  obtain ⟨T2, X2, e2, st2⟩ := getS2 X1 hx hZ hown (host := "") (Or.inl (w4 hw)) Via.refl e1 (oS3.ext O0.2) (g := (mkF m 27 #[.val (.ref ya1), .val (.ref ya2), .val (.int (0 : Int32)), .val (.int (3 : Int32)), .val .null, .unset] [])) rfl (hb hby d19_27)
  refine Gets.of st2 ?_
  show Gets p e below _ (T2.setTop (mkF m 30 #[.val (.ref ya1), .val (.ref ya2), .val (.int (0 : Int32)), .val (.int (3 : Int32)), .val .null, .unset] [(.int oi1)]))
  refine Gets.of (fun t k => XS.ifNo X2.here hx rfl (hb hby d19_30) rfl ((if0 _ _).trans (feq hy1).1) k) ?_
  show Gets p e below _ (T2.setTop (mkF m 33 #[.val (.ref ya1), .val (.ref ya2), .val (.int (0 : Int32)), .val (.int (3 : Int32)), .val .null, .unset] []))
  refine Gets.of (fun t k => XS.aloadN X2.here hx rfl (hb hby d19_33) rfl rfl  k) ?_
  refine Gets.of (fun t k => XS.iloadN X2.here hx rfl (hb hby d19_34) rfl  k) ?_
  refine Gets.of (fun t k => XS.iloadN X2.here hx rfl (hb hby d19_35) rfl  k) ?_
  obtain ⟨_, _, ⟨T3, L3, k3, n3⟩, -, X3, ⟨Lc3, hQ3, l3, y3, z3⟩, st3⟩ := Jvm.LawKit.callS X2 hx (y := (⟨cn8, "compress", "([CII)[B"⟩ : MethodName)) hown (mvT hZ (w123 hw)) (mvT hZ (w124 hw)) (mvT hZ (w125 hw)) (mvT hZ (w126 hw)) (by decide) (backOf (W := 0) (r15_compress l Z a0 hw [] ya2 yi4 yi5 yi6 yk3 h0 n0 O0 F0 F1 hy2 hy3 hy4) hZ (w126 hw) (w125 hw) (by decide) (by decide)) (g := (mkF m 36 #[.val (.ref ya1), .val (.ref ya2), .val (.int (0 : Int32)), .val (.int (3 : Int32)), .val .null, .unset] [(.int (3 : Int32)), (.int (0 : Int32)), (.ref ya2)])) rfl (by rw [hml]; rfl) (argsL := [(.ref ya2), (.int (0 : Int32)), (.int (3 : Int32))]) (rest := []) (lenOf pd__CII_B rfl) rfl (by show 2 * 0 + _ ≤ _; exact Nat.le_of_eq rfl) (hb hby d19_36) (fun _ _ => ⟨rfl, e2, (by decide : 0 + 1 ≤ _), (by decide : 0 + 3 ≤ _)⟩)
  dsimp only [Pt.U, Pt.locs, Pt.cells, Pt.slots] at X3 l3 y3 z3 st3 hQ3
  subst l3 y3 z3
  obtain ⟨Nq3, Kq3, hR3⟩ := hQ3
  have N3 := Fr.app N0 Nq3
  have Hc4 := CHv.keep Kq3 sf0 hC0
  have K4 : Keep h0 _ [ya1] := K0.trans Kq3 all0
  have O4 := O0.keep Kq3 all0
  have hk5 := Nat.le_trans hk0 Kq3.1
  obtain ⟨b1_3, k1_3, rfl, bz3_0, bf3_0, bf3_1⟩ := hR3
  have sz_b1_3 : h0.size ≤ b1_3 := Nat.le_trans K0.1 bz3_0
  have g_b1_3 : n0 ≤ b1_3 := Nat.le_trans Z0 sz_b1_3
  refine Gets.of st3 ?_
  show Gets p e below _ (T3.setTop (mkF m 39 #[.val (.ref ya1), .val (.ref ya2), .val (.int (0 : Int32)), .val (.int (3 : Int32)), .val .null, .unset] [(.ref b1_3)]))
  refine Gets.of (fun t k => XS.astore X3.here hx rfl (hb hby d19_39) rfl rfl (l' := #[.val (.ref ya1), .val (.ref ya2), .val (.int (0 : Int32)), .val (.int (3 : Int32)), .val .null, .val (.ref b1_3)]) rfl k) ?_
  show Gets p e below _ (T3.setTop (mkF m 41 #[.val (.ref ya1), .val (.ref ya2), .val (.int (0 : Int32)), .val (.int (3 : Int32)), .val .null, .val (.ref b1_3)] []))
  refine Gets.of (fun t k => XS.aloadN X3.here hx rfl (hb hby d19_41) rfl rfl  k) ?_
  refine Gets.of (fun t k => XS.aload X3.here hx rfl (hb hby d19_42) rfl rfl  k) ?_
  refine Gets.of (fun t k => XS.iloadN X3.here hx rfl (hb hby d19_44) rfl  k) ?_
  obtain ⟨_, _, ⟨T6, L6, k6, n6⟩, -, X6, ⟨Lc6, hQ6, l6, y6, z6⟩, st6⟩ := Jvm.LawKit.callS X3 hx (y := (⟨cn8, "coderFromArrayLen", "([BI)B"⟩ : MethodName)) hown (mvT hZ (w130 hw)) (mvT hZ (w131 hw)) (mvT hZ (w125 hw)) (mvT hZ (w132 hw)) (by decide) (backOf (W := 1) (r17_coderFromArrayLen l Z a0 hw [] b1_3 k1_3 (nar .byte (yi4.toInt8.toInt32)) (nar .byte (yi5.toInt8.toInt32)) (nar .byte (yi6.toInt8.toInt32)) T3.heap n0 O4 bf3_1) hZ (w132 hw) (w125 hw) (by decide) (by decide)) (g := (mkF m 45 #[.val (.ref ya1), .val (.ref ya2), .val (.int (0 : Int32)), .val (.int (3 : Int32)), .val .null, .val (.ref b1_3)] [(.int (3 : Int32)), (.ref b1_3), (.ref ya1)])) rfl (by rw [hml]; rfl) (argsL := [(.ref b1_3), (.int (3 : Int32))]) (rest := [(.ref ya1)]) (lenOf pd__BI_B rfl) rfl (by show 2 * 0 + _ ≤ _; exact Nat.le_of_eq rfl) (hb hby d19_45) (fun _ _ => ⟨rfl, rfl, (by decide : 1 + 0 ≤ _), (by decide : 3 + 0 ≤ _)⟩)
  dsimp only [Pt.U, Pt.locs, Pt.cells, Pt.slots] at X6 l6 y6 z6 st6 hQ6
  subst l6 y6 z6
  obtain ⟨Nq6, eq6, hR6⟩ := hQ6
  have N6 := Fr.app N3 Nq6
  obtain rfl := hR6
  refine Gets.of st6 ?_
  show Gets p e below _ (T6.setTop (mkF m 48 #[.val (.ref ya1), .val (.ref ya2), .val (.int (0 : Int32)), .val (.int (3 : Int32)), .val .null, .val (.ref b1_3)] [(.int (0 : Int32)), (.ref ya1)]))
  have f7 : Exa Z T3.heap ya1 cn0 := (F2.keep Kq3)
  have f8 : Fld Z T3.heap ya1 cn0 "coder" "B" (.int (0 : Int32)) := (F3.keep Kq3 nin0)
  obtain ⟨T9, h9, X9, e9, W9, st9⟩ := putFN X6 hx hZ hown (w24 hw) Via.refl eq6 f8 f7 (Or.inr ⟨(w25 hw), rfl, hnm⟩) (w10 hw) (ty := .byte) (v' := (.int (0 : Int32))) (by decide) rfl (by decide) (g := (mkF m 48 #[.val (.ref ya1), .val (.ref ya2), .val (.int (0 : Int32)), .val (.int (3 : Int32)), .val .null, .val (.ref b1_3)] [(.int (0 : Int32)), (.ref ya1)])) rfl rfl (hb hby d19_48)
  have N9 := Fr.snoc X9 N6 gq_ya1
  have Fw9 : Fld Z h9 ya1 cn0 "coder" "B" (.int (0 : Int32)) := (f8).same W9
  have K10 : Keep h0 _ [ya1] := K4.wr W9 (Or.inl (by simp))
  have O10 := O4.wr W9 gq_ya1
  have hk11 := Nat.le_trans hk5 (Nat.le_of_eq W9.size.symm)
  refine Gets.of st9 ?_
  show Gets p e below _ (T9.setTop (mkF m 51 #[.val (.ref ya1), .val (.ref ya2), .val (.int (0 : Int32)), .val (.int (3 : Int32)), .val .null, .val (.ref b1_3)] []))
  refine Gets.of (fun t k => XS.aloadN X9.here hx rfl (hb hby d19_51) rfl rfl  k) ?_
  refine Gets.of (fun t k => XS.aload X9.here hx rfl (hb hby d19_52) rfl rfl  k) ?_
  have f12 : Exa Z h9 ya1 cn0 := (f7.wr W9)
  have f13 : Fld Z h9 ya1 cn0 "value" "[B" .null := ((F4.keep Kq3 nin0).other W9 (Or.inr (slot_ne (Or.inr (w23 hw)) (Or.inr (w25 hw)) (by decide) (t := (.array .byte)) (t' := .byte) (by decide) (by decide))))
  obtain ⟨T14, h14, X14, e14, W14, st14⟩ := putF X9 hx hZ hown (host := "") (Or.inl (w22 hw)) Via.refl e9 f13 f12 (Or.inr ⟨(w23 hw), rfl, hnm⟩) (w10 hw) (ty := (.array .byte)) (by decide) rfl rfl (g := (mkF m 54 #[.val (.ref ya1), .val (.ref ya2), .val (.int (0 : Int32)), .val (.int (3 : Int32)), .val .null, .val (.ref b1_3)] [(.ref b1_3), (.ref ya1)])) rfl rfl (hb hby d19_54)
  have N14 := Fr.snoc X14 N9 gq_ya1
  have Fw14 : Fld Z h14 ya1 cn0 "value" "[B" (.ref b1_3) := (f13).same W14
  have K15 : Keep h0 _ [ya1] := K10.wr W14 (Or.inl (by simp))
  have O15 := O10.wr W14 gq_ya1
  have hk16 := Nat.le_trans hk11 (Nat.le_of_eq W14.size.symm)
  refine Gets.of st14 ?_
  show Gets p e below _ (T14.setTop (mkF m 57 #[.val (.ref ya1), .val (.ref ya2), .val (.int (0 : Int32)), .val (.int (3 : Int32)), .val .null, .val (.ref b1_3)] []))
  refine GetsW.retV X14 hx Bd.returns (hb hby d19_57) hS0 (e14 ▸ hk16) ?_ (by decide) (by decide)
  rw [e14]
  have f17 : Fld Z h14 ya1 cn0 "coder" "B" (.int (0 : Int32)) := (Fw9.other W14 (Or.inr (slot_ne (Or.inr (w25 hw)) (Or.inr (w23 hw)) (by decide) (t := .byte) (t' := (.array .byte)) (by decide) (by decide))))
  have f18 : Exa Z h14 b1_3 "[B" := ((bf3_0.wr W9).wr W14)
  have f19 : Arv Z h14 b1_3 k1_3 .byte (3 : Int32) [(.int (nar .byte (yi4.toInt8.toInt32))), (.int (nar .byte (yi5.toInt8.toInt32))), (.int (nar .byte (yi6.toInt8.toInt32)))] (.int (0 : Int32)) := ((bf3_1.other W9 (Ne.symm (Nat.ne_of_lt (Nat.lt_of_lt_of_le F2.lt sz_b1_3)))).other W14 (Ne.symm (Nat.ne_of_lt (Nat.lt_of_lt_of_le F2.lt sz_b1_3))))
  exact ⟨N14, K15, ⟨b1_3, k1_3, rfl, sz_b1_3, f17, Fw14, f18, f19⟩⟩
def Q_r13_init (Z : State) (ya1 : Addr) (ya2 : Addr) (yk3 : ClassId) (yi4 : Int32) (yi5 : Int32) (yi6 : Int32) (oi1 : Int32) (h0 : Heap) (n0 : Nat) (v : Option Value) (h : Heap) (L : List Loc) : Prop := Fr n0 L ∧ Keep h0 h [ya1] ∧ ((∃ (b1_3_2 : Addr) (k1_3_2 : ClassId), v = none ∧ h0.size ≤ b1_3_2 ∧ Fld Z h ya1 cn0 "coder" "B" (.int (0 : Int32)) ∧ Fld Z h ya1 cn0 "value" "[B" (.ref b1_3_2) ∧ Exa Z h b1_3_2 "[B" ∧ Arv Z h b1_3_2 k1_3_2 .byte (3 : Int32) [(.int (nar .byte (yi4.toInt8.toInt32))), (.int (nar .byte (yi5.toInt8.toInt32))), (.int (nar .byte (yi6.toInt8.toInt32)))] (.int (0 : Int32))))
set_option maxRecDepth 65536 in
set_option maxHeartbeats 40000000 in
theorem r13_init (l : Launch) (Z : State) (a0 : Array Value) (hw : ∀ d ∈ tables_1, d.before a0 Z = true) (ws : List Jvm.Cond) (ya1 : Addr) (ya2 : Addr) (yk3 : ClassId) (yi4 : Int32) (yi5 : Int32) (yi6 : Int32) (oi1 : Int32) (h0 : Heap) (n0 : Nat) (O0 : Old Z n0 h0) (F0 : Arv Z h0 ya2 yk3 .char (3 : Int32) [(.int yi4), (.int yi5), (.int yi6)] (.int (0 : Int32))) (F1 : Exa Z h0 ya2 "[C") (F2 : Exa Z h0 ya1 cn0) (F3 : Fld Z h0 ya1 cn0 "coder" "B" (.int (0 : Int32))) (F4 : Fld Z h0 ya1 cn0 "value" "[B" .null) (oS3 : Sta Z Z.heap cn0 "COMPACT_STRINGS" "Z" (.int oi1)) (gq_ya1 : n0 ≤ ya1) (hy1 : ¬ (oi1 = (0 : Int32))) (hy2 : ¬ ((255 : Int32) < yi4)) (hy3 : ¬ ((255 : Int32) < yi5)) (hy4 : ¬ ((255 : Int32) < yi6)) :
    MetFree l (⟨cn0, "<init>", "([C)V"⟩ : MethodName) (head1 (Jvm.Cond.code (⟨cn0, "<init>", "([C)V"⟩ : MethodName) jdk_42_method_3_code 2 none :: ws) ({ frames := 3, cells := 1, slots := 3, locals := 52 } : Room)) (fun a U => a = #[(.ref ya1), (.ref ya2)] ∧ Z.Warmed39 U.vm ∧ U.heap = h0 ∧ CHv Z own_EL U.vm h0) (fun _ _ _ _ _ => True) (fun _ U o U' => ∃ v L, o = .returned v ∧ Q_r13_init Z ya1 ya2 yk3 yi4 yi5 yi6 oi1 h0 n0 v U'.heap L ∧ ReturnedEndW U o U' L ({ frames := 3, cells := 1, slots := 3, locals := 52 } : Room).cells ({ frames := 3, cells := 1, slots := 3, locals := 52 } : Room).slots) := by
  refine MetFree.of_bodySF (plainFor_of_name pn_java_lang_String) hisR ?_
  intro p e s m args below meth c s₁ Bd hml0 hP hK
  obtain ⟨rfl, hZ0, hh, hC0⟩ := hP
  have hx := Bd.exec
  have hby := Bd.bytes
  have hlk := Bd.notSynchronized
  have hml : c.maxLocals = 2 := hml0
  have hZ : Z.Warmed39 (s.setVm s.vm).vm := hZ0
  have hown : (s.setVm s.vm).vm.findClass cn0 = some m.cls := findClass_of_methodNamed Bd.named
  have hnm := (name_of_methodNamed Bd.named Bd.method).1
  have X0 : Stand p l e ({ frames := 3, cells := 1, slots := 3, locals := 52 } : Room) (s.setVm s.vm) m #[(.ref ya1), (.ref ya2)] below meth c s₁ [] 0 0 := Stand.of_body Bd
  have hS0 : s.Since s.vm s.heap.size := (State.WarmedH.refl s).since _
  have hk0 : s.heap.size ≤ h0.size := Nat.le_of_eq (congrArg Array.size hh)
  have e0 : s₁.heap = h0 := by rw [← hh, Bd.state]; rfl
  have N0 := Fr.nil n0
  have K0 := Keep.refl h0 [ya1]
  have Z0 : n0 ≤ h0.size := O0.1 ▸ O0.2.1
  have hef : entryFrame m #[(.ref ya1), (.ref ya2)] 2 = mkF m 0 #[.val (.ref ya1), .val (.ref ya2)] [] := by first | (simp [entryFrame, mkF, argsToLocals, Value.category]; done) | rfl
  rw [hef]
  refine GetsW.out (Q := Q_r13_init Z ya1 ya2 yk3 yi4 yi5 yi6 oi1 h0 n0) ?_
  show Gets p e below _ (s₁.setTop (mkF m 0 #[.val (.ref ya1), .val (.ref ya2)] []))
  refine Gets.of (fun t k => XS.aloadN X0.here hx rfl (hb hby d18_0) rfl rfl  k) ?_
  refine Gets.of (fun t k => XS.aloadN X0.here hx rfl (hb hby d18_1) rfl rfl  k) ?_
  refine Gets.of (fun t k => XS.iconst X0.here hx rfl (hb hby d18_2) k) ?_
  refine Gets.of (fun t k => XS.aloadN X0.here hx rfl (hb hby d18_3) rfl rfl  k) ?_
  show Gets p e below _ (s₁.setTop (mkF m 4 #[.val (.ref ya1), .val (.ref ya2)] [(.ref ya2), (.int (0 : Int32)), (.ref ya2), (.ref ya1)]))
  obtain ⟨cl1, Ar1, -, S1, N_1, -, -⟩ := id (F0)
  refine Gets.of (X0.arraylength hx (by rw [e0]; exact Ar1.1) (State.isArrayOf_alike hZ.alike Ar1.2.1) (g := (mkF m 4 #[.val (.ref ya1), .val (.ref ya2)] [(.ref ya2), (.int (0 : Int32)), (.ref ya2), (.ref ya1)])) rfl rfl (hb hby d18_4)) ?_
  rw [len_of S1 N_1]
  show Gets p e below _ (s₁.setTop (mkF m 5 #[.val (.ref ya1), .val (.ref ya2)] [(.int (3 : Int32)), (.int (0 : Int32)), (.ref ya2), (.ref ya1)]))
  refine Gets.of (fun t k => XS.aconstNull X0.here hx rfl (hb hby d18_5) k) ?_
  obtain ⟨_, _, ⟨T2, L2, k2, n2⟩, -, Xw2, hSw2, hgw2, ⟨Lc2, hQ2, l2, y2, z2⟩, st2⟩ := X0.specialBackS hx (y := (⟨cn0, "<init>", "([CIILjava/lang/Void;)V"⟩ : MethodName)) rfl hown (mvT hZ (w120 hw)) (mvT hZ (w121 hw)) (mvT hZ (w122 hw)) (by decide) (own_backC (W := 0) (r14_init l Z a0 hw [] ya1 ya2 oi1 yi4 yi5 yi6 yk3 h0 n0 O0 F0 F1 F2 F3 F4 oS3 gq_ya1 hy1 hy2 hy3 hy4) hZ (w122 hw) (w2 hw) (by decide) (by decide) (own_EW hw) hC0) (g := (mkF m 6 #[.val (.ref ya1), .val (.ref ya2)] [.null, (.int (3 : Int32)), (.int (0 : Int32)), (.ref ya2), (.ref ya1)])) rfl (by rw [hml]; rfl) (Steps.refl _) (a := ya1) (argsL := [(.ref ya2), (.int (0 : Int32)), (.int (3 : Int32)), .null]) (rest := []) (lenOf pd__CIILjava_lang_Void_V rfl) rfl (by show 2 * 0 + _ ≤ _; exact Nat.le_of_eq rfl) (hb hby d18_6) (fun _ _ => ⟨rfl, e0, (by decide : 0 + 1 ≤ _), (by decide : 0 + 3 ≤ _)⟩)
  dsimp only [Pt.U, Pt.locs, Pt.cells, Pt.slots] at Xw2 hSw2 hgw2 l2 y2 z2 st2 hQ2
  subst l2 y2 z2
  obtain ⟨X2, hS2, hZ2, hown2⟩ := rebS hS0 (by rw [e0]; exact hk0) Xw2 hSw2 hgw2 hZ hown
  obtain ⟨Nq2, Kq2, hR2⟩ := hQ2
  have N2 := Fr.app N0 Nq2
  have K3 : Keep h0 _ [ya1] := K0.trans Kq2 (allS (Or.inl (by simp)) all0)
  have O3 := O0.keep Kq2 (allS gq_ya1 all0)
  have hk4 := Nat.le_trans hk0 Kq2.1
  obtain ⟨b1_3_2, k1_3_2, rfl, bz2_0, bf2_0, bf2_1, bf2_2, bf2_3⟩ := hR2
  have sz_b1_3_2 : h0.size ≤ b1_3_2 := Nat.le_trans K0.1 bz2_0
  have g_b1_3_2 : n0 ≤ b1_3_2 := Nat.le_trans Z0 sz_b1_3_2
  refine Gets.tr st2 ?_
  show Gets p e below _ (T2.setTop (mkF m 9 #[.val (.ref ya1), .val (.ref ya2)] []))
  refine GetsW.retV X2 hx Bd.returns (hb hby d18_9) hS2 (Nat.le_refl T2.heap.size) ?_ (by decide) (by decide)
  exact ⟨N2, K3, ⟨b1_3_2, k1_3_2, rfl, sz_b1_3_2, bf2_0, bf2_1, bf2_2, bf2_3⟩⟩
theorem d17_128 : decode method_3_code 128 = .ok (.areturn, 1) := by decide +kernel
def Q_rm_drawn (Z : State) (p1 : Int32) (p2 : Int32) (p3 : Int32) (oi1 : Int32) (h0 : Heap) (n0 : Nat) (v : Option Value) (h : Heap) (L : List Loc) : Prop := Fr n0 L ∧ Keep h0 h [] ∧ ((∃ (yb : Addr), v = some (.ref yb) ∧ h0.size ≤ yb ∧ Exa Z h yb cn0))
theorem pn_com_example_causeway_causeway_formats_OaiDcUnitIsSetAsidePinLaw : plainName "com/example/causeway/causeway/formats/OaiDcUnitIsSetAsidePinLaw" = true := by first | (simp [plainName, overriddenIn]; done) | decide +kernel
set_option maxRecDepth 65536 in
set_option maxHeartbeats 40000000 in
theorem rm_drawn (l : Launch) (Z : State) (a0 : Array Value) (hw : ∀ d ∈ tables_1, d.before a0 Z = true) (ws : List Jvm.Cond) (p1 : Int32) (p2 : Int32) (p3 : Int32) (oi1 : Int32) (h0 : Heap) (n0 : Nat) (O0 : Old Z n0 h0) (oS3 : Sta Z Z.heap cn0 "COMPACT_STRINGS" "Z" (.int oi1)) (oh4 : ¬ (oi1 = (0 : Int32))) :
    MetFree l (⟨cn13, "drawn", "(III)Ljava/lang/String;"⟩ : MethodName) (head1 (Jvm.Cond.code (⟨cn13, "drawn", "(III)Ljava/lang/String;"⟩ : MethodName) method_3_code 7 (some (.object cn0)) :: ws) ({ frames := 4, cells := 4, slots := 10, locals := 66 } : Room)) (fun a U => a = #[(.int p1), (.int p2), (.int p3)] ∧ Z.Warmed39 U.vm ∧ U.heap = h0 ∧ CHv Z own_EL U.vm h0) (fun _ _ _ _ _ => True) (fun _ U o U' => ∃ v L, o = .returned v ∧ Q_rm_drawn Z p1 p2 p3 oi1 h0 n0 v U'.heap L ∧ ReturnedEndW U o U' L ({ frames := 4, cells := 4, slots := 10, locals := 66 } : Room).cells ({ frames := 4, cells := 4, slots := 10, locals := 66 } : Room).slots) := by
  refine MetFree.of_bodySF (plainFor_of_name pn_com_example_causeway_causeway_formats_OaiDcUnitIsSetAsidePinLaw) hisR ?_
  intro p e s m args below meth c s₁ Bd hml0 hP hK
  obtain ⟨rfl, hZ0, hh, hC0⟩ := hP
  have hx := Bd.exec
  have hby := Bd.bytes
  have hlk := Bd.notSynchronized
  have hml : c.maxLocals = 7 := hml0
  have hZ : Z.Warmed39 (s.setVm s.vm).vm := hZ0
  have hown : (s.setVm s.vm).vm.findClass cn13 = some m.cls := findClass_of_methodNamed Bd.named
  have hnm := (name_of_methodNamed Bd.named Bd.method).1
  have X0 : Stand p l e ({ frames := 4, cells := 4, slots := 10, locals := 66 } : Room) (s.setVm s.vm) m #[(.int p1), (.int p2), (.int p3)] below meth c s₁ [] 0 0 := Stand.of_body Bd
  have hS0 : s.Since s.vm s.heap.size := (State.WarmedH.refl s).since _
  have hk0 : s.heap.size ≤ h0.size := Nat.le_of_eq (congrArg Array.size hh)
  have e0 : s₁.heap = h0 := by rw [← hh, Bd.state]; rfl
  have N0 := Fr.nil n0
  have K0 := Keep.refl h0 []
  have Z0 : n0 ≤ h0.size := O0.1 ▸ O0.2.1
  have hef : entryFrame m #[(.int p1), (.int p2), (.int p3)] 7 = mkF m 0 #[.val (.int p1), .val (.int p2), .val (.int p3), .unset, .unset, .unset, .unset] [] := by first | (simp [entryFrame, mkF, argsToLocals, Value.category]; done) | rfl
  rw [hef]
  refine GetsW.out (Q := Q_rm_drawn Z p1 p2 p3 oi1 h0 n0) ?_
  show Gets p e below _ (s₁.setTop (mkF m 0 #[.val (.int p1), .val (.int p2), .val (.int p3), .unset, .unset, .unset, .unset] []))
  refine Gets.of (fun t k => XS.iloadN X0.here hx rfl (hb hby d17_0) rfl  k) ?_
  refine Gets.of (fun t k => XS.sipush X0.here hx rfl (hb hby d17_1) k) ?_
  refine Gets.of (fun t k => XS.iand X0.here hx rfl (hb hby d17_4) rfl k) ?_
  show Gets p e below _ (s₁.setTop (mkF m 5 #[.val (.int p1), .val (.int p2), .val (.int p3), .unset, .unset, .unset, .unset] [(.int (p2 &&& (255 : Int32)))]))
  refine Gets.of (fun t k => XS.i2c X0.here hx rfl (hb hby d17_5) rfl k) ?_
  show Gets p e below _ (s₁.setTop (mkF m 6 #[.val (.int p1), .val (.int p2), .val (.int p3), .unset, .unset, .unset, .unset] [(.int ((p2 &&& (255 : Int32)).toUInt32.toUInt16.toUInt32.toInt32))]))
  refine Gets.of (fun t k => XS.istoreN X0.here hx rfl (hb hby d17_6) rfl (l' := #[.val (.int p1), .val (.int p2), .val (.int p3), .val (.int ((p2 &&& (255 : Int32)).toUInt32.toUInt16.toUInt32.toInt32)), .unset, .unset, .unset]) rfl k) ?_
  show Gets p e below _ (s₁.setTop (mkF m 7 #[.val (.int p1), .val (.int p2), .val (.int p3), .val (.int ((p2 &&& (255 : Int32)).toUInt32.toUInt16.toUInt32.toInt32)), .unset, .unset, .unset] []))
  refine Gets.of (fun t k => XS.iloadN X0.here hx rfl (hb hby d17_7) rfl  k) ?_
  refine Gets.of (fun t k => XS.sipush X0.here hx rfl (hb hby d17_8) k) ?_
  refine Gets.of (fun t k => XS.iand X0.here hx rfl (hb hby d17_11) rfl k) ?_
  show Gets p e below _ (s₁.setTop (mkF m 12 #[.val (.int p1), .val (.int p2), .val (.int p3), .val (.int ((p2 &&& (255 : Int32)).toUInt32.toUInt16.toUInt32.toInt32)), .unset, .unset, .unset] [(.int (p3 &&& (255 : Int32)))]))
  refine Gets.of (fun t k => XS.i2c X0.here hx rfl (hb hby d17_12) rfl k) ?_
  show Gets p e below _ (s₁.setTop (mkF m 13 #[.val (.int p1), .val (.int p2), .val (.int p3), .val (.int ((p2 &&& (255 : Int32)).toUInt32.toUInt16.toUInt32.toInt32)), .unset, .unset, .unset] [(.int ((p3 &&& (255 : Int32)).toUInt32.toUInt16.toUInt32.toInt32))]))
  refine Gets.of (fun t k => XS.istore X0.here hx rfl (hb hby d17_13) rfl (l' := #[.val (.int p1), .val (.int p2), .val (.int p3), .val (.int ((p2 &&& (255 : Int32)).toUInt32.toUInt16.toUInt32.toInt32)), .val (.int ((p3 &&& (255 : Int32)).toUInt32.toUInt16.toUInt32.toInt32)), .unset, .unset]) rfl k) ?_
  show Gets p e below _ (s₁.setTop (mkF m 15 #[.val (.int p1), .val (.int p2), .val (.int p3), .val (.int ((p2 &&& (255 : Int32)).toUInt32.toUInt16.toUInt32.toInt32)), .val (.int ((p3 &&& (255 : Int32)).toUInt32.toUInt16.toUInt32.toInt32)), .unset, .unset] []))
  refine Gets.of (fun t k => XS.iloadN X0.here hx rfl (hb hby d17_15) rfl  k) ?_
  refine Gets.of (fun t k => XS.bipush X0.here hx rfl (hb hby d17_16) k) ?_
  refine Gets.of (fun t k => XS.iushr X0.here hx rfl (hb hby d17_18) rfl k) ?_
  show Gets p e below _ (s₁.setTop (mkF m 19 #[.val (.int p1), .val (.int p2), .val (.int p3), .val (.int ((p2 &&& (255 : Int32)).toUInt32.toUInt16.toUInt32.toInt32)), .val (.int ((p3 &&& (255 : Int32)).toUInt32.toUInt16.toUInt32.toInt32)), .unset, .unset] [(.int ((p2.toUInt32 >>> ((8 : Int32) &&& 31).toUInt32).toInt32))]))
  refine Gets.of (fun t k => XS.sipush X0.here hx rfl (hb hby d17_19) k) ?_
  refine Gets.of (fun t k => XS.iand X0.here hx rfl (hb hby d17_22) rfl k) ?_
  show Gets p e below _ (s₁.setTop (mkF m 23 #[.val (.int p1), .val (.int p2), .val (.int p3), .val (.int ((p2 &&& (255 : Int32)).toUInt32.toUInt16.toUInt32.toInt32)), .val (.int ((p3 &&& (255 : Int32)).toUInt32.toUInt16.toUInt32.toInt32)), .unset, .unset] [(.int (((p2.toUInt32 >>> ((8 : Int32) &&& 31).toUInt32).toInt32) &&& (255 : Int32)))]))
  refine Gets.of (fun t k => XS.i2c X0.here hx rfl (hb hby d17_23) rfl k) ?_
  show Gets p e below _ (s₁.setTop (mkF m 24 #[.val (.int p1), .val (.int p2), .val (.int p3), .val (.int ((p2 &&& (255 : Int32)).toUInt32.toUInt16.toUInt32.toInt32)), .val (.int ((p3 &&& (255 : Int32)).toUInt32.toUInt16.toUInt32.toInt32)), .unset, .unset] [(.int ((((p2.toUInt32 >>> ((8 : Int32) &&& 31).toUInt32).toInt32) &&& (255 : Int32)).toUInt32.toUInt16.toUInt32.toInt32))]))
  refine Gets.of (fun t k => XS.istore X0.here hx rfl (hb hby d17_24) rfl (l' := #[.val (.int p1), .val (.int p2), .val (.int p3), .val (.int ((p2 &&& (255 : Int32)).toUInt32.toUInt16.toUInt32.toInt32)), .val (.int ((p3 &&& (255 : Int32)).toUInt32.toUInt16.toUInt32.toInt32)), .val (.int ((((p2.toUInt32 >>> ((8 : Int32) &&& 31).toUInt32).toInt32) &&& (255 : Int32)).toUInt32.toUInt16.toUInt32.toInt32)), .unset]) rfl k) ?_
  show Gets p e below _ (s₁.setTop (mkF m 26 #[.val (.int p1), .val (.int p2), .val (.int p3), .val (.int ((p2 &&& (255 : Int32)).toUInt32.toUInt16.toUInt32.toInt32)), .val (.int ((p3 &&& (255 : Int32)).toUInt32.toUInt16.toUInt32.toInt32)), .val (.int ((((p2.toUInt32 >>> ((8 : Int32) &&& 31).toUInt32).toInt32) &&& (255 : Int32)).toUInt32.toUInt16.toUInt32.toInt32)), .unset] []))
  refine Gets.of (fun t k => XS.iloadN X0.here hx rfl (hb hby d17_26) rfl  k) ?_
  by_cases hc1 : p1 = (0 : Int32)
  · skip
    refine Gets.of (fun t k => XS.ifNo X0.here hx rfl (hb hby d17_27) rfl ((if0 _ _).trans (teq hc1).2) k) ?_
    show Gets p e below _ (s₁.setTop (mkF m 30 #[.val (.int p1), .val (.int p2), .val (.int p3), .val (.int ((p2 &&& (255 : Int32)).toUInt32.toUInt16.toUInt32.toInt32)), .val (.int ((p3 &&& (255 : Int32)).toUInt32.toUInt16.toUInt32.toInt32)), .val (.int ((((p2.toUInt32 >>> ((8 : Int32) &&& 31).toUInt32).toInt32) &&& (255 : Int32)).toUInt32.toUInt16.toUInt32.toInt32)), .unset] []))
    obtain ⟨T2, h2, X2, e2, E2, A2, D2, -, st2⟩ := newO X0 hx hZ hown (w116 hw) (w10 hw) (w2 hw) e0 (g := (mkF m 30 #[.val (.int p1), .val (.int p2), .val (.int p3), .val (.int ((p2 &&& (255 : Int32)).toUInt32.toUInt16.toUInt32.toInt32)), .val (.int ((p3 &&& (255 : Int32)).toUInt32.toUInt16.toUInt32.toInt32)), .val (.int ((((p2.toUInt32 >>> ((8 : Int32) &&& 31).toUInt32).toInt32) &&& (255 : Int32)).toUInt32.toUInt16.toUInt32.toInt32)), .unset] [])) rfl (hb hby d17_30) (by decide) (by decide)
    obtain ⟨b2, g2⟩ : ∃ z, z = h0.size := ⟨_, rfl⟩
    rw [← g2] at A2 D2 st2
    have sz_b2 : h0.size ≤ b2 := Nat.le_trans K0.1 (Nat.le_of_eq g2.symm)
    have g_b2 : n0 ≤ b2 := Nat.le_trans Z0 sz_b2
    have Hc3 := CHv.ext E2 hC0
    have K3 := K0.ext E2
    have O3 := O0.ext E2
    have hk4 := Nat.le_trans hk0 E2.1
    have F2_23 : Fld Z h2 b2 cn0 "value" "[B" .null := D2 (Or.inr (w23 hw)) (ty := (.array .byte)) (by decide)
    have F2_25 : Fld Z h2 b2 cn0 "coder" "B" (.int (0 : Int32)) := D2 (Or.inr (w25 hw)) (ty := .byte) (by decide)
    refine Gets.of st2 ?_
    show Gets p e below _ (T2.setTop (mkF m 33 #[.val (.int p1), .val (.int p2), .val (.int p3), .val (.int ((p2 &&& (255 : Int32)).toUInt32.toUInt16.toUInt32.toInt32)), .val (.int ((p3 &&& (255 : Int32)).toUInt32.toUInt16.toUInt32.toInt32)), .val (.int ((((p2.toUInt32 >>> ((8 : Int32) &&& 31).toUInt32).toInt32) &&& (255 : Int32)).toUInt32.toUInt16.toUInt32.toInt32)), .unset] [(.ref b2)]))
    refine Gets.of (fun t k => XS.dup X2.here hx rfl (hb hby d17_33) rfl rfl k) ?_
    refine Gets.of (fun t k => XS.iconst X2.here hx rfl (hb hby d17_34) k) ?_
    obtain ⟨T5, h5, k5, X5, e5, E5, A5, Ex5, st5⟩ := newPE X2 hx hZ (aty := .char) (w115 hw) e2 (g := (mkF m 35 #[.val (.int p1), .val (.int p2), .val (.int p3), .val (.int ((p2 &&& (255 : Int32)).toUInt32.toUInt16.toUInt32.toInt32)), .val (.int ((p3 &&& (255 : Int32)).toUInt32.toUInt16.toUInt32.toInt32)), .val (.int ((((p2.toUInt32 >>> ((8 : Int32) &&& 31).toUInt32).toInt32) &&& (255 : Int32)).toUInt32.toUInt16.toUInt32.toInt32)), .unset] [(.int (0 : Int32)), (.ref b2), (.ref b2)])) rfl (hb hby d17_35) rfl (by decide) (cap := 0) (by decide) (by decide) (by decide) (by decide) (ad := "[C") rfl
    obtain ⟨b5, g5⟩ : ∃ z, z = h2.size := ⟨_, rfl⟩
    rw [← g5] at A5 Ex5 st5
    have sz_b5 : h0.size ≤ b5 := Nat.le_trans K3.1 (Nat.le_of_eq g5.symm)
    have g_b5 : n0 ≤ b5 := Nat.le_trans Z0 sz_b5
    have Hc6 := CHv.ext E5 Hc3
    have K6 := K3.ext E5
    have O6 := O3.ext E5
    have hk7 := Nat.le_trans hk4 E5.1
    have V5 : Arv Z h5 b5 k5 .char (0 : Int32) [] (.int (0 : Int32)) := Arv.new A5 (by decide)
    refine Gets.of st5 ?_
    show Gets p e below _ (T5.setTop (mkF m 37 #[.val (.int p1), .val (.int p2), .val (.int p3), .val (.int ((p2 &&& (255 : Int32)).toUInt32.toUInt16.toUInt32.toInt32)), .val (.int ((p3 &&& (255 : Int32)).toUInt32.toUInt16.toUInt32.toInt32)), .val (.int ((((p2.toUInt32 >>> ((8 : Int32) &&& 31).toUInt32).toInt32) &&& (255 : Int32)).toUInt32.toUInt16.toUInt32.toInt32)), .unset] [(.ref b5), (.ref b2), (.ref b2)]))
    have f8 : Fld Z h5 b2 cn0 "value" "[B" .null := (F2_23.ext E5)
    have f9 : Exa Z h5 b2 cn0 := (A2.ext E5)
    have f10 : Fld Z h5 b2 cn0 "coder" "B" (.int (0 : Int32)) := (F2_25.ext E5)
    obtain ⟨_, _, ⟨T11, L11, k11, n11⟩, -, Xw11, hSw11, hgw11, ⟨Lc11, hQ11, l11, y11, z11⟩, st11⟩ := X5.specialBackS hx (y := (⟨cn0, "<init>", "([C)V"⟩ : MethodName)) rfl hown (mvT hZ (w117 hw)) (mvT hZ (w118 hw)) (mvT hZ (w119 hw)) (by decide) (own_backC (W := 1) (r1_init l Z a0 hw [] b2 b5 k5 h5 n0 O6 V5 f8 f9 f10 g_b2) hZ (w119 hw) (w2 hw) (by decide) (by decide) (own_EW hw) Hc6) (g := (mkF m 37 #[.val (.int p1), .val (.int p2), .val (.int p3), .val (.int ((p2 &&& (255 : Int32)).toUInt32.toUInt16.toUInt32.toInt32)), .val (.int ((p3 &&& (255 : Int32)).toUInt32.toUInt16.toUInt32.toInt32)), .val (.int ((((p2.toUInt32 >>> ((8 : Int32) &&& 31).toUInt32).toInt32) &&& (255 : Int32)).toUInt32.toUInt16.toUInt32.toInt32)), .unset] [(.ref b5), (.ref b2), (.ref b2)])) rfl (by rw [hml]; rfl) (Steps.refl _) (a := b2) (argsL := [(.ref b5)]) (rest := [(.ref b2)]) (lenOf pd__C_V rfl) rfl (by show 2 * 0 + _ ≤ _; exact Nat.le_of_eq rfl) (hb hby d17_37) (fun _ _ => ⟨rfl, e5, (by decide : 2 + 2 ≤ _), (by decide : 4 + 4 ≤ _)⟩)
    dsimp only [Pt.U, Pt.locs, Pt.cells, Pt.slots] at Xw11 hSw11 hgw11 l11 y11 z11 st11 hQ11
    subst l11 y11 z11
    obtain ⟨X11, hS11, hZ11, hown11⟩ := rebS hS0 (by rw [e5]; exact hk7) Xw11 hSw11 hgw11 hZ hown
    obtain ⟨Nq11, Kq11, hR11⟩ := hQ11
    have N11 := Fr.app N0 Nq11
    have K12 : Keep h0 _ [] := K6.trans Kq11 (allS (Or.inr sz_b2) all0)
    have O12 := O6.keep Kq11 (allS g_b2 all0)
    have hk13 := Nat.le_trans hk7 Kq11.1
    obtain ⟨b2_2_11, rfl, bf11_0, bf11_1⟩ := hR11
    refine Gets.tr st11 ?_
    show Gets p e below _ (T11.setTop (mkF m 40 #[.val (.int p1), .val (.int p2), .val (.int p3), .val (.int ((p2 &&& (255 : Int32)).toUInt32.toUInt16.toUInt32.toInt32)), .val (.int ((p3 &&& (255 : Int32)).toUInt32.toUInt16.toUInt32.toInt32)), .val (.int ((((p2.toUInt32 >>> ((8 : Int32) &&& 31).toUInt32).toInt32) &&& (255 : Int32)).toUInt32.toUInt16.toUInt32.toInt32)), .unset] [(.ref b2)]))
    refine GetsW.retA X11 hx Bd.returns rfl rfl (hb hby d17_40) hS11 (Nat.le_refl T11.heap.size) ?_ (by decide) (by decide)
    have f78 : Exa Z T11.heap b2 cn0 := (f9.keep Kq11)
    exact ⟨N11, K12, ⟨b2, rfl, sz_b2, f78⟩⟩
  · skip
    refine Gets.of (fun t k => XS.ifYes X0.here hx rfl (pc0 := 27) (pc' := 41) rfl (hb hby d17_27) rfl ((if0 _ _).trans (feq hc1).2) (by decide) (by decide) k) ?_
    show Gets p e below _ (s₁.setTop (mkF m 41 #[.val (.int p1), .val (.int p2), .val (.int p3), .val (.int ((p2 &&& (255 : Int32)).toUInt32.toUInt16.toUInt32.toInt32)), .val (.int ((p3 &&& (255 : Int32)).toUInt32.toUInt16.toUInt32.toInt32)), .val (.int ((((p2.toUInt32 >>> ((8 : Int32) &&& 31).toUInt32).toInt32) &&& (255 : Int32)).toUInt32.toUInt16.toUInt32.toInt32)), .unset] []))
    refine Gets.of (fun t k => XS.iloadN X0.here hx rfl (hb hby d17_41) rfl  k) ?_
    refine Gets.of (fun t k => XS.iconst X0.here hx rfl (hb hby d17_42) k) ?_
    by_cases hc14 : p1 = (1 : Int32)
    · skip
      refine Gets.of (fun t k => XS.icmpNo X0.here hx rfl (hb hby d17_43) rfl (teq hc14).2 k) ?_
      show Gets p e below _ (s₁.setTop (mkF m 46 #[.val (.int p1), .val (.int p2), .val (.int p3), .val (.int ((p2 &&& (255 : Int32)).toUInt32.toUInt16.toUInt32.toInt32)), .val (.int ((p3 &&& (255 : Int32)).toUInt32.toUInt16.toUInt32.toInt32)), .val (.int ((((p2.toUInt32 >>> ((8 : Int32) &&& 31).toUInt32).toInt32) &&& (255 : Int32)).toUInt32.toUInt16.toUInt32.toInt32)), .unset] []))
      refine Gets.of (fun t k => XS.iconst X0.here hx rfl (hb hby d17_46) k) ?_
      obtain ⟨T15, h15, k15, X15, e15, E15, A15, Ex15, st15⟩ := newPE X0 hx hZ (aty := .char) (w115 hw) e0 (g := (mkF m 47 #[.val (.int p1), .val (.int p2), .val (.int p3), .val (.int ((p2 &&& (255 : Int32)).toUInt32.toUInt16.toUInt32.toInt32)), .val (.int ((p3 &&& (255 : Int32)).toUInt32.toUInt16.toUInt32.toInt32)), .val (.int ((((p2.toUInt32 >>> ((8 : Int32) &&& 31).toUInt32).toInt32) &&& (255 : Int32)).toUInt32.toUInt16.toUInt32.toInt32)), .unset] [(.int (1 : Int32))])) rfl (hb hby d17_47) rfl (by decide) (cap := 1) (by decide) (by decide) (by decide) (by decide) (ad := "[C") rfl
      obtain ⟨b15, g15⟩ : ∃ z, z = h0.size := ⟨_, rfl⟩
      rw [← g15] at A15 Ex15 st15
      have sz_b15 : h0.size ≤ b15 := Nat.le_trans K0.1 (Nat.le_of_eq g15.symm)
      have g_b15 : n0 ≤ b15 := Nat.le_trans Z0 sz_b15
      have Hc16 := CHv.ext E15 hC0
      have K16 := K0.ext E15
      have O16 := O0.ext E15
      have hk17 := Nat.le_trans hk0 E15.1
      have V15 : Arv Z h15 b15 k15 .char (1 : Int32) [(.int (0 : Int32))] (.int (0 : Int32)) := (Arv.new A15 (by decide)).pad (pad_rep [] (.int (0 : Int32)) 1)
      refine Gets.of st15 ?_
      show Gets p e below _ (T15.setTop (mkF m 49 #[.val (.int p1), .val (.int p2), .val (.int p3), .val (.int ((p2 &&& (255 : Int32)).toUInt32.toUInt16.toUInt32.toInt32)), .val (.int ((p3 &&& (255 : Int32)).toUInt32.toUInt16.toUInt32.toInt32)), .val (.int ((((p2.toUInt32 >>> ((8 : Int32) &&& 31).toUInt32).toInt32) &&& (255 : Int32)).toUInt32.toUInt16.toUInt32.toInt32)), .unset] [(.ref b15)]))
      refine Gets.of (fun t k => XS.astore X15.here hx rfl (hb hby d17_49) rfl rfl (l' := #[.val (.int p1), .val (.int p2), .val (.int p3), .val (.int ((p2 &&& (255 : Int32)).toUInt32.toUInt16.toUInt32.toInt32)), .val (.int ((p3 &&& (255 : Int32)).toUInt32.toUInt16.toUInt32.toInt32)), .val (.int ((((p2.toUInt32 >>> ((8 : Int32) &&& 31).toUInt32).toInt32) &&& (255 : Int32)).toUInt32.toUInt16.toUInt32.toInt32)), .val (.ref b15)]) rfl k) ?_
      show Gets p e below _ (T15.setTop (mkF m 51 #[.val (.int p1), .val (.int p2), .val (.int p3), .val (.int ((p2 &&& (255 : Int32)).toUInt32.toUInt16.toUInt32.toInt32)), .val (.int ((p3 &&& (255 : Int32)).toUInt32.toUInt16.toUInt32.toInt32)), .val (.int ((((p2.toUInt32 >>> ((8 : Int32) &&& 31).toUInt32).toInt32) &&& (255 : Int32)).toUInt32.toUInt16.toUInt32.toInt32)), .val (.ref b15)] []))
      refine Gets.of (fun t k => XS.aload X15.here hx rfl (hb hby d17_51) rfl rfl  k) ?_
      refine Gets.of (fun t k => XS.iconst X15.here hx rfl (hb hby d17_53) k) ?_
      refine Gets.of (fun t k => XS.iloadN X15.here hx rfl (hb hby d17_54) rfl  k) ?_
      obtain ⟨cl18, Ar18, q18, S18, N_18, H18, G18⟩ := id (V15)
      have hin18 : ¬ ((0 : Int32) < 0 ∨ cl18.slots.size ≤ ((0 : Int32)).toNatClampNeg) := inb_of S18 ⟨by decide, by decide⟩
      obtain ⟨T19, h19, X19, e19, W19, st19⟩ := stC X15 hx hZ e15 Ar18 (j := (0 : Int32)) hin18 (g := (mkF m 55 #[.val (.int p1), .val (.int p2), .val (.int p3), .val (.int ((p2 &&& (255 : Int32)).toUInt32.toUInt16.toUInt32.toInt32)), .val (.int ((p3 &&& (255 : Int32)).toUInt32.toUInt16.toUInt32.toInt32)), .val (.int ((((p2.toUInt32 >>> ((8 : Int32) &&& 31).toUInt32).toInt32) &&& (255 : Int32)).toUInt32.toUInt16.toUInt32.toInt32)), .val (.ref b15)] [(.int ((p2 &&& (255 : Int32)).toUInt32.toUInt16.toUInt32.toInt32)), (.int (0 : Int32)), (.ref b15)])) rfl rfl (hb hby d17_55)
      have V19 : Arv Z h19 b15 k15 .char (1 : Int32) [(.int (nar .char ((p2 &&& (255 : Int32)).toUInt32.toUInt16.toUInt32.toInt32)))] (.int (0 : Int32)) := Arv.set Ar18 q18 S18 N_18 H18 G18 (fits_nar_char _) W19 0 rfl (Nat.le_of_ble_eq_true rfl)
      have N19 := Fr.snoc X19 N0 g_b15
      have Hc20 := CHv.wr W19 (Safe.exa hZ.alike Ex15 (by decide) (by decide)) Hc16
      have K20 : Keep h0 _ [] := K16.wr W19 (Or.inr sz_b15)
      have O20 := O16.wr W19 g_b15
      have hk21 := Nat.le_trans hk17 (Nat.le_of_eq W19.size.symm)
      refine Gets.of st19 ?_
      show Gets p e below _ (T19.setTop (mkF m 56 #[.val (.int p1), .val (.int p2), .val (.int p3), .val (.int ((p2 &&& (255 : Int32)).toUInt32.toUInt16.toUInt32.toInt32)), .val (.int ((p3 &&& (255 : Int32)).toUInt32.toUInt16.toUInt32.toInt32)), .val (.int ((((p2.toUInt32 >>> ((8 : Int32) &&& 31).toUInt32).toInt32) &&& (255 : Int32)).toUInt32.toUInt16.toUInt32.toInt32)), .val (.ref b15)] []))
      obtain ⟨T22, h22, X22, e22, E22, A22, D22, -, st22⟩ := newO X19 hx hZ hown (w116 hw) (w10 hw) (w2 hw) e19 (g := (mkF m 56 #[.val (.int p1), .val (.int p2), .val (.int p3), .val (.int ((p2 &&& (255 : Int32)).toUInt32.toUInt16.toUInt32.toInt32)), .val (.int ((p3 &&& (255 : Int32)).toUInt32.toUInt16.toUInt32.toInt32)), .val (.int ((((p2.toUInt32 >>> ((8 : Int32) &&& 31).toUInt32).toInt32) &&& (255 : Int32)).toUInt32.toUInt16.toUInt32.toInt32)), .val (.ref b15)] [])) rfl (hb hby d17_56) (by decide) (by decide)
      obtain ⟨b22, g22⟩ : ∃ z, z = h19.size := ⟨_, rfl⟩
      rw [← g22] at A22 D22 st22
      have up23 := (Nat.le_of_eq W19.size.symm)
      have sz_b22 : h0.size ≤ b22 := Nat.le_trans K20.1 (Nat.le_of_eq g22.symm)
      have g_b22 : n0 ≤ b22 := Nat.le_trans Z0 sz_b22
      have Hc24 := CHv.ext E22 Hc20
      have K24 := K20.ext E22
      have O24 := O20.ext E22
      have hk25 := Nat.le_trans hk21 E22.1
      have F22_23 : Fld Z h22 b22 cn0 "value" "[B" .null := D22 (Or.inr (w23 hw)) (ty := (.array .byte)) (by decide)
      have F22_25 : Fld Z h22 b22 cn0 "coder" "B" (.int (0 : Int32)) := D22 (Or.inr (w25 hw)) (ty := .byte) (by decide)
      refine Gets.of st22 ?_
      show Gets p e below _ (T22.setTop (mkF m 59 #[.val (.int p1), .val (.int p2), .val (.int p3), .val (.int ((p2 &&& (255 : Int32)).toUInt32.toUInt16.toUInt32.toInt32)), .val (.int ((p3 &&& (255 : Int32)).toUInt32.toUInt16.toUInt32.toInt32)), .val (.int ((((p2.toUInt32 >>> ((8 : Int32) &&& 31).toUInt32).toInt32) &&& (255 : Int32)).toUInt32.toUInt16.toUInt32.toInt32)), .val (.ref b15)] [(.ref b22)]))
      refine Gets.of (fun t k => XS.dup X22.here hx rfl (hb hby d17_59) rfl rfl k) ?_
      refine Gets.of (fun t k => XS.aload X22.here hx rfl (hb hby d17_60) rfl rfl  k) ?_
      have f26 : Arv Z h22 b15 k15 .char (1 : Int32) [(.int (nar .char ((p2 &&& (255 : Int32)).toUInt32.toUInt16.toUInt32.toInt32)))] (.int (0 : Int32)) := (V19.ext E22)
      obtain ⟨_, _, ⟨T27, L27, k27, n27⟩, -, Xw27, hSw27, hgw27, ⟨Lc27, hQ27, l27, y27, z27⟩, st27⟩ := X22.specialBackS hx (y := (⟨cn0, "<init>", "([C)V"⟩ : MethodName)) rfl hown (mvT hZ (w117 hw)) (mvT hZ (w118 hw)) (mvT hZ (w119 hw)) (by decide) (own_backC (W := 1) (r3_init l Z a0 hw [] b22 b15 k15 (nar .char ((p2 &&& (255 : Int32)).toUInt32.toUInt16.toUInt32.toInt32)) oi1 h22 n0 O24 f26 A22 F22_25 F22_23 oS3 g_b22 oh4 (own_nar255 _)) hZ (w119 hw) (w2 hw) (by decide) (by decide) (own_EW hw) Hc24) (g := (mkF m 62 #[.val (.int p1), .val (.int p2), .val (.int p3), .val (.int ((p2 &&& (255 : Int32)).toUInt32.toUInt16.toUInt32.toInt32)), .val (.int ((p3 &&& (255 : Int32)).toUInt32.toUInt16.toUInt32.toInt32)), .val (.int ((((p2.toUInt32 >>> ((8 : Int32) &&& 31).toUInt32).toInt32) &&& (255 : Int32)).toUInt32.toUInt16.toUInt32.toInt32)), .val (.ref b15)] [(.ref b15), (.ref b22), (.ref b22)])) rfl (by rw [hml]; rfl) (Steps.refl _) (a := b22) (argsL := [(.ref b15)]) (rest := [(.ref b22)]) (lenOf pd__C_V rfl) rfl (by show 2 * 0 + _ ≤ _; exact Nat.le_of_eq rfl) (hb hby d17_62) (fun _ _ => ⟨rfl, e22, (by decide : 2 + 1 ≤ _), (by decide : 5 + 1 ≤ _)⟩)
      dsimp only [Pt.U, Pt.locs, Pt.cells, Pt.slots] at Xw27 hSw27 hgw27 l27 y27 z27 st27 hQ27
      subst l27 y27 z27
      obtain ⟨X27, hS27, hZ27, hown27⟩ := rebS hS0 (by rw [e22]; exact hk25) Xw27 hSw27 hgw27 hZ hown
      obtain ⟨Nq27, Kq27, hR27⟩ := hQ27
      have N27 := Fr.app N19 Nq27
      have K28 : Keep h0 _ [] := K24.trans Kq27 (allS (Or.inr sz_b22) all0)
      have O28 := O24.keep Kq27 (allS g_b22 all0)
      have hk29 := Nat.le_trans hk25 Kq27.1
      obtain ⟨b1_3_2_27, k1_3_2_27, rfl, bz27_0, bf27_0, bf27_1, bf27_2, bf27_3⟩ := hR27
      have sz_b1_3_2_27 : h0.size ≤ b1_3_2_27 := Nat.le_trans K24.1 bz27_0
      have g_b1_3_2_27 : n0 ≤ b1_3_2_27 := Nat.le_trans Z0 sz_b1_3_2_27
      refine Gets.tr st27 ?_
      show Gets p e below _ (T27.setTop (mkF m 65 #[.val (.int p1), .val (.int p2), .val (.int p3), .val (.int ((p2 &&& (255 : Int32)).toUInt32.toUInt16.toUInt32.toInt32)), .val (.int ((p3 &&& (255 : Int32)).toUInt32.toUInt16.toUInt32.toInt32)), .val (.int ((((p2.toUInt32 >>> ((8 : Int32) &&& 31).toUInt32).toInt32) &&& (255 : Int32)).toUInt32.toUInt16.toUInt32.toInt32)), .val (.ref b15)] [(.ref b22)]))
      refine GetsW.retA X27 hx Bd.returns rfl rfl (hb hby d17_65) hS27 (Nat.le_refl T27.heap.size) ?_ (by decide) (by decide)
      have f79 : Exa Z T27.heap b22 cn0 := (A22.keep Kq27)
      exact ⟨N27, K28, ⟨b22, rfl, sz_b22, f79⟩⟩
    · skip
      refine Gets.of (fun t k => XS.icmpYes X0.here hx rfl (pc0 := 43) (pc' := 66) rfl (hb hby d17_43) rfl (feq hc14).2 (by decide) (by decide) k) ?_
      show Gets p e below _ (s₁.setTop (mkF m 66 #[.val (.int p1), .val (.int p2), .val (.int p3), .val (.int ((p2 &&& (255 : Int32)).toUInt32.toUInt16.toUInt32.toInt32)), .val (.int ((p3 &&& (255 : Int32)).toUInt32.toUInt16.toUInt32.toInt32)), .val (.int ((((p2.toUInt32 >>> ((8 : Int32) &&& 31).toUInt32).toInt32) &&& (255 : Int32)).toUInt32.toUInt16.toUInt32.toInt32)), .unset] []))
      refine Gets.of (fun t k => XS.iloadN X0.here hx rfl (hb hby d17_66) rfl  k) ?_
      refine Gets.of (fun t k => XS.iconst X0.here hx rfl (hb hby d17_67) k) ?_
      by_cases hc30 : p1 = (2 : Int32)
      · skip
        refine Gets.of (fun t k => XS.icmpNo X0.here hx rfl (hb hby d17_68) rfl (teq hc30).2 k) ?_
        show Gets p e below _ (s₁.setTop (mkF m 71 #[.val (.int p1), .val (.int p2), .val (.int p3), .val (.int ((p2 &&& (255 : Int32)).toUInt32.toUInt16.toUInt32.toInt32)), .val (.int ((p3 &&& (255 : Int32)).toUInt32.toUInt16.toUInt32.toInt32)), .val (.int ((((p2.toUInt32 >>> ((8 : Int32) &&& 31).toUInt32).toInt32) &&& (255 : Int32)).toUInt32.toUInt16.toUInt32.toInt32)), .unset] []))
        refine Gets.of (fun t k => XS.iconst X0.here hx rfl (hb hby d17_71) k) ?_
        obtain ⟨T31, h31, k31, X31, e31, E31, A31, Ex31, st31⟩ := newPE X0 hx hZ (aty := .char) (w115 hw) e0 (g := (mkF m 72 #[.val (.int p1), .val (.int p2), .val (.int p3), .val (.int ((p2 &&& (255 : Int32)).toUInt32.toUInt16.toUInt32.toInt32)), .val (.int ((p3 &&& (255 : Int32)).toUInt32.toUInt16.toUInt32.toInt32)), .val (.int ((((p2.toUInt32 >>> ((8 : Int32) &&& 31).toUInt32).toInt32) &&& (255 : Int32)).toUInt32.toUInt16.toUInt32.toInt32)), .unset] [(.int (2 : Int32))])) rfl (hb hby d17_72) rfl (by decide) (cap := 2) (by decide) (by decide) (by decide) (by decide) (ad := "[C") rfl
        obtain ⟨b31, g31⟩ : ∃ z, z = h0.size := ⟨_, rfl⟩
        rw [← g31] at A31 Ex31 st31
        have sz_b31 : h0.size ≤ b31 := Nat.le_trans K0.1 (Nat.le_of_eq g31.symm)
        have g_b31 : n0 ≤ b31 := Nat.le_trans Z0 sz_b31
        have Hc32 := CHv.ext E31 hC0
        have K32 := K0.ext E31
        have O32 := O0.ext E31
        have hk33 := Nat.le_trans hk0 E31.1
        have V31 : Arv Z h31 b31 k31 .char (2 : Int32) [(.int (0 : Int32)), (.int (0 : Int32))] (.int (0 : Int32)) := (Arv.new A31 (by decide)).pad (pad_rep [] (.int (0 : Int32)) 2)
        refine Gets.of st31 ?_
        show Gets p e below _ (T31.setTop (mkF m 74 #[.val (.int p1), .val (.int p2), .val (.int p3), .val (.int ((p2 &&& (255 : Int32)).toUInt32.toUInt16.toUInt32.toInt32)), .val (.int ((p3 &&& (255 : Int32)).toUInt32.toUInt16.toUInt32.toInt32)), .val (.int ((((p2.toUInt32 >>> ((8 : Int32) &&& 31).toUInt32).toInt32) &&& (255 : Int32)).toUInt32.toUInt16.toUInt32.toInt32)), .unset] [(.ref b31)]))
        refine Gets.of (fun t k => XS.astore X31.here hx rfl (hb hby d17_74) rfl rfl (l' := #[.val (.int p1), .val (.int p2), .val (.int p3), .val (.int ((p2 &&& (255 : Int32)).toUInt32.toUInt16.toUInt32.toInt32)), .val (.int ((p3 &&& (255 : Int32)).toUInt32.toUInt16.toUInt32.toInt32)), .val (.int ((((p2.toUInt32 >>> ((8 : Int32) &&& 31).toUInt32).toInt32) &&& (255 : Int32)).toUInt32.toUInt16.toUInt32.toInt32)), .val (.ref b31)]) rfl k) ?_
        show Gets p e below _ (T31.setTop (mkF m 76 #[.val (.int p1), .val (.int p2), .val (.int p3), .val (.int ((p2 &&& (255 : Int32)).toUInt32.toUInt16.toUInt32.toInt32)), .val (.int ((p3 &&& (255 : Int32)).toUInt32.toUInt16.toUInt32.toInt32)), .val (.int ((((p2.toUInt32 >>> ((8 : Int32) &&& 31).toUInt32).toInt32) &&& (255 : Int32)).toUInt32.toUInt16.toUInt32.toInt32)), .val (.ref b31)] []))
        refine Gets.of (fun t k => XS.aload X31.here hx rfl (hb hby d17_76) rfl rfl  k) ?_
        refine Gets.of (fun t k => XS.iconst X31.here hx rfl (hb hby d17_78) k) ?_
        refine Gets.of (fun t k => XS.iloadN X31.here hx rfl (hb hby d17_79) rfl  k) ?_
        obtain ⟨cl34, Ar34, q34, S34, N_34, H34, G34⟩ := id (V31)
        have hin34 : ¬ ((0 : Int32) < 0 ∨ cl34.slots.size ≤ ((0 : Int32)).toNatClampNeg) := inb_of S34 ⟨by decide, by decide⟩
        obtain ⟨T35, h35, X35, e35, W35, st35⟩ := stC X31 hx hZ e31 Ar34 (j := (0 : Int32)) hin34 (g := (mkF m 80 #[.val (.int p1), .val (.int p2), .val (.int p3), .val (.int ((p2 &&& (255 : Int32)).toUInt32.toUInt16.toUInt32.toInt32)), .val (.int ((p3 &&& (255 : Int32)).toUInt32.toUInt16.toUInt32.toInt32)), .val (.int ((((p2.toUInt32 >>> ((8 : Int32) &&& 31).toUInt32).toInt32) &&& (255 : Int32)).toUInt32.toUInt16.toUInt32.toInt32)), .val (.ref b31)] [(.int ((p2 &&& (255 : Int32)).toUInt32.toUInt16.toUInt32.toInt32)), (.int (0 : Int32)), (.ref b31)])) rfl rfl (hb hby d17_80)
        have V35 : Arv Z h35 b31 k31 .char (2 : Int32) [(.int (nar .char ((p2 &&& (255 : Int32)).toUInt32.toUInt16.toUInt32.toInt32))), (.int (0 : Int32))] (.int (0 : Int32)) := Arv.set Ar34 q34 S34 N_34 H34 G34 (fits_nar_char _) W35 0 rfl (Nat.le_of_ble_eq_true rfl)
        have N35 := Fr.snoc X35 N0 g_b31
        have Hc36 := CHv.wr W35 (Safe.exa hZ.alike Ex31 (by decide) (by decide)) Hc32
        have K36 : Keep h0 _ [] := K32.wr W35 (Or.inr sz_b31)
        have O36 := O32.wr W35 g_b31
        have hk37 := Nat.le_trans hk33 (Nat.le_of_eq W35.size.symm)
        refine Gets.of st35 ?_
        show Gets p e below _ (T35.setTop (mkF m 81 #[.val (.int p1), .val (.int p2), .val (.int p3), .val (.int ((p2 &&& (255 : Int32)).toUInt32.toUInt16.toUInt32.toInt32)), .val (.int ((p3 &&& (255 : Int32)).toUInt32.toUInt16.toUInt32.toInt32)), .val (.int ((((p2.toUInt32 >>> ((8 : Int32) &&& 31).toUInt32).toInt32) &&& (255 : Int32)).toUInt32.toUInt16.toUInt32.toInt32)), .val (.ref b31)] []))
        refine Gets.of (fun t k => XS.aload X35.here hx rfl (hb hby d17_81) rfl rfl  k) ?_
        refine Gets.of (fun t k => XS.iconst X35.here hx rfl (hb hby d17_83) k) ?_
        refine Gets.of (fun t k => XS.iload X35.here hx rfl (hb hby d17_84) rfl  k) ?_
        obtain ⟨cl38, Ar38, q38, S38, N_38, H38, G38⟩ := id (V35)
        have hin38 : ¬ ((1 : Int32) < 0 ∨ cl38.slots.size ≤ ((1 : Int32)).toNatClampNeg) := inb_of S38 ⟨by decide, by decide⟩
        obtain ⟨T39, h39, X39, e39, W39, st39⟩ := stC X35 hx hZ e35 Ar38 (j := (1 : Int32)) hin38 (g := (mkF m 86 #[.val (.int p1), .val (.int p2), .val (.int p3), .val (.int ((p2 &&& (255 : Int32)).toUInt32.toUInt16.toUInt32.toInt32)), .val (.int ((p3 &&& (255 : Int32)).toUInt32.toUInt16.toUInt32.toInt32)), .val (.int ((((p2.toUInt32 >>> ((8 : Int32) &&& 31).toUInt32).toInt32) &&& (255 : Int32)).toUInt32.toUInt16.toUInt32.toInt32)), .val (.ref b31)] [(.int ((p3 &&& (255 : Int32)).toUInt32.toUInt16.toUInt32.toInt32)), (.int (1 : Int32)), (.ref b31)])) rfl rfl (hb hby d17_86)
        have V39 : Arv Z h39 b31 k31 .char (2 : Int32) [(.int (nar .char ((p2 &&& (255 : Int32)).toUInt32.toUInt16.toUInt32.toInt32))), (.int (nar .char ((p3 &&& (255 : Int32)).toUInt32.toUInt16.toUInt32.toInt32)))] (.int (0 : Int32)) := Arv.set Ar38 q38 S38 N_38 H38 G38 (fits_nar_char _) W39 1 rfl (Nat.le_of_ble_eq_true rfl)
        have N39 := Fr.snoc X39 N35 g_b31
        have f41 : Exa Z h35 b31 "[C" := (Ex31.wr W35)
        have Hc40 := CHv.wr W39 (Safe.exa hZ.alike f41 (by decide) (by decide)) Hc36
        have K40 : Keep h0 _ [] := K36.wr W39 (Or.inr sz_b31)
        have O40 := O36.wr W39 g_b31
        have hk42 := Nat.le_trans hk37 (Nat.le_of_eq W39.size.symm)
        refine Gets.of st39 ?_
        show Gets p e below _ (T39.setTop (mkF m 87 #[.val (.int p1), .val (.int p2), .val (.int p3), .val (.int ((p2 &&& (255 : Int32)).toUInt32.toUInt16.toUInt32.toInt32)), .val (.int ((p3 &&& (255 : Int32)).toUInt32.toUInt16.toUInt32.toInt32)), .val (.int ((((p2.toUInt32 >>> ((8 : Int32) &&& 31).toUInt32).toInt32) &&& (255 : Int32)).toUInt32.toUInt16.toUInt32.toInt32)), .val (.ref b31)] []))
        obtain ⟨T43, h43, X43, e43, E43, A43, D43, -, st43⟩ := newO X39 hx hZ hown (w116 hw) (w10 hw) (w2 hw) e39 (g := (mkF m 87 #[.val (.int p1), .val (.int p2), .val (.int p3), .val (.int ((p2 &&& (255 : Int32)).toUInt32.toUInt16.toUInt32.toInt32)), .val (.int ((p3 &&& (255 : Int32)).toUInt32.toUInt16.toUInt32.toInt32)), .val (.int ((((p2.toUInt32 >>> ((8 : Int32) &&& 31).toUInt32).toInt32) &&& (255 : Int32)).toUInt32.toUInt16.toUInt32.toInt32)), .val (.ref b31)] [])) rfl (hb hby d17_87) (by decide) (by decide)
        obtain ⟨b43, g43⟩ : ∃ z, z = h39.size := ⟨_, rfl⟩
        rw [← g43] at A43 D43 st43
        have up44 := (Nat.le_trans (Nat.le_of_eq W35.size.symm) (Nat.le_of_eq W39.size.symm))
        have sz_b43 : h0.size ≤ b43 := Nat.le_trans K40.1 (Nat.le_of_eq g43.symm)
        have g_b43 : n0 ≤ b43 := Nat.le_trans Z0 sz_b43
        have Hc45 := CHv.ext E43 Hc40
        have K45 := K40.ext E43
        have O45 := O40.ext E43
        have hk46 := Nat.le_trans hk42 E43.1
        have F43_23 : Fld Z h43 b43 cn0 "value" "[B" .null := D43 (Or.inr (w23 hw)) (ty := (.array .byte)) (by decide)
        have F43_25 : Fld Z h43 b43 cn0 "coder" "B" (.int (0 : Int32)) := D43 (Or.inr (w25 hw)) (ty := .byte) (by decide)
        refine Gets.of st43 ?_
        show Gets p e below _ (T43.setTop (mkF m 90 #[.val (.int p1), .val (.int p2), .val (.int p3), .val (.int ((p2 &&& (255 : Int32)).toUInt32.toUInt16.toUInt32.toInt32)), .val (.int ((p3 &&& (255 : Int32)).toUInt32.toUInt16.toUInt32.toInt32)), .val (.int ((((p2.toUInt32 >>> ((8 : Int32) &&& 31).toUInt32).toInt32) &&& (255 : Int32)).toUInt32.toUInt16.toUInt32.toInt32)), .val (.ref b31)] [(.ref b43)]))
        refine Gets.of (fun t k => XS.dup X43.here hx rfl (hb hby d17_90) rfl rfl k) ?_
        refine Gets.of (fun t k => XS.aload X43.here hx rfl (hb hby d17_91) rfl rfl  k) ?_
        have f47 : Arv Z h43 b31 k31 .char (2 : Int32) [(.int (nar .char ((p2 &&& (255 : Int32)).toUInt32.toUInt16.toUInt32.toInt32))), (.int (nar .char ((p3 &&& (255 : Int32)).toUInt32.toUInt16.toUInt32.toInt32)))] (.int (0 : Int32)) := (V39.ext E43)
        have f48 : Exa Z h43 b31 "[C" := ((f41.wr W39).ext E43)
        obtain ⟨_, _, ⟨T49, L49, k49, n49⟩, -, Xw49, hSw49, hgw49, ⟨Lc49, hQ49, l49, y49, z49⟩, st49⟩ := X43.specialBackS hx (y := (⟨cn0, "<init>", "([C)V"⟩ : MethodName)) rfl hown (mvT hZ (w117 hw)) (mvT hZ (w118 hw)) (mvT hZ (w119 hw)) (by decide) (own_backC (W := 1) (r8_init l Z a0 hw [] b43 b31 k31 (nar .char ((p2 &&& (255 : Int32)).toUInt32.toUInt16.toUInt32.toInt32)) (nar .char ((p3 &&& (255 : Int32)).toUInt32.toUInt16.toUInt32.toInt32)) oi1 h43 n0 O45 f47 f48 A43 F43_25 F43_23 oS3 g_b43 oh4 (own_nar255 _) (own_nar255 _)) hZ (w119 hw) (w2 hw) (by decide) (by decide) (own_EW hw) Hc45) (g := (mkF m 93 #[.val (.int p1), .val (.int p2), .val (.int p3), .val (.int ((p2 &&& (255 : Int32)).toUInt32.toUInt16.toUInt32.toInt32)), .val (.int ((p3 &&& (255 : Int32)).toUInt32.toUInt16.toUInt32.toInt32)), .val (.int ((((p2.toUInt32 >>> ((8 : Int32) &&& 31).toUInt32).toInt32) &&& (255 : Int32)).toUInt32.toUInt16.toUInt32.toInt32)), .val (.ref b31)] [(.ref b31), (.ref b43), (.ref b43)])) rfl (by rw [hml]; rfl) (Steps.refl _) (a := b43) (argsL := [(.ref b31)]) (rest := [(.ref b43)]) (lenOf pd__C_V rfl) rfl (by show 2 * 0 + _ ≤ _; exact Nat.le_of_eq rfl) (hb hby d17_93) (fun _ _ => ⟨rfl, e43, (by decide : 2 + 1 ≤ _), (by decide : 6 + 2 ≤ _)⟩)
        dsimp only [Pt.U, Pt.locs, Pt.cells, Pt.slots] at Xw49 hSw49 hgw49 l49 y49 z49 st49 hQ49
        subst l49 y49 z49
        obtain ⟨X49, hS49, hZ49, hown49⟩ := rebS hS0 (by rw [e43]; exact hk46) Xw49 hSw49 hgw49 hZ hown
        obtain ⟨Nq49, Kq49, hR49⟩ := hQ49
        have N49 := Fr.app N39 Nq49
        have K50 : Keep h0 _ [] := K45.trans Kq49 (allS (Or.inr sz_b43) all0)
        have O50 := O45.keep Kq49 (allS g_b43 all0)
        have hk51 := Nat.le_trans hk46 Kq49.1
        obtain ⟨b1_3_2_49, k1_3_2_49, rfl, bz49_0, bf49_0, bf49_1, bf49_2, bf49_3⟩ := hR49
        have sz_b1_3_2_49 : h0.size ≤ b1_3_2_49 := Nat.le_trans K45.1 bz49_0
        have g_b1_3_2_49 : n0 ≤ b1_3_2_49 := Nat.le_trans Z0 sz_b1_3_2_49
        refine Gets.tr st49 ?_
        show Gets p e below _ (T49.setTop (mkF m 96 #[.val (.int p1), .val (.int p2), .val (.int p3), .val (.int ((p2 &&& (255 : Int32)).toUInt32.toUInt16.toUInt32.toInt32)), .val (.int ((p3 &&& (255 : Int32)).toUInt32.toUInt16.toUInt32.toInt32)), .val (.int ((((p2.toUInt32 >>> ((8 : Int32) &&& 31).toUInt32).toInt32) &&& (255 : Int32)).toUInt32.toUInt16.toUInt32.toInt32)), .val (.ref b31)] [(.ref b43)]))
        refine GetsW.retA X49 hx Bd.returns rfl rfl (hb hby d17_96) hS49 (Nat.le_refl T49.heap.size) ?_ (by decide) (by decide)
        have f80 : Exa Z T49.heap b43 cn0 := (A43.keep Kq49)
        exact ⟨N49, K50, ⟨b43, rfl, sz_b43, f80⟩⟩
      · skip
        refine Gets.of (fun t k => XS.icmpYes X0.here hx rfl (pc0 := 68) (pc' := 97) rfl (hb hby d17_68) rfl (feq hc30).2 (by decide) (by decide) k) ?_
        show Gets p e below _ (s₁.setTop (mkF m 97 #[.val (.int p1), .val (.int p2), .val (.int p3), .val (.int ((p2 &&& (255 : Int32)).toUInt32.toUInt16.toUInt32.toInt32)), .val (.int ((p3 &&& (255 : Int32)).toUInt32.toUInt16.toUInt32.toInt32)), .val (.int ((((p2.toUInt32 >>> ((8 : Int32) &&& 31).toUInt32).toInt32) &&& (255 : Int32)).toUInt32.toUInt16.toUInt32.toInt32)), .unset] []))
        refine Gets.of (fun t k => XS.iconst X0.here hx rfl (hb hby d17_97) k) ?_
        obtain ⟨T52, h52, k52, X52, e52, E52, A52, Ex52, st52⟩ := newPE X0 hx hZ (aty := .char) (w115 hw) e0 (g := (mkF m 98 #[.val (.int p1), .val (.int p2), .val (.int p3), .val (.int ((p2 &&& (255 : Int32)).toUInt32.toUInt16.toUInt32.toInt32)), .val (.int ((p3 &&& (255 : Int32)).toUInt32.toUInt16.toUInt32.toInt32)), .val (.int ((((p2.toUInt32 >>> ((8 : Int32) &&& 31).toUInt32).toInt32) &&& (255 : Int32)).toUInt32.toUInt16.toUInt32.toInt32)), .unset] [(.int (3 : Int32))])) rfl (hb hby d17_98) rfl (by decide) (cap := 3) (by decide) (by decide) (by decide) (by decide) (ad := "[C") rfl
        obtain ⟨b52, g52⟩ : ∃ z, z = h0.size := ⟨_, rfl⟩
        rw [← g52] at A52 Ex52 st52
        have sz_b52 : h0.size ≤ b52 := Nat.le_trans K0.1 (Nat.le_of_eq g52.symm)
        have g_b52 : n0 ≤ b52 := Nat.le_trans Z0 sz_b52
        have Hc53 := CHv.ext E52 hC0
        have K53 := K0.ext E52
        have O53 := O0.ext E52
        have hk54 := Nat.le_trans hk0 E52.1
        have V52 : Arv Z h52 b52 k52 .char (3 : Int32) [(.int (0 : Int32)), (.int (0 : Int32)), (.int (0 : Int32))] (.int (0 : Int32)) := (Arv.new A52 (by decide)).pad (pad_rep [] (.int (0 : Int32)) 3)
        refine Gets.of st52 ?_
        show Gets p e below _ (T52.setTop (mkF m 100 #[.val (.int p1), .val (.int p2), .val (.int p3), .val (.int ((p2 &&& (255 : Int32)).toUInt32.toUInt16.toUInt32.toInt32)), .val (.int ((p3 &&& (255 : Int32)).toUInt32.toUInt16.toUInt32.toInt32)), .val (.int ((((p2.toUInt32 >>> ((8 : Int32) &&& 31).toUInt32).toInt32) &&& (255 : Int32)).toUInt32.toUInt16.toUInt32.toInt32)), .unset] [(.ref b52)]))
        refine Gets.of (fun t k => XS.astore X52.here hx rfl (hb hby d17_100) rfl rfl (l' := #[.val (.int p1), .val (.int p2), .val (.int p3), .val (.int ((p2 &&& (255 : Int32)).toUInt32.toUInt16.toUInt32.toInt32)), .val (.int ((p3 &&& (255 : Int32)).toUInt32.toUInt16.toUInt32.toInt32)), .val (.int ((((p2.toUInt32 >>> ((8 : Int32) &&& 31).toUInt32).toInt32) &&& (255 : Int32)).toUInt32.toUInt16.toUInt32.toInt32)), .val (.ref b52)]) rfl k) ?_
        show Gets p e below _ (T52.setTop (mkF m 102 #[.val (.int p1), .val (.int p2), .val (.int p3), .val (.int ((p2 &&& (255 : Int32)).toUInt32.toUInt16.toUInt32.toInt32)), .val (.int ((p3 &&& (255 : Int32)).toUInt32.toUInt16.toUInt32.toInt32)), .val (.int ((((p2.toUInt32 >>> ((8 : Int32) &&& 31).toUInt32).toInt32) &&& (255 : Int32)).toUInt32.toUInt16.toUInt32.toInt32)), .val (.ref b52)] []))
        refine Gets.of (fun t k => XS.aload X52.here hx rfl (hb hby d17_102) rfl rfl  k) ?_
        refine Gets.of (fun t k => XS.iconst X52.here hx rfl (hb hby d17_104) k) ?_
        refine Gets.of (fun t k => XS.iloadN X52.here hx rfl (hb hby d17_105) rfl  k) ?_
        obtain ⟨cl55, Ar55, q55, S55, N_55, H55, G55⟩ := id (V52)
        have hin55 : ¬ ((0 : Int32) < 0 ∨ cl55.slots.size ≤ ((0 : Int32)).toNatClampNeg) := inb_of S55 ⟨by decide, by decide⟩
        obtain ⟨T56, h56, X56, e56, W56, st56⟩ := stC X52 hx hZ e52 Ar55 (j := (0 : Int32)) hin55 (g := (mkF m 106 #[.val (.int p1), .val (.int p2), .val (.int p3), .val (.int ((p2 &&& (255 : Int32)).toUInt32.toUInt16.toUInt32.toInt32)), .val (.int ((p3 &&& (255 : Int32)).toUInt32.toUInt16.toUInt32.toInt32)), .val (.int ((((p2.toUInt32 >>> ((8 : Int32) &&& 31).toUInt32).toInt32) &&& (255 : Int32)).toUInt32.toUInt16.toUInt32.toInt32)), .val (.ref b52)] [(.int ((p2 &&& (255 : Int32)).toUInt32.toUInt16.toUInt32.toInt32)), (.int (0 : Int32)), (.ref b52)])) rfl rfl (hb hby d17_106)
        have V56 : Arv Z h56 b52 k52 .char (3 : Int32) [(.int (nar .char ((p2 &&& (255 : Int32)).toUInt32.toUInt16.toUInt32.toInt32))), (.int (0 : Int32)), (.int (0 : Int32))] (.int (0 : Int32)) := Arv.set Ar55 q55 S55 N_55 H55 G55 (fits_nar_char _) W56 0 rfl (Nat.le_of_ble_eq_true rfl)
        have N56 := Fr.snoc X56 N0 g_b52
        have Hc57 := CHv.wr W56 (Safe.exa hZ.alike Ex52 (by decide) (by decide)) Hc53
        have K57 : Keep h0 _ [] := K53.wr W56 (Or.inr sz_b52)
        have O57 := O53.wr W56 g_b52
        have hk58 := Nat.le_trans hk54 (Nat.le_of_eq W56.size.symm)
        refine Gets.of st56 ?_
        show Gets p e below _ (T56.setTop (mkF m 107 #[.val (.int p1), .val (.int p2), .val (.int p3), .val (.int ((p2 &&& (255 : Int32)).toUInt32.toUInt16.toUInt32.toInt32)), .val (.int ((p3 &&& (255 : Int32)).toUInt32.toUInt16.toUInt32.toInt32)), .val (.int ((((p2.toUInt32 >>> ((8 : Int32) &&& 31).toUInt32).toInt32) &&& (255 : Int32)).toUInt32.toUInt16.toUInt32.toInt32)), .val (.ref b52)] []))
        refine Gets.of (fun t k => XS.aload X56.here hx rfl (hb hby d17_107) rfl rfl  k) ?_
        refine Gets.of (fun t k => XS.iconst X56.here hx rfl (hb hby d17_109) k) ?_
        refine Gets.of (fun t k => XS.iload X56.here hx rfl (hb hby d17_110) rfl  k) ?_
        obtain ⟨cl59, Ar59, q59, S59, N_59, H59, G59⟩ := id (V56)
        have hin59 : ¬ ((1 : Int32) < 0 ∨ cl59.slots.size ≤ ((1 : Int32)).toNatClampNeg) := inb_of S59 ⟨by decide, by decide⟩
        obtain ⟨T60, h60, X60, e60, W60, st60⟩ := stC X56 hx hZ e56 Ar59 (j := (1 : Int32)) hin59 (g := (mkF m 112 #[.val (.int p1), .val (.int p2), .val (.int p3), .val (.int ((p2 &&& (255 : Int32)).toUInt32.toUInt16.toUInt32.toInt32)), .val (.int ((p3 &&& (255 : Int32)).toUInt32.toUInt16.toUInt32.toInt32)), .val (.int ((((p2.toUInt32 >>> ((8 : Int32) &&& 31).toUInt32).toInt32) &&& (255 : Int32)).toUInt32.toUInt16.toUInt32.toInt32)), .val (.ref b52)] [(.int ((p3 &&& (255 : Int32)).toUInt32.toUInt16.toUInt32.toInt32)), (.int (1 : Int32)), (.ref b52)])) rfl rfl (hb hby d17_112)
        have V60 : Arv Z h60 b52 k52 .char (3 : Int32) [(.int (nar .char ((p2 &&& (255 : Int32)).toUInt32.toUInt16.toUInt32.toInt32))), (.int (nar .char ((p3 &&& (255 : Int32)).toUInt32.toUInt16.toUInt32.toInt32))), (.int (0 : Int32))] (.int (0 : Int32)) := Arv.set Ar59 q59 S59 N_59 H59 G59 (fits_nar_char _) W60 1 rfl (Nat.le_of_ble_eq_true rfl)
        have N60 := Fr.snoc X60 N56 g_b52
        have f62 : Exa Z h56 b52 "[C" := (Ex52.wr W56)
        have Hc61 := CHv.wr W60 (Safe.exa hZ.alike f62 (by decide) (by decide)) Hc57
        have K61 : Keep h0 _ [] := K57.wr W60 (Or.inr sz_b52)
        have O61 := O57.wr W60 g_b52
        have hk63 := Nat.le_trans hk58 (Nat.le_of_eq W60.size.symm)
        refine Gets.of st60 ?_
        show Gets p e below _ (T60.setTop (mkF m 113 #[.val (.int p1), .val (.int p2), .val (.int p3), .val (.int ((p2 &&& (255 : Int32)).toUInt32.toUInt16.toUInt32.toInt32)), .val (.int ((p3 &&& (255 : Int32)).toUInt32.toUInt16.toUInt32.toInt32)), .val (.int ((((p2.toUInt32 >>> ((8 : Int32) &&& 31).toUInt32).toInt32) &&& (255 : Int32)).toUInt32.toUInt16.toUInt32.toInt32)), .val (.ref b52)] []))
        refine Gets.of (fun t k => XS.aload X60.here hx rfl (hb hby d17_113) rfl rfl  k) ?_
        refine Gets.of (fun t k => XS.iconst X60.here hx rfl (hb hby d17_115) k) ?_
        refine Gets.of (fun t k => XS.iload X60.here hx rfl (hb hby d17_116) rfl  k) ?_
        obtain ⟨cl64, Ar64, q64, S64, N_64, H64, G64⟩ := id (V60)
        have hin64 : ¬ ((2 : Int32) < 0 ∨ cl64.slots.size ≤ ((2 : Int32)).toNatClampNeg) := inb_of S64 ⟨by decide, by decide⟩
        obtain ⟨T65, h65, X65, e65, W65, st65⟩ := stC X60 hx hZ e60 Ar64 (j := (2 : Int32)) hin64 (g := (mkF m 118 #[.val (.int p1), .val (.int p2), .val (.int p3), .val (.int ((p2 &&& (255 : Int32)).toUInt32.toUInt16.toUInt32.toInt32)), .val (.int ((p3 &&& (255 : Int32)).toUInt32.toUInt16.toUInt32.toInt32)), .val (.int ((((p2.toUInt32 >>> ((8 : Int32) &&& 31).toUInt32).toInt32) &&& (255 : Int32)).toUInt32.toUInt16.toUInt32.toInt32)), .val (.ref b52)] [(.int ((((p2.toUInt32 >>> ((8 : Int32) &&& 31).toUInt32).toInt32) &&& (255 : Int32)).toUInt32.toUInt16.toUInt32.toInt32)), (.int (2 : Int32)), (.ref b52)])) rfl rfl (hb hby d17_118)
        have V65 : Arv Z h65 b52 k52 .char (3 : Int32) [(.int (nar .char ((p2 &&& (255 : Int32)).toUInt32.toUInt16.toUInt32.toInt32))), (.int (nar .char ((p3 &&& (255 : Int32)).toUInt32.toUInt16.toUInt32.toInt32))), (.int (nar .char ((((p2.toUInt32 >>> ((8 : Int32) &&& 31).toUInt32).toInt32) &&& (255 : Int32)).toUInt32.toUInt16.toUInt32.toInt32)))] (.int (0 : Int32)) := Arv.set Ar64 q64 S64 N_64 H64 G64 (fits_nar_char _) W65 2 rfl (Nat.le_of_ble_eq_true rfl)
        have N65 := Fr.snoc X65 N60 g_b52
        have f67 : Exa Z h60 b52 "[C" := (f62.wr W60)
        have Hc66 := CHv.wr W65 (Safe.exa hZ.alike f67 (by decide) (by decide)) Hc61
        have K66 : Keep h0 _ [] := K61.wr W65 (Or.inr sz_b52)
        have O66 := O61.wr W65 g_b52
        have hk68 := Nat.le_trans hk63 (Nat.le_of_eq W65.size.symm)
        refine Gets.of st65 ?_
        show Gets p e below _ (T65.setTop (mkF m 119 #[.val (.int p1), .val (.int p2), .val (.int p3), .val (.int ((p2 &&& (255 : Int32)).toUInt32.toUInt16.toUInt32.toInt32)), .val (.int ((p3 &&& (255 : Int32)).toUInt32.toUInt16.toUInt32.toInt32)), .val (.int ((((p2.toUInt32 >>> ((8 : Int32) &&& 31).toUInt32).toInt32) &&& (255 : Int32)).toUInt32.toUInt16.toUInt32.toInt32)), .val (.ref b52)] []))
        obtain ⟨T69, h69, X69, e69, E69, A69, D69, -, st69⟩ := newO X65 hx hZ hown (w116 hw) (w10 hw) (w2 hw) e65 (g := (mkF m 119 #[.val (.int p1), .val (.int p2), .val (.int p3), .val (.int ((p2 &&& (255 : Int32)).toUInt32.toUInt16.toUInt32.toInt32)), .val (.int ((p3 &&& (255 : Int32)).toUInt32.toUInt16.toUInt32.toInt32)), .val (.int ((((p2.toUInt32 >>> ((8 : Int32) &&& 31).toUInt32).toInt32) &&& (255 : Int32)).toUInt32.toUInt16.toUInt32.toInt32)), .val (.ref b52)] [])) rfl (hb hby d17_119) (by decide) (by decide)
        obtain ⟨b69, g69⟩ : ∃ z, z = h65.size := ⟨_, rfl⟩
        rw [← g69] at A69 D69 st69
        have up70 := (Nat.le_trans (Nat.le_trans (Nat.le_of_eq W56.size.symm) (Nat.le_of_eq W60.size.symm)) (Nat.le_of_eq W65.size.symm))
        have sz_b69 : h0.size ≤ b69 := Nat.le_trans K66.1 (Nat.le_of_eq g69.symm)
        have g_b69 : n0 ≤ b69 := Nat.le_trans Z0 sz_b69
        have Hc71 := CHv.ext E69 Hc66
        have K71 := K66.ext E69
        have O71 := O66.ext E69
        have hk72 := Nat.le_trans hk68 E69.1
        have F69_23 : Fld Z h69 b69 cn0 "value" "[B" .null := D69 (Or.inr (w23 hw)) (ty := (.array .byte)) (by decide)
        have F69_25 : Fld Z h69 b69 cn0 "coder" "B" (.int (0 : Int32)) := D69 (Or.inr (w25 hw)) (ty := .byte) (by decide)
        refine Gets.of st69 ?_
        show Gets p e below _ (T69.setTop (mkF m 122 #[.val (.int p1), .val (.int p2), .val (.int p3), .val (.int ((p2 &&& (255 : Int32)).toUInt32.toUInt16.toUInt32.toInt32)), .val (.int ((p3 &&& (255 : Int32)).toUInt32.toUInt16.toUInt32.toInt32)), .val (.int ((((p2.toUInt32 >>> ((8 : Int32) &&& 31).toUInt32).toInt32) &&& (255 : Int32)).toUInt32.toUInt16.toUInt32.toInt32)), .val (.ref b52)] [(.ref b69)]))
        refine Gets.of (fun t k => XS.dup X69.here hx rfl (hb hby d17_122) rfl rfl k) ?_
        refine Gets.of (fun t k => XS.aload X69.here hx rfl (hb hby d17_123) rfl rfl  k) ?_
        have f73 : Arv Z h69 b52 k52 .char (3 : Int32) [(.int (nar .char ((p2 &&& (255 : Int32)).toUInt32.toUInt16.toUInt32.toInt32))), (.int (nar .char ((p3 &&& (255 : Int32)).toUInt32.toUInt16.toUInt32.toInt32))), (.int (nar .char ((((p2.toUInt32 >>> ((8 : Int32) &&& 31).toUInt32).toInt32) &&& (255 : Int32)).toUInt32.toUInt16.toUInt32.toInt32)))] (.int (0 : Int32)) := (V65.ext E69)
        have f74 : Exa Z h69 b52 "[C" := ((f67.wr W65).ext E69)
        obtain ⟨_, _, ⟨T75, L75, k75, n75⟩, -, Xw75, hSw75, hgw75, ⟨Lc75, hQ75, l75, y75, z75⟩, st75⟩ := X69.specialBackS hx (y := (⟨cn0, "<init>", "([C)V"⟩ : MethodName)) rfl hown (mvT hZ (w117 hw)) (mvT hZ (w118 hw)) (mvT hZ (w119 hw)) (by decide) (own_backC (W := 1) (r13_init l Z a0 hw [] b69 b52 k52 (nar .char ((p2 &&& (255 : Int32)).toUInt32.toUInt16.toUInt32.toInt32)) (nar .char ((p3 &&& (255 : Int32)).toUInt32.toUInt16.toUInt32.toInt32)) (nar .char ((((p2.toUInt32 >>> ((8 : Int32) &&& 31).toUInt32).toInt32) &&& (255 : Int32)).toUInt32.toUInt16.toUInt32.toInt32)) oi1 h69 n0 O71 f73 f74 A69 F69_25 F69_23 oS3 g_b69 oh4 (own_nar255 _) (own_nar255 _) (own_nar255 _)) hZ (w119 hw) (w2 hw) (by decide) (by decide) (own_EW hw) Hc71) (g := (mkF m 125 #[.val (.int p1), .val (.int p2), .val (.int p3), .val (.int ((p2 &&& (255 : Int32)).toUInt32.toUInt16.toUInt32.toInt32)), .val (.int ((p3 &&& (255 : Int32)).toUInt32.toUInt16.toUInt32.toInt32)), .val (.int ((((p2.toUInt32 >>> ((8 : Int32) &&& 31).toUInt32).toInt32) &&& (255 : Int32)).toUInt32.toUInt16.toUInt32.toInt32)), .val (.ref b52)] [(.ref b52), (.ref b69), (.ref b69)])) rfl (by rw [hml]; rfl) (Steps.refl _) (a := b69) (argsL := [(.ref b52)]) (rest := [(.ref b69)]) (lenOf pd__C_V rfl) rfl (by show 2 * 0 + _ ≤ _; exact Nat.le_of_eq rfl) (hb hby d17_125) (fun _ _ => ⟨rfl, e69, (by decide : 2 + 1 ≤ _), (by decide : 7 + 3 ≤ _)⟩)
        dsimp only [Pt.U, Pt.locs, Pt.cells, Pt.slots] at Xw75 hSw75 hgw75 l75 y75 z75 st75 hQ75
        subst l75 y75 z75
        obtain ⟨X75, hS75, hZ75, hown75⟩ := rebS hS0 (by rw [e69]; exact hk72) Xw75 hSw75 hgw75 hZ hown
        obtain ⟨Nq75, Kq75, hR75⟩ := hQ75
        have N75 := Fr.app N65 Nq75
        have K76 : Keep h0 _ [] := K71.trans Kq75 (allS (Or.inr sz_b69) all0)
        have O76 := O71.keep Kq75 (allS g_b69 all0)
        have hk77 := Nat.le_trans hk72 Kq75.1
        obtain ⟨b1_3_2_75, k1_3_2_75, rfl, bz75_0, bf75_0, bf75_1, bf75_2, bf75_3⟩ := hR75
        have sz_b1_3_2_75 : h0.size ≤ b1_3_2_75 := Nat.le_trans K71.1 bz75_0
        have g_b1_3_2_75 : n0 ≤ b1_3_2_75 := Nat.le_trans Z0 sz_b1_3_2_75
        refine Gets.tr st75 ?_
        show Gets p e below _ (T75.setTop (mkF m 128 #[.val (.int p1), .val (.int p2), .val (.int p3), .val (.int ((p2 &&& (255 : Int32)).toUInt32.toUInt16.toUInt32.toInt32)), .val (.int ((p3 &&& (255 : Int32)).toUInt32.toUInt16.toUInt32.toInt32)), .val (.int ((((p2.toUInt32 >>> ((8 : Int32) &&& 31).toUInt32).toInt32) &&& (255 : Int32)).toUInt32.toUInt16.toUInt32.toInt32)), .val (.ref b52)] [(.ref b69)]))
        refine GetsW.retA X75 hx Bd.returns rfl rfl (hb hby d17_128) hS75 (Nat.le_refl T75.heap.size) ?_ (by decide) (by decide)
        have f81 : Exa Z T75.heap b69 cn0 := (A69.keep Kq75)
        exact ⟨N75, K76, ⟨b69, rfl, sz_b69, f81⟩⟩
theorem w111 {Z : State} {a0 : Array Value} (hw : ∀ d ∈ tables_1, d.before a0 Z = true) : (Jvm.Cond.methodLink cn13 (7 : Nat) ({ cls := cn13, name := "drawn", desc := "(III)Ljava/lang/String;" } : Jvm.MethodName)).before a0 Z = true := hw _ (List.mem_of_getElem? (i := 111) rfl)
theorem w114 {Z : State} {a0 : Array Value} (hw : ∀ d ∈ tables_1, d.before a0 Z = true) : (Jvm.Cond.code ({ cls := cn13, name := "drawn", desc := "(III)Ljava/lang/String;" } : Jvm.MethodName) method_3_code (7 : Nat) (Option.some (Jvm.ClassFile.FieldType.object cn0))).before a0 Z = true := hw _ (List.mem_of_getElem? (i := 114) rfl)
theorem w113 {Z : State} {a0 : Array Value} (hw : ∀ d ∈ tables_1, d.before a0 Z = true) : (Jvm.Cond.initialized cn13).before a0 Z = true := hw _ (List.mem_of_getElem? (i := 113) rfl)
theorem pd__III_Ljava_lang_String_ : parseMethodDescriptor "(III)Ljava/lang/String;" = some ⟨[.int, .int, .int], some (.object "java/lang/String")⟩ := by decide +kernel
theorem w112 {Z : State} {a0 : Array Value} (hw : ∀ d ∈ tables_1, d.before a0 Z = true) : (Jvm.Cond.static ({ cls := cn13, name := "drawn", desc := "(III)Ljava/lang/String;" } : Jvm.MethodName)).before a0 Z = true := hw _ (List.mem_of_getElem? (i := 112) rfl)
theorem w0 {Z : State} {a0 : Array Value} (hw : ∀ d ∈ tables_1, d.before a0 Z = true) : (Jvm.Cond.methodLink cn13 (13 : Nat) ({ cls := cn0, name := "valueOf", desc := "(C)Ljava/lang/String;" } : Jvm.MethodName)).before a0 Z = true := hw _ (List.mem_of_getElem? (i := 0) rfl)
theorem d1_0 : decode jdk_42_method_139_code 0 = .ok (.getstatic 38, 3) := by decide +kernel
theorem d1_3 : decode jdk_42_method_139_code 3 = .ok (.ifCond .eq 23, 3) := by decide +kernel
theorem d1_6 : decode jdk_42_method_139_code 6 = .ok (.iload_n 0, 1) := by decide +kernel
theorem d1_7 : decode jdk_42_method_139_code 7 = .ok (.invokestatic 1015, 3) := by decide +kernel
theorem w5 {Z : State} {a0 : Array Value} (hw : ∀ d ∈ tables_1, d.before a0 Z = true) : (Jvm.Cond.methodLink cn0 (1015 : Nat) ({ cls := "java/lang/StringLatin1", name := "canEncode", desc := "(C)Z" } : Jvm.MethodName)).before a0 Z = true := hw _ (List.mem_of_getElem? (i := 5) rfl)
theorem d2_0 : decode jdk_43_method_3_code 0 = .ok (.iload_n 0, 1) := by decide +kernel
theorem d2_1 : decode jdk_43_method_3_code 1 = .ok (.sipush 255, 3) := by decide +kernel
theorem d2_4 : decode jdk_43_method_3_code 4 = .ok (.if_icmp .gt 7, 3) := by decide +kernel
theorem d2_7 : decode jdk_43_method_3_code 7 = .ok (.iconst 1, 1) := by decide +kernel
theorem d2_8 : decode jdk_43_method_3_code 8 = .ok (.goto 4, 3) := by decide +kernel
theorem d2_12 : decode jdk_43_method_3_code 12 = .ok (.ireturn, 1) := by decide +kernel
def Q_r19_canEncode (Z : State) (yi1 : Int32) (h0 : Heap) (n0 : Nat) (v : Option Value) (h : Heap) (L : List Loc) : Prop := Fr n0 L ∧ h = h0 ∧ ((v = some (.int (1 : Int32))))
theorem pn_java_lang_StringLatin1 : plainName "java/lang/StringLatin1" = true := by first | (simp [plainName, overriddenIn]; done) | decide +kernel
set_option maxRecDepth 65536 in
set_option maxHeartbeats 40000000 in
theorem r19_canEncode (l : Launch) (Z : State) (a0 : Array Value) (hw : ∀ d ∈ tables_1, d.before a0 Z = true) (ws : List Jvm.Cond) (yi1 : Int32) (h0 : Heap) (n0 : Nat) (O0 : Old Z n0 h0) (hy1 : ¬ ((255 : Int32) < yi1)) :
    MetFree l (⟨"java/lang/StringLatin1", "canEncode", "(C)Z"⟩ : MethodName) (head1 (Jvm.Cond.code (⟨"java/lang/StringLatin1", "canEncode", "(C)Z"⟩ : MethodName) jdk_43_method_3_code 1 (some .boolean) :: ws) ({ frames := 0, cells := 0, slots := 0, locals := 0 } : Room)) (fun a U => a = #[(.int yi1)] ∧ Z.Warmed39 U.vm ∧ U.heap = h0) (fun _ _ _ _ _ => True) (fun _ U o U' => ∃ v L, o = .returned v ∧ Q_r19_canEncode Z yi1 h0 n0 v U'.heap L ∧ FrameEnd U o U' L ({ frames := 0, cells := 0, slots := 0, locals := 0 } : Room).cells ({ frames := 0, cells := 0, slots := 0, locals := 0 } : Room).slots) := by
  refine MetFree.of_bodySF (plainFor_of_name pn_java_lang_StringLatin1) hisR ?_
  intro p e s m args below meth c s₁ Bd hml0 hP hK
  obtain ⟨rfl, hZ, hh⟩ := hP
  have hx := Bd.exec
  have hby := Bd.bytes
  have hlk := Bd.notSynchronized
  have hml : c.maxLocals = 1 := hml0
  have hown : s.vm.findClass "java/lang/StringLatin1" = some m.cls := findClass_of_methodNamed Bd.named
  have hnm := (name_of_methodNamed Bd.named Bd.method).1
  have X0 : Stand p l e ({ frames := 0, cells := 0, slots := 0, locals := 0 } : Room) s m #[(.int yi1)] below meth c s₁ [] 0 0 := Stand.of_body Bd
  have e0 : s₁.heap = h0 := by rw [← hh, Bd.state]; rfl
  have N0 := Fr.nil n0
  have K0 := Keep.refl h0 []
  have Z0 : n0 ≤ h0.size := O0.1 ▸ O0.2.1
  have hef : entryFrame m #[(.int yi1)] 1 = mkF m 0 #[.val (.int yi1)] [] := by first | (simp [entryFrame, mkF, argsToLocals, Value.category]; done) | rfl
  rw [hef]
  refine Gets.out (Q := Q_r19_canEncode Z yi1 h0 n0) ?_
  show Gets p e below _ (s₁.setTop (mkF m 0 #[.val (.int yi1)] []))
  refine Gets.of (fun t k => XS.iloadN X0.here hx rfl (hb hby d2_0) rfl  k) ?_
  refine Gets.of (fun t k => XS.sipush X0.here hx rfl (hb hby d2_1) k) ?_
  refine Gets.of (fun t k => XS.icmpNo X0.here hx rfl (hb hby d2_4) rfl (flt hy1).2.2.1 k) ?_
  show Gets p e below _ (s₁.setTop (mkF m 7 #[.val (.int yi1)] []))
  refine Gets.of (fun t k => XS.iconst X0.here hx rfl (hb hby d2_7) k) ?_
  refine Gets.of (fun t k => XS.goto X0.here hx rfl (pc0 := 8) (pc' := 12) rfl (hb hby d2_8) (by decide) (by decide) k) ?_
  show Gets p e below _ (s₁.setTop (mkF m 12 #[.val (.int yi1)] [(.int (1 : Int32))]))
  refine Gets.retN X0 hx (t := .boolean) Bd.returns (by simp) (hb hby d2_12) ?_ (by decide) (by decide)
  rw [e0]
  exact ⟨N0, rfl, rfl⟩
theorem w8 {Z : State} {a0 : Array Value} (hw : ∀ d ∈ tables_1, d.before a0 Z = true) : (Jvm.Cond.code ({ cls := "java/lang/StringLatin1", name := "canEncode", desc := "(C)Z" } : Jvm.MethodName) jdk_43_method_3_code (1 : Nat) (Option.some Jvm.ClassFile.FieldType.boolean)).before a0 Z = true := hw _ (List.mem_of_getElem? (i := 8) rfl)
theorem w7 {Z : State} {a0 : Array Value} (hw : ∀ d ∈ tables_1, d.before a0 Z = true) : (Jvm.Cond.initialized "java/lang/StringLatin1").before a0 Z = true := hw _ (List.mem_of_getElem? (i := 7) rfl)
theorem pd__C_Z : parseMethodDescriptor "(C)Z" = some ⟨[.char], some .boolean⟩ := by decide +kernel
theorem w6 {Z : State} {a0 : Array Value} (hw : ∀ d ∈ tables_1, d.before a0 Z = true) : (Jvm.Cond.static ({ cls := "java/lang/StringLatin1", name := "canEncode", desc := "(C)Z" } : Jvm.MethodName)).before a0 Z = true := hw _ (List.mem_of_getElem? (i := 6) rfl)
theorem d1_10 : decode jdk_42_method_139_code 10 = .ok (.ifCond .eq 16, 3) := by decide +kernel
theorem d1_13 : decode jdk_42_method_139_code 13 = .ok (.new 10, 3) := by decide +kernel
theorem w9 {Z : State} {a0 : Array Value} (hw : ∀ d ∈ tables_1, d.before a0 Z = true) : (Jvm.Cond.classLink cn0 (10 : Nat) cn0).before a0 Z = true := hw _ (List.mem_of_getElem? (i := 9) rfl)
theorem d1_16 : decode jdk_42_method_139_code 16 = .ok (.dup, 1) := by decide +kernel
theorem d1_17 : decode jdk_42_method_139_code 17 = .ok (.iload_n 0, 1) := by decide +kernel
theorem d1_18 : decode jdk_42_method_139_code 18 = .ok (.invokestatic 1018, 3) := by decide +kernel
theorem w11 {Z : State} {a0 : Array Value} (hw : ∀ d ∈ tables_1, d.before a0 Z = true) : (Jvm.Cond.methodLink cn0 (1018 : Nat) ({ cls := "java/lang/StringLatin1", name := "toBytes", desc := "(C)[B" } : Jvm.MethodName)).before a0 Z = true := hw _ (List.mem_of_getElem? (i := 11) rfl)
theorem d3_0 : decode jdk_43_method_46_code 0 = .ok (.iconst 1, 1) := by decide +kernel
theorem d3_1 : decode jdk_43_method_46_code 1 = .ok (.newarray .byte, 2) := by decide +kernel
theorem d3_3 : decode jdk_43_method_46_code 3 = .ok (.dup, 1) := by decide +kernel
theorem d3_4 : decode jdk_43_method_46_code 4 = .ok (.iconst 0, 1) := by decide +kernel
theorem d3_5 : decode jdk_43_method_46_code 5 = .ok (.iload_n 0, 1) := by decide +kernel
theorem d3_6 : decode jdk_43_method_46_code 6 = .ok (.i2b, 1) := by decide +kernel
theorem d3_7 : decode jdk_43_method_46_code 7 = .ok (.bastore, 1) := by decide +kernel
theorem d3_8 : decode jdk_43_method_46_code 8 = .ok (.areturn, 1) := by decide +kernel
def Q_r20_toBytes (Z : State) (yi1 : Int32) (h0 : Heap) (n0 : Nat) (v : Option Value) (h : Heap) (L : List Loc) : Prop := Fr n0 L ∧ Keep h0 h [] ∧ ((∃ (b1 : Addr) (k1 : ClassId), v = some (.ref b1) ∧ h0.size ≤ b1 ∧ Arv Z h b1 k1 .byte (1 : Int32) [(.int (nar .byte (yi1.toInt8.toInt32)))] (.int (0 : Int32)) ∧ Exa Z h b1 "[B"))
set_option maxRecDepth 65536 in
set_option maxHeartbeats 40000000 in
theorem r20_toBytes (l : Launch) (Z : State) (a0 : Array Value) (hw : ∀ d ∈ tables_1, d.before a0 Z = true) (ws : List Jvm.Cond) (yi1 : Int32) (h0 : Heap) (n0 : Nat) (O0 : Old Z n0 h0) :
    MetFree l (⟨"java/lang/StringLatin1", "toBytes", "(C)[B"⟩ : MethodName) (head1 (Jvm.Cond.code (⟨"java/lang/StringLatin1", "toBytes", "(C)[B"⟩ : MethodName) jdk_43_method_46_code 1 (some (.array .byte)) :: ws) ({ frames := 0, cells := 1, slots := 1, locals := 0 } : Room)) (fun a U => a = #[(.int yi1)] ∧ Z.Warmed39 U.vm ∧ U.heap = h0) (fun _ _ _ _ _ => True) (fun _ U o U' => ∃ v L, o = .returned v ∧ Q_r20_toBytes Z yi1 h0 n0 v U'.heap L ∧ FrameEnd U o U' L ({ frames := 0, cells := 1, slots := 1, locals := 0 } : Room).cells ({ frames := 0, cells := 1, slots := 1, locals := 0 } : Room).slots) := by
  refine MetFree.of_bodySF (plainFor_of_name pn_java_lang_StringLatin1) hisR ?_
  intro p e s m args below meth c s₁ Bd hml0 hP hK
  obtain ⟨rfl, hZ, hh⟩ := hP
  have hx := Bd.exec
  have hby := Bd.bytes
  have hlk := Bd.notSynchronized
  have hml : c.maxLocals = 1 := hml0
  have hown : s.vm.findClass "java/lang/StringLatin1" = some m.cls := findClass_of_methodNamed Bd.named
  have hnm := (name_of_methodNamed Bd.named Bd.method).1
  have X0 : Stand p l e ({ frames := 0, cells := 1, slots := 1, locals := 0 } : Room) s m #[(.int yi1)] below meth c s₁ [] 0 0 := Stand.of_body Bd
  have e0 : s₁.heap = h0 := by rw [← hh, Bd.state]; rfl
  have N0 := Fr.nil n0
  have K0 := Keep.refl h0 []
  have Z0 : n0 ≤ h0.size := O0.1 ▸ O0.2.1
  have hef : entryFrame m #[(.int yi1)] 1 = mkF m 0 #[.val (.int yi1)] [] := by first | (simp [entryFrame, mkF, argsToLocals, Value.category]; done) | rfl
  rw [hef]
  refine Gets.out (Q := Q_r20_toBytes Z yi1 h0 n0) ?_
  show Gets p e below _ (s₁.setTop (mkF m 0 #[.val (.int yi1)] []))
  refine Gets.of (fun t k => XS.iconst X0.here hx rfl (hb hby d3_0) k) ?_
  obtain ⟨T1, h1, k1, X1, e1, E1, A1, Ex1, st1⟩ := newPE X0 hx hZ (aty := .byte) (w14 hw) e0 (g := (mkF m 1 #[.val (.int yi1)] [(.int (1 : Int32))])) rfl (hb hby d3_1) rfl (by decide) (cap := 1) (by decide) (by decide) (by decide) (by decide) (ad := "[B") rfl
  obtain ⟨b1, g1⟩ : ∃ z, z = h0.size := ⟨_, rfl⟩
  rw [← g1] at A1 Ex1 st1
  have sz_b1 : h0.size ≤ b1 := Nat.le_trans K0.1 (Nat.le_of_eq g1.symm)
  have g_b1 : n0 ≤ b1 := Nat.le_trans Z0 sz_b1
  have K2 := K0.ext E1
  have O2 := O0.ext E1
  have V1 : Arv Z h1 b1 k1 .byte (1 : Int32) [(.int (0 : Int32))] (.int (0 : Int32)) := (Arv.new A1 (by decide)).pad (pad_rep [] (.int (0 : Int32)) 1)
  refine Gets.of st1 ?_
  show Gets p e below _ (T1.setTop (mkF m 3 #[.val (.int yi1)] [(.ref b1)]))
  refine Gets.of (fun t k => XS.dup X1.here hx rfl (hb hby d3_3) rfl rfl k) ?_
  refine Gets.of (fun t k => XS.iconst X1.here hx rfl (hb hby d3_4) k) ?_
  refine Gets.of (fun t k => XS.iloadN X1.here hx rfl (hb hby d3_5) rfl  k) ?_
  refine Gets.of (fun t k => XS.i2b X1.here hx rfl (hb hby d3_6) rfl k) ?_
  show Gets p e below _ (T1.setTop (mkF m 7 #[.val (.int yi1)] [(.int (yi1.toInt8.toInt32)), (.int (0 : Int32)), (.ref b1), (.ref b1)]))
  obtain ⟨cl3, Ar3, q3, S3, N_3, H3, G3⟩ := id (V1)
  have hin3 : ¬ ((0 : Int32) < 0 ∨ cl3.slots.size ≤ ((0 : Int32)).toNatClampNeg) := inb_of S3 ⟨by decide, by decide⟩
  obtain ⟨T4, h4, X4, e4, W4, st4⟩ := stB X1 hx hZ e1 Ar3 (j := (0 : Int32)) hin3 (g := (mkF m 7 #[.val (.int yi1)] [(.int (yi1.toInt8.toInt32)), (.int (0 : Int32)), (.ref b1), (.ref b1)])) rfl rfl (hb hby d3_7)
  have V4 : Arv Z h4 b1 k1 .byte (1 : Int32) [(.int (nar .byte (yi1.toInt8.toInt32)))] (.int (0 : Int32)) := Arv.set Ar3 q3 S3 N_3 H3 G3 (fits_nar_byte _) W4 0 rfl (Nat.le_of_ble_eq_true rfl)
  have N4 := Fr.snoc X4 N0 g_b1
  have K5 : Keep h0 _ [] := K2.wr W4 (Or.inr sz_b1)
  have O5 := O2.wr W4 g_b1
  refine Gets.of st4 ?_
  show Gets p e below _ (T4.setTop (mkF m 8 #[.val (.int yi1)] [(.ref b1)]))
  refine Gets.retA X4 hx Bd.returns rfl rfl (hb hby d3_8) ?_ (by decide) (by decide)
  rw [e4]
  have f6 : Exa Z h4 b1 "[B" := (Ex1.wr W4)
  exact ⟨N4, K5, ⟨b1, k1, rfl, sz_b1, V4, f6⟩⟩
theorem w13 {Z : State} {a0 : Array Value} (hw : ∀ d ∈ tables_1, d.before a0 Z = true) : (Jvm.Cond.code ({ cls := "java/lang/StringLatin1", name := "toBytes", desc := "(C)[B" } : Jvm.MethodName) jdk_43_method_46_code (1 : Nat) (Option.some (Jvm.ClassFile.FieldType.array Jvm.ClassFile.FieldType.byte))).before a0 Z = true := hw _ (List.mem_of_getElem? (i := 13) rfl)
theorem pd__C_B : parseMethodDescriptor "(C)[B" = some ⟨[.char], some (.array .byte)⟩ := by decide +kernel
theorem w12 {Z : State} {a0 : Array Value} (hw : ∀ d ∈ tables_1, d.before a0 Z = true) : (Jvm.Cond.static ({ cls := "java/lang/StringLatin1", name := "toBytes", desc := "(C)[B" } : Jvm.MethodName)).before a0 Z = true := hw _ (List.mem_of_getElem? (i := 12) rfl)
theorem d1_21 : decode jdk_42_method_139_code 21 = .ok (.iconst 0, 1) := by decide +kernel
theorem d1_22 : decode jdk_42_method_139_code 22 = .ok (.invokespecial 209, 3) := by decide +kernel
theorem w15 {Z : State} {a0 : Array Value} (hw : ∀ d ∈ tables_1, d.before a0 Z = true) : (Jvm.Cond.methodLink cn0 (209 : Nat) ({ cls := cn0, name := "<init>", desc := "([BB)V" } : Jvm.MethodName)).before a0 Z = true := hw _ (List.mem_of_getElem? (i := 15) rfl)
theorem d4_0 : decode jdk_42_method_151_code 0 = .ok (.aload_n 0, 1) := by decide +kernel
theorem d4_1 : decode jdk_42_method_151_code 1 = .ok (.invokespecial 1, 3) := by decide +kernel
theorem d4_4 : decode jdk_42_method_151_code 4 = .ok (.aload_n 0, 1) := by decide +kernel
theorem d4_5 : decode jdk_42_method_151_code 5 = .ok (.aload_n 1, 1) := by decide +kernel
theorem d4_6 : decode jdk_42_method_151_code 6 = .ok (.putfield 9, 3) := by decide +kernel
theorem d4_9 : decode jdk_42_method_151_code 9 = .ok (.aload_n 0, 1) := by decide +kernel
theorem d4_10 : decode jdk_42_method_151_code 10 = .ok (.iload_n 2, 1) := by decide +kernel
theorem d4_11 : decode jdk_42_method_151_code 11 = .ok (.putfield 15, 3) := by decide +kernel
theorem d4_14 : decode jdk_42_method_151_code 14 = .ok (.return_, 1) := by decide +kernel
def Q_r21_init (Z : State) (ya1 : Addr) (ya2 : Addr) (h0 : Heap) (n0 : Nat) (v : Option Value) (h : Heap) (L : List Loc) : Prop := Fr n0 L ∧ Keep h0 h [ya1] ∧ ((v = none ∧ Fld Z h ya1 cn0 "value" "[B" (.ref ya2) ∧ Fld Z h ya1 cn0 "coder" "B" (.int (0 : Int32))))
set_option maxRecDepth 65536 in
set_option maxHeartbeats 40000000 in
theorem r21_init (l : Launch) (Z : State) (a0 : Array Value) (hw : ∀ d ∈ tables_1, d.before a0 Z = true) (ws : List Jvm.Cond) (ya1 : Addr) (ya2 : Addr) (h0 : Heap) (n0 : Nat) (O0 : Old Z n0 h0) (F0 : Exa Z h0 ya1 cn0) (F1 : Fld Z h0 ya1 cn0 "value" "[B" .null) (F2 : Fld Z h0 ya1 cn0 "coder" "B" (.int (0 : Int32))) (gq_ya1 : n0 ≤ ya1) :
    MetFree l (⟨cn0, "<init>", "([BB)V"⟩ : MethodName) (head1 (Jvm.Cond.code (⟨cn0, "<init>", "([BB)V"⟩ : MethodName) jdk_42_method_151_code 3 none :: ws) ({ frames := 1, cells := 0, slots := 0, locals := 12 } : Room)) (fun a U => a = #[(.ref ya1), (.ref ya2), (.int (0 : Int32))] ∧ Z.Warmed39 U.vm ∧ U.heap = h0) (fun _ _ _ _ _ => True) (fun _ U o U' => ∃ v L, o = .returned v ∧ Q_r21_init Z ya1 ya2 h0 n0 v U'.heap L ∧ FrameEnd U o U' L ({ frames := 1, cells := 0, slots := 0, locals := 12 } : Room).cells ({ frames := 1, cells := 0, slots := 0, locals := 12 } : Room).slots) := by
  refine MetFree.of_bodySF (plainFor_of_name pn_java_lang_String) hisR ?_
  intro p e s m args below meth c s₁ Bd hml0 hP hK
  obtain ⟨rfl, hZ, hh⟩ := hP
  have hx := Bd.exec
  have hby := Bd.bytes
  have hlk := Bd.notSynchronized
  have hml : c.maxLocals = 3 := hml0
  have hown : s.vm.findClass cn0 = some m.cls := findClass_of_methodNamed Bd.named
  have hnm := (name_of_methodNamed Bd.named Bd.method).1
  have X0 : Stand p l e ({ frames := 1, cells := 0, slots := 0, locals := 12 } : Room) s m #[(.ref ya1), (.ref ya2), (.int (0 : Int32))] below meth c s₁ [] 0 0 := Stand.of_body Bd
  have e0 : s₁.heap = h0 := by rw [← hh, Bd.state]; rfl
  have N0 := Fr.nil n0
  have K0 := Keep.refl h0 [ya1]
  have Z0 : n0 ≤ h0.size := O0.1 ▸ O0.2.1
  have hef : entryFrame m #[(.ref ya1), (.ref ya2), (.int (0 : Int32))] 3 = mkF m 0 #[.val (.ref ya1), .val (.ref ya2), .val (.int (0 : Int32))] [] := by first | (simp [entryFrame, mkF, argsToLocals, Value.category]; done) | rfl
  rw [hef]
  refine Gets.out (Q := Q_r21_init Z ya1 ya2 h0 n0) ?_
  show Gets p e below _ (s₁.setTop (mkF m 0 #[.val (.ref ya1), .val (.ref ya2), .val (.int (0 : Int32))] []))
  refine Gets.of (fun t k => XS.aloadN X0.here hx rfl (hb hby d4_0) rfl rfl  k) ?_
  obtain ⟨T1, X1, e1, st1⟩ := initO X0 hx hZ hown (w19 hw) (w20 hw) (w21 hw) e0 (g := (mkF m 1 #[.val (.ref ya1), .val (.ref ya2), .val (.int (0 : Int32))] [(.ref ya1)])) rfl (by rw [hml]; rfl) rfl (hb hby d4_1) (by decide) (W := 0) (by show 2 * 0 + _ ≤ _; exact Nat.le_of_eq rfl) (by decide)
  refine Gets.of st1 ?_
  show Gets p e below _ (T1.setTop (mkF m 4 #[.val (.ref ya1), .val (.ref ya2), .val (.int (0 : Int32))] []))
  refine Gets.of (fun t k => XS.aloadN X1.here hx rfl (hb hby d4_4) rfl rfl  k) ?_
  refine Gets.of (fun t k => XS.aloadN X1.here hx rfl (hb hby d4_5) rfl rfl  k) ?_
  obtain ⟨T2, h2, X2, e2, W2, st2⟩ := putF X1 hx hZ hown (host := "") (Or.inl (w22 hw)) Via.refl e1 F1 F0 (Or.inr ⟨(w23 hw), rfl, hnm⟩) (w10 hw) (ty := (.array .byte)) (by decide) rfl rfl (g := (mkF m 6 #[.val (.ref ya1), .val (.ref ya2), .val (.int (0 : Int32))] [(.ref ya2), (.ref ya1)])) rfl rfl (hb hby d4_6)
  have N2 := Fr.snoc X2 N0 gq_ya1
  have Fw2 : Fld Z h2 ya1 cn0 "value" "[B" (.ref ya2) := (F1).same W2
  have K3 : Keep h0 _ [ya1] := K0.wr W2 (Or.inl (by simp))
  have O3 := O0.wr W2 gq_ya1
  refine Gets.of st2 ?_
  show Gets p e below _ (T2.setTop (mkF m 9 #[.val (.ref ya1), .val (.ref ya2), .val (.int (0 : Int32))] []))
  refine Gets.of (fun t k => XS.aloadN X2.here hx rfl (hb hby d4_9) rfl rfl  k) ?_
  refine Gets.of (fun t k => XS.iloadN X2.here hx rfl (hb hby d4_10) rfl  k) ?_
  have f4 : Exa Z h2 ya1 cn0 := (F0.wr W2)
  have f5 : Fld Z h2 ya1 cn0 "coder" "B" (.int (0 : Int32)) := (F2.other W2 (Or.inr (slot_ne (Or.inr (w25 hw)) (Or.inr (w23 hw)) (by decide) (t := .byte) (t' := (.array .byte)) (by decide) (by decide))))
  obtain ⟨T6, h6, X6, e6, W6, st6⟩ := putFN X2 hx hZ hown (w24 hw) Via.refl e2 f5 f4 (Or.inr ⟨(w25 hw), rfl, hnm⟩) (w10 hw) (ty := .byte) (v' := (.int (0 : Int32))) (by decide) rfl (by decide) (g := (mkF m 11 #[.val (.ref ya1), .val (.ref ya2), .val (.int (0 : Int32))] [(.int (0 : Int32)), (.ref ya1)])) rfl rfl (hb hby d4_11)
  have N6 := Fr.snoc X6 N2 gq_ya1
  have Fw6 : Fld Z h6 ya1 cn0 "coder" "B" (.int (0 : Int32)) := (f5).same W6
  have K7 : Keep h0 _ [ya1] := K3.wr W6 (Or.inl (by simp))
  have O7 := O3.wr W6 gq_ya1
  refine Gets.of st6 ?_
  show Gets p e below _ (T6.setTop (mkF m 14 #[.val (.ref ya1), .val (.ref ya2), .val (.int (0 : Int32))] []))
  refine Gets.retV X6 hx Bd.returns (hb hby d4_14) ?_ (by decide) (by decide)
  rw [e6]
  have f8 : Fld Z h6 ya1 cn0 "value" "[B" (.ref ya2) := (Fw2.other W6 (Or.inr (slot_ne (Or.inr (w23 hw)) (Or.inr (w25 hw)) (by decide) (t := (.array .byte)) (t' := .byte) (by decide) (by decide))))
  exact ⟨N6, K7, ⟨rfl, f8, Fw6⟩⟩
theorem w18 {Z : State} {a0 : Array Value} (hw : ∀ d ∈ tables_1, d.before a0 Z = true) : (Jvm.Cond.code ({ cls := cn0, name := "<init>", desc := "([BB)V" } : Jvm.MethodName) jdk_42_method_151_code (3 : Nat) (Option.none : Option Jvm.ClassFile.FieldType)).before a0 Z = true := hw _ (List.mem_of_getElem? (i := 18) rfl)
theorem pd__BB_V : parseMethodDescriptor "([BB)V" = some ⟨[(.array .byte), .byte], none⟩ := by decide +kernel
theorem w16 {Z : State} {a0 : Array Value} (hw : ∀ d ∈ tables_1, d.before a0 Z = true) : (Jvm.Cond.instanceMethod ({ cls := cn0, name := "<init>", desc := "([BB)V" } : Jvm.MethodName)).before a0 Z = true := hw _ (List.mem_of_getElem? (i := 16) rfl)
theorem d1_25 : decode jdk_42_method_139_code 25 = .ok (.areturn, 1) := by decide +kernel
def Q_r18_valueOf (Z : State) (yi1 : Int32) (oi1 : Int32) (h0 : Heap) (n0 : Nat) (v : Option Value) (h : Heap) (L : List Loc) : Prop := Fr n0 L ∧ Keep h0 h [] ∧ ((∃ (b3 : Addr) (b1_5 : Addr) (k1_5 : ClassId), v = some (.ref b3) ∧ h0.size ≤ b3 ∧ h0.size ≤ b1_5 ∧ b3 ≠ b1_5 ∧ Exa Z h b3 cn0 ∧ Fld Z h b3 cn0 "value" "[B" (.ref b1_5) ∧ Fld Z h b3 cn0 "coder" "B" (.int (0 : Int32)) ∧ Arv Z h b1_5 k1_5 .byte (1 : Int32) [(.int (nar .byte (yi1.toInt8.toInt32)))] (.int (0 : Int32)) ∧ Exa Z h b1_5 "[B"))
set_option maxRecDepth 65536 in
set_option maxHeartbeats 40000000 in
theorem r18_valueOf (l : Launch) (Z : State) (a0 : Array Value) (hw : ∀ d ∈ tables_1, d.before a0 Z = true) (ws : List Jvm.Cond) (yi1 : Int32) (oi1 : Int32) (h0 : Heap) (n0 : Nat) (O0 : Old Z n0 h0) (oS3 : Sta Z Z.heap cn0 "COMPACT_STRINGS" "Z" (.int oi1)) (hy1 : ¬ (oi1 = (0 : Int32))) (hy2 : ¬ ((255 : Int32) < yi1)) :
    MetFree l (⟨cn0, "valueOf", "(C)Ljava/lang/String;"⟩ : MethodName) (head1 (Jvm.Cond.code (⟨cn0, "valueOf", "(C)Ljava/lang/String;"⟩ : MethodName) jdk_42_method_139_code 1 (some (.object cn0)) :: ws) ({ frames := 2, cells := 2, slots := 5, locals := 27 } : Room)) (fun a U => a = #[(.int yi1)] ∧ Z.Warmed39 U.vm ∧ U.heap = h0) (fun _ _ _ _ _ => True) (fun _ U o U' => ∃ v L, o = .returned v ∧ Q_r18_valueOf Z yi1 oi1 h0 n0 v U'.heap L ∧ FrameEnd U o U' L ({ frames := 2, cells := 2, slots := 5, locals := 27 } : Room).cells ({ frames := 2, cells := 2, slots := 5, locals := 27 } : Room).slots) := by
  refine MetFree.of_bodySF (plainFor_of_name pn_java_lang_String) hisR ?_
  intro p e s m args below meth c s₁ Bd hml0 hP hK
  obtain ⟨rfl, hZ, hh⟩ := hP
  have hx := Bd.exec
  have hby := Bd.bytes
  have hlk := Bd.notSynchronized
  have hml : c.maxLocals = 1 := hml0
  have hown : s.vm.findClass cn0 = some m.cls := findClass_of_methodNamed Bd.named
  have hnm := (name_of_methodNamed Bd.named Bd.method).1
  have X0 : Stand p l e ({ frames := 2, cells := 2, slots := 5, locals := 27 } : Room) s m #[(.int yi1)] below meth c s₁ [] 0 0 := Stand.of_body Bd
  have e0 : s₁.heap = h0 := by rw [← hh, Bd.state]; rfl
  have N0 := Fr.nil n0
  have K0 := Keep.refl h0 []
  have Z0 : n0 ≤ h0.size := O0.1 ▸ O0.2.1
  have hef : entryFrame m #[(.int yi1)] 1 = mkF m 0 #[.val (.int yi1)] [] := by first | (simp [entryFrame, mkF, argsToLocals, Value.category]; done) | rfl
  rw [hef]
  refine Gets.out (Q := Q_r18_valueOf Z yi1 oi1 h0 n0) ?_
  show Gets p e below _ (s₁.setTop (mkF m 0 #[.val (.int yi1)] []))
  obtain ⟨T1, X1, e1, st1⟩ := getS2 X0 hx hZ hown (host := "") (Or.inl (w4 hw)) Via.refl e0 (oS3.ext O0.2) (g := (mkF m 0 #[.val (.int yi1)] [])) rfl (hb hby d1_0)
  refine Gets.of st1 ?_
  show Gets p e below _ (T1.setTop (mkF m 3 #[.val (.int yi1)] [(.int oi1)]))
  refine Gets.of (fun t k => XS.ifNo X1.here hx rfl (hb hby d1_3) rfl ((if0 _ _).trans (feq hy1).1) k) ?_
  show Gets p e below _ (T1.setTop (mkF m 6 #[.val (.int yi1)] []))
  refine Gets.of (fun t k => XS.iloadN X1.here hx rfl (hb hby d1_6) rfl  k) ?_
  obtain ⟨_, _, ⟨T2, L2, k2, n2⟩, -, X2, ⟨Lc2, hQ2, l2, y2, z2⟩, st2⟩ := Jvm.LawKit.callS X1 hx (y := (⟨"java/lang/StringLatin1", "canEncode", "(C)Z"⟩ : MethodName)) hown (mvT hZ (w5 hw)) (mvT hZ (w6 hw)) (mvT hZ (w7 hw)) (mvT hZ (w8 hw)) (by decide) (backOf (W := 0) (r19_canEncode l Z a0 hw [] yi1 h0 n0 O0 hy2) hZ (w8 hw) (w7 hw) (by decide) (by decide)) (g := (mkF m 7 #[.val (.int yi1)] [(.int yi1)])) rfl (by rw [hml]; rfl) (argsL := [(.int yi1)]) (rest := []) (lenOf pd__C_Z rfl) rfl (by show 2 * 0 + _ ≤ _; exact Nat.le_of_eq rfl) (hb hby d1_7) (fun _ _ => ⟨rfl, e1, (by decide : 0 + 0 ≤ _), (by decide : 0 + 0 ≤ _)⟩)
  dsimp only [Pt.U, Pt.locs, Pt.cells, Pt.slots] at X2 l2 y2 z2 st2 hQ2
  subst l2 y2 z2
  obtain ⟨Nq2, eq2, hR2⟩ := hQ2
  have N2 := Fr.app N0 Nq2
  obtain rfl := hR2
  refine Gets.of st2 ?_
  show Gets p e below _ (T2.setTop (mkF m 10 #[.val (.int yi1)] [(.int (1 : Int32))]))
  refine Gets.of (fun t k => XS.ifNo X2.here hx rfl (hb hby d1_10) rfl ((if0 _ _).trans (feq (by decide : ¬ ((1 : Int32) = (0 : Int32)))).1) k) ?_
  show Gets p e below _ (T2.setTop (mkF m 13 #[.val (.int yi1)] []))
  obtain ⟨T3, h3, X3, e3, E3, A3, D3, -, st3⟩ := newO X2 hx hZ hown (w9 hw) (w10 hw) (w2 hw) eq2 (g := (mkF m 13 #[.val (.int yi1)] [])) rfl (hb hby d1_13) (by decide) (by decide)
  obtain ⟨b3, g3⟩ : ∃ z, z = h0.size := ⟨_, rfl⟩
  rw [← g3] at A3 D3 st3
  have sz_b3 : h0.size ≤ b3 := Nat.le_trans K0.1 (Nat.le_of_eq g3.symm)
  have g_b3 : n0 ≤ b3 := Nat.le_trans Z0 sz_b3
  have K4 := K0.ext E3
  have O4 := O0.ext E3
  have F3_23 : Fld Z h3 b3 cn0 "value" "[B" .null := D3 (Or.inr (w23 hw)) (ty := (.array .byte)) (by decide)
  have F3_25 : Fld Z h3 b3 cn0 "coder" "B" (.int (0 : Int32)) := D3 (Or.inr (w25 hw)) (ty := .byte) (by decide)
  refine Gets.of st3 ?_
  show Gets p e below _ (T3.setTop (mkF m 16 #[.val (.int yi1)] [(.ref b3)]))
  refine Gets.of (fun t k => XS.dup X3.here hx rfl (hb hby d1_16) rfl rfl k) ?_
  refine Gets.of (fun t k => XS.iloadN X3.here hx rfl (hb hby d1_17) rfl  k) ?_
  obtain ⟨_, _, ⟨T5, L5, k5, n5⟩, -, X5, ⟨Lc5, hQ5, l5, y5, z5⟩, st5⟩ := Jvm.LawKit.callS X3 hx (y := (⟨"java/lang/StringLatin1", "toBytes", "(C)[B"⟩ : MethodName)) hown (mvT hZ (w11 hw)) (mvT hZ (w12 hw)) (mvT hZ (w7 hw)) (mvT hZ (w13 hw)) (by decide) (backOf (W := 2) (r20_toBytes l Z a0 hw [] yi1 h3 n0 O4) hZ (w13 hw) (w7 hw) (by decide) (by decide)) (g := (mkF m 18 #[.val (.int yi1)] [(.int yi1), (.ref b3), (.ref b3)])) rfl (by rw [hml]; rfl) (argsL := [(.int yi1)]) (rest := [(.ref b3), (.ref b3)]) (lenOf pd__C_B rfl) rfl (by show 2 * 0 + _ ≤ _; exact Nat.le_of_eq rfl) (hb hby d1_18) (fun _ _ => ⟨rfl, e3, (by decide : 1 + 1 ≤ _), (by decide : 4 + 1 ≤ _)⟩)
  dsimp only [Pt.U, Pt.locs, Pt.cells, Pt.slots] at X5 l5 y5 z5 st5 hQ5
  subst l5 y5 z5
  obtain ⟨Nq5, Kq5, hR5⟩ := hQ5
  have N5 := Fr.app N2 Nq5
  have K6 : Keep h0 _ [] := K4.trans Kq5 all0
  have O6 := O4.keep Kq5 all0
  obtain ⟨b1_5, k1_5, rfl, bz5_0, bf5_0, bf5_1⟩ := hR5
  have sz_b1_5 : h0.size ≤ b1_5 := Nat.le_trans K4.1 bz5_0
  have g_b1_5 : n0 ≤ b1_5 := Nat.le_trans Z0 sz_b1_5
  refine Gets.of st5 ?_
  show Gets p e below _ (T5.setTop (mkF m 21 #[.val (.int yi1)] [(.ref b1_5), (.ref b3), (.ref b3)]))
  refine Gets.of (fun t k => XS.iconst X5.here hx rfl (hb hby d1_21) k) ?_
  have f7 : Exa Z T5.heap b3 cn0 := (A3.keep Kq5)
  have f8 : Fld Z T5.heap b3 cn0 "value" "[B" .null := (F3_23.keep Kq5 nin0)
  have f9 : Fld Z T5.heap b3 cn0 "coder" "B" (.int (0 : Int32)) := (F3_25.keep Kq5 nin0)
  obtain ⟨_, _, ⟨T10, L10, k10, n10⟩, -, X10, ⟨Lc10, hQ10, l10, y10, z10⟩, st10⟩ := X5.specialBack hx (y := (⟨cn0, "<init>", "([BB)V"⟩ : MethodName)) rfl hown (mvT hZ (w15 hw)) (mvT hZ (w16 hw)) (mvT hZ (w18 hw)) (by decide) (backOf (W := 1) (r21_init l Z a0 hw [] b3 b1_5 T5.heap n0 O6 f7 f8 f9 g_b3) hZ (w18 hw) (w2 hw) (by decide) (by decide)) (g := (mkF m 22 #[.val (.int yi1)] [(.int (0 : Int32)), (.ref b1_5), (.ref b3), (.ref b3)])) rfl (by rw [hml]; rfl) (Steps.refl _) (a := b3) (argsL := [(.ref b1_5), (.int (0 : Int32))]) (rest := [(.ref b3)]) (lenOf pd__BB_V rfl) rfl (by show 2 * 0 + _ ≤ _; exact Nat.le_of_eq rfl) (hb hby d1_22) (fun _ _ => ⟨rfl, rfl, (by decide : 2 + 0 ≤ _), (by decide : 5 + 0 ≤ _)⟩)
  dsimp only [Pt.U, Pt.locs, Pt.cells, Pt.slots] at X10 l10 y10 z10 st10 hQ10
  subst l10 y10 z10
  obtain ⟨Nq10, Kq10, hR10⟩ := hQ10
  have N10 := Fr.app N5 Nq10
  have K11 : Keep h0 _ [] := K6.trans Kq10 (allS (Or.inr sz_b3) all0)
  have O11 := O6.keep Kq10 (allS g_b3 all0)
  obtain ⟨rfl, bf10_0, bf10_1⟩ := hR10
  refine Gets.tr st10 ?_
  show Gets p e below _ (T10.setTop (mkF m 25 #[.val (.int yi1)] [(.ref b3)]))
  refine Gets.retA X10 hx Bd.returns rfl rfl (hb hby d1_25) ?_ (by decide) (by decide)
  have f12 : Exa Z T10.heap b3 cn0 := (f7.keep Kq10)
  have f13 : Arv Z T10.heap b1_5 k1_5 .byte (1 : Int32) [(.int (nar .byte (yi1.toInt8.toInt32)))] (.int (0 : Int32)) := (bf5_0.keep Kq10 (ninS (Nat.ne_of_gt (Nat.lt_of_lt_of_le A3.lt bz5_0)) nin0))
  have f14 : Exa Z T10.heap b1_5 "[B" := (bf5_1.keep Kq10)
  exact ⟨N10, K11, ⟨b3, b1_5, k1_5, rfl, sz_b3, sz_b1_5, (Nat.ne_of_lt (Nat.lt_of_lt_of_le A3.lt bz5_0)), f12, bf10_0, bf10_1, f13, f14⟩⟩
theorem w3 {Z : State} {a0 : Array Value} (hw : ∀ d ∈ tables_1, d.before a0 Z = true) : (Jvm.Cond.code ({ cls := cn0, name := "valueOf", desc := "(C)Ljava/lang/String;" } : Jvm.MethodName) jdk_42_method_139_code (1 : Nat) (Option.some (Jvm.ClassFile.FieldType.object cn0))).before a0 Z = true := hw _ (List.mem_of_getElem? (i := 3) rfl)
theorem pd__C_Ljava_lang_String_ : parseMethodDescriptor "(C)Ljava/lang/String;" = some ⟨[.char], some (.object "java/lang/String")⟩ := by decide +kernel
theorem w1 {Z : State} {a0 : Array Value} (hw : ∀ d ∈ tables_1, d.before a0 Z = true) : (Jvm.Cond.static ({ cls := cn0, name := "valueOf", desc := "(C)Ljava/lang/String;" } : Jvm.MethodName)).before a0 Z = true := hw _ (List.mem_of_getElem? (i := 1) rfl)
theorem w26 {Z : State} {a0 : Array Value} (hw : ∀ d ∈ tables_1, d.before a0 Z = true) : (Jvm.Cond.classLink cn13 (19 : Nat) cn2).before a0 Z = true := hw _ (List.mem_of_getElem? (i := 26) rfl)
theorem w27 {Z : State} {a0 : Array Value} (hw : ∀ d ∈ tables_1, d.before a0 Z = true) : (Jvm.Cond.instantiable cn2 (3 : Nat)).before a0 Z = true := hw _ (List.mem_of_getElem? (i := 27) rfl)
theorem w46 {Z : State} {a0 : Array Value} (hw : ∀ d ∈ tables_1, d.before a0 Z = true) : (Jvm.Cond.lays cn2 cn10 "modCount" "I").before a0 Z = true := hw _ (List.mem_of_getElem? (i := 46) rfl)
theorem w49 {Z : State} {a0 : Array Value} (hw : ∀ d ∈ tables_1, d.before a0 Z = true) : (Jvm.Cond.lays cn2 cn2 "elementData" cn6).before a0 Z = true := hw _ (List.mem_of_getElem? (i := 49) rfl)
theorem w86 {Z : State} {a0 : Array Value} (hw : ∀ d ∈ tables_1, d.before a0 Z = true) : (Jvm.Cond.lays cn2 cn2 "size" "I").before a0 Z = true := hw _ (List.mem_of_getElem? (i := 86) rfl)
theorem w29 {Z : State} {a0 : Array Value} (hw : ∀ d ∈ tables_1, d.before a0 Z = true) : (Jvm.Cond.methodLink cn13 (21 : Nat) ({ cls := cn2, name := "<init>", desc := "()V" } : Jvm.MethodName)).before a0 Z = true := hw _ (List.mem_of_getElem? (i := 29) rfl)
theorem d6_0 : decode jdk_38_method_2_code 0 = .ok (.aload_n 0, 1) := by decide +kernel
theorem d6_1 : decode jdk_38_method_2_code 1 = .ok (.invokespecial 1, 3) := by decide +kernel
theorem w32 {Z : State} {a0 : Array Value} (hw : ∀ d ∈ tables_1, d.before a0 Z = true) : (Jvm.Cond.methodLink cn2 (1 : Nat) ({ cls := cn10, name := "<init>", desc := "()V" } : Jvm.MethodName)).before a0 Z = true := hw _ (List.mem_of_getElem? (i := 32) rfl)
theorem d7_0 : decode jdk_39_method_1_code 0 = .ok (.aload_n 0, 1) := by decide +kernel
theorem d7_1 : decode jdk_39_method_1_code 1 = .ok (.invokespecial 1, 3) := by decide +kernel
theorem w38 {Z : State} {a0 : Array Value} (hw : ∀ d ∈ tables_1, d.before a0 Z = true) : (Jvm.Cond.methodLink cn10 (1 : Nat) ({ cls := "java/util/AbstractCollection", name := "<init>", desc := "()V" } : Jvm.MethodName)).before a0 Z = true := hw _ (List.mem_of_getElem? (i := 38) rfl)
theorem d8_0 : decode jdk_22_method_1_code 0 = .ok (.aload_n 0, 1) := by decide +kernel
theorem d8_1 : decode jdk_22_method_1_code 1 = .ok (.invokespecial 1, 3) := by decide +kernel
theorem w44 {Z : State} {a0 : Array Value} (hw : ∀ d ∈ tables_1, d.before a0 Z = true) : (Jvm.Cond.methodLink "java/util/AbstractCollection" (1 : Nat) ({ cls := cn3, name := "<init>", desc := "()V" } : Jvm.MethodName)).before a0 Z = true := hw _ (List.mem_of_getElem? (i := 44) rfl)
theorem d8_4 : decode jdk_22_method_1_code 4 = .ok (.return_, 1) := by decide +kernel
def Q_r24_init (Z : State) (ya1 : Addr) (h0 : Heap) (n0 : Nat) (v : Option Value) (h : Heap) (L : List Loc) : Prop := Fr n0 L ∧ h = h0 ∧ ((v = none))
theorem pn_java_util_AbstractCollection : plainName "java/util/AbstractCollection" = true := by first | (simp [plainName, overriddenIn]; done) | decide +kernel
set_option maxRecDepth 65536 in
set_option maxHeartbeats 40000000 in
theorem r24_init (l : Launch) (Z : State) (a0 : Array Value) (hw : ∀ d ∈ tables_1, d.before a0 Z = true) (ws : List Jvm.Cond) (ya1 : Addr) (h0 : Heap) (n0 : Nat) (O0 : Old Z n0 h0) :
    MetFree l (⟨"java/util/AbstractCollection", "<init>", "()V"⟩ : MethodName) (head1 (Jvm.Cond.code (⟨"java/util/AbstractCollection", "<init>", "()V"⟩ : MethodName) jdk_22_method_1_code 1 none :: ws) ({ frames := 1, cells := 0, slots := 0, locals := 12 } : Room)) (fun a U => a = #[(.ref ya1)] ∧ Z.Warmed39 U.vm ∧ U.heap = h0) (fun _ _ _ _ _ => True) (fun _ U o U' => ∃ v L, o = .returned v ∧ Q_r24_init Z ya1 h0 n0 v U'.heap L ∧ FrameEnd U o U' L ({ frames := 1, cells := 0, slots := 0, locals := 12 } : Room).cells ({ frames := 1, cells := 0, slots := 0, locals := 12 } : Room).slots) := by
  refine MetFree.of_bodySF (plainFor_of_name pn_java_util_AbstractCollection) hisR ?_
  intro p e s m args below meth c s₁ Bd hml0 hP hK
  obtain ⟨rfl, hZ, hh⟩ := hP
  have hx := Bd.exec
  have hby := Bd.bytes
  have hlk := Bd.notSynchronized
  have hml : c.maxLocals = 1 := hml0
  have hown : s.vm.findClass "java/util/AbstractCollection" = some m.cls := findClass_of_methodNamed Bd.named
  have hnm := (name_of_methodNamed Bd.named Bd.method).1
  have X0 : Stand p l e ({ frames := 1, cells := 0, slots := 0, locals := 12 } : Room) s m #[(.ref ya1)] below meth c s₁ [] 0 0 := Stand.of_body Bd
  have e0 : s₁.heap = h0 := by rw [← hh, Bd.state]; rfl
  have N0 := Fr.nil n0
  have K0 := Keep.refl h0 []
  have Z0 : n0 ≤ h0.size := O0.1 ▸ O0.2.1
  have hef : entryFrame m #[(.ref ya1)] 1 = mkF m 0 #[.val (.ref ya1)] [] := by first | (simp [entryFrame, mkF, argsToLocals, Value.category]; done) | rfl
  rw [hef]
  refine Gets.out (Q := Q_r24_init Z ya1 h0 n0) ?_
  show Gets p e below _ (s₁.setTop (mkF m 0 #[.val (.ref ya1)] []))
  refine Gets.of (fun t k => XS.aloadN X0.here hx rfl (hb hby d8_0) rfl rfl  k) ?_
  obtain ⟨T1, X1, e1, st1⟩ := initO X0 hx hZ hown (w44 hw) (w20 hw) (w21 hw) e0 (g := (mkF m 1 #[.val (.ref ya1)] [(.ref ya1)])) rfl (by rw [hml]; rfl) rfl (hb hby d8_1) (by decide) (W := 0) (by show 2 * 0 + _ ≤ _; exact Nat.le_of_eq rfl) (by decide)
  refine Gets.of st1 ?_
  show Gets p e below _ (T1.setTop (mkF m 4 #[.val (.ref ya1)] []))
  refine Gets.retV X1 hx Bd.returns (hb hby d8_4) ?_ (by decide) (by decide)
  rw [e1]
  exact ⟨N0, rfl, rfl⟩
theorem w43 {Z : State} {a0 : Array Value} (hw : ∀ d ∈ tables_1, d.before a0 Z = true) : (Jvm.Cond.code ({ cls := "java/util/AbstractCollection", name := "<init>", desc := "()V" } : Jvm.MethodName) jdk_22_method_1_code (1 : Nat) (Option.none : Option Jvm.ClassFile.FieldType)).before a0 Z = true := hw _ (List.mem_of_getElem? (i := 43) rfl)
theorem w42 {Z : State} {a0 : Array Value} (hw : ∀ d ∈ tables_1, d.before a0 Z = true) : (Jvm.Cond.initialized "java/util/AbstractCollection").before a0 Z = true := hw _ (List.mem_of_getElem? (i := 42) rfl)
theorem pd__V : parseMethodDescriptor "()V" = some ⟨[], none⟩ := by decide +kernel
theorem w39 {Z : State} {a0 : Array Value} (hw : ∀ d ∈ tables_1, d.before a0 Z = true) : (Jvm.Cond.instanceMethod ({ cls := "java/util/AbstractCollection", name := "<init>", desc := "()V" } : Jvm.MethodName)).before a0 Z = true := hw _ (List.mem_of_getElem? (i := 39) rfl)
theorem d7_4 : decode jdk_39_method_1_code 4 = .ok (.aload_n 0, 1) := by decide +kernel
theorem d7_5 : decode jdk_39_method_1_code 5 = .ok (.iconst 0, 1) := by decide +kernel
theorem d7_6 : decode jdk_39_method_1_code 6 = .ok (.putfield 7, 3) := by decide +kernel
theorem w45 {Z : State} {a0 : Array Value} (hw : ∀ d ∈ tables_1, d.before a0 Z = true) : (Jvm.Cond.fieldLink cn10 (7 : Nat) cn10 "modCount" "I").before a0 Z = true := hw _ (List.mem_of_getElem? (i := 45) rfl)
theorem d7_9 : decode jdk_39_method_1_code 9 = .ok (.return_, 1) := by decide +kernel
def Q_r23_init (Z : State) (ya1 : Addr) (h0 : Heap) (n0 : Nat) (v : Option Value) (h : Heap) (L : List Loc) : Prop := Fr n0 L ∧ Keep h0 h [ya1] ∧ ((v = none ∧ Fld Z h ya1 cn10 "modCount" "I" (.int (0 : Int32)) ∧ Fld Z h ya1 cn2 "elementData" cn6 .null ∧ Fld Z h ya1 cn2 "size" "I" (.int (0 : Int32))))
theorem pn_java_util_AbstractList : plainName "java/util/AbstractList" = true := by first | (simp [plainName, overriddenIn]; done) | decide +kernel
set_option maxRecDepth 65536 in
set_option maxHeartbeats 40000000 in
theorem r23_init (l : Launch) (Z : State) (a0 : Array Value) (hw : ∀ d ∈ tables_1, d.before a0 Z = true) (ws : List Jvm.Cond) (ya1 : Addr) (h0 : Heap) (n0 : Nat) (O0 : Old Z n0 h0) (F0 : Exa Z h0 ya1 cn2) (F1 : Fld Z h0 ya1 cn10 "modCount" "I" (.int (0 : Int32))) (F2 : Fld Z h0 ya1 cn2 "elementData" cn6 .null) (F3 : Fld Z h0 ya1 cn2 "size" "I" (.int (0 : Int32))) (gq_ya1 : n0 ≤ ya1) :
    MetFree l (⟨cn10, "<init>", "()V"⟩ : MethodName) (head1 (Jvm.Cond.code (⟨cn10, "<init>", "()V"⟩ : MethodName) jdk_39_method_1_code 1 none :: ws) ({ frames := 2, cells := 0, slots := 0, locals := 24 } : Room)) (fun a U => a = #[(.ref ya1)] ∧ Z.Warmed39 U.vm ∧ U.heap = h0) (fun _ _ _ _ _ => True) (fun _ U o U' => ∃ v L, o = .returned v ∧ Q_r23_init Z ya1 h0 n0 v U'.heap L ∧ FrameEnd U o U' L ({ frames := 2, cells := 0, slots := 0, locals := 24 } : Room).cells ({ frames := 2, cells := 0, slots := 0, locals := 24 } : Room).slots) := by
  refine MetFree.of_bodySF (plainFor_of_name pn_java_util_AbstractList) hisR ?_
  intro p e s m args below meth c s₁ Bd hml0 hP hK
  obtain ⟨rfl, hZ, hh⟩ := hP
  have hx := Bd.exec
  have hby := Bd.bytes
  have hlk := Bd.notSynchronized
  have hml : c.maxLocals = 1 := hml0
  have hown : s.vm.findClass cn10 = some m.cls := findClass_of_methodNamed Bd.named
  have hnm := (name_of_methodNamed Bd.named Bd.method).1
  have X0 : Stand p l e ({ frames := 2, cells := 0, slots := 0, locals := 24 } : Room) s m #[(.ref ya1)] below meth c s₁ [] 0 0 := Stand.of_body Bd
  have e0 : s₁.heap = h0 := by rw [← hh, Bd.state]; rfl
  have N0 := Fr.nil n0
  have K0 := Keep.refl h0 [ya1]
  have Z0 : n0 ≤ h0.size := O0.1 ▸ O0.2.1
  have hef : entryFrame m #[(.ref ya1)] 1 = mkF m 0 #[.val (.ref ya1)] [] := by first | (simp [entryFrame, mkF, argsToLocals, Value.category]; done) | rfl
  rw [hef]
  refine Gets.out (Q := Q_r23_init Z ya1 h0 n0) ?_
  show Gets p e below _ (s₁.setTop (mkF m 0 #[.val (.ref ya1)] []))
  refine Gets.of (fun t k => XS.aloadN X0.here hx rfl (hb hby d7_0) rfl rfl  k) ?_
  obtain ⟨_, _, ⟨T1, L1, k1, n1⟩, -, X1, ⟨Lc1, hQ1, l1, y1, z1⟩, st1⟩ := X0.specialBack hx (y := (⟨"java/util/AbstractCollection", "<init>", "()V"⟩ : MethodName)) rfl hown (mvT hZ (w38 hw)) (mvT hZ (w39 hw)) (mvT hZ (w43 hw)) (by decide) (backOf (W := 0) (r24_init l Z a0 hw [] ya1 h0 n0 O0) hZ (w43 hw) (w42 hw) (by decide) (by decide)) (g := (mkF m 1 #[.val (.ref ya1)] [(.ref ya1)])) rfl (by rw [hml]; rfl) (Steps.refl _) (a := ya1) (argsL := []) (rest := []) (lenOf pd__V rfl) rfl (by show 2 * 0 + _ ≤ _; exact Nat.le_of_eq rfl) (hb hby d7_1) (fun _ _ => ⟨rfl, e0, (by decide : 0 + 0 ≤ _), (by decide : 0 + 0 ≤ _)⟩)
  dsimp only [Pt.U, Pt.locs, Pt.cells, Pt.slots] at X1 l1 y1 z1 st1 hQ1
  subst l1 y1 z1
  obtain ⟨Nq1, eq1, hR1⟩ := hQ1
  have N1 := Fr.app N0 Nq1
  obtain rfl := hR1
  refine Gets.tr st1 ?_
  show Gets p e below _ (T1.setTop (mkF m 4 #[.val (.ref ya1)] []))
  refine Gets.of (fun t k => XS.aloadN X1.here hx rfl (hb hby d7_4) rfl rfl  k) ?_
  refine Gets.of (fun t k => XS.iconst X1.here hx rfl (hb hby d7_5) k) ?_
  obtain ⟨T2, h2, X2, e2, W2, st2⟩ := putF X1 hx hZ hown (host := "") (Or.inl (w45 hw)) Via.refl eq1 F1 F0 (Or.inl (w46 hw)) (w27 hw) (ty := .int) (by decide) rfl rfl (g := (mkF m 6 #[.val (.ref ya1)] [(.int (0 : Int32)), (.ref ya1)])) rfl rfl (hb hby d7_6)
  have N2 := Fr.snoc X2 N1 gq_ya1
  have Fw2 : Fld Z h2 ya1 cn10 "modCount" "I" (.int (0 : Int32)) := (F1).same W2
  have K3 : Keep h0 _ [ya1] := K0.wr W2 (Or.inl (by simp))
  have O3 := O0.wr W2 gq_ya1
  refine Gets.of st2 ?_
  show Gets p e below _ (T2.setTop (mkF m 9 #[.val (.ref ya1)] []))
  refine Gets.retV X2 hx Bd.returns (hb hby d7_9) ?_ (by decide) (by decide)
  rw [e2]
  have f4 : Fld Z h2 ya1 cn2 "elementData" cn6 .null := (F2.other W2 (Or.inr (slot_ne (Or.inl (w49 hw)) (Or.inl (w46 hw)) (by decide) (t := (.array (.object cn3))) (t' := .int) (by decide) (by decide))))
  have f5 : Fld Z h2 ya1 cn2 "size" "I" (.int (0 : Int32)) := (F3.other W2 (Or.inr (slot_ne (Or.inl (w86 hw)) (Or.inl (w46 hw)) (by decide) (t := .int) (t' := .int) (by decide) (by decide))))
  exact ⟨N2, K3, ⟨rfl, Fw2, f4, f5⟩⟩
theorem w37 {Z : State} {a0 : Array Value} (hw : ∀ d ∈ tables_1, d.before a0 Z = true) : (Jvm.Cond.code ({ cls := cn10, name := "<init>", desc := "()V" } : Jvm.MethodName) jdk_39_method_1_code (1 : Nat) (Option.none : Option Jvm.ClassFile.FieldType)).before a0 Z = true := hw _ (List.mem_of_getElem? (i := 37) rfl)
theorem w36 {Z : State} {a0 : Array Value} (hw : ∀ d ∈ tables_1, d.before a0 Z = true) : (Jvm.Cond.initialized cn10).before a0 Z = true := hw _ (List.mem_of_getElem? (i := 36) rfl)
theorem w33 {Z : State} {a0 : Array Value} (hw : ∀ d ∈ tables_1, d.before a0 Z = true) : (Jvm.Cond.instanceMethod ({ cls := cn10, name := "<init>", desc := "()V" } : Jvm.MethodName)).before a0 Z = true := hw _ (List.mem_of_getElem? (i := 33) rfl)
theorem d6_4 : decode jdk_38_method_2_code 4 = .ok (.aload_n 0, 1) := by decide +kernel
theorem d6_5 : decode jdk_38_method_2_code 5 = .ok (.getstatic 39, 3) := by decide +kernel
theorem w47 {Z : State} {a0 : Array Value} (hw : ∀ d ∈ tables_1, d.before a0 Z = true) : (Jvm.Cond.fieldLink cn2 (39 : Nat) cn2 "DEFAULTCAPACITY_EMPTY_ELEMENTDATA" cn6).before a0 Z = true := hw _ (List.mem_of_getElem? (i := 47) rfl)
theorem d6_8 : decode jdk_38_method_2_code 8 = .ok (.putfield 9, 3) := by decide +kernel
theorem w48 {Z : State} {a0 : Array Value} (hw : ∀ d ∈ tables_1, d.before a0 Z = true) : (Jvm.Cond.fieldLink cn2 (9 : Nat) cn2 "elementData" cn6).before a0 Z = true := hw _ (List.mem_of_getElem? (i := 48) rfl)
theorem d6_11 : decode jdk_38_method_2_code 11 = .ok (.return_, 1) := by decide +kernel
def Q_r22_init (Z : State) (ya1 : Addr) (ov5 : Addr) (h0 : Heap) (n0 : Nat) (v : Option Value) (h : Heap) (L : List Loc) : Prop := Fr n0 L ∧ Keep h0 h [ya1] ∧ ((v = none ∧ Fld Z h ya1 cn10 "modCount" "I" (.int (0 : Int32)) ∧ Fld Z h ya1 cn2 "elementData" cn6 (.ref ov5) ∧ Fld Z h ya1 cn2 "size" "I" (.int (0 : Int32))))
theorem pn_java_util_ArrayList : plainName "java/util/ArrayList" = true := by first | (simp [plainName, overriddenIn]; done) | decide +kernel
set_option maxRecDepth 65536 in
set_option maxHeartbeats 40000000 in
theorem r22_init (l : Launch) (Z : State) (a0 : Array Value) (hw : ∀ d ∈ tables_1, d.before a0 Z = true) (ws : List Jvm.Cond) (ya1 : Addr) (ov5 : Addr) (h0 : Heap) (n0 : Nat) (O0 : Old Z n0 h0) (F0 : Exa Z h0 ya1 cn2) (F1 : Fld Z h0 ya1 cn10 "modCount" "I" (.int (0 : Int32))) (F2 : Fld Z h0 ya1 cn2 "elementData" cn6 .null) (F3 : Fld Z h0 ya1 cn2 "size" "I" (.int (0 : Int32))) (oS7 : Sta Z Z.heap cn2 "DEFAULTCAPACITY_EMPTY_ELEMENTDATA" cn6 (.ref ov5)) (gq_ya1 : n0 ≤ ya1) :
    MetFree l (⟨cn2, "<init>", "()V"⟩ : MethodName) (head1 (Jvm.Cond.code (⟨cn2, "<init>", "()V"⟩ : MethodName) jdk_38_method_2_code 1 none :: ws) ({ frames := 3, cells := 0, slots := 0, locals := 36 } : Room)) (fun a U => a = #[(.ref ya1)] ∧ Z.Warmed39 U.vm ∧ U.heap = h0) (fun _ _ _ _ _ => True) (fun _ U o U' => ∃ v L, o = .returned v ∧ Q_r22_init Z ya1 ov5 h0 n0 v U'.heap L ∧ FrameEnd U o U' L ({ frames := 3, cells := 0, slots := 0, locals := 36 } : Room).cells ({ frames := 3, cells := 0, slots := 0, locals := 36 } : Room).slots) := by
  refine MetFree.of_bodySF (plainFor_of_name pn_java_util_ArrayList) hisR ?_
  intro p e s m args below meth c s₁ Bd hml0 hP hK
  obtain ⟨rfl, hZ, hh⟩ := hP
  have hx := Bd.exec
  have hby := Bd.bytes
  have hlk := Bd.notSynchronized
  have hml : c.maxLocals = 1 := hml0
  have hown : s.vm.findClass cn2 = some m.cls := findClass_of_methodNamed Bd.named
  have hnm := (name_of_methodNamed Bd.named Bd.method).1
  have X0 : Stand p l e ({ frames := 3, cells := 0, slots := 0, locals := 36 } : Room) s m #[(.ref ya1)] below meth c s₁ [] 0 0 := Stand.of_body Bd
  have e0 : s₁.heap = h0 := by rw [← hh, Bd.state]; rfl
  have N0 := Fr.nil n0
  have K0 := Keep.refl h0 [ya1]
  have Z0 : n0 ≤ h0.size := O0.1 ▸ O0.2.1
  have hef : entryFrame m #[(.ref ya1)] 1 = mkF m 0 #[.val (.ref ya1)] [] := by first | (simp [entryFrame, mkF, argsToLocals, Value.category]; done) | rfl
  rw [hef]
  refine Gets.out (Q := Q_r22_init Z ya1 ov5 h0 n0) ?_
  show Gets p e below _ (s₁.setTop (mkF m 0 #[.val (.ref ya1)] []))
  refine Gets.of (fun t k => XS.aloadN X0.here hx rfl (hb hby d6_0) rfl rfl  k) ?_
  obtain ⟨_, _, ⟨T1, L1, k1, n1⟩, -, X1, ⟨Lc1, hQ1, l1, y1, z1⟩, st1⟩ := X0.specialBack hx (y := (⟨cn10, "<init>", "()V"⟩ : MethodName)) rfl hown (mvT hZ (w32 hw)) (mvT hZ (w33 hw)) (mvT hZ (w37 hw)) (by decide) (backOf (W := 0) (r23_init l Z a0 hw [] ya1 h0 n0 O0 F0 F1 F2 F3 gq_ya1) hZ (w37 hw) (w36 hw) (by decide) (by decide)) (g := (mkF m 1 #[.val (.ref ya1)] [(.ref ya1)])) rfl (by rw [hml]; rfl) (Steps.refl _) (a := ya1) (argsL := []) (rest := []) (lenOf pd__V rfl) rfl (by show 2 * 0 + _ ≤ _; exact Nat.le_of_eq rfl) (hb hby d6_1) (fun _ _ => ⟨rfl, e0, (by decide : 0 + 0 ≤ _), (by decide : 0 + 0 ≤ _)⟩)
  dsimp only [Pt.U, Pt.locs, Pt.cells, Pt.slots] at X1 l1 y1 z1 st1 hQ1
  subst l1 y1 z1
  obtain ⟨Nq1, Kq1, hR1⟩ := hQ1
  have N1 := Fr.app N0 Nq1
  have K2 : Keep h0 _ [ya1] := K0.trans Kq1 (allS (Or.inl (by simp)) all0)
  have O2 := O0.keep Kq1 (allS gq_ya1 all0)
  obtain ⟨rfl, bf1_0, bf1_1, bf1_2⟩ := hR1
  refine Gets.tr st1 ?_
  show Gets p e below _ (T1.setTop (mkF m 4 #[.val (.ref ya1)] []))
  refine Gets.of (fun t k => XS.aloadN X1.here hx rfl (hb hby d6_4) rfl rfl  k) ?_
  obtain ⟨T3, X3, e3, st3⟩ := getS2 X1 hx hZ hown (host := "") (Or.inl (w47 hw)) Via.refl rfl (oS7.ext O2.2) (g := (mkF m 5 #[.val (.ref ya1)] [(.ref ya1)])) rfl (hb hby d6_5)
  refine Gets.of st3 ?_
  show Gets p e below _ (T3.setTop (mkF m 8 #[.val (.ref ya1)] [(.ref ov5), (.ref ya1)]))
  have f4 : Exa Z T1.heap ya1 cn2 := (F0.keep Kq1)
  obtain ⟨T5, h5, X5, e5, W5, st5⟩ := putF X3 hx hZ hown (host := "") (Or.inl (w48 hw)) Via.refl e3 bf1_1 f4 (Or.inl (w49 hw)) (w27 hw) (ty := (.array (.object cn3))) (by decide) rfl rfl (g := (mkF m 8 #[.val (.ref ya1)] [(.ref ov5), (.ref ya1)])) rfl rfl (hb hby d6_8)
  have N5 := Fr.snoc X5 N1 gq_ya1
  have Fw5 : Fld Z h5 ya1 cn2 "elementData" cn6 (.ref ov5) := (bf1_1).same W5
  have K6 : Keep h0 _ [ya1] := K2.wr W5 (Or.inl (by simp))
  have O6 := O2.wr W5 gq_ya1
  refine Gets.of st5 ?_
  show Gets p e below _ (T5.setTop (mkF m 11 #[.val (.ref ya1)] []))
  refine Gets.retV X5 hx Bd.returns (hb hby d6_11) ?_ (by decide) (by decide)
  rw [e5]
  have f7 : Fld Z h5 ya1 cn10 "modCount" "I" (.int (0 : Int32)) := (bf1_0.other W5 (Or.inr (slot_ne (Or.inl (w46 hw)) (Or.inl (w49 hw)) (by decide) (t := .int) (t' := (.array (.object cn3))) (by decide) (by decide))))
  have f8 : Fld Z h5 ya1 cn2 "size" "I" (.int (0 : Int32)) := (bf1_2.other W5 (Or.inr (slot_ne (Or.inl (w86 hw)) (Or.inl (w49 hw)) (by decide) (t := .int) (t' := (.array (.object cn3))) (by decide) (by decide))))
  exact ⟨N5, K6, ⟨rfl, f7, Fw5, f8⟩⟩
theorem w31 {Z : State} {a0 : Array Value} (hw : ∀ d ∈ tables_1, d.before a0 Z = true) : (Jvm.Cond.code ({ cls := cn2, name := "<init>", desc := "()V" } : Jvm.MethodName) jdk_38_method_2_code (1 : Nat) (Option.none : Option Jvm.ClassFile.FieldType)).before a0 Z = true := hw _ (List.mem_of_getElem? (i := 31) rfl)
theorem w30 {Z : State} {a0 : Array Value} (hw : ∀ d ∈ tables_1, d.before a0 Z = true) : (Jvm.Cond.instanceMethod ({ cls := cn2, name := "<init>", desc := "()V" } : Jvm.MethodName)).before a0 Z = true := hw _ (List.mem_of_getElem? (i := 30) rfl)
theorem w50 {Z : State} {a0 : Array Value} (hw : ∀ d ∈ tables_1, d.before a0 Z = true) : (Jvm.Cond.classLink cn13 (37 : Nat) cn1).before a0 Z = true := hw _ (List.mem_of_getElem? (i := 50) rfl)
theorem w51 {Z : State} {a0 : Array Value} (hw : ∀ d ∈ tables_1, d.before a0 Z = true) : (Jvm.Cond.instantiable cn1 (5 : Nat)).before a0 Z = true := hw _ (List.mem_of_getElem? (i := 51) rfl)
theorem w52 {Z : State} {a0 : Array Value} (hw : ∀ d ∈ tables_1, d.before a0 Z = true) : (Jvm.Cond.initialized cn1).before a0 Z = true := hw _ (List.mem_of_getElem? (i := 52) rfl)
theorem w92 {Z : State} {a0 : Array Value} (hw : ∀ d ∈ tables_1, d.before a0 Z = true) : (Jvm.Cond.laysFinal cn1 cn1 "number" "I").before a0 Z = true := hw _ (List.mem_of_getElem? (i := 92) rfl)
theorem w94 {Z : State} {a0 : Array Value} (hw : ∀ d ∈ tables_1, d.before a0 Z = true) : (Jvm.Cond.laysFinal cn1 cn1 "location" cn4).before a0 Z = true := hw _ (List.mem_of_getElem? (i := 94) rfl)
theorem w96 {Z : State} {a0 : Array Value} (hw : ∀ d ∈ tables_1, d.before a0 Z = true) : (Jvm.Cond.laysFinal cn1 cn1 "source" cn4).before a0 Z = true := hw _ (List.mem_of_getElem? (i := 96) rfl)
theorem w98 {Z : State} {a0 : Array Value} (hw : ∀ d ∈ tables_1, d.before a0 Z = true) : (Jvm.Cond.laysFinal cn1 cn1 "values" cn12).before a0 Z = true := hw _ (List.mem_of_getElem? (i := 98) rfl)
theorem w100 {Z : State} {a0 : Array Value} (hw : ∀ d ∈ tables_1, d.before a0 Z = true) : (Jvm.Cond.laysFinal cn1 cn1 "problem" cn4).before a0 Z = true := hw _ (List.mem_of_getElem? (i := 100) rfl)
theorem w53 {Z : State} {a0 : Array Value} (hw : ∀ d ∈ tables_1, d.before a0 Z = true) : (Jvm.Cond.methodLink cn13 (39 : Nat) ({ cls := cn1, name := "<init>", desc := cn16 } : Jvm.MethodName)).before a0 Z = true := hw _ (List.mem_of_getElem? (i := 53) rfl)
theorem d9_0 : decode prog_51_method_1_code 0 = .ok (.aload_n 0, 1) := by decide +kernel
theorem d9_1 : decode prog_51_method_1_code 1 = .ok (.invokespecial 1, 3) := by decide +kernel
theorem w56 {Z : State} {a0 : Array Value} (hw : ∀ d ∈ tables_1, d.before a0 Z = true) : (Jvm.Cond.methodLink cn1 (1 : Nat) ({ cls := "java/lang/Record", name := "<init>", desc := "()V" } : Jvm.MethodName)).before a0 Z = true := hw _ (List.mem_of_getElem? (i := 56) rfl)
theorem d10_0 : decode jdk_30_method_1_code 0 = .ok (.aload_n 0, 1) := by decide +kernel
theorem d10_1 : decode jdk_30_method_1_code 1 = .ok (.invokespecial 1, 3) := by decide +kernel
theorem w61 {Z : State} {a0 : Array Value} (hw : ∀ d ∈ tables_1, d.before a0 Z = true) : (Jvm.Cond.methodLink "java/lang/Record" (1 : Nat) ({ cls := cn3, name := "<init>", desc := "()V" } : Jvm.MethodName)).before a0 Z = true := hw _ (List.mem_of_getElem? (i := 61) rfl)
theorem d10_4 : decode jdk_30_method_1_code 4 = .ok (.return_, 1) := by decide +kernel
def Q_r26_init (Z : State) (ya1 : Addr) (h0 : Heap) (n0 : Nat) (v : Option Value) (h : Heap) (L : List Loc) : Prop := Fr n0 L ∧ h = h0 ∧ ((v = none))
theorem pn_java_lang_Record : plainName "java/lang/Record" = true := by first | (simp [plainName, overriddenIn]; done) | decide +kernel
set_option maxRecDepth 65536 in
set_option maxHeartbeats 40000000 in
theorem r26_init (l : Launch) (Z : State) (a0 : Array Value) (hw : ∀ d ∈ tables_1, d.before a0 Z = true) (ws : List Jvm.Cond) (ya1 : Addr) (h0 : Heap) (n0 : Nat) (O0 : Old Z n0 h0) :
    MetFree l (⟨"java/lang/Record", "<init>", "()V"⟩ : MethodName) (head1 (Jvm.Cond.code (⟨"java/lang/Record", "<init>", "()V"⟩ : MethodName) jdk_30_method_1_code 1 none :: ws) ({ frames := 1, cells := 0, slots := 0, locals := 12 } : Room)) (fun a U => a = #[(.ref ya1)] ∧ Z.Warmed39 U.vm ∧ U.heap = h0) (fun _ _ _ _ _ => True) (fun _ U o U' => ∃ v L, o = .returned v ∧ Q_r26_init Z ya1 h0 n0 v U'.heap L ∧ FrameEnd U o U' L ({ frames := 1, cells := 0, slots := 0, locals := 12 } : Room).cells ({ frames := 1, cells := 0, slots := 0, locals := 12 } : Room).slots) := by
  refine MetFree.of_bodySF (plainFor_of_name pn_java_lang_Record) hisR ?_
  intro p e s m args below meth c s₁ Bd hml0 hP hK
  obtain ⟨rfl, hZ, hh⟩ := hP
  have hx := Bd.exec
  have hby := Bd.bytes
  have hlk := Bd.notSynchronized
  have hml : c.maxLocals = 1 := hml0
  have hown : s.vm.findClass "java/lang/Record" = some m.cls := findClass_of_methodNamed Bd.named
  have hnm := (name_of_methodNamed Bd.named Bd.method).1
  have X0 : Stand p l e ({ frames := 1, cells := 0, slots := 0, locals := 12 } : Room) s m #[(.ref ya1)] below meth c s₁ [] 0 0 := Stand.of_body Bd
  have e0 : s₁.heap = h0 := by rw [← hh, Bd.state]; rfl
  have N0 := Fr.nil n0
  have K0 := Keep.refl h0 []
  have Z0 : n0 ≤ h0.size := O0.1 ▸ O0.2.1
  have hef : entryFrame m #[(.ref ya1)] 1 = mkF m 0 #[.val (.ref ya1)] [] := by first | (simp [entryFrame, mkF, argsToLocals, Value.category]; done) | rfl
  rw [hef]
  refine Gets.out (Q := Q_r26_init Z ya1 h0 n0) ?_
  show Gets p e below _ (s₁.setTop (mkF m 0 #[.val (.ref ya1)] []))
  refine Gets.of (fun t k => XS.aloadN X0.here hx rfl (hb hby d10_0) rfl rfl  k) ?_
  obtain ⟨T1, X1, e1, st1⟩ := initO X0 hx hZ hown (w61 hw) (w20 hw) (w21 hw) e0 (g := (mkF m 1 #[.val (.ref ya1)] [(.ref ya1)])) rfl (by rw [hml]; rfl) rfl (hb hby d10_1) (by decide) (W := 0) (by show 2 * 0 + _ ≤ _; exact Nat.le_of_eq rfl) (by decide)
  refine Gets.of st1 ?_
  show Gets p e below _ (T1.setTop (mkF m 4 #[.val (.ref ya1)] []))
  refine Gets.retV X1 hx Bd.returns (hb hby d10_4) ?_ (by decide) (by decide)
  rw [e1]
  exact ⟨N0, rfl, rfl⟩
theorem w60 {Z : State} {a0 : Array Value} (hw : ∀ d ∈ tables_1, d.before a0 Z = true) : (Jvm.Cond.code ({ cls := "java/lang/Record", name := "<init>", desc := "()V" } : Jvm.MethodName) jdk_30_method_1_code (1 : Nat) (Option.none : Option Jvm.ClassFile.FieldType)).before a0 Z = true := hw _ (List.mem_of_getElem? (i := 60) rfl)
theorem w59 {Z : State} {a0 : Array Value} (hw : ∀ d ∈ tables_1, d.before a0 Z = true) : (Jvm.Cond.initialized "java/lang/Record").before a0 Z = true := hw _ (List.mem_of_getElem? (i := 59) rfl)
theorem w57 {Z : State} {a0 : Array Value} (hw : ∀ d ∈ tables_1, d.before a0 Z = true) : (Jvm.Cond.instanceMethod ({ cls := "java/lang/Record", name := "<init>", desc := "()V" } : Jvm.MethodName)).before a0 Z = true := hw _ (List.mem_of_getElem? (i := 57) rfl)
theorem d9_4 : decode prog_51_method_1_code 4 = .ok (.aload 4, 2) := by decide +kernel
theorem d9_6 : decode prog_51_method_1_code 6 = .ok (.invokestatic 7, 3) := by decide +kernel
theorem w62 {Z : State} {a0 : Array Value} (hw : ∀ d ∈ tables_1, d.before a0 Z = true) : (Jvm.Cond.methodLink cn1 (7 : Nat) ({ cls := "java/util/List", name := "copyOf", desc := cn14 } : Jvm.MethodName)).before a0 Z = true := hw _ (List.mem_of_getElem? (i := 62) rfl)
theorem d11_0 : decode jdk_40_method_48_code 0 = .ok (.aload_n 0, 1) := by decide +kernel
theorem d11_1 : decode jdk_40_method_48_code 1 = .ok (.invokestatic 112, 3) := by decide +kernel
theorem w66 {Z : State} {a0 : Array Value} (hw : ∀ d ∈ tables_1, d.before a0 Z = true) : (Jvm.Cond.methodLink "java/util/List" (112 : Nat) ({ cls := cn9, name := "listCopy", desc := cn14 } : Jvm.MethodName)).before a0 Z = true := hw _ (List.mem_of_getElem? (i := 66) rfl)
theorem d12_0 : decode jdk_56_method_3_code 0 = .ok (.aload_n 0, 1) := by decide +kernel
theorem d12_1 : decode jdk_56_method_3_code 1 = .ok (.instanceof 10, 3) := by decide +kernel
theorem w70 {Z : State} {a0 : Array Value} (hw : ∀ d ∈ tables_1, d.before a0 Z = true) : (Jvm.Cond.classLink cn9 (10 : Nat) cn7).before a0 Z = true := hw _ (List.mem_of_getElem? (i := 70) rfl)
theorem w71 {Z : State} {a0 : Array Value} (hw : ∀ d ∈ tables_1, d.before a0 Z = true) : (Jvm.Cond.superclass cn2 cn10).before a0 Z = true := hw _ (List.mem_of_getElem? (i := 71) rfl)
theorem w215 {Z : State} {a0 : Array Value} (hw : ∀ d ∈ tables_1, d.before a0 Z = true) : (Jvm.Cond.instantiable cn7 (2 : Nat)).before a0 Z = true := hw _ (List.mem_of_getElem? (i := 215) rfl)
theorem w72 {Z : State} {a0 : Array Value} (hw : ∀ d ∈ tables_1, d.before a0 Z = true) : (Jvm.Cond.superclass cn10 "java/util/AbstractCollection").before a0 Z = true := hw _ (List.mem_of_getElem? (i := 72) rfl)
theorem w73 {Z : State} {a0 : Array Value} (hw : ∀ d ∈ tables_1, d.before a0 Z = true) : (Jvm.Cond.superclass "java/util/AbstractCollection" cn3).before a0 Z = true := hw _ (List.mem_of_getElem? (i := 73) rfl)
theorem w74 {Z : State} {a0 : Array Value} (hw : ∀ d ∈ tables_1, d.before a0 Z = true) : (Jvm.Cond.noSuperclass cn3).before a0 Z = true := hw _ (List.mem_of_getElem? (i := 74) rfl)
theorem d12_4 : decode jdk_56_method_3_code 4 = .ok (.ifCond .ne 22, 3) := by decide +kernel
theorem d12_7 : decode jdk_56_method_3_code 7 = .ok (.aload_n 0, 1) := by decide +kernel
theorem d12_8 : decode jdk_56_method_3_code 8 = .ok (.instanceof 12, 3) := by decide +kernel
theorem w75 {Z : State} {a0 : Array Value} (hw : ∀ d ∈ tables_1, d.before a0 Z = true) : (Jvm.Cond.classLink cn9 (12 : Nat) cn19).before a0 Z = true := hw _ (List.mem_of_getElem? (i := 75) rfl)
theorem w248 {Z : State} {a0 : Array Value} (hw : ∀ d ∈ tables_1, d.before a0 Z = true) : (Jvm.Cond.superclass cn19 cn21).before a0 Z = true := hw _ (List.mem_of_getElem? (i := 248) rfl)
theorem d12_11 : decode jdk_56_method_3_code 11 = .ok (.ifCond .eq 20, 3) := by decide +kernel
theorem d12_31 : decode jdk_56_method_3_code 31 = .ok (.aload_n 0, 1) := by decide +kernel
theorem d12_32 : decode jdk_56_method_3_code 32 = .ok (.invokeinterface 20 1, 5) := by decide +kernel
theorem w76 {Z : State} {a0 : Array Value} (hw : ∀ d ∈ tables_1, d.before a0 Z = true) : (Jvm.Cond.methodLink cn9 (20 : Nat) ({ cls := "java/util/Collection", name := "isEmpty", desc := "()Z" } : Jvm.MethodName)).before a0 Z = true := hw _ (List.mem_of_getElem? (i := 76) rfl)
theorem d13_0 : decode jdk_38_method_9_code 0 = .ok (.aload_n 0, 1) := by decide +kernel
theorem d13_1 : decode jdk_38_method_9_code 1 = .ok (.getfield 48, 3) := by decide +kernel
theorem w85 {Z : State} {a0 : Array Value} (hw : ∀ d ∈ tables_1, d.before a0 Z = true) : (Jvm.Cond.fieldLink cn2 (48 : Nat) cn2 "size" "I").before a0 Z = true := hw _ (List.mem_of_getElem? (i := 85) rfl)
theorem d13_4 : decode jdk_38_method_9_code 4 = .ok (.ifCond .ne 7, 3) := by decide +kernel
theorem d13_7 : decode jdk_38_method_9_code 7 = .ok (.iconst 1, 1) := by decide +kernel
theorem d13_8 : decode jdk_38_method_9_code 8 = .ok (.goto 4, 3) := by decide +kernel
theorem d13_12 : decode jdk_38_method_9_code 12 = .ok (.ireturn, 1) := by decide +kernel
def Q_r29_isEmpty (Z : State) (ya1 : Addr) (h0 : Heap) (n0 : Nat) (v : Option Value) (h : Heap) (L : List Loc) : Prop := Fr n0 L ∧ h = h0 ∧ ((v = some (.int (1 : Int32))))
set_option maxRecDepth 65536 in
set_option maxHeartbeats 40000000 in
theorem r29_isEmpty (l : Launch) (Z : State) (a0 : Array Value) (hw : ∀ d ∈ tables_1, d.before a0 Z = true) (ws : List Jvm.Cond) (ya1 : Addr) (h0 : Heap) (n0 : Nat) (O0 : Old Z n0 h0) (F0 : Fld Z h0 ya1 cn2 "size" "I" (.int (0 : Int32))) :
    MetFree l (⟨cn2, "isEmpty", "()Z"⟩ : MethodName) (head1 (Jvm.Cond.code (⟨cn2, "isEmpty", "()Z"⟩ : MethodName) jdk_38_method_9_code 1 (some .boolean) :: ws) ({ frames := 0, cells := 0, slots := 0, locals := 0 } : Room)) (fun a U => a = #[(.ref ya1)] ∧ Z.Warmed39 U.vm ∧ U.heap = h0) (fun _ _ _ _ _ => True) (fun _ U o U' => ∃ v L, o = .returned v ∧ Q_r29_isEmpty Z ya1 h0 n0 v U'.heap L ∧ FrameEnd U o U' L ({ frames := 0, cells := 0, slots := 0, locals := 0 } : Room).cells ({ frames := 0, cells := 0, slots := 0, locals := 0 } : Room).slots) := by
  refine MetFree.of_bodySF (plainFor_of_name pn_java_util_ArrayList) hisR ?_
  intro p e s m args below meth c s₁ Bd hml0 hP hK
  obtain ⟨rfl, hZ, hh⟩ := hP
  have hx := Bd.exec
  have hby := Bd.bytes
  have hlk := Bd.notSynchronized
  have hml : c.maxLocals = 1 := hml0
  have hown : s.vm.findClass cn2 = some m.cls := findClass_of_methodNamed Bd.named
  have hnm := (name_of_methodNamed Bd.named Bd.method).1
  have X0 : Stand p l e ({ frames := 0, cells := 0, slots := 0, locals := 0 } : Room) s m #[(.ref ya1)] below meth c s₁ [] 0 0 := Stand.of_body Bd
  have e0 : s₁.heap = h0 := by rw [← hh, Bd.state]; rfl
  have N0 := Fr.nil n0
  have K0 := Keep.refl h0 []
  have Z0 : n0 ≤ h0.size := O0.1 ▸ O0.2.1
  have hef : entryFrame m #[(.ref ya1)] 1 = mkF m 0 #[.val (.ref ya1)] [] := by first | (simp [entryFrame, mkF, argsToLocals, Value.category]; done) | rfl
  rw [hef]
  refine Gets.out (Q := Q_r29_isEmpty Z ya1 h0 n0) ?_
  show Gets p e below _ (s₁.setTop (mkF m 0 #[.val (.ref ya1)] []))
  refine Gets.of (fun t k => XS.aloadN X0.here hx rfl (hb hby d13_0) rfl rfl  k) ?_
  obtain ⟨T1, X1, e1, st1⟩ := getF X0 hx hZ hown (host := "") (Or.inl (w85 hw)) Via.refl e0 F0 (g := (mkF m 1 #[.val (.ref ya1)] [(.ref ya1)])) rfl rfl (hb hby d13_1)
  refine Gets.of st1 ?_
  show Gets p e below _ (T1.setTop (mkF m 4 #[.val (.ref ya1)] [(.int (0 : Int32))]))
  refine Gets.of (fun t k => XS.ifNo X1.here hx rfl (hb hby d13_4) rfl ((if0 _ _).trans (teq (by decide : (0 : Int32) = (0 : Int32))).2) k) ?_
  show Gets p e below _ (T1.setTop (mkF m 7 #[.val (.ref ya1)] []))
  refine Gets.of (fun t k => XS.iconst X1.here hx rfl (hb hby d13_7) k) ?_
  refine Gets.of (fun t k => XS.goto X1.here hx rfl (pc0 := 8) (pc' := 12) rfl (hb hby d13_8) (by decide) (by decide) k) ?_
  show Gets p e below _ (T1.setTop (mkF m 12 #[.val (.ref ya1)] [(.int (1 : Int32))]))
  refine Gets.retN X1 hx (t := .boolean) Bd.returns (by simp) (hb hby d13_12) ?_ (by decide) (by decide)
  rw [e1]
  exact ⟨N0, rfl, rfl⟩
theorem w84 {Z : State} {a0 : Array Value} (hw : ∀ d ∈ tables_1, d.before a0 Z = true) : (Jvm.Cond.code ({ cls := cn2, name := "isEmpty", desc := "()Z" } : Jvm.MethodName) jdk_38_method_9_code (1 : Nat) (Option.some Jvm.ClassFile.FieldType.boolean)).before a0 Z = true := hw _ (List.mem_of_getElem? (i := 84) rfl)
theorem pd__Z : parseMethodDescriptor "()Z" = some ⟨[], some .boolean⟩ := by decide +kernel
theorem w79 {Z : State} {a0 : Array Value} (hw : ∀ d ∈ tables_1, d.before a0 Z = true) : (Jvm.Cond.selects cn2 ({ cls := "java/util/Collection", name := "isEmpty", desc := "()Z" } : Jvm.MethodName) ({ cls := cn2, name := "isEmpty", desc := "()Z" } : Jvm.MethodName)).before a0 Z = true := hw _ (List.mem_of_getElem? (i := 79) rfl)
theorem w77 {Z : State} {a0 : Array Value} (hw : ∀ d ∈ tables_1, d.before a0 Z = true) : (Jvm.Cond.declares ({ cls := "java/util/Collection", name := "isEmpty", desc := "()Z" } : Jvm.MethodName)).before a0 Z = true := hw _ (List.mem_of_getElem? (i := 77) rfl)
theorem w78 {Z : State} {a0 : Array Value} (hw : ∀ d ∈ tables_1, d.before a0 Z = true) : (Jvm.Cond.interfaceMethod "java/util/Collection" "java/util/Collection" "isEmpty" "()Z").before a0 Z = true := hw _ (List.mem_of_getElem? (i := 78) rfl)
theorem w80 {Z : State} {a0 : Array Value} (hw : ∀ d ∈ tables_1, d.before a0 Z = true) : (Jvm.Cond.instanceMethod ({ cls := cn2, name := "isEmpty", desc := "()Z" } : Jvm.MethodName)).before a0 Z = true := hw _ (List.mem_of_getElem? (i := 80) rfl)
theorem w81 {Z : State} {a0 : Array Value} (hw : ∀ d ∈ tables_1, d.before a0 Z = true) : (Jvm.Cond.publicMethod ({ cls := cn2, name := "isEmpty", desc := "()Z" } : Jvm.MethodName)).before a0 Z = true := hw _ (List.mem_of_getElem? (i := 81) rfl)
theorem w82 {Z : State} {a0 : Array Value} (hw : ∀ d ∈ tables_1, d.before a0 Z = true) : (Jvm.Cond.unhidden cn2 "isEmpty" "()Z").before a0 Z = true := hw _ (List.mem_of_getElem? (i := 82) rfl)
theorem w83 {Z : State} {a0 : Array Value} (hw : ∀ d ∈ tables_1, d.before a0 Z = true) : (Jvm.Cond.castable cn2 "java/util/Collection").before a0 Z = true := hw _ (List.mem_of_getElem? (i := 83) rfl)
theorem d12_37 : decode jdk_56_method_3_code 37 = .ok (.ifCond .eq 7, 3) := by decide +kernel
theorem d12_40 : decode jdk_56_method_3_code 40 = .ok (.invokestatic 26, 3) := by decide +kernel
theorem w87 {Z : State} {a0 : Array Value} (hw : ∀ d ∈ tables_1, d.before a0 Z = true) : (Jvm.Cond.methodLink cn9 (26 : Nat) ({ cls := "java/util/List", name := "of", desc := "()Ljava/util/List;" } : Jvm.MethodName)).before a0 Z = true := hw _ (List.mem_of_getElem? (i := 87) rfl)
theorem d14_0 : decode jdk_40_method_36_code 0 = .ok (.getstatic 90, 3) := by decide +kernel
theorem w90 {Z : State} {a0 : Array Value} (hw : ∀ d ∈ tables_1, d.before a0 Z = true) : (Jvm.Cond.fieldLink "java/util/List" (90 : Nat) cn9 "EMPTY_LIST" "Ljava/util/ImmutableCollections$ListN;").before a0 Z = true := hw _ (List.mem_of_getElem? (i := 90) rfl)
theorem d14_3 : decode jdk_40_method_36_code 3 = .ok (.areturn, 1) := by decide +kernel
def Q_r30_of (Z : State) (ov14 : Addr) (h0 : Heap) (n0 : Nat) (v : Option Value) (h : Heap) (L : List Loc) : Prop := Fr n0 L ∧ h = h0 ∧ ((v = some (.ref ov14)))
theorem pn_java_util_List : plainName "java/util/List" = true := by first | (simp [plainName, overriddenIn]; done) | decide +kernel
set_option maxRecDepth 65536 in
set_option maxHeartbeats 40000000 in
theorem r30_of (l : Launch) (Z : State) (a0 : Array Value) (hw : ∀ d ∈ tables_1, d.before a0 Z = true) (ws : List Jvm.Cond) (ov14 : Addr) (h0 : Heap) (n0 : Nat) (O0 : Old Z n0 h0) (oS16 : Sta Z Z.heap cn9 "EMPTY_LIST" "Ljava/util/ImmutableCollections$ListN;" (.ref ov14)) :
    MetFree l (⟨"java/util/List", "of", "()Ljava/util/List;"⟩ : MethodName) (head1 (Jvm.Cond.code (⟨"java/util/List", "of", "()Ljava/util/List;"⟩ : MethodName) jdk_40_method_36_code 0 (some (.object "java/util/List")) :: ws) ({ frames := 0, cells := 0, slots := 0, locals := 0 } : Room)) (fun a U => a = #[] ∧ Z.Warmed39 U.vm ∧ U.heap = h0) (fun _ _ _ _ _ => True) (fun _ U o U' => ∃ v L, o = .returned v ∧ Q_r30_of Z ov14 h0 n0 v U'.heap L ∧ FrameEnd U o U' L ({ frames := 0, cells := 0, slots := 0, locals := 0 } : Room).cells ({ frames := 0, cells := 0, slots := 0, locals := 0 } : Room).slots) := by
  refine MetFree.of_bodySF (plainFor_of_name pn_java_util_List) hisR ?_
  intro p e s m args below meth c s₁ Bd hml0 hP hK
  obtain ⟨rfl, hZ, hh⟩ := hP
  have hx := Bd.exec
  have hby := Bd.bytes
  have hlk := Bd.notSynchronized
  have hml : c.maxLocals = 0 := hml0
  have hown : s.vm.findClass "java/util/List" = some m.cls := findClass_of_methodNamed Bd.named
  have hnm := (name_of_methodNamed Bd.named Bd.method).1
  have X0 : Stand p l e ({ frames := 0, cells := 0, slots := 0, locals := 0 } : Room) s m #[] below meth c s₁ [] 0 0 := Stand.of_body Bd
  have e0 : s₁.heap = h0 := by rw [← hh, Bd.state]; rfl
  have N0 := Fr.nil n0
  have K0 := Keep.refl h0 []
  have Z0 : n0 ≤ h0.size := O0.1 ▸ O0.2.1
  have hef : entryFrame m #[] 0 = mkF m 0 #[] [] := by first | (simp [entryFrame, mkF, argsToLocals, Value.category]; done) | rfl
  rw [hef]
  refine Gets.out (Q := Q_r30_of Z ov14 h0 n0) ?_
  show Gets p e below _ (s₁.setTop (mkF m 0 #[] []))
  obtain ⟨T1, X1, e1, st1⟩ := getS2 X0 hx hZ hown (host := "") (Or.inl (w90 hw)) Via.refl e0 (oS16.ext O0.2) (g := (mkF m 0 #[] [])) rfl (hb hby d14_0)
  refine Gets.of st1 ?_
  show Gets p e below _ (T1.setTop (mkF m 3 #[] [(.ref ov14)]))
  refine Gets.retA X1 hx Bd.returns rfl rfl (hb hby d14_3) ?_ (by decide) (by decide)
  rw [e1]
  exact ⟨N0, rfl, rfl⟩
theorem w89 {Z : State} {a0 : Array Value} (hw : ∀ d ∈ tables_1, d.before a0 Z = true) : (Jvm.Cond.code ({ cls := "java/util/List", name := "of", desc := "()Ljava/util/List;" } : Jvm.MethodName) jdk_40_method_36_code (0 : Nat) (Option.some (Jvm.ClassFile.FieldType.object "java/util/List"))).before a0 Z = true := hw _ (List.mem_of_getElem? (i := 89) rfl)
theorem w64 {Z : State} {a0 : Array Value} (hw : ∀ d ∈ tables_1, d.before a0 Z = true) : (Jvm.Cond.initialized "java/util/List").before a0 Z = true := hw _ (List.mem_of_getElem? (i := 64) rfl)
theorem pd__Ljava_util_List_ : parseMethodDescriptor "()Ljava/util/List;" = some ⟨[], some (.object "java/util/List")⟩ := by decide +kernel
theorem w88 {Z : State} {a0 : Array Value} (hw : ∀ d ∈ tables_1, d.before a0 Z = true) : (Jvm.Cond.static ({ cls := "java/util/List", name := "of", desc := "()Ljava/util/List;" } : Jvm.MethodName)).before a0 Z = true := hw _ (List.mem_of_getElem? (i := 88) rfl)
theorem d12_43 : decode jdk_56_method_3_code 43 = .ok (.areturn, 1) := by decide +kernel
def Q_r28_listCopy (Z : State) (ya1 : Addr) (ov14 : Addr) (h0 : Heap) (n0 : Nat) (v : Option Value) (h : Heap) (L : List Loc) : Prop := Fr n0 L ∧ h = h0 ∧ ((v = some (.ref ov14)))
theorem pn_java_util_ImmutableCollections : plainName "java/util/ImmutableCollections" = true := by first | (simp [plainName, overriddenIn]; done) | decide +kernel
set_option maxRecDepth 65536 in
set_option maxHeartbeats 40000000 in
theorem r28_listCopy (l : Launch) (Z : State) (a0 : Array Value) (hw : ∀ d ∈ tables_1, d.before a0 Z = true) (ws : List Jvm.Cond) (ya1 : Addr) (ov14 : Addr) (h0 : Heap) (n0 : Nat) (O0 : Old Z n0 h0) (F0 : Exa Z h0 ya1 cn2) (F1 : Fld Z h0 ya1 cn2 "size" "I" (.int (0 : Int32))) (oS16 : Sta Z Z.heap cn9 "EMPTY_LIST" "Ljava/util/ImmutableCollections$ListN;" (.ref ov14)) :
    MetFree l (⟨cn9, "listCopy", cn14⟩ : MethodName) (head1 (Jvm.Cond.code (⟨cn9, "listCopy", cn14⟩ : MethodName) jdk_56_method_3_code 2 (some (.object "java/util/List")) :: ws) ({ frames := 1, cells := 0, slots := 0, locals := 12 } : Room)) (fun a U => a = #[(.ref ya1)] ∧ Z.Warmed39 U.vm ∧ U.heap = h0) (fun _ _ _ _ _ => True) (fun _ U o U' => ∃ v L, o = .returned v ∧ Q_r28_listCopy Z ya1 ov14 h0 n0 v U'.heap L ∧ FrameEnd U o U' L ({ frames := 1, cells := 0, slots := 0, locals := 12 } : Room).cells ({ frames := 1, cells := 0, slots := 0, locals := 12 } : Room).slots) := by
  refine MetFree.of_bodySF (plainFor_of_name pn_java_util_ImmutableCollections) hisR ?_
  intro p e s m args below meth c s₁ Bd hml0 hP hK
  obtain ⟨rfl, hZ, hh⟩ := hP
  have hx := Bd.exec
  have hby := Bd.bytes
  have hlk := Bd.notSynchronized
  have hml : c.maxLocals = 2 := hml0
  have hown : s.vm.findClass cn9 = some m.cls := findClass_of_methodNamed Bd.named
  have hnm := (name_of_methodNamed Bd.named Bd.method).1
  have X0 : Stand p l e ({ frames := 1, cells := 0, slots := 0, locals := 12 } : Room) s m #[(.ref ya1)] below meth c s₁ [] 0 0 := Stand.of_body Bd
  have e0 : s₁.heap = h0 := by rw [← hh, Bd.state]; rfl
  have N0 := Fr.nil n0
  have K0 := Keep.refl h0 []
  have Z0 : n0 ≤ h0.size := O0.1 ▸ O0.2.1
  have hef : entryFrame m #[(.ref ya1)] 2 = mkF m 0 #[.val (.ref ya1), .unset] [] := by first | (simp [entryFrame, mkF, argsToLocals, Value.category]; done) | rfl
  rw [hef]
  refine Gets.out (Q := Q_r28_listCopy Z ya1 ov14 h0 n0) ?_
  show Gets p e below _ (s₁.setTop (mkF m 0 #[.val (.ref ya1), .unset] []))
  refine Gets.of (fun t k => XS.aloadN X0.here hx rfl (hb hby d12_0) rfl rfl  k) ?_
  obtain ⟨T1, X1, e1, st1⟩ := instNo X0 hx hZ hown (w70 hw) e0 F0 (own_NS_no (w71 hw) (w215 hw) (NS.step (w71 hw) (NS.step (w72 hw) (NS.step (w73 hw) (own_NS_root (w74 hw) (w215 hw) (by decide)) (by decide)) (by decide)) (by decide)) (by decide)) (g := (mkF m 1 #[.val (.ref ya1), .unset] [(.ref ya1)])) rfl rfl (hb hby d12_1)
  refine Gets.of st1 ?_
  show Gets p e below _ (T1.setTop (mkF m 4 #[.val (.ref ya1), .unset] [(.int (0 : Int32))]))
  refine Gets.of (fun t k => XS.ifNo X1.here hx rfl (hb hby d12_4) rfl ((if0 _ _).trans (teq (by decide : (0 : Int32) = (0 : Int32))).2) k) ?_
  show Gets p e below _ (T1.setTop (mkF m 7 #[.val (.ref ya1), .unset] []))
  refine Gets.of (fun t k => XS.aloadN X1.here hx rfl (hb hby d12_7) rfl rfl  k) ?_
  obtain ⟨T2, X2, e2, st2⟩ := instNo X1 hx hZ hown (w75 hw) e1 F0 (NS.no (w71 hw) (w248 hw) (NS.step (w71 hw) (NS.step (w72 hw) (NS.step (w73 hw) (NS.root (w74 hw) (w248 hw) (by decide)) (by decide)) (by decide)) (by decide)) (by decide)) (g := (mkF m 8 #[.val (.ref ya1), .unset] [(.ref ya1)])) rfl rfl (hb hby d12_8)
  refine Gets.of st2 ?_
  show Gets p e below _ (T2.setTop (mkF m 11 #[.val (.ref ya1), .unset] [(.int (0 : Int32))]))
  refine Gets.of (fun t k => XS.ifYes X2.here hx rfl (pc0 := 11) (pc' := 31) rfl (hb hby d12_11) rfl ((if0 _ _).trans (teq (by decide : (0 : Int32) = (0 : Int32))).1) (by decide) (by decide) k) ?_
  show Gets p e below _ (T2.setTop (mkF m 31 #[.val (.ref ya1), .unset] []))
  refine Gets.of (fun t k => XS.aloadN X2.here hx rfl (hb hby d12_31) rfl rfl  k) ?_
  obtain ⟨cq3, kq3, q3a, q3b, q3c⟩ := isOf hZ e2 F0
  obtain ⟨_, _, ⟨T3, L3, k3, n3⟩, -, X3, ⟨Lc3, hQ3, l3, y3, z3⟩, st3⟩ := X2.interfaceBack hx (xi := (⟨"java/util/Collection", "isEmpty", "()Z"⟩ : MethodName)) (y := (⟨cn2, "isEmpty", "()Z"⟩ : MethodName)) hown (mvT hZ (w76 hw)) (mvT hZ (w77 hw)) (mvT hZ (w78 hw)) (mvT hZ (w79 hw)) (mvT hZ (w80 hw)) (mvT hZ (w81 hw)) (mvT hZ (w82 hw)) (mvT hZ (w83 hw)) (by decide) (backOf (W := 0) (r29_isEmpty l Z a0 hw [] ya1 h0 n0 O0 F1) hZ (w84 hw) (w28 hw) (by decide) (by decide)) q3a q3b q3c (g := (mkF m 32 #[.val (.ref ya1), .unset] [(.ref ya1)])) rfl (by rw [hml]; rfl) (Steps.refl _) (argsL := []) (rest := []) (lenOf pd__Z rfl) rfl (by show 2 * 0 + _ ≤ _; exact Nat.le_of_eq rfl) (hb hby d12_32) (fun _ _ => ⟨rfl, e2, (by decide : 0 + 0 ≤ _), (by decide : 0 + 0 ≤ _)⟩)
  dsimp only [Pt.U, Pt.locs, Pt.cells, Pt.slots] at X3 l3 y3 z3 st3 hQ3
  subst l3 y3 z3
  obtain ⟨Nq3, eq3, hR3⟩ := hQ3
  have N3 := Fr.app N0 Nq3
  obtain rfl := hR3
  refine Gets.tr st3 ?_
  show Gets p e below _ (T3.setTop (mkF m 37 #[.val (.ref ya1), .unset] [(.int (1 : Int32))]))
  refine Gets.of (fun t k => XS.ifNo X3.here hx rfl (hb hby d12_37) rfl ((if0 _ _).trans (feq (by decide : ¬ ((1 : Int32) = (0 : Int32)))).1) k) ?_
  show Gets p e below _ (T3.setTop (mkF m 40 #[.val (.ref ya1), .unset] []))
  obtain ⟨_, _, ⟨T4, L4, k4, n4⟩, -, X4, ⟨Lc4, hQ4, l4, y4, z4⟩, st4⟩ := Jvm.LawKit.callS X3 hx (y := (⟨"java/util/List", "of", "()Ljava/util/List;"⟩ : MethodName)) hown (mvT hZ (w87 hw)) (mvT hZ (w88 hw)) (mvT hZ (w64 hw)) (mvT hZ (w89 hw)) (by decide) (backOf (W := 0) (r30_of l Z a0 hw [] ov14 h0 n0 O0 oS16) hZ (w89 hw) (w64 hw) (by decide) (by decide)) (g := (mkF m 40 #[.val (.ref ya1), .unset] [])) rfl (by rw [hml]; rfl) (argsL := []) (rest := []) (lenOf pd__Ljava_util_List_ rfl) rfl (by show 2 * 0 + _ ≤ _; exact Nat.le_of_eq rfl) (hb hby d12_40) (fun _ _ => ⟨rfl, eq3, (by decide : 0 + 0 ≤ _), (by decide : 0 + 0 ≤ _)⟩)
  dsimp only [Pt.U, Pt.locs, Pt.cells, Pt.slots] at X4 l4 y4 z4 st4 hQ4
  subst l4 y4 z4
  obtain ⟨Nq4, eq4, hR4⟩ := hQ4
  have N4 := Fr.app N3 Nq4
  obtain rfl := hR4
  refine Gets.of st4 ?_
  show Gets p e below _ (T4.setTop (mkF m 43 #[.val (.ref ya1), .unset] [(.ref ov14)]))
  refine Gets.retA X4 hx Bd.returns rfl rfl (hb hby d12_43) ?_ (by decide) (by decide)
  rw [eq4]
  exact ⟨N4, rfl, rfl⟩
theorem w69 {Z : State} {a0 : Array Value} (hw : ∀ d ∈ tables_1, d.before a0 Z = true) : (Jvm.Cond.code ({ cls := cn9, name := "listCopy", desc := cn14 } : Jvm.MethodName) jdk_56_method_3_code (2 : Nat) (Option.some (Jvm.ClassFile.FieldType.object "java/util/List"))).before a0 Z = true := hw _ (List.mem_of_getElem? (i := 69) rfl)
theorem w68 {Z : State} {a0 : Array Value} (hw : ∀ d ∈ tables_1, d.before a0 Z = true) : (Jvm.Cond.initialized cn9).before a0 Z = true := hw _ (List.mem_of_getElem? (i := 68) rfl)
theorem pd__Ljava_util_Collection_Ljava_util_List_ : parseMethodDescriptor "(Ljava/util/Collection;)Ljava/util/List;" = some ⟨[(.object "java/util/Collection")], some (.object "java/util/List")⟩ := by decide +kernel
theorem w67 {Z : State} {a0 : Array Value} (hw : ∀ d ∈ tables_1, d.before a0 Z = true) : (Jvm.Cond.static ({ cls := cn9, name := "listCopy", desc := cn14 } : Jvm.MethodName)).before a0 Z = true := hw _ (List.mem_of_getElem? (i := 67) rfl)
theorem d11_4 : decode jdk_40_method_48_code 4 = .ok (.areturn, 1) := by decide +kernel
def Q_r27_copyOf (Z : State) (ya1 : Addr) (ov14 : Addr) (h0 : Heap) (n0 : Nat) (v : Option Value) (h : Heap) (L : List Loc) : Prop := Fr n0 L ∧ h = h0 ∧ ((v = some (.ref ov14)))
set_option maxRecDepth 65536 in
set_option maxHeartbeats 40000000 in
theorem r27_copyOf (l : Launch) (Z : State) (a0 : Array Value) (hw : ∀ d ∈ tables_1, d.before a0 Z = true) (ws : List Jvm.Cond) (ya1 : Addr) (ov14 : Addr) (h0 : Heap) (n0 : Nat) (O0 : Old Z n0 h0) (F0 : Exa Z h0 ya1 cn2) (F1 : Fld Z h0 ya1 cn2 "size" "I" (.int (0 : Int32))) (oS16 : Sta Z Z.heap cn9 "EMPTY_LIST" "Ljava/util/ImmutableCollections$ListN;" (.ref ov14)) :
    MetFree l (⟨"java/util/List", "copyOf", cn14⟩ : MethodName) (head1 (Jvm.Cond.code (⟨"java/util/List", "copyOf", cn14⟩ : MethodName) jdk_40_method_48_code 1 (some (.object "java/util/List")) :: ws) ({ frames := 2, cells := 0, slots := 0, locals := 25 } : Room)) (fun a U => a = #[(.ref ya1)] ∧ Z.Warmed39 U.vm ∧ U.heap = h0) (fun _ _ _ _ _ => True) (fun _ U o U' => ∃ v L, o = .returned v ∧ Q_r27_copyOf Z ya1 ov14 h0 n0 v U'.heap L ∧ FrameEnd U o U' L ({ frames := 2, cells := 0, slots := 0, locals := 25 } : Room).cells ({ frames := 2, cells := 0, slots := 0, locals := 25 } : Room).slots) := by
  refine MetFree.of_bodySF (plainFor_of_name pn_java_util_List) hisR ?_
  intro p e s m args below meth c s₁ Bd hml0 hP hK
  obtain ⟨rfl, hZ, hh⟩ := hP
  have hx := Bd.exec
  have hby := Bd.bytes
  have hlk := Bd.notSynchronized
  have hml : c.maxLocals = 1 := hml0
  have hown : s.vm.findClass "java/util/List" = some m.cls := findClass_of_methodNamed Bd.named
  have hnm := (name_of_methodNamed Bd.named Bd.method).1
  have X0 : Stand p l e ({ frames := 2, cells := 0, slots := 0, locals := 25 } : Room) s m #[(.ref ya1)] below meth c s₁ [] 0 0 := Stand.of_body Bd
  have e0 : s₁.heap = h0 := by rw [← hh, Bd.state]; rfl
  have N0 := Fr.nil n0
  have K0 := Keep.refl h0 []
  have Z0 : n0 ≤ h0.size := O0.1 ▸ O0.2.1
  have hef : entryFrame m #[(.ref ya1)] 1 = mkF m 0 #[.val (.ref ya1)] [] := by first | (simp [entryFrame, mkF, argsToLocals, Value.category]; done) | rfl
  rw [hef]
  refine Gets.out (Q := Q_r27_copyOf Z ya1 ov14 h0 n0) ?_
  show Gets p e below _ (s₁.setTop (mkF m 0 #[.val (.ref ya1)] []))
  refine Gets.of (fun t k => XS.aloadN X0.here hx rfl (hb hby d11_0) rfl rfl  k) ?_
  obtain ⟨_, _, ⟨T1, L1, k1, n1⟩, -, X1, ⟨Lc1, hQ1, l1, y1, z1⟩, st1⟩ := Jvm.LawKit.callS X0 hx (y := (⟨cn9, "listCopy", cn14⟩ : MethodName)) hown (mvT hZ (w66 hw)) (mvT hZ (w67 hw)) (mvT hZ (w68 hw)) (mvT hZ (w69 hw)) (by decide) (backOf (W := 0) (r28_listCopy l Z a0 hw [] ya1 ov14 h0 n0 O0 F0 F1 oS16) hZ (w69 hw) (w68 hw) (by decide) (by decide)) (g := (mkF m 1 #[.val (.ref ya1)] [(.ref ya1)])) rfl (by rw [hml]; rfl) (argsL := [(.ref ya1)]) (rest := []) (lenOf pd__Ljava_util_Collection_Ljava_util_List_ rfl) rfl (by show 2 * 0 + _ ≤ _; exact Nat.le_of_eq rfl) (hb hby d11_1) (fun _ _ => ⟨rfl, e0, (by decide : 0 + 0 ≤ _), (by decide : 0 + 0 ≤ _)⟩)
  dsimp only [Pt.U, Pt.locs, Pt.cells, Pt.slots] at X1 l1 y1 z1 st1 hQ1
  subst l1 y1 z1
  obtain ⟨Nq1, eq1, hR1⟩ := hQ1
  have N1 := Fr.app N0 Nq1
  obtain rfl := hR1
  refine Gets.of st1 ?_
  show Gets p e below _ (T1.setTop (mkF m 4 #[.val (.ref ya1)] [(.ref ov14)]))
  refine Gets.retA X1 hx Bd.returns rfl rfl (hb hby d11_4) ?_ (by decide) (by decide)
  rw [eq1]
  exact ⟨N1, rfl, rfl⟩
theorem w65 {Z : State} {a0 : Array Value} (hw : ∀ d ∈ tables_1, d.before a0 Z = true) : (Jvm.Cond.code ({ cls := "java/util/List", name := "copyOf", desc := cn14 } : Jvm.MethodName) jdk_40_method_48_code (1 : Nat) (Option.some (Jvm.ClassFile.FieldType.object "java/util/List"))).before a0 Z = true := hw _ (List.mem_of_getElem? (i := 65) rfl)
theorem w63 {Z : State} {a0 : Array Value} (hw : ∀ d ∈ tables_1, d.before a0 Z = true) : (Jvm.Cond.static ({ cls := "java/util/List", name := "copyOf", desc := cn14 } : Jvm.MethodName)).before a0 Z = true := hw _ (List.mem_of_getElem? (i := 63) rfl)
theorem d9_9 : decode prog_51_method_1_code 9 = .ok (.astore 4, 2) := by decide +kernel
theorem d9_11 : decode prog_51_method_1_code 11 = .ok (.aload_n 0, 1) := by decide +kernel
theorem d9_12 : decode prog_51_method_1_code 12 = .ok (.iload_n 1, 1) := by decide +kernel
theorem d9_13 : decode prog_51_method_1_code 13 = .ok (.putfield 13, 3) := by decide +kernel
theorem w91 {Z : State} {a0 : Array Value} (hw : ∀ d ∈ tables_1, d.before a0 Z = true) : (Jvm.Cond.fieldLink cn1 (13 : Nat) cn1 "number" "I").before a0 Z = true := hw _ (List.mem_of_getElem? (i := 91) rfl)
theorem d9_16 : decode prog_51_method_1_code 16 = .ok (.aload_n 0, 1) := by decide +kernel
theorem d9_17 : decode prog_51_method_1_code 17 = .ok (.aload_n 2, 1) := by decide +kernel
theorem d9_18 : decode prog_51_method_1_code 18 = .ok (.putfield 19, 3) := by decide +kernel
theorem w93 {Z : State} {a0 : Array Value} (hw : ∀ d ∈ tables_1, d.before a0 Z = true) : (Jvm.Cond.fieldLink cn1 (19 : Nat) cn1 "location" cn4).before a0 Z = true := hw _ (List.mem_of_getElem? (i := 93) rfl)
theorem d9_21 : decode prog_51_method_1_code 21 = .ok (.aload_n 0, 1) := by decide +kernel
theorem d9_22 : decode prog_51_method_1_code 22 = .ok (.aload_n 3, 1) := by decide +kernel
theorem d9_23 : decode prog_51_method_1_code 23 = .ok (.putfield 23, 3) := by decide +kernel
theorem w95 {Z : State} {a0 : Array Value} (hw : ∀ d ∈ tables_1, d.before a0 Z = true) : (Jvm.Cond.fieldLink cn1 (23 : Nat) cn1 "source" cn4).before a0 Z = true := hw _ (List.mem_of_getElem? (i := 95) rfl)
theorem d9_26 : decode prog_51_method_1_code 26 = .ok (.aload_n 0, 1) := by decide +kernel
theorem d9_27 : decode prog_51_method_1_code 27 = .ok (.aload 4, 2) := by decide +kernel
theorem d9_29 : decode prog_51_method_1_code 29 = .ok (.putfield 26, 3) := by decide +kernel
theorem w97 {Z : State} {a0 : Array Value} (hw : ∀ d ∈ tables_1, d.before a0 Z = true) : (Jvm.Cond.fieldLink cn1 (26 : Nat) cn1 "values" cn12).before a0 Z = true := hw _ (List.mem_of_getElem? (i := 97) rfl)
theorem d9_32 : decode prog_51_method_1_code 32 = .ok (.aload_n 0, 1) := by decide +kernel
theorem d9_33 : decode prog_51_method_1_code 33 = .ok (.aload 5, 2) := by decide +kernel
theorem d9_35 : decode prog_51_method_1_code 35 = .ok (.putfield 30, 3) := by decide +kernel
theorem w99 {Z : State} {a0 : Array Value} (hw : ∀ d ∈ tables_1, d.before a0 Z = true) : (Jvm.Cond.fieldLink cn1 (30 : Nat) cn1 "problem" cn4).before a0 Z = true := hw _ (List.mem_of_getElem? (i := 99) rfl)
theorem d9_38 : decode prog_51_method_1_code 38 = .ok (.return_, 1) := by decide +kernel
def Q_r25_init (Z : State) (ya1 : Addr) (yi2 : Int32) (yv3 : Value) (yv4 : Value) (ya5 : Addr) (yv6 : Value) (ov14 : Addr) (h0 : Heap) (n0 : Nat) (v : Option Value) (h : Heap) (L : List Loc) : Prop := Fr n0 L ∧ Keep h0 h [ya1] ∧ ((v = none ∧ Fld Z h ya1 cn1 "number" "I" (.int yi2) ∧ Fld Z h ya1 cn1 "location" cn4 yv3 ∧ Fld Z h ya1 cn1 "source" cn4 yv4 ∧ Fld Z h ya1 cn1 "values" cn12 (.ref ov14) ∧ Fld Z h ya1 cn1 "problem" cn4 yv6))
theorem pn_com_example_causeway_causeway_formats_OaiDcUnit : plainName "com/example/causeway/causeway/formats/OaiDcUnit" = true := by first | (simp [plainName, overriddenIn]; done) | decide +kernel
set_option maxRecDepth 65536 in
set_option maxHeartbeats 40000000 in
theorem r25_init (l : Launch) (Z : State) (a0 : Array Value) (hw : ∀ d ∈ tables_1, d.before a0 Z = true) (ws : List Jvm.Cond) (ya1 : Addr) (yi2 : Int32) (yv3 : Value) (yv4 : Value) (ya5 : Addr) (yv6 : Value) (ov14 : Addr) (h0 : Heap) (n0 : Nat) (O0 : Old Z n0 h0) (F0 : Exa Z h0 ya5 cn2) (F1 : Fld Z h0 ya5 cn2 "size" "I" (.int (0 : Int32))) (F2 : Exa Z h0 ya1 cn1) (F3 : Fld Z h0 ya1 cn1 "number" "I" (.int (0 : Int32))) (F4 : Fld Z h0 ya1 cn1 "location" cn4 .null) (F5 : Fld Z h0 ya1 cn1 "source" cn4 .null) (F6 : Fld Z h0 ya1 cn1 "values" cn12 .null) (F7 : Fld Z h0 ya1 cn1 "problem" cn4 .null) (oS16 : Sta Z Z.heap cn9 "EMPTY_LIST" "Ljava/util/ImmutableCollections$ListN;" (.ref ov14)) (gq_ya1 : n0 ≤ ya1) (hy1 : yv3.isRef = true) (hy2 : yv4.isRef = true) (hy3 : yv6.isRef = true) :
    MetFree l (⟨cn1, "<init>", cn16⟩ : MethodName) (head1 (Jvm.Cond.code (⟨cn1, "<init>", cn16⟩ : MethodName) prog_51_method_1_code 6 none :: ws) ({ frames := 3, cells := 0, slots := 0, locals := 37 } : Room)) (fun a U => a = #[(.ref ya1), (.int yi2), yv3, yv4, (.ref ya5), yv6] ∧ Z.Warmed39 U.vm ∧ U.heap = h0) (fun _ _ _ _ _ => True) (fun _ U o U' => ∃ v L, o = .returned v ∧ Q_r25_init Z ya1 yi2 yv3 yv4 ya5 yv6 ov14 h0 n0 v U'.heap L ∧ FrameEnd U o U' L ({ frames := 3, cells := 0, slots := 0, locals := 37 } : Room).cells ({ frames := 3, cells := 0, slots := 0, locals := 37 } : Room).slots) := by
  refine MetFree.of_bodySF (plainFor_of_name pn_com_example_causeway_causeway_formats_OaiDcUnit) hisR ?_
  intro p e s m args below meth c s₁ Bd hml0 hP hK
  obtain ⟨rfl, hZ, hh⟩ := hP
  have hx := Bd.exec
  have hby := Bd.bytes
  have hlk := Bd.notSynchronized
  have hml : c.maxLocals = 6 := hml0
  have hown : s.vm.findClass cn1 = some m.cls := findClass_of_methodNamed Bd.named
  have hnm := (name_of_methodNamed Bd.named Bd.method).1
  have X0 : Stand p l e ({ frames := 3, cells := 0, slots := 0, locals := 37 } : Room) s m #[(.ref ya1), (.int yi2), yv3, yv4, (.ref ya5), yv6] below meth c s₁ [] 0 0 := Stand.of_body Bd
  have e0 : s₁.heap = h0 := by rw [← hh, Bd.state]; rfl
  have N0 := Fr.nil n0
  have K0 := Keep.refl h0 [ya1]
  have Z0 : n0 ≤ h0.size := O0.1 ▸ O0.2.1
  have hef : entryFrame m #[(.ref ya1), (.int yi2), yv3, yv4, (.ref ya5), yv6] 6 = mkF m 0 #[.val (.ref ya1), .val (.int yi2), .val yv3, .val yv4, .val (.ref ya5), .val yv6] [] := by first | (simp [entryFrame, mkF, argsToLocals, own_cI, own_cJ, own_cR, own_cN, own_cF, own_cD, own_catR hy1, own_catR hy2, own_catR hy3]; done) | rfl
  rw [hef]
  refine Gets.out (Q := Q_r25_init Z ya1 yi2 yv3 yv4 ya5 yv6 ov14 h0 n0) ?_
  show Gets p e below _ (s₁.setTop (mkF m 0 #[.val (.ref ya1), .val (.int yi2), .val yv3, .val yv4, .val (.ref ya5), .val yv6] []))
  refine Gets.of (fun t k => XS.aloadN X0.here hx rfl (hb hby d9_0) rfl rfl  k) ?_
  obtain ⟨_, _, ⟨T1, L1, k1, n1⟩, -, X1, ⟨Lc1, hQ1, l1, y1, z1⟩, st1⟩ := X0.specialBack hx (y := (⟨"java/lang/Record", "<init>", "()V"⟩ : MethodName)) rfl hown (mvT hZ (w56 hw)) (mvT hZ (w57 hw)) (mvT hZ (w60 hw)) (by decide) (backOf (W := 0) (r26_init l Z a0 hw [] ya1 h0 n0 O0) hZ (w60 hw) (w59 hw) (by decide) (by decide)) (g := (mkF m 1 #[.val (.ref ya1), .val (.int yi2), .val yv3, .val yv4, .val (.ref ya5), .val yv6] [(.ref ya1)])) rfl (by rw [hml]; rfl) (Steps.refl _) (a := ya1) (argsL := []) (rest := []) (lenOf pd__V rfl) rfl (by show 2 * 0 + _ ≤ _; exact Nat.le_of_eq rfl) (hb hby d9_1) (fun _ _ => ⟨rfl, e0, (by decide : 0 + 0 ≤ _), (by decide : 0 + 0 ≤ _)⟩)
  dsimp only [Pt.U, Pt.locs, Pt.cells, Pt.slots] at X1 l1 y1 z1 st1 hQ1
  subst l1 y1 z1
  obtain ⟨Nq1, eq1, hR1⟩ := hQ1
  have N1 := Fr.app N0 Nq1
  obtain rfl := hR1
  refine Gets.tr st1 ?_
  show Gets p e below _ (T1.setTop (mkF m 4 #[.val (.ref ya1), .val (.int yi2), .val yv3, .val yv4, .val (.ref ya5), .val yv6] []))
  refine Gets.of (fun t k => XS.aload X1.here hx rfl (hb hby d9_4) rfl rfl  k) ?_
  obtain ⟨_, _, ⟨T2, L2, k2, n2⟩, -, X2, ⟨Lc2, hQ2, l2, y2, z2⟩, st2⟩ := Jvm.LawKit.callS X1 hx (y := (⟨"java/util/List", "copyOf", cn14⟩ : MethodName)) hown (mvT hZ (w62 hw)) (mvT hZ (w63 hw)) (mvT hZ (w64 hw)) (mvT hZ (w65 hw)) (by decide) (backOf (W := 0) (r27_copyOf l Z a0 hw [] ya5 ov14 h0 n0 O0 F0 F1 oS16) hZ (w65 hw) (w64 hw) (by decide) (by decide)) (g := (mkF m 6 #[.val (.ref ya1), .val (.int yi2), .val yv3, .val yv4, .val (.ref ya5), .val yv6] [(.ref ya5)])) rfl (by rw [hml]; rfl) (argsL := [(.ref ya5)]) (rest := []) (lenOf pd__Ljava_util_Collection_Ljava_util_List_ rfl) rfl (by show 2 * 0 + _ ≤ _; exact Nat.le_of_eq rfl) (hb hby d9_6) (fun _ _ => ⟨rfl, eq1, (by decide : 0 + 0 ≤ _), (by decide : 0 + 0 ≤ _)⟩)
  dsimp only [Pt.U, Pt.locs, Pt.cells, Pt.slots] at X2 l2 y2 z2 st2 hQ2
  subst l2 y2 z2
  obtain ⟨Nq2, eq2, hR2⟩ := hQ2
  have N2 := Fr.app N1 Nq2
  obtain rfl := hR2
  refine Gets.of st2 ?_
  show Gets p e below _ (T2.setTop (mkF m 9 #[.val (.ref ya1), .val (.int yi2), .val yv3, .val yv4, .val (.ref ya5), .val yv6] [(.ref ov14)]))
  refine Gets.of (fun t k => XS.astore X2.here hx rfl (hb hby d9_9) rfl rfl (l' := #[.val (.ref ya1), .val (.int yi2), .val yv3, .val yv4, .val (.ref ov14), .val yv6]) rfl k) ?_
  show Gets p e below _ (T2.setTop (mkF m 11 #[.val (.ref ya1), .val (.int yi2), .val yv3, .val yv4, .val (.ref ov14), .val yv6] []))
  refine Gets.of (fun t k => XS.aloadN X2.here hx rfl (hb hby d9_11) rfl rfl  k) ?_
  refine Gets.of (fun t k => XS.iloadN X2.here hx rfl (hb hby d9_12) rfl  k) ?_
  obtain ⟨T3, h3, X3, e3, W3, st3⟩ := putF X2 hx hZ hown (host := "") (Or.inl (w91 hw)) Via.refl eq2 F3 F2 (Or.inr ⟨(w92 hw), rfl, hnm⟩) (w51 hw) (ty := .int) (by decide) rfl rfl (g := (mkF m 13 #[.val (.ref ya1), .val (.int yi2), .val yv3, .val yv4, .val (.ref ov14), .val yv6] [(.int yi2), (.ref ya1)])) rfl rfl (hb hby d9_13)
  have N3 := Fr.snoc X3 N2 gq_ya1
  have Fw3 : Fld Z h3 ya1 cn1 "number" "I" (.int yi2) := (F3).same W3
  have K4 : Keep h0 _ [ya1] := K0.wr W3 (Or.inl (by simp))
  have O4 := O0.wr W3 gq_ya1
  refine Gets.of st3 ?_
  show Gets p e below _ (T3.setTop (mkF m 16 #[.val (.ref ya1), .val (.int yi2), .val yv3, .val yv4, .val (.ref ov14), .val yv6] []))
  refine Gets.of (fun t k => XS.aloadN X3.here hx rfl (hb hby d9_16) rfl rfl  k) ?_
  refine Gets.of (fun t k => XS.aloadN X3.here hx rfl (hb hby d9_17) rfl hy1  k) ?_
  have f5 : Exa Z h3 ya1 cn1 := (F2.wr W3)
  have f6 : Fld Z h3 ya1 cn1 "location" cn4 .null := (F4.other W3 (Or.inr (slot_ne (Or.inr (w94 hw)) (Or.inr (w92 hw)) (by decide) (t := (.object cn0)) (t' := .int) (by decide) (by decide))))
  obtain ⟨T7, h7, X7, e7, W7, st7⟩ := putF X3 hx hZ hown (host := "") (Or.inl (w93 hw)) Via.refl e3 f6 f5 (Or.inr ⟨(w94 hw), rfl, hnm⟩) (w51 hw) (ty := (.object cn0)) (by decide) (own_narrow_ref hy1) (own_fits_obj hy1) (g := (mkF m 18 #[.val (.ref ya1), .val (.int yi2), .val yv3, .val yv4, .val (.ref ov14), .val yv6] [yv3, (.ref ya1)])) rfl rfl (hb hby d9_18)
  have N7 := Fr.snoc X7 N3 gq_ya1
  have Fw7 : Fld Z h7 ya1 cn1 "location" cn4 yv3 := (f6).same W7
  have K8 : Keep h0 _ [ya1] := K4.wr W7 (Or.inl (by simp))
  have O8 := O4.wr W7 gq_ya1
  refine Gets.of st7 ?_
  show Gets p e below _ (T7.setTop (mkF m 21 #[.val (.ref ya1), .val (.int yi2), .val yv3, .val yv4, .val (.ref ov14), .val yv6] []))
  refine Gets.of (fun t k => XS.aloadN X7.here hx rfl (hb hby d9_21) rfl rfl  k) ?_
  refine Gets.of (fun t k => XS.aloadN X7.here hx rfl (hb hby d9_22) rfl hy2  k) ?_
  have f9 : Exa Z h7 ya1 cn1 := (f5.wr W7)
  have f10 : Fld Z h7 ya1 cn1 "source" cn4 .null := ((F5.other W3 (Or.inr (slot_ne (Or.inr (w96 hw)) (Or.inr (w92 hw)) (by decide) (t := (.object cn0)) (t' := .int) (by decide) (by decide)))).other W7 (Or.inr (slot_ne (Or.inr (w96 hw)) (Or.inr (w94 hw)) (by decide) (t := (.object cn0)) (t' := (.object cn0)) (by decide) (by decide))))
  obtain ⟨T11, h11, X11, e11, W11, st11⟩ := putF X7 hx hZ hown (host := "") (Or.inl (w95 hw)) Via.refl e7 f10 f9 (Or.inr ⟨(w96 hw), rfl, hnm⟩) (w51 hw) (ty := (.object cn0)) (by decide) (own_narrow_ref hy2) (own_fits_obj hy2) (g := (mkF m 23 #[.val (.ref ya1), .val (.int yi2), .val yv3, .val yv4, .val (.ref ov14), .val yv6] [yv4, (.ref ya1)])) rfl rfl (hb hby d9_23)
  have N11 := Fr.snoc X11 N7 gq_ya1
  have Fw11 : Fld Z h11 ya1 cn1 "source" cn4 yv4 := (f10).same W11
  have K12 : Keep h0 _ [ya1] := K8.wr W11 (Or.inl (by simp))
  have O12 := O8.wr W11 gq_ya1
  refine Gets.of st11 ?_
  show Gets p e below _ (T11.setTop (mkF m 26 #[.val (.ref ya1), .val (.int yi2), .val yv3, .val yv4, .val (.ref ov14), .val yv6] []))
  refine Gets.of (fun t k => XS.aloadN X11.here hx rfl (hb hby d9_26) rfl rfl  k) ?_
  refine Gets.of (fun t k => XS.aload X11.here hx rfl (hb hby d9_27) rfl rfl  k) ?_
  have f13 : Exa Z h11 ya1 cn1 := (f9.wr W11)
  have f14 : Fld Z h11 ya1 cn1 "values" cn12 .null := (((F6.other W3 (Or.inr (slot_ne (Or.inr (w98 hw)) (Or.inr (w92 hw)) (by decide) (t := (.object "java/util/List")) (t' := .int) (by decide) (by decide)))).other W7 (Or.inr (slot_ne (Or.inr (w98 hw)) (Or.inr (w94 hw)) (by decide) (t := (.object "java/util/List")) (t' := (.object cn0)) (by decide) (by decide)))).other W11 (Or.inr (slot_ne (Or.inr (w98 hw)) (Or.inr (w96 hw)) (by decide) (t := (.object "java/util/List")) (t' := (.object cn0)) (by decide) (by decide))))
  obtain ⟨T15, h15, X15, e15, W15, st15⟩ := putF X11 hx hZ hown (host := "") (Or.inl (w97 hw)) Via.refl e11 f14 f13 (Or.inr ⟨(w98 hw), rfl, hnm⟩) (w51 hw) (ty := (.object "java/util/List")) (by decide) rfl rfl (g := (mkF m 29 #[.val (.ref ya1), .val (.int yi2), .val yv3, .val yv4, .val (.ref ov14), .val yv6] [(.ref ov14), (.ref ya1)])) rfl rfl (hb hby d9_29)
  have N15 := Fr.snoc X15 N11 gq_ya1
  have Fw15 : Fld Z h15 ya1 cn1 "values" cn12 (.ref ov14) := (f14).same W15
  have K16 : Keep h0 _ [ya1] := K12.wr W15 (Or.inl (by simp))
  have O16 := O12.wr W15 gq_ya1
  refine Gets.of st15 ?_
  show Gets p e below _ (T15.setTop (mkF m 32 #[.val (.ref ya1), .val (.int yi2), .val yv3, .val yv4, .val (.ref ov14), .val yv6] []))
  refine Gets.of (fun t k => XS.aloadN X15.here hx rfl (hb hby d9_32) rfl rfl  k) ?_
  refine Gets.of (fun t k => XS.aload X15.here hx rfl (hb hby d9_33) rfl hy3  k) ?_
  have f17 : Exa Z h15 ya1 cn1 := (f13.wr W15)
  have f18 : Fld Z h15 ya1 cn1 "problem" cn4 .null := ((((F7.other W3 (Or.inr (slot_ne (Or.inr (w100 hw)) (Or.inr (w92 hw)) (by decide) (t := (.object cn0)) (t' := .int) (by decide) (by decide)))).other W7 (Or.inr (slot_ne (Or.inr (w100 hw)) (Or.inr (w94 hw)) (by decide) (t := (.object cn0)) (t' := (.object cn0)) (by decide) (by decide)))).other W11 (Or.inr (slot_ne (Or.inr (w100 hw)) (Or.inr (w96 hw)) (by decide) (t := (.object cn0)) (t' := (.object cn0)) (by decide) (by decide)))).other W15 (Or.inr (slot_ne (Or.inr (w100 hw)) (Or.inr (w98 hw)) (by decide) (t := (.object cn0)) (t' := (.object "java/util/List")) (by decide) (by decide))))
  obtain ⟨T19, h19, X19, e19, W19, st19⟩ := putF X15 hx hZ hown (host := "") (Or.inl (w99 hw)) Via.refl e15 f18 f17 (Or.inr ⟨(w100 hw), rfl, hnm⟩) (w51 hw) (ty := (.object cn0)) (by decide) (own_narrow_ref hy3) (own_fits_obj hy3) (g := (mkF m 35 #[.val (.ref ya1), .val (.int yi2), .val yv3, .val yv4, .val (.ref ov14), .val yv6] [yv6, (.ref ya1)])) rfl rfl (hb hby d9_35)
  have N19 := Fr.snoc X19 N15 gq_ya1
  have Fw19 : Fld Z h19 ya1 cn1 "problem" cn4 yv6 := (f18).same W19
  have K20 : Keep h0 _ [ya1] := K16.wr W19 (Or.inl (by simp))
  have O20 := O16.wr W19 gq_ya1
  refine Gets.of st19 ?_
  show Gets p e below _ (T19.setTop (mkF m 38 #[.val (.ref ya1), .val (.int yi2), .val yv3, .val yv4, .val (.ref ov14), .val yv6] []))
  refine Gets.retV X19 hx Bd.returns (hb hby d9_38) ?_ (by decide) (by decide)
  rw [e19]
  have f21 : Fld Z h19 ya1 cn1 "number" "I" (.int yi2) := ((((Fw3.other W7 (Or.inr (slot_ne (Or.inr (w92 hw)) (Or.inr (w94 hw)) (by decide) (t := .int) (t' := (.object cn0)) (by decide) (by decide)))).other W11 (Or.inr (slot_ne (Or.inr (w92 hw)) (Or.inr (w96 hw)) (by decide) (t := .int) (t' := (.object cn0)) (by decide) (by decide)))).other W15 (Or.inr (slot_ne (Or.inr (w92 hw)) (Or.inr (w98 hw)) (by decide) (t := .int) (t' := (.object "java/util/List")) (by decide) (by decide)))).other W19 (Or.inr (slot_ne (Or.inr (w92 hw)) (Or.inr (w100 hw)) (by decide) (t := .int) (t' := (.object cn0)) (by decide) (by decide))))
  have f22 : Fld Z h19 ya1 cn1 "location" cn4 yv3 := (((Fw7.other W11 (Or.inr (slot_ne (Or.inr (w94 hw)) (Or.inr (w96 hw)) (by decide) (t := (.object cn0)) (t' := (.object cn0)) (by decide) (by decide)))).other W15 (Or.inr (slot_ne (Or.inr (w94 hw)) (Or.inr (w98 hw)) (by decide) (t := (.object cn0)) (t' := (.object "java/util/List")) (by decide) (by decide)))).other W19 (Or.inr (slot_ne (Or.inr (w94 hw)) (Or.inr (w100 hw)) (by decide) (t := (.object cn0)) (t' := (.object cn0)) (by decide) (by decide))))
  have f23 : Fld Z h19 ya1 cn1 "source" cn4 yv4 := ((Fw11.other W15 (Or.inr (slot_ne (Or.inr (w96 hw)) (Or.inr (w98 hw)) (by decide) (t := (.object cn0)) (t' := (.object "java/util/List")) (by decide) (by decide)))).other W19 (Or.inr (slot_ne (Or.inr (w96 hw)) (Or.inr (w100 hw)) (by decide) (t := (.object cn0)) (t' := (.object cn0)) (by decide) (by decide))))
  have f24 : Fld Z h19 ya1 cn1 "values" cn12 (.ref ov14) := (Fw15.other W19 (Or.inr (slot_ne (Or.inr (w98 hw)) (Or.inr (w100 hw)) (by decide) (t := (.object "java/util/List")) (t' := (.object cn0)) (by decide) (by decide))))
  exact ⟨N19, K20, ⟨rfl, f21, f22, f23, f24, Fw19⟩⟩
theorem w55 {Z : State} {a0 : Array Value} (hw : ∀ d ∈ tables_1, d.before a0 Z = true) : (Jvm.Cond.code ({ cls := cn1, name := "<init>", desc := cn16 } : Jvm.MethodName) prog_51_method_1_code (6 : Nat) (Option.none : Option Jvm.ClassFile.FieldType)).before a0 Z = true := hw _ (List.mem_of_getElem? (i := 55) rfl)
theorem pd__ILjava_lang_String_Ljava_lang_String_Ljava_util_List_Ljava_lang_String_V : parseMethodDescriptor "(ILjava/lang/String;Ljava/lang/String;Ljava/util/List;Ljava/lang/String;)V" = some ⟨[.int, (.object "java/lang/String"), (.object "java/lang/String"), (.object "java/util/List"), (.object "java/lang/String")], none⟩ := by decide +kernel
theorem w54 {Z : State} {a0 : Array Value} (hw : ∀ d ∈ tables_1, d.before a0 Z = true) : (Jvm.Cond.instanceMethod ({ cls := cn1, name := "<init>", desc := cn16 } : Jvm.MethodName)).before a0 Z = true := hw _ (List.mem_of_getElem? (i := 54) rfl)
theorem w101 {Z : State} {a0 : Array Value} (hw : ∀ d ∈ tables_1, d.before a0 Z = true) : (Jvm.Cond.methodLink cn13 (42 : Nat) ({ cls := cn1, name := "isSetAside", desc := "()Z" } : Jvm.MethodName)).before a0 Z = true := hw _ (List.mem_of_getElem? (i := 101) rfl)
theorem d15_0 : decode prog_51_method_4_code 0 = .ok (.aload_n 0, 1) := by decide +kernel
theorem d15_1 : decode prog_51_method_4_code 1 = .ok (.getfield 30, 3) := by decide +kernel
theorem d15_4 : decode prog_51_method_4_code 4 = .ok (.ifnull 7, 3) := by decide +kernel
theorem d15_7 : decode prog_51_method_4_code 7 = .ok (.iconst 1, 1) := by decide +kernel
theorem d15_8 : decode prog_51_method_4_code 8 = .ok (.goto 4, 3) := by decide +kernel
theorem d15_12 : decode prog_51_method_4_code 12 = .ok (.ireturn, 1) := by decide +kernel
def Q_r31_isSetAside (Z : State) (ya1 : Addr) (ya5 : Addr) (h0 : Heap) (n0 : Nat) (v : Option Value) (h : Heap) (L : List Loc) : Prop := Fr n0 L ∧ h = h0 ∧ ((v = some (.int (1 : Int32))))
set_option maxRecDepth 65536 in
set_option maxHeartbeats 40000000 in
theorem r31_isSetAside (l : Launch) (Z : State) (a0 : Array Value) (hw : ∀ d ∈ tables_1, d.before a0 Z = true) (ws : List Jvm.Cond) (ya1 : Addr) (ya5 : Addr) (h0 : Heap) (n0 : Nat) (O0 : Old Z n0 h0) (F0 : Fld Z h0 ya1 cn1 "problem" cn4 (.ref ya5)) :
    MetFree l (⟨cn1, "isSetAside", "()Z"⟩ : MethodName) (head1 (Jvm.Cond.code (⟨cn1, "isSetAside", "()Z"⟩ : MethodName) prog_51_method_4_code 1 (some .boolean) :: ws) ({ frames := 0, cells := 0, slots := 0, locals := 0 } : Room)) (fun a U => a = #[(.ref ya1)] ∧ Z.Warmed39 U.vm ∧ U.heap = h0) (fun _ _ _ _ _ => True) (fun _ U o U' => ∃ v L, o = .returned v ∧ Q_r31_isSetAside Z ya1 ya5 h0 n0 v U'.heap L ∧ FrameEnd U o U' L ({ frames := 0, cells := 0, slots := 0, locals := 0 } : Room).cells ({ frames := 0, cells := 0, slots := 0, locals := 0 } : Room).slots) := by
  refine MetFree.of_bodySF (plainFor_of_name pn_com_example_causeway_causeway_formats_OaiDcUnit) hisR ?_
  intro p e s m args below meth c s₁ Bd hml0 hP hK
  obtain ⟨rfl, hZ, hh⟩ := hP
  have hx := Bd.exec
  have hby := Bd.bytes
  have hlk := Bd.notSynchronized
  have hml : c.maxLocals = 1 := hml0
  have hown : s.vm.findClass cn1 = some m.cls := findClass_of_methodNamed Bd.named
  have hnm := (name_of_methodNamed Bd.named Bd.method).1
  have X0 : Stand p l e ({ frames := 0, cells := 0, slots := 0, locals := 0 } : Room) s m #[(.ref ya1)] below meth c s₁ [] 0 0 := Stand.of_body Bd
  have e0 : s₁.heap = h0 := by rw [← hh, Bd.state]; rfl
  have N0 := Fr.nil n0
  have K0 := Keep.refl h0 []
  have Z0 : n0 ≤ h0.size := O0.1 ▸ O0.2.1
  have hef : entryFrame m #[(.ref ya1)] 1 = mkF m 0 #[.val (.ref ya1)] [] := by first | (simp [entryFrame, mkF, argsToLocals, Value.category]; done) | rfl
  rw [hef]
  refine Gets.out (Q := Q_r31_isSetAside Z ya1 ya5 h0 n0) ?_
  show Gets p e below _ (s₁.setTop (mkF m 0 #[.val (.ref ya1)] []))
  refine Gets.of (fun t k => XS.aloadN X0.here hx rfl (hb hby d15_0) rfl rfl  k) ?_
  obtain ⟨T1, X1, e1, st1⟩ := getF X0 hx hZ hown (host := "") (Or.inl (w99 hw)) Via.refl e0 F0 (g := (mkF m 1 #[.val (.ref ya1)] [(.ref ya1)])) rfl rfl (hb hby d15_1)
  refine Gets.of st1 ?_
  show Gets p e below _ (T1.setTop (mkF m 4 #[.val (.ref ya1)] [(.ref ya5)]))
  refine Gets.of (fun t k => XS.ifnullNo X1.here hx rfl (hb hby d15_4) rfl k) ?_
  show Gets p e below _ (T1.setTop (mkF m 7 #[.val (.ref ya1)] []))
  refine Gets.of (fun t k => XS.iconst X1.here hx rfl (hb hby d15_7) k) ?_
  refine Gets.of (fun t k => XS.goto X1.here hx rfl (pc0 := 8) (pc' := 12) rfl (hb hby d15_8) (by decide) (by decide) k) ?_
  show Gets p e below _ (T1.setTop (mkF m 12 #[.val (.ref ya1)] [(.int (1 : Int32))]))
  refine Gets.retN X1 hx (t := .boolean) Bd.returns (by simp) (hb hby d15_12) ?_ (by decide) (by decide)
  rw [e1]
  exact ⟨N0, rfl, rfl⟩
theorem w105 {Z : State} {a0 : Array Value} (hw : ∀ d ∈ tables_1, d.before a0 Z = true) : (Jvm.Cond.code ({ cls := cn1, name := "isSetAside", desc := "()Z" } : Jvm.MethodName) prog_51_method_4_code (1 : Nat) (Option.some Jvm.ClassFile.FieldType.boolean)).before a0 Z = true := hw _ (List.mem_of_getElem? (i := 105) rfl)
theorem w104 {Z : State} {a0 : Array Value} (hw : ∀ d ∈ tables_1, d.before a0 Z = true) : (Jvm.Cond.selects cn1 ({ cls := cn1, name := "isSetAside", desc := "()Z" } : Jvm.MethodName) ({ cls := cn1, name := "isSetAside", desc := "()Z" } : Jvm.MethodName)).before a0 Z = true := hw _ (List.mem_of_getElem? (i := 104) rfl)
theorem w102 {Z : State} {a0 : Array Value} (hw : ∀ d ∈ tables_1, d.before a0 Z = true) : (Jvm.Cond.declares ({ cls := cn1, name := "isSetAside", desc := "()Z" } : Jvm.MethodName)).before a0 Z = true := hw _ (List.mem_of_getElem? (i := 102) rfl)
theorem w103 {Z : State} {a0 : Array Value} (hw : ∀ d ∈ tables_1, d.before a0 Z = true) : (Jvm.Cond.instanceMethod ({ cls := cn1, name := "isSetAside", desc := "()Z" } : Jvm.MethodName)).before a0 Z = true := hw _ (List.mem_of_getElem? (i := 103) rfl)
theorem w106 {Z : State} {a0 : Array Value} (hw : ∀ d ∈ tables_1, d.before a0 Z = true) : (Jvm.Cond.methodLink cn13 (46 : Nat) ({ cls := cn1, name := "read", desc := cn20 } : Jvm.MethodName)).before a0 Z = true := hw _ (List.mem_of_getElem? (i := 106) rfl)
theorem d16_0 : decode prog_51_method_2_code 0 = .ok (.new 14, 3) := by decide +kernel
theorem w109 {Z : State} {a0 : Array Value} (hw : ∀ d ∈ tables_1, d.before a0 Z = true) : (Jvm.Cond.classLink cn1 (14 : Nat) cn1).before a0 Z = true := hw _ (List.mem_of_getElem? (i := 109) rfl)
theorem d16_3 : decode prog_51_method_2_code 3 = .ok (.dup, 1) := by decide +kernel
theorem d16_4 : decode prog_51_method_2_code 4 = .ok (.iload_n 0, 1) := by decide +kernel
theorem d16_5 : decode prog_51_method_2_code 5 = .ok (.aload_n 1, 1) := by decide +kernel
theorem d16_6 : decode prog_51_method_2_code 6 = .ok (.aload_n 2, 1) := by decide +kernel
theorem d16_7 : decode prog_51_method_2_code 7 = .ok (.aload_n 3, 1) := by decide +kernel
theorem d16_8 : decode prog_51_method_2_code 8 = .ok (.aconst_null, 1) := by decide +kernel
theorem d16_9 : decode prog_51_method_2_code 9 = .ok (.invokespecial 33, 3) := by decide +kernel
theorem w110 {Z : State} {a0 : Array Value} (hw : ∀ d ∈ tables_1, d.before a0 Z = true) : (Jvm.Cond.methodLink cn1 (33 : Nat) ({ cls := cn1, name := "<init>", desc := cn16 } : Jvm.MethodName)).before a0 Z = true := hw _ (List.mem_of_getElem? (i := 110) rfl)
theorem d16_12 : decode prog_51_method_2_code 12 = .ok (.areturn, 1) := by decide +kernel
def Q_r32_read (Z : State) (yi1 : Int32) (yv2 : Value) (yv3 : Value) (ya4 : Addr) (ov14 : Addr) (h0 : Heap) (n0 : Nat) (v : Option Value) (h : Heap) (L : List Loc) : Prop := Fr n0 L ∧ Keep h0 h [] ∧ ((∃ (b1 : Addr), v = some (.ref b1) ∧ h0.size ≤ b1 ∧ Exa Z h b1 cn1 ∧ Fld Z h b1 cn1 "number" "I" (.int yi1) ∧ Fld Z h b1 cn1 "location" cn4 yv2 ∧ Fld Z h b1 cn1 "source" cn4 yv3 ∧ Fld Z h b1 cn1 "values" cn12 (.ref ov14) ∧ Fld Z h b1 cn1 "problem" cn4 .null))
set_option maxRecDepth 65536 in
set_option maxHeartbeats 40000000 in
theorem r32_read (l : Launch) (Z : State) (a0 : Array Value) (hw : ∀ d ∈ tables_1, d.before a0 Z = true) (ws : List Jvm.Cond) (yi1 : Int32) (yv2 : Value) (yv3 : Value) (ya4 : Addr) (ov14 : Addr) (h0 : Heap) (n0 : Nat) (O0 : Old Z n0 h0) (F0 : Exa Z h0 ya4 cn2) (F1 : Fld Z h0 ya4 cn2 "size" "I" (.int (0 : Int32))) (oS16 : Sta Z Z.heap cn9 "EMPTY_LIST" "Ljava/util/ImmutableCollections$ListN;" (.ref ov14)) (hy1 : yv2.isRef = true) (hy2 : yv3.isRef = true) :
    MetFree l (⟨cn1, "read", cn20⟩ : MethodName) (head1 (Jvm.Cond.code (⟨cn1, "read", cn20⟩ : MethodName) prog_51_method_2_code 4 (some (.object cn1)) :: ws) ({ frames := 4, cells := 1, slots := 5, locals := 55 } : Room)) (fun a U => a = #[(.int yi1), yv2, yv3, (.ref ya4)] ∧ Z.Warmed39 U.vm ∧ U.heap = h0) (fun _ _ _ _ _ => True) (fun _ U o U' => ∃ v L, o = .returned v ∧ Q_r32_read Z yi1 yv2 yv3 ya4 ov14 h0 n0 v U'.heap L ∧ FrameEnd U o U' L ({ frames := 4, cells := 1, slots := 5, locals := 55 } : Room).cells ({ frames := 4, cells := 1, slots := 5, locals := 55 } : Room).slots) := by
  refine MetFree.of_bodySF (plainFor_of_name pn_com_example_causeway_causeway_formats_OaiDcUnit) hisR ?_
  intro p e s m args below meth c s₁ Bd hml0 hP hK
  obtain ⟨rfl, hZ, hh⟩ := hP
  have hx := Bd.exec
  have hby := Bd.bytes
  have hlk := Bd.notSynchronized
  have hml : c.maxLocals = 4 := hml0
  have hown : s.vm.findClass cn1 = some m.cls := findClass_of_methodNamed Bd.named
  have hnm := (name_of_methodNamed Bd.named Bd.method).1
  have X0 : Stand p l e ({ frames := 4, cells := 1, slots := 5, locals := 55 } : Room) s m #[(.int yi1), yv2, yv3, (.ref ya4)] below meth c s₁ [] 0 0 := Stand.of_body Bd
  have e0 : s₁.heap = h0 := by rw [← hh, Bd.state]; rfl
  have N0 := Fr.nil n0
  have K0 := Keep.refl h0 []
  have Z0 : n0 ≤ h0.size := O0.1 ▸ O0.2.1
  have hef : entryFrame m #[(.int yi1), yv2, yv3, (.ref ya4)] 4 = mkF m 0 #[.val (.int yi1), .val yv2, .val yv3, .val (.ref ya4)] [] := by first | (simp [entryFrame, mkF, argsToLocals, own_cI, own_cJ, own_cR, own_cN, own_cF, own_cD, own_catR hy1, own_catR hy2]; done) | rfl
  rw [hef]
  refine Gets.out (Q := Q_r32_read Z yi1 yv2 yv3 ya4 ov14 h0 n0) ?_
  show Gets p e below _ (s₁.setTop (mkF m 0 #[.val (.int yi1), .val yv2, .val yv3, .val (.ref ya4)] []))
  obtain ⟨T1, h1, X1, e1, E1, A1, D1, -, st1⟩ := newO X0 hx hZ hown (w109 hw) (w51 hw) (w52 hw) e0 (g := (mkF m 0 #[.val (.int yi1), .val yv2, .val yv3, .val (.ref ya4)] [])) rfl (hb hby d16_0) (by decide) (by decide)
  obtain ⟨b1, g1⟩ : ∃ z, z = h0.size := ⟨_, rfl⟩
  rw [← g1] at A1 D1 st1
  have sz_b1 : h0.size ≤ b1 := Nat.le_trans K0.1 (Nat.le_of_eq g1.symm)
  have g_b1 : n0 ≤ b1 := Nat.le_trans Z0 sz_b1
  have K2 := K0.ext E1
  have O2 := O0.ext E1
  have F1_92 : Fld Z h1 b1 cn1 "number" "I" (.int (0 : Int32)) := D1 (Or.inr (w92 hw)) (ty := .int) (by decide)
  have F1_94 : Fld Z h1 b1 cn1 "location" cn4 .null := D1 (Or.inr (w94 hw)) (ty := (.object cn0)) (by decide)
  have F1_96 : Fld Z h1 b1 cn1 "source" cn4 .null := D1 (Or.inr (w96 hw)) (ty := (.object cn0)) (by decide)
  have F1_98 : Fld Z h1 b1 cn1 "values" cn12 .null := D1 (Or.inr (w98 hw)) (ty := (.object "java/util/List")) (by decide)
  have F1_100 : Fld Z h1 b1 cn1 "problem" cn4 .null := D1 (Or.inr (w100 hw)) (ty := (.object cn0)) (by decide)
  refine Gets.of st1 ?_
  show Gets p e below _ (T1.setTop (mkF m 3 #[.val (.int yi1), .val yv2, .val yv3, .val (.ref ya4)] [(.ref b1)]))
  refine Gets.of (fun t k => XS.dup X1.here hx rfl (hb hby d16_3) rfl rfl k) ?_
  refine Gets.of (fun t k => XS.iloadN X1.here hx rfl (hb hby d16_4) rfl  k) ?_
  refine Gets.of (fun t k => XS.aloadN X1.here hx rfl (hb hby d16_5) rfl hy1  k) ?_
  refine Gets.of (fun t k => XS.aloadN X1.here hx rfl (hb hby d16_6) rfl hy2  k) ?_
  show Gets p e below _ (T1.setTop (mkF m 7 #[.val (.int yi1), .val yv2, .val yv3, .val (.ref ya4)] [yv3, yv2, (.int yi1), (.ref b1), (.ref b1)]))
  refine Gets.of (fun t k => XS.aloadN X1.here hx rfl (hb hby d16_7) rfl rfl  k) ?_
  refine Gets.of (fun t k => XS.aconstNull X1.here hx rfl (hb hby d16_8) k) ?_
  have f3 : Exa Z h1 ya4 cn2 := (F0.ext E1)
  have f4 : Fld Z h1 ya4 cn2 "size" "I" (.int (0 : Int32)) := (F1.ext E1)
  obtain ⟨_, _, ⟨T5, L5, k5, n5⟩, -, X5, ⟨Lc5, hQ5, l5, y5, z5⟩, st5⟩ := X1.specialBack hx (y := (⟨cn1, "<init>", cn16⟩ : MethodName)) rfl hown (mvT hZ (w110 hw)) (mvT hZ (w54 hw)) (mvT hZ (w55 hw)) (by decide) (backOf (W := 1) (r25_init l Z a0 hw [] b1 yi1 yv2 yv3 ya4 .null ov14 h1 n0 O2 f3 f4 A1 F1_92 F1_94 F1_96 F1_98 F1_100 oS16 g_b1 hy1 hy2 rfl) hZ (w55 hw) (w52 hw) (by decide) (by decide)) (g := (mkF m 9 #[.val (.int yi1), .val yv2, .val yv3, .val (.ref ya4)] [.null, (.ref ya4), yv3, yv2, (.int yi1), (.ref b1), (.ref b1)])) rfl (by rw [hml]; rfl) (Steps.refl _) (a := b1) (argsL := [(.int yi1), yv2, yv3, (.ref ya4), .null]) (rest := [(.ref b1)]) (lenOf pd__ILjava_lang_String_Ljava_lang_String_Ljava_util_List_Ljava_lang_String_V rfl) rfl (by show 2 * 0 + _ ≤ _; exact Nat.le_of_eq rfl) (hb hby d16_9) (fun _ _ => ⟨rfl, e1, (by decide : 1 + 0 ≤ _), (by decide : 5 + 0 ≤ _)⟩)
  dsimp only [Pt.U, Pt.locs, Pt.cells, Pt.slots] at X5 l5 y5 z5 st5 hQ5
  subst l5 y5 z5
  obtain ⟨Nq5, Kq5, hR5⟩ := hQ5
  have N5 := Fr.app N0 Nq5
  have K6 : Keep h0 _ [] := K2.trans Kq5 (allS (Or.inr sz_b1) all0)
  have O6 := O2.keep Kq5 (allS g_b1 all0)
  obtain ⟨rfl, bf5_0, bf5_1, bf5_2, bf5_3, bf5_4⟩ := hR5
  refine Gets.tr st5 ?_
  show Gets p e below _ (T5.setTop (mkF m 12 #[.val (.int yi1), .val yv2, .val yv3, .val (.ref ya4)] [(.ref b1)]))
  refine Gets.retA X5 hx Bd.returns rfl rfl (hb hby d16_12) ?_ (by decide) (by decide)
  have f7 : Exa Z T5.heap b1 cn1 := (A1.keep Kq5)
  exact ⟨N5, K6, ⟨b1, rfl, sz_b1, f7, bf5_0, bf5_1, bf5_2, bf5_3, bf5_4⟩⟩
theorem w108 {Z : State} {a0 : Array Value} (hw : ∀ d ∈ tables_1, d.before a0 Z = true) : (Jvm.Cond.code ({ cls := cn1, name := "read", desc := cn20 } : Jvm.MethodName) prog_51_method_2_code (4 : Nat) (Option.some (Jvm.ClassFile.FieldType.object cn1))).before a0 Z = true := hw _ (List.mem_of_getElem? (i := 108) rfl)
theorem pd__ILjava_lang_String_Ljava_lang_String_Ljava_util_List_Lcom_example_causeway_causeway_formats_OaiDcUnit_ : parseMethodDescriptor "(ILjava/lang/String;Ljava/lang/String;Ljava/util/List;)Lcom/example/causeway/causeway/formats/OaiDcUnit;" = some ⟨[.int, (.object "java/lang/String"), (.object "java/lang/String"), (.object "java/util/List")], some (.object "com/example/causeway/causeway/formats/OaiDcUnit")⟩ := by decide +kernel
theorem w107 {Z : State} {a0 : Array Value} (hw : ∀ d ∈ tables_1, d.before a0 Z = true) : (Jvm.Cond.static ({ cls := cn1, name := "read", desc := cn20 } : Jvm.MethodName)).before a0 Z = true := hw _ (List.mem_of_getElem? (i := 107) rfl)
theorem d15_11 : decode prog_51_method_4_code 11 = .ok (.iconst 0, 1) := by decide +kernel
def Q_r33_isSetAside (Z : State) (ya1 : Addr) (h0 : Heap) (n0 : Nat) (v : Option Value) (h : Heap) (L : List Loc) : Prop := Fr n0 L ∧ h = h0 ∧ ((v = some (.int (0 : Int32))))
set_option maxRecDepth 65536 in
set_option maxHeartbeats 40000000 in
theorem r33_isSetAside (l : Launch) (Z : State) (a0 : Array Value) (hw : ∀ d ∈ tables_1, d.before a0 Z = true) (ws : List Jvm.Cond) (ya1 : Addr) (h0 : Heap) (n0 : Nat) (O0 : Old Z n0 h0) (F0 : Fld Z h0 ya1 cn1 "problem" cn4 .null) :
    MetFree l (⟨cn1, "isSetAside", "()Z"⟩ : MethodName) (head1 (Jvm.Cond.code (⟨cn1, "isSetAside", "()Z"⟩ : MethodName) prog_51_method_4_code 1 (some .boolean) :: ws) ({ frames := 0, cells := 0, slots := 0, locals := 0 } : Room)) (fun a U => a = #[(.ref ya1)] ∧ Z.Warmed39 U.vm ∧ U.heap = h0) (fun _ _ _ _ _ => True) (fun _ U o U' => ∃ v L, o = .returned v ∧ Q_r33_isSetAside Z ya1 h0 n0 v U'.heap L ∧ FrameEnd U o U' L ({ frames := 0, cells := 0, slots := 0, locals := 0 } : Room).cells ({ frames := 0, cells := 0, slots := 0, locals := 0 } : Room).slots) := by
  refine MetFree.of_bodySF (plainFor_of_name pn_com_example_causeway_causeway_formats_OaiDcUnit) hisR ?_
  intro p e s m args below meth c s₁ Bd hml0 hP hK
  obtain ⟨rfl, hZ, hh⟩ := hP
  have hx := Bd.exec
  have hby := Bd.bytes
  have hlk := Bd.notSynchronized
  have hml : c.maxLocals = 1 := hml0
  have hown : s.vm.findClass cn1 = some m.cls := findClass_of_methodNamed Bd.named
  have hnm := (name_of_methodNamed Bd.named Bd.method).1
  have X0 : Stand p l e ({ frames := 0, cells := 0, slots := 0, locals := 0 } : Room) s m #[(.ref ya1)] below meth c s₁ [] 0 0 := Stand.of_body Bd
  have e0 : s₁.heap = h0 := by rw [← hh, Bd.state]; rfl
  have N0 := Fr.nil n0
  have K0 := Keep.refl h0 []
  have Z0 : n0 ≤ h0.size := O0.1 ▸ O0.2.1
  have hef : entryFrame m #[(.ref ya1)] 1 = mkF m 0 #[.val (.ref ya1)] [] := by first | (simp [entryFrame, mkF, argsToLocals, Value.category]; done) | rfl
  rw [hef]
  refine Gets.out (Q := Q_r33_isSetAside Z ya1 h0 n0) ?_
  show Gets p e below _ (s₁.setTop (mkF m 0 #[.val (.ref ya1)] []))
  refine Gets.of (fun t k => XS.aloadN X0.here hx rfl (hb hby d15_0) rfl rfl  k) ?_
  obtain ⟨T1, X1, e1, st1⟩ := getF X0 hx hZ hown (host := "") (Or.inl (w99 hw)) Via.refl e0 F0 (g := (mkF m 1 #[.val (.ref ya1)] [(.ref ya1)])) rfl rfl (hb hby d15_1)
  refine Gets.of st1 ?_
  show Gets p e below _ (T1.setTop (mkF m 4 #[.val (.ref ya1)] [.null]))
  refine Gets.of (fun t k => XS.ifnullYes X1.here hx rfl (pc0 := 4) (pc' := 11) rfl (hb hby d15_4) rfl (by decide) (by decide) k) ?_
  show Gets p e below _ (T1.setTop (mkF m 11 #[.val (.ref ya1)] []))
  refine Gets.of (fun t k => XS.iconst X1.here hx rfl (hb hby d15_11) k) ?_
  refine Gets.retN X1 hx (t := .boolean) Bd.returns (by simp) (hb hby d15_12) ?_ (by decide) (by decide)
  rw [e1]
  exact ⟨N0, rfl, rfl⟩
theorem w244 {Z : State} {a0 : Array Value} (hw : ∀ d ∈ tables_1, d.before a0 Z = true) : (Jvm.Cond.methodLink cn13 (50 : Nat) ({ cls := cn1, name := "setAside", desc := cn23 } : Jvm.MethodName)).before a0 Z = true := hw _ (List.mem_of_getElem? (i := 244) rfl)
theorem d39_0 : decode prog_51_method_3_code 0 = .ok (.new 14, 3) := by decide +kernel
theorem d39_3 : decode prog_51_method_3_code 3 = .ok (.dup, 1) := by decide +kernel
theorem d39_4 : decode prog_51_method_3_code 4 = .ok (.iload_n 0, 1) := by decide +kernel
theorem d39_5 : decode prog_51_method_3_code 5 = .ok (.aload_n 1, 1) := by decide +kernel
theorem d39_6 : decode prog_51_method_3_code 6 = .ok (.aconst_null, 1) := by decide +kernel
theorem d39_7 : decode prog_51_method_3_code 7 = .ok (.invokestatic 36, 3) := by decide +kernel
theorem w247 {Z : State} {a0 : Array Value} (hw : ∀ d ∈ tables_1, d.before a0 Z = true) : (Jvm.Cond.methodLink cn1 (36 : Nat) ({ cls := "java/util/List", name := "of", desc := "()Ljava/util/List;" } : Jvm.MethodName)).before a0 Z = true := hw _ (List.mem_of_getElem? (i := 247) rfl)
theorem d39_10 : decode prog_51_method_3_code 10 = .ok (.aload_n 2, 1) := by decide +kernel
theorem d39_11 : decode prog_51_method_3_code 11 = .ok (.invokespecial 33, 3) := by decide +kernel
theorem w249 {Z : State} {a0 : Array Value} (hw : ∀ d ∈ tables_1, d.before a0 Z = true) : (Jvm.Cond.superclass cn21 cn22).before a0 Z = true := hw _ (List.mem_of_getElem? (i := 249) rfl)
theorem w250 {Z : State} {a0 : Array Value} (hw : ∀ d ∈ tables_1, d.before a0 Z = true) : (Jvm.Cond.superclass cn22 "java/util/AbstractCollection").before a0 Z = true := hw _ (List.mem_of_getElem? (i := 250) rfl)
theorem d12_14 : decode jdk_56_method_3_code 14 = .ok (.aload_n 0, 1) := by decide +kernel
theorem d12_15 : decode jdk_56_method_3_code 15 = .ok (.checkcast 12, 3) := by decide +kernel
theorem d12_18 : decode jdk_56_method_3_code 18 = .ok (.astore_n 1, 1) := by decide +kernel
theorem d12_19 : decode jdk_56_method_3_code 19 = .ok (.aload_n 1, 1) := by decide +kernel
theorem d12_20 : decode jdk_56_method_3_code 20 = .ok (.getfield 14, 3) := by decide +kernel
theorem w252 {Z : State} {a0 : Array Value} (hw : ∀ d ∈ tables_1, d.before a0 Z = true) : (Jvm.Cond.fieldLinkNest cn9 (14 : Nat) cn19 "allowNulls" "Z" cn9).before a0 Z = true := hw _ (List.mem_of_getElem? (i := 252) rfl)
theorem d12_23 : decode jdk_56_method_3_code 23 = .ok (.ifCond .ne 8, 3) := by decide +kernel
theorem d12_26 : decode jdk_56_method_3_code 26 = .ok (.aload_n 0, 1) := by decide +kernel
theorem d12_27 : decode jdk_56_method_3_code 27 = .ok (.checkcast 18, 3) := by decide +kernel
theorem w254 {Z : State} {a0 : Array Value} (hw : ∀ d ∈ tables_1, d.before a0 Z = true) : (Jvm.Cond.classLink cn9 (18 : Nat) "java/util/List").before a0 Z = true := hw _ (List.mem_of_getElem? (i := 254) rfl)
theorem w255 {Z : State} {a0 : Array Value} (hw : ∀ d ∈ tables_1, d.before a0 Z = true) : (Jvm.Cond.castable cn19 "java/util/List").before a0 Z = true := hw _ (List.mem_of_getElem? (i := 255) rfl)
theorem d12_30 : decode jdk_56_method_3_code 30 = .ok (.areturn, 1) := by decide +kernel
def Q_r37_listCopy (Z : State) (ov14 : Addr) (h0 : Heap) (n0 : Nat) (v : Option Value) (h : Heap) (L : List Loc) : Prop := Fr n0 L ∧ h = h0 ∧ ((v = some (.ref ov14)))
set_option maxRecDepth 65536 in
set_option maxHeartbeats 40000000 in
theorem r37_listCopy (l : Launch) (Z : State) (a0 : Array Value) (hw : ∀ d ∈ tables_1, d.before a0 Z = true) (ws : List Jvm.Cond) (ov14 : Addr) (h0 : Heap) (n0 : Nat) (O0 : Old Z n0 h0) (oE17 : Exa Z Z.heap ov14 cn19) (oF19 : Fld Z Z.heap ov14 cn19 "allowNulls" "Z" (.int (0 : Int32))) :
    MetFree l (⟨cn9, "listCopy", cn14⟩ : MethodName) (head1 (Jvm.Cond.code (⟨cn9, "listCopy", cn14⟩ : MethodName) jdk_56_method_3_code 2 (some (.object "java/util/List")) :: ws) ({ frames := 0, cells := 0, slots := 0, locals := 0 } : Room)) (fun a U => a = #[(.ref ov14)] ∧ Z.Warmed39 U.vm ∧ U.heap = h0) (fun _ _ _ _ _ => True) (fun _ U o U' => ∃ v L, o = .returned v ∧ Q_r37_listCopy Z ov14 h0 n0 v U'.heap L ∧ FrameEnd U o U' L ({ frames := 0, cells := 0, slots := 0, locals := 0 } : Room).cells ({ frames := 0, cells := 0, slots := 0, locals := 0 } : Room).slots) := by
  refine MetFree.of_bodySF (plainFor_of_name pn_java_util_ImmutableCollections) hisR ?_
  intro p e s m args below meth c s₁ Bd hml0 hP hK
  obtain ⟨rfl, hZ, hh⟩ := hP
  have hx := Bd.exec
  have hby := Bd.bytes
  have hlk := Bd.notSynchronized
  have hml : c.maxLocals = 2 := hml0
  have hown : s.vm.findClass cn9 = some m.cls := findClass_of_methodNamed Bd.named
  have hnm := (name_of_methodNamed Bd.named Bd.method).1
  have X0 : Stand p l e ({ frames := 0, cells := 0, slots := 0, locals := 0 } : Room) s m #[(.ref ov14)] below meth c s₁ [] 0 0 := Stand.of_body Bd
  have e0 : s₁.heap = h0 := by rw [← hh, Bd.state]; rfl
  have N0 := Fr.nil n0
  have K0 := Keep.refl h0 []
  have Z0 : n0 ≤ h0.size := O0.1 ▸ O0.2.1
  have hef : entryFrame m #[(.ref ov14)] 2 = mkF m 0 #[.val (.ref ov14), .unset] [] := by first | (simp [entryFrame, mkF, argsToLocals, Value.category]; done) | rfl
  rw [hef]
  refine Gets.out (Q := Q_r37_listCopy Z ov14 h0 n0) ?_
  show Gets p e below _ (s₁.setTop (mkF m 0 #[.val (.ref ov14), .unset] []))
  refine Gets.of (fun t k => XS.aloadN X0.here hx rfl (hb hby d12_0) rfl rfl  k) ?_
  obtain ⟨T1, X1, e1, st1⟩ := instNo X0 hx hZ hown (w70 hw) e0 (oE17.ext O0.2) (own_NS_no (w248 hw) (w215 hw) (NS.step (w248 hw) (NS.step (w249 hw) (NS.step (w250 hw) (NS.step (w73 hw) (own_NS_root (w74 hw) (w215 hw) (by decide)) (by decide)) (by decide)) (by decide)) (by decide)) (by decide)) (g := (mkF m 1 #[.val (.ref ov14), .unset] [(.ref ov14)])) rfl rfl (hb hby d12_1)
  refine Gets.of st1 ?_
  show Gets p e below _ (T1.setTop (mkF m 4 #[.val (.ref ov14), .unset] [(.int (0 : Int32))]))
  refine Gets.of (fun t k => XS.ifNo X1.here hx rfl (hb hby d12_4) rfl ((if0 _ _).trans (teq (by decide : (0 : Int32) = (0 : Int32))).2) k) ?_
  show Gets p e below _ (T1.setTop (mkF m 7 #[.val (.ref ov14), .unset] []))
  refine Gets.of (fun t k => XS.aloadN X1.here hx rfl (hb hby d12_7) rfl rfl  k) ?_
  obtain ⟨T2, X2, e2, st2⟩ := instY X1 hx hZ hown (w75 hw) e1 (Ins.self (oE17.ext O0.2)) (g := (mkF m 8 #[.val (.ref ov14), .unset] [(.ref ov14)])) rfl rfl (hb hby d12_8)
  refine Gets.of st2 ?_
  show Gets p e below _ (T2.setTop (mkF m 11 #[.val (.ref ov14), .unset] [(.int (1 : Int32))]))
  refine Gets.of (fun t k => XS.ifNo X2.here hx rfl (hb hby d12_11) rfl ((if0 _ _).trans (feq (by decide : ¬ ((1 : Int32) = (0 : Int32)))).1) k) ?_
  show Gets p e below _ (T2.setTop (mkF m 14 #[.val (.ref ov14), .unset] []))
  refine Gets.of (fun t k => XS.aloadN X2.here hx rfl (hb hby d12_14) rfl rfl  k) ?_
  obtain ⟨T3, X3, e3, st3⟩ := castY X2 hx hZ hown (w75 hw) e2 (Ins.self (oE17.ext O0.2)) (g := (mkF m 15 #[.val (.ref ov14), .unset] [(.ref ov14)])) rfl rfl (hb hby d12_15)
  refine Gets.of st3 ?_
  show Gets p e below _ (T3.setTop (mkF m 18 #[.val (.ref ov14), .unset] [(.ref ov14)]))
  refine Gets.of (fun t k => XS.astoreN X3.here hx rfl (hb hby d12_18) rfl rfl (l' := #[.val (.ref ov14), .val (.ref ov14)]) rfl k) ?_
  show Gets p e below _ (T3.setTop (mkF m 19 #[.val (.ref ov14), .val (.ref ov14)] []))
  refine Gets.of (fun t k => XS.aloadN X3.here hx rfl (hb hby d12_19) rfl rfl  k) ?_
  obtain ⟨T4, X4, e4, st4⟩ := getF X3 hx hZ hown (Or.inr (w252 hw)) Via.refl e3 (oF19.ext O0.2) (g := (mkF m 20 #[.val (.ref ov14), .val (.ref ov14)] [(.ref ov14)])) rfl rfl (hb hby d12_20)
  refine Gets.of st4 ?_
  show Gets p e below _ (T4.setTop (mkF m 23 #[.val (.ref ov14), .val (.ref ov14)] [(.int (0 : Int32))]))
  refine Gets.of (fun t k => XS.ifNo X4.here hx rfl (hb hby d12_23) rfl ((if0 _ _).trans (teq (by decide : (0 : Int32) = (0 : Int32))).2) k) ?_
  show Gets p e below _ (T4.setTop (mkF m 26 #[.val (.ref ov14), .val (.ref ov14)] []))
  refine Gets.of (fun t k => XS.aloadN X4.here hx rfl (hb hby d12_26) rfl rfl  k) ?_
  obtain ⟨T5, X5, e5, st5⟩ := castY X4 hx hZ hown (w254 hw) e4 (Ins.of_exa (oE17.ext O0.2) (w255 hw)) (g := (mkF m 27 #[.val (.ref ov14), .val (.ref ov14)] [(.ref ov14)])) rfl rfl (hb hby d12_27)
  refine Gets.of st5 ?_
  show Gets p e below _ (T5.setTop (mkF m 30 #[.val (.ref ov14), .val (.ref ov14)] [(.ref ov14)]))
  refine Gets.retA X5 hx Bd.returns rfl rfl (hb hby d12_30) ?_ (by decide) (by decide)
  rw [e5]
  exact ⟨N0, rfl, rfl⟩
def Q_r36_copyOf (Z : State) (ov14 : Addr) (h0 : Heap) (n0 : Nat) (v : Option Value) (h : Heap) (L : List Loc) : Prop := Fr n0 L ∧ h = h0 ∧ ((v = some (.ref ov14)))
set_option maxRecDepth 65536 in
set_option maxHeartbeats 40000000 in
theorem r36_copyOf (l : Launch) (Z : State) (a0 : Array Value) (hw : ∀ d ∈ tables_1, d.before a0 Z = true) (ws : List Jvm.Cond) (ov14 : Addr) (h0 : Heap) (n0 : Nat) (O0 : Old Z n0 h0) (oE17 : Exa Z Z.heap ov14 cn19) (oF19 : Fld Z Z.heap ov14 cn19 "allowNulls" "Z" (.int (0 : Int32))) :
    MetFree l (⟨"java/util/List", "copyOf", cn14⟩ : MethodName) (head1 (Jvm.Cond.code (⟨"java/util/List", "copyOf", cn14⟩ : MethodName) jdk_40_method_48_code 1 (some (.object "java/util/List")) :: ws) ({ frames := 1, cells := 0, slots := 0, locals := 13 } : Room)) (fun a U => a = #[(.ref ov14)] ∧ Z.Warmed39 U.vm ∧ U.heap = h0) (fun _ _ _ _ _ => True) (fun _ U o U' => ∃ v L, o = .returned v ∧ Q_r36_copyOf Z ov14 h0 n0 v U'.heap L ∧ FrameEnd U o U' L ({ frames := 1, cells := 0, slots := 0, locals := 13 } : Room).cells ({ frames := 1, cells := 0, slots := 0, locals := 13 } : Room).slots) := by
  refine MetFree.of_bodySF (plainFor_of_name pn_java_util_List) hisR ?_
  intro p e s m args below meth c s₁ Bd hml0 hP hK
  obtain ⟨rfl, hZ, hh⟩ := hP
  have hx := Bd.exec
  have hby := Bd.bytes
  have hlk := Bd.notSynchronized
  have hml : c.maxLocals = 1 := hml0
  have hown : s.vm.findClass "java/util/List" = some m.cls := findClass_of_methodNamed Bd.named
  have hnm := (name_of_methodNamed Bd.named Bd.method).1
  have X0 : Stand p l e ({ frames := 1, cells := 0, slots := 0, locals := 13 } : Room) s m #[(.ref ov14)] below meth c s₁ [] 0 0 := Stand.of_body Bd
  have e0 : s₁.heap = h0 := by rw [← hh, Bd.state]; rfl
  have N0 := Fr.nil n0
  have K0 := Keep.refl h0 []
  have Z0 : n0 ≤ h0.size := O0.1 ▸ O0.2.1
  have hef : entryFrame m #[(.ref ov14)] 1 = mkF m 0 #[.val (.ref ov14)] [] := by first | (simp [entryFrame, mkF, argsToLocals, Value.category]; done) | rfl
  rw [hef]
  refine Gets.out (Q := Q_r36_copyOf Z ov14 h0 n0) ?_
  show Gets p e below _ (s₁.setTop (mkF m 0 #[.val (.ref ov14)] []))
  refine Gets.of (fun t k => XS.aloadN X0.here hx rfl (hb hby d11_0) rfl rfl  k) ?_
  obtain ⟨_, _, ⟨T1, L1, k1, n1⟩, -, X1, ⟨Lc1, hQ1, l1, y1, z1⟩, st1⟩ := Jvm.LawKit.callS X0 hx (y := (⟨cn9, "listCopy", cn14⟩ : MethodName)) hown (mvT hZ (w66 hw)) (mvT hZ (w67 hw)) (mvT hZ (w68 hw)) (mvT hZ (w69 hw)) (by decide) (backOf (W := 0) (r37_listCopy l Z a0 hw [] ov14 h0 n0 O0 oE17 oF19) hZ (w69 hw) (w68 hw) (by decide) (by decide)) (g := (mkF m 1 #[.val (.ref ov14)] [(.ref ov14)])) rfl (by rw [hml]; rfl) (argsL := [(.ref ov14)]) (rest := []) (lenOf pd__Ljava_util_Collection_Ljava_util_List_ rfl) rfl (by show 2 * 0 + _ ≤ _; exact Nat.le_of_eq rfl) (hb hby d11_1) (fun _ _ => ⟨rfl, e0, (by decide : 0 + 0 ≤ _), (by decide : 0 + 0 ≤ _)⟩)
  dsimp only [Pt.U, Pt.locs, Pt.cells, Pt.slots] at X1 l1 y1 z1 st1 hQ1
  subst l1 y1 z1
  obtain ⟨Nq1, eq1, hR1⟩ := hQ1
  have N1 := Fr.app N0 Nq1
  obtain rfl := hR1
  refine Gets.of st1 ?_
  show Gets p e below _ (T1.setTop (mkF m 4 #[.val (.ref ov14)] [(.ref ov14)]))
  refine Gets.retA X1 hx Bd.returns rfl rfl (hb hby d11_4) ?_ (by decide) (by decide)
  rw [eq1]
  exact ⟨N1, rfl, rfl⟩
def Q_r35_init (Z : State) (ya1 : Addr) (yi2 : Int32) (yv3 : Value) (yv4 : Value) (ov14 : Addr) (yv5 : Value) (h0 : Heap) (n0 : Nat) (v : Option Value) (h : Heap) (L : List Loc) : Prop := Fr n0 L ∧ Keep h0 h [ya1] ∧ ((v = none ∧ Fld Z h ya1 cn1 "number" "I" (.int yi2) ∧ Fld Z h ya1 cn1 "location" cn4 yv3 ∧ Fld Z h ya1 cn1 "source" cn4 yv4 ∧ Fld Z h ya1 cn1 "values" cn12 (.ref ov14) ∧ Fld Z h ya1 cn1 "problem" cn4 yv5))
set_option maxRecDepth 65536 in
set_option maxHeartbeats 40000000 in
theorem r35_init (l : Launch) (Z : State) (a0 : Array Value) (hw : ∀ d ∈ tables_1, d.before a0 Z = true) (ws : List Jvm.Cond) (ya1 : Addr) (yi2 : Int32) (yv3 : Value) (yv4 : Value) (ov14 : Addr) (yv5 : Value) (h0 : Heap) (n0 : Nat) (O0 : Old Z n0 h0) (F0 : Exa Z h0 ya1 cn1) (F1 : Fld Z h0 ya1 cn1 "number" "I" (.int (0 : Int32))) (F2 : Fld Z h0 ya1 cn1 "location" cn4 .null) (F3 : Fld Z h0 ya1 cn1 "source" cn4 .null) (F4 : Fld Z h0 ya1 cn1 "values" cn12 .null) (F5 : Fld Z h0 ya1 cn1 "problem" cn4 .null) (oE17 : Exa Z Z.heap ov14 cn19) (oF19 : Fld Z Z.heap ov14 cn19 "allowNulls" "Z" (.int (0 : Int32))) (gq_ya1 : n0 ≤ ya1) (hy1 : yv3.isRef = true) (hy2 : yv4.isRef = true) (hy3 : yv5.isRef = true) :
    MetFree l (⟨cn1, "<init>", cn16⟩ : MethodName) (head1 (Jvm.Cond.code (⟨cn1, "<init>", cn16⟩ : MethodName) prog_51_method_1_code 6 none :: ws) ({ frames := 2, cells := 0, slots := 0, locals := 25 } : Room)) (fun a U => a = #[(.ref ya1), (.int yi2), yv3, yv4, (.ref ov14), yv5] ∧ Z.Warmed39 U.vm ∧ U.heap = h0) (fun _ _ _ _ _ => True) (fun _ U o U' => ∃ v L, o = .returned v ∧ Q_r35_init Z ya1 yi2 yv3 yv4 ov14 yv5 h0 n0 v U'.heap L ∧ FrameEnd U o U' L ({ frames := 2, cells := 0, slots := 0, locals := 25 } : Room).cells ({ frames := 2, cells := 0, slots := 0, locals := 25 } : Room).slots) := by
  refine MetFree.of_bodySF (plainFor_of_name pn_com_example_causeway_causeway_formats_OaiDcUnit) hisR ?_
  intro p e s m args below meth c s₁ Bd hml0 hP hK
  obtain ⟨rfl, hZ, hh⟩ := hP
  have hx := Bd.exec
  have hby := Bd.bytes
  have hlk := Bd.notSynchronized
  have hml : c.maxLocals = 6 := hml0
  have hown : s.vm.findClass cn1 = some m.cls := findClass_of_methodNamed Bd.named
  have hnm := (name_of_methodNamed Bd.named Bd.method).1
  have X0 : Stand p l e ({ frames := 2, cells := 0, slots := 0, locals := 25 } : Room) s m #[(.ref ya1), (.int yi2), yv3, yv4, (.ref ov14), yv5] below meth c s₁ [] 0 0 := Stand.of_body Bd
  have e0 : s₁.heap = h0 := by rw [← hh, Bd.state]; rfl
  have N0 := Fr.nil n0
  have K0 := Keep.refl h0 [ya1]
  have Z0 : n0 ≤ h0.size := O0.1 ▸ O0.2.1
  have hef : entryFrame m #[(.ref ya1), (.int yi2), yv3, yv4, (.ref ov14), yv5] 6 = mkF m 0 #[.val (.ref ya1), .val (.int yi2), .val yv3, .val yv4, .val (.ref ov14), .val yv5] [] := by first | (simp [entryFrame, mkF, argsToLocals, own_cI, own_cJ, own_cR, own_cN, own_cF, own_cD, own_catR hy1, own_catR hy2, own_catR hy3]; done) | rfl
  rw [hef]
  refine Gets.out (Q := Q_r35_init Z ya1 yi2 yv3 yv4 ov14 yv5 h0 n0) ?_
  show Gets p e below _ (s₁.setTop (mkF m 0 #[.val (.ref ya1), .val (.int yi2), .val yv3, .val yv4, .val (.ref ov14), .val yv5] []))
  refine Gets.of (fun t k => XS.aloadN X0.here hx rfl (hb hby d9_0) rfl rfl  k) ?_
  obtain ⟨_, _, ⟨T1, L1, k1, n1⟩, -, X1, ⟨Lc1, hQ1, l1, y1, z1⟩, st1⟩ := X0.specialBack hx (y := (⟨"java/lang/Record", "<init>", "()V"⟩ : MethodName)) rfl hown (mvT hZ (w56 hw)) (mvT hZ (w57 hw)) (mvT hZ (w60 hw)) (by decide) (backOf (W := 0) (r26_init l Z a0 hw [] ya1 h0 n0 O0) hZ (w60 hw) (w59 hw) (by decide) (by decide)) (g := (mkF m 1 #[.val (.ref ya1), .val (.int yi2), .val yv3, .val yv4, .val (.ref ov14), .val yv5] [(.ref ya1)])) rfl (by rw [hml]; rfl) (Steps.refl _) (a := ya1) (argsL := []) (rest := []) (lenOf pd__V rfl) rfl (by show 2 * 0 + _ ≤ _; exact Nat.le_of_eq rfl) (hb hby d9_1) (fun _ _ => ⟨rfl, e0, (by decide : 0 + 0 ≤ _), (by decide : 0 + 0 ≤ _)⟩)
  dsimp only [Pt.U, Pt.locs, Pt.cells, Pt.slots] at X1 l1 y1 z1 st1 hQ1
  subst l1 y1 z1
  obtain ⟨Nq1, eq1, hR1⟩ := hQ1
  have N1 := Fr.app N0 Nq1
  obtain rfl := hR1
  refine Gets.tr st1 ?_
  show Gets p e below _ (T1.setTop (mkF m 4 #[.val (.ref ya1), .val (.int yi2), .val yv3, .val yv4, .val (.ref ov14), .val yv5] []))
  refine Gets.of (fun t k => XS.aload X1.here hx rfl (hb hby d9_4) rfl rfl  k) ?_
  obtain ⟨_, _, ⟨T2, L2, k2, n2⟩, -, X2, ⟨Lc2, hQ2, l2, y2, z2⟩, st2⟩ := Jvm.LawKit.callS X1 hx (y := (⟨"java/util/List", "copyOf", cn14⟩ : MethodName)) hown (mvT hZ (w62 hw)) (mvT hZ (w63 hw)) (mvT hZ (w64 hw)) (mvT hZ (w65 hw)) (by decide) (backOf (W := 0) (r36_copyOf l Z a0 hw [] ov14 h0 n0 O0 oE17 oF19) hZ (w65 hw) (w64 hw) (by decide) (by decide)) (g := (mkF m 6 #[.val (.ref ya1), .val (.int yi2), .val yv3, .val yv4, .val (.ref ov14), .val yv5] [(.ref ov14)])) rfl (by rw [hml]; rfl) (argsL := [(.ref ov14)]) (rest := []) (lenOf pd__Ljava_util_Collection_Ljava_util_List_ rfl) rfl (by show 2 * 0 + _ ≤ _; exact Nat.le_of_eq rfl) (hb hby d9_6) (fun _ _ => ⟨rfl, eq1, (by decide : 0 + 0 ≤ _), (by decide : 0 + 0 ≤ _)⟩)
  dsimp only [Pt.U, Pt.locs, Pt.cells, Pt.slots] at X2 l2 y2 z2 st2 hQ2
  subst l2 y2 z2
  obtain ⟨Nq2, eq2, hR2⟩ := hQ2
  have N2 := Fr.app N1 Nq2
  obtain rfl := hR2
  refine Gets.of st2 ?_
  show Gets p e below _ (T2.setTop (mkF m 9 #[.val (.ref ya1), .val (.int yi2), .val yv3, .val yv4, .val (.ref ov14), .val yv5] [(.ref ov14)]))
  refine Gets.of (fun t k => XS.astore X2.here hx rfl (hb hby d9_9) rfl rfl (l' := #[.val (.ref ya1), .val (.int yi2), .val yv3, .val yv4, .val (.ref ov14), .val yv5]) rfl k) ?_
  show Gets p e below _ (T2.setTop (mkF m 11 #[.val (.ref ya1), .val (.int yi2), .val yv3, .val yv4, .val (.ref ov14), .val yv5] []))
  refine Gets.of (fun t k => XS.aloadN X2.here hx rfl (hb hby d9_11) rfl rfl  k) ?_
  refine Gets.of (fun t k => XS.iloadN X2.here hx rfl (hb hby d9_12) rfl  k) ?_
  obtain ⟨T3, h3, X3, e3, W3, st3⟩ := putF X2 hx hZ hown (host := "") (Or.inl (w91 hw)) Via.refl eq2 F1 F0 (Or.inr ⟨(w92 hw), rfl, hnm⟩) (w51 hw) (ty := .int) (by decide) rfl rfl (g := (mkF m 13 #[.val (.ref ya1), .val (.int yi2), .val yv3, .val yv4, .val (.ref ov14), .val yv5] [(.int yi2), (.ref ya1)])) rfl rfl (hb hby d9_13)
  have N3 := Fr.snoc X3 N2 gq_ya1
  have Fw3 : Fld Z h3 ya1 cn1 "number" "I" (.int yi2) := (F1).same W3
  have K4 : Keep h0 _ [ya1] := K0.wr W3 (Or.inl (by simp))
  have O4 := O0.wr W3 gq_ya1
  refine Gets.of st3 ?_
  show Gets p e below _ (T3.setTop (mkF m 16 #[.val (.ref ya1), .val (.int yi2), .val yv3, .val yv4, .val (.ref ov14), .val yv5] []))
  refine Gets.of (fun t k => XS.aloadN X3.here hx rfl (hb hby d9_16) rfl rfl  k) ?_
  refine Gets.of (fun t k => XS.aloadN X3.here hx rfl (hb hby d9_17) rfl hy1  k) ?_
  have f5 : Exa Z h3 ya1 cn1 := (F0.wr W3)
  have f6 : Fld Z h3 ya1 cn1 "location" cn4 .null := (F2.other W3 (Or.inr (slot_ne (Or.inr (w94 hw)) (Or.inr (w92 hw)) (by decide) (t := (.object cn0)) (t' := .int) (by decide) (by decide))))
  obtain ⟨T7, h7, X7, e7, W7, st7⟩ := putF X3 hx hZ hown (host := "") (Or.inl (w93 hw)) Via.refl e3 f6 f5 (Or.inr ⟨(w94 hw), rfl, hnm⟩) (w51 hw) (ty := (.object cn0)) (by decide) (own_narrow_ref hy1) (own_fits_obj hy1) (g := (mkF m 18 #[.val (.ref ya1), .val (.int yi2), .val yv3, .val yv4, .val (.ref ov14), .val yv5] [yv3, (.ref ya1)])) rfl rfl (hb hby d9_18)
  have N7 := Fr.snoc X7 N3 gq_ya1
  have Fw7 : Fld Z h7 ya1 cn1 "location" cn4 yv3 := (f6).same W7
  have K8 : Keep h0 _ [ya1] := K4.wr W7 (Or.inl (by simp))
  have O8 := O4.wr W7 gq_ya1
  refine Gets.of st7 ?_
  show Gets p e below _ (T7.setTop (mkF m 21 #[.val (.ref ya1), .val (.int yi2), .val yv3, .val yv4, .val (.ref ov14), .val yv5] []))
  refine Gets.of (fun t k => XS.aloadN X7.here hx rfl (hb hby d9_21) rfl rfl  k) ?_
  refine Gets.of (fun t k => XS.aloadN X7.here hx rfl (hb hby d9_22) rfl hy2  k) ?_
  have f9 : Exa Z h7 ya1 cn1 := (f5.wr W7)
  have f10 : Fld Z h7 ya1 cn1 "source" cn4 .null := ((F3.other W3 (Or.inr (slot_ne (Or.inr (w96 hw)) (Or.inr (w92 hw)) (by decide) (t := (.object cn0)) (t' := .int) (by decide) (by decide)))).other W7 (Or.inr (slot_ne (Or.inr (w96 hw)) (Or.inr (w94 hw)) (by decide) (t := (.object cn0)) (t' := (.object cn0)) (by decide) (by decide))))
  obtain ⟨T11, h11, X11, e11, W11, st11⟩ := putF X7 hx hZ hown (host := "") (Or.inl (w95 hw)) Via.refl e7 f10 f9 (Or.inr ⟨(w96 hw), rfl, hnm⟩) (w51 hw) (ty := (.object cn0)) (by decide) (own_narrow_ref hy2) (own_fits_obj hy2) (g := (mkF m 23 #[.val (.ref ya1), .val (.int yi2), .val yv3, .val yv4, .val (.ref ov14), .val yv5] [yv4, (.ref ya1)])) rfl rfl (hb hby d9_23)
  have N11 := Fr.snoc X11 N7 gq_ya1
  have Fw11 : Fld Z h11 ya1 cn1 "source" cn4 yv4 := (f10).same W11
  have K12 : Keep h0 _ [ya1] := K8.wr W11 (Or.inl (by simp))
  have O12 := O8.wr W11 gq_ya1
  refine Gets.of st11 ?_
  show Gets p e below _ (T11.setTop (mkF m 26 #[.val (.ref ya1), .val (.int yi2), .val yv3, .val yv4, .val (.ref ov14), .val yv5] []))
  refine Gets.of (fun t k => XS.aloadN X11.here hx rfl (hb hby d9_26) rfl rfl  k) ?_
  refine Gets.of (fun t k => XS.aload X11.here hx rfl (hb hby d9_27) rfl rfl  k) ?_
  have f13 : Exa Z h11 ya1 cn1 := (f9.wr W11)
  have f14 : Fld Z h11 ya1 cn1 "values" cn12 .null := (((F4.other W3 (Or.inr (slot_ne (Or.inr (w98 hw)) (Or.inr (w92 hw)) (by decide) (t := (.object "java/util/List")) (t' := .int) (by decide) (by decide)))).other W7 (Or.inr (slot_ne (Or.inr (w98 hw)) (Or.inr (w94 hw)) (by decide) (t := (.object "java/util/List")) (t' := (.object cn0)) (by decide) (by decide)))).other W11 (Or.inr (slot_ne (Or.inr (w98 hw)) (Or.inr (w96 hw)) (by decide) (t := (.object "java/util/List")) (t' := (.object cn0)) (by decide) (by decide))))
  obtain ⟨T15, h15, X15, e15, W15, st15⟩ := putF X11 hx hZ hown (host := "") (Or.inl (w97 hw)) Via.refl e11 f14 f13 (Or.inr ⟨(w98 hw), rfl, hnm⟩) (w51 hw) (ty := (.object "java/util/List")) (by decide) rfl rfl (g := (mkF m 29 #[.val (.ref ya1), .val (.int yi2), .val yv3, .val yv4, .val (.ref ov14), .val yv5] [(.ref ov14), (.ref ya1)])) rfl rfl (hb hby d9_29)
  have N15 := Fr.snoc X15 N11 gq_ya1
  have Fw15 : Fld Z h15 ya1 cn1 "values" cn12 (.ref ov14) := (f14).same W15
  have K16 : Keep h0 _ [ya1] := K12.wr W15 (Or.inl (by simp))
  have O16 := O12.wr W15 gq_ya1
  refine Gets.of st15 ?_
  show Gets p e below _ (T15.setTop (mkF m 32 #[.val (.ref ya1), .val (.int yi2), .val yv3, .val yv4, .val (.ref ov14), .val yv5] []))
  refine Gets.of (fun t k => XS.aloadN X15.here hx rfl (hb hby d9_32) rfl rfl  k) ?_
  refine Gets.of (fun t k => XS.aload X15.here hx rfl (hb hby d9_33) rfl hy3  k) ?_
  have f17 : Exa Z h15 ya1 cn1 := (f13.wr W15)
  have f18 : Fld Z h15 ya1 cn1 "problem" cn4 .null := ((((F5.other W3 (Or.inr (slot_ne (Or.inr (w100 hw)) (Or.inr (w92 hw)) (by decide) (t := (.object cn0)) (t' := .int) (by decide) (by decide)))).other W7 (Or.inr (slot_ne (Or.inr (w100 hw)) (Or.inr (w94 hw)) (by decide) (t := (.object cn0)) (t' := (.object cn0)) (by decide) (by decide)))).other W11 (Or.inr (slot_ne (Or.inr (w100 hw)) (Or.inr (w96 hw)) (by decide) (t := (.object cn0)) (t' := (.object cn0)) (by decide) (by decide)))).other W15 (Or.inr (slot_ne (Or.inr (w100 hw)) (Or.inr (w98 hw)) (by decide) (t := (.object cn0)) (t' := (.object "java/util/List")) (by decide) (by decide))))
  obtain ⟨T19, h19, X19, e19, W19, st19⟩ := putF X15 hx hZ hown (host := "") (Or.inl (w99 hw)) Via.refl e15 f18 f17 (Or.inr ⟨(w100 hw), rfl, hnm⟩) (w51 hw) (ty := (.object cn0)) (by decide) (own_narrow_ref hy3) (own_fits_obj hy3) (g := (mkF m 35 #[.val (.ref ya1), .val (.int yi2), .val yv3, .val yv4, .val (.ref ov14), .val yv5] [yv5, (.ref ya1)])) rfl rfl (hb hby d9_35)
  have N19 := Fr.snoc X19 N15 gq_ya1
  have Fw19 : Fld Z h19 ya1 cn1 "problem" cn4 yv5 := (f18).same W19
  have K20 : Keep h0 _ [ya1] := K16.wr W19 (Or.inl (by simp))
  have O20 := O16.wr W19 gq_ya1
  refine Gets.of st19 ?_
  show Gets p e below _ (T19.setTop (mkF m 38 #[.val (.ref ya1), .val (.int yi2), .val yv3, .val yv4, .val (.ref ov14), .val yv5] []))
  refine Gets.retV X19 hx Bd.returns (hb hby d9_38) ?_ (by decide) (by decide)
  rw [e19]
  have f21 : Fld Z h19 ya1 cn1 "number" "I" (.int yi2) := ((((Fw3.other W7 (Or.inr (slot_ne (Or.inr (w92 hw)) (Or.inr (w94 hw)) (by decide) (t := .int) (t' := (.object cn0)) (by decide) (by decide)))).other W11 (Or.inr (slot_ne (Or.inr (w92 hw)) (Or.inr (w96 hw)) (by decide) (t := .int) (t' := (.object cn0)) (by decide) (by decide)))).other W15 (Or.inr (slot_ne (Or.inr (w92 hw)) (Or.inr (w98 hw)) (by decide) (t := .int) (t' := (.object "java/util/List")) (by decide) (by decide)))).other W19 (Or.inr (slot_ne (Or.inr (w92 hw)) (Or.inr (w100 hw)) (by decide) (t := .int) (t' := (.object cn0)) (by decide) (by decide))))
  have f22 : Fld Z h19 ya1 cn1 "location" cn4 yv3 := (((Fw7.other W11 (Or.inr (slot_ne (Or.inr (w94 hw)) (Or.inr (w96 hw)) (by decide) (t := (.object cn0)) (t' := (.object cn0)) (by decide) (by decide)))).other W15 (Or.inr (slot_ne (Or.inr (w94 hw)) (Or.inr (w98 hw)) (by decide) (t := (.object cn0)) (t' := (.object "java/util/List")) (by decide) (by decide)))).other W19 (Or.inr (slot_ne (Or.inr (w94 hw)) (Or.inr (w100 hw)) (by decide) (t := (.object cn0)) (t' := (.object cn0)) (by decide) (by decide))))
  have f23 : Fld Z h19 ya1 cn1 "source" cn4 yv4 := ((Fw11.other W15 (Or.inr (slot_ne (Or.inr (w96 hw)) (Or.inr (w98 hw)) (by decide) (t := (.object cn0)) (t' := (.object "java/util/List")) (by decide) (by decide)))).other W19 (Or.inr (slot_ne (Or.inr (w96 hw)) (Or.inr (w100 hw)) (by decide) (t := (.object cn0)) (t' := (.object cn0)) (by decide) (by decide))))
  have f24 : Fld Z h19 ya1 cn1 "values" cn12 (.ref ov14) := (Fw15.other W19 (Or.inr (slot_ne (Or.inr (w98 hw)) (Or.inr (w100 hw)) (by decide) (t := (.object "java/util/List")) (t' := (.object cn0)) (by decide) (by decide))))
  exact ⟨N19, K20, ⟨rfl, f21, f22, f23, f24, Fw19⟩⟩
theorem d39_14 : decode prog_51_method_3_code 14 = .ok (.areturn, 1) := by decide +kernel
def Q_r34_setAside (Z : State) (yi1 : Int32) (yv2 : Value) (yv3 : Value) (ov14 : Addr) (h0 : Heap) (n0 : Nat) (v : Option Value) (h : Heap) (L : List Loc) : Prop := Fr n0 L ∧ Keep h0 h [] ∧ ((∃ (b1 : Addr), v = some (.ref b1) ∧ h0.size ≤ b1 ∧ Exa Z h b1 cn1 ∧ Fld Z h b1 cn1 "number" "I" (.int yi1) ∧ Fld Z h b1 cn1 "location" cn4 yv2 ∧ Fld Z h b1 cn1 "source" cn4 .null ∧ Fld Z h b1 cn1 "values" cn12 (.ref ov14) ∧ Fld Z h b1 cn1 "problem" cn4 yv3))
set_option maxRecDepth 65536 in
set_option maxHeartbeats 40000000 in
theorem r34_setAside (l : Launch) (Z : State) (a0 : Array Value) (hw : ∀ d ∈ tables_1, d.before a0 Z = true) (ws : List Jvm.Cond) (yi1 : Int32) (yv2 : Value) (yv3 : Value) (ov14 : Addr) (h0 : Heap) (n0 : Nat) (O0 : Old Z n0 h0) (oS16 : Sta Z Z.heap cn9 "EMPTY_LIST" "Ljava/util/ImmutableCollections$ListN;" (.ref ov14)) (oE17 : Exa Z Z.heap ov14 cn19) (oF19 : Fld Z Z.heap ov14 cn19 "allowNulls" "Z" (.int (0 : Int32))) (hy1 : yv2.isRef = true) (hy2 : yv3.isRef = true) :
    MetFree l (⟨cn1, "setAside", cn23⟩ : MethodName) (head1 (Jvm.Cond.code (⟨cn1, "setAside", cn23⟩ : MethodName) prog_51_method_3_code 3 (some (.object cn1)) :: ws) ({ frames := 3, cells := 1, slots := 5, locals := 43 } : Room)) (fun a U => a = #[(.int yi1), yv2, yv3] ∧ Z.Warmed39 U.vm ∧ U.heap = h0) (fun _ _ _ _ _ => True) (fun _ U o U' => ∃ v L, o = .returned v ∧ Q_r34_setAside Z yi1 yv2 yv3 ov14 h0 n0 v U'.heap L ∧ FrameEnd U o U' L ({ frames := 3, cells := 1, slots := 5, locals := 43 } : Room).cells ({ frames := 3, cells := 1, slots := 5, locals := 43 } : Room).slots) := by
  refine MetFree.of_bodySF (plainFor_of_name pn_com_example_causeway_causeway_formats_OaiDcUnit) hisR ?_
  intro p e s m args below meth c s₁ Bd hml0 hP hK
  obtain ⟨rfl, hZ, hh⟩ := hP
  have hx := Bd.exec
  have hby := Bd.bytes
  have hlk := Bd.notSynchronized
  have hml : c.maxLocals = 3 := hml0
  have hown : s.vm.findClass cn1 = some m.cls := findClass_of_methodNamed Bd.named
  have hnm := (name_of_methodNamed Bd.named Bd.method).1
  have X0 : Stand p l e ({ frames := 3, cells := 1, slots := 5, locals := 43 } : Room) s m #[(.int yi1), yv2, yv3] below meth c s₁ [] 0 0 := Stand.of_body Bd
  have e0 : s₁.heap = h0 := by rw [← hh, Bd.state]; rfl
  have N0 := Fr.nil n0
  have K0 := Keep.refl h0 []
  have Z0 : n0 ≤ h0.size := O0.1 ▸ O0.2.1
  have hef : entryFrame m #[(.int yi1), yv2, yv3] 3 = mkF m 0 #[.val (.int yi1), .val yv2, .val yv3] [] := by first | (simp [entryFrame, mkF, argsToLocals, own_cI, own_cJ, own_cR, own_cN, own_cF, own_cD, own_catR hy1, own_catR hy2]; done) | rfl
  rw [hef]
  refine Gets.out (Q := Q_r34_setAside Z yi1 yv2 yv3 ov14 h0 n0) ?_
  show Gets p e below _ (s₁.setTop (mkF m 0 #[.val (.int yi1), .val yv2, .val yv3] []))
  obtain ⟨T1, h1, X1, e1, E1, A1, D1, -, st1⟩ := newO X0 hx hZ hown (w109 hw) (w51 hw) (w52 hw) e0 (g := (mkF m 0 #[.val (.int yi1), .val yv2, .val yv3] [])) rfl (hb hby d39_0) (by decide) (by decide)
  obtain ⟨b1, g1⟩ : ∃ z, z = h0.size := ⟨_, rfl⟩
  rw [← g1] at A1 D1 st1
  have sz_b1 : h0.size ≤ b1 := Nat.le_trans K0.1 (Nat.le_of_eq g1.symm)
  have g_b1 : n0 ≤ b1 := Nat.le_trans Z0 sz_b1
  have K2 := K0.ext E1
  have O2 := O0.ext E1
  have F1_92 : Fld Z h1 b1 cn1 "number" "I" (.int (0 : Int32)) := D1 (Or.inr (w92 hw)) (ty := .int) (by decide)
  have F1_94 : Fld Z h1 b1 cn1 "location" cn4 .null := D1 (Or.inr (w94 hw)) (ty := (.object cn0)) (by decide)
  have F1_96 : Fld Z h1 b1 cn1 "source" cn4 .null := D1 (Or.inr (w96 hw)) (ty := (.object cn0)) (by decide)
  have F1_98 : Fld Z h1 b1 cn1 "values" cn12 .null := D1 (Or.inr (w98 hw)) (ty := (.object "java/util/List")) (by decide)
  have F1_100 : Fld Z h1 b1 cn1 "problem" cn4 .null := D1 (Or.inr (w100 hw)) (ty := (.object cn0)) (by decide)
  refine Gets.of st1 ?_
  show Gets p e below _ (T1.setTop (mkF m 3 #[.val (.int yi1), .val yv2, .val yv3] [(.ref b1)]))
  refine Gets.of (fun t k => XS.dup X1.here hx rfl (hb hby d39_3) rfl rfl k) ?_
  refine Gets.of (fun t k => XS.iloadN X1.here hx rfl (hb hby d39_4) rfl  k) ?_
  refine Gets.of (fun t k => XS.aloadN X1.here hx rfl (hb hby d39_5) rfl hy1  k) ?_
  refine Gets.of (fun t k => XS.aconstNull X1.here hx rfl (hb hby d39_6) k) ?_
  show Gets p e below _ (T1.setTop (mkF m 7 #[.val (.int yi1), .val yv2, .val yv3] [.null, yv2, (.int yi1), (.ref b1), (.ref b1)]))
  obtain ⟨_, _, ⟨T3, L3, k3, n3⟩, -, X3, ⟨Lc3, hQ3, l3, y3, z3⟩, st3⟩ := Jvm.LawKit.callS X1 hx (y := (⟨"java/util/List", "of", "()Ljava/util/List;"⟩ : MethodName)) hown (mvT hZ (w247 hw)) (mvT hZ (w88 hw)) (mvT hZ (w64 hw)) (mvT hZ (w89 hw)) (by decide) (backOf (W := 5) (r30_of l Z a0 hw [] ov14 h1 n0 O2 oS16) hZ (w89 hw) (w64 hw) (by decide) (by decide)) (g := (mkF m 7 #[.val (.int yi1), .val yv2, .val yv3] [.null, yv2, (.int yi1), (.ref b1), (.ref b1)])) rfl (by rw [hml]; rfl) (argsL := []) (rest := [.null, yv2, (.int yi1), (.ref b1), (.ref b1)]) (lenOf pd__Ljava_util_List_ rfl) rfl (by show 2 * 0 + (List.map (fun v => v.category) [.null, yv2, (.int yi1), (.ref b1), (.ref b1)]).sum ≤ _; simp only [List.map_cons, List.map_nil, own_catR hy1]; exact Nat.le_of_eq rfl) (hb hby d39_7) (fun _ _ => ⟨rfl, e1, (by decide : 1 + 0 ≤ _), (by decide : 5 + 0 ≤ _)⟩)
  dsimp only [Pt.U, Pt.locs, Pt.cells, Pt.slots] at X3 l3 y3 z3 st3 hQ3
  subst l3 y3 z3
  obtain ⟨Nq3, eq3, hR3⟩ := hQ3
  have N3 := Fr.app N0 Nq3
  obtain rfl := hR3
  refine Gets.of st3 ?_
  show Gets p e below _ (T3.setTop (mkF m 10 #[.val (.int yi1), .val yv2, .val yv3] [(.ref ov14), .null, yv2, (.int yi1), (.ref b1), (.ref b1)]))
  refine Gets.of (fun t k => XS.aloadN X3.here hx rfl (hb hby d39_10) rfl hy2  k) ?_
  obtain ⟨_, _, ⟨T4, L4, k4, n4⟩, -, X4, ⟨Lc4, hQ4, l4, y4, z4⟩, st4⟩ := X3.specialBack hx (y := (⟨cn1, "<init>", cn16⟩ : MethodName)) rfl hown (mvT hZ (w110 hw)) (mvT hZ (w54 hw)) (mvT hZ (w55 hw)) (by decide) (backOf (W := 1) (r35_init l Z a0 hw [] b1 yi1 yv2 .null ov14 yv3 h1 n0 O2 A1 F1_92 F1_94 F1_96 F1_98 F1_100 oE17 oF19 g_b1 hy1 rfl hy2) hZ (w55 hw) (w52 hw) (by decide) (by decide)) (g := (mkF m 11 #[.val (.int yi1), .val yv2, .val yv3] [yv3, (.ref ov14), .null, yv2, (.int yi1), (.ref b1), (.ref b1)])) rfl (by rw [hml]; rfl) (Steps.refl _) (a := b1) (argsL := [(.int yi1), yv2, .null, (.ref ov14), yv3]) (rest := [(.ref b1)]) (lenOf pd__ILjava_lang_String_Ljava_lang_String_Ljava_util_List_Ljava_lang_String_V rfl) rfl (by show 2 * 0 + _ ≤ _; exact Nat.le_of_eq rfl) (hb hby d39_11) (fun _ _ => ⟨rfl, eq3, (by decide : 1 + 0 ≤ _), (by decide : 5 + 0 ≤ _)⟩)
  dsimp only [Pt.U, Pt.locs, Pt.cells, Pt.slots] at X4 l4 y4 z4 st4 hQ4
  subst l4 y4 z4
  obtain ⟨Nq4, Kq4, hR4⟩ := hQ4
  have N4 := Fr.app N3 Nq4
  have K5 : Keep h0 _ [] := K2.trans Kq4 (allS (Or.inr sz_b1) all0)
  have O5 := O2.keep Kq4 (allS g_b1 all0)
  obtain ⟨rfl, bf4_0, bf4_1, bf4_2, bf4_3, bf4_4⟩ := hR4
  refine Gets.tr st4 ?_
  show Gets p e below _ (T4.setTop (mkF m 14 #[.val (.int yi1), .val yv2, .val yv3] [(.ref b1)]))
  refine Gets.retA X4 hx Bd.returns rfl rfl (hb hby d39_14) ?_ (by decide) (by decide)
  have f6 : Exa Z T4.heap b1 cn1 := (A1.keep Kq4)
  exact ⟨N4, K5, ⟨b1, rfl, sz_b1, f6, bf4_0, bf4_1, bf4_2, bf4_3, bf4_4⟩⟩
theorem w246 {Z : State} {a0 : Array Value} (hw : ∀ d ∈ tables_1, d.before a0 Z = true) : (Jvm.Cond.code ({ cls := cn1, name := "setAside", desc := cn23 } : Jvm.MethodName) prog_51_method_3_code (3 : Nat) (Option.some (Jvm.ClassFile.FieldType.object cn1))).before a0 Z = true := hw _ (List.mem_of_getElem? (i := 246) rfl)
theorem pd__ILjava_lang_String_Ljava_lang_String_Lcom_example_causeway_causeway_formats_OaiDcUnit_ : parseMethodDescriptor "(ILjava/lang/String;Ljava/lang/String;)Lcom/example/causeway/causeway/formats/OaiDcUnit;" = some ⟨[.int, (.object "java/lang/String"), (.object "java/lang/String")], some (.object "com/example/causeway/causeway/formats/OaiDcUnit")⟩ := by decide +kernel
theorem w245 {Z : State} {a0 : Array Value} (hw : ∀ d ∈ tables_1, d.before a0 Z = true) : (Jvm.Cond.static ({ cls := cn1, name := "setAside", desc := cn23 } : Jvm.MethodName)).before a0 Z = true := hw _ (List.mem_of_getElem? (i := 245) rfl)
theorem w133 {Z : State} {a0 : Array Value} (hw : ∀ d ∈ tables_1, d.before a0 Z = true) : (Jvm.Cond.classLink cn13 (22 : Nat) cn5).before a0 Z = true := hw _ (List.mem_of_getElem? (i := 133) rfl)
theorem w134 {Z : State} {a0 : Array Value} (hw : ∀ d ∈ tables_1, d.before a0 Z = true) : (Jvm.Cond.instantiable cn5 (3 : Nat)).before a0 Z = true := hw _ (List.mem_of_getElem? (i := 134) rfl)
theorem w135 {Z : State} {a0 : Array Value} (hw : ∀ d ∈ tables_1, d.before a0 Z = true) : (Jvm.Cond.initialized cn5).before a0 Z = true := hw _ (List.mem_of_getElem? (i := 135) rfl)
theorem w147 {Z : State} {a0 : Array Value} (hw : ∀ d ∈ tables_1, d.before a0 Z = true) : (Jvm.Cond.laysFinal cn5 cn5 "element" cn18).before a0 Z = true := hw _ (List.mem_of_getElem? (i := 147) rfl)
theorem w149 {Z : State} {a0 : Array Value} (hw : ∀ d ∈ tables_1, d.before a0 Z = true) : (Jvm.Cond.laysFinal cn5 cn5 "value" cn4).before a0 Z = true := hw _ (List.mem_of_getElem? (i := 149) rfl)
theorem w151 {Z : State} {a0 : Array Value} (hw : ∀ d ∈ tables_1, d.before a0 Z = true) : (Jvm.Cond.laysFinal cn5 cn5 "language" cn4).before a0 Z = true := hw _ (List.mem_of_getElem? (i := 151) rfl)
theorem w136 {Z : State} {a0 : Array Value} (hw : ∀ d ∈ tables_1, d.before a0 Z = true) : (Jvm.Cond.fieldLink cn13 (24 : Nat) cn17 "TITLE" cn18).before a0 Z = true := hw _ (List.mem_of_getElem? (i := 136) rfl)
theorem w139 {Z : State} {a0 : Array Value} (hw : ∀ d ∈ tables_1, d.before a0 Z = true) : (Jvm.Cond.methodLink cn13 (30 : Nat) ({ cls := cn5, name := "<init>", desc := cn24 } : Jvm.MethodName)).before a0 Z = true := hw _ (List.mem_of_getElem? (i := 139) rfl)
theorem d23_0 : decode prog_36_method_1_code 0 = .ok (.aload_n 0, 1) := by decide +kernel
theorem d23_1 : decode prog_36_method_1_code 1 = .ok (.aload_n 1, 1) := by decide +kernel
theorem d23_2 : decode prog_36_method_1_code 2 = .ok (.aload_n 2, 1) := by decide +kernel
theorem d23_3 : decode prog_36_method_1_code 3 = .ok (.aconst_null, 1) := by decide +kernel
theorem d23_4 : decode prog_36_method_1_code 4 = .ok (.invokespecial 20, 3) := by decide +kernel
theorem w142 {Z : State} {a0 : Array Value} (hw : ∀ d ∈ tables_1, d.before a0 Z = true) : (Jvm.Cond.methodLink cn5 (20 : Nat) ({ cls := cn5, name := "<init>", desc := cn25 } : Jvm.MethodName)).before a0 Z = true := hw _ (List.mem_of_getElem? (i := 142) rfl)
theorem d24_0 : decode prog_36_method_2_code 0 = .ok (.aload_n 0, 1) := by decide +kernel
theorem d24_1 : decode prog_36_method_2_code 1 = .ok (.invokespecial 1, 3) := by decide +kernel
theorem w145 {Z : State} {a0 : Array Value} (hw : ∀ d ∈ tables_1, d.before a0 Z = true) : (Jvm.Cond.methodLink cn5 (1 : Nat) ({ cls := "java/lang/Record", name := "<init>", desc := "()V" } : Jvm.MethodName)).before a0 Z = true := hw _ (List.mem_of_getElem? (i := 145) rfl)
theorem d24_4 : decode prog_36_method_2_code 4 = .ok (.aload_n 0, 1) := by decide +kernel
theorem d24_5 : decode prog_36_method_2_code 5 = .ok (.aload_n 1, 1) := by decide +kernel
theorem d24_6 : decode prog_36_method_2_code 6 = .ok (.putfield 7, 3) := by decide +kernel
theorem w146 {Z : State} {a0 : Array Value} (hw : ∀ d ∈ tables_1, d.before a0 Z = true) : (Jvm.Cond.fieldLink cn5 (7 : Nat) cn5 "element" cn18).before a0 Z = true := hw _ (List.mem_of_getElem? (i := 146) rfl)
theorem d24_9 : decode prog_36_method_2_code 9 = .ok (.aload_n 0, 1) := by decide +kernel
theorem d24_10 : decode prog_36_method_2_code 10 = .ok (.aload_n 2, 1) := by decide +kernel
theorem d24_11 : decode prog_36_method_2_code 11 = .ok (.putfield 13, 3) := by decide +kernel
theorem w148 {Z : State} {a0 : Array Value} (hw : ∀ d ∈ tables_1, d.before a0 Z = true) : (Jvm.Cond.fieldLink cn5 (13 : Nat) cn5 "value" cn4).before a0 Z = true := hw _ (List.mem_of_getElem? (i := 148) rfl)
theorem d24_14 : decode prog_36_method_2_code 14 = .ok (.aload_n 0, 1) := by decide +kernel
theorem d24_15 : decode prog_36_method_2_code 15 = .ok (.aload_n 3, 1) := by decide +kernel
theorem d24_16 : decode prog_36_method_2_code 16 = .ok (.putfield 17, 3) := by decide +kernel
theorem w150 {Z : State} {a0 : Array Value} (hw : ∀ d ∈ tables_1, d.before a0 Z = true) : (Jvm.Cond.fieldLink cn5 (17 : Nat) cn5 "language" cn4).before a0 Z = true := hw _ (List.mem_of_getElem? (i := 150) rfl)
theorem d24_19 : decode prog_36_method_2_code 19 = .ok (.return_, 1) := by decide +kernel
def Q_r39_init (Z : State) (ya1 : Addr) (yv2 : Value) (yv3 : Value) (yv4 : Value) (h0 : Heap) (n0 : Nat) (v : Option Value) (h : Heap) (L : List Loc) : Prop := Fr n0 L ∧ Keep h0 h [ya1] ∧ ((v = none ∧ Fld Z h ya1 cn5 "element" cn18 yv2 ∧ Fld Z h ya1 cn5 "value" cn4 yv3 ∧ Fld Z h ya1 cn5 "language" cn4 yv4))
theorem pn_com_example_causeway_causeway_formats_DcValue : plainName "com/example/causeway/causeway/formats/DcValue" = true := by first | (simp [plainName, overriddenIn]; done) | decide +kernel
set_option maxRecDepth 65536 in
set_option maxHeartbeats 40000000 in
theorem r39_init (l : Launch) (Z : State) (a0 : Array Value) (hw : ∀ d ∈ tables_1, d.before a0 Z = true) (ws : List Jvm.Cond) (ya1 : Addr) (yv2 : Value) (yv3 : Value) (yv4 : Value) (h0 : Heap) (n0 : Nat) (O0 : Old Z n0 h0) (F0 : Exa Z h0 ya1 cn5) (F1 : Fld Z h0 ya1 cn5 "element" cn18 .null) (F2 : Fld Z h0 ya1 cn5 "value" cn4 .null) (F3 : Fld Z h0 ya1 cn5 "language" cn4 .null) (gq_ya1 : n0 ≤ ya1) (hy1 : yv2.isRef = true) (hy2 : yv3.isRef = true) (hy3 : yv4.isRef = true) :
    MetFree l (⟨cn5, "<init>", cn25⟩ : MethodName) (head1 (Jvm.Cond.code (⟨cn5, "<init>", cn25⟩ : MethodName) prog_36_method_2_code 4 none :: ws) ({ frames := 2, cells := 0, slots := 0, locals := 24 } : Room)) (fun a U => a = #[(.ref ya1), yv2, yv3, yv4] ∧ Z.Warmed39 U.vm ∧ U.heap = h0) (fun _ _ _ _ _ => True) (fun _ U o U' => ∃ v L, o = .returned v ∧ Q_r39_init Z ya1 yv2 yv3 yv4 h0 n0 v U'.heap L ∧ FrameEnd U o U' L ({ frames := 2, cells := 0, slots := 0, locals := 24 } : Room).cells ({ frames := 2, cells := 0, slots := 0, locals := 24 } : Room).slots) := by
  refine MetFree.of_bodySF (plainFor_of_name pn_com_example_causeway_causeway_formats_DcValue) hisR ?_
  intro p e s m args below meth c s₁ Bd hml0 hP hK
  obtain ⟨rfl, hZ, hh⟩ := hP
  have hx := Bd.exec
  have hby := Bd.bytes
  have hlk := Bd.notSynchronized
  have hml : c.maxLocals = 4 := hml0
  have hown : s.vm.findClass cn5 = some m.cls := findClass_of_methodNamed Bd.named
  have hnm := (name_of_methodNamed Bd.named Bd.method).1
  have X0 : Stand p l e ({ frames := 2, cells := 0, slots := 0, locals := 24 } : Room) s m #[(.ref ya1), yv2, yv3, yv4] below meth c s₁ [] 0 0 := Stand.of_body Bd
  have e0 : s₁.heap = h0 := by rw [← hh, Bd.state]; rfl
  have N0 := Fr.nil n0
  have K0 := Keep.refl h0 [ya1]
  have Z0 : n0 ≤ h0.size := O0.1 ▸ O0.2.1
  have hef : entryFrame m #[(.ref ya1), yv2, yv3, yv4] 4 = mkF m 0 #[.val (.ref ya1), .val yv2, .val yv3, .val yv4] [] := by first | (simp [entryFrame, mkF, argsToLocals, own_cI, own_cJ, own_cR, own_cN, own_cF, own_cD, own_catR hy1, own_catR hy2, own_catR hy3]; done) | rfl
  rw [hef]
  refine Gets.out (Q := Q_r39_init Z ya1 yv2 yv3 yv4 h0 n0) ?_
  show Gets p e below _ (s₁.setTop (mkF m 0 #[.val (.ref ya1), .val yv2, .val yv3, .val yv4] []))
  refine Gets.of (fun t k => XS.aloadN X0.here hx rfl (hb hby d24_0) rfl rfl  k) ?_
  obtain ⟨_, _, ⟨T1, L1, k1, n1⟩, -, X1, ⟨Lc1, hQ1, l1, y1, z1⟩, st1⟩ := X0.specialBack hx (y := (⟨"java/lang/Record", "<init>", "()V"⟩ : MethodName)) rfl hown (mvT hZ (w145 hw)) (mvT hZ (w57 hw)) (mvT hZ (w60 hw)) (by decide) (backOf (W := 0) (r26_init l Z a0 hw [] ya1 h0 n0 O0) hZ (w60 hw) (w59 hw) (by decide) (by decide)) (g := (mkF m 1 #[.val (.ref ya1), .val yv2, .val yv3, .val yv4] [(.ref ya1)])) rfl (by rw [hml]; rfl) (Steps.refl _) (a := ya1) (argsL := []) (rest := []) (lenOf pd__V rfl) rfl (by show 2 * 0 + _ ≤ _; exact Nat.le_of_eq rfl) (hb hby d24_1) (fun _ _ => ⟨rfl, e0, (by decide : 0 + 0 ≤ _), (by decide : 0 + 0 ≤ _)⟩)
  dsimp only [Pt.U, Pt.locs, Pt.cells, Pt.slots] at X1 l1 y1 z1 st1 hQ1
  subst l1 y1 z1
  obtain ⟨Nq1, eq1, hR1⟩ := hQ1
  have N1 := Fr.app N0 Nq1
  obtain rfl := hR1
  refine Gets.tr st1 ?_
  show Gets p e below _ (T1.setTop (mkF m 4 #[.val (.ref ya1), .val yv2, .val yv3, .val yv4] []))
  refine Gets.of (fun t k => XS.aloadN X1.here hx rfl (hb hby d24_4) rfl rfl  k) ?_
  refine Gets.of (fun t k => XS.aloadN X1.here hx rfl (hb hby d24_5) rfl hy1  k) ?_
  obtain ⟨T2, h2, X2, e2, W2, st2⟩ := putF X1 hx hZ hown (host := "") (Or.inl (w146 hw)) Via.refl eq1 F1 F0 (Or.inr ⟨(w147 hw), rfl, hnm⟩) (w134 hw) (ty := (.object cn17)) (by decide) (own_narrow_ref hy1) (own_fits_obj hy1) (g := (mkF m 6 #[.val (.ref ya1), .val yv2, .val yv3, .val yv4] [yv2, (.ref ya1)])) rfl rfl (hb hby d24_6)
  have N2 := Fr.snoc X2 N1 gq_ya1
  have Fw2 : Fld Z h2 ya1 cn5 "element" cn18 yv2 := (F1).same W2
  have K3 : Keep h0 _ [ya1] := K0.wr W2 (Or.inl (by simp))
  have O3 := O0.wr W2 gq_ya1
  refine Gets.of st2 ?_
  show Gets p e below _ (T2.setTop (mkF m 9 #[.val (.ref ya1), .val yv2, .val yv3, .val yv4] []))
  refine Gets.of (fun t k => XS.aloadN X2.here hx rfl (hb hby d24_9) rfl rfl  k) ?_
  refine Gets.of (fun t k => XS.aloadN X2.here hx rfl (hb hby d24_10) rfl hy2  k) ?_
  have f4 : Exa Z h2 ya1 cn5 := (F0.wr W2)
  have f5 : Fld Z h2 ya1 cn5 "value" cn4 .null := (F2.other W2 (Or.inr (slot_ne (Or.inr (w149 hw)) (Or.inr (w147 hw)) (by decide) (t := (.object cn0)) (t' := (.object cn17)) (by decide) (by decide))))
  obtain ⟨T6, h6, X6, e6, W6, st6⟩ := putF X2 hx hZ hown (host := "") (Or.inl (w148 hw)) Via.refl e2 f5 f4 (Or.inr ⟨(w149 hw), rfl, hnm⟩) (w134 hw) (ty := (.object cn0)) (by decide) (own_narrow_ref hy2) (own_fits_obj hy2) (g := (mkF m 11 #[.val (.ref ya1), .val yv2, .val yv3, .val yv4] [yv3, (.ref ya1)])) rfl rfl (hb hby d24_11)
  have N6 := Fr.snoc X6 N2 gq_ya1
  have Fw6 : Fld Z h6 ya1 cn5 "value" cn4 yv3 := (f5).same W6
  have K7 : Keep h0 _ [ya1] := K3.wr W6 (Or.inl (by simp))
  have O7 := O3.wr W6 gq_ya1
  refine Gets.of st6 ?_
  show Gets p e below _ (T6.setTop (mkF m 14 #[.val (.ref ya1), .val yv2, .val yv3, .val yv4] []))
  refine Gets.of (fun t k => XS.aloadN X6.here hx rfl (hb hby d24_14) rfl rfl  k) ?_
  refine Gets.of (fun t k => XS.aloadN X6.here hx rfl (hb hby d24_15) rfl hy3  k) ?_
  have f8 : Exa Z h6 ya1 cn5 := (f4.wr W6)
  have f9 : Fld Z h6 ya1 cn5 "language" cn4 .null := ((F3.other W2 (Or.inr (slot_ne (Or.inr (w151 hw)) (Or.inr (w147 hw)) (by decide) (t := (.object cn0)) (t' := (.object cn17)) (by decide) (by decide)))).other W6 (Or.inr (slot_ne (Or.inr (w151 hw)) (Or.inr (w149 hw)) (by decide) (t := (.object cn0)) (t' := (.object cn0)) (by decide) (by decide))))
  obtain ⟨T10, h10, X10, e10, W10, st10⟩ := putF X6 hx hZ hown (host := "") (Or.inl (w150 hw)) Via.refl e6 f9 f8 (Or.inr ⟨(w151 hw), rfl, hnm⟩) (w134 hw) (ty := (.object cn0)) (by decide) (own_narrow_ref hy3) (own_fits_obj hy3) (g := (mkF m 16 #[.val (.ref ya1), .val yv2, .val yv3, .val yv4] [yv4, (.ref ya1)])) rfl rfl (hb hby d24_16)
  have N10 := Fr.snoc X10 N6 gq_ya1
  have Fw10 : Fld Z h10 ya1 cn5 "language" cn4 yv4 := (f9).same W10
  have K11 : Keep h0 _ [ya1] := K7.wr W10 (Or.inl (by simp))
  have O11 := O7.wr W10 gq_ya1
  refine Gets.of st10 ?_
  show Gets p e below _ (T10.setTop (mkF m 19 #[.val (.ref ya1), .val yv2, .val yv3, .val yv4] []))
  refine Gets.retV X10 hx Bd.returns (hb hby d24_19) ?_ (by decide) (by decide)
  rw [e10]
  have f12 : Fld Z h10 ya1 cn5 "element" cn18 yv2 := ((Fw2.other W6 (Or.inr (slot_ne (Or.inr (w147 hw)) (Or.inr (w149 hw)) (by decide) (t := (.object cn17)) (t' := (.object cn0)) (by decide) (by decide)))).other W10 (Or.inr (slot_ne (Or.inr (w147 hw)) (Or.inr (w151 hw)) (by decide) (t := (.object cn17)) (t' := (.object cn0)) (by decide) (by decide))))
  have f13 : Fld Z h10 ya1 cn5 "value" cn4 yv3 := (Fw6.other W10 (Or.inr (slot_ne (Or.inr (w149 hw)) (Or.inr (w151 hw)) (by decide) (t := (.object cn0)) (t' := (.object cn0)) (by decide) (by decide))))
  exact ⟨N10, K11, ⟨rfl, f12, f13, Fw10⟩⟩
theorem w144 {Z : State} {a0 : Array Value} (hw : ∀ d ∈ tables_1, d.before a0 Z = true) : (Jvm.Cond.code ({ cls := cn5, name := "<init>", desc := cn25 } : Jvm.MethodName) prog_36_method_2_code (4 : Nat) (Option.none : Option Jvm.ClassFile.FieldType)).before a0 Z = true := hw _ (List.mem_of_getElem? (i := 144) rfl)
theorem pd__Lcom_example_causeway_causeway_formats_DcElement_Ljava_lang_String_Ljava_lang_String_V : parseMethodDescriptor "(Lcom/example/causeway/causeway/formats/DcElement;Ljava/lang/String;Ljava/lang/String;)V" = some ⟨[(.object "com/example/causeway/causeway/formats/DcElement"), (.object "java/lang/String"), (.object "java/lang/String")], none⟩ := by decide +kernel
theorem w143 {Z : State} {a0 : Array Value} (hw : ∀ d ∈ tables_1, d.before a0 Z = true) : (Jvm.Cond.instanceMethod ({ cls := cn5, name := "<init>", desc := cn25 } : Jvm.MethodName)).before a0 Z = true := hw _ (List.mem_of_getElem? (i := 143) rfl)
theorem d23_7 : decode prog_36_method_1_code 7 = .ok (.return_, 1) := by decide +kernel
def Q_r38_init (Z : State) (ya1 : Addr) (yv2 : Value) (yv3 : Value) (h0 : Heap) (n0 : Nat) (v : Option Value) (h : Heap) (L : List Loc) : Prop := Fr n0 L ∧ Keep h0 h [ya1] ∧ ((v = none ∧ Fld Z h ya1 cn5 "element" cn18 yv2 ∧ Fld Z h ya1 cn5 "value" cn4 yv3 ∧ Fld Z h ya1 cn5 "language" cn4 .null))
set_option maxRecDepth 65536 in
set_option maxHeartbeats 40000000 in
theorem r38_init (l : Launch) (Z : State) (a0 : Array Value) (hw : ∀ d ∈ tables_1, d.before a0 Z = true) (ws : List Jvm.Cond) (ya1 : Addr) (yv2 : Value) (yv3 : Value) (h0 : Heap) (n0 : Nat) (O0 : Old Z n0 h0) (F0 : Exa Z h0 ya1 cn5) (F1 : Fld Z h0 ya1 cn5 "element" cn18 .null) (F2 : Fld Z h0 ya1 cn5 "value" cn4 .null) (F3 : Fld Z h0 ya1 cn5 "language" cn4 .null) (gq_ya1 : n0 ≤ ya1) (hy1 : yv2.isRef = true) (hy2 : yv3.isRef = true) :
    MetFree l (⟨cn5, "<init>", cn24⟩ : MethodName) (head1 (Jvm.Cond.code (⟨cn5, "<init>", cn24⟩ : MethodName) prog_36_method_1_code 3 none :: ws) ({ frames := 3, cells := 0, slots := 0, locals := 39 } : Room)) (fun a U => a = #[(.ref ya1), yv2, yv3] ∧ Z.Warmed39 U.vm ∧ U.heap = h0) (fun _ _ _ _ _ => True) (fun _ U o U' => ∃ v L, o = .returned v ∧ Q_r38_init Z ya1 yv2 yv3 h0 n0 v U'.heap L ∧ FrameEnd U o U' L ({ frames := 3, cells := 0, slots := 0, locals := 39 } : Room).cells ({ frames := 3, cells := 0, slots := 0, locals := 39 } : Room).slots) := by
  refine MetFree.of_bodySF (plainFor_of_name pn_com_example_causeway_causeway_formats_DcValue) hisR ?_
  intro p e s m args below meth c s₁ Bd hml0 hP hK
  obtain ⟨rfl, hZ, hh⟩ := hP
  have hx := Bd.exec
  have hby := Bd.bytes
  have hlk := Bd.notSynchronized
  have hml : c.maxLocals = 3 := hml0
  have hown : s.vm.findClass cn5 = some m.cls := findClass_of_methodNamed Bd.named
  have hnm := (name_of_methodNamed Bd.named Bd.method).1
  have X0 : Stand p l e ({ frames := 3, cells := 0, slots := 0, locals := 39 } : Room) s m #[(.ref ya1), yv2, yv3] below meth c s₁ [] 0 0 := Stand.of_body Bd
  have e0 : s₁.heap = h0 := by rw [← hh, Bd.state]; rfl
  have N0 := Fr.nil n0
  have K0 := Keep.refl h0 [ya1]
  have Z0 : n0 ≤ h0.size := O0.1 ▸ O0.2.1
  have hef : entryFrame m #[(.ref ya1), yv2, yv3] 3 = mkF m 0 #[.val (.ref ya1), .val yv2, .val yv3] [] := by first | (simp [entryFrame, mkF, argsToLocals, own_cI, own_cJ, own_cR, own_cN, own_cF, own_cD, own_catR hy1, own_catR hy2]; done) | rfl
  rw [hef]
  refine Gets.out (Q := Q_r38_init Z ya1 yv2 yv3 h0 n0) ?_
  show Gets p e below _ (s₁.setTop (mkF m 0 #[.val (.ref ya1), .val yv2, .val yv3] []))
  refine Gets.of (fun t k => XS.aloadN X0.here hx rfl (hb hby d23_0) rfl rfl  k) ?_
  refine Gets.of (fun t k => XS.aloadN X0.here hx rfl (hb hby d23_1) rfl hy1  k) ?_
  refine Gets.of (fun t k => XS.aloadN X0.here hx rfl (hb hby d23_2) rfl hy2  k) ?_
  refine Gets.of (fun t k => XS.aconstNull X0.here hx rfl (hb hby d23_3) k) ?_
  show Gets p e below _ (s₁.setTop (mkF m 4 #[.val (.ref ya1), .val yv2, .val yv3] [.null, yv3, yv2, (.ref ya1)]))
  obtain ⟨_, _, ⟨T1, L1, k1, n1⟩, -, X1, ⟨Lc1, hQ1, l1, y1, z1⟩, st1⟩ := X0.specialBack hx (y := (⟨cn5, "<init>", cn25⟩ : MethodName)) rfl hown (mvT hZ (w142 hw)) (mvT hZ (w143 hw)) (mvT hZ (w144 hw)) (by decide) (backOf (W := 0) (r39_init l Z a0 hw [] ya1 yv2 yv3 .null h0 n0 O0 F0 F1 F2 F3 gq_ya1 hy1 hy2 rfl) hZ (w144 hw) (w135 hw) (by decide) (by decide)) (g := (mkF m 4 #[.val (.ref ya1), .val yv2, .val yv3] [.null, yv3, yv2, (.ref ya1)])) rfl (by rw [hml]; rfl) (Steps.refl _) (a := ya1) (argsL := [yv2, yv3, .null]) (rest := []) (lenOf pd__Lcom_example_causeway_causeway_formats_DcElement_Ljava_lang_String_Ljava_lang_String_V rfl) rfl (by show 2 * 0 + _ ≤ _; exact Nat.le_of_eq rfl) (hb hby d23_4) (fun _ _ => ⟨rfl, e0, (by decide : 0 + 0 ≤ _), (by decide : 0 + 0 ≤ _)⟩)
  dsimp only [Pt.U, Pt.locs, Pt.cells, Pt.slots] at X1 l1 y1 z1 st1 hQ1
  subst l1 y1 z1
  obtain ⟨Nq1, Kq1, hR1⟩ := hQ1
  have N1 := Fr.app N0 Nq1
  have K2 : Keep h0 _ [ya1] := K0.trans Kq1 (allS (Or.inl (by simp)) all0)
  have O2 := O0.keep Kq1 (allS gq_ya1 all0)
  obtain ⟨rfl, bf1_0, bf1_1, bf1_2⟩ := hR1
  refine Gets.tr st1 ?_
  show Gets p e below _ (T1.setTop (mkF m 7 #[.val (.ref ya1), .val yv2, .val yv3] []))
  refine Gets.retV X1 hx Bd.returns (hb hby d23_7) ?_ (by decide) (by decide)
  exact ⟨N1, K2, ⟨rfl, bf1_0, bf1_1, bf1_2⟩⟩
theorem w141 {Z : State} {a0 : Array Value} (hw : ∀ d ∈ tables_1, d.before a0 Z = true) : (Jvm.Cond.code ({ cls := cn5, name := "<init>", desc := cn24 } : Jvm.MethodName) prog_36_method_1_code (3 : Nat) (Option.none : Option Jvm.ClassFile.FieldType)).before a0 Z = true := hw _ (List.mem_of_getElem? (i := 141) rfl)
theorem pd__Lcom_example_causeway_causeway_formats_DcElement_Ljava_lang_String_V : parseMethodDescriptor "(Lcom/example/causeway/causeway/formats/DcElement;Ljava/lang/String;)V" = some ⟨[(.object "com/example/causeway/causeway/formats/DcElement"), (.object "java/lang/String")], none⟩ := by decide +kernel
theorem w140 {Z : State} {a0 : Array Value} (hw : ∀ d ∈ tables_1, d.before a0 Z = true) : (Jvm.Cond.instanceMethod ({ cls := cn5, name := "<init>", desc := cn24 } : Jvm.MethodName)).before a0 Z = true := hw _ (List.mem_of_getElem? (i := 140) rfl)
theorem w152 {Z : State} {a0 : Array Value} (hw : ∀ d ∈ tables_1, d.before a0 Z = true) : (Jvm.Cond.methodLink cn13 (33 : Nat) ({ cls := cn2, name := "add", desc := "(Ljava/lang/Object;)Z" } : Jvm.MethodName)).before a0 Z = true := hw _ (List.mem_of_getElem? (i := 152) rfl)
theorem d25_0 : decode jdk_38_method_25_code 0 = .ok (.aload_n 0, 1) := by decide +kernel
theorem d25_1 : decode jdk_38_method_25_code 1 = .ok (.dup, 1) := by decide +kernel
theorem d25_2 : decode jdk_38_method_25_code 2 = .ok (.getfield 63, 3) := by decide +kernel
theorem w157 {Z : State} {a0 : Array Value} (hw : ∀ d ∈ tables_1, d.before a0 Z = true) : (Jvm.Cond.fieldLink cn2 (63 : Nat) cn2 "modCount" "I").before a0 Z = true := hw _ (List.mem_of_getElem? (i := 157) rfl)
theorem w158 {Z : State} {a0 : Array Value} (hw : ∀ d ∈ tables_1, d.before a0 Z = true) : (Jvm.Cond.sameField cn2 cn10 "modCount" "I").before a0 Z = true := hw _ (List.mem_of_getElem? (i := 158) rfl)
theorem d25_5 : decode jdk_38_method_25_code 5 = .ok (.iconst 1, 1) := by decide +kernel
theorem d25_6 : decode jdk_38_method_25_code 6 = .ok (.iadd, 1) := by decide +kernel
theorem d25_7 : decode jdk_38_method_25_code 7 = .ok (.putfield 63, 3) := by decide +kernel
theorem d25_10 : decode jdk_38_method_25_code 10 = .ok (.aload_n 0, 1) := by decide +kernel
theorem d25_11 : decode jdk_38_method_25_code 11 = .ok (.aload_n 1, 1) := by decide +kernel
theorem d25_12 : decode jdk_38_method_25_code 12 = .ok (.aload_n 0, 1) := by decide +kernel
theorem d25_13 : decode jdk_38_method_25_code 13 = .ok (.getfield 9, 3) := by decide +kernel
theorem d25_16 : decode jdk_38_method_25_code 16 = .ok (.aload_n 0, 1) := by decide +kernel
theorem d25_17 : decode jdk_38_method_25_code 17 = .ok (.getfield 48, 3) := by decide +kernel
theorem d25_20 : decode jdk_38_method_25_code 20 = .ok (.invokevirtual 131, 3) := by decide +kernel
theorem w159 {Z : State} {a0 : Array Value} (hw : ∀ d ∈ tables_1, d.before a0 Z = true) : (Jvm.Cond.methodLink cn2 (131 : Nat) ({ cls := cn2, name := "add", desc := "(Ljava/lang/Object;[Ljava/lang/Object;I)V" } : Jvm.MethodName)).before a0 Z = true := hw _ (List.mem_of_getElem? (i := 159) rfl)
theorem d26_0 : decode jdk_38_method_24_code 0 = .ok (.iload_n 3, 1) := by decide +kernel
theorem d26_1 : decode jdk_38_method_24_code 1 = .ok (.aload_n 2, 1) := by decide +kernel
theorem d26_2 : decode jdk_38_method_24_code 2 = .ok (.arraylength, 1) := by decide +kernel
theorem d26_3 : decode jdk_38_method_24_code 3 = .ok (.if_icmp .ne 8, 3) := by decide +kernel
theorem d26_6 : decode jdk_38_method_24_code 6 = .ok (.aload_n 0, 1) := by decide +kernel
theorem d26_7 : decode jdk_38_method_24_code 7 = .ok (.invokevirtual 129, 3) := by decide +kernel
theorem w164 {Z : State} {a0 : Array Value} (hw : ∀ d ∈ tables_1, d.before a0 Z = true) : (Jvm.Cond.methodLink cn2 (129 : Nat) ({ cls := cn2, name := "grow", desc := cn15 } : Jvm.MethodName)).before a0 Z = true := hw _ (List.mem_of_getElem? (i := 164) rfl)
theorem d27_0 : decode jdk_38_method_7_code 0 = .ok (.aload_n 0, 1) := by decide +kernel
theorem d27_1 : decode jdk_38_method_7_code 1 = .ok (.aload_n 0, 1) := by decide +kernel
theorem d27_2 : decode jdk_38_method_7_code 2 = .ok (.getfield 48, 3) := by decide +kernel
theorem d27_5 : decode jdk_38_method_7_code 5 = .ok (.iconst 1, 1) := by decide +kernel
theorem d27_6 : decode jdk_38_method_7_code 6 = .ok (.iadd, 1) := by decide +kernel
theorem d27_7 : decode jdk_38_method_7_code 7 = .ok (.invokevirtual 69, 3) := by decide +kernel
theorem w169 {Z : State} {a0 : Array Value} (hw : ∀ d ∈ tables_1, d.before a0 Z = true) : (Jvm.Cond.methodLink cn2 (69 : Nat) ({ cls := cn2, name := "grow", desc := "(I)[Ljava/lang/Object;" } : Jvm.MethodName)).before a0 Z = true := hw _ (List.mem_of_getElem? (i := 169) rfl)
theorem d28_0 : decode jdk_38_method_6_code 0 = .ok (.aload_n 0, 1) := by decide +kernel
theorem d28_1 : decode jdk_38_method_6_code 1 = .ok (.getfield 9, 3) := by decide +kernel
theorem d28_4 : decode jdk_38_method_6_code 4 = .ok (.arraylength, 1) := by decide +kernel
theorem d28_5 : decode jdk_38_method_6_code 5 = .ok (.istore_n 2, 1) := by decide +kernel
theorem d28_6 : decode jdk_38_method_6_code 6 = .ok (.iload_n 2, 1) := by decide +kernel
theorem d28_7 : decode jdk_38_method_6_code 7 = .ok (.ifCond .gt 13, 3) := by decide +kernel
theorem d28_10 : decode jdk_38_method_6_code 10 = .ok (.aload_n 0, 1) := by decide +kernel
theorem d28_11 : decode jdk_38_method_6_code 11 = .ok (.getfield 9, 3) := by decide +kernel
theorem d28_14 : decode jdk_38_method_6_code 14 = .ok (.getstatic 39, 3) := by decide +kernel
theorem d28_17 : decode jdk_38_method_6_code 17 = .ok (.if_acmp .eq 28, 3) := by decide +kernel
theorem d28_45 : decode jdk_38_method_6_code 45 = .ok (.aload_n 0, 1) := by decide +kernel
theorem d28_46 : decode jdk_38_method_6_code 46 = .ok (.bipush 10, 2) := by decide +kernel
theorem d28_48 : decode jdk_38_method_6_code 48 = .ok (.iload_n 1, 1) := by decide +kernel
theorem d28_49 : decode jdk_38_method_6_code 49 = .ok (.invokestatic 79, 3) := by decide +kernel
theorem w174 {Z : State} {a0 : Array Value} (hw : ∀ d ∈ tables_1, d.before a0 Z = true) : (Jvm.Cond.methodLink cn2 (79 : Nat) ({ cls := "java/lang/Math", name := "max", desc := "(II)I" } : Jvm.MethodName)).before a0 Z = true := hw _ (List.mem_of_getElem? (i := 174) rfl)
theorem d29_0 : decode jdk_29_method_65_code 0 = .ok (.iload_n 0, 1) := by decide +kernel
theorem d29_1 : decode jdk_29_method_65_code 1 = .ok (.iload_n 1, 1) := by decide +kernel
theorem d29_2 : decode jdk_29_method_65_code 2 = .ok (.if_icmp .lt 7, 3) := by decide +kernel
theorem d29_5 : decode jdk_29_method_65_code 5 = .ok (.iload_n 0, 1) := by decide +kernel
theorem d29_6 : decode jdk_29_method_65_code 6 = .ok (.goto 4, 3) := by decide +kernel
theorem d29_10 : decode jdk_29_method_65_code 10 = .ok (.ireturn, 1) := by decide +kernel
def Q_r44_max (Z : State)  (h0 : Heap) (n0 : Nat) (v : Option Value) (h : Heap) (L : List Loc) : Prop := Fr n0 L ∧ h = h0 ∧ ((v = some (.int (10 : Int32))))
set_option maxRecDepth 65536 in
set_option maxHeartbeats 40000000 in
theorem r44_max (l : Launch) (Z : State) (a0 : Array Value) (hw : ∀ d ∈ tables_1, d.before a0 Z = true) (ws : List Jvm.Cond)  (h0 : Heap) (n0 : Nat) (O0 : Old Z n0 h0) :
    MetFree l (⟨"java/lang/Math", "max", "(II)I"⟩ : MethodName) (head1 (Jvm.Cond.code (⟨"java/lang/Math", "max", "(II)I"⟩ : MethodName) jdk_29_method_65_code 2 (some .int) :: ws) ({ frames := 0, cells := 0, slots := 0, locals := 0 } : Room)) (fun a U => a = #[(.int (10 : Int32)), (.int (1 : Int32))] ∧ Z.Warmed39 U.vm ∧ U.heap = h0) (fun _ _ _ _ _ => True) (fun _ U o U' => ∃ v L, o = .returned v ∧ Q_r44_max Z  h0 n0 v U'.heap L ∧ FrameEnd U o U' L ({ frames := 0, cells := 0, slots := 0, locals := 0 } : Room).cells ({ frames := 0, cells := 0, slots := 0, locals := 0 } : Room).slots) := by
  refine MetFree.of_bodySF (Jvm.Free.JP.mathPlain rfl (by decide +kernel)) hisR ?_
  intro p e s m args below meth c s₁ Bd hml0 hP hK
  obtain ⟨rfl, hZ, hh⟩ := hP
  have hx := Bd.exec
  have hby := Bd.bytes
  have hlk := Bd.notSynchronized
  have hml : c.maxLocals = 2 := hml0
  have hown : s.vm.findClass "java/lang/Math" = some m.cls := findClass_of_methodNamed Bd.named
  have hnm := (name_of_methodNamed Bd.named Bd.method).1
  have X0 : Stand p l e ({ frames := 0, cells := 0, slots := 0, locals := 0 } : Room) s m #[(.int (10 : Int32)), (.int (1 : Int32))] below meth c s₁ [] 0 0 := Stand.of_body Bd
  have e0 : s₁.heap = h0 := by rw [← hh, Bd.state]; rfl
  have N0 := Fr.nil n0
  have K0 := Keep.refl h0 []
  have Z0 : n0 ≤ h0.size := O0.1 ▸ O0.2.1
  have hef : entryFrame m #[(.int (10 : Int32)), (.int (1 : Int32))] 2 = mkF m 0 #[.val (.int (10 : Int32)), .val (.int (1 : Int32))] [] := by first | (simp [entryFrame, mkF, argsToLocals, Value.category]; done) | rfl
  rw [hef]
  refine Gets.out (Q := Q_r44_max Z  h0 n0) ?_
  show Gets p e below _ (s₁.setTop (mkF m 0 #[.val (.int (10 : Int32)), .val (.int (1 : Int32))] []))
  refine Gets.of (fun t k => XS.iloadN X0.here hx rfl (hb hby d29_0) rfl  k) ?_
  refine Gets.of (fun t k => XS.iloadN X0.here hx rfl (hb hby d29_1) rfl  k) ?_
  refine Gets.of (fun t k => XS.icmpNo X0.here hx rfl (hb hby d29_2) rfl (flt (by decide : ¬ ((10 : Int32) < (1 : Int32)))).1 k) ?_
  show Gets p e below _ (s₁.setTop (mkF m 5 #[.val (.int (10 : Int32)), .val (.int (1 : Int32))] []))
  refine Gets.of (fun t k => XS.iloadN X0.here hx rfl (hb hby d29_5) rfl  k) ?_
  refine Gets.of (fun t k => XS.goto X0.here hx rfl (pc0 := 6) (pc' := 10) rfl (hb hby d29_6) (by decide) (by decide) k) ?_
  show Gets p e below _ (s₁.setTop (mkF m 10 #[.val (.int (10 : Int32)), .val (.int (1 : Int32))] [(.int (10 : Int32))]))
  refine Gets.retI X0 hx Bd.returns (hb hby d29_10) ?_ (by decide) (by decide)
  rw [e0]
  exact ⟨N0, rfl, rfl⟩
theorem w177 {Z : State} {a0 : Array Value} (hw : ∀ d ∈ tables_1, d.before a0 Z = true) : (Jvm.Cond.code ({ cls := "java/lang/Math", name := "max", desc := "(II)I" } : Jvm.MethodName) jdk_29_method_65_code (2 : Nat) (Option.some Jvm.ClassFile.FieldType.int)).before a0 Z = true := hw _ (List.mem_of_getElem? (i := 177) rfl)
theorem w176 {Z : State} {a0 : Array Value} (hw : ∀ d ∈ tables_1, d.before a0 Z = true) : (Jvm.Cond.initialized "java/lang/Math").before a0 Z = true := hw _ (List.mem_of_getElem? (i := 176) rfl)
theorem pd__II_I : parseMethodDescriptor "(II)I" = some ⟨[.int, .int], some .int⟩ := by decide +kernel
theorem w175 {Z : State} {a0 : Array Value} (hw : ∀ d ∈ tables_1, d.before a0 Z = true) : (Jvm.Cond.static ({ cls := "java/lang/Math", name := "max", desc := "(II)I" } : Jvm.MethodName)).before a0 Z = true := hw _ (List.mem_of_getElem? (i := 175) rfl)
theorem d28_52 : decode jdk_38_method_6_code 52 = .ok (.anewarray 7, 3) := by decide +kernel
theorem w178 {Z : State} {a0 : Array Value} (hw : ∀ d ∈ tables_1, d.before a0 Z = true) : (Jvm.Cond.classLink cn2 (7 : Nat) cn3).before a0 Z = true := hw _ (List.mem_of_getElem? (i := 178) rfl)
theorem w179 {Z : State} {a0 : Array Value} (hw : ∀ d ∈ tables_1, d.before a0 Z = true) : (Jvm.Cond.arrayOver (Jvm.ClassFile.FieldType.object cn3)).before a0 Z = true := hw _ (List.mem_of_getElem? (i := 179) rfl)
theorem d28_55 : decode jdk_38_method_6_code 55 = .ok (.dup_x1, 1) := by decide +kernel
theorem d28_56 : decode jdk_38_method_6_code 56 = .ok (.putfield 9, 3) := by decide +kernel
theorem d28_59 : decode jdk_38_method_6_code 59 = .ok (.areturn, 1) := by decide +kernel
def Q_r43_grow (Z : State) (ya1 : Addr) (ov5 : Addr) (ok31 : ClassId) (h0 : Heap) (n0 : Nat) (v : Option Value) (h : Heap) (L : List Loc) : Prop := Fr n0 L ∧ Keep h0 h [ya1] ∧ ((∃ (b6 : Addr) (k6 : ClassId), v = some (.ref b6) ∧ h0.size ≤ b6 ∧ Arv Z h b6 k6 (.object cn3) (10 : Int32) [.null, .null, .null, .null, .null, .null, .null, .null, .null, .null] .null ∧ Exa Z h b6 cn6 ∧ Fld Z h ya1 cn2 "elementData" cn6 (.ref b6) ∧ Fld Z h ya1 cn2 "size" "I" (.int (0 : Int32)) ∧ Fld Z h ya1 cn10 "modCount" "I" (.int (1 : Int32)) ∧ Ovr Z k6 cn3))
set_option maxRecDepth 65536 in
set_option maxHeartbeats 40000000 in
theorem r43_grow (l : Launch) (Z : State) (a0 : Array Value) (hw : ∀ d ∈ tables_1, d.before a0 Z = true) (ws : List Jvm.Cond) (ya1 : Addr) (ov5 : Addr) (ok31 : ClassId) (h0 : Heap) (n0 : Nat) (O0 : Old Z n0 h0) (F0 : Fld Z h0 ya1 cn2 "elementData" cn6 (.ref ov5)) (F1 : Exa Z h0 ya1 cn2) (F2 : Fld Z h0 ya1 cn2 "size" "I" (.int (0 : Int32))) (F3 : Fld Z h0 ya1 cn10 "modCount" "I" (.int (1 : Int32))) (oV30 : Arv Z Z.heap ov5 ok31 (.object cn3) (0 : Int32) [] .null) (oS7 : Sta Z Z.heap cn2 "DEFAULTCAPACITY_EMPTY_ELEMENTDATA" cn6 (.ref ov5)) (gq_ya1 : n0 ≤ ya1) :
    MetFree l (⟨cn2, "grow", "(I)[Ljava/lang/Object;"⟩ : MethodName) (head1 (Jvm.Cond.code (⟨cn2, "grow", "(I)[Ljava/lang/Object;"⟩ : MethodName) jdk_38_method_6_code 4 (some (.array (.object cn3))) :: ws) ({ frames := 1, cells := 1, slots := 10, locals := 14 } : Room)) (fun a U => a = #[(.ref ya1), (.int (1 : Int32))] ∧ Z.Warmed39 U.vm ∧ U.heap = h0) (fun _ _ _ _ _ => True) (fun _ U o U' => ∃ v L, o = .returned v ∧ Q_r43_grow Z ya1 ov5 ok31 h0 n0 v U'.heap L ∧ FrameEnd U o U' L ({ frames := 1, cells := 1, slots := 10, locals := 14 } : Room).cells ({ frames := 1, cells := 1, slots := 10, locals := 14 } : Room).slots) := by
  refine MetFree.of_bodySF (plainFor_of_name pn_java_util_ArrayList) hisR ?_
  intro p e s m args below meth c s₁ Bd hml0 hP hK
  obtain ⟨rfl, hZ, hh⟩ := hP
  have hx := Bd.exec
  have hby := Bd.bytes
  have hlk := Bd.notSynchronized
  have hml : c.maxLocals = 4 := hml0
  have hown : s.vm.findClass cn2 = some m.cls := findClass_of_methodNamed Bd.named
  have hnm := (name_of_methodNamed Bd.named Bd.method).1
  have X0 : Stand p l e ({ frames := 1, cells := 1, slots := 10, locals := 14 } : Room) s m #[(.ref ya1), (.int (1 : Int32))] below meth c s₁ [] 0 0 := Stand.of_body Bd
  have e0 : s₁.heap = h0 := by rw [← hh, Bd.state]; rfl
  have N0 := Fr.nil n0
  have K0 := Keep.refl h0 [ya1]
  have Z0 : n0 ≤ h0.size := O0.1 ▸ O0.2.1
  have hef : entryFrame m #[(.ref ya1), (.int (1 : Int32))] 4 = mkF m 0 #[.val (.ref ya1), .val (.int (1 : Int32)), .unset, .unset] [] := by first | (simp [entryFrame, mkF, argsToLocals, Value.category]; done) | rfl
  rw [hef]
  refine Gets.out (Q := Q_r43_grow Z ya1 ov5 ok31 h0 n0) ?_
  show Gets p e below _ (s₁.setTop (mkF m 0 #[.val (.ref ya1), .val (.int (1 : Int32)), .unset, .unset] []))
  refine Gets.of (fun t k => XS.aloadN X0.here hx rfl (hb hby d28_0) rfl rfl  k) ?_
  obtain ⟨T1, X1, e1, st1⟩ := getF X0 hx hZ hown (host := "") (Or.inl (w48 hw)) Via.refl e0 F0 (g := (mkF m 1 #[.val (.ref ya1), .val (.int (1 : Int32)), .unset, .unset] [(.ref ya1)])) rfl rfl (hb hby d28_1)
  refine Gets.of st1 ?_
  show Gets p e below _ (T1.setTop (mkF m 4 #[.val (.ref ya1), .val (.int (1 : Int32)), .unset, .unset] [(.ref ov5)]))
  obtain ⟨cl2, Ar2, -, S2, N_2, -, -⟩ := id ((oV30.ext O0.2))
  refine Gets.of (X1.arraylength hx (by rw [e1]; exact Ar2.1) (State.isArrayOf_alike hZ.alike Ar2.2.1) (g := (mkF m 4 #[.val (.ref ya1), .val (.int (1 : Int32)), .unset, .unset] [(.ref ov5)])) rfl rfl (hb hby d28_4)) ?_
  rw [len_of S2 N_2]
  show Gets p e below _ (T1.setTop (mkF m 5 #[.val (.ref ya1), .val (.int (1 : Int32)), .unset, .unset] [(.int (0 : Int32))]))
  refine Gets.of (fun t k => XS.istoreN X1.here hx rfl (hb hby d28_5) rfl (l' := #[.val (.ref ya1), .val (.int (1 : Int32)), .val (.int (0 : Int32)), .unset]) rfl k) ?_
  show Gets p e below _ (T1.setTop (mkF m 6 #[.val (.ref ya1), .val (.int (1 : Int32)), .val (.int (0 : Int32)), .unset] []))
  refine Gets.of (fun t k => XS.iloadN X1.here hx rfl (hb hby d28_6) rfl  k) ?_
  refine Gets.of (fun t k => XS.ifNo X1.here hx rfl (hb hby d28_7) rfl ((if0 _ _).trans (flt (by decide : ¬ ((0 : Int32) < (0 : Int32)))).2.2.1) k) ?_
  show Gets p e below _ (T1.setTop (mkF m 10 #[.val (.ref ya1), .val (.int (1 : Int32)), .val (.int (0 : Int32)), .unset] []))
  refine Gets.of (fun t k => XS.aloadN X1.here hx rfl (hb hby d28_10) rfl rfl  k) ?_
  obtain ⟨T3, X3, e3, st3⟩ := getF X1 hx hZ hown (host := "") (Or.inl (w48 hw)) Via.refl e1 F0 (g := (mkF m 11 #[.val (.ref ya1), .val (.int (1 : Int32)), .val (.int (0 : Int32)), .unset] [(.ref ya1)])) rfl rfl (hb hby d28_11)
  refine Gets.of st3 ?_
  show Gets p e below _ (T3.setTop (mkF m 14 #[.val (.ref ya1), .val (.int (1 : Int32)), .val (.int (0 : Int32)), .unset] [(.ref ov5)]))
  obtain ⟨T4, X4, e4, st4⟩ := getS2 X3 hx hZ hown (host := "") (Or.inl (w47 hw)) Via.refl e3 (oS7.ext O0.2) (g := (mkF m 14 #[.val (.ref ya1), .val (.int (1 : Int32)), .val (.int (0 : Int32)), .unset] [(.ref ov5)])) rfl (hb hby d28_14)
  refine Gets.of st4 ?_
  show Gets p e below _ (T4.setTop (mkF m 17 #[.val (.ref ya1), .val (.int (1 : Int32)), .val (.int (0 : Int32)), .unset] [(.ref ov5), (.ref ov5)]))
  refine Gets.of (fun t k => Jvm.RoadKit.acmp (g := (mkF m 17 #[.val (.ref ya1), .val (.int (1 : Int32)), .val (.int (0 : Int32)), .unset] [(.ref ov5), (.ref ov5)])) X4 hx rfl rfl rfl (pc0 := 17) (pc' := 45) (same := true) rfl (hb hby d28_17) rfl (decide_eq_true rfl) (by decide) (by decide) k) ?_
  show Gets p e below _ (T4.setTop (mkF m 45 #[.val (.ref ya1), .val (.int (1 : Int32)), .val (.int (0 : Int32)), .unset] []))
  refine Gets.of (fun t k => XS.aloadN X4.here hx rfl (hb hby d28_45) rfl rfl  k) ?_
  refine Gets.of (fun t k => XS.bipush X4.here hx rfl (hb hby d28_46) k) ?_
  refine Gets.of (fun t k => XS.iloadN X4.here hx rfl (hb hby d28_48) rfl  k) ?_
  obtain ⟨_, _, ⟨T5, L5, k5, n5⟩, -, X5, ⟨Lc5, hQ5, l5, y5, z5⟩, st5⟩ := Jvm.LawKit.callS X4 hx (y := (⟨"java/lang/Math", "max", "(II)I"⟩ : MethodName)) hown (mvT hZ (w174 hw)) (mvT hZ (w175 hw)) (mvT hZ (w176 hw)) (mvT hZ (w177 hw)) (by decide) (backOf (W := 1) (r44_max l Z a0 hw []  h0 n0 O0) hZ (w177 hw) (w176 hw) (by decide) (by decide)) (g := (mkF m 49 #[.val (.ref ya1), .val (.int (1 : Int32)), .val (.int (0 : Int32)), .unset] [(.int (1 : Int32)), (.int (10 : Int32)), (.ref ya1)])) rfl (by rw [hml]; rfl) (argsL := [(.int (10 : Int32)), (.int (1 : Int32))]) (rest := [(.ref ya1)]) (lenOf pd__II_I rfl) rfl (by show 2 * 0 + _ ≤ _; exact Nat.le_of_eq rfl) (hb hby d28_49) (fun _ _ => ⟨rfl, e4, (by decide : 0 + 0 ≤ _), (by decide : 0 + 0 ≤ _)⟩)
  dsimp only [Pt.U, Pt.locs, Pt.cells, Pt.slots] at X5 l5 y5 z5 st5 hQ5
  subst l5 y5 z5
  obtain ⟨Nq5, eq5, hR5⟩ := hQ5
  have N5 := Fr.app N0 Nq5
  obtain rfl := hR5
  refine Gets.of st5 ?_
  show Gets p e below _ (T5.setTop (mkF m 52 #[.val (.ref ya1), .val (.int (1 : Int32)), .val (.int (0 : Int32)), .unset] [(.int (10 : Int32)), (.ref ya1)]))
  obtain ⟨T6, h6, k6, X6, e6, E6, A6, Ex6, O6, st6⟩ := newRE X5 hx hZ hown (w178 hw) (w179 hw) eq5 (g := (mkF m 52 #[.val (.ref ya1), .val (.int (1 : Int32)), .val (.int (0 : Int32)), .unset] [(.int (10 : Int32)), (.ref ya1)])) rfl (hb hby d28_52) rfl (by decide) (cap := 10) (by decide) (by decide) (by decide) (by decide) (ad := cn6) rfl
  obtain ⟨b6, g6⟩ : ∃ z, z = h0.size := ⟨_, rfl⟩
  rw [← g6] at A6 Ex6 st6
  have sz_b6 : h0.size ≤ b6 := Nat.le_trans K0.1 (Nat.le_of_eq g6.symm)
  have g_b6 : n0 ≤ b6 := Nat.le_trans Z0 sz_b6
  have K7 := K0.ext E6
  have O7 := O0.ext E6
  have V6 : Arv Z h6 b6 k6 (.object cn3) (10 : Int32) [.null, .null, .null, .null, .null, .null, .null, .null, .null, .null] .null := (Arv.new A6 (by decide)).pad (pad_rep [] .null 10)
  refine Gets.of st6 ?_
  show Gets p e below _ (T6.setTop (mkF m 55 #[.val (.ref ya1), .val (.int (1 : Int32)), .val (.int (0 : Int32)), .unset] [(.ref b6), (.ref ya1)]))
  refine Gets.of (fun t k => XS.dupX1 X6.here hx rfl (hb hby d28_55) rfl rfl rfl k) ?_
  have f8 : Exa Z h6 ya1 cn2 := (F1.ext E6)
  have f9 : Fld Z h6 ya1 cn2 "elementData" cn6 (.ref ov5) := (F0.ext E6)
  obtain ⟨T10, h10, X10, e10, W10, st10⟩ := putF X6 hx hZ hown (host := "") (Or.inl (w48 hw)) Via.refl e6 f9 f8 (Or.inl (w49 hw)) (w27 hw) (ty := (.array (.object cn3))) (by decide) rfl rfl (g := (mkF m 56 #[.val (.ref ya1), .val (.int (1 : Int32)), .val (.int (0 : Int32)), .unset] [(.ref b6), (.ref ya1), (.ref b6)])) rfl rfl (hb hby d28_56)
  have N10 := Fr.snoc X10 N5 gq_ya1
  have Fw10 : Fld Z h10 ya1 cn2 "elementData" cn6 (.ref b6) := (f9).same W10
  have K11 : Keep h0 _ [ya1] := K7.wr W10 (Or.inl (by simp))
  have O11 := O7.wr W10 gq_ya1
  refine Gets.of st10 ?_
  show Gets p e below _ (T10.setTop (mkF m 59 #[.val (.ref ya1), .val (.int (1 : Int32)), .val (.int (0 : Int32)), .unset] [(.ref b6)]))
  refine Gets.retA X10 hx Bd.returns rfl rfl (hb hby d28_59) ?_ (by decide) (by decide)
  rw [e10]
  have f12 : Arv Z h10 b6 k6 (.object cn3) (10 : Int32) [.null, .null, .null, .null, .null, .null, .null, .null, .null, .null] .null := (V6.other W10 (Ne.symm (Nat.ne_of_lt (Nat.lt_of_lt_of_le F0.lt sz_b6))))
  have f13 : Exa Z h10 b6 cn6 := (Ex6.wr W10)
  have f14 : Fld Z h10 ya1 cn2 "size" "I" (.int (0 : Int32)) := ((F2.ext E6).other W10 (Or.inr (slot_ne (Or.inl (w86 hw)) (Or.inl (w49 hw)) (by decide) (t := .int) (t' := (.array (.object cn3))) (by decide) (by decide))))
  have f15 : Fld Z h10 ya1 cn10 "modCount" "I" (.int (1 : Int32)) := ((F3.ext E6).other W10 (Or.inr (slot_ne (Or.inl (w46 hw)) (Or.inl (w49 hw)) (by decide) (t := .int) (t' := (.array (.object cn3))) (by decide) (by decide))))
  have f16 : Ovr Z k6 cn3 := O6
  exact ⟨N10, K11, ⟨b6, k6, rfl, sz_b6, f12, f13, Fw10, f14, f15, f16⟩⟩
theorem w173 {Z : State} {a0 : Array Value} (hw : ∀ d ∈ tables_1, d.before a0 Z = true) : (Jvm.Cond.code ({ cls := cn2, name := "grow", desc := "(I)[Ljava/lang/Object;" } : Jvm.MethodName) jdk_38_method_6_code (4 : Nat) (Option.some (Jvm.ClassFile.FieldType.array (Jvm.ClassFile.FieldType.object cn3)))).before a0 Z = true := hw _ (List.mem_of_getElem? (i := 173) rfl)
theorem pd__I_Ljava_lang_Object_ : parseMethodDescriptor "(I)[Ljava/lang/Object;" = some ⟨[.int], some (.array (.object "java/lang/Object"))⟩ := by decide +kernel
theorem w170 {Z : State} {a0 : Array Value} (hw : ∀ d ∈ tables_1, d.before a0 Z = true) : (Jvm.Cond.instanceMethod ({ cls := cn2, name := "grow", desc := "(I)[Ljava/lang/Object;" } : Jvm.MethodName)).before a0 Z = true := hw _ (List.mem_of_getElem? (i := 170) rfl)
theorem w172 {Z : State} {a0 : Array Value} (hw : ∀ d ∈ tables_1, d.before a0 Z = true) : (Jvm.Cond.selects cn2 ({ cls := cn2, name := "grow", desc := "(I)[Ljava/lang/Object;" } : Jvm.MethodName) ({ cls := cn2, name := "grow", desc := "(I)[Ljava/lang/Object;" } : Jvm.MethodName)).before a0 Z = true := hw _ (List.mem_of_getElem? (i := 172) rfl)
theorem w171 {Z : State} {a0 : Array Value} (hw : ∀ d ∈ tables_1, d.before a0 Z = true) : (Jvm.Cond.privateMethod ({ cls := cn2, name := "grow", desc := "(I)[Ljava/lang/Object;" } : Jvm.MethodName)).before a0 Z = true := hw _ (List.mem_of_getElem? (i := 171) rfl)
theorem d27_10 : decode jdk_38_method_7_code 10 = .ok (.areturn, 1) := by decide +kernel
def Q_r42_grow (Z : State) (ya1 : Addr) (ov5 : Addr) (ok31 : ClassId) (h0 : Heap) (n0 : Nat) (v : Option Value) (h : Heap) (L : List Loc) : Prop := Fr n0 L ∧ Keep h0 h [ya1] ∧ ((∃ (b6_2 : Addr) (k6_2 : ClassId), v = some (.ref b6_2) ∧ h0.size ≤ b6_2 ∧ Arv Z h b6_2 k6_2 (.object cn3) (10 : Int32) [.null, .null, .null, .null, .null, .null, .null, .null, .null, .null] .null ∧ Exa Z h b6_2 cn6 ∧ Fld Z h ya1 cn2 "elementData" cn6 (.ref b6_2) ∧ Fld Z h ya1 cn2 "size" "I" (.int (0 : Int32)) ∧ Fld Z h ya1 cn10 "modCount" "I" (.int (1 : Int32)) ∧ Ovr Z k6_2 cn3))
set_option maxRecDepth 65536 in
set_option maxHeartbeats 40000000 in
theorem r42_grow (l : Launch) (Z : State) (a0 : Array Value) (hw : ∀ d ∈ tables_1, d.before a0 Z = true) (ws : List Jvm.Cond) (ya1 : Addr) (ov5 : Addr) (ok31 : ClassId) (h0 : Heap) (n0 : Nat) (O0 : Old Z n0 h0) (F0 : Fld Z h0 ya1 cn2 "size" "I" (.int (0 : Int32))) (F1 : Exa Z h0 ya1 cn2) (F2 : Fld Z h0 ya1 cn2 "elementData" cn6 (.ref ov5)) (F3 : Fld Z h0 ya1 cn10 "modCount" "I" (.int (1 : Int32))) (oV30 : Arv Z Z.heap ov5 ok31 (.object cn3) (0 : Int32) [] .null) (oS7 : Sta Z Z.heap cn2 "DEFAULTCAPACITY_EMPTY_ELEMENTDATA" cn6 (.ref ov5)) (gq_ya1 : n0 ≤ ya1) :
    MetFree l (⟨cn2, "grow", cn15⟩ : MethodName) (head1 (Jvm.Cond.code (⟨cn2, "grow", cn15⟩ : MethodName) jdk_38_method_7_code 1 (some (.array (.object cn3))) :: ws) ({ frames := 2, cells := 1, slots := 10, locals := 29 } : Room)) (fun a U => a = #[(.ref ya1)] ∧ Z.Warmed39 U.vm ∧ U.heap = h0) (fun _ _ _ _ _ => True) (fun _ U o U' => ∃ v L, o = .returned v ∧ Q_r42_grow Z ya1 ov5 ok31 h0 n0 v U'.heap L ∧ FrameEnd U o U' L ({ frames := 2, cells := 1, slots := 10, locals := 29 } : Room).cells ({ frames := 2, cells := 1, slots := 10, locals := 29 } : Room).slots) := by
  refine MetFree.of_bodySF (plainFor_of_name pn_java_util_ArrayList) hisR ?_
  intro p e s m args below meth c s₁ Bd hml0 hP hK
  obtain ⟨rfl, hZ, hh⟩ := hP
  have hx := Bd.exec
  have hby := Bd.bytes
  have hlk := Bd.notSynchronized
  have hml : c.maxLocals = 1 := hml0
  have hown : s.vm.findClass cn2 = some m.cls := findClass_of_methodNamed Bd.named
  have hnm := (name_of_methodNamed Bd.named Bd.method).1
  have X0 : Stand p l e ({ frames := 2, cells := 1, slots := 10, locals := 29 } : Room) s m #[(.ref ya1)] below meth c s₁ [] 0 0 := Stand.of_body Bd
  have e0 : s₁.heap = h0 := by rw [← hh, Bd.state]; rfl
  have N0 := Fr.nil n0
  have K0 := Keep.refl h0 [ya1]
  have Z0 : n0 ≤ h0.size := O0.1 ▸ O0.2.1
  have hef : entryFrame m #[(.ref ya1)] 1 = mkF m 0 #[.val (.ref ya1)] [] := by first | (simp [entryFrame, mkF, argsToLocals, Value.category]; done) | rfl
  rw [hef]
  refine Gets.out (Q := Q_r42_grow Z ya1 ov5 ok31 h0 n0) ?_
  show Gets p e below _ (s₁.setTop (mkF m 0 #[.val (.ref ya1)] []))
  refine Gets.of (fun t k => XS.aloadN X0.here hx rfl (hb hby d27_0) rfl rfl  k) ?_
  refine Gets.of (fun t k => XS.aloadN X0.here hx rfl (hb hby d27_1) rfl rfl  k) ?_
  obtain ⟨T1, X1, e1, st1⟩ := getF X0 hx hZ hown (host := "") (Or.inl (w85 hw)) Via.refl e0 F0 (g := (mkF m 2 #[.val (.ref ya1)] [(.ref ya1), (.ref ya1)])) rfl rfl (hb hby d27_2)
  refine Gets.of st1 ?_
  show Gets p e below _ (T1.setTop (mkF m 5 #[.val (.ref ya1)] [(.int (0 : Int32)), (.ref ya1)]))
  refine Gets.of (fun t k => XS.iconst X1.here hx rfl (hb hby d27_5) k) ?_
  refine Gets.of (fun t k => XS.iadd X1.here hx rfl (hb hby d27_6) rfl k) ?_
  show Gets p e below _ (T1.setTop (mkF m 7 #[.val (.ref ya1)] [(.int (1 : Int32)), (.ref ya1)]))
  obtain ⟨cq2, q2, q2'⟩ := F1.cell
  obtain ⟨_, _, ⟨T2, L2, k2, n2⟩, -, X2, ⟨Lc2, hQ2, l2, y2, z2⟩, st2⟩ := X1.privateBack hx (y := (⟨cn2, "grow", "(I)[Ljava/lang/Object;"⟩ : MethodName)) hown (mvT hZ (w169 hw)) (mvT hZ (w170 hw)) (mvT hZ (w172 hw)) (Cond.privateMethod_at (mvP hZ (w171 hw) (args := #[]))) (mvT hZ (w173 hw)) (by decide) (backOf (W := 0) (r43_grow l Z a0 hw [] ya1 ov5 ok31 h0 n0 O0 F2 F1 F0 F3 oV30 oS7 gq_ya1) hZ (w173 hw) (w28 hw) (by decide) (by decide)) (g := (mkF m 7 #[.val (.ref ya1)] [(.int (1 : Int32)), (.ref ya1)])) rfl (by rw [hml]; rfl) (Steps.refl _) (a := ya1) (by rw [e1]; exact q2) q2' (argsL := [(.int (1 : Int32))]) (rest := []) (lenOf pd__I_Ljava_lang_Object_ rfl) rfl (by show 2 * 0 + _ ≤ _; exact Nat.le_of_eq rfl) (hb hby d27_7) (fun _ _ => ⟨rfl, e1, (by decide : 0 + 1 ≤ _), (by decide : 0 + 10 ≤ _)⟩)
  dsimp only [Pt.U, Pt.locs, Pt.cells, Pt.slots] at X2 l2 y2 z2 st2 hQ2
  subst l2 y2 z2
  obtain ⟨Nq2, Kq2, hR2⟩ := hQ2
  have N2 := Fr.app N0 Nq2
  have K3 : Keep h0 _ [ya1] := K0.trans Kq2 (allS (Or.inl (by simp)) all0)
  have O3 := O0.keep Kq2 (allS gq_ya1 all0)
  obtain ⟨b6_2, k6_2, rfl, bz2_0, bf2_0, bf2_1, bf2_2, bf2_3, bf2_4, bf2_5⟩ := hR2
  have sz_b6_2 : h0.size ≤ b6_2 := Nat.le_trans K0.1 bz2_0
  have g_b6_2 : n0 ≤ b6_2 := Nat.le_trans Z0 sz_b6_2
  refine Gets.tr st2 ?_
  show Gets p e below _ (T2.setTop (mkF m 10 #[.val (.ref ya1)] [(.ref b6_2)]))
  refine Gets.retA X2 hx Bd.returns rfl rfl (hb hby d27_10) ?_ (by decide) (by decide)
  exact ⟨N2, K3, ⟨b6_2, k6_2, rfl, sz_b6_2, bf2_0, bf2_1, bf2_2, bf2_3, bf2_4, bf2_5⟩⟩
theorem w168 {Z : State} {a0 : Array Value} (hw : ∀ d ∈ tables_1, d.before a0 Z = true) : (Jvm.Cond.code ({ cls := cn2, name := "grow", desc := cn15 } : Jvm.MethodName) jdk_38_method_7_code (1 : Nat) (Option.some (Jvm.ClassFile.FieldType.array (Jvm.ClassFile.FieldType.object cn3)))).before a0 Z = true := hw _ (List.mem_of_getElem? (i := 168) rfl)
theorem pd___Ljava_lang_Object_ : parseMethodDescriptor "()[Ljava/lang/Object;" = some ⟨[], some (.array (.object "java/lang/Object"))⟩ := by decide +kernel
theorem w165 {Z : State} {a0 : Array Value} (hw : ∀ d ∈ tables_1, d.before a0 Z = true) : (Jvm.Cond.instanceMethod ({ cls := cn2, name := "grow", desc := cn15 } : Jvm.MethodName)).before a0 Z = true := hw _ (List.mem_of_getElem? (i := 165) rfl)
theorem w167 {Z : State} {a0 : Array Value} (hw : ∀ d ∈ tables_1, d.before a0 Z = true) : (Jvm.Cond.selects cn2 ({ cls := cn2, name := "grow", desc := cn15 } : Jvm.MethodName) ({ cls := cn2, name := "grow", desc := cn15 } : Jvm.MethodName)).before a0 Z = true := hw _ (List.mem_of_getElem? (i := 167) rfl)
theorem w166 {Z : State} {a0 : Array Value} (hw : ∀ d ∈ tables_1, d.before a0 Z = true) : (Jvm.Cond.privateMethod ({ cls := cn2, name := "grow", desc := cn15 } : Jvm.MethodName)).before a0 Z = true := hw _ (List.mem_of_getElem? (i := 166) rfl)
theorem d26_10 : decode jdk_38_method_24_code 10 = .ok (.astore_n 2, 1) := by decide +kernel
theorem d26_11 : decode jdk_38_method_24_code 11 = .ok (.aload_n 2, 1) := by decide +kernel
theorem d26_12 : decode jdk_38_method_24_code 12 = .ok (.iload_n 3, 1) := by decide +kernel
theorem d26_13 : decode jdk_38_method_24_code 13 = .ok (.aload_n 1, 1) := by decide +kernel
theorem d26_14 : decode jdk_38_method_24_code 14 = .ok (.aastore, 1) := by decide +kernel
theorem w180 {Z : State} {a0 : Array Value} (hw : ∀ d ∈ tables_1, d.before a0 Z = true) : (Jvm.Cond.castable cn5 cn3).before a0 Z = true := hw _ (List.mem_of_getElem? (i := 180) rfl)
theorem d26_15 : decode jdk_38_method_24_code 15 = .ok (.aload_n 0, 1) := by decide +kernel
theorem d26_16 : decode jdk_38_method_24_code 16 = .ok (.iload_n 3, 1) := by decide +kernel
theorem d26_17 : decode jdk_38_method_24_code 17 = .ok (.iconst 1, 1) := by decide +kernel
theorem d26_18 : decode jdk_38_method_24_code 18 = .ok (.iadd, 1) := by decide +kernel
theorem d26_19 : decode jdk_38_method_24_code 19 = .ok (.putfield 48, 3) := by decide +kernel
theorem d26_22 : decode jdk_38_method_24_code 22 = .ok (.return_, 1) := by decide +kernel
def Q_r41_add (Z : State) (ya1 : Addr) (ya2 : Addr) (ov5 : Addr) (ok31 : ClassId) (h0 : Heap) (n0 : Nat) (v : Option Value) (h : Heap) (L : List Loc) : Prop := Fr n0 L ∧ Keep h0 h [ya1] ∧ ((∃ (b6_2_2 : Addr) (k6_2_2 : ClassId), v = none ∧ h0.size ≤ b6_2_2 ∧ Fld Z h ya1 cn2 "elementData" cn6 (.ref b6_2_2) ∧ Fld Z h ya1 cn2 "size" "I" (.int (1 : Int32)) ∧ Fld Z h ya1 cn10 "modCount" "I" (.int (1 : Int32)) ∧ Arv Z h b6_2_2 k6_2_2 (.object cn3) (10 : Int32) [(.ref ya2), .null, .null, .null, .null, .null, .null, .null, .null, .null] .null ∧ Exa Z h b6_2_2 cn6 ∧ Ovr Z k6_2_2 cn3))
set_option maxRecDepth 65536 in
set_option maxHeartbeats 40000000 in
theorem r41_add (l : Launch) (Z : State) (a0 : Array Value) (hw : ∀ d ∈ tables_1, d.before a0 Z = true) (ws : List Jvm.Cond) (ya1 : Addr) (ya2 : Addr) (ov5 : Addr) (ok31 : ClassId) (h0 : Heap) (n0 : Nat) (O0 : Old Z n0 h0) (F0 : Exa Z h0 ya1 cn2) (F1 : Fld Z h0 ya1 cn2 "size" "I" (.int (0 : Int32))) (F2 : Fld Z h0 ya1 cn2 "elementData" cn6 (.ref ov5)) (F3 : Fld Z h0 ya1 cn10 "modCount" "I" (.int (1 : Int32))) (F4 : Exa Z h0 ya2 cn5) (oV30 : Arv Z Z.heap ov5 ok31 (.object cn3) (0 : Int32) [] .null) (oS7 : Sta Z Z.heap cn2 "DEFAULTCAPACITY_EMPTY_ELEMENTDATA" cn6 (.ref ov5)) (gq_ya1 : n0 ≤ ya1) :
    MetFree l (⟨cn2, "add", "(Ljava/lang/Object;[Ljava/lang/Object;I)V"⟩ : MethodName) (head1 (Jvm.Cond.code (⟨cn2, "add", "(Ljava/lang/Object;[Ljava/lang/Object;I)V"⟩ : MethodName) jdk_38_method_24_code 4 none :: ws) ({ frames := 3, cells := 1, slots := 10, locals := 41 } : Room)) (fun a U => a = #[(.ref ya1), (.ref ya2), (.ref ov5), (.int (0 : Int32))] ∧ Z.Warmed39 U.vm ∧ U.heap = h0) (fun _ _ _ _ _ => True) (fun _ U o U' => ∃ v L, o = .returned v ∧ Q_r41_add Z ya1 ya2 ov5 ok31 h0 n0 v U'.heap L ∧ FrameEnd U o U' L ({ frames := 3, cells := 1, slots := 10, locals := 41 } : Room).cells ({ frames := 3, cells := 1, slots := 10, locals := 41 } : Room).slots) := by
  refine MetFree.of_bodySF (plainFor_of_name pn_java_util_ArrayList) hisR ?_
  intro p e s m args below meth c s₁ Bd hml0 hP hK
  obtain ⟨rfl, hZ, hh⟩ := hP
  have hx := Bd.exec
  have hby := Bd.bytes
  have hlk := Bd.notSynchronized
  have hml : c.maxLocals = 4 := hml0
  have hown : s.vm.findClass cn2 = some m.cls := findClass_of_methodNamed Bd.named
  have hnm := (name_of_methodNamed Bd.named Bd.method).1
  have X0 : Stand p l e ({ frames := 3, cells := 1, slots := 10, locals := 41 } : Room) s m #[(.ref ya1), (.ref ya2), (.ref ov5), (.int (0 : Int32))] below meth c s₁ [] 0 0 := Stand.of_body Bd
  have e0 : s₁.heap = h0 := by rw [← hh, Bd.state]; rfl
  have N0 := Fr.nil n0
  have K0 := Keep.refl h0 [ya1]
  have Z0 : n0 ≤ h0.size := O0.1 ▸ O0.2.1
  have hef : entryFrame m #[(.ref ya1), (.ref ya2), (.ref ov5), (.int (0 : Int32))] 4 = mkF m 0 #[.val (.ref ya1), .val (.ref ya2), .val (.ref ov5), .val (.int (0 : Int32))] [] := by first | (simp [entryFrame, mkF, argsToLocals, Value.category]; done) | rfl
  rw [hef]
  refine Gets.out (Q := Q_r41_add Z ya1 ya2 ov5 ok31 h0 n0) ?_
  show Gets p e below _ (s₁.setTop (mkF m 0 #[.val (.ref ya1), .val (.ref ya2), .val (.ref ov5), .val (.int (0 : Int32))] []))
  refine Gets.of (fun t k => XS.iloadN X0.here hx rfl (hb hby d26_0) rfl  k) ?_
  refine Gets.of (fun t k => XS.aloadN X0.here hx rfl (hb hby d26_1) rfl rfl  k) ?_
  obtain ⟨cl1, Ar1, -, S1, N_1, -, -⟩ := id ((oV30.ext O0.2))
  refine Gets.of (X0.arraylength hx (by rw [e0]; exact Ar1.1) (State.isArrayOf_alike hZ.alike Ar1.2.1) (g := (mkF m 2 #[.val (.ref ya1), .val (.ref ya2), .val (.ref ov5), .val (.int (0 : Int32))] [(.ref ov5), (.int (0 : Int32))])) rfl rfl (hb hby d26_2)) ?_
  rw [len_of S1 N_1]
  show Gets p e below _ (s₁.setTop (mkF m 3 #[.val (.ref ya1), .val (.ref ya2), .val (.ref ov5), .val (.int (0 : Int32))] [(.int (0 : Int32)), (.int (0 : Int32))]))
  refine Gets.of (fun t k => XS.icmpNo X0.here hx rfl (hb hby d26_3) rfl (teq (by decide : (0 : Int32) = (0 : Int32))).2 k) ?_
  show Gets p e below _ (s₁.setTop (mkF m 6 #[.val (.ref ya1), .val (.ref ya2), .val (.ref ov5), .val (.int (0 : Int32))] []))
  refine Gets.of (fun t k => XS.aloadN X0.here hx rfl (hb hby d26_6) rfl rfl  k) ?_
  obtain ⟨cq2, q2, q2'⟩ := F0.cell
  obtain ⟨_, _, ⟨T2, L2, k2, n2⟩, -, X2, ⟨Lc2, hQ2, l2, y2, z2⟩, st2⟩ := X0.privateBack hx (y := (⟨cn2, "grow", cn15⟩ : MethodName)) hown (mvT hZ (w164 hw)) (mvT hZ (w165 hw)) (mvT hZ (w167 hw)) (Cond.privateMethod_at (mvP hZ (w166 hw) (args := #[]))) (mvT hZ (w168 hw)) (by decide) (backOf (W := 0) (r42_grow l Z a0 hw [] ya1 ov5 ok31 h0 n0 O0 F1 F0 F2 F3 oV30 oS7 gq_ya1) hZ (w168 hw) (w28 hw) (by decide) (by decide)) (g := (mkF m 7 #[.val (.ref ya1), .val (.ref ya2), .val (.ref ov5), .val (.int (0 : Int32))] [(.ref ya1)])) rfl (by rw [hml]; rfl) (Steps.refl _) (a := ya1) (by rw [e0]; exact q2) q2' (argsL := []) (rest := []) (lenOf pd___Ljava_lang_Object_ rfl) rfl (by show 2 * 0 + _ ≤ _; exact Nat.le_of_eq rfl) (hb hby d26_7) (fun _ _ => ⟨rfl, e0, (by decide : 0 + 1 ≤ _), (by decide : 0 + 10 ≤ _)⟩)
  dsimp only [Pt.U, Pt.locs, Pt.cells, Pt.slots] at X2 l2 y2 z2 st2 hQ2
  subst l2 y2 z2
  obtain ⟨Nq2, Kq2, hR2⟩ := hQ2
  have N2 := Fr.app N0 Nq2
  have K3 : Keep h0 _ [ya1] := K0.trans Kq2 (allS (Or.inl (by simp)) all0)
  have O3 := O0.keep Kq2 (allS gq_ya1 all0)
  obtain ⟨b6_2_2, k6_2_2, rfl, bz2_0, bf2_0, bf2_1, bf2_2, bf2_3, bf2_4, bf2_5⟩ := hR2
  have sz_b6_2_2 : h0.size ≤ b6_2_2 := Nat.le_trans K0.1 bz2_0
  have g_b6_2_2 : n0 ≤ b6_2_2 := Nat.le_trans Z0 sz_b6_2_2
  refine Gets.tr st2 ?_
  show Gets p e below _ (T2.setTop (mkF m 10 #[.val (.ref ya1), .val (.ref ya2), .val (.ref ov5), .val (.int (0 : Int32))] [(.ref b6_2_2)]))
  refine Gets.of (fun t k => XS.astoreN X2.here hx rfl (hb hby d26_10) rfl rfl (l' := #[.val (.ref ya1), .val (.ref ya2), .val (.ref b6_2_2), .val (.int (0 : Int32))]) rfl k) ?_
  show Gets p e below _ (T2.setTop (mkF m 11 #[.val (.ref ya1), .val (.ref ya2), .val (.ref b6_2_2), .val (.int (0 : Int32))] []))
  refine Gets.of (fun t k => XS.aloadN X2.here hx rfl (hb hby d26_11) rfl rfl  k) ?_
  refine Gets.of (fun t k => XS.iloadN X2.here hx rfl (hb hby d26_12) rfl  k) ?_
  refine Gets.of (fun t k => XS.aloadN X2.here hx rfl (hb hby d26_13) rfl rfl  k) ?_
  obtain ⟨cl4, Ar4, q4, S4, N_4, H4, G4⟩ := id (bf2_0)
  have hin4 : ¬ ((0 : Int32) < 0 ∨ cl4.slots.size ≤ ((0 : Int32)).toNatClampNeg) := inb_of S4 ⟨by decide, by decide⟩
  have f5 : Exa Z T2.heap ya2 cn5 := (F4.keep Kq2)
  obtain ⟨T6, h6, X6, e6, W6, st6⟩ := stR X2 hx hZ rfl Ar4 (j := (0 : Int32)) hin4 rfl (Sto.ofV Ar4 q4 bf2_5 (Ins.of_exa f5 (w180 hw))) (g := (mkF m 14 #[.val (.ref ya1), .val (.ref ya2), .val (.ref b6_2_2), .val (.int (0 : Int32))] [(.ref ya2), (.int (0 : Int32)), (.ref b6_2_2)])) rfl rfl (hb hby d26_14)
  have V6 : Arv Z h6 b6_2_2 k6_2_2 (.object cn3) (10 : Int32) [(.ref ya2), .null, .null, .null, .null, .null, .null, .null, .null, .null] .null := Arv.set Ar4 q4 S4 N_4 H4 G4 rfl W6 0 rfl (Nat.le_of_ble_eq_true rfl)
  have N6 := Fr.snoc X6 N2 g_b6_2_2
  have K7 : Keep h0 _ [ya1] := K3.wr W6 (Or.inr sz_b6_2_2)
  have O7 := O3.wr W6 g_b6_2_2
  refine Gets.of st6 ?_
  show Gets p e below _ (T6.setTop (mkF m 15 #[.val (.ref ya1), .val (.ref ya2), .val (.ref b6_2_2), .val (.int (0 : Int32))] []))
  refine Gets.of (fun t k => XS.aloadN X6.here hx rfl (hb hby d26_15) rfl rfl  k) ?_
  refine Gets.of (fun t k => XS.iloadN X6.here hx rfl (hb hby d26_16) rfl  k) ?_
  refine Gets.of (fun t k => XS.iconst X6.here hx rfl (hb hby d26_17) k) ?_
  refine Gets.of (fun t k => XS.iadd X6.here hx rfl (hb hby d26_18) rfl k) ?_
  show Gets p e below _ (T6.setTop (mkF m 19 #[.val (.ref ya1), .val (.ref ya2), .val (.ref b6_2_2), .val (.int (0 : Int32))] [(.int (1 : Int32)), (.ref ya1)]))
  have f8 : Exa Z h6 ya1 cn2 := ((F0.keep Kq2).wr W6)
  have f9 : Fld Z h6 ya1 cn2 "size" "I" (.int (0 : Int32)) := (bf2_3.other W6 (Or.inl (Nat.ne_of_lt (Nat.lt_of_lt_of_le F0.lt sz_b6_2_2))))
  obtain ⟨T10, h10, X10, e10, W10, st10⟩ := putF X6 hx hZ hown (host := "") (Or.inl (w85 hw)) Via.refl e6 f9 f8 (Or.inl (w86 hw)) (w27 hw) (ty := .int) (by decide) rfl rfl (g := (mkF m 19 #[.val (.ref ya1), .val (.ref ya2), .val (.ref b6_2_2), .val (.int (0 : Int32))] [(.int (1 : Int32)), (.ref ya1)])) rfl rfl (hb hby d26_19)
  have N10 := Fr.snoc X10 N6 gq_ya1
  have Fw10 : Fld Z h10 ya1 cn2 "size" "I" (.int (1 : Int32)) := (f9).same W10
  have K11 : Keep h0 _ [ya1] := K7.wr W10 (Or.inl (by simp))
  have O11 := O7.wr W10 gq_ya1
  refine Gets.of st10 ?_
  show Gets p e below _ (T10.setTop (mkF m 22 #[.val (.ref ya1), .val (.ref ya2), .val (.ref b6_2_2), .val (.int (0 : Int32))] []))
  refine Gets.retV X10 hx Bd.returns (hb hby d26_22) ?_ (by decide) (by decide)
  rw [e10]
  have f12 : Fld Z h10 ya1 cn2 "elementData" cn6 (.ref b6_2_2) := ((bf2_2.other W6 (Or.inl (Nat.ne_of_lt (Nat.lt_of_lt_of_le F0.lt sz_b6_2_2)))).other W10 (Or.inr (slot_ne (Or.inl (w49 hw)) (Or.inl (w86 hw)) (by decide) (t := (.array (.object cn3))) (t' := .int) (by decide) (by decide))))
  have f13 : Fld Z h10 ya1 cn10 "modCount" "I" (.int (1 : Int32)) := ((bf2_4.other W6 (Or.inl (Nat.ne_of_lt (Nat.lt_of_lt_of_le F0.lt sz_b6_2_2)))).other W10 (Or.inr (slot_ne (Or.inl (w46 hw)) (Or.inl (w86 hw)) (by decide) (t := .int) (t' := .int) (by decide) (by decide))))
  have f14 : Arv Z h10 b6_2_2 k6_2_2 (.object cn3) (10 : Int32) [(.ref ya2), .null, .null, .null, .null, .null, .null, .null, .null, .null] .null := (V6.other W10 (Ne.symm (Nat.ne_of_lt (Nat.lt_of_lt_of_le F0.lt sz_b6_2_2))))
  have f15 : Exa Z h10 b6_2_2 cn6 := ((bf2_1.wr W6).wr W10)
  have f16 : Ovr Z k6_2_2 cn3 := bf2_5
  exact ⟨N10, K11, ⟨b6_2_2, k6_2_2, rfl, sz_b6_2_2, f12, Fw10, f13, f14, f15, f16⟩⟩
theorem w163 {Z : State} {a0 : Array Value} (hw : ∀ d ∈ tables_1, d.before a0 Z = true) : (Jvm.Cond.code ({ cls := cn2, name := "add", desc := "(Ljava/lang/Object;[Ljava/lang/Object;I)V" } : Jvm.MethodName) jdk_38_method_24_code (4 : Nat) (Option.none : Option Jvm.ClassFile.FieldType)).before a0 Z = true := hw _ (List.mem_of_getElem? (i := 163) rfl)
theorem pd__Ljava_lang_Object_Ljava_lang_Object_I_V : parseMethodDescriptor "(Ljava/lang/Object;[Ljava/lang/Object;I)V" = some ⟨[(.object "java/lang/Object"), (.array (.object "java/lang/Object")), .int], none⟩ := by decide +kernel
theorem w160 {Z : State} {a0 : Array Value} (hw : ∀ d ∈ tables_1, d.before a0 Z = true) : (Jvm.Cond.instanceMethod ({ cls := cn2, name := "add", desc := "(Ljava/lang/Object;[Ljava/lang/Object;I)V" } : Jvm.MethodName)).before a0 Z = true := hw _ (List.mem_of_getElem? (i := 160) rfl)
theorem w162 {Z : State} {a0 : Array Value} (hw : ∀ d ∈ tables_1, d.before a0 Z = true) : (Jvm.Cond.selects cn2 ({ cls := cn2, name := "add", desc := "(Ljava/lang/Object;[Ljava/lang/Object;I)V" } : Jvm.MethodName) ({ cls := cn2, name := "add", desc := "(Ljava/lang/Object;[Ljava/lang/Object;I)V" } : Jvm.MethodName)).before a0 Z = true := hw _ (List.mem_of_getElem? (i := 162) rfl)
theorem w161 {Z : State} {a0 : Array Value} (hw : ∀ d ∈ tables_1, d.before a0 Z = true) : (Jvm.Cond.privateMethod ({ cls := cn2, name := "add", desc := "(Ljava/lang/Object;[Ljava/lang/Object;I)V" } : Jvm.MethodName)).before a0 Z = true := hw _ (List.mem_of_getElem? (i := 161) rfl)
theorem d25_23 : decode jdk_38_method_25_code 23 = .ok (.iconst 1, 1) := by decide +kernel
theorem d25_24 : decode jdk_38_method_25_code 24 = .ok (.ireturn, 1) := by decide +kernel
def Q_r40_add (Z : State) (ya1 : Addr) (ya2 : Addr) (ov5 : Addr) (ok31 : ClassId) (h0 : Heap) (n0 : Nat) (v : Option Value) (h : Heap) (L : List Loc) : Prop := Fr n0 L ∧ Keep h0 h [ya1] ∧ ((∃ (b6_2_2_10 : Addr) (k6_2_2_10 : ClassId), v = some (.int (1 : Int32)) ∧ h0.size ≤ b6_2_2_10 ∧ Fld Z h ya1 cn2 "elementData" cn6 (.ref b6_2_2_10) ∧ Fld Z h ya1 cn2 "size" "I" (.int (1 : Int32)) ∧ Fld Z h ya1 cn10 "modCount" "I" (.int (1 : Int32)) ∧ Arv Z h b6_2_2_10 k6_2_2_10 (.object cn3) (10 : Int32) [(.ref ya2), .null, .null, .null, .null, .null, .null, .null, .null, .null] .null ∧ Exa Z h b6_2_2_10 cn6 ∧ Ovr Z k6_2_2_10 cn3))
set_option maxRecDepth 65536 in
set_option maxHeartbeats 40000000 in
theorem r40_add (l : Launch) (Z : State) (a0 : Array Value) (hw : ∀ d ∈ tables_1, d.before a0 Z = true) (ws : List Jvm.Cond) (ya1 : Addr) (ya2 : Addr) (ov5 : Addr) (ok31 : ClassId) (h0 : Heap) (n0 : Nat) (O0 : Old Z n0 h0) (F0 : Fld Z h0 ya1 cn10 "modCount" "I" (.int (0 : Int32))) (F1 : Exa Z h0 ya1 cn2) (F2 : Fld Z h0 ya1 cn2 "elementData" cn6 (.ref ov5)) (F3 : Fld Z h0 ya1 cn2 "size" "I" (.int (0 : Int32))) (F4 : Exa Z h0 ya2 cn5) (oV30 : Arv Z Z.heap ov5 ok31 (.object cn3) (0 : Int32) [] .null) (oS7 : Sta Z Z.heap cn2 "DEFAULTCAPACITY_EMPTY_ELEMENTDATA" cn6 (.ref ov5)) (gq_ya1 : n0 ≤ ya1) :
    MetFree l (⟨cn2, "add", "(Ljava/lang/Object;)Z"⟩ : MethodName) (head1 (Jvm.Cond.code (⟨cn2, "add", "(Ljava/lang/Object;)Z"⟩ : MethodName) jdk_38_method_25_code 2 (some .boolean) :: ws) ({ frames := 4, cells := 1, slots := 10, locals := 56 } : Room)) (fun a U => a = #[(.ref ya1), (.ref ya2)] ∧ Z.Warmed39 U.vm ∧ U.heap = h0) (fun _ _ _ _ _ => True) (fun _ U o U' => ∃ v L, o = .returned v ∧ Q_r40_add Z ya1 ya2 ov5 ok31 h0 n0 v U'.heap L ∧ FrameEnd U o U' L ({ frames := 4, cells := 1, slots := 10, locals := 56 } : Room).cells ({ frames := 4, cells := 1, slots := 10, locals := 56 } : Room).slots) := by
  refine MetFree.of_bodySF (plainFor_of_name pn_java_util_ArrayList) hisR ?_
  intro p e s m args below meth c s₁ Bd hml0 hP hK
  obtain ⟨rfl, hZ, hh⟩ := hP
  have hx := Bd.exec
  have hby := Bd.bytes
  have hlk := Bd.notSynchronized
  have hml : c.maxLocals = 2 := hml0
  have hown : s.vm.findClass cn2 = some m.cls := findClass_of_methodNamed Bd.named
  have hnm := (name_of_methodNamed Bd.named Bd.method).1
  have X0 : Stand p l e ({ frames := 4, cells := 1, slots := 10, locals := 56 } : Room) s m #[(.ref ya1), (.ref ya2)] below meth c s₁ [] 0 0 := Stand.of_body Bd
  have e0 : s₁.heap = h0 := by rw [← hh, Bd.state]; rfl
  have N0 := Fr.nil n0
  have K0 := Keep.refl h0 [ya1]
  have Z0 : n0 ≤ h0.size := O0.1 ▸ O0.2.1
  have hef : entryFrame m #[(.ref ya1), (.ref ya2)] 2 = mkF m 0 #[.val (.ref ya1), .val (.ref ya2)] [] := by first | (simp [entryFrame, mkF, argsToLocals, Value.category]; done) | rfl
  rw [hef]
  refine Gets.out (Q := Q_r40_add Z ya1 ya2 ov5 ok31 h0 n0) ?_
  show Gets p e below _ (s₁.setTop (mkF m 0 #[.val (.ref ya1), .val (.ref ya2)] []))
  refine Gets.of (fun t k => XS.aloadN X0.here hx rfl (hb hby d25_0) rfl rfl  k) ?_
  refine Gets.of (fun t k => XS.dup X0.here hx rfl (hb hby d25_1) rfl rfl k) ?_
  obtain ⟨T1, X1, e1, st1⟩ := getF X0 hx hZ hown (host := "") (Or.inl (w157 hw)) (Via.of (w158 hw)) e0 F0 (g := (mkF m 2 #[.val (.ref ya1), .val (.ref ya2)] [(.ref ya1), (.ref ya1)])) rfl rfl (hb hby d25_2)
  refine Gets.of st1 ?_
  show Gets p e below _ (T1.setTop (mkF m 5 #[.val (.ref ya1), .val (.ref ya2)] [(.int (0 : Int32)), (.ref ya1)]))
  refine Gets.of (fun t k => XS.iconst X1.here hx rfl (hb hby d25_5) k) ?_
  refine Gets.of (fun t k => XS.iadd X1.here hx rfl (hb hby d25_6) rfl k) ?_
  show Gets p e below _ (T1.setTop (mkF m 7 #[.val (.ref ya1), .val (.ref ya2)] [(.int (1 : Int32)), (.ref ya1)]))
  obtain ⟨T2, h2, X2, e2, W2, st2⟩ := putF X1 hx hZ hown (host := "") (Or.inl (w157 hw)) (Via.of (w158 hw)) e1 F0 F1 (Or.inl (w46 hw)) (w27 hw) (ty := .int) (by decide) rfl rfl (g := (mkF m 7 #[.val (.ref ya1), .val (.ref ya2)] [(.int (1 : Int32)), (.ref ya1)])) rfl rfl (hb hby d25_7)
  have N2 := Fr.snoc X2 N0 gq_ya1
  have Fw2 : Fld Z h2 ya1 cn10 "modCount" "I" (.int (1 : Int32)) := (F0).same W2
  have K3 : Keep h0 _ [ya1] := K0.wr W2 (Or.inl (by simp))
  have O3 := O0.wr W2 gq_ya1
  refine Gets.of st2 ?_
  show Gets p e below _ (T2.setTop (mkF m 10 #[.val (.ref ya1), .val (.ref ya2)] []))
  refine Gets.of (fun t k => XS.aloadN X2.here hx rfl (hb hby d25_10) rfl rfl  k) ?_
  refine Gets.of (fun t k => XS.aloadN X2.here hx rfl (hb hby d25_11) rfl rfl  k) ?_
  refine Gets.of (fun t k => XS.aloadN X2.here hx rfl (hb hby d25_12) rfl rfl  k) ?_
  have f4 : Fld Z h2 ya1 cn2 "elementData" cn6 (.ref ov5) := (F2.other W2 (Or.inr (slot_ne (Or.inl (w49 hw)) (Or.inl (w46 hw)) (by decide) (t := (.array (.object cn3))) (t' := .int) (by decide) (by decide))))
  obtain ⟨T5, X5, e5, st5⟩ := getF X2 hx hZ hown (host := "") (Or.inl (w48 hw)) Via.refl e2 f4 (g := (mkF m 13 #[.val (.ref ya1), .val (.ref ya2)] [(.ref ya1), (.ref ya2), (.ref ya1)])) rfl rfl (hb hby d25_13)
  refine Gets.of st5 ?_
  show Gets p e below _ (T5.setTop (mkF m 16 #[.val (.ref ya1), .val (.ref ya2)] [(.ref ov5), (.ref ya2), (.ref ya1)]))
  refine Gets.of (fun t k => XS.aloadN X5.here hx rfl (hb hby d25_16) rfl rfl  k) ?_
  have f6 : Fld Z h2 ya1 cn2 "size" "I" (.int (0 : Int32)) := (F3.other W2 (Or.inr (slot_ne (Or.inl (w86 hw)) (Or.inl (w46 hw)) (by decide) (t := .int) (t' := .int) (by decide) (by decide))))
  obtain ⟨T7, X7, e7, st7⟩ := getF X5 hx hZ hown (host := "") (Or.inl (w85 hw)) Via.refl e5 f6 (g := (mkF m 17 #[.val (.ref ya1), .val (.ref ya2)] [(.ref ya1), (.ref ov5), (.ref ya2), (.ref ya1)])) rfl rfl (hb hby d25_17)
  refine Gets.of st7 ?_
  show Gets p e below _ (T7.setTop (mkF m 20 #[.val (.ref ya1), .val (.ref ya2)] [(.int (0 : Int32)), (.ref ov5), (.ref ya2), (.ref ya1)]))
  have f8 : Exa Z h2 ya1 cn2 := (F1.wr W2)
  have f9 : Exa Z h2 ya2 cn5 := (F4.wr W2)
  obtain ⟨cq10, q10, q10'⟩ := f8.cell
  obtain ⟨_, _, ⟨T10, L10, k10, n10⟩, -, X10, ⟨Lc10, hQ10, l10, y10, z10⟩, st10⟩ := X7.privateBack hx (y := (⟨cn2, "add", "(Ljava/lang/Object;[Ljava/lang/Object;I)V"⟩ : MethodName)) hown (mvT hZ (w159 hw)) (mvT hZ (w160 hw)) (mvT hZ (w162 hw)) (Cond.privateMethod_at (mvP hZ (w161 hw) (args := #[]))) (mvT hZ (w163 hw)) (by decide) (backOf (W := 0) (r41_add l Z a0 hw [] ya1 ya2 ov5 ok31 h2 n0 O3 f8 f6 f4 Fw2 f9 oV30 oS7 gq_ya1) hZ (w163 hw) (w28 hw) (by decide) (by decide)) (g := (mkF m 20 #[.val (.ref ya1), .val (.ref ya2)] [(.int (0 : Int32)), (.ref ov5), (.ref ya2), (.ref ya1)])) rfl (by rw [hml]; rfl) (Steps.refl _) (a := ya1) (by rw [e7]; exact q10) q10' (argsL := [(.ref ya2), (.ref ov5), (.int (0 : Int32))]) (rest := []) (lenOf pd__Ljava_lang_Object_Ljava_lang_Object_I_V rfl) rfl (by show 2 * 0 + _ ≤ _; exact Nat.le_of_eq rfl) (hb hby d25_20) (fun _ _ => ⟨rfl, e7, (by decide : 0 + 1 ≤ _), (by decide : 0 + 10 ≤ _)⟩)
  dsimp only [Pt.U, Pt.locs, Pt.cells, Pt.slots] at X10 l10 y10 z10 st10 hQ10
  subst l10 y10 z10
  obtain ⟨Nq10, Kq10, hR10⟩ := hQ10
  have N10 := Fr.app N2 Nq10
  have K11 : Keep h0 _ [ya1] := K3.trans Kq10 (allS (Or.inl (by simp)) all0)
  have O11 := O3.keep Kq10 (allS gq_ya1 all0)
  obtain ⟨b6_2_2_10, k6_2_2_10, rfl, bz10_0, bf10_0, bf10_1, bf10_2, bf10_3, bf10_4, bf10_5⟩ := hR10
  have sz_b6_2_2_10 : h0.size ≤ b6_2_2_10 := Nat.le_trans K3.1 bz10_0
  have g_b6_2_2_10 : n0 ≤ b6_2_2_10 := Nat.le_trans Z0 sz_b6_2_2_10
  refine Gets.tr st10 ?_
  show Gets p e below _ (T10.setTop (mkF m 23 #[.val (.ref ya1), .val (.ref ya2)] []))
  refine Gets.of (fun t k => XS.iconst X10.here hx rfl (hb hby d25_23) k) ?_
  refine Gets.retN X10 hx (t := .boolean) Bd.returns (by simp) (hb hby d25_24) ?_ (by decide) (by decide)
  exact ⟨N10, K11, ⟨b6_2_2_10, k6_2_2_10, rfl, sz_b6_2_2_10, bf10_0, bf10_1, bf10_2, bf10_3, bf10_4, bf10_5⟩⟩
theorem w156 {Z : State} {a0 : Array Value} (hw : ∀ d ∈ tables_1, d.before a0 Z = true) : (Jvm.Cond.code ({ cls := cn2, name := "add", desc := "(Ljava/lang/Object;)Z" } : Jvm.MethodName) jdk_38_method_25_code (2 : Nat) (Option.some Jvm.ClassFile.FieldType.boolean)).before a0 Z = true := hw _ (List.mem_of_getElem? (i := 156) rfl)
theorem pd__Ljava_lang_Object_Z : parseMethodDescriptor "(Ljava/lang/Object;)Z" = some ⟨[(.object "java/lang/Object")], some .boolean⟩ := by decide +kernel
theorem w155 {Z : State} {a0 : Array Value} (hw : ∀ d ∈ tables_1, d.before a0 Z = true) : (Jvm.Cond.selects cn2 ({ cls := cn2, name := "add", desc := "(Ljava/lang/Object;)Z" } : Jvm.MethodName) ({ cls := cn2, name := "add", desc := "(Ljava/lang/Object;)Z" } : Jvm.MethodName)).before a0 Z = true := hw _ (List.mem_of_getElem? (i := 155) rfl)
theorem w153 {Z : State} {a0 : Array Value} (hw : ∀ d ∈ tables_1, d.before a0 Z = true) : (Jvm.Cond.declares ({ cls := cn2, name := "add", desc := "(Ljava/lang/Object;)Z" } : Jvm.MethodName)).before a0 Z = true := hw _ (List.mem_of_getElem? (i := 153) rfl)
theorem w154 {Z : State} {a0 : Array Value} (hw : ∀ d ∈ tables_1, d.before a0 Z = true) : (Jvm.Cond.instanceMethod ({ cls := cn2, name := "add", desc := "(Ljava/lang/Object;)Z" } : Jvm.MethodName)).before a0 Z = true := hw _ (List.mem_of_getElem? (i := 154) rfl)
theorem d13_11 : decode jdk_38_method_9_code 11 = .ok (.iconst 0, 1) := by decide +kernel
def Q_r48_isEmpty (Z : State) (ya1 : Addr) (h0 : Heap) (n0 : Nat) (v : Option Value) (h : Heap) (L : List Loc) : Prop := Fr n0 L ∧ h = h0 ∧ ((v = some (.int (0 : Int32))))
set_option maxRecDepth 65536 in
set_option maxHeartbeats 40000000 in
theorem r48_isEmpty (l : Launch) (Z : State) (a0 : Array Value) (hw : ∀ d ∈ tables_1, d.before a0 Z = true) (ws : List Jvm.Cond) (ya1 : Addr) (h0 : Heap) (n0 : Nat) (O0 : Old Z n0 h0) (F0 : Fld Z h0 ya1 cn2 "size" "I" (.int (1 : Int32))) :
    MetFree l (⟨cn2, "isEmpty", "()Z"⟩ : MethodName) (head1 (Jvm.Cond.code (⟨cn2, "isEmpty", "()Z"⟩ : MethodName) jdk_38_method_9_code 1 (some .boolean) :: ws) ({ frames := 0, cells := 0, slots := 0, locals := 0 } : Room)) (fun a U => a = #[(.ref ya1)] ∧ Z.Warmed39 U.vm ∧ U.heap = h0) (fun _ _ _ _ _ => True) (fun _ U o U' => ∃ v L, o = .returned v ∧ Q_r48_isEmpty Z ya1 h0 n0 v U'.heap L ∧ FrameEnd U o U' L ({ frames := 0, cells := 0, slots := 0, locals := 0 } : Room).cells ({ frames := 0, cells := 0, slots := 0, locals := 0 } : Room).slots) := by
  refine MetFree.of_bodySF (plainFor_of_name pn_java_util_ArrayList) hisR ?_
  intro p e s m args below meth c s₁ Bd hml0 hP hK
  obtain ⟨rfl, hZ, hh⟩ := hP
  have hx := Bd.exec
  have hby := Bd.bytes
  have hlk := Bd.notSynchronized
  have hml : c.maxLocals = 1 := hml0
  have hown : s.vm.findClass cn2 = some m.cls := findClass_of_methodNamed Bd.named
  have hnm := (name_of_methodNamed Bd.named Bd.method).1
  have X0 : Stand p l e ({ frames := 0, cells := 0, slots := 0, locals := 0 } : Room) s m #[(.ref ya1)] below meth c s₁ [] 0 0 := Stand.of_body Bd
  have e0 : s₁.heap = h0 := by rw [← hh, Bd.state]; rfl
  have N0 := Fr.nil n0
  have K0 := Keep.refl h0 []
  have Z0 : n0 ≤ h0.size := O0.1 ▸ O0.2.1
  have hef : entryFrame m #[(.ref ya1)] 1 = mkF m 0 #[.val (.ref ya1)] [] := by first | (simp [entryFrame, mkF, argsToLocals, Value.category]; done) | rfl
  rw [hef]
  refine Gets.out (Q := Q_r48_isEmpty Z ya1 h0 n0) ?_
  show Gets p e below _ (s₁.setTop (mkF m 0 #[.val (.ref ya1)] []))
  refine Gets.of (fun t k => XS.aloadN X0.here hx rfl (hb hby d13_0) rfl rfl  k) ?_
  obtain ⟨T1, X1, e1, st1⟩ := getF X0 hx hZ hown (host := "") (Or.inl (w85 hw)) Via.refl e0 F0 (g := (mkF m 1 #[.val (.ref ya1)] [(.ref ya1)])) rfl rfl (hb hby d13_1)
  refine Gets.of st1 ?_
  show Gets p e below _ (T1.setTop (mkF m 4 #[.val (.ref ya1)] [(.int (1 : Int32))]))
  refine Gets.of (fun t k => XS.ifYes X1.here hx rfl (pc0 := 4) (pc' := 11) rfl (hb hby d13_4) rfl ((if0 _ _).trans (feq (by decide : ¬ ((1 : Int32) = (0 : Int32)))).2) (by decide) (by decide) k) ?_
  show Gets p e below _ (T1.setTop (mkF m 11 #[.val (.ref ya1)] []))
  refine Gets.of (fun t k => XS.iconst X1.here hx rfl (hb hby d13_11) k) ?_
  refine Gets.retN X1 hx (t := .boolean) Bd.returns (by simp) (hb hby d13_12) ?_ (by decide) (by decide)
  rw [e1]
  exact ⟨N0, rfl, rfl⟩
theorem d12_44 : decode jdk_56_method_3_code 44 = .ok (.aload_n 0, 1) := by decide +kernel
theorem d12_45 : decode jdk_56_method_3_code 45 = .ok (.invokeinterface 30 1, 5) := by decide +kernel
theorem w181 {Z : State} {a0 : Array Value} (hw : ∀ d ∈ tables_1, d.before a0 Z = true) : (Jvm.Cond.methodLink cn9 (30 : Nat) ({ cls := "java/util/Collection", name := "toArray", desc := cn15 } : Jvm.MethodName)).before a0 Z = true := hw _ (List.mem_of_getElem? (i := 181) rfl)
theorem d30_0 : decode jdk_38_method_16_code 0 = .ok (.aload_n 0, 1) := by decide +kernel
theorem d30_1 : decode jdk_38_method_16_code 1 = .ok (.getfield 9, 3) := by decide +kernel
theorem d30_4 : decode jdk_38_method_16_code 4 = .ok (.aload_n 0, 1) := by decide +kernel
theorem d30_5 : decode jdk_38_method_16_code 5 = .ok (.getfield 48, 3) := by decide +kernel
theorem d30_8 : decode jdk_38_method_16_code 8 = .ok (.invokestatic 66, 3) := by decide +kernel
theorem w189 {Z : State} {a0 : Array Value} (hw : ∀ d ∈ tables_1, d.before a0 Z = true) : (Jvm.Cond.methodLink cn2 (66 : Nat) ({ cls := "java/util/Arrays", name := "copyOf", desc := "([Ljava/lang/Object;I)[Ljava/lang/Object;" } : Jvm.MethodName)).before a0 Z = true := hw _ (List.mem_of_getElem? (i := 189) rfl)
theorem d31_0 : decode jdk_65_method_119_code 0 = .ok (.aload_n 0, 1) := by decide +kernel
theorem d31_1 : decode jdk_65_method_119_code 1 = .ok (.iload_n 1, 1) := by decide +kernel
theorem d31_2 : decode jdk_65_method_119_code 2 = .ok (.aload_n 0, 1) := by decide +kernel
theorem d31_3 : decode jdk_65_method_119_code 3 = .ok (.invokevirtual 86, 3) := by decide +kernel
theorem w193 {Z : State} {a0 : Array Value} (hw : ∀ d ∈ tables_1, d.before a0 Z = true) : (Jvm.Cond.methodLink "java/util/Arrays" (86 : Nat) ({ cls := cn3, name := "getClass", desc := "()Ljava/lang/Class;" } : Jvm.MethodName)).before a0 Z = true := hw _ (List.mem_of_getElem? (i := 193) rfl)
theorem w194 {Z : State} {a0 : Array Value} (hw : ∀ d ∈ tables_1, d.before a0 Z = true) : (Jvm.Cond.declares ({ cls := cn3, name := "getClass", desc := "()Ljava/lang/Class;" } : Jvm.MethodName)).before a0 Z = true := hw _ (List.mem_of_getElem? (i := 194) rfl)
theorem w196 {Z : State} {a0 : Array Value} (hw : ∀ d ∈ tables_1, d.before a0 Z = true) : (Jvm.Cond.selects cn6 ({ cls := cn3, name := "getClass", desc := "()Ljava/lang/Class;" } : Jvm.MethodName) ({ cls := cn3, name := "getClass", desc := "()Ljava/lang/Class;" } : Jvm.MethodName)).before a0 Z = true := hw _ (List.mem_of_getElem? (i := 196) rfl)
theorem w195 {Z : State} {a0 : Array Value} (hw : ∀ d ∈ tables_1, d.before a0 Z = true) : (Jvm.Cond.instanceMethod ({ cls := cn3, name := "getClass", desc := "()Ljava/lang/Class;" } : Jvm.MethodName)).before a0 Z = true := hw _ (List.mem_of_getElem? (i := 195) rfl)
theorem w197 {Z : State} {a0 : Array Value} (hw : ∀ d ∈ tables_1, d.before a0 Z = true) : (Jvm.Cond.native ({ cls := cn3, name := "getClass", desc := "()Ljava/lang/Class;" } : Jvm.MethodName)).before a0 Z = true := hw _ (List.mem_of_getElem? (i := 197) rfl)
theorem d31_6 : decode jdk_65_method_119_code 6 = .ok (.invokestatic 300, 3) := by decide +kernel
theorem w199 {Z : State} {a0 : Array Value} (hw : ∀ d ∈ tables_1, d.before a0 Z = true) : (Jvm.Cond.methodLink "java/util/Arrays" (300 : Nat) ({ cls := "java/util/Arrays", name := "copyOf", desc := "([Ljava/lang/Object;ILjava/lang/Class;)[Ljava/lang/Object;" } : Jvm.MethodName)).before a0 Z = true := hw _ (List.mem_of_getElem? (i := 199) rfl)
theorem d32_0 : decode jdk_65_method_120_code 0 = .ok (.aload_n 2, 1) := by decide +kernel
theorem d32_1 : decode jdk_65_method_120_code 1 = .ok (.ldc 110, 2) := by decide +kernel
theorem w202 {Z : State} {a0 : Array Value} (hw : ∀ d ∈ tables_1, d.before a0 Z = true) : (Jvm.Cond.classLink "java/util/Arrays" (110 : Nat) cn6).before a0 Z = true := hw _ (List.mem_of_getElem? (i := 202) rfl)
theorem d32_3 : decode jdk_65_method_120_code 3 = .ok (.if_acmp .ne 10, 3) := by decide +kernel
theorem d32_6 : decode jdk_65_method_120_code 6 = .ok (.iload_n 1, 1) := by decide +kernel
theorem d32_7 : decode jdk_65_method_120_code 7 = .ok (.anewarray 2, 3) := by decide +kernel
theorem w203 {Z : State} {a0 : Array Value} (hw : ∀ d ∈ tables_1, d.before a0 Z = true) : (Jvm.Cond.classLink "java/util/Arrays" (2 : Nat) cn3).before a0 Z = true := hw _ (List.mem_of_getElem? (i := 203) rfl)
theorem d32_10 : decode jdk_65_method_120_code 10 = .ok (.goto 14, 3) := by decide +kernel
theorem d32_24 : decode jdk_65_method_120_code 24 = .ok (.astore_n 3, 1) := by decide +kernel
theorem d32_25 : decode jdk_65_method_120_code 25 = .ok (.aload_n 0, 1) := by decide +kernel
theorem d32_26 : decode jdk_65_method_120_code 26 = .ok (.iconst 0, 1) := by decide +kernel
theorem d32_27 : decode jdk_65_method_120_code 27 = .ok (.aload_n 3, 1) := by decide +kernel
theorem d32_28 : decode jdk_65_method_120_code 28 = .ok (.iconst 0, 1) := by decide +kernel
theorem d32_29 : decode jdk_65_method_120_code 29 = .ok (.aload_n 0, 1) := by decide +kernel
theorem d32_30 : decode jdk_65_method_120_code 30 = .ok (.arraylength, 1) := by decide +kernel
theorem d32_31 : decode jdk_65_method_120_code 31 = .ok (.iload_n 1, 1) := by decide +kernel
theorem d32_32 : decode jdk_65_method_120_code 32 = .ok (.invokestatic 304, 3) := by decide +kernel
theorem w204 {Z : State} {a0 : Array Value} (hw : ∀ d ∈ tables_1, d.before a0 Z = true) : (Jvm.Cond.methodLink "java/util/Arrays" (304 : Nat) ({ cls := "java/lang/Math", name := "min", desc := "(II)I" } : Jvm.MethodName)).before a0 Z = true := hw _ (List.mem_of_getElem? (i := 204) rfl)
theorem d33_0 : decode jdk_29_method_69_code 0 = .ok (.iload_n 0, 1) := by decide +kernel
theorem d33_1 : decode jdk_29_method_69_code 1 = .ok (.iload_n 1, 1) := by decide +kernel
theorem d33_2 : decode jdk_29_method_69_code 2 = .ok (.if_icmp .gt 7, 3) := by decide +kernel
theorem d33_9 : decode jdk_29_method_69_code 9 = .ok (.iload_n 1, 1) := by decide +kernel
theorem d33_10 : decode jdk_29_method_69_code 10 = .ok (.ireturn, 1) := by decide +kernel
def Q_r52_min (Z : State)  (h0 : Heap) (n0 : Nat) (v : Option Value) (h : Heap) (L : List Loc) : Prop := Fr n0 L ∧ h = h0 ∧ ((v = some (.int (1 : Int32))))
set_option maxRecDepth 65536 in
set_option maxHeartbeats 40000000 in
theorem r52_min (l : Launch) (Z : State) (a0 : Array Value) (hw : ∀ d ∈ tables_1, d.before a0 Z = true) (ws : List Jvm.Cond)  (h0 : Heap) (n0 : Nat) (O0 : Old Z n0 h0) :
    MetFree l (⟨"java/lang/Math", "min", "(II)I"⟩ : MethodName) (head1 (Jvm.Cond.code (⟨"java/lang/Math", "min", "(II)I"⟩ : MethodName) jdk_29_method_69_code 2 (some .int) :: ws) ({ frames := 0, cells := 0, slots := 0, locals := 0 } : Room)) (fun a U => a = #[(.int (10 : Int32)), (.int (1 : Int32))] ∧ Z.Warmed39 U.vm ∧ U.heap = h0) (fun _ _ _ _ _ => True) (fun _ U o U' => ∃ v L, o = .returned v ∧ Q_r52_min Z  h0 n0 v U'.heap L ∧ FrameEnd U o U' L ({ frames := 0, cells := 0, slots := 0, locals := 0 } : Room).cells ({ frames := 0, cells := 0, slots := 0, locals := 0 } : Room).slots) := by
  refine MetFree.of_bodySF (Jvm.Free.JP.mathPlain rfl (by decide +kernel)) hisR ?_
  intro p e s m args below meth c s₁ Bd hml0 hP hK
  obtain ⟨rfl, hZ, hh⟩ := hP
  have hx := Bd.exec
  have hby := Bd.bytes
  have hlk := Bd.notSynchronized
  have hml : c.maxLocals = 2 := hml0
  have hown : s.vm.findClass "java/lang/Math" = some m.cls := findClass_of_methodNamed Bd.named
  have hnm := (name_of_methodNamed Bd.named Bd.method).1
  have X0 : Stand p l e ({ frames := 0, cells := 0, slots := 0, locals := 0 } : Room) s m #[(.int (10 : Int32)), (.int (1 : Int32))] below meth c s₁ [] 0 0 := Stand.of_body Bd
  have e0 : s₁.heap = h0 := by rw [← hh, Bd.state]; rfl
  have N0 := Fr.nil n0
  have K0 := Keep.refl h0 []
  have Z0 : n0 ≤ h0.size := O0.1 ▸ O0.2.1
  have hef : entryFrame m #[(.int (10 : Int32)), (.int (1 : Int32))] 2 = mkF m 0 #[.val (.int (10 : Int32)), .val (.int (1 : Int32))] [] := by first | (simp [entryFrame, mkF, argsToLocals, Value.category]; done) | rfl
  rw [hef]
  refine Gets.out (Q := Q_r52_min Z  h0 n0) ?_
  show Gets p e below _ (s₁.setTop (mkF m 0 #[.val (.int (10 : Int32)), .val (.int (1 : Int32))] []))
  refine Gets.of (fun t k => XS.iloadN X0.here hx rfl (hb hby d33_0) rfl  k) ?_
  refine Gets.of (fun t k => XS.iloadN X0.here hx rfl (hb hby d33_1) rfl  k) ?_
  refine Gets.of (fun t k => XS.icmpYes X0.here hx rfl (pc0 := 2) (pc' := 9) rfl (hb hby d33_2) rfl (tlt (by decide : (1 : Int32) < (10 : Int32))).2.2.1 (by decide) (by decide) k) ?_
  show Gets p e below _ (s₁.setTop (mkF m 9 #[.val (.int (10 : Int32)), .val (.int (1 : Int32))] []))
  refine Gets.of (fun t k => XS.iloadN X0.here hx rfl (hb hby d33_9) rfl  k) ?_
  refine Gets.retI X0 hx Bd.returns (hb hby d33_10) ?_ (by decide) (by decide)
  rw [e0]
  exact ⟨N0, rfl, rfl⟩
theorem w206 {Z : State} {a0 : Array Value} (hw : ∀ d ∈ tables_1, d.before a0 Z = true) : (Jvm.Cond.code ({ cls := "java/lang/Math", name := "min", desc := "(II)I" } : Jvm.MethodName) jdk_29_method_69_code (2 : Nat) (Option.some Jvm.ClassFile.FieldType.int)).before a0 Z = true := hw _ (List.mem_of_getElem? (i := 206) rfl)
theorem w205 {Z : State} {a0 : Array Value} (hw : ∀ d ∈ tables_1, d.before a0 Z = true) : (Jvm.Cond.static ({ cls := "java/lang/Math", name := "min", desc := "(II)I" } : Jvm.MethodName)).before a0 Z = true := hw _ (List.mem_of_getElem? (i := 205) rfl)
theorem d32_35 : decode jdk_65_method_120_code 35 = .ok (.invokestatic 150, 3) := by decide +kernel
theorem w207 {Z : State} {a0 : Array Value} (hw : ∀ d ∈ tables_1, d.before a0 Z = true) : (Jvm.Cond.methodLink "java/util/Arrays" (150 : Nat) ({ cls := "java/lang/System", name := "arraycopy", desc := "(Ljava/lang/Object;ILjava/lang/Object;II)V" } : Jvm.MethodName)).before a0 Z = true := hw _ (List.mem_of_getElem? (i := 207) rfl)
theorem w210 {Z : State} {a0 : Array Value} (hw : ∀ d ∈ tables_1, d.before a0 Z = true) : (Jvm.Cond.native ({ cls := "java/lang/System", name := "arraycopy", desc := "(Ljava/lang/Object;ILjava/lang/Object;II)V" } : Jvm.MethodName)).before a0 Z = true := hw _ (List.mem_of_getElem? (i := 210) rfl)
theorem w208 {Z : State} {a0 : Array Value} (hw : ∀ d ∈ tables_1, d.before a0 Z = true) : (Jvm.Cond.static ({ cls := "java/lang/System", name := "arraycopy", desc := "(Ljava/lang/Object;ILjava/lang/Object;II)V" } : Jvm.MethodName)).before a0 Z = true := hw _ (List.mem_of_getElem? (i := 208) rfl)
theorem w209 {Z : State} {a0 : Array Value} (hw : ∀ d ∈ tables_1, d.before a0 Z = true) : (Jvm.Cond.initialized "java/lang/System").before a0 Z = true := hw _ (List.mem_of_getElem? (i := 209) rfl)
theorem d32_38 : decode jdk_65_method_120_code 38 = .ok (.aload_n 3, 1) := by decide +kernel
theorem d32_39 : decode jdk_65_method_120_code 39 = .ok (.areturn, 1) := by decide +kernel
def Q_r51_copyOf (Z : State) (ya1 : Addr) (ymir : Addr) (yk2 : ClassId) (ya3 : Addr) (h0 : Heap) (n0 : Nat) (v : Option Value) (h : Heap) (L : List Loc) : Prop := Fr n0 L ∧ Keep h0 h [] ∧ ((∃ (b2 : Addr) (k2 : ClassId), v = some (.ref b2) ∧ h0.size ≤ b2 ∧ Arv Z h b2 k2 (.object cn3) (1 : Int32) [(.ref ya3)] .null ∧ Exa Z h b2 cn6 ∧ Ovr Z k2 cn3))
theorem pn_java_util_Arrays : plainName "java/util/Arrays" = true := by first | (simp [plainName, overriddenIn]; done) | decide +kernel
set_option maxRecDepth 65536 in
set_option maxHeartbeats 40000000 in
theorem r51_copyOf (l : Launch) (Z : State) (a0 : Array Value) (hw : ∀ d ∈ tables_1, d.before a0 Z = true) (ws : List Jvm.Cond) (ya1 : Addr) (ymir : Addr) (yk2 : ClassId) (ya3 : Addr) (h0 : Heap) (n0 : Nat) (O0 : Old Z n0 h0) (F0 : Arv Z h0 ya1 yk2 (.object cn3) (10 : Int32) [(.ref ya3), .null, .null, .null, .null, .null, .null, .null, .null, .null] .null) (F1 : Exa Z h0 ya3 cn5) (hy1 : Mir Z cn6 ymir) :
    MetFree l (⟨"java/util/Arrays", "copyOf", "([Ljava/lang/Object;ILjava/lang/Class;)[Ljava/lang/Object;"⟩ : MethodName) (head1 (Jvm.Cond.code (⟨"java/util/Arrays", "copyOf", "([Ljava/lang/Object;ILjava/lang/Class;)[Ljava/lang/Object;"⟩ : MethodName) jdk_65_method_120_code 4 (some (.array (.object cn3))) :: ws) ({ frames := 1, cells := 1, slots := 1, locals := 18 } : Room)) (fun a U => a = #[(.ref ya1), (.int (1 : Int32)), (.ref ymir)] ∧ Z.Warmed39 U.vm ∧ U.heap = h0) (fun _ _ _ _ _ => True) (fun _ U o U' => ∃ v L, o = .returned v ∧ Q_r51_copyOf Z ya1 ymir yk2 ya3 h0 n0 v U'.heap L ∧ FrameEnd U o U' L ({ frames := 1, cells := 1, slots := 1, locals := 18 } : Room).cells ({ frames := 1, cells := 1, slots := 1, locals := 18 } : Room).slots) := by
  refine MetFree.of_bodySF (plainFor_of_name pn_java_util_Arrays) hisR ?_
  intro p e s m args below meth c s₁ Bd hml0 hP hK
  obtain ⟨rfl, hZ, hh⟩ := hP
  have hx := Bd.exec
  have hby := Bd.bytes
  have hlk := Bd.notSynchronized
  have hml : c.maxLocals = 4 := hml0
  have hown : s.vm.findClass "java/util/Arrays" = some m.cls := findClass_of_methodNamed Bd.named
  have hnm := (name_of_methodNamed Bd.named Bd.method).1
  have X0 : Stand p l e ({ frames := 1, cells := 1, slots := 1, locals := 18 } : Room) s m #[(.ref ya1), (.int (1 : Int32)), (.ref ymir)] below meth c s₁ [] 0 0 := Stand.of_body Bd
  have e0 : s₁.heap = h0 := by rw [← hh, Bd.state]; rfl
  have N0 := Fr.nil n0
  have K0 := Keep.refl h0 []
  have Z0 : n0 ≤ h0.size := O0.1 ▸ O0.2.1
  have hef : entryFrame m #[(.ref ya1), (.int (1 : Int32)), (.ref ymir)] 4 = mkF m 0 #[.val (.ref ya1), .val (.int (1 : Int32)), .val (.ref ymir), .unset] [] := by first | (simp [entryFrame, mkF, argsToLocals, Value.category]; done) | rfl
  rw [hef]
  refine Gets.out (Q := Q_r51_copyOf Z ya1 ymir yk2 ya3 h0 n0) ?_
  show Gets p e below _ (s₁.setTop (mkF m 0 #[.val (.ref ya1), .val (.int (1 : Int32)), .val (.ref ymir), .unset] []))
  refine Gets.of (fun t k => XS.aloadN X0.here hx rfl (hb hby d32_0) rfl rfl  k) ?_
  obtain ⟨vm1, X1, st1⟩ := X0.ldcMirror hx hown (mvT hZ (w202 hw)) (own_mir hZ hy1) (g := (mkF m 1 #[.val (.ref ya1), .val (.int (1 : Int32)), .val (.ref ymir), .unset] [(.ref ymir)])) rfl (hb hby d32_1)
  have e1 : (s₁.setVm vm1).heap = h0 := e0
  refine Gets.of st1 ?_
  show Gets p e below _ ((s₁.setVm vm1).setTop (mkF m 3 #[.val (.ref ya1), .val (.int (1 : Int32)), .val (.ref ymir), .unset] [(.ref ymir), (.ref ymir)]))
  refine Gets.of (fun t k => Jvm.RoadKit.acmp (g := (mkF m 3 #[.val (.ref ya1), .val (.int (1 : Int32)), .val (.ref ymir), .unset] [(.ref ymir), (.ref ymir)])) X1 hx rfl rfl rfl (pc0 := 3) (pc' := 6) (same := true) rfl (hb hby d32_3) rfl (decide_eq_true rfl) (by decide) (by decide) k) ?_
  show Gets p e below _ ((s₁.setVm vm1).setTop (mkF m 6 #[.val (.ref ya1), .val (.int (1 : Int32)), .val (.ref ymir), .unset] []))
  refine Gets.of (fun t k => XS.iloadN X1.here hx rfl (hb hby d32_6) rfl  k) ?_
  obtain ⟨T2, h2, k2, X2, e2, E2, A2, Ex2, O2, st2⟩ := newRE X1 hx hZ hown (w203 hw) (w179 hw) e1 (g := (mkF m 7 #[.val (.ref ya1), .val (.int (1 : Int32)), .val (.ref ymir), .unset] [(.int (1 : Int32))])) rfl (hb hby d32_7) rfl (by decide) (cap := 1) (by decide) (by decide) (by decide) (by decide) (ad := cn6) rfl
  obtain ⟨b2, g2⟩ : ∃ z, z = h0.size := ⟨_, rfl⟩
  rw [← g2] at A2 Ex2 st2
  have sz_b2 : h0.size ≤ b2 := Nat.le_trans K0.1 (Nat.le_of_eq g2.symm)
  have g_b2 : n0 ≤ b2 := Nat.le_trans Z0 sz_b2
  have K3 := K0.ext E2
  have O3 := O0.ext E2
  have V2 : Arv Z h2 b2 k2 (.object cn3) (1 : Int32) [.null] .null := (Arv.new A2 (by decide)).pad (pad_rep [] .null 1)
  refine Gets.of st2 ?_
  show Gets p e below _ (T2.setTop (mkF m 10 #[.val (.ref ya1), .val (.int (1 : Int32)), .val (.ref ymir), .unset] [(.ref b2)]))
  refine Gets.of (fun t k => XS.goto X2.here hx rfl (pc0 := 10) (pc' := 24) rfl (hb hby d32_10) (by decide) (by decide) k) ?_
  show Gets p e below _ (T2.setTop (mkF m 24 #[.val (.ref ya1), .val (.int (1 : Int32)), .val (.ref ymir), .unset] [(.ref b2)]))
  refine Gets.of (fun t k => XS.astoreN X2.here hx rfl (hb hby d32_24) rfl rfl (l' := #[.val (.ref ya1), .val (.int (1 : Int32)), .val (.ref ymir), .val (.ref b2)]) rfl k) ?_
  show Gets p e below _ (T2.setTop (mkF m 25 #[.val (.ref ya1), .val (.int (1 : Int32)), .val (.ref ymir), .val (.ref b2)] []))
  refine Gets.of (fun t k => XS.aloadN X2.here hx rfl (hb hby d32_25) rfl rfl  k) ?_
  refine Gets.of (fun t k => XS.iconst X2.here hx rfl (hb hby d32_26) k) ?_
  refine Gets.of (fun t k => XS.aloadN X2.here hx rfl (hb hby d32_27) rfl rfl  k) ?_
  refine Gets.of (fun t k => XS.iconst X2.here hx rfl (hb hby d32_28) k) ?_
  show Gets p e below _ (T2.setTop (mkF m 29 #[.val (.ref ya1), .val (.int (1 : Int32)), .val (.ref ymir), .val (.ref b2)] [(.int (0 : Int32)), (.ref b2), (.int (0 : Int32)), (.ref ya1)]))
  refine Gets.of (fun t k => XS.aloadN X2.here hx rfl (hb hby d32_29) rfl rfl  k) ?_
  have f4 : Arv Z h2 ya1 yk2 (.object cn3) (10 : Int32) [(.ref ya3), .null, .null, .null, .null, .null, .null, .null, .null, .null] .null := (F0.ext E2)
  obtain ⟨cl5, Ar5, -, S5, N_5, -, -⟩ := id (f4)
  refine Gets.of (X2.arraylength hx (by rw [e2]; exact Ar5.1) (State.isArrayOf_alike hZ.alike Ar5.2.1) (g := (mkF m 30 #[.val (.ref ya1), .val (.int (1 : Int32)), .val (.ref ymir), .val (.ref b2)] [(.ref ya1), (.int (0 : Int32)), (.ref b2), (.int (0 : Int32)), (.ref ya1)])) rfl rfl (hb hby d32_30)) ?_
  rw [len_of S5 N_5]
  show Gets p e below _ (T2.setTop (mkF m 31 #[.val (.ref ya1), .val (.int (1 : Int32)), .val (.ref ymir), .val (.ref b2)] [(.int (10 : Int32)), (.int (0 : Int32)), (.ref b2), (.int (0 : Int32)), (.ref ya1)]))
  refine Gets.of (fun t k => XS.iloadN X2.here hx rfl (hb hby d32_31) rfl  k) ?_
  obtain ⟨_, _, ⟨T6, L6, k6, n6⟩, -, X6, ⟨Lc6, hQ6, l6, y6, z6⟩, st6⟩ := Jvm.LawKit.callS X2 hx (y := (⟨"java/lang/Math", "min", "(II)I"⟩ : MethodName)) hown (mvT hZ (w204 hw)) (mvT hZ (w205 hw)) (mvT hZ (w176 hw)) (mvT hZ (w206 hw)) (by decide) (backOf (W := 4) (r52_min l Z a0 hw []  h2 n0 O3) hZ (w206 hw) (w176 hw) (by decide) (by decide)) (g := (mkF m 32 #[.val (.ref ya1), .val (.int (1 : Int32)), .val (.ref ymir), .val (.ref b2)] [(.int (1 : Int32)), (.int (10 : Int32)), (.int (0 : Int32)), (.ref b2), (.int (0 : Int32)), (.ref ya1)])) rfl (by rw [hml]; rfl) (argsL := [(.int (10 : Int32)), (.int (1 : Int32))]) (rest := [(.int (0 : Int32)), (.ref b2), (.int (0 : Int32)), (.ref ya1)]) (lenOf pd__II_I rfl) rfl (by show 2 * 0 + _ ≤ _; exact Nat.le_of_eq rfl) (hb hby d32_32) (fun _ _ => ⟨rfl, e2, (by decide : 1 + 0 ≤ _), (by decide : 1 + 0 ≤ _)⟩)
  dsimp only [Pt.U, Pt.locs, Pt.cells, Pt.slots] at X6 l6 y6 z6 st6 hQ6
  subst l6 y6 z6
  obtain ⟨Nq6, eq6, hR6⟩ := hQ6
  have N6 := Fr.app N0 Nq6
  obtain rfl := hR6
  refine Gets.of st6 ?_
  show Gets p e below _ (T6.setTop (mkF m 35 #[.val (.ref ya1), .val (.int (1 : Int32)), .val (.ref ymir), .val (.ref b2)] [(.int (1 : Int32)), (.int (0 : Int32)), (.ref b2), (.int (0 : Int32)), (.ref ya1)]))
  obtain ⟨cl7, Ar7, q7, -⟩ := id (V2)
  have f8 : Exa Z h2 ya3 cn5 := (F1.ext E2)
  obtain ⟨T9, h9, L9, X9, e9, N9, Kq9, V9, st9⟩ := cpA X6 hx hZ hown (w207 hw) (w210 hw) (w208 hw) (w209 hw) eq6 (us := [(.ref ya3)]) f4 V2 (Or.inr ⟨rfl, rfl, ⟨(Sto.ofV Ar7 q7 O2 (Ins.of_exa f8 (w180 hw))), True.intro⟩⟩) (by decide) (by decide) (by decide) (by decide) (by decide) rfl (by decide) N6 g_b2 (g := (mkF m 35 #[.val (.ref ya1), .val (.int (1 : Int32)), .val (.ref ymir), .val (.ref b2)] [(.int (1 : Int32)), (.int (0 : Int32)), (.ref b2), (.int (0 : Int32)), (.ref ya1)])) rfl (by rw [hml]; rfl) rfl (hb hby d32_35) (by decide) (W := 0) (by show 2 * 0 + _ ≤ _; exact Nat.le_of_eq rfl) (by decide)
  have Vn9 : Arv Z h9 b2 k2 (.object cn3) (1 : Int32) [(.ref ya3)] .null := V9
  have K10 : Keep h0 _ [] := K3.trans Kq9 (allS (Or.inr sz_b2) all0)
  have O10 := O3.keep Kq9 (allS g_b2 all0)
  refine Gets.of st9 ?_
  show Gets p e below _ (T9.setTop (mkF m 38 #[.val (.ref ya1), .val (.int (1 : Int32)), .val (.ref ymir), .val (.ref b2)] []))
  refine Gets.of (fun t k => XS.aloadN X9.here hx rfl (hb hby d32_38) rfl rfl  k) ?_
  refine Gets.retA X9 hx Bd.returns rfl rfl (hb hby d32_39) ?_ (by decide) (by decide)
  rw [e9]
  have f11 : Exa Z h9 b2 cn6 := (Ex2.keep Kq9)
  have f12 : Ovr Z k2 cn3 := O2
  exact ⟨N9, K10, ⟨b2, k2, rfl, sz_b2, Vn9, f11, f12⟩⟩
theorem w201 {Z : State} {a0 : Array Value} (hw : ∀ d ∈ tables_1, d.before a0 Z = true) : (Jvm.Cond.code ({ cls := "java/util/Arrays", name := "copyOf", desc := "([Ljava/lang/Object;ILjava/lang/Class;)[Ljava/lang/Object;" } : Jvm.MethodName) jdk_65_method_120_code (4 : Nat) (Option.some (Jvm.ClassFile.FieldType.array (Jvm.ClassFile.FieldType.object cn3)))).before a0 Z = true := hw _ (List.mem_of_getElem? (i := 201) rfl)
theorem w191 {Z : State} {a0 : Array Value} (hw : ∀ d ∈ tables_1, d.before a0 Z = true) : (Jvm.Cond.initialized "java/util/Arrays").before a0 Z = true := hw _ (List.mem_of_getElem? (i := 191) rfl)
theorem pd__Ljava_lang_Object_ILjava_lang_Class__Ljava_lang_Object_ : parseMethodDescriptor "([Ljava/lang/Object;ILjava/lang/Class;)[Ljava/lang/Object;" = some ⟨[(.array (.object "java/lang/Object")), .int, (.object "java/lang/Class")], some (.array (.object "java/lang/Object"))⟩ := by decide +kernel
theorem w200 {Z : State} {a0 : Array Value} (hw : ∀ d ∈ tables_1, d.before a0 Z = true) : (Jvm.Cond.static ({ cls := "java/util/Arrays", name := "copyOf", desc := "([Ljava/lang/Object;ILjava/lang/Class;)[Ljava/lang/Object;" } : Jvm.MethodName)).before a0 Z = true := hw _ (List.mem_of_getElem? (i := 200) rfl)
theorem d31_9 : decode jdk_65_method_119_code 9 = .ok (.areturn, 1) := by decide +kernel
def Q_r50_copyOf (Z : State) (ya1 : Addr) (ymir : Addr) (yk2 : ClassId) (ya3 : Addr) (h0 : Heap) (n0 : Nat) (v : Option Value) (h : Heap) (L : List Loc) : Prop := Fr n0 L ∧ Keep h0 h [] ∧ ((∃ (b2_2 : Addr) (k2_2 : ClassId), v = some (.ref b2_2) ∧ h0.size ≤ b2_2 ∧ Arv Z h b2_2 k2_2 (.object cn3) (1 : Int32) [(.ref ya3)] .null ∧ Exa Z h b2_2 cn6 ∧ Ovr Z k2_2 cn3))
set_option maxRecDepth 65536 in
set_option maxHeartbeats 40000000 in
theorem r50_copyOf (l : Launch) (Z : State) (a0 : Array Value) (hw : ∀ d ∈ tables_1, d.before a0 Z = true) (ws : List Jvm.Cond) (ya1 : Addr) (ymir : Addr) (yk2 : ClassId) (ya3 : Addr) (h0 : Heap) (n0 : Nat) (O0 : Old Z n0 h0) (F0 : Exa Z h0 ya1 cn6) (F1 : Ovr Z yk2 cn3) (F2 : Arv Z h0 ya1 yk2 (.object cn3) (10 : Int32) [(.ref ya3), .null, .null, .null, .null, .null, .null, .null, .null, .null] .null) (F3 : Exa Z h0 ya3 cn5) (hy1 : Mir Z cn6 ymir) :
    MetFree l (⟨"java/util/Arrays", "copyOf", "([Ljava/lang/Object;I)[Ljava/lang/Object;"⟩ : MethodName) (head1 (Jvm.Cond.code (⟨"java/util/Arrays", "copyOf", "([Ljava/lang/Object;I)[Ljava/lang/Object;"⟩ : MethodName) jdk_65_method_119_code 2 (some (.array (.object cn3))) :: ws) ({ frames := 2, cells := 1, slots := 1, locals := 33 } : Room)) (fun a U => a = #[(.ref ya1), (.int (1 : Int32))] ∧ Z.Warmed39 U.vm ∧ U.heap = h0) (fun _ _ _ _ _ => True) (fun _ U o U' => ∃ v L, o = .returned v ∧ Q_r50_copyOf Z ya1 ymir yk2 ya3 h0 n0 v U'.heap L ∧ FrameEnd U o U' L ({ frames := 2, cells := 1, slots := 1, locals := 33 } : Room).cells ({ frames := 2, cells := 1, slots := 1, locals := 33 } : Room).slots) := by
  refine MetFree.of_bodySF (plainFor_of_name pn_java_util_Arrays) hisR ?_
  intro p e s m args below meth c s₁ Bd hml0 hP hK
  obtain ⟨rfl, hZ, hh⟩ := hP
  have hx := Bd.exec
  have hby := Bd.bytes
  have hlk := Bd.notSynchronized
  have hml : c.maxLocals = 2 := hml0
  have hown : s.vm.findClass "java/util/Arrays" = some m.cls := findClass_of_methodNamed Bd.named
  have hnm := (name_of_methodNamed Bd.named Bd.method).1
  have X0 : Stand p l e ({ frames := 2, cells := 1, slots := 1, locals := 33 } : Room) s m #[(.ref ya1), (.int (1 : Int32))] below meth c s₁ [] 0 0 := Stand.of_body Bd
  have e0 : s₁.heap = h0 := by rw [← hh, Bd.state]; rfl
  have N0 := Fr.nil n0
  have K0 := Keep.refl h0 []
  have Z0 : n0 ≤ h0.size := O0.1 ▸ O0.2.1
  have hef : entryFrame m #[(.ref ya1), (.int (1 : Int32))] 2 = mkF m 0 #[.val (.ref ya1), .val (.int (1 : Int32))] [] := by first | (simp [entryFrame, mkF, argsToLocals, Value.category]; done) | rfl
  rw [hef]
  refine Gets.out (Q := Q_r50_copyOf Z ya1 ymir yk2 ya3 h0 n0) ?_
  show Gets p e below _ (s₁.setTop (mkF m 0 #[.val (.ref ya1), .val (.int (1 : Int32))] []))
  refine Gets.of (fun t k => XS.aloadN X0.here hx rfl (hb hby d31_0) rfl rfl  k) ?_
  refine Gets.of (fun t k => XS.iloadN X0.here hx rfl (hb hby d31_1) rfl  k) ?_
  refine Gets.of (fun t k => XS.aloadN X0.here hx rfl (hb hby d31_2) rfl rfl  k) ?_
  obtain ⟨T1, X1, e1, st1⟩ := gcls X0 hx hZ hown (w193 hw) (w194 hw) (w74 hw) (w196 hw) (w195 hw) (w197 hw) e0 F0 hy1 (g := (mkF m 3 #[.val (.ref ya1), .val (.int (1 : Int32))] [(.ref ya1), (.int (1 : Int32)), (.ref ya1)])) rfl (by rw [hml]; rfl) rfl (hb hby d31_3) (by decide) (W := 2) (by show 2 * 0 + _ ≤ _; exact Nat.le_of_eq rfl) (by decide)
  refine Gets.of st1 ?_
  show Gets p e below _ (T1.setTop (mkF m 6 #[.val (.ref ya1), .val (.int (1 : Int32))] [(.ref ymir), (.int (1 : Int32)), (.ref ya1)]))
  obtain ⟨_, _, ⟨T2, L2, k2, n2⟩, -, X2, ⟨Lc2, hQ2, l2, y2, z2⟩, st2⟩ := Jvm.LawKit.callS X1 hx (y := (⟨"java/util/Arrays", "copyOf", "([Ljava/lang/Object;ILjava/lang/Class;)[Ljava/lang/Object;"⟩ : MethodName)) hown (mvT hZ (w199 hw)) (mvT hZ (w200 hw)) (mvT hZ (w191 hw)) (mvT hZ (w201 hw)) (by decide) (backOf (W := 0) (r51_copyOf l Z a0 hw [] ya1 ymir yk2 ya3 h0 n0 O0 F2 F3 hy1) hZ (w201 hw) (w191 hw) (by decide) (by decide)) (g := (mkF m 6 #[.val (.ref ya1), .val (.int (1 : Int32))] [(.ref ymir), (.int (1 : Int32)), (.ref ya1)])) rfl (by rw [hml]; rfl) (argsL := [(.ref ya1), (.int (1 : Int32)), (.ref ymir)]) (rest := []) (lenOf pd__Ljava_lang_Object_ILjava_lang_Class__Ljava_lang_Object_ rfl) rfl (by show 2 * 0 + _ ≤ _; exact Nat.le_of_eq rfl) (hb hby d31_6) (fun _ _ => ⟨rfl, e1, (by decide : 0 + 1 ≤ _), (by decide : 0 + 1 ≤ _)⟩)
  dsimp only [Pt.U, Pt.locs, Pt.cells, Pt.slots] at X2 l2 y2 z2 st2 hQ2
  subst l2 y2 z2
  obtain ⟨Nq2, Kq2, hR2⟩ := hQ2
  have N2 := Fr.app N0 Nq2
  have K3 : Keep h0 _ [] := K0.trans Kq2 all0
  have O3 := O0.keep Kq2 all0
  obtain ⟨b2_2, k2_2, rfl, bz2_0, bf2_0, bf2_1, bf2_2⟩ := hR2
  have sz_b2_2 : h0.size ≤ b2_2 := Nat.le_trans K0.1 bz2_0
  have g_b2_2 : n0 ≤ b2_2 := Nat.le_trans Z0 sz_b2_2
  refine Gets.of st2 ?_
  show Gets p e below _ (T2.setTop (mkF m 9 #[.val (.ref ya1), .val (.int (1 : Int32))] [(.ref b2_2)]))
  refine Gets.retA X2 hx Bd.returns rfl rfl (hb hby d31_9) ?_ (by decide) (by decide)
  exact ⟨N2, K3, ⟨b2_2, k2_2, rfl, sz_b2_2, bf2_0, bf2_1, bf2_2⟩⟩
theorem w192 {Z : State} {a0 : Array Value} (hw : ∀ d ∈ tables_1, d.before a0 Z = true) : (Jvm.Cond.code ({ cls := "java/util/Arrays", name := "copyOf", desc := "([Ljava/lang/Object;I)[Ljava/lang/Object;" } : Jvm.MethodName) jdk_65_method_119_code (2 : Nat) (Option.some (Jvm.ClassFile.FieldType.array (Jvm.ClassFile.FieldType.object cn3)))).before a0 Z = true := hw _ (List.mem_of_getElem? (i := 192) rfl)
theorem pd__Ljava_lang_Object_I_Ljava_lang_Object_ : parseMethodDescriptor "([Ljava/lang/Object;I)[Ljava/lang/Object;" = some ⟨[(.array (.object "java/lang/Object")), .int], some (.array (.object "java/lang/Object"))⟩ := by decide +kernel
theorem w190 {Z : State} {a0 : Array Value} (hw : ∀ d ∈ tables_1, d.before a0 Z = true) : (Jvm.Cond.static ({ cls := "java/util/Arrays", name := "copyOf", desc := "([Ljava/lang/Object;I)[Ljava/lang/Object;" } : Jvm.MethodName)).before a0 Z = true := hw _ (List.mem_of_getElem? (i := 190) rfl)
theorem d30_11 : decode jdk_38_method_16_code 11 = .ok (.areturn, 1) := by decide +kernel
def Q_r49_toArray (Z : State) (ya1 : Addr) (ya2 : Addr) (yk3 : ClassId) (ymir : Addr) (ya4 : Addr) (h0 : Heap) (n0 : Nat) (v : Option Value) (h : Heap) (L : List Loc) : Prop := Fr n0 L ∧ Keep h0 h [] ∧ ((∃ (b2_2_3 : Addr) (k2_2_3 : ClassId), v = some (.ref b2_2_3) ∧ h0.size ≤ b2_2_3 ∧ Arv Z h b2_2_3 k2_2_3 (.object cn3) (1 : Int32) [(.ref ya4)] .null ∧ Exa Z h b2_2_3 cn6 ∧ Ovr Z k2_2_3 cn3))
set_option maxRecDepth 65536 in
set_option maxHeartbeats 40000000 in
theorem r49_toArray (l : Launch) (Z : State) (a0 : Array Value) (hw : ∀ d ∈ tables_1, d.before a0 Z = true) (ws : List Jvm.Cond) (ya1 : Addr) (ya2 : Addr) (yk3 : ClassId) (ymir : Addr) (ya4 : Addr) (h0 : Heap) (n0 : Nat) (O0 : Old Z n0 h0) (F0 : Fld Z h0 ya1 cn2 "elementData" cn6 (.ref ya2)) (F1 : Fld Z h0 ya1 cn2 "size" "I" (.int (1 : Int32))) (F2 : Ovr Z yk3 cn3) (F3 : Exa Z h0 ya2 cn6) (F4 : Arv Z h0 ya2 yk3 (.object cn3) (10 : Int32) [(.ref ya4), .null, .null, .null, .null, .null, .null, .null, .null, .null] .null) (F5 : Exa Z h0 ya4 cn5) (hy1 : Mir Z cn6 ymir) :
    MetFree l (⟨cn2, "toArray", cn15⟩ : MethodName) (head1 (Jvm.Cond.code (⟨cn2, "toArray", cn15⟩ : MethodName) jdk_38_method_16_code 1 (some (.array (.object cn3))) :: ws) ({ frames := 3, cells := 1, slots := 1, locals := 46 } : Room)) (fun a U => a = #[(.ref ya1)] ∧ Z.Warmed39 U.vm ∧ U.heap = h0) (fun _ _ _ _ _ => True) (fun _ U o U' => ∃ v L, o = .returned v ∧ Q_r49_toArray Z ya1 ya2 yk3 ymir ya4 h0 n0 v U'.heap L ∧ FrameEnd U o U' L ({ frames := 3, cells := 1, slots := 1, locals := 46 } : Room).cells ({ frames := 3, cells := 1, slots := 1, locals := 46 } : Room).slots) := by
  refine MetFree.of_bodySF (plainFor_of_name pn_java_util_ArrayList) hisR ?_
  intro p e s m args below meth c s₁ Bd hml0 hP hK
  obtain ⟨rfl, hZ, hh⟩ := hP
  have hx := Bd.exec
  have hby := Bd.bytes
  have hlk := Bd.notSynchronized
  have hml : c.maxLocals = 1 := hml0
  have hown : s.vm.findClass cn2 = some m.cls := findClass_of_methodNamed Bd.named
  have hnm := (name_of_methodNamed Bd.named Bd.method).1
  have X0 : Stand p l e ({ frames := 3, cells := 1, slots := 1, locals := 46 } : Room) s m #[(.ref ya1)] below meth c s₁ [] 0 0 := Stand.of_body Bd
  have e0 : s₁.heap = h0 := by rw [← hh, Bd.state]; rfl
  have N0 := Fr.nil n0
  have K0 := Keep.refl h0 []
  have Z0 : n0 ≤ h0.size := O0.1 ▸ O0.2.1
  have hef : entryFrame m #[(.ref ya1)] 1 = mkF m 0 #[.val (.ref ya1)] [] := by first | (simp [entryFrame, mkF, argsToLocals, Value.category]; done) | rfl
  rw [hef]
  refine Gets.out (Q := Q_r49_toArray Z ya1 ya2 yk3 ymir ya4 h0 n0) ?_
  show Gets p e below _ (s₁.setTop (mkF m 0 #[.val (.ref ya1)] []))
  refine Gets.of (fun t k => XS.aloadN X0.here hx rfl (hb hby d30_0) rfl rfl  k) ?_
  obtain ⟨T1, X1, e1, st1⟩ := getF X0 hx hZ hown (host := "") (Or.inl (w48 hw)) Via.refl e0 F0 (g := (mkF m 1 #[.val (.ref ya1)] [(.ref ya1)])) rfl rfl (hb hby d30_1)
  refine Gets.of st1 ?_
  show Gets p e below _ (T1.setTop (mkF m 4 #[.val (.ref ya1)] [(.ref ya2)]))
  refine Gets.of (fun t k => XS.aloadN X1.here hx rfl (hb hby d30_4) rfl rfl  k) ?_
  obtain ⟨T2, X2, e2, st2⟩ := getF X1 hx hZ hown (host := "") (Or.inl (w85 hw)) Via.refl e1 F1 (g := (mkF m 5 #[.val (.ref ya1)] [(.ref ya1), (.ref ya2)])) rfl rfl (hb hby d30_5)
  refine Gets.of st2 ?_
  show Gets p e below _ (T2.setTop (mkF m 8 #[.val (.ref ya1)] [(.int (1 : Int32)), (.ref ya2)]))
  obtain ⟨_, _, ⟨T3, L3, k3, n3⟩, -, X3, ⟨Lc3, hQ3, l3, y3, z3⟩, st3⟩ := Jvm.LawKit.callS X2 hx (y := (⟨"java/util/Arrays", "copyOf", "([Ljava/lang/Object;I)[Ljava/lang/Object;"⟩ : MethodName)) hown (mvT hZ (w189 hw)) (mvT hZ (w190 hw)) (mvT hZ (w191 hw)) (mvT hZ (w192 hw)) (by decide) (backOf (W := 0) (r50_copyOf l Z a0 hw [] ya2 ymir yk3 ya4 h0 n0 O0 F3 F2 F4 F5 hy1) hZ (w192 hw) (w191 hw) (by decide) (by decide)) (g := (mkF m 8 #[.val (.ref ya1)] [(.int (1 : Int32)), (.ref ya2)])) rfl (by rw [hml]; rfl) (argsL := [(.ref ya2), (.int (1 : Int32))]) (rest := []) (lenOf pd__Ljava_lang_Object_I_Ljava_lang_Object_ rfl) rfl (by show 2 * 0 + _ ≤ _; exact Nat.le_of_eq rfl) (hb hby d30_8) (fun _ _ => ⟨rfl, e2, (by decide : 0 + 1 ≤ _), (by decide : 0 + 1 ≤ _)⟩)
  dsimp only [Pt.U, Pt.locs, Pt.cells, Pt.slots] at X3 l3 y3 z3 st3 hQ3
  subst l3 y3 z3
  obtain ⟨Nq3, Kq3, hR3⟩ := hQ3
  have N3 := Fr.app N0 Nq3
  have K4 : Keep h0 _ [] := K0.trans Kq3 all0
  have O4 := O0.keep Kq3 all0
  obtain ⟨b2_2_3, k2_2_3, rfl, bz3_0, bf3_0, bf3_1, bf3_2⟩ := hR3
  have sz_b2_2_3 : h0.size ≤ b2_2_3 := Nat.le_trans K0.1 bz3_0
  have g_b2_2_3 : n0 ≤ b2_2_3 := Nat.le_trans Z0 sz_b2_2_3
  refine Gets.of st3 ?_
  show Gets p e below _ (T3.setTop (mkF m 11 #[.val (.ref ya1)] [(.ref b2_2_3)]))
  refine Gets.retA X3 hx Bd.returns rfl rfl (hb hby d30_11) ?_ (by decide) (by decide)
  exact ⟨N3, K4, ⟨b2_2_3, k2_2_3, rfl, sz_b2_2_3, bf3_0, bf3_1, bf3_2⟩⟩
theorem w188 {Z : State} {a0 : Array Value} (hw : ∀ d ∈ tables_1, d.before a0 Z = true) : (Jvm.Cond.code ({ cls := cn2, name := "toArray", desc := cn15 } : Jvm.MethodName) jdk_38_method_16_code (1 : Nat) (Option.some (Jvm.ClassFile.FieldType.array (Jvm.ClassFile.FieldType.object cn3)))).before a0 Z = true := hw _ (List.mem_of_getElem? (i := 188) rfl)
theorem w184 {Z : State} {a0 : Array Value} (hw : ∀ d ∈ tables_1, d.before a0 Z = true) : (Jvm.Cond.selects cn2 ({ cls := "java/util/Collection", name := "toArray", desc := cn15 } : Jvm.MethodName) ({ cls := cn2, name := "toArray", desc := cn15 } : Jvm.MethodName)).before a0 Z = true := hw _ (List.mem_of_getElem? (i := 184) rfl)
theorem w182 {Z : State} {a0 : Array Value} (hw : ∀ d ∈ tables_1, d.before a0 Z = true) : (Jvm.Cond.declares ({ cls := "java/util/Collection", name := "toArray", desc := cn15 } : Jvm.MethodName)).before a0 Z = true := hw _ (List.mem_of_getElem? (i := 182) rfl)
theorem w183 {Z : State} {a0 : Array Value} (hw : ∀ d ∈ tables_1, d.before a0 Z = true) : (Jvm.Cond.interfaceMethod "java/util/Collection" "java/util/Collection" "toArray" cn15).before a0 Z = true := hw _ (List.mem_of_getElem? (i := 183) rfl)
theorem w185 {Z : State} {a0 : Array Value} (hw : ∀ d ∈ tables_1, d.before a0 Z = true) : (Jvm.Cond.instanceMethod ({ cls := cn2, name := "toArray", desc := cn15 } : Jvm.MethodName)).before a0 Z = true := hw _ (List.mem_of_getElem? (i := 185) rfl)
theorem w186 {Z : State} {a0 : Array Value} (hw : ∀ d ∈ tables_1, d.before a0 Z = true) : (Jvm.Cond.publicMethod ({ cls := cn2, name := "toArray", desc := cn15 } : Jvm.MethodName)).before a0 Z = true := hw _ (List.mem_of_getElem? (i := 186) rfl)
theorem w187 {Z : State} {a0 : Array Value} (hw : ∀ d ∈ tables_1, d.before a0 Z = true) : (Jvm.Cond.unhidden cn2 "toArray" cn15).before a0 Z = true := hw _ (List.mem_of_getElem? (i := 187) rfl)
theorem d12_50 : decode jdk_56_method_3_code 50 = .ok (.invokestatic 34, 3) := by decide +kernel
theorem w211 {Z : State} {a0 : Array Value} (hw : ∀ d ∈ tables_1, d.before a0 Z = true) : (Jvm.Cond.methodLink cn9 (34 : Nat) ({ cls := "java/util/List", name := "of", desc := "([Ljava/lang/Object;)Ljava/util/List;" } : Jvm.MethodName)).before a0 Z = true := hw _ (List.mem_of_getElem? (i := 211) rfl)
theorem d34_0 : decode jdk_40_method_47_code 0 = .ok (.aload_n 0, 1) := by decide +kernel
theorem d34_1 : decode jdk_40_method_47_code 1 = .ok (.arraylength, 1) := by decide +kernel
theorem d34_2 : decode jdk_40_method_47_code 2 = .ok (.tableswitch 57 0 2 #[26, 32, 43], 26) := by decide +kernel
theorem d34_34 : decode jdk_40_method_47_code 34 = .ok (.new 96, 3) := by decide +kernel
theorem w214 {Z : State} {a0 : Array Value} (hw : ∀ d ∈ tables_1, d.before a0 Z = true) : (Jvm.Cond.classLink "java/util/List" (96 : Nat) cn7).before a0 Z = true := hw _ (List.mem_of_getElem? (i := 214) rfl)
theorem w216 {Z : State} {a0 : Array Value} (hw : ∀ d ∈ tables_1, d.before a0 Z = true) : (Jvm.Cond.initialized cn7).before a0 Z = true := hw _ (List.mem_of_getElem? (i := 216) rfl)
theorem w240 {Z : State} {a0 : Array Value} (hw : ∀ d ∈ tables_1, d.before a0 Z = true) : (Jvm.Cond.laysFinal cn7 cn7 "e0" cn11).before a0 Z = true := hw _ (List.mem_of_getElem? (i := 240) rfl)
theorem w243 {Z : State} {a0 : Array Value} (hw : ∀ d ∈ tables_1, d.before a0 Z = true) : (Jvm.Cond.laysFinal cn7 cn7 "e1" cn11).before a0 Z = true := hw _ (List.mem_of_getElem? (i := 243) rfl)
theorem d34_37 : decode jdk_40_method_47_code 37 = .ok (.dup, 1) := by decide +kernel
theorem d34_38 : decode jdk_40_method_47_code 38 = .ok (.aload_n 0, 1) := by decide +kernel
theorem d34_39 : decode jdk_40_method_47_code 39 = .ok (.iconst 0, 1) := by decide +kernel
theorem d34_40 : decode jdk_40_method_47_code 40 = .ok (.aaload, 1) := by decide +kernel
theorem d34_41 : decode jdk_40_method_47_code 41 = .ok (.invokespecial 98, 3) := by decide +kernel
theorem w217 {Z : State} {a0 : Array Value} (hw : ∀ d ∈ tables_1, d.before a0 Z = true) : (Jvm.Cond.methodLink "java/util/List" (98 : Nat) ({ cls := cn7, name := "<init>", desc := "(Ljava/lang/Object;)V" } : Jvm.MethodName)).before a0 Z = true := hw _ (List.mem_of_getElem? (i := 217) rfl)
theorem d35_0 : decode jdk_44_method_1_code 0 = .ok (.aload_n 0, 1) := by decide +kernel
theorem d35_1 : decode jdk_44_method_1_code 1 = .ok (.invokespecial 1, 3) := by decide +kernel
theorem w221 {Z : State} {a0 : Array Value} (hw : ∀ d ∈ tables_1, d.before a0 Z = true) : (Jvm.Cond.methodLink cn7 (1 : Nat) ({ cls := cn21, name := "<init>", desc := "()V" } : Jvm.MethodName)).before a0 Z = true := hw _ (List.mem_of_getElem? (i := 221) rfl)
theorem d36_0 : decode jdk_46_method_1_code 0 = .ok (.aload_n 0, 1) := by decide +kernel
theorem d36_1 : decode jdk_46_method_1_code 1 = .ok (.invokespecial 1, 3) := by decide +kernel
theorem w227 {Z : State} {a0 : Array Value} (hw : ∀ d ∈ tables_1, d.before a0 Z = true) : (Jvm.Cond.methodLink cn21 (1 : Nat) ({ cls := cn22, name := "<init>", desc := "()V" } : Jvm.MethodName)).before a0 Z = true := hw _ (List.mem_of_getElem? (i := 227) rfl)
theorem d37_0 : decode jdk_47_method_1_code 0 = .ok (.aload_n 0, 1) := by decide +kernel
theorem d37_1 : decode jdk_47_method_1_code 1 = .ok (.invokespecial 1, 3) := by decide +kernel
theorem w233 {Z : State} {a0 : Array Value} (hw : ∀ d ∈ tables_1, d.before a0 Z = true) : (Jvm.Cond.methodLink cn22 (1 : Nat) ({ cls := "java/util/AbstractCollection", name := "<init>", desc := "()V" } : Jvm.MethodName)).before a0 Z = true := hw _ (List.mem_of_getElem? (i := 233) rfl)
theorem d37_4 : decode jdk_47_method_1_code 4 = .ok (.return_, 1) := by decide +kernel
def Q_r56_init (Z : State) (ya1 : Addr) (h0 : Heap) (n0 : Nat) (v : Option Value) (h : Heap) (L : List Loc) : Prop := Fr n0 L ∧ h = h0 ∧ ((v = none))
theorem pn_java_util_ImmutableCollections_AbstractImmutableCollection : plainName "java/util/ImmutableCollections$AbstractImmutableCollection" = true := by first | (simp [plainName, overriddenIn]; done) | decide +kernel
set_option maxRecDepth 65536 in
set_option maxHeartbeats 40000000 in
theorem r56_init (l : Launch) (Z : State) (a0 : Array Value) (hw : ∀ d ∈ tables_1, d.before a0 Z = true) (ws : List Jvm.Cond) (ya1 : Addr) (h0 : Heap) (n0 : Nat) (O0 : Old Z n0 h0) :
    MetFree l (⟨cn22, "<init>", "()V"⟩ : MethodName) (head1 (Jvm.Cond.code (⟨cn22, "<init>", "()V"⟩ : MethodName) jdk_47_method_1_code 1 none :: ws) ({ frames := 2, cells := 0, slots := 0, locals := 24 } : Room)) (fun a U => a = #[(.ref ya1)] ∧ Z.Warmed39 U.vm ∧ U.heap = h0) (fun _ _ _ _ _ => True) (fun _ U o U' => ∃ v L, o = .returned v ∧ Q_r56_init Z ya1 h0 n0 v U'.heap L ∧ FrameEnd U o U' L ({ frames := 2, cells := 0, slots := 0, locals := 24 } : Room).cells ({ frames := 2, cells := 0, slots := 0, locals := 24 } : Room).slots) := by
  refine MetFree.of_bodySF (plainFor_of_name pn_java_util_ImmutableCollections_AbstractImmutableCollection) hisR ?_
  intro p e s m args below meth c s₁ Bd hml0 hP hK
  obtain ⟨rfl, hZ, hh⟩ := hP
  have hx := Bd.exec
  have hby := Bd.bytes
  have hlk := Bd.notSynchronized
  have hml : c.maxLocals = 1 := hml0
  have hown : s.vm.findClass cn22 = some m.cls := findClass_of_methodNamed Bd.named
  have hnm := (name_of_methodNamed Bd.named Bd.method).1
  have X0 : Stand p l e ({ frames := 2, cells := 0, slots := 0, locals := 24 } : Room) s m #[(.ref ya1)] below meth c s₁ [] 0 0 := Stand.of_body Bd
  have e0 : s₁.heap = h0 := by rw [← hh, Bd.state]; rfl
  have N0 := Fr.nil n0
  have K0 := Keep.refl h0 []
  have Z0 : n0 ≤ h0.size := O0.1 ▸ O0.2.1
  have hef : entryFrame m #[(.ref ya1)] 1 = mkF m 0 #[.val (.ref ya1)] [] := by first | (simp [entryFrame, mkF, argsToLocals, Value.category]; done) | rfl
  rw [hef]
  refine Gets.out (Q := Q_r56_init Z ya1 h0 n0) ?_
  show Gets p e below _ (s₁.setTop (mkF m 0 #[.val (.ref ya1)] []))
  refine Gets.of (fun t k => XS.aloadN X0.here hx rfl (hb hby d37_0) rfl rfl  k) ?_
  obtain ⟨_, _, ⟨T1, L1, k1, n1⟩, -, X1, ⟨Lc1, hQ1, l1, y1, z1⟩, st1⟩ := X0.specialBack hx (y := (⟨"java/util/AbstractCollection", "<init>", "()V"⟩ : MethodName)) rfl hown (mvT hZ (w233 hw)) (mvT hZ (w39 hw)) (mvT hZ (w43 hw)) (by decide) (backOf (W := 0) (r24_init l Z a0 hw [] ya1 h0 n0 O0) hZ (w43 hw) (w42 hw) (by decide) (by decide)) (g := (mkF m 1 #[.val (.ref ya1)] [(.ref ya1)])) rfl (by rw [hml]; rfl) (Steps.refl _) (a := ya1) (argsL := []) (rest := []) (lenOf pd__V rfl) rfl (by show 2 * 0 + _ ≤ _; exact Nat.le_of_eq rfl) (hb hby d37_1) (fun _ _ => ⟨rfl, e0, (by decide : 0 + 0 ≤ _), (by decide : 0 + 0 ≤ _)⟩)
  dsimp only [Pt.U, Pt.locs, Pt.cells, Pt.slots] at X1 l1 y1 z1 st1 hQ1
  subst l1 y1 z1
  obtain ⟨Nq1, eq1, hR1⟩ := hQ1
  have N1 := Fr.app N0 Nq1
  obtain rfl := hR1
  refine Gets.tr st1 ?_
  show Gets p e below _ (T1.setTop (mkF m 4 #[.val (.ref ya1)] []))
  refine Gets.retV X1 hx Bd.returns (hb hby d37_4) ?_ (by decide) (by decide)
  rw [eq1]
  exact ⟨N1, rfl, rfl⟩
theorem w232 {Z : State} {a0 : Array Value} (hw : ∀ d ∈ tables_1, d.before a0 Z = true) : (Jvm.Cond.code ({ cls := cn22, name := "<init>", desc := "()V" } : Jvm.MethodName) jdk_47_method_1_code (1 : Nat) (Option.none : Option Jvm.ClassFile.FieldType)).before a0 Z = true := hw _ (List.mem_of_getElem? (i := 232) rfl)
theorem w231 {Z : State} {a0 : Array Value} (hw : ∀ d ∈ tables_1, d.before a0 Z = true) : (Jvm.Cond.initialized cn22).before a0 Z = true := hw _ (List.mem_of_getElem? (i := 231) rfl)
theorem w228 {Z : State} {a0 : Array Value} (hw : ∀ d ∈ tables_1, d.before a0 Z = true) : (Jvm.Cond.instanceMethod ({ cls := cn22, name := "<init>", desc := "()V" } : Jvm.MethodName)).before a0 Z = true := hw _ (List.mem_of_getElem? (i := 228) rfl)
theorem d36_4 : decode jdk_46_method_1_code 4 = .ok (.return_, 1) := by decide +kernel
def Q_r55_init (Z : State) (ya1 : Addr) (h0 : Heap) (n0 : Nat) (v : Option Value) (h : Heap) (L : List Loc) : Prop := Fr n0 L ∧ h = h0 ∧ ((v = none))
theorem pn_java_util_ImmutableCollections_AbstractImmutableList : plainName "java/util/ImmutableCollections$AbstractImmutableList" = true := by first | (simp [plainName, overriddenIn]; done) | decide +kernel
set_option maxRecDepth 65536 in
set_option maxHeartbeats 40000000 in
theorem r55_init (l : Launch) (Z : State) (a0 : Array Value) (hw : ∀ d ∈ tables_1, d.before a0 Z = true) (ws : List Jvm.Cond) (ya1 : Addr) (h0 : Heap) (n0 : Nat) (O0 : Old Z n0 h0) :
    MetFree l (⟨cn21, "<init>", "()V"⟩ : MethodName) (head1 (Jvm.Cond.code (⟨cn21, "<init>", "()V"⟩ : MethodName) jdk_46_method_1_code 1 none :: ws) ({ frames := 3, cells := 0, slots := 0, locals := 36 } : Room)) (fun a U => a = #[(.ref ya1)] ∧ Z.Warmed39 U.vm ∧ U.heap = h0) (fun _ _ _ _ _ => True) (fun _ U o U' => ∃ v L, o = .returned v ∧ Q_r55_init Z ya1 h0 n0 v U'.heap L ∧ FrameEnd U o U' L ({ frames := 3, cells := 0, slots := 0, locals := 36 } : Room).cells ({ frames := 3, cells := 0, slots := 0, locals := 36 } : Room).slots) := by
  refine MetFree.of_bodySF (plainFor_of_name pn_java_util_ImmutableCollections_AbstractImmutableList) hisR ?_
  intro p e s m args below meth c s₁ Bd hml0 hP hK
  obtain ⟨rfl, hZ, hh⟩ := hP
  have hx := Bd.exec
  have hby := Bd.bytes
  have hlk := Bd.notSynchronized
  have hml : c.maxLocals = 1 := hml0
  have hown : s.vm.findClass cn21 = some m.cls := findClass_of_methodNamed Bd.named
  have hnm := (name_of_methodNamed Bd.named Bd.method).1
  have X0 : Stand p l e ({ frames := 3, cells := 0, slots := 0, locals := 36 } : Room) s m #[(.ref ya1)] below meth c s₁ [] 0 0 := Stand.of_body Bd
  have e0 : s₁.heap = h0 := by rw [← hh, Bd.state]; rfl
  have N0 := Fr.nil n0
  have K0 := Keep.refl h0 []
  have Z0 : n0 ≤ h0.size := O0.1 ▸ O0.2.1
  have hef : entryFrame m #[(.ref ya1)] 1 = mkF m 0 #[.val (.ref ya1)] [] := by first | (simp [entryFrame, mkF, argsToLocals, Value.category]; done) | rfl
  rw [hef]
  refine Gets.out (Q := Q_r55_init Z ya1 h0 n0) ?_
  show Gets p e below _ (s₁.setTop (mkF m 0 #[.val (.ref ya1)] []))
  refine Gets.of (fun t k => XS.aloadN X0.here hx rfl (hb hby d36_0) rfl rfl  k) ?_
  obtain ⟨_, _, ⟨T1, L1, k1, n1⟩, -, X1, ⟨Lc1, hQ1, l1, y1, z1⟩, st1⟩ := X0.specialBack hx (y := (⟨cn22, "<init>", "()V"⟩ : MethodName)) rfl hown (mvT hZ (w227 hw)) (mvT hZ (w228 hw)) (mvT hZ (w232 hw)) (by decide) (backOf (W := 0) (r56_init l Z a0 hw [] ya1 h0 n0 O0) hZ (w232 hw) (w231 hw) (by decide) (by decide)) (g := (mkF m 1 #[.val (.ref ya1)] [(.ref ya1)])) rfl (by rw [hml]; rfl) (Steps.refl _) (a := ya1) (argsL := []) (rest := []) (lenOf pd__V rfl) rfl (by show 2 * 0 + _ ≤ _; exact Nat.le_of_eq rfl) (hb hby d36_1) (fun _ _ => ⟨rfl, e0, (by decide : 0 + 0 ≤ _), (by decide : 0 + 0 ≤ _)⟩)
  dsimp only [Pt.U, Pt.locs, Pt.cells, Pt.slots] at X1 l1 y1 z1 st1 hQ1
  subst l1 y1 z1
  obtain ⟨Nq1, eq1, hR1⟩ := hQ1
  have N1 := Fr.app N0 Nq1
  obtain rfl := hR1
  refine Gets.tr st1 ?_
  show Gets p e below _ (T1.setTop (mkF m 4 #[.val (.ref ya1)] []))
  refine Gets.retV X1 hx Bd.returns (hb hby d36_4) ?_ (by decide) (by decide)
  rw [eq1]
  exact ⟨N1, rfl, rfl⟩
theorem w226 {Z : State} {a0 : Array Value} (hw : ∀ d ∈ tables_1, d.before a0 Z = true) : (Jvm.Cond.code ({ cls := cn21, name := "<init>", desc := "()V" } : Jvm.MethodName) jdk_46_method_1_code (1 : Nat) (Option.none : Option Jvm.ClassFile.FieldType)).before a0 Z = true := hw _ (List.mem_of_getElem? (i := 226) rfl)
theorem w225 {Z : State} {a0 : Array Value} (hw : ∀ d ∈ tables_1, d.before a0 Z = true) : (Jvm.Cond.initialized cn21).before a0 Z = true := hw _ (List.mem_of_getElem? (i := 225) rfl)
theorem w222 {Z : State} {a0 : Array Value} (hw : ∀ d ∈ tables_1, d.before a0 Z = true) : (Jvm.Cond.instanceMethod ({ cls := cn21, name := "<init>", desc := "()V" } : Jvm.MethodName)).before a0 Z = true := hw _ (List.mem_of_getElem? (i := 222) rfl)
theorem d35_4 : decode jdk_44_method_1_code 4 = .ok (.aload_n 0, 1) := by decide +kernel
theorem d35_5 : decode jdk_44_method_1_code 5 = .ok (.aload_n 1, 1) := by decide +kernel
theorem d35_6 : decode jdk_44_method_1_code 6 = .ok (.invokestatic 7, 3) := by decide +kernel
theorem w235 {Z : State} {a0 : Array Value} (hw : ∀ d ∈ tables_1, d.before a0 Z = true) : (Jvm.Cond.methodLink cn7 (7 : Nat) ({ cls := "java/util/Objects", name := "requireNonNull", desc := "(Ljava/lang/Object;)Ljava/lang/Object;" } : Jvm.MethodName)).before a0 Z = true := hw _ (List.mem_of_getElem? (i := 235) rfl)
theorem d38_0 : decode jdk_31_method_10_code 0 = .ok (.aload_n 0, 1) := by decide +kernel
theorem d38_1 : decode jdk_31_method_10_code 1 = .ok (.ifnonnull 11, 3) := by decide +kernel
theorem d38_12 : decode jdk_31_method_10_code 12 = .ok (.aload_n 0, 1) := by decide +kernel
theorem d38_13 : decode jdk_31_method_10_code 13 = .ok (.areturn, 1) := by decide +kernel
def Q_r57_requireNonNull (Z : State) (ya1 : Addr) (h0 : Heap) (n0 : Nat) (v : Option Value) (h : Heap) (L : List Loc) : Prop := Fr n0 L ∧ h = h0 ∧ ((v = some (.ref ya1)))
theorem pn_java_util_Objects : plainName "java/util/Objects" = true := by first | (simp [plainName, overriddenIn]; done) | decide +kernel
set_option maxRecDepth 65536 in
set_option maxHeartbeats 40000000 in
theorem r57_requireNonNull (l : Launch) (Z : State) (a0 : Array Value) (hw : ∀ d ∈ tables_1, d.before a0 Z = true) (ws : List Jvm.Cond) (ya1 : Addr) (h0 : Heap) (n0 : Nat) (O0 : Old Z n0 h0) :
    MetFree l (⟨"java/util/Objects", "requireNonNull", "(Ljava/lang/Object;)Ljava/lang/Object;"⟩ : MethodName) (head1 (Jvm.Cond.code (⟨"java/util/Objects", "requireNonNull", "(Ljava/lang/Object;)Ljava/lang/Object;"⟩ : MethodName) jdk_31_method_10_code 1 (some (.object cn3)) :: ws) ({ frames := 0, cells := 0, slots := 0, locals := 0 } : Room)) (fun a U => a = #[(.ref ya1)] ∧ Z.Warmed39 U.vm ∧ U.heap = h0) (fun _ _ _ _ _ => True) (fun _ U o U' => ∃ v L, o = .returned v ∧ Q_r57_requireNonNull Z ya1 h0 n0 v U'.heap L ∧ FrameEnd U o U' L ({ frames := 0, cells := 0, slots := 0, locals := 0 } : Room).cells ({ frames := 0, cells := 0, slots := 0, locals := 0 } : Room).slots) := by
  refine MetFree.of_bodySF (plainFor_of_name pn_java_util_Objects) hisR ?_
  intro p e s m args below meth c s₁ Bd hml0 hP hK
  obtain ⟨rfl, hZ, hh⟩ := hP
  have hx := Bd.exec
  have hby := Bd.bytes
  have hlk := Bd.notSynchronized
  have hml : c.maxLocals = 1 := hml0
  have hown : s.vm.findClass "java/util/Objects" = some m.cls := findClass_of_methodNamed Bd.named
  have hnm := (name_of_methodNamed Bd.named Bd.method).1
  have X0 : Stand p l e ({ frames := 0, cells := 0, slots := 0, locals := 0 } : Room) s m #[(.ref ya1)] below meth c s₁ [] 0 0 := Stand.of_body Bd
  have e0 : s₁.heap = h0 := by rw [← hh, Bd.state]; rfl
  have N0 := Fr.nil n0
  have K0 := Keep.refl h0 []
  have Z0 : n0 ≤ h0.size := O0.1 ▸ O0.2.1
  have hef : entryFrame m #[(.ref ya1)] 1 = mkF m 0 #[.val (.ref ya1)] [] := by first | (simp [entryFrame, mkF, argsToLocals, Value.category]; done) | rfl
  rw [hef]
  refine Gets.out (Q := Q_r57_requireNonNull Z ya1 h0 n0) ?_
  show Gets p e below _ (s₁.setTop (mkF m 0 #[.val (.ref ya1)] []))
  refine Gets.of (fun t k => XS.aloadN X0.here hx rfl (hb hby d38_0) rfl rfl  k) ?_
  refine Gets.of (fun t k => XS.ifnonnullYes X0.here hx rfl (pc0 := 1) (pc' := 12) rfl (hb hby d38_1) rfl (by decide) (by decide) k) ?_
  show Gets p e below _ (s₁.setTop (mkF m 12 #[.val (.ref ya1)] []))
  refine Gets.of (fun t k => XS.aloadN X0.here hx rfl (hb hby d38_12) rfl rfl  k) ?_
  refine Gets.retA X0 hx Bd.returns rfl rfl (hb hby d38_13) ?_ (by decide) (by decide)
  rw [e0]
  exact ⟨N0, rfl, rfl⟩
theorem w238 {Z : State} {a0 : Array Value} (hw : ∀ d ∈ tables_1, d.before a0 Z = true) : (Jvm.Cond.code ({ cls := "java/util/Objects", name := "requireNonNull", desc := "(Ljava/lang/Object;)Ljava/lang/Object;" } : Jvm.MethodName) jdk_31_method_10_code (1 : Nat) (Option.some (Jvm.ClassFile.FieldType.object cn3))).before a0 Z = true := hw _ (List.mem_of_getElem? (i := 238) rfl)
theorem w237 {Z : State} {a0 : Array Value} (hw : ∀ d ∈ tables_1, d.before a0 Z = true) : (Jvm.Cond.initialized "java/util/Objects").before a0 Z = true := hw _ (List.mem_of_getElem? (i := 237) rfl)
theorem pd__Ljava_lang_Object_Ljava_lang_Object_ : parseMethodDescriptor "(Ljava/lang/Object;)Ljava/lang/Object;" = some ⟨[(.object "java/lang/Object")], some (.object "java/lang/Object")⟩ := by decide +kernel
theorem w236 {Z : State} {a0 : Array Value} (hw : ∀ d ∈ tables_1, d.before a0 Z = true) : (Jvm.Cond.static ({ cls := "java/util/Objects", name := "requireNonNull", desc := "(Ljava/lang/Object;)Ljava/lang/Object;" } : Jvm.MethodName)).before a0 Z = true := hw _ (List.mem_of_getElem? (i := 236) rfl)
theorem d35_9 : decode jdk_44_method_1_code 9 = .ok (.putfield 13, 3) := by decide +kernel
theorem w239 {Z : State} {a0 : Array Value} (hw : ∀ d ∈ tables_1, d.before a0 Z = true) : (Jvm.Cond.fieldLink cn7 (13 : Nat) cn7 "e0" cn11).before a0 Z = true := hw _ (List.mem_of_getElem? (i := 239) rfl)
theorem d35_12 : decode jdk_44_method_1_code 12 = .ok (.aload_n 0, 1) := by decide +kernel
theorem d35_13 : decode jdk_44_method_1_code 13 = .ok (.getstatic 19, 3) := by decide +kernel
theorem w241 {Z : State} {a0 : Array Value} (hw : ∀ d ∈ tables_1, d.before a0 Z = true) : (Jvm.Cond.fieldLinkNest cn7 (19 : Nat) cn9 "EMPTY" cn11 cn9).before a0 Z = true := hw _ (List.mem_of_getElem? (i := 241) rfl)
theorem d35_16 : decode jdk_44_method_1_code 16 = .ok (.putfield 24, 3) := by decide +kernel
theorem w242 {Z : State} {a0 : Array Value} (hw : ∀ d ∈ tables_1, d.before a0 Z = true) : (Jvm.Cond.fieldLink cn7 (24 : Nat) cn7 "e1" cn11).before a0 Z = true := hw _ (List.mem_of_getElem? (i := 242) rfl)
theorem d35_19 : decode jdk_44_method_1_code 19 = .ok (.return_, 1) := by decide +kernel
def Q_r54_init (Z : State) (ya1 : Addr) (ya2 : Addr) (ov20 : Addr) (h0 : Heap) (n0 : Nat) (v : Option Value) (h : Heap) (L : List Loc) : Prop := Fr n0 L ∧ Keep h0 h [ya1] ∧ ((v = none ∧ Fld Z h ya1 cn7 "e0" cn11 (.ref ya2) ∧ Fld Z h ya1 cn7 "e1" cn11 (.ref ov20)))
theorem pn_java_util_ImmutableCollections_List12 : plainName "java/util/ImmutableCollections$List12" = true := by first | (simp [plainName, overriddenIn]; done) | decide +kernel
set_option maxRecDepth 65536 in
set_option maxHeartbeats 40000000 in
theorem r54_init (l : Launch) (Z : State) (a0 : Array Value) (hw : ∀ d ∈ tables_1, d.before a0 Z = true) (ws : List Jvm.Cond) (ya1 : Addr) (ya2 : Addr) (ov20 : Addr) (h0 : Heap) (n0 : Nat) (O0 : Old Z n0 h0) (F0 : Exa Z h0 ya1 cn7) (F1 : Fld Z h0 ya1 cn7 "e0" cn11 .null) (F2 : Fld Z h0 ya1 cn7 "e1" cn11 .null) (oS22 : Sta Z Z.heap cn9 "EMPTY" cn11 (.ref ov20)) (gq_ya1 : n0 ≤ ya1) :
    MetFree l (⟨cn7, "<init>", "(Ljava/lang/Object;)V"⟩ : MethodName) (head1 (Jvm.Cond.code (⟨cn7, "<init>", "(Ljava/lang/Object;)V"⟩ : MethodName) jdk_44_method_1_code 2 none :: ws) ({ frames := 4, cells := 0, slots := 0, locals := 48 } : Room)) (fun a U => a = #[(.ref ya1), (.ref ya2)] ∧ Z.Warmed39 U.vm ∧ U.heap = h0) (fun _ _ _ _ _ => True) (fun _ U o U' => ∃ v L, o = .returned v ∧ Q_r54_init Z ya1 ya2 ov20 h0 n0 v U'.heap L ∧ FrameEnd U o U' L ({ frames := 4, cells := 0, slots := 0, locals := 48 } : Room).cells ({ frames := 4, cells := 0, slots := 0, locals := 48 } : Room).slots) := by
  refine MetFree.of_bodySF (plainFor_of_name pn_java_util_ImmutableCollections_List12) hisR ?_
  intro p e s m args below meth c s₁ Bd hml0 hP hK
  obtain ⟨rfl, hZ, hh⟩ := hP
  have hx := Bd.exec
  have hby := Bd.bytes
  have hlk := Bd.notSynchronized
  have hml : c.maxLocals = 2 := hml0
  have hown : s.vm.findClass cn7 = some m.cls := findClass_of_methodNamed Bd.named
  have hnm := (name_of_methodNamed Bd.named Bd.method).1
  have X0 : Stand p l e ({ frames := 4, cells := 0, slots := 0, locals := 48 } : Room) s m #[(.ref ya1), (.ref ya2)] below meth c s₁ [] 0 0 := Stand.of_body Bd
  have e0 : s₁.heap = h0 := by rw [← hh, Bd.state]; rfl
  have N0 := Fr.nil n0
  have K0 := Keep.refl h0 [ya1]
  have Z0 : n0 ≤ h0.size := O0.1 ▸ O0.2.1
  have hef : entryFrame m #[(.ref ya1), (.ref ya2)] 2 = mkF m 0 #[.val (.ref ya1), .val (.ref ya2)] [] := by first | (simp [entryFrame, mkF, argsToLocals, Value.category]; done) | rfl
  rw [hef]
  refine Gets.out (Q := Q_r54_init Z ya1 ya2 ov20 h0 n0) ?_
  show Gets p e below _ (s₁.setTop (mkF m 0 #[.val (.ref ya1), .val (.ref ya2)] []))
  refine Gets.of (fun t k => XS.aloadN X0.here hx rfl (hb hby d35_0) rfl rfl  k) ?_
  obtain ⟨_, _, ⟨T1, L1, k1, n1⟩, -, X1, ⟨Lc1, hQ1, l1, y1, z1⟩, st1⟩ := X0.specialBack hx (y := (⟨cn21, "<init>", "()V"⟩ : MethodName)) rfl hown (mvT hZ (w221 hw)) (mvT hZ (w222 hw)) (mvT hZ (w226 hw)) (by decide) (backOf (W := 0) (r55_init l Z a0 hw [] ya1 h0 n0 O0) hZ (w226 hw) (w225 hw) (by decide) (by decide)) (g := (mkF m 1 #[.val (.ref ya1), .val (.ref ya2)] [(.ref ya1)])) rfl (by rw [hml]; rfl) (Steps.refl _) (a := ya1) (argsL := []) (rest := []) (lenOf pd__V rfl) rfl (by show 2 * 0 + _ ≤ _; exact Nat.le_of_eq rfl) (hb hby d35_1) (fun _ _ => ⟨rfl, e0, (by decide : 0 + 0 ≤ _), (by decide : 0 + 0 ≤ _)⟩)
  dsimp only [Pt.U, Pt.locs, Pt.cells, Pt.slots] at X1 l1 y1 z1 st1 hQ1
  subst l1 y1 z1
  obtain ⟨Nq1, eq1, hR1⟩ := hQ1
  have N1 := Fr.app N0 Nq1
  obtain rfl := hR1
  refine Gets.tr st1 ?_
  show Gets p e below _ (T1.setTop (mkF m 4 #[.val (.ref ya1), .val (.ref ya2)] []))
  refine Gets.of (fun t k => XS.aloadN X1.here hx rfl (hb hby d35_4) rfl rfl  k) ?_
  refine Gets.of (fun t k => XS.aloadN X1.here hx rfl (hb hby d35_5) rfl rfl  k) ?_
  obtain ⟨_, _, ⟨T2, L2, k2, n2⟩, -, X2, ⟨Lc2, hQ2, l2, y2, z2⟩, st2⟩ := Jvm.LawKit.callS X1 hx (y := (⟨"java/util/Objects", "requireNonNull", "(Ljava/lang/Object;)Ljava/lang/Object;"⟩ : MethodName)) hown (mvT hZ (w235 hw)) (mvT hZ (w236 hw)) (mvT hZ (w237 hw)) (mvT hZ (w238 hw)) (by decide) (backOf (W := 1) (r57_requireNonNull l Z a0 hw [] ya2 h0 n0 O0) hZ (w238 hw) (w237 hw) (by decide) (by decide)) (g := (mkF m 6 #[.val (.ref ya1), .val (.ref ya2)] [(.ref ya2), (.ref ya1)])) rfl (by rw [hml]; rfl) (argsL := [(.ref ya2)]) (rest := [(.ref ya1)]) (lenOf pd__Ljava_lang_Object_Ljava_lang_Object_ rfl) rfl (by show 2 * 0 + _ ≤ _; exact Nat.le_of_eq rfl) (hb hby d35_6) (fun _ _ => ⟨rfl, eq1, (by decide : 0 + 0 ≤ _), (by decide : 0 + 0 ≤ _)⟩)
  dsimp only [Pt.U, Pt.locs, Pt.cells, Pt.slots] at X2 l2 y2 z2 st2 hQ2
  subst l2 y2 z2
  obtain ⟨Nq2, eq2, hR2⟩ := hQ2
  have N2 := Fr.app N1 Nq2
  obtain rfl := hR2
  refine Gets.of st2 ?_
  show Gets p e below _ (T2.setTop (mkF m 9 #[.val (.ref ya1), .val (.ref ya2)] [(.ref ya2), (.ref ya1)]))
  obtain ⟨T3, h3, X3, e3, W3, st3⟩ := putF X2 hx hZ hown (host := "") (Or.inl (w239 hw)) Via.refl eq2 F1 F0 (Or.inr ⟨(w240 hw), rfl, hnm⟩) (w215 hw) (ty := (.object cn3)) (by decide) rfl rfl (g := (mkF m 9 #[.val (.ref ya1), .val (.ref ya2)] [(.ref ya2), (.ref ya1)])) rfl rfl (hb hby d35_9)
  have N3 := Fr.snoc X3 N2 gq_ya1
  have Fw3 : Fld Z h3 ya1 cn7 "e0" cn11 (.ref ya2) := (F1).same W3
  have K4 : Keep h0 _ [ya1] := K0.wr W3 (Or.inl (by simp))
  have O4 := O0.wr W3 gq_ya1
  refine Gets.of st3 ?_
  show Gets p e below _ (T3.setTop (mkF m 12 #[.val (.ref ya1), .val (.ref ya2)] []))
  refine Gets.of (fun t k => XS.aloadN X3.here hx rfl (hb hby d35_12) rfl rfl  k) ?_
  obtain ⟨T5, X5, e5, st5⟩ := getS2 X3 hx hZ hown (Or.inr (w241 hw)) Via.refl e3 (oS22.ext O4.2) (g := (mkF m 13 #[.val (.ref ya1), .val (.ref ya2)] [(.ref ya1)])) rfl (hb hby d35_13)
  refine Gets.of st5 ?_
  show Gets p e below _ (T5.setTop (mkF m 16 #[.val (.ref ya1), .val (.ref ya2)] [(.ref ov20), (.ref ya1)]))
  have f6 : Exa Z h3 ya1 cn7 := (F0.wr W3)
  have f7 : Fld Z h3 ya1 cn7 "e1" cn11 .null := (F2.other W3 (Or.inr (slot_ne (Or.inr (w243 hw)) (Or.inr (w240 hw)) (by decide) (t := (.object cn3)) (t' := (.object cn3)) (by decide) (by decide))))
  obtain ⟨T8, h8, X8, e8, W8, st8⟩ := putF X5 hx hZ hown (host := "") (Or.inl (w242 hw)) Via.refl e5 f7 f6 (Or.inr ⟨(w243 hw), rfl, hnm⟩) (w215 hw) (ty := (.object cn3)) (by decide) rfl rfl (g := (mkF m 16 #[.val (.ref ya1), .val (.ref ya2)] [(.ref ov20), (.ref ya1)])) rfl rfl (hb hby d35_16)
  have N8 := Fr.snoc X8 N3 gq_ya1
  have Fw8 : Fld Z h8 ya1 cn7 "e1" cn11 (.ref ov20) := (f7).same W8
  have K9 : Keep h0 _ [ya1] := K4.wr W8 (Or.inl (by simp))
  have O9 := O4.wr W8 gq_ya1
  refine Gets.of st8 ?_
  show Gets p e below _ (T8.setTop (mkF m 19 #[.val (.ref ya1), .val (.ref ya2)] []))
  refine Gets.retV X8 hx Bd.returns (hb hby d35_19) ?_ (by decide) (by decide)
  rw [e8]
  have f10 : Fld Z h8 ya1 cn7 "e0" cn11 (.ref ya2) := (Fw3.other W8 (Or.inr (slot_ne (Or.inr (w240 hw)) (Or.inr (w243 hw)) (by decide) (t := (.object cn3)) (t' := (.object cn3)) (by decide) (by decide))))
  exact ⟨N8, K9, ⟨rfl, f10, Fw8⟩⟩
theorem w220 {Z : State} {a0 : Array Value} (hw : ∀ d ∈ tables_1, d.before a0 Z = true) : (Jvm.Cond.code ({ cls := cn7, name := "<init>", desc := "(Ljava/lang/Object;)V" } : Jvm.MethodName) jdk_44_method_1_code (2 : Nat) (Option.none : Option Jvm.ClassFile.FieldType)).before a0 Z = true := hw _ (List.mem_of_getElem? (i := 220) rfl)
theorem pd__Ljava_lang_Object_V : parseMethodDescriptor "(Ljava/lang/Object;)V" = some ⟨[(.object "java/lang/Object")], none⟩ := by decide +kernel
theorem w218 {Z : State} {a0 : Array Value} (hw : ∀ d ∈ tables_1, d.before a0 Z = true) : (Jvm.Cond.instanceMethod ({ cls := cn7, name := "<init>", desc := "(Ljava/lang/Object;)V" } : Jvm.MethodName)).before a0 Z = true := hw _ (List.mem_of_getElem? (i := 218) rfl)
theorem d34_44 : decode jdk_40_method_47_code 44 = .ok (.areturn, 1) := by decide +kernel
def Q_r53_of (Z : State) (ya1 : Addr) (yk2 : ClassId) (ya3 : Addr) (ov20 : Addr) (h0 : Heap) (n0 : Nat) (v : Option Value) (h : Heap) (L : List Loc) : Prop := Fr n0 L ∧ Keep h0 h [] ∧ ((∃ (b2 : Addr), v = some (.ref b2) ∧ h0.size ≤ b2 ∧ Exa Z h b2 cn7 ∧ Fld Z h b2 cn7 "e0" cn11 (.ref ya3) ∧ Fld Z h b2 cn7 "e1" cn11 (.ref ov20)))
set_option maxRecDepth 65536 in
set_option maxHeartbeats 40000000 in
theorem r53_of (l : Launch) (Z : State) (a0 : Array Value) (hw : ∀ d ∈ tables_1, d.before a0 Z = true) (ws : List Jvm.Cond) (ya1 : Addr) (yk2 : ClassId) (ya3 : Addr) (ov20 : Addr) (h0 : Heap) (n0 : Nat) (O0 : Old Z n0 h0) (F0 : Arv Z h0 ya1 yk2 (.object cn3) (1 : Int32) [(.ref ya3)] .null) (oS22 : Sta Z Z.heap cn9 "EMPTY" cn11 (.ref ov20)) :
    MetFree l (⟨"java/util/List", "of", "([Ljava/lang/Object;)Ljava/util/List;"⟩ : MethodName) (head1 (Jvm.Cond.code (⟨"java/util/List", "of", "([Ljava/lang/Object;)Ljava/util/List;"⟩ : MethodName) jdk_40_method_47_code 2 (some (.object "java/util/List")) :: ws) ({ frames := 5, cells := 1, slots := 2, locals := 62 } : Room)) (fun a U => a = #[(.ref ya1)] ∧ Z.Warmed39 U.vm ∧ U.heap = h0) (fun _ _ _ _ _ => True) (fun _ U o U' => ∃ v L, o = .returned v ∧ Q_r53_of Z ya1 yk2 ya3 ov20 h0 n0 v U'.heap L ∧ FrameEnd U o U' L ({ frames := 5, cells := 1, slots := 2, locals := 62 } : Room).cells ({ frames := 5, cells := 1, slots := 2, locals := 62 } : Room).slots) := by
  refine MetFree.of_bodySF (plainFor_of_name pn_java_util_List) hisR ?_
  intro p e s m args below meth c s₁ Bd hml0 hP hK
  obtain ⟨rfl, hZ, hh⟩ := hP
  have hx := Bd.exec
  have hby := Bd.bytes
  have hlk := Bd.notSynchronized
  have hml : c.maxLocals = 2 := hml0
  have hown : s.vm.findClass "java/util/List" = some m.cls := findClass_of_methodNamed Bd.named
  have hnm := (name_of_methodNamed Bd.named Bd.method).1
  have X0 : Stand p l e ({ frames := 5, cells := 1, slots := 2, locals := 62 } : Room) s m #[(.ref ya1)] below meth c s₁ [] 0 0 := Stand.of_body Bd
  have e0 : s₁.heap = h0 := by rw [← hh, Bd.state]; rfl
  have N0 := Fr.nil n0
  have K0 := Keep.refl h0 []
  have Z0 : n0 ≤ h0.size := O0.1 ▸ O0.2.1
  have hef : entryFrame m #[(.ref ya1)] 2 = mkF m 0 #[.val (.ref ya1), .unset] [] := by first | (simp [entryFrame, mkF, argsToLocals, Value.category]; done) | rfl
  rw [hef]
  refine Gets.out (Q := Q_r53_of Z ya1 yk2 ya3 ov20 h0 n0) ?_
  show Gets p e below _ (s₁.setTop (mkF m 0 #[.val (.ref ya1), .unset] []))
  refine Gets.of (fun t k => XS.aloadN X0.here hx rfl (hb hby d34_0) rfl rfl  k) ?_
  obtain ⟨cl1, Ar1, -, S1, N_1, -, -⟩ := id (F0)
  refine Gets.of (X0.arraylength hx (by rw [e0]; exact Ar1.1) (State.isArrayOf_alike hZ.alike Ar1.2.1) (g := (mkF m 1 #[.val (.ref ya1), .unset] [(.ref ya1)])) rfl rfl (hb hby d34_1)) ?_
  rw [len_of S1 N_1]
  show Gets p e below _ (s₁.setTop (mkF m 2 #[.val (.ref ya1), .unset] [(.int (1 : Int32))]))
  refine Gets.of (fun t k => XS.tswIn X0.here hx rfl (pc0 := 2) (pc' := 34) rfl (hb hby d34_2) rfl (by decide) rfl (by decide) (by decide) k) ?_
  show Gets p e below _ (s₁.setTop (mkF m 34 #[.val (.ref ya1), .unset] []))
  obtain ⟨T2, h2, X2, e2, E2, A2, D2, -, st2⟩ := newO X0 hx hZ hown (w214 hw) (w215 hw) (w216 hw) e0 (g := (mkF m 34 #[.val (.ref ya1), .unset] [])) rfl (hb hby d34_34) (by decide) (by decide)
  obtain ⟨b2, g2⟩ : ∃ z, z = h0.size := ⟨_, rfl⟩
  rw [← g2] at A2 D2 st2
  have sz_b2 : h0.size ≤ b2 := Nat.le_trans K0.1 (Nat.le_of_eq g2.symm)
  have g_b2 : n0 ≤ b2 := Nat.le_trans Z0 sz_b2
  have K3 := K0.ext E2
  have O3 := O0.ext E2
  have F2_240 : Fld Z h2 b2 cn7 "e0" cn11 .null := D2 (Or.inr (w240 hw)) (ty := (.object cn3)) (by decide)
  have F2_243 : Fld Z h2 b2 cn7 "e1" cn11 .null := D2 (Or.inr (w243 hw)) (ty := (.object cn3)) (by decide)
  refine Gets.of st2 ?_
  show Gets p e below _ (T2.setTop (mkF m 37 #[.val (.ref ya1), .unset] [(.ref b2)]))
  refine Gets.of (fun t k => XS.dup X2.here hx rfl (hb hby d34_37) rfl rfl k) ?_
  refine Gets.of (fun t k => XS.aloadN X2.here hx rfl (hb hby d34_38) rfl rfl  k) ?_
  refine Gets.of (fun t k => XS.iconst X2.here hx rfl (hb hby d34_39) k) ?_
  have f4 : Arv Z h2 ya1 yk2 (.object cn3) (1 : Int32) [(.ref ya3)] .null := (F0.ext E2)
  obtain ⟨cl5, Ar5, q5, S5, N_5, H5, G5⟩ := id (f4)
  have hin5 : ¬ ((0 : Int32) < 0 ∨ cl5.slots.size ≤ ((0 : Int32)).toNatClampNeg) := inb_of S5 ⟨by decide, by decide⟩
  refine Gets.of (fun t k => X2.aaload hx (j := (0 : Int32)) (v := (.ref ya3)) (by rw [e2]; exact Ar5.1) (State.isArrayOf_alike hZ.alike Ar5.2.1) rfl Ar5.2.2 hin5 (Has.at H5 hin5 rfl) (g := (mkF m 40 #[.val (.ref ya1), .unset] [(.int (0 : Int32)), (.ref ya1), (.ref b2), (.ref b2)])) rfl rfl (hb hby d34_40) t k) ?_
  show Gets p e below _ (T2.setTop (mkF m 41 #[.val (.ref ya1), .unset] [(.ref ya3), (.ref b2), (.ref b2)]))
  obtain ⟨_, _, ⟨T6, L6, k6, n6⟩, -, X6, ⟨Lc6, hQ6, l6, y6, z6⟩, st6⟩ := X2.specialBack hx (y := (⟨cn7, "<init>", "(Ljava/lang/Object;)V"⟩ : MethodName)) rfl hown (mvT hZ (w217 hw)) (mvT hZ (w218 hw)) (mvT hZ (w220 hw)) (by decide) (backOf (W := 1) (r54_init l Z a0 hw [] b2 ya3 ov20 h2 n0 O3 A2 F2_240 F2_243 oS22 g_b2) hZ (w220 hw) (w216 hw) (by decide) (by decide)) (g := (mkF m 41 #[.val (.ref ya1), .unset] [(.ref ya3), (.ref b2), (.ref b2)])) rfl (by rw [hml]; rfl) (Steps.refl _) (a := b2) (argsL := [(.ref ya3)]) (rest := [(.ref b2)]) (lenOf pd__Ljava_lang_Object_V rfl) rfl (by show 2 * 0 + _ ≤ _; exact Nat.le_of_eq rfl) (hb hby d34_41) (fun _ _ => ⟨rfl, e2, (by decide : 1 + 0 ≤ _), (by decide : 2 + 0 ≤ _)⟩)
  dsimp only [Pt.U, Pt.locs, Pt.cells, Pt.slots] at X6 l6 y6 z6 st6 hQ6
  subst l6 y6 z6
  obtain ⟨Nq6, Kq6, hR6⟩ := hQ6
  have N6 := Fr.app N0 Nq6
  have K7 : Keep h0 _ [] := K3.trans Kq6 (allS (Or.inr sz_b2) all0)
  have O7 := O3.keep Kq6 (allS g_b2 all0)
  obtain ⟨rfl, bf6_0, bf6_1⟩ := hR6
  refine Gets.tr st6 ?_
  show Gets p e below _ (T6.setTop (mkF m 44 #[.val (.ref ya1), .unset] [(.ref b2)]))
  refine Gets.retA X6 hx Bd.returns rfl rfl (hb hby d34_44) ?_ (by decide) (by decide)
  have f8 : Exa Z T6.heap b2 cn7 := (A2.keep Kq6)
  exact ⟨N6, K7, ⟨b2, rfl, sz_b2, f8, bf6_0, bf6_1⟩⟩
theorem w213 {Z : State} {a0 : Array Value} (hw : ∀ d ∈ tables_1, d.before a0 Z = true) : (Jvm.Cond.code ({ cls := "java/util/List", name := "of", desc := "([Ljava/lang/Object;)Ljava/util/List;" } : Jvm.MethodName) jdk_40_method_47_code (2 : Nat) (Option.some (Jvm.ClassFile.FieldType.object "java/util/List"))).before a0 Z = true := hw _ (List.mem_of_getElem? (i := 213) rfl)
theorem pd__Ljava_lang_Object_Ljava_util_List_ : parseMethodDescriptor "([Ljava/lang/Object;)Ljava/util/List;" = some ⟨[(.array (.object "java/lang/Object"))], some (.object "java/util/List")⟩ := by decide +kernel
theorem w212 {Z : State} {a0 : Array Value} (hw : ∀ d ∈ tables_1, d.before a0 Z = true) : (Jvm.Cond.static ({ cls := "java/util/List", name := "of", desc := "([Ljava/lang/Object;)Ljava/util/List;" } : Jvm.MethodName)).before a0 Z = true := hw _ (List.mem_of_getElem? (i := 212) rfl)
theorem d12_53 : decode jdk_56_method_3_code 53 = .ok (.areturn, 1) := by decide +kernel
def Q_r47_listCopy (Z : State) (ya1 : Addr) (yk3 : ClassId) (ymir : Addr) (ya2 : Addr) (ya4 : Addr) (ov20 : Addr) (h0 : Heap) (n0 : Nat) (v : Option Value) (h : Heap) (L : List Loc) : Prop := Fr n0 L ∧ Keep h0 h [] ∧ ((∃ (b2_6 : Addr), v = some (.ref b2_6) ∧ h0.size ≤ b2_6 ∧ Exa Z h b2_6 cn7 ∧ Fld Z h b2_6 cn7 "e0" cn11 (.ref ya4) ∧ Fld Z h b2_6 cn7 "e1" cn11 (.ref ov20)))
set_option maxRecDepth 65536 in
set_option maxHeartbeats 40000000 in
theorem r47_listCopy (l : Launch) (Z : State) (a0 : Array Value) (hw : ∀ d ∈ tables_1, d.before a0 Z = true) (ws : List Jvm.Cond) (ya1 : Addr) (yk3 : ClassId) (ymir : Addr) (ya2 : Addr) (ya4 : Addr) (ov20 : Addr) (h0 : Heap) (n0 : Nat) (O0 : Old Z n0 h0) (F0 : Exa Z h0 ya1 cn2) (F1 : Fld Z h0 ya1 cn2 "size" "I" (.int (1 : Int32))) (F2 : Ovr Z yk3 cn3) (F3 : Fld Z h0 ya1 cn2 "elementData" cn6 (.ref ya2)) (F4 : Exa Z h0 ya2 cn6) (F5 : Arv Z h0 ya2 yk3 (.object cn3) (10 : Int32) [(.ref ya4), .null, .null, .null, .null, .null, .null, .null, .null, .null] .null) (F6 : Exa Z h0 ya4 cn5) (oS22 : Sta Z Z.heap cn9 "EMPTY" cn11 (.ref ov20)) (hy1 : Mir Z cn6 ymir) :
    MetFree l (⟨cn9, "listCopy", cn14⟩ : MethodName) (head1 (Jvm.Cond.code (⟨cn9, "listCopy", cn14⟩ : MethodName) jdk_56_method_3_code 2 (some (.object "java/util/List")) :: ws) ({ frames := 6, cells := 2, slots := 3, locals := 75 } : Room)) (fun a U => a = #[(.ref ya1)] ∧ Z.Warmed39 U.vm ∧ U.heap = h0) (fun _ _ _ _ _ => True) (fun _ U o U' => ∃ v L, o = .returned v ∧ Q_r47_listCopy Z ya1 yk3 ymir ya2 ya4 ov20 h0 n0 v U'.heap L ∧ FrameEnd U o U' L ({ frames := 6, cells := 2, slots := 3, locals := 75 } : Room).cells ({ frames := 6, cells := 2, slots := 3, locals := 75 } : Room).slots) := by
  refine MetFree.of_bodySF (plainFor_of_name pn_java_util_ImmutableCollections) hisR ?_
  intro p e s m args below meth c s₁ Bd hml0 hP hK
  obtain ⟨rfl, hZ, hh⟩ := hP
  have hx := Bd.exec
  have hby := Bd.bytes
  have hlk := Bd.notSynchronized
  have hml : c.maxLocals = 2 := hml0
  have hown : s.vm.findClass cn9 = some m.cls := findClass_of_methodNamed Bd.named
  have hnm := (name_of_methodNamed Bd.named Bd.method).1
  have X0 : Stand p l e ({ frames := 6, cells := 2, slots := 3, locals := 75 } : Room) s m #[(.ref ya1)] below meth c s₁ [] 0 0 := Stand.of_body Bd
  have e0 : s₁.heap = h0 := by rw [← hh, Bd.state]; rfl
  have N0 := Fr.nil n0
  have K0 := Keep.refl h0 []
  have Z0 : n0 ≤ h0.size := O0.1 ▸ O0.2.1
  have hef : entryFrame m #[(.ref ya1)] 2 = mkF m 0 #[.val (.ref ya1), .unset] [] := by first | (simp [entryFrame, mkF, argsToLocals, Value.category]; done) | rfl
  rw [hef]
  refine Gets.out (Q := Q_r47_listCopy Z ya1 yk3 ymir ya2 ya4 ov20 h0 n0) ?_
  show Gets p e below _ (s₁.setTop (mkF m 0 #[.val (.ref ya1), .unset] []))
  refine Gets.of (fun t k => XS.aloadN X0.here hx rfl (hb hby d12_0) rfl rfl  k) ?_
  obtain ⟨T1, X1, e1, st1⟩ := instNo X0 hx hZ hown (w70 hw) e0 F0 (own_NS_no (w71 hw) (w215 hw) (NS.step (w71 hw) (NS.step (w72 hw) (NS.step (w73 hw) (own_NS_root (w74 hw) (w215 hw) (by decide)) (by decide)) (by decide)) (by decide)) (by decide)) (g := (mkF m 1 #[.val (.ref ya1), .unset] [(.ref ya1)])) rfl rfl (hb hby d12_1)
  refine Gets.of st1 ?_
  show Gets p e below _ (T1.setTop (mkF m 4 #[.val (.ref ya1), .unset] [(.int (0 : Int32))]))
  refine Gets.of (fun t k => XS.ifNo X1.here hx rfl (hb hby d12_4) rfl ((if0 _ _).trans (teq (by decide : (0 : Int32) = (0 : Int32))).2) k) ?_
  show Gets p e below _ (T1.setTop (mkF m 7 #[.val (.ref ya1), .unset] []))
  refine Gets.of (fun t k => XS.aloadN X1.here hx rfl (hb hby d12_7) rfl rfl  k) ?_
  obtain ⟨T2, X2, e2, st2⟩ := instNo X1 hx hZ hown (w75 hw) e1 F0 (NS.no (w71 hw) (w248 hw) (NS.step (w71 hw) (NS.step (w72 hw) (NS.step (w73 hw) (NS.root (w74 hw) (w248 hw) (by decide)) (by decide)) (by decide)) (by decide)) (by decide)) (g := (mkF m 8 #[.val (.ref ya1), .unset] [(.ref ya1)])) rfl rfl (hb hby d12_8)
  refine Gets.of st2 ?_
  show Gets p e below _ (T2.setTop (mkF m 11 #[.val (.ref ya1), .unset] [(.int (0 : Int32))]))
  refine Gets.of (fun t k => XS.ifYes X2.here hx rfl (pc0 := 11) (pc' := 31) rfl (hb hby d12_11) rfl ((if0 _ _).trans (teq (by decide : (0 : Int32) = (0 : Int32))).1) (by decide) (by decide) k) ?_
  show Gets p e below _ (T2.setTop (mkF m 31 #[.val (.ref ya1), .unset] []))
  refine Gets.of (fun t k => XS.aloadN X2.here hx rfl (hb hby d12_31) rfl rfl  k) ?_
  obtain ⟨cq3, kq3, q3a, q3b, q3c⟩ := isOf hZ e2 F0
  obtain ⟨_, _, ⟨T3, L3, k3, n3⟩, -, X3, ⟨Lc3, hQ3, l3, y3, z3⟩, st3⟩ := X2.interfaceBack hx (xi := (⟨"java/util/Collection", "isEmpty", "()Z"⟩ : MethodName)) (y := (⟨cn2, "isEmpty", "()Z"⟩ : MethodName)) hown (mvT hZ (w76 hw)) (mvT hZ (w77 hw)) (mvT hZ (w78 hw)) (mvT hZ (w79 hw)) (mvT hZ (w80 hw)) (mvT hZ (w81 hw)) (mvT hZ (w82 hw)) (mvT hZ (w83 hw)) (by decide) (backOf (W := 0) (r48_isEmpty l Z a0 hw [] ya1 h0 n0 O0 F1) hZ (w84 hw) (w28 hw) (by decide) (by decide)) q3a q3b q3c (g := (mkF m 32 #[.val (.ref ya1), .unset] [(.ref ya1)])) rfl (by rw [hml]; rfl) (Steps.refl _) (argsL := []) (rest := []) (lenOf pd__Z rfl) rfl (by show 2 * 0 + _ ≤ _; exact Nat.le_of_eq rfl) (hb hby d12_32) (fun _ _ => ⟨rfl, e2, (by decide : 0 + 0 ≤ _), (by decide : 0 + 0 ≤ _)⟩)
  dsimp only [Pt.U, Pt.locs, Pt.cells, Pt.slots] at X3 l3 y3 z3 st3 hQ3
  subst l3 y3 z3
  obtain ⟨Nq3, eq3, hR3⟩ := hQ3
  have N3 := Fr.app N0 Nq3
  obtain rfl := hR3
  refine Gets.tr st3 ?_
  show Gets p e below _ (T3.setTop (mkF m 37 #[.val (.ref ya1), .unset] [(.int (0 : Int32))]))
  refine Gets.of (fun t k => XS.ifYes X3.here hx rfl (pc0 := 37) (pc' := 44) rfl (hb hby d12_37) rfl ((if0 _ _).trans (teq (by decide : (0 : Int32) = (0 : Int32))).1) (by decide) (by decide) k) ?_
  show Gets p e below _ (T3.setTop (mkF m 44 #[.val (.ref ya1), .unset] []))
  refine Gets.of (fun t k => XS.aloadN X3.here hx rfl (hb hby d12_44) rfl rfl  k) ?_
  obtain ⟨cq4, kq4, q4a, q4b, q4c⟩ := isOf hZ eq3 F0
  obtain ⟨_, _, ⟨T4, L4, k4, n4⟩, -, X4, ⟨Lc4, hQ4, l4, y4, z4⟩, st4⟩ := X3.interfaceBack hx (xi := (⟨"java/util/Collection", "toArray", cn15⟩ : MethodName)) (y := (⟨cn2, "toArray", cn15⟩ : MethodName)) hown (mvT hZ (w181 hw)) (mvT hZ (w182 hw)) (mvT hZ (w183 hw)) (mvT hZ (w184 hw)) (mvT hZ (w185 hw)) (mvT hZ (w186 hw)) (mvT hZ (w187 hw)) (mvT hZ (w83 hw)) (by decide) (backOf (W := 0) (r49_toArray l Z a0 hw [] ya1 ya2 yk3 ymir ya4 h0 n0 O0 F3 F1 F2 F4 F5 F6 hy1) hZ (w188 hw) (w28 hw) (by decide) (by decide)) q4a q4b q4c (g := (mkF m 45 #[.val (.ref ya1), .unset] [(.ref ya1)])) rfl (by rw [hml]; rfl) (Steps.refl _) (argsL := []) (rest := []) (lenOf pd___Ljava_lang_Object_ rfl) rfl (by show 2 * 0 + _ ≤ _; exact Nat.le_of_eq rfl) (hb hby d12_45) (fun _ _ => ⟨rfl, eq3, (by decide : 0 + 1 ≤ _), (by decide : 0 + 1 ≤ _)⟩)
  dsimp only [Pt.U, Pt.locs, Pt.cells, Pt.slots] at X4 l4 y4 z4 st4 hQ4
  subst l4 y4 z4
  obtain ⟨Nq4, Kq4, hR4⟩ := hQ4
  have N4 := Fr.app N3 Nq4
  have K5 : Keep h0 _ [] := K0.trans Kq4 all0
  have O5 := O0.keep Kq4 all0
  obtain ⟨b2_2_3_4, k2_2_3_4, rfl, bz4_0, bf4_0, bf4_1, bf4_2⟩ := hR4
  have sz_b2_2_3_4 : h0.size ≤ b2_2_3_4 := Nat.le_trans K0.1 bz4_0
  have g_b2_2_3_4 : n0 ≤ b2_2_3_4 := Nat.le_trans Z0 sz_b2_2_3_4
  refine Gets.tr st4 ?_
  show Gets p e below _ (T4.setTop (mkF m 50 #[.val (.ref ya1), .unset] [(.ref b2_2_3_4)]))
  obtain ⟨_, _, ⟨T6, L6, k6, n6⟩, -, X6, ⟨Lc6, hQ6, l6, y6, z6⟩, st6⟩ := Jvm.LawKit.callS X4 hx (y := (⟨"java/util/List", "of", "([Ljava/lang/Object;)Ljava/util/List;"⟩ : MethodName)) hown (mvT hZ (w211 hw)) (mvT hZ (w212 hw)) (mvT hZ (w64 hw)) (mvT hZ (w213 hw)) (by decide) (backOf (W := 0) (r53_of l Z a0 hw [] b2_2_3_4 k2_2_3_4 ya4 ov20 T4.heap n0 O5 bf4_0 oS22) hZ (w213 hw) (w64 hw) (by decide) (by decide)) (g := (mkF m 50 #[.val (.ref ya1), .unset] [(.ref b2_2_3_4)])) rfl (by rw [hml]; rfl) (argsL := [(.ref b2_2_3_4)]) (rest := []) (lenOf pd__Ljava_lang_Object_Ljava_util_List_ rfl) rfl (by show 2 * 0 + _ ≤ _; exact Nat.le_of_eq rfl) (hb hby d12_50) (fun _ _ => ⟨rfl, rfl, (by decide : 1 + 1 ≤ _), (by decide : 1 + 2 ≤ _)⟩)
  dsimp only [Pt.U, Pt.locs, Pt.cells, Pt.slots] at X6 l6 y6 z6 st6 hQ6
  subst l6 y6 z6
  obtain ⟨Nq6, Kq6, hR6⟩ := hQ6
  have N6 := Fr.app N4 Nq6
  have K7 : Keep h0 _ [] := K5.trans Kq6 all0
  have O7 := O5.keep Kq6 all0
  obtain ⟨b2_6, rfl, bz6_0, bf6_0, bf6_1, bf6_2⟩ := hR6
  have sz_b2_6 : h0.size ≤ b2_6 := Nat.le_trans K5.1 bz6_0
  have g_b2_6 : n0 ≤ b2_6 := Nat.le_trans Z0 sz_b2_6
  refine Gets.of st6 ?_
  show Gets p e below _ (T6.setTop (mkF m 53 #[.val (.ref ya1), .unset] [(.ref b2_6)]))
  refine Gets.retA X6 hx Bd.returns rfl rfl (hb hby d12_53) ?_ (by decide) (by decide)
  exact ⟨N6, K7, ⟨b2_6, rfl, sz_b2_6, bf6_0, bf6_1, bf6_2⟩⟩
def Q_r46_copyOf (Z : State) (ya1 : Addr) (yk3 : ClassId) (ymir : Addr) (ya2 : Addr) (ya4 : Addr) (ov20 : Addr) (h0 : Heap) (n0 : Nat) (v : Option Value) (h : Heap) (L : List Loc) : Prop := Fr n0 L ∧ Keep h0 h [] ∧ ((∃ (b2_6_1 : Addr), v = some (.ref b2_6_1) ∧ h0.size ≤ b2_6_1 ∧ Exa Z h b2_6_1 cn7 ∧ Fld Z h b2_6_1 cn7 "e0" cn11 (.ref ya4) ∧ Fld Z h b2_6_1 cn7 "e1" cn11 (.ref ov20)))
set_option maxRecDepth 65536 in
set_option maxHeartbeats 40000000 in
theorem r46_copyOf (l : Launch) (Z : State) (a0 : Array Value) (hw : ∀ d ∈ tables_1, d.before a0 Z = true) (ws : List Jvm.Cond) (ya1 : Addr) (yk3 : ClassId) (ymir : Addr) (ya2 : Addr) (ya4 : Addr) (ov20 : Addr) (h0 : Heap) (n0 : Nat) (O0 : Old Z n0 h0) (F0 : Exa Z h0 ya1 cn2) (F1 : Fld Z h0 ya1 cn2 "size" "I" (.int (1 : Int32))) (F2 : Ovr Z yk3 cn3) (F3 : Fld Z h0 ya1 cn2 "elementData" cn6 (.ref ya2)) (F4 : Exa Z h0 ya2 cn6) (F5 : Arv Z h0 ya2 yk3 (.object cn3) (10 : Int32) [(.ref ya4), .null, .null, .null, .null, .null, .null, .null, .null, .null] .null) (F6 : Exa Z h0 ya4 cn5) (oS22 : Sta Z Z.heap cn9 "EMPTY" cn11 (.ref ov20)) (hy1 : Mir Z cn6 ymir) :
    MetFree l (⟨"java/util/List", "copyOf", cn14⟩ : MethodName) (head1 (Jvm.Cond.code (⟨"java/util/List", "copyOf", cn14⟩ : MethodName) jdk_40_method_48_code 1 (some (.object "java/util/List")) :: ws) ({ frames := 7, cells := 2, slots := 3, locals := 88 } : Room)) (fun a U => a = #[(.ref ya1)] ∧ Z.Warmed39 U.vm ∧ U.heap = h0) (fun _ _ _ _ _ => True) (fun _ U o U' => ∃ v L, o = .returned v ∧ Q_r46_copyOf Z ya1 yk3 ymir ya2 ya4 ov20 h0 n0 v U'.heap L ∧ FrameEnd U o U' L ({ frames := 7, cells := 2, slots := 3, locals := 88 } : Room).cells ({ frames := 7, cells := 2, slots := 3, locals := 88 } : Room).slots) := by
  refine MetFree.of_bodySF (plainFor_of_name pn_java_util_List) hisR ?_
  intro p e s m args below meth c s₁ Bd hml0 hP hK
  obtain ⟨rfl, hZ, hh⟩ := hP
  have hx := Bd.exec
  have hby := Bd.bytes
  have hlk := Bd.notSynchronized
  have hml : c.maxLocals = 1 := hml0
  have hown : s.vm.findClass "java/util/List" = some m.cls := findClass_of_methodNamed Bd.named
  have hnm := (name_of_methodNamed Bd.named Bd.method).1
  have X0 : Stand p l e ({ frames := 7, cells := 2, slots := 3, locals := 88 } : Room) s m #[(.ref ya1)] below meth c s₁ [] 0 0 := Stand.of_body Bd
  have e0 : s₁.heap = h0 := by rw [← hh, Bd.state]; rfl
  have N0 := Fr.nil n0
  have K0 := Keep.refl h0 []
  have Z0 : n0 ≤ h0.size := O0.1 ▸ O0.2.1
  have hef : entryFrame m #[(.ref ya1)] 1 = mkF m 0 #[.val (.ref ya1)] [] := by first | (simp [entryFrame, mkF, argsToLocals, Value.category]; done) | rfl
  rw [hef]
  refine Gets.out (Q := Q_r46_copyOf Z ya1 yk3 ymir ya2 ya4 ov20 h0 n0) ?_
  show Gets p e below _ (s₁.setTop (mkF m 0 #[.val (.ref ya1)] []))
  refine Gets.of (fun t k => XS.aloadN X0.here hx rfl (hb hby d11_0) rfl rfl  k) ?_
  obtain ⟨_, _, ⟨T1, L1, k1, n1⟩, -, X1, ⟨Lc1, hQ1, l1, y1, z1⟩, st1⟩ := Jvm.LawKit.callS X0 hx (y := (⟨cn9, "listCopy", cn14⟩ : MethodName)) hown (mvT hZ (w66 hw)) (mvT hZ (w67 hw)) (mvT hZ (w68 hw)) (mvT hZ (w69 hw)) (by decide) (backOf (W := 0) (r47_listCopy l Z a0 hw [] ya1 yk3 ymir ya2 ya4 ov20 h0 n0 O0 F0 F1 F2 F3 F4 F5 F6 oS22 hy1) hZ (w69 hw) (w68 hw) (by decide) (by decide)) (g := (mkF m 1 #[.val (.ref ya1)] [(.ref ya1)])) rfl (by rw [hml]; rfl) (argsL := [(.ref ya1)]) (rest := []) (lenOf pd__Ljava_util_Collection_Ljava_util_List_ rfl) rfl (by show 2 * 0 + _ ≤ _; exact Nat.le_of_eq rfl) (hb hby d11_1) (fun _ _ => ⟨rfl, e0, (by decide : 0 + 2 ≤ _), (by decide : 0 + 3 ≤ _)⟩)
  dsimp only [Pt.U, Pt.locs, Pt.cells, Pt.slots] at X1 l1 y1 z1 st1 hQ1
  subst l1 y1 z1
  obtain ⟨Nq1, Kq1, hR1⟩ := hQ1
  have N1 := Fr.app N0 Nq1
  have K2 : Keep h0 _ [] := K0.trans Kq1 all0
  have O2 := O0.keep Kq1 all0
  obtain ⟨b2_6_1, rfl, bz1_0, bf1_0, bf1_1, bf1_2⟩ := hR1
  have sz_b2_6_1 : h0.size ≤ b2_6_1 := Nat.le_trans K0.1 bz1_0
  have g_b2_6_1 : n0 ≤ b2_6_1 := Nat.le_trans Z0 sz_b2_6_1
  refine Gets.of st1 ?_
  show Gets p e below _ (T1.setTop (mkF m 4 #[.val (.ref ya1)] [(.ref b2_6_1)]))
  refine Gets.retA X1 hx Bd.returns rfl rfl (hb hby d11_4) ?_ (by decide) (by decide)
  exact ⟨N1, K2, ⟨b2_6_1, rfl, sz_b2_6_1, bf1_0, bf1_1, bf1_2⟩⟩
def Q_r45_init (Z : State) (ya1 : Addr) (yi2 : Int32) (yv3 : Value) (yv4 : Value) (ya5 : Addr) (yv6 : Value) (yk8 : ClassId) (ymir : Addr) (ya7 : Addr) (ya9 : Addr) (ov20 : Addr) (h0 : Heap) (n0 : Nat) (v : Option Value) (h : Heap) (L : List Loc) : Prop := Fr n0 L ∧ Keep h0 h [ya1] ∧ ((∃ (b2_6_1_2 : Addr), v = none ∧ h0.size ≤ b2_6_1_2 ∧ Fld Z h ya1 cn1 "number" "I" (.int yi2) ∧ Fld Z h ya1 cn1 "location" cn4 yv3 ∧ Fld Z h ya1 cn1 "source" cn4 yv4 ∧ Fld Z h ya1 cn1 "values" cn12 (.ref b2_6_1_2) ∧ Fld Z h ya1 cn1 "problem" cn4 yv6 ∧ Exa Z h b2_6_1_2 cn7 ∧ Fld Z h b2_6_1_2 cn7 "e0" cn11 (.ref ya9) ∧ Fld Z h b2_6_1_2 cn7 "e1" cn11 (.ref ov20)))
set_option maxRecDepth 65536 in
set_option maxHeartbeats 40000000 in
theorem r45_init (l : Launch) (Z : State) (a0 : Array Value) (hw : ∀ d ∈ tables_1, d.before a0 Z = true) (ws : List Jvm.Cond) (ya1 : Addr) (yi2 : Int32) (yv3 : Value) (yv4 : Value) (ya5 : Addr) (yv6 : Value) (yk8 : ClassId) (ymir : Addr) (ya7 : Addr) (ya9 : Addr) (ov20 : Addr) (h0 : Heap) (n0 : Nat) (O0 : Old Z n0 h0) (F0 : Exa Z h0 ya5 cn2) (F1 : Fld Z h0 ya5 cn2 "size" "I" (.int (1 : Int32))) (F2 : Ovr Z yk8 cn3) (F3 : Fld Z h0 ya5 cn2 "elementData" cn6 (.ref ya7)) (F4 : Exa Z h0 ya7 cn6) (F5 : Arv Z h0 ya7 yk8 (.object cn3) (10 : Int32) [(.ref ya9), .null, .null, .null, .null, .null, .null, .null, .null, .null] .null) (F6 : Exa Z h0 ya9 cn5) (F7 : Exa Z h0 ya1 cn1) (F8 : Fld Z h0 ya1 cn1 "number" "I" (.int (0 : Int32))) (F9 : Fld Z h0 ya1 cn1 "location" cn4 .null) (F10 : Fld Z h0 ya1 cn1 "source" cn4 .null) (F11 : Fld Z h0 ya1 cn1 "values" cn12 .null) (F12 : Fld Z h0 ya1 cn1 "problem" cn4 .null) (oS22 : Sta Z Z.heap cn9 "EMPTY" cn11 (.ref ov20)) (gq_ya1 : n0 ≤ ya1) (hy1 : Mir Z cn6 ymir) (hy2 : yv3.isRef = true) (hy3 : yv4.isRef = true) (hy4 : yv6.isRef = true) :
    MetFree l (⟨cn1, "<init>", cn16⟩ : MethodName) (head1 (Jvm.Cond.code (⟨cn1, "<init>", cn16⟩ : MethodName) prog_51_method_1_code 6 none :: ws) ({ frames := 8, cells := 2, slots := 3, locals := 100 } : Room)) (fun a U => a = #[(.ref ya1), (.int yi2), yv3, yv4, (.ref ya5), yv6] ∧ Z.Warmed39 U.vm ∧ U.heap = h0) (fun _ _ _ _ _ => True) (fun _ U o U' => ∃ v L, o = .returned v ∧ Q_r45_init Z ya1 yi2 yv3 yv4 ya5 yv6 yk8 ymir ya7 ya9 ov20 h0 n0 v U'.heap L ∧ FrameEnd U o U' L ({ frames := 8, cells := 2, slots := 3, locals := 100 } : Room).cells ({ frames := 8, cells := 2, slots := 3, locals := 100 } : Room).slots) := by
  refine MetFree.of_bodySF (plainFor_of_name pn_com_example_causeway_causeway_formats_OaiDcUnit) hisR ?_
  intro p e s m args below meth c s₁ Bd hml0 hP hK
  obtain ⟨rfl, hZ, hh⟩ := hP
  have hx := Bd.exec
  have hby := Bd.bytes
  have hlk := Bd.notSynchronized
  have hml : c.maxLocals = 6 := hml0
  have hown : s.vm.findClass cn1 = some m.cls := findClass_of_methodNamed Bd.named
  have hnm := (name_of_methodNamed Bd.named Bd.method).1
  have X0 : Stand p l e ({ frames := 8, cells := 2, slots := 3, locals := 100 } : Room) s m #[(.ref ya1), (.int yi2), yv3, yv4, (.ref ya5), yv6] below meth c s₁ [] 0 0 := Stand.of_body Bd
  have e0 : s₁.heap = h0 := by rw [← hh, Bd.state]; rfl
  have N0 := Fr.nil n0
  have K0 := Keep.refl h0 [ya1]
  have Z0 : n0 ≤ h0.size := O0.1 ▸ O0.2.1
  have hef : entryFrame m #[(.ref ya1), (.int yi2), yv3, yv4, (.ref ya5), yv6] 6 = mkF m 0 #[.val (.ref ya1), .val (.int yi2), .val yv3, .val yv4, .val (.ref ya5), .val yv6] [] := by first | (simp [entryFrame, mkF, argsToLocals, own_cI, own_cJ, own_cR, own_cN, own_cF, own_cD, own_catR hy2, own_catR hy3, own_catR hy4]; done) | rfl
  rw [hef]
  refine Gets.out (Q := Q_r45_init Z ya1 yi2 yv3 yv4 ya5 yv6 yk8 ymir ya7 ya9 ov20 h0 n0) ?_
  show Gets p e below _ (s₁.setTop (mkF m 0 #[.val (.ref ya1), .val (.int yi2), .val yv3, .val yv4, .val (.ref ya5), .val yv6] []))
  refine Gets.of (fun t k => XS.aloadN X0.here hx rfl (hb hby d9_0) rfl rfl  k) ?_
  obtain ⟨_, _, ⟨T1, L1, k1, n1⟩, -, X1, ⟨Lc1, hQ1, l1, y1, z1⟩, st1⟩ := X0.specialBack hx (y := (⟨"java/lang/Record", "<init>", "()V"⟩ : MethodName)) rfl hown (mvT hZ (w56 hw)) (mvT hZ (w57 hw)) (mvT hZ (w60 hw)) (by decide) (backOf (W := 0) (r26_init l Z a0 hw [] ya1 h0 n0 O0) hZ (w60 hw) (w59 hw) (by decide) (by decide)) (g := (mkF m 1 #[.val (.ref ya1), .val (.int yi2), .val yv3, .val yv4, .val (.ref ya5), .val yv6] [(.ref ya1)])) rfl (by rw [hml]; rfl) (Steps.refl _) (a := ya1) (argsL := []) (rest := []) (lenOf pd__V rfl) rfl (by show 2 * 0 + _ ≤ _; exact Nat.le_of_eq rfl) (hb hby d9_1) (fun _ _ => ⟨rfl, e0, (by decide : 0 + 0 ≤ _), (by decide : 0 + 0 ≤ _)⟩)
  dsimp only [Pt.U, Pt.locs, Pt.cells, Pt.slots] at X1 l1 y1 z1 st1 hQ1
  subst l1 y1 z1
  obtain ⟨Nq1, eq1, hR1⟩ := hQ1
  have N1 := Fr.app N0 Nq1
  obtain rfl := hR1
  refine Gets.tr st1 ?_
  show Gets p e below _ (T1.setTop (mkF m 4 #[.val (.ref ya1), .val (.int yi2), .val yv3, .val yv4, .val (.ref ya5), .val yv6] []))
  refine Gets.of (fun t k => XS.aload X1.here hx rfl (hb hby d9_4) rfl rfl  k) ?_
  obtain ⟨_, _, ⟨T2, L2, k2, n2⟩, -, X2, ⟨Lc2, hQ2, l2, y2, z2⟩, st2⟩ := Jvm.LawKit.callS X1 hx (y := (⟨"java/util/List", "copyOf", cn14⟩ : MethodName)) hown (mvT hZ (w62 hw)) (mvT hZ (w63 hw)) (mvT hZ (w64 hw)) (mvT hZ (w65 hw)) (by decide) (backOf (W := 0) (r46_copyOf l Z a0 hw [] ya5 yk8 ymir ya7 ya9 ov20 h0 n0 O0 F0 F1 F2 F3 F4 F5 F6 oS22 hy1) hZ (w65 hw) (w64 hw) (by decide) (by decide)) (g := (mkF m 6 #[.val (.ref ya1), .val (.int yi2), .val yv3, .val yv4, .val (.ref ya5), .val yv6] [(.ref ya5)])) rfl (by rw [hml]; rfl) (argsL := [(.ref ya5)]) (rest := []) (lenOf pd__Ljava_util_Collection_Ljava_util_List_ rfl) rfl (by show 2 * 0 + _ ≤ _; exact Nat.le_of_eq rfl) (hb hby d9_6) (fun _ _ => ⟨rfl, eq1, (by decide : 0 + 2 ≤ _), (by decide : 0 + 3 ≤ _)⟩)
  dsimp only [Pt.U, Pt.locs, Pt.cells, Pt.slots] at X2 l2 y2 z2 st2 hQ2
  subst l2 y2 z2
  obtain ⟨Nq2, Kq2, hR2⟩ := hQ2
  have N2 := Fr.app N1 Nq2
  have K3 : Keep h0 _ [ya1] := K0.trans Kq2 all0
  have O3 := O0.keep Kq2 all0
  obtain ⟨b2_6_1_2, rfl, bz2_0, bf2_0, bf2_1, bf2_2⟩ := hR2
  have sz_b2_6_1_2 : h0.size ≤ b2_6_1_2 := Nat.le_trans K0.1 bz2_0
  have g_b2_6_1_2 : n0 ≤ b2_6_1_2 := Nat.le_trans Z0 sz_b2_6_1_2
  refine Gets.of st2 ?_
  show Gets p e below _ (T2.setTop (mkF m 9 #[.val (.ref ya1), .val (.int yi2), .val yv3, .val yv4, .val (.ref ya5), .val yv6] [(.ref b2_6_1_2)]))
  refine Gets.of (fun t k => XS.astore X2.here hx rfl (hb hby d9_9) rfl rfl (l' := #[.val (.ref ya1), .val (.int yi2), .val yv3, .val yv4, .val (.ref b2_6_1_2), .val yv6]) rfl k) ?_
  show Gets p e below _ (T2.setTop (mkF m 11 #[.val (.ref ya1), .val (.int yi2), .val yv3, .val yv4, .val (.ref b2_6_1_2), .val yv6] []))
  refine Gets.of (fun t k => XS.aloadN X2.here hx rfl (hb hby d9_11) rfl rfl  k) ?_
  refine Gets.of (fun t k => XS.iloadN X2.here hx rfl (hb hby d9_12) rfl  k) ?_
  have f4 : Exa Z T2.heap ya1 cn1 := (F7.keep Kq2)
  have f5 : Fld Z T2.heap ya1 cn1 "number" "I" (.int (0 : Int32)) := (F8.keep Kq2 nin0)
  obtain ⟨T6, h6, X6, e6, W6, st6⟩ := putF X2 hx hZ hown (host := "") (Or.inl (w91 hw)) Via.refl rfl f5 f4 (Or.inr ⟨(w92 hw), rfl, hnm⟩) (w51 hw) (ty := .int) (by decide) rfl rfl (g := (mkF m 13 #[.val (.ref ya1), .val (.int yi2), .val yv3, .val yv4, .val (.ref b2_6_1_2), .val yv6] [(.int yi2), (.ref ya1)])) rfl rfl (hb hby d9_13)
  have N6 := Fr.snoc X6 N2 gq_ya1
  have Fw6 : Fld Z h6 ya1 cn1 "number" "I" (.int yi2) := (f5).same W6
  have K7 : Keep h0 _ [ya1] := K3.wr W6 (Or.inl (by simp))
  have O7 := O3.wr W6 gq_ya1
  refine Gets.of st6 ?_
  show Gets p e below _ (T6.setTop (mkF m 16 #[.val (.ref ya1), .val (.int yi2), .val yv3, .val yv4, .val (.ref b2_6_1_2), .val yv6] []))
  refine Gets.of (fun t k => XS.aloadN X6.here hx rfl (hb hby d9_16) rfl rfl  k) ?_
  refine Gets.of (fun t k => XS.aloadN X6.here hx rfl (hb hby d9_17) rfl hy2  k) ?_
  have f8 : Exa Z h6 ya1 cn1 := (f4.wr W6)
  have f9 : Fld Z h6 ya1 cn1 "location" cn4 .null := ((F9.keep Kq2 nin0).other W6 (Or.inr (slot_ne (Or.inr (w94 hw)) (Or.inr (w92 hw)) (by decide) (t := (.object cn0)) (t' := .int) (by decide) (by decide))))
  obtain ⟨T10, h10, X10, e10, W10, st10⟩ := putF X6 hx hZ hown (host := "") (Or.inl (w93 hw)) Via.refl e6 f9 f8 (Or.inr ⟨(w94 hw), rfl, hnm⟩) (w51 hw) (ty := (.object cn0)) (by decide) (own_narrow_ref hy2) (own_fits_obj hy2) (g := (mkF m 18 #[.val (.ref ya1), .val (.int yi2), .val yv3, .val yv4, .val (.ref b2_6_1_2), .val yv6] [yv3, (.ref ya1)])) rfl rfl (hb hby d9_18)
  have N10 := Fr.snoc X10 N6 gq_ya1
  have Fw10 : Fld Z h10 ya1 cn1 "location" cn4 yv3 := (f9).same W10
  have K11 : Keep h0 _ [ya1] := K7.wr W10 (Or.inl (by simp))
  have O11 := O7.wr W10 gq_ya1
  refine Gets.of st10 ?_
  show Gets p e below _ (T10.setTop (mkF m 21 #[.val (.ref ya1), .val (.int yi2), .val yv3, .val yv4, .val (.ref b2_6_1_2), .val yv6] []))
  refine Gets.of (fun t k => XS.aloadN X10.here hx rfl (hb hby d9_21) rfl rfl  k) ?_
  refine Gets.of (fun t k => XS.aloadN X10.here hx rfl (hb hby d9_22) rfl hy3  k) ?_
  have f12 : Exa Z h10 ya1 cn1 := (f8.wr W10)
  have f13 : Fld Z h10 ya1 cn1 "source" cn4 .null := (((F10.keep Kq2 nin0).other W6 (Or.inr (slot_ne (Or.inr (w96 hw)) (Or.inr (w92 hw)) (by decide) (t := (.object cn0)) (t' := .int) (by decide) (by decide)))).other W10 (Or.inr (slot_ne (Or.inr (w96 hw)) (Or.inr (w94 hw)) (by decide) (t := (.object cn0)) (t' := (.object cn0)) (by decide) (by decide))))
  obtain ⟨T14, h14, X14, e14, W14, st14⟩ := putF X10 hx hZ hown (host := "") (Or.inl (w95 hw)) Via.refl e10 f13 f12 (Or.inr ⟨(w96 hw), rfl, hnm⟩) (w51 hw) (ty := (.object cn0)) (by decide) (own_narrow_ref hy3) (own_fits_obj hy3) (g := (mkF m 23 #[.val (.ref ya1), .val (.int yi2), .val yv3, .val yv4, .val (.ref b2_6_1_2), .val yv6] [yv4, (.ref ya1)])) rfl rfl (hb hby d9_23)
  have N14 := Fr.snoc X14 N10 gq_ya1
  have Fw14 : Fld Z h14 ya1 cn1 "source" cn4 yv4 := (f13).same W14
  have K15 : Keep h0 _ [ya1] := K11.wr W14 (Or.inl (by simp))
  have O15 := O11.wr W14 gq_ya1
  refine Gets.of st14 ?_
  show Gets p e below _ (T14.setTop (mkF m 26 #[.val (.ref ya1), .val (.int yi2), .val yv3, .val yv4, .val (.ref b2_6_1_2), .val yv6] []))
  refine Gets.of (fun t k => XS.aloadN X14.here hx rfl (hb hby d9_26) rfl rfl  k) ?_
  refine Gets.of (fun t k => XS.aload X14.here hx rfl (hb hby d9_27) rfl rfl  k) ?_
  have f16 : Exa Z h14 ya1 cn1 := (f12.wr W14)
  have f17 : Fld Z h14 ya1 cn1 "values" cn12 .null := ((((F11.keep Kq2 nin0).other W6 (Or.inr (slot_ne (Or.inr (w98 hw)) (Or.inr (w92 hw)) (by decide) (t := (.object "java/util/List")) (t' := .int) (by decide) (by decide)))).other W10 (Or.inr (slot_ne (Or.inr (w98 hw)) (Or.inr (w94 hw)) (by decide) (t := (.object "java/util/List")) (t' := (.object cn0)) (by decide) (by decide)))).other W14 (Or.inr (slot_ne (Or.inr (w98 hw)) (Or.inr (w96 hw)) (by decide) (t := (.object "java/util/List")) (t' := (.object cn0)) (by decide) (by decide))))
  obtain ⟨T18, h18, X18, e18, W18, st18⟩ := putF X14 hx hZ hown (host := "") (Or.inl (w97 hw)) Via.refl e14 f17 f16 (Or.inr ⟨(w98 hw), rfl, hnm⟩) (w51 hw) (ty := (.object "java/util/List")) (by decide) rfl rfl (g := (mkF m 29 #[.val (.ref ya1), .val (.int yi2), .val yv3, .val yv4, .val (.ref b2_6_1_2), .val yv6] [(.ref b2_6_1_2), (.ref ya1)])) rfl rfl (hb hby d9_29)
  have N18 := Fr.snoc X18 N14 gq_ya1
  have Fw18 : Fld Z h18 ya1 cn1 "values" cn12 (.ref b2_6_1_2) := (f17).same W18
  have K19 : Keep h0 _ [ya1] := K15.wr W18 (Or.inl (by simp))
  have O19 := O15.wr W18 gq_ya1
  refine Gets.of st18 ?_
  show Gets p e below _ (T18.setTop (mkF m 32 #[.val (.ref ya1), .val (.int yi2), .val yv3, .val yv4, .val (.ref b2_6_1_2), .val yv6] []))
  refine Gets.of (fun t k => XS.aloadN X18.here hx rfl (hb hby d9_32) rfl rfl  k) ?_
  refine Gets.of (fun t k => XS.aload X18.here hx rfl (hb hby d9_33) rfl hy4  k) ?_
  have f20 : Exa Z h18 ya1 cn1 := (f16.wr W18)
  have f21 : Fld Z h18 ya1 cn1 "problem" cn4 .null := (((((F12.keep Kq2 nin0).other W6 (Or.inr (slot_ne (Or.inr (w100 hw)) (Or.inr (w92 hw)) (by decide) (t := (.object cn0)) (t' := .int) (by decide) (by decide)))).other W10 (Or.inr (slot_ne (Or.inr (w100 hw)) (Or.inr (w94 hw)) (by decide) (t := (.object cn0)) (t' := (.object cn0)) (by decide) (by decide)))).other W14 (Or.inr (slot_ne (Or.inr (w100 hw)) (Or.inr (w96 hw)) (by decide) (t := (.object cn0)) (t' := (.object cn0)) (by decide) (by decide)))).other W18 (Or.inr (slot_ne (Or.inr (w100 hw)) (Or.inr (w98 hw)) (by decide) (t := (.object cn0)) (t' := (.object "java/util/List")) (by decide) (by decide))))
  obtain ⟨T22, h22, X22, e22, W22, st22⟩ := putF X18 hx hZ hown (host := "") (Or.inl (w99 hw)) Via.refl e18 f21 f20 (Or.inr ⟨(w100 hw), rfl, hnm⟩) (w51 hw) (ty := (.object cn0)) (by decide) (own_narrow_ref hy4) (own_fits_obj hy4) (g := (mkF m 35 #[.val (.ref ya1), .val (.int yi2), .val yv3, .val yv4, .val (.ref b2_6_1_2), .val yv6] [yv6, (.ref ya1)])) rfl rfl (hb hby d9_35)
  have N22 := Fr.snoc X22 N18 gq_ya1
  have Fw22 : Fld Z h22 ya1 cn1 "problem" cn4 yv6 := (f21).same W22
  have K23 : Keep h0 _ [ya1] := K19.wr W22 (Or.inl (by simp))
  have O23 := O19.wr W22 gq_ya1
  refine Gets.of st22 ?_
  show Gets p e below _ (T22.setTop (mkF m 38 #[.val (.ref ya1), .val (.int yi2), .val yv3, .val yv4, .val (.ref b2_6_1_2), .val yv6] []))
  refine Gets.retV X22 hx Bd.returns (hb hby d9_38) ?_ (by decide) (by decide)
  rw [e22]
  have f24 : Fld Z h22 ya1 cn1 "number" "I" (.int yi2) := ((((Fw6.other W10 (Or.inr (slot_ne (Or.inr (w92 hw)) (Or.inr (w94 hw)) (by decide) (t := .int) (t' := (.object cn0)) (by decide) (by decide)))).other W14 (Or.inr (slot_ne (Or.inr (w92 hw)) (Or.inr (w96 hw)) (by decide) (t := .int) (t' := (.object cn0)) (by decide) (by decide)))).other W18 (Or.inr (slot_ne (Or.inr (w92 hw)) (Or.inr (w98 hw)) (by decide) (t := .int) (t' := (.object "java/util/List")) (by decide) (by decide)))).other W22 (Or.inr (slot_ne (Or.inr (w92 hw)) (Or.inr (w100 hw)) (by decide) (t := .int) (t' := (.object cn0)) (by decide) (by decide))))
  have f25 : Fld Z h22 ya1 cn1 "location" cn4 yv3 := (((Fw10.other W14 (Or.inr (slot_ne (Or.inr (w94 hw)) (Or.inr (w96 hw)) (by decide) (t := (.object cn0)) (t' := (.object cn0)) (by decide) (by decide)))).other W18 (Or.inr (slot_ne (Or.inr (w94 hw)) (Or.inr (w98 hw)) (by decide) (t := (.object cn0)) (t' := (.object "java/util/List")) (by decide) (by decide)))).other W22 (Or.inr (slot_ne (Or.inr (w94 hw)) (Or.inr (w100 hw)) (by decide) (t := (.object cn0)) (t' := (.object cn0)) (by decide) (by decide))))
  have f26 : Fld Z h22 ya1 cn1 "source" cn4 yv4 := ((Fw14.other W18 (Or.inr (slot_ne (Or.inr (w96 hw)) (Or.inr (w98 hw)) (by decide) (t := (.object cn0)) (t' := (.object "java/util/List")) (by decide) (by decide)))).other W22 (Or.inr (slot_ne (Or.inr (w96 hw)) (Or.inr (w100 hw)) (by decide) (t := (.object cn0)) (t' := (.object cn0)) (by decide) (by decide))))
  have f27 : Fld Z h22 ya1 cn1 "values" cn12 (.ref b2_6_1_2) := (Fw18.other W22 (Or.inr (slot_ne (Or.inr (w98 hw)) (Or.inr (w100 hw)) (by decide) (t := (.object "java/util/List")) (t' := (.object cn0)) (by decide) (by decide))))
  have f28 : Exa Z h22 b2_6_1_2 cn7 := (((((bf2_0.wr W6).wr W10).wr W14).wr W18).wr W22)
  have f29 : Fld Z h22 b2_6_1_2 cn7 "e0" cn11 (.ref ya9) := (((((bf2_1.other W6 (Or.inl (Ne.symm (Nat.ne_of_lt (Nat.lt_of_lt_of_le F7.lt sz_b2_6_1_2))))).other W10 (Or.inl (Ne.symm (Nat.ne_of_lt (Nat.lt_of_lt_of_le F7.lt sz_b2_6_1_2))))).other W14 (Or.inl (Ne.symm (Nat.ne_of_lt (Nat.lt_of_lt_of_le F7.lt sz_b2_6_1_2))))).other W18 (Or.inl (Ne.symm (Nat.ne_of_lt (Nat.lt_of_lt_of_le F7.lt sz_b2_6_1_2))))).other W22 (Or.inl (Ne.symm (Nat.ne_of_lt (Nat.lt_of_lt_of_le F7.lt sz_b2_6_1_2)))))
  have f30 : Fld Z h22 b2_6_1_2 cn7 "e1" cn11 (.ref ov20) := (((((bf2_2.other W6 (Or.inl (Ne.symm (Nat.ne_of_lt (Nat.lt_of_lt_of_le F7.lt sz_b2_6_1_2))))).other W10 (Or.inl (Ne.symm (Nat.ne_of_lt (Nat.lt_of_lt_of_le F7.lt sz_b2_6_1_2))))).other W14 (Or.inl (Ne.symm (Nat.ne_of_lt (Nat.lt_of_lt_of_le F7.lt sz_b2_6_1_2))))).other W18 (Or.inl (Ne.symm (Nat.ne_of_lt (Nat.lt_of_lt_of_le F7.lt sz_b2_6_1_2))))).other W22 (Or.inl (Ne.symm (Nat.ne_of_lt (Nat.lt_of_lt_of_le F7.lt sz_b2_6_1_2)))))
  exact ⟨N22, K23, ⟨b2_6_1_2, rfl, sz_b2_6_1_2, f24, f25, f26, f27, Fw22, f28, f29, f30⟩⟩
def Q_r58_read (Z : State) (yi1 : Int32) (yv2 : Value) (yv3 : Value) (ya4 : Addr) (ya5 : Addr) (yk6 : ClassId) (ya7 : Addr) (ymir : Addr) (ov20 : Addr) (h0 : Heap) (n0 : Nat) (v : Option Value) (h : Heap) (L : List Loc) : Prop := Fr n0 L ∧ Keep h0 h [] ∧ ((∃ (b1 : Addr) (b2_6_1_2_10 : Addr), v = some (.ref b1) ∧ h0.size ≤ b1 ∧ h0.size ≤ b2_6_1_2_10 ∧ b1 ≠ b2_6_1_2_10 ∧ Exa Z h b1 cn1 ∧ Fld Z h b1 cn1 "number" "I" (.int yi1) ∧ Fld Z h b1 cn1 "location" cn4 yv2 ∧ Fld Z h b1 cn1 "source" cn4 yv3 ∧ Fld Z h b1 cn1 "values" cn12 (.ref b2_6_1_2_10) ∧ Fld Z h b1 cn1 "problem" cn4 .null ∧ Exa Z h b2_6_1_2_10 cn7 ∧ Fld Z h b2_6_1_2_10 cn7 "e0" cn11 (.ref ya7) ∧ Fld Z h b2_6_1_2_10 cn7 "e1" cn11 (.ref ov20)))
set_option maxRecDepth 65536 in
set_option maxHeartbeats 40000000 in
theorem r58_read (l : Launch) (Z : State) (a0 : Array Value) (hw : ∀ d ∈ tables_1, d.before a0 Z = true) (ws : List Jvm.Cond) (yi1 : Int32) (yv2 : Value) (yv3 : Value) (ya4 : Addr) (ya5 : Addr) (yk6 : ClassId) (ya7 : Addr) (ymir : Addr) (ov20 : Addr) (h0 : Heap) (n0 : Nat) (O0 : Old Z n0 h0) (F0 : Exa Z h0 ya4 cn2) (F1 : Fld Z h0 ya4 cn2 "size" "I" (.int (1 : Int32))) (F2 : Fld Z h0 ya4 cn2 "elementData" cn6 (.ref ya5)) (F3 : Exa Z h0 ya5 cn6) (F4 : Arv Z h0 ya5 yk6 (.object cn3) (10 : Int32) [(.ref ya7), .null, .null, .null, .null, .null, .null, .null, .null, .null] .null) (F5 : Exa Z h0 ya7 cn5) (F6 : Ovr Z yk6 cn3) (oS22 : Sta Z Z.heap cn9 "EMPTY" cn11 (.ref ov20)) (hy1 : yv2.isRef = true) (hy2 : yv3.isRef = true) (hy3 : Mir Z cn6 ymir) :
    MetFree l (⟨cn1, "read", cn20⟩ : MethodName) (head1 (Jvm.Cond.code (⟨cn1, "read", cn20⟩ : MethodName) prog_51_method_2_code 4 (some (.object cn1)) :: ws) ({ frames := 9, cells := 3, slots := 8, locals := 118 } : Room)) (fun a U => a = #[(.int yi1), yv2, yv3, (.ref ya4)] ∧ Z.Warmed39 U.vm ∧ U.heap = h0) (fun _ _ _ _ _ => True) (fun _ U o U' => ∃ v L, o = .returned v ∧ Q_r58_read Z yi1 yv2 yv3 ya4 ya5 yk6 ya7 ymir ov20 h0 n0 v U'.heap L ∧ FrameEnd U o U' L ({ frames := 9, cells := 3, slots := 8, locals := 118 } : Room).cells ({ frames := 9, cells := 3, slots := 8, locals := 118 } : Room).slots) := by
  refine MetFree.of_bodySF (plainFor_of_name pn_com_example_causeway_causeway_formats_OaiDcUnit) hisR ?_
  intro p e s m args below meth c s₁ Bd hml0 hP hK
  obtain ⟨rfl, hZ, hh⟩ := hP
  have hx := Bd.exec
  have hby := Bd.bytes
  have hlk := Bd.notSynchronized
  have hml : c.maxLocals = 4 := hml0
  have hown : s.vm.findClass cn1 = some m.cls := findClass_of_methodNamed Bd.named
  have hnm := (name_of_methodNamed Bd.named Bd.method).1
  have X0 : Stand p l e ({ frames := 9, cells := 3, slots := 8, locals := 118 } : Room) s m #[(.int yi1), yv2, yv3, (.ref ya4)] below meth c s₁ [] 0 0 := Stand.of_body Bd
  have e0 : s₁.heap = h0 := by rw [← hh, Bd.state]; rfl
  have N0 := Fr.nil n0
  have K0 := Keep.refl h0 []
  have Z0 : n0 ≤ h0.size := O0.1 ▸ O0.2.1
  have hef : entryFrame m #[(.int yi1), yv2, yv3, (.ref ya4)] 4 = mkF m 0 #[.val (.int yi1), .val yv2, .val yv3, .val (.ref ya4)] [] := by first | (simp [entryFrame, mkF, argsToLocals, own_cI, own_cJ, own_cR, own_cN, own_cF, own_cD, own_catR hy1, own_catR hy2]; done) | rfl
  rw [hef]
  refine Gets.out (Q := Q_r58_read Z yi1 yv2 yv3 ya4 ya5 yk6 ya7 ymir ov20 h0 n0) ?_
  show Gets p e below _ (s₁.setTop (mkF m 0 #[.val (.int yi1), .val yv2, .val yv3, .val (.ref ya4)] []))
  obtain ⟨T1, h1, X1, e1, E1, A1, D1, -, st1⟩ := newO X0 hx hZ hown (w109 hw) (w51 hw) (w52 hw) e0 (g := (mkF m 0 #[.val (.int yi1), .val yv2, .val yv3, .val (.ref ya4)] [])) rfl (hb hby d16_0) (by decide) (by decide)
  obtain ⟨b1, g1⟩ : ∃ z, z = h0.size := ⟨_, rfl⟩
  rw [← g1] at A1 D1 st1
  have sz_b1 : h0.size ≤ b1 := Nat.le_trans K0.1 (Nat.le_of_eq g1.symm)
  have g_b1 : n0 ≤ b1 := Nat.le_trans Z0 sz_b1
  have K2 := K0.ext E1
  have O2 := O0.ext E1
  have F1_92 : Fld Z h1 b1 cn1 "number" "I" (.int (0 : Int32)) := D1 (Or.inr (w92 hw)) (ty := .int) (by decide)
  have F1_94 : Fld Z h1 b1 cn1 "location" cn4 .null := D1 (Or.inr (w94 hw)) (ty := (.object cn0)) (by decide)
  have F1_96 : Fld Z h1 b1 cn1 "source" cn4 .null := D1 (Or.inr (w96 hw)) (ty := (.object cn0)) (by decide)
  have F1_98 : Fld Z h1 b1 cn1 "values" cn12 .null := D1 (Or.inr (w98 hw)) (ty := (.object "java/util/List")) (by decide)
  have F1_100 : Fld Z h1 b1 cn1 "problem" cn4 .null := D1 (Or.inr (w100 hw)) (ty := (.object cn0)) (by decide)
  refine Gets.of st1 ?_
  show Gets p e below _ (T1.setTop (mkF m 3 #[.val (.int yi1), .val yv2, .val yv3, .val (.ref ya4)] [(.ref b1)]))
  refine Gets.of (fun t k => XS.dup X1.here hx rfl (hb hby d16_3) rfl rfl k) ?_
  refine Gets.of (fun t k => XS.iloadN X1.here hx rfl (hb hby d16_4) rfl  k) ?_
  refine Gets.of (fun t k => XS.aloadN X1.here hx rfl (hb hby d16_5) rfl hy1  k) ?_
  refine Gets.of (fun t k => XS.aloadN X1.here hx rfl (hb hby d16_6) rfl hy2  k) ?_
  show Gets p e below _ (T1.setTop (mkF m 7 #[.val (.int yi1), .val yv2, .val yv3, .val (.ref ya4)] [yv3, yv2, (.int yi1), (.ref b1), (.ref b1)]))
  refine Gets.of (fun t k => XS.aloadN X1.here hx rfl (hb hby d16_7) rfl rfl  k) ?_
  refine Gets.of (fun t k => XS.aconstNull X1.here hx rfl (hb hby d16_8) k) ?_
  have f3 : Exa Z h1 ya4 cn2 := (F0.ext E1)
  have f4 : Fld Z h1 ya4 cn2 "size" "I" (.int (1 : Int32)) := (F1.ext E1)
  have f5 : Ovr Z yk6 cn3 := F6
  have f6 : Fld Z h1 ya4 cn2 "elementData" cn6 (.ref ya5) := (F2.ext E1)
  have f7 : Exa Z h1 ya5 cn6 := (F3.ext E1)
  have f8 : Arv Z h1 ya5 yk6 (.object cn3) (10 : Int32) [(.ref ya7), .null, .null, .null, .null, .null, .null, .null, .null, .null] .null := (F4.ext E1)
  have f9 : Exa Z h1 ya7 cn5 := (F5.ext E1)
  obtain ⟨_, _, ⟨T10, L10, k10, n10⟩, -, X10, ⟨Lc10, hQ10, l10, y10, z10⟩, st10⟩ := X1.specialBack hx (y := (⟨cn1, "<init>", cn16⟩ : MethodName)) rfl hown (mvT hZ (w110 hw)) (mvT hZ (w54 hw)) (mvT hZ (w55 hw)) (by decide) (backOf (W := 1) (r45_init l Z a0 hw [] b1 yi1 yv2 yv3 ya4 .null yk6 ymir ya5 ya7 ov20 h1 n0 O2 f3 f4 f5 f6 f7 f8 f9 A1 F1_92 F1_94 F1_96 F1_98 F1_100 oS22 g_b1 hy3 hy1 hy2 rfl) hZ (w55 hw) (w52 hw) (by decide) (by decide)) (g := (mkF m 9 #[.val (.int yi1), .val yv2, .val yv3, .val (.ref ya4)] [.null, (.ref ya4), yv3, yv2, (.int yi1), (.ref b1), (.ref b1)])) rfl (by rw [hml]; rfl) (Steps.refl _) (a := b1) (argsL := [(.int yi1), yv2, yv3, (.ref ya4), .null]) (rest := [(.ref b1)]) (lenOf pd__ILjava_lang_String_Ljava_lang_String_Ljava_util_List_Ljava_lang_String_V rfl) rfl (by show 2 * 0 + _ ≤ _; exact Nat.le_of_eq rfl) (hb hby d16_9) (fun _ _ => ⟨rfl, e1, (by decide : 1 + 2 ≤ _), (by decide : 5 + 3 ≤ _)⟩)
  dsimp only [Pt.U, Pt.locs, Pt.cells, Pt.slots] at X10 l10 y10 z10 st10 hQ10
  subst l10 y10 z10
  obtain ⟨Nq10, Kq10, hR10⟩ := hQ10
  have N10 := Fr.app N0 Nq10
  have K11 : Keep h0 _ [] := K2.trans Kq10 (allS (Or.inr sz_b1) all0)
  have O11 := O2.keep Kq10 (allS g_b1 all0)
  obtain ⟨b2_6_1_2_10, rfl, bz10_0, bf10_0, bf10_1, bf10_2, bf10_3, bf10_4, bf10_5, bf10_6, bf10_7⟩ := hR10
  have sz_b2_6_1_2_10 : h0.size ≤ b2_6_1_2_10 := Nat.le_trans K2.1 bz10_0
  have g_b2_6_1_2_10 : n0 ≤ b2_6_1_2_10 := Nat.le_trans Z0 sz_b2_6_1_2_10
  refine Gets.tr st10 ?_
  show Gets p e below _ (T10.setTop (mkF m 12 #[.val (.int yi1), .val yv2, .val yv3, .val (.ref ya4)] [(.ref b1)]))
  refine Gets.retA X10 hx Bd.returns rfl rfl (hb hby d16_12) ?_ (by decide) (by decide)
  have f12 : Exa Z T10.heap b1 cn1 := (A1.keep Kq10)
  exact ⟨N10, K11, ⟨b1, b2_6_1_2_10, rfl, sz_b1, sz_b2_6_1_2_10, (Nat.ne_of_lt (Nat.lt_of_lt_of_le A1.lt bz10_0)), f12, bf10_0, bf10_1, bf10_2, bf10_3, bf10_4, bf10_5, bf10_6, bf10_7⟩⟩
def Q_rm_law (Z : State) (p1 : Int32) (p2 : Int32) (p3 : Int32) (p4 : Int32) (oi1 : Int32) (ov5 : Addr) (ov14 : Addr) (ov20 : Addr) (ov26 : Addr) (ok31 : ClassId) (ymir : Addr) (h0 : Heap) (n0 : Nat) (v : Option Value) (h : Heap) (L : List Loc) : Prop := Fr n0 L ∧ Keep h0 h [] ∧ ((v = some (.int (1 : Int32))))
set_option maxRecDepth 65536 in
set_option maxHeartbeats 40000000 in
theorem rm_law (l : Launch) (Z : State) (a0 : Array Value) (hw : ∀ d ∈ tables_1, d.before a0 Z = true) (ws : List Jvm.Cond) (p1 : Int32) (p2 : Int32) (p3 : Int32) (p4 : Int32) (oi1 : Int32) (ov5 : Addr) (ov14 : Addr) (ov20 : Addr) (ov26 : Addr) (ok31 : ClassId) (ymir : Addr) (h0 : Heap) (n0 : Nat) (O0 : Old Z n0 h0) (oS3 : Sta Z Z.heap cn0 "COMPACT_STRINGS" "Z" (.int oi1)) (oS7 : Sta Z Z.heap cn2 "DEFAULTCAPACITY_EMPTY_ELEMENTDATA" cn6 (.ref ov5)) (oE10 : Exa Z Z.heap ov5 cn6) (oS16 : Sta Z Z.heap cn9 "EMPTY_LIST" "Ljava/util/ImmutableCollections$ListN;" (.ref ov14)) (oE17 : Exa Z Z.heap ov14 cn19) (oF19 : Fld Z Z.heap ov14 cn19 "allowNulls" "Z" (.int (0 : Int32))) (oS22 : Sta Z Z.heap cn9 "EMPTY" cn11 (.ref ov20)) (oE23 : Exa Z Z.heap ov20 cn3) (oS25 : Sta Z Z.heap cn9 "$assertionsDisabled" "Z" (.int (1 : Int32))) (oS28 : Sta Z Z.heap cn17 "TITLE" cn18 (.ref ov26)) (oE29 : Exa Z Z.heap ov26 cn17) (oV30 : Arv Z Z.heap ov5 ok31 (.object cn3) (0 : Int32) [] .null) (oh4 : ¬ (oi1 = (0 : Int32))) (hmir : Mir Z cn6 ymir) :
    MetFree l x (head1 (Jvm.Cond.code x code maxLocals ret :: ws) room_1) (fun a U => a = #[(.int p1), (.int p2), (.int p3), (.int p4)] ∧ Z.Warmed39 U.vm ∧ U.heap = h0 ∧ CHv Z own_EL U.vm h0) (fun _ _ _ _ _ => True) (fun _ U o U' => ∃ v L, o = .returned v ∧ Q_rm_law Z p1 p2 p3 p4 oi1 ov5 ov14 ov20 ov26 ok31 ymir h0 n0 v U'.heap L ∧ ReturnedEndW U o U' L room_1.cells room_1.slots) := by
  refine MetFree.of_bodySF (plainFor_of_name pn_com_example_causeway_causeway_formats_OaiDcUnitIsSetAsidePinLaw) hisR ?_
  intro p e s m args below meth c s₁ Bd hml0 hP hK
  obtain ⟨rfl, hZ0, hh, hC0⟩ := hP
  have hx := Bd.exec
  have hby := Bd.bytes
  have hlk := Bd.notSynchronized
  have hml : c.maxLocals = 13 := hml0
  have hZ : Z.Warmed39 (s.setVm s.vm).vm := hZ0
  have hown : (s.setVm s.vm).vm.findClass cn13 = some m.cls := findClass_of_methodNamed Bd.named
  have hnm := (name_of_methodNamed Bd.named Bd.method).1
  have X0 : Stand p l e room_1 (s.setVm s.vm) m #[(.int p1), (.int p2), (.int p3), (.int p4)] below meth c s₁ [] 0 0 := Stand.of_body Bd
  have hS0 : s.Since s.vm s.heap.size := (State.WarmedH.refl s).since _
  have hk0 : s.heap.size ≤ h0.size := Nat.le_of_eq (congrArg Array.size hh)
  have e0 : s₁.heap = h0 := by rw [← hh, Bd.state]; rfl
  have N0 := Fr.nil n0
  have K0 := Keep.refl h0 []
  have Z0 : n0 ≤ h0.size := O0.1 ▸ O0.2.1
  have hef : entryFrame m #[(.int p1), (.int p2), (.int p3), (.int p4)] maxLocals = mkF m 0 #[.val (.int p1), .val (.int p2), .val (.int p3), .val (.int p4), .unset, .unset, .unset, .unset, .unset, .unset, .unset, .unset, .unset] [] := by first | (simp [entryFrame, mkF, argsToLocals, Value.category, maxLocals]; done) | rfl
  rw [hef]
  refine GetsW.out (Q := Q_rm_law Z p1 p2 p3 p4 oi1 ov5 ov14 ov20 ov26 ok31 ymir h0 n0) ?_
  show Gets p e below _ (s₁.setTop (mkF m 0 #[.val (.int p1), .val (.int p2), .val (.int p3), .val (.int p4), .unset, .unset, .unset, .unset, .unset, .unset, .unset, .unset, .unset] []))
  refine Gets.of (fun t k => XS.iloadN X0.here hx rfl (hb hby at_0) rfl  k) ?_
  refine Gets.of (fun t k => XS.iconst X0.here hx rfl (hb hby at_1) k) ?_
  refine Gets.of (fun t k => XS.iand X0.here hx rfl (hb hby at_2) rfl k) ?_
  show Gets p e below _ (s₁.setTop (mkF m 3 #[.val (.int p1), .val (.int p2), .val (.int p3), .val (.int p4), .unset, .unset, .unset, .unset, .unset, .unset, .unset, .unset, .unset] [(.int (p2 &&& (1 : Int32)))]))
  have J1 : ∀ (jz1 : Int32), (jz1 = 0 ∨ jz1 = 1) → Gets p e below (OutW (Q_rm_law Z p1 p2 p3 p4 oi1 ov5 ov14 ov20 ov26 ok31 ymir h0 n0) s below room_1.cells room_1.slots) (s₁.setTop (mkF m 11 #[.val (.int p1), .val (.int p2), .val (.int p3), .val (.int p4), .unset, .unset, .unset, .unset, .unset, .unset, .unset, .unset, .unset] [(.int jz1)])) := by
    intro jz1 hj1
    show Gets p e below _ (s₁.setTop (mkF m 11 #[.val (.int p1), .val (.int p2), .val (.int p3), .val (.int p4), .unset, .unset, .unset, .unset, .unset, .unset, .unset, .unset, .unset] [(.int jz1)]))
    refine Gets.of (fun t k => XS.istore X0.here hx rfl (hb hby at_11) rfl (l' := #[.val (.int p1), .val (.int p2), .val (.int p3), .val (.int p4), .val (.int jz1), .unset, .unset, .unset, .unset, .unset, .unset, .unset, .unset]) rfl k) ?_
    show Gets p e below _ (s₁.setTop (mkF m 13 #[.val (.int p1), .val (.int p2), .val (.int p3), .val (.int p4), .val (.int jz1), .unset, .unset, .unset, .unset, .unset, .unset, .unset, .unset] []))
    refine Gets.of (fun t k => XS.iloadN X0.here hx rfl (hb hby at_13) rfl  k) ?_
    refine Gets.of (fun t k => XS.iconst X0.here hx rfl (hb hby at_14) k) ?_
    refine Gets.of (fun t k => XS.iushr X0.here hx rfl (hb hby at_15) rfl k) ?_
    show Gets p e below _ (s₁.setTop (mkF m 16 #[.val (.int p1), .val (.int p2), .val (.int p3), .val (.int p4), .val (.int jz1), .unset, .unset, .unset, .unset, .unset, .unset, .unset, .unset] [(.int ((p2.toUInt32 >>> ((1 : Int32) &&& 31).toUInt32).toInt32))]))
    refine Gets.of (fun t k => XS.iconst X0.here hx rfl (hb hby at_16) k) ?_
    refine Gets.of (fun t k => XS.iand X0.here hx rfl (hb hby at_17) rfl k) ?_
    show Gets p e below _ (s₁.setTop (mkF m 18 #[.val (.int p1), .val (.int p2), .val (.int p3), .val (.int p4), .val (.int jz1), .unset, .unset, .unset, .unset, .unset, .unset, .unset, .unset] [(.int (((p2.toUInt32 >>> ((1 : Int32) &&& 31).toUInt32).toInt32) &&& (3 : Int32)))]))
    refine Gets.of (fun t k => XS.istore X0.here hx rfl (hb hby at_18) rfl (l' := #[.val (.int p1), .val (.int p2), .val (.int p3), .val (.int p4), .val (.int jz1), .val (.int (((p2.toUInt32 >>> ((1 : Int32) &&& 31).toUInt32).toInt32) &&& (3 : Int32))), .unset, .unset, .unset, .unset, .unset, .unset, .unset]) rfl k) ?_
    show Gets p e below _ (s₁.setTop (mkF m 20 #[.val (.int p1), .val (.int p2), .val (.int p3), .val (.int p4), .val (.int jz1), .val (.int (((p2.toUInt32 >>> ((1 : Int32) &&& 31).toUInt32).toInt32) &&& (3 : Int32))), .unset, .unset, .unset, .unset, .unset, .unset, .unset] []))
    refine Gets.of (fun t k => XS.aconstNull X0.here hx rfl (hb hby at_20) k) ?_
    refine Gets.of (fun t k => XS.astore X0.here hx rfl (hb hby at_21) rfl rfl (l' := #[.val (.int p1), .val (.int p2), .val (.int p3), .val (.int p4), .val (.int jz1), .val (.int (((p2.toUInt32 >>> ((1 : Int32) &&& 31).toUInt32).toInt32) &&& (3 : Int32))), .val .null, .unset, .unset, .unset, .unset, .unset, .unset]) rfl k) ?_
    show Gets p e below _ (s₁.setTop (mkF m 23 #[.val (.int p1), .val (.int p2), .val (.int p3), .val (.int p4), .val (.int jz1), .val (.int (((p2.toUInt32 >>> ((1 : Int32) &&& 31).toUInt32).toInt32) &&& (3 : Int32))), .val .null, .unset, .unset, .unset, .unset, .unset, .unset] []))
    refine Gets.of (fun t k => XS.iload X0.here hx rfl (hb hby at_23) rfl  k) ?_
    by_cases hc2 : jz1 = (0 : Int32)
    · skip
      refine Gets.of (fun t k => XS.ifNo X0.here hx rfl (hb hby at_25) rfl ((if0 _ _).trans (teq hc2).2) k) ?_
      show Gets p e below _ (s₁.setTop (mkF m 28 #[.val (.int p1), .val (.int p2), .val (.int p3), .val (.int p4), .val (.int jz1), .val (.int (((p2.toUInt32 >>> ((1 : Int32) &&& 31).toUInt32).toInt32) &&& (3 : Int32))), .val .null, .unset, .unset, .unset, .unset, .unset, .unset] []))
      refine Gets.of (fun t k => XS.iload X0.here hx rfl (hb hby at_28) rfl  k) ?_
      refine Gets.of (fun t k => XS.iloadN X0.here hx rfl (hb hby at_30) rfl  k) ?_
      refine Gets.of (fun t k => XS.iloadN X0.here hx rfl (hb hby at_31) rfl  k) ?_
      obtain ⟨_, _, ⟨T3, L3, k3, n3⟩, -, Xw3, hSw3, hgw3, ⟨Lc3, hQ3, l3, y3, z3⟩, st3⟩ := callSS X0 hx (y := (⟨cn13, "drawn", "(III)Ljava/lang/String;"⟩ : MethodName)) hown (mvT hZ (w111 hw)) (mvT hZ (w112 hw)) (mvT hZ (w113 hw)) (mvT hZ (w114 hw)) (by decide) (own_backC (W := 0) (rm_drawn l Z a0 hw [] (((p2.toUInt32 >>> ((1 : Int32) &&& 31).toUInt32).toInt32) &&& (3 : Int32)) p3 p4 oi1 h0 n0 O0 oS3 oh4) hZ (w114 hw) (w113 hw) (by decide) (by decide) (own_EW hw) hC0) (g := (mkF m 32 #[.val (.int p1), .val (.int p2), .val (.int p3), .val (.int p4), .val (.int jz1), .val (.int (((p2.toUInt32 >>> ((1 : Int32) &&& 31).toUInt32).toInt32) &&& (3 : Int32))), .val .null, .unset, .unset, .unset, .unset, .unset, .unset] [(.int p4), (.int p3), (.int (((p2.toUInt32 >>> ((1 : Int32) &&& 31).toUInt32).toInt32) &&& (3 : Int32)))])) rfl (by rw [hml]; rfl) (argsL := [(.int (((p2.toUInt32 >>> ((1 : Int32) &&& 31).toUInt32).toInt32) &&& (3 : Int32))), (.int p3), (.int p4)]) (rest := []) (lenOf pd__III_Ljava_lang_String_ rfl) rfl (by show 2 * 0 + _ ≤ _; exact Nat.le_of_eq rfl) (hb hby at_32) (fun _ _ => ⟨rfl, e0, (by decide : 0 + 4 ≤ _), (by decide : 0 + 10 ≤ _)⟩)
      dsimp only [Pt.U, Pt.locs, Pt.cells, Pt.slots] at Xw3 hSw3 hgw3 l3 y3 z3 st3 hQ3
      subst l3 y3 z3
      obtain ⟨X3, hS3, hZ3, hown3⟩ := rebS hS0 (by rw [e0]; exact hk0) Xw3 hSw3 hgw3 hZ hown
      obtain ⟨Nq3, Kq3, hR3⟩ := hQ3
      have N3 := Fr.app N0 Nq3
      have K4 : Keep h0 _ [] := K0.trans Kq3 all0
      have O4 := O0.keep Kq3 all0
      have hk5 := Nat.le_trans hk0 Kq3.1
      obtain ⟨yb_3, rfl, bz3_0, bf3_0⟩ := hR3
      have sz_yb_3 : h0.size ≤ yb_3 := Nat.le_trans K0.1 bz3_0
      have g_yb_3 : n0 ≤ yb_3 := Nat.le_trans Z0 sz_yb_3
      refine Gets.tr st3 ?_
      show Gets p e below _ (T3.setTop (mkF m 35 #[.val (.int p1), .val (.int p2), .val (.int p3), .val (.int p4), .val (.int jz1), .val (.int (((p2.toUInt32 >>> ((1 : Int32) &&& 31).toUInt32).toInt32) &&& (3 : Int32))), .val .null, .unset, .unset, .unset, .unset, .unset, .unset] [(.ref yb_3)]))
      refine Gets.of (fun t k => XS.astore X3.here hx rfl (hb hby at_35) rfl rfl (l' := #[.val (.int p1), .val (.int p2), .val (.int p3), .val (.int p4), .val (.int jz1), .val (.int (((p2.toUInt32 >>> ((1 : Int32) &&& 31).toUInt32).toInt32) &&& (3 : Int32))), .val (.ref yb_3), .unset, .unset, .unset, .unset, .unset, .unset]) rfl k) ?_
      show Gets p e below _ (T3.setTop (mkF m 37 #[.val (.int p1), .val (.int p2), .val (.int p3), .val (.int p4), .val (.int jz1), .val (.int (((p2.toUInt32 >>> ((1 : Int32) &&& 31).toUInt32).toInt32) &&& (3 : Int32))), .val (.ref yb_3), .unset, .unset, .unset, .unset, .unset, .unset] []))
      refine Gets.of (fun t k => XS.iloadN X3.here hx rfl (hb hby at_37) rfl  k) ?_
      refine Gets.of (fun t k => XS.sipush X3.here hx rfl (hb hby at_38) k) ?_
      refine Gets.of (fun t k => XS.iand X3.here hx rfl (hb hby at_41) rfl k) ?_
      show Gets p e below _ (T3.setTop (mkF m 42 #[.val (.int p1), .val (.int p2), .val (.int p3), .val (.int p4), .val (.int jz1), .val (.int (((p2.toUInt32 >>> ((1 : Int32) &&& 31).toUInt32).toInt32) &&& (3 : Int32))), .val (.ref yb_3), .unset, .unset, .unset, .unset, .unset, .unset] [(.int (p4 &&& (255 : Int32)))]))
      refine Gets.of (fun t k => XS.i2c X3.here hx rfl (hb hby at_42) rfl k) ?_
      show Gets p e below _ (T3.setTop (mkF m 43 #[.val (.int p1), .val (.int p2), .val (.int p3), .val (.int p4), .val (.int jz1), .val (.int (((p2.toUInt32 >>> ((1 : Int32) &&& 31).toUInt32).toInt32) &&& (3 : Int32))), .val (.ref yb_3), .unset, .unset, .unset, .unset, .unset, .unset] [(.int ((p4 &&& (255 : Int32)).toUInt32.toUInt16.toUInt32.toInt32))]))
      obtain ⟨_, _, ⟨T6, L6, k6, n6⟩, -, X6, ⟨Lc6, hQ6, l6, y6, z6⟩, st6⟩ := Jvm.LawKit.callS X3 hx (y := (⟨cn0, "valueOf", "(C)Ljava/lang/String;"⟩ : MethodName)) hown3 (mvT hZ3 (w0 hw)) (mvT hZ3 (w1 hw)) (mvT hZ3 (w2 hw)) (mvT hZ3 (w3 hw)) (by decide) (backOf (W := 0) (r18_valueOf l Z a0 hw [] ((p4 &&& (255 : Int32)).toUInt32.toUInt16.toUInt32.toInt32) oi1 T3.heap n0 O4 oS3 oh4 (own_le255 _)) hZ3 (w3 hw) (w2 hw) (by decide) (by decide)) (g := (mkF m 43 #[.val (.int p1), .val (.int p2), .val (.int p3), .val (.int p4), .val (.int jz1), .val (.int (((p2.toUInt32 >>> ((1 : Int32) &&& 31).toUInt32).toInt32) &&& (3 : Int32))), .val (.ref yb_3), .unset, .unset, .unset, .unset, .unset, .unset] [(.int ((p4 &&& (255 : Int32)).toUInt32.toUInt16.toUInt32.toInt32))])) rfl (by rw [hml]; rfl) (argsL := [(.int ((p4 &&& (255 : Int32)).toUInt32.toUInt16.toUInt32.toInt32))]) (rest := []) (lenOf pd__C_Ljava_lang_String_ rfl) rfl (by show 2 * 0 + _ ≤ _; exact Nat.le_of_eq rfl) (hb hby at_43) (fun _ _ => ⟨rfl, rfl, (by decide : 4 + 2 ≤ _), (by decide : 10 + 5 ≤ _)⟩)
      dsimp only [Pt.U, Pt.locs, Pt.cells, Pt.slots] at X6 l6 y6 z6 st6 hQ6
      subst l6 y6 z6
      obtain ⟨Nq6, Kq6, hR6⟩ := hQ6
      have N6 := Fr.app N3 Nq6
      have K7 : Keep h0 _ [] := K4.trans Kq6 all0
      have O7 := O4.keep Kq6 all0
      have hk8 := Nat.le_trans (Nat.le_refl T3.heap.size) Kq6.1
      obtain ⟨b3_6, b1_5_6, k1_5_6, rfl, bz6_0, bz6_1, bn6_0, bf6_0, bf6_1, bf6_2, bf6_3, bf6_4⟩ := hR6
      have sz_b3_6 : h0.size ≤ b3_6 := Nat.le_trans K4.1 bz6_0
      have g_b3_6 : n0 ≤ b3_6 := Nat.le_trans Z0 sz_b3_6
      have sz_b1_5_6 : h0.size ≤ b1_5_6 := Nat.le_trans K4.1 bz6_1
      have g_b1_5_6 : n0 ≤ b1_5_6 := Nat.le_trans Z0 sz_b1_5_6
      refine Gets.of st6 ?_
      show Gets p e below _ (T6.setTop (mkF m 46 #[.val (.int p1), .val (.int p2), .val (.int p3), .val (.int p4), .val (.int jz1), .val (.int (((p2.toUInt32 >>> ((1 : Int32) &&& 31).toUInt32).toInt32) &&& (3 : Int32))), .val (.ref yb_3), .unset, .unset, .unset, .unset, .unset, .unset] [(.ref b3_6)]))
      refine Gets.of (fun t k => XS.astore X6.here hx rfl (hb hby at_46) rfl rfl (l' := #[.val (.int p1), .val (.int p2), .val (.int p3), .val (.int p4), .val (.int jz1), .val (.int (((p2.toUInt32 >>> ((1 : Int32) &&& 31).toUInt32).toInt32) &&& (3 : Int32))), .val (.ref yb_3), .val (.ref b3_6), .unset, .unset, .unset, .unset, .unset]) rfl k) ?_
      show Gets p e below _ (T6.setTop (mkF m 48 #[.val (.int p1), .val (.int p2), .val (.int p3), .val (.int p4), .val (.int jz1), .val (.int (((p2.toUInt32 >>> ((1 : Int32) &&& 31).toUInt32).toInt32) &&& (3 : Int32))), .val (.ref yb_3), .val (.ref b3_6), .unset, .unset, .unset, .unset, .unset] []))
      refine Gets.of (fun t k => XS.iloadN X6.here hx rfl (hb hby at_48) rfl  k) ?_
      refine Gets.of (fun t k => XS.bipush X6.here hx rfl (hb hby at_49) k) ?_
      refine Gets.of (fun t k => XS.iand X6.here hx rfl (hb hby at_51) rfl k) ?_
      show Gets p e below _ (T6.setTop (mkF m 52 #[.val (.int p1), .val (.int p2), .val (.int p3), .val (.int p4), .val (.int jz1), .val (.int (((p2.toUInt32 >>> ((1 : Int32) &&& 31).toUInt32).toInt32) &&& (3 : Int32))), .val (.ref yb_3), .val (.ref b3_6), .unset, .unset, .unset, .unset, .unset] [(.int (p2 &&& (8 : Int32)))]))
      by_cases hc9 : (p2 &&& (8 : Int32)) = (0 : Int32)
      · skip
        refine Gets.of (fun t k => XS.ifYes X6.here hx rfl (pc0 := 52) (pc' := 59) rfl (hb hby at_52) rfl ((if0 _ _).trans (teq hc9).1) (by decide) (by decide) k) ?_
        show Gets p e below _ (T6.setTop (mkF m 59 #[.val (.int p1), .val (.int p2), .val (.int p3), .val (.int p4), .val (.int jz1), .val (.int (((p2.toUInt32 >>> ((1 : Int32) &&& 31).toUInt32).toInt32) &&& (3 : Int32))), .val (.ref yb_3), .val (.ref b3_6), .unset, .unset, .unset, .unset, .unset] []))
        refine Gets.of (fun t k => XS.iloadN X6.here hx rfl (hb hby at_59) rfl  k) ?_
        refine Gets.of (fun t k => XS.sipush X6.here hx rfl (hb hby at_60) k) ?_
        refine Gets.of (fun t k => XS.iand X6.here hx rfl (hb hby at_63) rfl k) ?_
        show Gets p e below _ (T6.setTop (mkF m 64 #[.val (.int p1), .val (.int p2), .val (.int p3), .val (.int p4), .val (.int jz1), .val (.int (((p2.toUInt32 >>> ((1 : Int32) &&& 31).toUInt32).toInt32) &&& (3 : Int32))), .val (.ref yb_3), .val (.ref b3_6), .unset, .unset, .unset, .unset, .unset] [(.int (p3 &&& (255 : Int32)))]))
        refine Gets.of (fun t k => XS.i2c X6.here hx rfl (hb hby at_64) rfl k) ?_
        show Gets p e below _ (T6.setTop (mkF m 65 #[.val (.int p1), .val (.int p2), .val (.int p3), .val (.int p4), .val (.int jz1), .val (.int (((p2.toUInt32 >>> ((1 : Int32) &&& 31).toUInt32).toInt32) &&& (3 : Int32))), .val (.ref yb_3), .val (.ref b3_6), .unset, .unset, .unset, .unset, .unset] [(.int ((p3 &&& (255 : Int32)).toUInt32.toUInt16.toUInt32.toInt32))]))
        obtain ⟨_, _, ⟨T10, L10, k10, n10⟩, -, X10, ⟨Lc10, hQ10, l10, y10, z10⟩, st10⟩ := Jvm.LawKit.callS X6 hx (y := (⟨cn0, "valueOf", "(C)Ljava/lang/String;"⟩ : MethodName)) hown3 (mvT hZ3 (w0 hw)) (mvT hZ3 (w1 hw)) (mvT hZ3 (w2 hw)) (mvT hZ3 (w3 hw)) (by decide) (backOf (W := 0) (r18_valueOf l Z a0 hw [] ((p3 &&& (255 : Int32)).toUInt32.toUInt16.toUInt32.toInt32) oi1 T6.heap n0 O7 oS3 oh4 (own_le255 _)) hZ3 (w3 hw) (w2 hw) (by decide) (by decide)) (g := (mkF m 65 #[.val (.int p1), .val (.int p2), .val (.int p3), .val (.int p4), .val (.int jz1), .val (.int (((p2.toUInt32 >>> ((1 : Int32) &&& 31).toUInt32).toInt32) &&& (3 : Int32))), .val (.ref yb_3), .val (.ref b3_6), .unset, .unset, .unset, .unset, .unset] [(.int ((p3 &&& (255 : Int32)).toUInt32.toUInt16.toUInt32.toInt32))])) rfl (by rw [hml]; rfl) (argsL := [(.int ((p3 &&& (255 : Int32)).toUInt32.toUInt16.toUInt32.toInt32))]) (rest := []) (lenOf pd__C_Ljava_lang_String_ rfl) rfl (by show 2 * 0 + _ ≤ _; exact Nat.le_of_eq rfl) (hb hby at_65) (fun _ _ => ⟨rfl, rfl, (by decide : 6 + 2 ≤ _), (by decide : 15 + 5 ≤ _)⟩)
        dsimp only [Pt.U, Pt.locs, Pt.cells, Pt.slots] at X10 l10 y10 z10 st10 hQ10
        subst l10 y10 z10
        obtain ⟨Nq10, Kq10, hR10⟩ := hQ10
        have N10 := Fr.app N6 Nq10
        have K11 : Keep h0 _ [] := K7.trans Kq10 all0
        have O11 := O7.keep Kq10 all0
        have hk12 := Nat.le_trans hk8 Kq10.1
        obtain ⟨b3_10, b1_5_10, k1_5_10, rfl, bz10_0, bz10_1, bn10_0, bf10_0, bf10_1, bf10_2, bf10_3, bf10_4⟩ := hR10
        have sz_b3_10 : h0.size ≤ b3_10 := Nat.le_trans K7.1 bz10_0
        have g_b3_10 : n0 ≤ b3_10 := Nat.le_trans Z0 sz_b3_10
        have sz_b1_5_10 : h0.size ≤ b1_5_10 := Nat.le_trans K7.1 bz10_1
        have g_b1_5_10 : n0 ≤ b1_5_10 := Nat.le_trans Z0 sz_b1_5_10
        refine Gets.of st10 ?_
        show Gets p e below _ (T10.setTop (mkF m 68 #[.val (.int p1), .val (.int p2), .val (.int p3), .val (.int p4), .val (.int jz1), .val (.int (((p2.toUInt32 >>> ((1 : Int32) &&& 31).toUInt32).toInt32) &&& (3 : Int32))), .val (.ref yb_3), .val (.ref b3_6), .unset, .unset, .unset, .unset, .unset] [(.ref b3_10)]))
        refine Gets.of (fun t k => XS.astore X10.here hx rfl (hb hby at_68) rfl rfl (l' := #[.val (.int p1), .val (.int p2), .val (.int p3), .val (.int p4), .val (.int jz1), .val (.int (((p2.toUInt32 >>> ((1 : Int32) &&& 31).toUInt32).toInt32) &&& (3 : Int32))), .val (.ref yb_3), .val (.ref b3_6), .val (.ref b3_10), .unset, .unset, .unset, .unset]) rfl k) ?_
        show Gets p e below _ (T10.setTop (mkF m 70 #[.val (.int p1), .val (.int p2), .val (.int p3), .val (.int p4), .val (.int jz1), .val (.int (((p2.toUInt32 >>> ((1 : Int32) &&& 31).toUInt32).toInt32) &&& (3 : Int32))), .val (.ref yb_3), .val (.ref b3_6), .val (.ref b3_10), .unset, .unset, .unset, .unset] []))
        obtain ⟨T13, h13, X13, e13, E13, A13, D13, -, st13⟩ := newO X10 hx hZ3 hown3 (w26 hw) (w27 hw) (w28 hw) rfl (g := (mkF m 70 #[.val (.int p1), .val (.int p2), .val (.int p3), .val (.int p4), .val (.int jz1), .val (.int (((p2.toUInt32 >>> ((1 : Int32) &&& 31).toUInt32).toInt32) &&& (3 : Int32))), .val (.ref yb_3), .val (.ref b3_6), .val (.ref b3_10), .unset, .unset, .unset, .unset] [])) rfl (hb hby at_70) (by decide) (by decide)
        obtain ⟨b13, g13⟩ : ∃ z, z = T10.heap.size := ⟨_, rfl⟩
        rw [← g13] at A13 D13 st13
        have sz_b13 : h0.size ≤ b13 := Nat.le_trans K11.1 (Nat.le_of_eq g13.symm)
        have g_b13 : n0 ≤ b13 := Nat.le_trans Z0 sz_b13
        have K14 := K11.ext E13
        have O14 := O11.ext E13
        have hk15 := Nat.le_trans hk12 E13.1
        have F13_46 : Fld Z h13 b13 cn10 "modCount" "I" (.int (0 : Int32)) := D13 (Or.inl (w46 hw)) (ty := .int) (by decide)
        have F13_49 : Fld Z h13 b13 cn2 "elementData" cn6 .null := D13 (Or.inl (w49 hw)) (ty := (.array (.object cn3))) (by decide)
        have F13_86 : Fld Z h13 b13 cn2 "size" "I" (.int (0 : Int32)) := D13 (Or.inl (w86 hw)) (ty := .int) (by decide)
        refine Gets.of st13 ?_
        show Gets p e below _ (T13.setTop (mkF m 73 #[.val (.int p1), .val (.int p2), .val (.int p3), .val (.int p4), .val (.int jz1), .val (.int (((p2.toUInt32 >>> ((1 : Int32) &&& 31).toUInt32).toInt32) &&& (3 : Int32))), .val (.ref yb_3), .val (.ref b3_6), .val (.ref b3_10), .unset, .unset, .unset, .unset] [(.ref b13)]))
        refine Gets.of (fun t k => XS.dup X13.here hx rfl (hb hby at_73) rfl rfl k) ?_
        obtain ⟨_, _, ⟨T16, L16, k16, n16⟩, -, X16, ⟨Lc16, hQ16, l16, y16, z16⟩, st16⟩ := X13.specialBack hx (y := (⟨cn2, "<init>", "()V"⟩ : MethodName)) rfl hown3 (mvT hZ3 (w29 hw)) (mvT hZ3 (w30 hw)) (mvT hZ3 (w31 hw)) (by decide) (backOf (W := 1) (r22_init l Z a0 hw [] b13 ov5 h13 n0 O14 A13 F13_46 F13_49 F13_86 oS7 g_b13) hZ3 (w31 hw) (w28 hw) (by decide) (by decide)) (g := (mkF m 74 #[.val (.int p1), .val (.int p2), .val (.int p3), .val (.int p4), .val (.int jz1), .val (.int (((p2.toUInt32 >>> ((1 : Int32) &&& 31).toUInt32).toInt32) &&& (3 : Int32))), .val (.ref yb_3), .val (.ref b3_6), .val (.ref b3_10), .unset, .unset, .unset, .unset] [(.ref b13), (.ref b13)])) rfl (by rw [hml]; rfl) (Steps.refl _) (a := b13) (argsL := []) (rest := [(.ref b13)]) (lenOf pd__V rfl) rfl (by show 2 * 0 + _ ≤ _; exact Nat.le_of_eq rfl) (hb hby at_74) (fun _ _ => ⟨rfl, e13, (by decide : 9 + 0 ≤ _), (by decide : 23 + 0 ≤ _)⟩)
        dsimp only [Pt.U, Pt.locs, Pt.cells, Pt.slots] at X16 l16 y16 z16 st16 hQ16
        subst l16 y16 z16
        obtain ⟨Nq16, Kq16, hR16⟩ := hQ16
        have N16 := Fr.app N10 Nq16
        have K17 : Keep h0 _ [] := K14.trans Kq16 (allS (Or.inr sz_b13) all0)
        have O17 := O14.keep Kq16 (allS g_b13 all0)
        have hk18 := Nat.le_trans hk15 Kq16.1
        obtain ⟨rfl, bf16_0, bf16_1, bf16_2⟩ := hR16
        refine Gets.tr st16 ?_
        show Gets p e below _ (T16.setTop (mkF m 77 #[.val (.int p1), .val (.int p2), .val (.int p3), .val (.int p4), .val (.int jz1), .val (.int (((p2.toUInt32 >>> ((1 : Int32) &&& 31).toUInt32).toInt32) &&& (3 : Int32))), .val (.ref yb_3), .val (.ref b3_6), .val (.ref b3_10), .unset, .unset, .unset, .unset] [(.ref b13)]))
        refine Gets.of (fun t k => XS.astore X16.here hx rfl (hb hby at_77) rfl rfl (l' := #[.val (.int p1), .val (.int p2), .val (.int p3), .val (.int p4), .val (.int jz1), .val (.int (((p2.toUInt32 >>> ((1 : Int32) &&& 31).toUInt32).toInt32) &&& (3 : Int32))), .val (.ref yb_3), .val (.ref b3_6), .val (.ref b3_10), .val (.ref b13), .unset, .unset, .unset]) rfl k) ?_
        show Gets p e below _ (T16.setTop (mkF m 79 #[.val (.int p1), .val (.int p2), .val (.int p3), .val (.int p4), .val (.int jz1), .val (.int (((p2.toUInt32 >>> ((1 : Int32) &&& 31).toUInt32).toInt32) &&& (3 : Int32))), .val (.ref yb_3), .val (.ref b3_6), .val (.ref b3_10), .val (.ref b13), .unset, .unset, .unset] []))
        refine Gets.of (fun t k => XS.iloadN X16.here hx rfl (hb hby at_79) rfl  k) ?_
        refine Gets.of (fun t k => XS.bipush X16.here hx rfl (hb hby at_80) k) ?_
        refine Gets.of (fun t k => XS.iand X16.here hx rfl (hb hby at_82) rfl k) ?_
        show Gets p e below _ (T16.setTop (mkF m 83 #[.val (.int p1), .val (.int p2), .val (.int p3), .val (.int p4), .val (.int jz1), .val (.int (((p2.toUInt32 >>> ((1 : Int32) &&& 31).toUInt32).toInt32) &&& (3 : Int32))), .val (.ref yb_3), .val (.ref b3_6), .val (.ref b3_10), .val (.ref b13), .unset, .unset, .unset] [(.int (p2 &&& (16 : Int32)))]))
        by_cases hc19 : (p2 &&& (16 : Int32)) = (0 : Int32)
        · skip
          refine Gets.of (fun t k => XS.ifYes X16.here hx rfl (pc0 := 83) (pc' := 104) rfl (hb hby at_83) rfl ((if0 _ _).trans (teq hc19).1) (by decide) (by decide) k) ?_
          show Gets p e below _ (T16.setTop (mkF m 104 #[.val (.int p1), .val (.int p2), .val (.int p3), .val (.int p4), .val (.int jz1), .val (.int (((p2.toUInt32 >>> ((1 : Int32) &&& 31).toUInt32).toInt32) &&& (3 : Int32))), .val (.ref yb_3), .val (.ref b3_6), .val (.ref b3_10), .val (.ref b13), .unset, .unset, .unset] []))
          obtain ⟨T20, h20, X20, e20, E20, A20, D20, -, st20⟩ := newO X16 hx hZ3 hown3 (w50 hw) (w51 hw) (w52 hw) rfl (g := (mkF m 104 #[.val (.int p1), .val (.int p2), .val (.int p3), .val (.int p4), .val (.int jz1), .val (.int (((p2.toUInt32 >>> ((1 : Int32) &&& 31).toUInt32).toInt32) &&& (3 : Int32))), .val (.ref yb_3), .val (.ref b3_6), .val (.ref b3_10), .val (.ref b13), .unset, .unset, .unset] [])) rfl (hb hby at_104) (by decide) (by decide)
          obtain ⟨b20, g20⟩ : ∃ z, z = T16.heap.size := ⟨_, rfl⟩
          rw [← g20] at A20 D20 st20
          have up21 := Kq16.1
          have sz_b20 : h0.size ≤ b20 := Nat.le_trans K17.1 (Nat.le_of_eq g20.symm)
          have g_b20 : n0 ≤ b20 := Nat.le_trans Z0 sz_b20
          have K22 := K17.ext E20
          have O22 := O17.ext E20
          have hk23 := Nat.le_trans hk18 E20.1
          have F20_92 : Fld Z h20 b20 cn1 "number" "I" (.int (0 : Int32)) := D20 (Or.inr (w92 hw)) (ty := .int) (by decide)
          have F20_94 : Fld Z h20 b20 cn1 "location" cn4 .null := D20 (Or.inr (w94 hw)) (ty := (.object cn0)) (by decide)
          have F20_96 : Fld Z h20 b20 cn1 "source" cn4 .null := D20 (Or.inr (w96 hw)) (ty := (.object cn0)) (by decide)
          have F20_98 : Fld Z h20 b20 cn1 "values" cn12 .null := D20 (Or.inr (w98 hw)) (ty := (.object "java/util/List")) (by decide)
          have F20_100 : Fld Z h20 b20 cn1 "problem" cn4 .null := D20 (Or.inr (w100 hw)) (ty := (.object cn0)) (by decide)
          refine Gets.of st20 ?_
          show Gets p e below _ (T20.setTop (mkF m 107 #[.val (.int p1), .val (.int p2), .val (.int p3), .val (.int p4), .val (.int jz1), .val (.int (((p2.toUInt32 >>> ((1 : Int32) &&& 31).toUInt32).toInt32) &&& (3 : Int32))), .val (.ref yb_3), .val (.ref b3_6), .val (.ref b3_10), .val (.ref b13), .unset, .unset, .unset] [(.ref b20)]))
          refine Gets.of (fun t k => XS.dup X20.here hx rfl (hb hby at_107) rfl rfl k) ?_
          refine Gets.of (fun t k => XS.iloadN X20.here hx rfl (hb hby at_108) rfl  k) ?_
          refine Gets.of (fun t k => XS.aload X20.here hx rfl (hb hby at_109) rfl rfl  k) ?_
          refine Gets.of (fun t k => XS.aload X20.here hx rfl (hb hby at_111) rfl rfl  k) ?_
          show Gets p e below _ (T20.setTop (mkF m 113 #[.val (.int p1), .val (.int p2), .val (.int p3), .val (.int p4), .val (.int jz1), .val (.int (((p2.toUInt32 >>> ((1 : Int32) &&& 31).toUInt32).toInt32) &&& (3 : Int32))), .val (.ref yb_3), .val (.ref b3_6), .val (.ref b3_10), .val (.ref b13), .unset, .unset, .unset] [(.ref b3_10), (.ref b3_6), (.int p1), (.ref b20), (.ref b20)]))
          refine Gets.of (fun t k => XS.aload X20.here hx rfl (hb hby at_113) rfl rfl  k) ?_
          refine Gets.of (fun t k => XS.aload X20.here hx rfl (hb hby at_115) rfl rfl  k) ?_
          have f24 : Exa Z h20 b13 cn2 := ((A13.keep Kq16).ext E20)
          have f25 : Fld Z h20 b13 cn2 "size" "I" (.int (0 : Int32)) := (bf16_2.ext E20)
          obtain ⟨_, _, ⟨T26, L26, k26, n26⟩, -, X26, ⟨Lc26, hQ26, l26, y26, z26⟩, st26⟩ := X20.specialBack hx (y := (⟨cn1, "<init>", cn16⟩ : MethodName)) rfl hown3 (mvT hZ3 (w53 hw)) (mvT hZ3 (w54 hw)) (mvT hZ3 (w55 hw)) (by decide) (backOf (W := 1) (r25_init l Z a0 hw [] b20 p1 (.ref b3_6) (.ref b3_10) b13 (.ref yb_3) ov14 h20 n0 O22 f24 f25 A20 F20_92 F20_94 F20_96 F20_98 F20_100 oS16 g_b20 rfl rfl rfl) hZ3 (w55 hw) (w52 hw) (by decide) (by decide)) (g := (mkF m 117 #[.val (.int p1), .val (.int p2), .val (.int p3), .val (.int p4), .val (.int jz1), .val (.int (((p2.toUInt32 >>> ((1 : Int32) &&& 31).toUInt32).toInt32) &&& (3 : Int32))), .val (.ref yb_3), .val (.ref b3_6), .val (.ref b3_10), .val (.ref b13), .unset, .unset, .unset] [(.ref yb_3), (.ref b13), (.ref b3_10), (.ref b3_6), (.int p1), (.ref b20), (.ref b20)])) rfl (by rw [hml]; rfl) (Steps.refl _) (a := b20) (argsL := [(.int p1), (.ref b3_6), (.ref b3_10), (.ref b13), (.ref yb_3)]) (rest := [(.ref b20)]) (lenOf pd__ILjava_lang_String_Ljava_lang_String_Ljava_util_List_Ljava_lang_String_V rfl) rfl (by show 2 * 0 + _ ≤ _; exact Nat.le_of_eq rfl) (hb hby at_117) (fun _ _ => ⟨rfl, e20, (by decide : 10 + 0 ≤ _), (by decide : 28 + 0 ≤ _)⟩)
          dsimp only [Pt.U, Pt.locs, Pt.cells, Pt.slots] at X26 l26 y26 z26 st26 hQ26
          subst l26 y26 z26
          obtain ⟨Nq26, Kq26, hR26⟩ := hQ26
          have N26 := Fr.app N16 Nq26
          have K27 : Keep h0 _ [] := K22.trans Kq26 (allS (Or.inr sz_b20) all0)
          have O27 := O22.keep Kq26 (allS g_b20 all0)
          have hk28 := Nat.le_trans hk23 Kq26.1
          obtain ⟨rfl, bf26_0, bf26_1, bf26_2, bf26_3, bf26_4⟩ := hR26
          refine Gets.tr st26 ?_
          show Gets p e below _ (T26.setTop (mkF m 120 #[.val (.int p1), .val (.int p2), .val (.int p3), .val (.int p4), .val (.int jz1), .val (.int (((p2.toUInt32 >>> ((1 : Int32) &&& 31).toUInt32).toInt32) &&& (3 : Int32))), .val (.ref yb_3), .val (.ref b3_6), .val (.ref b3_10), .val (.ref b13), .unset, .unset, .unset] [(.ref b20)]))
          refine Gets.of (fun t k => XS.astore X26.here hx rfl (hb hby at_120) rfl rfl (l' := #[.val (.int p1), .val (.int p2), .val (.int p3), .val (.int p4), .val (.int jz1), .val (.int (((p2.toUInt32 >>> ((1 : Int32) &&& 31).toUInt32).toInt32) &&& (3 : Int32))), .val (.ref yb_3), .val (.ref b3_6), .val (.ref b3_10), .val (.ref b13), .val (.ref b20), .unset, .unset]) rfl k) ?_
          show Gets p e below _ (T26.setTop (mkF m 122 #[.val (.int p1), .val (.int p2), .val (.int p3), .val (.int p4), .val (.int jz1), .val (.int (((p2.toUInt32 >>> ((1 : Int32) &&& 31).toUInt32).toInt32) &&& (3 : Int32))), .val (.ref yb_3), .val (.ref b3_6), .val (.ref b3_10), .val (.ref b13), .val (.ref b20), .unset, .unset] []))
          refine Gets.of (fun t k => XS.aload X26.here hx rfl (hb hby at_122) rfl rfl  k) ?_
          have f30 : Exa Z T26.heap b20 cn1 := (A20.keep Kq26)
          obtain ⟨cq29, kq29, q29a, q29b, q29c⟩ := isOf hZ3 rfl f30
          obtain ⟨_, _, ⟨T29, L29, k29, n29⟩, -, X29, ⟨Lc29, hQ29, l29, y29, z29⟩, st29⟩ := X26.virtualBack hx (y := (⟨cn1, "isSetAside", "()Z"⟩ : MethodName)) (z := (⟨cn1, "isSetAside", "()Z"⟩ : MethodName)) hown3 (mvT hZ3 (w101 hw)) (mvT hZ3 (w102 hw)) (notFace_of_selects (args := #[]) (mvT hZ3 (w104 hw))) (mvT hZ3 (w104 hw)) (mvT hZ3 (w103 hw)) (by decide) (backOf (W := 0) (r31_isSetAside l Z a0 hw [] b20 yb_3 T26.heap n0 O27 bf26_4) hZ3 (w105 hw) (w52 hw) (by decide) (by decide)) q29a q29c (g := (mkF m 124 #[.val (.int p1), .val (.int p2), .val (.int p3), .val (.int p4), .val (.int jz1), .val (.int (((p2.toUInt32 >>> ((1 : Int32) &&& 31).toUInt32).toInt32) &&& (3 : Int32))), .val (.ref yb_3), .val (.ref b3_6), .val (.ref b3_10), .val (.ref b13), .val (.ref b20), .unset, .unset] [(.ref b20)])) rfl (by rw [hml]; rfl) (Steps.refl _) (argsL := []) (rest := []) (lenOf pd__Z rfl) rfl (by show 2 * 0 + _ ≤ _; exact Nat.le_of_eq rfl) (hb hby at_124) (fun _ _ => ⟨rfl, rfl, (by decide : 10 + 0 ≤ _), (by decide : 28 + 0 ≤ _)⟩)
          dsimp only [Pt.U, Pt.locs, Pt.cells, Pt.slots] at X29 l29 y29 z29 st29 hQ29
          subst l29 y29 z29
          obtain ⟨Nq29, eq29, hR29⟩ := hQ29
          have N29 := Fr.app N26 Nq29
          obtain rfl := hR29
          refine Gets.tr st29 ?_
          show Gets p e below _ (T29.setTop (mkF m 127 #[.val (.int p1), .val (.int p2), .val (.int p3), .val (.int p4), .val (.int jz1), .val (.int (((p2.toUInt32 >>> ((1 : Int32) &&& 31).toUInt32).toInt32) &&& (3 : Int32))), .val (.ref yb_3), .val (.ref b3_6), .val (.ref b3_10), .val (.ref b13), .val (.ref b20), .unset, .unset] [(.int (1 : Int32))]))
          refine Gets.of (fun t k => XS.iload X29.here hx rfl (hb hby at_127) rfl  k) ?_
          refine Gets.of (fun t k => XS.ifNo X29.here hx rfl (hb hby at_129) rfl ((if0 _ _).trans (teq hc2).2) k) ?_
          show Gets p e below _ (T29.setTop (mkF m 132 #[.val (.int p1), .val (.int p2), .val (.int p3), .val (.int p4), .val (.int jz1), .val (.int (((p2.toUInt32 >>> ((1 : Int32) &&& 31).toUInt32).toInt32) &&& (3 : Int32))), .val (.ref yb_3), .val (.ref b3_6), .val (.ref b3_10), .val (.ref b13), .val (.ref b20), .unset, .unset] [(.int (1 : Int32))]))
          refine Gets.of (fun t k => XS.iconst X29.here hx rfl (hb hby at_132) k) ?_
          refine Gets.of (fun t k => XS.goto X29.here hx rfl (pc0 := 133) (pc' := 137) rfl (hb hby at_133) (by decide) (by decide) k) ?_
          show Gets p e below _ (T29.setTop (mkF m 137 #[.val (.int p1), .val (.int p2), .val (.int p3), .val (.int p4), .val (.int jz1), .val (.int (((p2.toUInt32 >>> ((1 : Int32) &&& 31).toUInt32).toInt32) &&& (3 : Int32))), .val (.ref yb_3), .val (.ref b3_6), .val (.ref b3_10), .val (.ref b13), .val (.ref b20), .unset, .unset] [(.int (1 : Int32)), (.int (1 : Int32))]))
          refine Gets.of (fun t k => XS.icmpNo X29.here hx rfl (hb hby at_137) rfl (teq (by decide : (1 : Int32) = (1 : Int32))).2 k) ?_
          show Gets p e below _ (T29.setTop (mkF m 140 #[.val (.int p1), .val (.int p2), .val (.int p3), .val (.int p4), .val (.int jz1), .val (.int (((p2.toUInt32 >>> ((1 : Int32) &&& 31).toUInt32).toInt32) &&& (3 : Int32))), .val (.ref yb_3), .val (.ref b3_6), .val (.ref b3_10), .val (.ref b13), .val (.ref b20), .unset, .unset] []))
          refine Gets.of (fun t k => XS.iconst X29.here hx rfl (hb hby at_140) k) ?_
          refine Gets.of (fun t k => XS.goto X29.here hx rfl (pc0 := 141) (pc' := 145) rfl (hb hby at_141) (by decide) (by decide) k) ?_
          show Gets p e below _ (T29.setTop (mkF m 145 #[.val (.int p1), .val (.int p2), .val (.int p3), .val (.int p4), .val (.int jz1), .val (.int (((p2.toUInt32 >>> ((1 : Int32) &&& 31).toUInt32).toInt32) &&& (3 : Int32))), .val (.ref yb_3), .val (.ref b3_6), .val (.ref b3_10), .val (.ref b13), .val (.ref b20), .unset, .unset] [(.int (1 : Int32))]))
          refine Gets.of (fun t k => XS.istore X29.here hx rfl (hb hby at_145) rfl (l' := #[.val (.int p1), .val (.int p2), .val (.int p3), .val (.int p4), .val (.int jz1), .val (.int (((p2.toUInt32 >>> ((1 : Int32) &&& 31).toUInt32).toInt32) &&& (3 : Int32))), .val (.ref yb_3), .val (.ref b3_6), .val (.ref b3_10), .val (.ref b13), .val (.ref b20), .val (.int (1 : Int32)), .unset]) rfl k) ?_
          show Gets p e below _ (T29.setTop (mkF m 147 #[.val (.int p1), .val (.int p2), .val (.int p3), .val (.int p4), .val (.int jz1), .val (.int (((p2.toUInt32 >>> ((1 : Int32) &&& 31).toUInt32).toInt32) &&& (3 : Int32))), .val (.ref yb_3), .val (.ref b3_6), .val (.ref b3_10), .val (.ref b13), .val (.ref b20), .val (.int (1 : Int32)), .unset] []))
          refine Gets.of (fun t k => XS.iloadN X29.here hx rfl (hb hby at_147) rfl  k) ?_
          refine Gets.of (fun t k => XS.aload X29.here hx rfl (hb hby at_148) rfl rfl  k) ?_
          refine Gets.of (fun t k => XS.aload X29.here hx rfl (hb hby at_150) rfl rfl  k) ?_
          refine Gets.of (fun t k => XS.aload X29.here hx rfl (hb hby at_152) rfl rfl  k) ?_
          show Gets p e below _ (T29.setTop (mkF m 154 #[.val (.int p1), .val (.int p2), .val (.int p3), .val (.int p4), .val (.int jz1), .val (.int (((p2.toUInt32 >>> ((1 : Int32) &&& 31).toUInt32).toInt32) &&& (3 : Int32))), .val (.ref yb_3), .val (.ref b3_6), .val (.ref b3_10), .val (.ref b13), .val (.ref b20), .val (.int (1 : Int32)), .unset] [(.ref b13), (.ref b3_10), (.ref b3_6), (.int p1)]))
          have f31 : Exa Z T26.heap b13 cn2 := (f24.keep Kq26)
          have f32 : Fld Z T26.heap b13 cn2 "size" "I" (.int (0 : Int32)) := (f25.keep Kq26 (ninS (Nat.ne_of_lt (Nat.lt_of_lt_of_le (Nat.lt_of_lt_of_le A13.lt up21) (Nat.le_of_eq g20.symm))) nin0))
          obtain ⟨_, _, ⟨T33, L33, k33, n33⟩, -, X33, ⟨Lc33, hQ33, l33, y33, z33⟩, st33⟩ := Jvm.LawKit.callS X29 hx (y := (⟨cn1, "read", cn20⟩ : MethodName)) hown3 (mvT hZ3 (w106 hw)) (mvT hZ3 (w107 hw)) (mvT hZ3 (w52 hw)) (mvT hZ3 (w108 hw)) (by decide) (backOf (W := 0) (r32_read l Z a0 hw [] p1 (.ref b3_6) (.ref b3_10) b13 ov14 T26.heap n0 O27 f31 f32 oS16 rfl rfl) hZ3 (w108 hw) (w52 hw) (by decide) (by decide)) (g := (mkF m 154 #[.val (.int p1), .val (.int p2), .val (.int p3), .val (.int p4), .val (.int jz1), .val (.int (((p2.toUInt32 >>> ((1 : Int32) &&& 31).toUInt32).toInt32) &&& (3 : Int32))), .val (.ref yb_3), .val (.ref b3_6), .val (.ref b3_10), .val (.ref b13), .val (.ref b20), .val (.int (1 : Int32)), .unset] [(.ref b13), (.ref b3_10), (.ref b3_6), (.int p1)])) rfl (by rw [hml]; rfl) (argsL := [(.int p1), (.ref b3_6), (.ref b3_10), (.ref b13)]) (rest := []) (lenOf pd__ILjava_lang_String_Ljava_lang_String_Ljava_util_List_Lcom_example_causeway_causeway_formats_OaiDcUnit_ rfl) rfl (by show 2 * 0 + _ ≤ _; exact Nat.le_of_eq rfl) (hb hby at_154) (fun _ _ => ⟨rfl, eq29, (by decide : 10 + 1 ≤ _), (by decide : 28 + 5 ≤ _)⟩)
          dsimp only [Pt.U, Pt.locs, Pt.cells, Pt.slots] at X33 l33 y33 z33 st33 hQ33
          subst l33 y33 z33
          obtain ⟨Nq33, Kq33, hR33⟩ := hQ33
          have N33 := Fr.app N29 Nq33
          have up34 := Kq26.1
          have K35 : Keep h0 _ [] := K27.trans Kq33 all0
          have O35 := O27.keep Kq33 all0
          have hk36 := Nat.le_trans hk28 Kq33.1
          obtain ⟨b1_33, rfl, bz33_0, bf33_0, bf33_1, bf33_2, bf33_3, bf33_4, bf33_5⟩ := hR33
          have sz_b1_33 : h0.size ≤ b1_33 := Nat.le_trans K27.1 bz33_0
          have g_b1_33 : n0 ≤ b1_33 := Nat.le_trans Z0 sz_b1_33
          refine Gets.of st33 ?_
          show Gets p e below _ (T33.setTop (mkF m 157 #[.val (.int p1), .val (.int p2), .val (.int p3), .val (.int p4), .val (.int jz1), .val (.int (((p2.toUInt32 >>> ((1 : Int32) &&& 31).toUInt32).toInt32) &&& (3 : Int32))), .val (.ref yb_3), .val (.ref b3_6), .val (.ref b3_10), .val (.ref b13), .val (.ref b20), .val (.int (1 : Int32)), .unset] [(.ref b1_33)]))
          refine Gets.of (fun t k => XS.astore X33.here hx rfl (hb hby at_157) rfl rfl (l' := #[.val (.int p1), .val (.int p2), .val (.int p3), .val (.int p4), .val (.int jz1), .val (.int (((p2.toUInt32 >>> ((1 : Int32) &&& 31).toUInt32).toInt32) &&& (3 : Int32))), .val (.ref yb_3), .val (.ref b3_6), .val (.ref b3_10), .val (.ref b13), .val (.ref b20), .val (.int (1 : Int32)), .val (.ref b1_33)]) rfl k) ?_
          show Gets p e below _ (T33.setTop (mkF m 159 #[.val (.int p1), .val (.int p2), .val (.int p3), .val (.int p4), .val (.int jz1), .val (.int (((p2.toUInt32 >>> ((1 : Int32) &&& 31).toUInt32).toInt32) &&& (3 : Int32))), .val (.ref yb_3), .val (.ref b3_6), .val (.ref b3_10), .val (.ref b13), .val (.ref b20), .val (.int (1 : Int32)), .val (.ref b1_33)] []))
          refine Gets.of (fun t k => XS.iload X33.here hx rfl (hb hby at_159) rfl  k) ?_
          refine Gets.of (fun t k => XS.ifNo X33.here hx rfl (hb hby at_161) rfl ((if0 _ _).trans (feq (by decide : ¬ ((1 : Int32) = (0 : Int32)))).1) k) ?_
          show Gets p e below _ (T33.setTop (mkF m 164 #[.val (.int p1), .val (.int p2), .val (.int p3), .val (.int p4), .val (.int jz1), .val (.int (((p2.toUInt32 >>> ((1 : Int32) &&& 31).toUInt32).toInt32) &&& (3 : Int32))), .val (.ref yb_3), .val (.ref b3_6), .val (.ref b3_10), .val (.ref b13), .val (.ref b20), .val (.int (1 : Int32)), .val (.ref b1_33)] []))
          refine Gets.of (fun t k => XS.aload X33.here hx rfl (hb hby at_164) rfl rfl  k) ?_
          obtain ⟨cq37, kq37, q37a, q37b, q37c⟩ := isOf hZ3 rfl bf33_0
          obtain ⟨_, _, ⟨T37, L37, k37, n37⟩, -, X37, ⟨Lc37, hQ37, l37, y37, z37⟩, st37⟩ := X33.virtualBack hx (y := (⟨cn1, "isSetAside", "()Z"⟩ : MethodName)) (z := (⟨cn1, "isSetAside", "()Z"⟩ : MethodName)) hown3 (mvT hZ3 (w101 hw)) (mvT hZ3 (w102 hw)) (notFace_of_selects (args := #[]) (mvT hZ3 (w104 hw))) (mvT hZ3 (w104 hw)) (mvT hZ3 (w103 hw)) (by decide) (backOf (W := 0) (r33_isSetAside l Z a0 hw [] b1_33 T33.heap n0 O35 bf33_5) hZ3 (w105 hw) (w52 hw) (by decide) (by decide)) q37a q37c (g := (mkF m 166 #[.val (.int p1), .val (.int p2), .val (.int p3), .val (.int p4), .val (.int jz1), .val (.int (((p2.toUInt32 >>> ((1 : Int32) &&& 31).toUInt32).toInt32) &&& (3 : Int32))), .val (.ref yb_3), .val (.ref b3_6), .val (.ref b3_10), .val (.ref b13), .val (.ref b20), .val (.int (1 : Int32)), .val (.ref b1_33)] [(.ref b1_33)])) rfl (by rw [hml]; rfl) (Steps.refl _) (argsL := []) (rest := []) (lenOf pd__Z rfl) rfl (by show 2 * 0 + _ ≤ _; exact Nat.le_of_eq rfl) (hb hby at_166) (fun _ _ => ⟨rfl, rfl, (by decide : 11 + 0 ≤ _), (by decide : 33 + 0 ≤ _)⟩)
          dsimp only [Pt.U, Pt.locs, Pt.cells, Pt.slots] at X37 l37 y37 z37 st37 hQ37
          subst l37 y37 z37
          obtain ⟨Nq37, eq37, hR37⟩ := hQ37
          have N37 := Fr.app N33 Nq37
          obtain rfl := hR37
          refine Gets.tr st37 ?_
          show Gets p e below _ (T37.setTop (mkF m 169 #[.val (.int p1), .val (.int p2), .val (.int p3), .val (.int p4), .val (.int jz1), .val (.int (((p2.toUInt32 >>> ((1 : Int32) &&& 31).toUInt32).toInt32) &&& (3 : Int32))), .val (.ref yb_3), .val (.ref b3_6), .val (.ref b3_10), .val (.ref b13), .val (.ref b20), .val (.int (1 : Int32)), .val (.ref b1_33)] [(.int (0 : Int32))]))
          refine Gets.of (fun t k => XS.ifNo X37.here hx rfl (hb hby at_169) rfl ((if0 _ _).trans (teq (by decide : (0 : Int32) = (0 : Int32))).2) k) ?_
          show Gets p e below _ (T37.setTop (mkF m 172 #[.val (.int p1), .val (.int p2), .val (.int p3), .val (.int p4), .val (.int jz1), .val (.int (((p2.toUInt32 >>> ((1 : Int32) &&& 31).toUInt32).toInt32) &&& (3 : Int32))), .val (.ref yb_3), .val (.ref b3_6), .val (.ref b3_10), .val (.ref b13), .val (.ref b20), .val (.int (1 : Int32)), .val (.ref b1_33)] []))
          refine Gets.of (fun t k => XS.iconst X37.here hx rfl (hb hby at_172) k) ?_
          refine Gets.of (fun t k => XS.goto X37.here hx rfl (pc0 := 173) (pc' := 177) rfl (hb hby at_173) (by decide) (by decide) k) ?_
          show Gets p e below _ (T37.setTop (mkF m 177 #[.val (.int p1), .val (.int p2), .val (.int p3), .val (.int p4), .val (.int jz1), .val (.int (((p2.toUInt32 >>> ((1 : Int32) &&& 31).toUInt32).toInt32) &&& (3 : Int32))), .val (.ref yb_3), .val (.ref b3_6), .val (.ref b3_10), .val (.ref b13), .val (.ref b20), .val (.int (1 : Int32)), .val (.ref b1_33)] [(.int (1 : Int32))]))
          refine Gets.of (fun t k => XS.istore X37.here hx rfl (hb hby at_177) rfl (l' := #[.val (.int p1), .val (.int p2), .val (.int p3), .val (.int p4), .val (.int jz1), .val (.int (((p2.toUInt32 >>> ((1 : Int32) &&& 31).toUInt32).toInt32) &&& (3 : Int32))), .val (.ref yb_3), .val (.ref b3_6), .val (.ref b3_10), .val (.ref b13), .val (.ref b20), .val (.int (1 : Int32)), .val (.ref b1_33)]) rfl k) ?_
          show Gets p e below _ (T37.setTop (mkF m 179 #[.val (.int p1), .val (.int p2), .val (.int p3), .val (.int p4), .val (.int jz1), .val (.int (((p2.toUInt32 >>> ((1 : Int32) &&& 31).toUInt32).toInt32) &&& (3 : Int32))), .val (.ref yb_3), .val (.ref b3_6), .val (.ref b3_10), .val (.ref b13), .val (.ref b20), .val (.int (1 : Int32)), .val (.ref b1_33)] []))
          refine Gets.of (fun t k => XS.iload X37.here hx rfl (hb hby at_179) rfl  k) ?_
          refine Gets.of (fun t k => XS.ifNo X37.here hx rfl (hb hby at_181) rfl ((if0 _ _).trans (teq hc2).2) k) ?_
          show Gets p e below _ (T37.setTop (mkF m 184 #[.val (.int p1), .val (.int p2), .val (.int p3), .val (.int p4), .val (.int jz1), .val (.int (((p2.toUInt32 >>> ((1 : Int32) &&& 31).toUInt32).toInt32) &&& (3 : Int32))), .val (.ref yb_3), .val (.ref b3_6), .val (.ref b3_10), .val (.ref b13), .val (.ref b20), .val (.int (1 : Int32)), .val (.ref b1_33)] []))
          refine Gets.of (fun t k => XS.iload X37.here hx rfl (hb hby at_184) rfl  k) ?_
          refine Gets.of (fun t k => XS.ifNo X37.here hx rfl (hb hby at_186) rfl ((if0 _ _).trans (feq (by decide : ¬ ((1 : Int32) = (0 : Int32)))).1) k) ?_
          show Gets p e below _ (T37.setTop (mkF m 189 #[.val (.int p1), .val (.int p2), .val (.int p3), .val (.int p4), .val (.int jz1), .val (.int (((p2.toUInt32 >>> ((1 : Int32) &&& 31).toUInt32).toInt32) &&& (3 : Int32))), .val (.ref yb_3), .val (.ref b3_6), .val (.ref b3_10), .val (.ref b13), .val (.ref b20), .val (.int (1 : Int32)), .val (.ref b1_33)] []))
          refine Gets.of (fun t k => XS.iloadN X37.here hx rfl (hb hby at_189) rfl  k) ?_
          refine Gets.of (fun t k => XS.aload X37.here hx rfl (hb hby at_190) rfl rfl  k) ?_
          refine Gets.of (fun t k => XS.aload X37.here hx rfl (hb hby at_192) rfl rfl  k) ?_
          obtain ⟨_, _, ⟨T38, L38, k38, n38⟩, -, X38, ⟨Lc38, hQ38, l38, y38, z38⟩, st38⟩ := Jvm.LawKit.callS X37 hx (y := (⟨cn1, "setAside", cn23⟩ : MethodName)) hown3 (mvT hZ3 (w244 hw)) (mvT hZ3 (w245 hw)) (mvT hZ3 (w52 hw)) (mvT hZ3 (w246 hw)) (by decide) (backOf (W := 0) (r34_setAside l Z a0 hw [] p1 (.ref b3_6) (.ref yb_3) ov14 T33.heap n0 O35 oS16 oE17 oF19 rfl rfl) hZ3 (w246 hw) (w52 hw) (by decide) (by decide)) (g := (mkF m 194 #[.val (.int p1), .val (.int p2), .val (.int p3), .val (.int p4), .val (.int jz1), .val (.int (((p2.toUInt32 >>> ((1 : Int32) &&& 31).toUInt32).toInt32) &&& (3 : Int32))), .val (.ref yb_3), .val (.ref b3_6), .val (.ref b3_10), .val (.ref b13), .val (.ref b20), .val (.int (1 : Int32)), .val (.ref b1_33)] [(.ref yb_3), (.ref b3_6), (.int p1)])) rfl (by rw [hml]; rfl) (argsL := [(.int p1), (.ref b3_6), (.ref yb_3)]) (rest := []) (lenOf pd__ILjava_lang_String_Ljava_lang_String_Lcom_example_causeway_causeway_formats_OaiDcUnit_ rfl) rfl (by show 2 * 0 + _ ≤ _; exact Nat.le_of_eq rfl) (hb hby at_194) (fun _ _ => ⟨rfl, eq37, (by decide : 11 + 1 ≤ _), (by decide : 33 + 5 ≤ _)⟩)
          dsimp only [Pt.U, Pt.locs, Pt.cells, Pt.slots] at X38 l38 y38 z38 st38 hQ38
          subst l38 y38 z38
          obtain ⟨Nq38, Kq38, hR38⟩ := hQ38
          have N38 := Fr.app N37 Nq38
          have K39 : Keep h0 _ [] := K35.trans Kq38 all0
          have O39 := O35.keep Kq38 all0
          have hk40 := Nat.le_trans hk36 Kq38.1
          obtain ⟨b1_38, rfl, bz38_0, bf38_0, bf38_1, bf38_2, bf38_3, bf38_4, bf38_5⟩ := hR38
          have sz_b1_38 : h0.size ≤ b1_38 := Nat.le_trans K35.1 bz38_0
          have g_b1_38 : n0 ≤ b1_38 := Nat.le_trans Z0 sz_b1_38
          refine Gets.of st38 ?_
          show Gets p e below _ (T38.setTop (mkF m 197 #[.val (.int p1), .val (.int p2), .val (.int p3), .val (.int p4), .val (.int jz1), .val (.int (((p2.toUInt32 >>> ((1 : Int32) &&& 31).toUInt32).toInt32) &&& (3 : Int32))), .val (.ref yb_3), .val (.ref b3_6), .val (.ref b3_10), .val (.ref b13), .val (.ref b20), .val (.int (1 : Int32)), .val (.ref b1_33)] [(.ref b1_38)]))
          obtain ⟨cq41, kq41, q41a, q41b, q41c⟩ := isOf hZ3 rfl bf38_0
          obtain ⟨_, _, ⟨T41, L41, k41, n41⟩, -, X41, ⟨Lc41, hQ41, l41, y41, z41⟩, st41⟩ := X38.virtualBack hx (y := (⟨cn1, "isSetAside", "()Z"⟩ : MethodName)) (z := (⟨cn1, "isSetAside", "()Z"⟩ : MethodName)) hown3 (mvT hZ3 (w101 hw)) (mvT hZ3 (w102 hw)) (notFace_of_selects (args := #[]) (mvT hZ3 (w104 hw))) (mvT hZ3 (w104 hw)) (mvT hZ3 (w103 hw)) (by decide) (backOf (W := 0) (r31_isSetAside l Z a0 hw [] b1_38 yb_3 T38.heap n0 O39 bf38_5) hZ3 (w105 hw) (w52 hw) (by decide) (by decide)) q41a q41c (g := (mkF m 197 #[.val (.int p1), .val (.int p2), .val (.int p3), .val (.int p4), .val (.int jz1), .val (.int (((p2.toUInt32 >>> ((1 : Int32) &&& 31).toUInt32).toInt32) &&& (3 : Int32))), .val (.ref yb_3), .val (.ref b3_6), .val (.ref b3_10), .val (.ref b13), .val (.ref b20), .val (.int (1 : Int32)), .val (.ref b1_33)] [(.ref b1_38)])) rfl (by rw [hml]; rfl) (Steps.refl _) (argsL := []) (rest := []) (lenOf pd__Z rfl) rfl (by show 2 * 0 + _ ≤ _; exact Nat.le_of_eq rfl) (hb hby at_197) (fun _ _ => ⟨rfl, rfl, (by decide : 12 + 0 ≤ _), (by decide : 38 + 0 ≤ _)⟩)
          dsimp only [Pt.U, Pt.locs, Pt.cells, Pt.slots] at X41 l41 y41 z41 st41 hQ41
          subst l41 y41 z41
          obtain ⟨Nq41, eq41, hR41⟩ := hQ41
          have N41 := Fr.app N38 Nq41
          obtain rfl := hR41
          refine Gets.tr st41 ?_
          show Gets p e below _ (T41.setTop (mkF m 200 #[.val (.int p1), .val (.int p2), .val (.int p3), .val (.int p4), .val (.int jz1), .val (.int (((p2.toUInt32 >>> ((1 : Int32) &&& 31).toUInt32).toInt32) &&& (3 : Int32))), .val (.ref yb_3), .val (.ref b3_6), .val (.ref b3_10), .val (.ref b13), .val (.ref b20), .val (.int (1 : Int32)), .val (.ref b1_33)] [(.int (1 : Int32))]))
          refine Gets.of (fun t k => XS.ifNo X41.here hx rfl (hb hby at_200) rfl ((if0 _ _).trans (feq (by decide : ¬ ((1 : Int32) = (0 : Int32)))).1) k) ?_
          show Gets p e below _ (T41.setTop (mkF m 203 #[.val (.int p1), .val (.int p2), .val (.int p3), .val (.int p4), .val (.int jz1), .val (.int (((p2.toUInt32 >>> ((1 : Int32) &&& 31).toUInt32).toInt32) &&& (3 : Int32))), .val (.ref yb_3), .val (.ref b3_6), .val (.ref b3_10), .val (.ref b13), .val (.ref b20), .val (.int (1 : Int32)), .val (.ref b1_33)] []))
          refine Gets.of (fun t k => XS.iconst X41.here hx rfl (hb hby at_203) k) ?_
          refine Gets.of (fun t k => XS.goto X41.here hx rfl (pc0 := 204) (pc' := 208) rfl (hb hby at_204) (by decide) (by decide) k) ?_
          show Gets p e below _ (T41.setTop (mkF m 208 #[.val (.int p1), .val (.int p2), .val (.int p3), .val (.int p4), .val (.int jz1), .val (.int (((p2.toUInt32 >>> ((1 : Int32) &&& 31).toUInt32).toInt32) &&& (3 : Int32))), .val (.ref yb_3), .val (.ref b3_6), .val (.ref b3_10), .val (.ref b13), .val (.ref b20), .val (.int (1 : Int32)), .val (.ref b1_33)] [(.int (1 : Int32))]))
          refine Gets.of (fun t k => XS.istore X41.here hx rfl (hb hby at_208) rfl (l' := #[.val (.int p1), .val (.int p2), .val (.int p3), .val (.int p4), .val (.int jz1), .val (.int (((p2.toUInt32 >>> ((1 : Int32) &&& 31).toUInt32).toInt32) &&& (3 : Int32))), .val (.ref yb_3), .val (.ref b3_6), .val (.ref b3_10), .val (.ref b13), .val (.ref b20), .val (.int (1 : Int32)), .val (.ref b1_33)]) rfl k) ?_
          show Gets p e below _ (T41.setTop (mkF m 210 #[.val (.int p1), .val (.int p2), .val (.int p3), .val (.int p4), .val (.int jz1), .val (.int (((p2.toUInt32 >>> ((1 : Int32) &&& 31).toUInt32).toInt32) &&& (3 : Int32))), .val (.ref yb_3), .val (.ref b3_6), .val (.ref b3_10), .val (.ref b13), .val (.ref b20), .val (.int (1 : Int32)), .val (.ref b1_33)] []))
          refine Gets.of (fun t k => XS.iload X41.here hx rfl (hb hby at_210) rfl  k) ?_
          refine GetsW.retN X41 hx (t := .boolean) Bd.returns (by simp) (hb hby at_212) hS3 (eq41 ▸ hk40) ?_ (by decide) (by decide)
          rw [eq41]
          exact ⟨N41, K39, rfl⟩
        · skip
          refine Gets.of (fun t k => XS.ifNo X16.here hx rfl (hb hby at_83) rfl ((if0 _ _).trans (feq hc19).1) k) ?_
          show Gets p e below _ (T16.setTop (mkF m 86 #[.val (.int p1), .val (.int p2), .val (.int p3), .val (.int p4), .val (.int jz1), .val (.int (((p2.toUInt32 >>> ((1 : Int32) &&& 31).toUInt32).toInt32) &&& (3 : Int32))), .val (.ref yb_3), .val (.ref b3_6), .val (.ref b3_10), .val (.ref b13), .unset, .unset, .unset] []))
          refine Gets.of (fun t k => XS.aload X16.here hx rfl (hb hby at_86) rfl rfl  k) ?_
          obtain ⟨T42, h42, X42, e42, E42, A42, D42, -, st42⟩ := newO X16 hx hZ3 hown3 (w133 hw) (w134 hw) (w135 hw) rfl (g := (mkF m 88 #[.val (.int p1), .val (.int p2), .val (.int p3), .val (.int p4), .val (.int jz1), .val (.int (((p2.toUInt32 >>> ((1 : Int32) &&& 31).toUInt32).toInt32) &&& (3 : Int32))), .val (.ref yb_3), .val (.ref b3_6), .val (.ref b3_10), .val (.ref b13), .unset, .unset, .unset] [(.ref b13)])) rfl (hb hby at_88) (by decide) (by decide)
          obtain ⟨b42, g42⟩ : ∃ z, z = T16.heap.size := ⟨_, rfl⟩
          rw [← g42] at A42 D42 st42
          have up43 := Kq16.1
          have sz_b42 : h0.size ≤ b42 := Nat.le_trans K17.1 (Nat.le_of_eq g42.symm)
          have g_b42 : n0 ≤ b42 := Nat.le_trans Z0 sz_b42
          have K44 := K17.ext E42
          have O44 := O17.ext E42
          have hk45 := Nat.le_trans hk18 E42.1
          have F42_147 : Fld Z h42 b42 cn5 "element" cn18 .null := D42 (Or.inr (w147 hw)) (ty := (.object cn17)) (by decide)
          have F42_149 : Fld Z h42 b42 cn5 "value" cn4 .null := D42 (Or.inr (w149 hw)) (ty := (.object cn0)) (by decide)
          have F42_151 : Fld Z h42 b42 cn5 "language" cn4 .null := D42 (Or.inr (w151 hw)) (ty := (.object cn0)) (by decide)
          refine Gets.of st42 ?_
          show Gets p e below _ (T42.setTop (mkF m 91 #[.val (.int p1), .val (.int p2), .val (.int p3), .val (.int p4), .val (.int jz1), .val (.int (((p2.toUInt32 >>> ((1 : Int32) &&& 31).toUInt32).toInt32) &&& (3 : Int32))), .val (.ref yb_3), .val (.ref b3_6), .val (.ref b3_10), .val (.ref b13), .unset, .unset, .unset] [(.ref b42), (.ref b13)]))
          refine Gets.of (fun t k => XS.dup X42.here hx rfl (hb hby at_91) rfl rfl k) ?_
          obtain ⟨T46, X46, e46, st46⟩ := getS2 X42 hx hZ3 hown3 (host := "") (Or.inl (w136 hw)) Via.refl e42 (oS28.ext O44.2) (g := (mkF m 92 #[.val (.int p1), .val (.int p2), .val (.int p3), .val (.int p4), .val (.int jz1), .val (.int (((p2.toUInt32 >>> ((1 : Int32) &&& 31).toUInt32).toInt32) &&& (3 : Int32))), .val (.ref yb_3), .val (.ref b3_6), .val (.ref b3_10), .val (.ref b13), .unset, .unset, .unset] [(.ref b42), (.ref b42), (.ref b13)])) rfl (hb hby at_92)
          refine Gets.of st46 ?_
          show Gets p e below _ (T46.setTop (mkF m 95 #[.val (.int p1), .val (.int p2), .val (.int p3), .val (.int p4), .val (.int jz1), .val (.int (((p2.toUInt32 >>> ((1 : Int32) &&& 31).toUInt32).toInt32) &&& (3 : Int32))), .val (.ref yb_3), .val (.ref b3_6), .val (.ref b3_10), .val (.ref b13), .unset, .unset, .unset] [(.ref ov26), (.ref b42), (.ref b42), (.ref b13)]))
          refine Gets.of (fun t k => XS.aload X46.here hx rfl (hb hby at_95) rfl rfl  k) ?_
          obtain ⟨_, _, ⟨T47, L47, k47, n47⟩, -, X47, ⟨Lc47, hQ47, l47, y47, z47⟩, st47⟩ := X46.specialBack hx (y := (⟨cn5, "<init>", cn24⟩ : MethodName)) rfl hown3 (mvT hZ3 (w139 hw)) (mvT hZ3 (w140 hw)) (mvT hZ3 (w141 hw)) (by decide) (backOf (W := 2) (r38_init l Z a0 hw [] b42 (.ref ov26) (.ref b3_6) h42 n0 O44 A42 F42_147 F42_149 F42_151 g_b42 rfl rfl) hZ3 (w141 hw) (w135 hw) (by decide) (by decide)) (g := (mkF m 97 #[.val (.int p1), .val (.int p2), .val (.int p3), .val (.int p4), .val (.int jz1), .val (.int (((p2.toUInt32 >>> ((1 : Int32) &&& 31).toUInt32).toInt32) &&& (3 : Int32))), .val (.ref yb_3), .val (.ref b3_6), .val (.ref b3_10), .val (.ref b13), .unset, .unset, .unset] [(.ref b3_6), (.ref ov26), (.ref b42), (.ref b42), (.ref b13)])) rfl (by rw [hml]; rfl) (Steps.refl _) (a := b42) (argsL := [(.ref ov26), (.ref b3_6)]) (rest := [(.ref b42), (.ref b13)]) (lenOf pd__Lcom_example_causeway_causeway_formats_DcElement_Ljava_lang_String_V rfl) rfl (by show 2 * 0 + _ ≤ _; exact Nat.le_of_eq rfl) (hb hby at_97) (fun _ _ => ⟨rfl, e46, (by decide : 10 + 0 ≤ _), (by decide : 26 + 0 ≤ _)⟩)
          dsimp only [Pt.U, Pt.locs, Pt.cells, Pt.slots] at X47 l47 y47 z47 st47 hQ47
          subst l47 y47 z47
          obtain ⟨Nq47, Kq47, hR47⟩ := hQ47
          have N47 := Fr.app N16 Nq47
          have K48 : Keep h0 _ [] := K44.trans Kq47 (allS (Or.inr sz_b42) all0)
          have O48 := O44.keep Kq47 (allS g_b42 all0)
          have hk49 := Nat.le_trans hk45 Kq47.1
          obtain ⟨rfl, bf47_0, bf47_1, bf47_2⟩ := hR47
          refine Gets.tr st47 ?_
          show Gets p e below _ (T47.setTop (mkF m 100 #[.val (.int p1), .val (.int p2), .val (.int p3), .val (.int p4), .val (.int jz1), .val (.int (((p2.toUInt32 >>> ((1 : Int32) &&& 31).toUInt32).toInt32) &&& (3 : Int32))), .val (.ref yb_3), .val (.ref b3_6), .val (.ref b3_10), .val (.ref b13), .unset, .unset, .unset] [(.ref b42), (.ref b13)]))
          have f50 : Fld Z T47.heap b13 cn10 "modCount" "I" (.int (0 : Int32)) := ((bf16_0.ext E42).keep Kq47 (ninS (Nat.ne_of_lt (Nat.lt_of_lt_of_le (Nat.lt_of_lt_of_le A13.lt up43) (Nat.le_of_eq g42.symm))) nin0))
          have f51 : Exa Z T47.heap b13 cn2 := (((A13.keep Kq16).ext E42).keep Kq47)
          have f52 : Fld Z T47.heap b13 cn2 "elementData" cn6 (.ref ov5) := ((bf16_1.ext E42).keep Kq47 (ninS (Nat.ne_of_lt (Nat.lt_of_lt_of_le (Nat.lt_of_lt_of_le A13.lt up43) (Nat.le_of_eq g42.symm))) nin0))
          have f53 : Fld Z T47.heap b13 cn2 "size" "I" (.int (0 : Int32)) := ((bf16_2.ext E42).keep Kq47 (ninS (Nat.ne_of_lt (Nat.lt_of_lt_of_le (Nat.lt_of_lt_of_le A13.lt up43) (Nat.le_of_eq g42.symm))) nin0))
          have f54 : Exa Z T47.heap b42 cn5 := (A42.keep Kq47)
          obtain ⟨cq55, kq55, q55a, q55b, q55c⟩ := isOf hZ3 rfl f51
          obtain ⟨_, _, ⟨T55, L55, k55, n55⟩, -, X55, ⟨Lc55, hQ55, l55, y55, z55⟩, st55⟩ := X47.virtualBack hx (y := (⟨cn2, "add", "(Ljava/lang/Object;)Z"⟩ : MethodName)) (z := (⟨cn2, "add", "(Ljava/lang/Object;)Z"⟩ : MethodName)) hown3 (mvT hZ3 (w152 hw)) (mvT hZ3 (w153 hw)) (notFace_of_selects (args := #[]) (mvT hZ3 (w155 hw))) (mvT hZ3 (w155 hw)) (mvT hZ3 (w154 hw)) (by decide) (backOf (W := 0) (r40_add l Z a0 hw [] b13 b42 ov5 ok31 T47.heap n0 O48 f50 f51 f52 f53 f54 oV30 oS7 g_b13) hZ3 (w156 hw) (w28 hw) (by decide) (by decide)) q55a q55c (g := (mkF m 100 #[.val (.int p1), .val (.int p2), .val (.int p3), .val (.int p4), .val (.int jz1), .val (.int (((p2.toUInt32 >>> ((1 : Int32) &&& 31).toUInt32).toInt32) &&& (3 : Int32))), .val (.ref yb_3), .val (.ref b3_6), .val (.ref b3_10), .val (.ref b13), .unset, .unset, .unset] [(.ref b42), (.ref b13)])) rfl (by rw [hml]; rfl) (Steps.refl _) (argsL := [(.ref b42)]) (rest := []) (lenOf pd__Ljava_lang_Object_Z rfl) rfl (by show 2 * 0 + _ ≤ _; exact Nat.le_of_eq rfl) (hb hby at_100) (fun _ _ => ⟨rfl, rfl, (by decide : 10 + 1 ≤ _), (by decide : 26 + 10 ≤ _)⟩)
          dsimp only [Pt.U, Pt.locs, Pt.cells, Pt.slots] at X55 l55 y55 z55 st55 hQ55
          subst l55 y55 z55
          obtain ⟨Nq55, Kq55, hR55⟩ := hQ55
          have N55 := Fr.app N47 Nq55
          have up56 := Kq47.1
          have K57 : Keep h0 _ [] := K48.trans Kq55 (allS (Or.inr sz_b13) all0)
          have O57 := O48.keep Kq55 (allS g_b13 all0)
          have hk58 := Nat.le_trans hk49 Kq55.1
          obtain ⟨b6_2_2_10_55, k6_2_2_10_55, rfl, bz55_0, bf55_0, bf55_1, bf55_2, bf55_3, bf55_4, bf55_5⟩ := hR55
          have sz_b6_2_2_10_55 : h0.size ≤ b6_2_2_10_55 := Nat.le_trans K48.1 bz55_0
          have g_b6_2_2_10_55 : n0 ≤ b6_2_2_10_55 := Nat.le_trans Z0 sz_b6_2_2_10_55
          refine Gets.tr st55 ?_
          show Gets p e below _ (T55.setTop (mkF m 103 #[.val (.int p1), .val (.int p2), .val (.int p3), .val (.int p4), .val (.int jz1), .val (.int (((p2.toUInt32 >>> ((1 : Int32) &&& 31).toUInt32).toInt32) &&& (3 : Int32))), .val (.ref yb_3), .val (.ref b3_6), .val (.ref b3_10), .val (.ref b13), .unset, .unset, .unset] [(.int (1 : Int32))]))
          refine Gets.of (fun t k => XS.pop X55.here hx rfl (hb hby at_103) rfl rfl k) ?_
          show Gets p e below _ (T55.setTop (mkF m 104 #[.val (.int p1), .val (.int p2), .val (.int p3), .val (.int p4), .val (.int jz1), .val (.int (((p2.toUInt32 >>> ((1 : Int32) &&& 31).toUInt32).toInt32) &&& (3 : Int32))), .val (.ref yb_3), .val (.ref b3_6), .val (.ref b3_10), .val (.ref b13), .unset, .unset, .unset] []))
          obtain ⟨T59, h59, X59, e59, E59, A59, D59, -, st59⟩ := newO X55 hx hZ3 hown3 (w50 hw) (w51 hw) (w52 hw) rfl (g := (mkF m 104 #[.val (.int p1), .val (.int p2), .val (.int p3), .val (.int p4), .val (.int jz1), .val (.int (((p2.toUInt32 >>> ((1 : Int32) &&& 31).toUInt32).toInt32) &&& (3 : Int32))), .val (.ref yb_3), .val (.ref b3_6), .val (.ref b3_10), .val (.ref b13), .unset, .unset, .unset] [])) rfl (hb hby at_104) (by decide) (by decide)
          obtain ⟨b59, g59⟩ : ∃ z, z = T55.heap.size := ⟨_, rfl⟩
          rw [← g59] at A59 D59 st59
          have sz_b59 : h0.size ≤ b59 := Nat.le_trans K57.1 (Nat.le_of_eq g59.symm)
          have g_b59 : n0 ≤ b59 := Nat.le_trans Z0 sz_b59
          have K60 := K57.ext E59
          have O60 := O57.ext E59
          have hk61 := Nat.le_trans hk58 E59.1
          have F59_92 : Fld Z h59 b59 cn1 "number" "I" (.int (0 : Int32)) := D59 (Or.inr (w92 hw)) (ty := .int) (by decide)
          have F59_94 : Fld Z h59 b59 cn1 "location" cn4 .null := D59 (Or.inr (w94 hw)) (ty := (.object cn0)) (by decide)
          have F59_96 : Fld Z h59 b59 cn1 "source" cn4 .null := D59 (Or.inr (w96 hw)) (ty := (.object cn0)) (by decide)
          have F59_98 : Fld Z h59 b59 cn1 "values" cn12 .null := D59 (Or.inr (w98 hw)) (ty := (.object "java/util/List")) (by decide)
          have F59_100 : Fld Z h59 b59 cn1 "problem" cn4 .null := D59 (Or.inr (w100 hw)) (ty := (.object cn0)) (by decide)
          refine Gets.of st59 ?_
          show Gets p e below _ (T59.setTop (mkF m 107 #[.val (.int p1), .val (.int p2), .val (.int p3), .val (.int p4), .val (.int jz1), .val (.int (((p2.toUInt32 >>> ((1 : Int32) &&& 31).toUInt32).toInt32) &&& (3 : Int32))), .val (.ref yb_3), .val (.ref b3_6), .val (.ref b3_10), .val (.ref b13), .unset, .unset, .unset] [(.ref b59)]))
          refine Gets.of (fun t k => XS.dup X59.here hx rfl (hb hby at_107) rfl rfl k) ?_
          refine Gets.of (fun t k => XS.iloadN X59.here hx rfl (hb hby at_108) rfl  k) ?_
          refine Gets.of (fun t k => XS.aload X59.here hx rfl (hb hby at_109) rfl rfl  k) ?_
          refine Gets.of (fun t k => XS.aload X59.here hx rfl (hb hby at_111) rfl rfl  k) ?_
          show Gets p e below _ (T59.setTop (mkF m 113 #[.val (.int p1), .val (.int p2), .val (.int p3), .val (.int p4), .val (.int jz1), .val (.int (((p2.toUInt32 >>> ((1 : Int32) &&& 31).toUInt32).toInt32) &&& (3 : Int32))), .val (.ref yb_3), .val (.ref b3_6), .val (.ref b3_10), .val (.ref b13), .unset, .unset, .unset] [(.ref b3_10), (.ref b3_6), (.int p1), (.ref b59), (.ref b59)]))
          refine Gets.of (fun t k => XS.aload X59.here hx rfl (hb hby at_113) rfl rfl  k) ?_
          refine Gets.of (fun t k => XS.aload X59.here hx rfl (hb hby at_115) rfl rfl  k) ?_
          have f62 : Exa Z h59 b13 cn2 := ((f51.keep Kq55).ext E59)
          have f63 : Fld Z h59 b13 cn2 "size" "I" (.int (1 : Int32)) := (bf55_1.ext E59)
          have f64 : Ovr Z k6_2_2_10_55 cn3 := bf55_5
          have f65 : Fld Z h59 b13 cn2 "elementData" cn6 (.ref b6_2_2_10_55) := (bf55_0.ext E59)
          have f66 : Exa Z h59 b6_2_2_10_55 cn6 := (bf55_4.ext E59)
          have f67 : Arv Z h59 b6_2_2_10_55 k6_2_2_10_55 (.object cn3) (10 : Int32) [(.ref b42), .null, .null, .null, .null, .null, .null, .null, .null, .null] .null := (bf55_3.ext E59)
          have f68 : Exa Z h59 b42 cn5 := ((f54.keep Kq55).ext E59)
          obtain ⟨_, _, ⟨T69, L69, k69, n69⟩, -, X69, ⟨Lc69, hQ69, l69, y69, z69⟩, st69⟩ := X59.specialBack hx (y := (⟨cn1, "<init>", cn16⟩ : MethodName)) rfl hown3 (mvT hZ3 (w53 hw)) (mvT hZ3 (w54 hw)) (mvT hZ3 (w55 hw)) (by decide) (backOf (W := 1) (r45_init l Z a0 hw [] b59 p1 (.ref b3_6) (.ref b3_10) b13 (.ref yb_3) k6_2_2_10_55 ymir b6_2_2_10_55 b42 ov20 h59 n0 O60 f62 f63 f64 f65 f66 f67 f68 A59 F59_92 F59_94 F59_96 F59_98 F59_100 oS22 g_b59 hmir rfl rfl rfl) hZ3 (w55 hw) (w52 hw) (by decide) (by decide)) (g := (mkF m 117 #[.val (.int p1), .val (.int p2), .val (.int p3), .val (.int p4), .val (.int jz1), .val (.int (((p2.toUInt32 >>> ((1 : Int32) &&& 31).toUInt32).toInt32) &&& (3 : Int32))), .val (.ref yb_3), .val (.ref b3_6), .val (.ref b3_10), .val (.ref b13), .unset, .unset, .unset] [(.ref yb_3), (.ref b13), (.ref b3_10), (.ref b3_6), (.int p1), (.ref b59), (.ref b59)])) rfl (by rw [hml]; rfl) (Steps.refl _) (a := b59) (argsL := [(.int p1), (.ref b3_6), (.ref b3_10), (.ref b13), (.ref yb_3)]) (rest := [(.ref b59)]) (lenOf pd__ILjava_lang_String_Ljava_lang_String_Ljava_util_List_Ljava_lang_String_V rfl) rfl (by show 2 * 0 + _ ≤ _; exact Nat.le_of_eq rfl) (hb hby at_117) (fun _ _ => ⟨rfl, e59, (by decide : 12 + 2 ≤ _), (by decide : 41 + 3 ≤ _)⟩)
          dsimp only [Pt.U, Pt.locs, Pt.cells, Pt.slots] at X69 l69 y69 z69 st69 hQ69
          subst l69 y69 z69
          obtain ⟨Nq69, Kq69, hR69⟩ := hQ69
          have N69 := Fr.app N55 Nq69
          have K70 : Keep h0 _ [] := K60.trans Kq69 (allS (Or.inr sz_b59) all0)
          have O70 := O60.keep Kq69 (allS g_b59 all0)
          have hk71 := Nat.le_trans hk61 Kq69.1
          obtain ⟨b2_6_1_2_69, rfl, bz69_0, bf69_0, bf69_1, bf69_2, bf69_3, bf69_4, bf69_5, bf69_6, bf69_7⟩ := hR69
          have sz_b2_6_1_2_69 : h0.size ≤ b2_6_1_2_69 := Nat.le_trans K60.1 bz69_0
          have g_b2_6_1_2_69 : n0 ≤ b2_6_1_2_69 := Nat.le_trans Z0 sz_b2_6_1_2_69
          refine Gets.tr st69 ?_
          show Gets p e below _ (T69.setTop (mkF m 120 #[.val (.int p1), .val (.int p2), .val (.int p3), .val (.int p4), .val (.int jz1), .val (.int (((p2.toUInt32 >>> ((1 : Int32) &&& 31).toUInt32).toInt32) &&& (3 : Int32))), .val (.ref yb_3), .val (.ref b3_6), .val (.ref b3_10), .val (.ref b13), .unset, .unset, .unset] [(.ref b59)]))
          refine Gets.of (fun t k => XS.astore X69.here hx rfl (hb hby at_120) rfl rfl (l' := #[.val (.int p1), .val (.int p2), .val (.int p3), .val (.int p4), .val (.int jz1), .val (.int (((p2.toUInt32 >>> ((1 : Int32) &&& 31).toUInt32).toInt32) &&& (3 : Int32))), .val (.ref yb_3), .val (.ref b3_6), .val (.ref b3_10), .val (.ref b13), .val (.ref b59), .unset, .unset]) rfl k) ?_
          show Gets p e below _ (T69.setTop (mkF m 122 #[.val (.int p1), .val (.int p2), .val (.int p3), .val (.int p4), .val (.int jz1), .val (.int (((p2.toUInt32 >>> ((1 : Int32) &&& 31).toUInt32).toInt32) &&& (3 : Int32))), .val (.ref yb_3), .val (.ref b3_6), .val (.ref b3_10), .val (.ref b13), .val (.ref b59), .unset, .unset] []))
          refine Gets.of (fun t k => XS.aload X69.here hx rfl (hb hby at_122) rfl rfl  k) ?_
          have f73 : Exa Z T69.heap b59 cn1 := (A59.keep Kq69)
          obtain ⟨cq72, kq72, q72a, q72b, q72c⟩ := isOf hZ3 rfl f73
          obtain ⟨_, _, ⟨T72, L72, k72, n72⟩, -, X72, ⟨Lc72, hQ72, l72, y72, z72⟩, st72⟩ := X69.virtualBack hx (y := (⟨cn1, "isSetAside", "()Z"⟩ : MethodName)) (z := (⟨cn1, "isSetAside", "()Z"⟩ : MethodName)) hown3 (mvT hZ3 (w101 hw)) (mvT hZ3 (w102 hw)) (notFace_of_selects (args := #[]) (mvT hZ3 (w104 hw))) (mvT hZ3 (w104 hw)) (mvT hZ3 (w103 hw)) (by decide) (backOf (W := 0) (r31_isSetAside l Z a0 hw [] b59 yb_3 T69.heap n0 O70 bf69_4) hZ3 (w105 hw) (w52 hw) (by decide) (by decide)) q72a q72c (g := (mkF m 124 #[.val (.int p1), .val (.int p2), .val (.int p3), .val (.int p4), .val (.int jz1), .val (.int (((p2.toUInt32 >>> ((1 : Int32) &&& 31).toUInt32).toInt32) &&& (3 : Int32))), .val (.ref yb_3), .val (.ref b3_6), .val (.ref b3_10), .val (.ref b13), .val (.ref b59), .unset, .unset] [(.ref b59)])) rfl (by rw [hml]; rfl) (Steps.refl _) (argsL := []) (rest := []) (lenOf pd__Z rfl) rfl (by show 2 * 0 + _ ≤ _; exact Nat.le_of_eq rfl) (hb hby at_124) (fun _ _ => ⟨rfl, rfl, (by decide : 14 + 0 ≤ _), (by decide : 44 + 0 ≤ _)⟩)
          dsimp only [Pt.U, Pt.locs, Pt.cells, Pt.slots] at X72 l72 y72 z72 st72 hQ72
          subst l72 y72 z72
          obtain ⟨Nq72, eq72, hR72⟩ := hQ72
          have N72 := Fr.app N69 Nq72
          obtain rfl := hR72
          refine Gets.tr st72 ?_
          show Gets p e below _ (T72.setTop (mkF m 127 #[.val (.int p1), .val (.int p2), .val (.int p3), .val (.int p4), .val (.int jz1), .val (.int (((p2.toUInt32 >>> ((1 : Int32) &&& 31).toUInt32).toInt32) &&& (3 : Int32))), .val (.ref yb_3), .val (.ref b3_6), .val (.ref b3_10), .val (.ref b13), .val (.ref b59), .unset, .unset] [(.int (1 : Int32))]))
          refine Gets.of (fun t k => XS.iload X72.here hx rfl (hb hby at_127) rfl  k) ?_
          refine Gets.of (fun t k => XS.ifNo X72.here hx rfl (hb hby at_129) rfl ((if0 _ _).trans (teq hc2).2) k) ?_
          show Gets p e below _ (T72.setTop (mkF m 132 #[.val (.int p1), .val (.int p2), .val (.int p3), .val (.int p4), .val (.int jz1), .val (.int (((p2.toUInt32 >>> ((1 : Int32) &&& 31).toUInt32).toInt32) &&& (3 : Int32))), .val (.ref yb_3), .val (.ref b3_6), .val (.ref b3_10), .val (.ref b13), .val (.ref b59), .unset, .unset] [(.int (1 : Int32))]))
          refine Gets.of (fun t k => XS.iconst X72.here hx rfl (hb hby at_132) k) ?_
          refine Gets.of (fun t k => XS.goto X72.here hx rfl (pc0 := 133) (pc' := 137) rfl (hb hby at_133) (by decide) (by decide) k) ?_
          show Gets p e below _ (T72.setTop (mkF m 137 #[.val (.int p1), .val (.int p2), .val (.int p3), .val (.int p4), .val (.int jz1), .val (.int (((p2.toUInt32 >>> ((1 : Int32) &&& 31).toUInt32).toInt32) &&& (3 : Int32))), .val (.ref yb_3), .val (.ref b3_6), .val (.ref b3_10), .val (.ref b13), .val (.ref b59), .unset, .unset] [(.int (1 : Int32)), (.int (1 : Int32))]))
          refine Gets.of (fun t k => XS.icmpNo X72.here hx rfl (hb hby at_137) rfl (teq (by decide : (1 : Int32) = (1 : Int32))).2 k) ?_
          show Gets p e below _ (T72.setTop (mkF m 140 #[.val (.int p1), .val (.int p2), .val (.int p3), .val (.int p4), .val (.int jz1), .val (.int (((p2.toUInt32 >>> ((1 : Int32) &&& 31).toUInt32).toInt32) &&& (3 : Int32))), .val (.ref yb_3), .val (.ref b3_6), .val (.ref b3_10), .val (.ref b13), .val (.ref b59), .unset, .unset] []))
          refine Gets.of (fun t k => XS.iconst X72.here hx rfl (hb hby at_140) k) ?_
          refine Gets.of (fun t k => XS.goto X72.here hx rfl (pc0 := 141) (pc' := 145) rfl (hb hby at_141) (by decide) (by decide) k) ?_
          show Gets p e below _ (T72.setTop (mkF m 145 #[.val (.int p1), .val (.int p2), .val (.int p3), .val (.int p4), .val (.int jz1), .val (.int (((p2.toUInt32 >>> ((1 : Int32) &&& 31).toUInt32).toInt32) &&& (3 : Int32))), .val (.ref yb_3), .val (.ref b3_6), .val (.ref b3_10), .val (.ref b13), .val (.ref b59), .unset, .unset] [(.int (1 : Int32))]))
          refine Gets.of (fun t k => XS.istore X72.here hx rfl (hb hby at_145) rfl (l' := #[.val (.int p1), .val (.int p2), .val (.int p3), .val (.int p4), .val (.int jz1), .val (.int (((p2.toUInt32 >>> ((1 : Int32) &&& 31).toUInt32).toInt32) &&& (3 : Int32))), .val (.ref yb_3), .val (.ref b3_6), .val (.ref b3_10), .val (.ref b13), .val (.ref b59), .val (.int (1 : Int32)), .unset]) rfl k) ?_
          show Gets p e below _ (T72.setTop (mkF m 147 #[.val (.int p1), .val (.int p2), .val (.int p3), .val (.int p4), .val (.int jz1), .val (.int (((p2.toUInt32 >>> ((1 : Int32) &&& 31).toUInt32).toInt32) &&& (3 : Int32))), .val (.ref yb_3), .val (.ref b3_6), .val (.ref b3_10), .val (.ref b13), .val (.ref b59), .val (.int (1 : Int32)), .unset] []))
          refine Gets.of (fun t k => XS.iloadN X72.here hx rfl (hb hby at_147) rfl  k) ?_
          refine Gets.of (fun t k => XS.aload X72.here hx rfl (hb hby at_148) rfl rfl  k) ?_
          refine Gets.of (fun t k => XS.aload X72.here hx rfl (hb hby at_150) rfl rfl  k) ?_
          refine Gets.of (fun t k => XS.aload X72.here hx rfl (hb hby at_152) rfl rfl  k) ?_
          show Gets p e below _ (T72.setTop (mkF m 154 #[.val (.int p1), .val (.int p2), .val (.int p3), .val (.int p4), .val (.int jz1), .val (.int (((p2.toUInt32 >>> ((1 : Int32) &&& 31).toUInt32).toInt32) &&& (3 : Int32))), .val (.ref yb_3), .val (.ref b3_6), .val (.ref b3_10), .val (.ref b13), .val (.ref b59), .val (.int (1 : Int32)), .unset] [(.ref b13), (.ref b3_10), (.ref b3_6), (.int p1)]))
          have f74 : Exa Z T69.heap b13 cn2 := (f62.keep Kq69)
          have f75 : Fld Z T69.heap b13 cn2 "size" "I" (.int (1 : Int32)) := (f63.keep Kq69 (ninS (Nat.ne_of_lt (Nat.lt_of_lt_of_le (Nat.lt_of_lt_of_le (Nat.lt_of_lt_of_le (Nat.lt_of_lt_of_le (Nat.lt_of_lt_of_le A13.lt up43) E42.1) up56) Kq55.1) (Nat.le_of_eq g59.symm))) nin0))
          have f76 : Fld Z T69.heap b13 cn2 "elementData" cn6 (.ref b6_2_2_10_55) := (f65.keep Kq69 (ninS (Nat.ne_of_lt (Nat.lt_of_lt_of_le (Nat.lt_of_lt_of_le (Nat.lt_of_lt_of_le (Nat.lt_of_lt_of_le (Nat.lt_of_lt_of_le A13.lt up43) E42.1) up56) Kq55.1) (Nat.le_of_eq g59.symm))) nin0))
          have f77 : Exa Z T69.heap b6_2_2_10_55 cn6 := (f66.keep Kq69)
          have f78 : Arv Z T69.heap b6_2_2_10_55 k6_2_2_10_55 (.object cn3) (10 : Int32) [(.ref b42), .null, .null, .null, .null, .null, .null, .null, .null, .null] .null := (f67.keep Kq69 (ninS (Nat.ne_of_lt (Nat.lt_of_lt_of_le bf55_3.lt (Nat.le_of_eq g59.symm))) nin0))
          have f79 : Exa Z T69.heap b42 cn5 := (f68.keep Kq69)
          have f80 : Ovr Z k6_2_2_10_55 cn3 := f64
          obtain ⟨_, _, ⟨T81, L81, k81, n81⟩, -, X81, ⟨Lc81, hQ81, l81, y81, z81⟩, st81⟩ := Jvm.LawKit.callS X72 hx (y := (⟨cn1, "read", cn20⟩ : MethodName)) hown3 (mvT hZ3 (w106 hw)) (mvT hZ3 (w107 hw)) (mvT hZ3 (w52 hw)) (mvT hZ3 (w108 hw)) (by decide) (backOf (W := 0) (r58_read l Z a0 hw [] p1 (.ref b3_6) (.ref b3_10) b13 b6_2_2_10_55 k6_2_2_10_55 b42 ymir ov20 T69.heap n0 O70 f74 f75 f76 f77 f78 f79 f80 oS22 rfl rfl hmir) hZ3 (w108 hw) (w52 hw) (by decide) (by decide)) (g := (mkF m 154 #[.val (.int p1), .val (.int p2), .val (.int p3), .val (.int p4), .val (.int jz1), .val (.int (((p2.toUInt32 >>> ((1 : Int32) &&& 31).toUInt32).toInt32) &&& (3 : Int32))), .val (.ref yb_3), .val (.ref b3_6), .val (.ref b3_10), .val (.ref b13), .val (.ref b59), .val (.int (1 : Int32)), .unset] [(.ref b13), (.ref b3_10), (.ref b3_6), (.int p1)])) rfl (by rw [hml]; rfl) (argsL := [(.int p1), (.ref b3_6), (.ref b3_10), (.ref b13)]) (rest := []) (lenOf pd__ILjava_lang_String_Ljava_lang_String_Ljava_util_List_Lcom_example_causeway_causeway_formats_OaiDcUnit_ rfl) rfl (by show 2 * 0 + _ ≤ _; exact Nat.le_of_eq rfl) (hb hby at_154) (fun _ _ => ⟨rfl, eq72, (by decide : 14 + 3 ≤ _), (by decide : 44 + 8 ≤ _)⟩)
          dsimp only [Pt.U, Pt.locs, Pt.cells, Pt.slots] at X81 l81 y81 z81 st81 hQ81
          subst l81 y81 z81
          obtain ⟨Nq81, Kq81, hR81⟩ := hQ81
          have N81 := Fr.app N72 Nq81
          have K82 : Keep h0 _ [] := K70.trans Kq81 all0
          have O82 := O70.keep Kq81 all0
          have hk83 := Nat.le_trans hk71 Kq81.1
          obtain ⟨b1_81, b2_6_1_2_10_81, rfl, bz81_0, bz81_1, bn81_0, bf81_0, bf81_1, bf81_2, bf81_3, bf81_4, bf81_5, bf81_6, bf81_7, bf81_8⟩ := hR81
          have sz_b1_81 : h0.size ≤ b1_81 := Nat.le_trans K70.1 bz81_0
          have g_b1_81 : n0 ≤ b1_81 := Nat.le_trans Z0 sz_b1_81
          have sz_b2_6_1_2_10_81 : h0.size ≤ b2_6_1_2_10_81 := Nat.le_trans K70.1 bz81_1
          have g_b2_6_1_2_10_81 : n0 ≤ b2_6_1_2_10_81 := Nat.le_trans Z0 sz_b2_6_1_2_10_81
          refine Gets.of st81 ?_
          show Gets p e below _ (T81.setTop (mkF m 157 #[.val (.int p1), .val (.int p2), .val (.int p3), .val (.int p4), .val (.int jz1), .val (.int (((p2.toUInt32 >>> ((1 : Int32) &&& 31).toUInt32).toInt32) &&& (3 : Int32))), .val (.ref yb_3), .val (.ref b3_6), .val (.ref b3_10), .val (.ref b13), .val (.ref b59), .val (.int (1 : Int32)), .unset] [(.ref b1_81)]))
          refine Gets.of (fun t k => XS.astore X81.here hx rfl (hb hby at_157) rfl rfl (l' := #[.val (.int p1), .val (.int p2), .val (.int p3), .val (.int p4), .val (.int jz1), .val (.int (((p2.toUInt32 >>> ((1 : Int32) &&& 31).toUInt32).toInt32) &&& (3 : Int32))), .val (.ref yb_3), .val (.ref b3_6), .val (.ref b3_10), .val (.ref b13), .val (.ref b59), .val (.int (1 : Int32)), .val (.ref b1_81)]) rfl k) ?_
          show Gets p e below _ (T81.setTop (mkF m 159 #[.val (.int p1), .val (.int p2), .val (.int p3), .val (.int p4), .val (.int jz1), .val (.int (((p2.toUInt32 >>> ((1 : Int32) &&& 31).toUInt32).toInt32) &&& (3 : Int32))), .val (.ref yb_3), .val (.ref b3_6), .val (.ref b3_10), .val (.ref b13), .val (.ref b59), .val (.int (1 : Int32)), .val (.ref b1_81)] []))
          refine Gets.of (fun t k => XS.iload X81.here hx rfl (hb hby at_159) rfl  k) ?_
          refine Gets.of (fun t k => XS.ifNo X81.here hx rfl (hb hby at_161) rfl ((if0 _ _).trans (feq (by decide : ¬ ((1 : Int32) = (0 : Int32)))).1) k) ?_
          show Gets p e below _ (T81.setTop (mkF m 164 #[.val (.int p1), .val (.int p2), .val (.int p3), .val (.int p4), .val (.int jz1), .val (.int (((p2.toUInt32 >>> ((1 : Int32) &&& 31).toUInt32).toInt32) &&& (3 : Int32))), .val (.ref yb_3), .val (.ref b3_6), .val (.ref b3_10), .val (.ref b13), .val (.ref b59), .val (.int (1 : Int32)), .val (.ref b1_81)] []))
          refine Gets.of (fun t k => XS.aload X81.here hx rfl (hb hby at_164) rfl rfl  k) ?_
          obtain ⟨cq84, kq84, q84a, q84b, q84c⟩ := isOf hZ3 rfl bf81_0
          obtain ⟨_, _, ⟨T84, L84, k84, n84⟩, -, X84, ⟨Lc84, hQ84, l84, y84, z84⟩, st84⟩ := X81.virtualBack hx (y := (⟨cn1, "isSetAside", "()Z"⟩ : MethodName)) (z := (⟨cn1, "isSetAside", "()Z"⟩ : MethodName)) hown3 (mvT hZ3 (w101 hw)) (mvT hZ3 (w102 hw)) (notFace_of_selects (args := #[]) (mvT hZ3 (w104 hw))) (mvT hZ3 (w104 hw)) (mvT hZ3 (w103 hw)) (by decide) (backOf (W := 0) (r33_isSetAside l Z a0 hw [] b1_81 T81.heap n0 O82 bf81_5) hZ3 (w105 hw) (w52 hw) (by decide) (by decide)) q84a q84c (g := (mkF m 166 #[.val (.int p1), .val (.int p2), .val (.int p3), .val (.int p4), .val (.int jz1), .val (.int (((p2.toUInt32 >>> ((1 : Int32) &&& 31).toUInt32).toInt32) &&& (3 : Int32))), .val (.ref yb_3), .val (.ref b3_6), .val (.ref b3_10), .val (.ref b13), .val (.ref b59), .val (.int (1 : Int32)), .val (.ref b1_81)] [(.ref b1_81)])) rfl (by rw [hml]; rfl) (Steps.refl _) (argsL := []) (rest := []) (lenOf pd__Z rfl) rfl (by show 2 * 0 + _ ≤ _; exact Nat.le_of_eq rfl) (hb hby at_166) (fun _ _ => ⟨rfl, rfl, (by decide : 17 + 0 ≤ _), (by decide : 52 + 0 ≤ _)⟩)
          dsimp only [Pt.U, Pt.locs, Pt.cells, Pt.slots] at X84 l84 y84 z84 st84 hQ84
          subst l84 y84 z84
          obtain ⟨Nq84, eq84, hR84⟩ := hQ84
          have N84 := Fr.app N81 Nq84
          obtain rfl := hR84
          refine Gets.tr st84 ?_
          show Gets p e below _ (T84.setTop (mkF m 169 #[.val (.int p1), .val (.int p2), .val (.int p3), .val (.int p4), .val (.int jz1), .val (.int (((p2.toUInt32 >>> ((1 : Int32) &&& 31).toUInt32).toInt32) &&& (3 : Int32))), .val (.ref yb_3), .val (.ref b3_6), .val (.ref b3_10), .val (.ref b13), .val (.ref b59), .val (.int (1 : Int32)), .val (.ref b1_81)] [(.int (0 : Int32))]))
          refine Gets.of (fun t k => XS.ifNo X84.here hx rfl (hb hby at_169) rfl ((if0 _ _).trans (teq (by decide : (0 : Int32) = (0 : Int32))).2) k) ?_
          show Gets p e below _ (T84.setTop (mkF m 172 #[.val (.int p1), .val (.int p2), .val (.int p3), .val (.int p4), .val (.int jz1), .val (.int (((p2.toUInt32 >>> ((1 : Int32) &&& 31).toUInt32).toInt32) &&& (3 : Int32))), .val (.ref yb_3), .val (.ref b3_6), .val (.ref b3_10), .val (.ref b13), .val (.ref b59), .val (.int (1 : Int32)), .val (.ref b1_81)] []))
          refine Gets.of (fun t k => XS.iconst X84.here hx rfl (hb hby at_172) k) ?_
          refine Gets.of (fun t k => XS.goto X84.here hx rfl (pc0 := 173) (pc' := 177) rfl (hb hby at_173) (by decide) (by decide) k) ?_
          show Gets p e below _ (T84.setTop (mkF m 177 #[.val (.int p1), .val (.int p2), .val (.int p3), .val (.int p4), .val (.int jz1), .val (.int (((p2.toUInt32 >>> ((1 : Int32) &&& 31).toUInt32).toInt32) &&& (3 : Int32))), .val (.ref yb_3), .val (.ref b3_6), .val (.ref b3_10), .val (.ref b13), .val (.ref b59), .val (.int (1 : Int32)), .val (.ref b1_81)] [(.int (1 : Int32))]))
          refine Gets.of (fun t k => XS.istore X84.here hx rfl (hb hby at_177) rfl (l' := #[.val (.int p1), .val (.int p2), .val (.int p3), .val (.int p4), .val (.int jz1), .val (.int (((p2.toUInt32 >>> ((1 : Int32) &&& 31).toUInt32).toInt32) &&& (3 : Int32))), .val (.ref yb_3), .val (.ref b3_6), .val (.ref b3_10), .val (.ref b13), .val (.ref b59), .val (.int (1 : Int32)), .val (.ref b1_81)]) rfl k) ?_
          show Gets p e below _ (T84.setTop (mkF m 179 #[.val (.int p1), .val (.int p2), .val (.int p3), .val (.int p4), .val (.int jz1), .val (.int (((p2.toUInt32 >>> ((1 : Int32) &&& 31).toUInt32).toInt32) &&& (3 : Int32))), .val (.ref yb_3), .val (.ref b3_6), .val (.ref b3_10), .val (.ref b13), .val (.ref b59), .val (.int (1 : Int32)), .val (.ref b1_81)] []))
          refine Gets.of (fun t k => XS.iload X84.here hx rfl (hb hby at_179) rfl  k) ?_
          refine Gets.of (fun t k => XS.ifNo X84.here hx rfl (hb hby at_181) rfl ((if0 _ _).trans (teq hc2).2) k) ?_
          show Gets p e below _ (T84.setTop (mkF m 184 #[.val (.int p1), .val (.int p2), .val (.int p3), .val (.int p4), .val (.int jz1), .val (.int (((p2.toUInt32 >>> ((1 : Int32) &&& 31).toUInt32).toInt32) &&& (3 : Int32))), .val (.ref yb_3), .val (.ref b3_6), .val (.ref b3_10), .val (.ref b13), .val (.ref b59), .val (.int (1 : Int32)), .val (.ref b1_81)] []))
          refine Gets.of (fun t k => XS.iload X84.here hx rfl (hb hby at_184) rfl  k) ?_
          refine Gets.of (fun t k => XS.ifNo X84.here hx rfl (hb hby at_186) rfl ((if0 _ _).trans (feq (by decide : ¬ ((1 : Int32) = (0 : Int32)))).1) k) ?_
          show Gets p e below _ (T84.setTop (mkF m 189 #[.val (.int p1), .val (.int p2), .val (.int p3), .val (.int p4), .val (.int jz1), .val (.int (((p2.toUInt32 >>> ((1 : Int32) &&& 31).toUInt32).toInt32) &&& (3 : Int32))), .val (.ref yb_3), .val (.ref b3_6), .val (.ref b3_10), .val (.ref b13), .val (.ref b59), .val (.int (1 : Int32)), .val (.ref b1_81)] []))
          refine Gets.of (fun t k => XS.iloadN X84.here hx rfl (hb hby at_189) rfl  k) ?_
          refine Gets.of (fun t k => XS.aload X84.here hx rfl (hb hby at_190) rfl rfl  k) ?_
          refine Gets.of (fun t k => XS.aload X84.here hx rfl (hb hby at_192) rfl rfl  k) ?_
          obtain ⟨_, _, ⟨T85, L85, k85, n85⟩, -, X85, ⟨Lc85, hQ85, l85, y85, z85⟩, st85⟩ := Jvm.LawKit.callS X84 hx (y := (⟨cn1, "setAside", cn23⟩ : MethodName)) hown3 (mvT hZ3 (w244 hw)) (mvT hZ3 (w245 hw)) (mvT hZ3 (w52 hw)) (mvT hZ3 (w246 hw)) (by decide) (backOf (W := 0) (r34_setAside l Z a0 hw [] p1 (.ref b3_6) (.ref yb_3) ov14 T81.heap n0 O82 oS16 oE17 oF19 rfl rfl) hZ3 (w246 hw) (w52 hw) (by decide) (by decide)) (g := (mkF m 194 #[.val (.int p1), .val (.int p2), .val (.int p3), .val (.int p4), .val (.int jz1), .val (.int (((p2.toUInt32 >>> ((1 : Int32) &&& 31).toUInt32).toInt32) &&& (3 : Int32))), .val (.ref yb_3), .val (.ref b3_6), .val (.ref b3_10), .val (.ref b13), .val (.ref b59), .val (.int (1 : Int32)), .val (.ref b1_81)] [(.ref yb_3), (.ref b3_6), (.int p1)])) rfl (by rw [hml]; rfl) (argsL := [(.int p1), (.ref b3_6), (.ref yb_3)]) (rest := []) (lenOf pd__ILjava_lang_String_Ljava_lang_String_Lcom_example_causeway_causeway_formats_OaiDcUnit_ rfl) rfl (by show 2 * 0 + _ ≤ _; exact Nat.le_of_eq rfl) (hb hby at_194) (fun _ _ => ⟨rfl, eq84, (by decide : 17 + 1 ≤ _), (by decide : 52 + 5 ≤ _)⟩)
          dsimp only [Pt.U, Pt.locs, Pt.cells, Pt.slots] at X85 l85 y85 z85 st85 hQ85
          subst l85 y85 z85
          obtain ⟨Nq85, Kq85, hR85⟩ := hQ85
          have N85 := Fr.app N84 Nq85
          have K86 : Keep h0 _ [] := K82.trans Kq85 all0
          have O86 := O82.keep Kq85 all0
          have hk87 := Nat.le_trans hk83 Kq85.1
          obtain ⟨b1_85, rfl, bz85_0, bf85_0, bf85_1, bf85_2, bf85_3, bf85_4, bf85_5⟩ := hR85
          have sz_b1_85 : h0.size ≤ b1_85 := Nat.le_trans K82.1 bz85_0
          have g_b1_85 : n0 ≤ b1_85 := Nat.le_trans Z0 sz_b1_85
          refine Gets.of st85 ?_
          show Gets p e below _ (T85.setTop (mkF m 197 #[.val (.int p1), .val (.int p2), .val (.int p3), .val (.int p4), .val (.int jz1), .val (.int (((p2.toUInt32 >>> ((1 : Int32) &&& 31).toUInt32).toInt32) &&& (3 : Int32))), .val (.ref yb_3), .val (.ref b3_6), .val (.ref b3_10), .val (.ref b13), .val (.ref b59), .val (.int (1 : Int32)), .val (.ref b1_81)] [(.ref b1_85)]))
          obtain ⟨cq88, kq88, q88a, q88b, q88c⟩ := isOf hZ3 rfl bf85_0
          obtain ⟨_, _, ⟨T88, L88, k88, n88⟩, -, X88, ⟨Lc88, hQ88, l88, y88, z88⟩, st88⟩ := X85.virtualBack hx (y := (⟨cn1, "isSetAside", "()Z"⟩ : MethodName)) (z := (⟨cn1, "isSetAside", "()Z"⟩ : MethodName)) hown3 (mvT hZ3 (w101 hw)) (mvT hZ3 (w102 hw)) (notFace_of_selects (args := #[]) (mvT hZ3 (w104 hw))) (mvT hZ3 (w104 hw)) (mvT hZ3 (w103 hw)) (by decide) (backOf (W := 0) (r31_isSetAside l Z a0 hw [] b1_85 yb_3 T85.heap n0 O86 bf85_5) hZ3 (w105 hw) (w52 hw) (by decide) (by decide)) q88a q88c (g := (mkF m 197 #[.val (.int p1), .val (.int p2), .val (.int p3), .val (.int p4), .val (.int jz1), .val (.int (((p2.toUInt32 >>> ((1 : Int32) &&& 31).toUInt32).toInt32) &&& (3 : Int32))), .val (.ref yb_3), .val (.ref b3_6), .val (.ref b3_10), .val (.ref b13), .val (.ref b59), .val (.int (1 : Int32)), .val (.ref b1_81)] [(.ref b1_85)])) rfl (by rw [hml]; rfl) (Steps.refl _) (argsL := []) (rest := []) (lenOf pd__Z rfl) rfl (by show 2 * 0 + _ ≤ _; exact Nat.le_of_eq rfl) (hb hby at_197) (fun _ _ => ⟨rfl, rfl, (by decide : 18 + 0 ≤ _), (by decide : 57 + 0 ≤ _)⟩)
          dsimp only [Pt.U, Pt.locs, Pt.cells, Pt.slots] at X88 l88 y88 z88 st88 hQ88
          subst l88 y88 z88
          obtain ⟨Nq88, eq88, hR88⟩ := hQ88
          have N88 := Fr.app N85 Nq88
          obtain rfl := hR88
          refine Gets.tr st88 ?_
          show Gets p e below _ (T88.setTop (mkF m 200 #[.val (.int p1), .val (.int p2), .val (.int p3), .val (.int p4), .val (.int jz1), .val (.int (((p2.toUInt32 >>> ((1 : Int32) &&& 31).toUInt32).toInt32) &&& (3 : Int32))), .val (.ref yb_3), .val (.ref b3_6), .val (.ref b3_10), .val (.ref b13), .val (.ref b59), .val (.int (1 : Int32)), .val (.ref b1_81)] [(.int (1 : Int32))]))
          refine Gets.of (fun t k => XS.ifNo X88.here hx rfl (hb hby at_200) rfl ((if0 _ _).trans (feq (by decide : ¬ ((1 : Int32) = (0 : Int32)))).1) k) ?_
          show Gets p e below _ (T88.setTop (mkF m 203 #[.val (.int p1), .val (.int p2), .val (.int p3), .val (.int p4), .val (.int jz1), .val (.int (((p2.toUInt32 >>> ((1 : Int32) &&& 31).toUInt32).toInt32) &&& (3 : Int32))), .val (.ref yb_3), .val (.ref b3_6), .val (.ref b3_10), .val (.ref b13), .val (.ref b59), .val (.int (1 : Int32)), .val (.ref b1_81)] []))
          refine Gets.of (fun t k => XS.iconst X88.here hx rfl (hb hby at_203) k) ?_
          refine Gets.of (fun t k => XS.goto X88.here hx rfl (pc0 := 204) (pc' := 208) rfl (hb hby at_204) (by decide) (by decide) k) ?_
          show Gets p e below _ (T88.setTop (mkF m 208 #[.val (.int p1), .val (.int p2), .val (.int p3), .val (.int p4), .val (.int jz1), .val (.int (((p2.toUInt32 >>> ((1 : Int32) &&& 31).toUInt32).toInt32) &&& (3 : Int32))), .val (.ref yb_3), .val (.ref b3_6), .val (.ref b3_10), .val (.ref b13), .val (.ref b59), .val (.int (1 : Int32)), .val (.ref b1_81)] [(.int (1 : Int32))]))
          refine Gets.of (fun t k => XS.istore X88.here hx rfl (hb hby at_208) rfl (l' := #[.val (.int p1), .val (.int p2), .val (.int p3), .val (.int p4), .val (.int jz1), .val (.int (((p2.toUInt32 >>> ((1 : Int32) &&& 31).toUInt32).toInt32) &&& (3 : Int32))), .val (.ref yb_3), .val (.ref b3_6), .val (.ref b3_10), .val (.ref b13), .val (.ref b59), .val (.int (1 : Int32)), .val (.ref b1_81)]) rfl k) ?_
          show Gets p e below _ (T88.setTop (mkF m 210 #[.val (.int p1), .val (.int p2), .val (.int p3), .val (.int p4), .val (.int jz1), .val (.int (((p2.toUInt32 >>> ((1 : Int32) &&& 31).toUInt32).toInt32) &&& (3 : Int32))), .val (.ref yb_3), .val (.ref b3_6), .val (.ref b3_10), .val (.ref b13), .val (.ref b59), .val (.int (1 : Int32)), .val (.ref b1_81)] []))
          refine Gets.of (fun t k => XS.iload X88.here hx rfl (hb hby at_210) rfl  k) ?_
          refine GetsW.retN X88 hx (t := .boolean) Bd.returns (by simp) (hb hby at_212) hS3 (eq88 ▸ hk87) ?_ (by decide) (by decide)
          rw [eq88]
          exact ⟨N88, K86, rfl⟩
      · skip
        refine Gets.of (fun t k => XS.ifNo X6.here hx rfl (hb hby at_52) rfl ((if0 _ _).trans (feq hc9).1) k) ?_
        show Gets p e below _ (T6.setTop (mkF m 55 #[.val (.int p1), .val (.int p2), .val (.int p3), .val (.int p4), .val (.int jz1), .val (.int (((p2.toUInt32 >>> ((1 : Int32) &&& 31).toUInt32).toInt32) &&& (3 : Int32))), .val (.ref yb_3), .val (.ref b3_6), .unset, .unset, .unset, .unset, .unset] []))
        refine Gets.of (fun t k => XS.aconstNull X6.here hx rfl (hb hby at_55) k) ?_
        refine Gets.of (fun t k => XS.goto X6.here hx rfl (pc0 := 56) (pc' := 68) rfl (hb hby at_56) (by decide) (by decide) k) ?_
        show Gets p e below _ (T6.setTop (mkF m 68 #[.val (.int p1), .val (.int p2), .val (.int p3), .val (.int p4), .val (.int jz1), .val (.int (((p2.toUInt32 >>> ((1 : Int32) &&& 31).toUInt32).toInt32) &&& (3 : Int32))), .val (.ref yb_3), .val (.ref b3_6), .unset, .unset, .unset, .unset, .unset] [.null]))
        refine Gets.of (fun t k => XS.astore X6.here hx rfl (hb hby at_68) rfl rfl (l' := #[.val (.int p1), .val (.int p2), .val (.int p3), .val (.int p4), .val (.int jz1), .val (.int (((p2.toUInt32 >>> ((1 : Int32) &&& 31).toUInt32).toInt32) &&& (3 : Int32))), .val (.ref yb_3), .val (.ref b3_6), .val .null, .unset, .unset, .unset, .unset]) rfl k) ?_
        show Gets p e below _ (T6.setTop (mkF m 70 #[.val (.int p1), .val (.int p2), .val (.int p3), .val (.int p4), .val (.int jz1), .val (.int (((p2.toUInt32 >>> ((1 : Int32) &&& 31).toUInt32).toInt32) &&& (3 : Int32))), .val (.ref yb_3), .val (.ref b3_6), .val .null, .unset, .unset, .unset, .unset] []))
        obtain ⟨T89, h89, X89, e89, E89, A89, D89, -, st89⟩ := newO X6 hx hZ3 hown3 (w26 hw) (w27 hw) (w28 hw) rfl (g := (mkF m 70 #[.val (.int p1), .val (.int p2), .val (.int p3), .val (.int p4), .val (.int jz1), .val (.int (((p2.toUInt32 >>> ((1 : Int32) &&& 31).toUInt32).toInt32) &&& (3 : Int32))), .val (.ref yb_3), .val (.ref b3_6), .val .null, .unset, .unset, .unset, .unset] [])) rfl (hb hby at_70) (by decide) (by decide)
        obtain ⟨b89, g89⟩ : ∃ z, z = T6.heap.size := ⟨_, rfl⟩
        rw [← g89] at A89 D89 st89
        have sz_b89 : h0.size ≤ b89 := Nat.le_trans K7.1 (Nat.le_of_eq g89.symm)
        have g_b89 : n0 ≤ b89 := Nat.le_trans Z0 sz_b89
        have K90 := K7.ext E89
        have O90 := O7.ext E89
        have hk91 := Nat.le_trans hk8 E89.1
        have F89_46 : Fld Z h89 b89 cn10 "modCount" "I" (.int (0 : Int32)) := D89 (Or.inl (w46 hw)) (ty := .int) (by decide)
        have F89_49 : Fld Z h89 b89 cn2 "elementData" cn6 .null := D89 (Or.inl (w49 hw)) (ty := (.array (.object cn3))) (by decide)
        have F89_86 : Fld Z h89 b89 cn2 "size" "I" (.int (0 : Int32)) := D89 (Or.inl (w86 hw)) (ty := .int) (by decide)
        refine Gets.of st89 ?_
        show Gets p e below _ (T89.setTop (mkF m 73 #[.val (.int p1), .val (.int p2), .val (.int p3), .val (.int p4), .val (.int jz1), .val (.int (((p2.toUInt32 >>> ((1 : Int32) &&& 31).toUInt32).toInt32) &&& (3 : Int32))), .val (.ref yb_3), .val (.ref b3_6), .val .null, .unset, .unset, .unset, .unset] [(.ref b89)]))
        refine Gets.of (fun t k => XS.dup X89.here hx rfl (hb hby at_73) rfl rfl k) ?_
        obtain ⟨_, _, ⟨T92, L92, k92, n92⟩, -, X92, ⟨Lc92, hQ92, l92, y92, z92⟩, st92⟩ := X89.specialBack hx (y := (⟨cn2, "<init>", "()V"⟩ : MethodName)) rfl hown3 (mvT hZ3 (w29 hw)) (mvT hZ3 (w30 hw)) (mvT hZ3 (w31 hw)) (by decide) (backOf (W := 1) (r22_init l Z a0 hw [] b89 ov5 h89 n0 O90 A89 F89_46 F89_49 F89_86 oS7 g_b89) hZ3 (w31 hw) (w28 hw) (by decide) (by decide)) (g := (mkF m 74 #[.val (.int p1), .val (.int p2), .val (.int p3), .val (.int p4), .val (.int jz1), .val (.int (((p2.toUInt32 >>> ((1 : Int32) &&& 31).toUInt32).toInt32) &&& (3 : Int32))), .val (.ref yb_3), .val (.ref b3_6), .val .null, .unset, .unset, .unset, .unset] [(.ref b89), (.ref b89)])) rfl (by rw [hml]; rfl) (Steps.refl _) (a := b89) (argsL := []) (rest := [(.ref b89)]) (lenOf pd__V rfl) rfl (by show 2 * 0 + _ ≤ _; exact Nat.le_of_eq rfl) (hb hby at_74) (fun _ _ => ⟨rfl, e89, (by decide : 7 + 0 ≤ _), (by decide : 18 + 0 ≤ _)⟩)
        dsimp only [Pt.U, Pt.locs, Pt.cells, Pt.slots] at X92 l92 y92 z92 st92 hQ92
        subst l92 y92 z92
        obtain ⟨Nq92, Kq92, hR92⟩ := hQ92
        have N92 := Fr.app N6 Nq92
        have K93 : Keep h0 _ [] := K90.trans Kq92 (allS (Or.inr sz_b89) all0)
        have O93 := O90.keep Kq92 (allS g_b89 all0)
        have hk94 := Nat.le_trans hk91 Kq92.1
        obtain ⟨rfl, bf92_0, bf92_1, bf92_2⟩ := hR92
        refine Gets.tr st92 ?_
        show Gets p e below _ (T92.setTop (mkF m 77 #[.val (.int p1), .val (.int p2), .val (.int p3), .val (.int p4), .val (.int jz1), .val (.int (((p2.toUInt32 >>> ((1 : Int32) &&& 31).toUInt32).toInt32) &&& (3 : Int32))), .val (.ref yb_3), .val (.ref b3_6), .val .null, .unset, .unset, .unset, .unset] [(.ref b89)]))
        refine Gets.of (fun t k => XS.astore X92.here hx rfl (hb hby at_77) rfl rfl (l' := #[.val (.int p1), .val (.int p2), .val (.int p3), .val (.int p4), .val (.int jz1), .val (.int (((p2.toUInt32 >>> ((1 : Int32) &&& 31).toUInt32).toInt32) &&& (3 : Int32))), .val (.ref yb_3), .val (.ref b3_6), .val .null, .val (.ref b89), .unset, .unset, .unset]) rfl k) ?_
        show Gets p e below _ (T92.setTop (mkF m 79 #[.val (.int p1), .val (.int p2), .val (.int p3), .val (.int p4), .val (.int jz1), .val (.int (((p2.toUInt32 >>> ((1 : Int32) &&& 31).toUInt32).toInt32) &&& (3 : Int32))), .val (.ref yb_3), .val (.ref b3_6), .val .null, .val (.ref b89), .unset, .unset, .unset] []))
        refine Gets.of (fun t k => XS.iloadN X92.here hx rfl (hb hby at_79) rfl  k) ?_
        refine Gets.of (fun t k => XS.bipush X92.here hx rfl (hb hby at_80) k) ?_
        refine Gets.of (fun t k => XS.iand X92.here hx rfl (hb hby at_82) rfl k) ?_
        show Gets p e below _ (T92.setTop (mkF m 83 #[.val (.int p1), .val (.int p2), .val (.int p3), .val (.int p4), .val (.int jz1), .val (.int (((p2.toUInt32 >>> ((1 : Int32) &&& 31).toUInt32).toInt32) &&& (3 : Int32))), .val (.ref yb_3), .val (.ref b3_6), .val .null, .val (.ref b89), .unset, .unset, .unset] [(.int (p2 &&& (16 : Int32)))]))
        by_cases hc95 : (p2 &&& (16 : Int32)) = (0 : Int32)
        · skip
          refine Gets.of (fun t k => XS.ifYes X92.here hx rfl (pc0 := 83) (pc' := 104) rfl (hb hby at_83) rfl ((if0 _ _).trans (teq hc95).1) (by decide) (by decide) k) ?_
          show Gets p e below _ (T92.setTop (mkF m 104 #[.val (.int p1), .val (.int p2), .val (.int p3), .val (.int p4), .val (.int jz1), .val (.int (((p2.toUInt32 >>> ((1 : Int32) &&& 31).toUInt32).toInt32) &&& (3 : Int32))), .val (.ref yb_3), .val (.ref b3_6), .val .null, .val (.ref b89), .unset, .unset, .unset] []))
          obtain ⟨T96, h96, X96, e96, E96, A96, D96, -, st96⟩ := newO X92 hx hZ3 hown3 (w50 hw) (w51 hw) (w52 hw) rfl (g := (mkF m 104 #[.val (.int p1), .val (.int p2), .val (.int p3), .val (.int p4), .val (.int jz1), .val (.int (((p2.toUInt32 >>> ((1 : Int32) &&& 31).toUInt32).toInt32) &&& (3 : Int32))), .val (.ref yb_3), .val (.ref b3_6), .val .null, .val (.ref b89), .unset, .unset, .unset] [])) rfl (hb hby at_104) (by decide) (by decide)
          obtain ⟨b96, g96⟩ : ∃ z, z = T92.heap.size := ⟨_, rfl⟩
          rw [← g96] at A96 D96 st96
          have up97 := Kq92.1
          have sz_b96 : h0.size ≤ b96 := Nat.le_trans K93.1 (Nat.le_of_eq g96.symm)
          have g_b96 : n0 ≤ b96 := Nat.le_trans Z0 sz_b96
          have K98 := K93.ext E96
          have O98 := O93.ext E96
          have hk99 := Nat.le_trans hk94 E96.1
          have F96_92 : Fld Z h96 b96 cn1 "number" "I" (.int (0 : Int32)) := D96 (Or.inr (w92 hw)) (ty := .int) (by decide)
          have F96_94 : Fld Z h96 b96 cn1 "location" cn4 .null := D96 (Or.inr (w94 hw)) (ty := (.object cn0)) (by decide)
          have F96_96 : Fld Z h96 b96 cn1 "source" cn4 .null := D96 (Or.inr (w96 hw)) (ty := (.object cn0)) (by decide)
          have F96_98 : Fld Z h96 b96 cn1 "values" cn12 .null := D96 (Or.inr (w98 hw)) (ty := (.object "java/util/List")) (by decide)
          have F96_100 : Fld Z h96 b96 cn1 "problem" cn4 .null := D96 (Or.inr (w100 hw)) (ty := (.object cn0)) (by decide)
          refine Gets.of st96 ?_
          show Gets p e below _ (T96.setTop (mkF m 107 #[.val (.int p1), .val (.int p2), .val (.int p3), .val (.int p4), .val (.int jz1), .val (.int (((p2.toUInt32 >>> ((1 : Int32) &&& 31).toUInt32).toInt32) &&& (3 : Int32))), .val (.ref yb_3), .val (.ref b3_6), .val .null, .val (.ref b89), .unset, .unset, .unset] [(.ref b96)]))
          refine Gets.of (fun t k => XS.dup X96.here hx rfl (hb hby at_107) rfl rfl k) ?_
          refine Gets.of (fun t k => XS.iloadN X96.here hx rfl (hb hby at_108) rfl  k) ?_
          refine Gets.of (fun t k => XS.aload X96.here hx rfl (hb hby at_109) rfl rfl  k) ?_
          refine Gets.of (fun t k => XS.aload X96.here hx rfl (hb hby at_111) rfl rfl  k) ?_
          show Gets p e below _ (T96.setTop (mkF m 113 #[.val (.int p1), .val (.int p2), .val (.int p3), .val (.int p4), .val (.int jz1), .val (.int (((p2.toUInt32 >>> ((1 : Int32) &&& 31).toUInt32).toInt32) &&& (3 : Int32))), .val (.ref yb_3), .val (.ref b3_6), .val .null, .val (.ref b89), .unset, .unset, .unset] [.null, (.ref b3_6), (.int p1), (.ref b96), (.ref b96)]))
          refine Gets.of (fun t k => XS.aload X96.here hx rfl (hb hby at_113) rfl rfl  k) ?_
          refine Gets.of (fun t k => XS.aload X96.here hx rfl (hb hby at_115) rfl rfl  k) ?_
          have f100 : Exa Z h96 b89 cn2 := ((A89.keep Kq92).ext E96)
          have f101 : Fld Z h96 b89 cn2 "size" "I" (.int (0 : Int32)) := (bf92_2.ext E96)
          obtain ⟨_, _, ⟨T102, L102, k102, n102⟩, -, X102, ⟨Lc102, hQ102, l102, y102, z102⟩, st102⟩ := X96.specialBack hx (y := (⟨cn1, "<init>", cn16⟩ : MethodName)) rfl hown3 (mvT hZ3 (w53 hw)) (mvT hZ3 (w54 hw)) (mvT hZ3 (w55 hw)) (by decide) (backOf (W := 1) (r25_init l Z a0 hw [] b96 p1 (.ref b3_6) .null b89 (.ref yb_3) ov14 h96 n0 O98 f100 f101 A96 F96_92 F96_94 F96_96 F96_98 F96_100 oS16 g_b96 rfl rfl rfl) hZ3 (w55 hw) (w52 hw) (by decide) (by decide)) (g := (mkF m 117 #[.val (.int p1), .val (.int p2), .val (.int p3), .val (.int p4), .val (.int jz1), .val (.int (((p2.toUInt32 >>> ((1 : Int32) &&& 31).toUInt32).toInt32) &&& (3 : Int32))), .val (.ref yb_3), .val (.ref b3_6), .val .null, .val (.ref b89), .unset, .unset, .unset] [(.ref yb_3), (.ref b89), .null, (.ref b3_6), (.int p1), (.ref b96), (.ref b96)])) rfl (by rw [hml]; rfl) (Steps.refl _) (a := b96) (argsL := [(.int p1), (.ref b3_6), .null, (.ref b89), (.ref yb_3)]) (rest := [(.ref b96)]) (lenOf pd__ILjava_lang_String_Ljava_lang_String_Ljava_util_List_Ljava_lang_String_V rfl) rfl (by show 2 * 0 + _ ≤ _; exact Nat.le_of_eq rfl) (hb hby at_117) (fun _ _ => ⟨rfl, e96, (by decide : 8 + 0 ≤ _), (by decide : 23 + 0 ≤ _)⟩)
          dsimp only [Pt.U, Pt.locs, Pt.cells, Pt.slots] at X102 l102 y102 z102 st102 hQ102
          subst l102 y102 z102
          obtain ⟨Nq102, Kq102, hR102⟩ := hQ102
          have N102 := Fr.app N92 Nq102
          have K103 : Keep h0 _ [] := K98.trans Kq102 (allS (Or.inr sz_b96) all0)
          have O103 := O98.keep Kq102 (allS g_b96 all0)
          have hk104 := Nat.le_trans hk99 Kq102.1
          obtain ⟨rfl, bf102_0, bf102_1, bf102_2, bf102_3, bf102_4⟩ := hR102
          refine Gets.tr st102 ?_
          show Gets p e below _ (T102.setTop (mkF m 120 #[.val (.int p1), .val (.int p2), .val (.int p3), .val (.int p4), .val (.int jz1), .val (.int (((p2.toUInt32 >>> ((1 : Int32) &&& 31).toUInt32).toInt32) &&& (3 : Int32))), .val (.ref yb_3), .val (.ref b3_6), .val .null, .val (.ref b89), .unset, .unset, .unset] [(.ref b96)]))
          refine Gets.of (fun t k => XS.astore X102.here hx rfl (hb hby at_120) rfl rfl (l' := #[.val (.int p1), .val (.int p2), .val (.int p3), .val (.int p4), .val (.int jz1), .val (.int (((p2.toUInt32 >>> ((1 : Int32) &&& 31).toUInt32).toInt32) &&& (3 : Int32))), .val (.ref yb_3), .val (.ref b3_6), .val .null, .val (.ref b89), .val (.ref b96), .unset, .unset]) rfl k) ?_
          show Gets p e below _ (T102.setTop (mkF m 122 #[.val (.int p1), .val (.int p2), .val (.int p3), .val (.int p4), .val (.int jz1), .val (.int (((p2.toUInt32 >>> ((1 : Int32) &&& 31).toUInt32).toInt32) &&& (3 : Int32))), .val (.ref yb_3), .val (.ref b3_6), .val .null, .val (.ref b89), .val (.ref b96), .unset, .unset] []))
          refine Gets.of (fun t k => XS.aload X102.here hx rfl (hb hby at_122) rfl rfl  k) ?_
          have f106 : Exa Z T102.heap b96 cn1 := (A96.keep Kq102)
          obtain ⟨cq105, kq105, q105a, q105b, q105c⟩ := isOf hZ3 rfl f106
          obtain ⟨_, _, ⟨T105, L105, k105, n105⟩, -, X105, ⟨Lc105, hQ105, l105, y105, z105⟩, st105⟩ := X102.virtualBack hx (y := (⟨cn1, "isSetAside", "()Z"⟩ : MethodName)) (z := (⟨cn1, "isSetAside", "()Z"⟩ : MethodName)) hown3 (mvT hZ3 (w101 hw)) (mvT hZ3 (w102 hw)) (notFace_of_selects (args := #[]) (mvT hZ3 (w104 hw))) (mvT hZ3 (w104 hw)) (mvT hZ3 (w103 hw)) (by decide) (backOf (W := 0) (r31_isSetAside l Z a0 hw [] b96 yb_3 T102.heap n0 O103 bf102_4) hZ3 (w105 hw) (w52 hw) (by decide) (by decide)) q105a q105c (g := (mkF m 124 #[.val (.int p1), .val (.int p2), .val (.int p3), .val (.int p4), .val (.int jz1), .val (.int (((p2.toUInt32 >>> ((1 : Int32) &&& 31).toUInt32).toInt32) &&& (3 : Int32))), .val (.ref yb_3), .val (.ref b3_6), .val .null, .val (.ref b89), .val (.ref b96), .unset, .unset] [(.ref b96)])) rfl (by rw [hml]; rfl) (Steps.refl _) (argsL := []) (rest := []) (lenOf pd__Z rfl) rfl (by show 2 * 0 + _ ≤ _; exact Nat.le_of_eq rfl) (hb hby at_124) (fun _ _ => ⟨rfl, rfl, (by decide : 8 + 0 ≤ _), (by decide : 23 + 0 ≤ _)⟩)
          dsimp only [Pt.U, Pt.locs, Pt.cells, Pt.slots] at X105 l105 y105 z105 st105 hQ105
          subst l105 y105 z105
          obtain ⟨Nq105, eq105, hR105⟩ := hQ105
          have N105 := Fr.app N102 Nq105
          obtain rfl := hR105
          refine Gets.tr st105 ?_
          show Gets p e below _ (T105.setTop (mkF m 127 #[.val (.int p1), .val (.int p2), .val (.int p3), .val (.int p4), .val (.int jz1), .val (.int (((p2.toUInt32 >>> ((1 : Int32) &&& 31).toUInt32).toInt32) &&& (3 : Int32))), .val (.ref yb_3), .val (.ref b3_6), .val .null, .val (.ref b89), .val (.ref b96), .unset, .unset] [(.int (1 : Int32))]))
          refine Gets.of (fun t k => XS.iload X105.here hx rfl (hb hby at_127) rfl  k) ?_
          refine Gets.of (fun t k => XS.ifNo X105.here hx rfl (hb hby at_129) rfl ((if0 _ _).trans (teq hc2).2) k) ?_
          show Gets p e below _ (T105.setTop (mkF m 132 #[.val (.int p1), .val (.int p2), .val (.int p3), .val (.int p4), .val (.int jz1), .val (.int (((p2.toUInt32 >>> ((1 : Int32) &&& 31).toUInt32).toInt32) &&& (3 : Int32))), .val (.ref yb_3), .val (.ref b3_6), .val .null, .val (.ref b89), .val (.ref b96), .unset, .unset] [(.int (1 : Int32))]))
          refine Gets.of (fun t k => XS.iconst X105.here hx rfl (hb hby at_132) k) ?_
          refine Gets.of (fun t k => XS.goto X105.here hx rfl (pc0 := 133) (pc' := 137) rfl (hb hby at_133) (by decide) (by decide) k) ?_
          show Gets p e below _ (T105.setTop (mkF m 137 #[.val (.int p1), .val (.int p2), .val (.int p3), .val (.int p4), .val (.int jz1), .val (.int (((p2.toUInt32 >>> ((1 : Int32) &&& 31).toUInt32).toInt32) &&& (3 : Int32))), .val (.ref yb_3), .val (.ref b3_6), .val .null, .val (.ref b89), .val (.ref b96), .unset, .unset] [(.int (1 : Int32)), (.int (1 : Int32))]))
          refine Gets.of (fun t k => XS.icmpNo X105.here hx rfl (hb hby at_137) rfl (teq (by decide : (1 : Int32) = (1 : Int32))).2 k) ?_
          show Gets p e below _ (T105.setTop (mkF m 140 #[.val (.int p1), .val (.int p2), .val (.int p3), .val (.int p4), .val (.int jz1), .val (.int (((p2.toUInt32 >>> ((1 : Int32) &&& 31).toUInt32).toInt32) &&& (3 : Int32))), .val (.ref yb_3), .val (.ref b3_6), .val .null, .val (.ref b89), .val (.ref b96), .unset, .unset] []))
          refine Gets.of (fun t k => XS.iconst X105.here hx rfl (hb hby at_140) k) ?_
          refine Gets.of (fun t k => XS.goto X105.here hx rfl (pc0 := 141) (pc' := 145) rfl (hb hby at_141) (by decide) (by decide) k) ?_
          show Gets p e below _ (T105.setTop (mkF m 145 #[.val (.int p1), .val (.int p2), .val (.int p3), .val (.int p4), .val (.int jz1), .val (.int (((p2.toUInt32 >>> ((1 : Int32) &&& 31).toUInt32).toInt32) &&& (3 : Int32))), .val (.ref yb_3), .val (.ref b3_6), .val .null, .val (.ref b89), .val (.ref b96), .unset, .unset] [(.int (1 : Int32))]))
          refine Gets.of (fun t k => XS.istore X105.here hx rfl (hb hby at_145) rfl (l' := #[.val (.int p1), .val (.int p2), .val (.int p3), .val (.int p4), .val (.int jz1), .val (.int (((p2.toUInt32 >>> ((1 : Int32) &&& 31).toUInt32).toInt32) &&& (3 : Int32))), .val (.ref yb_3), .val (.ref b3_6), .val .null, .val (.ref b89), .val (.ref b96), .val (.int (1 : Int32)), .unset]) rfl k) ?_
          show Gets p e below _ (T105.setTop (mkF m 147 #[.val (.int p1), .val (.int p2), .val (.int p3), .val (.int p4), .val (.int jz1), .val (.int (((p2.toUInt32 >>> ((1 : Int32) &&& 31).toUInt32).toInt32) &&& (3 : Int32))), .val (.ref yb_3), .val (.ref b3_6), .val .null, .val (.ref b89), .val (.ref b96), .val (.int (1 : Int32)), .unset] []))
          refine Gets.of (fun t k => XS.iloadN X105.here hx rfl (hb hby at_147) rfl  k) ?_
          refine Gets.of (fun t k => XS.aload X105.here hx rfl (hb hby at_148) rfl rfl  k) ?_
          refine Gets.of (fun t k => XS.aload X105.here hx rfl (hb hby at_150) rfl rfl  k) ?_
          refine Gets.of (fun t k => XS.aload X105.here hx rfl (hb hby at_152) rfl rfl  k) ?_
          show Gets p e below _ (T105.setTop (mkF m 154 #[.val (.int p1), .val (.int p2), .val (.int p3), .val (.int p4), .val (.int jz1), .val (.int (((p2.toUInt32 >>> ((1 : Int32) &&& 31).toUInt32).toInt32) &&& (3 : Int32))), .val (.ref yb_3), .val (.ref b3_6), .val .null, .val (.ref b89), .val (.ref b96), .val (.int (1 : Int32)), .unset] [(.ref b89), .null, (.ref b3_6), (.int p1)]))
          have f107 : Exa Z T102.heap b89 cn2 := (f100.keep Kq102)
          have f108 : Fld Z T102.heap b89 cn2 "size" "I" (.int (0 : Int32)) := (f101.keep Kq102 (ninS (Nat.ne_of_lt (Nat.lt_of_lt_of_le (Nat.lt_of_lt_of_le A89.lt up97) (Nat.le_of_eq g96.symm))) nin0))
          obtain ⟨_, _, ⟨T109, L109, k109, n109⟩, -, X109, ⟨Lc109, hQ109, l109, y109, z109⟩, st109⟩ := Jvm.LawKit.callS X105 hx (y := (⟨cn1, "read", cn20⟩ : MethodName)) hown3 (mvT hZ3 (w106 hw)) (mvT hZ3 (w107 hw)) (mvT hZ3 (w52 hw)) (mvT hZ3 (w108 hw)) (by decide) (backOf (W := 0) (r32_read l Z a0 hw [] p1 (.ref b3_6) .null b89 ov14 T102.heap n0 O103 f107 f108 oS16 rfl rfl) hZ3 (w108 hw) (w52 hw) (by decide) (by decide)) (g := (mkF m 154 #[.val (.int p1), .val (.int p2), .val (.int p3), .val (.int p4), .val (.int jz1), .val (.int (((p2.toUInt32 >>> ((1 : Int32) &&& 31).toUInt32).toInt32) &&& (3 : Int32))), .val (.ref yb_3), .val (.ref b3_6), .val .null, .val (.ref b89), .val (.ref b96), .val (.int (1 : Int32)), .unset] [(.ref b89), .null, (.ref b3_6), (.int p1)])) rfl (by rw [hml]; rfl) (argsL := [(.int p1), (.ref b3_6), .null, (.ref b89)]) (rest := []) (lenOf pd__ILjava_lang_String_Ljava_lang_String_Ljava_util_List_Lcom_example_causeway_causeway_formats_OaiDcUnit_ rfl) rfl (by show 2 * 0 + _ ≤ _; exact Nat.le_of_eq rfl) (hb hby at_154) (fun _ _ => ⟨rfl, eq105, (by decide : 8 + 1 ≤ _), (by decide : 23 + 5 ≤ _)⟩)
          dsimp only [Pt.U, Pt.locs, Pt.cells, Pt.slots] at X109 l109 y109 z109 st109 hQ109
          subst l109 y109 z109
          obtain ⟨Nq109, Kq109, hR109⟩ := hQ109
          have N109 := Fr.app N105 Nq109
          have up110 := Kq102.1
          have K111 : Keep h0 _ [] := K103.trans Kq109 all0
          have O111 := O103.keep Kq109 all0
          have hk112 := Nat.le_trans hk104 Kq109.1
          obtain ⟨b1_109, rfl, bz109_0, bf109_0, bf109_1, bf109_2, bf109_3, bf109_4, bf109_5⟩ := hR109
          have sz_b1_109 : h0.size ≤ b1_109 := Nat.le_trans K103.1 bz109_0
          have g_b1_109 : n0 ≤ b1_109 := Nat.le_trans Z0 sz_b1_109
          refine Gets.of st109 ?_
          show Gets p e below _ (T109.setTop (mkF m 157 #[.val (.int p1), .val (.int p2), .val (.int p3), .val (.int p4), .val (.int jz1), .val (.int (((p2.toUInt32 >>> ((1 : Int32) &&& 31).toUInt32).toInt32) &&& (3 : Int32))), .val (.ref yb_3), .val (.ref b3_6), .val .null, .val (.ref b89), .val (.ref b96), .val (.int (1 : Int32)), .unset] [(.ref b1_109)]))
          refine Gets.of (fun t k => XS.astore X109.here hx rfl (hb hby at_157) rfl rfl (l' := #[.val (.int p1), .val (.int p2), .val (.int p3), .val (.int p4), .val (.int jz1), .val (.int (((p2.toUInt32 >>> ((1 : Int32) &&& 31).toUInt32).toInt32) &&& (3 : Int32))), .val (.ref yb_3), .val (.ref b3_6), .val .null, .val (.ref b89), .val (.ref b96), .val (.int (1 : Int32)), .val (.ref b1_109)]) rfl k) ?_
          show Gets p e below _ (T109.setTop (mkF m 159 #[.val (.int p1), .val (.int p2), .val (.int p3), .val (.int p4), .val (.int jz1), .val (.int (((p2.toUInt32 >>> ((1 : Int32) &&& 31).toUInt32).toInt32) &&& (3 : Int32))), .val (.ref yb_3), .val (.ref b3_6), .val .null, .val (.ref b89), .val (.ref b96), .val (.int (1 : Int32)), .val (.ref b1_109)] []))
          refine Gets.of (fun t k => XS.iload X109.here hx rfl (hb hby at_159) rfl  k) ?_
          refine Gets.of (fun t k => XS.ifNo X109.here hx rfl (hb hby at_161) rfl ((if0 _ _).trans (feq (by decide : ¬ ((1 : Int32) = (0 : Int32)))).1) k) ?_
          show Gets p e below _ (T109.setTop (mkF m 164 #[.val (.int p1), .val (.int p2), .val (.int p3), .val (.int p4), .val (.int jz1), .val (.int (((p2.toUInt32 >>> ((1 : Int32) &&& 31).toUInt32).toInt32) &&& (3 : Int32))), .val (.ref yb_3), .val (.ref b3_6), .val .null, .val (.ref b89), .val (.ref b96), .val (.int (1 : Int32)), .val (.ref b1_109)] []))
          refine Gets.of (fun t k => XS.aload X109.here hx rfl (hb hby at_164) rfl rfl  k) ?_
          obtain ⟨cq113, kq113, q113a, q113b, q113c⟩ := isOf hZ3 rfl bf109_0
          obtain ⟨_, _, ⟨T113, L113, k113, n113⟩, -, X113, ⟨Lc113, hQ113, l113, y113, z113⟩, st113⟩ := X109.virtualBack hx (y := (⟨cn1, "isSetAside", "()Z"⟩ : MethodName)) (z := (⟨cn1, "isSetAside", "()Z"⟩ : MethodName)) hown3 (mvT hZ3 (w101 hw)) (mvT hZ3 (w102 hw)) (notFace_of_selects (args := #[]) (mvT hZ3 (w104 hw))) (mvT hZ3 (w104 hw)) (mvT hZ3 (w103 hw)) (by decide) (backOf (W := 0) (r33_isSetAside l Z a0 hw [] b1_109 T109.heap n0 O111 bf109_5) hZ3 (w105 hw) (w52 hw) (by decide) (by decide)) q113a q113c (g := (mkF m 166 #[.val (.int p1), .val (.int p2), .val (.int p3), .val (.int p4), .val (.int jz1), .val (.int (((p2.toUInt32 >>> ((1 : Int32) &&& 31).toUInt32).toInt32) &&& (3 : Int32))), .val (.ref yb_3), .val (.ref b3_6), .val .null, .val (.ref b89), .val (.ref b96), .val (.int (1 : Int32)), .val (.ref b1_109)] [(.ref b1_109)])) rfl (by rw [hml]; rfl) (Steps.refl _) (argsL := []) (rest := []) (lenOf pd__Z rfl) rfl (by show 2 * 0 + _ ≤ _; exact Nat.le_of_eq rfl) (hb hby at_166) (fun _ _ => ⟨rfl, rfl, (by decide : 9 + 0 ≤ _), (by decide : 28 + 0 ≤ _)⟩)
          dsimp only [Pt.U, Pt.locs, Pt.cells, Pt.slots] at X113 l113 y113 z113 st113 hQ113
          subst l113 y113 z113
          obtain ⟨Nq113, eq113, hR113⟩ := hQ113
          have N113 := Fr.app N109 Nq113
          obtain rfl := hR113
          refine Gets.tr st113 ?_
          show Gets p e below _ (T113.setTop (mkF m 169 #[.val (.int p1), .val (.int p2), .val (.int p3), .val (.int p4), .val (.int jz1), .val (.int (((p2.toUInt32 >>> ((1 : Int32) &&& 31).toUInt32).toInt32) &&& (3 : Int32))), .val (.ref yb_3), .val (.ref b3_6), .val .null, .val (.ref b89), .val (.ref b96), .val (.int (1 : Int32)), .val (.ref b1_109)] [(.int (0 : Int32))]))
          refine Gets.of (fun t k => XS.ifNo X113.here hx rfl (hb hby at_169) rfl ((if0 _ _).trans (teq (by decide : (0 : Int32) = (0 : Int32))).2) k) ?_
          show Gets p e below _ (T113.setTop (mkF m 172 #[.val (.int p1), .val (.int p2), .val (.int p3), .val (.int p4), .val (.int jz1), .val (.int (((p2.toUInt32 >>> ((1 : Int32) &&& 31).toUInt32).toInt32) &&& (3 : Int32))), .val (.ref yb_3), .val (.ref b3_6), .val .null, .val (.ref b89), .val (.ref b96), .val (.int (1 : Int32)), .val (.ref b1_109)] []))
          refine Gets.of (fun t k => XS.iconst X113.here hx rfl (hb hby at_172) k) ?_
          refine Gets.of (fun t k => XS.goto X113.here hx rfl (pc0 := 173) (pc' := 177) rfl (hb hby at_173) (by decide) (by decide) k) ?_
          show Gets p e below _ (T113.setTop (mkF m 177 #[.val (.int p1), .val (.int p2), .val (.int p3), .val (.int p4), .val (.int jz1), .val (.int (((p2.toUInt32 >>> ((1 : Int32) &&& 31).toUInt32).toInt32) &&& (3 : Int32))), .val (.ref yb_3), .val (.ref b3_6), .val .null, .val (.ref b89), .val (.ref b96), .val (.int (1 : Int32)), .val (.ref b1_109)] [(.int (1 : Int32))]))
          refine Gets.of (fun t k => XS.istore X113.here hx rfl (hb hby at_177) rfl (l' := #[.val (.int p1), .val (.int p2), .val (.int p3), .val (.int p4), .val (.int jz1), .val (.int (((p2.toUInt32 >>> ((1 : Int32) &&& 31).toUInt32).toInt32) &&& (3 : Int32))), .val (.ref yb_3), .val (.ref b3_6), .val .null, .val (.ref b89), .val (.ref b96), .val (.int (1 : Int32)), .val (.ref b1_109)]) rfl k) ?_
          show Gets p e below _ (T113.setTop (mkF m 179 #[.val (.int p1), .val (.int p2), .val (.int p3), .val (.int p4), .val (.int jz1), .val (.int (((p2.toUInt32 >>> ((1 : Int32) &&& 31).toUInt32).toInt32) &&& (3 : Int32))), .val (.ref yb_3), .val (.ref b3_6), .val .null, .val (.ref b89), .val (.ref b96), .val (.int (1 : Int32)), .val (.ref b1_109)] []))
          refine Gets.of (fun t k => XS.iload X113.here hx rfl (hb hby at_179) rfl  k) ?_
          refine Gets.of (fun t k => XS.ifNo X113.here hx rfl (hb hby at_181) rfl ((if0 _ _).trans (teq hc2).2) k) ?_
          show Gets p e below _ (T113.setTop (mkF m 184 #[.val (.int p1), .val (.int p2), .val (.int p3), .val (.int p4), .val (.int jz1), .val (.int (((p2.toUInt32 >>> ((1 : Int32) &&& 31).toUInt32).toInt32) &&& (3 : Int32))), .val (.ref yb_3), .val (.ref b3_6), .val .null, .val (.ref b89), .val (.ref b96), .val (.int (1 : Int32)), .val (.ref b1_109)] []))
          refine Gets.of (fun t k => XS.iload X113.here hx rfl (hb hby at_184) rfl  k) ?_
          refine Gets.of (fun t k => XS.ifNo X113.here hx rfl (hb hby at_186) rfl ((if0 _ _).trans (feq (by decide : ¬ ((1 : Int32) = (0 : Int32)))).1) k) ?_
          show Gets p e below _ (T113.setTop (mkF m 189 #[.val (.int p1), .val (.int p2), .val (.int p3), .val (.int p4), .val (.int jz1), .val (.int (((p2.toUInt32 >>> ((1 : Int32) &&& 31).toUInt32).toInt32) &&& (3 : Int32))), .val (.ref yb_3), .val (.ref b3_6), .val .null, .val (.ref b89), .val (.ref b96), .val (.int (1 : Int32)), .val (.ref b1_109)] []))
          refine Gets.of (fun t k => XS.iloadN X113.here hx rfl (hb hby at_189) rfl  k) ?_
          refine Gets.of (fun t k => XS.aload X113.here hx rfl (hb hby at_190) rfl rfl  k) ?_
          refine Gets.of (fun t k => XS.aload X113.here hx rfl (hb hby at_192) rfl rfl  k) ?_
          obtain ⟨_, _, ⟨T114, L114, k114, n114⟩, -, X114, ⟨Lc114, hQ114, l114, y114, z114⟩, st114⟩ := Jvm.LawKit.callS X113 hx (y := (⟨cn1, "setAside", cn23⟩ : MethodName)) hown3 (mvT hZ3 (w244 hw)) (mvT hZ3 (w245 hw)) (mvT hZ3 (w52 hw)) (mvT hZ3 (w246 hw)) (by decide) (backOf (W := 0) (r34_setAside l Z a0 hw [] p1 (.ref b3_6) (.ref yb_3) ov14 T109.heap n0 O111 oS16 oE17 oF19 rfl rfl) hZ3 (w246 hw) (w52 hw) (by decide) (by decide)) (g := (mkF m 194 #[.val (.int p1), .val (.int p2), .val (.int p3), .val (.int p4), .val (.int jz1), .val (.int (((p2.toUInt32 >>> ((1 : Int32) &&& 31).toUInt32).toInt32) &&& (3 : Int32))), .val (.ref yb_3), .val (.ref b3_6), .val .null, .val (.ref b89), .val (.ref b96), .val (.int (1 : Int32)), .val (.ref b1_109)] [(.ref yb_3), (.ref b3_6), (.int p1)])) rfl (by rw [hml]; rfl) (argsL := [(.int p1), (.ref b3_6), (.ref yb_3)]) (rest := []) (lenOf pd__ILjava_lang_String_Ljava_lang_String_Lcom_example_causeway_causeway_formats_OaiDcUnit_ rfl) rfl (by show 2 * 0 + _ ≤ _; exact Nat.le_of_eq rfl) (hb hby at_194) (fun _ _ => ⟨rfl, eq113, (by decide : 9 + 1 ≤ _), (by decide : 28 + 5 ≤ _)⟩)
          dsimp only [Pt.U, Pt.locs, Pt.cells, Pt.slots] at X114 l114 y114 z114 st114 hQ114
          subst l114 y114 z114
          obtain ⟨Nq114, Kq114, hR114⟩ := hQ114
          have N114 := Fr.app N113 Nq114
          have K115 : Keep h0 _ [] := K111.trans Kq114 all0
          have O115 := O111.keep Kq114 all0
          have hk116 := Nat.le_trans hk112 Kq114.1
          obtain ⟨b1_114, rfl, bz114_0, bf114_0, bf114_1, bf114_2, bf114_3, bf114_4, bf114_5⟩ := hR114
          have sz_b1_114 : h0.size ≤ b1_114 := Nat.le_trans K111.1 bz114_0
          have g_b1_114 : n0 ≤ b1_114 := Nat.le_trans Z0 sz_b1_114
          refine Gets.of st114 ?_
          show Gets p e below _ (T114.setTop (mkF m 197 #[.val (.int p1), .val (.int p2), .val (.int p3), .val (.int p4), .val (.int jz1), .val (.int (((p2.toUInt32 >>> ((1 : Int32) &&& 31).toUInt32).toInt32) &&& (3 : Int32))), .val (.ref yb_3), .val (.ref b3_6), .val .null, .val (.ref b89), .val (.ref b96), .val (.int (1 : Int32)), .val (.ref b1_109)] [(.ref b1_114)]))
          obtain ⟨cq117, kq117, q117a, q117b, q117c⟩ := isOf hZ3 rfl bf114_0
          obtain ⟨_, _, ⟨T117, L117, k117, n117⟩, -, X117, ⟨Lc117, hQ117, l117, y117, z117⟩, st117⟩ := X114.virtualBack hx (y := (⟨cn1, "isSetAside", "()Z"⟩ : MethodName)) (z := (⟨cn1, "isSetAside", "()Z"⟩ : MethodName)) hown3 (mvT hZ3 (w101 hw)) (mvT hZ3 (w102 hw)) (notFace_of_selects (args := #[]) (mvT hZ3 (w104 hw))) (mvT hZ3 (w104 hw)) (mvT hZ3 (w103 hw)) (by decide) (backOf (W := 0) (r31_isSetAside l Z a0 hw [] b1_114 yb_3 T114.heap n0 O115 bf114_5) hZ3 (w105 hw) (w52 hw) (by decide) (by decide)) q117a q117c (g := (mkF m 197 #[.val (.int p1), .val (.int p2), .val (.int p3), .val (.int p4), .val (.int jz1), .val (.int (((p2.toUInt32 >>> ((1 : Int32) &&& 31).toUInt32).toInt32) &&& (3 : Int32))), .val (.ref yb_3), .val (.ref b3_6), .val .null, .val (.ref b89), .val (.ref b96), .val (.int (1 : Int32)), .val (.ref b1_109)] [(.ref b1_114)])) rfl (by rw [hml]; rfl) (Steps.refl _) (argsL := []) (rest := []) (lenOf pd__Z rfl) rfl (by show 2 * 0 + _ ≤ _; exact Nat.le_of_eq rfl) (hb hby at_197) (fun _ _ => ⟨rfl, rfl, (by decide : 10 + 0 ≤ _), (by decide : 33 + 0 ≤ _)⟩)
          dsimp only [Pt.U, Pt.locs, Pt.cells, Pt.slots] at X117 l117 y117 z117 st117 hQ117
          subst l117 y117 z117
          obtain ⟨Nq117, eq117, hR117⟩ := hQ117
          have N117 := Fr.app N114 Nq117
          obtain rfl := hR117
          refine Gets.tr st117 ?_
          show Gets p e below _ (T117.setTop (mkF m 200 #[.val (.int p1), .val (.int p2), .val (.int p3), .val (.int p4), .val (.int jz1), .val (.int (((p2.toUInt32 >>> ((1 : Int32) &&& 31).toUInt32).toInt32) &&& (3 : Int32))), .val (.ref yb_3), .val (.ref b3_6), .val .null, .val (.ref b89), .val (.ref b96), .val (.int (1 : Int32)), .val (.ref b1_109)] [(.int (1 : Int32))]))
          refine Gets.of (fun t k => XS.ifNo X117.here hx rfl (hb hby at_200) rfl ((if0 _ _).trans (feq (by decide : ¬ ((1 : Int32) = (0 : Int32)))).1) k) ?_
          show Gets p e below _ (T117.setTop (mkF m 203 #[.val (.int p1), .val (.int p2), .val (.int p3), .val (.int p4), .val (.int jz1), .val (.int (((p2.toUInt32 >>> ((1 : Int32) &&& 31).toUInt32).toInt32) &&& (3 : Int32))), .val (.ref yb_3), .val (.ref b3_6), .val .null, .val (.ref b89), .val (.ref b96), .val (.int (1 : Int32)), .val (.ref b1_109)] []))
          refine Gets.of (fun t k => XS.iconst X117.here hx rfl (hb hby at_203) k) ?_
          refine Gets.of (fun t k => XS.goto X117.here hx rfl (pc0 := 204) (pc' := 208) rfl (hb hby at_204) (by decide) (by decide) k) ?_
          show Gets p e below _ (T117.setTop (mkF m 208 #[.val (.int p1), .val (.int p2), .val (.int p3), .val (.int p4), .val (.int jz1), .val (.int (((p2.toUInt32 >>> ((1 : Int32) &&& 31).toUInt32).toInt32) &&& (3 : Int32))), .val (.ref yb_3), .val (.ref b3_6), .val .null, .val (.ref b89), .val (.ref b96), .val (.int (1 : Int32)), .val (.ref b1_109)] [(.int (1 : Int32))]))
          refine Gets.of (fun t k => XS.istore X117.here hx rfl (hb hby at_208) rfl (l' := #[.val (.int p1), .val (.int p2), .val (.int p3), .val (.int p4), .val (.int jz1), .val (.int (((p2.toUInt32 >>> ((1 : Int32) &&& 31).toUInt32).toInt32) &&& (3 : Int32))), .val (.ref yb_3), .val (.ref b3_6), .val .null, .val (.ref b89), .val (.ref b96), .val (.int (1 : Int32)), .val (.ref b1_109)]) rfl k) ?_
          show Gets p e below _ (T117.setTop (mkF m 210 #[.val (.int p1), .val (.int p2), .val (.int p3), .val (.int p4), .val (.int jz1), .val (.int (((p2.toUInt32 >>> ((1 : Int32) &&& 31).toUInt32).toInt32) &&& (3 : Int32))), .val (.ref yb_3), .val (.ref b3_6), .val .null, .val (.ref b89), .val (.ref b96), .val (.int (1 : Int32)), .val (.ref b1_109)] []))
          refine Gets.of (fun t k => XS.iload X117.here hx rfl (hb hby at_210) rfl  k) ?_
          refine GetsW.retN X117 hx (t := .boolean) Bd.returns (by simp) (hb hby at_212) hS3 (eq117 ▸ hk116) ?_ (by decide) (by decide)
          rw [eq117]
          exact ⟨N117, K115, rfl⟩
        · skip
          refine Gets.of (fun t k => XS.ifNo X92.here hx rfl (hb hby at_83) rfl ((if0 _ _).trans (feq hc95).1) k) ?_
          show Gets p e below _ (T92.setTop (mkF m 86 #[.val (.int p1), .val (.int p2), .val (.int p3), .val (.int p4), .val (.int jz1), .val (.int (((p2.toUInt32 >>> ((1 : Int32) &&& 31).toUInt32).toInt32) &&& (3 : Int32))), .val (.ref yb_3), .val (.ref b3_6), .val .null, .val (.ref b89), .unset, .unset, .unset] []))
          refine Gets.of (fun t k => XS.aload X92.here hx rfl (hb hby at_86) rfl rfl  k) ?_
          obtain ⟨T118, h118, X118, e118, E118, A118, D118, -, st118⟩ := newO X92 hx hZ3 hown3 (w133 hw) (w134 hw) (w135 hw) rfl (g := (mkF m 88 #[.val (.int p1), .val (.int p2), .val (.int p3), .val (.int p4), .val (.int jz1), .val (.int (((p2.toUInt32 >>> ((1 : Int32) &&& 31).toUInt32).toInt32) &&& (3 : Int32))), .val (.ref yb_3), .val (.ref b3_6), .val .null, .val (.ref b89), .unset, .unset, .unset] [(.ref b89)])) rfl (hb hby at_88) (by decide) (by decide)
          obtain ⟨b118, g118⟩ : ∃ z, z = T92.heap.size := ⟨_, rfl⟩
          rw [← g118] at A118 D118 st118
          have up119 := Kq92.1
          have sz_b118 : h0.size ≤ b118 := Nat.le_trans K93.1 (Nat.le_of_eq g118.symm)
          have g_b118 : n0 ≤ b118 := Nat.le_trans Z0 sz_b118
          have K120 := K93.ext E118
          have O120 := O93.ext E118
          have hk121 := Nat.le_trans hk94 E118.1
          have F118_147 : Fld Z h118 b118 cn5 "element" cn18 .null := D118 (Or.inr (w147 hw)) (ty := (.object cn17)) (by decide)
          have F118_149 : Fld Z h118 b118 cn5 "value" cn4 .null := D118 (Or.inr (w149 hw)) (ty := (.object cn0)) (by decide)
          have F118_151 : Fld Z h118 b118 cn5 "language" cn4 .null := D118 (Or.inr (w151 hw)) (ty := (.object cn0)) (by decide)
          refine Gets.of st118 ?_
          show Gets p e below _ (T118.setTop (mkF m 91 #[.val (.int p1), .val (.int p2), .val (.int p3), .val (.int p4), .val (.int jz1), .val (.int (((p2.toUInt32 >>> ((1 : Int32) &&& 31).toUInt32).toInt32) &&& (3 : Int32))), .val (.ref yb_3), .val (.ref b3_6), .val .null, .val (.ref b89), .unset, .unset, .unset] [(.ref b118), (.ref b89)]))
          refine Gets.of (fun t k => XS.dup X118.here hx rfl (hb hby at_91) rfl rfl k) ?_
          obtain ⟨T122, X122, e122, st122⟩ := getS2 X118 hx hZ3 hown3 (host := "") (Or.inl (w136 hw)) Via.refl e118 (oS28.ext O120.2) (g := (mkF m 92 #[.val (.int p1), .val (.int p2), .val (.int p3), .val (.int p4), .val (.int jz1), .val (.int (((p2.toUInt32 >>> ((1 : Int32) &&& 31).toUInt32).toInt32) &&& (3 : Int32))), .val (.ref yb_3), .val (.ref b3_6), .val .null, .val (.ref b89), .unset, .unset, .unset] [(.ref b118), (.ref b118), (.ref b89)])) rfl (hb hby at_92)
          refine Gets.of st122 ?_
          show Gets p e below _ (T122.setTop (mkF m 95 #[.val (.int p1), .val (.int p2), .val (.int p3), .val (.int p4), .val (.int jz1), .val (.int (((p2.toUInt32 >>> ((1 : Int32) &&& 31).toUInt32).toInt32) &&& (3 : Int32))), .val (.ref yb_3), .val (.ref b3_6), .val .null, .val (.ref b89), .unset, .unset, .unset] [(.ref ov26), (.ref b118), (.ref b118), (.ref b89)]))
          refine Gets.of (fun t k => XS.aload X122.here hx rfl (hb hby at_95) rfl rfl  k) ?_
          obtain ⟨_, _, ⟨T123, L123, k123, n123⟩, -, X123, ⟨Lc123, hQ123, l123, y123, z123⟩, st123⟩ := X122.specialBack hx (y := (⟨cn5, "<init>", cn24⟩ : MethodName)) rfl hown3 (mvT hZ3 (w139 hw)) (mvT hZ3 (w140 hw)) (mvT hZ3 (w141 hw)) (by decide) (backOf (W := 2) (r38_init l Z a0 hw [] b118 (.ref ov26) (.ref b3_6) h118 n0 O120 A118 F118_147 F118_149 F118_151 g_b118 rfl rfl) hZ3 (w141 hw) (w135 hw) (by decide) (by decide)) (g := (mkF m 97 #[.val (.int p1), .val (.int p2), .val (.int p3), .val (.int p4), .val (.int jz1), .val (.int (((p2.toUInt32 >>> ((1 : Int32) &&& 31).toUInt32).toInt32) &&& (3 : Int32))), .val (.ref yb_3), .val (.ref b3_6), .val .null, .val (.ref b89), .unset, .unset, .unset] [(.ref b3_6), (.ref ov26), (.ref b118), (.ref b118), (.ref b89)])) rfl (by rw [hml]; rfl) (Steps.refl _) (a := b118) (argsL := [(.ref ov26), (.ref b3_6)]) (rest := [(.ref b118), (.ref b89)]) (lenOf pd__Lcom_example_causeway_causeway_formats_DcElement_Ljava_lang_String_V rfl) rfl (by show 2 * 0 + _ ≤ _; exact Nat.le_of_eq rfl) (hb hby at_97) (fun _ _ => ⟨rfl, e122, (by decide : 8 + 0 ≤ _), (by decide : 21 + 0 ≤ _)⟩)
          dsimp only [Pt.U, Pt.locs, Pt.cells, Pt.slots] at X123 l123 y123 z123 st123 hQ123
          subst l123 y123 z123
          obtain ⟨Nq123, Kq123, hR123⟩ := hQ123
          have N123 := Fr.app N92 Nq123
          have K124 : Keep h0 _ [] := K120.trans Kq123 (allS (Or.inr sz_b118) all0)
          have O124 := O120.keep Kq123 (allS g_b118 all0)
          have hk125 := Nat.le_trans hk121 Kq123.1
          obtain ⟨rfl, bf123_0, bf123_1, bf123_2⟩ := hR123
          refine Gets.tr st123 ?_
          show Gets p e below _ (T123.setTop (mkF m 100 #[.val (.int p1), .val (.int p2), .val (.int p3), .val (.int p4), .val (.int jz1), .val (.int (((p2.toUInt32 >>> ((1 : Int32) &&& 31).toUInt32).toInt32) &&& (3 : Int32))), .val (.ref yb_3), .val (.ref b3_6), .val .null, .val (.ref b89), .unset, .unset, .unset] [(.ref b118), (.ref b89)]))
          have f126 : Fld Z T123.heap b89 cn10 "modCount" "I" (.int (0 : Int32)) := ((bf92_0.ext E118).keep Kq123 (ninS (Nat.ne_of_lt (Nat.lt_of_lt_of_le (Nat.lt_of_lt_of_le A89.lt up119) (Nat.le_of_eq g118.symm))) nin0))
          have f127 : Exa Z T123.heap b89 cn2 := (((A89.keep Kq92).ext E118).keep Kq123)
          have f128 : Fld Z T123.heap b89 cn2 "elementData" cn6 (.ref ov5) := ((bf92_1.ext E118).keep Kq123 (ninS (Nat.ne_of_lt (Nat.lt_of_lt_of_le (Nat.lt_of_lt_of_le A89.lt up119) (Nat.le_of_eq g118.symm))) nin0))
          have f129 : Fld Z T123.heap b89 cn2 "size" "I" (.int (0 : Int32)) := ((bf92_2.ext E118).keep Kq123 (ninS (Nat.ne_of_lt (Nat.lt_of_lt_of_le (Nat.lt_of_lt_of_le A89.lt up119) (Nat.le_of_eq g118.symm))) nin0))
          have f130 : Exa Z T123.heap b118 cn5 := (A118.keep Kq123)
          obtain ⟨cq131, kq131, q131a, q131b, q131c⟩ := isOf hZ3 rfl f127
          obtain ⟨_, _, ⟨T131, L131, k131, n131⟩, -, X131, ⟨Lc131, hQ131, l131, y131, z131⟩, st131⟩ := X123.virtualBack hx (y := (⟨cn2, "add", "(Ljava/lang/Object;)Z"⟩ : MethodName)) (z := (⟨cn2, "add", "(Ljava/lang/Object;)Z"⟩ : MethodName)) hown3 (mvT hZ3 (w152 hw)) (mvT hZ3 (w153 hw)) (notFace_of_selects (args := #[]) (mvT hZ3 (w155 hw))) (mvT hZ3 (w155 hw)) (mvT hZ3 (w154 hw)) (by decide) (backOf (W := 0) (r40_add l Z a0 hw [] b89 b118 ov5 ok31 T123.heap n0 O124 f126 f127 f128 f129 f130 oV30 oS7 g_b89) hZ3 (w156 hw) (w28 hw) (by decide) (by decide)) q131a q131c (g := (mkF m 100 #[.val (.int p1), .val (.int p2), .val (.int p3), .val (.int p4), .val (.int jz1), .val (.int (((p2.toUInt32 >>> ((1 : Int32) &&& 31).toUInt32).toInt32) &&& (3 : Int32))), .val (.ref yb_3), .val (.ref b3_6), .val .null, .val (.ref b89), .unset, .unset, .unset] [(.ref b118), (.ref b89)])) rfl (by rw [hml]; rfl) (Steps.refl _) (argsL := [(.ref b118)]) (rest := []) (lenOf pd__Ljava_lang_Object_Z rfl) rfl (by show 2 * 0 + _ ≤ _; exact Nat.le_of_eq rfl) (hb hby at_100) (fun _ _ => ⟨rfl, rfl, (by decide : 8 + 1 ≤ _), (by decide : 21 + 10 ≤ _)⟩)
          dsimp only [Pt.U, Pt.locs, Pt.cells, Pt.slots] at X131 l131 y131 z131 st131 hQ131
          subst l131 y131 z131
          obtain ⟨Nq131, Kq131, hR131⟩ := hQ131
          have N131 := Fr.app N123 Nq131
          have up132 := Kq123.1
          have K133 : Keep h0 _ [] := K124.trans Kq131 (allS (Or.inr sz_b89) all0)
          have O133 := O124.keep Kq131 (allS g_b89 all0)
          have hk134 := Nat.le_trans hk125 Kq131.1
          obtain ⟨b6_2_2_10_131, k6_2_2_10_131, rfl, bz131_0, bf131_0, bf131_1, bf131_2, bf131_3, bf131_4, bf131_5⟩ := hR131
          have sz_b6_2_2_10_131 : h0.size ≤ b6_2_2_10_131 := Nat.le_trans K124.1 bz131_0
          have g_b6_2_2_10_131 : n0 ≤ b6_2_2_10_131 := Nat.le_trans Z0 sz_b6_2_2_10_131
          refine Gets.tr st131 ?_
          show Gets p e below _ (T131.setTop (mkF m 103 #[.val (.int p1), .val (.int p2), .val (.int p3), .val (.int p4), .val (.int jz1), .val (.int (((p2.toUInt32 >>> ((1 : Int32) &&& 31).toUInt32).toInt32) &&& (3 : Int32))), .val (.ref yb_3), .val (.ref b3_6), .val .null, .val (.ref b89), .unset, .unset, .unset] [(.int (1 : Int32))]))
          refine Gets.of (fun t k => XS.pop X131.here hx rfl (hb hby at_103) rfl rfl k) ?_
          show Gets p e below _ (T131.setTop (mkF m 104 #[.val (.int p1), .val (.int p2), .val (.int p3), .val (.int p4), .val (.int jz1), .val (.int (((p2.toUInt32 >>> ((1 : Int32) &&& 31).toUInt32).toInt32) &&& (3 : Int32))), .val (.ref yb_3), .val (.ref b3_6), .val .null, .val (.ref b89), .unset, .unset, .unset] []))
          obtain ⟨T135, h135, X135, e135, E135, A135, D135, -, st135⟩ := newO X131 hx hZ3 hown3 (w50 hw) (w51 hw) (w52 hw) rfl (g := (mkF m 104 #[.val (.int p1), .val (.int p2), .val (.int p3), .val (.int p4), .val (.int jz1), .val (.int (((p2.toUInt32 >>> ((1 : Int32) &&& 31).toUInt32).toInt32) &&& (3 : Int32))), .val (.ref yb_3), .val (.ref b3_6), .val .null, .val (.ref b89), .unset, .unset, .unset] [])) rfl (hb hby at_104) (by decide) (by decide)
          obtain ⟨b135, g135⟩ : ∃ z, z = T131.heap.size := ⟨_, rfl⟩
          rw [← g135] at A135 D135 st135
          have sz_b135 : h0.size ≤ b135 := Nat.le_trans K133.1 (Nat.le_of_eq g135.symm)
          have g_b135 : n0 ≤ b135 := Nat.le_trans Z0 sz_b135
          have K136 := K133.ext E135
          have O136 := O133.ext E135
          have hk137 := Nat.le_trans hk134 E135.1
          have F135_92 : Fld Z h135 b135 cn1 "number" "I" (.int (0 : Int32)) := D135 (Or.inr (w92 hw)) (ty := .int) (by decide)
          have F135_94 : Fld Z h135 b135 cn1 "location" cn4 .null := D135 (Or.inr (w94 hw)) (ty := (.object cn0)) (by decide)
          have F135_96 : Fld Z h135 b135 cn1 "source" cn4 .null := D135 (Or.inr (w96 hw)) (ty := (.object cn0)) (by decide)
          have F135_98 : Fld Z h135 b135 cn1 "values" cn12 .null := D135 (Or.inr (w98 hw)) (ty := (.object "java/util/List")) (by decide)
          have F135_100 : Fld Z h135 b135 cn1 "problem" cn4 .null := D135 (Or.inr (w100 hw)) (ty := (.object cn0)) (by decide)
          refine Gets.of st135 ?_
          show Gets p e below _ (T135.setTop (mkF m 107 #[.val (.int p1), .val (.int p2), .val (.int p3), .val (.int p4), .val (.int jz1), .val (.int (((p2.toUInt32 >>> ((1 : Int32) &&& 31).toUInt32).toInt32) &&& (3 : Int32))), .val (.ref yb_3), .val (.ref b3_6), .val .null, .val (.ref b89), .unset, .unset, .unset] [(.ref b135)]))
          refine Gets.of (fun t k => XS.dup X135.here hx rfl (hb hby at_107) rfl rfl k) ?_
          refine Gets.of (fun t k => XS.iloadN X135.here hx rfl (hb hby at_108) rfl  k) ?_
          refine Gets.of (fun t k => XS.aload X135.here hx rfl (hb hby at_109) rfl rfl  k) ?_
          refine Gets.of (fun t k => XS.aload X135.here hx rfl (hb hby at_111) rfl rfl  k) ?_
          show Gets p e below _ (T135.setTop (mkF m 113 #[.val (.int p1), .val (.int p2), .val (.int p3), .val (.int p4), .val (.int jz1), .val (.int (((p2.toUInt32 >>> ((1 : Int32) &&& 31).toUInt32).toInt32) &&& (3 : Int32))), .val (.ref yb_3), .val (.ref b3_6), .val .null, .val (.ref b89), .unset, .unset, .unset] [.null, (.ref b3_6), (.int p1), (.ref b135), (.ref b135)]))
          refine Gets.of (fun t k => XS.aload X135.here hx rfl (hb hby at_113) rfl rfl  k) ?_
          refine Gets.of (fun t k => XS.aload X135.here hx rfl (hb hby at_115) rfl rfl  k) ?_
          have f138 : Exa Z h135 b89 cn2 := ((f127.keep Kq131).ext E135)
          have f139 : Fld Z h135 b89 cn2 "size" "I" (.int (1 : Int32)) := (bf131_1.ext E135)
          have f140 : Ovr Z k6_2_2_10_131 cn3 := bf131_5
          have f141 : Fld Z h135 b89 cn2 "elementData" cn6 (.ref b6_2_2_10_131) := (bf131_0.ext E135)
          have f142 : Exa Z h135 b6_2_2_10_131 cn6 := (bf131_4.ext E135)
          have f143 : Arv Z h135 b6_2_2_10_131 k6_2_2_10_131 (.object cn3) (10 : Int32) [(.ref b118), .null, .null, .null, .null, .null, .null, .null, .null, .null] .null := (bf131_3.ext E135)
          have f144 : Exa Z h135 b118 cn5 := ((f130.keep Kq131).ext E135)
          obtain ⟨_, _, ⟨T145, L145, k145, n145⟩, -, X145, ⟨Lc145, hQ145, l145, y145, z145⟩, st145⟩ := X135.specialBack hx (y := (⟨cn1, "<init>", cn16⟩ : MethodName)) rfl hown3 (mvT hZ3 (w53 hw)) (mvT hZ3 (w54 hw)) (mvT hZ3 (w55 hw)) (by decide) (backOf (W := 1) (r45_init l Z a0 hw [] b135 p1 (.ref b3_6) .null b89 (.ref yb_3) k6_2_2_10_131 ymir b6_2_2_10_131 b118 ov20 h135 n0 O136 f138 f139 f140 f141 f142 f143 f144 A135 F135_92 F135_94 F135_96 F135_98 F135_100 oS22 g_b135 hmir rfl rfl rfl) hZ3 (w55 hw) (w52 hw) (by decide) (by decide)) (g := (mkF m 117 #[.val (.int p1), .val (.int p2), .val (.int p3), .val (.int p4), .val (.int jz1), .val (.int (((p2.toUInt32 >>> ((1 : Int32) &&& 31).toUInt32).toInt32) &&& (3 : Int32))), .val (.ref yb_3), .val (.ref b3_6), .val .null, .val (.ref b89), .unset, .unset, .unset] [(.ref yb_3), (.ref b89), .null, (.ref b3_6), (.int p1), (.ref b135), (.ref b135)])) rfl (by rw [hml]; rfl) (Steps.refl _) (a := b135) (argsL := [(.int p1), (.ref b3_6), .null, (.ref b89), (.ref yb_3)]) (rest := [(.ref b135)]) (lenOf pd__ILjava_lang_String_Ljava_lang_String_Ljava_util_List_Ljava_lang_String_V rfl) rfl (by show 2 * 0 + _ ≤ _; exact Nat.le_of_eq rfl) (hb hby at_117) (fun _ _ => ⟨rfl, e135, (by decide : 10 + 2 ≤ _), (by decide : 36 + 3 ≤ _)⟩)
          dsimp only [Pt.U, Pt.locs, Pt.cells, Pt.slots] at X145 l145 y145 z145 st145 hQ145
          subst l145 y145 z145
          obtain ⟨Nq145, Kq145, hR145⟩ := hQ145
          have N145 := Fr.app N131 Nq145
          have K146 : Keep h0 _ [] := K136.trans Kq145 (allS (Or.inr sz_b135) all0)
          have O146 := O136.keep Kq145 (allS g_b135 all0)
          have hk147 := Nat.le_trans hk137 Kq145.1
          obtain ⟨b2_6_1_2_145, rfl, bz145_0, bf145_0, bf145_1, bf145_2, bf145_3, bf145_4, bf145_5, bf145_6, bf145_7⟩ := hR145
          have sz_b2_6_1_2_145 : h0.size ≤ b2_6_1_2_145 := Nat.le_trans K136.1 bz145_0
          have g_b2_6_1_2_145 : n0 ≤ b2_6_1_2_145 := Nat.le_trans Z0 sz_b2_6_1_2_145
          refine Gets.tr st145 ?_
          show Gets p e below _ (T145.setTop (mkF m 120 #[.val (.int p1), .val (.int p2), .val (.int p3), .val (.int p4), .val (.int jz1), .val (.int (((p2.toUInt32 >>> ((1 : Int32) &&& 31).toUInt32).toInt32) &&& (3 : Int32))), .val (.ref yb_3), .val (.ref b3_6), .val .null, .val (.ref b89), .unset, .unset, .unset] [(.ref b135)]))
          refine Gets.of (fun t k => XS.astore X145.here hx rfl (hb hby at_120) rfl rfl (l' := #[.val (.int p1), .val (.int p2), .val (.int p3), .val (.int p4), .val (.int jz1), .val (.int (((p2.toUInt32 >>> ((1 : Int32) &&& 31).toUInt32).toInt32) &&& (3 : Int32))), .val (.ref yb_3), .val (.ref b3_6), .val .null, .val (.ref b89), .val (.ref b135), .unset, .unset]) rfl k) ?_
          show Gets p e below _ (T145.setTop (mkF m 122 #[.val (.int p1), .val (.int p2), .val (.int p3), .val (.int p4), .val (.int jz1), .val (.int (((p2.toUInt32 >>> ((1 : Int32) &&& 31).toUInt32).toInt32) &&& (3 : Int32))), .val (.ref yb_3), .val (.ref b3_6), .val .null, .val (.ref b89), .val (.ref b135), .unset, .unset] []))
          refine Gets.of (fun t k => XS.aload X145.here hx rfl (hb hby at_122) rfl rfl  k) ?_
          have f149 : Exa Z T145.heap b135 cn1 := (A135.keep Kq145)
          obtain ⟨cq148, kq148, q148a, q148b, q148c⟩ := isOf hZ3 rfl f149
          obtain ⟨_, _, ⟨T148, L148, k148, n148⟩, -, X148, ⟨Lc148, hQ148, l148, y148, z148⟩, st148⟩ := X145.virtualBack hx (y := (⟨cn1, "isSetAside", "()Z"⟩ : MethodName)) (z := (⟨cn1, "isSetAside", "()Z"⟩ : MethodName)) hown3 (mvT hZ3 (w101 hw)) (mvT hZ3 (w102 hw)) (notFace_of_selects (args := #[]) (mvT hZ3 (w104 hw))) (mvT hZ3 (w104 hw)) (mvT hZ3 (w103 hw)) (by decide) (backOf (W := 0) (r31_isSetAside l Z a0 hw [] b135 yb_3 T145.heap n0 O146 bf145_4) hZ3 (w105 hw) (w52 hw) (by decide) (by decide)) q148a q148c (g := (mkF m 124 #[.val (.int p1), .val (.int p2), .val (.int p3), .val (.int p4), .val (.int jz1), .val (.int (((p2.toUInt32 >>> ((1 : Int32) &&& 31).toUInt32).toInt32) &&& (3 : Int32))), .val (.ref yb_3), .val (.ref b3_6), .val .null, .val (.ref b89), .val (.ref b135), .unset, .unset] [(.ref b135)])) rfl (by rw [hml]; rfl) (Steps.refl _) (argsL := []) (rest := []) (lenOf pd__Z rfl) rfl (by show 2 * 0 + _ ≤ _; exact Nat.le_of_eq rfl) (hb hby at_124) (fun _ _ => ⟨rfl, rfl, (by decide : 12 + 0 ≤ _), (by decide : 39 + 0 ≤ _)⟩)
          dsimp only [Pt.U, Pt.locs, Pt.cells, Pt.slots] at X148 l148 y148 z148 st148 hQ148
          subst l148 y148 z148
          obtain ⟨Nq148, eq148, hR148⟩ := hQ148
          have N148 := Fr.app N145 Nq148
          obtain rfl := hR148
          refine Gets.tr st148 ?_
          show Gets p e below _ (T148.setTop (mkF m 127 #[.val (.int p1), .val (.int p2), .val (.int p3), .val (.int p4), .val (.int jz1), .val (.int (((p2.toUInt32 >>> ((1 : Int32) &&& 31).toUInt32).toInt32) &&& (3 : Int32))), .val (.ref yb_3), .val (.ref b3_6), .val .null, .val (.ref b89), .val (.ref b135), .unset, .unset] [(.int (1 : Int32))]))
          refine Gets.of (fun t k => XS.iload X148.here hx rfl (hb hby at_127) rfl  k) ?_
          refine Gets.of (fun t k => XS.ifNo X148.here hx rfl (hb hby at_129) rfl ((if0 _ _).trans (teq hc2).2) k) ?_
          show Gets p e below _ (T148.setTop (mkF m 132 #[.val (.int p1), .val (.int p2), .val (.int p3), .val (.int p4), .val (.int jz1), .val (.int (((p2.toUInt32 >>> ((1 : Int32) &&& 31).toUInt32).toInt32) &&& (3 : Int32))), .val (.ref yb_3), .val (.ref b3_6), .val .null, .val (.ref b89), .val (.ref b135), .unset, .unset] [(.int (1 : Int32))]))
          refine Gets.of (fun t k => XS.iconst X148.here hx rfl (hb hby at_132) k) ?_
          refine Gets.of (fun t k => XS.goto X148.here hx rfl (pc0 := 133) (pc' := 137) rfl (hb hby at_133) (by decide) (by decide) k) ?_
          show Gets p e below _ (T148.setTop (mkF m 137 #[.val (.int p1), .val (.int p2), .val (.int p3), .val (.int p4), .val (.int jz1), .val (.int (((p2.toUInt32 >>> ((1 : Int32) &&& 31).toUInt32).toInt32) &&& (3 : Int32))), .val (.ref yb_3), .val (.ref b3_6), .val .null, .val (.ref b89), .val (.ref b135), .unset, .unset] [(.int (1 : Int32)), (.int (1 : Int32))]))
          refine Gets.of (fun t k => XS.icmpNo X148.here hx rfl (hb hby at_137) rfl (teq (by decide : (1 : Int32) = (1 : Int32))).2 k) ?_
          show Gets p e below _ (T148.setTop (mkF m 140 #[.val (.int p1), .val (.int p2), .val (.int p3), .val (.int p4), .val (.int jz1), .val (.int (((p2.toUInt32 >>> ((1 : Int32) &&& 31).toUInt32).toInt32) &&& (3 : Int32))), .val (.ref yb_3), .val (.ref b3_6), .val .null, .val (.ref b89), .val (.ref b135), .unset, .unset] []))
          refine Gets.of (fun t k => XS.iconst X148.here hx rfl (hb hby at_140) k) ?_
          refine Gets.of (fun t k => XS.goto X148.here hx rfl (pc0 := 141) (pc' := 145) rfl (hb hby at_141) (by decide) (by decide) k) ?_
          show Gets p e below _ (T148.setTop (mkF m 145 #[.val (.int p1), .val (.int p2), .val (.int p3), .val (.int p4), .val (.int jz1), .val (.int (((p2.toUInt32 >>> ((1 : Int32) &&& 31).toUInt32).toInt32) &&& (3 : Int32))), .val (.ref yb_3), .val (.ref b3_6), .val .null, .val (.ref b89), .val (.ref b135), .unset, .unset] [(.int (1 : Int32))]))
          refine Gets.of (fun t k => XS.istore X148.here hx rfl (hb hby at_145) rfl (l' := #[.val (.int p1), .val (.int p2), .val (.int p3), .val (.int p4), .val (.int jz1), .val (.int (((p2.toUInt32 >>> ((1 : Int32) &&& 31).toUInt32).toInt32) &&& (3 : Int32))), .val (.ref yb_3), .val (.ref b3_6), .val .null, .val (.ref b89), .val (.ref b135), .val (.int (1 : Int32)), .unset]) rfl k) ?_
          show Gets p e below _ (T148.setTop (mkF m 147 #[.val (.int p1), .val (.int p2), .val (.int p3), .val (.int p4), .val (.int jz1), .val (.int (((p2.toUInt32 >>> ((1 : Int32) &&& 31).toUInt32).toInt32) &&& (3 : Int32))), .val (.ref yb_3), .val (.ref b3_6), .val .null, .val (.ref b89), .val (.ref b135), .val (.int (1 : Int32)), .unset] []))
          refine Gets.of (fun t k => XS.iloadN X148.here hx rfl (hb hby at_147) rfl  k) ?_
          refine Gets.of (fun t k => XS.aload X148.here hx rfl (hb hby at_148) rfl rfl  k) ?_
          refine Gets.of (fun t k => XS.aload X148.here hx rfl (hb hby at_150) rfl rfl  k) ?_
          refine Gets.of (fun t k => XS.aload X148.here hx rfl (hb hby at_152) rfl rfl  k) ?_
          show Gets p e below _ (T148.setTop (mkF m 154 #[.val (.int p1), .val (.int p2), .val (.int p3), .val (.int p4), .val (.int jz1), .val (.int (((p2.toUInt32 >>> ((1 : Int32) &&& 31).toUInt32).toInt32) &&& (3 : Int32))), .val (.ref yb_3), .val (.ref b3_6), .val .null, .val (.ref b89), .val (.ref b135), .val (.int (1 : Int32)), .unset] [(.ref b89), .null, (.ref b3_6), (.int p1)]))
          have f150 : Exa Z T145.heap b89 cn2 := (f138.keep Kq145)
          have f151 : Fld Z T145.heap b89 cn2 "size" "I" (.int (1 : Int32)) := (f139.keep Kq145 (ninS (Nat.ne_of_lt (Nat.lt_of_lt_of_le (Nat.lt_of_lt_of_le (Nat.lt_of_lt_of_le (Nat.lt_of_lt_of_le (Nat.lt_of_lt_of_le A89.lt up119) E118.1) up132) Kq131.1) (Nat.le_of_eq g135.symm))) nin0))
          have f152 : Fld Z T145.heap b89 cn2 "elementData" cn6 (.ref b6_2_2_10_131) := (f141.keep Kq145 (ninS (Nat.ne_of_lt (Nat.lt_of_lt_of_le (Nat.lt_of_lt_of_le (Nat.lt_of_lt_of_le (Nat.lt_of_lt_of_le (Nat.lt_of_lt_of_le A89.lt up119) E118.1) up132) Kq131.1) (Nat.le_of_eq g135.symm))) nin0))
          have f153 : Exa Z T145.heap b6_2_2_10_131 cn6 := (f142.keep Kq145)
          have f154 : Arv Z T145.heap b6_2_2_10_131 k6_2_2_10_131 (.object cn3) (10 : Int32) [(.ref b118), .null, .null, .null, .null, .null, .null, .null, .null, .null] .null := (f143.keep Kq145 (ninS (Nat.ne_of_lt (Nat.lt_of_lt_of_le bf131_3.lt (Nat.le_of_eq g135.symm))) nin0))
          have f155 : Exa Z T145.heap b118 cn5 := (f144.keep Kq145)
          have f156 : Ovr Z k6_2_2_10_131 cn3 := f140
          obtain ⟨_, _, ⟨T157, L157, k157, n157⟩, -, X157, ⟨Lc157, hQ157, l157, y157, z157⟩, st157⟩ := Jvm.LawKit.callS X148 hx (y := (⟨cn1, "read", cn20⟩ : MethodName)) hown3 (mvT hZ3 (w106 hw)) (mvT hZ3 (w107 hw)) (mvT hZ3 (w52 hw)) (mvT hZ3 (w108 hw)) (by decide) (backOf (W := 0) (r58_read l Z a0 hw [] p1 (.ref b3_6) .null b89 b6_2_2_10_131 k6_2_2_10_131 b118 ymir ov20 T145.heap n0 O146 f150 f151 f152 f153 f154 f155 f156 oS22 rfl rfl hmir) hZ3 (w108 hw) (w52 hw) (by decide) (by decide)) (g := (mkF m 154 #[.val (.int p1), .val (.int p2), .val (.int p3), .val (.int p4), .val (.int jz1), .val (.int (((p2.toUInt32 >>> ((1 : Int32) &&& 31).toUInt32).toInt32) &&& (3 : Int32))), .val (.ref yb_3), .val (.ref b3_6), .val .null, .val (.ref b89), .val (.ref b135), .val (.int (1 : Int32)), .unset] [(.ref b89), .null, (.ref b3_6), (.int p1)])) rfl (by rw [hml]; rfl) (argsL := [(.int p1), (.ref b3_6), .null, (.ref b89)]) (rest := []) (lenOf pd__ILjava_lang_String_Ljava_lang_String_Ljava_util_List_Lcom_example_causeway_causeway_formats_OaiDcUnit_ rfl) rfl (by show 2 * 0 + _ ≤ _; exact Nat.le_of_eq rfl) (hb hby at_154) (fun _ _ => ⟨rfl, eq148, (by decide : 12 + 3 ≤ _), (by decide : 39 + 8 ≤ _)⟩)
          dsimp only [Pt.U, Pt.locs, Pt.cells, Pt.slots] at X157 l157 y157 z157 st157 hQ157
          subst l157 y157 z157
          obtain ⟨Nq157, Kq157, hR157⟩ := hQ157
          have N157 := Fr.app N148 Nq157
          have K158 : Keep h0 _ [] := K146.trans Kq157 all0
          have O158 := O146.keep Kq157 all0
          have hk159 := Nat.le_trans hk147 Kq157.1
          obtain ⟨b1_157, b2_6_1_2_10_157, rfl, bz157_0, bz157_1, bn157_0, bf157_0, bf157_1, bf157_2, bf157_3, bf157_4, bf157_5, bf157_6, bf157_7, bf157_8⟩ := hR157
          have sz_b1_157 : h0.size ≤ b1_157 := Nat.le_trans K146.1 bz157_0
          have g_b1_157 : n0 ≤ b1_157 := Nat.le_trans Z0 sz_b1_157
          have sz_b2_6_1_2_10_157 : h0.size ≤ b2_6_1_2_10_157 := Nat.le_trans K146.1 bz157_1
          have g_b2_6_1_2_10_157 : n0 ≤ b2_6_1_2_10_157 := Nat.le_trans Z0 sz_b2_6_1_2_10_157
          refine Gets.of st157 ?_
          show Gets p e below _ (T157.setTop (mkF m 157 #[.val (.int p1), .val (.int p2), .val (.int p3), .val (.int p4), .val (.int jz1), .val (.int (((p2.toUInt32 >>> ((1 : Int32) &&& 31).toUInt32).toInt32) &&& (3 : Int32))), .val (.ref yb_3), .val (.ref b3_6), .val .null, .val (.ref b89), .val (.ref b135), .val (.int (1 : Int32)), .unset] [(.ref b1_157)]))
          refine Gets.of (fun t k => XS.astore X157.here hx rfl (hb hby at_157) rfl rfl (l' := #[.val (.int p1), .val (.int p2), .val (.int p3), .val (.int p4), .val (.int jz1), .val (.int (((p2.toUInt32 >>> ((1 : Int32) &&& 31).toUInt32).toInt32) &&& (3 : Int32))), .val (.ref yb_3), .val (.ref b3_6), .val .null, .val (.ref b89), .val (.ref b135), .val (.int (1 : Int32)), .val (.ref b1_157)]) rfl k) ?_
          show Gets p e below _ (T157.setTop (mkF m 159 #[.val (.int p1), .val (.int p2), .val (.int p3), .val (.int p4), .val (.int jz1), .val (.int (((p2.toUInt32 >>> ((1 : Int32) &&& 31).toUInt32).toInt32) &&& (3 : Int32))), .val (.ref yb_3), .val (.ref b3_6), .val .null, .val (.ref b89), .val (.ref b135), .val (.int (1 : Int32)), .val (.ref b1_157)] []))
          refine Gets.of (fun t k => XS.iload X157.here hx rfl (hb hby at_159) rfl  k) ?_
          refine Gets.of (fun t k => XS.ifNo X157.here hx rfl (hb hby at_161) rfl ((if0 _ _).trans (feq (by decide : ¬ ((1 : Int32) = (0 : Int32)))).1) k) ?_
          show Gets p e below _ (T157.setTop (mkF m 164 #[.val (.int p1), .val (.int p2), .val (.int p3), .val (.int p4), .val (.int jz1), .val (.int (((p2.toUInt32 >>> ((1 : Int32) &&& 31).toUInt32).toInt32) &&& (3 : Int32))), .val (.ref yb_3), .val (.ref b3_6), .val .null, .val (.ref b89), .val (.ref b135), .val (.int (1 : Int32)), .val (.ref b1_157)] []))
          refine Gets.of (fun t k => XS.aload X157.here hx rfl (hb hby at_164) rfl rfl  k) ?_
          obtain ⟨cq160, kq160, q160a, q160b, q160c⟩ := isOf hZ3 rfl bf157_0
          obtain ⟨_, _, ⟨T160, L160, k160, n160⟩, -, X160, ⟨Lc160, hQ160, l160, y160, z160⟩, st160⟩ := X157.virtualBack hx (y := (⟨cn1, "isSetAside", "()Z"⟩ : MethodName)) (z := (⟨cn1, "isSetAside", "()Z"⟩ : MethodName)) hown3 (mvT hZ3 (w101 hw)) (mvT hZ3 (w102 hw)) (notFace_of_selects (args := #[]) (mvT hZ3 (w104 hw))) (mvT hZ3 (w104 hw)) (mvT hZ3 (w103 hw)) (by decide) (backOf (W := 0) (r33_isSetAside l Z a0 hw [] b1_157 T157.heap n0 O158 bf157_5) hZ3 (w105 hw) (w52 hw) (by decide) (by decide)) q160a q160c (g := (mkF m 166 #[.val (.int p1), .val (.int p2), .val (.int p3), .val (.int p4), .val (.int jz1), .val (.int (((p2.toUInt32 >>> ((1 : Int32) &&& 31).toUInt32).toInt32) &&& (3 : Int32))), .val (.ref yb_3), .val (.ref b3_6), .val .null, .val (.ref b89), .val (.ref b135), .val (.int (1 : Int32)), .val (.ref b1_157)] [(.ref b1_157)])) rfl (by rw [hml]; rfl) (Steps.refl _) (argsL := []) (rest := []) (lenOf pd__Z rfl) rfl (by show 2 * 0 + _ ≤ _; exact Nat.le_of_eq rfl) (hb hby at_166) (fun _ _ => ⟨rfl, rfl, (by decide : 15 + 0 ≤ _), (by decide : 47 + 0 ≤ _)⟩)
          dsimp only [Pt.U, Pt.locs, Pt.cells, Pt.slots] at X160 l160 y160 z160 st160 hQ160
          subst l160 y160 z160
          obtain ⟨Nq160, eq160, hR160⟩ := hQ160
          have N160 := Fr.app N157 Nq160
          obtain rfl := hR160
          refine Gets.tr st160 ?_
          show Gets p e below _ (T160.setTop (mkF m 169 #[.val (.int p1), .val (.int p2), .val (.int p3), .val (.int p4), .val (.int jz1), .val (.int (((p2.toUInt32 >>> ((1 : Int32) &&& 31).toUInt32).toInt32) &&& (3 : Int32))), .val (.ref yb_3), .val (.ref b3_6), .val .null, .val (.ref b89), .val (.ref b135), .val (.int (1 : Int32)), .val (.ref b1_157)] [(.int (0 : Int32))]))
          refine Gets.of (fun t k => XS.ifNo X160.here hx rfl (hb hby at_169) rfl ((if0 _ _).trans (teq (by decide : (0 : Int32) = (0 : Int32))).2) k) ?_
          show Gets p e below _ (T160.setTop (mkF m 172 #[.val (.int p1), .val (.int p2), .val (.int p3), .val (.int p4), .val (.int jz1), .val (.int (((p2.toUInt32 >>> ((1 : Int32) &&& 31).toUInt32).toInt32) &&& (3 : Int32))), .val (.ref yb_3), .val (.ref b3_6), .val .null, .val (.ref b89), .val (.ref b135), .val (.int (1 : Int32)), .val (.ref b1_157)] []))
          refine Gets.of (fun t k => XS.iconst X160.here hx rfl (hb hby at_172) k) ?_
          refine Gets.of (fun t k => XS.goto X160.here hx rfl (pc0 := 173) (pc' := 177) rfl (hb hby at_173) (by decide) (by decide) k) ?_
          show Gets p e below _ (T160.setTop (mkF m 177 #[.val (.int p1), .val (.int p2), .val (.int p3), .val (.int p4), .val (.int jz1), .val (.int (((p2.toUInt32 >>> ((1 : Int32) &&& 31).toUInt32).toInt32) &&& (3 : Int32))), .val (.ref yb_3), .val (.ref b3_6), .val .null, .val (.ref b89), .val (.ref b135), .val (.int (1 : Int32)), .val (.ref b1_157)] [(.int (1 : Int32))]))
          refine Gets.of (fun t k => XS.istore X160.here hx rfl (hb hby at_177) rfl (l' := #[.val (.int p1), .val (.int p2), .val (.int p3), .val (.int p4), .val (.int jz1), .val (.int (((p2.toUInt32 >>> ((1 : Int32) &&& 31).toUInt32).toInt32) &&& (3 : Int32))), .val (.ref yb_3), .val (.ref b3_6), .val .null, .val (.ref b89), .val (.ref b135), .val (.int (1 : Int32)), .val (.ref b1_157)]) rfl k) ?_
          show Gets p e below _ (T160.setTop (mkF m 179 #[.val (.int p1), .val (.int p2), .val (.int p3), .val (.int p4), .val (.int jz1), .val (.int (((p2.toUInt32 >>> ((1 : Int32) &&& 31).toUInt32).toInt32) &&& (3 : Int32))), .val (.ref yb_3), .val (.ref b3_6), .val .null, .val (.ref b89), .val (.ref b135), .val (.int (1 : Int32)), .val (.ref b1_157)] []))
          refine Gets.of (fun t k => XS.iload X160.here hx rfl (hb hby at_179) rfl  k) ?_
          refine Gets.of (fun t k => XS.ifNo X160.here hx rfl (hb hby at_181) rfl ((if0 _ _).trans (teq hc2).2) k) ?_
          show Gets p e below _ (T160.setTop (mkF m 184 #[.val (.int p1), .val (.int p2), .val (.int p3), .val (.int p4), .val (.int jz1), .val (.int (((p2.toUInt32 >>> ((1 : Int32) &&& 31).toUInt32).toInt32) &&& (3 : Int32))), .val (.ref yb_3), .val (.ref b3_6), .val .null, .val (.ref b89), .val (.ref b135), .val (.int (1 : Int32)), .val (.ref b1_157)] []))
          refine Gets.of (fun t k => XS.iload X160.here hx rfl (hb hby at_184) rfl  k) ?_
          refine Gets.of (fun t k => XS.ifNo X160.here hx rfl (hb hby at_186) rfl ((if0 _ _).trans (feq (by decide : ¬ ((1 : Int32) = (0 : Int32)))).1) k) ?_
          show Gets p e below _ (T160.setTop (mkF m 189 #[.val (.int p1), .val (.int p2), .val (.int p3), .val (.int p4), .val (.int jz1), .val (.int (((p2.toUInt32 >>> ((1 : Int32) &&& 31).toUInt32).toInt32) &&& (3 : Int32))), .val (.ref yb_3), .val (.ref b3_6), .val .null, .val (.ref b89), .val (.ref b135), .val (.int (1 : Int32)), .val (.ref b1_157)] []))
          refine Gets.of (fun t k => XS.iloadN X160.here hx rfl (hb hby at_189) rfl  k) ?_
          refine Gets.of (fun t k => XS.aload X160.here hx rfl (hb hby at_190) rfl rfl  k) ?_
          refine Gets.of (fun t k => XS.aload X160.here hx rfl (hb hby at_192) rfl rfl  k) ?_
          obtain ⟨_, _, ⟨T161, L161, k161, n161⟩, -, X161, ⟨Lc161, hQ161, l161, y161, z161⟩, st161⟩ := Jvm.LawKit.callS X160 hx (y := (⟨cn1, "setAside", cn23⟩ : MethodName)) hown3 (mvT hZ3 (w244 hw)) (mvT hZ3 (w245 hw)) (mvT hZ3 (w52 hw)) (mvT hZ3 (w246 hw)) (by decide) (backOf (W := 0) (r34_setAside l Z a0 hw [] p1 (.ref b3_6) (.ref yb_3) ov14 T157.heap n0 O158 oS16 oE17 oF19 rfl rfl) hZ3 (w246 hw) (w52 hw) (by decide) (by decide)) (g := (mkF m 194 #[.val (.int p1), .val (.int p2), .val (.int p3), .val (.int p4), .val (.int jz1), .val (.int (((p2.toUInt32 >>> ((1 : Int32) &&& 31).toUInt32).toInt32) &&& (3 : Int32))), .val (.ref yb_3), .val (.ref b3_6), .val .null, .val (.ref b89), .val (.ref b135), .val (.int (1 : Int32)), .val (.ref b1_157)] [(.ref yb_3), (.ref b3_6), (.int p1)])) rfl (by rw [hml]; rfl) (argsL := [(.int p1), (.ref b3_6), (.ref yb_3)]) (rest := []) (lenOf pd__ILjava_lang_String_Ljava_lang_String_Lcom_example_causeway_causeway_formats_OaiDcUnit_ rfl) rfl (by show 2 * 0 + _ ≤ _; exact Nat.le_of_eq rfl) (hb hby at_194) (fun _ _ => ⟨rfl, eq160, (by decide : 15 + 1 ≤ _), (by decide : 47 + 5 ≤ _)⟩)
          dsimp only [Pt.U, Pt.locs, Pt.cells, Pt.slots] at X161 l161 y161 z161 st161 hQ161
          subst l161 y161 z161
          obtain ⟨Nq161, Kq161, hR161⟩ := hQ161
          have N161 := Fr.app N160 Nq161
          have K162 : Keep h0 _ [] := K158.trans Kq161 all0
          have O162 := O158.keep Kq161 all0
          have hk163 := Nat.le_trans hk159 Kq161.1
          obtain ⟨b1_161, rfl, bz161_0, bf161_0, bf161_1, bf161_2, bf161_3, bf161_4, bf161_5⟩ := hR161
          have sz_b1_161 : h0.size ≤ b1_161 := Nat.le_trans K158.1 bz161_0
          have g_b1_161 : n0 ≤ b1_161 := Nat.le_trans Z0 sz_b1_161
          refine Gets.of st161 ?_
          show Gets p e below _ (T161.setTop (mkF m 197 #[.val (.int p1), .val (.int p2), .val (.int p3), .val (.int p4), .val (.int jz1), .val (.int (((p2.toUInt32 >>> ((1 : Int32) &&& 31).toUInt32).toInt32) &&& (3 : Int32))), .val (.ref yb_3), .val (.ref b3_6), .val .null, .val (.ref b89), .val (.ref b135), .val (.int (1 : Int32)), .val (.ref b1_157)] [(.ref b1_161)]))
          obtain ⟨cq164, kq164, q164a, q164b, q164c⟩ := isOf hZ3 rfl bf161_0
          obtain ⟨_, _, ⟨T164, L164, k164, n164⟩, -, X164, ⟨Lc164, hQ164, l164, y164, z164⟩, st164⟩ := X161.virtualBack hx (y := (⟨cn1, "isSetAside", "()Z"⟩ : MethodName)) (z := (⟨cn1, "isSetAside", "()Z"⟩ : MethodName)) hown3 (mvT hZ3 (w101 hw)) (mvT hZ3 (w102 hw)) (notFace_of_selects (args := #[]) (mvT hZ3 (w104 hw))) (mvT hZ3 (w104 hw)) (mvT hZ3 (w103 hw)) (by decide) (backOf (W := 0) (r31_isSetAside l Z a0 hw [] b1_161 yb_3 T161.heap n0 O162 bf161_5) hZ3 (w105 hw) (w52 hw) (by decide) (by decide)) q164a q164c (g := (mkF m 197 #[.val (.int p1), .val (.int p2), .val (.int p3), .val (.int p4), .val (.int jz1), .val (.int (((p2.toUInt32 >>> ((1 : Int32) &&& 31).toUInt32).toInt32) &&& (3 : Int32))), .val (.ref yb_3), .val (.ref b3_6), .val .null, .val (.ref b89), .val (.ref b135), .val (.int (1 : Int32)), .val (.ref b1_157)] [(.ref b1_161)])) rfl (by rw [hml]; rfl) (Steps.refl _) (argsL := []) (rest := []) (lenOf pd__Z rfl) rfl (by show 2 * 0 + _ ≤ _; exact Nat.le_of_eq rfl) (hb hby at_197) (fun _ _ => ⟨rfl, rfl, (by decide : 16 + 0 ≤ _), (by decide : 52 + 0 ≤ _)⟩)
          dsimp only [Pt.U, Pt.locs, Pt.cells, Pt.slots] at X164 l164 y164 z164 st164 hQ164
          subst l164 y164 z164
          obtain ⟨Nq164, eq164, hR164⟩ := hQ164
          have N164 := Fr.app N161 Nq164
          obtain rfl := hR164
          refine Gets.tr st164 ?_
          show Gets p e below _ (T164.setTop (mkF m 200 #[.val (.int p1), .val (.int p2), .val (.int p3), .val (.int p4), .val (.int jz1), .val (.int (((p2.toUInt32 >>> ((1 : Int32) &&& 31).toUInt32).toInt32) &&& (3 : Int32))), .val (.ref yb_3), .val (.ref b3_6), .val .null, .val (.ref b89), .val (.ref b135), .val (.int (1 : Int32)), .val (.ref b1_157)] [(.int (1 : Int32))]))
          refine Gets.of (fun t k => XS.ifNo X164.here hx rfl (hb hby at_200) rfl ((if0 _ _).trans (feq (by decide : ¬ ((1 : Int32) = (0 : Int32)))).1) k) ?_
          show Gets p e below _ (T164.setTop (mkF m 203 #[.val (.int p1), .val (.int p2), .val (.int p3), .val (.int p4), .val (.int jz1), .val (.int (((p2.toUInt32 >>> ((1 : Int32) &&& 31).toUInt32).toInt32) &&& (3 : Int32))), .val (.ref yb_3), .val (.ref b3_6), .val .null, .val (.ref b89), .val (.ref b135), .val (.int (1 : Int32)), .val (.ref b1_157)] []))
          refine Gets.of (fun t k => XS.iconst X164.here hx rfl (hb hby at_203) k) ?_
          refine Gets.of (fun t k => XS.goto X164.here hx rfl (pc0 := 204) (pc' := 208) rfl (hb hby at_204) (by decide) (by decide) k) ?_
          show Gets p e below _ (T164.setTop (mkF m 208 #[.val (.int p1), .val (.int p2), .val (.int p3), .val (.int p4), .val (.int jz1), .val (.int (((p2.toUInt32 >>> ((1 : Int32) &&& 31).toUInt32).toInt32) &&& (3 : Int32))), .val (.ref yb_3), .val (.ref b3_6), .val .null, .val (.ref b89), .val (.ref b135), .val (.int (1 : Int32)), .val (.ref b1_157)] [(.int (1 : Int32))]))
          refine Gets.of (fun t k => XS.istore X164.here hx rfl (hb hby at_208) rfl (l' := #[.val (.int p1), .val (.int p2), .val (.int p3), .val (.int p4), .val (.int jz1), .val (.int (((p2.toUInt32 >>> ((1 : Int32) &&& 31).toUInt32).toInt32) &&& (3 : Int32))), .val (.ref yb_3), .val (.ref b3_6), .val .null, .val (.ref b89), .val (.ref b135), .val (.int (1 : Int32)), .val (.ref b1_157)]) rfl k) ?_
          show Gets p e below _ (T164.setTop (mkF m 210 #[.val (.int p1), .val (.int p2), .val (.int p3), .val (.int p4), .val (.int jz1), .val (.int (((p2.toUInt32 >>> ((1 : Int32) &&& 31).toUInt32).toInt32) &&& (3 : Int32))), .val (.ref yb_3), .val (.ref b3_6), .val .null, .val (.ref b89), .val (.ref b135), .val (.int (1 : Int32)), .val (.ref b1_157)] []))
          refine Gets.of (fun t k => XS.iload X164.here hx rfl (hb hby at_210) rfl  k) ?_
          refine GetsW.retN X164 hx (t := .boolean) Bd.returns (by simp) (hb hby at_212) hS3 (eq164 ▸ hk163) ?_ (by decide) (by decide)
          rw [eq164]
          exact ⟨N164, K162, rfl⟩
    · skip
      refine Gets.of (fun t k => XS.ifYes X0.here hx rfl (pc0 := 25) (pc' := 37) rfl (hb hby at_25) rfl ((if0 _ _).trans (feq hc2).2) (by decide) (by decide) k) ?_
      show Gets p e below _ (s₁.setTop (mkF m 37 #[.val (.int p1), .val (.int p2), .val (.int p3), .val (.int p4), .val (.int jz1), .val (.int (((p2.toUInt32 >>> ((1 : Int32) &&& 31).toUInt32).toInt32) &&& (3 : Int32))), .val .null, .unset, .unset, .unset, .unset, .unset, .unset] []))
      refine Gets.of (fun t k => XS.iloadN X0.here hx rfl (hb hby at_37) rfl  k) ?_
      refine Gets.of (fun t k => XS.sipush X0.here hx rfl (hb hby at_38) k) ?_
      refine Gets.of (fun t k => XS.iand X0.here hx rfl (hb hby at_41) rfl k) ?_
      show Gets p e below _ (s₁.setTop (mkF m 42 #[.val (.int p1), .val (.int p2), .val (.int p3), .val (.int p4), .val (.int jz1), .val (.int (((p2.toUInt32 >>> ((1 : Int32) &&& 31).toUInt32).toInt32) &&& (3 : Int32))), .val .null, .unset, .unset, .unset, .unset, .unset, .unset] [(.int (p4 &&& (255 : Int32)))]))
      refine Gets.of (fun t k => XS.i2c X0.here hx rfl (hb hby at_42) rfl k) ?_
      show Gets p e below _ (s₁.setTop (mkF m 43 #[.val (.int p1), .val (.int p2), .val (.int p3), .val (.int p4), .val (.int jz1), .val (.int (((p2.toUInt32 >>> ((1 : Int32) &&& 31).toUInt32).toInt32) &&& (3 : Int32))), .val .null, .unset, .unset, .unset, .unset, .unset, .unset] [(.int ((p4 &&& (255 : Int32)).toUInt32.toUInt16.toUInt32.toInt32))]))
      obtain ⟨_, _, ⟨T165, L165, k165, n165⟩, -, X165, ⟨Lc165, hQ165, l165, y165, z165⟩, st165⟩ := Jvm.LawKit.callS X0 hx (y := (⟨cn0, "valueOf", "(C)Ljava/lang/String;"⟩ : MethodName)) hown (mvT hZ (w0 hw)) (mvT hZ (w1 hw)) (mvT hZ (w2 hw)) (mvT hZ (w3 hw)) (by decide) (backOf (W := 0) (r18_valueOf l Z a0 hw [] ((p4 &&& (255 : Int32)).toUInt32.toUInt16.toUInt32.toInt32) oi1 h0 n0 O0 oS3 oh4 (own_le255 _)) hZ (w3 hw) (w2 hw) (by decide) (by decide)) (g := (mkF m 43 #[.val (.int p1), .val (.int p2), .val (.int p3), .val (.int p4), .val (.int jz1), .val (.int (((p2.toUInt32 >>> ((1 : Int32) &&& 31).toUInt32).toInt32) &&& (3 : Int32))), .val .null, .unset, .unset, .unset, .unset, .unset, .unset] [(.int ((p4 &&& (255 : Int32)).toUInt32.toUInt16.toUInt32.toInt32))])) rfl (by rw [hml]; rfl) (argsL := [(.int ((p4 &&& (255 : Int32)).toUInt32.toUInt16.toUInt32.toInt32))]) (rest := []) (lenOf pd__C_Ljava_lang_String_ rfl) rfl (by show 2 * 0 + _ ≤ _; exact Nat.le_of_eq rfl) (hb hby at_43) (fun _ _ => ⟨rfl, e0, (by decide : 0 + 2 ≤ _), (by decide : 0 + 5 ≤ _)⟩)
      dsimp only [Pt.U, Pt.locs, Pt.cells, Pt.slots] at X165 l165 y165 z165 st165 hQ165
      subst l165 y165 z165
      obtain ⟨Nq165, Kq165, hR165⟩ := hQ165
      have N165 := Fr.app N0 Nq165
      have Hc166 := CHv.keep Kq165 sf0 hC0
      have K166 : Keep h0 _ [] := K0.trans Kq165 all0
      have O166 := O0.keep Kq165 all0
      have hk167 := Nat.le_trans hk0 Kq165.1
      obtain ⟨b3_165, b1_5_165, k1_5_165, rfl, bz165_0, bz165_1, bn165_0, bf165_0, bf165_1, bf165_2, bf165_3, bf165_4⟩ := hR165
      have sz_b3_165 : h0.size ≤ b3_165 := Nat.le_trans K0.1 bz165_0
      have g_b3_165 : n0 ≤ b3_165 := Nat.le_trans Z0 sz_b3_165
      have sz_b1_5_165 : h0.size ≤ b1_5_165 := Nat.le_trans K0.1 bz165_1
      have g_b1_5_165 : n0 ≤ b1_5_165 := Nat.le_trans Z0 sz_b1_5_165
      refine Gets.of st165 ?_
      show Gets p e below _ (T165.setTop (mkF m 46 #[.val (.int p1), .val (.int p2), .val (.int p3), .val (.int p4), .val (.int jz1), .val (.int (((p2.toUInt32 >>> ((1 : Int32) &&& 31).toUInt32).toInt32) &&& (3 : Int32))), .val .null, .unset, .unset, .unset, .unset, .unset, .unset] [(.ref b3_165)]))
      refine Gets.of (fun t k => XS.astore X165.here hx rfl (hb hby at_46) rfl rfl (l' := #[.val (.int p1), .val (.int p2), .val (.int p3), .val (.int p4), .val (.int jz1), .val (.int (((p2.toUInt32 >>> ((1 : Int32) &&& 31).toUInt32).toInt32) &&& (3 : Int32))), .val .null, .val (.ref b3_165), .unset, .unset, .unset, .unset, .unset]) rfl k) ?_
      show Gets p e below _ (T165.setTop (mkF m 48 #[.val (.int p1), .val (.int p2), .val (.int p3), .val (.int p4), .val (.int jz1), .val (.int (((p2.toUInt32 >>> ((1 : Int32) &&& 31).toUInt32).toInt32) &&& (3 : Int32))), .val .null, .val (.ref b3_165), .unset, .unset, .unset, .unset, .unset] []))
      refine Gets.of (fun t k => XS.iloadN X165.here hx rfl (hb hby at_48) rfl  k) ?_
      refine Gets.of (fun t k => XS.bipush X165.here hx rfl (hb hby at_49) k) ?_
      refine Gets.of (fun t k => XS.iand X165.here hx rfl (hb hby at_51) rfl k) ?_
      show Gets p e below _ (T165.setTop (mkF m 52 #[.val (.int p1), .val (.int p2), .val (.int p3), .val (.int p4), .val (.int jz1), .val (.int (((p2.toUInt32 >>> ((1 : Int32) &&& 31).toUInt32).toInt32) &&& (3 : Int32))), .val .null, .val (.ref b3_165), .unset, .unset, .unset, .unset, .unset] [(.int (p2 &&& (8 : Int32)))]))
      by_cases hc168 : (p2 &&& (8 : Int32)) = (0 : Int32)
      · skip
        refine Gets.of (fun t k => XS.ifYes X165.here hx rfl (pc0 := 52) (pc' := 59) rfl (hb hby at_52) rfl ((if0 _ _).trans (teq hc168).1) (by decide) (by decide) k) ?_
        show Gets p e below _ (T165.setTop (mkF m 59 #[.val (.int p1), .val (.int p2), .val (.int p3), .val (.int p4), .val (.int jz1), .val (.int (((p2.toUInt32 >>> ((1 : Int32) &&& 31).toUInt32).toInt32) &&& (3 : Int32))), .val .null, .val (.ref b3_165), .unset, .unset, .unset, .unset, .unset] []))
        refine Gets.of (fun t k => XS.iloadN X165.here hx rfl (hb hby at_59) rfl  k) ?_
        refine Gets.of (fun t k => XS.sipush X165.here hx rfl (hb hby at_60) k) ?_
        refine Gets.of (fun t k => XS.iand X165.here hx rfl (hb hby at_63) rfl k) ?_
        show Gets p e below _ (T165.setTop (mkF m 64 #[.val (.int p1), .val (.int p2), .val (.int p3), .val (.int p4), .val (.int jz1), .val (.int (((p2.toUInt32 >>> ((1 : Int32) &&& 31).toUInt32).toInt32) &&& (3 : Int32))), .val .null, .val (.ref b3_165), .unset, .unset, .unset, .unset, .unset] [(.int (p3 &&& (255 : Int32)))]))
        refine Gets.of (fun t k => XS.i2c X165.here hx rfl (hb hby at_64) rfl k) ?_
        show Gets p e below _ (T165.setTop (mkF m 65 #[.val (.int p1), .val (.int p2), .val (.int p3), .val (.int p4), .val (.int jz1), .val (.int (((p2.toUInt32 >>> ((1 : Int32) &&& 31).toUInt32).toInt32) &&& (3 : Int32))), .val .null, .val (.ref b3_165), .unset, .unset, .unset, .unset, .unset] [(.int ((p3 &&& (255 : Int32)).toUInt32.toUInt16.toUInt32.toInt32))]))
        obtain ⟨_, _, ⟨T169, L169, k169, n169⟩, -, X169, ⟨Lc169, hQ169, l169, y169, z169⟩, st169⟩ := Jvm.LawKit.callS X165 hx (y := (⟨cn0, "valueOf", "(C)Ljava/lang/String;"⟩ : MethodName)) hown (mvT hZ (w0 hw)) (mvT hZ (w1 hw)) (mvT hZ (w2 hw)) (mvT hZ (w3 hw)) (by decide) (backOf (W := 0) (r18_valueOf l Z a0 hw [] ((p3 &&& (255 : Int32)).toUInt32.toUInt16.toUInt32.toInt32) oi1 T165.heap n0 O166 oS3 oh4 (own_le255 _)) hZ (w3 hw) (w2 hw) (by decide) (by decide)) (g := (mkF m 65 #[.val (.int p1), .val (.int p2), .val (.int p3), .val (.int p4), .val (.int jz1), .val (.int (((p2.toUInt32 >>> ((1 : Int32) &&& 31).toUInt32).toInt32) &&& (3 : Int32))), .val .null, .val (.ref b3_165), .unset, .unset, .unset, .unset, .unset] [(.int ((p3 &&& (255 : Int32)).toUInt32.toUInt16.toUInt32.toInt32))])) rfl (by rw [hml]; rfl) (argsL := [(.int ((p3 &&& (255 : Int32)).toUInt32.toUInt16.toUInt32.toInt32))]) (rest := []) (lenOf pd__C_Ljava_lang_String_ rfl) rfl (by show 2 * 0 + _ ≤ _; exact Nat.le_of_eq rfl) (hb hby at_65) (fun _ _ => ⟨rfl, rfl, (by decide : 2 + 2 ≤ _), (by decide : 5 + 5 ≤ _)⟩)
        dsimp only [Pt.U, Pt.locs, Pt.cells, Pt.slots] at X169 l169 y169 z169 st169 hQ169
        subst l169 y169 z169
        obtain ⟨Nq169, Kq169, hR169⟩ := hQ169
        have N169 := Fr.app N165 Nq169
        have Hc170 := CHv.keep Kq169 sf0 Hc166
        have K170 : Keep h0 _ [] := K166.trans Kq169 all0
        have O170 := O166.keep Kq169 all0
        have hk171 := Nat.le_trans hk167 Kq169.1
        obtain ⟨b3_169, b1_5_169, k1_5_169, rfl, bz169_0, bz169_1, bn169_0, bf169_0, bf169_1, bf169_2, bf169_3, bf169_4⟩ := hR169
        have sz_b3_169 : h0.size ≤ b3_169 := Nat.le_trans K166.1 bz169_0
        have g_b3_169 : n0 ≤ b3_169 := Nat.le_trans Z0 sz_b3_169
        have sz_b1_5_169 : h0.size ≤ b1_5_169 := Nat.le_trans K166.1 bz169_1
        have g_b1_5_169 : n0 ≤ b1_5_169 := Nat.le_trans Z0 sz_b1_5_169
        refine Gets.of st169 ?_
        show Gets p e below _ (T169.setTop (mkF m 68 #[.val (.int p1), .val (.int p2), .val (.int p3), .val (.int p4), .val (.int jz1), .val (.int (((p2.toUInt32 >>> ((1 : Int32) &&& 31).toUInt32).toInt32) &&& (3 : Int32))), .val .null, .val (.ref b3_165), .unset, .unset, .unset, .unset, .unset] [(.ref b3_169)]))
        refine Gets.of (fun t k => XS.astore X169.here hx rfl (hb hby at_68) rfl rfl (l' := #[.val (.int p1), .val (.int p2), .val (.int p3), .val (.int p4), .val (.int jz1), .val (.int (((p2.toUInt32 >>> ((1 : Int32) &&& 31).toUInt32).toInt32) &&& (3 : Int32))), .val .null, .val (.ref b3_165), .val (.ref b3_169), .unset, .unset, .unset, .unset]) rfl k) ?_
        show Gets p e below _ (T169.setTop (mkF m 70 #[.val (.int p1), .val (.int p2), .val (.int p3), .val (.int p4), .val (.int jz1), .val (.int (((p2.toUInt32 >>> ((1 : Int32) &&& 31).toUInt32).toInt32) &&& (3 : Int32))), .val .null, .val (.ref b3_165), .val (.ref b3_169), .unset, .unset, .unset, .unset] []))
        obtain ⟨T172, h172, X172, e172, E172, A172, D172, -, st172⟩ := newO X169 hx hZ hown (w26 hw) (w27 hw) (w28 hw) rfl (g := (mkF m 70 #[.val (.int p1), .val (.int p2), .val (.int p3), .val (.int p4), .val (.int jz1), .val (.int (((p2.toUInt32 >>> ((1 : Int32) &&& 31).toUInt32).toInt32) &&& (3 : Int32))), .val .null, .val (.ref b3_165), .val (.ref b3_169), .unset, .unset, .unset, .unset] [])) rfl (hb hby at_70) (by decide) (by decide)
        obtain ⟨b172, g172⟩ : ∃ z, z = T169.heap.size := ⟨_, rfl⟩
        rw [← g172] at A172 D172 st172
        have sz_b172 : h0.size ≤ b172 := Nat.le_trans K170.1 (Nat.le_of_eq g172.symm)
        have g_b172 : n0 ≤ b172 := Nat.le_trans Z0 sz_b172
        have Hc173 := CHv.ext E172 Hc170
        have K173 := K170.ext E172
        have O173 := O170.ext E172
        have hk174 := Nat.le_trans hk171 E172.1
        have F172_46 : Fld Z h172 b172 cn10 "modCount" "I" (.int (0 : Int32)) := D172 (Or.inl (w46 hw)) (ty := .int) (by decide)
        have F172_49 : Fld Z h172 b172 cn2 "elementData" cn6 .null := D172 (Or.inl (w49 hw)) (ty := (.array (.object cn3))) (by decide)
        have F172_86 : Fld Z h172 b172 cn2 "size" "I" (.int (0 : Int32)) := D172 (Or.inl (w86 hw)) (ty := .int) (by decide)
        refine Gets.of st172 ?_
        show Gets p e below _ (T172.setTop (mkF m 73 #[.val (.int p1), .val (.int p2), .val (.int p3), .val (.int p4), .val (.int jz1), .val (.int (((p2.toUInt32 >>> ((1 : Int32) &&& 31).toUInt32).toInt32) &&& (3 : Int32))), .val .null, .val (.ref b3_165), .val (.ref b3_169), .unset, .unset, .unset, .unset] [(.ref b172)]))
        refine Gets.of (fun t k => XS.dup X172.here hx rfl (hb hby at_73) rfl rfl k) ?_
        obtain ⟨_, _, ⟨T175, L175, k175, n175⟩, -, X175, ⟨Lc175, hQ175, l175, y175, z175⟩, st175⟩ := X172.specialBack hx (y := (⟨cn2, "<init>", "()V"⟩ : MethodName)) rfl hown (mvT hZ (w29 hw)) (mvT hZ (w30 hw)) (mvT hZ (w31 hw)) (by decide) (backOf (W := 1) (r22_init l Z a0 hw [] b172 ov5 h172 n0 O173 A172 F172_46 F172_49 F172_86 oS7 g_b172) hZ (w31 hw) (w28 hw) (by decide) (by decide)) (g := (mkF m 74 #[.val (.int p1), .val (.int p2), .val (.int p3), .val (.int p4), .val (.int jz1), .val (.int (((p2.toUInt32 >>> ((1 : Int32) &&& 31).toUInt32).toInt32) &&& (3 : Int32))), .val .null, .val (.ref b3_165), .val (.ref b3_169), .unset, .unset, .unset, .unset] [(.ref b172), (.ref b172)])) rfl (by rw [hml]; rfl) (Steps.refl _) (a := b172) (argsL := []) (rest := [(.ref b172)]) (lenOf pd__V rfl) rfl (by show 2 * 0 + _ ≤ _; exact Nat.le_of_eq rfl) (hb hby at_74) (fun _ _ => ⟨rfl, e172, (by decide : 5 + 0 ≤ _), (by decide : 13 + 0 ≤ _)⟩)
        dsimp only [Pt.U, Pt.locs, Pt.cells, Pt.slots] at X175 l175 y175 z175 st175 hQ175
        subst l175 y175 z175
        obtain ⟨Nq175, Kq175, hR175⟩ := hQ175
        have N175 := Fr.app N169 Nq175
        have Hc176 := CHv.keep Kq175 (sfS (Safe.exa hZ.alike A172 (by decide) (by decide)) sf0) Hc173
        have K176 : Keep h0 _ [] := K173.trans Kq175 (allS (Or.inr sz_b172) all0)
        have O176 := O173.keep Kq175 (allS g_b172 all0)
        have hk177 := Nat.le_trans hk174 Kq175.1
        obtain ⟨rfl, bf175_0, bf175_1, bf175_2⟩ := hR175
        refine Gets.tr st175 ?_
        show Gets p e below _ (T175.setTop (mkF m 77 #[.val (.int p1), .val (.int p2), .val (.int p3), .val (.int p4), .val (.int jz1), .val (.int (((p2.toUInt32 >>> ((1 : Int32) &&& 31).toUInt32).toInt32) &&& (3 : Int32))), .val .null, .val (.ref b3_165), .val (.ref b3_169), .unset, .unset, .unset, .unset] [(.ref b172)]))
        refine Gets.of (fun t k => XS.astore X175.here hx rfl (hb hby at_77) rfl rfl (l' := #[.val (.int p1), .val (.int p2), .val (.int p3), .val (.int p4), .val (.int jz1), .val (.int (((p2.toUInt32 >>> ((1 : Int32) &&& 31).toUInt32).toInt32) &&& (3 : Int32))), .val .null, .val (.ref b3_165), .val (.ref b3_169), .val (.ref b172), .unset, .unset, .unset]) rfl k) ?_
        show Gets p e below _ (T175.setTop (mkF m 79 #[.val (.int p1), .val (.int p2), .val (.int p3), .val (.int p4), .val (.int jz1), .val (.int (((p2.toUInt32 >>> ((1 : Int32) &&& 31).toUInt32).toInt32) &&& (3 : Int32))), .val .null, .val (.ref b3_165), .val (.ref b3_169), .val (.ref b172), .unset, .unset, .unset] []))
        refine Gets.of (fun t k => XS.iloadN X175.here hx rfl (hb hby at_79) rfl  k) ?_
        refine Gets.of (fun t k => XS.bipush X175.here hx rfl (hb hby at_80) k) ?_
        refine Gets.of (fun t k => XS.iand X175.here hx rfl (hb hby at_82) rfl k) ?_
        show Gets p e below _ (T175.setTop (mkF m 83 #[.val (.int p1), .val (.int p2), .val (.int p3), .val (.int p4), .val (.int jz1), .val (.int (((p2.toUInt32 >>> ((1 : Int32) &&& 31).toUInt32).toInt32) &&& (3 : Int32))), .val .null, .val (.ref b3_165), .val (.ref b3_169), .val (.ref b172), .unset, .unset, .unset] [(.int (p2 &&& (16 : Int32)))]))
        by_cases hc178 : (p2 &&& (16 : Int32)) = (0 : Int32)
        · skip
          refine Gets.of (fun t k => XS.ifYes X175.here hx rfl (pc0 := 83) (pc' := 104) rfl (hb hby at_83) rfl ((if0 _ _).trans (teq hc178).1) (by decide) (by decide) k) ?_
          show Gets p e below _ (T175.setTop (mkF m 104 #[.val (.int p1), .val (.int p2), .val (.int p3), .val (.int p4), .val (.int jz1), .val (.int (((p2.toUInt32 >>> ((1 : Int32) &&& 31).toUInt32).toInt32) &&& (3 : Int32))), .val .null, .val (.ref b3_165), .val (.ref b3_169), .val (.ref b172), .unset, .unset, .unset] []))
          obtain ⟨T179, h179, X179, e179, E179, A179, D179, -, st179⟩ := newO X175 hx hZ hown (w50 hw) (w51 hw) (w52 hw) rfl (g := (mkF m 104 #[.val (.int p1), .val (.int p2), .val (.int p3), .val (.int p4), .val (.int jz1), .val (.int (((p2.toUInt32 >>> ((1 : Int32) &&& 31).toUInt32).toInt32) &&& (3 : Int32))), .val .null, .val (.ref b3_165), .val (.ref b3_169), .val (.ref b172), .unset, .unset, .unset] [])) rfl (hb hby at_104) (by decide) (by decide)
          obtain ⟨b179, g179⟩ : ∃ z, z = T175.heap.size := ⟨_, rfl⟩
          rw [← g179] at A179 D179 st179
          have up180 := Kq175.1
          have sz_b179 : h0.size ≤ b179 := Nat.le_trans K176.1 (Nat.le_of_eq g179.symm)
          have g_b179 : n0 ≤ b179 := Nat.le_trans Z0 sz_b179
          have Hc181 := CHv.ext E179 Hc176
          have K181 := K176.ext E179
          have O181 := O176.ext E179
          have hk182 := Nat.le_trans hk177 E179.1
          have F179_92 : Fld Z h179 b179 cn1 "number" "I" (.int (0 : Int32)) := D179 (Or.inr (w92 hw)) (ty := .int) (by decide)
          have F179_94 : Fld Z h179 b179 cn1 "location" cn4 .null := D179 (Or.inr (w94 hw)) (ty := (.object cn0)) (by decide)
          have F179_96 : Fld Z h179 b179 cn1 "source" cn4 .null := D179 (Or.inr (w96 hw)) (ty := (.object cn0)) (by decide)
          have F179_98 : Fld Z h179 b179 cn1 "values" cn12 .null := D179 (Or.inr (w98 hw)) (ty := (.object "java/util/List")) (by decide)
          have F179_100 : Fld Z h179 b179 cn1 "problem" cn4 .null := D179 (Or.inr (w100 hw)) (ty := (.object cn0)) (by decide)
          refine Gets.of st179 ?_
          show Gets p e below _ (T179.setTop (mkF m 107 #[.val (.int p1), .val (.int p2), .val (.int p3), .val (.int p4), .val (.int jz1), .val (.int (((p2.toUInt32 >>> ((1 : Int32) &&& 31).toUInt32).toInt32) &&& (3 : Int32))), .val .null, .val (.ref b3_165), .val (.ref b3_169), .val (.ref b172), .unset, .unset, .unset] [(.ref b179)]))
          refine Gets.of (fun t k => XS.dup X179.here hx rfl (hb hby at_107) rfl rfl k) ?_
          refine Gets.of (fun t k => XS.iloadN X179.here hx rfl (hb hby at_108) rfl  k) ?_
          refine Gets.of (fun t k => XS.aload X179.here hx rfl (hb hby at_109) rfl rfl  k) ?_
          refine Gets.of (fun t k => XS.aload X179.here hx rfl (hb hby at_111) rfl rfl  k) ?_
          show Gets p e below _ (T179.setTop (mkF m 113 #[.val (.int p1), .val (.int p2), .val (.int p3), .val (.int p4), .val (.int jz1), .val (.int (((p2.toUInt32 >>> ((1 : Int32) &&& 31).toUInt32).toInt32) &&& (3 : Int32))), .val .null, .val (.ref b3_165), .val (.ref b3_169), .val (.ref b172), .unset, .unset, .unset] [(.ref b3_169), (.ref b3_165), (.int p1), (.ref b179), (.ref b179)]))
          refine Gets.of (fun t k => XS.aload X179.here hx rfl (hb hby at_113) rfl rfl  k) ?_
          refine Gets.of (fun t k => XS.aload X179.here hx rfl (hb hby at_115) rfl rfl  k) ?_
          have f183 : Exa Z h179 b172 cn2 := ((A172.keep Kq175).ext E179)
          have f184 : Fld Z h179 b172 cn2 "size" "I" (.int (0 : Int32)) := (bf175_2.ext E179)
          obtain ⟨_, _, ⟨T185, L185, k185, n185⟩, -, X185, ⟨Lc185, hQ185, l185, y185, z185⟩, st185⟩ := X179.specialBack hx (y := (⟨cn1, "<init>", cn16⟩ : MethodName)) rfl hown (mvT hZ (w53 hw)) (mvT hZ (w54 hw)) (mvT hZ (w55 hw)) (by decide) (backOf (W := 1) (r25_init l Z a0 hw [] b179 p1 (.ref b3_165) (.ref b3_169) b172 .null ov14 h179 n0 O181 f183 f184 A179 F179_92 F179_94 F179_96 F179_98 F179_100 oS16 g_b179 rfl rfl rfl) hZ (w55 hw) (w52 hw) (by decide) (by decide)) (g := (mkF m 117 #[.val (.int p1), .val (.int p2), .val (.int p3), .val (.int p4), .val (.int jz1), .val (.int (((p2.toUInt32 >>> ((1 : Int32) &&& 31).toUInt32).toInt32) &&& (3 : Int32))), .val .null, .val (.ref b3_165), .val (.ref b3_169), .val (.ref b172), .unset, .unset, .unset] [.null, (.ref b172), (.ref b3_169), (.ref b3_165), (.int p1), (.ref b179), (.ref b179)])) rfl (by rw [hml]; rfl) (Steps.refl _) (a := b179) (argsL := [(.int p1), (.ref b3_165), (.ref b3_169), (.ref b172), .null]) (rest := [(.ref b179)]) (lenOf pd__ILjava_lang_String_Ljava_lang_String_Ljava_util_List_Ljava_lang_String_V rfl) rfl (by show 2 * 0 + _ ≤ _; exact Nat.le_of_eq rfl) (hb hby at_117) (fun _ _ => ⟨rfl, e179, (by decide : 6 + 0 ≤ _), (by decide : 18 + 0 ≤ _)⟩)
          dsimp only [Pt.U, Pt.locs, Pt.cells, Pt.slots] at X185 l185 y185 z185 st185 hQ185
          subst l185 y185 z185
          obtain ⟨Nq185, Kq185, hR185⟩ := hQ185
          have N185 := Fr.app N175 Nq185
          have Hc186 := CHv.keep Kq185 (sfS (Safe.exa hZ.alike A179 (by decide) (by decide)) sf0) Hc181
          have K186 : Keep h0 _ [] := K181.trans Kq185 (allS (Or.inr sz_b179) all0)
          have O186 := O181.keep Kq185 (allS g_b179 all0)
          have hk187 := Nat.le_trans hk182 Kq185.1
          obtain ⟨rfl, bf185_0, bf185_1, bf185_2, bf185_3, bf185_4⟩ := hR185
          refine Gets.tr st185 ?_
          show Gets p e below _ (T185.setTop (mkF m 120 #[.val (.int p1), .val (.int p2), .val (.int p3), .val (.int p4), .val (.int jz1), .val (.int (((p2.toUInt32 >>> ((1 : Int32) &&& 31).toUInt32).toInt32) &&& (3 : Int32))), .val .null, .val (.ref b3_165), .val (.ref b3_169), .val (.ref b172), .unset, .unset, .unset] [(.ref b179)]))
          refine Gets.of (fun t k => XS.astore X185.here hx rfl (hb hby at_120) rfl rfl (l' := #[.val (.int p1), .val (.int p2), .val (.int p3), .val (.int p4), .val (.int jz1), .val (.int (((p2.toUInt32 >>> ((1 : Int32) &&& 31).toUInt32).toInt32) &&& (3 : Int32))), .val .null, .val (.ref b3_165), .val (.ref b3_169), .val (.ref b172), .val (.ref b179), .unset, .unset]) rfl k) ?_
          show Gets p e below _ (T185.setTop (mkF m 122 #[.val (.int p1), .val (.int p2), .val (.int p3), .val (.int p4), .val (.int jz1), .val (.int (((p2.toUInt32 >>> ((1 : Int32) &&& 31).toUInt32).toInt32) &&& (3 : Int32))), .val .null, .val (.ref b3_165), .val (.ref b3_169), .val (.ref b172), .val (.ref b179), .unset, .unset] []))
          refine Gets.of (fun t k => XS.aload X185.here hx rfl (hb hby at_122) rfl rfl  k) ?_
          have f189 : Exa Z T185.heap b179 cn1 := (A179.keep Kq185)
          obtain ⟨cq188, kq188, q188a, q188b, q188c⟩ := isOf hZ rfl f189
          obtain ⟨_, _, ⟨T188, L188, k188, n188⟩, -, X188, ⟨Lc188, hQ188, l188, y188, z188⟩, st188⟩ := X185.virtualBack hx (y := (⟨cn1, "isSetAside", "()Z"⟩ : MethodName)) (z := (⟨cn1, "isSetAside", "()Z"⟩ : MethodName)) hown (mvT hZ (w101 hw)) (mvT hZ (w102 hw)) (notFace_of_selects (args := #[]) (mvT hZ (w104 hw))) (mvT hZ (w104 hw)) (mvT hZ (w103 hw)) (by decide) (backOf (W := 0) (r33_isSetAside l Z a0 hw [] b179 T185.heap n0 O186 bf185_4) hZ (w105 hw) (w52 hw) (by decide) (by decide)) q188a q188c (g := (mkF m 124 #[.val (.int p1), .val (.int p2), .val (.int p3), .val (.int p4), .val (.int jz1), .val (.int (((p2.toUInt32 >>> ((1 : Int32) &&& 31).toUInt32).toInt32) &&& (3 : Int32))), .val .null, .val (.ref b3_165), .val (.ref b3_169), .val (.ref b172), .val (.ref b179), .unset, .unset] [(.ref b179)])) rfl (by rw [hml]; rfl) (Steps.refl _) (argsL := []) (rest := []) (lenOf pd__Z rfl) rfl (by show 2 * 0 + _ ≤ _; exact Nat.le_of_eq rfl) (hb hby at_124) (fun _ _ => ⟨rfl, rfl, (by decide : 6 + 0 ≤ _), (by decide : 18 + 0 ≤ _)⟩)
          dsimp only [Pt.U, Pt.locs, Pt.cells, Pt.slots] at X188 l188 y188 z188 st188 hQ188
          subst l188 y188 z188
          obtain ⟨Nq188, eq188, hR188⟩ := hQ188
          have N188 := Fr.app N185 Nq188
          obtain rfl := hR188
          refine Gets.tr st188 ?_
          show Gets p e below _ (T188.setTop (mkF m 127 #[.val (.int p1), .val (.int p2), .val (.int p3), .val (.int p4), .val (.int jz1), .val (.int (((p2.toUInt32 >>> ((1 : Int32) &&& 31).toUInt32).toInt32) &&& (3 : Int32))), .val .null, .val (.ref b3_165), .val (.ref b3_169), .val (.ref b172), .val (.ref b179), .unset, .unset] [(.int (0 : Int32))]))
          refine Gets.of (fun t k => XS.iload X188.here hx rfl (hb hby at_127) rfl  k) ?_
          refine Gets.of (fun t k => XS.ifYes X188.here hx rfl (pc0 := 129) (pc' := 136) rfl (hb hby at_129) rfl ((if0 _ _).trans (feq hc2).2) (by decide) (by decide) k) ?_
          show Gets p e below _ (T188.setTop (mkF m 136 #[.val (.int p1), .val (.int p2), .val (.int p3), .val (.int p4), .val (.int jz1), .val (.int (((p2.toUInt32 >>> ((1 : Int32) &&& 31).toUInt32).toInt32) &&& (3 : Int32))), .val .null, .val (.ref b3_165), .val (.ref b3_169), .val (.ref b172), .val (.ref b179), .unset, .unset] [(.int (0 : Int32))]))
          refine Gets.of (fun t k => XS.iconst X188.here hx rfl (hb hby at_136) k) ?_
          refine Gets.of (fun t k => XS.icmpNo X188.here hx rfl (hb hby at_137) rfl (teq (by decide : (0 : Int32) = (0 : Int32))).2 k) ?_
          show Gets p e below _ (T188.setTop (mkF m 140 #[.val (.int p1), .val (.int p2), .val (.int p3), .val (.int p4), .val (.int jz1), .val (.int (((p2.toUInt32 >>> ((1 : Int32) &&& 31).toUInt32).toInt32) &&& (3 : Int32))), .val .null, .val (.ref b3_165), .val (.ref b3_169), .val (.ref b172), .val (.ref b179), .unset, .unset] []))
          refine Gets.of (fun t k => XS.iconst X188.here hx rfl (hb hby at_140) k) ?_
          refine Gets.of (fun t k => XS.goto X188.here hx rfl (pc0 := 141) (pc' := 145) rfl (hb hby at_141) (by decide) (by decide) k) ?_
          show Gets p e below _ (T188.setTop (mkF m 145 #[.val (.int p1), .val (.int p2), .val (.int p3), .val (.int p4), .val (.int jz1), .val (.int (((p2.toUInt32 >>> ((1 : Int32) &&& 31).toUInt32).toInt32) &&& (3 : Int32))), .val .null, .val (.ref b3_165), .val (.ref b3_169), .val (.ref b172), .val (.ref b179), .unset, .unset] [(.int (1 : Int32))]))
          refine Gets.of (fun t k => XS.istore X188.here hx rfl (hb hby at_145) rfl (l' := #[.val (.int p1), .val (.int p2), .val (.int p3), .val (.int p4), .val (.int jz1), .val (.int (((p2.toUInt32 >>> ((1 : Int32) &&& 31).toUInt32).toInt32) &&& (3 : Int32))), .val .null, .val (.ref b3_165), .val (.ref b3_169), .val (.ref b172), .val (.ref b179), .val (.int (1 : Int32)), .unset]) rfl k) ?_
          show Gets p e below _ (T188.setTop (mkF m 147 #[.val (.int p1), .val (.int p2), .val (.int p3), .val (.int p4), .val (.int jz1), .val (.int (((p2.toUInt32 >>> ((1 : Int32) &&& 31).toUInt32).toInt32) &&& (3 : Int32))), .val .null, .val (.ref b3_165), .val (.ref b3_169), .val (.ref b172), .val (.ref b179), .val (.int (1 : Int32)), .unset] []))
          refine Gets.of (fun t k => XS.iloadN X188.here hx rfl (hb hby at_147) rfl  k) ?_
          refine Gets.of (fun t k => XS.aload X188.here hx rfl (hb hby at_148) rfl rfl  k) ?_
          refine Gets.of (fun t k => XS.aload X188.here hx rfl (hb hby at_150) rfl rfl  k) ?_
          refine Gets.of (fun t k => XS.aload X188.here hx rfl (hb hby at_152) rfl rfl  k) ?_
          show Gets p e below _ (T188.setTop (mkF m 154 #[.val (.int p1), .val (.int p2), .val (.int p3), .val (.int p4), .val (.int jz1), .val (.int (((p2.toUInt32 >>> ((1 : Int32) &&& 31).toUInt32).toInt32) &&& (3 : Int32))), .val .null, .val (.ref b3_165), .val (.ref b3_169), .val (.ref b172), .val (.ref b179), .val (.int (1 : Int32)), .unset] [(.ref b172), (.ref b3_169), (.ref b3_165), (.int p1)]))
          have f190 : Exa Z T185.heap b172 cn2 := (f183.keep Kq185)
          have f191 : Fld Z T185.heap b172 cn2 "size" "I" (.int (0 : Int32)) := (f184.keep Kq185 (ninS (Nat.ne_of_lt (Nat.lt_of_lt_of_le (Nat.lt_of_lt_of_le A172.lt up180) (Nat.le_of_eq g179.symm))) nin0))
          obtain ⟨_, _, ⟨T192, L192, k192, n192⟩, -, X192, ⟨Lc192, hQ192, l192, y192, z192⟩, st192⟩ := Jvm.LawKit.callS X188 hx (y := (⟨cn1, "read", cn20⟩ : MethodName)) hown (mvT hZ (w106 hw)) (mvT hZ (w107 hw)) (mvT hZ (w52 hw)) (mvT hZ (w108 hw)) (by decide) (backOf (W := 0) (r32_read l Z a0 hw [] p1 (.ref b3_165) (.ref b3_169) b172 ov14 T185.heap n0 O186 f190 f191 oS16 rfl rfl) hZ (w108 hw) (w52 hw) (by decide) (by decide)) (g := (mkF m 154 #[.val (.int p1), .val (.int p2), .val (.int p3), .val (.int p4), .val (.int jz1), .val (.int (((p2.toUInt32 >>> ((1 : Int32) &&& 31).toUInt32).toInt32) &&& (3 : Int32))), .val .null, .val (.ref b3_165), .val (.ref b3_169), .val (.ref b172), .val (.ref b179), .val (.int (1 : Int32)), .unset] [(.ref b172), (.ref b3_169), (.ref b3_165), (.int p1)])) rfl (by rw [hml]; rfl) (argsL := [(.int p1), (.ref b3_165), (.ref b3_169), (.ref b172)]) (rest := []) (lenOf pd__ILjava_lang_String_Ljava_lang_String_Ljava_util_List_Lcom_example_causeway_causeway_formats_OaiDcUnit_ rfl) rfl (by show 2 * 0 + _ ≤ _; exact Nat.le_of_eq rfl) (hb hby at_154) (fun _ _ => ⟨rfl, eq188, (by decide : 6 + 1 ≤ _), (by decide : 18 + 5 ≤ _)⟩)
          dsimp only [Pt.U, Pt.locs, Pt.cells, Pt.slots] at X192 l192 y192 z192 st192 hQ192
          subst l192 y192 z192
          obtain ⟨Nq192, Kq192, hR192⟩ := hQ192
          have N192 := Fr.app N188 Nq192
          have up193 := Kq185.1
          have Hc194 := CHv.keep Kq192 sf0 Hc186
          have K194 : Keep h0 _ [] := K186.trans Kq192 all0
          have O194 := O186.keep Kq192 all0
          have hk195 := Nat.le_trans hk187 Kq192.1
          obtain ⟨b1_192, rfl, bz192_0, bf192_0, bf192_1, bf192_2, bf192_3, bf192_4, bf192_5⟩ := hR192
          have sz_b1_192 : h0.size ≤ b1_192 := Nat.le_trans K186.1 bz192_0
          have g_b1_192 : n0 ≤ b1_192 := Nat.le_trans Z0 sz_b1_192
          refine Gets.of st192 ?_
          show Gets p e below _ (T192.setTop (mkF m 157 #[.val (.int p1), .val (.int p2), .val (.int p3), .val (.int p4), .val (.int jz1), .val (.int (((p2.toUInt32 >>> ((1 : Int32) &&& 31).toUInt32).toInt32) &&& (3 : Int32))), .val .null, .val (.ref b3_165), .val (.ref b3_169), .val (.ref b172), .val (.ref b179), .val (.int (1 : Int32)), .unset] [(.ref b1_192)]))
          refine Gets.of (fun t k => XS.astore X192.here hx rfl (hb hby at_157) rfl rfl (l' := #[.val (.int p1), .val (.int p2), .val (.int p3), .val (.int p4), .val (.int jz1), .val (.int (((p2.toUInt32 >>> ((1 : Int32) &&& 31).toUInt32).toInt32) &&& (3 : Int32))), .val .null, .val (.ref b3_165), .val (.ref b3_169), .val (.ref b172), .val (.ref b179), .val (.int (1 : Int32)), .val (.ref b1_192)]) rfl k) ?_
          show Gets p e below _ (T192.setTop (mkF m 159 #[.val (.int p1), .val (.int p2), .val (.int p3), .val (.int p4), .val (.int jz1), .val (.int (((p2.toUInt32 >>> ((1 : Int32) &&& 31).toUInt32).toInt32) &&& (3 : Int32))), .val .null, .val (.ref b3_165), .val (.ref b3_169), .val (.ref b172), .val (.ref b179), .val (.int (1 : Int32)), .val (.ref b1_192)] []))
          refine Gets.of (fun t k => XS.iload X192.here hx rfl (hb hby at_159) rfl  k) ?_
          refine Gets.of (fun t k => XS.ifNo X192.here hx rfl (hb hby at_161) rfl ((if0 _ _).trans (feq (by decide : ¬ ((1 : Int32) = (0 : Int32)))).1) k) ?_
          show Gets p e below _ (T192.setTop (mkF m 164 #[.val (.int p1), .val (.int p2), .val (.int p3), .val (.int p4), .val (.int jz1), .val (.int (((p2.toUInt32 >>> ((1 : Int32) &&& 31).toUInt32).toInt32) &&& (3 : Int32))), .val .null, .val (.ref b3_165), .val (.ref b3_169), .val (.ref b172), .val (.ref b179), .val (.int (1 : Int32)), .val (.ref b1_192)] []))
          refine Gets.of (fun t k => XS.aload X192.here hx rfl (hb hby at_164) rfl rfl  k) ?_
          obtain ⟨cq196, kq196, q196a, q196b, q196c⟩ := isOf hZ rfl bf192_0
          obtain ⟨_, _, ⟨T196, L196, k196, n196⟩, -, X196, ⟨Lc196, hQ196, l196, y196, z196⟩, st196⟩ := X192.virtualBack hx (y := (⟨cn1, "isSetAside", "()Z"⟩ : MethodName)) (z := (⟨cn1, "isSetAside", "()Z"⟩ : MethodName)) hown (mvT hZ (w101 hw)) (mvT hZ (w102 hw)) (notFace_of_selects (args := #[]) (mvT hZ (w104 hw))) (mvT hZ (w104 hw)) (mvT hZ (w103 hw)) (by decide) (backOf (W := 0) (r33_isSetAside l Z a0 hw [] b1_192 T192.heap n0 O194 bf192_5) hZ (w105 hw) (w52 hw) (by decide) (by decide)) q196a q196c (g := (mkF m 166 #[.val (.int p1), .val (.int p2), .val (.int p3), .val (.int p4), .val (.int jz1), .val (.int (((p2.toUInt32 >>> ((1 : Int32) &&& 31).toUInt32).toInt32) &&& (3 : Int32))), .val .null, .val (.ref b3_165), .val (.ref b3_169), .val (.ref b172), .val (.ref b179), .val (.int (1 : Int32)), .val (.ref b1_192)] [(.ref b1_192)])) rfl (by rw [hml]; rfl) (Steps.refl _) (argsL := []) (rest := []) (lenOf pd__Z rfl) rfl (by show 2 * 0 + _ ≤ _; exact Nat.le_of_eq rfl) (hb hby at_166) (fun _ _ => ⟨rfl, rfl, (by decide : 7 + 0 ≤ _), (by decide : 23 + 0 ≤ _)⟩)
          dsimp only [Pt.U, Pt.locs, Pt.cells, Pt.slots] at X196 l196 y196 z196 st196 hQ196
          subst l196 y196 z196
          obtain ⟨Nq196, eq196, hR196⟩ := hQ196
          have N196 := Fr.app N192 Nq196
          obtain rfl := hR196
          refine Gets.tr st196 ?_
          show Gets p e below _ (T196.setTop (mkF m 169 #[.val (.int p1), .val (.int p2), .val (.int p3), .val (.int p4), .val (.int jz1), .val (.int (((p2.toUInt32 >>> ((1 : Int32) &&& 31).toUInt32).toInt32) &&& (3 : Int32))), .val .null, .val (.ref b3_165), .val (.ref b3_169), .val (.ref b172), .val (.ref b179), .val (.int (1 : Int32)), .val (.ref b1_192)] [(.int (0 : Int32))]))
          refine Gets.of (fun t k => XS.ifNo X196.here hx rfl (hb hby at_169) rfl ((if0 _ _).trans (teq (by decide : (0 : Int32) = (0 : Int32))).2) k) ?_
          show Gets p e below _ (T196.setTop (mkF m 172 #[.val (.int p1), .val (.int p2), .val (.int p3), .val (.int p4), .val (.int jz1), .val (.int (((p2.toUInt32 >>> ((1 : Int32) &&& 31).toUInt32).toInt32) &&& (3 : Int32))), .val .null, .val (.ref b3_165), .val (.ref b3_169), .val (.ref b172), .val (.ref b179), .val (.int (1 : Int32)), .val (.ref b1_192)] []))
          refine Gets.of (fun t k => XS.iconst X196.here hx rfl (hb hby at_172) k) ?_
          refine Gets.of (fun t k => XS.goto X196.here hx rfl (pc0 := 173) (pc' := 177) rfl (hb hby at_173) (by decide) (by decide) k) ?_
          show Gets p e below _ (T196.setTop (mkF m 177 #[.val (.int p1), .val (.int p2), .val (.int p3), .val (.int p4), .val (.int jz1), .val (.int (((p2.toUInt32 >>> ((1 : Int32) &&& 31).toUInt32).toInt32) &&& (3 : Int32))), .val .null, .val (.ref b3_165), .val (.ref b3_169), .val (.ref b172), .val (.ref b179), .val (.int (1 : Int32)), .val (.ref b1_192)] [(.int (1 : Int32))]))
          refine Gets.of (fun t k => XS.istore X196.here hx rfl (hb hby at_177) rfl (l' := #[.val (.int p1), .val (.int p2), .val (.int p3), .val (.int p4), .val (.int jz1), .val (.int (((p2.toUInt32 >>> ((1 : Int32) &&& 31).toUInt32).toInt32) &&& (3 : Int32))), .val .null, .val (.ref b3_165), .val (.ref b3_169), .val (.ref b172), .val (.ref b179), .val (.int (1 : Int32)), .val (.ref b1_192)]) rfl k) ?_
          show Gets p e below _ (T196.setTop (mkF m 179 #[.val (.int p1), .val (.int p2), .val (.int p3), .val (.int p4), .val (.int jz1), .val (.int (((p2.toUInt32 >>> ((1 : Int32) &&& 31).toUInt32).toInt32) &&& (3 : Int32))), .val .null, .val (.ref b3_165), .val (.ref b3_169), .val (.ref b172), .val (.ref b179), .val (.int (1 : Int32)), .val (.ref b1_192)] []))
          refine Gets.of (fun t k => XS.iload X196.here hx rfl (hb hby at_179) rfl  k) ?_
          refine Gets.of (fun t k => XS.ifYes X196.here hx rfl (pc0 := 181) (pc' := 210) rfl (hb hby at_181) rfl ((if0 _ _).trans (feq hc2).2) (by decide) (by decide) k) ?_
          show Gets p e below _ (T196.setTop (mkF m 210 #[.val (.int p1), .val (.int p2), .val (.int p3), .val (.int p4), .val (.int jz1), .val (.int (((p2.toUInt32 >>> ((1 : Int32) &&& 31).toUInt32).toInt32) &&& (3 : Int32))), .val .null, .val (.ref b3_165), .val (.ref b3_169), .val (.ref b172), .val (.ref b179), .val (.int (1 : Int32)), .val (.ref b1_192)] []))
          refine Gets.of (fun t k => XS.iload X196.here hx rfl (hb hby at_210) rfl  k) ?_
          refine GetsW.retN X196 hx (t := .boolean) Bd.returns (by simp) (hb hby at_212) hS0 (eq196 ▸ hk195) ?_ (by decide) (by decide)
          rw [eq196]
          exact ⟨N196, K194, rfl⟩
        · skip
          refine Gets.of (fun t k => XS.ifNo X175.here hx rfl (hb hby at_83) rfl ((if0 _ _).trans (feq hc178).1) k) ?_
          show Gets p e below _ (T175.setTop (mkF m 86 #[.val (.int p1), .val (.int p2), .val (.int p3), .val (.int p4), .val (.int jz1), .val (.int (((p2.toUInt32 >>> ((1 : Int32) &&& 31).toUInt32).toInt32) &&& (3 : Int32))), .val .null, .val (.ref b3_165), .val (.ref b3_169), .val (.ref b172), .unset, .unset, .unset] []))
          refine Gets.of (fun t k => XS.aload X175.here hx rfl (hb hby at_86) rfl rfl  k) ?_
          obtain ⟨T197, h197, X197, e197, E197, A197, D197, -, st197⟩ := newO X175 hx hZ hown (w133 hw) (w134 hw) (w135 hw) rfl (g := (mkF m 88 #[.val (.int p1), .val (.int p2), .val (.int p3), .val (.int p4), .val (.int jz1), .val (.int (((p2.toUInt32 >>> ((1 : Int32) &&& 31).toUInt32).toInt32) &&& (3 : Int32))), .val .null, .val (.ref b3_165), .val (.ref b3_169), .val (.ref b172), .unset, .unset, .unset] [(.ref b172)])) rfl (hb hby at_88) (by decide) (by decide)
          obtain ⟨b197, g197⟩ : ∃ z, z = T175.heap.size := ⟨_, rfl⟩
          rw [← g197] at A197 D197 st197
          have up198 := Kq175.1
          have sz_b197 : h0.size ≤ b197 := Nat.le_trans K176.1 (Nat.le_of_eq g197.symm)
          have g_b197 : n0 ≤ b197 := Nat.le_trans Z0 sz_b197
          have Hc199 := CHv.ext E197 Hc176
          have K199 := K176.ext E197
          have O199 := O176.ext E197
          have hk200 := Nat.le_trans hk177 E197.1
          have F197_147 : Fld Z h197 b197 cn5 "element" cn18 .null := D197 (Or.inr (w147 hw)) (ty := (.object cn17)) (by decide)
          have F197_149 : Fld Z h197 b197 cn5 "value" cn4 .null := D197 (Or.inr (w149 hw)) (ty := (.object cn0)) (by decide)
          have F197_151 : Fld Z h197 b197 cn5 "language" cn4 .null := D197 (Or.inr (w151 hw)) (ty := (.object cn0)) (by decide)
          refine Gets.of st197 ?_
          show Gets p e below _ (T197.setTop (mkF m 91 #[.val (.int p1), .val (.int p2), .val (.int p3), .val (.int p4), .val (.int jz1), .val (.int (((p2.toUInt32 >>> ((1 : Int32) &&& 31).toUInt32).toInt32) &&& (3 : Int32))), .val .null, .val (.ref b3_165), .val (.ref b3_169), .val (.ref b172), .unset, .unset, .unset] [(.ref b197), (.ref b172)]))
          refine Gets.of (fun t k => XS.dup X197.here hx rfl (hb hby at_91) rfl rfl k) ?_
          obtain ⟨T201, X201, e201, st201⟩ := getS2 X197 hx hZ hown (host := "") (Or.inl (w136 hw)) Via.refl e197 (oS28.ext O199.2) (g := (mkF m 92 #[.val (.int p1), .val (.int p2), .val (.int p3), .val (.int p4), .val (.int jz1), .val (.int (((p2.toUInt32 >>> ((1 : Int32) &&& 31).toUInt32).toInt32) &&& (3 : Int32))), .val .null, .val (.ref b3_165), .val (.ref b3_169), .val (.ref b172), .unset, .unset, .unset] [(.ref b197), (.ref b197), (.ref b172)])) rfl (hb hby at_92)
          refine Gets.of st201 ?_
          show Gets p e below _ (T201.setTop (mkF m 95 #[.val (.int p1), .val (.int p2), .val (.int p3), .val (.int p4), .val (.int jz1), .val (.int (((p2.toUInt32 >>> ((1 : Int32) &&& 31).toUInt32).toInt32) &&& (3 : Int32))), .val .null, .val (.ref b3_165), .val (.ref b3_169), .val (.ref b172), .unset, .unset, .unset] [(.ref ov26), (.ref b197), (.ref b197), (.ref b172)]))
          refine Gets.of (fun t k => XS.aload X201.here hx rfl (hb hby at_95) rfl rfl  k) ?_
          obtain ⟨_, _, ⟨T202, L202, k202, n202⟩, -, X202, ⟨Lc202, hQ202, l202, y202, z202⟩, st202⟩ := X201.specialBack hx (y := (⟨cn5, "<init>", cn24⟩ : MethodName)) rfl hown (mvT hZ (w139 hw)) (mvT hZ (w140 hw)) (mvT hZ (w141 hw)) (by decide) (backOf (W := 2) (r38_init l Z a0 hw [] b197 (.ref ov26) (.ref b3_165) h197 n0 O199 A197 F197_147 F197_149 F197_151 g_b197 rfl rfl) hZ (w141 hw) (w135 hw) (by decide) (by decide)) (g := (mkF m 97 #[.val (.int p1), .val (.int p2), .val (.int p3), .val (.int p4), .val (.int jz1), .val (.int (((p2.toUInt32 >>> ((1 : Int32) &&& 31).toUInt32).toInt32) &&& (3 : Int32))), .val .null, .val (.ref b3_165), .val (.ref b3_169), .val (.ref b172), .unset, .unset, .unset] [(.ref b3_165), (.ref ov26), (.ref b197), (.ref b197), (.ref b172)])) rfl (by rw [hml]; rfl) (Steps.refl _) (a := b197) (argsL := [(.ref ov26), (.ref b3_165)]) (rest := [(.ref b197), (.ref b172)]) (lenOf pd__Lcom_example_causeway_causeway_formats_DcElement_Ljava_lang_String_V rfl) rfl (by show 2 * 0 + _ ≤ _; exact Nat.le_of_eq rfl) (hb hby at_97) (fun _ _ => ⟨rfl, e201, (by decide : 6 + 0 ≤ _), (by decide : 16 + 0 ≤ _)⟩)
          dsimp only [Pt.U, Pt.locs, Pt.cells, Pt.slots] at X202 l202 y202 z202 st202 hQ202
          subst l202 y202 z202
          obtain ⟨Nq202, Kq202, hR202⟩ := hQ202
          have N202 := Fr.app N175 Nq202
          have Hc203 := CHv.keep Kq202 (sfS (Safe.exa hZ.alike A197 (by decide) (by decide)) sf0) Hc199
          have K203 : Keep h0 _ [] := K199.trans Kq202 (allS (Or.inr sz_b197) all0)
          have O203 := O199.keep Kq202 (allS g_b197 all0)
          have hk204 := Nat.le_trans hk200 Kq202.1
          obtain ⟨rfl, bf202_0, bf202_1, bf202_2⟩ := hR202
          refine Gets.tr st202 ?_
          show Gets p e below _ (T202.setTop (mkF m 100 #[.val (.int p1), .val (.int p2), .val (.int p3), .val (.int p4), .val (.int jz1), .val (.int (((p2.toUInt32 >>> ((1 : Int32) &&& 31).toUInt32).toInt32) &&& (3 : Int32))), .val .null, .val (.ref b3_165), .val (.ref b3_169), .val (.ref b172), .unset, .unset, .unset] [(.ref b197), (.ref b172)]))
          have f205 : Fld Z T202.heap b172 cn10 "modCount" "I" (.int (0 : Int32)) := ((bf175_0.ext E197).keep Kq202 (ninS (Nat.ne_of_lt (Nat.lt_of_lt_of_le (Nat.lt_of_lt_of_le A172.lt up198) (Nat.le_of_eq g197.symm))) nin0))
          have f206 : Exa Z T202.heap b172 cn2 := (((A172.keep Kq175).ext E197).keep Kq202)
          have f207 : Fld Z T202.heap b172 cn2 "elementData" cn6 (.ref ov5) := ((bf175_1.ext E197).keep Kq202 (ninS (Nat.ne_of_lt (Nat.lt_of_lt_of_le (Nat.lt_of_lt_of_le A172.lt up198) (Nat.le_of_eq g197.symm))) nin0))
          have f208 : Fld Z T202.heap b172 cn2 "size" "I" (.int (0 : Int32)) := ((bf175_2.ext E197).keep Kq202 (ninS (Nat.ne_of_lt (Nat.lt_of_lt_of_le (Nat.lt_of_lt_of_le A172.lt up198) (Nat.le_of_eq g197.symm))) nin0))
          have f209 : Exa Z T202.heap b197 cn5 := (A197.keep Kq202)
          obtain ⟨cq210, kq210, q210a, q210b, q210c⟩ := isOf hZ rfl f206
          obtain ⟨_, _, ⟨T210, L210, k210, n210⟩, -, X210, ⟨Lc210, hQ210, l210, y210, z210⟩, st210⟩ := X202.virtualBack hx (y := (⟨cn2, "add", "(Ljava/lang/Object;)Z"⟩ : MethodName)) (z := (⟨cn2, "add", "(Ljava/lang/Object;)Z"⟩ : MethodName)) hown (mvT hZ (w152 hw)) (mvT hZ (w153 hw)) (notFace_of_selects (args := #[]) (mvT hZ (w155 hw))) (mvT hZ (w155 hw)) (mvT hZ (w154 hw)) (by decide) (backOf (W := 0) (r40_add l Z a0 hw [] b172 b197 ov5 ok31 T202.heap n0 O203 f205 f206 f207 f208 f209 oV30 oS7 g_b172) hZ (w156 hw) (w28 hw) (by decide) (by decide)) q210a q210c (g := (mkF m 100 #[.val (.int p1), .val (.int p2), .val (.int p3), .val (.int p4), .val (.int jz1), .val (.int (((p2.toUInt32 >>> ((1 : Int32) &&& 31).toUInt32).toInt32) &&& (3 : Int32))), .val .null, .val (.ref b3_165), .val (.ref b3_169), .val (.ref b172), .unset, .unset, .unset] [(.ref b197), (.ref b172)])) rfl (by rw [hml]; rfl) (Steps.refl _) (argsL := [(.ref b197)]) (rest := []) (lenOf pd__Ljava_lang_Object_Z rfl) rfl (by show 2 * 0 + _ ≤ _; exact Nat.le_of_eq rfl) (hb hby at_100) (fun _ _ => ⟨rfl, rfl, (by decide : 6 + 1 ≤ _), (by decide : 16 + 10 ≤ _)⟩)
          dsimp only [Pt.U, Pt.locs, Pt.cells, Pt.slots] at X210 l210 y210 z210 st210 hQ210
          subst l210 y210 z210
          obtain ⟨Nq210, Kq210, hR210⟩ := hQ210
          have N210 := Fr.app N202 Nq210
          have up211 := Kq202.1
          have Hc212 := CHv.keep Kq210 (sfS (Safe.exa hZ.alike f206 (by decide) (by decide)) sf0) Hc203
          have K212 : Keep h0 _ [] := K203.trans Kq210 (allS (Or.inr sz_b172) all0)
          have O212 := O203.keep Kq210 (allS g_b172 all0)
          have hk213 := Nat.le_trans hk204 Kq210.1
          obtain ⟨b6_2_2_10_210, k6_2_2_10_210, rfl, bz210_0, bf210_0, bf210_1, bf210_2, bf210_3, bf210_4, bf210_5⟩ := hR210
          have sz_b6_2_2_10_210 : h0.size ≤ b6_2_2_10_210 := Nat.le_trans K203.1 bz210_0
          have g_b6_2_2_10_210 : n0 ≤ b6_2_2_10_210 := Nat.le_trans Z0 sz_b6_2_2_10_210
          refine Gets.tr st210 ?_
          show Gets p e below _ (T210.setTop (mkF m 103 #[.val (.int p1), .val (.int p2), .val (.int p3), .val (.int p4), .val (.int jz1), .val (.int (((p2.toUInt32 >>> ((1 : Int32) &&& 31).toUInt32).toInt32) &&& (3 : Int32))), .val .null, .val (.ref b3_165), .val (.ref b3_169), .val (.ref b172), .unset, .unset, .unset] [(.int (1 : Int32))]))
          refine Gets.of (fun t k => XS.pop X210.here hx rfl (hb hby at_103) rfl rfl k) ?_
          show Gets p e below _ (T210.setTop (mkF m 104 #[.val (.int p1), .val (.int p2), .val (.int p3), .val (.int p4), .val (.int jz1), .val (.int (((p2.toUInt32 >>> ((1 : Int32) &&& 31).toUInt32).toInt32) &&& (3 : Int32))), .val .null, .val (.ref b3_165), .val (.ref b3_169), .val (.ref b172), .unset, .unset, .unset] []))
          obtain ⟨T214, h214, X214, e214, E214, A214, D214, -, st214⟩ := newO X210 hx hZ hown (w50 hw) (w51 hw) (w52 hw) rfl (g := (mkF m 104 #[.val (.int p1), .val (.int p2), .val (.int p3), .val (.int p4), .val (.int jz1), .val (.int (((p2.toUInt32 >>> ((1 : Int32) &&& 31).toUInt32).toInt32) &&& (3 : Int32))), .val .null, .val (.ref b3_165), .val (.ref b3_169), .val (.ref b172), .unset, .unset, .unset] [])) rfl (hb hby at_104) (by decide) (by decide)
          obtain ⟨b214, g214⟩ : ∃ z, z = T210.heap.size := ⟨_, rfl⟩
          rw [← g214] at A214 D214 st214
          have sz_b214 : h0.size ≤ b214 := Nat.le_trans K212.1 (Nat.le_of_eq g214.symm)
          have g_b214 : n0 ≤ b214 := Nat.le_trans Z0 sz_b214
          have Hc215 := CHv.ext E214 Hc212
          have K215 := K212.ext E214
          have O215 := O212.ext E214
          have hk216 := Nat.le_trans hk213 E214.1
          have F214_92 : Fld Z h214 b214 cn1 "number" "I" (.int (0 : Int32)) := D214 (Or.inr (w92 hw)) (ty := .int) (by decide)
          have F214_94 : Fld Z h214 b214 cn1 "location" cn4 .null := D214 (Or.inr (w94 hw)) (ty := (.object cn0)) (by decide)
          have F214_96 : Fld Z h214 b214 cn1 "source" cn4 .null := D214 (Or.inr (w96 hw)) (ty := (.object cn0)) (by decide)
          have F214_98 : Fld Z h214 b214 cn1 "values" cn12 .null := D214 (Or.inr (w98 hw)) (ty := (.object "java/util/List")) (by decide)
          have F214_100 : Fld Z h214 b214 cn1 "problem" cn4 .null := D214 (Or.inr (w100 hw)) (ty := (.object cn0)) (by decide)
          refine Gets.of st214 ?_
          show Gets p e below _ (T214.setTop (mkF m 107 #[.val (.int p1), .val (.int p2), .val (.int p3), .val (.int p4), .val (.int jz1), .val (.int (((p2.toUInt32 >>> ((1 : Int32) &&& 31).toUInt32).toInt32) &&& (3 : Int32))), .val .null, .val (.ref b3_165), .val (.ref b3_169), .val (.ref b172), .unset, .unset, .unset] [(.ref b214)]))
          refine Gets.of (fun t k => XS.dup X214.here hx rfl (hb hby at_107) rfl rfl k) ?_
          refine Gets.of (fun t k => XS.iloadN X214.here hx rfl (hb hby at_108) rfl  k) ?_
          refine Gets.of (fun t k => XS.aload X214.here hx rfl (hb hby at_109) rfl rfl  k) ?_
          refine Gets.of (fun t k => XS.aload X214.here hx rfl (hb hby at_111) rfl rfl  k) ?_
          show Gets p e below _ (T214.setTop (mkF m 113 #[.val (.int p1), .val (.int p2), .val (.int p3), .val (.int p4), .val (.int jz1), .val (.int (((p2.toUInt32 >>> ((1 : Int32) &&& 31).toUInt32).toInt32) &&& (3 : Int32))), .val .null, .val (.ref b3_165), .val (.ref b3_169), .val (.ref b172), .unset, .unset, .unset] [(.ref b3_169), (.ref b3_165), (.int p1), (.ref b214), (.ref b214)]))
          refine Gets.of (fun t k => XS.aload X214.here hx rfl (hb hby at_113) rfl rfl  k) ?_
          refine Gets.of (fun t k => XS.aload X214.here hx rfl (hb hby at_115) rfl rfl  k) ?_
          have f217 : Exa Z h214 b172 cn2 := ((f206.keep Kq210).ext E214)
          have f218 : Fld Z h214 b172 cn2 "size" "I" (.int (1 : Int32)) := (bf210_1.ext E214)
          have f219 : Ovr Z k6_2_2_10_210 cn3 := bf210_5
          have f220 : Fld Z h214 b172 cn2 "elementData" cn6 (.ref b6_2_2_10_210) := (bf210_0.ext E214)
          have f221 : Exa Z h214 b6_2_2_10_210 cn6 := (bf210_4.ext E214)
          have f222 : Arv Z h214 b6_2_2_10_210 k6_2_2_10_210 (.object cn3) (10 : Int32) [(.ref b197), .null, .null, .null, .null, .null, .null, .null, .null, .null] .null := (bf210_3.ext E214)
          have f223 : Exa Z h214 b197 cn5 := ((f209.keep Kq210).ext E214)
          obtain ⟨_, _, ⟨T224, L224, k224, n224⟩, -, X224, ⟨Lc224, hQ224, l224, y224, z224⟩, st224⟩ := X214.specialBack hx (y := (⟨cn1, "<init>", cn16⟩ : MethodName)) rfl hown (mvT hZ (w53 hw)) (mvT hZ (w54 hw)) (mvT hZ (w55 hw)) (by decide) (backOf (W := 1) (r45_init l Z a0 hw [] b214 p1 (.ref b3_165) (.ref b3_169) b172 .null k6_2_2_10_210 ymir b6_2_2_10_210 b197 ov20 h214 n0 O215 f217 f218 f219 f220 f221 f222 f223 A214 F214_92 F214_94 F214_96 F214_98 F214_100 oS22 g_b214 hmir rfl rfl rfl) hZ (w55 hw) (w52 hw) (by decide) (by decide)) (g := (mkF m 117 #[.val (.int p1), .val (.int p2), .val (.int p3), .val (.int p4), .val (.int jz1), .val (.int (((p2.toUInt32 >>> ((1 : Int32) &&& 31).toUInt32).toInt32) &&& (3 : Int32))), .val .null, .val (.ref b3_165), .val (.ref b3_169), .val (.ref b172), .unset, .unset, .unset] [.null, (.ref b172), (.ref b3_169), (.ref b3_165), (.int p1), (.ref b214), (.ref b214)])) rfl (by rw [hml]; rfl) (Steps.refl _) (a := b214) (argsL := [(.int p1), (.ref b3_165), (.ref b3_169), (.ref b172), .null]) (rest := [(.ref b214)]) (lenOf pd__ILjava_lang_String_Ljava_lang_String_Ljava_util_List_Ljava_lang_String_V rfl) rfl (by show 2 * 0 + _ ≤ _; exact Nat.le_of_eq rfl) (hb hby at_117) (fun _ _ => ⟨rfl, e214, (by decide : 8 + 2 ≤ _), (by decide : 31 + 3 ≤ _)⟩)
          dsimp only [Pt.U, Pt.locs, Pt.cells, Pt.slots] at X224 l224 y224 z224 st224 hQ224
          subst l224 y224 z224
          obtain ⟨Nq224, Kq224, hR224⟩ := hQ224
          have N224 := Fr.app N210 Nq224
          have Hc225 := CHv.keep Kq224 (sfS (Safe.exa hZ.alike A214 (by decide) (by decide)) sf0) Hc215
          have K225 : Keep h0 _ [] := K215.trans Kq224 (allS (Or.inr sz_b214) all0)
          have O225 := O215.keep Kq224 (allS g_b214 all0)
          have hk226 := Nat.le_trans hk216 Kq224.1
          obtain ⟨b2_6_1_2_224, rfl, bz224_0, bf224_0, bf224_1, bf224_2, bf224_3, bf224_4, bf224_5, bf224_6, bf224_7⟩ := hR224
          have sz_b2_6_1_2_224 : h0.size ≤ b2_6_1_2_224 := Nat.le_trans K215.1 bz224_0
          have g_b2_6_1_2_224 : n0 ≤ b2_6_1_2_224 := Nat.le_trans Z0 sz_b2_6_1_2_224
          refine Gets.tr st224 ?_
          show Gets p e below _ (T224.setTop (mkF m 120 #[.val (.int p1), .val (.int p2), .val (.int p3), .val (.int p4), .val (.int jz1), .val (.int (((p2.toUInt32 >>> ((1 : Int32) &&& 31).toUInt32).toInt32) &&& (3 : Int32))), .val .null, .val (.ref b3_165), .val (.ref b3_169), .val (.ref b172), .unset, .unset, .unset] [(.ref b214)]))
          refine Gets.of (fun t k => XS.astore X224.here hx rfl (hb hby at_120) rfl rfl (l' := #[.val (.int p1), .val (.int p2), .val (.int p3), .val (.int p4), .val (.int jz1), .val (.int (((p2.toUInt32 >>> ((1 : Int32) &&& 31).toUInt32).toInt32) &&& (3 : Int32))), .val .null, .val (.ref b3_165), .val (.ref b3_169), .val (.ref b172), .val (.ref b214), .unset, .unset]) rfl k) ?_
          show Gets p e below _ (T224.setTop (mkF m 122 #[.val (.int p1), .val (.int p2), .val (.int p3), .val (.int p4), .val (.int jz1), .val (.int (((p2.toUInt32 >>> ((1 : Int32) &&& 31).toUInt32).toInt32) &&& (3 : Int32))), .val .null, .val (.ref b3_165), .val (.ref b3_169), .val (.ref b172), .val (.ref b214), .unset, .unset] []))
          refine Gets.of (fun t k => XS.aload X224.here hx rfl (hb hby at_122) rfl rfl  k) ?_
          have f228 : Exa Z T224.heap b214 cn1 := (A214.keep Kq224)
          obtain ⟨cq227, kq227, q227a, q227b, q227c⟩ := isOf hZ rfl f228
          obtain ⟨_, _, ⟨T227, L227, k227, n227⟩, -, X227, ⟨Lc227, hQ227, l227, y227, z227⟩, st227⟩ := X224.virtualBack hx (y := (⟨cn1, "isSetAside", "()Z"⟩ : MethodName)) (z := (⟨cn1, "isSetAside", "()Z"⟩ : MethodName)) hown (mvT hZ (w101 hw)) (mvT hZ (w102 hw)) (notFace_of_selects (args := #[]) (mvT hZ (w104 hw))) (mvT hZ (w104 hw)) (mvT hZ (w103 hw)) (by decide) (backOf (W := 0) (r33_isSetAside l Z a0 hw [] b214 T224.heap n0 O225 bf224_4) hZ (w105 hw) (w52 hw) (by decide) (by decide)) q227a q227c (g := (mkF m 124 #[.val (.int p1), .val (.int p2), .val (.int p3), .val (.int p4), .val (.int jz1), .val (.int (((p2.toUInt32 >>> ((1 : Int32) &&& 31).toUInt32).toInt32) &&& (3 : Int32))), .val .null, .val (.ref b3_165), .val (.ref b3_169), .val (.ref b172), .val (.ref b214), .unset, .unset] [(.ref b214)])) rfl (by rw [hml]; rfl) (Steps.refl _) (argsL := []) (rest := []) (lenOf pd__Z rfl) rfl (by show 2 * 0 + _ ≤ _; exact Nat.le_of_eq rfl) (hb hby at_124) (fun _ _ => ⟨rfl, rfl, (by decide : 10 + 0 ≤ _), (by decide : 34 + 0 ≤ _)⟩)
          dsimp only [Pt.U, Pt.locs, Pt.cells, Pt.slots] at X227 l227 y227 z227 st227 hQ227
          subst l227 y227 z227
          obtain ⟨Nq227, eq227, hR227⟩ := hQ227
          have N227 := Fr.app N224 Nq227
          obtain rfl := hR227
          refine Gets.tr st227 ?_
          show Gets p e below _ (T227.setTop (mkF m 127 #[.val (.int p1), .val (.int p2), .val (.int p3), .val (.int p4), .val (.int jz1), .val (.int (((p2.toUInt32 >>> ((1 : Int32) &&& 31).toUInt32).toInt32) &&& (3 : Int32))), .val .null, .val (.ref b3_165), .val (.ref b3_169), .val (.ref b172), .val (.ref b214), .unset, .unset] [(.int (0 : Int32))]))
          refine Gets.of (fun t k => XS.iload X227.here hx rfl (hb hby at_127) rfl  k) ?_
          refine Gets.of (fun t k => XS.ifYes X227.here hx rfl (pc0 := 129) (pc' := 136) rfl (hb hby at_129) rfl ((if0 _ _).trans (feq hc2).2) (by decide) (by decide) k) ?_
          show Gets p e below _ (T227.setTop (mkF m 136 #[.val (.int p1), .val (.int p2), .val (.int p3), .val (.int p4), .val (.int jz1), .val (.int (((p2.toUInt32 >>> ((1 : Int32) &&& 31).toUInt32).toInt32) &&& (3 : Int32))), .val .null, .val (.ref b3_165), .val (.ref b3_169), .val (.ref b172), .val (.ref b214), .unset, .unset] [(.int (0 : Int32))]))
          refine Gets.of (fun t k => XS.iconst X227.here hx rfl (hb hby at_136) k) ?_
          refine Gets.of (fun t k => XS.icmpNo X227.here hx rfl (hb hby at_137) rfl (teq (by decide : (0 : Int32) = (0 : Int32))).2 k) ?_
          show Gets p e below _ (T227.setTop (mkF m 140 #[.val (.int p1), .val (.int p2), .val (.int p3), .val (.int p4), .val (.int jz1), .val (.int (((p2.toUInt32 >>> ((1 : Int32) &&& 31).toUInt32).toInt32) &&& (3 : Int32))), .val .null, .val (.ref b3_165), .val (.ref b3_169), .val (.ref b172), .val (.ref b214), .unset, .unset] []))
          refine Gets.of (fun t k => XS.iconst X227.here hx rfl (hb hby at_140) k) ?_
          refine Gets.of (fun t k => XS.goto X227.here hx rfl (pc0 := 141) (pc' := 145) rfl (hb hby at_141) (by decide) (by decide) k) ?_
          show Gets p e below _ (T227.setTop (mkF m 145 #[.val (.int p1), .val (.int p2), .val (.int p3), .val (.int p4), .val (.int jz1), .val (.int (((p2.toUInt32 >>> ((1 : Int32) &&& 31).toUInt32).toInt32) &&& (3 : Int32))), .val .null, .val (.ref b3_165), .val (.ref b3_169), .val (.ref b172), .val (.ref b214), .unset, .unset] [(.int (1 : Int32))]))
          refine Gets.of (fun t k => XS.istore X227.here hx rfl (hb hby at_145) rfl (l' := #[.val (.int p1), .val (.int p2), .val (.int p3), .val (.int p4), .val (.int jz1), .val (.int (((p2.toUInt32 >>> ((1 : Int32) &&& 31).toUInt32).toInt32) &&& (3 : Int32))), .val .null, .val (.ref b3_165), .val (.ref b3_169), .val (.ref b172), .val (.ref b214), .val (.int (1 : Int32)), .unset]) rfl k) ?_
          show Gets p e below _ (T227.setTop (mkF m 147 #[.val (.int p1), .val (.int p2), .val (.int p3), .val (.int p4), .val (.int jz1), .val (.int (((p2.toUInt32 >>> ((1 : Int32) &&& 31).toUInt32).toInt32) &&& (3 : Int32))), .val .null, .val (.ref b3_165), .val (.ref b3_169), .val (.ref b172), .val (.ref b214), .val (.int (1 : Int32)), .unset] []))
          refine Gets.of (fun t k => XS.iloadN X227.here hx rfl (hb hby at_147) rfl  k) ?_
          refine Gets.of (fun t k => XS.aload X227.here hx rfl (hb hby at_148) rfl rfl  k) ?_
          refine Gets.of (fun t k => XS.aload X227.here hx rfl (hb hby at_150) rfl rfl  k) ?_
          refine Gets.of (fun t k => XS.aload X227.here hx rfl (hb hby at_152) rfl rfl  k) ?_
          show Gets p e below _ (T227.setTop (mkF m 154 #[.val (.int p1), .val (.int p2), .val (.int p3), .val (.int p4), .val (.int jz1), .val (.int (((p2.toUInt32 >>> ((1 : Int32) &&& 31).toUInt32).toInt32) &&& (3 : Int32))), .val .null, .val (.ref b3_165), .val (.ref b3_169), .val (.ref b172), .val (.ref b214), .val (.int (1 : Int32)), .unset] [(.ref b172), (.ref b3_169), (.ref b3_165), (.int p1)]))
          have f229 : Exa Z T224.heap b172 cn2 := (f217.keep Kq224)
          have f230 : Fld Z T224.heap b172 cn2 "size" "I" (.int (1 : Int32)) := (f218.keep Kq224 (ninS (Nat.ne_of_lt (Nat.lt_of_lt_of_le (Nat.lt_of_lt_of_le (Nat.lt_of_lt_of_le (Nat.lt_of_lt_of_le (Nat.lt_of_lt_of_le A172.lt up198) E197.1) up211) Kq210.1) (Nat.le_of_eq g214.symm))) nin0))
          have f231 : Fld Z T224.heap b172 cn2 "elementData" cn6 (.ref b6_2_2_10_210) := (f220.keep Kq224 (ninS (Nat.ne_of_lt (Nat.lt_of_lt_of_le (Nat.lt_of_lt_of_le (Nat.lt_of_lt_of_le (Nat.lt_of_lt_of_le (Nat.lt_of_lt_of_le A172.lt up198) E197.1) up211) Kq210.1) (Nat.le_of_eq g214.symm))) nin0))
          have f232 : Exa Z T224.heap b6_2_2_10_210 cn6 := (f221.keep Kq224)
          have f233 : Arv Z T224.heap b6_2_2_10_210 k6_2_2_10_210 (.object cn3) (10 : Int32) [(.ref b197), .null, .null, .null, .null, .null, .null, .null, .null, .null] .null := (f222.keep Kq224 (ninS (Nat.ne_of_lt (Nat.lt_of_lt_of_le bf210_3.lt (Nat.le_of_eq g214.symm))) nin0))
          have f234 : Exa Z T224.heap b197 cn5 := (f223.keep Kq224)
          have f235 : Ovr Z k6_2_2_10_210 cn3 := f219
          obtain ⟨_, _, ⟨T236, L236, k236, n236⟩, -, X236, ⟨Lc236, hQ236, l236, y236, z236⟩, st236⟩ := Jvm.LawKit.callS X227 hx (y := (⟨cn1, "read", cn20⟩ : MethodName)) hown (mvT hZ (w106 hw)) (mvT hZ (w107 hw)) (mvT hZ (w52 hw)) (mvT hZ (w108 hw)) (by decide) (backOf (W := 0) (r58_read l Z a0 hw [] p1 (.ref b3_165) (.ref b3_169) b172 b6_2_2_10_210 k6_2_2_10_210 b197 ymir ov20 T224.heap n0 O225 f229 f230 f231 f232 f233 f234 f235 oS22 rfl rfl hmir) hZ (w108 hw) (w52 hw) (by decide) (by decide)) (g := (mkF m 154 #[.val (.int p1), .val (.int p2), .val (.int p3), .val (.int p4), .val (.int jz1), .val (.int (((p2.toUInt32 >>> ((1 : Int32) &&& 31).toUInt32).toInt32) &&& (3 : Int32))), .val .null, .val (.ref b3_165), .val (.ref b3_169), .val (.ref b172), .val (.ref b214), .val (.int (1 : Int32)), .unset] [(.ref b172), (.ref b3_169), (.ref b3_165), (.int p1)])) rfl (by rw [hml]; rfl) (argsL := [(.int p1), (.ref b3_165), (.ref b3_169), (.ref b172)]) (rest := []) (lenOf pd__ILjava_lang_String_Ljava_lang_String_Ljava_util_List_Lcom_example_causeway_causeway_formats_OaiDcUnit_ rfl) rfl (by show 2 * 0 + _ ≤ _; exact Nat.le_of_eq rfl) (hb hby at_154) (fun _ _ => ⟨rfl, eq227, (by decide : 10 + 3 ≤ _), (by decide : 34 + 8 ≤ _)⟩)
          dsimp only [Pt.U, Pt.locs, Pt.cells, Pt.slots] at X236 l236 y236 z236 st236 hQ236
          subst l236 y236 z236
          obtain ⟨Nq236, Kq236, hR236⟩ := hQ236
          have N236 := Fr.app N227 Nq236
          have Hc237 := CHv.keep Kq236 sf0 Hc225
          have K237 : Keep h0 _ [] := K225.trans Kq236 all0
          have O237 := O225.keep Kq236 all0
          have hk238 := Nat.le_trans hk226 Kq236.1
          obtain ⟨b1_236, b2_6_1_2_10_236, rfl, bz236_0, bz236_1, bn236_0, bf236_0, bf236_1, bf236_2, bf236_3, bf236_4, bf236_5, bf236_6, bf236_7, bf236_8⟩ := hR236
          have sz_b1_236 : h0.size ≤ b1_236 := Nat.le_trans K225.1 bz236_0
          have g_b1_236 : n0 ≤ b1_236 := Nat.le_trans Z0 sz_b1_236
          have sz_b2_6_1_2_10_236 : h0.size ≤ b2_6_1_2_10_236 := Nat.le_trans K225.1 bz236_1
          have g_b2_6_1_2_10_236 : n0 ≤ b2_6_1_2_10_236 := Nat.le_trans Z0 sz_b2_6_1_2_10_236
          refine Gets.of st236 ?_
          show Gets p e below _ (T236.setTop (mkF m 157 #[.val (.int p1), .val (.int p2), .val (.int p3), .val (.int p4), .val (.int jz1), .val (.int (((p2.toUInt32 >>> ((1 : Int32) &&& 31).toUInt32).toInt32) &&& (3 : Int32))), .val .null, .val (.ref b3_165), .val (.ref b3_169), .val (.ref b172), .val (.ref b214), .val (.int (1 : Int32)), .unset] [(.ref b1_236)]))
          refine Gets.of (fun t k => XS.astore X236.here hx rfl (hb hby at_157) rfl rfl (l' := #[.val (.int p1), .val (.int p2), .val (.int p3), .val (.int p4), .val (.int jz1), .val (.int (((p2.toUInt32 >>> ((1 : Int32) &&& 31).toUInt32).toInt32) &&& (3 : Int32))), .val .null, .val (.ref b3_165), .val (.ref b3_169), .val (.ref b172), .val (.ref b214), .val (.int (1 : Int32)), .val (.ref b1_236)]) rfl k) ?_
          show Gets p e below _ (T236.setTop (mkF m 159 #[.val (.int p1), .val (.int p2), .val (.int p3), .val (.int p4), .val (.int jz1), .val (.int (((p2.toUInt32 >>> ((1 : Int32) &&& 31).toUInt32).toInt32) &&& (3 : Int32))), .val .null, .val (.ref b3_165), .val (.ref b3_169), .val (.ref b172), .val (.ref b214), .val (.int (1 : Int32)), .val (.ref b1_236)] []))
          refine Gets.of (fun t k => XS.iload X236.here hx rfl (hb hby at_159) rfl  k) ?_
          refine Gets.of (fun t k => XS.ifNo X236.here hx rfl (hb hby at_161) rfl ((if0 _ _).trans (feq (by decide : ¬ ((1 : Int32) = (0 : Int32)))).1) k) ?_
          show Gets p e below _ (T236.setTop (mkF m 164 #[.val (.int p1), .val (.int p2), .val (.int p3), .val (.int p4), .val (.int jz1), .val (.int (((p2.toUInt32 >>> ((1 : Int32) &&& 31).toUInt32).toInt32) &&& (3 : Int32))), .val .null, .val (.ref b3_165), .val (.ref b3_169), .val (.ref b172), .val (.ref b214), .val (.int (1 : Int32)), .val (.ref b1_236)] []))
          refine Gets.of (fun t k => XS.aload X236.here hx rfl (hb hby at_164) rfl rfl  k) ?_
          obtain ⟨cq239, kq239, q239a, q239b, q239c⟩ := isOf hZ rfl bf236_0
          obtain ⟨_, _, ⟨T239, L239, k239, n239⟩, -, X239, ⟨Lc239, hQ239, l239, y239, z239⟩, st239⟩ := X236.virtualBack hx (y := (⟨cn1, "isSetAside", "()Z"⟩ : MethodName)) (z := (⟨cn1, "isSetAside", "()Z"⟩ : MethodName)) hown (mvT hZ (w101 hw)) (mvT hZ (w102 hw)) (notFace_of_selects (args := #[]) (mvT hZ (w104 hw))) (mvT hZ (w104 hw)) (mvT hZ (w103 hw)) (by decide) (backOf (W := 0) (r33_isSetAside l Z a0 hw [] b1_236 T236.heap n0 O237 bf236_5) hZ (w105 hw) (w52 hw) (by decide) (by decide)) q239a q239c (g := (mkF m 166 #[.val (.int p1), .val (.int p2), .val (.int p3), .val (.int p4), .val (.int jz1), .val (.int (((p2.toUInt32 >>> ((1 : Int32) &&& 31).toUInt32).toInt32) &&& (3 : Int32))), .val .null, .val (.ref b3_165), .val (.ref b3_169), .val (.ref b172), .val (.ref b214), .val (.int (1 : Int32)), .val (.ref b1_236)] [(.ref b1_236)])) rfl (by rw [hml]; rfl) (Steps.refl _) (argsL := []) (rest := []) (lenOf pd__Z rfl) rfl (by show 2 * 0 + _ ≤ _; exact Nat.le_of_eq rfl) (hb hby at_166) (fun _ _ => ⟨rfl, rfl, (by decide : 13 + 0 ≤ _), (by decide : 42 + 0 ≤ _)⟩)
          dsimp only [Pt.U, Pt.locs, Pt.cells, Pt.slots] at X239 l239 y239 z239 st239 hQ239
          subst l239 y239 z239
          obtain ⟨Nq239, eq239, hR239⟩ := hQ239
          have N239 := Fr.app N236 Nq239
          obtain rfl := hR239
          refine Gets.tr st239 ?_
          show Gets p e below _ (T239.setTop (mkF m 169 #[.val (.int p1), .val (.int p2), .val (.int p3), .val (.int p4), .val (.int jz1), .val (.int (((p2.toUInt32 >>> ((1 : Int32) &&& 31).toUInt32).toInt32) &&& (3 : Int32))), .val .null, .val (.ref b3_165), .val (.ref b3_169), .val (.ref b172), .val (.ref b214), .val (.int (1 : Int32)), .val (.ref b1_236)] [(.int (0 : Int32))]))
          refine Gets.of (fun t k => XS.ifNo X239.here hx rfl (hb hby at_169) rfl ((if0 _ _).trans (teq (by decide : (0 : Int32) = (0 : Int32))).2) k) ?_
          show Gets p e below _ (T239.setTop (mkF m 172 #[.val (.int p1), .val (.int p2), .val (.int p3), .val (.int p4), .val (.int jz1), .val (.int (((p2.toUInt32 >>> ((1 : Int32) &&& 31).toUInt32).toInt32) &&& (3 : Int32))), .val .null, .val (.ref b3_165), .val (.ref b3_169), .val (.ref b172), .val (.ref b214), .val (.int (1 : Int32)), .val (.ref b1_236)] []))
          refine Gets.of (fun t k => XS.iconst X239.here hx rfl (hb hby at_172) k) ?_
          refine Gets.of (fun t k => XS.goto X239.here hx rfl (pc0 := 173) (pc' := 177) rfl (hb hby at_173) (by decide) (by decide) k) ?_
          show Gets p e below _ (T239.setTop (mkF m 177 #[.val (.int p1), .val (.int p2), .val (.int p3), .val (.int p4), .val (.int jz1), .val (.int (((p2.toUInt32 >>> ((1 : Int32) &&& 31).toUInt32).toInt32) &&& (3 : Int32))), .val .null, .val (.ref b3_165), .val (.ref b3_169), .val (.ref b172), .val (.ref b214), .val (.int (1 : Int32)), .val (.ref b1_236)] [(.int (1 : Int32))]))
          refine Gets.of (fun t k => XS.istore X239.here hx rfl (hb hby at_177) rfl (l' := #[.val (.int p1), .val (.int p2), .val (.int p3), .val (.int p4), .val (.int jz1), .val (.int (((p2.toUInt32 >>> ((1 : Int32) &&& 31).toUInt32).toInt32) &&& (3 : Int32))), .val .null, .val (.ref b3_165), .val (.ref b3_169), .val (.ref b172), .val (.ref b214), .val (.int (1 : Int32)), .val (.ref b1_236)]) rfl k) ?_
          show Gets p e below _ (T239.setTop (mkF m 179 #[.val (.int p1), .val (.int p2), .val (.int p3), .val (.int p4), .val (.int jz1), .val (.int (((p2.toUInt32 >>> ((1 : Int32) &&& 31).toUInt32).toInt32) &&& (3 : Int32))), .val .null, .val (.ref b3_165), .val (.ref b3_169), .val (.ref b172), .val (.ref b214), .val (.int (1 : Int32)), .val (.ref b1_236)] []))
          refine Gets.of (fun t k => XS.iload X239.here hx rfl (hb hby at_179) rfl  k) ?_
          refine Gets.of (fun t k => XS.ifYes X239.here hx rfl (pc0 := 181) (pc' := 210) rfl (hb hby at_181) rfl ((if0 _ _).trans (feq hc2).2) (by decide) (by decide) k) ?_
          show Gets p e below _ (T239.setTop (mkF m 210 #[.val (.int p1), .val (.int p2), .val (.int p3), .val (.int p4), .val (.int jz1), .val (.int (((p2.toUInt32 >>> ((1 : Int32) &&& 31).toUInt32).toInt32) &&& (3 : Int32))), .val .null, .val (.ref b3_165), .val (.ref b3_169), .val (.ref b172), .val (.ref b214), .val (.int (1 : Int32)), .val (.ref b1_236)] []))
          refine Gets.of (fun t k => XS.iload X239.here hx rfl (hb hby at_210) rfl  k) ?_
          refine GetsW.retN X239 hx (t := .boolean) Bd.returns (by simp) (hb hby at_212) hS0 (eq239 ▸ hk238) ?_ (by decide) (by decide)
          rw [eq239]
          exact ⟨N239, K237, rfl⟩
      · skip
        refine Gets.of (fun t k => XS.ifNo X165.here hx rfl (hb hby at_52) rfl ((if0 _ _).trans (feq hc168).1) k) ?_
        show Gets p e below _ (T165.setTop (mkF m 55 #[.val (.int p1), .val (.int p2), .val (.int p3), .val (.int p4), .val (.int jz1), .val (.int (((p2.toUInt32 >>> ((1 : Int32) &&& 31).toUInt32).toInt32) &&& (3 : Int32))), .val .null, .val (.ref b3_165), .unset, .unset, .unset, .unset, .unset] []))
        refine Gets.of (fun t k => XS.aconstNull X165.here hx rfl (hb hby at_55) k) ?_
        refine Gets.of (fun t k => XS.goto X165.here hx rfl (pc0 := 56) (pc' := 68) rfl (hb hby at_56) (by decide) (by decide) k) ?_
        show Gets p e below _ (T165.setTop (mkF m 68 #[.val (.int p1), .val (.int p2), .val (.int p3), .val (.int p4), .val (.int jz1), .val (.int (((p2.toUInt32 >>> ((1 : Int32) &&& 31).toUInt32).toInt32) &&& (3 : Int32))), .val .null, .val (.ref b3_165), .unset, .unset, .unset, .unset, .unset] [.null]))
        refine Gets.of (fun t k => XS.astore X165.here hx rfl (hb hby at_68) rfl rfl (l' := #[.val (.int p1), .val (.int p2), .val (.int p3), .val (.int p4), .val (.int jz1), .val (.int (((p2.toUInt32 >>> ((1 : Int32) &&& 31).toUInt32).toInt32) &&& (3 : Int32))), .val .null, .val (.ref b3_165), .val .null, .unset, .unset, .unset, .unset]) rfl k) ?_
        show Gets p e below _ (T165.setTop (mkF m 70 #[.val (.int p1), .val (.int p2), .val (.int p3), .val (.int p4), .val (.int jz1), .val (.int (((p2.toUInt32 >>> ((1 : Int32) &&& 31).toUInt32).toInt32) &&& (3 : Int32))), .val .null, .val (.ref b3_165), .val .null, .unset, .unset, .unset, .unset] []))
        obtain ⟨T240, h240, X240, e240, E240, A240, D240, -, st240⟩ := newO X165 hx hZ hown (w26 hw) (w27 hw) (w28 hw) rfl (g := (mkF m 70 #[.val (.int p1), .val (.int p2), .val (.int p3), .val (.int p4), .val (.int jz1), .val (.int (((p2.toUInt32 >>> ((1 : Int32) &&& 31).toUInt32).toInt32) &&& (3 : Int32))), .val .null, .val (.ref b3_165), .val .null, .unset, .unset, .unset, .unset] [])) rfl (hb hby at_70) (by decide) (by decide)
        obtain ⟨b240, g240⟩ : ∃ z, z = T165.heap.size := ⟨_, rfl⟩
        rw [← g240] at A240 D240 st240
        have sz_b240 : h0.size ≤ b240 := Nat.le_trans K166.1 (Nat.le_of_eq g240.symm)
        have g_b240 : n0 ≤ b240 := Nat.le_trans Z0 sz_b240
        have Hc241 := CHv.ext E240 Hc166
        have K241 := K166.ext E240
        have O241 := O166.ext E240
        have hk242 := Nat.le_trans hk167 E240.1
        have F240_46 : Fld Z h240 b240 cn10 "modCount" "I" (.int (0 : Int32)) := D240 (Or.inl (w46 hw)) (ty := .int) (by decide)
        have F240_49 : Fld Z h240 b240 cn2 "elementData" cn6 .null := D240 (Or.inl (w49 hw)) (ty := (.array (.object cn3))) (by decide)
        have F240_86 : Fld Z h240 b240 cn2 "size" "I" (.int (0 : Int32)) := D240 (Or.inl (w86 hw)) (ty := .int) (by decide)
        refine Gets.of st240 ?_
        show Gets p e below _ (T240.setTop (mkF m 73 #[.val (.int p1), .val (.int p2), .val (.int p3), .val (.int p4), .val (.int jz1), .val (.int (((p2.toUInt32 >>> ((1 : Int32) &&& 31).toUInt32).toInt32) &&& (3 : Int32))), .val .null, .val (.ref b3_165), .val .null, .unset, .unset, .unset, .unset] [(.ref b240)]))
        refine Gets.of (fun t k => XS.dup X240.here hx rfl (hb hby at_73) rfl rfl k) ?_
        obtain ⟨_, _, ⟨T243, L243, k243, n243⟩, -, X243, ⟨Lc243, hQ243, l243, y243, z243⟩, st243⟩ := X240.specialBack hx (y := (⟨cn2, "<init>", "()V"⟩ : MethodName)) rfl hown (mvT hZ (w29 hw)) (mvT hZ (w30 hw)) (mvT hZ (w31 hw)) (by decide) (backOf (W := 1) (r22_init l Z a0 hw [] b240 ov5 h240 n0 O241 A240 F240_46 F240_49 F240_86 oS7 g_b240) hZ (w31 hw) (w28 hw) (by decide) (by decide)) (g := (mkF m 74 #[.val (.int p1), .val (.int p2), .val (.int p3), .val (.int p4), .val (.int jz1), .val (.int (((p2.toUInt32 >>> ((1 : Int32) &&& 31).toUInt32).toInt32) &&& (3 : Int32))), .val .null, .val (.ref b3_165), .val .null, .unset, .unset, .unset, .unset] [(.ref b240), (.ref b240)])) rfl (by rw [hml]; rfl) (Steps.refl _) (a := b240) (argsL := []) (rest := [(.ref b240)]) (lenOf pd__V rfl) rfl (by show 2 * 0 + _ ≤ _; exact Nat.le_of_eq rfl) (hb hby at_74) (fun _ _ => ⟨rfl, e240, (by decide : 3 + 0 ≤ _), (by decide : 8 + 0 ≤ _)⟩)
        dsimp only [Pt.U, Pt.locs, Pt.cells, Pt.slots] at X243 l243 y243 z243 st243 hQ243
        subst l243 y243 z243
        obtain ⟨Nq243, Kq243, hR243⟩ := hQ243
        have N243 := Fr.app N165 Nq243
        have Hc244 := CHv.keep Kq243 (sfS (Safe.exa hZ.alike A240 (by decide) (by decide)) sf0) Hc241
        have K244 : Keep h0 _ [] := K241.trans Kq243 (allS (Or.inr sz_b240) all0)
        have O244 := O241.keep Kq243 (allS g_b240 all0)
        have hk245 := Nat.le_trans hk242 Kq243.1
        obtain ⟨rfl, bf243_0, bf243_1, bf243_2⟩ := hR243
        refine Gets.tr st243 ?_
        show Gets p e below _ (T243.setTop (mkF m 77 #[.val (.int p1), .val (.int p2), .val (.int p3), .val (.int p4), .val (.int jz1), .val (.int (((p2.toUInt32 >>> ((1 : Int32) &&& 31).toUInt32).toInt32) &&& (3 : Int32))), .val .null, .val (.ref b3_165), .val .null, .unset, .unset, .unset, .unset] [(.ref b240)]))
        refine Gets.of (fun t k => XS.astore X243.here hx rfl (hb hby at_77) rfl rfl (l' := #[.val (.int p1), .val (.int p2), .val (.int p3), .val (.int p4), .val (.int jz1), .val (.int (((p2.toUInt32 >>> ((1 : Int32) &&& 31).toUInt32).toInt32) &&& (3 : Int32))), .val .null, .val (.ref b3_165), .val .null, .val (.ref b240), .unset, .unset, .unset]) rfl k) ?_
        show Gets p e below _ (T243.setTop (mkF m 79 #[.val (.int p1), .val (.int p2), .val (.int p3), .val (.int p4), .val (.int jz1), .val (.int (((p2.toUInt32 >>> ((1 : Int32) &&& 31).toUInt32).toInt32) &&& (3 : Int32))), .val .null, .val (.ref b3_165), .val .null, .val (.ref b240), .unset, .unset, .unset] []))
        refine Gets.of (fun t k => XS.iloadN X243.here hx rfl (hb hby at_79) rfl  k) ?_
        refine Gets.of (fun t k => XS.bipush X243.here hx rfl (hb hby at_80) k) ?_
        refine Gets.of (fun t k => XS.iand X243.here hx rfl (hb hby at_82) rfl k) ?_
        show Gets p e below _ (T243.setTop (mkF m 83 #[.val (.int p1), .val (.int p2), .val (.int p3), .val (.int p4), .val (.int jz1), .val (.int (((p2.toUInt32 >>> ((1 : Int32) &&& 31).toUInt32).toInt32) &&& (3 : Int32))), .val .null, .val (.ref b3_165), .val .null, .val (.ref b240), .unset, .unset, .unset] [(.int (p2 &&& (16 : Int32)))]))
        by_cases hc246 : (p2 &&& (16 : Int32)) = (0 : Int32)
        · skip
          refine Gets.of (fun t k => XS.ifYes X243.here hx rfl (pc0 := 83) (pc' := 104) rfl (hb hby at_83) rfl ((if0 _ _).trans (teq hc246).1) (by decide) (by decide) k) ?_
          show Gets p e below _ (T243.setTop (mkF m 104 #[.val (.int p1), .val (.int p2), .val (.int p3), .val (.int p4), .val (.int jz1), .val (.int (((p2.toUInt32 >>> ((1 : Int32) &&& 31).toUInt32).toInt32) &&& (3 : Int32))), .val .null, .val (.ref b3_165), .val .null, .val (.ref b240), .unset, .unset, .unset] []))
          obtain ⟨T247, h247, X247, e247, E247, A247, D247, -, st247⟩ := newO X243 hx hZ hown (w50 hw) (w51 hw) (w52 hw) rfl (g := (mkF m 104 #[.val (.int p1), .val (.int p2), .val (.int p3), .val (.int p4), .val (.int jz1), .val (.int (((p2.toUInt32 >>> ((1 : Int32) &&& 31).toUInt32).toInt32) &&& (3 : Int32))), .val .null, .val (.ref b3_165), .val .null, .val (.ref b240), .unset, .unset, .unset] [])) rfl (hb hby at_104) (by decide) (by decide)
          obtain ⟨b247, g247⟩ : ∃ z, z = T243.heap.size := ⟨_, rfl⟩
          rw [← g247] at A247 D247 st247
          have up248 := Kq243.1
          have sz_b247 : h0.size ≤ b247 := Nat.le_trans K244.1 (Nat.le_of_eq g247.symm)
          have g_b247 : n0 ≤ b247 := Nat.le_trans Z0 sz_b247
          have Hc249 := CHv.ext E247 Hc244
          have K249 := K244.ext E247
          have O249 := O244.ext E247
          have hk250 := Nat.le_trans hk245 E247.1
          have F247_92 : Fld Z h247 b247 cn1 "number" "I" (.int (0 : Int32)) := D247 (Or.inr (w92 hw)) (ty := .int) (by decide)
          have F247_94 : Fld Z h247 b247 cn1 "location" cn4 .null := D247 (Or.inr (w94 hw)) (ty := (.object cn0)) (by decide)
          have F247_96 : Fld Z h247 b247 cn1 "source" cn4 .null := D247 (Or.inr (w96 hw)) (ty := (.object cn0)) (by decide)
          have F247_98 : Fld Z h247 b247 cn1 "values" cn12 .null := D247 (Or.inr (w98 hw)) (ty := (.object "java/util/List")) (by decide)
          have F247_100 : Fld Z h247 b247 cn1 "problem" cn4 .null := D247 (Or.inr (w100 hw)) (ty := (.object cn0)) (by decide)
          refine Gets.of st247 ?_
          show Gets p e below _ (T247.setTop (mkF m 107 #[.val (.int p1), .val (.int p2), .val (.int p3), .val (.int p4), .val (.int jz1), .val (.int (((p2.toUInt32 >>> ((1 : Int32) &&& 31).toUInt32).toInt32) &&& (3 : Int32))), .val .null, .val (.ref b3_165), .val .null, .val (.ref b240), .unset, .unset, .unset] [(.ref b247)]))
          refine Gets.of (fun t k => XS.dup X247.here hx rfl (hb hby at_107) rfl rfl k) ?_
          refine Gets.of (fun t k => XS.iloadN X247.here hx rfl (hb hby at_108) rfl  k) ?_
          refine Gets.of (fun t k => XS.aload X247.here hx rfl (hb hby at_109) rfl rfl  k) ?_
          refine Gets.of (fun t k => XS.aload X247.here hx rfl (hb hby at_111) rfl rfl  k) ?_
          show Gets p e below _ (T247.setTop (mkF m 113 #[.val (.int p1), .val (.int p2), .val (.int p3), .val (.int p4), .val (.int jz1), .val (.int (((p2.toUInt32 >>> ((1 : Int32) &&& 31).toUInt32).toInt32) &&& (3 : Int32))), .val .null, .val (.ref b3_165), .val .null, .val (.ref b240), .unset, .unset, .unset] [.null, (.ref b3_165), (.int p1), (.ref b247), (.ref b247)]))
          refine Gets.of (fun t k => XS.aload X247.here hx rfl (hb hby at_113) rfl rfl  k) ?_
          refine Gets.of (fun t k => XS.aload X247.here hx rfl (hb hby at_115) rfl rfl  k) ?_
          have f251 : Exa Z h247 b240 cn2 := ((A240.keep Kq243).ext E247)
          have f252 : Fld Z h247 b240 cn2 "size" "I" (.int (0 : Int32)) := (bf243_2.ext E247)
          obtain ⟨_, _, ⟨T253, L253, k253, n253⟩, -, X253, ⟨Lc253, hQ253, l253, y253, z253⟩, st253⟩ := X247.specialBack hx (y := (⟨cn1, "<init>", cn16⟩ : MethodName)) rfl hown (mvT hZ (w53 hw)) (mvT hZ (w54 hw)) (mvT hZ (w55 hw)) (by decide) (backOf (W := 1) (r25_init l Z a0 hw [] b247 p1 (.ref b3_165) .null b240 .null ov14 h247 n0 O249 f251 f252 A247 F247_92 F247_94 F247_96 F247_98 F247_100 oS16 g_b247 rfl rfl rfl) hZ (w55 hw) (w52 hw) (by decide) (by decide)) (g := (mkF m 117 #[.val (.int p1), .val (.int p2), .val (.int p3), .val (.int p4), .val (.int jz1), .val (.int (((p2.toUInt32 >>> ((1 : Int32) &&& 31).toUInt32).toInt32) &&& (3 : Int32))), .val .null, .val (.ref b3_165), .val .null, .val (.ref b240), .unset, .unset, .unset] [.null, (.ref b240), .null, (.ref b3_165), (.int p1), (.ref b247), (.ref b247)])) rfl (by rw [hml]; rfl) (Steps.refl _) (a := b247) (argsL := [(.int p1), (.ref b3_165), .null, (.ref b240), .null]) (rest := [(.ref b247)]) (lenOf pd__ILjava_lang_String_Ljava_lang_String_Ljava_util_List_Ljava_lang_String_V rfl) rfl (by show 2 * 0 + _ ≤ _; exact Nat.le_of_eq rfl) (hb hby at_117) (fun _ _ => ⟨rfl, e247, (by decide : 4 + 0 ≤ _), (by decide : 13 + 0 ≤ _)⟩)
          dsimp only [Pt.U, Pt.locs, Pt.cells, Pt.slots] at X253 l253 y253 z253 st253 hQ253
          subst l253 y253 z253
          obtain ⟨Nq253, Kq253, hR253⟩ := hQ253
          have N253 := Fr.app N243 Nq253
          have Hc254 := CHv.keep Kq253 (sfS (Safe.exa hZ.alike A247 (by decide) (by decide)) sf0) Hc249
          have K254 : Keep h0 _ [] := K249.trans Kq253 (allS (Or.inr sz_b247) all0)
          have O254 := O249.keep Kq253 (allS g_b247 all0)
          have hk255 := Nat.le_trans hk250 Kq253.1
          obtain ⟨rfl, bf253_0, bf253_1, bf253_2, bf253_3, bf253_4⟩ := hR253
          refine Gets.tr st253 ?_
          show Gets p e below _ (T253.setTop (mkF m 120 #[.val (.int p1), .val (.int p2), .val (.int p3), .val (.int p4), .val (.int jz1), .val (.int (((p2.toUInt32 >>> ((1 : Int32) &&& 31).toUInt32).toInt32) &&& (3 : Int32))), .val .null, .val (.ref b3_165), .val .null, .val (.ref b240), .unset, .unset, .unset] [(.ref b247)]))
          refine Gets.of (fun t k => XS.astore X253.here hx rfl (hb hby at_120) rfl rfl (l' := #[.val (.int p1), .val (.int p2), .val (.int p3), .val (.int p4), .val (.int jz1), .val (.int (((p2.toUInt32 >>> ((1 : Int32) &&& 31).toUInt32).toInt32) &&& (3 : Int32))), .val .null, .val (.ref b3_165), .val .null, .val (.ref b240), .val (.ref b247), .unset, .unset]) rfl k) ?_
          show Gets p e below _ (T253.setTop (mkF m 122 #[.val (.int p1), .val (.int p2), .val (.int p3), .val (.int p4), .val (.int jz1), .val (.int (((p2.toUInt32 >>> ((1 : Int32) &&& 31).toUInt32).toInt32) &&& (3 : Int32))), .val .null, .val (.ref b3_165), .val .null, .val (.ref b240), .val (.ref b247), .unset, .unset] []))
          refine Gets.of (fun t k => XS.aload X253.here hx rfl (hb hby at_122) rfl rfl  k) ?_
          have f257 : Exa Z T253.heap b247 cn1 := (A247.keep Kq253)
          obtain ⟨cq256, kq256, q256a, q256b, q256c⟩ := isOf hZ rfl f257
          obtain ⟨_, _, ⟨T256, L256, k256, n256⟩, -, X256, ⟨Lc256, hQ256, l256, y256, z256⟩, st256⟩ := X253.virtualBack hx (y := (⟨cn1, "isSetAside", "()Z"⟩ : MethodName)) (z := (⟨cn1, "isSetAside", "()Z"⟩ : MethodName)) hown (mvT hZ (w101 hw)) (mvT hZ (w102 hw)) (notFace_of_selects (args := #[]) (mvT hZ (w104 hw))) (mvT hZ (w104 hw)) (mvT hZ (w103 hw)) (by decide) (backOf (W := 0) (r33_isSetAside l Z a0 hw [] b247 T253.heap n0 O254 bf253_4) hZ (w105 hw) (w52 hw) (by decide) (by decide)) q256a q256c (g := (mkF m 124 #[.val (.int p1), .val (.int p2), .val (.int p3), .val (.int p4), .val (.int jz1), .val (.int (((p2.toUInt32 >>> ((1 : Int32) &&& 31).toUInt32).toInt32) &&& (3 : Int32))), .val .null, .val (.ref b3_165), .val .null, .val (.ref b240), .val (.ref b247), .unset, .unset] [(.ref b247)])) rfl (by rw [hml]; rfl) (Steps.refl _) (argsL := []) (rest := []) (lenOf pd__Z rfl) rfl (by show 2 * 0 + _ ≤ _; exact Nat.le_of_eq rfl) (hb hby at_124) (fun _ _ => ⟨rfl, rfl, (by decide : 4 + 0 ≤ _), (by decide : 13 + 0 ≤ _)⟩)
          dsimp only [Pt.U, Pt.locs, Pt.cells, Pt.slots] at X256 l256 y256 z256 st256 hQ256
          subst l256 y256 z256
          obtain ⟨Nq256, eq256, hR256⟩ := hQ256
          have N256 := Fr.app N253 Nq256
          obtain rfl := hR256
          refine Gets.tr st256 ?_
          show Gets p e below _ (T256.setTop (mkF m 127 #[.val (.int p1), .val (.int p2), .val (.int p3), .val (.int p4), .val (.int jz1), .val (.int (((p2.toUInt32 >>> ((1 : Int32) &&& 31).toUInt32).toInt32) &&& (3 : Int32))), .val .null, .val (.ref b3_165), .val .null, .val (.ref b240), .val (.ref b247), .unset, .unset] [(.int (0 : Int32))]))
          refine Gets.of (fun t k => XS.iload X256.here hx rfl (hb hby at_127) rfl  k) ?_
          refine Gets.of (fun t k => XS.ifYes X256.here hx rfl (pc0 := 129) (pc' := 136) rfl (hb hby at_129) rfl ((if0 _ _).trans (feq hc2).2) (by decide) (by decide) k) ?_
          show Gets p e below _ (T256.setTop (mkF m 136 #[.val (.int p1), .val (.int p2), .val (.int p3), .val (.int p4), .val (.int jz1), .val (.int (((p2.toUInt32 >>> ((1 : Int32) &&& 31).toUInt32).toInt32) &&& (3 : Int32))), .val .null, .val (.ref b3_165), .val .null, .val (.ref b240), .val (.ref b247), .unset, .unset] [(.int (0 : Int32))]))
          refine Gets.of (fun t k => XS.iconst X256.here hx rfl (hb hby at_136) k) ?_
          refine Gets.of (fun t k => XS.icmpNo X256.here hx rfl (hb hby at_137) rfl (teq (by decide : (0 : Int32) = (0 : Int32))).2 k) ?_
          show Gets p e below _ (T256.setTop (mkF m 140 #[.val (.int p1), .val (.int p2), .val (.int p3), .val (.int p4), .val (.int jz1), .val (.int (((p2.toUInt32 >>> ((1 : Int32) &&& 31).toUInt32).toInt32) &&& (3 : Int32))), .val .null, .val (.ref b3_165), .val .null, .val (.ref b240), .val (.ref b247), .unset, .unset] []))
          refine Gets.of (fun t k => XS.iconst X256.here hx rfl (hb hby at_140) k) ?_
          refine Gets.of (fun t k => XS.goto X256.here hx rfl (pc0 := 141) (pc' := 145) rfl (hb hby at_141) (by decide) (by decide) k) ?_
          show Gets p e below _ (T256.setTop (mkF m 145 #[.val (.int p1), .val (.int p2), .val (.int p3), .val (.int p4), .val (.int jz1), .val (.int (((p2.toUInt32 >>> ((1 : Int32) &&& 31).toUInt32).toInt32) &&& (3 : Int32))), .val .null, .val (.ref b3_165), .val .null, .val (.ref b240), .val (.ref b247), .unset, .unset] [(.int (1 : Int32))]))
          refine Gets.of (fun t k => XS.istore X256.here hx rfl (hb hby at_145) rfl (l' := #[.val (.int p1), .val (.int p2), .val (.int p3), .val (.int p4), .val (.int jz1), .val (.int (((p2.toUInt32 >>> ((1 : Int32) &&& 31).toUInt32).toInt32) &&& (3 : Int32))), .val .null, .val (.ref b3_165), .val .null, .val (.ref b240), .val (.ref b247), .val (.int (1 : Int32)), .unset]) rfl k) ?_
          show Gets p e below _ (T256.setTop (mkF m 147 #[.val (.int p1), .val (.int p2), .val (.int p3), .val (.int p4), .val (.int jz1), .val (.int (((p2.toUInt32 >>> ((1 : Int32) &&& 31).toUInt32).toInt32) &&& (3 : Int32))), .val .null, .val (.ref b3_165), .val .null, .val (.ref b240), .val (.ref b247), .val (.int (1 : Int32)), .unset] []))
          refine Gets.of (fun t k => XS.iloadN X256.here hx rfl (hb hby at_147) rfl  k) ?_
          refine Gets.of (fun t k => XS.aload X256.here hx rfl (hb hby at_148) rfl rfl  k) ?_
          refine Gets.of (fun t k => XS.aload X256.here hx rfl (hb hby at_150) rfl rfl  k) ?_
          refine Gets.of (fun t k => XS.aload X256.here hx rfl (hb hby at_152) rfl rfl  k) ?_
          show Gets p e below _ (T256.setTop (mkF m 154 #[.val (.int p1), .val (.int p2), .val (.int p3), .val (.int p4), .val (.int jz1), .val (.int (((p2.toUInt32 >>> ((1 : Int32) &&& 31).toUInt32).toInt32) &&& (3 : Int32))), .val .null, .val (.ref b3_165), .val .null, .val (.ref b240), .val (.ref b247), .val (.int (1 : Int32)), .unset] [(.ref b240), .null, (.ref b3_165), (.int p1)]))
          have f258 : Exa Z T253.heap b240 cn2 := (f251.keep Kq253)
          have f259 : Fld Z T253.heap b240 cn2 "size" "I" (.int (0 : Int32)) := (f252.keep Kq253 (ninS (Nat.ne_of_lt (Nat.lt_of_lt_of_le (Nat.lt_of_lt_of_le A240.lt up248) (Nat.le_of_eq g247.symm))) nin0))
          obtain ⟨_, _, ⟨T260, L260, k260, n260⟩, -, X260, ⟨Lc260, hQ260, l260, y260, z260⟩, st260⟩ := Jvm.LawKit.callS X256 hx (y := (⟨cn1, "read", cn20⟩ : MethodName)) hown (mvT hZ (w106 hw)) (mvT hZ (w107 hw)) (mvT hZ (w52 hw)) (mvT hZ (w108 hw)) (by decide) (backOf (W := 0) (r32_read l Z a0 hw [] p1 (.ref b3_165) .null b240 ov14 T253.heap n0 O254 f258 f259 oS16 rfl rfl) hZ (w108 hw) (w52 hw) (by decide) (by decide)) (g := (mkF m 154 #[.val (.int p1), .val (.int p2), .val (.int p3), .val (.int p4), .val (.int jz1), .val (.int (((p2.toUInt32 >>> ((1 : Int32) &&& 31).toUInt32).toInt32) &&& (3 : Int32))), .val .null, .val (.ref b3_165), .val .null, .val (.ref b240), .val (.ref b247), .val (.int (1 : Int32)), .unset] [(.ref b240), .null, (.ref b3_165), (.int p1)])) rfl (by rw [hml]; rfl) (argsL := [(.int p1), (.ref b3_165), .null, (.ref b240)]) (rest := []) (lenOf pd__ILjava_lang_String_Ljava_lang_String_Ljava_util_List_Lcom_example_causeway_causeway_formats_OaiDcUnit_ rfl) rfl (by show 2 * 0 + _ ≤ _; exact Nat.le_of_eq rfl) (hb hby at_154) (fun _ _ => ⟨rfl, eq256, (by decide : 4 + 1 ≤ _), (by decide : 13 + 5 ≤ _)⟩)
          dsimp only [Pt.U, Pt.locs, Pt.cells, Pt.slots] at X260 l260 y260 z260 st260 hQ260
          subst l260 y260 z260
          obtain ⟨Nq260, Kq260, hR260⟩ := hQ260
          have N260 := Fr.app N256 Nq260
          have up261 := Kq253.1
          have Hc262 := CHv.keep Kq260 sf0 Hc254
          have K262 : Keep h0 _ [] := K254.trans Kq260 all0
          have O262 := O254.keep Kq260 all0
          have hk263 := Nat.le_trans hk255 Kq260.1
          obtain ⟨b1_260, rfl, bz260_0, bf260_0, bf260_1, bf260_2, bf260_3, bf260_4, bf260_5⟩ := hR260
          have sz_b1_260 : h0.size ≤ b1_260 := Nat.le_trans K254.1 bz260_0
          have g_b1_260 : n0 ≤ b1_260 := Nat.le_trans Z0 sz_b1_260
          refine Gets.of st260 ?_
          show Gets p e below _ (T260.setTop (mkF m 157 #[.val (.int p1), .val (.int p2), .val (.int p3), .val (.int p4), .val (.int jz1), .val (.int (((p2.toUInt32 >>> ((1 : Int32) &&& 31).toUInt32).toInt32) &&& (3 : Int32))), .val .null, .val (.ref b3_165), .val .null, .val (.ref b240), .val (.ref b247), .val (.int (1 : Int32)), .unset] [(.ref b1_260)]))
          refine Gets.of (fun t k => XS.astore X260.here hx rfl (hb hby at_157) rfl rfl (l' := #[.val (.int p1), .val (.int p2), .val (.int p3), .val (.int p4), .val (.int jz1), .val (.int (((p2.toUInt32 >>> ((1 : Int32) &&& 31).toUInt32).toInt32) &&& (3 : Int32))), .val .null, .val (.ref b3_165), .val .null, .val (.ref b240), .val (.ref b247), .val (.int (1 : Int32)), .val (.ref b1_260)]) rfl k) ?_
          show Gets p e below _ (T260.setTop (mkF m 159 #[.val (.int p1), .val (.int p2), .val (.int p3), .val (.int p4), .val (.int jz1), .val (.int (((p2.toUInt32 >>> ((1 : Int32) &&& 31).toUInt32).toInt32) &&& (3 : Int32))), .val .null, .val (.ref b3_165), .val .null, .val (.ref b240), .val (.ref b247), .val (.int (1 : Int32)), .val (.ref b1_260)] []))
          refine Gets.of (fun t k => XS.iload X260.here hx rfl (hb hby at_159) rfl  k) ?_
          refine Gets.of (fun t k => XS.ifNo X260.here hx rfl (hb hby at_161) rfl ((if0 _ _).trans (feq (by decide : ¬ ((1 : Int32) = (0 : Int32)))).1) k) ?_
          show Gets p e below _ (T260.setTop (mkF m 164 #[.val (.int p1), .val (.int p2), .val (.int p3), .val (.int p4), .val (.int jz1), .val (.int (((p2.toUInt32 >>> ((1 : Int32) &&& 31).toUInt32).toInt32) &&& (3 : Int32))), .val .null, .val (.ref b3_165), .val .null, .val (.ref b240), .val (.ref b247), .val (.int (1 : Int32)), .val (.ref b1_260)] []))
          refine Gets.of (fun t k => XS.aload X260.here hx rfl (hb hby at_164) rfl rfl  k) ?_
          obtain ⟨cq264, kq264, q264a, q264b, q264c⟩ := isOf hZ rfl bf260_0
          obtain ⟨_, _, ⟨T264, L264, k264, n264⟩, -, X264, ⟨Lc264, hQ264, l264, y264, z264⟩, st264⟩ := X260.virtualBack hx (y := (⟨cn1, "isSetAside", "()Z"⟩ : MethodName)) (z := (⟨cn1, "isSetAside", "()Z"⟩ : MethodName)) hown (mvT hZ (w101 hw)) (mvT hZ (w102 hw)) (notFace_of_selects (args := #[]) (mvT hZ (w104 hw))) (mvT hZ (w104 hw)) (mvT hZ (w103 hw)) (by decide) (backOf (W := 0) (r33_isSetAside l Z a0 hw [] b1_260 T260.heap n0 O262 bf260_5) hZ (w105 hw) (w52 hw) (by decide) (by decide)) q264a q264c (g := (mkF m 166 #[.val (.int p1), .val (.int p2), .val (.int p3), .val (.int p4), .val (.int jz1), .val (.int (((p2.toUInt32 >>> ((1 : Int32) &&& 31).toUInt32).toInt32) &&& (3 : Int32))), .val .null, .val (.ref b3_165), .val .null, .val (.ref b240), .val (.ref b247), .val (.int (1 : Int32)), .val (.ref b1_260)] [(.ref b1_260)])) rfl (by rw [hml]; rfl) (Steps.refl _) (argsL := []) (rest := []) (lenOf pd__Z rfl) rfl (by show 2 * 0 + _ ≤ _; exact Nat.le_of_eq rfl) (hb hby at_166) (fun _ _ => ⟨rfl, rfl, (by decide : 5 + 0 ≤ _), (by decide : 18 + 0 ≤ _)⟩)
          dsimp only [Pt.U, Pt.locs, Pt.cells, Pt.slots] at X264 l264 y264 z264 st264 hQ264
          subst l264 y264 z264
          obtain ⟨Nq264, eq264, hR264⟩ := hQ264
          have N264 := Fr.app N260 Nq264
          obtain rfl := hR264
          refine Gets.tr st264 ?_
          show Gets p e below _ (T264.setTop (mkF m 169 #[.val (.int p1), .val (.int p2), .val (.int p3), .val (.int p4), .val (.int jz1), .val (.int (((p2.toUInt32 >>> ((1 : Int32) &&& 31).toUInt32).toInt32) &&& (3 : Int32))), .val .null, .val (.ref b3_165), .val .null, .val (.ref b240), .val (.ref b247), .val (.int (1 : Int32)), .val (.ref b1_260)] [(.int (0 : Int32))]))
          refine Gets.of (fun t k => XS.ifNo X264.here hx rfl (hb hby at_169) rfl ((if0 _ _).trans (teq (by decide : (0 : Int32) = (0 : Int32))).2) k) ?_
          show Gets p e below _ (T264.setTop (mkF m 172 #[.val (.int p1), .val (.int p2), .val (.int p3), .val (.int p4), .val (.int jz1), .val (.int (((p2.toUInt32 >>> ((1 : Int32) &&& 31).toUInt32).toInt32) &&& (3 : Int32))), .val .null, .val (.ref b3_165), .val .null, .val (.ref b240), .val (.ref b247), .val (.int (1 : Int32)), .val (.ref b1_260)] []))
          refine Gets.of (fun t k => XS.iconst X264.here hx rfl (hb hby at_172) k) ?_
          refine Gets.of (fun t k => XS.goto X264.here hx rfl (pc0 := 173) (pc' := 177) rfl (hb hby at_173) (by decide) (by decide) k) ?_
          show Gets p e below _ (T264.setTop (mkF m 177 #[.val (.int p1), .val (.int p2), .val (.int p3), .val (.int p4), .val (.int jz1), .val (.int (((p2.toUInt32 >>> ((1 : Int32) &&& 31).toUInt32).toInt32) &&& (3 : Int32))), .val .null, .val (.ref b3_165), .val .null, .val (.ref b240), .val (.ref b247), .val (.int (1 : Int32)), .val (.ref b1_260)] [(.int (1 : Int32))]))
          refine Gets.of (fun t k => XS.istore X264.here hx rfl (hb hby at_177) rfl (l' := #[.val (.int p1), .val (.int p2), .val (.int p3), .val (.int p4), .val (.int jz1), .val (.int (((p2.toUInt32 >>> ((1 : Int32) &&& 31).toUInt32).toInt32) &&& (3 : Int32))), .val .null, .val (.ref b3_165), .val .null, .val (.ref b240), .val (.ref b247), .val (.int (1 : Int32)), .val (.ref b1_260)]) rfl k) ?_
          show Gets p e below _ (T264.setTop (mkF m 179 #[.val (.int p1), .val (.int p2), .val (.int p3), .val (.int p4), .val (.int jz1), .val (.int (((p2.toUInt32 >>> ((1 : Int32) &&& 31).toUInt32).toInt32) &&& (3 : Int32))), .val .null, .val (.ref b3_165), .val .null, .val (.ref b240), .val (.ref b247), .val (.int (1 : Int32)), .val (.ref b1_260)] []))
          refine Gets.of (fun t k => XS.iload X264.here hx rfl (hb hby at_179) rfl  k) ?_
          refine Gets.of (fun t k => XS.ifYes X264.here hx rfl (pc0 := 181) (pc' := 210) rfl (hb hby at_181) rfl ((if0 _ _).trans (feq hc2).2) (by decide) (by decide) k) ?_
          show Gets p e below _ (T264.setTop (mkF m 210 #[.val (.int p1), .val (.int p2), .val (.int p3), .val (.int p4), .val (.int jz1), .val (.int (((p2.toUInt32 >>> ((1 : Int32) &&& 31).toUInt32).toInt32) &&& (3 : Int32))), .val .null, .val (.ref b3_165), .val .null, .val (.ref b240), .val (.ref b247), .val (.int (1 : Int32)), .val (.ref b1_260)] []))
          refine Gets.of (fun t k => XS.iload X264.here hx rfl (hb hby at_210) rfl  k) ?_
          refine GetsW.retN X264 hx (t := .boolean) Bd.returns (by simp) (hb hby at_212) hS0 (eq264 ▸ hk263) ?_ (by decide) (by decide)
          rw [eq264]
          exact ⟨N264, K262, rfl⟩
        · skip
          refine Gets.of (fun t k => XS.ifNo X243.here hx rfl (hb hby at_83) rfl ((if0 _ _).trans (feq hc246).1) k) ?_
          show Gets p e below _ (T243.setTop (mkF m 86 #[.val (.int p1), .val (.int p2), .val (.int p3), .val (.int p4), .val (.int jz1), .val (.int (((p2.toUInt32 >>> ((1 : Int32) &&& 31).toUInt32).toInt32) &&& (3 : Int32))), .val .null, .val (.ref b3_165), .val .null, .val (.ref b240), .unset, .unset, .unset] []))
          refine Gets.of (fun t k => XS.aload X243.here hx rfl (hb hby at_86) rfl rfl  k) ?_
          obtain ⟨T265, h265, X265, e265, E265, A265, D265, -, st265⟩ := newO X243 hx hZ hown (w133 hw) (w134 hw) (w135 hw) rfl (g := (mkF m 88 #[.val (.int p1), .val (.int p2), .val (.int p3), .val (.int p4), .val (.int jz1), .val (.int (((p2.toUInt32 >>> ((1 : Int32) &&& 31).toUInt32).toInt32) &&& (3 : Int32))), .val .null, .val (.ref b3_165), .val .null, .val (.ref b240), .unset, .unset, .unset] [(.ref b240)])) rfl (hb hby at_88) (by decide) (by decide)
          obtain ⟨b265, g265⟩ : ∃ z, z = T243.heap.size := ⟨_, rfl⟩
          rw [← g265] at A265 D265 st265
          have up266 := Kq243.1
          have sz_b265 : h0.size ≤ b265 := Nat.le_trans K244.1 (Nat.le_of_eq g265.symm)
          have g_b265 : n0 ≤ b265 := Nat.le_trans Z0 sz_b265
          have Hc267 := CHv.ext E265 Hc244
          have K267 := K244.ext E265
          have O267 := O244.ext E265
          have hk268 := Nat.le_trans hk245 E265.1
          have F265_147 : Fld Z h265 b265 cn5 "element" cn18 .null := D265 (Or.inr (w147 hw)) (ty := (.object cn17)) (by decide)
          have F265_149 : Fld Z h265 b265 cn5 "value" cn4 .null := D265 (Or.inr (w149 hw)) (ty := (.object cn0)) (by decide)
          have F265_151 : Fld Z h265 b265 cn5 "language" cn4 .null := D265 (Or.inr (w151 hw)) (ty := (.object cn0)) (by decide)
          refine Gets.of st265 ?_
          show Gets p e below _ (T265.setTop (mkF m 91 #[.val (.int p1), .val (.int p2), .val (.int p3), .val (.int p4), .val (.int jz1), .val (.int (((p2.toUInt32 >>> ((1 : Int32) &&& 31).toUInt32).toInt32) &&& (3 : Int32))), .val .null, .val (.ref b3_165), .val .null, .val (.ref b240), .unset, .unset, .unset] [(.ref b265), (.ref b240)]))
          refine Gets.of (fun t k => XS.dup X265.here hx rfl (hb hby at_91) rfl rfl k) ?_
          obtain ⟨T269, X269, e269, st269⟩ := getS2 X265 hx hZ hown (host := "") (Or.inl (w136 hw)) Via.refl e265 (oS28.ext O267.2) (g := (mkF m 92 #[.val (.int p1), .val (.int p2), .val (.int p3), .val (.int p4), .val (.int jz1), .val (.int (((p2.toUInt32 >>> ((1 : Int32) &&& 31).toUInt32).toInt32) &&& (3 : Int32))), .val .null, .val (.ref b3_165), .val .null, .val (.ref b240), .unset, .unset, .unset] [(.ref b265), (.ref b265), (.ref b240)])) rfl (hb hby at_92)
          refine Gets.of st269 ?_
          show Gets p e below _ (T269.setTop (mkF m 95 #[.val (.int p1), .val (.int p2), .val (.int p3), .val (.int p4), .val (.int jz1), .val (.int (((p2.toUInt32 >>> ((1 : Int32) &&& 31).toUInt32).toInt32) &&& (3 : Int32))), .val .null, .val (.ref b3_165), .val .null, .val (.ref b240), .unset, .unset, .unset] [(.ref ov26), (.ref b265), (.ref b265), (.ref b240)]))
          refine Gets.of (fun t k => XS.aload X269.here hx rfl (hb hby at_95) rfl rfl  k) ?_
          obtain ⟨_, _, ⟨T270, L270, k270, n270⟩, -, X270, ⟨Lc270, hQ270, l270, y270, z270⟩, st270⟩ := X269.specialBack hx (y := (⟨cn5, "<init>", cn24⟩ : MethodName)) rfl hown (mvT hZ (w139 hw)) (mvT hZ (w140 hw)) (mvT hZ (w141 hw)) (by decide) (backOf (W := 2) (r38_init l Z a0 hw [] b265 (.ref ov26) (.ref b3_165) h265 n0 O267 A265 F265_147 F265_149 F265_151 g_b265 rfl rfl) hZ (w141 hw) (w135 hw) (by decide) (by decide)) (g := (mkF m 97 #[.val (.int p1), .val (.int p2), .val (.int p3), .val (.int p4), .val (.int jz1), .val (.int (((p2.toUInt32 >>> ((1 : Int32) &&& 31).toUInt32).toInt32) &&& (3 : Int32))), .val .null, .val (.ref b3_165), .val .null, .val (.ref b240), .unset, .unset, .unset] [(.ref b3_165), (.ref ov26), (.ref b265), (.ref b265), (.ref b240)])) rfl (by rw [hml]; rfl) (Steps.refl _) (a := b265) (argsL := [(.ref ov26), (.ref b3_165)]) (rest := [(.ref b265), (.ref b240)]) (lenOf pd__Lcom_example_causeway_causeway_formats_DcElement_Ljava_lang_String_V rfl) rfl (by show 2 * 0 + _ ≤ _; exact Nat.le_of_eq rfl) (hb hby at_97) (fun _ _ => ⟨rfl, e269, (by decide : 4 + 0 ≤ _), (by decide : 11 + 0 ≤ _)⟩)
          dsimp only [Pt.U, Pt.locs, Pt.cells, Pt.slots] at X270 l270 y270 z270 st270 hQ270
          subst l270 y270 z270
          obtain ⟨Nq270, Kq270, hR270⟩ := hQ270
          have N270 := Fr.app N243 Nq270
          have Hc271 := CHv.keep Kq270 (sfS (Safe.exa hZ.alike A265 (by decide) (by decide)) sf0) Hc267
          have K271 : Keep h0 _ [] := K267.trans Kq270 (allS (Or.inr sz_b265) all0)
          have O271 := O267.keep Kq270 (allS g_b265 all0)
          have hk272 := Nat.le_trans hk268 Kq270.1
          obtain ⟨rfl, bf270_0, bf270_1, bf270_2⟩ := hR270
          refine Gets.tr st270 ?_
          show Gets p e below _ (T270.setTop (mkF m 100 #[.val (.int p1), .val (.int p2), .val (.int p3), .val (.int p4), .val (.int jz1), .val (.int (((p2.toUInt32 >>> ((1 : Int32) &&& 31).toUInt32).toInt32) &&& (3 : Int32))), .val .null, .val (.ref b3_165), .val .null, .val (.ref b240), .unset, .unset, .unset] [(.ref b265), (.ref b240)]))
          have f273 : Fld Z T270.heap b240 cn10 "modCount" "I" (.int (0 : Int32)) := ((bf243_0.ext E265).keep Kq270 (ninS (Nat.ne_of_lt (Nat.lt_of_lt_of_le (Nat.lt_of_lt_of_le A240.lt up266) (Nat.le_of_eq g265.symm))) nin0))
          have f274 : Exa Z T270.heap b240 cn2 := (((A240.keep Kq243).ext E265).keep Kq270)
          have f275 : Fld Z T270.heap b240 cn2 "elementData" cn6 (.ref ov5) := ((bf243_1.ext E265).keep Kq270 (ninS (Nat.ne_of_lt (Nat.lt_of_lt_of_le (Nat.lt_of_lt_of_le A240.lt up266) (Nat.le_of_eq g265.symm))) nin0))
          have f276 : Fld Z T270.heap b240 cn2 "size" "I" (.int (0 : Int32)) := ((bf243_2.ext E265).keep Kq270 (ninS (Nat.ne_of_lt (Nat.lt_of_lt_of_le (Nat.lt_of_lt_of_le A240.lt up266) (Nat.le_of_eq g265.symm))) nin0))
          have f277 : Exa Z T270.heap b265 cn5 := (A265.keep Kq270)
          obtain ⟨cq278, kq278, q278a, q278b, q278c⟩ := isOf hZ rfl f274
          obtain ⟨_, _, ⟨T278, L278, k278, n278⟩, -, X278, ⟨Lc278, hQ278, l278, y278, z278⟩, st278⟩ := X270.virtualBack hx (y := (⟨cn2, "add", "(Ljava/lang/Object;)Z"⟩ : MethodName)) (z := (⟨cn2, "add", "(Ljava/lang/Object;)Z"⟩ : MethodName)) hown (mvT hZ (w152 hw)) (mvT hZ (w153 hw)) (notFace_of_selects (args := #[]) (mvT hZ (w155 hw))) (mvT hZ (w155 hw)) (mvT hZ (w154 hw)) (by decide) (backOf (W := 0) (r40_add l Z a0 hw [] b240 b265 ov5 ok31 T270.heap n0 O271 f273 f274 f275 f276 f277 oV30 oS7 g_b240) hZ (w156 hw) (w28 hw) (by decide) (by decide)) q278a q278c (g := (mkF m 100 #[.val (.int p1), .val (.int p2), .val (.int p3), .val (.int p4), .val (.int jz1), .val (.int (((p2.toUInt32 >>> ((1 : Int32) &&& 31).toUInt32).toInt32) &&& (3 : Int32))), .val .null, .val (.ref b3_165), .val .null, .val (.ref b240), .unset, .unset, .unset] [(.ref b265), (.ref b240)])) rfl (by rw [hml]; rfl) (Steps.refl _) (argsL := [(.ref b265)]) (rest := []) (lenOf pd__Ljava_lang_Object_Z rfl) rfl (by show 2 * 0 + _ ≤ _; exact Nat.le_of_eq rfl) (hb hby at_100) (fun _ _ => ⟨rfl, rfl, (by decide : 4 + 1 ≤ _), (by decide : 11 + 10 ≤ _)⟩)
          dsimp only [Pt.U, Pt.locs, Pt.cells, Pt.slots] at X278 l278 y278 z278 st278 hQ278
          subst l278 y278 z278
          obtain ⟨Nq278, Kq278, hR278⟩ := hQ278
          have N278 := Fr.app N270 Nq278
          have up279 := Kq270.1
          have Hc280 := CHv.keep Kq278 (sfS (Safe.exa hZ.alike f274 (by decide) (by decide)) sf0) Hc271
          have K280 : Keep h0 _ [] := K271.trans Kq278 (allS (Or.inr sz_b240) all0)
          have O280 := O271.keep Kq278 (allS g_b240 all0)
          have hk281 := Nat.le_trans hk272 Kq278.1
          obtain ⟨b6_2_2_10_278, k6_2_2_10_278, rfl, bz278_0, bf278_0, bf278_1, bf278_2, bf278_3, bf278_4, bf278_5⟩ := hR278
          have sz_b6_2_2_10_278 : h0.size ≤ b6_2_2_10_278 := Nat.le_trans K271.1 bz278_0
          have g_b6_2_2_10_278 : n0 ≤ b6_2_2_10_278 := Nat.le_trans Z0 sz_b6_2_2_10_278
          refine Gets.tr st278 ?_
          show Gets p e below _ (T278.setTop (mkF m 103 #[.val (.int p1), .val (.int p2), .val (.int p3), .val (.int p4), .val (.int jz1), .val (.int (((p2.toUInt32 >>> ((1 : Int32) &&& 31).toUInt32).toInt32) &&& (3 : Int32))), .val .null, .val (.ref b3_165), .val .null, .val (.ref b240), .unset, .unset, .unset] [(.int (1 : Int32))]))
          refine Gets.of (fun t k => XS.pop X278.here hx rfl (hb hby at_103) rfl rfl k) ?_
          show Gets p e below _ (T278.setTop (mkF m 104 #[.val (.int p1), .val (.int p2), .val (.int p3), .val (.int p4), .val (.int jz1), .val (.int (((p2.toUInt32 >>> ((1 : Int32) &&& 31).toUInt32).toInt32) &&& (3 : Int32))), .val .null, .val (.ref b3_165), .val .null, .val (.ref b240), .unset, .unset, .unset] []))
          obtain ⟨T282, h282, X282, e282, E282, A282, D282, -, st282⟩ := newO X278 hx hZ hown (w50 hw) (w51 hw) (w52 hw) rfl (g := (mkF m 104 #[.val (.int p1), .val (.int p2), .val (.int p3), .val (.int p4), .val (.int jz1), .val (.int (((p2.toUInt32 >>> ((1 : Int32) &&& 31).toUInt32).toInt32) &&& (3 : Int32))), .val .null, .val (.ref b3_165), .val .null, .val (.ref b240), .unset, .unset, .unset] [])) rfl (hb hby at_104) (by decide) (by decide)
          obtain ⟨b282, g282⟩ : ∃ z, z = T278.heap.size := ⟨_, rfl⟩
          rw [← g282] at A282 D282 st282
          have sz_b282 : h0.size ≤ b282 := Nat.le_trans K280.1 (Nat.le_of_eq g282.symm)
          have g_b282 : n0 ≤ b282 := Nat.le_trans Z0 sz_b282
          have Hc283 := CHv.ext E282 Hc280
          have K283 := K280.ext E282
          have O283 := O280.ext E282
          have hk284 := Nat.le_trans hk281 E282.1
          have F282_92 : Fld Z h282 b282 cn1 "number" "I" (.int (0 : Int32)) := D282 (Or.inr (w92 hw)) (ty := .int) (by decide)
          have F282_94 : Fld Z h282 b282 cn1 "location" cn4 .null := D282 (Or.inr (w94 hw)) (ty := (.object cn0)) (by decide)
          have F282_96 : Fld Z h282 b282 cn1 "source" cn4 .null := D282 (Or.inr (w96 hw)) (ty := (.object cn0)) (by decide)
          have F282_98 : Fld Z h282 b282 cn1 "values" cn12 .null := D282 (Or.inr (w98 hw)) (ty := (.object "java/util/List")) (by decide)
          have F282_100 : Fld Z h282 b282 cn1 "problem" cn4 .null := D282 (Or.inr (w100 hw)) (ty := (.object cn0)) (by decide)
          refine Gets.of st282 ?_
          show Gets p e below _ (T282.setTop (mkF m 107 #[.val (.int p1), .val (.int p2), .val (.int p3), .val (.int p4), .val (.int jz1), .val (.int (((p2.toUInt32 >>> ((1 : Int32) &&& 31).toUInt32).toInt32) &&& (3 : Int32))), .val .null, .val (.ref b3_165), .val .null, .val (.ref b240), .unset, .unset, .unset] [(.ref b282)]))
          refine Gets.of (fun t k => XS.dup X282.here hx rfl (hb hby at_107) rfl rfl k) ?_
          refine Gets.of (fun t k => XS.iloadN X282.here hx rfl (hb hby at_108) rfl  k) ?_
          refine Gets.of (fun t k => XS.aload X282.here hx rfl (hb hby at_109) rfl rfl  k) ?_
          refine Gets.of (fun t k => XS.aload X282.here hx rfl (hb hby at_111) rfl rfl  k) ?_
          show Gets p e below _ (T282.setTop (mkF m 113 #[.val (.int p1), .val (.int p2), .val (.int p3), .val (.int p4), .val (.int jz1), .val (.int (((p2.toUInt32 >>> ((1 : Int32) &&& 31).toUInt32).toInt32) &&& (3 : Int32))), .val .null, .val (.ref b3_165), .val .null, .val (.ref b240), .unset, .unset, .unset] [.null, (.ref b3_165), (.int p1), (.ref b282), (.ref b282)]))
          refine Gets.of (fun t k => XS.aload X282.here hx rfl (hb hby at_113) rfl rfl  k) ?_
          refine Gets.of (fun t k => XS.aload X282.here hx rfl (hb hby at_115) rfl rfl  k) ?_
          have f285 : Exa Z h282 b240 cn2 := ((f274.keep Kq278).ext E282)
          have f286 : Fld Z h282 b240 cn2 "size" "I" (.int (1 : Int32)) := (bf278_1.ext E282)
          have f287 : Ovr Z k6_2_2_10_278 cn3 := bf278_5
          have f288 : Fld Z h282 b240 cn2 "elementData" cn6 (.ref b6_2_2_10_278) := (bf278_0.ext E282)
          have f289 : Exa Z h282 b6_2_2_10_278 cn6 := (bf278_4.ext E282)
          have f290 : Arv Z h282 b6_2_2_10_278 k6_2_2_10_278 (.object cn3) (10 : Int32) [(.ref b265), .null, .null, .null, .null, .null, .null, .null, .null, .null] .null := (bf278_3.ext E282)
          have f291 : Exa Z h282 b265 cn5 := ((f277.keep Kq278).ext E282)
          obtain ⟨_, _, ⟨T292, L292, k292, n292⟩, -, X292, ⟨Lc292, hQ292, l292, y292, z292⟩, st292⟩ := X282.specialBack hx (y := (⟨cn1, "<init>", cn16⟩ : MethodName)) rfl hown (mvT hZ (w53 hw)) (mvT hZ (w54 hw)) (mvT hZ (w55 hw)) (by decide) (backOf (W := 1) (r45_init l Z a0 hw [] b282 p1 (.ref b3_165) .null b240 .null k6_2_2_10_278 ymir b6_2_2_10_278 b265 ov20 h282 n0 O283 f285 f286 f287 f288 f289 f290 f291 A282 F282_92 F282_94 F282_96 F282_98 F282_100 oS22 g_b282 hmir rfl rfl rfl) hZ (w55 hw) (w52 hw) (by decide) (by decide)) (g := (mkF m 117 #[.val (.int p1), .val (.int p2), .val (.int p3), .val (.int p4), .val (.int jz1), .val (.int (((p2.toUInt32 >>> ((1 : Int32) &&& 31).toUInt32).toInt32) &&& (3 : Int32))), .val .null, .val (.ref b3_165), .val .null, .val (.ref b240), .unset, .unset, .unset] [.null, (.ref b240), .null, (.ref b3_165), (.int p1), (.ref b282), (.ref b282)])) rfl (by rw [hml]; rfl) (Steps.refl _) (a := b282) (argsL := [(.int p1), (.ref b3_165), .null, (.ref b240), .null]) (rest := [(.ref b282)]) (lenOf pd__ILjava_lang_String_Ljava_lang_String_Ljava_util_List_Ljava_lang_String_V rfl) rfl (by show 2 * 0 + _ ≤ _; exact Nat.le_of_eq rfl) (hb hby at_117) (fun _ _ => ⟨rfl, e282, (by decide : 6 + 2 ≤ _), (by decide : 26 + 3 ≤ _)⟩)
          dsimp only [Pt.U, Pt.locs, Pt.cells, Pt.slots] at X292 l292 y292 z292 st292 hQ292
          subst l292 y292 z292
          obtain ⟨Nq292, Kq292, hR292⟩ := hQ292
          have N292 := Fr.app N278 Nq292
          have Hc293 := CHv.keep Kq292 (sfS (Safe.exa hZ.alike A282 (by decide) (by decide)) sf0) Hc283
          have K293 : Keep h0 _ [] := K283.trans Kq292 (allS (Or.inr sz_b282) all0)
          have O293 := O283.keep Kq292 (allS g_b282 all0)
          have hk294 := Nat.le_trans hk284 Kq292.1
          obtain ⟨b2_6_1_2_292, rfl, bz292_0, bf292_0, bf292_1, bf292_2, bf292_3, bf292_4, bf292_5, bf292_6, bf292_7⟩ := hR292
          have sz_b2_6_1_2_292 : h0.size ≤ b2_6_1_2_292 := Nat.le_trans K283.1 bz292_0
          have g_b2_6_1_2_292 : n0 ≤ b2_6_1_2_292 := Nat.le_trans Z0 sz_b2_6_1_2_292
          refine Gets.tr st292 ?_
          show Gets p e below _ (T292.setTop (mkF m 120 #[.val (.int p1), .val (.int p2), .val (.int p3), .val (.int p4), .val (.int jz1), .val (.int (((p2.toUInt32 >>> ((1 : Int32) &&& 31).toUInt32).toInt32) &&& (3 : Int32))), .val .null, .val (.ref b3_165), .val .null, .val (.ref b240), .unset, .unset, .unset] [(.ref b282)]))
          refine Gets.of (fun t k => XS.astore X292.here hx rfl (hb hby at_120) rfl rfl (l' := #[.val (.int p1), .val (.int p2), .val (.int p3), .val (.int p4), .val (.int jz1), .val (.int (((p2.toUInt32 >>> ((1 : Int32) &&& 31).toUInt32).toInt32) &&& (3 : Int32))), .val .null, .val (.ref b3_165), .val .null, .val (.ref b240), .val (.ref b282), .unset, .unset]) rfl k) ?_
          show Gets p e below _ (T292.setTop (mkF m 122 #[.val (.int p1), .val (.int p2), .val (.int p3), .val (.int p4), .val (.int jz1), .val (.int (((p2.toUInt32 >>> ((1 : Int32) &&& 31).toUInt32).toInt32) &&& (3 : Int32))), .val .null, .val (.ref b3_165), .val .null, .val (.ref b240), .val (.ref b282), .unset, .unset] []))
          refine Gets.of (fun t k => XS.aload X292.here hx rfl (hb hby at_122) rfl rfl  k) ?_
          have f296 : Exa Z T292.heap b282 cn1 := (A282.keep Kq292)
          obtain ⟨cq295, kq295, q295a, q295b, q295c⟩ := isOf hZ rfl f296
          obtain ⟨_, _, ⟨T295, L295, k295, n295⟩, -, X295, ⟨Lc295, hQ295, l295, y295, z295⟩, st295⟩ := X292.virtualBack hx (y := (⟨cn1, "isSetAside", "()Z"⟩ : MethodName)) (z := (⟨cn1, "isSetAside", "()Z"⟩ : MethodName)) hown (mvT hZ (w101 hw)) (mvT hZ (w102 hw)) (notFace_of_selects (args := #[]) (mvT hZ (w104 hw))) (mvT hZ (w104 hw)) (mvT hZ (w103 hw)) (by decide) (backOf (W := 0) (r33_isSetAside l Z a0 hw [] b282 T292.heap n0 O293 bf292_4) hZ (w105 hw) (w52 hw) (by decide) (by decide)) q295a q295c (g := (mkF m 124 #[.val (.int p1), .val (.int p2), .val (.int p3), .val (.int p4), .val (.int jz1), .val (.int (((p2.toUInt32 >>> ((1 : Int32) &&& 31).toUInt32).toInt32) &&& (3 : Int32))), .val .null, .val (.ref b3_165), .val .null, .val (.ref b240), .val (.ref b282), .unset, .unset] [(.ref b282)])) rfl (by rw [hml]; rfl) (Steps.refl _) (argsL := []) (rest := []) (lenOf pd__Z rfl) rfl (by show 2 * 0 + _ ≤ _; exact Nat.le_of_eq rfl) (hb hby at_124) (fun _ _ => ⟨rfl, rfl, (by decide : 8 + 0 ≤ _), (by decide : 29 + 0 ≤ _)⟩)
          dsimp only [Pt.U, Pt.locs, Pt.cells, Pt.slots] at X295 l295 y295 z295 st295 hQ295
          subst l295 y295 z295
          obtain ⟨Nq295, eq295, hR295⟩ := hQ295
          have N295 := Fr.app N292 Nq295
          obtain rfl := hR295
          refine Gets.tr st295 ?_
          show Gets p e below _ (T295.setTop (mkF m 127 #[.val (.int p1), .val (.int p2), .val (.int p3), .val (.int p4), .val (.int jz1), .val (.int (((p2.toUInt32 >>> ((1 : Int32) &&& 31).toUInt32).toInt32) &&& (3 : Int32))), .val .null, .val (.ref b3_165), .val .null, .val (.ref b240), .val (.ref b282), .unset, .unset] [(.int (0 : Int32))]))
          refine Gets.of (fun t k => XS.iload X295.here hx rfl (hb hby at_127) rfl  k) ?_
          refine Gets.of (fun t k => XS.ifYes X295.here hx rfl (pc0 := 129) (pc' := 136) rfl (hb hby at_129) rfl ((if0 _ _).trans (feq hc2).2) (by decide) (by decide) k) ?_
          show Gets p e below _ (T295.setTop (mkF m 136 #[.val (.int p1), .val (.int p2), .val (.int p3), .val (.int p4), .val (.int jz1), .val (.int (((p2.toUInt32 >>> ((1 : Int32) &&& 31).toUInt32).toInt32) &&& (3 : Int32))), .val .null, .val (.ref b3_165), .val .null, .val (.ref b240), .val (.ref b282), .unset, .unset] [(.int (0 : Int32))]))
          refine Gets.of (fun t k => XS.iconst X295.here hx rfl (hb hby at_136) k) ?_
          refine Gets.of (fun t k => XS.icmpNo X295.here hx rfl (hb hby at_137) rfl (teq (by decide : (0 : Int32) = (0 : Int32))).2 k) ?_
          show Gets p e below _ (T295.setTop (mkF m 140 #[.val (.int p1), .val (.int p2), .val (.int p3), .val (.int p4), .val (.int jz1), .val (.int (((p2.toUInt32 >>> ((1 : Int32) &&& 31).toUInt32).toInt32) &&& (3 : Int32))), .val .null, .val (.ref b3_165), .val .null, .val (.ref b240), .val (.ref b282), .unset, .unset] []))
          refine Gets.of (fun t k => XS.iconst X295.here hx rfl (hb hby at_140) k) ?_
          refine Gets.of (fun t k => XS.goto X295.here hx rfl (pc0 := 141) (pc' := 145) rfl (hb hby at_141) (by decide) (by decide) k) ?_
          show Gets p e below _ (T295.setTop (mkF m 145 #[.val (.int p1), .val (.int p2), .val (.int p3), .val (.int p4), .val (.int jz1), .val (.int (((p2.toUInt32 >>> ((1 : Int32) &&& 31).toUInt32).toInt32) &&& (3 : Int32))), .val .null, .val (.ref b3_165), .val .null, .val (.ref b240), .val (.ref b282), .unset, .unset] [(.int (1 : Int32))]))
          refine Gets.of (fun t k => XS.istore X295.here hx rfl (hb hby at_145) rfl (l' := #[.val (.int p1), .val (.int p2), .val (.int p3), .val (.int p4), .val (.int jz1), .val (.int (((p2.toUInt32 >>> ((1 : Int32) &&& 31).toUInt32).toInt32) &&& (3 : Int32))), .val .null, .val (.ref b3_165), .val .null, .val (.ref b240), .val (.ref b282), .val (.int (1 : Int32)), .unset]) rfl k) ?_
          show Gets p e below _ (T295.setTop (mkF m 147 #[.val (.int p1), .val (.int p2), .val (.int p3), .val (.int p4), .val (.int jz1), .val (.int (((p2.toUInt32 >>> ((1 : Int32) &&& 31).toUInt32).toInt32) &&& (3 : Int32))), .val .null, .val (.ref b3_165), .val .null, .val (.ref b240), .val (.ref b282), .val (.int (1 : Int32)), .unset] []))
          refine Gets.of (fun t k => XS.iloadN X295.here hx rfl (hb hby at_147) rfl  k) ?_
          refine Gets.of (fun t k => XS.aload X295.here hx rfl (hb hby at_148) rfl rfl  k) ?_
          refine Gets.of (fun t k => XS.aload X295.here hx rfl (hb hby at_150) rfl rfl  k) ?_
          refine Gets.of (fun t k => XS.aload X295.here hx rfl (hb hby at_152) rfl rfl  k) ?_
          show Gets p e below _ (T295.setTop (mkF m 154 #[.val (.int p1), .val (.int p2), .val (.int p3), .val (.int p4), .val (.int jz1), .val (.int (((p2.toUInt32 >>> ((1 : Int32) &&& 31).toUInt32).toInt32) &&& (3 : Int32))), .val .null, .val (.ref b3_165), .val .null, .val (.ref b240), .val (.ref b282), .val (.int (1 : Int32)), .unset] [(.ref b240), .null, (.ref b3_165), (.int p1)]))
          have f297 : Exa Z T292.heap b240 cn2 := (f285.keep Kq292)
          have f298 : Fld Z T292.heap b240 cn2 "size" "I" (.int (1 : Int32)) := (f286.keep Kq292 (ninS (Nat.ne_of_lt (Nat.lt_of_lt_of_le (Nat.lt_of_lt_of_le (Nat.lt_of_lt_of_le (Nat.lt_of_lt_of_le (Nat.lt_of_lt_of_le A240.lt up266) E265.1) up279) Kq278.1) (Nat.le_of_eq g282.symm))) nin0))
          have f299 : Fld Z T292.heap b240 cn2 "elementData" cn6 (.ref b6_2_2_10_278) := (f288.keep Kq292 (ninS (Nat.ne_of_lt (Nat.lt_of_lt_of_le (Nat.lt_of_lt_of_le (Nat.lt_of_lt_of_le (Nat.lt_of_lt_of_le (Nat.lt_of_lt_of_le A240.lt up266) E265.1) up279) Kq278.1) (Nat.le_of_eq g282.symm))) nin0))
          have f300 : Exa Z T292.heap b6_2_2_10_278 cn6 := (f289.keep Kq292)
          have f301 : Arv Z T292.heap b6_2_2_10_278 k6_2_2_10_278 (.object cn3) (10 : Int32) [(.ref b265), .null, .null, .null, .null, .null, .null, .null, .null, .null] .null := (f290.keep Kq292 (ninS (Nat.ne_of_lt (Nat.lt_of_lt_of_le bf278_3.lt (Nat.le_of_eq g282.symm))) nin0))
          have f302 : Exa Z T292.heap b265 cn5 := (f291.keep Kq292)
          have f303 : Ovr Z k6_2_2_10_278 cn3 := f287
          obtain ⟨_, _, ⟨T304, L304, k304, n304⟩, -, X304, ⟨Lc304, hQ304, l304, y304, z304⟩, st304⟩ := Jvm.LawKit.callS X295 hx (y := (⟨cn1, "read", cn20⟩ : MethodName)) hown (mvT hZ (w106 hw)) (mvT hZ (w107 hw)) (mvT hZ (w52 hw)) (mvT hZ (w108 hw)) (by decide) (backOf (W := 0) (r58_read l Z a0 hw [] p1 (.ref b3_165) .null b240 b6_2_2_10_278 k6_2_2_10_278 b265 ymir ov20 T292.heap n0 O293 f297 f298 f299 f300 f301 f302 f303 oS22 rfl rfl hmir) hZ (w108 hw) (w52 hw) (by decide) (by decide)) (g := (mkF m 154 #[.val (.int p1), .val (.int p2), .val (.int p3), .val (.int p4), .val (.int jz1), .val (.int (((p2.toUInt32 >>> ((1 : Int32) &&& 31).toUInt32).toInt32) &&& (3 : Int32))), .val .null, .val (.ref b3_165), .val .null, .val (.ref b240), .val (.ref b282), .val (.int (1 : Int32)), .unset] [(.ref b240), .null, (.ref b3_165), (.int p1)])) rfl (by rw [hml]; rfl) (argsL := [(.int p1), (.ref b3_165), .null, (.ref b240)]) (rest := []) (lenOf pd__ILjava_lang_String_Ljava_lang_String_Ljava_util_List_Lcom_example_causeway_causeway_formats_OaiDcUnit_ rfl) rfl (by show 2 * 0 + _ ≤ _; exact Nat.le_of_eq rfl) (hb hby at_154) (fun _ _ => ⟨rfl, eq295, (by decide : 8 + 3 ≤ _), (by decide : 29 + 8 ≤ _)⟩)
          dsimp only [Pt.U, Pt.locs, Pt.cells, Pt.slots] at X304 l304 y304 z304 st304 hQ304
          subst l304 y304 z304
          obtain ⟨Nq304, Kq304, hR304⟩ := hQ304
          have N304 := Fr.app N295 Nq304
          have Hc305 := CHv.keep Kq304 sf0 Hc293
          have K305 : Keep h0 _ [] := K293.trans Kq304 all0
          have O305 := O293.keep Kq304 all0
          have hk306 := Nat.le_trans hk294 Kq304.1
          obtain ⟨b1_304, b2_6_1_2_10_304, rfl, bz304_0, bz304_1, bn304_0, bf304_0, bf304_1, bf304_2, bf304_3, bf304_4, bf304_5, bf304_6, bf304_7, bf304_8⟩ := hR304
          have sz_b1_304 : h0.size ≤ b1_304 := Nat.le_trans K293.1 bz304_0
          have g_b1_304 : n0 ≤ b1_304 := Nat.le_trans Z0 sz_b1_304
          have sz_b2_6_1_2_10_304 : h0.size ≤ b2_6_1_2_10_304 := Nat.le_trans K293.1 bz304_1
          have g_b2_6_1_2_10_304 : n0 ≤ b2_6_1_2_10_304 := Nat.le_trans Z0 sz_b2_6_1_2_10_304
          refine Gets.of st304 ?_
          show Gets p e below _ (T304.setTop (mkF m 157 #[.val (.int p1), .val (.int p2), .val (.int p3), .val (.int p4), .val (.int jz1), .val (.int (((p2.toUInt32 >>> ((1 : Int32) &&& 31).toUInt32).toInt32) &&& (3 : Int32))), .val .null, .val (.ref b3_165), .val .null, .val (.ref b240), .val (.ref b282), .val (.int (1 : Int32)), .unset] [(.ref b1_304)]))
          refine Gets.of (fun t k => XS.astore X304.here hx rfl (hb hby at_157) rfl rfl (l' := #[.val (.int p1), .val (.int p2), .val (.int p3), .val (.int p4), .val (.int jz1), .val (.int (((p2.toUInt32 >>> ((1 : Int32) &&& 31).toUInt32).toInt32) &&& (3 : Int32))), .val .null, .val (.ref b3_165), .val .null, .val (.ref b240), .val (.ref b282), .val (.int (1 : Int32)), .val (.ref b1_304)]) rfl k) ?_
          show Gets p e below _ (T304.setTop (mkF m 159 #[.val (.int p1), .val (.int p2), .val (.int p3), .val (.int p4), .val (.int jz1), .val (.int (((p2.toUInt32 >>> ((1 : Int32) &&& 31).toUInt32).toInt32) &&& (3 : Int32))), .val .null, .val (.ref b3_165), .val .null, .val (.ref b240), .val (.ref b282), .val (.int (1 : Int32)), .val (.ref b1_304)] []))
          refine Gets.of (fun t k => XS.iload X304.here hx rfl (hb hby at_159) rfl  k) ?_
          refine Gets.of (fun t k => XS.ifNo X304.here hx rfl (hb hby at_161) rfl ((if0 _ _).trans (feq (by decide : ¬ ((1 : Int32) = (0 : Int32)))).1) k) ?_
          show Gets p e below _ (T304.setTop (mkF m 164 #[.val (.int p1), .val (.int p2), .val (.int p3), .val (.int p4), .val (.int jz1), .val (.int (((p2.toUInt32 >>> ((1 : Int32) &&& 31).toUInt32).toInt32) &&& (3 : Int32))), .val .null, .val (.ref b3_165), .val .null, .val (.ref b240), .val (.ref b282), .val (.int (1 : Int32)), .val (.ref b1_304)] []))
          refine Gets.of (fun t k => XS.aload X304.here hx rfl (hb hby at_164) rfl rfl  k) ?_
          obtain ⟨cq307, kq307, q307a, q307b, q307c⟩ := isOf hZ rfl bf304_0
          obtain ⟨_, _, ⟨T307, L307, k307, n307⟩, -, X307, ⟨Lc307, hQ307, l307, y307, z307⟩, st307⟩ := X304.virtualBack hx (y := (⟨cn1, "isSetAside", "()Z"⟩ : MethodName)) (z := (⟨cn1, "isSetAside", "()Z"⟩ : MethodName)) hown (mvT hZ (w101 hw)) (mvT hZ (w102 hw)) (notFace_of_selects (args := #[]) (mvT hZ (w104 hw))) (mvT hZ (w104 hw)) (mvT hZ (w103 hw)) (by decide) (backOf (W := 0) (r33_isSetAside l Z a0 hw [] b1_304 T304.heap n0 O305 bf304_5) hZ (w105 hw) (w52 hw) (by decide) (by decide)) q307a q307c (g := (mkF m 166 #[.val (.int p1), .val (.int p2), .val (.int p3), .val (.int p4), .val (.int jz1), .val (.int (((p2.toUInt32 >>> ((1 : Int32) &&& 31).toUInt32).toInt32) &&& (3 : Int32))), .val .null, .val (.ref b3_165), .val .null, .val (.ref b240), .val (.ref b282), .val (.int (1 : Int32)), .val (.ref b1_304)] [(.ref b1_304)])) rfl (by rw [hml]; rfl) (Steps.refl _) (argsL := []) (rest := []) (lenOf pd__Z rfl) rfl (by show 2 * 0 + _ ≤ _; exact Nat.le_of_eq rfl) (hb hby at_166) (fun _ _ => ⟨rfl, rfl, (by decide : 11 + 0 ≤ _), (by decide : 37 + 0 ≤ _)⟩)
          dsimp only [Pt.U, Pt.locs, Pt.cells, Pt.slots] at X307 l307 y307 z307 st307 hQ307
          subst l307 y307 z307
          obtain ⟨Nq307, eq307, hR307⟩ := hQ307
          have N307 := Fr.app N304 Nq307
          obtain rfl := hR307
          refine Gets.tr st307 ?_
          show Gets p e below _ (T307.setTop (mkF m 169 #[.val (.int p1), .val (.int p2), .val (.int p3), .val (.int p4), .val (.int jz1), .val (.int (((p2.toUInt32 >>> ((1 : Int32) &&& 31).toUInt32).toInt32) &&& (3 : Int32))), .val .null, .val (.ref b3_165), .val .null, .val (.ref b240), .val (.ref b282), .val (.int (1 : Int32)), .val (.ref b1_304)] [(.int (0 : Int32))]))
          refine Gets.of (fun t k => XS.ifNo X307.here hx rfl (hb hby at_169) rfl ((if0 _ _).trans (teq (by decide : (0 : Int32) = (0 : Int32))).2) k) ?_
          show Gets p e below _ (T307.setTop (mkF m 172 #[.val (.int p1), .val (.int p2), .val (.int p3), .val (.int p4), .val (.int jz1), .val (.int (((p2.toUInt32 >>> ((1 : Int32) &&& 31).toUInt32).toInt32) &&& (3 : Int32))), .val .null, .val (.ref b3_165), .val .null, .val (.ref b240), .val (.ref b282), .val (.int (1 : Int32)), .val (.ref b1_304)] []))
          refine Gets.of (fun t k => XS.iconst X307.here hx rfl (hb hby at_172) k) ?_
          refine Gets.of (fun t k => XS.goto X307.here hx rfl (pc0 := 173) (pc' := 177) rfl (hb hby at_173) (by decide) (by decide) k) ?_
          show Gets p e below _ (T307.setTop (mkF m 177 #[.val (.int p1), .val (.int p2), .val (.int p3), .val (.int p4), .val (.int jz1), .val (.int (((p2.toUInt32 >>> ((1 : Int32) &&& 31).toUInt32).toInt32) &&& (3 : Int32))), .val .null, .val (.ref b3_165), .val .null, .val (.ref b240), .val (.ref b282), .val (.int (1 : Int32)), .val (.ref b1_304)] [(.int (1 : Int32))]))
          refine Gets.of (fun t k => XS.istore X307.here hx rfl (hb hby at_177) rfl (l' := #[.val (.int p1), .val (.int p2), .val (.int p3), .val (.int p4), .val (.int jz1), .val (.int (((p2.toUInt32 >>> ((1 : Int32) &&& 31).toUInt32).toInt32) &&& (3 : Int32))), .val .null, .val (.ref b3_165), .val .null, .val (.ref b240), .val (.ref b282), .val (.int (1 : Int32)), .val (.ref b1_304)]) rfl k) ?_
          show Gets p e below _ (T307.setTop (mkF m 179 #[.val (.int p1), .val (.int p2), .val (.int p3), .val (.int p4), .val (.int jz1), .val (.int (((p2.toUInt32 >>> ((1 : Int32) &&& 31).toUInt32).toInt32) &&& (3 : Int32))), .val .null, .val (.ref b3_165), .val .null, .val (.ref b240), .val (.ref b282), .val (.int (1 : Int32)), .val (.ref b1_304)] []))
          refine Gets.of (fun t k => XS.iload X307.here hx rfl (hb hby at_179) rfl  k) ?_
          refine Gets.of (fun t k => XS.ifYes X307.here hx rfl (pc0 := 181) (pc' := 210) rfl (hb hby at_181) rfl ((if0 _ _).trans (feq hc2).2) (by decide) (by decide) k) ?_
          show Gets p e below _ (T307.setTop (mkF m 210 #[.val (.int p1), .val (.int p2), .val (.int p3), .val (.int p4), .val (.int jz1), .val (.int (((p2.toUInt32 >>> ((1 : Int32) &&& 31).toUInt32).toInt32) &&& (3 : Int32))), .val .null, .val (.ref b3_165), .val .null, .val (.ref b240), .val (.ref b282), .val (.int (1 : Int32)), .val (.ref b1_304)] []))
          refine Gets.of (fun t k => XS.iload X307.here hx rfl (hb hby at_210) rfl  k) ?_
          refine GetsW.retN X307 hx (t := .boolean) Bd.returns (by simp) (hb hby at_212) hS0 (eq307 ▸ hk306) ?_ (by decide) (by decide)
          rw [eq307]
          exact ⟨N307, K305, rfl⟩
  by_cases hc308 : (p2 &&& (1 : Int32)) = (0 : Int32)
  · skip
    refine Gets.of (fun t k => XS.ifYes X0.here hx rfl (pc0 := 3) (pc' := 10) rfl (hb hby at_3) rfl ((if0 _ _).trans (teq hc308).1) (by decide) (by decide) k) ?_
    show Gets p e below _ (s₁.setTop (mkF m 10 #[.val (.int p1), .val (.int p2), .val (.int p3), .val (.int p4), .unset, .unset, .unset, .unset, .unset, .unset, .unset, .unset, .unset] []))
    refine Gets.of (fun t k => XS.iconst X0.here hx rfl (hb hby at_10) k) ?_
    exact J1 _ (Or.inl rfl)
  · skip
    refine Gets.of (fun t k => XS.ifNo X0.here hx rfl (hb hby at_3) rfl ((if0 _ _).trans (feq hc308).1) k) ?_
    show Gets p e below _ (s₁.setTop (mkF m 6 #[.val (.int p1), .val (.int p2), .val (.int p3), .val (.int p4), .unset, .unset, .unset, .unset, .unset, .unset, .unset, .unset, .unset] []))
    refine Gets.of (fun t k => XS.iconst X0.here hx rfl (hb hby at_6) k) ?_
    refine Gets.of (fun t k => XS.goto X0.here hx rfl (pc0 := 7) (pc' := 11) rfl (hb hby at_7) (by decide) (by decide) k) ?_
    show Gets p e below _ (s₁.setTop (mkF m 11 #[.val (.int p1), .val (.int p2), .val (.int p3), .val (.int p4), .unset, .unset, .unset, .unset, .unset, .unset, .unset, .unset, .unset] [(.int (1 : Int32))]))
    exact J1 _ (Or.inr rfl)
set_option maxRecDepth 65536 in
set_option maxHeartbeats 40000000 in
theorem comes_1 {Post : Tables → Env → Array Value → State → Outcome → State → Prop} (hpost : ∀ tb e args s v u, (limb_1_1.after args s (.returned v) u = true ∧ limb_1_2.after args s (.returned v) u = true ∧ True) → ReturnedEndW s (.returned v) u (Jvm.fieldLocs frame_1_writes args s ++ Jvm.arrayLocs frame_1_arrays args s ++ Jvm.staticLocs frame_1_statics s) 48 1216 → Post tb e args s (.returned v) u) :
    ArmFor flags0 classFile x code maxLocals ret World_1 tables_1 room_1 Calls_1 rest_1 Pre_1 Post := by
  intro l hfl _ _ p e ha hc hk s m args below hf hA hF happ hP
  obtain ⟨hcalls, hrest, hpre⟩ := hP
  obtain ⟨-, -, -, hnamed, -, -, -, hat⟩ := (Spec.applies_iff hf).mp happ
  obtain ⟨hg, hn⟩ := and_e (Cond.before_iff.mp (show (Jvm.Cond.and given_1 narrow_1).before args s = true from hpre))
  obtain ⟨hcount, hk0⟩ := and_e hg
  obtain ⟨hi0, hk1⟩ := and_e hk0
  obtain ⟨hi1, hk2⟩ := and_e hk1
  obtain ⟨hi2, hk3⟩ := and_e hk2
  have hi3 := hk3
  obtain ⟨w0, w1, w2, w3, rfl⟩ : ∃ w0 w1 w2 w3 : Value, args = #[w0, w1, w2, w3] := by
    have hs : args.size = 4 := by simpa [Cond.value, given_1] using hcount
    obtain ⟨L⟩ := args
    match L, hs with
    | [w0, w1, w2, w3], _ => exact ⟨w0, w1, w2, w3, rfl⟩
  have hw := fun d (hd : d ∈ tables_1) => atoms_spec (ws := Jvm.Cond.code x code maxLocals ret :: tables_1) hat d (List.mem_cons_of_mem _ hd)
  have hfit : Fit s := fun {y c} hc i hi => by
    obtain ⟨ha, rfl⟩ := Array.getElem?_eq_some_iff.mp hc
    have q := List.all_eq_true.mp ((Array.all_eq_true_iff_forall_mem.mp hF) _ (Array.getElem_mem ha)) i (List.mem_range.mpr hi)
    simpa [Array.getElem?_eq_getElem hi] using q
  obtain ⟨hsets, hown0⟩ := atoms_of _ (rest_1_c_eq ▸ (show rest_1_c.before _ s = true from hrest))
  obtain ⟨i0, ei0⟩ := is_v hi0
  obtain rfl : w0 = (.int i0) := Option.some.inj ei0
  obtain ⟨i1, ei1⟩ := is_v hi1
  obtain rfl : w1 = (.int i1) := Option.some.inj ei1
  obtain ⟨i2, ei2⟩ := is_v hi2
  obtain rfl : w2 = (.int i2) := Option.some.inj ei2
  obtain ⟨i3, ei3⟩ := is_v hi3
  obtain rfl : w3 = (.int i3) := Option.some.inj ei3
  obtain ⟨oi1, oe2⟩ := is_v (Cond.before_iff.mp (hsets _ (List.mem_of_getElem? (i := 1) rfl)))
  have oS3 : Sta s s.heap cn0 "COMPACT_STRINGS" "Z" (.int oi1) := Sta.start oe2 (Or.inl (hsets _ (List.mem_of_getElem? (i := 0) rfl)))
  have oh4 : ¬ (oi1 = (0 : Int32)) := by
    intro q
    have q2 := not_v (Cond.before_iff.mp (hsets _ (List.mem_of_getElem? (i := 2) rfl)))
    rw [eq_i oe2 (Term.int_eval (0)) (congrArg Value.int q)] at q2; cases q2
  obtain ⟨ov5, oe6⟩ := arr_v (Cond.before_iff.mp (hsets _ (List.mem_of_getElem? (i := 15) rfl)))
  have oS7 : Sta s s.heap cn2 "DEFAULTCAPACITY_EMPTY_ELEMENTDATA" cn6 (.ref ov5) := Sta.start oe6 (Or.inr ⟨(w28 hw), (hsets _ (List.mem_of_getElem? (i := 11) rfl))⟩)
  obtain ⟨oc8, oA9⟩ := Arr.start oe6 (Cond.before_iff.mp (hsets _ (List.mem_of_getElem? (i := 15) rfl)))
  have oE10 : Exa s s.heap ov5 cn6 := Exa.start oe6 (Cond.before_iff.mp (hsets _ (List.mem_of_getElem? (i := 16) rfl)))
  obtain ⟨oq12, oq13⟩ := own_len31 oe6 (oA9.fin (Vm.Alike.refl _)) (eqv_i (Term.int_eval (0)) (Cond.before_iff.mp (hsets _ (List.mem_of_getElem? (i := 17) rfl))))
  obtain ⟨ov14, oe15⟩ := exa_v (Cond.before_iff.mp (hsets _ (List.mem_of_getElem? (i := 20) rfl)))
  have oS16 : Sta s s.heap cn9 "EMPTY_LIST" "Ljava/util/ImmutableCollections$ListN;" (.ref ov14) := Sta.start oe15 (Or.inl (hsets _ (List.mem_of_getElem? (i := 19) rfl)))
  have oE17 : Exa s s.heap ov14 cn19 := Exa.start oe15 (Cond.before_iff.mp (hsets _ (List.mem_of_getElem? (i := 20) rfl)))
  have oe18 := eqv_i (Term.int_eval (0)) (Cond.before_iff.mp (hsets _ (List.mem_of_getElem? (i := 24) rfl)))
  have oF19 : Fld s s.heap ov14 cn19 "allowNulls" "Z" (.int (0 : Int32)) := Fld.start ((fld_at oe15).symm.trans oe18)
  obtain ⟨ov20, oe21⟩ := exa_v (Cond.before_iff.mp (hsets _ (List.mem_of_getElem? (i := 27) rfl)))
  have oS22 : Sta s s.heap cn9 "EMPTY" cn11 (.ref ov20) := Sta.start oe21 (Or.inl (hsets _ (List.mem_of_getElem? (i := 26) rfl)))
  have oE23 : Exa s s.heap ov20 cn3 := Exa.start oe21 (Cond.before_iff.mp (hsets _ (List.mem_of_getElem? (i := 27) rfl)))
  have oe24 := eqv_i (Term.int_eval (1)) (Cond.before_iff.mp (hsets _ (List.mem_of_getElem? (i := 30) rfl)))
  have oS25 : Sta s s.heap cn9 "$assertionsDisabled" "Z" (.int (1 : Int32)) := Sta.start oe24 (Or.inl (hsets _ (List.mem_of_getElem? (i := 29) rfl)))
  obtain ⟨ov26, oe27⟩ := exa_v hn
  have oS28 : Sta s s.heap cn17 "TITLE" cn18 (.ref ov26) := Sta.start oe27 (Or.inr ⟨(w137 hw), (w138 hw)⟩)
  have oE29 : Exa s s.heap ov26 cn17 := Exa.start oe27 hn
  obtain ⟨ok31, hok31⟩ : ∃ k, k = oc8.cls := ⟨_, rfl⟩
  have oV30 : Arv s s.heap ov5 ok31 (.object cn3) (0 : Int32) [] .null := hok31 ▸ Arv.start hfit oA9 oq12 oq13 (by decide) rfl trivial
  have hCH : CHv s own_EL s.vm s.heap := CHv.start (own_EW hw) (fun q hq => hcalls.2.1 q hq) (hsets _ (List.mem_of_getElem? (i := 2) rfl)) (w14 hw) (w10 hw)
  obtain ⟨mc, mk, ymir, mh1, mh2, mh3, mcell, mh4, mh5⟩ := hcalls.1
  have hmir : Mir s cn6 ymir := ⟨mc, mk, mh1, mh2, mh3, mcell, mh4, mh5⟩
  obtain ⟨n, o, h1, h2, h3, _, L, rfl, ⟨N, -, hR⟩, hq⟩ := rm_law l s _ hw tables_1 i0 i1 i2 i3 oi1 ov5 ov14 ov20 ov26 ok31 ymir s.heap s.heap.size (Old.start s) oS3 oS7 oE10 oS16 oE17 oF19 oS22 oE23 oS25 oS28 oE29 oV30 oh4 hmir p e ha hc hk s m _ below hf ((Spec.applies_iff_loose hf).mp happ).1 ⟨rfl, State.Warmed39.refl s, rfl, hCH⟩ trivial
  obtain rfl := hR
  refine ⟨n, _, h1, h2, h3, hpost _ _ _ _ _ _ ⟨Cond.after_iff.mpr rfl, Cond.after_iff.mpr (eq_i res_at (Term.int_eval (1)) rfl), trivial⟩ ⟨hq.1, hq.2.1, hq.2.2.1, (hq.2.2.2.sift fun y hy => Or.inr (N y hy)).mono (by decide) (by decide)⟩⟩
theorem main_1_1 : Claimed_1_1 := comes_1 fun _ _ _ _ _ _ h hF => ⟨h.1, hF⟩
theorem main_1_2 : Claimed_1_2 := comes_1 fun _ _ _ _ _ _ h hF => ⟨h.2.1, hF⟩
end Jvm.Pilot.@@N@@
namespace Jvm.Pilot.@@N@@
open Jvm Jvm.ClassFile Sem Op Lib Jvm.Free Jvm.Stand Jvm.Pilot.@@N@@.Jvm.D
/-! MADE BY PROGRAM (witnessworld.py) out of the Statement's table words and the real class files: 43 classes; the members and pool entries that the words name. The judged class is class 1, her method 1. -/
namespace start1
open Jvm.ClassFile
def u (s : String) : CpInfo := .utf8 (stringToUtf16 s)
/-- a pool by its gaps: so many unusable entries, then the entry; so many at the end -/
def gap : Nat → List CpInfo → List CpInfo
  | 0, r => r
  | n + 1, r => .unusable :: gap n r
def poolList (es : List (Nat × CpInfo)) (last : Nat) : List CpInfo := es.foldr (fun e r => gap e.1 (e.2 :: r)) (gap last [])
def pool (es : List (Nat × CpInfo)) (last : Nat) : Array CpInfo := ⟨poolList es last⟩
def fileOf (pool : Array CpInfo) (this : Nat) (attrs : Array Attribute := #[]) (ms : Array MethodInfo := #[]) (fl : Nat := 33) (sup : Nat := 0) (ifs : Array Nat := #[]) (fds : Array FieldInfo := #[]) : ClassFile where
  minorVersion := 0
  majorVersion := 65
  constantPool := pool
  accessFlags := fl
  thisClass := this
  superClass := sup
  interfaces := ifs
  fields := fds
  methods := ms
  attributes := attrs
def plain (name : String) (sup : Option ClassId) : Class where
  name := name
  kind := .ordinary
  loader := none
  accessFlags := 33
  super := sup
  interfaces := #[]
  cf := none
  fields := #[]
  methods := #[]
  instanceTypes := #[]
  staticTypes := #[]
  resolved := #[]
  callSites := []
  init := .initialized
  statics := none
  mirror := none

def pool0 : Array CpInfo := pool [(5, u "<init>"), (0, u "()V"), (1, .class_ 10), (1, u "java/lang/Object"), (0, u "getClass"), (0, u "()Ljava/lang/Class;")] 111

def k0c0 : Code := { maxStack := 0, maxLocals := 1, code := object_method_1_code, exceptionTable := #[], attributes := #[] }
def k0m0 : Method := { name := "<init>", desc := "()V", sig := { parameters := [], returnType := none }, accessFlags := 1, code := some k0c0 }
def k0m1 : Method := { name := "getClass", desc := "()Ljava/lang/Class;", sig := { parameters := [], returnType := some (.object "java/lang/Class") }, accessFlags := 273, code := none }
/-- java/lang/Object -/
def k0 : Class := { plain "java/lang/Object" none with
  accessFlags := 33
  interfaces := #[]
  cf := some (fileOf pool0 8 #[] #[{ accessFlags := 1, nameIndex := 5, descriptorIndex := 6, attributes := #[] }, { accessFlags := 273, nameIndex := 11, descriptorIndex := 12, attributes := #[] }] 33 0 #[] #[])
  fields := #[]
  methods := #[k0m0, k0m1]
  instanceTypes := #[]
  staticTypes := #[]
  resolved := Array.replicate 124 none
  statics := none }

def pool1 : Array CpInfo := pool [(2, .class_ 4), (0, .nameAndType 5 6), (0, u "java/lang/Object"), (0, u "<init>"), (0, u "()V"), (0, .methodref 8 9), (0, .class_ 10), (0, .nameAndType 11 12), (0, u "com/example/causeway/causeway/formats/OaiDcUnitIsSetAsidePinLaw"), (0, u "drawn"), (0, u "(III)Ljava/lang/String;"), (0, .methodref 14 15), (0, .class_ 16), (0, .nameAndType 17 18), (0, u "java/lang/String"), (0, u "valueOf"), (0, u "(C)Ljava/lang/String;"), (0, .class_ 20), (0, u "java/util/ArrayList"), (0, .methodref 19 3), (0, .class_ 23), (0, u "com/example/causeway/causeway/formats/DcValue"), (0, .fieldref 25 26), (0, .class_ 27), (0, .nameAndType 28 29), (0, u "com/example/causeway/causeway/formats/DcElement"), (0, u "TITLE"), (0, u "Lcom/example/causeway/causeway/formats/DcElement;"), (0, .methodref 22 31), (0, .nameAndType 5 32), (0, u "(Lcom/example/causeway/causeway/formats/DcElement;Ljava/lang/String;)V"), (0, .methodref 19 34), (0, .nameAndType 35 36), (0, u "add"), (0, u "(Ljava/lang/Object;)Z"), (0, .class_ 38), (0, u "com/example/causeway/causeway/formats/OaiDcUnit"), (0, .methodref 37 40), (0, .nameAndType 5 41), (0, u "(ILjava/lang/String;Ljava/lang/String;Ljava/util/List;Ljava/lang/String;)V"), (0, .methodref 37 43), (0, .nameAndType 44 45), (0, u "isSetAside"), (0, u "()Z"), (0, .methodref 37 47), (0, .nameAndType 48 49), (0, u "read"), (0, u "(ILjava/lang/String;Ljava/lang/String;Ljava/util/List;)Lcom/example/causeway/causeway/formats/OaiDcUnit;"), (0, .methodref 37 51), (0, .nameAndType 52 53), (0, u "setAside"), (0, u "(ILjava/lang/String;Ljava/lang/String;)Lcom/example/causeway/causeway/formats/OaiDcUnit;"), (0, .methodref 14 55), (0, .nameAndType 5 56), (0, u "([C)V"), (2, u "law"), (0, u "(IIII)Z")] 3

def k1m0 : Method := { name := "<init>", desc := "()V", sig := { parameters := [], returnType := none }, accessFlags := 1, code := none }
def k1c1 : Code := { maxStack := 7, maxLocals := 13, code := code, exceptionTable := #[], attributes := #[] }
def k1m1 : Method := { name := "law", desc := "(IIII)Z", sig := { parameters := [.int, .int, .int, .int], returnType := some .boolean }, accessFlags := 9, code := some k1c1 }
def k1c2 : Code := { maxStack := 3, maxLocals := 7, code := method_3_code, exceptionTable := #[], attributes := #[] }
def k1m2 : Method := { name := "drawn", desc := "(III)Ljava/lang/String;", sig := { parameters := [.int, .int, .int], returnType := some (.object "java/lang/String") }, accessFlags := 10, code := some k1c2 }
/-- com/example/causeway/causeway/formats/OaiDcUnitIsSetAsidePinLaw -/
def k1 : Class := { plain "com/example/causeway/causeway/formats/OaiDcUnitIsSetAsidePinLaw" (some 0) with
  accessFlags := 49
  interfaces := #[]
  cf := some (fileOf pool1 8 #[] #[{ accessFlags := 1, nameIndex := 5, descriptorIndex := 6, attributes := #[] }, { accessFlags := 9, nameIndex := 59, descriptorIndex := 60, attributes := #[] }, { accessFlags := 10, nameIndex := 11, descriptorIndex := 12, attributes := #[] }] 49 2 #[] #[])
  fields := #[]
  methods := #[k1m0, k1m1, k1m2]
  instanceTypes := #[]
  staticTypes := #[]
  resolved := Array.replicate 64 none
  statics := none }

def pool2 : Array CpInfo := pool [(1, .class_ 2), (0, u "java/io/Serializable"), (0, .class_ 4), (0, u "java/lang/Object")] 2

/-- java/io/Serializable -/
def k2 : Class := { plain "java/io/Serializable" (some 0) with
  accessFlags := 1537
  interfaces := #[]
  cf := some (fileOf pool2 1 #[] #[] 1537 3 #[] #[])
  fields := #[]
  methods := #[]
  instanceTypes := #[]
  staticTypes := #[]
  resolved := Array.replicate 7 none
  statics := none }

def pool3 : Array CpInfo := pool [(1, .class_ 2), (0, u "java/lang/Comparable"), (0, .class_ 4), (0, u "java/lang/Object")] 7

/-- java/lang/Comparable -/
def k3 : Class := { plain "java/lang/Comparable" (some 0) with
  accessFlags := 1537
  interfaces := #[]
  cf := some (fileOf pool3 1 #[] #[] 1537 3 #[] #[])
  fields := #[]
  methods := #[]
  instanceTypes := #[]
  staticTypes := #[]
  resolved := Array.replicate 12 none
  statics := none }

def pool4 : Array CpInfo := pool [(2, .class_ 4), (1, u "java/lang/CharSequence"), (42, .class_ 48), (0, u "java/lang/CharSequence$1CodePointIterator"), (10, .class_ 60), (0, u "java/lang/CharSequence$1CharIterator"), (5, .class_ 67), (0, u "java/lang/Object")] 63

/-- java/lang/CharSequence -/
def k4 : Class := { plain "java/lang/CharSequence" (some 0) with
  accessFlags := 1537
  interfaces := #[]
  cf := some (fileOf pool4 2 #[.nestMembers #[47, 59]] #[] 1537 66 #[] #[])
  fields := #[]
  methods := #[]
  instanceTypes := #[]
  staticTypes := #[]
  resolved := Array.replicate 131 none
  statics := none }

def pool5 : Array CpInfo := pool [(1, .class_ 2), (0, u "java/lang/constant/Constable"), (0, .class_ 4), (0, u "java/lang/Object")] 6

/-- java/lang/constant/Constable -/
def k5 : Class := { plain "java/lang/constant/Constable" (some 0) with
  accessFlags := 1537
  interfaces := #[]
  cf := some (fileOf pool5 1 #[] #[] 1537 3 #[] #[])
  fields := #[]
  methods := #[]
  instanceTypes := #[]
  staticTypes := #[]
  resolved := Array.replicate 11 none
  statics := none }

def pool6 : Array CpInfo := pool [(1, .class_ 2), (0, u "java/lang/constant/ConstantDesc"), (0, .class_ 4), (0, u "java/lang/Object")] 32

/-- java/lang/constant/ConstantDesc -/
def k6 : Class := { plain "java/lang/constant/ConstantDesc" (some 0) with
  accessFlags := 1537
  interfaces := #[]
  cf := some (fileOf pool6 1 #[] #[] 1537 3 #[] #[])
  fields := #[]
  methods := #[]
  instanceTypes := #[]
  staticTypes := #[]
  resolved := Array.replicate 37 none
  statics := none }

def pool7 : Array CpInfo := pool [(1, .methodref 2 3), (0, .class_ 4), (0, .nameAndType 5 6), (0, u "java/lang/Object"), (0, u "<init>"), (0, u "()V"), (0, .string 8), (0, u ""), (0, .fieldref 10 11), (0, .class_ 12), (0, .nameAndType 13 14), (0, u "java/lang/String"), (0, u "value"), (0, u "[B"), (0, .fieldref 10 16), (0, .nameAndType 17 18), (0, u "coder"), (0, u "B"), (2, u "hash"), (0, u "I"), (2, u "hashIsZero"), (0, u "Z"), (0, .methodref 10 28), (0, .nameAndType 5 29), (0, u "([CIILjava/lang/Void;)V"), (8, .fieldref 10 39), (0, .nameAndType 40 26), (0, u "COMPACT_STRINGS"), (1, .class_ 44), (1, u "java/lang/StringUTF16"), (0, u "compress"), (1, .methodref 42 48), (0, .nameAndType 49 50), (0, u "coderFromArrayLen"), (0, u "([BI)B"), (2, u "toBytes"), (53, .class_ 109), (1, u "java/lang/StringLatin1"), (67, .methodref 42 178), (0, .nameAndType 45 179), (0, u "([CII)[B"), (29, .methodref 10 210), (0, .nameAndType 5 211), (0, u "([BB)V"), (157, u "(C)Z"), (205, .class_ 576), (0, u "java/lang/CharSequence"), (22, u "CASE_INSENSITIVE_ORDER"), (0, u "Ljava/util/Comparator;"), (181, u "valueOf"), (0, u "(C)Ljava/lang/String;"), (226, u "([C)V"), (4, .methodref 107 1016), (0, .nameAndType 1017 369), (0, u "canEncode"), (0, .methodref 107 1019), (0, .nameAndType 53 1020), (0, u "(C)[B"), (80, u "serialPersistentFields"), (0, u "[Ljava/io/ObjectStreamField;"), (0, .class_ 1104), (0, u "java/lang/String$CaseInsensitiveComparator"), (1, .class_ 1107), (0, u "java/io/Serializable"), (0, .class_ 1109), (0, u "java/lang/Comparable"), (0, .class_ 1111), (0, u "java/lang/constant/Constable"), (0, .class_ 1113), (0, u "java/lang/constant/ConstantDesc"), (2, u "serialVersionUID"), (0, u "J"), (3, u "REPL"), (0, u "C"), (2, u "LATIN1"), (1, u "UTF16")] 323

def k7m0 : Method := { name := "<init>", desc := "()V", sig := { parameters := [], returnType := none }, accessFlags := 1, code := none }
def k7c1 : Code := { maxStack := 5, maxLocals := 2, code := jdk_42_method_3_code, exceptionTable := #[], attributes := #[] }
def k7m1 : Method := { name := "<init>", desc := "([C)V", sig := { parameters := [(.array .char)], returnType := none }, accessFlags := 1, code := some k7c1 }
def k7c2 : Code := { maxStack := 4, maxLocals := 1, code := jdk_42_method_139_code, exceptionTable := #[], attributes := #[] }
def k7m2 : Method := { name := "valueOf", desc := "(C)Ljava/lang/String;", sig := { parameters := [.char], returnType := some (.object "java/lang/String") }, accessFlags := 9, code := some k7c2 }
def k7c3 : Code := { maxStack := 4, maxLocals := 6, code := jdk_42_method_149_code, exceptionTable := #[], attributes := #[] }
def k7m3 : Method := { name := "<init>", desc := "([CIILjava/lang/Void;)V", sig := { parameters := [(.array .char), .int, .int, (.object "java/lang/Void")], returnType := none }, accessFlags := 2, code := some k7c3 }
def k7c4 : Code := { maxStack := 2, maxLocals := 3, code := jdk_42_method_151_code, exceptionTable := #[], attributes := #[] }
def k7m4 : Method := { name := "<init>", desc := "([BB)V", sig := { parameters := [(.array .byte), .byte], returnType := none }, accessFlags := 0, code := some k7c4 }
/-- java/lang/String -/
def k7 : Class := { plain "java/lang/String" (some 0) with
  accessFlags := 49
  interfaces := #[2, 3, 4, 5, 6]
  cf := some (fileOf pool7 10 #[.nestMembers #[1103]] #[{ accessFlags := 1, nameIndex := 5, descriptorIndex := 6, attributes := #[] }, { accessFlags := 1, nameIndex := 5, descriptorIndex := 1010, attributes := #[] }, { accessFlags := 9, nameIndex := 782, descriptorIndex := 783, attributes := #[] }, { accessFlags := 2, nameIndex := 5, descriptorIndex := 29, attributes := #[] }, { accessFlags := 0, nameIndex := 5, descriptorIndex := 211, attributes := #[] }] 49 2 #[1106, 1108, 575, 1110, 1112] #[{ accessFlags := 18, nameIndex := 13, descriptorIndex := 14, attributes := #[] }, { accessFlags := 18, nameIndex := 17, descriptorIndex := 18, attributes := #[] }, { accessFlags := 2, nameIndex := 21, descriptorIndex := 22, attributes := #[] }, { accessFlags := 2, nameIndex := 25, descriptorIndex := 26, attributes := #[] }, { accessFlags := 26, nameIndex := 1116, descriptorIndex := 1117, attributes := #[] }, { accessFlags := 24, nameIndex := 40, descriptorIndex := 26, attributes := #[] }, { accessFlags := 26, nameIndex := 1101, descriptorIndex := 1102, attributes := #[] }, { accessFlags := 26, nameIndex := 1121, descriptorIndex := 1122, attributes := #[] }, { accessFlags := 25, nameIndex := 599, descriptorIndex := 600, attributes := #[] }, { accessFlags := 24, nameIndex := 1125, descriptorIndex := 18, attributes := #[] }, { accessFlags := 24, nameIndex := 1127, descriptorIndex := 18, attributes := #[] }])
  fields := #[{ name := "value", type := (.array .byte), accessFlags := 18, slot := 0, constantValue := 0 }, { name := "coder", type := .byte, accessFlags := 18, slot := 1, constantValue := 0 }, { name := "hash", type := .int, accessFlags := 2, slot := 2, constantValue := 0 }, { name := "hashIsZero", type := .boolean, accessFlags := 2, slot := 3, constantValue := 0 }, { name := "serialVersionUID", type := .long, accessFlags := 26, slot := 0, constantValue := 0 }, { name := "COMPACT_STRINGS", type := .boolean, accessFlags := 24, slot := 1, constantValue := 0 }, { name := "serialPersistentFields", type := (.array (.object "java/io/ObjectStreamField")), accessFlags := 26, slot := 2, constantValue := 0 }, { name := "REPL", type := .char, accessFlags := 26, slot := 3, constantValue := 0 }, { name := "CASE_INSENSITIVE_ORDER", type := (.object "java/util/Comparator"), accessFlags := 25, slot := 4, constantValue := 0 }, { name := "LATIN1", type := .byte, accessFlags := 24, slot := 5, constantValue := 0 }, { name := "UTF16", type := .byte, accessFlags := 24, slot := 6, constantValue := 0 }]
  methods := #[k7m0, k7m1, k7m2, k7m3, k7m4]
  instanceTypes := #[(.array .byte), .byte, .int, .boolean]
  staticTypes := #[.long, .boolean, (.array (.object "java/io/ObjectStreamField")), .char, (.object "java/util/Comparator"), .byte, .byte]
  resolved := Array.replicate 1451 none
  statics := some 0 }

def pool8 : Array CpInfo := pool [(4, .class_ 6), (1, u "java/lang/Object"), (0, u "<init>"), (0, u "()V"), (5, .class_ 16), (1, u "java/lang/StringLatin1"), (73, u "canEncode"), (14, u "(C)Z"), (15, u "$assertionsDisabled"), (0, u "Z"), (98, .class_ 223), (1, u "java/lang/StringLatin1$LinesSpliterator"), (156, u "toBytes"), (1, u "(C)[B"), (7, .class_ 391), (0, u "java/lang/StringLatin1$CharsSpliterator")] 3

def k8m0 : Method := { name := "<init>", desc := "()V", sig := { parameters := [], returnType := none }, accessFlags := 0, code := none }
def k8c1 : Code := { maxStack := 2, maxLocals := 1, code := jdk_43_method_3_code, exceptionTable := #[], attributes := #[] }
def k8m1 : Method := { name := "canEncode", desc := "(C)Z", sig := { parameters := [.char], returnType := some .boolean }, accessFlags := 9, code := some k8c1 }
def k8c2 : Code := { maxStack := 4, maxLocals := 1, code := jdk_43_method_46_code, exceptionTable := #[], attributes := #[] }
def k8m2 : Method := { name := "toBytes", desc := "(C)[B", sig := { parameters := [.char], returnType := some (.array .byte) }, accessFlags := 9, code := some k8c2 }
/-- java/lang/StringLatin1 -/
def k8 : Class := { plain "java/lang/StringLatin1" (some 0) with
  accessFlags := 48
  interfaces := #[]
  cf := some (fileOf pool8 14 #[.nestMembers #[390, 221]] #[{ accessFlags := 0, nameIndex := 7, descriptorIndex := 8, attributes := #[] }, { accessFlags := 9, nameIndex := 90, descriptorIndex := 105, attributes := #[] }, { accessFlags := 9, nameIndex := 380, descriptorIndex := 382, attributes := #[] }] 48 4 #[] #[{ accessFlags := 4120, nameIndex := 121, descriptorIndex := 122, attributes := #[] }])
  fields := #[{ name := "$assertionsDisabled", type := .boolean, accessFlags := 4120, slot := 0, constantValue := 0 }]
  methods := #[k8m0, k8m1, k8m2]
  instanceTypes := #[]
  staticTypes := #[.boolean]
  resolved := Array.replicate 395 none
  statics := none }

def pool9 : Array CpInfo := pool [(8, .class_ 10), (1, u "java/lang/Iterable"), (24, .class_ 36), (0, u "java/lang/Object")] 25

/-- java/lang/Iterable -/
def k9 : Class := { plain "java/lang/Iterable" (some 0) with
  accessFlags := 1537
  interfaces := #[]
  cf := some (fileOf pool9 8 #[] #[] 1537 35 #[] #[])
  fields := #[]
  methods := #[]
  instanceTypes := #[]
  staticTypes := #[]
  resolved := Array.replicate 62 none
  statics := none }

def pool10 : Array CpInfo := pool [(10, .class_ 12), (1, u "java/util/Collection"), (0, u "toArray"), (16, u "()Z"), (29, .class_ 61), (0, u "java/lang/Object"), (0, .class_ 63), (0, u "java/lang/Iterable"), (2, u "isEmpty"), (3, u "()[Ljava/lang/Object;")] 44

def k10m0 : Method := { name := "isEmpty", desc := "()Z", sig := { parameters := [], returnType := some .boolean }, accessFlags := 1025, code := none }
def k10m1 : Method := { name := "toArray", desc := "()[Ljava/lang/Object;", sig := { parameters := [], returnType := some (.array (.object "java/lang/Object")) }, accessFlags := 1025, code := none }
/-- java/util/Collection -/
def k10 : Class := { plain "java/util/Collection" (some 0) with
  accessFlags := 1537
  interfaces := #[9]
  cf := some (fileOf pool10 10 #[] #[{ accessFlags := 1025, nameIndex := 66, descriptorIndex := 30, attributes := #[] }, { accessFlags := 1025, nameIndex := 13, descriptorIndex := 70, attributes := #[] }] 1537 60 #[62] #[])
  fields := #[]
  methods := #[k10m0, k10m1]
  instanceTypes := #[]
  staticTypes := #[]
  resolved := Array.replicate 115 none
  statics := none }

def pool11 : Array CpInfo := pool [(1, .methodref 2 3), (0, .class_ 4), (0, .nameAndType 5 6), (0, u "java/lang/Object"), (0, u "<init>"), (0, u "()V"), (1, .class_ 10), (1, u "java/util/AbstractCollection"), (66, .class_ 78), (0, u "java/util/Collection")] 81

def k11c0 : Code := { maxStack := 1, maxLocals := 1, code := jdk_22_method_1_code, exceptionTable := #[], attributes := #[] }
def k11m0 : Method := { name := "<init>", desc := "()V", sig := { parameters := [], returnType := none }, accessFlags := 4, code := some k11c0 }
/-- java/util/AbstractCollection -/
def k11 : Class := { plain "java/util/AbstractCollection" (some 0) with
  accessFlags := 1057
  interfaces := #[10]
  cf := some (fileOf pool11 8 #[] #[{ accessFlags := 4, nameIndex := 5, descriptorIndex := 6, attributes := #[] }] 1057 2 #[77] #[])
  fields := #[]
  methods := #[k11m0]
  instanceTypes := #[]
  staticTypes := #[]
  resolved := Array.replicate 160 none
  statics := none }

def pool12 : Array CpInfo := pool [(8, .class_ 10), (1, u "java/util/SequencedCollection"), (15, .class_ 27), (0, u "java/lang/Object"), (0, .class_ 29), (0, u "java/util/Collection")] 27

/-- java/util/SequencedCollection -/
def k12 : Class := { plain "java/util/SequencedCollection" (some 0) with
  accessFlags := 1537
  interfaces := #[10]
  cf := some (fileOf pool12 8 #[] #[] 1537 26 #[28] #[])
  fields := #[]
  methods := #[]
  instanceTypes := #[]
  staticTypes := #[]
  resolved := Array.replicate 57 none
  statics := none }

def pool13 : Array CpInfo := pool [(8, .class_ 10), (1, u "java/util/List"), (20, u "(Ljava/lang/Object;)V"), (16, u "<init>"), (39, u "of"), (1, .fieldref 91 92), (0, .class_ 93), (0, .nameAndType 94 95), (0, u "java/util/ImmutableCollections"), (0, u "EMPTY_LIST"), (0, u "Ljava/util/ImmutableCollections$ListN;"), (0, .class_ 97), (0, u "java/util/ImmutableCollections$List12"), (0, .methodref 96 99), (0, .nameAndType 48 31), (3, .class_ 104), (0, u "java/lang/Object"), (3, u "([Ljava/lang/Object;)Ljava/util/List;"), (3, .methodref 91 113), (0, .nameAndType 114 115), (0, u "listCopy"), (0, u "(Ljava/util/Collection;)Ljava/util/List;"), (3, u "()Ljava/util/List;"), (0, .class_ 121), (0, u "java/util/SequencedCollection"), (112, u "copyOf")] 16

def k13c0 : Code := { maxStack := 1, maxLocals := 0, code := jdk_40_method_36_code, exceptionTable := #[], attributes := #[] }
def k13m0 : Method := { name := "of", desc := "()Ljava/util/List;", sig := { parameters := [], returnType := some (.object "java/util/List") }, accessFlags := 9, code := some k13c0 }
def k13c1 : Code := { maxStack := 5, maxLocals := 2, code := jdk_40_method_47_code, exceptionTable := #[], attributes := #[] }
def k13m1 : Method := { name := "of", desc := "([Ljava/lang/Object;)Ljava/util/List;", sig := { parameters := [(.array (.object "java/lang/Object"))], returnType := some (.object "java/util/List") }, accessFlags := 137, code := some k13c1 }
def k13c2 : Code := { maxStack := 1, maxLocals := 1, code := jdk_40_method_48_code, exceptionTable := #[], attributes := #[] }
def k13m2 : Method := { name := "copyOf", desc := "(Ljava/util/Collection;)Ljava/util/List;", sig := { parameters := [(.object "java/util/Collection")], returnType := some (.object "java/util/List") }, accessFlags := 9, code := some k13c2 }
/-- java/util/List -/
def k13 : Class := { plain "java/util/List" (some 0) with
  accessFlags := 1537
  interfaces := #[12]
  cf := some (fileOf pool13 8 #[] #[{ accessFlags := 9, nameIndex := 88, descriptorIndex := 119, attributes := #[] }, { accessFlags := 137, nameIndex := 88, descriptorIndex := 108, attributes := #[] }, { accessFlags := 9, nameIndex := 234, descriptorIndex := 115, attributes := #[] }] 1537 103 #[120] #[])
  fields := #[]
  methods := #[k13m0, k13m1, k13m2]
  instanceTypes := #[]
  staticTypes := #[]
  resolved := Array.replicate 251 none
  statics := none }

def pool14 : Array CpInfo := pool [(1, .methodref 2 3), (0, .class_ 4), (0, .nameAndType 5 6), (0, u "java/util/AbstractCollection"), (0, u "<init>"), (0, u "()V"), (0, .fieldref 8 9), (0, .class_ 10), (0, .nameAndType 11 12), (0, u "java/util/AbstractList"), (0, u "modCount"), (0, u "I"), (64, .class_ 78), (0, u "java/util/AbstractList$Itr"), (3, .class_ 83), (0, u "java/util/AbstractList$ListItr"), (9, .class_ 94), (0, u "java/util/AbstractList$RandomAccessSubList"), (3, .class_ 99), (0, u "java/util/AbstractList$SubList"), (33, .class_ 134), (0, u "java/util/List"), (73, .class_ 209), (0, u "java/util/AbstractList$SubList$1"), (0, .class_ 211), (0, u "java/util/AbstractList$RandomAccessSpliterator")] 6

def k14c0 : Code := { maxStack := 2, maxLocals := 1, code := jdk_39_method_1_code, exceptionTable := #[], attributes := #[] }
def k14m0 : Method := { name := "<init>", desc := "()V", sig := { parameters := [], returnType := none }, accessFlags := 4, code := some k14c0 }
/-- java/util/AbstractList -/
def k14 : Class := { plain "java/util/AbstractList" (some 11) with
  accessFlags := 1057
  interfaces := #[13]
  cf := some (fileOf pool14 8 #[.nestMembers #[93, 98, 208, 210, 82, 77]] #[{ accessFlags := 4, nameIndex := 5, descriptorIndex := 6, attributes := #[] }] 1057 2 #[133] #[{ accessFlags := 132, nameIndex := 11, descriptorIndex := 12, attributes := #[] }])
  fields := #[{ name := "modCount", type := .int, accessFlags := 132, slot := 0, constantValue := 0 }]
  methods := #[k14m0]
  instanceTypes := #[.int]
  staticTypes := #[]
  resolved := Array.replicate 218 none
  statics := none }

def pool15 : Array CpInfo := pool [(1, .class_ 2), (0, u "java/util/RandomAccess"), (0, .class_ 4), (0, u "java/lang/Object")] 2

/-- java/util/RandomAccess -/
def k15 : Class := { plain "java/util/RandomAccess" (some 0) with
  accessFlags := 1537
  interfaces := #[]
  cf := some (fileOf pool15 1 #[] #[] 1537 3 #[] #[])
  fields := #[]
  methods := #[]
  instanceTypes := #[]
  staticTypes := #[]
  resolved := Array.replicate 7 none
  statics := none }

def pool16 : Array CpInfo := pool [(1, .class_ 2), (0, u "java/lang/Cloneable"), (0, .class_ 4), (0, u "java/lang/Object")] 2

/-- java/lang/Cloneable -/
def k16 : Class := { plain "java/lang/Cloneable" (some 0) with
  accessFlags := 1537
  interfaces := #[]
  cf := some (fileOf pool16 1 #[] #[] 1537 3 #[] #[])
  fields := #[]
  methods := #[]
  instanceTypes := #[]
  staticTypes := #[]
  resolved := Array.replicate 7 none
  statics := none }

def pool17 : Array CpInfo := pool [(1, .methodref 2 3), (0, .class_ 4), (0, .nameAndType 5 6), (0, u "java/util/AbstractList"), (0, u "<init>"), (0, u "()V"), (0, .class_ 8), (0, u "java/lang/Object"), (0, .fieldref 10 11), (0, .class_ 12), (0, .nameAndType 13 14), (0, u "java/util/ArrayList"), (0, u "elementData"), (0, u "[Ljava/lang/Object;"), (2, u "EMPTY_ELEMENTDATA"), (21, .fieldref 10 40), (0, .nameAndType 41 14), (0, u "DEFAULTCAPACITY_EMPTY_ELEMENTDATA"), (4, u "toArray"), (0, u "()[Ljava/lang/Object;"), (0, .fieldref 10 49), (0, .nameAndType 50 51), (0, u "size"), (0, u "I"), (6, .class_ 60), (1, u "java/util/Arrays"), (0, u "copyOf"), (1, .fieldref 10 64), (0, .nameAndType 65 51), (0, u "modCount"), (0, .methodref 58 67), (0, .nameAndType 61 68), (0, u "([Ljava/lang/Object;I)[Ljava/lang/Object;"), (0, .methodref 10 70), (0, .nameAndType 71 72), (0, u "grow"), (0, u "(I)[Ljava/lang/Object;"), (6, .methodref 80 81), (0, .class_ 82), (0, .nameAndType 83 84), (0, u "java/lang/Math"), (0, u "max"), (0, u "(II)I"), (11, u "(Ljava/lang/Object;)Z"), (32, .methodref 10 130), (0, .nameAndType 71 47), (0, .methodref 10 132), (0, .nameAndType 133 134), (0, u "add"), (0, u "(Ljava/lang/Object;[Ljava/lang/Object;I)V"), (13, .class_ 149), (0, u "java/util/List"), (23, u "()Z"), (88, .class_ 263), (0, u "java/util/ArrayList$ListItr"), (3, .class_ 268), (0, u "java/util/ArrayList$Itr"), (7, .class_ 277), (0, u "java/util/ArrayList$SubList"), (12, .class_ 291), (0, u "java/util/ArrayList$ArrayListSpliterator"), (37, .class_ 330), (0, u "java/util/RandomAccess"), (0, .class_ 332), (0, u "java/lang/Cloneable"), (0, .class_ 334), (0, u "java/io/Serializable"), (0, u "serialVersionUID"), (0, u "J"), (3, u "DEFAULT_CAPACITY"), (22, u "isEmpty"), (136, .class_ 501), (0, u "java/util/ArrayList$SubList$2"), (0, .class_ 503), (0, u "java/util/ArrayList$SubList$1")] 5

def k17c0 : Code := { maxStack := 2, maxLocals := 1, code := jdk_38_method_2_code, exceptionTable := #[], attributes := #[] }
def k17m0 : Method := { name := "<init>", desc := "()V", sig := { parameters := [], returnType := none }, accessFlags := 1, code := some k17c0 }
def k17c1 : Code := { maxStack := 4, maxLocals := 4, code := jdk_38_method_6_code, exceptionTable := #[], attributes := #[] }
def k17m1 : Method := { name := "grow", desc := "(I)[Ljava/lang/Object;", sig := { parameters := [.int], returnType := some (.array (.object "java/lang/Object")) }, accessFlags := 2, code := some k17c1 }
def k17c2 : Code := { maxStack := 3, maxLocals := 1, code := jdk_38_method_7_code, exceptionTable := #[], attributes := #[] }
def k17m2 : Method := { name := "grow", desc := "()[Ljava/lang/Object;", sig := { parameters := [], returnType := some (.array (.object "java/lang/Object")) }, accessFlags := 2, code := some k17c2 }
def k17c3 : Code := { maxStack := 1, maxLocals := 1, code := jdk_38_method_9_code, exceptionTable := #[], attributes := #[] }
def k17m3 : Method := { name := "isEmpty", desc := "()Z", sig := { parameters := [], returnType := some .boolean }, accessFlags := 1, code := some k17c3 }
def k17c4 : Code := { maxStack := 2, maxLocals := 1, code := jdk_38_method_16_code, exceptionTable := #[], attributes := #[] }
def k17m4 : Method := { name := "toArray", desc := "()[Ljava/lang/Object;", sig := { parameters := [], returnType := some (.array (.object "java/lang/Object")) }, accessFlags := 1, code := some k17c4 }
def k17c5 : Code := { maxStack := 3, maxLocals := 4, code := jdk_38_method_24_code, exceptionTable := #[], attributes := #[] }
def k17m5 : Method := { name := "add", desc := "(Ljava/lang/Object;[Ljava/lang/Object;I)V", sig := { parameters := [(.object "java/lang/Object"), (.array (.object "java/lang/Object")), .int], returnType := none }, accessFlags := 2, code := some k17c5 }
def k17c6 : Code := { maxStack := 4, maxLocals := 2, code := jdk_38_method_25_code, exceptionTable := #[], attributes := #[] }
def k17m6 : Method := { name := "add", desc := "(Ljava/lang/Object;)Z", sig := { parameters := [(.object "java/lang/Object")], returnType := some .boolean }, accessFlags := 1, code := some k17c6 }
/-- java/util/ArrayList -/
def k17 : Class := { plain "java/util/ArrayList" (some 14) with
  accessFlags := 33
  interfaces := #[13, 15, 16, 2]
  cf := some (fileOf pool17 10 #[.nestMembers #[290, 276, 500, 502, 262, 267]] #[{ accessFlags := 1, nameIndex := 5, descriptorIndex := 6, attributes := #[] }, { accessFlags := 2, nameIndex := 71, descriptorIndex := 72, attributes := #[] }, { accessFlags := 2, nameIndex := 71, descriptorIndex := 47, attributes := #[] }, { accessFlags := 1, nameIndex := 363, descriptorIndex := 173, attributes := #[] }, { accessFlags := 1, nameIndex := 46, descriptorIndex := 47, attributes := #[] }, { accessFlags := 2, nameIndex := 133, descriptorIndex := 134, attributes := #[] }, { accessFlags := 1, nameIndex := 133, descriptorIndex := 96, attributes := #[] }] 33 2 #[148, 329, 331, 333] #[{ accessFlags := 26, nameIndex := 335, descriptorIndex := 336, attributes := #[] }, { accessFlags := 26, nameIndex := 340, descriptorIndex := 51, attributes := #[] }, { accessFlags := 26, nameIndex := 17, descriptorIndex := 14, attributes := #[] }, { accessFlags := 26, nameIndex := 41, descriptorIndex := 14, attributes := #[] }, { accessFlags := 128, nameIndex := 13, descriptorIndex := 14, attributes := #[] }, { accessFlags := 2, nameIndex := 50, descriptorIndex := 51, attributes := #[] }])
  fields := #[{ name := "serialVersionUID", type := .long, accessFlags := 26, slot := 0, constantValue := 0 }, { name := "DEFAULT_CAPACITY", type := .int, accessFlags := 26, slot := 1, constantValue := 0 }, { name := "EMPTY_ELEMENTDATA", type := (.array (.object "java/lang/Object")), accessFlags := 26, slot := 2, constantValue := 0 }, { name := "DEFAULTCAPACITY_EMPTY_ELEMENTDATA", type := (.array (.object "java/lang/Object")), accessFlags := 26, slot := 3, constantValue := 0 }, { name := "elementData", type := (.array (.object "java/lang/Object")), accessFlags := 128, slot := 1, constantValue := 0 }, { name := "size", type := .int, accessFlags := 2, slot := 2, constantValue := 0 }]
  methods := #[k17m0, k17m1, k17m2, k17m3, k17m4, k17m5, k17m6]
  instanceTypes := #[.int, (.array (.object "java/lang/Object")), .int]
  staticTypes := #[.long, .int, (.array (.object "java/lang/Object")), (.array (.object "java/lang/Object"))]
  resolved := Array.replicate 509 none
  statics := some 1 }

def pool18 : Array CpInfo := pool [(1, .methodref 2 3), (0, .class_ 4), (0, .nameAndType 5 6), (0, u "java/lang/Object"), (0, u "<init>"), (0, u "()V"), (0, .class_ 8), (0, u "java/lang/Record")] 13

def k18c0 : Code := { maxStack := 1, maxLocals := 1, code := jdk_30_method_1_code, exceptionTable := #[], attributes := #[] }
def k18m0 : Method := { name := "<init>", desc := "()V", sig := { parameters := [], returnType := none }, accessFlags := 4, code := some k18c0 }
/-- java/lang/Record -/
def k18 : Class := { plain "java/lang/Record" (some 0) with
  accessFlags := 1057
  interfaces := #[]
  cf := some (fileOf pool18 7 #[] #[{ accessFlags := 4, nameIndex := 5, descriptorIndex := 6, attributes := #[] }] 1057 2 #[] #[])
  fields := #[]
  methods := #[k18m0]
  instanceTypes := #[]
  staticTypes := #[]
  resolved := Array.replicate 22 none
  statics := none }

def pool19 : Array CpInfo := pool [(1, .methodref 2 3), (0, .class_ 4), (0, .nameAndType 5 6), (0, u "java/lang/Record"), (0, u "<init>"), (0, u "()V"), (0, .interfaceMethodref 8 9), (0, .class_ 10), (0, .nameAndType 11 12), (0, u "java/util/List"), (0, u "copyOf"), (0, u "(Ljava/util/Collection;)Ljava/util/List;"), (0, .fieldref 14 15), (0, .class_ 16), (0, .nameAndType 17 18), (0, u "com/example/causeway/causeway/formats/OaiDcUnit"), (0, u "number"), (0, u "I"), (0, .fieldref 14 20), (0, .nameAndType 21 22), (0, u "location"), (0, u "Ljava/lang/String;"), (0, .fieldref 14 24), (0, .nameAndType 25 22), (0, u "source"), (0, .fieldref 14 27), (0, .nameAndType 28 29), (0, u "values"), (0, u "Ljava/util/List;"), (0, .fieldref 14 31), (0, .nameAndType 32 22), (0, u "problem"), (0, .methodref 14 34), (0, .nameAndType 5 35), (0, u "(ILjava/lang/String;Ljava/lang/String;Ljava/util/List;Ljava/lang/String;)V"), (0, .interfaceMethodref 8 37), (0, .nameAndType 38 39), (0, u "of"), (0, u "()Ljava/util/List;"), (18, u "read"), (0, u "(ILjava/lang/String;Ljava/lang/String;Ljava/util/List;)Lcom/example/causeway/causeway/formats/OaiDcUnit;"), (1, u "setAside"), (0, u "(ILjava/lang/String;Ljava/lang/String;)Lcom/example/causeway/causeway/formats/OaiDcUnit;"), (0, u "isSetAside"), (0, u "()Z")] 29

def k19c0 : Code := { maxStack := 2, maxLocals := 6, code := prog_51_method_1_code, exceptionTable := #[], attributes := #[] }
def k19m0 : Method := { name := "<init>", desc := "(ILjava/lang/String;Ljava/lang/String;Ljava/util/List;Ljava/lang/String;)V", sig := { parameters := [.int, (.object "java/lang/String"), (.object "java/lang/String"), (.object "java/util/List"), (.object "java/lang/String")], returnType := none }, accessFlags := 1, code := some k19c0 }
def k19c1 : Code := { maxStack := 7, maxLocals := 4, code := prog_51_method_2_code, exceptionTable := #[], attributes := #[] }
def k19m1 : Method := { name := "read", desc := "(ILjava/lang/String;Ljava/lang/String;Ljava/util/List;)Lcom/example/causeway/causeway/formats/OaiDcUnit;", sig := { parameters := [.int, (.object "java/lang/String"), (.object "java/lang/String"), (.object "java/util/List")], returnType := some (.object "com/example/causeway/causeway/formats/OaiDcUnit") }, accessFlags := 8, code := some k19c1 }
def k19c2 : Code := { maxStack := 7, maxLocals := 3, code := prog_51_method_3_code, exceptionTable := #[], attributes := #[] }
def k19m2 : Method := { name := "setAside", desc := "(ILjava/lang/String;Ljava/lang/String;)Lcom/example/causeway/causeway/formats/OaiDcUnit;", sig := { parameters := [.int, (.object "java/lang/String"), (.object "java/lang/String")], returnType := some (.object "com/example/causeway/causeway/formats/OaiDcUnit") }, accessFlags := 8, code := some k19c2 }
def k19c3 : Code := { maxStack := 1, maxLocals := 1, code := prog_51_method_4_code, exceptionTable := #[], attributes := #[] }
def k19m3 : Method := { name := "isSetAside", desc := "()Z", sig := { parameters := [], returnType := some .boolean }, accessFlags := 1, code := some k19c3 }
/-- com/example/causeway/causeway/formats/OaiDcUnit -/
def k19 : Class := { plain "com/example/causeway/causeway/formats/OaiDcUnit" (some 18) with
  accessFlags := 49
  interfaces := #[]
  cf := some (fileOf pool19 14 #[] #[{ accessFlags := 1, nameIndex := 5, descriptorIndex := 35, attributes := #[] }, { accessFlags := 8, nameIndex := 58, descriptorIndex := 59, attributes := #[] }, { accessFlags := 8, nameIndex := 61, descriptorIndex := 62, attributes := #[] }, { accessFlags := 1, nameIndex := 63, descriptorIndex := 64, attributes := #[] }] 49 2 #[] #[{ accessFlags := 18, nameIndex := 17, descriptorIndex := 18, attributes := #[] }, { accessFlags := 18, nameIndex := 21, descriptorIndex := 22, attributes := #[] }, { accessFlags := 18, nameIndex := 25, descriptorIndex := 22, attributes := #[] }, { accessFlags := 18, nameIndex := 28, descriptorIndex := 29, attributes := #[] }, { accessFlags := 18, nameIndex := 32, descriptorIndex := 22, attributes := #[] }])
  fields := #[{ name := "number", type := .int, accessFlags := 18, slot := 0, constantValue := 0 }, { name := "location", type := (.object "java/lang/String"), accessFlags := 18, slot := 1, constantValue := 0 }, { name := "source", type := (.object "java/lang/String"), accessFlags := 18, slot := 2, constantValue := 0 }, { name := "values", type := (.object "java/util/List"), accessFlags := 18, slot := 3, constantValue := 0 }, { name := "problem", type := (.object "java/lang/String"), accessFlags := 18, slot := 4, constantValue := 0 }]
  methods := #[k19m0, k19m1, k19m2, k19m3]
  instanceTypes := #[.int, (.object "java/lang/String"), (.object "java/lang/String"), (.object "java/util/List"), (.object "java/lang/String")]
  staticTypes := #[]
  resolved := Array.replicate 94 none
  statics := none }

def pool20 : Array CpInfo := pool [(2, .class_ 4), (1, u "java/lang/Object"), (0, u "<init>"), (0, u "()V"), (3, .class_ 11), (0, u "java/util/ImmutableCollections$List12"), (0, .class_ 13), (0, u "java/util/ImmutableCollections$ListN"), (0, .fieldref 12 15), (0, .nameAndType 16 17), (0, u "allowNulls"), (0, u "Z"), (0, .class_ 19), (0, u "java/util/List"), (0, .interfaceMethodref 21 22), (0, .class_ 23), (0, .nameAndType 24 25), (0, u "java/util/Collection"), (0, u "isEmpty"), (0, u "()Z"), (0, .interfaceMethodref 18 27), (0, .nameAndType 28 29), (0, u "of"), (0, u "()Ljava/util/List;"), (0, .interfaceMethodref 21 31), (0, .nameAndType 32 33), (0, u "toArray"), (0, u "()[Ljava/lang/Object;"), (0, .interfaceMethodref 18 35), (0, .nameAndType 28 36), (0, u "([Ljava/lang/Object;)Ljava/util/List;"), (10, .class_ 49), (1, u "java/util/ImmutableCollections"), (0, u "$assertionsDisabled"), (5, u "[Ljava/lang/Object;"), (5, u "EMPTY_LIST"), (0, u "Ljava/util/ImmutableCollections$ListN;"), (8, u "EMPTY_LIST_NULLS"), (22, u "SALT32L"), (0, u "J"), (2, u "REVERSE"), (6, u "archivedObjects"), (2, u "EMPTY"), (0, u "Ljava/lang/Object;"), (0, .class_ 112), (0, u "java/util/ImmutableCollections$SetN"), (5, u "EMPTY_SET"), (0, u "Ljava/util/ImmutableCollections$SetN;"), (0, .class_ 121), (0, u "java/util/ImmutableCollections$MapN"), (3, u "EMPTY_MAP"), (0, u "Ljava/util/ImmutableCollections$MapN;"), (4, u "EXPAND_FACTOR"), (0, u "I"), (9, u "listCopy"), (0, u "(Ljava/util/Collection;)Ljava/util/List;"), (25, .class_ 170), (0, u "java/util/ImmutableCollections$MapN$MapNIterator"), (0, .class_ 172), (0, u "java/util/ImmutableCollections$MapN$1"), (0, .class_ 174), (0, u "java/util/ImmutableCollections$Map1"), (0, .class_ 176), (0, u "java/util/ImmutableCollections$AbstractImmutableMap"), (0, .class_ 178), (0, u "java/util/ImmutableCollections$SetN$SetNIterator"), (0, .class_ 180), (0, u "java/util/ImmutableCollections$Set12"), (0, .class_ 182), (0, u "java/util/ImmutableCollections$Set12$1"), (0, .class_ 184), (0, u "java/util/ImmutableCollections$AbstractImmutableSet"), (0, .class_ 186), (0, u "java/util/ImmutableCollections$SubList"), (0, .class_ 188), (0, u "java/util/ImmutableCollections$ListItr"), (0, .class_ 190), (0, u "java/util/ImmutableCollections$AbstractImmutableList"), (0, .class_ 192), (0, u "java/util/ImmutableCollections$AbstractImmutableCollection"), (0, .class_ 194), (0, u "java/util/ImmutableCollections$Access"), (0, .class_ 196), (0, u "java/util/ImmutableCollections$Access$1")] 16

def k20m0 : Method := { name := "<init>", desc := "()V", sig := { parameters := [], returnType := none }, accessFlags := 2, code := none }
def k20c1 : Code := { maxStack := 1, maxLocals := 2, code := jdk_56_method_3_code, exceptionTable := #[], attributes := #[] }
def k20m1 : Method := { name := "listCopy", desc := "(Ljava/util/Collection;)Ljava/util/List;", sig := { parameters := [(.object "java/util/Collection")], returnType := some (.object "java/util/List") }, accessFlags := 8, code := some k20c1 }
/-- java/util/ImmutableCollections -/
def k20 : Class := { plain "java/util/ImmutableCollections" (some 0) with
  accessFlags := 32
  interfaces := #[]
  cf := some (fileOf pool20 47 #[.nestMembers #[120, 169, 171, 173, 175, 111, 177, 179, 181, 183, 12, 10, 185, 187, 189, 191, 193, 195]] #[{ accessFlags := 2, nameIndex := 5, descriptorIndex := 6, attributes := #[] }, { accessFlags := 8, nameIndex := 142, descriptorIndex := 143, attributes := #[] }] 32 2 #[] #[{ accessFlags := 26, nameIndex := 95, descriptorIndex := 96, attributes := #[] }, { accessFlags := 26, nameIndex := 99, descriptorIndex := 17, attributes := #[] }, { accessFlags := 10, nameIndex := 106, descriptorIndex := 56, attributes := #[] }, { accessFlags := 26, nameIndex := 109, descriptorIndex := 110, attributes := #[] }, { accessFlags := 24, nameIndex := 62, descriptorIndex := 63, attributes := #[] }, { accessFlags := 24, nameIndex := 72, descriptorIndex := 63, attributes := #[] }, { accessFlags := 24, nameIndex := 118, descriptorIndex := 119, attributes := #[] }, { accessFlags := 24, nameIndex := 125, descriptorIndex := 126, attributes := #[] }, { accessFlags := 24, nameIndex := 131, descriptorIndex := 132, attributes := #[] }, { accessFlags := 4120, nameIndex := 50, descriptorIndex := 17, attributes := #[] }])
  fields := #[{ name := "SALT32L", type := .long, accessFlags := 26, slot := 0, constantValue := 0 }, { name := "REVERSE", type := .boolean, accessFlags := 26, slot := 1, constantValue := 0 }, { name := "archivedObjects", type := (.array (.object "java/lang/Object")), accessFlags := 10, slot := 2, constantValue := 0 }, { name := "EMPTY", type := (.object "java/lang/Object"), accessFlags := 26, slot := 3, constantValue := 0 }, { name := "EMPTY_LIST", type := (.object "java/util/ImmutableCollections$ListN"), accessFlags := 24, slot := 4, constantValue := 0 }, { name := "EMPTY_LIST_NULLS", type := (.object "java/util/ImmutableCollections$ListN"), accessFlags := 24, slot := 5, constantValue := 0 }, { name := "EMPTY_SET", type := (.object "java/util/ImmutableCollections$SetN"), accessFlags := 24, slot := 6, constantValue := 0 }, { name := "EMPTY_MAP", type := (.object "java/util/ImmutableCollections$MapN"), accessFlags := 24, slot := 7, constantValue := 0 }, { name := "EXPAND_FACTOR", type := .int, accessFlags := 24, slot := 8, constantValue := 0 }, { name := "$assertionsDisabled", type := .boolean, accessFlags := 4120, slot := 9, constantValue := 0 }]
  methods := #[k20m0, k20m1]
  instanceTypes := #[]
  staticTypes := #[.long, .boolean, (.array (.object "java/lang/Object")), (.object "java/lang/Object"), (.object "java/util/ImmutableCollections$ListN"), (.object "java/util/ImmutableCollections$ListN"), (.object "java/util/ImmutableCollections$SetN"), (.object "java/util/ImmutableCollections$MapN"), .int, .boolean]
  resolved := Array.replicate 213 none
  statics := some 2 }

def pool21 : Array CpInfo := pool [(1, .methodref 2 3), (0, .class_ 4), (0, .nameAndType 5 6), (0, u "java/util/AbstractCollection"), (0, u "<init>"), (0, u "()V"), (1, .class_ 10), (1, u "java/util/ImmutableCollections"), (2, .class_ 14), (0, u "java/util/ImmutableCollections$AbstractImmutableCollection")] 41

def k21c0 : Code := { maxStack := 1, maxLocals := 1, code := jdk_47_method_1_code, exceptionTable := #[], attributes := #[] }
def k21m0 : Method := { name := "<init>", desc := "()V", sig := { parameters := [], returnType := none }, accessFlags := 0, code := some k21c0 }
/-- java/util/ImmutableCollections$AbstractImmutableCollection -/
def k21 : Class := { plain "java/util/ImmutableCollections$AbstractImmutableCollection" (some 11) with
  accessFlags := 1056
  interfaces := #[]
  cf := some (fileOf pool21 13 #[.nestHost 8] #[{ accessFlags := 0, nameIndex := 5, descriptorIndex := 6, attributes := #[] }] 1056 2 #[] #[])
  fields := #[]
  methods := #[k21m0]
  instanceTypes := #[]
  staticTypes := #[]
  resolved := Array.replicate 56 none
  statics := none }

def pool22 : Array CpInfo := pool [(1, .methodref 2 3), (0, .class_ 4), (0, .nameAndType 5 6), (0, u "java/util/ImmutableCollections$AbstractImmutableCollection"), (0, u "<init>"), (0, u "()V"), (1, .class_ 10), (1, u "java/util/ImmutableCollections"), (3, .class_ 16), (1, u "java/util/ImmutableCollections$AbstractImmutableList"), (60, .class_ 78), (0, u "java/util/List"), (45, .class_ 125), (0, u "java/util/RandomAccess")] 70

def k22c0 : Code := { maxStack := 1, maxLocals := 1, code := jdk_46_method_1_code, exceptionTable := #[], attributes := #[] }
def k22m0 : Method := { name := "<init>", desc := "()V", sig := { parameters := [], returnType := none }, accessFlags := 0, code := some k22c0 }
/-- java/util/ImmutableCollections$AbstractImmutableList -/
def k22 : Class := { plain "java/util/ImmutableCollections$AbstractImmutableList" (some 21) with
  accessFlags := 1056
  interfaces := #[13, 15]
  cf := some (fileOf pool22 14 #[.nestHost 8] #[{ accessFlags := 0, nameIndex := 5, descriptorIndex := 6, attributes := #[] }] 1056 2 #[77, 124] #[])
  fields := #[]
  methods := #[k22m0]
  instanceTypes := #[]
  staticTypes := #[]
  resolved := Array.replicate 196 none
  statics := none }

def pool23 : Array CpInfo := pool [(1, .methodref 2 3), (0, .class_ 4), (0, .nameAndType 5 6), (0, u "java/util/ImmutableCollections$AbstractImmutableList"), (0, u "<init>"), (0, u "()V"), (0, .methodref 8 9), (0, .class_ 10), (0, .nameAndType 11 12), (0, u "java/util/Objects"), (0, u "requireNonNull"), (0, u "(Ljava/lang/Object;)Ljava/lang/Object;"), (0, .fieldref 14 15), (0, .class_ 16), (0, .nameAndType 17 18), (0, u "java/util/ImmutableCollections$List12"), (0, u "e0"), (0, u "Ljava/lang/Object;"), (0, .fieldref 20 21), (0, .class_ 22), (0, .nameAndType 23 18), (0, u "java/util/ImmutableCollections"), (0, u "EMPTY"), (0, .fieldref 14 25), (0, .nameAndType 26 18), (0, u "e1"), (43, .class_ 71), (0, u "java/io/Serializable"), (4, u "(Ljava/lang/Object;)V")] 48

def k23c0 : Code := { maxStack := 2, maxLocals := 2, code := jdk_44_method_1_code, exceptionTable := #[], attributes := #[] }
def k23m0 : Method := { name := "<init>", desc := "(Ljava/lang/Object;)V", sig := { parameters := [(.object "java/lang/Object")], returnType := none }, accessFlags := 0, code := some k23c0 }
/-- java/util/ImmutableCollections$List12 -/
def k23 : Class := { plain "java/util/ImmutableCollections$List12" (some 22) with
  accessFlags := 48
  interfaces := #[2]
  cf := some (fileOf pool23 14 #[.nestHost 20] #[{ accessFlags := 0, nameIndex := 5, descriptorIndex := 76, attributes := #[] }] 48 2 #[70] #[{ accessFlags := 18, nameIndex := 17, descriptorIndex := 18, attributes := #[] }, { accessFlags := 18, nameIndex := 26, descriptorIndex := 18, attributes := #[] }])
  fields := #[{ name := "e0", type := (.object "java/lang/Object"), accessFlags := 18, slot := 0, constantValue := 0 }, { name := "e1", type := (.object "java/lang/Object"), accessFlags := 18, slot := 1, constantValue := 0 }]
  methods := #[k23m0]
  instanceTypes := #[(.object "java/lang/Object"), (.object "java/lang/Object")]
  staticTypes := #[]
  resolved := Array.replicate 125 none
  statics := none }

def pool24 : Array CpInfo := pool [(2, .class_ 4), (1, u "java/util/ImmutableCollections$AbstractImmutableList"), (3, .class_ 10), (1, u "java/util/ImmutableCollections$ListN"), (0, u "elements"), (0, u "[Ljava/lang/Object;"), (2, u "allowNulls"), (0, u "Z"), (42, .class_ 60), (0, u "java/io/Serializable"), (53, .class_ 115), (0, u "java/util/ImmutableCollections")] 3

/-- java/util/ImmutableCollections$ListN -/
def k24 : Class := { plain "java/util/ImmutableCollections$ListN" (some 22) with
  accessFlags := 48
  interfaces := #[2]
  cf := some (fileOf pool24 8 #[.nestHost 114] #[] 48 2 #[59] #[{ accessFlags := 18, nameIndex := 11, descriptorIndex := 12, attributes := #[] }, { accessFlags := 18, nameIndex := 15, descriptorIndex := 16, attributes := #[] }])
  fields := #[{ name := "elements", type := (.array (.object "java/lang/Object")), accessFlags := 18, slot := 0, constantValue := 0 }, { name := "allowNulls", type := .boolean, accessFlags := 18, slot := 1, constantValue := 0 }]
  methods := #[]
  instanceTypes := #[(.array (.object "java/lang/Object")), .boolean]
  staticTypes := #[]
  resolved := Array.replicate 119 none
  statics := none }

def pool25 : Array CpInfo := pool [(6, .class_ 8), (1, u "java/lang/Object"), (0, u "<init>"), (0, u "()V"), (1, .class_ 14), (1, u "java/lang/StringUTF16"), (31, u "$assertionsDisabled"), (0, u "Z"), (13, u "HI_BYTE_SHIFT"), (0, u "I"), (2, u "LO_BYTE_SHIFT"), (49, .methodref 12 116), (0, .nameAndType 117 118), (0, u "compress"), (0, u "([CI[BII)I"), (3, u "([CII)[B"), (138, u "coderFromArrayLen"), (0, u "([BI)B"), (106, .class_ 371), (1, u "java/lang/StringUTF16$LinesSpliterator"), (58, u "MAX_LENGTH"), (196, .class_ 628), (0, u "java/lang/StringUTF16$CodePointsSpliterator"), (0, .class_ 630), (0, u "java/lang/StringUTF16$CharsSpliterator")] 4

def k25m0 : Method := { name := "<init>", desc := "()V", sig := { parameters := [], returnType := none }, accessFlags := 0, code := none }
def k25c1 : Code := { maxStack := 2, maxLocals := 2, code := jdk_52_method_15_code, exceptionTable := #[], attributes := #[] }
def k25m1 : Method := { name := "coderFromArrayLen", desc := "([BI)B", sig := { parameters := [(.array .byte), .int], returnType := some .byte }, accessFlags := 8, code := some k25c1 }
def k25c2 : Code := { maxStack := 5, maxLocals := 6, code := jdk_52_method_16_code, exceptionTable := #[], attributes := #[] }
def k25m2 : Method := { name := "compress", desc := "([CII)[B", sig := { parameters := [(.array .char), .int, .int], returnType := some (.array .byte) }, accessFlags := 9, code := some k25c2 }
def k25c3 : Code := { maxStack := 3, maxLocals := 7, code := jdk_52_method_21_code, exceptionTable := #[], attributes := #[] }
def k25m3 : Method := { name := "compress", desc := "([CI[BII)I", sig := { parameters := [(.array .char), .int, (.array .byte), .int, .int], returnType := some .int }, accessFlags := 9, code := some k25c3 }
/-- java/lang/StringUTF16 -/
def k25 : Class := { plain "java/lang/StringUTF16" (some 0) with
  accessFlags := 48
  interfaces := #[]
  cf := some (fileOf pool25 12 #[.nestMembers #[627, 629, 369]] #[{ accessFlags := 0, nameIndex := 9, descriptorIndex := 10, attributes := #[] }, { accessFlags := 8, nameIndex := 261, descriptorIndex := 262, attributes := #[] }, { accessFlags := 9, nameIndex := 117, descriptorIndex := 122, attributes := #[] }, { accessFlags := 9, nameIndex := 117, descriptorIndex := 118, attributes := #[] }] 48 6 #[] #[{ accessFlags := 26, nameIndex := 61, descriptorIndex := 62, attributes := #[] }, { accessFlags := 26, nameIndex := 65, descriptorIndex := 62, attributes := #[] }, { accessFlags := 24, nameIndex := 430, descriptorIndex := 62, attributes := #[] }, { accessFlags := 4120, nameIndex := 46, descriptorIndex := 47, attributes := #[] }])
  fields := #[{ name := "HI_BYTE_SHIFT", type := .int, accessFlags := 26, slot := 0, constantValue := 0 }, { name := "LO_BYTE_SHIFT", type := .int, accessFlags := 26, slot := 1, constantValue := 0 }, { name := "MAX_LENGTH", type := .int, accessFlags := 24, slot := 2, constantValue := 0 }, { name := "$assertionsDisabled", type := .boolean, accessFlags := 4120, slot := 3, constantValue := 0 }]
  methods := #[k25m0, k25m1, k25m2, k25m3]
  instanceTypes := #[]
  staticTypes := #[.int, .int, .int, .boolean]
  resolved := Array.replicate 635 none
  statics := none }

def pool26 : Array CpInfo := pool [(1, .methodref 2 3), (0, .class_ 4), (0, .nameAndType 5 6), (0, u "java/lang/Record"), (0, u "<init>"), (0, u "()V"), (0, .fieldref 8 9), (0, .class_ 10), (0, .nameAndType 11 12), (0, u "com/example/causeway/causeway/formats/DcValue"), (0, u "element"), (0, u "Lcom/example/causeway/causeway/formats/DcElement;"), (0, .fieldref 8 14), (0, .nameAndType 15 16), (0, u "value"), (0, u "Ljava/lang/String;"), (0, .fieldref 8 18), (0, .nameAndType 19 16), (0, u "language"), (0, .methodref 8 21), (0, .nameAndType 5 22), (0, u "(Lcom/example/causeway/causeway/formats/DcElement;Ljava/lang/String;Ljava/lang/String;)V"), (12, u "(Lcom/example/causeway/causeway/formats/DcElement;Ljava/lang/String;)V")] 31

def k26c0 : Code := { maxStack := 4, maxLocals := 3, code := prog_36_method_1_code, exceptionTable := #[], attributes := #[] }
def k26m0 : Method := { name := "<init>", desc := "(Lcom/example/causeway/causeway/formats/DcElement;Ljava/lang/String;)V", sig := { parameters := [(.object "com/example/causeway/causeway/formats/DcElement"), (.object "java/lang/String")], returnType := none }, accessFlags := 1, code := some k26c0 }
def k26c1 : Code := { maxStack := 2, maxLocals := 4, code := prog_36_method_2_code, exceptionTable := #[], attributes := #[] }
def k26m1 : Method := { name := "<init>", desc := "(Lcom/example/causeway/causeway/formats/DcElement;Ljava/lang/String;Ljava/lang/String;)V", sig := { parameters := [(.object "com/example/causeway/causeway/formats/DcElement"), (.object "java/lang/String"), (.object "java/lang/String")], returnType := none }, accessFlags := 1, code := some k26c1 }
/-- com/example/causeway/causeway/formats/DcValue -/
def k26 : Class := { plain "com/example/causeway/causeway/formats/DcValue" (some 18) with
  accessFlags := 49
  interfaces := #[]
  cf := some (fileOf pool26 8 #[] #[{ accessFlags := 1, nameIndex := 5, descriptorIndex := 35, attributes := #[] }, { accessFlags := 1, nameIndex := 5, descriptorIndex := 22, attributes := #[] }] 49 2 #[] #[{ accessFlags := 18, nameIndex := 11, descriptorIndex := 12, attributes := #[] }, { accessFlags := 18, nameIndex := 15, descriptorIndex := 16, attributes := #[] }, { accessFlags := 18, nameIndex := 19, descriptorIndex := 16, attributes := #[] }])
  fields := #[{ name := "element", type := (.object "com/example/causeway/causeway/formats/DcElement"), accessFlags := 18, slot := 0, constantValue := 0 }, { name := "value", type := (.object "java/lang/String"), accessFlags := 18, slot := 1, constantValue := 0 }, { name := "language", type := (.object "java/lang/String"), accessFlags := 18, slot := 2, constantValue := 0 }]
  methods := #[k26m0, k26m1]
  instanceTypes := #[(.object "com/example/causeway/causeway/formats/DcElement"), (.object "java/lang/String"), (.object "java/lang/String")]
  staticTypes := #[]
  resolved := Array.replicate 67 none
  statics := none }

def pool27 : Array CpInfo := pool [(2, .class_ 4), (1, u "java/lang/Enum"), (0, u "name"), (0, u "Ljava/lang/String;"), (2, u "ordinal"), (0, u "I"), (1, .class_ 14), (1, u "java/lang/Object"), (4, u "hash"), (86, .class_ 108), (1, u "java/lang/Enum$EnumDesc"), (2, .class_ 112), (0, u "java/lang/constant/Constable"), (0, .class_ 114), (0, u "java/lang/Comparable"), (0, .class_ 116), (0, u "java/io/Serializable")] 87

/-- java/lang/Enum -/
def k27 : Class := { plain "java/lang/Enum" (some 0) with
  accessFlags := 1057
  interfaces := #[5, 3, 2]
  cf := some (fileOf pool27 2 #[.nestMembers #[106]] #[] 1057 12 #[111, 113, 115] #[{ accessFlags := 18, nameIndex := 5, descriptorIndex := 6, attributes := #[] }, { accessFlags := 18, nameIndex := 9, descriptorIndex := 10, attributes := #[] }, { accessFlags := 2, nameIndex := 19, descriptorIndex := 10, attributes := #[] }])
  fields := #[{ name := "name", type := (.object "java/lang/String"), accessFlags := 18, slot := 0, constantValue := 0 }, { name := "ordinal", type := .int, accessFlags := 18, slot := 1, constantValue := 0 }, { name := "hash", type := .int, accessFlags := 2, slot := 2, constantValue := 0 }]
  methods := #[]
  instanceTypes := #[(.object "java/lang/String"), .int, .int]
  staticTypes := #[]
  resolved := Array.replicate 204 none
  statics := none }

def pool28 : Array CpInfo := pool [(1, .class_ 2), (0, u "com/example/causeway/causeway/formats/DcElement"), (2, u "TITLE"), (0, u "Lcom/example/causeway/causeway/formats/DcElement;"), (2, u "CREATOR"), (2, u "SUBJECT"), (2, u "DESCRIPTION"), (2, u "PUBLISHER"), (2, u "CONTRIBUTOR"), (2, u "DATE"), (2, u "TYPE"), (2, u "FORMAT"), (2, u "IDENTIFIER"), (2, u "SOURCE"), (2, u "LANGUAGE"), (2, u "RELATION"), (2, u "COVERAGE"), (2, u "RIGHTS"), (2, u "$VALUES"), (0, u "[Lcom/example/causeway/causeway/formats/DcElement;"), (6, .class_ 61), (1, u "java/lang/Enum"), (8, u "localName"), (0, u "Ljava/lang/String;"), (71, u "NAMESPACE")] 19

/-- com/example/causeway/causeway/formats/DcElement -/
def k28 : Class := { plain "com/example/causeway/causeway/formats/DcElement" (some 27) with
  accessFlags := 16433
  interfaces := #[]
  cf := some (fileOf pool28 1 #[] #[] 16433 59 #[] #[{ accessFlags := 16409, nameIndex := 5, descriptorIndex := 6, attributes := #[] }, { accessFlags := 16409, nameIndex := 9, descriptorIndex := 6, attributes := #[] }, { accessFlags := 16409, nameIndex := 12, descriptorIndex := 6, attributes := #[] }, { accessFlags := 16409, nameIndex := 15, descriptorIndex := 6, attributes := #[] }, { accessFlags := 16409, nameIndex := 18, descriptorIndex := 6, attributes := #[] }, { accessFlags := 16409, nameIndex := 21, descriptorIndex := 6, attributes := #[] }, { accessFlags := 16409, nameIndex := 24, descriptorIndex := 6, attributes := #[] }, { accessFlags := 16409, nameIndex := 27, descriptorIndex := 6, attributes := #[] }, { accessFlags := 16409, nameIndex := 30, descriptorIndex := 6, attributes := #[] }, { accessFlags := 16409, nameIndex := 33, descriptorIndex := 6, attributes := #[] }, { accessFlags := 16409, nameIndex := 36, descriptorIndex := 6, attributes := #[] }, { accessFlags := 16409, nameIndex := 39, descriptorIndex := 6, attributes := #[] }, { accessFlags := 16409, nameIndex := 42, descriptorIndex := 6, attributes := #[] }, { accessFlags := 16409, nameIndex := 45, descriptorIndex := 6, attributes := #[] }, { accessFlags := 16409, nameIndex := 48, descriptorIndex := 6, attributes := #[] }, { accessFlags := 25, nameIndex := 143, descriptorIndex := 71, attributes := #[] }, { accessFlags := 18, nameIndex := 70, descriptorIndex := 71, attributes := #[] }, { accessFlags := 4122, nameIndex := 51, descriptorIndex := 52, attributes := #[] }])
  fields := #[{ name := "TITLE", type := (.object "com/example/causeway/causeway/formats/DcElement"), accessFlags := 16409, slot := 0, constantValue := 0 }, { name := "CREATOR", type := (.object "com/example/causeway/causeway/formats/DcElement"), accessFlags := 16409, slot := 1, constantValue := 0 }, { name := "SUBJECT", type := (.object "com/example/causeway/causeway/formats/DcElement"), accessFlags := 16409, slot := 2, constantValue := 0 }, { name := "DESCRIPTION", type := (.object "com/example/causeway/causeway/formats/DcElement"), accessFlags := 16409, slot := 3, constantValue := 0 }, { name := "PUBLISHER", type := (.object "com/example/causeway/causeway/formats/DcElement"), accessFlags := 16409, slot := 4, constantValue := 0 }, { name := "CONTRIBUTOR", type := (.object "com/example/causeway/causeway/formats/DcElement"), accessFlags := 16409, slot := 5, constantValue := 0 }, { name := "DATE", type := (.object "com/example/causeway/causeway/formats/DcElement"), accessFlags := 16409, slot := 6, constantValue := 0 }, { name := "TYPE", type := (.object "com/example/causeway/causeway/formats/DcElement"), accessFlags := 16409, slot := 7, constantValue := 0 }, { name := "FORMAT", type := (.object "com/example/causeway/causeway/formats/DcElement"), accessFlags := 16409, slot := 8, constantValue := 0 }, { name := "IDENTIFIER", type := (.object "com/example/causeway/causeway/formats/DcElement"), accessFlags := 16409, slot := 9, constantValue := 0 }, { name := "SOURCE", type := (.object "com/example/causeway/causeway/formats/DcElement"), accessFlags := 16409, slot := 10, constantValue := 0 }, { name := "LANGUAGE", type := (.object "com/example/causeway/causeway/formats/DcElement"), accessFlags := 16409, slot := 11, constantValue := 0 }, { name := "RELATION", type := (.object "com/example/causeway/causeway/formats/DcElement"), accessFlags := 16409, slot := 12, constantValue := 0 }, { name := "COVERAGE", type := (.object "com/example/causeway/causeway/formats/DcElement"), accessFlags := 16409, slot := 13, constantValue := 0 }, { name := "RIGHTS", type := (.object "com/example/causeway/causeway/formats/DcElement"), accessFlags := 16409, slot := 14, constantValue := 0 }, { name := "NAMESPACE", type := (.object "java/lang/String"), accessFlags := 25, slot := 15, constantValue := 0 }, { name := "localName", type := (.object "java/lang/String"), accessFlags := 18, slot := 3, constantValue := 0 }, { name := "$VALUES", type := (.array (.object "com/example/causeway/causeway/formats/DcElement")), accessFlags := 4122, slot := 16, constantValue := 0 }]
  methods := #[]
  instanceTypes := #[(.object "java/lang/String"), .int, .int, (.object "java/lang/String")]
  staticTypes := #[(.object "com/example/causeway/causeway/formats/DcElement"), (.object "com/example/causeway/causeway/formats/DcElement"), (.object "com/example/causeway/causeway/formats/DcElement"), (.object "com/example/causeway/causeway/formats/DcElement"), (.object "com/example/causeway/causeway/formats/DcElement"), (.object "com/example/causeway/causeway/formats/DcElement"), (.object "com/example/causeway/causeway/formats/DcElement"), (.object "com/example/causeway/causeway/formats/DcElement"), (.object "com/example/causeway/causeway/formats/DcElement"), (.object "com/example/causeway/causeway/formats/DcElement"), (.object "com/example/causeway/causeway/formats/DcElement"), (.object "com/example/causeway/causeway/formats/DcElement"), (.object "com/example/causeway/causeway/formats/DcElement"), (.object "com/example/causeway/causeway/formats/DcElement"), (.object "com/example/causeway/causeway/formats/DcElement"), (.object "java/lang/String"), (.array (.object "com/example/causeway/causeway/formats/DcElement"))]
  resolved := Array.replicate 163 none
  statics := some 3 }

def pool29 : Array CpInfo := pool [(1, .class_ 2), (0, u "java/lang/Math"), (1, .class_ 6), (1, u "java/lang/Object"), (0, u "<init>"), (0, u "()V"), (89, .class_ 100), (1, u "java/lang/Math$RandomNumberGeneratorHolder"), (71, u "negativeZeroFloatBits"), (0, u "J"), (2, u "negativeZeroDoubleBits"), (21, u "max"), (2, u "min"), (43, u "$assertionsDisabled"), (0, u "Z"), (88, u "(II)I"), (2, u "twoToTheDoubleScaleDown"), (0, u "D"), (4, u "twoToTheDoubleScaleUp"), (9, u "E"), (3, u "PI"), (2, u "TAU"), (2, u "DEGREES_TO_RADIANS"), (0, u "RADIANS_TO_DEGREES")] 94

def k29m0 : Method := { name := "<init>", desc := "()V", sig := { parameters := [], returnType := none }, accessFlags := 2, code := none }
def k29c1 : Code := { maxStack := 2, maxLocals := 2, code := jdk_29_method_65_code, exceptionTable := #[], attributes := #[] }
def k29m1 : Method := { name := "max", desc := "(II)I", sig := { parameters := [.int, .int], returnType := some .int }, accessFlags := 9, code := some k29c1 }
def k29c2 : Code := { maxStack := 2, maxLocals := 2, code := jdk_29_method_69_code, exceptionTable := #[], attributes := #[] }
def k29m2 : Method := { name := "min", desc := "(II)I", sig := { parameters := [.int, .int], returnType := some .int }, accessFlags := 9, code := some k29c2 }
/-- java/lang/Math -/
def k29 : Class := { plain "java/lang/Math" (some 0) with
  accessFlags := 49
  interfaces := #[]
  cf := some (fileOf pool29 1 #[.nestMembers #[98]] #[{ accessFlags := 2, nameIndex := 7, descriptorIndex := 8, attributes := #[] }, { accessFlags := 9, nameIndex := 198, descriptorIndex := 335, attributes := #[] }, { accessFlags := 9, nameIndex := 201, descriptorIndex := 335, attributes := #[] }] 49 4 #[] #[{ accessFlags := 25, nameIndex := 354, descriptorIndex := 339, attributes := #[] }, { accessFlags := 25, nameIndex := 358, descriptorIndex := 339, attributes := #[] }, { accessFlags := 25, nameIndex := 361, descriptorIndex := 339, attributes := #[] }, { accessFlags := 26, nameIndex := 364, descriptorIndex := 339, attributes := #[] }, { accessFlags := 26, nameIndex := 365, descriptorIndex := 339, attributes := #[] }, { accessFlags := 26, nameIndex := 172, descriptorIndex := 173, attributes := #[] }, { accessFlags := 26, nameIndex := 176, descriptorIndex := 173, attributes := #[] }, { accessFlags := 8, nameIndex := 344, descriptorIndex := 339, attributes := #[] }, { accessFlags := 8, nameIndex := 338, descriptorIndex := 339, attributes := #[] }, { accessFlags := 4120, nameIndex := 245, descriptorIndex := 246, attributes := #[] }])
  fields := #[{ name := "E", type := .double, accessFlags := 25, slot := 0, constantValue := 0 }, { name := "PI", type := .double, accessFlags := 25, slot := 1, constantValue := 0 }, { name := "TAU", type := .double, accessFlags := 25, slot := 2, constantValue := 0 }, { name := "DEGREES_TO_RADIANS", type := .double, accessFlags := 26, slot := 3, constantValue := 0 }, { name := "RADIANS_TO_DEGREES", type := .double, accessFlags := 26, slot := 4, constantValue := 0 }, { name := "negativeZeroFloatBits", type := .long, accessFlags := 26, slot := 5, constantValue := 0 }, { name := "negativeZeroDoubleBits", type := .long, accessFlags := 26, slot := 6, constantValue := 0 }, { name := "twoToTheDoubleScaleUp", type := .double, accessFlags := 8, slot := 7, constantValue := 0 }, { name := "twoToTheDoubleScaleDown", type := .double, accessFlags := 8, slot := 8, constantValue := 0 }, { name := "$assertionsDisabled", type := .boolean, accessFlags := 4120, slot := 9, constantValue := 0 }]
  methods := #[k29m0, k29m1, k29m2]
  instanceTypes := #[]
  staticTypes := #[.double, .double, .double, .double, .double, .long, .long, .double, .double, .boolean]
  resolved := Array.replicate 460 none
  statics := none }

def pool30 : Array CpInfo := pool [(2, .class_ 4), (1, u "java/lang/Object"), (0, u "<init>"), (0, u "()V"), (7, .class_ 16), (1, u "java/util/Arrays"), (57, .class_ 76), (1, u "java/util/Arrays$NaturalOrder"), (9, .methodref 2 87), (0, .nameAndType 88 89), (0, u "getClass"), (0, u "()Ljava/lang/Class;"), (20, .class_ 111), (0, u "[Ljava/lang/Object;"), (1, .class_ 115), (1, u "java/util/Arrays$LegacyMergeSort"), (1, u "Z"), (32, .methodref 151 152), (0, .class_ 153), (0, .nameAndType 154 155), (0, u "java/lang/System"), (0, u "arraycopy"), (0, u "(Ljava/lang/Object;ILjava/lang/Object;II)V"), (144, .methodref 14 301), (0, .nameAndType 302 303), (0, u "copyOf"), (0, u "([Ljava/lang/Object;ILjava/lang/Class;)[Ljava/lang/Object;"), (0, .methodref 305 306), (0, .class_ 307), (0, .nameAndType 308 309), (0, u "java/lang/Math"), (0, u "min"), (0, u "(II)I"), (65, .class_ 376), (0, u "java/util/Arrays$ArrayList"), (68, u "$assertionsDisabled"), (269, u "MIN_ARRAY_SORT_GRAN"), (0, u "I"), (2, u "INSERTIONSORT_THRESHOLD"), (140, u "([Ljava/lang/Object;I)[Ljava/lang/Object;"), (114, .class_ 976), (0, u "java/util/Arrays$ArrayItr")] 52

def k30m0 : Method := { name := "<init>", desc := "()V", sig := { parameters := [], returnType := none }, accessFlags := 2, code := none }
def k30c1 : Code := { maxStack := 3, maxLocals := 2, code := jdk_65_method_119_code, exceptionTable := #[], attributes := #[] }
def k30m1 : Method := { name := "copyOf", desc := "([Ljava/lang/Object;I)[Ljava/lang/Object;", sig := { parameters := [(.array (.object "java/lang/Object")), .int], returnType := some (.array (.object "java/lang/Object")) }, accessFlags := 9, code := some k30c1 }
def k30c2 : Code := { maxStack := 6, maxLocals := 4, code := jdk_65_method_120_code, exceptionTable := #[], attributes := #[] }
def k30m2 : Method := { name := "copyOf", desc := "([Ljava/lang/Object;ILjava/lang/Class;)[Ljava/lang/Object;", sig := { parameters := [(.array (.object "java/lang/Object")), .int, (.object "java/lang/Class")], returnType := some (.array (.object "java/lang/Object")) }, accessFlags := 9, code := some k30c2 }
/-- java/util/Arrays -/
def k30 : Class := { plain "java/util/Arrays" (some 0) with
  accessFlags := 49
  interfaces := #[]
  cf := some (fileOf pool30 14 #[.nestMembers #[975, 375, 113, 74]] #[{ accessFlags := 2, nameIndex := 5, descriptorIndex := 6, attributes := #[] }, { accessFlags := 9, nameIndex := 302, descriptorIndex := 860, attributes := #[] }, { accessFlags := 9, nameIndex := 302, descriptorIndex := 303, attributes := #[] }] 49 2 #[] #[{ accessFlags := 26, nameIndex := 715, descriptorIndex := 716, attributes := #[] }, { accessFlags := 26, nameIndex := 719, descriptorIndex := 716, attributes := #[] }, { accessFlags := 4120, nameIndex := 445, descriptorIndex := 117, attributes := #[] }])
  fields := #[{ name := "MIN_ARRAY_SORT_GRAN", type := .int, accessFlags := 26, slot := 0, constantValue := 0 }, { name := "INSERTIONSORT_THRESHOLD", type := .int, accessFlags := 26, slot := 1, constantValue := 0 }, { name := "$assertionsDisabled", type := .boolean, accessFlags := 4120, slot := 2, constantValue := 0 }]
  methods := #[k30m0, k30m1, k30m2]
  instanceTypes := #[]
  staticTypes := #[.int, .int, .boolean]
  resolved := Array.replicate 1029 none
  statics := none }

def pool31 : Array CpInfo := pool [(2, .class_ 4), (1, u "java/lang/Object"), (0, u "<init>"), (0, u "()V"), (1, .class_ 10), (1, u "java/lang/System"), (0, u "allowSecurityManager"), (0, u "I"), (16, u "cons"), (0, u "Ljava/io/Console;"), (77, .class_ 110), (1, u "java/lang/System$CallersHolder"), (43, u "initialErrStream"), (0, u "Ljava/io/PrintStream;"), (19, u "security"), (0, u "Ljava/lang/SecurityManager;"), (31, .class_ 209), (0, u "java/lang/System$1"), (7, u "props"), (0, u "Ljava/util/Properties;"), (2, u "lineSeparator"), (0, u "Ljava/lang/String;"), (96, .class_ 321), (1, u "java/lang/System$LoggerFinder"), (5, .class_ 328), (0, u "java/lang/System$Logger"), (67, u "err"), (2, u "out"), (91, u "notSupportedJnuEncoding"), (15, u "in"), (17, u "initialIn"), (0, u "Ljava/io/InputStream;"), (35, u "bootLayer"), (0, u "Ljava/lang/ModuleLayer;"), (99, .class_ 664), (0, u "java/lang/System$2"), (9, u "NEVER"), (2, u "MAYBE"), (49, u "arraycopy"), (0, u "(Ljava/lang/Object;ILjava/lang/Object;II)V"), (72, .class_ 802), (0, u "java/lang/System$Logger$Level")] 31

def k31m0 : Method := { name := "<init>", desc := "()V", sig := { parameters := [], returnType := none }, accessFlags := 2, code := none }
def k31m1 : Method := { name := "arraycopy", desc := "(Ljava/lang/Object;ILjava/lang/Object;II)V", sig := { parameters := [(.object "java/lang/Object"), .int, (.object "java/lang/Object"), .int, .int], returnType := none }, accessFlags := 265, code := none }
/-- java/lang/System -/
def k31 : Class := { plain "java/lang/System" (some 0) with
  accessFlags := 49
  interfaces := #[]
  cf := some (fileOf pool31 8 #[.nestMembers #[319, 327, 801, 108, 663, 208]] #[{ accessFlags := 2, nameIndex := 5, descriptorIndex := 6, attributes := #[] }, { accessFlags := 265, nameIndex := 727, descriptorIndex := 728, attributes := #[] }] 49 2 #[] #[{ accessFlags := 25, nameIndex := 507, descriptorIndex := 526, attributes := #[] }, { accessFlags := 25, nameIndex := 399, descriptorIndex := 155, attributes := #[] }, { accessFlags := 25, nameIndex := 396, descriptorIndex := 155, attributes := #[] }, { accessFlags := 10, nameIndex := 525, descriptorIndex := 526, attributes := #[] }, { accessFlags := 26, nameIndex := 674, descriptorIndex := 12, attributes := #[] }, { accessFlags := 26, nameIndex := 677, descriptorIndex := 12, attributes := #[] }, { accessFlags := 10, nameIndex := 11, descriptorIndex := 12, attributes := #[] }, { accessFlags := 74, nameIndex := 175, descriptorIndex := 176, attributes := #[] }, { accessFlags := 10, nameIndex := 491, descriptorIndex := 222, attributes := #[] }, { accessFlags := 74, nameIndex := 29, descriptorIndex := 30, attributes := #[] }, { accessFlags := 74, nameIndex := 154, descriptorIndex := 155, attributes := #[] }, { accessFlags := 10, nameIndex := 217, descriptorIndex := 218, attributes := #[] }, { accessFlags := 10, nameIndex := 221, descriptorIndex := 222, attributes := #[] }, { accessFlags := 8, nameIndex := 562, descriptorIndex := 563, attributes := #[] }])
  fields := #[{ name := "in", type := (.object "java/io/InputStream"), accessFlags := 25, slot := 0, constantValue := 0 }, { name := "out", type := (.object "java/io/PrintStream"), accessFlags := 25, slot := 1, constantValue := 0 }, { name := "err", type := (.object "java/io/PrintStream"), accessFlags := 25, slot := 2, constantValue := 0 }, { name := "initialIn", type := (.object "java/io/InputStream"), accessFlags := 10, slot := 3, constantValue := 0 }, { name := "NEVER", type := .int, accessFlags := 26, slot := 4, constantValue := 0 }, { name := "MAYBE", type := .int, accessFlags := 26, slot := 5, constantValue := 0 }, { name := "allowSecurityManager", type := .int, accessFlags := 10, slot := 6, constantValue := 0 }, { name := "security", type := (.object "java/lang/SecurityManager"), accessFlags := 74, slot := 7, constantValue := 0 }, { name := "notSupportedJnuEncoding", type := (.object "java/lang/String"), accessFlags := 10, slot := 8, constantValue := 0 }, { name := "cons", type := (.object "java/io/Console"), accessFlags := 74, slot := 9, constantValue := 0 }, { name := "initialErrStream", type := (.object "java/io/PrintStream"), accessFlags := 74, slot := 10, constantValue := 0 }, { name := "props", type := (.object "java/util/Properties"), accessFlags := 10, slot := 11, constantValue := 0 }, { name := "lineSeparator", type := (.object "java/lang/String"), accessFlags := 10, slot := 12, constantValue := 0 }, { name := "bootLayer", type := (.object "java/lang/ModuleLayer"), accessFlags := 8, slot := 13, constantValue := 0 }]
  methods := #[k31m0, k31m1]
  instanceTypes := #[]
  staticTypes := #[(.object "java/io/InputStream"), (.object "java/io/PrintStream"), (.object "java/io/PrintStream"), (.object "java/io/InputStream"), .int, .int, .int, (.object "java/lang/SecurityManager"), (.object "java/lang/String"), (.object "java/io/Console"), (.object "java/io/PrintStream"), (.object "java/util/Properties"), (.object "java/lang/String"), (.object "java/lang/ModuleLayer")]
  resolved := Array.replicate 834 none
  statics := none }

def pool32 : Array CpInfo := pool [(2, .class_ 4), (1, u "java/lang/Object"), (0, u "<init>"), (0, u "()V"), (35, .class_ 44), (1, u "java/util/Objects"), (0, u "requireNonNull"), (0, u "(Ljava/lang/Object;)Ljava/lang/Object;")] 137

def k32m0 : Method := { name := "<init>", desc := "()V", sig := { parameters := [], returnType := none }, accessFlags := 2, code := none }
def k32c1 : Code := { maxStack := 2, maxLocals := 1, code := jdk_31_method_10_code, exceptionTable := #[], attributes := #[] }
def k32m1 : Method := { name := "requireNonNull", desc := "(Ljava/lang/Object;)Ljava/lang/Object;", sig := { parameters := [(.object "java/lang/Object")], returnType := some (.object "java/lang/Object") }, accessFlags := 9, code := some k32c1 }
/-- java/util/Objects -/
def k32 : Class := { plain "java/util/Objects" (some 0) with
  accessFlags := 49
  interfaces := #[]
  cf := some (fileOf pool32 42 #[] #[{ accessFlags := 2, nameIndex := 5, descriptorIndex := 6, attributes := #[] }, { accessFlags := 9, nameIndex := 45, descriptorIndex := 46, attributes := #[] }] 49 2 #[] #[])
  fields := #[]
  methods := #[k32m0, k32m1]
  instanceTypes := #[]
  staticTypes := #[]
  resolved := Array.replicate 184 none
  statics := none }

def pool33 : Array CpInfo := pool [(2, .class_ 4), (1, u "java/lang/Object"), (0, u "<init>"), (0, u "()V"), (17, .class_ 26), (1, u "jdk/internal/util/Preconditions"), (28, .class_ 56), (0, u "jdk/internal/util/Preconditions$4"), (57, .class_ 115), (0, u "jdk/internal/util/Preconditions$1"), (7, u "SIOOBE_FORMATTER"), (0, u "Ljava/util/function/BiFunction;"), (0, .class_ 126), (0, u "jdk/internal/util/Preconditions$2"), (3, u "AIOOBE_FORMATTER"), (0, .class_ 132), (0, u "jdk/internal/util/Preconditions$3"), (3, u "IOOBE_FORMATTER")] 57

def k33m0 : Method := { name := "<init>", desc := "()V", sig := { parameters := [], returnType := none }, accessFlags := 1, code := none }
/-- jdk/internal/util/Preconditions -/
def k33 : Class := { plain "jdk/internal/util/Preconditions" (some 0) with
  accessFlags := 33
  interfaces := #[]
  cf := some (fileOf pool33 24 #[.nestMembers #[55, 131, 125, 114]] #[{ accessFlags := 1, nameIndex := 5, descriptorIndex := 6, attributes := #[] }] 33 2 #[] #[{ accessFlags := 25, nameIndex := 123, descriptorIndex := 124, attributes := #[] }, { accessFlags := 25, nameIndex := 130, descriptorIndex := 124, attributes := #[] }, { accessFlags := 25, nameIndex := 136, descriptorIndex := 124, attributes := #[] }])
  fields := #[{ name := "SIOOBE_FORMATTER", type := (.object "java/util/function/BiFunction"), accessFlags := 25, slot := 0, constantValue := 0 }, { name := "AIOOBE_FORMATTER", type := (.object "java/util/function/BiFunction"), accessFlags := 25, slot := 1, constantValue := 0 }, { name := "IOOBE_FORMATTER", type := (.object "java/util/function/BiFunction"), accessFlags := 25, slot := 2, constantValue := 0 }]
  methods := #[k33m0]
  instanceTypes := #[]
  staticTypes := #[(.object "java/util/function/BiFunction"), (.object "java/util/function/BiFunction"), (.object "java/util/function/BiFunction")]
  resolved := Array.replicate 194 none
  statics := some 4 }

def pool34 : Array CpInfo := pool [(9, u "<init>"), (6, .class_ 18), (1, u "java/lang/Object"), (0, u "()V"), (1, .class_ 23), (1, u "jdk/internal/util/ArraysSupport"), (0, u "LOG2_ARRAY_LONG_INDEX_SCALE"), (0, u "I"), (2, u "U"), (0, u "Ljdk/internal/misc/Unsafe;"), (8, u "BIG_ENDIAN"), (0, u "Z"), (8, u "LOG2_BYTE_BIT_SIZE"), (4, u "LOG2_ARRAY_INT_INDEX_SCALE"), (54, u "JLA"), (0, u "Ljdk/internal/access/JavaLangAccess;"), (11, u "LOG2_ARRAY_BOOLEAN_INDEX_SCALE"), (9, u "LOG2_ARRAY_BYTE_INDEX_SCALE"), (5, u "LOG2_ARRAY_CHAR_INDEX_SCALE"), (5, u "LOG2_ARRAY_SHORT_INDEX_SCALE"), (18, u "LOG2_ARRAY_FLOAT_INDEX_SCALE"), (24, u "LOG2_ARRAY_DOUBLE_INDEX_SCALE"), (89, u "T_BOOLEAN"), (2, u "T_CHAR"), (1, u "T_FLOAT"), (1, u "T_DOUBLE"), (1, u "T_BYTE"), (1, u "T_SHORT"), (1, u "T_INT"), (1, u "T_LONG"), (1, u "SOFT_MAX_ARRAY_LENGTH")] 83

def k34m0 : Method := { name := "<init>", desc := "()V", sig := { parameters := [], returnType := none }, accessFlags := 2, code := none }
/-- jdk/internal/util/ArraysSupport -/
def k34 : Class := { plain "jdk/internal/util/ArraysSupport" (some 0) with
  accessFlags := 33
  interfaces := #[]
  cf := some (fileOf pool34 21 #[] #[{ accessFlags := 2, nameIndex := 9, descriptorIndex := 19, attributes := #[] }] 33 16 #[] #[{ accessFlags := 24, nameIndex := 28, descriptorIndex := 29, attributes := #[] }, { accessFlags := 26, nameIndex := 38, descriptorIndex := 39, attributes := #[] }, { accessFlags := 25, nameIndex := 121, descriptorIndex := 25, attributes := #[] }, { accessFlags := 25, nameIndex := 131, descriptorIndex := 25, attributes := #[] }, { accessFlags := 25, nameIndex := 137, descriptorIndex := 25, attributes := #[] }, { accessFlags := 25, nameIndex := 143, descriptorIndex := 25, attributes := #[] }, { accessFlags := 25, nameIndex := 53, descriptorIndex := 25, attributes := #[] }, { accessFlags := 25, nameIndex := 24, descriptorIndex := 25, attributes := #[] }, { accessFlags := 25, nameIndex := 162, descriptorIndex := 25, attributes := #[] }, { accessFlags := 25, nameIndex := 187, descriptorIndex := 25, attributes := #[] }, { accessFlags := 26, nameIndex := 48, descriptorIndex := 25, attributes := #[] }, { accessFlags := 25, nameIndex := 277, descriptorIndex := 25, attributes := #[] }, { accessFlags := 25, nameIndex := 280, descriptorIndex := 25, attributes := #[] }, { accessFlags := 25, nameIndex := 282, descriptorIndex := 25, attributes := #[] }, { accessFlags := 25, nameIndex := 284, descriptorIndex := 25, attributes := #[] }, { accessFlags := 25, nameIndex := 286, descriptorIndex := 25, attributes := #[] }, { accessFlags := 25, nameIndex := 288, descriptorIndex := 25, attributes := #[] }, { accessFlags := 25, nameIndex := 290, descriptorIndex := 25, attributes := #[] }, { accessFlags := 25, nameIndex := 292, descriptorIndex := 25, attributes := #[] }, { accessFlags := 26, nameIndex := 108, descriptorIndex := 109, attributes := #[] }, { accessFlags := 25, nameIndex := 294, descriptorIndex := 25, attributes := #[] }])
  fields := #[{ name := "U", type := (.object "jdk/internal/misc/Unsafe"), accessFlags := 24, slot := 0, constantValue := 0 }, { name := "BIG_ENDIAN", type := .boolean, accessFlags := 26, slot := 1, constantValue := 0 }, { name := "LOG2_ARRAY_BOOLEAN_INDEX_SCALE", type := .int, accessFlags := 25, slot := 2, constantValue := 0 }, { name := "LOG2_ARRAY_BYTE_INDEX_SCALE", type := .int, accessFlags := 25, slot := 3, constantValue := 0 }, { name := "LOG2_ARRAY_CHAR_INDEX_SCALE", type := .int, accessFlags := 25, slot := 4, constantValue := 0 }, { name := "LOG2_ARRAY_SHORT_INDEX_SCALE", type := .int, accessFlags := 25, slot := 5, constantValue := 0 }, { name := "LOG2_ARRAY_INT_INDEX_SCALE", type := .int, accessFlags := 25, slot := 6, constantValue := 0 }, { name := "LOG2_ARRAY_LONG_INDEX_SCALE", type := .int, accessFlags := 25, slot := 7, constantValue := 0 }, { name := "LOG2_ARRAY_FLOAT_INDEX_SCALE", type := .int, accessFlags := 25, slot := 8, constantValue := 0 }, { name := "LOG2_ARRAY_DOUBLE_INDEX_SCALE", type := .int, accessFlags := 25, slot := 9, constantValue := 0 }, { name := "LOG2_BYTE_BIT_SIZE", type := .int, accessFlags := 26, slot := 10, constantValue := 0 }, { name := "T_BOOLEAN", type := .int, accessFlags := 25, slot := 11, constantValue := 0 }, { name := "T_CHAR", type := .int, accessFlags := 25, slot := 12, constantValue := 0 }, { name := "T_FLOAT", type := .int, accessFlags := 25, slot := 13, constantValue := 0 }, { name := "T_DOUBLE", type := .int, accessFlags := 25, slot := 14, constantValue := 0 }, { name := "T_BYTE", type := .int, accessFlags := 25, slot := 15, constantValue := 0 }, { name := "T_SHORT", type := .int, accessFlags := 25, slot := 16, constantValue := 0 }, { name := "T_INT", type := .int, accessFlags := 25, slot := 17, constantValue := 0 }, { name := "T_LONG", type := .int, accessFlags := 25, slot := 18, constantValue := 0 }, { name := "JLA", type := (.object "jdk/internal/access/JavaLangAccess"), accessFlags := 26, slot := 19, constantValue := 0 }, { name := "SOFT_MAX_ARRAY_LENGTH", type := .int, accessFlags := 25, slot := 20, constantValue := 0 }]
  methods := #[k34m0]
  instanceTypes := #[]
  staticTypes := #[(.object "jdk/internal/misc/Unsafe"), .boolean, .int, .int, .int, .int, .int, .int, .int, .int, .int, .int, .int, .int, .int, .int, .int, .int, .int, (.object "jdk/internal/access/JavaLangAccess"), .int]
  resolved := Array.replicate 378 none
  statics := none }

def pool35 : Array CpInfo := pool [(1, u "java/lang/Class"), (0, .class_ 1), (0, u "java/lang/Object"), (0, .class_ 3)] 3

/-- java/lang/Class -/
def k35 : Class := { plain "java/lang/Class" (some 0) with
  accessFlags := 49
  interfaces := #[]
  cf := some (fileOf pool35 2 #[] #[] 49 4 #[] #[])
  fields := #[]
  methods := #[]
  instanceTypes := #[]
  staticTypes := #[]
  resolved := Array.replicate 8 none
  statics := none }

/-- the primitive byte -/
def k36 : Class := { plain "byte" none with kind := .primitive 'B', accessFlags := 0x411 }
/-- [B -/
def k37 : Class := { plain "[B" (some 0) with kind := .array 36 .byte, interfaces := #[16, 2], accessFlags := 1041 }

/-- the primitive char -/
def k38 : Class := { plain "char" none with kind := .primitive 'C', accessFlags := 0x411 }
/-- [C -/
def k39 : Class := { plain "[C" (some 0) with kind := .array 38 .char, interfaces := #[16, 2], accessFlags := 1041 }

/-- the primitive int -/
def k40 : Class := { plain "int" none with kind := .primitive 'I', accessFlags := 0x411 }
/-- [I -/
def k41 : Class := { plain "[I" (some 0) with kind := .array 40 .int, interfaces := #[16, 2], accessFlags := 1041 }

/-- [Ljava/lang/Object; -/
def k42 : Class := { plain "[Ljava/lang/Object;" (some 0) with kind := .array 0 (.object "java/lang/Object"), interfaces := #[16, 2], accessFlags := 1041, mirror := some 5 }

def heap : Heap := #[{ cls := 7, slots := #[.long 0, .int 1, .null, .int 0, .null, .int 0, .int 0], vm := .statics 7 },
  { cls := 17, slots := #[.long 0, .int 0, .ref 9, .ref 10], vm := .statics 17 },
  { cls := 20, slots := #[.long 0, .int 0, .null, .ref 11, .ref 7, .null, .null, .null, .int 0, .int 1], vm := .statics 20 },
  { cls := 28, slots := #[.ref 8, .null, .null, .null, .null, .null, .null, .null, .null, .null, .null, .null, .null, .null, .null, .null, .null], vm := .statics 28 },
  { cls := 33, slots := #[.null, .null, .null], vm := .statics 33 },
  { cls := 35, slots := #[], vm := .mirror 42 },
  { cls := 42, slots := #[], vm := .none },
  { cls := 24, slots := #[.ref 6, .int 0], vm := .none },
  { cls := 28, slots := #[.null, .int 0, .int 0, .null], vm := .none },
  { cls := 42, slots := #[], vm := .none },
  { cls := 42, slots := #[], vm := .none },
  { cls := 0, slots := #[], vm := .none }]
def classes : Array Class := #[k0, k1, k2, k3, k4, k5, k6, k7, k8, k9, k10, k11, k12, k13, k14, k15, k16, k17, k18, k19, k20, k21, k22, k23, k24, k25, k26, k27, k28, k29, k30, k31, k32, k33, k34, k35, k36, k37, k38, k39, k40, k41, k42]
def interned : List (Array UInt16 × Addr) := []
def slotsUsed : Nat := 47
def theMethod : MethodId := ⟨1, 1⟩
def args0 : Array Value := #[.int 5, .int 5, .int 5, .int 5]
def aboutOver (below : List Frame) : State where
  vm := { classes := classes, interned := interned.toArray }
  heap := heap
  slotsUsed := slotsUsed
  threads := #[{ frames := .invoking theMethod args0 :: below }]
def below0 : List Frame := [.native { method := ⟨0, 0⟩, args := #[] }]
def about1 : State := aboutOver below0
def p0 : Program := .bare "" "" ""
def e0 : Env := launch0.env 0 0 0
theorem w_frames : about1.frames = Frame.invoking theMethod args0 :: below0 := rfl
set_option maxRecDepth 65536 in
theorem w_args : argsFit about1.vm theMethod args0 = true := by decide +kernel
set_option maxRecDepth 65536 in
theorem w_heap : heapFits about1 = true := by decide +kernel
set_option maxRecDepth 65536 in
theorem w_runnable : about1.curStatus? = some .runnable := by decide +kernel
set_option maxRecDepth 65536 in
theorem w_alone : about1.alone = true := by decide +kernel
set_option maxRecDepth 65536 in
theorem w_named : about1.methodNamed? x = some theMethod := by decide +kernel
set_option maxRecDepth 65536 in
theorem w_hears : about1.hears theMethod below0 = true := by decide +kernel
set_option maxRecDepth 65536 in
theorem w_ripe : about1.ripe theMethod args0 below0 = true := by decide +kernel
theorem w_running : about1.status = .running := rfl
set_option maxRecDepth 65536 in
theorem w_room : about1.hasRoom e0.platform room_1 = true :=
  launch0.hasRoom_least _ room_1 (by decide +kernel) (by decide +kernel) (by decide +kernel) (by decide +kernel) (by decide +kernel) (by decide +kernel)
theorem allAtoms_all (ts : List Jvm.Cond) (a : Array Jvm.Value) (st : Jvm.State) : (allAtoms ts).before a st = ts.all (fun c => c.before a st) := by
  induction ts with
  | nil => rfl
  | cons c t ih =>
    show (Jvm.Cond.and c (allAtoms t)).before a st = _
    rw [Jvm.Cond.before_and, ih, List.all_cons]
def words1 : List Jvm.Cond := Jvm.Cond.code x code maxLocals ret :: tables_1
/-- a 'code' word, met by the world's own term for the bytes: nothing is compared byte by byte -/
theorem code_word {y : MethodName} {bytes : ByteArray} {mx : Nat} {rt : Option FieldType} {a : Array Value} {s : State} {m : MethodId} {meth : Method} {c : Code} (h1 : s.methodNamed? y = some m) (h2 : s.vm.method? m = some meth) (h3 : meth.code = some c) (h4 : c.code = bytes)
    (h5 : (c.maxLocals == mx && c.exceptionTable.isEmpty && decide (c.maxStack ≤ mostOperands) && decide (meth.sig.returnType = rt) && !meth.locks && decide (parseMethodDescriptor y.desc = some meth.sig)) = true) : (Jvm.Cond.code y bytes mx rt).before a s = true := by
  simp only [Bool.and_eq_true, beq_iff_eq, Bool.not_eq_true', decide_eq_true_eq] at h5
  obtain ⟨⟨⟨⟨⟨g1, g2⟩, g3⟩, g4⟩, g5⟩, g6⟩ := h5
  simp [Cond.before, Cond.holds, Cond.value, h1, h2, h3, h4, g1, g2, g3, g4, g5, g6]
def isCode : Jvm.Cond → Bool
  | .code _ _ _ _ => true
  | _ => false
theorem all_split {L : List Jvm.Cond} {P : Jvm.Cond → Bool} (h1 : L.all (fun c => isCode c || P c) = true) (h2 : ∀ c ∈ L.filter isCode, P c = true) : L.all P = true := by
  refine List.all_eq_true.mpr fun c hc => ?_
  have h := List.all_eq_true.mp h1 c hc
  rcases Bool.eq_false_or_eq_true (isCode c) with hi | hi
  · exact h2 c (List.mem_filter.mpr ⟨hc, hi⟩)
  · simpa [hi] using h
set_option maxRecDepth 65536 in
theorem w_c0 : (Jvm.Cond.code x code maxLocals ret).before args0 about1 = true := code_word (m := ⟨1, 1⟩) (meth := k1m1) (c := k1c1) (by decide +kernel) rfl rfl rfl (by decide +kernel)
set_option maxRecDepth 65536 in
theorem w_c1 : (Jvm.Cond.code ({ cls := "java/lang/String", name := "valueOf", desc := "(C)Ljava/lang/String;" } : Jvm.MethodName) jdk_42_method_139_code (1 : Nat) (Option.some (Jvm.ClassFile.FieldType.object "java/lang/String"))).before args0 about1 = true := code_word (m := ⟨7, 2⟩) (meth := k7m2) (c := k7c2) (by decide +kernel) rfl rfl rfl (by decide +kernel)
set_option maxRecDepth 65536 in
theorem w_c2 : (Jvm.Cond.code ({ cls := "java/lang/StringLatin1", name := "canEncode", desc := "(C)Z" } : Jvm.MethodName) jdk_43_method_3_code (1 : Nat) (Option.some Jvm.ClassFile.FieldType.boolean)).before args0 about1 = true := code_word (m := ⟨8, 1⟩) (meth := k8m1) (c := k8c1) (by decide +kernel) rfl rfl rfl (by decide +kernel)
set_option maxRecDepth 65536 in
theorem w_c3 : (Jvm.Cond.code ({ cls := "java/lang/StringLatin1", name := "toBytes", desc := "(C)[B" } : Jvm.MethodName) jdk_43_method_46_code (1 : Nat) (Option.some (Jvm.ClassFile.FieldType.array Jvm.ClassFile.FieldType.byte))).before args0 about1 = true := code_word (m := ⟨8, 2⟩) (meth := k8m2) (c := k8c2) (by decide +kernel) rfl rfl rfl (by decide +kernel)
set_option maxRecDepth 65536 in
theorem w_c4 : (Jvm.Cond.code ({ cls := "java/lang/String", name := "<init>", desc := "([BB)V" } : Jvm.MethodName) jdk_42_method_151_code (3 : Nat) (Option.none : Option Jvm.ClassFile.FieldType)).before args0 about1 = true := code_word (m := ⟨7, 4⟩) (meth := k7m4) (c := k7c4) (by decide +kernel) rfl rfl rfl (by decide +kernel)
set_option maxRecDepth 65536 in
theorem w_c5 : (Jvm.Cond.code ({ cls := "java/lang/Object", name := "<init>", desc := "()V" } : Jvm.MethodName) object_method_1_code (1 : Nat) (Option.none : Option Jvm.ClassFile.FieldType)).before args0 about1 = true := code_word (m := ⟨0, 0⟩) (meth := k0m0) (c := k0c0) (by decide +kernel) rfl rfl rfl (by decide +kernel)
set_option maxRecDepth 65536 in
theorem w_c6 : (Jvm.Cond.code ({ cls := "java/util/ArrayList", name := "<init>", desc := "()V" } : Jvm.MethodName) jdk_38_method_2_code (1 : Nat) (Option.none : Option Jvm.ClassFile.FieldType)).before args0 about1 = true := code_word (m := ⟨17, 0⟩) (meth := k17m0) (c := k17c0) (by decide +kernel) rfl rfl rfl (by decide +kernel)
set_option maxRecDepth 65536 in
theorem w_c7 : (Jvm.Cond.code ({ cls := "java/util/AbstractList", name := "<init>", desc := "()V" } : Jvm.MethodName) jdk_39_method_1_code (1 : Nat) (Option.none : Option Jvm.ClassFile.FieldType)).before args0 about1 = true := code_word (m := ⟨14, 0⟩) (meth := k14m0) (c := k14c0) (by decide +kernel) rfl rfl rfl (by decide +kernel)
set_option maxRecDepth 65536 in
theorem w_c8 : (Jvm.Cond.code ({ cls := "java/util/AbstractCollection", name := "<init>", desc := "()V" } : Jvm.MethodName) jdk_22_method_1_code (1 : Nat) (Option.none : Option Jvm.ClassFile.FieldType)).before args0 about1 = true := code_word (m := ⟨11, 0⟩) (meth := k11m0) (c := k11c0) (by decide +kernel) rfl rfl rfl (by decide +kernel)
set_option maxRecDepth 65536 in
theorem w_c9 : (Jvm.Cond.code ({ cls := "com/example/causeway/causeway/formats/OaiDcUnit", name := "<init>", desc := "(ILjava/lang/String;Ljava/lang/String;Ljava/util/List;Ljava/lang/String;)V" } : Jvm.MethodName) prog_51_method_1_code (6 : Nat) (Option.none : Option Jvm.ClassFile.FieldType)).before args0 about1 = true := code_word (m := ⟨19, 0⟩) (meth := k19m0) (c := k19c0) (by decide +kernel) rfl rfl rfl (by decide +kernel)
set_option maxRecDepth 65536 in
theorem w_c10 : (Jvm.Cond.code ({ cls := "java/lang/Record", name := "<init>", desc := "()V" } : Jvm.MethodName) jdk_30_method_1_code (1 : Nat) (Option.none : Option Jvm.ClassFile.FieldType)).before args0 about1 = true := code_word (m := ⟨18, 0⟩) (meth := k18m0) (c := k18c0) (by decide +kernel) rfl rfl rfl (by decide +kernel)
set_option maxRecDepth 65536 in
theorem w_c11 : (Jvm.Cond.code ({ cls := "java/util/List", name := "copyOf", desc := "(Ljava/util/Collection;)Ljava/util/List;" } : Jvm.MethodName) jdk_40_method_48_code (1 : Nat) (Option.some (Jvm.ClassFile.FieldType.object "java/util/List"))).before args0 about1 = true := code_word (m := ⟨13, 2⟩) (meth := k13m2) (c := k13c2) (by decide +kernel) rfl rfl rfl (by decide +kernel)
set_option maxRecDepth 65536 in
theorem w_c12 : (Jvm.Cond.code ({ cls := "java/util/ImmutableCollections", name := "listCopy", desc := "(Ljava/util/Collection;)Ljava/util/List;" } : Jvm.MethodName) jdk_56_method_3_code (2 : Nat) (Option.some (Jvm.ClassFile.FieldType.object "java/util/List"))).before args0 about1 = true := code_word (m := ⟨20, 1⟩) (meth := k20m1) (c := k20c1) (by decide +kernel) rfl rfl rfl (by decide +kernel)
set_option maxRecDepth 65536 in
theorem w_c13 : (Jvm.Cond.code ({ cls := "java/util/ArrayList", name := "isEmpty", desc := "()Z" } : Jvm.MethodName) jdk_38_method_9_code (1 : Nat) (Option.some Jvm.ClassFile.FieldType.boolean)).before args0 about1 = true := code_word (m := ⟨17, 3⟩) (meth := k17m3) (c := k17c3) (by decide +kernel) rfl rfl rfl (by decide +kernel)
set_option maxRecDepth 65536 in
theorem w_c14 : (Jvm.Cond.code ({ cls := "java/util/List", name := "of", desc := "()Ljava/util/List;" } : Jvm.MethodName) jdk_40_method_36_code (0 : Nat) (Option.some (Jvm.ClassFile.FieldType.object "java/util/List"))).before args0 about1 = true := code_word (m := ⟨13, 0⟩) (meth := k13m0) (c := k13c0) (by decide +kernel) rfl rfl rfl (by decide +kernel)
set_option maxRecDepth 65536 in
theorem w_c15 : (Jvm.Cond.code ({ cls := "com/example/causeway/causeway/formats/OaiDcUnit", name := "isSetAside", desc := "()Z" } : Jvm.MethodName) prog_51_method_4_code (1 : Nat) (Option.some Jvm.ClassFile.FieldType.boolean)).before args0 about1 = true := code_word (m := ⟨19, 3⟩) (meth := k19m3) (c := k19c3) (by decide +kernel) rfl rfl rfl (by decide +kernel)
set_option maxRecDepth 65536 in
theorem w_c16 : (Jvm.Cond.code ({ cls := "com/example/causeway/causeway/formats/OaiDcUnit", name := "read", desc := "(ILjava/lang/String;Ljava/lang/String;Ljava/util/List;)Lcom/example/causeway/causeway/formats/OaiDcUnit;" } : Jvm.MethodName) prog_51_method_2_code (4 : Nat) (Option.some (Jvm.ClassFile.FieldType.object "com/example/causeway/causeway/formats/OaiDcUnit"))).before args0 about1 = true := code_word (m := ⟨19, 1⟩) (meth := k19m1) (c := k19c1) (by decide +kernel) rfl rfl rfl (by decide +kernel)
set_option maxRecDepth 65536 in
theorem w_c17 : (Jvm.Cond.code ({ cls := "com/example/causeway/causeway/formats/OaiDcUnitIsSetAsidePinLaw", name := "drawn", desc := "(III)Ljava/lang/String;" } : Jvm.MethodName) method_3_code (7 : Nat) (Option.some (Jvm.ClassFile.FieldType.object "java/lang/String"))).before args0 about1 = true := code_word (m := ⟨1, 2⟩) (meth := k1m2) (c := k1c2) (by decide +kernel) rfl rfl rfl (by decide +kernel)
set_option maxRecDepth 65536 in
theorem w_c18 : (Jvm.Cond.code ({ cls := "java/lang/String", name := "<init>", desc := "([C)V" } : Jvm.MethodName) jdk_42_method_3_code (2 : Nat) (Option.none : Option Jvm.ClassFile.FieldType)).before args0 about1 = true := code_word (m := ⟨7, 1⟩) (meth := k7m1) (c := k7c1) (by decide +kernel) rfl rfl rfl (by decide +kernel)
set_option maxRecDepth 65536 in
theorem w_c19 : (Jvm.Cond.code ({ cls := "java/lang/String", name := "<init>", desc := "([CIILjava/lang/Void;)V" } : Jvm.MethodName) jdk_42_method_149_code (6 : Nat) (Option.none : Option Jvm.ClassFile.FieldType)).before args0 about1 = true := code_word (m := ⟨7, 3⟩) (meth := k7m3) (c := k7c3) (by decide +kernel) rfl rfl rfl (by decide +kernel)
set_option maxRecDepth 65536 in
theorem w_c20 : (Jvm.Cond.code ({ cls := "java/lang/StringUTF16", name := "compress", desc := "([CII)[B" } : Jvm.MethodName) jdk_52_method_16_code (6 : Nat) (Option.some (Jvm.ClassFile.FieldType.array Jvm.ClassFile.FieldType.byte))).before args0 about1 = true := code_word (m := ⟨25, 2⟩) (meth := k25m2) (c := k25c2) (by decide +kernel) rfl rfl rfl (by decide +kernel)
set_option maxRecDepth 65536 in
theorem w_c21 : (Jvm.Cond.code ({ cls := "java/lang/StringUTF16", name := "compress", desc := "([CI[BII)I" } : Jvm.MethodName) jdk_52_method_21_code (7 : Nat) (Option.some Jvm.ClassFile.FieldType.int)).before args0 about1 = true := code_word (m := ⟨25, 3⟩) (meth := k25m3) (c := k25c3) (by decide +kernel) rfl rfl rfl (by decide +kernel)
set_option maxRecDepth 65536 in
theorem w_c22 : (Jvm.Cond.code ({ cls := "java/lang/StringUTF16", name := "coderFromArrayLen", desc := "([BI)B" } : Jvm.MethodName) jdk_52_method_15_code (2 : Nat) (Option.some Jvm.ClassFile.FieldType.byte)).before args0 about1 = true := code_word (m := ⟨25, 1⟩) (meth := k25m1) (c := k25c1) (by decide +kernel) rfl rfl rfl (by decide +kernel)
set_option maxRecDepth 65536 in
theorem w_c23 : (Jvm.Cond.code ({ cls := "com/example/causeway/causeway/formats/DcValue", name := "<init>", desc := "(Lcom/example/causeway/causeway/formats/DcElement;Ljava/lang/String;)V" } : Jvm.MethodName) prog_36_method_1_code (3 : Nat) (Option.none : Option Jvm.ClassFile.FieldType)).before args0 about1 = true := code_word (m := ⟨26, 0⟩) (meth := k26m0) (c := k26c0) (by decide +kernel) rfl rfl rfl (by decide +kernel)
set_option maxRecDepth 65536 in
theorem w_c24 : (Jvm.Cond.code ({ cls := "com/example/causeway/causeway/formats/DcValue", name := "<init>", desc := "(Lcom/example/causeway/causeway/formats/DcElement;Ljava/lang/String;Ljava/lang/String;)V" } : Jvm.MethodName) prog_36_method_2_code (4 : Nat) (Option.none : Option Jvm.ClassFile.FieldType)).before args0 about1 = true := code_word (m := ⟨26, 1⟩) (meth := k26m1) (c := k26c1) (by decide +kernel) rfl rfl rfl (by decide +kernel)
set_option maxRecDepth 65536 in
theorem w_c25 : (Jvm.Cond.code ({ cls := "java/util/ArrayList", name := "add", desc := "(Ljava/lang/Object;)Z" } : Jvm.MethodName) jdk_38_method_25_code (2 : Nat) (Option.some Jvm.ClassFile.FieldType.boolean)).before args0 about1 = true := code_word (m := ⟨17, 6⟩) (meth := k17m6) (c := k17c6) (by decide +kernel) rfl rfl rfl (by decide +kernel)
set_option maxRecDepth 65536 in
theorem w_c26 : (Jvm.Cond.code ({ cls := "java/util/ArrayList", name := "add", desc := "(Ljava/lang/Object;[Ljava/lang/Object;I)V" } : Jvm.MethodName) jdk_38_method_24_code (4 : Nat) (Option.none : Option Jvm.ClassFile.FieldType)).before args0 about1 = true := code_word (m := ⟨17, 5⟩) (meth := k17m5) (c := k17c5) (by decide +kernel) rfl rfl rfl (by decide +kernel)
set_option maxRecDepth 65536 in
theorem w_c27 : (Jvm.Cond.code ({ cls := "java/util/ArrayList", name := "grow", desc := "()[Ljava/lang/Object;" } : Jvm.MethodName) jdk_38_method_7_code (1 : Nat) (Option.some (Jvm.ClassFile.FieldType.array (Jvm.ClassFile.FieldType.object "java/lang/Object")))).before args0 about1 = true := code_word (m := ⟨17, 2⟩) (meth := k17m2) (c := k17c2) (by decide +kernel) rfl rfl rfl (by decide +kernel)
set_option maxRecDepth 65536 in
theorem w_c28 : (Jvm.Cond.code ({ cls := "java/util/ArrayList", name := "grow", desc := "(I)[Ljava/lang/Object;" } : Jvm.MethodName) jdk_38_method_6_code (4 : Nat) (Option.some (Jvm.ClassFile.FieldType.array (Jvm.ClassFile.FieldType.object "java/lang/Object")))).before args0 about1 = true := code_word (m := ⟨17, 1⟩) (meth := k17m1) (c := k17c1) (by decide +kernel) rfl rfl rfl (by decide +kernel)
set_option maxRecDepth 65536 in
theorem w_c29 : (Jvm.Cond.code ({ cls := "java/lang/Math", name := "max", desc := "(II)I" } : Jvm.MethodName) jdk_29_method_65_code (2 : Nat) (Option.some Jvm.ClassFile.FieldType.int)).before args0 about1 = true := code_word (m := ⟨29, 1⟩) (meth := k29m1) (c := k29c1) (by decide +kernel) rfl rfl rfl (by decide +kernel)
set_option maxRecDepth 65536 in
theorem w_c30 : (Jvm.Cond.code ({ cls := "java/util/ArrayList", name := "toArray", desc := "()[Ljava/lang/Object;" } : Jvm.MethodName) jdk_38_method_16_code (1 : Nat) (Option.some (Jvm.ClassFile.FieldType.array (Jvm.ClassFile.FieldType.object "java/lang/Object")))).before args0 about1 = true := code_word (m := ⟨17, 4⟩) (meth := k17m4) (c := k17c4) (by decide +kernel) rfl rfl rfl (by decide +kernel)
set_option maxRecDepth 65536 in
theorem w_c31 : (Jvm.Cond.code ({ cls := "java/util/Arrays", name := "copyOf", desc := "([Ljava/lang/Object;I)[Ljava/lang/Object;" } : Jvm.MethodName) jdk_65_method_119_code (2 : Nat) (Option.some (Jvm.ClassFile.FieldType.array (Jvm.ClassFile.FieldType.object "java/lang/Object")))).before args0 about1 = true := code_word (m := ⟨30, 1⟩) (meth := k30m1) (c := k30c1) (by decide +kernel) rfl rfl rfl (by decide +kernel)
set_option maxRecDepth 65536 in
theorem w_c32 : (Jvm.Cond.code ({ cls := "java/util/Arrays", name := "copyOf", desc := "([Ljava/lang/Object;ILjava/lang/Class;)[Ljava/lang/Object;" } : Jvm.MethodName) jdk_65_method_120_code (4 : Nat) (Option.some (Jvm.ClassFile.FieldType.array (Jvm.ClassFile.FieldType.object "java/lang/Object")))).before args0 about1 = true := code_word (m := ⟨30, 2⟩) (meth := k30m2) (c := k30c2) (by decide +kernel) rfl rfl rfl (by decide +kernel)
set_option maxRecDepth 65536 in
theorem w_c33 : (Jvm.Cond.code ({ cls := "java/lang/Math", name := "min", desc := "(II)I" } : Jvm.MethodName) jdk_29_method_69_code (2 : Nat) (Option.some Jvm.ClassFile.FieldType.int)).before args0 about1 = true := code_word (m := ⟨29, 2⟩) (meth := k29m2) (c := k29c2) (by decide +kernel) rfl rfl rfl (by decide +kernel)
set_option maxRecDepth 65536 in
theorem w_c34 : (Jvm.Cond.code ({ cls := "java/util/List", name := "of", desc := "([Ljava/lang/Object;)Ljava/util/List;" } : Jvm.MethodName) jdk_40_method_47_code (2 : Nat) (Option.some (Jvm.ClassFile.FieldType.object "java/util/List"))).before args0 about1 = true := code_word (m := ⟨13, 1⟩) (meth := k13m1) (c := k13c1) (by decide +kernel) rfl rfl rfl (by decide +kernel)
set_option maxRecDepth 65536 in
theorem w_c35 : (Jvm.Cond.code ({ cls := "java/util/ImmutableCollections$List12", name := "<init>", desc := "(Ljava/lang/Object;)V" } : Jvm.MethodName) jdk_44_method_1_code (2 : Nat) (Option.none : Option Jvm.ClassFile.FieldType)).before args0 about1 = true := code_word (m := ⟨23, 0⟩) (meth := k23m0) (c := k23c0) (by decide +kernel) rfl rfl rfl (by decide +kernel)
set_option maxRecDepth 65536 in
theorem w_c36 : (Jvm.Cond.code ({ cls := "java/util/ImmutableCollections$AbstractImmutableList", name := "<init>", desc := "()V" } : Jvm.MethodName) jdk_46_method_1_code (1 : Nat) (Option.none : Option Jvm.ClassFile.FieldType)).before args0 about1 = true := code_word (m := ⟨22, 0⟩) (meth := k22m0) (c := k22c0) (by decide +kernel) rfl rfl rfl (by decide +kernel)
set_option maxRecDepth 65536 in
theorem w_c37 : (Jvm.Cond.code ({ cls := "java/util/ImmutableCollections$AbstractImmutableCollection", name := "<init>", desc := "()V" } : Jvm.MethodName) jdk_47_method_1_code (1 : Nat) (Option.none : Option Jvm.ClassFile.FieldType)).before args0 about1 = true := code_word (m := ⟨21, 0⟩) (meth := k21m0) (c := k21c0) (by decide +kernel) rfl rfl rfl (by decide +kernel)
set_option maxRecDepth 65536 in
theorem w_c38 : (Jvm.Cond.code ({ cls := "java/util/Objects", name := "requireNonNull", desc := "(Ljava/lang/Object;)Ljava/lang/Object;" } : Jvm.MethodName) jdk_31_method_10_code (1 : Nat) (Option.some (Jvm.ClassFile.FieldType.object "java/lang/Object"))).before args0 about1 = true := code_word (m := ⟨32, 1⟩) (meth := k32m1) (c := k32c1) (by decide +kernel) rfl rfl rfl (by decide +kernel)
set_option maxRecDepth 65536 in
theorem w_c39 : (Jvm.Cond.code ({ cls := "com/example/causeway/causeway/formats/OaiDcUnit", name := "setAside", desc := "(ILjava/lang/String;Ljava/lang/String;)Lcom/example/causeway/causeway/formats/OaiDcUnit;" } : Jvm.MethodName) prog_51_method_3_code (3 : Nat) (Option.some (Jvm.ClassFile.FieldType.object "com/example/causeway/causeway/formats/OaiDcUnit"))).before args0 about1 = true := code_word (m := ⟨19, 2⟩) (meth := k19m2) (c := k19c2) (by decide +kernel) rfl rfl rfl (by decide +kernel)
def codes1 : List Jvm.Cond := [Jvm.Cond.code x code maxLocals ret, Jvm.Cond.code ({ cls := "java/lang/String", name := "valueOf", desc := "(C)Ljava/lang/String;" } : Jvm.MethodName) jdk_42_method_139_code (1 : Nat) (Option.some (Jvm.ClassFile.FieldType.object "java/lang/String")), Jvm.Cond.code ({ cls := "java/lang/StringLatin1", name := "canEncode", desc := "(C)Z" } : Jvm.MethodName) jdk_43_method_3_code (1 : Nat) (Option.some Jvm.ClassFile.FieldType.boolean), Jvm.Cond.code ({ cls := "java/lang/StringLatin1", name := "toBytes", desc := "(C)[B" } : Jvm.MethodName) jdk_43_method_46_code (1 : Nat) (Option.some (Jvm.ClassFile.FieldType.array Jvm.ClassFile.FieldType.byte)), Jvm.Cond.code ({ cls := "java/lang/String", name := "<init>", desc := "([BB)V" } : Jvm.MethodName) jdk_42_method_151_code (3 : Nat) (Option.none : Option Jvm.ClassFile.FieldType), Jvm.Cond.code ({ cls := "java/lang/Object", name := "<init>", desc := "()V" } : Jvm.MethodName) object_method_1_code (1 : Nat) (Option.none : Option Jvm.ClassFile.FieldType), Jvm.Cond.code ({ cls := "java/util/ArrayList", name := "<init>", desc := "()V" } : Jvm.MethodName) jdk_38_method_2_code (1 : Nat) (Option.none : Option Jvm.ClassFile.FieldType), Jvm.Cond.code ({ cls := "java/util/AbstractList", name := "<init>", desc := "()V" } : Jvm.MethodName) jdk_39_method_1_code (1 : Nat) (Option.none : Option Jvm.ClassFile.FieldType), Jvm.Cond.code ({ cls := "java/util/AbstractCollection", name := "<init>", desc := "()V" } : Jvm.MethodName) jdk_22_method_1_code (1 : Nat) (Option.none : Option Jvm.ClassFile.FieldType), Jvm.Cond.code ({ cls := "com/example/causeway/causeway/formats/OaiDcUnit", name := "<init>", desc := "(ILjava/lang/String;Ljava/lang/String;Ljava/util/List;Ljava/lang/String;)V" } : Jvm.MethodName) prog_51_method_1_code (6 : Nat) (Option.none : Option Jvm.ClassFile.FieldType), Jvm.Cond.code ({ cls := "java/lang/Record", name := "<init>", desc := "()V" } : Jvm.MethodName) jdk_30_method_1_code (1 : Nat) (Option.none : Option Jvm.ClassFile.FieldType), Jvm.Cond.code ({ cls := "java/util/List", name := "copyOf", desc := "(Ljava/util/Collection;)Ljava/util/List;" } : Jvm.MethodName) jdk_40_method_48_code (1 : Nat) (Option.some (Jvm.ClassFile.FieldType.object "java/util/List")), Jvm.Cond.code ({ cls := "java/util/ImmutableCollections", name := "listCopy", desc := "(Ljava/util/Collection;)Ljava/util/List;" } : Jvm.MethodName) jdk_56_method_3_code (2 : Nat) (Option.some (Jvm.ClassFile.FieldType.object "java/util/List")), Jvm.Cond.code ({ cls := "java/util/ArrayList", name := "isEmpty", desc := "()Z" } : Jvm.MethodName) jdk_38_method_9_code (1 : Nat) (Option.some Jvm.ClassFile.FieldType.boolean), Jvm.Cond.code ({ cls := "java/util/List", name := "of", desc := "()Ljava/util/List;" } : Jvm.MethodName) jdk_40_method_36_code (0 : Nat) (Option.some (Jvm.ClassFile.FieldType.object "java/util/List")), Jvm.Cond.code ({ cls := "com/example/causeway/causeway/formats/OaiDcUnit", name := "isSetAside", desc := "()Z" } : Jvm.MethodName) prog_51_method_4_code (1 : Nat) (Option.some Jvm.ClassFile.FieldType.boolean), Jvm.Cond.code ({ cls := "com/example/causeway/causeway/formats/OaiDcUnit", name := "read", desc := "(ILjava/lang/String;Ljava/lang/String;Ljava/util/List;)Lcom/example/causeway/causeway/formats/OaiDcUnit;" } : Jvm.MethodName) prog_51_method_2_code (4 : Nat) (Option.some (Jvm.ClassFile.FieldType.object "com/example/causeway/causeway/formats/OaiDcUnit")), Jvm.Cond.code ({ cls := "com/example/causeway/causeway/formats/OaiDcUnitIsSetAsidePinLaw", name := "drawn", desc := "(III)Ljava/lang/String;" } : Jvm.MethodName) method_3_code (7 : Nat) (Option.some (Jvm.ClassFile.FieldType.object "java/lang/String")), Jvm.Cond.code ({ cls := "java/lang/String", name := "<init>", desc := "([C)V" } : Jvm.MethodName) jdk_42_method_3_code (2 : Nat) (Option.none : Option Jvm.ClassFile.FieldType), Jvm.Cond.code ({ cls := "java/lang/String", name := "<init>", desc := "([CIILjava/lang/Void;)V" } : Jvm.MethodName) jdk_42_method_149_code (6 : Nat) (Option.none : Option Jvm.ClassFile.FieldType), Jvm.Cond.code ({ cls := "java/lang/StringUTF16", name := "compress", desc := "([CII)[B" } : Jvm.MethodName) jdk_52_method_16_code (6 : Nat) (Option.some (Jvm.ClassFile.FieldType.array Jvm.ClassFile.FieldType.byte)), Jvm.Cond.code ({ cls := "java/lang/StringUTF16", name := "compress", desc := "([CI[BII)I" } : Jvm.MethodName) jdk_52_method_21_code (7 : Nat) (Option.some Jvm.ClassFile.FieldType.int), Jvm.Cond.code ({ cls := "java/lang/StringUTF16", name := "coderFromArrayLen", desc := "([BI)B" } : Jvm.MethodName) jdk_52_method_15_code (2 : Nat) (Option.some Jvm.ClassFile.FieldType.byte), Jvm.Cond.code ({ cls := "com/example/causeway/causeway/formats/DcValue", name := "<init>", desc := "(Lcom/example/causeway/causeway/formats/DcElement;Ljava/lang/String;)V" } : Jvm.MethodName) prog_36_method_1_code (3 : Nat) (Option.none : Option Jvm.ClassFile.FieldType), Jvm.Cond.code ({ cls := "com/example/causeway/causeway/formats/DcValue", name := "<init>", desc := "(Lcom/example/causeway/causeway/formats/DcElement;Ljava/lang/String;Ljava/lang/String;)V" } : Jvm.MethodName) prog_36_method_2_code (4 : Nat) (Option.none : Option Jvm.ClassFile.FieldType), Jvm.Cond.code ({ cls := "java/util/ArrayList", name := "add", desc := "(Ljava/lang/Object;)Z" } : Jvm.MethodName) jdk_38_method_25_code (2 : Nat) (Option.some Jvm.ClassFile.FieldType.boolean), Jvm.Cond.code ({ cls := "java/util/ArrayList", name := "add", desc := "(Ljava/lang/Object;[Ljava/lang/Object;I)V" } : Jvm.MethodName) jdk_38_method_24_code (4 : Nat) (Option.none : Option Jvm.ClassFile.FieldType), Jvm.Cond.code ({ cls := "java/util/ArrayList", name := "grow", desc := "()[Ljava/lang/Object;" } : Jvm.MethodName) jdk_38_method_7_code (1 : Nat) (Option.some (Jvm.ClassFile.FieldType.array (Jvm.ClassFile.FieldType.object "java/lang/Object"))), Jvm.Cond.code ({ cls := "java/util/ArrayList", name := "grow", desc := "(I)[Ljava/lang/Object;" } : Jvm.MethodName) jdk_38_method_6_code (4 : Nat) (Option.some (Jvm.ClassFile.FieldType.array (Jvm.ClassFile.FieldType.object "java/lang/Object"))), Jvm.Cond.code ({ cls := "java/lang/Math", name := "max", desc := "(II)I" } : Jvm.MethodName) jdk_29_method_65_code (2 : Nat) (Option.some Jvm.ClassFile.FieldType.int), Jvm.Cond.code ({ cls := "java/util/ArrayList", name := "toArray", desc := "()[Ljava/lang/Object;" } : Jvm.MethodName) jdk_38_method_16_code (1 : Nat) (Option.some (Jvm.ClassFile.FieldType.array (Jvm.ClassFile.FieldType.object "java/lang/Object"))), Jvm.Cond.code ({ cls := "java/util/Arrays", name := "copyOf", desc := "([Ljava/lang/Object;I)[Ljava/lang/Object;" } : Jvm.MethodName) jdk_65_method_119_code (2 : Nat) (Option.some (Jvm.ClassFile.FieldType.array (Jvm.ClassFile.FieldType.object "java/lang/Object"))), Jvm.Cond.code ({ cls := "java/util/Arrays", name := "copyOf", desc := "([Ljava/lang/Object;ILjava/lang/Class;)[Ljava/lang/Object;" } : Jvm.MethodName) jdk_65_method_120_code (4 : Nat) (Option.some (Jvm.ClassFile.FieldType.array (Jvm.ClassFile.FieldType.object "java/lang/Object"))), Jvm.Cond.code ({ cls := "java/lang/Math", name := "min", desc := "(II)I" } : Jvm.MethodName) jdk_29_method_69_code (2 : Nat) (Option.some Jvm.ClassFile.FieldType.int), Jvm.Cond.code ({ cls := "java/util/List", name := "of", desc := "([Ljava/lang/Object;)Ljava/util/List;" } : Jvm.MethodName) jdk_40_method_47_code (2 : Nat) (Option.some (Jvm.ClassFile.FieldType.object "java/util/List")), Jvm.Cond.code ({ cls := "java/util/ImmutableCollections$List12", name := "<init>", desc := "(Ljava/lang/Object;)V" } : Jvm.MethodName) jdk_44_method_1_code (2 : Nat) (Option.none : Option Jvm.ClassFile.FieldType), Jvm.Cond.code ({ cls := "java/util/ImmutableCollections$AbstractImmutableList", name := "<init>", desc := "()V" } : Jvm.MethodName) jdk_46_method_1_code (1 : Nat) (Option.none : Option Jvm.ClassFile.FieldType), Jvm.Cond.code ({ cls := "java/util/ImmutableCollections$AbstractImmutableCollection", name := "<init>", desc := "()V" } : Jvm.MethodName) jdk_47_method_1_code (1 : Nat) (Option.none : Option Jvm.ClassFile.FieldType), Jvm.Cond.code ({ cls := "java/util/Objects", name := "requireNonNull", desc := "(Ljava/lang/Object;)Ljava/lang/Object;" } : Jvm.MethodName) jdk_31_method_10_code (1 : Nat) (Option.some (Jvm.ClassFile.FieldType.object "java/lang/Object")), Jvm.Cond.code ({ cls := "com/example/causeway/causeway/formats/OaiDcUnit", name := "setAside", desc := "(ILjava/lang/String;Ljava/lang/String;)Lcom/example/causeway/causeway/formats/OaiDcUnit;" } : Jvm.MethodName) prog_51_method_3_code (3 : Nat) (Option.some (Jvm.ClassFile.FieldType.object "com/example/causeway/causeway/formats/OaiDcUnit"))]
set_option maxRecDepth 65536 in
theorem codes_eq : words1.filter isCode = codes1 := rfl
theorem w_codes : ∀ c ∈ words1.filter isCode, c.before args0 about1 = true := by
  rw [codes_eq]
  intro c hc
  simp only [codes1, List.mem_cons, List.not_mem_nil, or_false] at hc
  rcases hc with rfl | rfl | rfl | rfl | rfl | rfl | rfl | rfl | rfl | rfl | rfl | rfl | rfl | rfl | rfl | rfl | rfl | rfl | rfl | rfl | rfl | rfl | rfl | rfl | rfl | rfl | rfl | rfl | rfl | rfl | rfl | rfl | rfl | rfl | rfl | rfl | rfl | rfl | rfl | rfl
  · exact w_c0
  · exact w_c1
  · exact w_c2
  · exact w_c3
  · exact w_c4
  · exact w_c5
  · exact w_c6
  · exact w_c7
  · exact w_c8
  · exact w_c9
  · exact w_c10
  · exact w_c11
  · exact w_c12
  · exact w_c13
  · exact w_c14
  · exact w_c15
  · exact w_c16
  · exact w_c17
  · exact w_c18
  · exact w_c19
  · exact w_c20
  · exact w_c21
  · exact w_c22
  · exact w_c23
  · exact w_c24
  · exact w_c25
  · exact w_c26
  · exact w_c27
  · exact w_c28
  · exact w_c29
  · exact w_c30
  · exact w_c31
  · exact w_c32
  · exact w_c33
  · exact w_c34
  · exact w_c35
  · exact w_c36
  · exact w_c37
  · exact w_c38
  · exact w_c39
set_option maxRecDepth 65536 in
theorem w_t1 : (words1.take 24).all (fun c => isCode c || c.before args0 about1) = true := by decide +kernel
set_option maxRecDepth 65536 in
theorem w_t2 : ((words1.drop 24).take 24).all (fun c => isCode c || c.before args0 about1) = true := by decide +kernel
set_option maxRecDepth 65536 in
theorem w_t3 : (((words1.drop 24).drop 24).take 24).all (fun c => isCode c || c.before args0 about1) = true := by decide +kernel
set_option maxRecDepth 65536 in
theorem w_t4 : ((((words1.drop 24).drop 24).drop 24).take 24).all (fun c => isCode c || c.before args0 about1) = true := by decide +kernel
set_option maxRecDepth 65536 in
theorem w_t5 : (((((words1.drop 24).drop 24).drop 24).drop 24).take 24).all (fun c => isCode c || c.before args0 about1) = true := by decide +kernel
set_option maxRecDepth 65536 in
theorem w_t6 : ((((((words1.drop 24).drop 24).drop 24).drop 24).drop 24).take 24).all (fun c => isCode c || c.before args0 about1) = true := by decide +kernel
set_option maxRecDepth 65536 in
theorem w_t7 : (((((((words1.drop 24).drop 24).drop 24).drop 24).drop 24).drop 24).take 24).all (fun c => isCode c || c.before args0 about1) = true := by decide +kernel
set_option maxRecDepth 65536 in
theorem w_t8 : ((((((((words1.drop 24).drop 24).drop 24).drop 24).drop 24).drop 24).drop 24).take 24).all (fun c => isCode c || c.before args0 about1) = true := by decide +kernel
set_option maxRecDepth 65536 in
theorem w_t9 : (((((((((words1.drop 24).drop 24).drop 24).drop 24).drop 24).drop 24).drop 24).drop 24).take 24).all (fun c => isCode c || c.before args0 about1) = true := by decide +kernel
set_option maxRecDepth 65536 in
theorem w_t10 : ((((((((((words1.drop 24).drop 24).drop 24).drop 24).drop 24).drop 24).drop 24).drop 24).drop 24).take 24).all (fun c => isCode c || c.before args0 about1) = true := by decide +kernel
set_option maxRecDepth 65536 in
theorem w_t11 : ((((((((((words1.drop 24).drop 24).drop 24).drop 24).drop 24).drop 24).drop 24).drop 24).drop 24).drop 24).all (fun c => isCode c || c.before args0 about1) = true := by decide +kernel
theorem w_tables : (allAtoms (Jvm.Cond.code x code maxLocals ret :: tables_1)).before args0 about1 = true := by
  rw [allAtoms_all]
  show words1.all (fun c => c.before args0 about1) = true
  refine all_split ?_ w_codes
  rw [← List.take_append_drop 24 words1, List.all_append, w_t1, ← List.take_append_drop 24 (words1.drop 24), List.all_append, w_t2, ← List.take_append_drop 24 ((words1.drop 24).drop 24), List.all_append, w_t3, ← List.take_append_drop 24 (((words1.drop 24).drop 24).drop 24), List.all_append, w_t4, ← List.take_append_drop 24 ((((words1.drop 24).drop 24).drop 24).drop 24), List.all_append, w_t5, ← List.take_append_drop 24 (((((words1.drop 24).drop 24).drop 24).drop 24).drop 24), List.all_append, w_t6, ← List.take_append_drop 24 ((((((words1.drop 24).drop 24).drop 24).drop 24).drop 24).drop 24), List.all_append, w_t7, ← List.take_append_drop 24 (((((((words1.drop 24).drop 24).drop 24).drop 24).drop 24).drop 24).drop 24), List.all_append, w_t8, ← List.take_append_drop 24 ((((((((words1.drop 24).drop 24).drop 24).drop 24).drop 24).drop 24).drop 24).drop 24), List.all_append, w_t9, ← List.take_append_drop 24 (((((((((words1.drop 24).drop 24).drop 24).drop 24).drop 24).drop 24).drop 24).drop 24).drop 24), List.all_append, w_t10, w_t11]
  rfl
set_option maxRecDepth 65536 in
theorem w_rest : rest_1_c.before args0 about1 = true := by decide +kernel
set_option maxRecDepth 65536 in
theorem w_case : (Jvm.Cond.and given_1 narrow_1).before args0 about1 = true := by decide +kernel
set_option maxRecDepth 65536 in
theorem w_consts : constsHeld consts_1 about1 := Jvm.Lit.constsHeldB_iff.mp (by decide +kernel)
theorem w_applies : (headSpec (Jvm.Cond.code x code maxLocals ret :: tables_1) room_1).applies x e0.platform about1 = true :=
  (Spec.applies_iff w_frames).mpr ⟨w_running, w_runnable, w_alone, w_named, w_hears, w_ripe, w_room, w_tables⟩
theorem atStart : AtStart classFile x code maxLocals ret World_1 tables_1 room_1 Calls_1 rest_1 Pre_1 launch0 p0 e0 about1 theMethod args0 below0 :=
  ⟨lists_1, trivial, launch0.admits_env _ _ _, launch0.least_env, fairChoices_fair.cas, fairChoices_fair.clock, w_frames, w_args, w_heap, w_applies, ⟨⟨42, k42, 5, by decide +kernel, rfl, rfl, _, rfl, rfl⟩, ⟨w_consts, trivial⟩⟩, w_rest, w_case⟩
end start1
theorem witness_1 : WitnessClaimed_1 := ⟨start1.p0, start1.e0, start1.about1, start1.theMethod, start1.args0, start1.below0, start1.atStart⟩
end Jvm.Pilot.@@N@@
