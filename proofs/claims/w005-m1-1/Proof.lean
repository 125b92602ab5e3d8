import JvmDerived
import JvmDerived.Pilot.@@N@@Statement
import JvmDerived.Pilot.@@N@@Code
set_option linter.unusedVariables false
set_option linter.unusedSimpArgs false
@@BLOCK:NumsL.lean.txt@@
@@BLOCK:Masks.lean.txt@@
namespace Jvm.RoadKit
open Sem ClassFile Op Lib Jvm.Stand Jvm.Free Jvm.LawKit
section Own
variable {p : Program} {l : Launch} {e : Env} {R : Room} {s : State} {m : MethodId} {args : Array Value} {below : List Frame} {meth : Method} {c : Code} {T : State} {locs : List Loc} {cells slots : Nat}
/-- from U the run comes to a state of which G holds -/
def Gets (p : Program) (e : Env) (below : List Frame) (G : State → Prop) (U : State) : Prop := ∃ t, Steps p.tables e below U t ∧ G t
theorem Gets.of {G : State → Prop} {U U' : State} (k : ∀ t, Steps p.tables e below U' t → Steps p.tables e below U t) (h : Gets p e below G U') : Gets p e below G U := by
  obtain ⟨t, a, b⟩ := h; exact ⟨t, k t a, b⟩
theorem Gets.tr {G : State → Prop} {U U' : State} (k : Steps p.tables e below U U') (h : Gets p e below G U') : Gets p e below G U := by
  obtain ⟨t, a, b⟩ := h; exact ⟨t, k.trans a, b⟩
/-- what is owed at the end of a body -/
def Out (Q : Option Value → Heap → List Loc → Prop) (s : State) (below : List Frame) (C S : Nat) (t : State) : Prop := ∃ o, t.status = .running ∧ Ended t below o ∧ ∃ v L, o = .returned v ∧ Q v t.heap L ∧ FrameEnd s o t L C S
theorem Gets.out {Q : Option Value → Heap → List Loc → Prop} {C S : Nat} {U : State} (h : Gets p e below (Out Q s below C S) U) : ∃ s₂ o, Steps p.tables e below U s₂ ∧ s₂.status = .running ∧ Ended s₂ below o ∧ ∃ v L, o = .returned v ∧ Q v s₂.heap L ∧ FrameEnd s o s₂ L C S := by
  obtain ⟨t, a, o, b⟩ := h; exact ⟨t, o, a, b⟩
theorem Gets.fin {Q : Option Value → Heap → List Loc → Prop} {C S : Nat} {U : State} (X : Stand p l e R s m args below meth c T locs cells slots) {v : Option Value} (hv : meth.sig.returnType = none → v = none) (hlk : meth.locks = false)
    (k : ∀ fs, (∀ (f : JFrame) (acts : List Action), f.method = m → f.locked = none → f.entered = [] → (doReturn e (T.setTop f) acts v).1 = T.setFrames fs) → Steps p.tables e below U (T.setFrames fs)) (hQ : Q v T.heap locs) (h1 : cells ≤ C) (h2 : slots ≤ S) : Gets p e below (Out Q s below C S) U := by
  obtain ⟨fs, hr, hrun, hended, hW, hsame⟩ := X.leave (v := v) hv hlk
  exact ⟨_, k fs hr, _, hrun, hended, _, _, rfl, hQ, ⟨_, rfl⟩, hW, hsame.mono h1 h2⟩
theorem retI0 (X : Stand p l e R s m args below meth c T locs cells slots) (hx : p.tables.exec = Jvm.exec) {pc : Nat} {Ls : Array Slot} {z : Int32} {rest : List Value} (hret : meth.sig.returnType = some .int) (hd : decode c.code pc = .ok (.ireturn, 1)) {fs : List Frame}
    (hl : ∀ (f : JFrame) (acts : List Action), f.method = m → f.locked = none → f.entered = [] → (doReturn e (T.setTop f) acts (some (.int z))).1 = T.setFrames fs) : Steps p.tables e below (T.setTop (mkF m pc Ls (.int z :: rest))) (T.setFrames fs) :=
  retOut X hx hret rfl (Or.inl ⟨rfl, Or.inl rfl, z, rfl⟩) hd hl
theorem Gets.retI {Q : Option Value → Heap → List Loc → Prop} {C S : Nat} (X : Stand p l e R s m args below meth c T locs cells slots) (hx : p.tables.exec = Jvm.exec) {pc : Nat} {Ls : Array Slot} {z : Int32} {rest : List Value} (hret : meth.sig.returnType = some .int) (hd : decode c.code pc = .ok (.ireturn, 1))
    (hQ : Q (some (.int z)) T.heap locs) (h1 : cells ≤ C) (h2 : slots ≤ S) (hlk : meth.locks = false := by assumption) : Gets p e below (Out Q s below C S) (T.setTop (mkF m pc Ls (.int z :: rest))) :=
  Gets.fin X (fun h => by rw [hret] at h; cases h) hlk (fun fs hr => retI0 X hx hret hd hr) hQ h1 h2
theorem Gets.retN {Q : Option Value → Heap → List Loc → Prop} {C S : Nat} (X : Stand p l e R s m args below meth c T locs cells slots) (hx : p.tables.exec = Jvm.exec) {pc : Nat} {Ls : Array Slot} {z : Int32} {t : FieldType} {rest : List Value} (hret : meth.sig.returnType = some t) (ht : t = .boolean ∨ t = .byte ∨ t = .char ∨ t = .short) (hd : decode c.code pc = .ok (.ireturn, 1))
    (hQ : Q (some (.int (nar t z))) T.heap locs) (h1 : cells ≤ C) (h2 : slots ≤ S) (hlk : meth.locks = false := by assumption) : Gets p e below (Out Q s below C S) (T.setTop (mkF m pc Ls (.int z :: rest))) :=
  Gets.fin X (fun h => by rw [hret] at h; cases h) hlk (fun fs hr => Jvm.RoadKit.retN X hx hret ht hd hr) hQ h1 h2
theorem Gets.retJ {Q : Option Value → Heap → List Loc → Prop} {C S : Nat} (X : Stand p l e R s m args below meth c T locs cells slots) (hx : p.tables.exec = Jvm.exec) {pc : Nat} {Ls : Array Slot} {z : Int64} {rest : List Value} (hret : meth.sig.returnType = some .long) (hd : decode c.code pc = .ok (.lreturn, 1))
    (hQ : Q (some (.long z)) T.heap locs) (h1 : cells ≤ C) (h2 : slots ≤ S) (hlk : meth.locks = false := by assumption) : Gets p e below (Out Q s below C S) (T.setTop (mkF m pc Ls (.long z :: rest))) :=
  Gets.fin X (fun h => by rw [hret] at h; cases h) hlk (fun fs hr => retOut X hx hret rfl (Or.inr (Or.inl ⟨rfl, rfl, z, rfl⟩)) hd hr) hQ h1 h2
theorem Gets.retA {Q : Option Value → Heap → List Loc → Prop} {C S : Nat} (X : Stand p l e R s m args below meth c T locs cells slots) (hx : p.tables.exec = Jvm.exec) {pc : Nat} {Ls : Array Slot} {w : Value} {t : FieldType} {rest : List Value} (hret : meth.sig.returnType = some t) (ht : t.isReference = true) (hw : w.isRef = true) (hd : decode c.code pc = .ok (.areturn, 1))
    (hQ : Q (some w) T.heap locs) (h1 : cells ≤ C) (h2 : slots ≤ S) (hlk : meth.locks = false := by assumption) : Gets p e below (Out Q s below C S) (T.setTop (mkF m pc Ls (w :: rest))) :=
  Gets.fin X (fun h => by rw [hret] at h; cases h) hlk (fun fs hr => retOut X hx hret (by cases t <;> first | (cases ht; done) | (cases w <;> first | rfl | (cases hw))) (Or.inr (Or.inr (Or.inr (Or.inr ⟨rfl, ht, hw⟩)))) hd hr) hQ h1 h2
theorem Gets.retV {Q : Option Value → Heap → List Loc → Prop} {C S : Nat} (X : Stand p l e R s m args below meth c T locs cells slots) (hx : p.tables.exec = Jvm.exec) {pc : Nat} {Ls : Array Slot} (hret : meth.sig.returnType = none) (hd : decode c.code pc = .ok (.return_, 1))
    (hQ : Q none T.heap locs) (h1 : cells ≤ C) (h2 : slots ≤ S) (hlk : meth.locks = false := by assumption) : Gets p e below (Out Q s below C S) (T.setTop (mkF m pc Ls [])) :=
  Gets.fin X (fun _ => rfl) hlk (fun fs hr => X.returnOut hx hret hd hr) hQ h1 h2
/-- what is owed at the end of a body that may load String constants -/
def OutW (Q : Option Value → Heap → List Loc → Prop) (s : State) (below : List Frame) (C S : Nat) (t : State) : Prop := ∃ o, t.status = .running ∧ Ended t below o ∧ ∃ v L, o = .returned v ∧ Q v t.heap L ∧ ReturnedEndW s o t L C S
theorem GetsW.out {Q : Option Value → Heap → List Loc → Prop} {C S : Nat} {U : State} (h : Gets p e below (OutW Q s below C S) U) : ∃ s₂ o, Steps p.tables e below U s₂ ∧ s₂.status = .running ∧ Ended s₂ below o ∧ ∃ v L, o = .returned v ∧ Q v s₂.heap L ∧ ReturnedEndW s o s₂ L C S := by
  obtain ⟨t, a, o, b⟩ := h; exact ⟨t, o, a, b⟩
theorem GetsW.fin {Q : Option Value → Heap → List Loc → Prop} {C S : Nat} {U : State} {vm₁ : Vm} (X : Stand p l e R (s.setVm vm₁) m args below meth c T locs cells slots) {n : Nat} (hS : s.Since vm₁ n) (hn : n ≤ T.heap.size) {v : Option Value} (hv : meth.sig.returnType = none → v = none) (hlk : meth.locks = false)
    (k : ∀ fs, (∀ (f : JFrame) (acts : List Action), f.method = m → f.locked = none → f.entered = [] → (doReturn e (T.setTop f) acts v).1 = T.setFrames fs) → Steps p.tables e below U (T.setFrames fs)) (hQ : Q v T.heap locs) (h1 : cells ≤ C) (h2 : slots ≤ S) : Gets p e below (OutW Q s below C S) U := by
  obtain ⟨fs, hr, hrun, hended, w1, w2, w3, w4⟩ := X.leaveW hS hn (v := v) hv hlk
  exact ⟨_, k fs hr, _, hrun, hended, _, _, rfl, hQ, w1, w2, w3, w4.mono h1 h2⟩
theorem GetsW.retN {Q : Option Value → Heap → List Loc → Prop} {C S : Nat} {vm₁ : Vm} (X : Stand p l e R (s.setVm vm₁) m args below meth c T locs cells slots) (hx : p.tables.exec = Jvm.exec) {pc : Nat} {Ls : Array Slot} {z : Int32} {t : FieldType} {rest : List Value} (hret : meth.sig.returnType = some t) (ht : t = .boolean ∨ t = .byte ∨ t = .char ∨ t = .short) (hd : decode c.code pc = .ok (.ireturn, 1)) {n : Nat} (hS : s.Since vm₁ n) (hn : n ≤ T.heap.size)
    (hQ : Q (some (.int (nar t z))) T.heap locs) (h1 : cells ≤ C) (h2 : slots ≤ S) (hlk : meth.locks = false := by assumption) : Gets p e below (OutW Q s below C S) (T.setTop (mkF m pc Ls (.int z :: rest))) :=
  GetsW.fin X hS hn (fun h => by rw [hret] at h; cases h) hlk (fun fs hr => Jvm.RoadKit.retN X hx hret ht hd hr) hQ h1 h2
theorem GetsW.retI {Q : Option Value → Heap → List Loc → Prop} {C S : Nat} {vm₁ : Vm} (X : Stand p l e R (s.setVm vm₁) m args below meth c T locs cells slots) (hx : p.tables.exec = Jvm.exec) {pc : Nat} {Ls : Array Slot} {z : Int32} {rest : List Value} (hret : meth.sig.returnType = some .int) (hd : decode c.code pc = .ok (.ireturn, 1)) {n : Nat} (hS : s.Since vm₁ n) (hn : n ≤ T.heap.size)
    (hQ : Q (some (.int z)) T.heap locs) (h1 : cells ≤ C) (h2 : slots ≤ S) (hlk : meth.locks = false := by assumption) : Gets p e below (OutW Q s below C S) (T.setTop (mkF m pc Ls (.int z :: rest))) :=
  GetsW.fin X hS hn (fun h => by rw [hret] at h; cases h) hlk (fun fs hr => retI0 X hx hret hd hr) hQ h1 h2
theorem GetsW.retA {Q : Option Value → Heap → List Loc → Prop} {C S : Nat} {vm₁ : Vm} (X : Stand p l e R (s.setVm vm₁) m args below meth c T locs cells slots) (hx : p.tables.exec = Jvm.exec) {pc : Nat} {Ls : Array Slot} {w : Value} {t : FieldType} {rest : List Value} (hret : meth.sig.returnType = some t) (ht : t.isReference = true) (hw : w.isRef = true) (hd : decode c.code pc = .ok (.areturn, 1)) {n : Nat} (hS : s.Since vm₁ n) (hn : n ≤ T.heap.size)
    (hQ : Q (some w) T.heap locs) (h1 : cells ≤ C) (h2 : slots ≤ S) (hlk : meth.locks = false := by assumption) : Gets p e below (OutW Q s below C S) (T.setTop (mkF m pc Ls (w :: rest))) :=
  GetsW.fin X hS hn (fun h => by rw [hret] at h; cases h) hlk (fun fs hr => retOut X hx hret (by cases t <;> first | (cases ht; done) | (cases w <;> first | rfl | (cases hw))) (Or.inr (Or.inr (Or.inr (Or.inr ⟨rfl, ht, hw⟩)))) hd hr) hQ h1 h2
theorem GetsW.retV {Q : Option Value → Heap → List Loc → Prop} {C S : Nat} {vm₁ : Vm} (X : Stand p l e R (s.setVm vm₁) m args below meth c T locs cells slots) (hx : p.tables.exec = Jvm.exec) {pc : Nat} {Ls : Array Slot} (hret : meth.sig.returnType = none) (hd : decode c.code pc = .ok (.return_, 1)) {n : Nat} (hS : s.Since vm₁ n) (hn : n ≤ T.heap.size)
    (hQ : Q none T.heap locs) (h1 : cells ≤ C) (h2 : slots ≤ S) (hlk : meth.locks = false := by assumption) : Gets p e below (OutW Q s below C S) (T.setTop (mkF m pc Ls [])) :=
  GetsW.fin X hS hn (fun _ => rfl) hlk (fun fs hr => X.returnOut hx hret hd hr) hQ h1 h2
/-- the Strings xs are no constants', and stand -/
def Sfs (Z : State) (EL : List (String × Nat)) (vm : Vm) (h : Heap) (xs : List Addr) : Prop := ∀ x ∈ xs, Safe Z EL vm h x ∧ x < h.size
section Sf
variable {Z : State} {EL : List (String × Nat)} {vm vm1 : Vm} {h h' : Heap} {xs ws : List Addr}
theorem Sfs.nil : Sfs Z EL vm h [] := fun _ q => by cases q
theorem Sfs.cons {x : Addr} (q : Safe Z EL vm h x) (l : x < h.size) (S : Sfs Z EL vm h xs) : Sfs Z EL vm h (x :: xs) := fun y hy => by
  rcases List.mem_cons.mp hy with rfl | hy
  · exact ⟨q, l⟩
  · exact S y hy
theorem Sfs.sub {ys : List Addr} (S : Sfs Z EL vm h xs) (hs : ∀ y ∈ ys, y ∈ xs) : Sfs Z EL vm h ys := fun y hy => S y (hs y hy)
theorem Sfs.ext (E : Ext h h') (H : CHv Z EL vm h) (S : Sfs Z EL vm h xs) : Sfs Z EL vm h' xs := fun x hx => ⟨Safe.ext E H (S x hx).1, Nat.lt_of_lt_of_le (S x hx).2 E.1⟩
theorem Sfs.keep (K : Keep h h' ws) (hs : ∀ x ∈ ws, Safe Z EL vm h x) (H : CHv Z EL vm h) (S : Sfs Z EL vm h xs) : Sfs Z EL vm h' xs := fun x hx => ⟨Safe.keep K hs H (S x hx).1, Nat.lt_of_lt_of_le (S x hx).2 K.1⟩
theorem Sfs.wr {a : Addr} {sl : Nat} {w : Value} (W : Wr h h' a sl w) (Sa : Safe Z EL vm h a) (H : CHv Z EL vm h) (S : Sfs Z EL vm h xs) : Sfs Z EL vm h' xs := fun x hx => ⟨Safe.wr W Sa H (S x hx).1, Nat.lt_of_lt_of_le (S x hx).2 (Nat.le_of_eq W.size.symm)⟩
theorem Sfs.run (C : CHr Z EL vm h vm1 h') (S : Sfs Z EL vm h xs) : Sfs Z EL vm1 h' xs := fun x hx => ⟨C.safe (S x hx).2 (S x hx).1, Nat.lt_of_lt_of_le (S x hx).2 C.2.1⟩
end Sf
def OutH (Z : State) (EL : List (String × Nat)) (Q : Option Value → Heap → List Loc → Prop) (s : State) (below : List Frame) (C S : Nat) (t : State) : Prop := ∃ o, t.status = .running ∧ Ended t below o ∧ ∃ v L, o = .returned v ∧ Q v t.heap L ∧ CHr Z EL s.vm s.heap t.vm t.heap ∧ ReturnedEndW s o t L C S
theorem GetsH.out {Z : State} {EL : List (String × Nat)} {Q : Option Value → Heap → List Loc → Prop} {C S : Nat} {U : State} (h : Gets p e below (OutH Z EL Q s below C S) U) : ∃ s₂ o, Steps p.tables e below U s₂ ∧ s₂.status = .running ∧ Ended s₂ below o ∧ ∃ v L, o = .returned v ∧ Q v s₂.heap L ∧ CHr Z EL s.vm s.heap s₂.vm s₂.heap ∧ ReturnedEndW s o s₂ L C S := by
  obtain ⟨t, a, o, b⟩ := h; exact ⟨t, o, a, b⟩
theorem GetsH.fin {Z : State} {EL : List (String × Nat)} {Q : Option Value → Heap → List Loc → Prop} {C S : Nat} {U : State} {vm₁ : Vm} (X : Stand p l e R (s.setVm vm₁) m args below meth c T locs cells slots) {n : Nat} (hS : s.Since vm₁ n) (hn : n ≤ T.heap.size) {h0 h1' : Heap} (hh : s.heap = h0) (eT : T.heap = h1') (hC : CHr Z EL s.vm h0 T.vm h1') {v : Option Value} (hv : meth.sig.returnType = none → v = none) (hlk : meth.locks = false)
    (k : ∀ fs, (∀ (f : JFrame) (acts : List Action), f.method = m → f.locked = none → f.entered = [] → (doReturn e (T.setTop f) acts v).1 = T.setFrames fs) → Steps p.tables e below U (T.setFrames fs)) (hQ : Q v T.heap locs) (h1 : cells ≤ C) (h2 : slots ≤ S) : Gets p e below (OutH Z EL Q s below C S) U := by
  obtain ⟨fs, hr, hrun, hended, w1, w2, w3, w4⟩ := X.leaveW hS hn (v := v) hv hlk
  subst hh; subst eT
  exact ⟨_, k fs hr, _, hrun, hended, _, _, rfl, hQ, hC, w1, w2, w3, w4.mono h1 h2⟩
theorem GetsH.retN {Z : State} {EL : List (String × Nat)} {Q : Option Value → Heap → List Loc → Prop} {C S : Nat} {vm₁ : Vm} (X : Stand p l e R (s.setVm vm₁) m args below meth c T locs cells slots) (hx : p.tables.exec = Jvm.exec) {pc : Nat} {Ls : Array Slot} {z : Int32} {t : FieldType} {rest : List Value} (hret : meth.sig.returnType = some t) (ht : t = .boolean ∨ t = .byte ∨ t = .char ∨ t = .short) (hd : decode c.code pc = .ok (.ireturn, 1)) {n : Nat} (hS : s.Since vm₁ n) (hn : n ≤ T.heap.size)
    {h0 h1' : Heap} (hh : s.heap = h0) (eT : T.heap = h1') (hC : CHr Z EL s.vm h0 T.vm h1') (hQ : Q (some (.int (nar t z))) T.heap locs) (h1 : cells ≤ C) (h2 : slots ≤ S) (hlk : meth.locks = false := by assumption) : Gets p e below (OutH Z EL Q s below C S) (T.setTop (mkF m pc Ls (.int z :: rest))) :=
  GetsH.fin X hS hn hh eT hC (fun h => by rw [hret] at h; cases h) hlk (fun fs hr => Jvm.RoadKit.retN X hx hret ht hd hr) hQ h1 h2
/-- the payer of a callee that may load String constants and writes Strings that are no constants' -/
theorem own_backS {Z : State} {a0 : Array Value} {EL : List (String × Nat)} {h : Heap} {vm0 : Vm} {y : MethodName} {bytes : ByteArray} {maxL : Nat} {ret : Option FieldType} {rm : Room} {len W : Nat} {as' : Array Value} {Q : Option Value → Heap → List Loc → Prop} {xs : List Addr}
    (hM : MetFree l y (head1 [Cond.code y bytes maxL ret] rm) (fun a U => a = as' ∧ Z.Warmed39 U.vm ∧ U.heap = h ∧ CHv Z EL U.vm h ∧ Sfs Z EL U.vm h xs) (fun _ _ _ _ _ => True) (fun _ U o U' => ∃ v L, o = .returned v ∧ Q v U'.heap L ∧ ReturnedEndW U o U' L rm.cells rm.slots))
    (hZ : Z.Warmed39 vm0) (wc : (Cond.code y bytes maxL ret).before a0 Z = true) (wz : (Cond.initialized y.cls).before a0 Z = true) (hf : rm.frames + 1 ≤ R.frames) (hl : W + (maxL + 11) + rm.locals ≤ R.locals) (hEL : EW Z a0 EL) (H : CHv Z EL vm0 h) (Sf : Sfs Z EL vm0 h xs) :
    BackS l R p e below (s.setVm vm0) args y len W (fun A a => a = as' ∧ A.U.heap = h ∧ A.cells + rm.cells ≤ R.cells ∧ A.slots + rm.slots ≤ R.slots)
      (fun A _ v B => ∃ L, Q v B.U.heap L ∧ B.locs = A.locs ++ L ∧ B.cells = A.cells + rm.cells ∧ B.slots = A.slots + rm.slots) := by
  refine BackS.of_freeW (bytes := bytes) (maxL := maxL) (ret := ret) (E := fun _ _ o t L k n => k = rm.cells ∧ n = rm.slots ∧ ∃ v, o = .returned v ∧ Q v t.heap L) hM hf hl ?_ ?_ (fun _ _ _ _ _ _ _ _ _ => trivial) ?_ ?_
  · intro m meth c A a Y hp
    have hU : Z.Warmed39 A.U.vm := wtrans (s := s.setVm vm0) hZ Y.warmed
    exact ⟨by show (Cond.and _ .tt).before a A.U = true; rw [Cond.before_and, mv hU wc]; rfl, mv hU wc, mv hU wz, hp.2.2.1, hp.2.2.2⟩
  · intro m meth c A a g mk Y hp
    have q := CHv.at Y hZ hEL H
    exact ⟨hp.1, wtrans (s := s.setVm vm0) hZ Y.warmed, hp.2.1, q.1, Sfs.run q Sf⟩
  · rintro _ _ _ _ ⟨v, L, h1, h2, h3⟩
    exact ⟨L, _, _, h3, rfl, rfl, v, h1, h2⟩
  · rintro m meth c A a g mk v t L k n Y hp _ _ ⟨e1, e2, v', e3, e4⟩
    cases e3; subst e1 e2
    exact ⟨L, e4, rfl, rfl, rfl⟩
/-- the payer of a callee that may load String constants, the constants' invariant handed over at its start -/
theorem own_backC {Z : State} {a0 : Array Value} {EL : List (String × Nat)} {h : Heap} {vm0 : Vm} {y : MethodName} {bytes : ByteArray} {maxL : Nat} {ret : Option FieldType} {rm : Room} {len W : Nat} {as' : Array Value} {Q : Option Value → Heap → List Loc → Prop}
    (hM : MetFree l y (head1 [Cond.code y bytes maxL ret] rm) (fun a U => a = as' ∧ Z.Warmed39 U.vm ∧ U.heap = h ∧ CHv Z EL U.vm h) (fun _ _ _ _ _ => True) (fun _ U o U' => ∃ v L, o = .returned v ∧ Q v U'.heap L ∧ ReturnedEndW U o U' L rm.cells rm.slots))
    (hZ : Z.Warmed39 vm0) (wc : (Cond.code y bytes maxL ret).before a0 Z = true) (wz : (Cond.initialized y.cls).before a0 Z = true) (hf : rm.frames + 1 ≤ R.frames) (hl : W + (maxL + 11) + rm.locals ≤ R.locals) (hEL : EW Z a0 EL) (H : CHv Z EL vm0 h) :
    BackS l R p e below (s.setVm vm0) args y len W (fun A a => a = as' ∧ A.U.heap = h ∧ A.cells + rm.cells ≤ R.cells ∧ A.slots + rm.slots ≤ R.slots)
      (fun A _ v B => ∃ L, Q v B.U.heap L ∧ B.locs = A.locs ++ L ∧ B.cells = A.cells + rm.cells ∧ B.slots = A.slots + rm.slots) := by
  refine BackS.of_freeW (bytes := bytes) (maxL := maxL) (ret := ret) (E := fun _ _ o t L k n => k = rm.cells ∧ n = rm.slots ∧ ∃ v, o = .returned v ∧ Q v t.heap L) hM hf hl ?_ ?_ (fun _ _ _ _ _ _ _ _ _ => trivial) ?_ ?_
  · intro m meth c A a Y hp
    have hU : Z.Warmed39 A.U.vm := wtrans (s := s.setVm vm0) hZ Y.warmed
    exact ⟨by show (Cond.and _ .tt).before a A.U = true; rw [Cond.before_and, mv hU wc]; rfl, mv hU wc, mv hU wz, hp.2.2.1, hp.2.2.2⟩
  · intro m meth c A a g mk Y hp
    exact ⟨hp.1, wtrans (s := s.setVm vm0) hZ Y.warmed, hp.2.1, (CHv.at Y hZ hEL H).1⟩
  · rintro _ _ _ _ ⟨v, L, h1, h2, h3⟩
    exact ⟨L, _, _, h3, rfl, rfl, v, h1, h2⟩
  · rintro m meth c A a g mk v t L k n Y hp _ _ ⟨e1, e2, v', e3, e4⟩
    cases e3; subst e1 e2
    exact ⟨L, e4, rfl, rfl, rfl⟩
theorem own_mir {Z : State} {C : String} {mr : Addr} (hZ : Z.Warmed39 s.vm) (M : Mir Z C mr) : (Term.mirror C).eval args s none [] s = some (.ref mr) := by
  obtain ⟨c, k, h1, h2, h3, -⟩ := M
  obtain ⟨k', q, ek⟩ := hZ.alike.2.2 _ _ h2
  have h4 : s.vm.findClass C = some c := by rw [hZ.alike.findClass]; exact h1
  have h5 : k'.mirror = some mr := by rw [ek]; exact h3
  simp [Term.eval, h4, q, h5]
theorem own_cI (i : Int32) : (Value.int i).category = 1 := rfl
theorem own_cJ (i : Int64) : (Value.long i).category = 2 := rfl
theorem own_cR (a : Addr) : (Value.ref a).category = 1 := rfl
theorem own_cN : Value.null.category = 1 := rfl
theorem own_cF (i : UInt32) : (Value.float i).category = 1 := rfl
theorem own_cD (i : UInt64) : (Value.double i).category = 2 := rfl
theorem own_catR {w : Value} (hw : w.isRef = true) : w.category = 1 := by
  cases w <;> first | rfl | cases hw
theorem own_narrow_ref {ty : FieldType} {w : Value} (hw : w.isRef = true) : narrow ty w = w := by
  rcases ref_cases hw with rfl | ⟨a, rfl⟩ <;> cases ty <;> rfl
theorem own_fits_obj {C : String} {w : Value} (hw : w.isRef = true) : fits (.object C) w = true := by
  rcases ref_cases hw with rfl | ⟨a, rfl⟩ <;> rfl
theorem own_fits_arr {t : FieldType} {w : Value} (hw : w.isRef = true) : fits (.array t) w = true := by
  rcases ref_cases hw with rfl | ⟨a, rfl⟩ <;> rfl
theorem own_selPriv {Z : State} {a0 : Array Value} {y : MethodName} {n : Nat} (wi : (Cond.instantiable y.cls n).before a0 Z = true) (wp : (Cond.privateMethod y).before a0 Z = true) (wm : (Cond.instanceMethod y).before a0 Z = true) (hy : y.cls ≠ "java/lang/invoke/MethodHandle" ∧ y.cls ≠ "java/lang/invoke/VarHandle") : (Cond.selects y.cls y y).before a0 Z = true := by
  obtain ⟨c, k, h1, h2, -, h4, -, -⟩ := Cond.instantiable_spec wi
  exact Jvm.Stand.selects_self_of_private h1 h2 (Bool.or_eq_false_iff.mp h4).1 (Cond.privateMethod_at wp) wm hy
theorem own_NS_root {Z : State} {a0 : Array Value} {O K : String} {n : Nat} (w : (Cond.noSuperclass O).before a0 Z = true) (wk : (Cond.instantiable K n).before a0 Z = true) (hn : O ≠ K) : NS Z O K := by
  obtain ⟨c, k, h1, h2, h3, -, -⟩ := Cond.noSuperclass_spec w
  obtain ⟨t, kt, g1, -⟩ := Cond.instantiable_spec wk
  have ne := ids_ne h1 g1 hn
  refine ⟨c, t, h1, g1, fun fuel => ?_⟩
  cases fuel with
  | zero => rfl
  | succ f => simp [Vm.isSubclassAux, ne, h2, h3]
theorem own_NS_no {Z : State} {a0 : Array Value} {C S K : String} {n : Nat} (w : (Cond.superclass C S).before a0 Z = true) (wk : (Cond.instantiable K n).before a0 Z = true) (nn : NS Z C K) (hn : C ≠ K) : ∃ c t, Z.vm.findClass C = some c ∧ Z.vm.findClass K = some t ∧ Z.vm.assignable c t = false := by
  obtain ⟨c, t, h0, g0, n3⟩ := nn
  obtain ⟨p, k, kp, h1, h2, h3, h4, h5, -, h7⟩ := Cond.superclass_spec h0 w
  obtain ⟨t', kt, g1, g2, g3, g4, -⟩ := Cond.instantiable_spec wk
  cases g0.symm.trans g1
  have ne := ids_ne h0 g0 hn
  have g5 : kt.isInterface = false := by cases hq : kt.isInterface <;> simp_all
  refine ⟨c, t, h0, g0, ?_⟩
  show Z.vm.assignableAux (255 + 1) c t = false
  simp [Vm.assignableAux, ne, h2, g2, h5, g3, g5, Vm.isSubclass, n3]
end Own
end Jvm.RoadKit
namespace Jvm.Pilot.@@N@@
open Jvm Jvm.ClassFile Sem Op Lib Jvm.Free Jvm.Stand Jvm.LawKit Jvm.RoadKit Bundle Jvm.Pilot.@@N@@.Jvm.D
abbrev cn0 : String := "java/util/HashMap"
abbrev cn1 : String := "java/lang/Object"
abbrev cn2 : String := "java/util/ArrayList"
abbrev cn3 : String := "java/lang/String"
abbrev cn4 : String := "com/example/hornwort/hornwort/Selection"
abbrev cn5 : String := "com/example/hornwort/hornwort/Variable"
abbrev cn6 : String := "java/util/HashMap$Node"
abbrev cn7 : String := "java/util/ImmutableCollections$ListN"
abbrev cn8 : String := "com/example/hornwort/hornwort/Atom"
abbrev cn9 : String := "(Ljava/lang/Object;)Z"
abbrev cn10 : String := "java/util/HashSet"
abbrev cn11 : String := "java/lang/Integer"
abbrev cn12 : String := "java/util/ImmutableCollections$List12"
abbrev cn13 : String := "java/util/ImmutableCollections"
abbrev cn14 : String := "(I)Ljava/lang/Object;"
abbrev cn15 : String := "(Ljava/lang/Object;Ljava/lang/Object;)Ljava/lang/Object;"
abbrev cn16 : String := "(Ljava/lang/Object;)Ljava/lang/Object;"
abbrev cn17 : String := "com/example/hornwort/hornwort/SelectionGroupsPinLaw"
abbrev cn18 : String := "(ILjava/lang/Object;Ljava/lang/Object;ZZ)Ljava/lang/Object;"
abbrev cn19 : String := "(ILjava/lang/Object;Ljava/lang/Object;Ljava/util/HashMap$Node;)Ljava/util/HashMap$Node;"
abbrev cn20 : String := "(Lcom/example/hornwort/hornwort/Variable;Ljava/util/Map;Ljava/util/Set;)I"
abbrev cn21 : String := "(Lcom/example/hornwort/hornwort/Atom;Ljava/util/List;Lcom/example/hornwort/hornwort/Aggregate$Function;Lcom/example/hornwort/hornwort/Variable;Lcom/example/hornwort/hornwort/Position;)V"

theorem own_len31 {args : Array Value} {first s : State} {o : Option Outcome} {idx : List Nat} {t : Term} {a : Addr} {cl : Cell} {z : Int32} (ht : t.eval args first o idx s = some (.ref a)) (ha : s.arrayAt? a = some cl) (h : (Term.length t).eval args first o idx s = some (.int z)) : cl.slots.size < 2 ^ 31 ∧ cl.slots.size.toInt32 = z := by
  by_cases q : cl.slots.size < 2 ^ 31
  · refine ⟨q, ?_⟩
    rw [len_f ht ha q] at h
    exact Value.int.inj (Option.some.inj h)
  · exfalso; simp [Term.eval, ht, ha, q] at h
theorem own_lenN {d : String} {ps : List FieldType} {r : Option FieldType} {n : Nat} (hd : parseMethodDescriptor d = some ⟨ps, r⟩) (hn : n = ps.length) : ∀ sig, parseMethodDescriptor d = some sig → n = sig.parameters.length := fun sig h => by
  cases hd.symm.trans h; exact hn
theorem own_mvMN {Z s : State} {a0 args : Array Value} {own host : String} {y : MethodName} {index : Nat} (hZ : Z.Warmed39 s.vm) (w : (Cond.methodLinkNest own index y host).before a0 Z = true) : (Cond.methodLinkNest own index y host).before args s = true := (Cond.methodLinkNest_wide hZ w :)
def own_EL : List (String × Nat) := consts_1
theorem w280 {Z : State} {a0 : Array Value} (hw : ∀ d ∈ tables_1, d.before a0 Z = true) : (Jvm.Cond.stringLink cn5 (17 : Nat) "_").before a0 Z = true := hw _ (List.mem_of_getElem? (i := 280) rfl)
theorem own_EW {Z : State} {a0 : Array Value} (hw : ∀ d ∈ tables_1, d.before a0 Z = true) : EW Z a0 own_EL := (EW.cons (w280 hw) (by decide) EW.nil)
theorem w6 {Z : State} {a0 : Array Value} (hw : ∀ d ∈ tables_1, d.before a0 Z = true) : (Jvm.Cond.initialized cn3).before a0 Z = true := hw _ (List.mem_of_getElem? (i := 6) rfl)
theorem w14 {Z : State} {a0 : Array Value} (hw : ∀ d ∈ tables_1, d.before a0 Z = true) : (Jvm.Cond.instantiable cn3 (4 : Nat)).before a0 Z = true := hw _ (List.mem_of_getElem? (i := 14) rfl)
theorem w18 {Z : State} {a0 : Array Value} (hw : ∀ d ∈ tables_1, d.before a0 Z = true) : (Jvm.Cond.arrayClass Jvm.ClassFile.FieldType.byte).before a0 Z = true := hw _ (List.mem_of_getElem? (i := 18) rfl)
theorem w27 {Z : State} {a0 : Array Value} (hw : ∀ d ∈ tables_1, d.before a0 Z = true) : (Jvm.Cond.laysFinal cn3 cn3 "value" "[B").before a0 Z = true := hw _ (List.mem_of_getElem? (i := 27) rfl)
theorem w29 {Z : State} {a0 : Array Value} (hw : ∀ d ∈ tables_1, d.before a0 Z = true) : (Jvm.Cond.laysFinal cn3 cn3 "coder" "B").before a0 Z = true := hw _ (List.mem_of_getElem? (i := 29) rfl)
theorem w281 {Z : State} {a0 : Array Value} (hw : ∀ d ∈ tables_1, d.before a0 Z = true) : (Jvm.Cond.soleField cn3 "value").before a0 Z = true := hw _ (List.mem_of_getElem? (i := 281) rfl)
theorem w282 {Z : State} {a0 : Array Value} (hw : ∀ d ∈ tables_1, d.before a0 Z = true) : (Jvm.Cond.soleField cn3 "coder").before a0 Z = true := hw _ (List.mem_of_getElem? (i := 282) rfl)
theorem own_wS {Z : State} {a0 : Array Value} (hw : ∀ d ∈ tables_1, d.before a0 Z = true) : ∀ a ∈ Bundle.stringAtoms, a.before a0 Z = true := by
  intro d hd
  simp only [Bundle.stringAtoms, List.mem_cons, List.not_mem_nil, or_false] at hd
  rcases hd with rfl | rfl | rfl | rfl | rfl | rfl | rfl
  · exact (w6 hw)
  · exact (w14 hw)
  · exact (w18 hw)
  · exact (w27 hw)
  · exact (w29 hw)
  · exact (w281 hw)
  · exact (w282 hw)
def kdL : List (Nat × String × FieldType × List (String × String × String)) := [(1, "[Ljava/lang/Object;", (.object cn1), []),
  (4, "", .int, []),
  (0, cn1, .int, []),
  (0, cn7, .int, [(cn7, "elements", "[Ljava/lang/Object;"), (cn7, "allowNulls", "Z")]),
  (3, "[Ljava/lang/Object;", .int, []),
  (0, cn11, .int, [(cn11, "value", "I")]),
  (5, "", .byte, []),
  (0, cn3, .int, [(cn3, "coder", "B"), (cn3, "value", "[B")]),
  (2, "[Lcom/example/hornwort/hornwort/Variable;", (.object cn5), []),
  (0, cn5, .int, [(cn5, "name", "Ljava/lang/String;"), (cn5, "position", "Lcom/example/hornwort/hornwort/Position;")]),
  (0, cn3, .int, [(cn3, "value", "[B"), (cn3, "coder", "B"), (cn3, "hash", "I"), (cn3, "hashIsZero", "Z")]),
  (1, "[B", .byte, []),
  (0, cn2, .int, [("java/util/AbstractList", "modCount", "I"), (cn2, "elementData", "[Ljava/lang/Object;"), (cn2, "size", "I")]),
  (2, "[Ljava/lang/Object;", (.object cn1), []),
  (0, cn4, .int, [(cn4, "atom", "Lcom/example/hornwort/hornwort/Atom;"), (cn4, "groupBy", "Ljava/util/List;"), (cn4, "function", "Lcom/example/hornwort/hornwort/Aggregate$Function;"), (cn4, "value", "Lcom/example/hornwort/hornwort/Variable;"), (cn4, "position", "Lcom/example/hornwort/hornwort/Position;"), (cn4, "groupPositions", "[I"), (cn4, "valuePosition", "I")]),
  (0, cn8, .int, [(cn8, "name", "Ljava/lang/String;"), (cn8, "args", "Ljava/util/List;")]),
  (0, cn0, .int, [(cn0, "loadFactor", "F"), (cn0, "table", "[Ljava/util/HashMap$Node;"), (cn0, "threshold", "I"), (cn0, "modCount", "I"), (cn0, "size", "I")]),
  (2, "[Ljava/util/HashMap$Node;", (.object cn6), []),
  (0, cn6, .int, [(cn6, "hash", "I"), (cn6, "key", "Ljava/lang/Object;"), (cn6, "value", "Ljava/lang/Object;"), (cn6, "next", "Ljava/util/HashMap$Node;")]),
  (0, cn10, .int, [(cn10, "map", "Ljava/util/HashMap;")]),
  (1, "[I", .int, []),
  (0, cn12, .int, [(cn12, "e0", "Ljava/lang/Object;"), (cn12, "e1", "Ljava/lang/Object;")])]
def kd (k : Nat) : Nat × String × FieldType × List (String × String × String) := kdL.getD k (9, "", .int, [])
def stl : List ((String × String × String) × Value) := [((cn3, "COMPACT_STRINGS", "Z"), .retAddr 1), ((cn2, "EMPTY_ELEMENTDATA", "[Ljava/lang/Object;"), .ref 0), ((cn2, "DEFAULTCAPACITY_EMPTY_ELEMENTDATA", "[Ljava/lang/Object;"), .ref 1), (("java/lang/Integer$IntegerCache", "high", "I"), .int (127 : Int32)), (("java/lang/Integer$IntegerCache", "cache", "[Ljava/lang/Integer;"), .ref 2), ((cn10, "PRESENT", "Ljava/lang/Object;"), .ref 3), ((cn13, "EMPTY", "Ljava/lang/Object;"), .ref 4), ((cn13, "$assertionsDisabled", "Z"), .int (1 : Int32)), ((cn13, "EMPTY_LIST", "Ljava/util/ImmutableCollections$ListN;"), .ref 5)]
def biL : List (MethodName × ByteArray × Nat × Option FieldType) := [(x, code, 16, ret),
  ((⟨cn3, "valueOf", "(C)Ljava/lang/String;"⟩ : MethodName), jdk_42_method_139_code, 1, some (.object cn3)),
  ((⟨"java/lang/StringLatin1", "canEncode", "(C)Z"⟩ : MethodName), jdk_43_method_3_code, 1, some .boolean),
  ((⟨"java/lang/StringLatin1", "toBytes", "(C)[B"⟩ : MethodName), jdk_43_method_46_code, 1, some (.array .byte)),
  ((⟨cn3, "<init>", "([BB)V"⟩ : MethodName), jdk_42_method_151_code, 3, none),
  ((⟨cn1, "<init>", "()V"⟩ : MethodName), object_method_1_code, 1, none),
  ((⟨cn5, "<init>", "(Ljava/lang/String;Lcom/example/hornwort/hornwort/Position;)V"⟩ : MethodName), prog_69_method_1_code, 3, none),
  ((⟨"com/example/hornwort/hornwort/Term", "<init>", "()V"⟩ : MethodName), prog_63_method_1_code, 1, none),
  ((⟨cn2, "<init>", "()V"⟩ : MethodName), jdk_38_method_2_code, 1, none),
  ((⟨"java/util/AbstractList", "<init>", "()V"⟩ : MethodName), jdk_39_method_1_code, 1, none),
  ((⟨"java/util/AbstractCollection", "<init>", "()V"⟩ : MethodName), jdk_22_method_1_code, 1, none),
  ((⟨cn2, "add", cn9⟩ : MethodName), jdk_38_method_25_code, 2, some .boolean),
  ((⟨cn2, "add", "(Ljava/lang/Object;[Ljava/lang/Object;I)V"⟩ : MethodName), jdk_38_method_24_code, 4, none),
  ((⟨cn2, "grow", "()[Ljava/lang/Object;"⟩ : MethodName), jdk_38_method_7_code, 1, some (.array (.object cn1))),
  ((⟨cn2, "grow", "(I)[Ljava/lang/Object;"⟩ : MethodName), jdk_38_method_6_code, 4, some (.array (.object cn1))),
  ((⟨"java/lang/Math", "max", "(II)I"⟩ : MethodName), jdk_29_method_65_code, 2, some .int),
  ((⟨cn8, "<init>", "(Ljava/lang/String;Ljava/util/List;)V"⟩ : MethodName), prog_7_method_1_code, 3, none),
  ((⟨"java/util/List", "copyOf", "(Ljava/util/Collection;)Ljava/util/List;"⟩ : MethodName), jdk_40_method_48_code, 1, some (.object "java/util/List")),
  ((⟨cn13, "listCopy", "(Ljava/util/Collection;)Ljava/util/List;"⟩ : MethodName), jdk_56_method_3_code, 2, some (.object "java/util/List")),
  ((⟨cn2, "isEmpty", "()Z"⟩ : MethodName), jdk_38_method_9_code, 1, some .boolean),
  ((⟨cn2, "toArray", "()[Ljava/lang/Object;"⟩ : MethodName), jdk_38_method_16_code, 1, some (.array (.object cn1))),
  ((⟨"java/util/Arrays", "copyOf", "([Ljava/lang/Object;I)[Ljava/lang/Object;"⟩ : MethodName), jdk_65_method_119_code, 2, some (.array (.object cn1))),
  ((⟨"java/util/Arrays", "copyOf", "([Ljava/lang/Object;ILjava/lang/Class;)[Ljava/lang/Object;"⟩ : MethodName), jdk_65_method_120_code, 4, some (.array (.object cn1))),
  ((⟨"java/lang/Math", "min", "(II)I"⟩ : MethodName), jdk_29_method_69_code, 2, some .int),
  ((⟨"java/util/List", "of", "([Ljava/lang/Object;)Ljava/util/List;"⟩ : MethodName), jdk_40_method_47_code, 2, some (.object "java/util/List")),
  ((⟨cn13, "listFromArray", "([Ljava/lang/Object;)Ljava/util/List;"⟩ : MethodName), jdk_56_method_4_code, 3, some (.object "java/util/List")),
  ((⟨"java/util/Objects", "requireNonNull", cn16⟩ : MethodName), jdk_31_method_10_code, 1, some (.object cn1)),
  ((⟨cn7, "<init>", "([Ljava/lang/Object;Z)V"⟩ : MethodName), jdk_45_method_1_code, 3, none),
  ((⟨"java/util/ImmutableCollections$AbstractImmutableList", "<init>", "()V"⟩ : MethodName), jdk_46_method_1_code, 1, none),
  ((⟨"java/util/ImmutableCollections$AbstractImmutableCollection", "<init>", "()V"⟩ : MethodName), jdk_47_method_1_code, 1, none),
  ((⟨cn4, "<init>", cn21⟩ : MethodName), prog_48_method_1_code, 9, none),
  ((⟨cn12, "<init>", "(Ljava/lang/Object;Ljava/lang/Object;)V"⟩ : MethodName), jdk_44_method_2_code, 3, none),
  ((⟨cn0, "<init>", "()V"⟩ : MethodName), jdk_69_method_7_code, 1, none),
  ((⟨"java/util/AbstractMap", "<init>", "()V"⟩ : MethodName), jdk_71_method_1_code, 1, none),
  ((⟨cn8, "args", "()Ljava/util/List;"⟩ : MethodName), prog_7_method_3_code, 1, some (.object "java/util/List")),
  ((⟨cn7, "size", "()I"⟩ : MethodName), jdk_45_method_3_code, 1, some .int),
  ((⟨cn7, "get", cn14⟩ : MethodName), jdk_45_method_4_code, 2, some (.object cn1)),
  ((⟨cn5, "isAnonymous", "()Z"⟩ : MethodName), prog_69_method_4_code, 1, some .boolean),
  ((⟨cn3, "equals", cn9⟩ : MethodName), jdk_42_method_66_code, 3, some .boolean),
  ((⟨"java/lang/StringLatin1", "equals", "([B[B)Z"⟩ : MethodName), jdk_43_method_13_code, 3, some .boolean),
  ((⟨cn5, "name", "()Ljava/lang/String;"⟩ : MethodName), prog_69_method_2_code, 1, some (.object cn3)),
  ((⟨cn11, "valueOf", "(I)Ljava/lang/Integer;"⟩ : MethodName), jdk_33_method_22_code, 1, some (.object cn11)),
  ((⟨cn0, "putIfAbsent", cn15⟩ : MethodName), jdk_69_method_31_code, 3, some (.object cn1)),
  ((⟨cn0, "hash", "(Ljava/lang/Object;)I"⟩ : MethodName), jdk_69_method_1_code, 2, some .int),
  ((⟨cn3, "hashCode", "()I"⟩ : MethodName), jdk_42_method_78_code, 2, some .int),
  ((⟨cn3, "isLatin1", "()Z"⟩ : MethodName), jdk_42_method_154_code, 1, some .boolean),
  ((⟨"java/lang/StringLatin1", "hashCode", "([B)I"⟩ : MethodName), jdk_43_method_21_code, 1, some .int),
  ((⟨cn0, "putVal", cn18⟩ : MethodName), jdk_69_method_16_code, 13, some (.object cn1)),
  ((⟨cn0, "resize", "()[Ljava/util/HashMap$Node;"⟩ : MethodName), jdk_69_method_17_code, 14, some (.array (.object cn6))),
  ((⟨cn0, "newNode", cn19⟩ : MethodName), jdk_69_method_46_code, 5, some (.object cn6)),
  ((⟨cn6, "<init>", "(ILjava/lang/Object;Ljava/lang/Object;Ljava/util/HashMap$Node;)V"⟩ : MethodName), jdk_70_method_1_code, 5, none),
  ((⟨cn0, "afterNodeInsertion", "(Z)V"⟩ : MethodName), jdk_69_method_52_code, 2, none),
  ((⟨cn10, "<init>", "()V"⟩ : MethodName), jdk_93_method_1_code, 1, none),
  ((⟨"java/util/AbstractSet", "<init>", "()V"⟩ : MethodName), jdk_91_method_1_code, 1, none),
  ((⟨cn2, "size", "()I"⟩ : MethodName), jdk_38_method_8_code, 1, some .int),
  ((⟨cn2, "get", cn14⟩ : MethodName), jdk_38_method_20_code, 2, some (.object cn1)),
  ((⟨"java/util/Objects", "checkIndex", "(II)I"⟩ : MethodName), jdk_31_method_17_code, 2, some .int),
  ((⟨"jdk/internal/util/Preconditions", "checkIndex", "(IILjava/util/function/BiFunction;)I"⟩ : MethodName), jdk_41_method_11_code, 3, some .int),
  ((⟨cn2, "elementData", cn14⟩ : MethodName), jdk_38_method_18_code, 2, some (.object cn1)),
  ((⟨cn4, "place", cn20⟩ : MethodName), prog_48_method_2_code, 5, some .int),
  ((⟨cn0, "get", cn16⟩ : MethodName), jdk_69_method_12_code, 3, some (.object cn1)),
  ((⟨cn0, "getNode", "(Ljava/lang/Object;)Ljava/util/HashMap$Node;"⟩ : MethodName), jdk_69_method_13_code, 8, some (.object cn6)),
  ((⟨cn10, "add", cn9⟩ : MethodName), jdk_93_method_10_code, 2, some .boolean),
  ((⟨cn0, "put", cn15⟩ : MethodName), jdk_69_method_15_code, 3, some (.object cn1)),
  ((⟨cn11, "intValue", "()I"⟩ : MethodName), jdk_33_method_27_code, 1, some .int),
  ((⟨cn4, "groups", "(I)Z"⟩ : MethodName), prog_48_method_6_code, 6, some .boolean),
  ((⟨cn12, "<init>", "(Ljava/lang/Object;)V"⟩ : MethodName), jdk_44_method_1_code, 2, none),
  ((⟨"java/util/List", "of", "()Ljava/util/List;"⟩ : MethodName), jdk_40_method_36_code, 0, some (.object "java/util/List"))]
def bi (b : Nat) : MethodName × ByteArray × Nat × Option FieldType := biL.getD b (x, code, 0, none)
/-! an abstract machine over closed data, and that the model's machine does what it does -/
abbrev AObj := Nat × Bool × List Value
abbrev AH := List AObj
abbrev ARes := Option Value × AH × Room
abbrev Fn := Nat → Nat → List Slot → List Value → AH → Room → Option ARes
abbrev AStep := Fn → List Slot → List Value → AH → Room → Option ARes
abbrev HW (Z : State) (a0 : Array Value) : Prop := ∀ d ∈ tables_1, d.before a0 Z = true
def Wd (d : Jvm.Cond) : Prop := ∀ (Z : State) (a0 : Array Value), HW Z a0 → d.before a0 Z = true
theorem Wd.at {d : Jvm.Cond} (i : Nat) (h : tables_1[i]? = some d) : Wd d := fun _ _ hw => hw _ (List.mem_of_getElem? h)
section Rel
variable {α β : Type} {R R' : α → β → Prop}
def RL (R : α → β → Prop) : List α → List β → Prop
  | [], bs => bs = []
  | a :: as, bs => ∃ b bs', bs = b :: bs' ∧ R a b ∧ RL R as bs'
theorem RL.mono (k : ∀ a b, R a b → R' a b) : ∀ {as : List α} {bs : List β}, RL R as bs → RL R' as bs
  | [], _, h => h
  | _ :: _, _, ⟨b, bs', e, h, t⟩ => ⟨b, bs', e, k _ _ h, RL.mono k t⟩
theorem RL.len : ∀ {as : List α} {bs : List β}, RL R as bs → as.length = bs.length
  | [], _, h => by cases h; rfl
  | _ :: _, _, ⟨_, _, e, _, t⟩ => by subst e; simp [RL.len t]
theorem RL.get : ∀ {as : List α} {bs : List β} {i : Nat} {a : α}, RL R as bs → as[i]? = some a → ∃ b, bs[i]? = some b ∧ R a b
  | [], _, _, _, _, q => by simp at q
  | _ :: _, _, 0, _, ⟨b, bs', e, h, _⟩, q => by
    subst e; simp at q; subst q; exact ⟨b, by simp, h⟩
  | _ :: _, _, i + 1, _, ⟨b, bs', e, _, t⟩, q => by
    subst e; simp at q; obtain ⟨c, h1, h2⟩ := RL.get t q; exact ⟨c, by simpa using h1, h2⟩
theorem RL.mk : ∀ {as : List α} {bs : List β}, as.length = bs.length → (∀ (i : Nat) (a : α) (b : β), as[i]? = some a → bs[i]? = some b → R a b) → RL R as bs
  | [], [], _, _ => rfl
  | [], _ :: _, q, _ => by simp at q
  | _ :: _, [], q, _ => by simp at q
  | a :: as, b :: bs, q, k => ⟨b, bs, rfl, k 0 a b (by simp) (by simp), RL.mk (by simpa using q) fun i x y h1 h2 => k (i + 1) x y (by simpa using h1) (by simpa using h2)⟩
theorem RL.set {as : List α} {bs : List β} {i : Nat} {a : α} {b : β} (h : RL R as bs) (k : R a b) : RL R (as.set i a) (bs.set i b) := by
  refine RL.mk (by simp [h.len]) fun j x y h1 h2 => ?_
  by_cases q : i = j
  · subst q
    rw [List.getElem?_set_self'] at h1 h2
    cases hx : as[i]? with
    | none => rw [hx] at h1; simp at h1
    | some x' =>
      cases hy : bs[i]? with
      | none => rw [hy] at h2; simp at h2
      | some y' => rw [hx] at h1; rw [hy] at h2; simp at h1 h2; subst h1 h2; exact k
  · rw [List.getElem?_set_ne q] at h1 h2
    obtain ⟨z, e1, e2⟩ := h.get h1
    cases e1.symm.trans h2; exact e2
theorem RL.change {as : List α} {bs : List β} {i : Nat} {a : α} {b : β} (h : RL R as bs) (hb : bs[i]? = some b) (k : R a b) : RL R (as.set i a) bs := by
  obtain ⟨hi, rfl⟩ := List.getElem?_eq_some_iff.mp hb
  have := h.set (i := i) k
  rwa [List.set_getElem_self] at this
theorem RL.app : ∀ {as as' : List α} {bs bs' : List β}, RL R as bs → RL R as' bs' → RL R (as ++ as') (bs ++ bs')
  | [], _, _, _, h, k => by cases h; exact k
  | _ :: _, _, _, _, ⟨b, bs', e, h, t⟩, k => by subst e; exact ⟨b, _, rfl, h, RL.app t k⟩
theorem RL.take : ∀ (n : Nat) {as : List α} {bs : List β}, RL R as bs → RL R (as.take n) (bs.take n)
  | 0, _, _, _ => by simp [RL]
  | _ + 1, [], _, h => by cases h; exact rfl
  | n + 1, _ :: _, _, ⟨b, bs', e, h, t⟩ => by subst e; exact ⟨b, _, rfl, h, RL.take n t⟩
theorem RL.drop : ∀ (n : Nat) {as : List α} {bs : List β}, RL R as bs → RL R (as.drop n) (bs.drop n)
  | 0, _, _, h => h
  | _ + 1, [], _, h => by cases h; exact rfl
  | n + 1, _ :: _, _, ⟨b, bs', e, h, t⟩ => by subst e; exact RL.drop n t
theorem RL.rev : ∀ {as : List α} {bs : List β}, RL R as bs → RL R as.reverse bs.reverse
  | [], _, h => by cases h; exact rfl
  | a :: as, _, ⟨b, bs', e, h, t⟩ => by
    subst e; rw [List.reverse_cons, List.reverse_cons]; exact RL.app (RL.rev t) ⟨b, [], rfl, h, rfl⟩
theorem RL.rep {a : α} {b : β} (h : R a b) : ∀ n, RL R (List.replicate n a) (List.replicate n b)
  | 0 => rfl
  | n + 1 => ⟨b, List.replicate n b, rfl, h, RL.rep h n⟩
end Rel
/-- the abstract value and the true one: ints are themselves, a reference is a place of env; retAddr k stands for some int that is none of 0 .. k - 1 -/
def VR (env : List Addr) : Value → Value → Prop
  | .int x, v => v = .int x
  | .null, v => v = .null
  | .float x, v => v = .float x
  | .ref i, v => ∃ a, env[i]? = some a ∧ v = .ref a
  | .retAddr k, v => ∃ z : Int32, v = .int z ∧ ∀ j, j < k → z ≠ Int32.ofNat j
  | _, _ => False
def SR (env : List Addr) : Slot → Slot → Prop
  | .unset, s => s = .unset
  | .second, s => s = .second
  | .val v, s => ∃ w, s = .val w ∧ VR env v w
def OV (env : List Addr) : Option Value → Option Value → Prop
  | none, v => v = none
  | some a, v => ∃ w, v = some w ∧ VR env a w
theorem env_app {env e2 : List Addr} {i : Nat} {a : Addr} (h : env[i]? = some a) : (env ++ e2)[i]? = some a := by
  rw [List.getElem?_append_left (List.getElem?_eq_some_iff.mp h).1]; exact h
theorem VR.mono {env : List Addr} (e2 : List Addr) {v w : Value} (h : VR env v w) : VR (env ++ e2) v w := by
  cases v with
  | ref i => obtain ⟨a, h1, h2⟩ := h; exact ⟨a, env_app h1, h2⟩
  | _ => exact h
theorem SR.mono {env : List Addr} (e2 : List Addr) {v w : Slot} (h : SR env v w) : SR (env ++ e2) v w := by
  cases v with
  | val v => obtain ⟨a, h1, h2⟩ := h; exact ⟨a, h1, h2.mono e2⟩
  | _ => exact h
theorem VR.cat {env : List Addr} {v w : Value} (h : VR env v w) : w.category = 1 := by
  cases v with
  | int x => cases h; rfl
  | null => cases h; rfl
  | float x => cases h; rfl
  | ref i => obtain ⟨a, -, rfl⟩ := h; rfl
  | retAddr k => obtain ⟨z, rfl, -⟩ := h; rfl
  | long x => cases h
  | double x => cases h
theorem VR.sum {env : List Addr} : ∀ {as bs : List Value}, RL (VR env) as bs → (bs.map fun v => v.category).sum = as.length
  | [], _, h => by cases h; rfl
  | _ :: _, _, ⟨b, bs', e, h, t⟩ => by subst e; simp [h.cat, VR.sum t, Nat.add_comm]
theorem VR.vals {env : List Addr} : ∀ {as bs : List Value}, RL (VR env) as bs → RL (SR env) (as.map Slot.val) (bs.map Slot.val)
  | [], _, h => by cases h; exact rfl
  | _ :: _, _, ⟨b, bs', e, h, t⟩ => by subst e; exact ⟨_, _, rfl, ⟨b, rfl, h⟩, VR.vals t⟩
theorem own_fold : ∀ (l : List Value) (acc : Array Slot), (∀ w ∈ l, w.category = 1) → (l.foldl (fun acc v => if v.category = 2 then (acc.push (.val v)).push .second else acc.push (.val v)) acc).toList = acc.toList ++ l.map Slot.val
  | [], acc, _ => by simp
  | w :: l, acc, h => by
    have hw : w.category = 1 := h w (List.mem_cons_self ..)
    rw [List.foldl_cons, own_fold l _ fun x hx => h x (List.mem_cons_of_mem _ hx)]
    simp [hw]
theorem own_ent {l : List Value} {n : Nat} (h : ∀ w ∈ l, w.category = 1) : (argsToLocals l.toArray n).toList = l.map Slot.val ++ List.replicate (n - l.length) .unset := by
  have q := own_fold l #[] h
  have e : (l.toArray.foldl (init := (#[] : Array Slot)) fun acc v => if v.category = 2 then (acc.push (.val v)).push .second else acc.push (.val v)) = l.foldl (fun acc v => if v.category = 2 then (acc.push (.val v)).push .second else acc.push (.val v)) #[] := by simp
  have hs : (l.foldl (fun acc v => if v.category = 2 then (acc.push (.val v)).push .second else acc.push (.val v)) (#[] : Array Slot)).size = l.length := by rw [← Array.length_toList, q]; simp
  simp only [argsToLocals]
  rw [e, Array.toList_append, q, hs]
  simp
def ent (av : List Value) (n : Nat) : List Slot := av.map Slot.val ++ List.replicate (n - av.length) .unset
theorem own_snoc {α : Type} {l : List α} {a b : α} {i : Nat} (h : (l ++ [a])[i]? = some b) : (l[i]? = some b ∧ i < l.length) ∨ (i = l.length ∧ b = a) := by
  by_cases q : i < l.length
  · left; rw [List.getElem?_append_left q] at h; exact ⟨h, q⟩
  · right
    rw [List.getElem?_append_right (Nat.le_of_not_lt q)] at h
    cases hk : i - l.length with
    | zero => rw [hk] at h; simp at h; exact ⟨by omega, h.symm⟩
    | succ n => rw [hk] at h; simp at h
/-! objects and the heap -/
abbrev Fk := String × String × String
abbrev FR (Z : State) (h : Heap) (env : List Addr) (a : Addr) (v : Value) (f : Fk) : Prop := ∃ w, VR env v w ∧ Fld Z h a f.1 f.2.1 f.2.2 w
def AR (Z : State) (h : Heap) (env : List Addr) (a : Addr) (ty : FieldType) (ov : Bool) (vs : List Value) : Prop :=
  ∃ (n : Int32) (k : ClassId) (ws : List Value), RL (VR env) vs ws ∧ n.toNatClampNeg = vs.length ∧ Arv Z h a k ty n ws (defaultValue ty) ∧ (ov = true → ∃ E, ty = .object E ∧ Ovr Z k E)
def OR (Z : State) (h : Heap) (env : List Addr) (a : Addr) (o : AObj) : Prop :=
  ((kd o.1).1 ≤ 2 → Exa Z h a (kd o.1).2.1) ∧ ((kd o.1).1 = 0 → RL (FR Z h env a) o.2.2 (kd o.1).2.2.2) ∧ ((kd o.1).1 = 1 ∨ (kd o.1).1 = 5 → AR Z h env a (kd o.1).2.2.1 false o.2.2) ∧ ((kd o.1).1 = 2 → AR Z h env a (kd o.1).2.2.1 true o.2.2) ∧
    ((kd o.1).1 = 3 → Mir Z (kd o.1).2.1 a) ∧ ((kd o.1).1 = 4 → ∃ cl, Bxs Z a cl cn11 "I" (256 : Int32) (fun j => .int (j - 128)))
section Heap
variable {Z : State} {h h' : Heap} {env : List Addr} {a : Addr} {o o' : AObj} {vm vm' : Vm} {n0 : Nat} {H : AH}
theorem AR.tr {ty : FieldType} {ov : Bool} {vs : List Value} (hA : ∀ {k n ws d}, Arv Z h a k ty n ws d → Arv Z h' a k ty n ws d) (A : AR Z h env a ty ov vs) : AR Z h' env a ty ov vs := by
  obtain ⟨n, k, ws, h1, h2, h3, h4⟩ := A; exact ⟨n, k, ws, h1, h2, hA h3, h4⟩
theorem AR.mono {ty : FieldType} {ov : Bool} {vs : List Value} (e2 : List Addr) (A : AR Z h env a ty ov vs) : AR Z h (env ++ e2) a ty ov vs := by
  obtain ⟨n, k, ws, h1, h2, h3, h4⟩ := A; exact ⟨n, k, ws, h1.mono fun _ _ q => q.mono e2, h2, h3, h4⟩
theorem OR.tr (hE : ∀ {C}, Exa Z h a C → Exa Z h' a C) (hF : ∀ {C n d v}, Fld Z h a C n d v → Fld Z h' a C n d v) (hA : ∀ {k ty n ws d}, Arv Z h a k ty n ws d → Arv Z h' a k ty n ws d) (O : OR Z h env a o) : OR Z h' env a o := by
  obtain ⟨h1, h2, h3, h4, h5, h6⟩ := O
  exact ⟨fun q => hE (h1 q), fun q => (h2 q).mono fun _ _ ⟨w, q1, q2⟩ => ⟨w, q1, hF q2⟩, fun q => (h3 q).tr hA, fun q => (h4 q).tr hA, h5, h6⟩
theorem OR.mono (e2 : List Addr) (O : OR Z h env a o) : OR Z h (env ++ e2) a o := by
  obtain ⟨h1, h2, h3, h4, h5, h6⟩ := O
  exact ⟨h1, fun q => (h2 q).mono fun _ _ ⟨w, q1, q2⟩ => ⟨w, q1.mono e2, q2⟩, fun q => (h3 q).mono e2, fun q => (h4 q).mono e2, h5, h6⟩
theorem OR.ext (E : Ext h h') (O : OR Z h env a o) : OR Z h' env a o := O.tr (fun q => q.ext E) (fun q => q.ext E) (fun q => q.ext E)
theorem OR.obj {k : Nat} {fl : Bool} {vs : List Value} (hk : (kd k).1 = 0) (E : Exa Z h a (kd k).2.1) (F : RL (FR Z h env a) vs (kd k).2.2.2) : OR Z h env a (k, fl, vs) :=
  ⟨fun _ => E, fun _ => F, fun q => (by rw [hk] at q; exact absurd q (by decide)), fun q => (by rw [hk] at q; cases q), fun q => (by rw [hk] at q; cases q), fun q => (by rw [hk] at q; cases q)⟩
theorem OR.arr1 {k : Nat} {fl : Bool} {vs : List Value} (hk : (kd k).1 = 1) (E : Exa Z h a (kd k).2.1) (F : AR Z h env a (kd k).2.2.1 false vs) : OR Z h env a (k, fl, vs) :=
  ⟨fun _ => E, fun q => (by rw [hk] at q; cases q), fun _ => F, fun q => (by rw [hk] at q; cases q), fun q => (by rw [hk] at q; cases q), fun q => (by rw [hk] at q; cases q)⟩
theorem OR.arr5 {k : Nat} {fl : Bool} {vs : List Value} (hk : (kd k).1 = 5) (F : AR Z h env a (kd k).2.2.1 false vs) : OR Z h env a (k, fl, vs) :=
  ⟨fun q => (by rw [hk] at q; exact absurd q (by decide)), fun q => (by rw [hk] at q; cases q), fun _ => F, fun q => (by rw [hk] at q; cases q), fun q => (by rw [hk] at q; cases q), fun q => (by rw [hk] at q; cases q)⟩
theorem OR.arr2 {k : Nat} {fl : Bool} {vs : List Value} (hk : (kd k).1 = 2) (E : Exa Z h a (kd k).2.1) (F : AR Z h env a (kd k).2.2.1 true vs) : OR Z h env a (k, fl, vs) :=
  ⟨fun _ => E, fun q => (by rw [hk] at q; cases q), fun q => (by rw [hk] at q; exact absurd q (by decide)), fun _ => F, fun q => (by rw [hk] at q; cases q), fun q => (by rw [hk] at q; cases q)⟩
theorem OR.mir {k : Nat} {fl : Bool} {vs : List Value} (hk : (kd k).1 = 3) (M : Mir Z (kd k).2.1 a) : OR Z h env a (k, fl, vs) :=
  ⟨fun q => (by rw [hk] at q; exact absurd q (by decide)), fun q => (by rw [hk] at q; cases q), fun q => (by rw [hk] at q; exact absurd q (by decide)), fun q => (by rw [hk] at q; cases q), fun _ => M, fun q => (by rw [hk] at q; cases q)⟩
theorem OR.box {k : Nat} {fl : Bool} {vs : List Value} (hk : (kd k).1 = 4) {cl : Cell} (B : Bxs Z a cl cn11 "I" (256 : Int32) (fun j => .int (j - 128))) : OR Z h env a (k, fl, vs) :=
  ⟨fun q => (by rw [hk] at q; exact absurd q (by decide)), fun q => (by rw [hk] at q; cases q), fun q => (by rw [hk] at q; exact absurd q (by decide)), fun q => (by rw [hk] at q; cases q), fun q => (by rw [hk] at q; cases q), fun _ => ⟨cl, B⟩⟩
/-- an array of either kind -/
theorem OR.arr {k : Nat} {fl : Bool} {vs : List Value} (O : OR Z h env a (k, fl, vs)) (hk : (kd k).1 = 1 ∨ (kd k).1 = 2 ∨ (kd k).1 = 5) : ∃ ov, AR Z h env a (kd k).2.2.1 ov vs := by
  rcases hk with hk | hk | hk
  · exact ⟨false, O.2.2.1 (Or.inl hk)⟩
  · exact ⟨true, O.2.2.2.1 hk⟩
  · exact ⟨false, O.2.2.1 (Or.inr hk)⟩
def HR (Z : State) (n0 : Nat) (vm : Vm) (h : Heap) (env : List Addr) (H : AH) : Prop :=
  Old Z n0 h ∧ CHv Z own_EL vm h ∧ (∀ x ∈ stl, ∃ w, VR env x.2 w ∧ Sta Z Z.heap x.1.1 x.1.2.1 x.1.2.2 w) ∧ env.length = H.length ∧
    ∀ (i : Nat) (a : Addr) (o : AObj), env[i]? = some a → H[i]? = some o → a < h.size ∧ OR Z h env a o ∧ (o.2.1 = true → n0 ≤ a ∧ Safe Z own_EL vm h a ∧ ∀ j, j ≠ i → env[j]? ≠ some a)
theorem HR.reb (hH : HR Z n0 vm h env H) (K : CHr Z own_EL vm h vm' h) : HR Z n0 vm' h env H := by
  obtain ⟨O, C, S, hl, hob⟩ := hH
  refine ⟨O, K.1, S, hl, fun i b ob hi hHi => ?_⟩
  obtain ⟨h1, h2, h3⟩ := hob i b ob hi hHi
  exact ⟨h1, h2, fun q => ⟨(h3 q).1, K.safe h1 (h3 q).2.1, (h3 q).2.2⟩⟩
theorem HR.snoc (hH : HR Z n0 vm h env H) (E : Ext h h') (K : CHr Z own_EL vm h vm' h') (hlt : a < h'.size) (hfr : o.2.1 = true → h.size ≤ a ∧ Safe Z own_EL vm' h' a)
    (hne : ∀ (i : Nat) (ob : AObj), H[i]? = some ob → ob.2.1 = true → env[i]? ≠ some a) (ho : OR Z h' (env ++ [a]) a o) : HR Z n0 vm' h' (env ++ [a]) (H ++ [o]) := by
  obtain ⟨O, C, S, hl, hob⟩ := hH
  have hn0 : n0 ≤ h.size := O.1 ▸ O.2.1
  refine ⟨O.ext E, K.1, fun x hx => ?_, by simp [hl], fun i b ob hi hHi => ?_⟩
  · obtain ⟨w, h1, h2⟩ := S x hx; exact ⟨w, h1.mono _, h2⟩
  · rcases own_snoc hi with ⟨hi', hq⟩ | ⟨hi', rfl⟩
    · rcases own_snoc hHi with ⟨hH', -⟩ | ⟨hH', -⟩
      · obtain ⟨h1, h2, h3⟩ := hob i b ob hi' hH'
        refine ⟨Nat.lt_of_lt_of_le h1 E.1, (h2.ext E).mono _, fun hw => ⟨(h3 hw).1, K.safe h1 (h3 hw).2.1, fun j hj hje => ?_⟩⟩
        rcases own_snoc hje with ⟨q1, -⟩ | ⟨-, q2⟩
        · exact (h3 hw).2.2 j hj q1
        · subst q2; exact hne i ob hH' hw hi'
      · omega
    · rcases own_snoc hHi with ⟨-, hq⟩ | ⟨hH', rfl⟩
      · omega
      · refine ⟨hlt, ho, fun hw => ⟨Nat.le_trans hn0 (hfr hw).1, (hfr hw).2, fun j hj hje => ?_⟩⟩
        rcases own_snoc hje with ⟨q1, q2⟩ | ⟨q1, -⟩
        · obtain ⟨oj, hoj⟩ : ∃ oj, H[j]? = some oj := ⟨_, List.getElem?_eq_getElem (hl ▸ q2)⟩
          exact absurd (hob j b oj q1 hoj).1 (Nat.not_lt.mpr (hfr hw).1)
        · exact hj (q1.trans hi'.symm)
/-- a new object -/
theorem HR.new (hH : HR Z n0 vm h env H) (E : Ext h h') (hlt : h.size < h'.size) (ho : OR Z h' (env ++ [h.size]) h.size o) : HR Z n0 vm h' (env ++ [h.size]) (H ++ [o]) := by
  have K := CHr.ext E hH.2.1
  refine hH.snoc E K hlt (fun _ => ⟨Nat.le_refl _, (Safe.new (Nat.le_refl _)).ext E hH.2.1⟩) (fun i ob hi _ he => ?_) ho
  exact absurd (hH.2.2.2.2 i _ ob he hi).1 (Nat.lt_irrefl _)
/-- an object that stands already and is not written -/
theorem HR.adopt (hH : HR Z n0 vm h env H) (hlt : a < h.size) (hne : ∀ (i : Nat) (ob : AObj), H[i]? = some ob → ob.2.1 = true → env[i]? ≠ some a) (hfl : o.2.1 = false) (ho : OR Z h (env ++ [a]) a o) : HR Z n0 vm h (env ++ [a]) (H ++ [o]) :=
  hH.snoc ⟨Nat.le_refl _, fun _ _ q => q⟩ (CHr.refl hH.2.1) hlt (fun q => by rw [hfl] at q; cases q) hne ho
theorem HR.kp {i : Nat} (hH : HR Z n0 vm h env H) (hi : env[i]? = some a) (ho : H[i]? = some o) (hw : o.2.1 = true) (K : Keep h h' [a]) (ho' : OR Z h' env a o') : HR Z n0 vm h' env (H.set i o') := by
  obtain ⟨O, C, S, hl, hob⟩ := hH
  obtain ⟨g1, g2, g3⟩ := hob i a o hi ho
  obtain ⟨g3, g4, g5⟩ := g3 hw
  have hs : ∀ x ∈ [a], Safe Z own_EL vm h x := fun x hx => by cases List.mem_singleton.mp hx; exact g4
  refine ⟨O.keep K fun x hx => by cases List.mem_singleton.mp hx; exact g3, C.keep K hs, S, by simp [hl], fun j b ob hj hHj => ?_⟩
  by_cases q : i = j
  · subst q
    cases hi.symm.trans hj
    rw [List.getElem?_set_self (List.getElem?_eq_some_iff.mp ho).1] at hHj
    cases hHj
    exact ⟨Nat.lt_of_lt_of_le g1 K.1, ho', fun _ => ⟨g3, g4.keep K hs C, g5⟩⟩
  · rw [List.getElem?_set_ne q] at hHj
    obtain ⟨h1, h2, h3⟩ := hob j b ob hj hHj
    have hba : b ∉ [a] := fun hm => by cases List.mem_singleton.mp hm; exact g5 j (fun z => q z.symm) hj
    exact ⟨Nat.lt_of_lt_of_le h1 K.1, h2.tr (fun q => q.keep K) (fun q => q.keep K hba) (fun q => q.keep K hba), fun hw => ⟨(h3 hw).1, (h3 hw).2.1.keep K hs C, (h3 hw).2.2⟩⟩
end Heap
/-! what a run owes -/
def RmLe (r R : Room) : Prop := r.frames ≤ R.frames ∧ r.cells ≤ R.cells ∧ r.slots ≤ R.slots ∧ r.locals ≤ R.locals
theorem RmLe.refl (r : Room) : RmLe r r := ⟨Nat.le_refl _, Nat.le_refl _, Nat.le_refl _, Nat.le_refl _⟩
theorem RmLe.trans {r s t : Room} (a : RmLe r s) (b : RmLe s t) : RmLe r t := ⟨Nat.le_trans a.1 b.1, Nat.le_trans a.2.1 b.2.1, Nat.le_trans a.2.2.1 b.2.2.1, Nat.le_trans a.2.2.2 b.2.2.2⟩
def Go (b : Nat) (p : Program) (l : Launch) (e : Env) (R : Room) (s : State) (vm₁ : Vm) (m : MethodId) (args : Array Value) (below : List Frame) (meth : Method) (c : Code) (T : State) (locs : List Loc) (r : Room) (Z : State) (a0 : Array Value) (n0 k0 : Nat) : Prop :=
  Stand p l e R (s.setVm vm₁) m args below meth c T locs r.cells r.slots ∧ p.tables.exec = Jvm.exec ∧ s.Since vm₁ k0 ∧ k0 ≤ T.heap.size ∧ Z.Warmed39 (s.setVm vm₁).vm ∧ (s.setVm vm₁).vm.findClass (bi b).1.cls = some m.cls ∧
    c.code = (bi b).2.1 ∧ c.maxLocals = (bi b).2.2.1 ∧ meth.sig.returnType = (bi b).2.2.2 ∧ meth.locks = false ∧ meth.name = (bi b).1.name ∧ HW Z a0 ∧ Fr n0 locs
def QA (Z : State) (n0 : Nat) (env : List Addr) (o : ARes) (v : Option Value) (vm : Vm) (h : Heap) (L : List Loc) : Prop := Fr n0 L ∧ ∃ env2, HR Z n0 vm h (env ++ env2) o.2.1 ∧ OV (env ++ env2) o.1 v
def OutA (Z : State) (n0 : Nat) (env : List Addr) (o : ARes) (s : State) (below : List Frame) (t : State) : Prop :=
  ∃ oc, t.status = .running ∧ Ended t below oc ∧ ∃ v L, oc = .returned v ∧ QA Z n0 env o v t.vm t.heap L ∧ ReturnedEndW s oc t L o.2.2.cells o.2.2.slots
theorem OutA.back {Z : State} {n0 : Nat} {env env2 : List Addr} {o : ARes} {s : State} {below : List Frame} {t : State} (h : OutA Z n0 (env ++ env2) o s below t) : OutA Z n0 env o s below t := by
  obtain ⟨oc, h1, h2, v, L, h3, ⟨h4, env3, h5, h6⟩, h7⟩ := h
  rw [List.append_assoc] at h5 h6
  exact ⟨oc, h1, h2, v, L, h3, ⟨h4, env2 ++ env3, h5, h6⟩, h7⟩
def Owes (b pc : Nat) (L : List Slot) (S : List Value) (H : AH) (r : Room) (o : ARes) : Prop :=
  RmLe r o.2.2 ∧ ∀ (p : Program) (l : Launch) (e : Env) (R : Room) (s : State) (vm₁ : Vm) (m : MethodId) (args : Array Value) (below : List Frame) (meth : Method) (c : Code) (T : State) (locs : List Loc) (Z : State) (a0 : Array Value) (n0 k0 : Nat) (env : List Addr) (Ls : Array Slot) (Sc : List Value),
    Go b p l e R s vm₁ m args below meth c T locs r Z a0 n0 k0 → HR Z n0 vm₁ T.heap env H → RL (SR env) L Ls.toList → RL (VR env) S Sc → Ls.size = (bi b).2.2.1 → RmLe o.2.2 R →
    Gets p e below (OutA Z n0 env o s below) (T.setTop (mkF m pc Ls Sc))
def Sound (b pc : Nat) (f : AStep) : Prop := ∀ rec : Fn, (∀ b pc L S H r o, rec b pc L S H r = some o → Owes b pc L S H r o) → ∀ L S H r o, f rec L S H r = some o → Owes b pc L S H r o
/-- one step: from the next state's owing to this one's -/
theorem Owes.go {b pc pc' : Nat} {L L' : List Slot} {S S' : List Value} {H H' : AH} {r r' : Room} {o : ARes} (h : Owes b pc' L' S' H' r' o) (hr : RmLe r r')
    (k : ∀ (p : Program) (l : Launch) (e : Env) (R : Room) (s : State) (vm₁ : Vm) (m : MethodId) (args : Array Value) (below : List Frame) (meth : Method) (c : Code) (T : State) (locs : List Loc) (Z : State) (a0 : Array Value) (n0 k0 : Nat) (env : List Addr) (Ls : Array Slot) (Sc : List Value),
      Go b p l e R s vm₁ m args below meth c T locs r Z a0 n0 k0 → HR Z n0 vm₁ T.heap env H → RL (SR env) L Ls.toList → RL (VR env) S Sc → Ls.size = (bi b).2.2.1 → RmLe r' R →
      ∃ (vm₂ : Vm) (T' : State) (locs' : List Loc) (k1 : Nat) (env2 : List Addr) (Ls' : Array Slot) (Sc' : List Value), Go b p l e R s vm₂ m args below meth c T' locs' r' Z a0 n0 k1 ∧ HR Z n0 vm₂ T'.heap (env ++ env2) H' ∧ RL (SR (env ++ env2)) L' Ls'.toList ∧ RL (VR (env ++ env2)) S' Sc' ∧ Ls'.size = (bi b).2.2.1 ∧
        ∀ t, Steps p.tables e below (T'.setTop (mkF m pc' Ls' Sc')) t → Steps p.tables e below (T.setTop (mkF m pc Ls Sc)) t) : Owes b pc L S H r o := by
  refine ⟨hr.trans h.1, fun p l e R s vm₁ m args below meth c T locs Z a0 n0 k0 env Ls Sc G hH hL hS hz hR => ?_⟩
  obtain ⟨vm₂, T', locs', k1, env2, Ls', Sc', G', hH', hL', hS', hz', st⟩ := k p l e R s vm₁ m args below meth c T locs Z a0 n0 k0 env Ls Sc G hH hL hS hz (h.1.trans hR)
  obtain ⟨t, h1, h2⟩ := h.2 p l e R s vm₂ m args below meth c T' locs' Z a0 n0 k1 (env ++ env2) Ls' Sc' G' hH' hL' hS' hz' hR
  exact ⟨t, st t h1, h2.back⟩
/-- .. that leaves the heap and the tables as they are -/
theorem Owes.pure {b pc pc' : Nat} {L L' : List Slot} {S S' : List Value} {H : AH} {r : Room} {o : ARes} (h : Owes b pc' L' S' H r o)
    (k : ∀ (p : Program) (l : Launch) (e : Env) (R : Room) (s : State) (m : MethodId) (args : Array Value) (below : List Frame) (meth : Method) (c : Code) (T : State) (locs : List Loc) (Z : State) (a0 : Array Value) (env : List Addr) (Ls : Array Slot) (Sc : List Value),
      Stand p l e R s m args below meth c T locs r.cells r.slots → p.tables.exec = Jvm.exec → c.code = (bi b).2.1 → Z.Warmed39 s.vm → s.vm.findClass (bi b).1.cls = some m.cls → HW Z a0 → RL (SR env) L Ls.toList → RL (VR env) S Sc →
      ∃ (Ls' : Array Slot) (Sc' : List Value), Ls'.size = Ls.size ∧ RL (SR env) L' Ls'.toList ∧ RL (VR env) S' Sc' ∧ ∀ t, Steps p.tables e below (T.setTop (mkF m pc' Ls' Sc')) t → Steps p.tables e below (T.setTop (mkF m pc Ls Sc)) t) : Owes b pc L S H r o := by
  refine Owes.go h (RmLe.refl _) fun p l e R s vm₁ m args below meth c T locs Z a0 n0 k0 env Ls Sc G hH hL hS hz hR => ?_
  obtain ⟨Ls', Sc', h1, h2, h3, h4⟩ := k p l e R (s.setVm vm₁) m args below meth c T locs Z a0 env Ls Sc G.1 G.2.1 G.2.2.2.2.2.2.1 G.2.2.2.2.1 G.2.2.2.2.2.1 G.2.2.2.2.2.2.2.2.2.2.2.1 hL hS
  exact ⟨vm₁, T, locs, k0, [], Ls', Sc', G, by rw [List.append_nil]; exact hH, by rw [List.append_nil]; exact h2, by rw [List.append_nil]; exact h3, h1.trans hz, h4⟩
/-- .. that reads the heap: the state after it bears the same heap -/
theorem Owes.read {b pc pc' : Nat} {L : List Slot} {S S' : List Value} {H : AH} {r : Room} {o : ARes} (h : Owes b pc' L S' H r o)
    (k : ∀ (p : Program) (l : Launch) (e : Env) (R : Room) (s : State) (vm₁ : Vm) (m : MethodId) (args : Array Value) (below : List Frame) (meth : Method) (c : Code) (T : State) (locs : List Loc) (Z : State) (a0 : Array Value) (n0 : Nat) (env : List Addr) (Ls : Array Slot) (Sc : List Value),
      Stand p l e R s m args below meth c T locs r.cells r.slots → p.tables.exec = Jvm.exec → c.code = (bi b).2.1 → Z.Warmed39 s.vm → s.vm.findClass (bi b).1.cls = some m.cls → HW Z a0 → HR Z n0 vm₁ T.heap env H → RL (VR env) S Sc →
      ∃ (T' : State) (Sc' : List Value), Stand p l e R s m args below meth c T' locs r.cells r.slots ∧ T'.heap = T.heap ∧ RL (VR env) S' Sc' ∧ ∀ t, Steps p.tables e below (T'.setTop (mkF m pc' Ls Sc')) t → Steps p.tables e below (T.setTop (mkF m pc Ls Sc)) t) : Owes b pc L S H r o := by
  refine Owes.go h (RmLe.refl _) fun p l e R s vm₁ m args below meth c T locs Z a0 n0 k0 env Ls Sc G hH hL hS hz hR => ?_
  obtain ⟨T', Sc', h1, h2, h3, h4⟩ := k p l e R (s.setVm vm₁) vm₁ m args below meth c T locs Z a0 n0 env Ls Sc G.1 G.2.1 G.2.2.2.2.2.2.1 G.2.2.2.2.1 G.2.2.2.2.2.1 G.2.2.2.2.2.2.2.2.2.2.2.1 hH hS
  exact ⟨vm₁, T', locs, k0, [], Ls, Sc', ⟨h1, G.2.1, G.2.2.1, by rw [h2]; exact G.2.2.2.1, G.2.2.2.2⟩, by rw [List.append_nil, h2]; exact hH, by rw [List.append_nil]; exact hL, by rw [List.append_nil]; exact h3, hz, h4⟩
/-- .. that writes one object -/
theorem Owes.write {b pc pc' i : Nat} {L : List Slot} {S S' : List Value} {H : AH} {ob ob' : AObj} {r : Room} {o : ARes} (h : Owes b pc' L S' (H.set i ob') r o) (hi : H[i]? = some ob) (hfl : ob.2.1 = true)
    (k : ∀ (p : Program) (l : Launch) (e : Env) (R : Room) (s : State) (vm₁ : Vm) (m : MethodId) (args : Array Value) (below : List Frame) (meth : Method) (c : Code) (T : State) (locs : List Loc) (Z : State) (a0 : Array Value) (n0 : Nat) (env : List Addr) (Ls : Array Slot) (Sc : List Value),
      Stand p l e R s m args below meth c T locs r.cells r.slots → p.tables.exec = Jvm.exec → c.code = (bi b).2.1 → Z.Warmed39 s.vm → s.vm.findClass (bi b).1.cls = some m.cls → meth.name = (bi b).1.name → HW Z a0 → HR Z n0 vm₁ T.heap env H → RL (VR env) S Sc →
      ∃ (a : Addr) (sl : Nat) (w : Value) (T' : State) (Sc' : List Value), env[i]? = some a ∧ Stand p l e R s m args below meth c T' (locs ++ [⟨a, sl⟩]) r.cells r.slots ∧ Wr T.heap T'.heap a sl w ∧ OR Z T'.heap env a ob' ∧ RL (VR env) S' Sc' ∧ ∀ t, Steps p.tables e below (T'.setTop (mkF m pc' Ls Sc')) t → Steps p.tables e below (T.setTop (mkF m pc Ls Sc)) t) : Owes b pc L S H r o := by
  refine Owes.go h (RmLe.refl _) fun p l e R s vm₁ m args below meth c T locs Z a0 n0 k0 env Ls Sc G hH hL hS hz hR => ?_
  obtain ⟨g1, g2, g3, g4, g5, g6, g7, g8, g9, g10, g11, g12, g13⟩ := G
  obtain ⟨a, sl, w, T', Sc', h1, h2, h3, h4, h5, h6⟩ := k p l e R (s.setVm vm₁) vm₁ m args below meth c T locs Z a0 n0 env Ls Sc g1 g2 g7 g5 g6 g11 g12 hH hS
  have hge : n0 ≤ a := ((hH.2.2.2.2 i a ob h1 hi).2.2 hfl).1
  exact ⟨vm₁, T', locs ++ [⟨a, sl⟩], k0, [], Ls, Sc', ⟨h2, g2, g3, by rw [h3.size]; exact g4, g5, g6, g7, g8, g9, g10, g11, g12, Fr.snoc h2 g13 hge⟩, by rw [List.append_nil]; exact hH.kp h1 hi hfl (Keep.of_wr h3) h4, by rw [List.append_nil]; exact hL, by rw [List.append_nil]; exact h5, hz, h6⟩
/-- .. that makes one object -/
theorem Owes.make {b pc pc' cl sl : Nat} {L : List Slot} {S S' : List Value} {H : AH} {ob : AObj} {r : Room} {o : ARes} (h : Owes b pc' L (.ref H.length :: S') (H ++ [ob]) { r with cells := r.cells + cl, slots := r.slots + sl } o)
    (k : ∀ (p : Program) (l : Launch) (e : Env) (R : Room) (s : State) (vm₁ : Vm) (m : MethodId) (args : Array Value) (below : List Frame) (meth : Method) (c : Code) (T : State) (locs : List Loc) (Z : State) (a0 : Array Value) (n0 : Nat) (env : List Addr) (Ls : Array Slot) (Sc : List Value),
      Stand p l e R s m args below meth c T locs r.cells r.slots → p.tables.exec = Jvm.exec → c.code = (bi b).2.1 → Z.Warmed39 s.vm → s.vm.findClass (bi b).1.cls = some m.cls → HW Z a0 → HR Z n0 vm₁ T.heap env H → RL (VR env) S Sc → r.cells + cl ≤ R.cells → r.slots + sl ≤ R.slots →
      ∃ (T' : State) (Sc' : List Value), Stand p l e R s m args below meth c T' locs (r.cells + cl) (r.slots + sl) ∧ Ext T.heap T'.heap ∧ T.heap.size < T'.heap.size ∧ OR Z T'.heap (env ++ [T.heap.size]) T.heap.size ob ∧ RL (VR env) S' Sc' ∧ ∀ t, Steps p.tables e below (T'.setTop (mkF m pc' Ls (.ref T.heap.size :: Sc'))) t → Steps p.tables e below (T.setTop (mkF m pc Ls Sc)) t) : Owes b pc L S H r o := by
  refine Owes.go h ⟨Nat.le_refl _, Nat.le_add_right _ _, Nat.le_add_right _ _, Nat.le_refl _⟩ fun p l e R s vm₁ m args below meth c T locs Z a0 n0 k0 env Ls Sc G hH hL hS hz hR => ?_
  obtain ⟨g1, g2, g3, g4, g5, g6, g7, g8, g9, g10, g11, g12, g13⟩ := G
  obtain ⟨T', Sc', h2, h3, h3', h4, h5, h6⟩ := k p l e R (s.setVm vm₁) vm₁ m args below meth c T locs Z a0 n0 env Ls Sc g1 g2 g7 g5 g6 g12 hH hS hR.2.1 hR.2.2.1
  refine ⟨vm₁, T', locs, k0, [T.heap.size], Ls, .ref T.heap.size :: Sc', ⟨h2, g2, g3, Nat.le_trans g4 h3.1, g5, g6, g7, g8, g9, g10, g11, g12, g13⟩, hH.new h3 h3' h4, hL.mono fun _ _ q => q.mono _, ⟨_, _, rfl, ⟨T.heap.size, ?_, rfl⟩, h5.mono fun _ _ q => q.mono _⟩, hz, h6⟩
  rw [← hH.2.2.2.1, List.getElem?_append_right (Nat.le_refl _)]; simp
/-! the places of the abstract heap -/
def hk (H : AH) (i k : Nat) : Option (Bool × List Value) := match H[i]? with
  | some o => (match Nat.beq o.1 k with | true => some o.2 | false => none)
  | none => none
theorem hk_some {H : AH} {i k : Nat} {x : Bool × List Value} (h : hk H i k = some x) : H[i]? = some (k, x.1, x.2) := by
  unfold hk at h
  split at h
  · rename_i ob hob
    split at h
    · rename_i hb
      have e := Nat.eq_of_beq_eq_true hb
      cases h
      rw [hob, ← e]
    · cases h
  · cases h
theorem HR.at {Z : State} {n0 : Nat} {vm : Vm} {h : Heap} {env : List Addr} {H : AH} {i k : Nat} {x : Bool × List Value} {w : Value} (hH : HR Z n0 vm h env H) (hi : hk H i k = some x) (hv : VR env (.ref i) w) : ∃ a, w = .ref a ∧ env[i]? = some a ∧ a < h.size ∧ OR Z h env a (k, x.1, x.2) := by
  obtain ⟨a, h1, rfl⟩ := hv
  obtain ⟨h2, h3, -⟩ := hH.2.2.2.2 i a _ h1 (hk_some hi)
  exact ⟨a, rfl, h1, h2, h3⟩
def f_iadd (b pc : Nat) : AStep := fun rec L S H r => match S with
  | .int y :: .int x :: S' => rec b (pc + 1) L (.int (x + y) :: S') H r
  | _ => none
theorem s_iadd {b pc : Nat} (hd : decode (bi b).2.1 pc = .ok (.iadd, 1)) : Sound b pc (f_iadd b pc) := by
  intro rec hrec L S H r o h
  unfold f_iadd at h
  split at h
  · refine Owes.pure (hrec _ _ _ _ _ _ _ h) ?_
    intro p l e R s m args below meth c T locs Z a0 env Ls Sc X hx hby hZ hown hw hL hS
    obtain ⟨_, _, rfl, rfl, _, _, rfl, rfl, hS⟩ := hS
    exact ⟨Ls, _, rfl, hL, ⟨_, _, rfl, rfl, hS⟩, fun t k => XS.iadd X.here hx rfl (hb hby hd) rfl k⟩
  · cases h
def f_isub (b pc : Nat) : AStep := fun rec L S H r => match S with
  | .int y :: .int x :: S' => rec b (pc + 1) L (.int (x - y) :: S') H r
  | _ => none
theorem s_isub {b pc : Nat} (hd : decode (bi b).2.1 pc = .ok (.isub, 1)) : Sound b pc (f_isub b pc) := by
  intro rec hrec L S H r o h
  unfold f_isub at h
  split at h
  · refine Owes.pure (hrec _ _ _ _ _ _ _ h) ?_
    intro p l e R s m args below meth c T locs Z a0 env Ls Sc X hx hby hZ hown hw hL hS
    obtain ⟨_, _, rfl, rfl, _, _, rfl, rfl, hS⟩ := hS
    exact ⟨Ls, _, rfl, hL, ⟨_, _, rfl, rfl, hS⟩, fun t k => XS.isub X.here hx rfl (hb hby hd) rfl k⟩
  · cases h
def f_iand (b pc : Nat) : AStep := fun rec L S H r => match S with
  | .int y :: .int x :: S' => rec b (pc + 1) L (.int (x &&& y) :: S') H r
  | _ => none
theorem s_iand {b pc : Nat} (hd : decode (bi b).2.1 pc = .ok (.iand, 1)) : Sound b pc (f_iand b pc) := by
  intro rec hrec L S H r o h
  unfold f_iand at h
  split at h
  · refine Owes.pure (hrec _ _ _ _ _ _ _ h) ?_
    intro p l e R s m args below meth c T locs Z a0 env Ls Sc X hx hby hZ hown hw hL hS
    obtain ⟨_, _, rfl, rfl, _, _, rfl, rfl, hS⟩ := hS
    exact ⟨Ls, _, rfl, hL, ⟨_, _, rfl, rfl, hS⟩, fun t k => XS.iand X.here hx rfl (hb hby hd) rfl k⟩
  · cases h
def f_ixor (b pc : Nat) : AStep := fun rec L S H r => match S with
  | .int y :: .int x :: S' => rec b (pc + 1) L (.int (x ^^^ y) :: S') H r
  | _ => none
theorem s_ixor {b pc : Nat} (hd : decode (bi b).2.1 pc = .ok (.ixor, 1)) : Sound b pc (f_ixor b pc) := by
  intro rec hrec L S H r o h
  unfold f_ixor at h
  split at h
  · refine Owes.pure (hrec _ _ _ _ _ _ _ h) ?_
    intro p l e R s m args below meth c T locs Z a0 env Ls Sc X hx hby hZ hown hw hL hS
    obtain ⟨_, _, rfl, rfl, _, _, rfl, rfl, hS⟩ := hS
    exact ⟨Ls, _, rfl, hL, ⟨_, _, rfl, rfl, hS⟩, fun t k => XS.ixor X.here hx rfl (hb hby hd) rfl k⟩
  · cases h
def f_ishl (b pc : Nat) : AStep := fun rec L S H r => match S with
  | .int y :: .int x :: S' => rec b (pc + 1) L (.int (x <<< (y &&& 31)) :: S') H r
  | _ => none
theorem s_ishl {b pc : Nat} (hd : decode (bi b).2.1 pc = .ok (.ishl, 1)) : Sound b pc (f_ishl b pc) := by
  intro rec hrec L S H r o h
  unfold f_ishl at h
  split at h
  · refine Owes.pure (hrec _ _ _ _ _ _ _ h) ?_
    intro p l e R s m args below meth c T locs Z a0 env Ls Sc X hx hby hZ hown hw hL hS
    obtain ⟨_, _, rfl, rfl, _, _, rfl, rfl, hS⟩ := hS
    exact ⟨Ls, _, rfl, hL, ⟨_, _, rfl, rfl, hS⟩, fun t k => XS.ishl X.here hx rfl (hb hby hd) rfl k⟩
  · cases h
def f_ishr (b pc : Nat) : AStep := fun rec L S H r => match S with
  | .int y :: .int x :: S' => rec b (pc + 1) L (.int (x >>> (y &&& 31)) :: S') H r
  | _ => none
theorem s_ishr {b pc : Nat} (hd : decode (bi b).2.1 pc = .ok (.ishr, 1)) : Sound b pc (f_ishr b pc) := by
  intro rec hrec L S H r o h
  unfold f_ishr at h
  split at h
  · refine Owes.pure (hrec _ _ _ _ _ _ _ h) ?_
    intro p l e R s m args below meth c T locs Z a0 env Ls Sc X hx hby hZ hown hw hL hS
    obtain ⟨_, _, rfl, rfl, _, _, rfl, rfl, hS⟩ := hS
    exact ⟨Ls, _, rfl, hL, ⟨_, _, rfl, rfl, hS⟩, fun t k => XS.ishr X.here hx rfl (hb hby hd) rfl k⟩
  · cases h
def f_iushr (b pc : Nat) : AStep := fun rec L S H r => match S with
  | .int y :: .int x :: S' => rec b (pc + 1) L (.int (Jvm.Free.XT.ushr x y) :: S') H r
  | _ => none
theorem s_iushr {b pc : Nat} (hd : decode (bi b).2.1 pc = .ok (.iushr, 1)) : Sound b pc (f_iushr b pc) := by
  intro rec hrec L S H r o h
  unfold f_iushr at h
  split at h
  · refine Owes.pure (hrec _ _ _ _ _ _ _ h) ?_
    intro p l e R s m args below meth c T locs Z a0 env Ls Sc X hx hby hZ hown hw hL hS
    obtain ⟨_, _, rfl, rfl, _, _, rfl, rfl, hS⟩ := hS
    exact ⟨Ls, _, rfl, hL, ⟨_, _, rfl, rfl, hS⟩, fun t k => XS.iushr X.here hx rfl (hb hby hd) rfl k⟩
  · cases h
def f_imul (b pc : Nat) : AStep := fun rec L S H r => match S with
  | .int y :: .int x :: S' => rec b (pc + 1) L (.int (x * y) :: S') H r
  | _ => none
theorem s_imul {b pc : Nat} (hd : decode (bi b).2.1 pc = .ok (.imul, 1)) : Sound b pc (f_imul b pc) := by
  intro rec hrec L S H r o h
  unfold f_imul at h
  split at h
  · refine Owes.pure (hrec _ _ _ _ _ _ _ h) ?_
    intro p l e R s m args below meth c T locs Z a0 env Ls Sc X hx hby hZ hown hw hL hS
    obtain ⟨_, _, rfl, rfl, _, _, rfl, rfl, hS⟩ := hS
    exact ⟨Ls, _, rfl, hL, ⟨_, _, rfl, rfl, hS⟩, fun t k => XS.imul X.here hx rfl (hb hby hd) rfl k⟩
  · cases h
def f_ior (b pc : Nat) : AStep := fun rec L S H r => match S with
  | .int y :: .int x :: S' => rec b (pc + 1) L (.int (x ||| y) :: S') H r
  | _ => none
theorem s_ior {b pc : Nat} (hd : decode (bi b).2.1 pc = .ok (.ior, 1)) : Sound b pc (f_ior b pc) := by
  intro rec hrec L S H r o h
  unfold f_ior at h
  split at h
  · refine Owes.pure (hrec _ _ _ _ _ _ _ h) ?_
    intro p l e R s m args below meth c T locs Z a0 env Ls Sc X hx hby hZ hown hw hL hS
    obtain ⟨_, _, rfl, rfl, _, _, rfl, rfl, hS⟩ := hS
    exact ⟨Ls, _, rfl, hL, ⟨_, _, rfl, rfl, hS⟩, fun t k => XS.ior X.here hx rfl (hb hby hd) rfl k⟩
  · cases h
def f_iconst (b pc : Nat) (i : Int) : AStep := fun rec L S H r => rec b (pc + 1) L (.int (Int32.ofInt i) :: S) H r
theorem s_iconst {b pc : Nat} {i : Int} (hd : decode (bi b).2.1 pc = .ok (.iconst i, 1)) : Sound b pc (f_iconst b pc i) := by
  intro rec hrec L S H r o h
  refine Owes.pure (hrec _ _ _ _ _ _ _ h) ?_
  intro p l e R s m args below meth c T locs Z a0 env Ls Sc X hx hby hZ hown hw hL hS
  exact ⟨Ls, _, rfl, hL, ⟨_, _, rfl, rfl, hS⟩, fun t k => XS.iconst X.here hx rfl (hb hby hd) k⟩
def f_bipush (b pc : Nat) (i : Int) : AStep := fun rec L S H r => rec b (pc + 2) L (.int (Int8.ofInt i).toInt32 :: S) H r
theorem s_bipush {b pc : Nat} {i : Int} (hd : decode (bi b).2.1 pc = .ok (.bipush i, 2)) : Sound b pc (f_bipush b pc i) := by
  intro rec hrec L S H r o h
  refine Owes.pure (hrec _ _ _ _ _ _ _ h) ?_
  intro p l e R s m args below meth c T locs Z a0 env Ls Sc X hx hby hZ hown hw hL hS
  exact ⟨Ls, _, rfl, hL, ⟨_, _, rfl, rfl, hS⟩, fun t k => XS.bipush X.here hx rfl (hb hby hd) k⟩
def f_sipush (b pc : Nat) (i : Int) : AStep := fun rec L S H r => rec b (pc + 3) L (.int (Int16.ofInt i).toInt32 :: S) H r
theorem s_sipush {b pc : Nat} {i : Int} (hd : decode (bi b).2.1 pc = .ok (.sipush i, 3)) : Sound b pc (f_sipush b pc i) := by
  intro rec hrec L S H r o h
  refine Owes.pure (hrec _ _ _ _ _ _ _ h) ?_
  intro p l e R s m args below meth c T locs Z a0 env Ls Sc X hx hby hZ hown hw hL hS
  exact ⟨Ls, _, rfl, hL, ⟨_, _, rfl, rfl, hS⟩, fun t k => XS.sipush X.here hx rfl (hb hby hd) k⟩
def f_null (b pc : Nat) : AStep := fun rec L S H r => rec b (pc + 1) L (.null :: S) H r
theorem s_null {b pc : Nat} (hd : decode (bi b).2.1 pc = .ok (.aconst_null, 1)) : Sound b pc (f_null b pc) := by
  intro rec hrec L S H r o h
  refine Owes.pure (hrec _ _ _ _ _ _ _ h) ?_
  intro p l e R s m args below meth c T locs Z a0 env Ls Sc X hx hby hZ hown hw hL hS
  exact ⟨Ls, _, rfl, hL, ⟨_, _, rfl, rfl, hS⟩, fun t k => XS.aconstNull X.here hx rfl (hb hby hd) k⟩
def isI : Value → Bool
  | .int _ => true
  | .retAddr _ => true
  | _ => false
def isA : Value → Bool
  | .null => true
  | .ref _ => true
  | _ => false
theorem isI_at {env : List Addr} {v w : Value} (h : VR env v w) (q : isI v = true) : ∃ z, w = .int z := by
  cases v with
  | int x => exact ⟨x, h⟩
  | retAddr k => obtain ⟨z, rfl, -⟩ := h; exact ⟨z, rfl⟩
  | _ => cases q
theorem isA_at {env : List Addr} {v w : Value} (h : VR env v w) (q : isA v = true) : w.isRef = true := by
  cases v with
  | null => cases h; rfl
  | ref k => obtain ⟨z, -, rfl⟩ := h; rfl
  | _ => cases q
theorem own_get {env : List Addr} {L : List Slot} {Ls : Array Slot} {k : Nat} {v : Value} (hL : RL (SR env) L Ls.toList) (h : L[k]? = some (.val v)) : ∃ w, Ls[k]? = some (.val w) ∧ VR env v w := by
  obtain ⟨b, h1, w, rfl, h2⟩ := hL.get h
  exact ⟨w, by rw [← Array.getElem?_toList]; exact h1, h2⟩
theorem own_put {env : List Addr} {L : List Slot} {Ls : Array Slot} {k : Nat} {v w : Value} {sl : Slot} (hL : RL (SR env) L Ls.toList) (h : L[k]? = some sl) (hs : sl ≠ .second) (hv : VR env v w) : ∃ Ls', storeLocals Ls k w = some Ls' ∧ Ls'.size = Ls.size ∧ RL (SR env) (L.set k (.val v)) Ls'.toList := by
  obtain ⟨b, h1, h2⟩ := hL.get h
  rw [Array.getElem?_toList] at h1
  refine ⟨_, XS.store1 h1 ?_ hv.cat, by simp, ?_⟩
  · cases sl with
    | unset => exact Or.inl h2
    | second => exact absurd rfl hs
    | val u => obtain ⟨u', rfl, q⟩ := h2; exact Or.inr ⟨u', rfl, q.cat⟩
  · rw [Array.toList_setIfInBounds]; exact hL.set ⟨w, rfl, hv⟩
def f_iload (b pc : Nat) (k : Nat) : AStep := fun rec L S H r => match L[k]? with
  | some (.val v) => (match isI v with | true => rec b (pc + 2) L (v :: S) H r | false => none)
  | _ => none
theorem s_iload {b pc : Nat} {k : Nat} (hd : decode (bi b).2.1 pc = .ok (.iload k, 2)) : Sound b pc (f_iload b pc k) := by
  intro rec hrec L S H r o h
  unfold f_iload at h
  split at h
  · rename_i v hv
    split at h
    · rename_i hi
      refine Owes.pure (hrec _ _ _ _ _ _ _ h) ?_
      intro p l e R s m args below meth c T locs Z a0 env Ls Sc X hx hby hZ hown hw hL hS
      obtain ⟨w, h1, h2⟩ := own_get hL hv
      obtain ⟨z, rfl⟩ := isI_at h2 hi
      exact ⟨Ls, _, rfl, hL, ⟨_, _, rfl, h2, hS⟩, fun t k => XS.iload X.here hx rfl (hb hby hd) h1 k⟩
    · cases h
  · cases h
def f_iloadN (b pc : Nat) (k : Fin 4) : AStep := fun rec L S H r => match L[k.val]? with
  | some (.val v) => (match isI v with | true => rec b (pc + 1) L (v :: S) H r | false => none)
  | _ => none
theorem s_iloadN {b pc : Nat} {k : Fin 4} (hd : decode (bi b).2.1 pc = .ok (.iload_n k, 1)) : Sound b pc (f_iloadN b pc k) := by
  intro rec hrec L S H r o h
  unfold f_iloadN at h
  split at h
  · rename_i v hv
    split at h
    · rename_i hi
      refine Owes.pure (hrec _ _ _ _ _ _ _ h) ?_
      intro p l e R s m args below meth c T locs Z a0 env Ls Sc X hx hby hZ hown hw hL hS
      obtain ⟨w, h1, h2⟩ := own_get hL hv
      obtain ⟨z, rfl⟩ := isI_at h2 hi
      exact ⟨Ls, _, rfl, hL, ⟨_, _, rfl, h2, hS⟩, fun t k => XS.iloadN X.here hx rfl (hb hby hd) h1 k⟩
    · cases h
  · cases h
def f_aload (b pc : Nat) (k : Nat) : AStep := fun rec L S H r => match L[k]? with
  | some (.val v) => (match isA v with | true => rec b (pc + 2) L (v :: S) H r | false => none)
  | _ => none
theorem s_aload {b pc : Nat} {k : Nat} (hd : decode (bi b).2.1 pc = .ok (.aload k, 2)) : Sound b pc (f_aload b pc k) := by
  intro rec hrec L S H r o h
  unfold f_aload at h
  split at h
  · rename_i v hv
    split at h
    · rename_i hi
      refine Owes.pure (hrec _ _ _ _ _ _ _ h) ?_
      intro p l e R s m args below meth c T locs Z a0 env Ls Sc X hx hby hZ hown hw hL hS
      obtain ⟨w, h1, h2⟩ := own_get hL hv
      exact ⟨Ls, _, rfl, hL, ⟨_, _, rfl, h2, hS⟩, fun t k => XS.aload X.here hx rfl (hb hby hd) h1 (isA_at h2 hi) k⟩
    · cases h
  · cases h
def f_aloadN (b pc : Nat) (k : Fin 4) : AStep := fun rec L S H r => match L[k.val]? with
  | some (.val v) => (match isA v with | true => rec b (pc + 1) L (v :: S) H r | false => none)
  | _ => none
theorem s_aloadN {b pc : Nat} {k : Fin 4} (hd : decode (bi b).2.1 pc = .ok (.aload_n k, 1)) : Sound b pc (f_aloadN b pc k) := by
  intro rec hrec L S H r o h
  unfold f_aloadN at h
  split at h
  · rename_i v hv
    split at h
    · rename_i hi
      refine Owes.pure (hrec _ _ _ _ _ _ _ h) ?_
      intro p l e R s m args below meth c T locs Z a0 env Ls Sc X hx hby hZ hown hw hL hS
      obtain ⟨w, h1, h2⟩ := own_get hL hv
      exact ⟨Ls, _, rfl, hL, ⟨_, _, rfl, h2, hS⟩, fun t k => XS.aloadN X.here hx rfl (hb hby hd) h1 (isA_at h2 hi) k⟩
    · cases h
  · cases h
def notSec : Slot → Bool
  | .second => false
  | _ => true
theorem notSec_at {s : Slot} (h : notSec s = true) : s ≠ .second := fun q => by subst q; cases h
def f_istore (b pc : Nat) (k : Nat) : AStep := fun rec L S H r => match S with
  | v :: S' => (match L[k]? with
    | some sl => (match isI v && notSec sl with | true => rec b (pc + 2) (L.set k (.val v)) S' H r | false => none)
    | none => none)
  | [] => none
theorem s_istore {b pc : Nat} {k : Nat} (hd : decode (bi b).2.1 pc = .ok (.istore k, 2)) : Sound b pc (f_istore b pc k) := by
  intro rec hrec L S H r o h
  unfold f_istore at h
  split at h
  · split at h
    · rename_i sl hsl
      split at h
      · rename_i hi
        rw [Bool.and_eq_true] at hi
        refine Owes.pure (hrec _ _ _ _ _ _ _ h) ?_
        intro p l e R s m args below meth c T locs Z a0 env Ls Sc X hx hby hZ hown hw hL hS
        obtain ⟨w, _, rfl, h2, hS⟩ := hS
        obtain ⟨Ls', q1, q2, q3⟩ := own_put hL hsl (notSec_at hi.2) h2
        obtain ⟨z, rfl⟩ := isI_at h2 hi.1
        exact ⟨Ls', _, q2, q3, hS, fun t k => XS.istore X.here hx rfl (hb hby hd) rfl q1 k⟩
      · cases h
    · cases h
  · cases h
def f_istoreN (b pc : Nat) (k : Fin 4) : AStep := fun rec L S H r => match S with
  | v :: S' => (match L[k.val]? with
    | some sl => (match isI v && notSec sl with | true => rec b (pc + 1) (L.set k.val (.val v)) S' H r | false => none)
    | none => none)
  | [] => none
theorem s_istoreN {b pc : Nat} {k : Fin 4} (hd : decode (bi b).2.1 pc = .ok (.istore_n k, 1)) : Sound b pc (f_istoreN b pc k) := by
  intro rec hrec L S H r o h
  unfold f_istoreN at h
  split at h
  · split at h
    · rename_i sl hsl
      split at h
      · rename_i hi
        rw [Bool.and_eq_true] at hi
        refine Owes.pure (hrec _ _ _ _ _ _ _ h) ?_
        intro p l e R s m args below meth c T locs Z a0 env Ls Sc X hx hby hZ hown hw hL hS
        obtain ⟨w, _, rfl, h2, hS⟩ := hS
        obtain ⟨Ls', q1, q2, q3⟩ := own_put hL hsl (notSec_at hi.2) h2
        obtain ⟨z, rfl⟩ := isI_at h2 hi.1
        exact ⟨Ls', _, q2, q3, hS, fun t k => XS.istoreN X.here hx rfl (hb hby hd) rfl q1 k⟩
      · cases h
    · cases h
  · cases h
def f_astore (b pc : Nat) (k : Nat) : AStep := fun rec L S H r => match S with
  | v :: S' => (match L[k]? with
    | some sl => (match isA v && notSec sl with | true => rec b (pc + 2) (L.set k (.val v)) S' H r | false => none)
    | none => none)
  | [] => none
theorem s_astore {b pc : Nat} {k : Nat} (hd : decode (bi b).2.1 pc = .ok (.astore k, 2)) : Sound b pc (f_astore b pc k) := by
  intro rec hrec L S H r o h
  unfold f_astore at h
  split at h
  · split at h
    · rename_i sl hsl
      split at h
      · rename_i hi
        rw [Bool.and_eq_true] at hi
        refine Owes.pure (hrec _ _ _ _ _ _ _ h) ?_
        intro p l e R s m args below meth c T locs Z a0 env Ls Sc X hx hby hZ hown hw hL hS
        obtain ⟨w, _, rfl, h2, hS⟩ := hS
        obtain ⟨Ls', q1, q2, q3⟩ := own_put hL hsl (notSec_at hi.2) h2
        exact ⟨Ls', _, q2, q3, hS, fun t k => XS.astore X.here hx rfl (hb hby hd) rfl (isA_at h2 hi.1) q1 k⟩
      · cases h
    · cases h
  · cases h
def f_astoreN (b pc : Nat) (k : Fin 4) : AStep := fun rec L S H r => match S with
  | v :: S' => (match L[k.val]? with
    | some sl => (match isA v && notSec sl with | true => rec b (pc + 1) (L.set k.val (.val v)) S' H r | false => none)
    | none => none)
  | [] => none
theorem s_astoreN {b pc : Nat} {k : Fin 4} (hd : decode (bi b).2.1 pc = .ok (.astore_n k, 1)) : Sound b pc (f_astoreN b pc k) := by
  intro rec hrec L S H r o h
  unfold f_astoreN at h
  split at h
  · split at h
    · rename_i sl hsl
      split at h
      · rename_i hi
        rw [Bool.and_eq_true] at hi
        refine Owes.pure (hrec _ _ _ _ _ _ _ h) ?_
        intro p l e R s m args below meth c T locs Z a0 env Ls Sc X hx hby hZ hown hw hL hS
        obtain ⟨w, _, rfl, h2, hS⟩ := hS
        obtain ⟨Ls', q1, q2, q3⟩ := own_put hL hsl (notSec_at hi.2) h2
        exact ⟨Ls', _, q2, q3, hS, fun t k => XS.astoreN X.here hx rfl (hb hby hd) rfl (isA_at h2 hi.1) q1 k⟩
      · cases h
    · cases h
  · cases h
def f_iinc (b pc k : Nat) (i : Int) : AStep := fun rec L S H r => match L[k]? with
  | some (.val (.int x)) => rec b (pc + 3) (L.set k (.val (.int (x + Int32.ofInt i)))) S H r
  | _ => none
theorem s_iinc {b pc k : Nat} {i : Int} (hd : decode (bi b).2.1 pc = .ok (.iinc k i, 3)) : Sound b pc (f_iinc b pc k i) := by
  intro rec hrec L S H r o h
  unfold f_iinc at h
  split at h
  · rename_i x hv
    refine Owes.pure (hrec _ _ _ _ _ _ _ h) ?_
    intro p l e R s m args below meth c T locs Z a0 env Ls Sc X hx hby hZ hown hw hL hS
    obtain ⟨w, h1, h2⟩ := own_get hL hv
    cases h2
    obtain ⟨Ls', q1, q2, q3⟩ := own_put (v := .int (x + Int32.ofInt i)) (w := .int (x + Int32.ofInt i)) hL hv nofun rfl
    exact ⟨Ls', _, q2, q3, hS, fun t k => XS.iinc X.here hx rfl (hb hby hd) h1 q1 k⟩
  · cases h
def f_i2b (b pc : Nat) : AStep := fun rec L S H r => match S with
  | .int x :: S' => rec b (pc + 1) L (.int (x.toInt8.toInt32) :: S') H r
  | _ => none
theorem s_i2b {b pc : Nat} (hd : decode (bi b).2.1 pc = .ok (.i2b, 1)) : Sound b pc (f_i2b b pc) := by
  intro rec hrec L S H r o h
  unfold f_i2b at h
  split at h
  · refine Owes.pure (hrec _ _ _ _ _ _ _ h) ?_
    intro p l e R s m args below meth c T locs Z a0 env Ls Sc X hx hby hZ hown hw hL hS
    obtain ⟨_, _, rfl, rfl, hS⟩ := hS
    exact ⟨Ls, _, rfl, hL, ⟨_, _, rfl, rfl, hS⟩, fun t k => XS.i2b X.here hx rfl (hb hby hd) rfl k⟩
  · cases h
def f_dup (b pc : Nat) : AStep := fun rec L S H r => match S with
  | v :: S' => rec b (pc + 1) L (v :: v :: S') H r
  | _ => none
theorem s_dup {b pc : Nat} (hd : decode (bi b).2.1 pc = .ok (.dup, 1)) : Sound b pc (f_dup b pc) := by
  intro rec hrec L S H r o h
  unfold f_dup at h
  split at h
  · refine Owes.pure (hrec _ _ _ _ _ _ _ h) ?_
    intro p l e R s m args below meth c T locs Z a0 env Ls Sc X hx hby hZ hown hw hL hS
    obtain ⟨_, _, rfl, h1, hS⟩ := hS
    exact ⟨Ls, _, rfl, hL, ⟨_, _, rfl, h1, _, _, rfl, h1, hS⟩, fun t k => XS.dup X.here hx rfl (hb hby hd) rfl h1.cat k⟩
  · cases h
def f_pop (b pc : Nat) : AStep := fun rec L S H r => match S with
  | _ :: S' => rec b (pc + 1) L S' H r
  | _ => none
theorem s_pop {b pc : Nat} (hd : decode (bi b).2.1 pc = .ok (.pop, 1)) : Sound b pc (f_pop b pc) := by
  intro rec hrec L S H r o h
  unfold f_pop at h
  split at h
  · refine Owes.pure (hrec _ _ _ _ _ _ _ h) ?_
    intro p l e R s m args below meth c T locs Z a0 env Ls Sc X hx hby hZ hown hw hL hS
    obtain ⟨_, _, rfl, h1, hS⟩ := hS
    exact ⟨Ls, _, rfl, hL, hS, fun t k => XS.pop X.here hx rfl (hb hby hd) rfl h1.cat k⟩
  · cases h
def f_dupX1 (b pc : Nat) : AStep := fun rec L S H r => match S with
  | v :: u :: S' => rec b (pc + 1) L (v :: u :: v :: S') H r
  | _ => none
theorem s_dupX1 {b pc : Nat} (hd : decode (bi b).2.1 pc = .ok (.dup_x1, 1)) : Sound b pc (f_dupX1 b pc) := by
  intro rec hrec L S H r o h
  unfold f_dupX1 at h
  split at h
  · refine Owes.pure (hrec _ _ _ _ _ _ _ h) ?_
    intro p l e R s m args below meth c T locs Z a0 env Ls Sc X hx hby hZ hown hw hL hS
    obtain ⟨_, _, rfl, h1, _, _, rfl, h2, hS⟩ := hS
    exact ⟨Ls, _, rfl, hL, ⟨_, _, rfl, h1, _, _, rfl, h2, _, _, rfl, h1, hS⟩, fun t k => XS.dupX1 X.here hx rfl (hb hby hd) rfl h1.cat h2.cat k⟩
  · cases h
def f_goto (b pc' : Nat) : AStep := fun rec L S H r => rec b pc' L S H r
theorem s_goto {b pc pc' : Nat} {i : Int} (hd : decode (bi b).2.1 pc = .ok (.goto i, 3)) (ho : 0 ≤ (pc : Int) + i) (hp : ((pc : Int) + i).toNat = pc') : Sound b pc (f_goto b pc') := by
  intro rec hrec L S H r o h
  refine Owes.pure (hrec _ _ _ _ _ _ _ h) ?_
  intro p l e R s m args below meth c T locs Z a0 env Ls Sc X hx hby hZ hown hw hL hS
  exact ⟨Ls, _, rfl, hL, hS, fun t k => XS.goto X.here hx rfl rfl (hb hby hd) ho hp k⟩
theorem icmp_ne {x y : Int32} (h : x ≠ y) : if_icmp.holds .eq x y = false ∧ if_icmp.holds .ne x y = true := by simp [if_icmp.holds, h]
def f_if (b pcY pcN : Nat) (cd : ClassFile.Cond) : AStep := fun rec L S H r => match S with
  | .int x :: S' => (match ifCond.holds cd x with | true => rec b pcY L S' H r | false => rec b pcN L S' H r)
  | .retAddr (_ + 1) :: S' => (match cd with | .eq => rec b pcN L S' H r | .ne => rec b pcY L S' H r | _ => none)
  | _ => none
theorem s_if {b pc pcY : Nat} {cd : ClassFile.Cond} {i : Int} (hd : decode (bi b).2.1 pc = .ok (.ifCond cd i, 3)) (ho : 0 ≤ (pc : Int) + i) (hp : ((pc : Int) + i).toNat = pcY) : Sound b pc (f_if b pcY (pc + 3) cd) := by
  intro rec hrec L S H r o h
  unfold f_if at h
  split at h
  · split at h
    · rename_i hc
      refine Owes.pure (hrec _ _ _ _ _ _ _ h) ?_
      intro p l e R s m args below meth c T locs Z a0 env Ls Sc X hx hby hZ hown hw hL hS
      obtain ⟨_, _, rfl, rfl, hS⟩ := hS
      exact ⟨Ls, _, rfl, hL, hS, fun t k => XS.ifYes X.here hx rfl rfl (hb hby hd) rfl hc ho hp k⟩
    · rename_i hc
      refine Owes.pure (hrec _ _ _ _ _ _ _ h) ?_
      intro p l e R s m args below meth c T locs Z a0 env Ls Sc X hx hby hZ hown hw hL hS
      obtain ⟨_, _, rfl, rfl, hS⟩ := hS
      exact ⟨Ls, _, rfl, hL, hS, fun t k => XS.ifNo X.here hx rfl (hb hby hd) rfl hc k⟩
  · split at h
    · refine Owes.pure (hrec _ _ _ _ _ _ _ h) ?_
      intro p l e R s m args below meth c T locs Z a0 env Ls Sc X hx hby hZ hown hw hL hS
      obtain ⟨_, _, rfl, ⟨z, rfl, hz⟩, hS⟩ := hS
      have hc : ifCond.holds .eq z = false := by have := hz 0 (Nat.succ_pos _); simpa [ifCond.holds] using this
      exact ⟨Ls, _, rfl, hL, hS, fun t k => XS.ifNo X.here hx rfl (hb hby hd) rfl hc k⟩
    · refine Owes.pure (hrec _ _ _ _ _ _ _ h) ?_
      intro p l e R s m args below meth c T locs Z a0 env Ls Sc X hx hby hZ hown hw hL hS
      obtain ⟨_, _, rfl, ⟨z, rfl, hz⟩, hS⟩ := hS
      have hc : ifCond.holds .ne z = true := by have := hz 0 (Nat.succ_pos _); simpa [ifCond.holds] using this
      exact ⟨Ls, _, rfl, hL, hS, fun t k => XS.ifYes X.here hx rfl rfl (hb hby hd) rfl hc ho hp k⟩
    · cases h
  · cases h
def tokNe (k : Nat) (x : Int32) : Bool := (List.range k).any fun j => decide (Int32.ofNat j = x)
theorem tokNe_at {k : Nat} {x z : Int32} (h : tokNe k x = true) (hz : ∀ j, j < k → z ≠ Int32.ofNat j) : z ≠ x := by
  obtain ⟨j, h1, h2⟩ := List.any_eq_true.mp h
  have e := of_decide_eq_true h2
  subst e; exact hz j (List.mem_range.mp h1)
def f_icmp (b pcY pcN : Nat) (cd : ClassFile.Cond) : AStep := fun rec L S H r => match S with
  | .int y :: .int x :: S' => (match if_icmp.holds cd x y with | true => rec b pcY L S' H r | false => rec b pcN L S' H r)
  | .retAddr k :: .int x :: S' => (match tokNe k x with | true => (match cd with | .eq => rec b pcN L S' H r | .ne => rec b pcY L S' H r | _ => none) | false => none)
  | .int x :: .retAddr k :: S' => (match tokNe k x with | true => (match cd with | .eq => rec b pcN L S' H r | .ne => rec b pcY L S' H r | _ => none) | false => none)
  | _ => none
theorem s_icmp {b pc pcY : Nat} {cd : ClassFile.Cond} {i : Int} (hd : decode (bi b).2.1 pc = .ok (.if_icmp cd i, 3)) (ho : 0 ≤ (pc : Int) + i) (hp : ((pc : Int) + i).toNat = pcY) : Sound b pc (f_icmp b pcY (pc + 3) cd) := by
  intro rec hrec L S H r o h
  unfold f_icmp at h
  split at h
  · split at h
    · rename_i hc
      refine Owes.pure (hrec _ _ _ _ _ _ _ h) ?_
      intro p l e R s m args below meth c T locs Z a0 env Ls Sc X hx hby hZ hown hw hL hS
      obtain ⟨_, _, rfl, rfl, _, _, rfl, rfl, hS⟩ := hS
      exact ⟨Ls, _, rfl, hL, hS, fun t k => XS.icmpYes X.here hx rfl rfl (hb hby hd) rfl hc ho hp k⟩
    · rename_i hc
      refine Owes.pure (hrec _ _ _ _ _ _ _ h) ?_
      intro p l e R s m args below meth c T locs Z a0 env Ls Sc X hx hby hZ hown hw hL hS
      obtain ⟨_, _, rfl, rfl, _, _, rfl, rfl, hS⟩ := hS
      exact ⟨Ls, _, rfl, hL, hS, fun t k => XS.icmpNo X.here hx rfl (hb hby hd) rfl hc k⟩
  · split at h
    · rename_i hk
      split at h
      · refine Owes.pure (hrec _ _ _ _ _ _ _ h) ?_
        intro p l e R s m args below meth c T locs Z a0 env Ls Sc X hx hby hZ hown hw hL hS
        obtain ⟨_, _, rfl, ⟨z, rfl, hz⟩, _, _, rfl, rfl, hS⟩ := hS
        have hc := icmp_ne ((tokNe_at hk hz).symm)
        exact ⟨Ls, _, rfl, hL, hS, fun t k => XS.icmpNo X.here hx rfl (hb hby hd) rfl hc.1 k⟩
      · refine Owes.pure (hrec _ _ _ _ _ _ _ h) ?_
        intro p l e R s m args below meth c T locs Z a0 env Ls Sc X hx hby hZ hown hw hL hS
        obtain ⟨_, _, rfl, ⟨z, rfl, hz⟩, _, _, rfl, rfl, hS⟩ := hS
        have hc := icmp_ne ((tokNe_at hk hz).symm)
        exact ⟨Ls, _, rfl, hL, hS, fun t k => XS.icmpYes X.here hx rfl rfl (hb hby hd) rfl hc.2 ho hp k⟩
      · cases h
    · cases h
  · split at h
    · rename_i hk
      split at h
      · refine Owes.pure (hrec _ _ _ _ _ _ _ h) ?_
        intro p l e R s m args below meth c T locs Z a0 env Ls Sc X hx hby hZ hown hw hL hS
        obtain ⟨_, _, rfl, rfl, _, _, rfl, ⟨z, rfl, hz⟩, hS⟩ := hS
        have hc := icmp_ne (tokNe_at hk hz)
        exact ⟨Ls, _, rfl, hL, hS, fun t k => XS.icmpNo X.here hx rfl (hb hby hd) rfl hc.1 k⟩
      · refine Owes.pure (hrec _ _ _ _ _ _ _ h) ?_
        intro p l e R s m args below meth c T locs Z a0 env Ls Sc X hx hby hZ hown hw hL hS
        obtain ⟨_, _, rfl, rfl, _, _, rfl, ⟨z, rfl, hz⟩, hS⟩ := hS
        have hc := icmp_ne (tokNe_at hk hz)
        exact ⟨Ls, _, rfl, hL, hS, fun t k => XS.icmpYes X.here hx rfl rfl (hb hby hd) rfl hc.2 ho hp k⟩
      · cases h
    · cases h
  · cases h
def f_ifnull (b pcY pcN : Nat) : AStep := fun rec L S H r => match S with
  | .null :: S' => rec b pcY L S' H r
  | .ref _ :: S' => rec b pcN L S' H r
  | _ => none
theorem s_ifnull {b pc pcY : Nat} {i : Int} (hd : decode (bi b).2.1 pc = .ok (.ifnull i, 3)) (ho : 0 ≤ (pc : Int) + i) (hp : ((pc : Int) + i).toNat = pcY) : Sound b pc (f_ifnull b pcY (pc + 3)) := by
  intro rec hrec L S H r o h
  unfold f_ifnull at h
  split at h
  · refine Owes.pure (hrec _ _ _ _ _ _ _ h) ?_
    intro p l e R s m args below meth c T locs Z a0 env Ls Sc X hx hby hZ hown hw hL hS
    obtain ⟨_, _, rfl, rfl, hS⟩ := hS
    exact ⟨Ls, _, rfl, hL, hS, fun t k => XS.ifnullYes X.here hx rfl rfl (hb hby hd) rfl ho hp k⟩
  · refine Owes.pure (hrec _ _ _ _ _ _ _ h) ?_
    intro p l e R s m args below meth c T locs Z a0 env Ls Sc X hx hby hZ hown hw hL hS
    obtain ⟨_, _, rfl, ⟨a, -, rfl⟩, hS⟩ := hS
    exact ⟨Ls, _, rfl, hL, hS, fun t k => XS.ifnullNo X.here hx rfl (hb hby hd) rfl k⟩
  · cases h
theorem s_ifnonnull {b pc pcY : Nat} {i : Int} (hd : decode (bi b).2.1 pc = .ok (.ifnonnull i, 3)) (ho : 0 ≤ (pc : Int) + i) (hp : ((pc : Int) + i).toNat = pcY) : Sound b pc (f_ifnull b (pc + 3) pcY) := by
  intro rec hrec L S H r o h
  unfold f_ifnull at h
  split at h
  · refine Owes.pure (hrec _ _ _ _ _ _ _ h) ?_
    intro p l e R s m args below meth c T locs Z a0 env Ls Sc X hx hby hZ hown hw hL hS
    obtain ⟨_, _, rfl, rfl, hS⟩ := hS
    exact ⟨Ls, _, rfl, hL, hS, fun t k => XS.ifnonnullNo X.here hx rfl (hb hby hd) rfl k⟩
  · refine Owes.pure (hrec _ _ _ _ _ _ _ h) ?_
    intro p l e R s m args below meth c T locs Z a0 env Ls Sc X hx hby hZ hown hw hL hS
    obtain ⟨_, _, rfl, ⟨a, -, rfl⟩, hS⟩ := hS
    exact ⟨Ls, _, rfl, hL, hS, fun t k => XS.ifnonnullYes X.here hx rfl rfl (hb hby hd) rfl ho hp k⟩
  · cases h
/-- of two steps the first that comes to an end -/
def f_or (f g : AStep) : AStep := fun rec L S H r => match f rec L S H r with
  | some o => some o
  | none => g rec L S H r
theorem s_or {b pc : Nat} {f g : AStep} (hf : Sound b pc f) (hg : Sound b pc g) : Sound b pc (f_or f g) := by
  intro rec hrec L S H r o h
  unfold f_or at h
  split at h
  · rename_i o' ho
    cases h; exact hf rec hrec _ _ _ _ _ ho
  · exact hg rec hrec _ _ _ _ _ h
def f_sw (b : Nat) (z : Int32) (pc' : Nat) : AStep := fun rec L S H r => match S with
  | .int x :: S' => (match decide (x = z) with | true => rec b pc' L S' H r | false => none)
  | _ => none
theorem s_lswHit {b pc pc' : Nat} {z : Int32} {df : Int} {prs : Array (Int × Int)} {len : Nat} {a i : Int} (hd : decode (bi b).2.1 pc = .ok (.lookupswitch df prs, len)) (hs : (prs.toList.zip (prs.toList.drop 1)).all (fun (a, next) => a.1 < next.1) = true) (hf : prs.find? (·.1 == z.toInt) = some (a, i)) (ho : 0 ≤ (pc : Int) + i) (hp : ((pc : Int) + i).toNat = pc') : Sound b pc (f_sw b z pc') := by
  intro rec hrec L S H r o h
  subst hp
  unfold f_sw at h
  split at h
  · split at h
    · rename_i hq
      have hq := of_decide_eq_true hq
      subst hq
      refine Owes.pure (hrec _ _ _ _ _ _ _ h) ?_
      intro p l e R s m args below meth c T locs Z a0 env Ls Sc X hx hby hZ hown hw hL hS
      obtain ⟨_, Sr, rfl, rfl, hS⟩ := hS
      exact ⟨Ls, _, rfl, hL, hS, fun t k => X.lookupswitchHit hx (g := mkF m pc Ls (.int _ :: Sr)) rfl rfl (hb hby hd) hs hf ho t k⟩
    · cases h
  · cases h
theorem s_lswMiss {b pc pc' : Nat} {z : Int32} {df : Int} {prs : Array (Int × Int)} {len : Nat} (hd : decode (bi b).2.1 pc = .ok (.lookupswitch df prs, len)) (hs : (prs.toList.zip (prs.toList.drop 1)).all (fun (a, next) => a.1 < next.1) = true) (hf : prs.find? (·.1 == z.toInt) = none) (ho : 0 ≤ (pc : Int) + df) (hp : ((pc : Int) + df).toNat = pc') : Sound b pc (f_sw b z pc') := by
  intro rec hrec L S H r o h
  subst hp
  unfold f_sw at h
  split at h
  · split at h
    · rename_i hq
      have hq := of_decide_eq_true hq
      subst hq
      refine Owes.pure (hrec _ _ _ _ _ _ _ h) ?_
      intro p l e R s m args below meth c T locs Z a0 env Ls Sc X hx hby hZ hown hw hL hS
      obtain ⟨_, Sr, rfl, rfl, hS⟩ := hS
      exact ⟨Ls, _, rfl, hL, hS, fun t k => X.lookupswitchMiss hx (g := mkF m pc Ls (.int _ :: Sr)) rfl rfl (hb hby hd) hs hf ho t k⟩
    · cases h
  · cases h
theorem s_tswIn {b pc pc' : Nat} {z : Int32} {df lo hi : Int} {offs : Array Int} {len : Nat} {i : Int} (hd : decode (bi b).2.1 pc = .ok (.tableswitch df lo hi offs, len)) (hin : ¬ (z.toInt < lo ∨ z.toInt > hi)) (hf : offs[(z.toInt - lo).toNat]? = some i) (ho : 0 ≤ (pc : Int) + i) (hp : ((pc : Int) + i).toNat = pc') : Sound b pc (f_sw b z pc') := by
  intro rec hrec L S H r o h
  subst hp
  unfold f_sw at h
  split at h
  · split at h
    · rename_i hq
      have hq := of_decide_eq_true hq
      subst hq
      refine Owes.pure (hrec _ _ _ _ _ _ _ h) ?_
      intro p l e R s m args below meth c T locs Z a0 env Ls Sc X hx hby hZ hown hw hL hS
      obtain ⟨_, Sr, rfl, rfl, hS⟩ := hS
      exact ⟨Ls, _, rfl, hL, hS, fun t k => XS.tswIn X.here hx rfl rfl (hb hby hd) rfl hin hf ho rfl k⟩
    · cases h
  · cases h
theorem s_tswOut {b pc pc' : Nat} {z : Int32} {df lo hi : Int} {offs : Array Int} {len : Nat} (hd : decode (bi b).2.1 pc = .ok (.tableswitch df lo hi offs, len)) (hin : z.toInt < lo ∨ z.toInt > hi) (ho : 0 ≤ (pc : Int) + df) (hp : ((pc : Int) + df).toNat = pc') : Sound b pc (f_sw b z pc') := by
  intro rec hrec L S H r o h
  subst hp
  unfold f_sw at h
  split at h
  · split at h
    · rename_i hq
      have hq := of_decide_eq_true hq
      subst hq
      refine Owes.pure (hrec _ _ _ _ _ _ _ h) ?_
      intro p l e R s m args below meth c T locs Z a0 env Ls Sc X hx hby hZ hown hw hL hS
      obtain ⟨_, Sr, rfl, rfl, hS⟩ := hS
      exact ⟨Ls, _, rfl, hL, hS, fun t k => XS.tswOut X.here hx rfl rfl (hb hby hd) rfl hin ho rfl k⟩
    · cases h
  · cases h
/-! fields, arrays, new objects -/
theorem own_at {ws : List Value} {i : Nat} {w d : Value} (h : ws[i]? = some w) : ws.getD i d = w := by rw [List.getD_eq_getElem?_getD, h]; rfl
def LkF (b idx : Nat) (R0 n d : String) : Prop := Wd (.fieldLink (bi b).1.cls idx R0 n d) ∨ ∃ host, Wd (.fieldLinkNest (bi b).1.cls idx R0 n d host)
theorem LkF.at {b idx : Nat} {R0 n d : String} (h : LkF b idx R0 n d) {Z : State} {a0 : Array Value} (hw : HW Z a0) : ∃ host, (Jvm.Cond.fieldLink (bi b).1.cls idx R0 n d).before a0 Z = true ∨ (Jvm.Cond.fieldLinkNest (bi b).1.cls idx R0 n d host).before a0 Z = true := by
  rcases h with h | ⟨host, h⟩
  · exact ⟨"", Or.inl (h _ _ hw)⟩
  · exact ⟨host, Or.inr (h _ _ hw)⟩
def Vi (R0 O n d : String) : Prop := ∀ (Z : State) (a0 : Array Value), HW Z a0 → Via Z R0 O n d
theorem Vi.refl {O n d : String} : Vi O O n d := fun _ _ _ => Via.refl
theorem Vi.of {R0 O n d : String} (w : Wd (.sameField R0 O n d)) : Vi R0 O n d := fun _ _ hw => Via.of (w _ _ hw)
def f_getf (b pc k q : Nat) : AStep := fun rec L S H r => match S with
  | .ref i :: S' => (match hk H i k with
    | some x => (match x.2[q]? with | some v => rec b (pc + 3) L (v :: S') H r | none => none)
    | none => none)
  | _ => none
theorem s_getf {b pc k q idx : Nat} {R0 O n d : String} (hd : decode (bi b).2.1 pc = .ok (.getfield idx, 3)) (hk0 : (kd k).1 = 0) (hf : (kd k).2.2.2[q]? = some (O, n, d)) (lk : LkF b idx R0 n d) (via : Vi R0 O n d) : Sound b pc (f_getf b pc k q) := by
  intro rec hrec L S H r o h
  unfold f_getf at h
  split at h
  · split at h
    · rename_i x hx0
      split at h
      · rename_i v hv
        refine Owes.read (hrec _ _ _ _ _ _ _ h) ?_
        intro p l e R s vm₁ m args below meth c T locs Z a0 n0 env Ls Sc X hx hby hZ hown hw hH hS
        obtain ⟨_, Sr, rfl, h1, hS⟩ := hS
        obtain ⟨a, rfl, -, -, hO⟩ := hH.at hx0 h1
        obtain ⟨f, e1, w, hvw, F⟩ := (hO.2.1 hk0).get hv
        cases hf.symm.trans e1
        obtain ⟨host, lk⟩ := lk.at hw
        obtain ⟨T', X', e', st⟩ := getF X hx hZ hown lk (via _ _ hw) rfl F (g := mkF m pc Ls (.ref a :: Sr)) rfl rfl (hb hby hd)
        exact ⟨T', _, X', e', ⟨_, _, rfl, hvw, hS⟩, st⟩
      · cases h
    · cases h
  · cases h
def f_gets (b pc : Nat) (v : Value) : AStep := fun rec L S H r => rec b (pc + 3) L (v :: S) H r
theorem s_gets {b pc idx i : Nat} {v : Value} {R0 O n d : String} (hd : decode (bi b).2.1 pc = .ok (.getstatic idx, 3)) (hs : stl[i]? = some ((O, n, d), v)) (lk : LkF b idx R0 n d) (via : Vi R0 O n d) : Sound b pc (f_gets b pc v) := by
  intro rec hrec L S H r o h
  refine Owes.read (hrec _ _ _ _ _ _ _ h) ?_
  intro p l e R s vm₁ m args below meth c T locs Z a0 n0 env Ls Sc X hx hby hZ hown hw hH hS
  obtain ⟨w, h1, h2⟩ := hH.2.2.1 _ (List.mem_of_getElem? hs)
  obtain ⟨host, lk⟩ := lk.at hw
  obtain ⟨T', X', e', st⟩ := getS2 X hx hZ hown lk (via _ _ hw) rfl (h2.ext hH.1.2) (g := mkF m pc Ls Sc) rfl (hb hby hd)
  exact ⟨T', _, X', e', ⟨_, _, rfl, h1, hS⟩, st⟩
def okv (ty : FieldType) (v : Value) : Bool := decide (narrow ty v = v) && fits ty v
theorem okv_at {env : List Addr} {ty : FieldType} {v w : Value} (h : VR env v w) (q : okv ty v = true) : narrow ty w = w ∧ fits ty w = true := by
  unfold okv at q
  rw [Bool.and_eq_true] at q
  obtain ⟨q1, q2⟩ := q
  have q1 := of_decide_eq_true q1
  cases v with
  | int x => cases h; exact ⟨q1, q2⟩
  | null => cases h; exact ⟨q1, q2⟩
  | float x => cases h; exact ⟨q1, q2⟩
  | ref i => obtain ⟨a, -, rfl⟩ := h; exact ⟨by cases ty <;> rfl, by cases ty <;> first | exact q2 | cases q2⟩
  | retAddr k => cases ty <;> cases q2
  | long x => cases h
  | double x => cases h
/-- of a kind of objects: each field is laid, its type is known, no two bear one name -/
def KOK (k : Nat) : Prop := (∀ (Z : State) (a0 : Array Value), HW Z a0 → ∀ g ∈ (kd k).2.2.2, Laid Z a0 (kd k).2.1 g.1 g.2.1 g.2.2 ∧ ∃ t, parseFieldDescriptor g.2.2 = some t) ∧ ∀ (i j : Nat) (g g' : Fk), (kd k).2.2.2[i]? = some g → (kd k).2.2.2[j]? = some g' → i ≠ j → g.2.1 ≠ g'.2.1
def ndn : List Fk → Bool
  | [] => true
  | g :: r => (r.all fun g' => g'.2.1 != g.2.1) && ndn r
theorem ndn_at : ∀ {fs : List Fk}, ndn fs = true → ∀ (i j : Nat) (g g' : Fk), fs[i]? = some g → fs[j]? = some g' → i ≠ j → g.2.1 ≠ g'.2.1
  | [], _, _, _, _, _, h, _, _ => by simp at h
  | x :: r, q, i, j, g, g', h1, h2, hij => by
    unfold ndn at q
    rw [Bool.and_eq_true] at q
    have key : ∀ y ∈ r, y.2.1 ≠ x.2.1 := fun y hy => by have := List.all_eq_true.mp q.1 y hy; simpa using this
    match i, j with
    | 0, 0 => exact absurd rfl hij
    | 0, j + 1 => simp at h1 h2; subst h1; exact fun e => key _ (List.mem_of_getElem? h2) e.symm
    | i + 1, 0 => simp at h1 h2; subst h2; exact fun e => key _ (List.mem_of_getElem? h1) e
    | i + 1, j + 1 => simp at h1 h2; exact ndn_at q.2 i j g g' h1 h2 (by omega)
theorem FR.put {Z : State} {a0 : Array Value} {C : String} {h h' : Heap} {env : List Addr} {a : Addr} {vs : List Value} {fs : List Fk} {q : Nat} {O n d : String} {v w : Value} (F : RL (FR Z h env a) vs fs) (hq : fs[q]? = some (O, n, d))
    (K : ∀ g ∈ fs, Laid Z a0 C g.1 g.2.1 g.2.2 ∧ ∃ t, parseFieldDescriptor g.2.2 = some t) (N : ∀ (i j : Nat) (g g' : Fk), fs[i]? = some g → fs[j]? = some g' → i ≠ j → g.2.1 ≠ g'.2.1) (W : Wr h h' a (Jvm.RoadKit.slotOf Z O n d) w) (hv : VR env v w) : RL (FR Z h' env a) (vs.set q v) fs := by
  refine RL.mk (by rw [List.length_set]; exact F.len) fun j x f h1 h2 => ?_
  have hj : ∃ y, vs[j]? = some y := ⟨_, List.getElem?_eq_getElem (by rw [F.len]; exact (List.getElem?_eq_some_iff.mp h2).1)⟩
  obtain ⟨y, hy⟩ := hj
  obtain ⟨f', e1, u, hu, Fu⟩ := F.get hy
  cases h2.symm.trans e1
  by_cases e : q = j
  · subst e
    rw [List.getElem?_set_self (List.getElem?_eq_some_iff.mp hy).1] at h1
    cases h1
    cases hq.symm.trans h2
    exact ⟨w, hv, Fu.same W⟩
  · rw [List.getElem?_set_ne e] at h1
    cases h1.symm.trans hy
    obtain ⟨l1, t1, p1⟩ := K _ (List.mem_of_getElem? h2)
    obtain ⟨l2, t2, p2⟩ := K _ (List.mem_of_getElem? hq)
    exact ⟨u, hu, Fu.other W (Or.inr (Jvm.RoadKit.slot_ne l1 l2 (N j q _ _ h2 hq fun z => e z.symm) p1 p2))⟩
def f_putf (b pc k q : Nat) (ty : FieldType) : AStep := fun rec L S H r => match S with
  | v :: .ref i :: S' => (match hk H i k with
    | some (true, vs) => (match okv ty v with | true => rec b (pc + 3) L S' (H.set i (k, true, vs.set q v)) r | false => none)
    | _ => none)
  | _ => none
theorem s_putf {b pc k q idx kk : Nat} {R0 O n d : String} {ty : FieldType} (hd : decode (bi b).2.1 pc = .ok (.putfield idx, 3)) (hk0 : (kd k).1 = 0) (hf : (kd k).2.2.2[q]? = some (O, n, d)) (lk : LkF b idx R0 n d) (via : Vi R0 O n d) (K : KOK k)
    (lay : Wd (.lays (kd k).2.1 O n d) ∨ (Wd (.laysFinal (kd k).2.1 O n d) ∧ (bi b).1.cls = O ∧ (bi b).1.name = "<init>")) (wi : Wd (.instantiable (kd k).2.1 kk)) (hty : parseFieldDescriptor d = some ty) : Sound b pc (f_putf b pc k q ty) := by
  intro rec hrec L S H r o h
  unfold f_putf at h
  split at h
  · split at h
    · rename_i vs hx0
      split at h
      · rename_i hv
        refine Owes.write (hrec _ _ _ _ _ _ _ h) (hk_some hx0) rfl ?_
        intro p l e R s vm₁ m args below meth c T locs Z a0 n0 env Ls Sc X hx hby hZ hown hnm hw hH hS
        obtain ⟨w, _, rfl, hvw, _, Sr, rfl, h1, hS⟩ := hS
        obtain ⟨a, rfl, ha, -, hO⟩ := hH.at hx0 h1
        obtain ⟨host, lk⟩ := lk.at hw
        have hF := hO.2.1 hk0
        have E := hO.1 (by rw [hk0]; decide)
        obtain ⟨y, hy⟩ : ∃ y, vs[q]? = some y := ⟨_, List.getElem?_eq_getElem (by rw [show vs.length = _ from hF.len]; exact (List.getElem?_eq_some_iff.mp hf).1)⟩
        obtain ⟨f, e1, u, hu, F⟩ := hF.get hy
        cases hf.symm.trans e1
        obtain ⟨o1, o2⟩ := okv_at hvw hv
        obtain ⟨T', h', X', e', W, st⟩ := putF X hx hZ hown lk (via _ _ hw) rfl F E (lay.imp (fun q => q _ _ hw) fun q => ⟨q.1 _ _ hw, q.2.1, hnm.trans q.2.2⟩) (wi _ _ hw) hty o1 o2 (g := mkF m pc Ls (w :: .ref a :: Sr)) rfl rfl (hb hby hd)
        subst e'
        exact ⟨a, _, w, T', Sr, ha, X', W, OR.obj hk0 (E.wr W) (FR.put hF hf (K.1 _ _ hw) K.2 W hvw), hS, st⟩
      · cases h
    · cases h
  · cases h
/-- what a new object of a kind holds -/
def KNew (k : Nat) (vs : List Value) : Prop := ∀ (Z : State) (a0 : Array Value), HW Z a0 → ∀ (h : Heap) (a : Addr) (env : List Addr), (∀ {O nm d : String} {ty : FieldType}, Laid Z a0 (kd k).2.1 O nm d → parseFieldDescriptor d = some ty → Fld Z h a O nm d (defaultValue ty)) → RL (FR Z h env a) vs (kd k).2.2.2
def f_new (b pc k sl : Nat) (vs : List Value) : AStep := fun rec L S H r => rec b (pc + 3) L (.ref H.length :: S) (H ++ [(k, true, vs)]) { r with cells := r.cells + 1, slots := r.slots + sl }
theorem s_new {b pc k sl idx : Nat} {vs : List Value} (hd : decode (bi b).2.1 pc = .ok (.new idx, 3)) (hk0 : (kd k).1 = 0) (w : Wd (.classLink (bi b).1.cls idx (kd k).2.1)) (wi : Wd (.instantiable (kd k).2.1 sl)) (wz : Wd (.initialized (kd k).2.1)) (K : KNew k vs) : Sound b pc (f_new b pc k sl vs) := by
  intro rec hrec L S H r o h
  refine Owes.make (hrec _ _ _ _ _ _ _ h) ?_
  intro p l e R s vm₁ m args below meth c T locs Z a0 n0 env Ls Sc X hx hby hZ hown hw hH hS hc hl
  obtain ⟨T', h', X', e', E, A, D, -, st⟩ := newO X hx hZ hown (w _ _ hw) (wi _ _ hw) (wz _ _ hw) rfl (g := mkF m pc Ls Sc) rfl (hb hby hd) hc hl
  subst e'
  exact ⟨T', Sc, X', E, A.lt, OR.obj hk0 A (K _ _ hw _ _ _ D), hS, st⟩
theorem AR.new {Z : State} {h : Heap} {env : List Addr} {a : Addr} {cA : ClassId} {ty : FieldType} {n : Int32} {dv : Value} {ov : Bool} (A : Arr Z h a (newA cA ty n) ty) (hn : ¬ n < 0) (hv : ∀ env, VR env dv (defaultValue ty)) (hO : ov = true → ∃ E, ty = .object E ∧ Ovr Z cA E) : AR Z h env a ty ov (List.replicate n.toNatClampNeg dv) :=
  ⟨n, cA, List.replicate n.toNatClampNeg (defaultValue ty), RL.rep (hv env) _, by simp, (Arv.new A hn).pad (pad_rep [] (defaultValue ty) n.toNatClampNeg), hO⟩
def okn (n : Int32) : Bool := decide (¬ n < 0) && Nat.ble n.toNatClampNeg 10000
theorem okn_at {n : Int32} (h : okn n = true) : ¬ n < 0 ∧ n.toNatClampNeg * 8 ≤ 536870912 := by
  unfold okn at h
  rw [Bool.and_eq_true] at h
  have := Nat.le_of_ble_eq_true h.2
  exact ⟨of_decide_eq_true h.1, by omega⟩
def f_newp (b pc k : Nat) (dv : Value) (len : Nat) : AStep := fun rec L S H r => match S with
  | .int n :: S' => (match okn n with | true => rec b (pc + len) L (.ref H.length :: S') (H ++ [(k, true, List.replicate n.toNatClampNeg dv)]) { r with cells := r.cells + 1, slots := r.slots + n.toNatClampNeg } | false => none)
  | _ => none
theorem s_newp {b pc k : Nat} {aty : ArrayType} {dv : Value} (hd : decode (bi b).2.1 pc = .ok (.newarray aty, 2)) (hk1 : (kd k).1 = 1) (hty : (kd k).2.2.1 = newarray.typeOf aty) (w : Wd (.arrayClass (newarray.typeOf aty))) (had : "[" ++ (newarray.typeOf aty).toString = (kd k).2.1) (hv : ∀ env, VR env dv (defaultValue (newarray.typeOf aty))) : Sound b pc (f_newp b pc k dv 2) := by
  intro rec hrec L S H r o h
  unfold f_newp at h
  split at h
  · rename_i n S'
    split at h
    · rename_i hn
      obtain ⟨hn1, hn2⟩ := okn_at hn
      refine Owes.make (hrec _ _ _ _ _ _ _ h) ?_
      intro p l e R s vm₁ m args below meth c T locs Z a0 n0 env Ls Sc X hx hby hZ hown hw hH hS hc hl
      obtain ⟨_, Sr, rfl, rfl, hS⟩ := hS
      obtain ⟨T', h', cA, X', e', E, A, Ex, st⟩ := newPE X hx hZ (w _ _ hw) rfl (g := mkF m pc Ls (.int n :: Sr)) rfl (hb hby hd) rfl hn1 (Nat.le_refl _) hn2 hc hl had
      subst e'
      exact ⟨T', Sr, X', E, Ex.lt, OR.arr1 hk1 Ex (by rw [hty]; exact AR.new A hn1 hv nofun), hS, st⟩
    · cases h
  · cases h
theorem s_newr {b pc k idx : Nat} {C : String} (hd : decode (bi b).2.1 pc = .ok (.anewarray idx, 3)) (hk2 : (kd k).1 = 2) (hty : (kd k).2.2.1 = .object C) (w1 : Wd (.classLink (bi b).1.cls idx C)) (w2 : Wd (.arrayOver (.object C))) (had : "[" ++ (FieldType.object C).toString = (kd k).2.1) : Sound b pc (f_newp b pc k .null 3) := by
  intro rec hrec L S H r o h
  unfold f_newp at h
  split at h
  · rename_i n S'
    split at h
    · rename_i hn
      obtain ⟨hn1, hn2⟩ := okn_at hn
      refine Owes.make (hrec _ _ _ _ _ _ _ h) ?_
      intro p l e R s vm₁ m args below meth c T locs Z a0 n0 env Ls Sc X hx hby hZ hown hw hH hS hc hl
      obtain ⟨_, Sr, rfl, rfl, hS⟩ := hS
      obtain ⟨T', h', cA, X', e', E, A, Ex, O, st⟩ := newRE X hx hZ hown (w1 _ _ hw) (w2 _ _ hw) rfl (g := mkF m pc Ls (.int n :: Sr)) rfl (hb hby hd) rfl hn1 (Nat.le_refl _) hn2 hc hl had
      subst e'
      exact ⟨T', Sr, X', E, Ex.lt, OR.arr2 hk2 Ex (by rw [hty]; exact AR.new A hn1 (fun _ => rfl) fun _ => ⟨C, rfl, O⟩), hS, st⟩
    · cases h
  · cases h
/-- an array of the abstract heap, read at a place -/
theorem AR.read {Z : State} {h : Heap} {env : List Addr} {a : Addr} {ty : FieldType} {ov : Bool} {vs : List Value} {j : Int32} {v : Value} (A : AR Z h env a ty ov vs) (hj : ¬ j < 0) (hv : vs[j.toNatClampNeg]? = some v) :
    ∃ cl w, Arr Z h a cl ty ∧ ¬ (j < 0 ∨ cl.slots.size ≤ j.toNatClampNeg) ∧ cl.slots[j.toNatClampNeg]? = some w ∧ VR env v w := by
  obtain ⟨n, k, ws, h1, h2, ⟨cl, A, -, hs, -, Hs, -⟩, -⟩ := A
  obtain ⟨w, e1, e2⟩ := h1.get hv
  have hlt := (List.getElem?_eq_some_iff.mp hv).1
  have hin : ¬ (j < 0 ∨ cl.slots.size ≤ j.toNatClampNeg) := fun q => q.elim hj fun q => by omega
  exact ⟨cl, w, A, hin, Has.at Hs hin (own_at e1), e2⟩
def f_ald (b pc k : Nat) : AStep := fun rec L S H r => match S with
  | .int j :: .ref i :: S' => (match hk H i k with
    | some x => (match decide (¬ j < 0), x.2[j.toNatClampNeg]? with | true, some v => rec b (pc + 1) L (v :: S') H r | _, _ => none)
    | none => none)
  | _ => none
theorem s_iaload {b pc k : Nat} (hd : decode (bi b).2.1 pc = .ok (.iaload, 1)) (hk1 : (kd k).1 = 1 ∨ (kd k).1 = 2 ∨ (kd k).1 = 5) (hty : (kd k).2.2.1 = .int) : Sound b pc (f_ald b pc k) := by
  intro rec hrec L S H r o h
  unfold f_ald at h
  split at h
  · split at h
    · rename_i x hx0
      split at h
      · rename_i v hj hv
        refine Owes.read (hrec _ _ _ _ _ _ _ h) ?_
        intro p l e R s vm₁ m args below meth c T locs Z a0 n0 env Ls Sc X hx hby hZ hown hw hH hS
        obtain ⟨_, _, rfl, rfl, _, Sr, rfl, h1, hS⟩ := hS
        obtain ⟨a, rfl, -, -, hO⟩ := hH.at hx0 h1
        obtain ⟨ov, hA⟩ := hO.arr hk1
        rw [hty] at hA; obtain ⟨cl, w, A, hin, hat, hvw⟩ := hA.read (of_decide_eq_true hj) hv
        exact ⟨T, _, X, rfl, ⟨_, _, rfl, hvw, hS⟩, fun t k => X.iaload hx A.1 (State.isArrayOf_alike hZ.alike A.2.1) A.2.2 hin hat (g := mkF m pc Ls (.int _ :: .ref a :: Sr)) rfl rfl (hb hby hd) t k⟩
      · cases h
    · cases h
  · cases h
theorem s_baload {b pc k : Nat} (hd : decode (bi b).2.1 pc = .ok (.baload, 1)) (hk1 : (kd k).1 = 1 ∨ (kd k).1 = 2 ∨ (kd k).1 = 5) (hty : (kd k).2.2.1 = .byte) : Sound b pc (f_ald b pc k) := by
  intro rec hrec L S H r o h
  unfold f_ald at h
  split at h
  · split at h
    · rename_i x hx0
      split at h
      · rename_i v hj hv
        refine Owes.read (hrec _ _ _ _ _ _ _ h) ?_
        intro p l e R s vm₁ m args below meth c T locs Z a0 n0 env Ls Sc X hx hby hZ hown hw hH hS
        obtain ⟨_, _, rfl, rfl, _, Sr, rfl, h1, hS⟩ := hS
        obtain ⟨a, rfl, -, -, hO⟩ := hH.at hx0 h1
        obtain ⟨ov, hA⟩ := hO.arr hk1
        rw [hty] at hA; obtain ⟨cl, w, A, hin, hat, hvw⟩ := hA.read (of_decide_eq_true hj) hv
        exact ⟨T, _, X, rfl, ⟨_, _, rfl, hvw, hS⟩, fun t k => X.baloadBytes hx A.1 (State.isArrayOf_alike hZ.alike A.2.1) A.2.2 hin hat (g := mkF m pc Ls (.int _ :: .ref a :: Sr)) rfl rfl (hb hby hd) t k⟩
      · cases h
    · cases h
  · cases h
theorem s_aaload {b pc k : Nat} (hd : decode (bi b).2.1 pc = .ok (.aaload, 1)) (hk1 : (kd k).1 = 1 ∨ (kd k).1 = 2 ∨ (kd k).1 = 5) (hty : (kd k).2.2.1.isReference = true) : Sound b pc (f_ald b pc k) := by
  intro rec hrec L S H r o h
  unfold f_ald at h
  split at h
  · split at h
    · rename_i x hx0
      split at h
      · rename_i v hj hv
        refine Owes.read (hrec _ _ _ _ _ _ _ h) ?_
        intro p l e R s vm₁ m args below meth c T locs Z a0 n0 env Ls Sc X hx hby hZ hown hw hH hS
        obtain ⟨_, _, rfl, rfl, _, Sr, rfl, h1, hS⟩ := hS
        obtain ⟨a, rfl, -, -, hO⟩ := hH.at hx0 h1
        obtain ⟨ov, hA⟩ := hO.arr hk1
        obtain ⟨cl, w, A, hin, hat, hvw⟩ := hA.read (of_decide_eq_true hj) hv
        exact ⟨T, _, X, rfl, ⟨_, _, rfl, hvw, hS⟩, fun t k => X.aaload hx A.1 (State.isArrayOf_alike hZ.alike A.2.1) hty A.2.2 hin hat (g := mkF m pc Ls (.int _ :: .ref a :: Sr)) rfl rfl (hb hby hd) t k⟩
      · cases h
    · cases h
  · cases h
def f_alen (b pc k : Nat) : AStep := fun rec L S H r => match S with
  | .ref i :: S' => (match hk H i k with
    | some x => rec b (pc + 1) L (.int x.2.length.toInt32 :: S') H r
    | none => none)
  | _ => none
theorem s_alen {b pc k : Nat} (hd : decode (bi b).2.1 pc = .ok (.arraylength, 1)) (hk1 : (kd k).1 = 1 ∨ (kd k).1 = 2 ∨ (kd k).1 = 5) : Sound b pc (f_alen b pc k) := by
  intro rec hrec L S H r o h
  unfold f_alen at h
  split at h
  · split at h
    · rename_i x hx0
      refine Owes.read (hrec _ _ _ _ _ _ _ h) ?_
      intro p l e R s vm₁ m args below meth c T locs Z a0 n0 env Ls Sc X hx hby hZ hown hw hH hS
      obtain ⟨_, Sr, rfl, h1, hS⟩ := hS
      obtain ⟨a, rfl, -, -, hO⟩ := hH.at hx0 h1
      obtain ⟨ov, ⟨n, k', ws, q1, q2, ⟨cl, A, -, hs, -, -, -⟩, -⟩⟩ := hO.arr hk1
      refine ⟨T, _, X, rfl, ⟨_, _, rfl, ?_, hS⟩, fun t k => X.arraylength hx A.1 (State.isArrayOf_alike hZ.alike A.2.1) (g := mkF m pc Ls (.ref a :: Sr)) rfl rfl (hb hby hd) t k⟩
      show Value.int _ = Value.int _
      rw [hs, q2]
    · cases h
  · cases h
/-- .. written at a place -/
theorem AR.write {Z : State} {h h' : Heap} {env : List Addr} {a : Addr} {ty : FieldType} {ov : Bool} {vs : List Value} {i : Nat} {v w : Value} {n : Int32} {k : ClassId} {ws : List Value} {cl : Cell} {j : Int32} (q1 : RL (VR env) vs ws) (q2 : n.toNatClampNeg = vs.length) (A : Arr Z h a cl ty) (hc : cl.cls = k) (hs : cl.slots.size = n.toNatClampNeg) (hn : ¬ n < 0) (Hs : Has cl ws (defaultValue ty)) (hfit : ∀ i, i < cl.slots.size → fits ty (ws.getD i (defaultValue ty)) = true) (q4 : ov = true → ∃ E, ty = .object E ∧ Ovr Z k E)
    (hj : j.toNatClampNeg = i) (hlt : i < vs.length) (hv : VR env v w) (hf : fits ty w = true) (W : Wr h h' a j.toNatClampNeg w) : AR Z h' env a ty ov (vs.set i v) :=
  ⟨n, k, ws.set i w, q1.set hv, by rw [List.length_set]; exact q2, Arv.set A hc hs hn Hs hfit hf W i hj (by rw [← q1.len]; exact hlt), q4⟩
def f_ast (b pc k : Nat) (g : AH → Value → Option Value) : AStep := fun rec L S H r => match S with
  | v :: .int j :: .ref i :: S' => (match hk H i k with
    | some (true, vs) => (match decide (¬ j < 0) && Nat.blt j.toNatClampNeg vs.length, g H v with | true, some v' => rec b (pc + 1) L S' (H.set i (k, true, vs.set j.toNatClampNeg v')) r | _, _ => none)
    | _ => none)
  | _ => none
def g_int : AH → Value → Option Value := fun _ v => match v with
  | .int x => some (.int x)
  | _ => none
def g_byte : AH → Value → Option Value := fun _ v => match v with
  | .int x => some (.int x.toInt8.toInt32)
  | _ => none
def g_ref (kv : Nat) : AH → Value → Option Value := fun H v => match v with
  | .null => some .null
  | .ref i => (match hk H i kv with | some _ => some (.ref i) | none => none)
  | _ => none
theorem s_iastore {b pc k : Nat} (hd : decode (bi b).2.1 pc = .ok (.iastore, 1)) (hk1 : (kd k).1 = 1) (hty : (kd k).2.2.1 = .int) : Sound b pc (f_ast b pc k g_int) := by
  intro rec hrec L S H r o h
  unfold f_ast at h
  split at h
  · rename_i v j i S'
    split at h
    · rename_i vs hx0
      split at h
      · rename_i v' hj hg
        rw [Bool.and_eq_true] at hj
        have hlt : j.toNatClampNeg < vs.length := Nat.le_of_ble_eq_true hj.2
        refine Owes.write (hrec _ _ _ _ _ _ _ h) (hk_some hx0) rfl ?_
        intro p l e R s vm₁ m args below meth c T locs Z a0 n0 env Ls Sc X hx hby hZ hown hnm hw hH hS
        unfold g_int at hg
        split at hg
        · cases hg
          obtain ⟨_, _, rfl, rfl, _, _, rfl, rfl, _, Sr, rfl, h1, hS⟩ := hS
          obtain ⟨a, rfl, ha, -, hO⟩ := hH.at hx0 h1
          have hA := hO.2.2.1 (Or.inl hk1)
          rw [hty] at hA
          obtain ⟨n, k', ws, q1, q2, ⟨cl, A, hc, hs, hn, Hs, hfit⟩, q4⟩ := hA
          have q2 : n.toNatClampNeg = vs.length := q2
          have hj0 : ¬ j < 0 := of_decide_eq_true hj.1
          have hin : ¬ (j < 0 ∨ cl.slots.size ≤ j.toNatClampNeg) := fun q => q.elim hj0 fun q => by omega
          obtain ⟨T', h', X', e', W, st⟩ := stI X hx hZ rfl A hin (g := mkF m pc Ls (.int _ :: .int _ :: .ref a :: Sr)) rfl rfl (hb hby hd)
          subst e'
          exact ⟨a, _, _, T', Sr, ha, X', W, OR.arr1 hk1 ((hO.1 (by rw [hk1]; decide)).wr W) (by rw [hty]; exact AR.write q1 q2 A hc hs hn Hs hfit q4 rfl hlt (v := .int _) rfl rfl W), hS, st⟩
        · cases hg
      · cases h
    · cases h
  · cases h
theorem s_bastore {b pc k : Nat} (hd : decode (bi b).2.1 pc = .ok (.bastore, 1)) (hk1 : (kd k).1 = 1) (hty : (kd k).2.2.1 = .byte) : Sound b pc (f_ast b pc k g_byte) := by
  intro rec hrec L S H r o h
  unfold f_ast at h
  split at h
  · rename_i v j i S'
    split at h
    · rename_i vs hx0
      split at h
      · rename_i v' hj hg
        rw [Bool.and_eq_true] at hj
        have hlt : j.toNatClampNeg < vs.length := Nat.le_of_ble_eq_true hj.2
        refine Owes.write (hrec _ _ _ _ _ _ _ h) (hk_some hx0) rfl ?_
        intro p l e R s vm₁ m args below meth c T locs Z a0 n0 env Ls Sc X hx hby hZ hown hnm hw hH hS
        unfold g_byte at hg
        split at hg
        · rename_i x
          cases hg
          obtain ⟨_, _, rfl, rfl, _, _, rfl, rfl, _, Sr, rfl, h1, hS⟩ := hS
          obtain ⟨a, rfl, ha, -, hO⟩ := hH.at hx0 h1
          have hA := hO.2.2.1 (Or.inl hk1)
          rw [hty] at hA
          obtain ⟨n, k', ws, q1, q2, ⟨cl, A, hc, hs, hn, Hs, hfit⟩, q4⟩ := hA
          have q2 : n.toNatClampNeg = vs.length := q2
          have hj0 : ¬ j < 0 := of_decide_eq_true hj.1
          have hin : ¬ (j < 0 ∨ cl.slots.size ≤ j.toNatClampNeg) := fun q => q.elim hj0 fun q => by omega
          obtain ⟨T', h', X', e', W, st⟩ := stB X hx hZ rfl A hin (g := mkF m pc Ls (.int x :: .int _ :: .ref a :: Sr)) rfl rfl (hb hby hd)
          subst e'
          exact ⟨a, _, _, T', Sr, ha, X', W, OR.arr1 hk1 ((hO.1 (by rw [hk1]; decide)).wr W) (by rw [hty]; exact AR.write q1 q2 A hc hs hn Hs hfit q4 rfl hlt (v := .int x.toInt8.toInt32) rfl (fits_nar_byte x) W), hS, st⟩
        · cases hg
      · cases h
    · cases h
  · cases h
theorem s_aastore {b pc k kv : Nat} {C : String} (hd : decode (bi b).2.1 pc = .ok (.aastore, 1)) (hk2 : (kd k).1 = 2) (hty : (kd k).2.2.1 = .object C) (hkv : (kd kv).1 ≤ 2) (hin0 : (kd kv).2.1 = C ∨ Wd (.castable (kd kv).2.1 C)) : Sound b pc (f_ast b pc k (g_ref kv)) := by
  intro rec hrec L S H r o h
  unfold f_ast at h
  split at h
  · rename_i v j i S'
    split at h
    · rename_i vs hx0
      split at h
      · rename_i v' hj hg
        rw [Bool.and_eq_true] at hj
        have hlt : j.toNatClampNeg < vs.length := Nat.le_of_ble_eq_true hj.2
        refine Owes.write (hrec _ _ _ _ _ _ _ h) (hk_some hx0) rfl ?_
        intro p l e R s vm₁ m args below meth c T locs Z a0 n0 env Ls Sc X hx hby hZ hown hnm hw hH hS
        unfold g_ref at hg
        split at hg
        · cases hg
          obtain ⟨_, _, rfl, rfl, _, _, rfl, rfl, _, Sr, rfl, h1, hS⟩ := hS
          obtain ⟨a, rfl, ha, -, hO⟩ := hH.at hx0 h1
          have hA := hO.2.2.2.1 hk2
          rw [hty] at hA
          obtain ⟨n, k', ws, q1, q2, ⟨cl, A, hc, hs, hn, Hs, hfit⟩, q4⟩ := hA
          have q2 : n.toNatClampNeg = vs.length := q2
          have hj0 : ¬ j < 0 := of_decide_eq_true hj.1
          have hin : ¬ (j < 0 ∨ cl.slots.size ≤ j.toNatClampNeg) := fun q => q.elim hj0 fun q => by omega
          obtain ⟨T', h', X', e', W, st⟩ := stR X hx hZ rfl A hin rfl (Or.inl rfl) (g := mkF m pc Ls (.null :: .int _ :: .ref a :: Sr)) rfl rfl (hb hby hd)
          subst e'
          exact ⟨a, _, _, T', Sr, ha, X', W, OR.arr2 hk2 ((hO.1 (by rw [hk2]; decide)).wr W) (by rw [hty]; exact AR.write q1 q2 A hc hs hn Hs hfit q4 rfl hlt (v := .null) rfl rfl W), hS, st⟩
        · split at hg
          · rename_i y hy
            cases hg
            obtain ⟨_, _, rfl, hu, _, _, rfl, rfl, _, Sr, rfl, h1, hS⟩ := hS
            obtain ⟨u, rfl, -, -, hU⟩ := hH.at hy hu
            have I : Ins Z T.heap u C true := by
              have E := hU.1 hkv
              rcases hin0 with q | q
              · rw [← q]; exact Ins.self E
              · exact Ins.of_exa E (q _ _ hw)
            obtain ⟨a, rfl, ha, -, hO⟩ := hH.at hx0 h1
            have hA := hO.2.2.2.1 hk2
            rw [hty] at hA
            obtain ⟨n, k', ws, q1, q2, ⟨cl, A, hc, hs, hn, Hs, hfit⟩, q4⟩ := hA
            have q2 : n.toNatClampNeg = vs.length := q2
            have hj0 : ¬ j < 0 := of_decide_eq_true hj.1
            have hin : ¬ (j < 0 ∨ cl.slots.size ≤ j.toNatClampNeg) := fun q => q.elim hj0 fun q => by omega
            obtain ⟨_, hC, hOv⟩ := q4 rfl
            cases hC
            obtain ⟨T', h', X', e', W, st⟩ := stR X hx hZ rfl A hin rfl (Sto.ofV A hc hOv I) (g := mkF m pc Ls (.ref u :: .int _ :: .ref a :: Sr)) rfl rfl (hb hby hd)
            subst e'
            exact ⟨a, _, _, T', Sr, ha, X', W, OR.arr2 hk2 ((hO.1 (by rw [hk2]; decide)).wr W) (by rw [hty]; exact AR.write q1 q2 A hc hs hn Hs hfit q4 rfl hlt hu rfl W), hS, st⟩
          · cases hg
        · cases hg
      · cases h
    · cases h
  · cases h
/-! casts, comparisons, constants, returns -/
def InsK (kv : Nat) (K : String) : Prop := (kd kv).1 ≤ 2 ∧ ((kd kv).2.1 = K ∨ Wd (.castable (kd kv).2.1 K))
theorem InsK.at {kv : Nat} {K : String} (h : InsK kv K) {Z : State} {a0 : Array Value} (hw : HW Z a0) {hp : Heap} {env : List Addr} {a : Addr} {fl : Bool} {vs : List Value} (O : OR Z hp env a (kv, fl, vs)) : Ins Z hp a K true := by
  have E := O.1 h.1
  rcases h.2 with q | q
  · rw [← q]; exact Ins.self E
  · exact Ins.of_exa E (q _ _ hw)
def f_cast (b pc kv : Nat) : AStep := fun rec L S H r => match S with
  | .null :: S' => rec b (pc + 3) L (.null :: S') H r
  | .ref i :: S' => (match hk H i kv with | some _ => rec b (pc + 3) L (.ref i :: S') H r | none => none)
  | _ => none
theorem s_cast {b pc kv idx : Nat} {K : String} (hd : decode (bi b).2.1 pc = .ok (.checkcast idx, 3)) (w : Wd (.classLink (bi b).1.cls idx K)) (I : InsK kv K) : Sound b pc (f_cast b pc kv) := by
  intro rec hrec L S H r o h
  unfold f_cast at h
  split at h
  · refine Owes.pure (hrec _ _ _ _ _ _ _ h) ?_
    intro p l e R s m args below meth c T locs Z a0 env Ls Sc X hx hby hZ hown hw hL hS
    obtain ⟨_, Sr, rfl, rfl, hS⟩ := hS
    exact ⟨Ls, _, rfl, hL, ⟨_, _, rfl, rfl, hS⟩, fun t k => X.checkcastNull hx (g := mkF m pc Ls (.null :: Sr)) rfl rfl (hb hby hd) t k⟩
  · split at h
    · rename_i x hx0
      refine Owes.read (hrec _ _ _ _ _ _ _ h) ?_
      intro p l e R s vm₁ m args below meth c T locs Z a0 n0 env Ls Sc X hx hby hZ hown hw hH hS
      obtain ⟨_, Sr, rfl, h1, hS⟩ := hS
      obtain ⟨a, rfl, -, -, hO⟩ := hH.at hx0 h1
      obtain ⟨T', X', e', st⟩ := castY X hx hZ hown (w _ _ hw) rfl (I.at hw hO) (g := mkF m pc Ls (.ref a :: Sr)) rfl rfl (hb hby hd)
      exact ⟨T', _, X', e', ⟨_, _, rfl, h1, hS⟩, st⟩
    · cases h
  · cases h
def f_inst (b pc kv : Nat) (z : Int32) : AStep := fun rec L S H r => match S with
  | .null :: S' => rec b (pc + 3) L (.int 0 :: S') H r
  | .ref i :: S' => (match hk H i kv with | some _ => rec b (pc + 3) L (.int z :: S') H r | none => none)
  | _ => none
theorem s_inst {b pc kv idx : Nat} {K : String} {z : Int32} (hd : decode (bi b).2.1 pc = .ok (.instanceof idx, 3)) (w : Wd (.classLink (bi b).1.cls idx K))
    (I : (z = 1 ∧ InsK kv K) ∨ (z = 0 ∧ (kd kv).1 ≤ 2 ∧ ∀ (Z : State) (a0 : Array Value), HW Z a0 → ∃ c t, Z.vm.findClass (kd kv).2.1 = some c ∧ Z.vm.findClass K = some t ∧ Z.vm.assignable c t = false)) : Sound b pc (f_inst b pc kv z) := by
  intro rec hrec L S H r o h
  unfold f_inst at h
  split at h
  · refine Owes.pure (hrec _ _ _ _ _ _ _ h) ?_
    intro p l e R s m args below meth c T locs Z a0 env Ls Sc X hx hby hZ hown hw hL hS
    obtain ⟨_, Sr, rfl, rfl, hS⟩ := hS
    exact ⟨Ls, _, rfl, hL, ⟨_, _, rfl, rfl, hS⟩, fun t k => X.instanceofNull hx (g := mkF m pc Ls (.null :: Sr)) rfl rfl (hb hby hd) t k⟩
  · split at h
    · rename_i x hx0
      refine Owes.read (hrec _ _ _ _ _ _ _ h) ?_
      intro p l e R s vm₁ m args below meth c T locs Z a0 n0 env Ls Sc X hx hby hZ hown hw hH hS
      obtain ⟨_, Sr, rfl, h1, hS⟩ := hS
      obtain ⟨a, rfl, -, -, hO⟩ := hH.at hx0 h1
      rcases I with ⟨rfl, I⟩ | ⟨rfl, I1, I2⟩
      · obtain ⟨T', X', e', st⟩ := instY X hx hZ hown (w _ _ hw) rfl (I.at hw hO) (g := mkF m pc Ls (.ref a :: Sr)) rfl rfl (hb hby hd)
        exact ⟨T', _, X', e', ⟨_, _, rfl, rfl, hS⟩, st⟩
      · obtain ⟨T', X', e', st⟩ := instNo X hx hZ hown (w _ _ hw) rfl (hO.1 I1) (I2 _ _ hw) (g := mkF m pc Ls (.ref a :: Sr)) rfl rfl (hb hby hd)
        exact ⟨T', _, X', e', ⟨_, _, rfl, rfl, hS⟩, st⟩
    · cases h
  · cases h
def aeq (H : AH) : Value → Value → Option Bool
  | .null, .null => some true
  | .null, .ref _ => some false
  | .ref _, .null => some false
  | .ref i, .ref j => (match Nat.beq i j with
    | true => some true
    | false => (match H[i]?, H[j]? with
      | some o, some o' => (match o.2.1 || o'.2.1 with | true => some false | false => none)
      | _, _ => none))
  | _, _ => none
theorem aeq_at {Z : State} {n0 : Nat} {vm : Vm} {h : Heap} {env : List Addr} {H : AH} {x y u w : Value} {s : Bool} (hH : HR Z n0 vm h env H) (hx : VR env x u) (hy : VR env y w) (q : aeq H x y = some s) : u.isRef = true ∧ w.isRef = true ∧ decide (u = w) = s := by
  unfold aeq at q
  split at q
  · cases q; cases hx; cases hy; exact ⟨rfl, rfl, by simp⟩
  · cases q; cases hx; obtain ⟨a, -, rfl⟩ := hy; exact ⟨rfl, rfl, by simp⟩
  · cases q; cases hy; obtain ⟨a, -, rfl⟩ := hx; exact ⟨rfl, rfl, by simp⟩
  · rename_i i j
    obtain ⟨a, ha, rfl⟩ := hx
    obtain ⟨b, hb, rfl⟩ := hy
    refine ⟨rfl, rfl, ?_⟩
    split at q
    · rename_i e
      have e := Nat.eq_of_beq_eq_true e
      subst e
      cases q
      cases ha.symm.trans hb
      simp
    · rename_i e
      have e : i ≠ j := Nat.ne_of_beq_eq_false e
      split at q
      · rename_i o o' ho ho'
        split at q
        · rename_i hw
          cases q
          have ne : a ≠ b := by
            rcases (Bool.or_eq_true _ _).mp hw with hw | hw
            · exact fun z => ((hH.2.2.2.2 i a o ha ho).2.2 hw).2.2 j (fun z => e z.symm) (z ▸ hb)
            · exact fun z => ((hH.2.2.2.2 j b o' hb ho').2.2 hw).2.2 i e (z ▸ ha)
          simp [ne]
        · cases q
      · cases q
  · cases q
def f_acmp (b pcY pcN : Nat) (cd : ACond) : AStep := fun rec L S H r => match S with
  | y :: x :: S' => (match aeq H x y with
    | some same => (match acV cd same with | true => rec b pcY L S' H r | false => rec b pcN L S' H r)
    | none => none)
  | _ => none
theorem s_acmp {b pc pcY : Nat} {cd : ACond} {i : Int} (hd : decode (bi b).2.1 pc = .ok (.if_acmp cd i, 3)) (ho : 0 ≤ (pc : Int) + i) (hp : ((pc : Int) + i).toNat = pcY) : Sound b pc (f_acmp b pcY (pc + 3) cd) := by
  intro rec hrec L S H r o h
  unfold f_acmp at h
  split at h
  · split at h
    · rename_i same hs
      split at h
      · rename_i hc
        refine Owes.read (hrec _ _ _ _ _ _ _ h) ?_
        intro p l e R s vm₁ m args below meth c T locs Z a0 n0 env Ls Sc X hx hby hZ hown hw hH hS
        obtain ⟨w, _, rfl, hv1, u, Sr, rfl, hv2, hS⟩ := hS
        obtain ⟨q1, q2, q3⟩ := aeq_at hH hv2 hv1 hs
        exact ⟨T, Sr, X, rfl, hS, fun t k => Jvm.RoadKit.acmp (g := mkF m pc Ls (w :: u :: Sr)) X hx rfl q1 q2 rfl (hb hby hd) rfl q3 ho (by rw [if_pos hc, hp]) k⟩
      · rename_i hc
        refine Owes.read (hrec _ _ _ _ _ _ _ h) ?_
        intro p l e R s vm₁ m args below meth c T locs Z a0 n0 env Ls Sc X hx hby hZ hown hw hH hS
        obtain ⟨w, _, rfl, hv1, u, Sr, rfl, hv2, hS⟩ := hS
        obtain ⟨q1, q2, q3⟩ := aeq_at hH hv2 hv1 hs
        exact ⟨T, Sr, X, rfl, hS, fun t k => Jvm.RoadKit.acmp (g := mkF m pc Ls (w :: u :: Sr)) X hx rfl q1 q2 rfl (hb hby hd) rfl q3 ho (by rw [if_neg (by rw [hc]; decide)]) k⟩
    · cases h
  · cases h
def f_ldc (b pc : Nat) (v : Value) : AStep := fun rec L S H r => rec b (pc + 2) L (v :: S) H r
theorem s_ldcI {b pc idx : Nat} {z : Int32} (hd : decode (bi b).2.1 pc = .ok (.ldc idx, 2)) (w : Wd (.constant (bi b).1.cls idx z)) : Sound b pc (f_ldc b pc (.int z)) := by
  intro rec hrec L S H r o h
  refine Owes.pure (hrec _ _ _ _ _ _ _ h) ?_
  intro p l e R s m args below meth c T locs Z a0 env Ls Sc X hx hby hZ hown hw hL hS
  exact ⟨Ls, _, rfl, hL, ⟨_, _, rfl, rfl, hS⟩, fun t k => X.ldcInt hx hown (mvT hZ (w _ _ hw)) (g := mkF m pc Ls Sc) rfl (hb hby hd) t k⟩
theorem s_ldcF {b pc idx : Nat} {z : UInt32} (hd : decode (bi b).2.1 pc = .ok (.ldc idx, 2)) (w : Wd (.constantFloat (bi b).1.cls idx z)) : Sound b pc (f_ldc b pc (.float z)) := by
  intro rec hrec L S H r o h
  refine Owes.pure (hrec _ _ _ _ _ _ _ h) ?_
  intro p l e R s m args below meth c T locs Z a0 env Ls Sc X hx hby hZ hown hw hL hS
  exact ⟨Ls, _, rfl, hL, ⟨_, _, rfl, rfl, hS⟩, fun t k => X.ldcFloatC hx hown (mvT hZ (w _ _ hw)) (g := mkF m pc Ls Sc) rfl (hb hby hd) t k⟩
def f_ldcM (b pc i k : Nat) : AStep := fun rec L S H r => match hk H i k with
  | some _ => rec b (pc + 2) L (.ref i :: S) H r
  | none => none
theorem hk_env {Z : State} {n0 : Nat} {vm : Vm} {h : Heap} {env : List Addr} {H : AH} {i k : Nat} {x : Bool × List Value} (hH : HR Z n0 vm h env H) (hi : hk H i k = some x) : ∃ a, env[i]? = some a ∧ OR Z h env a (k, x.1, x.2) := by
  have hlt := (List.getElem?_eq_some_iff.mp (hk_some hi)).1
  obtain ⟨a, ha⟩ : ∃ a, env[i]? = some a := ⟨_, List.getElem?_eq_getElem (by rw [hH.2.2.2.1]; exact hlt)⟩
  exact ⟨a, ha, (hH.2.2.2.2 i a _ ha (hk_some hi)).2.1⟩
theorem s_ldcM {b pc idx i k : Nat} (hd : decode (bi b).2.1 pc = .ok (.ldc idx, 2)) (hk3 : (kd k).1 = 3) (w : Wd (.classLink (bi b).1.cls idx (kd k).2.1)) : Sound b pc (f_ldcM b pc i k) := by
  intro rec hrec L S H r o h
  unfold f_ldcM at h
  split at h
  · rename_i x hx0
    refine Owes.read (hrec _ _ _ _ _ _ _ h) ?_
    intro p l e R s vm₁ m args below meth c T locs Z a0 n0 env Ls Sc X hx hby hZ hown hw hH hS
    obtain ⟨a, ha, hO⟩ := hk_env hH hx0
    obtain ⟨vm', X', st⟩ := X.ldcMirror hx hown (mvT hZ (w _ _ hw)) (own_mir hZ (hO.2.2.2.2.1 hk3)) (g := mkF m pc Ls Sc) rfl (hb hby hd)
    exact ⟨T.setVm vm', _, X', rfl, ⟨_, _, rfl, ⟨a, ha, rfl⟩, hS⟩, st⟩
  · cases h
/-! returns -/
theorem Owes.ret {b pc : Nat} {L : List Slot} {S : List Value} {H : AH} {r : Room} {v : Option Value}
    (k : ∀ (p : Program) (l : Launch) (e : Env) (R : Room) (s : State) (m : MethodId) (args : Array Value) (below : List Frame) (meth : Method) (c : Code) (T : State) (locs : List Loc) (env : List Addr) (Ls : Array Slot) (Sc : List Value),
      Stand p l e R s m args below meth c T locs r.cells r.slots → p.tables.exec = Jvm.exec → c.code = (bi b).2.1 → meth.sig.returnType = (bi b).2.2.2 → RL (VR env) S Sc →
      ∃ w, OV env v w ∧ (meth.sig.returnType = none → w = none) ∧ ∀ fs, (∀ (f : JFrame) (acts : List Action), f.method = m → f.locked = none → f.entered = [] → (doReturn e (T.setTop f) acts w).1 = T.setFrames fs) → Steps p.tables e below (T.setTop (mkF m pc Ls Sc)) (T.setFrames fs)) : Owes b pc L S H r (v, H, r) := by
  refine ⟨RmLe.refl _, fun p l e R s vm₁ m args below meth c T locs Z a0 n0 k0 env Ls Sc G hH hL hS hz hR => ?_⟩
  obtain ⟨g1, g2, g3, g4, g5, g6, g7, g8, g9, g10, g11, g12, g13⟩ := G
  obtain ⟨w, h1, h2, h3⟩ := k p l e R (s.setVm vm₁) m args below meth c T locs env Ls Sc g1 g2 g7 g9 hS
  obtain ⟨fs, hr, hrun, hended, hE⟩ := g1.leaveW g3 g4 (v := w) h2 g10
  have hH' : HR Z n0 T.vm T.heap env H := hH.reb (CHv.at g1 g5 (own_EW g12) hH.2.1)
  exact ⟨_, h3 fs hr, _, hrun, hended, w, locs, rfl, ⟨g13, [], by rw [List.append_nil]; exact hH', by rw [List.append_nil]; exact h1⟩, hE⟩
def f_retv : AStep := fun _ _ S H r => match S with
  | [] => some (none, H, r)
  | _ => none
theorem s_retv {b pc : Nat} (hd : decode (bi b).2.1 pc = .ok (.return_, 1)) (hret : (bi b).2.2.2 = none) : Sound b pc f_retv := by
  intro rec hrec L S H r o h
  unfold f_retv at h
  split at h
  · cases h
    refine Owes.ret ?_
    intro p l e R s m args below meth c T locs env Ls Sc X hx hby hr hS
    cases hS
    exact ⟨none, rfl, fun _ => rfl, fun fs q => X.returnOut hx (hr.trans hret) (hb hby hd) q⟩
  · cases h
def f_reti (ty : FieldType) : AStep := fun _ _ S H r => match S with
  | .int x :: _ => some (some (.int (nar ty x)), H, r)
  | _ => none
theorem s_reti {b pc : Nat} {ty : FieldType} (hd : decode (bi b).2.1 pc = .ok (.ireturn, 1)) (hret : (bi b).2.2.2 = some ty) (ht : ty = .int ∨ ty = .boolean ∨ ty = .byte ∨ ty = .char ∨ ty = .short) : Sound b pc (f_reti ty) := by
  intro rec hrec L S H r o h
  unfold f_reti at h
  split at h
  · rename_i x S'
    cases h
    refine Owes.ret ?_
    intro p l e R s m args below meth c T locs env Ls Sc X hx hby hr hS
    obtain ⟨_, Sr, rfl, rfl, hS⟩ := hS
    refine ⟨some (.int (nar ty x)), ⟨_, rfl, rfl⟩, fun q => (by rw [hr, hret] at q; cases q), fun fs q => ?_⟩
    rcases ht with rfl | ht
    · exact retI0 X hx (hr.trans hret) (hb hby hd) q
    · exact Jvm.RoadKit.retN X hx (hr.trans hret) ht (hb hby hd) q
  · cases h
def f_reta : AStep := fun _ _ S H r => match S with
  | v :: _ => (match isA v with | true => some (some v, H, r) | false => none)
  | _ => none
theorem s_reta {b pc : Nat} {t : FieldType} (hd : decode (bi b).2.1 pc = .ok (.areturn, 1)) (hret : (bi b).2.2.2 = some t) (ht : t.isReference = true) : Sound b pc f_reta := by
  intro rec hrec L S H r o h
  unfold f_reta at h
  split at h
  · split at h
    · rename_i hv
      cases h
      refine Owes.ret ?_
      intro p l e R s m args below meth c T locs env Ls Sc X hx hby hr hS
      obtain ⟨w, Sr, rfl, h1, hS⟩ := hS
      have hw := isA_at h1 hv
      exact ⟨some w, ⟨_, rfl, h1⟩, fun q => (by rw [hr, hret] at q; cases q), fun fs q => retOut X hx (hr.trans hret) (by cases t <;> first | (cases ht; done) | (cases w <;> first | rfl | (cases hw))) (Or.inr (Or.inr (Or.inr (Or.inr ⟨rfl, ht, hw⟩)))) (hb hby hd) q⟩
    · cases h
  · cases h
/-! natives -/
def bump (r : Room) (f lo : Nat) : Room := { r with frames := max r.frames f, locals := max r.locals lo }
theorem Owes.nat {b pc pc' f lo : Nat} {L : List Slot} {S S' : List Value} {H : AH} {r : Room} {o : ARes} (h : Owes b pc' L S' H (bump r f lo) o)
    (k : ∀ (p : Program) (l : Launch) (e : Env) (R : Room) (s : State) (vm₁ : Vm) (m : MethodId) (args : Array Value) (below : List Frame) (meth : Method) (c : Code) (T : State) (locs : List Loc) (Z : State) (a0 : Array Value) (n0 : Nat) (env : List Addr) (Ls : Array Slot) (Sc : List Value),
      Stand p l e R s m args below meth c T locs r.cells r.slots → p.tables.exec = Jvm.exec → c.code = (bi b).2.1 → Z.Warmed39 s.vm → s.vm.findClass (bi b).1.cls = some m.cls → HW Z a0 → HR Z n0 vm₁ T.heap env H → RL (VR env) S Sc → Ls.size = c.maxLocals → f ≤ R.frames → lo ≤ R.locals →
      ∃ (T' : State) (Sc' : List Value), Stand p l e R s m args below meth c T' locs r.cells r.slots ∧ T'.heap = T.heap ∧ RL (VR env) S' Sc' ∧ ∀ t, Steps p.tables e below (T'.setTop (mkF m pc' Ls Sc')) t → Steps p.tables e below (T.setTop (mkF m pc Ls Sc)) t) : Owes b pc L S H r o := by
  refine Owes.go h ⟨Nat.le_max_left .., Nat.le_refl _, Nat.le_refl _, Nat.le_max_left ..⟩ fun p l e R s vm₁ m args below meth c T locs Z a0 n0 k0 env Ls Sc G hH hL hS hz hR => ?_
  obtain ⟨g1, g2, g3, g4, g5, g6, g7, g8, g9, g10, g11, g12, g13⟩ := G
  obtain ⟨T', Sc', h1, h2, h3, h4⟩ := k p l e R (s.setVm vm₁) vm₁ m args below meth c T locs Z a0 n0 env Ls Sc g1 g2 g7 g5 g6 g12 hH hS (hz.trans g8.symm) (Nat.le_trans (Nat.le_max_right ..) hR.1) (Nat.le_trans (Nat.le_max_right ..) hR.2.2.2)
  exact ⟨vm₁, T', locs, k0, [], Ls, Sc', ⟨h1, g2, g3, by rw [h2]; exact g4, g5, g6, g7, g8, g9, g10, g11, g12, g13⟩, by rw [List.append_nil, h2]; exact hH, by rw [List.append_nil]; exact hL, by rw [List.append_nil]; exact h3, hz, h4⟩
theorem own_W {env : List Addr} {S Sr : List Value} {g : JFrame} (hg : 2 * g.monitorRoom = 0) (hS : RL (VR env) S Sr) : 2 * g.monitorRoom + (Sr.map fun v => v.category).sum ≤ S.length := by rw [hg, VR.sum hS]; omega
def f_objinit (b pc : Nat) : AStep := fun rec L S H r => match S with
  | .ref _ :: S' => rec b (pc + 3) L S' H (bump r 1 (S'.length + 12))
  | _ => none
theorem s_objinit {b pc idx : Nat} (hd : decode (bi b).2.1 pc = .ok (.invokespecial idx, 3)) (w1 : Wd (.methodLink (bi b).1.cls idx Lib.objectInit)) (w2 : Wd (.instanceMethod Lib.objectInit)) (w3 : Wd (.code Lib.objectInit ⟨#[0xb1]⟩ 1 none)) : Sound b pc (f_objinit b pc) := by
  intro rec hrec L S H r o h
  unfold f_objinit at h
  split at h
  · refine Owes.nat (hrec _ _ _ _ _ _ _ h) ?_
    intro p l e R s vm₁ m args below meth c T locs Z a0 n0 env Ls Sc X hx hby hZ hown hw hH hS hz hf hl
    obtain ⟨_, Sr, rfl, ⟨a, -, rfl⟩, hS⟩ := hS
    obtain ⟨T', X', e', st⟩ := initO X hx hZ hown (w1 _ _ hw) (w2 _ _ hw) (w3 _ _ hw) rfl (g := mkF m pc Ls (.ref a :: Sr)) rfl hz rfl (hb hby hd) hf (own_W rfl hS) hl
    exact ⟨T', Sr, X', e', hS, st⟩
  · cases h
def f_gcls (b pc kv i k : Nat) : AStep := fun rec L S H r => match S with
  | .ref j :: S' => (match hk H j kv, hk H i k with
    | some _, some _ => rec b (pc + 3) L (.ref i :: S') H (bump r 1 (S'.length + 14))
    | _, _ => none)
  | _ => none
theorem s_gcls {b pc idx kv i k : Nat} (hd : decode (bi b).2.1 pc = .ok (.invokevirtual idx, 3)) (hk3 : (kd k).1 = 3) (hkv : (kd kv).1 ≤ 2) (hC : (kd k).2.1 = (kd kv).2.1) (w1 : Wd (.methodLink (bi b).1.cls idx ⟨cn1, "getClass", "()Ljava/lang/Class;"⟩)) (w2 : Wd (.declares ⟨cn1, "getClass", "()Ljava/lang/Class;"⟩)) (w3 : Wd (.noSuperclass cn1))
    (w4 : Wd (.selects (kd kv).2.1 ⟨cn1, "getClass", "()Ljava/lang/Class;"⟩ ⟨cn1, "getClass", "()Ljava/lang/Class;"⟩)) (w5 : Wd (.instanceMethod ⟨cn1, "getClass", "()Ljava/lang/Class;"⟩)) (w6 : Wd (.native ⟨cn1, "getClass", "()Ljava/lang/Class;"⟩)) : Sound b pc (f_gcls b pc kv i k) := by
  intro rec hrec L S H r o h
  unfold f_gcls at h
  split at h
  · split at h
    · rename_i x y hx0 hy0
      refine Owes.nat (hrec _ _ _ _ _ _ _ h) ?_
      intro p l e R s vm₁ m args below meth c T locs Z a0 n0 env Ls Sc X hx hby hZ hown hw hH hS hz hf hl
      obtain ⟨_, Sr, rfl, h1, hS⟩ := hS
      obtain ⟨a, rfl, -, -, hO⟩ := hH.at hx0 h1
      obtain ⟨a', ha', hM⟩ := hk_env hH hy0
      have M := hM.2.2.2.2.1 hk3
      rw [hC] at M
      obtain ⟨T', X', e', st⟩ := gcls X hx hZ hown (w1 _ _ hw) (w2 _ _ hw) (w3 _ _ hw) (w4 _ _ hw) (w5 _ _ hw) (w6 _ _ hw) rfl (hO.1 hkv) M (g := mkF m pc Ls (.ref a :: Sr)) rfl hz rfl (hb hby hd) hf (own_W rfl hS) (by rw [show nativeFrameWords cn1 "getClass" 1 = 3 from by decide]; exact hl)
      exact ⟨T', _, X', e', ⟨_, _, rfl, ⟨a', ha', rfl⟩, hS⟩, st⟩
    · cases h
  · cases h
def f_castN (b pc : Nat) : AStep := fun rec L S H r => match S with
  | .null :: S' => rec b (pc + 3) L (.null :: S') H r
  | _ => none
theorem s_castN {b pc idx : Nat} (hd : decode (bi b).2.1 pc = .ok (.checkcast idx, 3)) : Sound b pc (f_castN b pc) := by
  intro rec hrec L S H r o h
  unfold f_castN at h
  split at h
  · refine Owes.pure (hrec _ _ _ _ _ _ _ h) ?_
    intro p l e R s m args below meth c T locs Z a0 env Ls Sc X hx hby hZ hown hw hL hS
    obtain ⟨_, Sr, rfl, rfl, hS⟩ := hS
    exact ⟨Ls, _, rfl, hL, ⟨_, _, rfl, rfl, hS⟩, fun t k => X.checkcastNull hx (g := mkF m pc Ls (.null :: Sr)) rfl rfl (hb hby hd) t k⟩
  · cases h
/-! boxes, String constants, arraycopy -/
def f_box (b pc kc kI : Nat) : AStep := fun rec L S H r => match S with
  | .int j :: .ref i :: S' => (match hk H i kc, decide (¬ j < 0 ∧ j < 256) with
    | some _, true => rec b (pc + 1) L (.ref H.length :: S') (H ++ [(kI, false, [.int (j - 128)])]) r
    | _, _ => none)
  | _ => none
theorem s_box {b pc kc kI : Nat} (hd : decode (bi b).2.1 pc = .ok (.aaload, 1)) (hk4 : (kd kc).1 = 4) (hkI : (kd kI).1 = 0) (hC : (kd kI).2.1 = cn11) (hf : (kd kI).2.2.2 = [(cn11, "value", "I")]) : Sound b pc (f_box b pc kc kI) := by
  intro rec hrec L S H r o h
  unfold f_box at h
  split at h
  · split at h
    · rename_i x hx0 hj
      have hj := of_decide_eq_true hj
      refine Owes.go (hrec _ _ _ _ _ _ _ h) (RmLe.refl _) fun p l e R s vm₁ m args below meth c T locs Z a0 n0 k0 env Ls Sc G hH hL hS hz hR => ?_
      obtain ⟨_, _, rfl, rfl, _, Sr, rfl, h1, hS⟩ := hS
      obtain ⟨a, rfl, -, -, hO⟩ := hH.at hx0 h1
      obtain ⟨cl, B⟩ := hO.2.2.2.2.2 hk4
      have hin := inb_of B.2.1 hj
      obtain ⟨w, hat, hE, hF⟩ := B.2.2.2 _ hin
      have A := B.1.ext hH.1.2
      have hlt : w < Z.heap.size := hE.lt
      refine ⟨vm₁, T, locs, k0, [w], Ls, .ref w :: Sr, G, hH.adopt (Nat.lt_of_lt_of_le hlt hH.1.2.1) (fun i ob hi hfl he => ?_) rfl (OR.obj hkI (by rw [hC]; exact hE.ext hH.1.2) (by rw [hf]; exact ⟨_, _, rfl, ⟨_, rfl, hF.ext hH.1.2⟩, rfl⟩)), hL.mono fun _ _ q => q.mono _, ⟨_, _, rfl, ⟨w, ?_, rfl⟩, hS.mono fun _ _ q => q.mono _⟩, hz,
        fun t k => G.1.aaload G.2.1 A.1 (State.isArrayOf_alike G.2.2.2.2.1.alike A.2.1) rfl A.2.2 hin hat (g := mkF m pc Ls (.int _ :: .ref a :: Sr)) rfl rfl (hb G.2.2.2.2.2.2.1 hd) t k⟩
      · have q1 := ((hH.2.2.2.2 i w ob he hi).2.2 hfl).1
        have q2 := hH.1.1
        exact absurd hlt (Nat.not_lt.mpr (by rw [q2]; exact q1))
      · rw [← hH.2.2.2.1, List.getElem?_append_right (Nat.le_refl _)]; simp
    · cases h
  · cases h
def f_ldcS (b pc kS kB nn : Nat) (vs : List Value) : AStep := fun rec L S H r => rec b (pc + 2) L (.ref (H.length + 1) :: S) (H ++ [(kB, false, vs)] ++ [(kS, false, [.int 0, .ref H.length])]) { r with cells := r.cells + 2, slots := r.slots + (nn + 4) }
theorem s_ldcS {b pc kS kB nn idx i : Nat} {vs : List Value} {text : String} {z : Int32} (hd : decode (bi b).2.1 pc = .ok (.ldc idx, 2)) (hkB : (kd kB).1 = 5) (htB : (kd kB).2.2.1 = .byte) (hkS : (kd kS).1 = 0) (hC : (kd kS).2.1 = cn3) (hf : (kd kS).2.2.2 = [(cn3, "coder", "B"), (cn3, "value", "[B")])
    (w : Wd (.stringLink (bi b).1.cls idx text)) (hmem : own_EL[i]? = some ((bi b).1.cls, idx)) (ht : (∀ c ∈ text.toList, c.toNat < 256) ∧ text.toList.map (fun c => Value.int (Jvm.Lit.byteI c.toNat.toUInt16)) = vs) (hz : ¬ z < 0) (hl : z.toNatClampNeg = vs.length) (hvs : ∀ env, RL (VR env) vs vs) (hn : 4 * text.toList.length ≤ nn) (hbig : nn ≤ 536870912) : Sound b pc (f_ldcS b pc kS kB nn vs) := by
  intro rec hrec L S H r o h
  refine Owes.go (hrec _ _ _ _ _ _ _ h) ⟨Nat.le_refl _, Nat.le_add_right _ _, Nat.le_add_right _ _, Nat.le_refl _⟩ fun p l e R s vm₁ m args below meth c T locs Z a0 n0 k0 env Ls Sc G hH hL hS hzz hR => ?_
  obtain ⟨g1, g2, g3, g4, g5, g6, g7, g8, g9, g10, g11, g12, g13⟩ := G
  obtain ⟨a, T', h', k1, bb, k, X', e', E, hS', hk', hZ', hown', A, Fc, Fv, V, alt, blt, C, -, hne, st⟩ := ldcCH g1 g2 g5 g6 (w _ _ g12) (own_wS g12) rfl g3 g4 (own_EW g12) (List.mem_of_getElem? hmem) hH.2.1 ht hz hl (g := mkF m pc Ls Sc) rfl (hb g7 hd) hn hbig hR.2.1 hR.2.2.1
  subst e'
  have hlen := hH.2.2.2.1
  have H1 : HR Z n0 T'.vm T'.heap (env ++ [bb]) (H ++ [(kB, false, vs)]) := hH.snoc E C blt nofun (fun i ob hi hfl he => by
    obtain ⟨q1, -, q3⟩ := hH.2.2.2.2 i bb ob he hi
    exact (hne bb (C.safe q1 (q3 hfl).2.1)).2 rfl) (OR.arr5 hkB ⟨z, k, vs, hvs _, hl, by rw [htB]; exact V, nofun⟩)
  have H2 : HR Z n0 T'.vm T'.heap (env ++ [bb] ++ [a]) (H ++ [(kB, false, vs)] ++ [(kS, false, [.int 0, .ref H.length])]) := H1.adopt alt (fun i ob hi hfl he => by
    exact (hne a ((H1.2.2.2.2 i a ob he hi).2.2 hfl).2.1).1 rfl) rfl (OR.obj hkS (by rw [hC]; exact A) (by
      rw [hf]
      refine ⟨_, _, rfl, ⟨_, rfl, Fc⟩, _, _, rfl, ⟨.ref bb, ⟨bb, ?_, rfl⟩, Fv⟩, rfl⟩
      rw [← hlen, List.append_assoc, List.getElem?_append_right (Nat.le_refl _)]; simp))
  refine ⟨T'.vm, T', locs, k1, [bb] ++ [a], Ls, .ref a :: Sc, ⟨X', g2, hS', hk', hZ', hown', g7, g8, g9, g10, g11, g12, g13⟩, by rw [← List.append_assoc]; exact H2, hL.mono fun _ _ q => q.mono _, ⟨_, _, rfl, ⟨a, ?_, rfl⟩, hS.mono fun _ _ q => q.mono _⟩, hzz, st⟩
  rw [← hlen, List.getElem?_append_right (Nat.le_add_right _ _)]; simp
/-- arraycopy between arrays of references -/
def stOK (H : AH) (kvs : List Nat) (v : Value) : Bool := match v with
  | .null => true
  | .ref i => (match H[i]? with | some o => kvs.any fun k => Nat.beq o.1 k | none => false)
  | _ => false
def f_acopy (b pc ka kb : Nat) (kvs : List Nat) : AStep := fun rec L S H r => match S with
  | .int nn :: .int dp :: .ref j :: .int sp :: .ref i :: S' => (match hk H i ka, hk H j kb with
    | some x, some (true, vd) => (match decide (¬ sp < 0 ∧ ¬ dp < 0 ∧ ¬ nn < 0) && Nat.ble (sp.toNatClampNeg + nn.toNatClampNeg) x.2.length && Nat.ble (dp.toNatClampNeg + nn.toNatClampNeg) vd.length && ((x.2.drop sp.toNatClampNeg).take nn.toNatClampNeg).all (stOK H kvs) with
      | true => rec b (pc + 3) L S' (H.set j (kb, true, vd.take dp.toNatClampNeg ++ (x.2.drop sp.toNatClampNeg).take nn.toNatClampNeg ++ vd.drop (dp.toNatClampNeg + nn.toNatClampNeg))) (bump r 1 (S'.length + 18))
      | false => none)
    | _, _ => none)
  | _ => none
theorem own_us {ws : List Value} {s n : Nat} {d : Value} (h : s + n ≤ ws.length) : (ws.drop s).take n = (List.range n).map fun i => ws.getD (s + i) d := by
  refine List.ext_getElem? fun i => ?_
  rw [List.getElem?_take, List.getElem?_map]
  by_cases q : i < n
  · rw [if_pos q, List.getElem?_drop, List.getElem?_range q, List.getElem?_eq_getElem (by omega)]
    simp [List.getD_eq_getElem?_getD, List.getElem?_eq_getElem (show s + i < ws.length by omega)]
  · rw [if_neg q, List.getElem?_eq_none (by simp; omega)]; rfl
theorem stOK_at {Z : State} {a0 : Array Value} {n0 : Nat} {vm : Vm} {h : Heap} {env : List Addr} {H : AH} {kvs : List Nat} {a : Addr} {cl : Cell} {k : ClassId} {C : String} (hH : HR Z n0 vm h env H) (hw : HW Z a0) (I : ∀ kv ∈ kvs, InsK kv C) (A : Arr Z h a cl (.object C)) (hc : cl.cls = k) (O : Ovr Z k C) : ∀ {us ws : List Value}, RL (VR env) us ws → us.all (stOK H kvs) = true → StoL Z h a ws
  | [], _, q, _ => by cases q; trivial
  | v :: us, _, ⟨w, ws, e, hv, t⟩, q => by
    subst e
    rw [List.all_cons, Bool.and_eq_true] at q
    refine ⟨?_, stOK_at hH hw I A hc O t q.2⟩
    have q := q.1
    unfold stOK at q
    split at q
    · cases hv; exact Or.inl rfl
    · obtain ⟨u, hu, rfl⟩ := hv
      split at q
      · rename_i ob hob
        obtain ⟨kv, h1, h2⟩ := List.any_eq_true.mp q
        have e := Nat.eq_of_beq_eq_true h2
        have hO := (hH.2.2.2.2 _ u ob hu hob).2.1
        obtain ⟨k0, fl, vs⟩ := ob
        dsimp only at e
        subst e
        exact Sto.ofV A hc O ((I _ h1).at hw hO)
      · cases q
    · cases q
theorem s_acopy {b pc idx ka kb : Nat} {kvs : List Nat} {C : String} (hd : decode (bi b).2.1 pc = .ok (.invokestatic idx, 3)) (hka : (kd ka).1 = 1 ∨ (kd ka).1 = 2 ∨ (kd ka).1 = 5) (hta : refKind (kd ka).2.2.1 = true) (hkb : (kd kb).1 = 2) (htb : (kd kb).2.2.1 = .object C) (I : ∀ kv ∈ kvs, InsK kv C)
    (w1 : Wd (.methodLink (bi b).1.cls idx Jvm.Stand.acN)) (w2 : Wd (.native Jvm.Stand.acN)) (w3 : Wd (.static Jvm.Stand.acN)) (w4 : Wd (.initialized "java/lang/System")) : Sound b pc (f_acopy b pc ka kb kvs) := by
  intro rec hrec L S H r o h
  unfold f_acopy at h
  split at h
  · rename_i nn dp j sp i S'
    split at h
    · rename_i x vd hx0 hy0
      split at h
      · rename_i q
        simp only [Bool.and_eq_true] at q
        obtain ⟨⟨⟨q1, q2⟩, q3⟩, q4⟩ := q
        have q1 := of_decide_eq_true q1
        have q2 := Nat.le_of_ble_eq_true q2
        have q3 := Nat.le_of_ble_eq_true q3
        refine Owes.go (hrec _ _ _ _ _ _ _ h) ⟨Nat.le_max_left .., Nat.le_refl _, Nat.le_refl _, Nat.le_max_left ..⟩ fun p l e R s vm₁ m args below meth c T locs Z a0 n0 k0 env Ls Sc G hH hL hS hz hR => ?_
        obtain ⟨g1, g2, g3, g4, g5, g6, g7, g8, g9, g10, g11, g12, g13⟩ := G
        obtain ⟨_, _, rfl, rfl, _, _, rfl, rfl, _, _, rfl, hv1, _, _, rfl, rfl, _, Sr, rfl, hv2, hS⟩ := hS
        obtain ⟨a, rfl, -, -, hO⟩ := hH.at hx0 hv2
        obtain ⟨a', rfl, ha', -, hO'⟩ := hH.at hy0 hv1
        have hge := ((hH.2.2.2.2 j a' _ ha' (hk_some hy0)).2.2 rfl).1
        obtain ⟨ov, n, k, ws, b1, b2, b3, -⟩ := hO.arr hka
        obtain ⟨n', k', ws', c1, c2, c3, c4⟩ := hO'.2.2.2.1 hkb
        have l1 := b1.len
        have l2 := c1.len
        dsimp only at l1 l2 b2 c2
        rw [htb] at c3 c4
        obtain ⟨_, hC, hOv⟩ := c4 rfl
        cases hC
        have hus : RL (VR env) ((x.2.drop sp.toNatClampNeg).take nn.toNatClampNeg) ((ws.drop sp.toNatClampNeg).take nn.toNatClampNeg) := (b1.drop _).take _
        have hSto : StoL Z T.heap a' ((ws.drop sp.toNatClampNeg).take nn.toNatClampNeg) := by
          obtain ⟨cl, A, hc, -⟩ := id c3
          exact stOK_at hH g12 I A hc hOv hus q4
        obtain ⟨T', h', Lc, X', e', N, K, V, st⟩ := cpA g1 g2 g5 g6 (w1 _ _ g12) (w2 _ _ g12) (w3 _ _ g12) (w4 _ _ g12) rfl b3 c3 (Or.inr ⟨hta, rfl, hSto⟩) q1.1 q1.2.1 q1.2.2 (by omega) (by omega) (own_us (by omega)) (by omega) g13 hge (g := mkF m pc Ls (.int nn :: .int dp :: .ref a' :: .int sp :: .ref a :: Sr)) rfl (hz.trans g8.symm) rfl (hb g7 hd) (Nat.le_trans (Nat.le_max_right ..) hR.1) (own_W rfl hS) (by rw [show nativeFrameWords "java/lang/System" "arraycopy" 5 = 7 from by decide]; exact Nat.le_trans (Nat.le_max_right ..) hR.2.2.2)
        subst e'
        refine ⟨vm₁, T', Lc, k0, [], Ls, Sr, ⟨X', g2, g3, Nat.le_trans g4 K.1, g5, g6, g7, g8, g9, g10, g11, g12, N⟩, ?_, by rw [List.append_nil]; exact hL, by rw [List.append_nil]; exact hS, hz, st⟩
        rw [List.append_nil]
        refine hH.kp ha' (hk_some hy0) rfl K (OR.arr2 hkb ((hO'.1 (by rw [hkb]; decide)).keep K) ?_)
        rw [htb]
        refine ⟨n', k', _, ((c1.take _).app hus).app (c1.drop _), ?_, V, c4⟩
        simp only [List.length_append, List.length_take, List.length_drop]
        omega
      · cases h
    · cases h
  · cases h
/-! calls -/
def rm0 : Room := { frames := 0, cells := 0, slots := 0, locals := 0 }
def up (r r' : Room) (W maxL : Nat) : Room := { frames := max r.frames (r'.frames + 1), cells := r.cells + r'.cells, slots := r.slots + r'.slots, locals := max r.locals (W + (maxL + 11) + r'.locals) }
/-- the payer of a callee whose answer speaks of the tables too -/
theorem own_backQ {p : Program} {l : Launch} {e : Env} {R : Room} {s : State} {args : Array Value} {below : List Frame} {Z : State} {a0 : Array Value} {h : Heap} {vm0 : Vm} {y : MethodName} {bytes : ByteArray} {maxL : Nat} {ret : Option FieldType} {rm : Room} {len W : Nat} {as' : Array Value} {Q : Option Value → Vm → Heap → List Loc → Prop} {PV : Vm → Prop}
    (hM : MetFree l y (head1 [Jvm.Cond.code y bytes maxL ret] rm) (fun a U => a = as' ∧ Z.Warmed39 U.vm ∧ U.heap = h ∧ PV U.vm) (fun _ _ _ _ _ => True) (fun _ U o U' => ∃ v L, o = .returned v ∧ Q v U'.vm U'.heap L ∧ ReturnedEndW U o U' L rm.cells rm.slots))
    (hZ : Z.Warmed39 vm0) (wc : (Jvm.Cond.code y bytes maxL ret).before a0 Z = true) (wz : (Jvm.Cond.initialized y.cls).before a0 Z = true) (hf : rm.frames + 1 ≤ R.frames) (hl : W + (maxL + 11) + rm.locals ≤ R.locals)
    (hPV : ∀ (m : MethodId) (meth : Method) (c : Code) (U : State) (locs : List Loc) (cells slots : Nat), Stand p l e R (s.setVm vm0) m args below meth c U locs cells slots → PV U.vm) :
    BackS l R p e below (s.setVm vm0) args y len W (fun A a => a = as' ∧ A.U.heap = h ∧ A.cells + rm.cells ≤ R.cells ∧ A.slots + rm.slots ≤ R.slots)
      (fun A _ v B => ∃ L, Q v B.U.vm B.U.heap L ∧ B.locs = A.locs ++ L ∧ B.cells = A.cells + rm.cells ∧ B.slots = A.slots + rm.slots) := by
  refine BackS.of_freeW (bytes := bytes) (maxL := maxL) (ret := ret) (E := fun _ _ o t L k n => k = rm.cells ∧ n = rm.slots ∧ ∃ v, o = .returned v ∧ Q v t.vm t.heap L) hM hf hl ?_ ?_ (fun _ _ _ _ _ _ _ _ _ => trivial) ?_ ?_
  · intro m meth c A a Y hp
    have hU : Z.Warmed39 A.U.vm := wtrans (s := s.setVm vm0) hZ Y.warmed
    exact ⟨by show (Jvm.Cond.and _ .tt).before a A.U = true; rw [Cond.before_and, mv hU wc]; rfl, mv hU wc, mv hU wz, hp.2.2.1, hp.2.2.2⟩
  · intro m meth c A a g mk Y hp
    exact ⟨hp.1, wtrans (s := s.setVm vm0) hZ Y.warmed, hp.2.1, hPV m meth c A.U A.locs A.cells A.slots Y⟩
  · rintro _ _ _ _ ⟨v, L, h1, h2, h3⟩
    exact ⟨L, _, _, h3, rfl, rfl, v, h1, h2⟩
  · rintro m meth c A a g mk v t L k n Y hp _ _ ⟨e1, e2, v', e3, e4⟩
    cases e3; subst e1 e2
    exact ⟨L, e4, rfl, rfl, rfl⟩
/-- the callee's contract out of what its run owes -/
theorem Owes.met {b : Nat} {av : List Value} {H : AH} {o : ARes} (C : Owes b 0 (ent av (bi b).2.2.1) [] H rm0 o) (hp : plainFor (bi b).1 = true) {l : Launch} {Z : State} {a0 : Array Value} {n0 : Nat} {env : List Addr} {h : Heap} {ac : List Value} (hw : HW Z a0) (hA : RL (VR env) av ac) (hn : av.length ≤ (bi b).2.2.1) :
    MetFree l (bi b).1 (head1 [Jvm.Cond.code (bi b).1 (bi b).2.1 (bi b).2.2.1 (bi b).2.2.2] o.2.2) (fun a U => a = ac.toArray ∧ Z.Warmed39 U.vm ∧ U.heap = h ∧ HR Z n0 U.vm h env H) (fun _ _ _ _ _ => True)
      (fun _ U oc U' => ∃ v L, oc = .returned v ∧ QA Z n0 env o v U'.vm U'.heap L ∧ ReturnedEndW U oc U' L o.2.2.cells o.2.2.slots) := by
  refine MetFree.of_bodySF hp hisR ?_
  intro p e s m args below meth c s₁ Bd hml hP hK
  obtain ⟨rfl, hZ, hh, hH⟩ := hP
  have X0 : Stand p l e o.2.2 (s.setVm s.vm) m ac.toArray below meth c s₁ [] 0 0 := Stand.of_body Bd
  have e0 : s₁.heap = h := by rw [← hh, Bd.state]; rfl
  have hcat : ∀ w ∈ ac, w.category = 1 := fun w hm => by
    obtain ⟨i, hi⟩ := List.getElem?_of_mem hm
    obtain ⟨v, hv⟩ : ∃ v, av[i]? = some v := ⟨_, List.getElem?_eq_getElem (by rw [hA.len]; exact (List.getElem?_eq_some_iff.mp hi).1)⟩
    obtain ⟨w', q1, q2⟩ := hA.get hv
    cases hi.symm.trans q1; exact q2.cat
  have hent := own_ent (n := (bi b).2.2.1) hcat
  have hL : RL (SR env) (ent av (bi b).2.2.1) (argsToLocals ac.toArray (bi b).2.2.1).toList := by
    rw [hent, ← hA.len]; exact (VR.vals hA).app (RL.rep (R := SR env) (a := .unset) (b := .unset) rfl _)
  have hsz : (argsToLocals ac.toArray (bi b).2.2.1).size = (bi b).2.2.1 := by
    rw [← Array.length_toList, hent]; simp only [List.length_append, List.length_map, List.length_replicate]; have := hA.len; omega
  have hS0 : s.Since s.vm s.heap.size := (State.WarmedH.refl s).since _
  obtain ⟨t, st, oc, h1, h2, h3⟩ := C.2 p l e o.2.2 s s.vm m ac.toArray below meth c s₁ [] Z a0 n0 s.heap.size env (argsToLocals ac.toArray (bi b).2.2.1) [] ⟨X0, Bd.exec, hS0, by rw [e0, hh]; exact Nat.le_refl _, hZ, findClass_of_methodNamed Bd.named, Bd.bytes, hml, Bd.returns, Bd.notSynchronized, (name_of_methodNamed Bd.named Bd.method).1, hw, Fr.nil n0⟩ (by rw [e0]; exact hH) hL rfl hsz (RmLe.refl _)
  exact ⟨t, oc, st, h1, h2, h3⟩
/-- a call instruction, its words baked in -/
def ASite (b pc len n b' : Nat) (kr : Option Nat) : Prop :=
  ∀ (p : Program) (l : Launch) (e : Env) (R : Room) (s : State) (m : MethodId) (args : Array Value) (below : List Frame) (meth : Method) (c : Code) (T : State) (locs : List Loc) (cells slots : Nat) (Z : State) (a0 : Array Value) (Ls : Array Slot) (av rest : List Value) (W : Nat) (Pre : Pt → Array Value → Prop) (Post : Pt → Array Value → Option Value → Pt → Prop),
    Stand p l e R s m args below meth c T locs cells slots → p.tables.exec = Jvm.exec → Z.Warmed39 s.vm → s.vm.findClass (bi b).1.cls = some m.cls → HW Z a0 → c.code = (bi b).2.1 → (∀ k, kr = some k → ∃ a tl, av = .ref a :: tl ∧ Exa Z T.heap a (kd k).2.1) → av.length = n → Ls.size = c.maxLocals → (rest.map fun v => v.category).sum ≤ W →
    BackS l R p e below s args (bi b').1 len W Pre Post → (∀ vm₁, s.WarmedH vm₁ → Pre ⟨T.setVm vm₁, locs, cells, slots⟩ av.toArray) →
    ∃ (v : Option Value) (vm₁ : Vm) (B : Pt), Stand p l e R (s.setVm B.U.vm) m args below meth c B.U B.locs B.cells B.slots ∧ s.Since B.U.vm B.U.heap.size ∧ T.heap.size ≤ B.U.heap.size ∧ Post ⟨T.setVm vm₁, locs, cells, slots⟩ av.toArray v B ∧
      Steps p.tables e below (T.setTop (mkF m pc Ls (av.reverse ++ rest))) (B.U.setTop (mkF m (pc + len) Ls (v.toList ++ rest)))
def Lk (b idx : Nat) (y : MethodName) : Prop := Wd (.methodLink (bi b).1.cls idx y) ∨ ∃ host, Wd (.methodLinkNest (bi b).1.cls idx y host)
abbrev NoMH (y : MethodName) : Prop := y.cls ≠ "java/lang/invoke/MethodHandle" ∧ y.cls ≠ "java/lang/invoke/VarHandle"
abbrev Np (y : MethodName) (n : Nat) : Prop := ∀ sig, parseMethodDescriptor y.desc = some sig → n = sig.parameters.length
section Sites
variable {b pc n b' idx count : Nat} {k : Nat} {y : MethodName}
theorem ASite.stat (hd : decode (bi b).2.1 pc = .ok (.invokestatic idx, 3)) (lk : Lk b idx (bi b').1) (w2 : Wd (.static (bi b').1)) (wz : Wd (.initialized (bi b').1.cls)) (wc : Wd (.code (bi b').1 (bi b').2.1 (bi b').2.2.1 (bi b').2.2.2)) (hy : NoMH (bi b').1) (hlen : Np (bi b').1 n) : ASite b pc 3 n b' none := by
  intro p l e R s m args below meth c T locs cells slots Z a0 Ls av rest W Pre Post X hx hZ hown hw hby hr hn hz hW hK hP
  subst hn
  rcases lk with w1 | ⟨host, w1⟩
  · obtain ⟨v, vm₁, B, -, q1, q2, q3, q4, st⟩ := callSS X hx (y := (bi b').1) hown (mvT hZ (w1 _ _ hw)) (mvT hZ (w2 _ _ hw)) (mvT hZ (wz _ _ hw)) (mvT hZ (wc _ _ hw)) hy hK (g := mkF m pc Ls (av.reverse ++ rest)) rfl hz (argsL := av) (rest := rest) hlen rfl (by show 2 * 0 + _ ≤ _; omega) (hb hby hd) hP
    exact ⟨v, vm₁, B, q1, q2, q3, q4, st⟩
  · obtain ⟨v, vm₁, B, -, q1, q2, q3, q4, st⟩ := callSNS X hx (y := (bi b').1) hown (own_mvMN hZ (w1 _ _ hw)) (mvT hZ (w2 _ _ hw)) (mvT hZ (wz _ _ hw)) (mvT hZ (wc _ _ hw)) hy hK (g := mkF m pc Ls (av.reverse ++ rest)) rfl hz (argsL := av) (rest := rest) hlen rfl (by show 2 * 0 + _ ≤ _; omega) (hb hby hd) hP
    exact ⟨v, vm₁, B, q1, q2, q3, q4, st⟩
theorem ASite.init (hd : decode (bi b).2.1 pc = .ok (.invokespecial idx, 3)) (hnm : (bi b').1.name = "<init>") (hret : (bi b').2.2.2 = none) (lk : Lk b idx (bi b').1) (w2 : Wd (.instanceMethod (bi b').1)) (wc : Wd (.code (bi b').1 (bi b').2.1 (bi b').2.2.1 (bi b').2.2.2)) (hy : NoMH (bi b').1) (hlen : Np (bi b').1 n) : ASite b pc 3 (n + 1) b' (some k) := by
  intro p l e R s m args below meth c T locs cells slots Z a0 Ls av rest W Pre Post X hx hZ hown hw hby hr hn hz hW hK hP
  obtain ⟨a, tl, rfl, E⟩ := hr k rfl
  have hn : tl.length = n := by simpa using hn
  subst hn
  have wc := wc _ _ hw
  rw [hret] at wc
  rw [List.reverse_cons, List.append_assoc]
  rcases lk with w1 | ⟨host, w1⟩
  · obtain ⟨v, vm₁, B, -, q1, q2, q3, q4, st⟩ := X.specialBackS hx (y := (bi b').1) hnm hown (mvT hZ (w1 _ _ hw)) (mvT hZ (w2 _ _ hw)) (mvT hZ wc) hy hK (g := mkF m pc Ls (tl.reverse ++ ([.ref a] ++ rest))) rfl hz (Steps.refl _) (a := a) (argsL := tl) (rest := rest) hlen rfl (by show 2 * 0 + _ ≤ _; omega) (hb hby hd) hP
    exact ⟨v, vm₁, B, q1, q2, q3, q4, st⟩
  · obtain ⟨v, vm₁, B, -, q1, q2, q3, q4, st⟩ := X.specialBackNestS hx (y := (bi b').1) hnm hown (own_mvMN hZ (w1 _ _ hw)) (mvT hZ (w2 _ _ hw)) (mvT hZ wc) hy hK (g := mkF m pc Ls (tl.reverse ++ ([.ref a] ++ rest))) rfl hz (Steps.refl _) (a := a) (argsL := tl) (rest := rest) hlen rfl (by show 2 * 0 + _ ≤ _; omega) (hb hby hd) hP
    exact ⟨v, vm₁, B, q1, q2, q3, q4, st⟩
theorem ASite.virt (hd : decode (bi b).2.1 pc = .ok (.invokevirtual idx, 3)) (w1 : Wd (.methodLink (bi b).1.cls idx y)) (w2 : Wd (.declares y)) (nf : ∀ (Z s : State) (a0 : Array Value), HW Z a0 → Z.Warmed39 s.vm → NotFace s y) (w3 : Wd (.selects (kd k).2.1 y (bi b').1)) (w4 : Wd (.instanceMethod (bi b').1)) (hy : NoMH y) (hlen : Np y n) : ASite b pc 3 (n + 1) b' (some k) := by
  intro p l e R s m args below meth c T locs cells slots Z a0 Ls av rest W Pre Post X hx hZ hown hw hby hr hn hz hW hK hP
  obtain ⟨a, tl, rfl, E⟩ := hr k rfl
  have hn : tl.length = n := by simpa using hn
  subst hn
  rw [List.reverse_cons, List.append_assoc]
  obtain ⟨cq, kq, qa, qb, qc⟩ := isOf hZ rfl E
  obtain ⟨v, vm₁, B, -, q1, q2, q3, q4, st⟩ := X.virtualBackS hx (y := y) (z := (bi b').1) hown (mvT hZ (w1 _ _ hw)) (mvT hZ (w2 _ _ hw)) (nf _ _ _ hw hZ) (mvT hZ (w3 _ _ hw)) (mvT hZ (w4 _ _ hw)) hy hK qa qc (g := mkF m pc Ls (tl.reverse ++ ([.ref a] ++ rest))) rfl hz (Steps.refl _) (argsL := tl) (rest := rest) hlen rfl (by show 2 * 0 + _ ≤ _; omega) (hb hby hd) hP
  exact ⟨v, vm₁, B, q1, q2, q3, q4, st⟩
theorem ASite.face (hd : decode (bi b).2.1 pc = .ok (.invokeinterface idx count, 5)) (w1 : Wd (.methodLink (bi b).1.cls idx y)) (w2 : Wd (.declares y)) (w3 : Wd (.interfaceMethod y.cls y.cls y.name y.desc)) (h3 : ((Jvm.Cond.interfaceMethod y.cls y.cls y.name y.desc).onTables && (Jvm.Cond.interfaceMethod y.cls y.cls y.name y.desc).keepsFace) = true) (w4 : Wd (.selects (kd k).2.1 y (bi b').1)) (w5 : Wd (.instanceMethod (bi b').1)) (w6 : Wd (.publicMethod (bi b').1)) (w7 : Wd (.unhidden (kd k).2.1 y.name y.desc)) (w8 : Wd (.castable (kd k).2.1 y.cls)) (hy : NoMH y) (hlen : Np y n) : ASite b pc 5 (n + 1) b' (some k) := by
  intro p l e R s m args below meth c T locs cells slots Z a0 Ls av rest W Pre Post X hx hZ hown hw hby hr hn hz hW hK hP
  obtain ⟨a, tl, rfl, E⟩ := hr k rfl
  have hn : tl.length = n := by simpa using hn
  subst hn
  rw [List.reverse_cons, List.append_assoc]
  obtain ⟨cq, kq, qa, qb, qc⟩ := isOf hZ rfl E
  obtain ⟨v, vm₁, B, -, q1, q2, q3, q4, st⟩ := X.interfaceBackS hx (xi := y) (y := (bi b').1) hown (mvT hZ (w1 _ _ hw)) (mvT hZ (w2 _ _ hw)) (mvT hZ (w3 _ _ hw) h3) (mvT hZ (w4 _ _ hw)) (mvT hZ (w5 _ _ hw)) (mvT hZ (w6 _ _ hw)) (mvT hZ (w7 _ _ hw)) (mvT hZ (w8 _ _ hw)) hy hK qa qb qc (g := mkF m pc Ls (tl.reverse ++ ([.ref a] ++ rest))) rfl hz (Steps.refl _) (argsL := tl) (rest := rest) hlen rfl (by show 2 * 0 + _ ≤ _; omega) (hb hby hd) hP
  exact ⟨v, vm₁, B, q1, q2, q3, q4, st⟩
theorem ASite.priv (hd : decode (bi b).2.1 pc = .ok (.invokevirtual idx, 3)) (w1 : Wd (.methodLink (bi b).1.cls idx (bi b').1)) (w2 : Wd (.instanceMethod (bi b').1)) (w3 : Wd (.selects (bi b').1.cls (bi b').1 (bi b').1)) (w4 : Wd (.privateMethod (bi b').1)) (wc : Wd (.code (bi b').1 (bi b').2.1 (bi b').2.2.1 (bi b').2.2.2)) (hy : NoMH (bi b').1) (hlen : Np (bi b').1 n) : ASite b pc 3 (n + 1) b' (some k) := by
  intro p l e R s m args below meth c T locs cells slots Z a0 Ls av rest W Pre Post X hx hZ hown hw hby hr hn hz hW hK hP
  obtain ⟨a, tl, rfl, E⟩ := hr k rfl
  have hn : tl.length = n := by simpa using hn
  subst hn
  rw [List.reverse_cons, List.append_assoc]
  obtain ⟨cq, q1', q2'⟩ := E.cell
  obtain ⟨v, vm₁, B, -, q1, q2, q3, q4, st⟩ := X.privateBackS hx (y := (bi b').1) hown (mvT hZ (w1 _ _ hw)) (mvT hZ (w2 _ _ hw)) (mvT hZ (w3 _ _ hw)) (Cond.privateMethod_at (mvP hZ (w4 _ _ hw) (args := #[]))) (mvT hZ (wc _ _ hw)) hy hK (g := mkF m pc Ls (tl.reverse ++ ([.ref a] ++ rest))) rfl hz (Steps.refl _) (a := a) q1' q2' (argsL := tl) (rest := rest) hlen rfl (by show 2 * 0 + _ ≤ _; omega) (hb hby hd) hP
  exact ⟨v, vm₁, B, q1, q2, q3, q4, st⟩
end Sites
def rok (H : AH) : Option Nat → List Value → Bool
  | none, _ => true
  | some k, .ref i :: _ => (match hk H i k with | some _ => true | none => false)
  | some _, _ => false
theorem rok_at {H : AH} {k : Nat} {av : List Value} (h : rok H (some k) av = true) : ∃ i tl x, av = .ref i :: tl ∧ hk H i k = some x := by
  cases av with
  | nil => cases h
  | cons v tl =>
    cases v with
    | ref i =>
      cases hx : hk H i k with
      | none => simp [rok, hx] at h
      | some x => exact ⟨i, tl, x, rfl, hx⟩
    | _ => cases h
def f_call (b pc len n b' maxL : Nat) (kr : Option Nat) : AStep := fun rec L S H r =>
  match Nat.ble n S.length && Nat.ble n maxL && rok H kr (S.take n).reverse with
  | true => (match rec b' 0 (ent (S.take n).reverse maxL) [] H rm0 with
    | some o => rec b (pc + len) L (o.1.toList ++ S.drop n) o.2.1 (up r o.2.2 (S.drop n).length maxL)
    | none => none)
  | false => none
theorem s_call {b pc len n b' maxL : Nat} {kr : Option Nat} (site : ASite b pc len n b' kr) (hkr : ∀ k, kr = some k → (kd k).1 ≤ 2) (hp : plainFor (bi b').1 = true) (hm : (bi b').2.2.1 = maxL) (wc : Wd (.code (bi b').1 (bi b').2.1 (bi b').2.2.1 (bi b').2.2.2)) (wz : Wd (.initialized (bi b').1.cls)) : Sound b pc (f_call b pc len n b' maxL kr) := by
  intro rec hrec L S H r o h
  subst hm
  unfold f_call at h
  split at h
  · rename_i q
    simp only [Bool.and_eq_true] at q
    obtain ⟨⟨q1, q2⟩, q3⟩ := q
    have q1 := Nat.le_of_ble_eq_true q1
    have q2 := Nat.le_of_ble_eq_true q2
    split at h
    · rename_i o1 ho1
      have C1 := hrec _ _ _ _ _ _ _ ho1
      refine Owes.go (hrec _ _ _ _ _ _ _ h) ⟨Nat.le_max_left .., Nat.le_add_right .., Nat.le_add_right .., Nat.le_max_left ..⟩ fun p l e R s vm₁ m args below meth c T locs Z a0 n0 k0 env Ls Sc G hH hL hS hz hR => ?_
      obtain ⟨g1, g2, g3, g4, g5, g6, g7, g8, g9, g10, g11, g12, g13⟩ := G
      have hA : RL (VR env) (S.take n).reverse (Sc.take n).reverse := (hS.take n).rev
      have hrest : RL (VR env) (S.drop n) (Sc.drop n) := hS.drop n
      have hlen : (S.take n).reverse.length = n := by rw [List.length_reverse, List.length_take]; omega
      have hM := C1.met hp (l := l) (n0 := n0) (h := T.heap) g12 hA (by rw [hlen]; exact q2)
      have hB := own_backQ (PV := fun vm => HR Z n0 vm T.heap env H) (p := p) (e := e) (R := R) (s := s) (args := args) (below := below) (vm0 := vm₁) (len := len) (W := (S.drop n).length) hM g5 (wc _ _ g12) (wz _ _ g12) (Nat.le_trans (Nat.le_max_right ..) hR.1) (Nat.le_trans (Nat.le_max_right ..) hR.2.2.2) (fun m meth c U locs cells slots Y => hH.reb (CHv.at Y g5 (own_EW g12) hH.2.1))
      have hrecv : ∀ k, kr = some k → ∃ a tl, (Sc.take n).reverse = .ref a :: tl ∧ Exa Z T.heap a (kd k).2.1 := fun k hk0 => by
        subst hk0
        have hle := hkr k rfl
        obtain ⟨i, tl, x, e1, hx0⟩ := rok_at q3
        rw [e1] at hA
        obtain ⟨w, tl', e2, hv, -⟩ := hA
        obtain ⟨a, rfl, -, -, hO⟩ := hH.at hx0 hv
        exact ⟨a, tl', e2, hO.1 hle⟩
      obtain ⟨v, vmx, ⟨U, locs', cells', slots'⟩, X', hS', hgr, ⟨Lc, ⟨hN, env2, hH', hv⟩, l1, y1, z1⟩, st⟩ := site p l e R (s.setVm vm₁) m args below meth c T locs r.cells r.slots Z a0 Ls (Sc.take n).reverse (Sc.drop n) _ _ _ g1 g2 g5 g6 g12 g7 hrecv (by rw [← hA.len]; exact hlen) (hz.trans g8.symm) (Nat.le_of_eq (VR.sum hrest)) hB (fun _ _ => ⟨rfl, rfl, hR.2.1, hR.2.2.1⟩)
      dsimp only [Pt.U, Pt.locs, Pt.cells, Pt.slots] at X' hS' hgr hH' hv l1 y1 z1 st
      subst l1 y1 z1
      obtain ⟨X2, hS2, hZ2, hown2⟩ := rebS g3 g4 X' hS' hgr g5 g6
      have est : Sc = (Sc.take n).reverse.reverse ++ Sc.drop n := by rw [List.reverse_reverse, List.take_append_drop]
      refine ⟨U.vm, U, locs ++ Lc, _, env2, Ls, v.toList ++ Sc.drop n, ⟨X2, g2, hS2, Nat.le_refl _, hZ2, hown2, g7, g8, g9, g10, g11, g12, g13.app hN⟩, hH', hL.mono fun _ _ q => q.mono _, ?_, hz, fun t k => ?_⟩
      · refine RL.app ?_ (hrest.mono fun _ _ q => q.mono _)
        cases ho : o1.1 with
        | none => rw [ho] at hv; cases hv; exact rfl
        | some a => rw [ho] at hv; obtain ⟨w, rfl, hv⟩ := hv; exact ⟨w, [], rfl, hv, rfl⟩
      · rw [est]; exact st.trans k
    · cases h
  · cases h
/-! the split over the query -/
theorem Owes.room {b pc : Nat} {L : List Slot} {S : List Value} {H H' : AH} {r r1 r2 : Room} {v : Option Value} (h : Owes b pc L S H r (v, H', r1)) (hr : RmLe r1 r2) : Owes b pc L S H r (v, H', r2) := by
  refine ⟨h.1.trans hr, fun p l e R s vm₁ m args below meth c T locs Z a0 n0 k0 env Ls Sc G hH hL hS hz hR => ?_⟩
  obtain ⟨t, h1, oc, h2, h3, v', L', h4, h5, w1, w2, w3, w4⟩ := h.2 p l e R s vm₁ m args below meth c T locs Z a0 n0 k0 env Ls Sc G hH hL hS hz (hr.trans hR)
  exact ⟨t, h1, oc, h2, h3, v', L', h4, h5, w1, w2, w3, w4.mono hr.2.1 hr.2.2.1⟩
def rmx (a b : Room) : Room := { frames := max a.frames b.frames, cells := max a.cells b.cells, slots := max a.slots b.slots, locals := max a.locals b.locals }
theorem rmx_l (a b : Room) : RmLe a (rmx a b) := ⟨Nat.le_max_left .., Nat.le_max_left .., Nat.le_max_left .., Nat.le_max_left ..⟩
theorem rmx_r (a b : Room) : RmLe b (rmx a b) := ⟨Nat.le_max_right .., Nat.le_max_right .., Nat.le_max_right .., Nat.le_max_right ..⟩
/-- two runs that end alike, as one -/
def both (a b : Option ARes) : Option ARes := match a, b with
  | some x, some y => (match decide (x.1 = y.1) && decide (x.2.1 = y.2.1) with | true => some (x.1, x.2.1, rmx x.2.2 y.2.2) | false => none)
  | _, _ => none
theorem both_at {a b : Option ARes} {o : ARes} (h : both a b = some o) : ∃ r1 r2, a = some (o.1, o.2.1, r1) ∧ b = some (o.1, o.2.1, r2) ∧ RmLe r1 o.2.2 ∧ RmLe r2 o.2.2 := by
  unfold both at h
  split at h
  · rename_i x y
    split at h
    · rename_i q
      rw [Bool.and_eq_true] at q
      have e1 := of_decide_eq_true q.1
      have e2 := of_decide_eq_true q.2
      cases h
      exact ⟨x.2.2, y.2.2, rfl, by rw [e1, e2], rmx_l _ _, rmx_r _ _⟩
    · cases h
  · cases h
def f_qs (b pc i : Nat) (f : AStep) : AStep := fun rec L S H r => match L[i]? with
  | some (.val (.retAddr 0)) => both (rec b pc (L.set i (.val (.int 0))) S H r) (both (rec b pc (L.set i (.val (.int 1))) S H r) (both (rec b pc (L.set i (.val (.int 2))) S H r) (both (rec b pc (L.set i (.val (.int 3))) S H r) (rec b pc (L.set i (.val (.retAddr 4))) S H r))))
  | _ => f rec L S H r
theorem s_qs {b pc i : Nat} {f : AStep} (hf : Sound b pc f) : Sound b pc (f_qs b pc i f) := by
  intro rec hrec L S H r o h
  unfold f_qs at h
  split at h
  · rename_i hi
    obtain ⟨r0, r0', a0, h0, l0, l0'⟩ := both_at h
    obtain ⟨r1, r1', a1, h1, l1, l1'⟩ := both_at h0
    obtain ⟨r2, r2', a2, h2, l2, l2'⟩ := both_at h1
    obtain ⟨r3, r3', a3, h3, l3, l3'⟩ := both_at h2
    dsimp only at *
    have c0 := (hrec _ _ _ _ _ _ _ a0).room l0
    have c1 := (hrec _ _ _ _ _ _ _ a1).room (l1.trans l0')
    have c2 := (hrec _ _ _ _ _ _ _ a2).room (l2.trans (l1'.trans l0'))
    have c3 := (hrec _ _ _ _ _ _ _ a3).room (l3.trans (l2'.trans (l1'.trans l0')))
    have c4 := (hrec _ _ _ _ _ _ _ h3).room (l3'.trans (l2'.trans (l1'.trans l0')))
    refine ⟨c0.1, fun p l e R s vm₁ m args below meth c T locs Z a0 n0 k0 env Ls Sc G hH hL hS hz hR => ?_⟩
    obtain ⟨w, hw1, w', rfl, hw2⟩ := hL.get hi
    obtain ⟨z, rfl, -⟩ := hw2
    have go : ∀ v, VR env v (.int z) → RL (SR env) (L.set i (.val v)) Ls.toList := fun v hv => hL.change hw1 ⟨_, rfl, hv⟩
    by_cases e0 : z = 0
    · exact c0.2 p l e R s vm₁ m args below meth c T locs Z a0 n0 k0 env Ls Sc G hH (go (.int 0) (by rw [e0]; rfl)) hS hz hR
    by_cases e1 : z = 1
    · exact c1.2 p l e R s vm₁ m args below meth c T locs Z a0 n0 k0 env Ls Sc G hH (go (.int 1) (by rw [e1]; rfl)) hS hz hR
    by_cases e2 : z = 2
    · exact c2.2 p l e R s vm₁ m args below meth c T locs Z a0 n0 k0 env Ls Sc G hH (go (.int 2) (by rw [e2]; rfl)) hS hz hR
    by_cases e3 : z = 3
    · exact c3.2 p l e R s vm₁ m args below meth c T locs Z a0 n0 k0 env Ls Sc G hH (go (.int 3) (by rw [e3]; rfl)) hS hz hR
    refine c4.2 p l e R s vm₁ m args below meth c T locs Z a0 n0 k0 env Ls Sc G hH (go (.retAddr 4) ⟨z, rfl, fun j hj => ?_⟩) hS hz hR
    match j, hj with
    | 0, _ => exact e0
    | 1, _ => exact e1
    | 2, _ => exact e2
    | 3, _ => exact e3
  · exact hf rec hrec _ _ _ _ _ h
/-! the machine -/
abbrev GStep := { x : (Nat × Nat) × AStep // Sound x.1.1 x.1.2 x.2 }
def mk (b : Nat) {pc : Nat} {f : AStep} (h : Sound b pc f) : GStep := ⟨((b, pc), f), h⟩
def f_none : AStep := fun _ _ _ _ _ => none
theorem s_none {b pc : Nat} : Sound b pc f_none := fun _ _ _ _ _ _ _ h => nomatch h
theorem krN : ∀ k, (none : Option Nat) = some k → (kd k).1 ≤ 2 := fun _ h => nomatch h
theorem krS {k : Nat} (h : (kd k).1 ≤ 2) : ∀ k', some k = some k' → (kd k').1 ≤ 2 := fun _ e => by cases e; exact h
theorem own_allS {C : String} {k : Nat} {ks : List Nat} (h : InsK k C) (t : ∀ kv ∈ ks, InsK kv C) : ∀ kv ∈ k :: ks, InsK kv C := fun kv hm => by
  rcases List.mem_cons.mp hm with rfl | hm
  · exact h
  · exact t kv hm
/-- the fields of a kind: each laid, its type, what a new object holds there -/
def KL (C : String) : List Fk → List Value → Prop
  | [], vs => vs = []
  | g :: r, vs => ∃ v vs', vs = v :: vs' ∧ (Wd (.lays C g.1 g.2.1 g.2.2) ∨ Wd (.laysFinal C g.1 g.2.1 g.2.2)) ∧ (∃ t, parseFieldDescriptor g.2.2 = some t ∧ ∀ env, VR env v (defaultValue t)) ∧ KL C r vs'
theorem KL.laid {C : String} {Z : State} {a0 : Array Value} (hw : HW Z a0) : ∀ {fs : List Fk} {vs : List Value}, KL C fs vs → ∀ g ∈ fs, Laid Z a0 C g.1 g.2.1 g.2.2 ∧ ∃ t, parseFieldDescriptor g.2.2 = some t
  | [], _, _, _, hm => nomatch hm
  | x :: r, _, ⟨v, vs', e, hl, ⟨t, ht, _⟩, k⟩, g, hm => by
    rcases List.mem_cons.mp hm with rfl | hm
    · exact ⟨hl.imp (fun q => q _ _ hw) (fun q => q _ _ hw), t, ht⟩
    · exact KL.laid hw k g hm
theorem KL.ok {k : Nat} {vs : List Value} (h : KL (kd k).2.1 (kd k).2.2.2 vs) (hn : ndn (kd k).2.2.2 = true) : KOK k := ⟨fun _ _ hw => h.laid hw, ndn_at hn⟩
theorem KL.rel {C : String} {Z : State} {a0 : Array Value} (hw : HW Z a0) {h : Heap} {a : Addr} {env : List Addr} (D : ∀ {O nm d : String} {ty : FieldType}, Laid Z a0 C O nm d → parseFieldDescriptor d = some ty → Fld Z h a O nm d (defaultValue ty)) : ∀ {fs : List Fk} {vs : List Value}, KL C fs vs → RL (FR Z h env a) vs fs
  | [], _, h => by cases h; exact rfl
  | g :: r, _, ⟨v, vs', e, hl, ⟨t, ht, hv⟩, k⟩ => by
    subst e
    exact ⟨g, r, rfl, ⟨_, hv env, D (hl.imp (fun q => q _ _ hw) (fun q => q _ _ hw)) ht⟩, KL.rel hw D k⟩
theorem KL.new {k : Nat} {vs : List Value} (h : KL (kd k).2.1 (kd k).2.2.2 vs) : KNew k vs := fun _ _ hw _ _ _ D => h.rel hw D
def AllS {α : Type} (P : α → Prop) : List α → Prop
  | [] => True
  | a :: r => P a ∧ AllS P r
theorem AllS.mem {α : Type} {P : α → Prop} : ∀ {l : List α}, AllS P l → ∀ x ∈ l, P x
  | [], _, _, hm => nomatch hm
  | a :: r, ⟨h, t⟩, x, hm => by
    rcases List.mem_cons.mp hm with rfl | hm
    · exact h
    · exact AllS.mem t x hm
theorem HR.start {Z : State} {vm : Vm} {env : List Addr} {H : AH} (hC : CHv Z own_EL vm Z.heap) (hS : AllS (fun (x : Fk × Value) => ∃ w, VR env x.2 w ∧ Sta Z Z.heap x.1.1 x.1.2.1 x.1.2.2 w) stl)
    (hO : RL (fun (o : AObj) (a : Addr) => a < Z.heap.size ∧ OR Z Z.heap env a o ∧ o.2.1 = false) H env) : HR Z Z.heap.size vm Z.heap env H := by
  refine ⟨Old.start Z, hC, hS.mem, hO.len.symm, fun i a o hi ho => ?_⟩
  obtain ⟨a', q1, q2, q3, q4⟩ := hO.get ho
  cases hi.symm.trans q1
  exact ⟨q2, q3, fun q => by rw [q4] at q; cases q⟩
theorem own_mirlt {Z : State} {C : String} {m : Addr} (M : Mir Z C m) : m < Z.heap.size := by
  obtain ⟨_, _, _, _, _, cell, h, -⟩ := M; exact (Array.getElem?_eq_some_iff.mp h).1
theorem W200 : Wd (Jvm.Cond.laysFinal cn7 cn7 "elements" "[Ljava/lang/Object;") := Wd.at 200 rfl
theorem W202 : Wd (Jvm.Cond.laysFinal cn7 cn7 "allowNulls" "Z") := Wd.at 202 rfl
theorem kl3 : KL cn7 [(cn7, "elements", "[Ljava/lang/Object;"), (cn7, "allowNulls", "Z")] [.null, .int (0 : Int32)] := ⟨_, _, rfl, .inr W200, ⟨(.array (.object cn1)), by decide, fun _ => rfl⟩, _, _, rfl, .inr W202, ⟨.boolean, by decide, fun _ => rfl⟩, rfl⟩
theorem kok3 : KOK 3 := KL.ok kl3 rfl
theorem knew3 : KNew 3 [.null, .int (0 : Int32)] := KL.new kl3
theorem W40 : Wd (Jvm.Cond.laysFinal cn5 cn5 "name" "Ljava/lang/String;") := Wd.at 40 rfl
theorem W42 : Wd (Jvm.Cond.laysFinal cn5 cn5 "position" "Lcom/example/hornwort/hornwort/Position;") := Wd.at 42 rfl
theorem kl9 : KL cn5 [(cn5, "name", "Ljava/lang/String;"), (cn5, "position", "Lcom/example/hornwort/hornwort/Position;")] [.null, .null] := ⟨_, _, rfl, .inr W40, ⟨(.object cn3), by decide, fun _ => rfl⟩, _, _, rfl, .inr W42, ⟨(.object "com/example/hornwort/hornwort/Position"), by decide, fun _ => rfl⟩, rfl⟩
theorem kok9 : KOK 9 := KL.ok kl9 rfl
theorem knew9 : KNew 9 [.null, .null] := KL.new kl9
theorem W27 : Wd (Jvm.Cond.laysFinal cn3 cn3 "value" "[B") := Wd.at 27 rfl
theorem W29 : Wd (Jvm.Cond.laysFinal cn3 cn3 "coder" "B") := Wd.at 29 rfl
theorem W322 : Wd (Jvm.Cond.lays cn3 cn3 "hash" "I") := Wd.at 322 rfl
theorem W324 : Wd (Jvm.Cond.lays cn3 cn3 "hashIsZero" "Z") := Wd.at 324 rfl
theorem kl10 : KL cn3 [(cn3, "value", "[B"), (cn3, "coder", "B"), (cn3, "hash", "I"), (cn3, "hashIsZero", "Z")] [.null, .int (0 : Int32), .int (0 : Int32), .int (0 : Int32)] := ⟨_, _, rfl, .inr W27, ⟨(.array .byte), by decide, fun _ => rfl⟩, _, _, rfl, .inr W29, ⟨.byte, by decide, fun _ => rfl⟩, _, _, rfl, .inl W322, ⟨.int, by decide, fun _ => rfl⟩, _, _, rfl, .inl W324, ⟨.boolean, by decide, fun _ => rfl⟩, rfl⟩
theorem kok10 : KOK 10 := KL.ok kl10 rfl
theorem knew10 : KNew 10 [.null, .int (0 : Int32), .int (0 : Int32), .int (0 : Int32)] := KL.new kl10
theorem W64 : Wd (Jvm.Cond.lays cn2 "java/util/AbstractList" "modCount" "I") := Wd.at 64 rfl
theorem W67 : Wd (Jvm.Cond.lays cn2 cn2 "elementData" "[Ljava/lang/Object;") := Wd.at 67 rfl
theorem W80 : Wd (Jvm.Cond.lays cn2 cn2 "size" "I") := Wd.at 80 rfl
theorem kl12 : KL cn2 [("java/util/AbstractList", "modCount", "I"), (cn2, "elementData", "[Ljava/lang/Object;"), (cn2, "size", "I")] [.int (0 : Int32), .null, .int (0 : Int32)] := ⟨_, _, rfl, .inl W64, ⟨.int, by decide, fun _ => rfl⟩, _, _, rfl, .inl W67, ⟨(.array (.object cn1)), by decide, fun _ => rfl⟩, _, _, rfl, .inl W80, ⟨.int, by decide, fun _ => rfl⟩, rfl⟩
theorem kok12 : KOK 12 := KL.ok kl12 rfl
theorem knew12 : KNew 12 [.int (0 : Int32), .null, .int (0 : Int32)] := KL.new kl12
theorem W210 : Wd (Jvm.Cond.laysFinal cn4 cn4 "atom" "Lcom/example/hornwort/hornwort/Atom;") := Wd.at 210 rfl
theorem W229 : Wd (Jvm.Cond.laysFinal cn4 cn4 "groupBy" "Ljava/util/List;") := Wd.at 229 rfl
theorem W231 : Wd (Jvm.Cond.laysFinal cn4 cn4 "function" "Lcom/example/hornwort/hornwort/Aggregate$Function;") := Wd.at 231 rfl
theorem W233 : Wd (Jvm.Cond.laysFinal cn4 cn4 "value" "Lcom/example/hornwort/hornwort/Variable;") := Wd.at 233 rfl
theorem W235 : Wd (Jvm.Cond.laysFinal cn4 cn4 "position" "Lcom/example/hornwort/hornwort/Position;") := Wd.at 235 rfl
theorem W404 : Wd (Jvm.Cond.laysFinal cn4 cn4 "groupPositions" "[I") := Wd.at 404 rfl
theorem W467 : Wd (Jvm.Cond.laysFinal cn4 cn4 "valuePosition" "I") := Wd.at 467 rfl
theorem kl14 : KL cn4 [(cn4, "atom", "Lcom/example/hornwort/hornwort/Atom;"), (cn4, "groupBy", "Ljava/util/List;"), (cn4, "function", "Lcom/example/hornwort/hornwort/Aggregate$Function;"), (cn4, "value", "Lcom/example/hornwort/hornwort/Variable;"), (cn4, "position", "Lcom/example/hornwort/hornwort/Position;"), (cn4, "groupPositions", "[I"), (cn4, "valuePosition", "I")] [.null, .null, .null, .null, .null, .null, .int (0 : Int32)] := ⟨_, _, rfl, .inr W210, ⟨(.object cn8), by decide, fun _ => rfl⟩, _, _, rfl, .inr W229, ⟨(.object "java/util/List"), by decide, fun _ => rfl⟩, _, _, rfl, .inr W231, ⟨(.object "com/example/hornwort/hornwort/Aggregate$Function"), by decide, fun _ => rfl⟩, _, _, rfl, .inr W233, ⟨(.object cn5), by decide, fun _ => rfl⟩, _, _, rfl, .inr W235, ⟨(.object "com/example/hornwort/hornwort/Position"), by decide, fun _ => rfl⟩, _, _, rfl, .inr W404, ⟨(.array .int), by decide, fun _ => rfl⟩, _, _, rfl, .inr W467, ⟨.int, by decide, fun _ => rfl⟩, rfl⟩
theorem kok14 : KOK 14 := KL.ok kl14 rfl
theorem knew14 : KNew 14 [.null, .null, .null, .null, .null, .null, .int (0 : Int32)] := KL.new kl14
theorem W114 : Wd (Jvm.Cond.laysFinal cn8 cn8 "name" "Ljava/lang/String;") := Wd.at 114 rfl
theorem W204 : Wd (Jvm.Cond.laysFinal cn8 cn8 "args" "Ljava/util/List;") := Wd.at 204 rfl
theorem kl15 : KL cn8 [(cn8, "name", "Ljava/lang/String;"), (cn8, "args", "Ljava/util/List;")] [.null, .null] := ⟨_, _, rfl, .inr W114, ⟨(.object cn3), by decide, fun _ => rfl⟩, _, _, rfl, .inr W204, ⟨(.object "java/util/List"), by decide, fun _ => rfl⟩, rfl⟩
theorem kok15 : KOK 15 := KL.ok kl15 rfl
theorem knew15 : KNew 15 [.null, .null] := KL.new kl15
theorem W251 : Wd (Jvm.Cond.laysFinal cn0 cn0 "loadFactor" "F") := Wd.at 251 rfl
theorem W339 : Wd (Jvm.Cond.lays cn0 cn0 "table" "[Ljava/util/HashMap$Node;") := Wd.at 339 rfl
theorem W346 : Wd (Jvm.Cond.lays cn0 cn0 "threshold" "I") := Wd.at 346 rfl
theorem W370 : Wd (Jvm.Cond.lays cn0 cn0 "modCount" "I") := Wd.at 370 rfl
theorem W372 : Wd (Jvm.Cond.lays cn0 cn0 "size" "I") := Wd.at 372 rfl
theorem kl16 : KL cn0 [(cn0, "loadFactor", "F"), (cn0, "table", "[Ljava/util/HashMap$Node;"), (cn0, "threshold", "I"), (cn0, "modCount", "I"), (cn0, "size", "I")] [.float 0, .null, .int (0 : Int32), .int (0 : Int32), .int (0 : Int32)] := ⟨_, _, rfl, .inr W251, ⟨.float, by decide, fun _ => rfl⟩, _, _, rfl, .inl W339, ⟨(.array (.object cn6)), by decide, fun _ => rfl⟩, _, _, rfl, .inl W346, ⟨.int, by decide, fun _ => rfl⟩, _, _, rfl, .inl W370, ⟨.int, by decide, fun _ => rfl⟩, _, _, rfl, .inl W372, ⟨.int, by decide, fun _ => rfl⟩, rfl⟩
theorem kok16 : KOK 16 := KL.ok kl16 rfl
theorem knew16 : KNew 16 [.float 0, .null, .int (0 : Int32), .int (0 : Int32), .int (0 : Int32)] := KL.new kl16
theorem W362 : Wd (Jvm.Cond.laysFinal cn6 cn6 "hash" "I") := Wd.at 362 rfl
theorem W364 : Wd (Jvm.Cond.laysFinal cn6 cn6 "key" "Ljava/lang/Object;") := Wd.at 364 rfl
theorem W366 : Wd (Jvm.Cond.lays cn6 cn6 "value" "Ljava/lang/Object;") := Wd.at 366 rfl
theorem W368 : Wd (Jvm.Cond.lays cn6 cn6 "next" "Ljava/util/HashMap$Node;") := Wd.at 368 rfl
theorem kl18 : KL cn6 [(cn6, "hash", "I"), (cn6, "key", "Ljava/lang/Object;"), (cn6, "value", "Ljava/lang/Object;"), (cn6, "next", "Ljava/util/HashMap$Node;")] [.int (0 : Int32), .null, .null, .null] := ⟨_, _, rfl, .inr W362, ⟨.int, by decide, fun _ => rfl⟩, _, _, rfl, .inr W364, ⟨(.object cn1), by decide, fun _ => rfl⟩, _, _, rfl, .inl W366, ⟨(.object cn1), by decide, fun _ => rfl⟩, _, _, rfl, .inl W368, ⟨(.object cn6), by decide, fun _ => rfl⟩, rfl⟩
theorem kok18 : KOK 18 := KL.ok kl18 rfl
theorem knew18 : KNew 18 [.int (0 : Int32), .null, .null, .null] := KL.new kl18
theorem W396 : Wd (Jvm.Cond.lays cn10 cn10 "map" "Ljava/util/HashMap;") := Wd.at 396 rfl
theorem kl19 : KL cn10 [(cn10, "map", "Ljava/util/HashMap;")] [.null] := ⟨_, _, rfl, .inl W396, ⟨(.object cn0), by decide, fun _ => rfl⟩, rfl⟩
theorem kok19 : KOK 19 := KL.ok kl19 rfl
theorem knew19 : KNew 19 [.null] := KL.new kl19
theorem W225 : Wd (Jvm.Cond.laysFinal cn12 cn12 "e0" "Ljava/lang/Object;") := Wd.at 225 rfl
theorem W227 : Wd (Jvm.Cond.laysFinal cn12 cn12 "e1" "Ljava/lang/Object;") := Wd.at 227 rfl
theorem kl21 : KL cn12 [(cn12, "e0", "Ljava/lang/Object;"), (cn12, "e1", "Ljava/lang/Object;")] [.null, .null] := ⟨_, _, rfl, .inr W225, ⟨(.object cn1), by decide, fun _ => rfl⟩, _, _, rfl, .inr W227, ⟨(.object cn1), by decide, fun _ => rfl⟩, rfl⟩
theorem kok21 : KOK 21 := KL.ok kl21 rfl
theorem knew21 : KNew 21 [.null, .null] := KL.new kl21
theorem W0 : Wd (Jvm.Cond.classLink cn17 (7 : Nat) cn5) := Wd.at 0 rfl
theorem W1 : Wd (Jvm.Cond.arrayOver (Jvm.ClassFile.FieldType.object cn5)) := Wd.at 1 rfl
theorem W2 : Wd (Jvm.Cond.instantiable cn5 (2 : Nat)) := Wd.at 2 rfl
theorem W3 : Wd (Jvm.Cond.initialized cn5) := Wd.at 3 rfl
theorem W7 : Wd (Jvm.Cond.code ({ cls := cn3, name := "valueOf", desc := "(C)Ljava/lang/String;" } : Jvm.MethodName) jdk_42_method_139_code (1 : Nat) (Option.some (Jvm.ClassFile.FieldType.object cn3))) := Wd.at 7 rfl
theorem W6 : Wd (Jvm.Cond.initialized cn3) := Wd.at 6 rfl
theorem W4 : Wd (Jvm.Cond.methodLink cn17 (9 : Nat) ({ cls := cn3, name := "valueOf", desc := "(C)Ljava/lang/String;" } : Jvm.MethodName)) := Wd.at 4 rfl
theorem pd__C_Ljava_lang_String_ : parseMethodDescriptor "(C)Ljava/lang/String;" = some ⟨[.char], some (.object "java/lang/String")⟩ := by decide +kernel
theorem W5 : Wd (Jvm.Cond.static ({ cls := cn3, name := "valueOf", desc := "(C)Ljava/lang/String;" } : Jvm.MethodName)) := Wd.at 5 rfl
theorem pn_java_lang_String : plainName "java/lang/String" = true := by first | (simp [plainName, overriddenIn]; done) | decide +kernel
theorem W32 : Wd (Jvm.Cond.code ({ cls := cn5, name := "<init>", desc := "(Ljava/lang/String;Lcom/example/hornwort/hornwort/Position;)V" } : Jvm.MethodName) prog_69_method_1_code (3 : Nat) (Option.none : Option Jvm.ClassFile.FieldType)) := Wd.at 32 rfl
theorem W30 : Wd (Jvm.Cond.methodLink cn17 (15 : Nat) ({ cls := cn5, name := "<init>", desc := "(Ljava/lang/String;Lcom/example/hornwort/hornwort/Position;)V" } : Jvm.MethodName)) := Wd.at 30 rfl
theorem pd__Ljava_lang_String_Lcom_example_hornwort_hornwort_Position_V : parseMethodDescriptor "(Ljava/lang/String;Lcom/example/hornwort/hornwort/Position;)V" = some ⟨[(.object "java/lang/String"), (.object "com/example/hornwort/hornwort/Position")], none⟩ := by decide +kernel
theorem W31 : Wd (Jvm.Cond.instanceMethod ({ cls := cn5, name := "<init>", desc := "(Ljava/lang/String;Lcom/example/hornwort/hornwort/Position;)V" } : Jvm.MethodName)) := Wd.at 31 rfl
theorem pn_com_example_hornwort_hornwort_Variable : plainName "com/example/hornwort/hornwort/Variable" = true := by first | (simp [plainName, overriddenIn]; done) | decide +kernel
theorem W44 : Wd (Jvm.Cond.classLink cn17 (18 : Nat) cn2) := Wd.at 44 rfl
theorem W45 : Wd (Jvm.Cond.instantiable cn2 (3 : Nat)) := Wd.at 45 rfl
theorem W46 : Wd (Jvm.Cond.initialized cn2) := Wd.at 46 rfl
theorem W49 : Wd (Jvm.Cond.code ({ cls := cn2, name := "<init>", desc := "()V" } : Jvm.MethodName) jdk_38_method_2_code (1 : Nat) (Option.none : Option Jvm.ClassFile.FieldType)) := Wd.at 49 rfl
theorem W47 : Wd (Jvm.Cond.methodLink cn17 (20 : Nat) ({ cls := cn2, name := "<init>", desc := "()V" } : Jvm.MethodName)) := Wd.at 47 rfl
theorem pd__V : parseMethodDescriptor "()V" = some ⟨[], none⟩ := by decide +kernel
theorem W48 : Wd (Jvm.Cond.instanceMethod ({ cls := cn2, name := "<init>", desc := "()V" } : Jvm.MethodName)) := Wd.at 48 rfl
theorem pn_java_util_ArrayList : plainName "java/util/ArrayList" = true := by first | (simp [plainName, overriddenIn]; done) | decide +kernel
theorem W76 : Wd (Jvm.Cond.code ({ cls := cn2, name := "add", desc := cn9 } : Jvm.MethodName) jdk_38_method_25_code (2 : Nat) (Option.some Jvm.ClassFile.FieldType.boolean)) := Wd.at 76 rfl
theorem W68 : Wd (Jvm.Cond.methodLink cn17 (21 : Nat) ({ cls := "java/util/List", name := "add", desc := cn9 } : Jvm.MethodName)) := Wd.at 68 rfl
theorem pd__Ljava_lang_Object_Z : parseMethodDescriptor "(Ljava/lang/Object;)Z" = some ⟨[(.object "java/lang/Object")], some .boolean⟩ := by decide +kernel
theorem W69 : Wd (Jvm.Cond.declares ({ cls := "java/util/List", name := "add", desc := cn9 } : Jvm.MethodName)) := Wd.at 69 rfl
theorem W70 : Wd (Jvm.Cond.interfaceMethod "java/util/List" "java/util/List" "add" cn9) := Wd.at 70 rfl
theorem W71 : Wd (Jvm.Cond.selects cn2 ({ cls := "java/util/List", name := "add", desc := cn9 } : Jvm.MethodName) ({ cls := cn2, name := "add", desc := cn9 } : Jvm.MethodName)) := Wd.at 71 rfl
theorem W72 : Wd (Jvm.Cond.instanceMethod ({ cls := cn2, name := "add", desc := cn9 } : Jvm.MethodName)) := Wd.at 72 rfl
theorem W73 : Wd (Jvm.Cond.publicMethod ({ cls := cn2, name := "add", desc := cn9 } : Jvm.MethodName)) := Wd.at 73 rfl
theorem W74 : Wd (Jvm.Cond.unhidden cn2 "add" cn9) := Wd.at 74 rfl
theorem W75 : Wd (Jvm.Cond.castable cn2 "java/util/List") := Wd.at 75 rfl
theorem W103 : Wd (Jvm.Cond.classLink cn17 (27 : Nat) cn4) := Wd.at 103 rfl
theorem W104 : Wd (Jvm.Cond.instantiable cn4 (7 : Nat)) := Wd.at 104 rfl
theorem W105 : Wd (Jvm.Cond.initialized cn4) := Wd.at 105 rfl
theorem W106 : Wd (Jvm.Cond.classLink cn17 (29 : Nat) cn8) := Wd.at 106 rfl
theorem W107 : Wd (Jvm.Cond.instantiable cn8 (2 : Nat)) := Wd.at 107 rfl
theorem W108 : Wd (Jvm.Cond.initialized cn8) := Wd.at 108 rfl
theorem W111 : Wd (Jvm.Cond.code ({ cls := cn8, name := "<init>", desc := "(Ljava/lang/String;Ljava/util/List;)V" } : Jvm.MethodName) prog_7_method_1_code (3 : Nat) (Option.none : Option Jvm.ClassFile.FieldType)) := Wd.at 111 rfl
theorem W109 : Wd (Jvm.Cond.methodLink cn17 (31 : Nat) ({ cls := cn8, name := "<init>", desc := "(Ljava/lang/String;Ljava/util/List;)V" } : Jvm.MethodName)) := Wd.at 109 rfl
theorem pd__Ljava_lang_String_Ljava_util_List_V : parseMethodDescriptor "(Ljava/lang/String;Ljava/util/List;)V" = some ⟨[(.object "java/lang/String"), (.object "java/util/List")], none⟩ := by decide +kernel
theorem W110 : Wd (Jvm.Cond.instanceMethod ({ cls := cn8, name := "<init>", desc := "(Ljava/lang/String;Ljava/util/List;)V" } : Jvm.MethodName)) := Wd.at 110 rfl
theorem pn_com_example_hornwort_hornwort_Atom : plainName "com/example/hornwort/hornwort/Atom" = true := by first | (simp [plainName, overriddenIn]; done) | decide +kernel
theorem W207 : Wd (Jvm.Cond.code ({ cls := cn4, name := "<init>", desc := cn21 } : Jvm.MethodName) prog_48_method_1_code (9 : Nat) (Option.none : Option Jvm.ClassFile.FieldType)) := Wd.at 207 rfl
theorem W205 : Wd (Jvm.Cond.methodLink cn17 (34 : Nat) ({ cls := cn4, name := "<init>", desc := cn21 } : Jvm.MethodName)) := Wd.at 205 rfl
theorem pd__Lcom_example_hornwort_hornwort_Atom_Ljava_util_List_Lcom_example_hornwort_hornwort_Aggregate_Function_Lcom_example_hornwort_hornwort_Variable_Lcom_example_hornwort_hornwort_Position_V : parseMethodDescriptor "(Lcom/example/hornwort/hornwort/Atom;Ljava/util/List;Lcom/example/hornwort/hornwort/Aggregate$Function;Lcom/example/hornwort/hornwort/Variable;Lcom/example/hornwort/hornwort/Position;)V" = some ⟨[(.object "com/example/hornwort/hornwort/Atom"), (.object "java/util/List"), (.object "com/example/hornwort/hornwort/Aggregate$Function"), (.object "com/example/hornwort/hornwort/Variable"), (.object "com/example/hornwort/hornwort/Position")], none⟩ := by decide +kernel
theorem W206 : Wd (Jvm.Cond.instanceMethod ({ cls := cn4, name := "<init>", desc := cn21 } : Jvm.MethodName)) := Wd.at 206 rfl
theorem pn_com_example_hornwort_hornwort_Selection : plainName "com/example/hornwort/hornwort/Selection" = true := by first | (simp [plainName, overriddenIn]; done) | decide +kernel
theorem W472 : Wd (Jvm.Cond.code ({ cls := cn4, name := "groups", desc := "(I)Z" } : Jvm.MethodName) prog_48_method_6_code (6 : Nat) (Option.some Jvm.ClassFile.FieldType.boolean)) := Wd.at 472 rfl
theorem W468 : Wd (Jvm.Cond.methodLink cn17 (37 : Nat) ({ cls := cn4, name := "groups", desc := "(I)Z" } : Jvm.MethodName)) := Wd.at 468 rfl
theorem pd__I_Z : parseMethodDescriptor "(I)Z" = some ⟨[.int], some .boolean⟩ := by decide +kernel
theorem W471 : Wd (Jvm.Cond.selects cn4 ({ cls := cn4, name := "groups", desc := "(I)Z" } : Jvm.MethodName) ({ cls := cn4, name := "groups", desc := "(I)Z" } : Jvm.MethodName)) := Wd.at 471 rfl
theorem W469 : Wd (Jvm.Cond.declares ({ cls := cn4, name := "groups", desc := "(I)Z" } : Jvm.MethodName)) := Wd.at 469 rfl
theorem W470 : Wd (Jvm.Cond.instanceMethod ({ cls := cn4, name := "groups", desc := "(I)Z" } : Jvm.MethodName)) := Wd.at 470 rfl
theorem d1_0 : decode jdk_42_method_139_code 0 = .ok (.getstatic 38, 3) := by decide +kernel
theorem W8 : Wd (Jvm.Cond.fieldLink cn3 (38 : Nat) cn3 "COMPACT_STRINGS" "Z") := Wd.at 8 rfl
theorem d1_3 : decode jdk_42_method_139_code 3 = .ok (.ifCond .eq 23, 3) := by decide +kernel
theorem d1_6 : decode jdk_42_method_139_code 6 = .ok (.iload_n 0, 1) := by decide +kernel
theorem d1_7 : decode jdk_42_method_139_code 7 = .ok (.invokestatic 1015, 3) := by decide +kernel
theorem W12 : Wd (Jvm.Cond.code ({ cls := "java/lang/StringLatin1", name := "canEncode", desc := "(C)Z" } : Jvm.MethodName) jdk_43_method_3_code (1 : Nat) (Option.some Jvm.ClassFile.FieldType.boolean)) := Wd.at 12 rfl
theorem W11 : Wd (Jvm.Cond.initialized "java/lang/StringLatin1") := Wd.at 11 rfl
theorem W9 : Wd (Jvm.Cond.methodLink cn3 (1015 : Nat) ({ cls := "java/lang/StringLatin1", name := "canEncode", desc := "(C)Z" } : Jvm.MethodName)) := Wd.at 9 rfl
theorem pd__C_Z : parseMethodDescriptor "(C)Z" = some ⟨[.char], some .boolean⟩ := by decide +kernel
theorem W10 : Wd (Jvm.Cond.static ({ cls := "java/lang/StringLatin1", name := "canEncode", desc := "(C)Z" } : Jvm.MethodName)) := Wd.at 10 rfl
theorem pn_java_lang_StringLatin1 : plainName "java/lang/StringLatin1" = true := by first | (simp [plainName, overriddenIn]; done) | decide +kernel
theorem d1_10 : decode jdk_42_method_139_code 10 = .ok (.ifCond .eq 16, 3) := by decide +kernel
theorem d1_13 : decode jdk_42_method_139_code 13 = .ok (.new 10, 3) := by decide +kernel
theorem W13 : Wd (Jvm.Cond.classLink cn3 (10 : Nat) cn3) := Wd.at 13 rfl
theorem W14 : Wd (Jvm.Cond.instantiable cn3 (4 : Nat)) := Wd.at 14 rfl
theorem d1_16 : decode jdk_42_method_139_code 16 = .ok (.dup, 1) := by decide +kernel
theorem d1_17 : decode jdk_42_method_139_code 17 = .ok (.iload_n 0, 1) := by decide +kernel
theorem d1_18 : decode jdk_42_method_139_code 18 = .ok (.invokestatic 1018, 3) := by decide +kernel
theorem W17 : Wd (Jvm.Cond.code ({ cls := "java/lang/StringLatin1", name := "toBytes", desc := "(C)[B" } : Jvm.MethodName) jdk_43_method_46_code (1 : Nat) (Option.some (Jvm.ClassFile.FieldType.array Jvm.ClassFile.FieldType.byte))) := Wd.at 17 rfl
theorem W15 : Wd (Jvm.Cond.methodLink cn3 (1018 : Nat) ({ cls := "java/lang/StringLatin1", name := "toBytes", desc := "(C)[B" } : Jvm.MethodName)) := Wd.at 15 rfl
theorem pd__C_B : parseMethodDescriptor "(C)[B" = some ⟨[.char], some (.array .byte)⟩ := by decide +kernel
theorem W16 : Wd (Jvm.Cond.static ({ cls := "java/lang/StringLatin1", name := "toBytes", desc := "(C)[B" } : Jvm.MethodName)) := Wd.at 16 rfl
theorem d1_21 : decode jdk_42_method_139_code 21 = .ok (.iconst 0, 1) := by decide +kernel
theorem d1_22 : decode jdk_42_method_139_code 22 = .ok (.invokespecial 209, 3) := by decide +kernel
theorem W22 : Wd (Jvm.Cond.code ({ cls := cn3, name := "<init>", desc := "([BB)V" } : Jvm.MethodName) jdk_42_method_151_code (3 : Nat) (Option.none : Option Jvm.ClassFile.FieldType)) := Wd.at 22 rfl
theorem W19 : Wd (Jvm.Cond.methodLink cn3 (209 : Nat) ({ cls := cn3, name := "<init>", desc := "([BB)V" } : Jvm.MethodName)) := Wd.at 19 rfl
theorem pd__BB_V : parseMethodDescriptor "([BB)V" = some ⟨[(.array .byte), .byte], none⟩ := by decide +kernel
theorem W20 : Wd (Jvm.Cond.instanceMethod ({ cls := cn3, name := "<init>", desc := "([BB)V" } : Jvm.MethodName)) := Wd.at 20 rfl
theorem d1_25 : decode jdk_42_method_139_code 25 = .ok (.areturn, 1) := by decide +kernel
theorem d2_0 : decode jdk_43_method_3_code 0 = .ok (.iload_n 0, 1) := by decide +kernel
theorem d2_1 : decode jdk_43_method_3_code 1 = .ok (.sipush 255, 3) := by decide +kernel
theorem d2_4 : decode jdk_43_method_3_code 4 = .ok (.if_icmp .gt 7, 3) := by decide +kernel
theorem d2_7 : decode jdk_43_method_3_code 7 = .ok (.iconst 1, 1) := by decide +kernel
theorem d2_8 : decode jdk_43_method_3_code 8 = .ok (.goto 4, 3) := by decide +kernel
theorem d2_12 : decode jdk_43_method_3_code 12 = .ok (.ireturn, 1) := by decide +kernel
theorem d3_0 : decode jdk_43_method_46_code 0 = .ok (.iconst 1, 1) := by decide +kernel
theorem d3_1 : decode jdk_43_method_46_code 1 = .ok (.newarray .byte, 2) := by decide +kernel
theorem W18 : Wd (Jvm.Cond.arrayClass Jvm.ClassFile.FieldType.byte) := Wd.at 18 rfl
theorem d3_3 : decode jdk_43_method_46_code 3 = .ok (.dup, 1) := by decide +kernel
theorem d3_4 : decode jdk_43_method_46_code 4 = .ok (.iconst 0, 1) := by decide +kernel
theorem d3_5 : decode jdk_43_method_46_code 5 = .ok (.iload_n 0, 1) := by decide +kernel
theorem d3_6 : decode jdk_43_method_46_code 6 = .ok (.i2b, 1) := by decide +kernel
theorem d3_7 : decode jdk_43_method_46_code 7 = .ok (.bastore, 1) := by decide +kernel
theorem d3_8 : decode jdk_43_method_46_code 8 = .ok (.areturn, 1) := by decide +kernel
theorem d4_0 : decode jdk_42_method_151_code 0 = .ok (.aload_n 0, 1) := by decide +kernel
theorem d4_1 : decode jdk_42_method_151_code 1 = .ok (.invokespecial 1, 3) := by decide +kernel
theorem W23 : Wd (Jvm.Cond.methodLink cn3 (1 : Nat) ({ cls := cn1, name := "<init>", desc := "()V" } : Jvm.MethodName)) := Wd.at 23 rfl
theorem W24 : Wd (Jvm.Cond.instanceMethod ({ cls := cn1, name := "<init>", desc := "()V" } : Jvm.MethodName)) := Wd.at 24 rfl
theorem W25 : Wd (Jvm.Cond.code ({ cls := cn1, name := "<init>", desc := "()V" } : Jvm.MethodName) object_method_1_code (1 : Nat) (Option.none : Option Jvm.ClassFile.FieldType)) := Wd.at 25 rfl
theorem d4_4 : decode jdk_42_method_151_code 4 = .ok (.aload_n 0, 1) := by decide +kernel
theorem d4_5 : decode jdk_42_method_151_code 5 = .ok (.aload_n 1, 1) := by decide +kernel
theorem d4_6 : decode jdk_42_method_151_code 6 = .ok (.putfield 9, 3) := by decide +kernel
theorem W26 : Wd (Jvm.Cond.fieldLink cn3 (9 : Nat) cn3 "value" "[B") := Wd.at 26 rfl
theorem d4_9 : decode jdk_42_method_151_code 9 = .ok (.aload_n 0, 1) := by decide +kernel
theorem d4_10 : decode jdk_42_method_151_code 10 = .ok (.iload_n 2, 1) := by decide +kernel
theorem d4_11 : decode jdk_42_method_151_code 11 = .ok (.putfield 15, 3) := by decide +kernel
theorem W28 : Wd (Jvm.Cond.fieldLink cn3 (15 : Nat) cn3 "coder" "B") := Wd.at 28 rfl
theorem d4_14 : decode jdk_42_method_151_code 14 = .ok (.return_, 1) := by decide +kernel
theorem d6_0 : decode prog_69_method_1_code 0 = .ok (.aload_n 0, 1) := by decide +kernel
theorem d6_1 : decode prog_69_method_1_code 1 = .ok (.invokespecial 1, 3) := by decide +kernel
theorem W37 : Wd (Jvm.Cond.code ({ cls := "com/example/hornwort/hornwort/Term", name := "<init>", desc := "()V" } : Jvm.MethodName) prog_63_method_1_code (1 : Nat) (Option.none : Option Jvm.ClassFile.FieldType)) := Wd.at 37 rfl
theorem W36 : Wd (Jvm.Cond.initialized "com/example/hornwort/hornwort/Term") := Wd.at 36 rfl
theorem W33 : Wd (Jvm.Cond.methodLink cn5 (1 : Nat) ({ cls := "com/example/hornwort/hornwort/Term", name := "<init>", desc := "()V" } : Jvm.MethodName)) := Wd.at 33 rfl
theorem W34 : Wd (Jvm.Cond.instanceMethod ({ cls := "com/example/hornwort/hornwort/Term", name := "<init>", desc := "()V" } : Jvm.MethodName)) := Wd.at 34 rfl
theorem pn_com_example_hornwort_hornwort_Term : plainName "com/example/hornwort/hornwort/Term" = true := by first | (simp [plainName, overriddenIn]; done) | decide +kernel
theorem d6_4 : decode prog_69_method_1_code 4 = .ok (.aload_n 0, 1) := by decide +kernel
theorem d6_5 : decode prog_69_method_1_code 5 = .ok (.aload_n 1, 1) := by decide +kernel
theorem d6_6 : decode prog_69_method_1_code 6 = .ok (.putfield 7, 3) := by decide +kernel
theorem W39 : Wd (Jvm.Cond.fieldLink cn5 (7 : Nat) cn5 "name" "Ljava/lang/String;") := Wd.at 39 rfl
theorem d6_9 : decode prog_69_method_1_code 9 = .ok (.aload_n 0, 1) := by decide +kernel
theorem d6_10 : decode prog_69_method_1_code 10 = .ok (.aload_n 2, 1) := by decide +kernel
theorem d6_11 : decode prog_69_method_1_code 11 = .ok (.putfield 13, 3) := by decide +kernel
theorem W41 : Wd (Jvm.Cond.fieldLink cn5 (13 : Nat) cn5 "position" "Lcom/example/hornwort/hornwort/Position;") := Wd.at 41 rfl
theorem d6_14 : decode prog_69_method_1_code 14 = .ok (.return_, 1) := by decide +kernel
theorem d7_0 : decode prog_63_method_1_code 0 = .ok (.aload_n 0, 1) := by decide +kernel
theorem d7_1 : decode prog_63_method_1_code 1 = .ok (.invokespecial 1, 3) := by decide +kernel
theorem W38 : Wd (Jvm.Cond.methodLink "com/example/hornwort/hornwort/Term" (1 : Nat) ({ cls := cn1, name := "<init>", desc := "()V" } : Jvm.MethodName)) := Wd.at 38 rfl
theorem d7_4 : decode prog_63_method_1_code 4 = .ok (.return_, 1) := by decide +kernel
theorem d8_0 : decode jdk_38_method_2_code 0 = .ok (.aload_n 0, 1) := by decide +kernel
theorem d8_1 : decode jdk_38_method_2_code 1 = .ok (.invokespecial 1, 3) := by decide +kernel
theorem W55 : Wd (Jvm.Cond.code ({ cls := "java/util/AbstractList", name := "<init>", desc := "()V" } : Jvm.MethodName) jdk_39_method_1_code (1 : Nat) (Option.none : Option Jvm.ClassFile.FieldType)) := Wd.at 55 rfl
theorem W54 : Wd (Jvm.Cond.initialized "java/util/AbstractList") := Wd.at 54 rfl
theorem W50 : Wd (Jvm.Cond.methodLink cn2 (1 : Nat) ({ cls := "java/util/AbstractList", name := "<init>", desc := "()V" } : Jvm.MethodName)) := Wd.at 50 rfl
theorem W51 : Wd (Jvm.Cond.instanceMethod ({ cls := "java/util/AbstractList", name := "<init>", desc := "()V" } : Jvm.MethodName)) := Wd.at 51 rfl
theorem pn_java_util_AbstractList : plainName "java/util/AbstractList" = true := by first | (simp [plainName, overriddenIn]; done) | decide +kernel
theorem d8_4 : decode jdk_38_method_2_code 4 = .ok (.aload_n 0, 1) := by decide +kernel
theorem d8_5 : decode jdk_38_method_2_code 5 = .ok (.getstatic 39, 3) := by decide +kernel
theorem W65 : Wd (Jvm.Cond.fieldLink cn2 (39 : Nat) cn2 "DEFAULTCAPACITY_EMPTY_ELEMENTDATA" "[Ljava/lang/Object;") := Wd.at 65 rfl
theorem d8_8 : decode jdk_38_method_2_code 8 = .ok (.putfield 9, 3) := by decide +kernel
theorem W66 : Wd (Jvm.Cond.fieldLink cn2 (9 : Nat) cn2 "elementData" "[Ljava/lang/Object;") := Wd.at 66 rfl
theorem d8_11 : decode jdk_38_method_2_code 11 = .ok (.return_, 1) := by decide +kernel
theorem d9_0 : decode jdk_39_method_1_code 0 = .ok (.aload_n 0, 1) := by decide +kernel
theorem d9_1 : decode jdk_39_method_1_code 1 = .ok (.invokespecial 1, 3) := by decide +kernel
theorem W61 : Wd (Jvm.Cond.code ({ cls := "java/util/AbstractCollection", name := "<init>", desc := "()V" } : Jvm.MethodName) jdk_22_method_1_code (1 : Nat) (Option.none : Option Jvm.ClassFile.FieldType)) := Wd.at 61 rfl
theorem W60 : Wd (Jvm.Cond.initialized "java/util/AbstractCollection") := Wd.at 60 rfl
theorem W56 : Wd (Jvm.Cond.methodLink "java/util/AbstractList" (1 : Nat) ({ cls := "java/util/AbstractCollection", name := "<init>", desc := "()V" } : Jvm.MethodName)) := Wd.at 56 rfl
theorem W57 : Wd (Jvm.Cond.instanceMethod ({ cls := "java/util/AbstractCollection", name := "<init>", desc := "()V" } : Jvm.MethodName)) := Wd.at 57 rfl
theorem pn_java_util_AbstractCollection : plainName "java/util/AbstractCollection" = true := by first | (simp [plainName, overriddenIn]; done) | decide +kernel
theorem d9_4 : decode jdk_39_method_1_code 4 = .ok (.aload_n 0, 1) := by decide +kernel
theorem d9_5 : decode jdk_39_method_1_code 5 = .ok (.iconst 0, 1) := by decide +kernel
theorem d9_6 : decode jdk_39_method_1_code 6 = .ok (.putfield 7, 3) := by decide +kernel
theorem W63 : Wd (Jvm.Cond.fieldLink "java/util/AbstractList" (7 : Nat) "java/util/AbstractList" "modCount" "I") := Wd.at 63 rfl
theorem d9_9 : decode jdk_39_method_1_code 9 = .ok (.return_, 1) := by decide +kernel
theorem d10_0 : decode jdk_22_method_1_code 0 = .ok (.aload_n 0, 1) := by decide +kernel
theorem d10_1 : decode jdk_22_method_1_code 1 = .ok (.invokespecial 1, 3) := by decide +kernel
theorem W62 : Wd (Jvm.Cond.methodLink "java/util/AbstractCollection" (1 : Nat) ({ cls := cn1, name := "<init>", desc := "()V" } : Jvm.MethodName)) := Wd.at 62 rfl
theorem d10_4 : decode jdk_22_method_1_code 4 = .ok (.return_, 1) := by decide +kernel
theorem d11_0 : decode jdk_38_method_25_code 0 = .ok (.aload_n 0, 1) := by decide +kernel
theorem d11_1 : decode jdk_38_method_25_code 1 = .ok (.dup, 1) := by decide +kernel
theorem d11_2 : decode jdk_38_method_25_code 2 = .ok (.getfield 63, 3) := by decide +kernel
theorem W77 : Wd (Jvm.Cond.fieldLink cn2 (63 : Nat) cn2 "modCount" "I") := Wd.at 77 rfl
theorem W78 : Wd (Jvm.Cond.sameField cn2 "java/util/AbstractList" "modCount" "I") := Wd.at 78 rfl
theorem d11_5 : decode jdk_38_method_25_code 5 = .ok (.iconst 1, 1) := by decide +kernel
theorem d11_6 : decode jdk_38_method_25_code 6 = .ok (.iadd, 1) := by decide +kernel
theorem d11_7 : decode jdk_38_method_25_code 7 = .ok (.putfield 63, 3) := by decide +kernel
theorem d11_10 : decode jdk_38_method_25_code 10 = .ok (.aload_n 0, 1) := by decide +kernel
theorem d11_11 : decode jdk_38_method_25_code 11 = .ok (.aload_n 1, 1) := by decide +kernel
theorem d11_12 : decode jdk_38_method_25_code 12 = .ok (.aload_n 0, 1) := by decide +kernel
theorem d11_13 : decode jdk_38_method_25_code 13 = .ok (.getfield 9, 3) := by decide +kernel
theorem d11_16 : decode jdk_38_method_25_code 16 = .ok (.aload_n 0, 1) := by decide +kernel
theorem d11_17 : decode jdk_38_method_25_code 17 = .ok (.getfield 48, 3) := by decide +kernel
theorem W79 : Wd (Jvm.Cond.fieldLink cn2 (48 : Nat) cn2 "size" "I") := Wd.at 79 rfl
theorem d11_20 : decode jdk_38_method_25_code 20 = .ok (.invokevirtual 131, 3) := by decide +kernel
theorem W85 : Wd (Jvm.Cond.code ({ cls := cn2, name := "add", desc := "(Ljava/lang/Object;[Ljava/lang/Object;I)V" } : Jvm.MethodName) jdk_38_method_24_code (4 : Nat) (Option.none : Option Jvm.ClassFile.FieldType)) := Wd.at 85 rfl
theorem W81 : Wd (Jvm.Cond.methodLink cn2 (131 : Nat) ({ cls := cn2, name := "add", desc := "(Ljava/lang/Object;[Ljava/lang/Object;I)V" } : Jvm.MethodName)) := Wd.at 81 rfl
theorem pd__Ljava_lang_Object_Ljava_lang_Object_I_V : parseMethodDescriptor "(Ljava/lang/Object;[Ljava/lang/Object;I)V" = some ⟨[(.object "java/lang/Object"), (.array (.object "java/lang/Object")), .int], none⟩ := by decide +kernel
theorem W84 : Wd (Jvm.Cond.selects cn2 ({ cls := cn2, name := "add", desc := "(Ljava/lang/Object;[Ljava/lang/Object;I)V" } : Jvm.MethodName) ({ cls := cn2, name := "add", desc := "(Ljava/lang/Object;[Ljava/lang/Object;I)V" } : Jvm.MethodName)) := Wd.at 84 rfl
theorem W82 : Wd (Jvm.Cond.instanceMethod ({ cls := cn2, name := "add", desc := "(Ljava/lang/Object;[Ljava/lang/Object;I)V" } : Jvm.MethodName)) := Wd.at 82 rfl
theorem W83 : Wd (Jvm.Cond.privateMethod ({ cls := cn2, name := "add", desc := "(Ljava/lang/Object;[Ljava/lang/Object;I)V" } : Jvm.MethodName)) := Wd.at 83 rfl
theorem d11_23 : decode jdk_38_method_25_code 23 = .ok (.iconst 1, 1) := by decide +kernel
theorem d11_24 : decode jdk_38_method_25_code 24 = .ok (.ireturn, 1) := by decide +kernel
theorem d12_0 : decode jdk_38_method_24_code 0 = .ok (.iload_n 3, 1) := by decide +kernel
theorem d12_1 : decode jdk_38_method_24_code 1 = .ok (.aload_n 2, 1) := by decide +kernel
theorem d12_2 : decode jdk_38_method_24_code 2 = .ok (.arraylength, 1) := by decide +kernel
theorem d12_3 : decode jdk_38_method_24_code 3 = .ok (.if_icmp .ne 8, 3) := by decide +kernel
theorem d12_6 : decode jdk_38_method_24_code 6 = .ok (.aload_n 0, 1) := by decide +kernel
theorem d12_7 : decode jdk_38_method_24_code 7 = .ok (.invokevirtual 129, 3) := by decide +kernel
theorem W90 : Wd (Jvm.Cond.code ({ cls := cn2, name := "grow", desc := "()[Ljava/lang/Object;" } : Jvm.MethodName) jdk_38_method_7_code (1 : Nat) (Option.some (Jvm.ClassFile.FieldType.array (Jvm.ClassFile.FieldType.object cn1)))) := Wd.at 90 rfl
theorem W86 : Wd (Jvm.Cond.methodLink cn2 (129 : Nat) ({ cls := cn2, name := "grow", desc := "()[Ljava/lang/Object;" } : Jvm.MethodName)) := Wd.at 86 rfl
theorem pd___Ljava_lang_Object_ : parseMethodDescriptor "()[Ljava/lang/Object;" = some ⟨[], some (.array (.object "java/lang/Object"))⟩ := by decide +kernel
theorem W89 : Wd (Jvm.Cond.selects cn2 ({ cls := cn2, name := "grow", desc := "()[Ljava/lang/Object;" } : Jvm.MethodName) ({ cls := cn2, name := "grow", desc := "()[Ljava/lang/Object;" } : Jvm.MethodName)) := Wd.at 89 rfl
theorem W87 : Wd (Jvm.Cond.instanceMethod ({ cls := cn2, name := "grow", desc := "()[Ljava/lang/Object;" } : Jvm.MethodName)) := Wd.at 87 rfl
theorem W88 : Wd (Jvm.Cond.privateMethod ({ cls := cn2, name := "grow", desc := "()[Ljava/lang/Object;" } : Jvm.MethodName)) := Wd.at 88 rfl
theorem d12_10 : decode jdk_38_method_24_code 10 = .ok (.astore_n 2, 1) := by decide +kernel
theorem d12_11 : decode jdk_38_method_24_code 11 = .ok (.aload_n 2, 1) := by decide +kernel
theorem d12_12 : decode jdk_38_method_24_code 12 = .ok (.iload_n 3, 1) := by decide +kernel
theorem d12_13 : decode jdk_38_method_24_code 13 = .ok (.aload_n 1, 1) := by decide +kernel
theorem d12_14 : decode jdk_38_method_24_code 14 = .ok (.aastore, 1) := by decide +kernel
theorem W102 : Wd (Jvm.Cond.castable cn5 cn1) := Wd.at 102 rfl
theorem d12_15 : decode jdk_38_method_24_code 15 = .ok (.aload_n 0, 1) := by decide +kernel
theorem d12_16 : decode jdk_38_method_24_code 16 = .ok (.iload_n 3, 1) := by decide +kernel
theorem d12_17 : decode jdk_38_method_24_code 17 = .ok (.iconst 1, 1) := by decide +kernel
theorem d12_18 : decode jdk_38_method_24_code 18 = .ok (.iadd, 1) := by decide +kernel
theorem d12_19 : decode jdk_38_method_24_code 19 = .ok (.putfield 48, 3) := by decide +kernel
theorem d12_22 : decode jdk_38_method_24_code 22 = .ok (.return_, 1) := by decide +kernel
theorem d13_0 : decode jdk_38_method_7_code 0 = .ok (.aload_n 0, 1) := by decide +kernel
theorem d13_1 : decode jdk_38_method_7_code 1 = .ok (.aload_n 0, 1) := by decide +kernel
theorem d13_2 : decode jdk_38_method_7_code 2 = .ok (.getfield 48, 3) := by decide +kernel
theorem d13_5 : decode jdk_38_method_7_code 5 = .ok (.iconst 1, 1) := by decide +kernel
theorem d13_6 : decode jdk_38_method_7_code 6 = .ok (.iadd, 1) := by decide +kernel
theorem d13_7 : decode jdk_38_method_7_code 7 = .ok (.invokevirtual 69, 3) := by decide +kernel
theorem W95 : Wd (Jvm.Cond.code ({ cls := cn2, name := "grow", desc := "(I)[Ljava/lang/Object;" } : Jvm.MethodName) jdk_38_method_6_code (4 : Nat) (Option.some (Jvm.ClassFile.FieldType.array (Jvm.ClassFile.FieldType.object cn1)))) := Wd.at 95 rfl
theorem W91 : Wd (Jvm.Cond.methodLink cn2 (69 : Nat) ({ cls := cn2, name := "grow", desc := "(I)[Ljava/lang/Object;" } : Jvm.MethodName)) := Wd.at 91 rfl
theorem pd__I_Ljava_lang_Object_ : parseMethodDescriptor "(I)[Ljava/lang/Object;" = some ⟨[.int], some (.array (.object "java/lang/Object"))⟩ := by decide +kernel
theorem W94 : Wd (Jvm.Cond.selects cn2 ({ cls := cn2, name := "grow", desc := "(I)[Ljava/lang/Object;" } : Jvm.MethodName) ({ cls := cn2, name := "grow", desc := "(I)[Ljava/lang/Object;" } : Jvm.MethodName)) := Wd.at 94 rfl
theorem W92 : Wd (Jvm.Cond.instanceMethod ({ cls := cn2, name := "grow", desc := "(I)[Ljava/lang/Object;" } : Jvm.MethodName)) := Wd.at 92 rfl
theorem W93 : Wd (Jvm.Cond.privateMethod ({ cls := cn2, name := "grow", desc := "(I)[Ljava/lang/Object;" } : Jvm.MethodName)) := Wd.at 93 rfl
theorem d13_10 : decode jdk_38_method_7_code 10 = .ok (.areturn, 1) := by decide +kernel
theorem d14_0 : decode jdk_38_method_6_code 0 = .ok (.aload_n 0, 1) := by decide +kernel
theorem d14_1 : decode jdk_38_method_6_code 1 = .ok (.getfield 9, 3) := by decide +kernel
theorem d14_4 : decode jdk_38_method_6_code 4 = .ok (.arraylength, 1) := by decide +kernel
theorem d14_5 : decode jdk_38_method_6_code 5 = .ok (.istore_n 2, 1) := by decide +kernel
theorem d14_6 : decode jdk_38_method_6_code 6 = .ok (.iload_n 2, 1) := by decide +kernel
theorem d14_7 : decode jdk_38_method_6_code 7 = .ok (.ifCond .gt 13, 3) := by decide +kernel
theorem d14_10 : decode jdk_38_method_6_code 10 = .ok (.aload_n 0, 1) := by decide +kernel
theorem d14_11 : decode jdk_38_method_6_code 11 = .ok (.getfield 9, 3) := by decide +kernel
theorem d14_14 : decode jdk_38_method_6_code 14 = .ok (.getstatic 39, 3) := by decide +kernel
theorem d14_17 : decode jdk_38_method_6_code 17 = .ok (.if_acmp .eq 28, 3) := by decide +kernel
theorem d14_45 : decode jdk_38_method_6_code 45 = .ok (.aload_n 0, 1) := by decide +kernel
theorem d14_46 : decode jdk_38_method_6_code 46 = .ok (.bipush 10, 2) := by decide +kernel
theorem d14_48 : decode jdk_38_method_6_code 48 = .ok (.iload_n 1, 1) := by decide +kernel
theorem d14_49 : decode jdk_38_method_6_code 49 = .ok (.invokestatic 79, 3) := by decide +kernel
theorem W99 : Wd (Jvm.Cond.code ({ cls := "java/lang/Math", name := "max", desc := "(II)I" } : Jvm.MethodName) jdk_29_method_65_code (2 : Nat) (Option.some Jvm.ClassFile.FieldType.int)) := Wd.at 99 rfl
theorem W98 : Wd (Jvm.Cond.initialized "java/lang/Math") := Wd.at 98 rfl
theorem W96 : Wd (Jvm.Cond.methodLink cn2 (79 : Nat) ({ cls := "java/lang/Math", name := "max", desc := "(II)I" } : Jvm.MethodName)) := Wd.at 96 rfl
theorem pd__II_I : parseMethodDescriptor "(II)I" = some ⟨[.int, .int], some .int⟩ := by decide +kernel
theorem W97 : Wd (Jvm.Cond.static ({ cls := "java/lang/Math", name := "max", desc := "(II)I" } : Jvm.MethodName)) := Wd.at 97 rfl
theorem d14_52 : decode jdk_38_method_6_code 52 = .ok (.anewarray 7, 3) := by decide +kernel
theorem W100 : Wd (Jvm.Cond.classLink cn2 (7 : Nat) cn1) := Wd.at 100 rfl
theorem W101 : Wd (Jvm.Cond.arrayOver (Jvm.ClassFile.FieldType.object cn1)) := Wd.at 101 rfl
theorem d14_55 : decode jdk_38_method_6_code 55 = .ok (.dup_x1, 1) := by decide +kernel
theorem d14_56 : decode jdk_38_method_6_code 56 = .ok (.putfield 9, 3) := by decide +kernel
theorem d14_59 : decode jdk_38_method_6_code 59 = .ok (.areturn, 1) := by decide +kernel
theorem d15_0 : decode jdk_29_method_65_code 0 = .ok (.iload_n 0, 1) := by decide +kernel
theorem d15_1 : decode jdk_29_method_65_code 1 = .ok (.iload_n 1, 1) := by decide +kernel
theorem d15_2 : decode jdk_29_method_65_code 2 = .ok (.if_icmp .lt 7, 3) := by decide +kernel
theorem d15_5 : decode jdk_29_method_65_code 5 = .ok (.iload_n 0, 1) := by decide +kernel
theorem d15_6 : decode jdk_29_method_65_code 6 = .ok (.goto 4, 3) := by decide +kernel
theorem d15_10 : decode jdk_29_method_65_code 10 = .ok (.ireturn, 1) := by decide +kernel
theorem d16_0 : decode prog_7_method_1_code 0 = .ok (.aload_n 0, 1) := by decide +kernel
theorem d16_1 : decode prog_7_method_1_code 1 = .ok (.invokespecial 1, 3) := by decide +kernel
theorem W112 : Wd (Jvm.Cond.methodLink cn8 (1 : Nat) ({ cls := cn1, name := "<init>", desc := "()V" } : Jvm.MethodName)) := Wd.at 112 rfl
theorem d16_4 : decode prog_7_method_1_code 4 = .ok (.aload_n 0, 1) := by decide +kernel
theorem d16_5 : decode prog_7_method_1_code 5 = .ok (.aload_n 1, 1) := by decide +kernel
theorem d16_6 : decode prog_7_method_1_code 6 = .ok (.putfield 7, 3) := by decide +kernel
theorem W113 : Wd (Jvm.Cond.fieldLink cn8 (7 : Nat) cn8 "name" "Ljava/lang/String;") := Wd.at 113 rfl
theorem d16_9 : decode prog_7_method_1_code 9 = .ok (.aload_n 0, 1) := by decide +kernel
theorem d16_10 : decode prog_7_method_1_code 10 = .ok (.aload_n 2, 1) := by decide +kernel
theorem d16_11 : decode prog_7_method_1_code 11 = .ok (.invokestatic 13, 3) := by decide +kernel
theorem W118 : Wd (Jvm.Cond.code ({ cls := "java/util/List", name := "copyOf", desc := "(Ljava/util/Collection;)Ljava/util/List;" } : Jvm.MethodName) jdk_40_method_48_code (1 : Nat) (Option.some (Jvm.ClassFile.FieldType.object "java/util/List"))) := Wd.at 118 rfl
theorem W117 : Wd (Jvm.Cond.initialized "java/util/List") := Wd.at 117 rfl
theorem W115 : Wd (Jvm.Cond.methodLink cn8 (13 : Nat) ({ cls := "java/util/List", name := "copyOf", desc := "(Ljava/util/Collection;)Ljava/util/List;" } : Jvm.MethodName)) := Wd.at 115 rfl
theorem pd__Ljava_util_Collection_Ljava_util_List_ : parseMethodDescriptor "(Ljava/util/Collection;)Ljava/util/List;" = some ⟨[(.object "java/util/Collection")], some (.object "java/util/List")⟩ := by decide +kernel
theorem W116 : Wd (Jvm.Cond.static ({ cls := "java/util/List", name := "copyOf", desc := "(Ljava/util/Collection;)Ljava/util/List;" } : Jvm.MethodName)) := Wd.at 116 rfl
theorem pn_java_util_List : plainName "java/util/List" = true := by first | (simp [plainName, overriddenIn]; done) | decide +kernel
theorem d16_14 : decode prog_7_method_1_code 14 = .ok (.putfield 19, 3) := by decide +kernel
theorem W203 : Wd (Jvm.Cond.fieldLink cn8 (19 : Nat) cn8 "args" "Ljava/util/List;") := Wd.at 203 rfl
theorem d16_17 : decode prog_7_method_1_code 17 = .ok (.return_, 1) := by decide +kernel
theorem d17_0 : decode jdk_40_method_48_code 0 = .ok (.aload_n 0, 1) := by decide +kernel
theorem d17_1 : decode jdk_40_method_48_code 1 = .ok (.invokestatic 112, 3) := by decide +kernel
theorem W122 : Wd (Jvm.Cond.code ({ cls := cn13, name := "listCopy", desc := "(Ljava/util/Collection;)Ljava/util/List;" } : Jvm.MethodName) jdk_56_method_3_code (2 : Nat) (Option.some (Jvm.ClassFile.FieldType.object "java/util/List"))) := Wd.at 122 rfl
theorem W121 : Wd (Jvm.Cond.initialized cn13) := Wd.at 121 rfl
theorem W119 : Wd (Jvm.Cond.methodLink "java/util/List" (112 : Nat) ({ cls := cn13, name := "listCopy", desc := "(Ljava/util/Collection;)Ljava/util/List;" } : Jvm.MethodName)) := Wd.at 119 rfl
theorem W120 : Wd (Jvm.Cond.static ({ cls := cn13, name := "listCopy", desc := "(Ljava/util/Collection;)Ljava/util/List;" } : Jvm.MethodName)) := Wd.at 120 rfl
theorem pn_java_util_ImmutableCollections : plainName "java/util/ImmutableCollections" = true := by first | (simp [plainName, overriddenIn]; done) | decide +kernel
theorem d17_4 : decode jdk_40_method_48_code 4 = .ok (.areturn, 1) := by decide +kernel
theorem d18_0 : decode jdk_56_method_3_code 0 = .ok (.aload_n 0, 1) := by decide +kernel
theorem d18_1 : decode jdk_56_method_3_code 1 = .ok (.instanceof 10, 3) := by decide +kernel
theorem W123 : Wd (Jvm.Cond.classLink cn13 (10 : Nat) cn12) := Wd.at 123 rfl
theorem W124 : Wd (Jvm.Cond.superclass cn2 "java/util/AbstractList") := Wd.at 124 rfl
theorem W213 : Wd (Jvm.Cond.instantiable cn12 (2 : Nat)) := Wd.at 213 rfl
theorem W125 : Wd (Jvm.Cond.superclass "java/util/AbstractList" "java/util/AbstractCollection") := Wd.at 125 rfl
theorem W126 : Wd (Jvm.Cond.superclass "java/util/AbstractCollection" cn1) := Wd.at 126 rfl
theorem W127 : Wd (Jvm.Cond.noSuperclass cn1) := Wd.at 127 rfl
theorem d18_4 : decode jdk_56_method_3_code 4 = .ok (.ifCond .ne 22, 3) := by decide +kernel
theorem d18_7 : decode jdk_56_method_3_code 7 = .ok (.aload_n 0, 1) := by decide +kernel
theorem d18_8 : decode jdk_56_method_3_code 8 = .ok (.instanceof 12, 3) := by decide +kernel
theorem W128 : Wd (Jvm.Cond.classLink cn13 (12 : Nat) cn7) := Wd.at 128 rfl
theorem W179 : Wd (Jvm.Cond.instantiable cn7 (2 : Nat)) := Wd.at 179 rfl
theorem d18_11 : decode jdk_56_method_3_code 11 = .ok (.ifCond .eq 20, 3) := by decide +kernel
theorem d18_31 : decode jdk_56_method_3_code 31 = .ok (.aload_n 0, 1) := by decide +kernel
theorem d18_32 : decode jdk_56_method_3_code 32 = .ok (.invokeinterface 20 1, 5) := by decide +kernel
theorem W137 : Wd (Jvm.Cond.code ({ cls := cn2, name := "isEmpty", desc := "()Z" } : Jvm.MethodName) jdk_38_method_9_code (1 : Nat) (Option.some Jvm.ClassFile.FieldType.boolean)) := Wd.at 137 rfl
theorem W129 : Wd (Jvm.Cond.methodLink cn13 (20 : Nat) ({ cls := "java/util/Collection", name := "isEmpty", desc := "()Z" } : Jvm.MethodName)) := Wd.at 129 rfl
theorem pd__Z : parseMethodDescriptor "()Z" = some ⟨[], some .boolean⟩ := by decide +kernel
theorem W130 : Wd (Jvm.Cond.declares ({ cls := "java/util/Collection", name := "isEmpty", desc := "()Z" } : Jvm.MethodName)) := Wd.at 130 rfl
theorem W131 : Wd (Jvm.Cond.interfaceMethod "java/util/Collection" "java/util/Collection" "isEmpty" "()Z") := Wd.at 131 rfl
theorem W132 : Wd (Jvm.Cond.selects cn2 ({ cls := "java/util/Collection", name := "isEmpty", desc := "()Z" } : Jvm.MethodName) ({ cls := cn2, name := "isEmpty", desc := "()Z" } : Jvm.MethodName)) := Wd.at 132 rfl
theorem W133 : Wd (Jvm.Cond.instanceMethod ({ cls := cn2, name := "isEmpty", desc := "()Z" } : Jvm.MethodName)) := Wd.at 133 rfl
theorem W134 : Wd (Jvm.Cond.publicMethod ({ cls := cn2, name := "isEmpty", desc := "()Z" } : Jvm.MethodName)) := Wd.at 134 rfl
theorem W135 : Wd (Jvm.Cond.unhidden cn2 "isEmpty" "()Z") := Wd.at 135 rfl
theorem W136 : Wd (Jvm.Cond.castable cn2 "java/util/Collection") := Wd.at 136 rfl
theorem d18_37 : decode jdk_56_method_3_code 37 = .ok (.ifCond .eq 7, 3) := by decide +kernel
theorem d18_40 : decode jdk_56_method_3_code 40 = .ok (.invokestatic 26, 3) := by decide +kernel
theorem W479 : Wd (Jvm.Cond.code ({ cls := "java/util/List", name := "of", desc := "()Ljava/util/List;" } : Jvm.MethodName) jdk_40_method_36_code (0 : Nat) (Option.some (Jvm.ClassFile.FieldType.object "java/util/List"))) := Wd.at 479 rfl
theorem W477 : Wd (Jvm.Cond.methodLink cn13 (26 : Nat) ({ cls := "java/util/List", name := "of", desc := "()Ljava/util/List;" } : Jvm.MethodName)) := Wd.at 477 rfl
theorem pd__Ljava_util_List_ : parseMethodDescriptor "()Ljava/util/List;" = some ⟨[], some (.object "java/util/List")⟩ := by decide +kernel
theorem W478 : Wd (Jvm.Cond.static ({ cls := "java/util/List", name := "of", desc := "()Ljava/util/List;" } : Jvm.MethodName)) := Wd.at 478 rfl
theorem d18_43 : decode jdk_56_method_3_code 43 = .ok (.areturn, 1) := by decide +kernel
theorem d18_44 : decode jdk_56_method_3_code 44 = .ok (.aload_n 0, 1) := by decide +kernel
theorem d18_45 : decode jdk_56_method_3_code 45 = .ok (.invokeinterface 30 1, 5) := by decide +kernel
theorem W145 : Wd (Jvm.Cond.code ({ cls := cn2, name := "toArray", desc := "()[Ljava/lang/Object;" } : Jvm.MethodName) jdk_38_method_16_code (1 : Nat) (Option.some (Jvm.ClassFile.FieldType.array (Jvm.ClassFile.FieldType.object cn1)))) := Wd.at 145 rfl
theorem W138 : Wd (Jvm.Cond.methodLink cn13 (30 : Nat) ({ cls := "java/util/Collection", name := "toArray", desc := "()[Ljava/lang/Object;" } : Jvm.MethodName)) := Wd.at 138 rfl
theorem W139 : Wd (Jvm.Cond.declares ({ cls := "java/util/Collection", name := "toArray", desc := "()[Ljava/lang/Object;" } : Jvm.MethodName)) := Wd.at 139 rfl
theorem W140 : Wd (Jvm.Cond.interfaceMethod "java/util/Collection" "java/util/Collection" "toArray" "()[Ljava/lang/Object;") := Wd.at 140 rfl
theorem W141 : Wd (Jvm.Cond.selects cn2 ({ cls := "java/util/Collection", name := "toArray", desc := "()[Ljava/lang/Object;" } : Jvm.MethodName) ({ cls := cn2, name := "toArray", desc := "()[Ljava/lang/Object;" } : Jvm.MethodName)) := Wd.at 141 rfl
theorem W142 : Wd (Jvm.Cond.instanceMethod ({ cls := cn2, name := "toArray", desc := "()[Ljava/lang/Object;" } : Jvm.MethodName)) := Wd.at 142 rfl
theorem W143 : Wd (Jvm.Cond.publicMethod ({ cls := cn2, name := "toArray", desc := "()[Ljava/lang/Object;" } : Jvm.MethodName)) := Wd.at 143 rfl
theorem W144 : Wd (Jvm.Cond.unhidden cn2 "toArray" "()[Ljava/lang/Object;") := Wd.at 144 rfl
theorem d18_50 : decode jdk_56_method_3_code 50 = .ok (.invokestatic 34, 3) := by decide +kernel
theorem W170 : Wd (Jvm.Cond.code ({ cls := "java/util/List", name := "of", desc := "([Ljava/lang/Object;)Ljava/util/List;" } : Jvm.MethodName) jdk_40_method_47_code (2 : Nat) (Option.some (Jvm.ClassFile.FieldType.object "java/util/List"))) := Wd.at 170 rfl
theorem W168 : Wd (Jvm.Cond.methodLink cn13 (34 : Nat) ({ cls := "java/util/List", name := "of", desc := "([Ljava/lang/Object;)Ljava/util/List;" } : Jvm.MethodName)) := Wd.at 168 rfl
theorem pd__Ljava_lang_Object_Ljava_util_List_ : parseMethodDescriptor "([Ljava/lang/Object;)Ljava/util/List;" = some ⟨[(.array (.object "java/lang/Object"))], some (.object "java/util/List")⟩ := by decide +kernel
theorem W169 : Wd (Jvm.Cond.static ({ cls := "java/util/List", name := "of", desc := "([Ljava/lang/Object;)Ljava/util/List;" } : Jvm.MethodName)) := Wd.at 169 rfl
theorem d18_53 : decode jdk_56_method_3_code 53 = .ok (.areturn, 1) := by decide +kernel
theorem d19_0 : decode jdk_38_method_9_code 0 = .ok (.aload_n 0, 1) := by decide +kernel
theorem d19_1 : decode jdk_38_method_9_code 1 = .ok (.getfield 48, 3) := by decide +kernel
theorem d19_4 : decode jdk_38_method_9_code 4 = .ok (.ifCond .ne 7, 3) := by decide +kernel
theorem d19_7 : decode jdk_38_method_9_code 7 = .ok (.iconst 1, 1) := by decide +kernel
theorem d19_8 : decode jdk_38_method_9_code 8 = .ok (.goto 4, 3) := by decide +kernel
theorem d19_11 : decode jdk_38_method_9_code 11 = .ok (.iconst 0, 1) := by decide +kernel
theorem d19_12 : decode jdk_38_method_9_code 12 = .ok (.ireturn, 1) := by decide +kernel
theorem d20_0 : decode jdk_38_method_16_code 0 = .ok (.aload_n 0, 1) := by decide +kernel
theorem d20_1 : decode jdk_38_method_16_code 1 = .ok (.getfield 9, 3) := by decide +kernel
theorem d20_4 : decode jdk_38_method_16_code 4 = .ok (.aload_n 0, 1) := by decide +kernel
theorem d20_5 : decode jdk_38_method_16_code 5 = .ok (.getfield 48, 3) := by decide +kernel
theorem d20_8 : decode jdk_38_method_16_code 8 = .ok (.invokestatic 66, 3) := by decide +kernel
theorem W149 : Wd (Jvm.Cond.code ({ cls := "java/util/Arrays", name := "copyOf", desc := "([Ljava/lang/Object;I)[Ljava/lang/Object;" } : Jvm.MethodName) jdk_65_method_119_code (2 : Nat) (Option.some (Jvm.ClassFile.FieldType.array (Jvm.ClassFile.FieldType.object cn1)))) := Wd.at 149 rfl
theorem W148 : Wd (Jvm.Cond.initialized "java/util/Arrays") := Wd.at 148 rfl
theorem W146 : Wd (Jvm.Cond.methodLink cn2 (66 : Nat) ({ cls := "java/util/Arrays", name := "copyOf", desc := "([Ljava/lang/Object;I)[Ljava/lang/Object;" } : Jvm.MethodName)) := Wd.at 146 rfl
theorem pd__Ljava_lang_Object_I_Ljava_lang_Object_ : parseMethodDescriptor "([Ljava/lang/Object;I)[Ljava/lang/Object;" = some ⟨[(.array (.object "java/lang/Object")), .int], some (.array (.object "java/lang/Object"))⟩ := by decide +kernel
theorem W147 : Wd (Jvm.Cond.static ({ cls := "java/util/Arrays", name := "copyOf", desc := "([Ljava/lang/Object;I)[Ljava/lang/Object;" } : Jvm.MethodName)) := Wd.at 147 rfl
theorem pn_java_util_Arrays : plainName "java/util/Arrays" = true := by first | (simp [plainName, overriddenIn]; done) | decide +kernel
theorem d20_11 : decode jdk_38_method_16_code 11 = .ok (.areturn, 1) := by decide +kernel
theorem d21_0 : decode jdk_65_method_119_code 0 = .ok (.aload_n 0, 1) := by decide +kernel
theorem d21_1 : decode jdk_65_method_119_code 1 = .ok (.iload_n 1, 1) := by decide +kernel
theorem d21_2 : decode jdk_65_method_119_code 2 = .ok (.aload_n 0, 1) := by decide +kernel
theorem d21_3 : decode jdk_65_method_119_code 3 = .ok (.invokevirtual 86, 3) := by decide +kernel
theorem W150 : Wd (Jvm.Cond.methodLink "java/util/Arrays" (86 : Nat) ({ cls := cn1, name := "getClass", desc := "()Ljava/lang/Class;" } : Jvm.MethodName)) := Wd.at 150 rfl
theorem W151 : Wd (Jvm.Cond.declares ({ cls := cn1, name := "getClass", desc := "()Ljava/lang/Class;" } : Jvm.MethodName)) := Wd.at 151 rfl
theorem W153 : Wd (Jvm.Cond.selects "[Ljava/lang/Object;" ({ cls := cn1, name := "getClass", desc := "()Ljava/lang/Class;" } : Jvm.MethodName) ({ cls := cn1, name := "getClass", desc := "()Ljava/lang/Class;" } : Jvm.MethodName)) := Wd.at 153 rfl
theorem W152 : Wd (Jvm.Cond.instanceMethod ({ cls := cn1, name := "getClass", desc := "()Ljava/lang/Class;" } : Jvm.MethodName)) := Wd.at 152 rfl
theorem W154 : Wd (Jvm.Cond.native ({ cls := cn1, name := "getClass", desc := "()Ljava/lang/Class;" } : Jvm.MethodName)) := Wd.at 154 rfl
theorem d21_6 : decode jdk_65_method_119_code 6 = .ok (.invokestatic 300, 3) := by decide +kernel
theorem W158 : Wd (Jvm.Cond.code ({ cls := "java/util/Arrays", name := "copyOf", desc := "([Ljava/lang/Object;ILjava/lang/Class;)[Ljava/lang/Object;" } : Jvm.MethodName) jdk_65_method_120_code (4 : Nat) (Option.some (Jvm.ClassFile.FieldType.array (Jvm.ClassFile.FieldType.object cn1)))) := Wd.at 158 rfl
theorem W156 : Wd (Jvm.Cond.methodLink "java/util/Arrays" (300 : Nat) ({ cls := "java/util/Arrays", name := "copyOf", desc := "([Ljava/lang/Object;ILjava/lang/Class;)[Ljava/lang/Object;" } : Jvm.MethodName)) := Wd.at 156 rfl
theorem pd__Ljava_lang_Object_ILjava_lang_Class__Ljava_lang_Object_ : parseMethodDescriptor "([Ljava/lang/Object;ILjava/lang/Class;)[Ljava/lang/Object;" = some ⟨[(.array (.object "java/lang/Object")), .int, (.object "java/lang/Class")], some (.array (.object "java/lang/Object"))⟩ := by decide +kernel
theorem W157 : Wd (Jvm.Cond.static ({ cls := "java/util/Arrays", name := "copyOf", desc := "([Ljava/lang/Object;ILjava/lang/Class;)[Ljava/lang/Object;" } : Jvm.MethodName)) := Wd.at 157 rfl
theorem d21_9 : decode jdk_65_method_119_code 9 = .ok (.areturn, 1) := by decide +kernel
theorem d22_0 : decode jdk_65_method_120_code 0 = .ok (.aload_n 2, 1) := by decide +kernel
theorem d22_1 : decode jdk_65_method_120_code 1 = .ok (.ldc 110, 2) := by decide +kernel
theorem W159 : Wd (Jvm.Cond.classLink "java/util/Arrays" (110 : Nat) "[Ljava/lang/Object;") := Wd.at 159 rfl
theorem d22_3 : decode jdk_65_method_120_code 3 = .ok (.if_acmp .ne 10, 3) := by decide +kernel
theorem d22_6 : decode jdk_65_method_120_code 6 = .ok (.iload_n 1, 1) := by decide +kernel
theorem d22_7 : decode jdk_65_method_120_code 7 = .ok (.anewarray 2, 3) := by decide +kernel
theorem W160 : Wd (Jvm.Cond.classLink "java/util/Arrays" (2 : Nat) cn1) := Wd.at 160 rfl
theorem d22_10 : decode jdk_65_method_120_code 10 = .ok (.goto 14, 3) := by decide +kernel
theorem d22_24 : decode jdk_65_method_120_code 24 = .ok (.astore_n 3, 1) := by decide +kernel
theorem d22_25 : decode jdk_65_method_120_code 25 = .ok (.aload_n 0, 1) := by decide +kernel
theorem d22_26 : decode jdk_65_method_120_code 26 = .ok (.iconst 0, 1) := by decide +kernel
theorem d22_27 : decode jdk_65_method_120_code 27 = .ok (.aload_n 3, 1) := by decide +kernel
theorem d22_28 : decode jdk_65_method_120_code 28 = .ok (.iconst 0, 1) := by decide +kernel
theorem d22_29 : decode jdk_65_method_120_code 29 = .ok (.aload_n 0, 1) := by decide +kernel
theorem d22_30 : decode jdk_65_method_120_code 30 = .ok (.arraylength, 1) := by decide +kernel
theorem d22_31 : decode jdk_65_method_120_code 31 = .ok (.iload_n 1, 1) := by decide +kernel
theorem d22_32 : decode jdk_65_method_120_code 32 = .ok (.invokestatic 304, 3) := by decide +kernel
theorem W163 : Wd (Jvm.Cond.code ({ cls := "java/lang/Math", name := "min", desc := "(II)I" } : Jvm.MethodName) jdk_29_method_69_code (2 : Nat) (Option.some Jvm.ClassFile.FieldType.int)) := Wd.at 163 rfl
theorem W161 : Wd (Jvm.Cond.methodLink "java/util/Arrays" (304 : Nat) ({ cls := "java/lang/Math", name := "min", desc := "(II)I" } : Jvm.MethodName)) := Wd.at 161 rfl
theorem W162 : Wd (Jvm.Cond.static ({ cls := "java/lang/Math", name := "min", desc := "(II)I" } : Jvm.MethodName)) := Wd.at 162 rfl
theorem d22_35 : decode jdk_65_method_120_code 35 = .ok (.invokestatic 150, 3) := by decide +kernel
theorem W164 : Wd (Jvm.Cond.methodLink "java/util/Arrays" (150 : Nat) ({ cls := "java/lang/System", name := "arraycopy", desc := "(Ljava/lang/Object;ILjava/lang/Object;II)V" } : Jvm.MethodName)) := Wd.at 164 rfl
theorem W167 : Wd (Jvm.Cond.native ({ cls := "java/lang/System", name := "arraycopy", desc := "(Ljava/lang/Object;ILjava/lang/Object;II)V" } : Jvm.MethodName)) := Wd.at 167 rfl
theorem W165 : Wd (Jvm.Cond.static ({ cls := "java/lang/System", name := "arraycopy", desc := "(Ljava/lang/Object;ILjava/lang/Object;II)V" } : Jvm.MethodName)) := Wd.at 165 rfl
theorem W166 : Wd (Jvm.Cond.initialized "java/lang/System") := Wd.at 166 rfl
theorem d22_38 : decode jdk_65_method_120_code 38 = .ok (.aload_n 3, 1) := by decide +kernel
theorem d22_39 : decode jdk_65_method_120_code 39 = .ok (.areturn, 1) := by decide +kernel
theorem d23_0 : decode jdk_29_method_69_code 0 = .ok (.iload_n 0, 1) := by decide +kernel
theorem d23_1 : decode jdk_29_method_69_code 1 = .ok (.iload_n 1, 1) := by decide +kernel
theorem d23_2 : decode jdk_29_method_69_code 2 = .ok (.if_icmp .gt 7, 3) := by decide +kernel
theorem d23_9 : decode jdk_29_method_69_code 9 = .ok (.iload_n 1, 1) := by decide +kernel
theorem d23_10 : decode jdk_29_method_69_code 10 = .ok (.ireturn, 1) := by decide +kernel
theorem d24_0 : decode jdk_40_method_47_code 0 = .ok (.aload_n 0, 1) := by decide +kernel
theorem d24_1 : decode jdk_40_method_47_code 1 = .ok (.arraylength, 1) := by decide +kernel
theorem d24_2 : decode jdk_40_method_47_code 2 = .ok (.tableswitch 57 0 2 #[26, 32, 43], 26) := by decide +kernel
theorem d24_34 : decode jdk_40_method_47_code 34 = .ok (.new 96, 3) := by decide +kernel
theorem W212 : Wd (Jvm.Cond.classLink "java/util/List" (96 : Nat) cn12) := Wd.at 212 rfl
theorem W214 : Wd (Jvm.Cond.initialized cn12) := Wd.at 214 rfl
theorem d24_37 : decode jdk_40_method_47_code 37 = .ok (.dup, 1) := by decide +kernel
theorem d24_38 : decode jdk_40_method_47_code 38 = .ok (.aload_n 0, 1) := by decide +kernel
theorem d24_39 : decode jdk_40_method_47_code 39 = .ok (.iconst 0, 1) := by decide +kernel
theorem d24_40 : decode jdk_40_method_47_code 40 = .ok (.aaload, 1) := by decide +kernel
theorem d24_41 : decode jdk_40_method_47_code 41 = .ok (.invokespecial 98, 3) := by decide +kernel
theorem W475 : Wd (Jvm.Cond.code ({ cls := cn12, name := "<init>", desc := "(Ljava/lang/Object;)V" } : Jvm.MethodName) jdk_44_method_1_code (2 : Nat) (Option.none : Option Jvm.ClassFile.FieldType)) := Wd.at 475 rfl
theorem W473 : Wd (Jvm.Cond.methodLink "java/util/List" (98 : Nat) ({ cls := cn12, name := "<init>", desc := "(Ljava/lang/Object;)V" } : Jvm.MethodName)) := Wd.at 473 rfl
theorem pd__Ljava_lang_Object_V : parseMethodDescriptor "(Ljava/lang/Object;)V" = some ⟨[(.object "java/lang/Object")], none⟩ := by decide +kernel
theorem W474 : Wd (Jvm.Cond.instanceMethod ({ cls := cn12, name := "<init>", desc := "(Ljava/lang/Object;)V" } : Jvm.MethodName)) := Wd.at 474 rfl
theorem pn_java_util_ImmutableCollections_List12 : plainName "java/util/ImmutableCollections$List12" = true := by first | (simp [plainName, overriddenIn]; done) | decide +kernel
theorem d24_44 : decode jdk_40_method_47_code 44 = .ok (.areturn, 1) := by decide +kernel
theorem d24_45 : decode jdk_40_method_47_code 45 = .ok (.new 96, 3) := by decide +kernel
theorem d24_48 : decode jdk_40_method_47_code 48 = .ok (.dup, 1) := by decide +kernel
theorem d24_49 : decode jdk_40_method_47_code 49 = .ok (.aload_n 0, 1) := by decide +kernel
theorem d24_50 : decode jdk_40_method_47_code 50 = .ok (.iconst 0, 1) := by decide +kernel
theorem d24_51 : decode jdk_40_method_47_code 51 = .ok (.aaload, 1) := by decide +kernel
theorem d24_52 : decode jdk_40_method_47_code 52 = .ok (.aload_n 0, 1) := by decide +kernel
theorem d24_53 : decode jdk_40_method_47_code 53 = .ok (.iconst 1, 1) := by decide +kernel
theorem d24_54 : decode jdk_40_method_47_code 54 = .ok (.aaload, 1) := by decide +kernel
theorem d24_55 : decode jdk_40_method_47_code 55 = .ok (.invokespecial 100, 3) := by decide +kernel
theorem W218 : Wd (Jvm.Cond.code ({ cls := cn12, name := "<init>", desc := "(Ljava/lang/Object;Ljava/lang/Object;)V" } : Jvm.MethodName) jdk_44_method_2_code (3 : Nat) (Option.none : Option Jvm.ClassFile.FieldType)) := Wd.at 218 rfl
theorem W215 : Wd (Jvm.Cond.methodLink "java/util/List" (100 : Nat) ({ cls := cn12, name := "<init>", desc := "(Ljava/lang/Object;Ljava/lang/Object;)V" } : Jvm.MethodName)) := Wd.at 215 rfl
theorem pd__Ljava_lang_Object_Ljava_lang_Object_V : parseMethodDescriptor "(Ljava/lang/Object;Ljava/lang/Object;)V" = some ⟨[(.object "java/lang/Object"), (.object "java/lang/Object")], none⟩ := by decide +kernel
theorem W216 : Wd (Jvm.Cond.instanceMethod ({ cls := cn12, name := "<init>", desc := "(Ljava/lang/Object;Ljava/lang/Object;)V" } : Jvm.MethodName)) := Wd.at 216 rfl
theorem d24_58 : decode jdk_40_method_47_code 58 = .ok (.areturn, 1) := by decide +kernel
theorem d24_59 : decode jdk_40_method_47_code 59 = .ok (.aload_n 0, 1) := by decide +kernel
theorem d24_60 : decode jdk_40_method_47_code 60 = .ok (.invokestatic 109, 3) := by decide +kernel
theorem W173 : Wd (Jvm.Cond.code ({ cls := cn13, name := "listFromArray", desc := "([Ljava/lang/Object;)Ljava/util/List;" } : Jvm.MethodName) jdk_56_method_4_code (3 : Nat) (Option.some (Jvm.ClassFile.FieldType.object "java/util/List"))) := Wd.at 173 rfl
theorem W171 : Wd (Jvm.Cond.methodLink "java/util/List" (109 : Nat) ({ cls := cn13, name := "listFromArray", desc := "([Ljava/lang/Object;)Ljava/util/List;" } : Jvm.MethodName)) := Wd.at 171 rfl
theorem W172 : Wd (Jvm.Cond.static ({ cls := cn13, name := "listFromArray", desc := "([Ljava/lang/Object;)Ljava/util/List;" } : Jvm.MethodName)) := Wd.at 172 rfl
theorem d24_63 : decode jdk_40_method_47_code 63 = .ok (.areturn, 1) := by decide +kernel
theorem d25_0 : decode jdk_56_method_4_code 0 = .ok (.aload_n 0, 1) := by decide +kernel
theorem d25_1 : decode jdk_56_method_4_code 1 = .ok (.arraylength, 1) := by decide +kernel
theorem d25_2 : decode jdk_56_method_4_code 2 = .ok (.anewarray 2, 3) := by decide +kernel
theorem W174 : Wd (Jvm.Cond.classLink cn13 (2 : Nat) cn1) := Wd.at 174 rfl
theorem d25_5 : decode jdk_56_method_4_code 5 = .ok (.astore_n 1, 1) := by decide +kernel
theorem d25_6 : decode jdk_56_method_4_code 6 = .ok (.iconst 0, 1) := by decide +kernel
theorem d25_7 : decode jdk_56_method_4_code 7 = .ok (.istore_n 2, 1) := by decide +kernel
theorem d25_8 : decode jdk_56_method_4_code 8 = .ok (.iload_n 2, 1) := by decide +kernel
theorem d25_9 : decode jdk_56_method_4_code 9 = .ok (.aload_n 0, 1) := by decide +kernel
theorem d25_10 : decode jdk_56_method_4_code 10 = .ok (.arraylength, 1) := by decide +kernel
theorem d25_11 : decode jdk_56_method_4_code 11 = .ok (.if_icmp .ge 18, 3) := by decide +kernel
theorem d25_14 : decode jdk_56_method_4_code 14 = .ok (.aload_n 1, 1) := by decide +kernel
theorem d25_15 : decode jdk_56_method_4_code 15 = .ok (.iload_n 2, 1) := by decide +kernel
theorem d25_16 : decode jdk_56_method_4_code 16 = .ok (.aload_n 0, 1) := by decide +kernel
theorem d25_17 : decode jdk_56_method_4_code 17 = .ok (.iload_n 2, 1) := by decide +kernel
theorem d25_18 : decode jdk_56_method_4_code 18 = .ok (.aaload, 1) := by decide +kernel
theorem d25_19 : decode jdk_56_method_4_code 19 = .ok (.invokestatic 37, 3) := by decide +kernel
theorem W178 : Wd (Jvm.Cond.code ({ cls := "java/util/Objects", name := "requireNonNull", desc := cn16 } : Jvm.MethodName) jdk_31_method_10_code (1 : Nat) (Option.some (Jvm.ClassFile.FieldType.object cn1))) := Wd.at 178 rfl
theorem W177 : Wd (Jvm.Cond.initialized "java/util/Objects") := Wd.at 177 rfl
theorem W175 : Wd (Jvm.Cond.methodLink cn13 (37 : Nat) ({ cls := "java/util/Objects", name := "requireNonNull", desc := cn16 } : Jvm.MethodName)) := Wd.at 175 rfl
theorem pd__Ljava_lang_Object_Ljava_lang_Object_ : parseMethodDescriptor "(Ljava/lang/Object;)Ljava/lang/Object;" = some ⟨[(.object "java/lang/Object")], some (.object "java/lang/Object")⟩ := by decide +kernel
theorem W176 : Wd (Jvm.Cond.static ({ cls := "java/util/Objects", name := "requireNonNull", desc := cn16 } : Jvm.MethodName)) := Wd.at 176 rfl
theorem pn_java_util_Objects : plainName "java/util/Objects" = true := by first | (simp [plainName, overriddenIn]; done) | decide +kernel
theorem d25_22 : decode jdk_56_method_4_code 22 = .ok (.aastore, 1) := by decide +kernel
theorem d25_23 : decode jdk_56_method_4_code 23 = .ok (.iinc 2 1, 3) := by decide +kernel
theorem d25_26 : decode jdk_56_method_4_code 26 = .ok (.goto (-18), 3) := by decide +kernel
theorem d25_29 : decode jdk_56_method_4_code 29 = .ok (.new 12, 3) := by decide +kernel
theorem W180 : Wd (Jvm.Cond.initialized cn7) := Wd.at 180 rfl
theorem d25_32 : decode jdk_56_method_4_code 32 = .ok (.dup, 1) := by decide +kernel
theorem d25_33 : decode jdk_56_method_4_code 33 = .ok (.aload_n 1, 1) := by decide +kernel
theorem d25_34 : decode jdk_56_method_4_code 34 = .ok (.iconst 0, 1) := by decide +kernel
theorem d25_35 : decode jdk_56_method_4_code 35 = .ok (.invokespecial 43, 3) := by decide +kernel
theorem W184 : Wd (Jvm.Cond.code ({ cls := cn7, name := "<init>", desc := "([Ljava/lang/Object;Z)V" } : Jvm.MethodName) jdk_45_method_1_code (3 : Nat) (Option.none : Option Jvm.ClassFile.FieldType)) := Wd.at 184 rfl
theorem W181 : Wd (Jvm.Cond.methodLinkNest cn13 (43 : Nat) ({ cls := cn7, name := "<init>", desc := "([Ljava/lang/Object;Z)V" } : Jvm.MethodName) cn13) := Wd.at 181 rfl
theorem pd__Ljava_lang_Object_Z_V : parseMethodDescriptor "([Ljava/lang/Object;Z)V" = some ⟨[(.array (.object "java/lang/Object")), .boolean], none⟩ := by decide +kernel
theorem W182 : Wd (Jvm.Cond.instanceMethod ({ cls := cn7, name := "<init>", desc := "([Ljava/lang/Object;Z)V" } : Jvm.MethodName)) := Wd.at 182 rfl
theorem pn_java_util_ImmutableCollections_ListN : plainName "java/util/ImmutableCollections$ListN" = true := by first | (simp [plainName, overriddenIn]; done) | decide +kernel
theorem d25_38 : decode jdk_56_method_4_code 38 = .ok (.areturn, 1) := by decide +kernel
theorem d26_0 : decode jdk_31_method_10_code 0 = .ok (.aload_n 0, 1) := by decide +kernel
theorem d26_1 : decode jdk_31_method_10_code 1 = .ok (.ifnonnull 11, 3) := by decide +kernel
theorem d26_12 : decode jdk_31_method_10_code 12 = .ok (.aload_n 0, 1) := by decide +kernel
theorem d26_13 : decode jdk_31_method_10_code 13 = .ok (.areturn, 1) := by decide +kernel
theorem d27_0 : decode jdk_45_method_1_code 0 = .ok (.aload_n 0, 1) := by decide +kernel
theorem d27_1 : decode jdk_45_method_1_code 1 = .ok (.invokespecial 1, 3) := by decide +kernel
theorem W190 : Wd (Jvm.Cond.code ({ cls := "java/util/ImmutableCollections$AbstractImmutableList", name := "<init>", desc := "()V" } : Jvm.MethodName) jdk_46_method_1_code (1 : Nat) (Option.none : Option Jvm.ClassFile.FieldType)) := Wd.at 190 rfl
theorem W189 : Wd (Jvm.Cond.initialized "java/util/ImmutableCollections$AbstractImmutableList") := Wd.at 189 rfl
theorem W185 : Wd (Jvm.Cond.methodLink cn7 (1 : Nat) ({ cls := "java/util/ImmutableCollections$AbstractImmutableList", name := "<init>", desc := "()V" } : Jvm.MethodName)) := Wd.at 185 rfl
theorem W186 : Wd (Jvm.Cond.instanceMethod ({ cls := "java/util/ImmutableCollections$AbstractImmutableList", name := "<init>", desc := "()V" } : Jvm.MethodName)) := Wd.at 186 rfl
theorem pn_java_util_ImmutableCollections_AbstractImmutableList : plainName "java/util/ImmutableCollections$AbstractImmutableList" = true := by first | (simp [plainName, overriddenIn]; done) | decide +kernel
theorem d27_4 : decode jdk_45_method_1_code 4 = .ok (.aload_n 0, 1) := by decide +kernel
theorem d27_5 : decode jdk_45_method_1_code 5 = .ok (.aload_n 1, 1) := by decide +kernel
theorem d27_6 : decode jdk_45_method_1_code 6 = .ok (.putfield 7, 3) := by decide +kernel
theorem W199 : Wd (Jvm.Cond.fieldLink cn7 (7 : Nat) cn7 "elements" "[Ljava/lang/Object;") := Wd.at 199 rfl
theorem d27_9 : decode jdk_45_method_1_code 9 = .ok (.aload_n 0, 1) := by decide +kernel
theorem d27_10 : decode jdk_45_method_1_code 10 = .ok (.iload_n 2, 1) := by decide +kernel
theorem d27_11 : decode jdk_45_method_1_code 11 = .ok (.putfield 13, 3) := by decide +kernel
theorem W201 : Wd (Jvm.Cond.fieldLink cn7 (13 : Nat) cn7 "allowNulls" "Z") := Wd.at 201 rfl
theorem d27_14 : decode jdk_45_method_1_code 14 = .ok (.return_, 1) := by decide +kernel
theorem d28_0 : decode jdk_46_method_1_code 0 = .ok (.aload_n 0, 1) := by decide +kernel
theorem d28_1 : decode jdk_46_method_1_code 1 = .ok (.invokespecial 1, 3) := by decide +kernel
theorem W196 : Wd (Jvm.Cond.code ({ cls := "java/util/ImmutableCollections$AbstractImmutableCollection", name := "<init>", desc := "()V" } : Jvm.MethodName) jdk_47_method_1_code (1 : Nat) (Option.none : Option Jvm.ClassFile.FieldType)) := Wd.at 196 rfl
theorem W195 : Wd (Jvm.Cond.initialized "java/util/ImmutableCollections$AbstractImmutableCollection") := Wd.at 195 rfl
theorem W191 : Wd (Jvm.Cond.methodLink "java/util/ImmutableCollections$AbstractImmutableList" (1 : Nat) ({ cls := "java/util/ImmutableCollections$AbstractImmutableCollection", name := "<init>", desc := "()V" } : Jvm.MethodName)) := Wd.at 191 rfl
theorem W192 : Wd (Jvm.Cond.instanceMethod ({ cls := "java/util/ImmutableCollections$AbstractImmutableCollection", name := "<init>", desc := "()V" } : Jvm.MethodName)) := Wd.at 192 rfl
theorem pn_java_util_ImmutableCollections_AbstractImmutableCollection : plainName "java/util/ImmutableCollections$AbstractImmutableCollection" = true := by first | (simp [plainName, overriddenIn]; done) | decide +kernel
theorem d28_4 : decode jdk_46_method_1_code 4 = .ok (.return_, 1) := by decide +kernel
theorem d29_0 : decode jdk_47_method_1_code 0 = .ok (.aload_n 0, 1) := by decide +kernel
theorem d29_1 : decode jdk_47_method_1_code 1 = .ok (.invokespecial 1, 3) := by decide +kernel
theorem W197 : Wd (Jvm.Cond.methodLink "java/util/ImmutableCollections$AbstractImmutableCollection" (1 : Nat) ({ cls := "java/util/AbstractCollection", name := "<init>", desc := "()V" } : Jvm.MethodName)) := Wd.at 197 rfl
theorem d29_4 : decode jdk_47_method_1_code 4 = .ok (.return_, 1) := by decide +kernel
theorem d30_0 : decode prog_48_method_1_code 0 = .ok (.aload_n 0, 1) := by decide +kernel
theorem d30_1 : decode prog_48_method_1_code 1 = .ok (.invokespecial 1, 3) := by decide +kernel
theorem W208 : Wd (Jvm.Cond.methodLink cn4 (1 : Nat) ({ cls := cn1, name := "<init>", desc := "()V" } : Jvm.MethodName)) := Wd.at 208 rfl
theorem d30_4 : decode prog_48_method_1_code 4 = .ok (.aload_n 0, 1) := by decide +kernel
theorem d30_5 : decode prog_48_method_1_code 5 = .ok (.aload_n 1, 1) := by decide +kernel
theorem d30_6 : decode prog_48_method_1_code 6 = .ok (.putfield 7, 3) := by decide +kernel
theorem W209 : Wd (Jvm.Cond.fieldLink cn4 (7 : Nat) cn4 "atom" "Lcom/example/hornwort/hornwort/Atom;") := Wd.at 209 rfl
theorem d30_9 : decode prog_48_method_1_code 9 = .ok (.aload_n 0, 1) := by decide +kernel
theorem d30_10 : decode prog_48_method_1_code 10 = .ok (.aload_n 2, 1) := by decide +kernel
theorem d30_11 : decode prog_48_method_1_code 11 = .ok (.invokestatic 13, 3) := by decide +kernel
theorem W211 : Wd (Jvm.Cond.methodLink cn4 (13 : Nat) ({ cls := "java/util/List", name := "copyOf", desc := "(Ljava/util/Collection;)Ljava/util/List;" } : Jvm.MethodName)) := Wd.at 211 rfl
theorem d30_14 : decode prog_48_method_1_code 14 = .ok (.putfield 19, 3) := by decide +kernel
theorem W228 : Wd (Jvm.Cond.fieldLink cn4 (19 : Nat) cn4 "groupBy" "Ljava/util/List;") := Wd.at 228 rfl
theorem d30_17 : decode prog_48_method_1_code 17 = .ok (.aload_n 0, 1) := by decide +kernel
theorem d30_18 : decode prog_48_method_1_code 18 = .ok (.aload_n 3, 1) := by decide +kernel
theorem d30_19 : decode prog_48_method_1_code 19 = .ok (.putfield 23, 3) := by decide +kernel
theorem W230 : Wd (Jvm.Cond.fieldLink cn4 (23 : Nat) cn4 "function" "Lcom/example/hornwort/hornwort/Aggregate$Function;") := Wd.at 230 rfl
theorem d30_22 : decode prog_48_method_1_code 22 = .ok (.aload_n 0, 1) := by decide +kernel
theorem d30_23 : decode prog_48_method_1_code 23 = .ok (.aload 4, 2) := by decide +kernel
theorem d30_25 : decode prog_48_method_1_code 25 = .ok (.putfield 27, 3) := by decide +kernel
theorem W232 : Wd (Jvm.Cond.fieldLink cn4 (27 : Nat) cn4 "value" "Lcom/example/hornwort/hornwort/Variable;") := Wd.at 232 rfl
theorem d30_28 : decode prog_48_method_1_code 28 = .ok (.aload_n 0, 1) := by decide +kernel
theorem d30_29 : decode prog_48_method_1_code 29 = .ok (.aload 5, 2) := by decide +kernel
theorem d30_31 : decode prog_48_method_1_code 31 = .ok (.putfield 31, 3) := by decide +kernel
theorem W234 : Wd (Jvm.Cond.fieldLink cn4 (31 : Nat) cn4 "position" "Lcom/example/hornwort/hornwort/Position;") := Wd.at 234 rfl
theorem d30_34 : decode prog_48_method_1_code 34 = .ok (.new 35, 3) := by decide +kernel
theorem W236 : Wd (Jvm.Cond.classLink cn4 (35 : Nat) cn0) := Wd.at 236 rfl
theorem W237 : Wd (Jvm.Cond.instantiable cn0 (8 : Nat)) := Wd.at 237 rfl
theorem W238 : Wd (Jvm.Cond.initialized cn0) := Wd.at 238 rfl
theorem d30_37 : decode prog_48_method_1_code 37 = .ok (.dup, 1) := by decide +kernel
theorem d30_38 : decode prog_48_method_1_code 38 = .ok (.invokespecial 37, 3) := by decide +kernel
theorem W241 : Wd (Jvm.Cond.code ({ cls := cn0, name := "<init>", desc := "()V" } : Jvm.MethodName) jdk_69_method_7_code (1 : Nat) (Option.none : Option Jvm.ClassFile.FieldType)) := Wd.at 241 rfl
theorem W239 : Wd (Jvm.Cond.methodLink cn4 (37 : Nat) ({ cls := cn0, name := "<init>", desc := "()V" } : Jvm.MethodName)) := Wd.at 239 rfl
theorem W240 : Wd (Jvm.Cond.instanceMethod ({ cls := cn0, name := "<init>", desc := "()V" } : Jvm.MethodName)) := Wd.at 240 rfl
theorem pn_java_util_HashMap : plainName "java/util/HashMap" = true := by first | (simp [plainName, overriddenIn]; done) | decide +kernel
theorem d30_41 : decode prog_48_method_1_code 41 = .ok (.astore 6, 2) := by decide +kernel
theorem d30_43 : decode prog_48_method_1_code 43 = .ok (.iconst 0, 1) := by decide +kernel
theorem d30_44 : decode prog_48_method_1_code 44 = .ok (.istore 7, 2) := by decide +kernel
theorem d30_46 : decode prog_48_method_1_code 46 = .ok (.iload 7, 2) := by decide +kernel
theorem d30_48 : decode prog_48_method_1_code 48 = .ok (.aload_n 1, 1) := by decide +kernel
theorem d30_49 : decode prog_48_method_1_code 49 = .ok (.invokevirtual 38, 3) := by decide +kernel
theorem W256 : Wd (Jvm.Cond.code ({ cls := cn8, name := "args", desc := "()Ljava/util/List;" } : Jvm.MethodName) prog_7_method_3_code (1 : Nat) (Option.some (Jvm.ClassFile.FieldType.object "java/util/List"))) := Wd.at 256 rfl
theorem W252 : Wd (Jvm.Cond.methodLink cn4 (38 : Nat) ({ cls := cn8, name := "args", desc := "()Ljava/util/List;" } : Jvm.MethodName)) := Wd.at 252 rfl
theorem W255 : Wd (Jvm.Cond.selects cn8 ({ cls := cn8, name := "args", desc := "()Ljava/util/List;" } : Jvm.MethodName) ({ cls := cn8, name := "args", desc := "()Ljava/util/List;" } : Jvm.MethodName)) := Wd.at 255 rfl
theorem W253 : Wd (Jvm.Cond.declares ({ cls := cn8, name := "args", desc := "()Ljava/util/List;" } : Jvm.MethodName)) := Wd.at 253 rfl
theorem W254 : Wd (Jvm.Cond.instanceMethod ({ cls := cn8, name := "args", desc := "()Ljava/util/List;" } : Jvm.MethodName)) := Wd.at 254 rfl
theorem d30_52 : decode prog_48_method_1_code 52 = .ok (.invokeinterface 44 1, 5) := by decide +kernel
theorem W265 : Wd (Jvm.Cond.code ({ cls := cn7, name := "size", desc := "()I" } : Jvm.MethodName) jdk_45_method_3_code (1 : Nat) (Option.some Jvm.ClassFile.FieldType.int)) := Wd.at 265 rfl
theorem W257 : Wd (Jvm.Cond.methodLink cn4 (44 : Nat) ({ cls := "java/util/List", name := "size", desc := "()I" } : Jvm.MethodName)) := Wd.at 257 rfl
theorem pd__I : parseMethodDescriptor "()I" = some ⟨[], some .int⟩ := by decide +kernel
theorem W258 : Wd (Jvm.Cond.declares ({ cls := "java/util/List", name := "size", desc := "()I" } : Jvm.MethodName)) := Wd.at 258 rfl
theorem W259 : Wd (Jvm.Cond.interfaceMethod "java/util/List" "java/util/List" "size" "()I") := Wd.at 259 rfl
theorem W260 : Wd (Jvm.Cond.selects cn7 ({ cls := "java/util/List", name := "size", desc := "()I" } : Jvm.MethodName) ({ cls := cn7, name := "size", desc := "()I" } : Jvm.MethodName)) := Wd.at 260 rfl
theorem W261 : Wd (Jvm.Cond.instanceMethod ({ cls := cn7, name := "size", desc := "()I" } : Jvm.MethodName)) := Wd.at 261 rfl
theorem W262 : Wd (Jvm.Cond.publicMethod ({ cls := cn7, name := "size", desc := "()I" } : Jvm.MethodName)) := Wd.at 262 rfl
theorem W263 : Wd (Jvm.Cond.unhidden cn7 "size" "()I") := Wd.at 263 rfl
theorem W264 : Wd (Jvm.Cond.castable cn7 "java/util/List") := Wd.at 264 rfl
theorem d30_57 : decode prog_48_method_1_code 57 = .ok (.if_icmp .ge 76, 3) := by decide +kernel
theorem d30_60 : decode prog_48_method_1_code 60 = .ok (.aload_n 1, 1) := by decide +kernel
theorem d30_61 : decode prog_48_method_1_code 61 = .ok (.invokevirtual 38, 3) := by decide +kernel
theorem d30_64 : decode prog_48_method_1_code 64 = .ok (.iload 7, 2) := by decide +kernel
theorem d30_66 : decode prog_48_method_1_code 66 = .ok (.invokeinterface 48 2, 5) := by decide +kernel
theorem W273 : Wd (Jvm.Cond.code ({ cls := cn7, name := "get", desc := cn14 } : Jvm.MethodName) jdk_45_method_4_code (2 : Nat) (Option.some (Jvm.ClassFile.FieldType.object cn1))) := Wd.at 273 rfl
theorem W266 : Wd (Jvm.Cond.methodLink cn4 (48 : Nat) ({ cls := "java/util/List", name := "get", desc := cn14 } : Jvm.MethodName)) := Wd.at 266 rfl
theorem pd__I_Ljava_lang_Object__632 : parseMethodDescriptor "(I)Ljava/lang/Object;" = some ⟨[.int], some (.object "java/lang/Object")⟩ := by decide +kernel
theorem W267 : Wd (Jvm.Cond.declares ({ cls := "java/util/List", name := "get", desc := cn14 } : Jvm.MethodName)) := Wd.at 267 rfl
theorem W268 : Wd (Jvm.Cond.interfaceMethod "java/util/List" "java/util/List" "get" cn14) := Wd.at 268 rfl
theorem W269 : Wd (Jvm.Cond.selects cn7 ({ cls := "java/util/List", name := "get", desc := cn14 } : Jvm.MethodName) ({ cls := cn7, name := "get", desc := cn14 } : Jvm.MethodName)) := Wd.at 269 rfl
theorem W270 : Wd (Jvm.Cond.instanceMethod ({ cls := cn7, name := "get", desc := cn14 } : Jvm.MethodName)) := Wd.at 270 rfl
theorem W271 : Wd (Jvm.Cond.publicMethod ({ cls := cn7, name := "get", desc := cn14 } : Jvm.MethodName)) := Wd.at 271 rfl
theorem W272 : Wd (Jvm.Cond.unhidden cn7 "get" cn14) := Wd.at 272 rfl
theorem d30_71 : decode prog_48_method_1_code 71 = .ok (.checkcast 52, 3) := by decide +kernel
theorem W274 : Wd (Jvm.Cond.classLink cn4 (52 : Nat) cn5) := Wd.at 274 rfl
theorem d30_74 : decode prog_48_method_1_code 74 = .ok (.astore 8, 2) := by decide +kernel
theorem d30_76 : decode prog_48_method_1_code 76 = .ok (.aload 8, 2) := by decide +kernel
theorem d30_78 : decode prog_48_method_1_code 78 = .ok (.invokevirtual 54, 3) := by decide +kernel
theorem W279 : Wd (Jvm.Cond.code ({ cls := cn5, name := "isAnonymous", desc := "()Z" } : Jvm.MethodName) prog_69_method_4_code (1 : Nat) (Option.some Jvm.ClassFile.FieldType.boolean)) := Wd.at 279 rfl
theorem W275 : Wd (Jvm.Cond.methodLink cn4 (54 : Nat) ({ cls := cn5, name := "isAnonymous", desc := "()Z" } : Jvm.MethodName)) := Wd.at 275 rfl
theorem W278 : Wd (Jvm.Cond.selects cn5 ({ cls := cn5, name := "isAnonymous", desc := "()Z" } : Jvm.MethodName) ({ cls := cn5, name := "isAnonymous", desc := "()Z" } : Jvm.MethodName)) := Wd.at 278 rfl
theorem W276 : Wd (Jvm.Cond.declares ({ cls := cn5, name := "isAnonymous", desc := "()Z" } : Jvm.MethodName)) := Wd.at 276 rfl
theorem W277 : Wd (Jvm.Cond.instanceMethod ({ cls := cn5, name := "isAnonymous", desc := "()Z" } : Jvm.MethodName)) := Wd.at 277 rfl
theorem d30_81 : decode prog_48_method_1_code 81 = .ok (.ifCond .ne 46, 3) := by decide +kernel
theorem d30_84 : decode prog_48_method_1_code 84 = .ok (.aload 6, 2) := by decide +kernel
theorem d30_86 : decode prog_48_method_1_code 86 = .ok (.aload 8, 2) := by decide +kernel
theorem d30_88 : decode prog_48_method_1_code 88 = .ok (.invokevirtual 58, 3) := by decide +kernel
theorem W295 : Wd (Jvm.Cond.code ({ cls := cn5, name := "name", desc := "()Ljava/lang/String;" } : Jvm.MethodName) prog_69_method_2_code (1 : Nat) (Option.some (Jvm.ClassFile.FieldType.object cn3))) := Wd.at 295 rfl
theorem W291 : Wd (Jvm.Cond.methodLink cn4 (58 : Nat) ({ cls := cn5, name := "name", desc := "()Ljava/lang/String;" } : Jvm.MethodName)) := Wd.at 291 rfl
theorem pd__Ljava_lang_String_ : parseMethodDescriptor "()Ljava/lang/String;" = some ⟨[], some (.object "java/lang/String")⟩ := by decide +kernel
theorem W294 : Wd (Jvm.Cond.selects cn5 ({ cls := cn5, name := "name", desc := "()Ljava/lang/String;" } : Jvm.MethodName) ({ cls := cn5, name := "name", desc := "()Ljava/lang/String;" } : Jvm.MethodName)) := Wd.at 294 rfl
theorem W292 : Wd (Jvm.Cond.declares ({ cls := cn5, name := "name", desc := "()Ljava/lang/String;" } : Jvm.MethodName)) := Wd.at 292 rfl
theorem W293 : Wd (Jvm.Cond.instanceMethod ({ cls := cn5, name := "name", desc := "()Ljava/lang/String;" } : Jvm.MethodName)) := Wd.at 293 rfl
theorem d30_91 : decode prog_48_method_1_code 91 = .ok (.iload 7, 2) := by decide +kernel
theorem d30_93 : decode prog_48_method_1_code 93 = .ok (.invokestatic 62, 3) := by decide +kernel
theorem W299 : Wd (Jvm.Cond.code ({ cls := cn11, name := "valueOf", desc := "(I)Ljava/lang/Integer;" } : Jvm.MethodName) jdk_33_method_22_code (1 : Nat) (Option.some (Jvm.ClassFile.FieldType.object cn11))) := Wd.at 299 rfl
theorem W298 : Wd (Jvm.Cond.initialized cn11) := Wd.at 298 rfl
theorem W296 : Wd (Jvm.Cond.methodLink cn4 (62 : Nat) ({ cls := cn11, name := "valueOf", desc := "(I)Ljava/lang/Integer;" } : Jvm.MethodName)) := Wd.at 296 rfl
theorem pd__I_Ljava_lang_Integer_ : parseMethodDescriptor "(I)Ljava/lang/Integer;" = some ⟨[.int], some (.object "java/lang/Integer")⟩ := by decide +kernel
theorem W297 : Wd (Jvm.Cond.static ({ cls := cn11, name := "valueOf", desc := "(I)Ljava/lang/Integer;" } : Jvm.MethodName)) := Wd.at 297 rfl
theorem pn_java_lang_Integer : plainName "java/lang/Integer" = true := by first | (simp [plainName, overriddenIn]; done) | decide +kernel
theorem d30_96 : decode prog_48_method_1_code 96 = .ok (.invokeinterface 68 3, 5) := by decide +kernel
theorem W311 : Wd (Jvm.Cond.code ({ cls := cn0, name := "putIfAbsent", desc := cn15 } : Jvm.MethodName) jdk_69_method_31_code (3 : Nat) (Option.some (Jvm.ClassFile.FieldType.object cn1))) := Wd.at 311 rfl
theorem W303 : Wd (Jvm.Cond.methodLink cn4 (68 : Nat) ({ cls := "java/util/Map", name := "putIfAbsent", desc := cn15 } : Jvm.MethodName)) := Wd.at 303 rfl
theorem pd__Ljava_lang_Object_Ljava_lang_Object_Ljava_lang_Object_ : parseMethodDescriptor "(Ljava/lang/Object;Ljava/lang/Object;)Ljava/lang/Object;" = some ⟨[(.object "java/lang/Object"), (.object "java/lang/Object")], some (.object "java/lang/Object")⟩ := by decide +kernel
theorem W304 : Wd (Jvm.Cond.declares ({ cls := "java/util/Map", name := "putIfAbsent", desc := cn15 } : Jvm.MethodName)) := Wd.at 304 rfl
theorem W305 : Wd (Jvm.Cond.interfaceMethod "java/util/Map" "java/util/Map" "putIfAbsent" cn15) := Wd.at 305 rfl
theorem W306 : Wd (Jvm.Cond.selects cn0 ({ cls := "java/util/Map", name := "putIfAbsent", desc := cn15 } : Jvm.MethodName) ({ cls := cn0, name := "putIfAbsent", desc := cn15 } : Jvm.MethodName)) := Wd.at 306 rfl
theorem W307 : Wd (Jvm.Cond.instanceMethod ({ cls := cn0, name := "putIfAbsent", desc := cn15 } : Jvm.MethodName)) := Wd.at 307 rfl
theorem W308 : Wd (Jvm.Cond.publicMethod ({ cls := cn0, name := "putIfAbsent", desc := cn15 } : Jvm.MethodName)) := Wd.at 308 rfl
theorem W309 : Wd (Jvm.Cond.unhidden cn0 "putIfAbsent" cn15) := Wd.at 309 rfl
theorem W310 : Wd (Jvm.Cond.castable cn0 "java/util/Map") := Wd.at 310 rfl
theorem d30_101 : decode prog_48_method_1_code 101 = .ok (.ifnull 26, 3) := by decide +kernel
theorem d30_127 : decode prog_48_method_1_code 127 = .ok (.iinc 7 1, 3) := by decide +kernel
theorem d30_130 : decode prog_48_method_1_code 130 = .ok (.goto (-84), 3) := by decide +kernel
theorem d30_133 : decode prog_48_method_1_code 133 = .ok (.new 86, 3) := by decide +kernel
theorem W378 : Wd (Jvm.Cond.classLink cn4 (86 : Nat) cn10) := Wd.at 378 rfl
theorem W379 : Wd (Jvm.Cond.instantiable cn10 (1 : Nat)) := Wd.at 379 rfl
theorem W380 : Wd (Jvm.Cond.initialized cn10) := Wd.at 380 rfl
theorem d30_136 : decode prog_48_method_1_code 136 = .ok (.dup, 1) := by decide +kernel
theorem d30_137 : decode prog_48_method_1_code 137 = .ok (.invokespecial 88, 3) := by decide +kernel
theorem W383 : Wd (Jvm.Cond.code ({ cls := cn10, name := "<init>", desc := "()V" } : Jvm.MethodName) jdk_93_method_1_code (1 : Nat) (Option.none : Option Jvm.ClassFile.FieldType)) := Wd.at 383 rfl
theorem W381 : Wd (Jvm.Cond.methodLink cn4 (88 : Nat) ({ cls := cn10, name := "<init>", desc := "()V" } : Jvm.MethodName)) := Wd.at 381 rfl
theorem W382 : Wd (Jvm.Cond.instanceMethod ({ cls := cn10, name := "<init>", desc := "()V" } : Jvm.MethodName)) := Wd.at 382 rfl
theorem pn_java_util_HashSet : plainName "java/util/HashSet" = true := by first | (simp [plainName, overriddenIn]; done) | decide +kernel
theorem d30_140 : decode prog_48_method_1_code 140 = .ok (.astore 7, 2) := by decide +kernel
theorem d30_142 : decode prog_48_method_1_code 142 = .ok (.aload_n 0, 1) := by decide +kernel
theorem d30_143 : decode prog_48_method_1_code 143 = .ok (.aload_n 2, 1) := by decide +kernel
theorem d30_144 : decode prog_48_method_1_code 144 = .ok (.invokeinterface 44 1, 5) := by decide +kernel
theorem W401 : Wd (Jvm.Cond.code ({ cls := cn2, name := "size", desc := "()I" } : Jvm.MethodName) jdk_38_method_8_code (1 : Nat) (Option.some Jvm.ClassFile.FieldType.int)) := Wd.at 401 rfl
theorem W397 : Wd (Jvm.Cond.selects cn2 ({ cls := "java/util/List", name := "size", desc := "()I" } : Jvm.MethodName) ({ cls := cn2, name := "size", desc := "()I" } : Jvm.MethodName)) := Wd.at 397 rfl
theorem W398 : Wd (Jvm.Cond.instanceMethod ({ cls := cn2, name := "size", desc := "()I" } : Jvm.MethodName)) := Wd.at 398 rfl
theorem W399 : Wd (Jvm.Cond.publicMethod ({ cls := cn2, name := "size", desc := "()I" } : Jvm.MethodName)) := Wd.at 399 rfl
theorem W400 : Wd (Jvm.Cond.unhidden cn2 "size" "()I") := Wd.at 400 rfl
theorem d30_149 : decode prog_48_method_1_code 149 = .ok (.newarray .int, 2) := by decide +kernel
theorem W402 : Wd (Jvm.Cond.arrayClass Jvm.ClassFile.FieldType.int) := Wd.at 402 rfl
theorem d30_151 : decode prog_48_method_1_code 151 = .ok (.putfield 89, 3) := by decide +kernel
theorem W403 : Wd (Jvm.Cond.fieldLink cn4 (89 : Nat) cn4 "groupPositions" "[I") := Wd.at 403 rfl
theorem d30_154 : decode prog_48_method_1_code 154 = .ok (.iconst 0, 1) := by decide +kernel
theorem d30_155 : decode prog_48_method_1_code 155 = .ok (.istore 8, 2) := by decide +kernel
theorem d30_157 : decode prog_48_method_1_code 157 = .ok (.iload 8, 2) := by decide +kernel
theorem d30_159 : decode prog_48_method_1_code 159 = .ok (.aload_n 0, 1) := by decide +kernel
theorem d30_160 : decode prog_48_method_1_code 160 = .ok (.getfield 89, 3) := by decide +kernel
theorem d30_163 : decode prog_48_method_1_code 163 = .ok (.arraylength, 1) := by decide +kernel
theorem d30_164 : decode prog_48_method_1_code 164 = .ok (.if_icmp .ge 35, 3) := by decide +kernel
theorem d30_167 : decode prog_48_method_1_code 167 = .ok (.aload_n 0, 1) := by decide +kernel
theorem d30_168 : decode prog_48_method_1_code 168 = .ok (.getfield 89, 3) := by decide +kernel
theorem d30_171 : decode prog_48_method_1_code 171 = .ok (.iload 8, 2) := by decide +kernel
theorem d30_173 : decode prog_48_method_1_code 173 = .ok (.aload_n 0, 1) := by decide +kernel
theorem d30_174 : decode prog_48_method_1_code 174 = .ok (.aload_n 2, 1) := by decide +kernel
theorem d30_175 : decode prog_48_method_1_code 175 = .ok (.iload 8, 2) := by decide +kernel
theorem d30_177 : decode prog_48_method_1_code 177 = .ok (.invokeinterface 48 2, 5) := by decide +kernel
theorem W409 : Wd (Jvm.Cond.code ({ cls := cn2, name := "get", desc := cn14 } : Jvm.MethodName) jdk_38_method_20_code (2 : Nat) (Option.some (Jvm.ClassFile.FieldType.object cn1))) := Wd.at 409 rfl
theorem W405 : Wd (Jvm.Cond.selects cn2 ({ cls := "java/util/List", name := "get", desc := cn14 } : Jvm.MethodName) ({ cls := cn2, name := "get", desc := cn14 } : Jvm.MethodName)) := Wd.at 405 rfl
theorem W406 : Wd (Jvm.Cond.instanceMethod ({ cls := cn2, name := "get", desc := cn14 } : Jvm.MethodName)) := Wd.at 406 rfl
theorem W407 : Wd (Jvm.Cond.publicMethod ({ cls := cn2, name := "get", desc := cn14 } : Jvm.MethodName)) := Wd.at 407 rfl
theorem W408 : Wd (Jvm.Cond.unhidden cn2 "get" cn14) := Wd.at 408 rfl
theorem d30_182 : decode prog_48_method_1_code 182 = .ok (.checkcast 52, 3) := by decide +kernel
theorem d30_185 : decode prog_48_method_1_code 185 = .ok (.aload 6, 2) := by decide +kernel
theorem d30_187 : decode prog_48_method_1_code 187 = .ok (.aload 7, 2) := by decide +kernel
theorem d30_189 : decode prog_48_method_1_code 189 = .ok (.invokevirtual 93, 3) := by decide +kernel
theorem W425 : Wd (Jvm.Cond.code ({ cls := cn4, name := "place", desc := cn20 } : Jvm.MethodName) prog_48_method_2_code (5 : Nat) (Option.some Jvm.ClassFile.FieldType.int)) := Wd.at 425 rfl
theorem W422 : Wd (Jvm.Cond.methodLink cn4 (93 : Nat) ({ cls := cn4, name := "place", desc := cn20 } : Jvm.MethodName)) := Wd.at 422 rfl
theorem pd__Lcom_example_hornwort_hornwort_Variable_Ljava_util_Map_Ljava_util_Set_I : parseMethodDescriptor "(Lcom/example/hornwort/hornwort/Variable;Ljava/util/Map;Ljava/util/Set;)I" = some ⟨[(.object "com/example/hornwort/hornwort/Variable"), (.object "java/util/Map"), (.object "java/util/Set")], some .int⟩ := by decide +kernel
theorem W424 : Wd (Jvm.Cond.privateMethod ({ cls := cn4, name := "place", desc := cn20 } : Jvm.MethodName)) := Wd.at 424 rfl
theorem W423 : Wd (Jvm.Cond.instanceMethod ({ cls := cn4, name := "place", desc := cn20 } : Jvm.MethodName)) := Wd.at 423 rfl
theorem d30_192 : decode prog_48_method_1_code 192 = .ok (.iastore, 1) := by decide +kernel
theorem d30_193 : decode prog_48_method_1_code 193 = .ok (.iinc 8 1, 3) := by decide +kernel
theorem d30_196 : decode prog_48_method_1_code 196 = .ok (.goto (-39), 3) := by decide +kernel
theorem d30_199 : decode prog_48_method_1_code 199 = .ok (.aload_n 0, 1) := by decide +kernel
theorem d30_200 : decode prog_48_method_1_code 200 = .ok (.aload_n 0, 1) := by decide +kernel
theorem d30_201 : decode prog_48_method_1_code 201 = .ok (.aload 4, 2) := by decide +kernel
theorem d30_203 : decode prog_48_method_1_code 203 = .ok (.aload 6, 2) := by decide +kernel
theorem d30_205 : decode prog_48_method_1_code 205 = .ok (.aload 7, 2) := by decide +kernel
theorem d30_207 : decode prog_48_method_1_code 207 = .ok (.invokevirtual 93, 3) := by decide +kernel
theorem d30_210 : decode prog_48_method_1_code 210 = .ok (.putfield 97, 3) := by decide +kernel
theorem W466 : Wd (Jvm.Cond.fieldLink cn4 (97 : Nat) cn4 "valuePosition" "I") := Wd.at 466 rfl
theorem d30_213 : decode prog_48_method_1_code 213 = .ok (.return_, 1) := by decide +kernel
theorem d31_0 : decode jdk_44_method_2_code 0 = .ok (.aload_n 0, 1) := by decide +kernel
theorem d31_1 : decode jdk_44_method_2_code 1 = .ok (.invokespecial 1, 3) := by decide +kernel
theorem W219 : Wd (Jvm.Cond.methodLink cn12 (1 : Nat) ({ cls := "java/util/ImmutableCollections$AbstractImmutableList", name := "<init>", desc := "()V" } : Jvm.MethodName)) := Wd.at 219 rfl
theorem d31_4 : decode jdk_44_method_2_code 4 = .ok (.aload_n 0, 1) := by decide +kernel
theorem d31_5 : decode jdk_44_method_2_code 5 = .ok (.aload_n 1, 1) := by decide +kernel
theorem d31_6 : decode jdk_44_method_2_code 6 = .ok (.invokestatic 7, 3) := by decide +kernel
theorem W223 : Wd (Jvm.Cond.methodLink cn12 (7 : Nat) ({ cls := "java/util/Objects", name := "requireNonNull", desc := cn16 } : Jvm.MethodName)) := Wd.at 223 rfl
theorem d31_9 : decode jdk_44_method_2_code 9 = .ok (.putfield 13, 3) := by decide +kernel
theorem W224 : Wd (Jvm.Cond.fieldLink cn12 (13 : Nat) cn12 "e0" "Ljava/lang/Object;") := Wd.at 224 rfl
theorem d31_12 : decode jdk_44_method_2_code 12 = .ok (.aload_n 0, 1) := by decide +kernel
theorem d31_13 : decode jdk_44_method_2_code 13 = .ok (.aload_n 2, 1) := by decide +kernel
theorem d31_14 : decode jdk_44_method_2_code 14 = .ok (.invokestatic 7, 3) := by decide +kernel
theorem d31_17 : decode jdk_44_method_2_code 17 = .ok (.putfield 24, 3) := by decide +kernel
theorem W226 : Wd (Jvm.Cond.fieldLink cn12 (24 : Nat) cn12 "e1" "Ljava/lang/Object;") := Wd.at 226 rfl
theorem d31_20 : decode jdk_44_method_2_code 20 = .ok (.return_, 1) := by decide +kernel
theorem d32_0 : decode jdk_69_method_7_code 0 = .ok (.aload_n 0, 1) := by decide +kernel
theorem d32_1 : decode jdk_69_method_7_code 1 = .ok (.invokespecial 43, 3) := by decide +kernel
theorem W247 : Wd (Jvm.Cond.code ({ cls := "java/util/AbstractMap", name := "<init>", desc := "()V" } : Jvm.MethodName) jdk_71_method_1_code (1 : Nat) (Option.none : Option Jvm.ClassFile.FieldType)) := Wd.at 247 rfl
theorem W246 : Wd (Jvm.Cond.initialized "java/util/AbstractMap") := Wd.at 246 rfl
theorem W242 : Wd (Jvm.Cond.methodLink cn0 (43 : Nat) ({ cls := "java/util/AbstractMap", name := "<init>", desc := "()V" } : Jvm.MethodName)) := Wd.at 242 rfl
theorem W243 : Wd (Jvm.Cond.instanceMethod ({ cls := "java/util/AbstractMap", name := "<init>", desc := "()V" } : Jvm.MethodName)) := Wd.at 243 rfl
theorem pn_java_util_AbstractMap : plainName "java/util/AbstractMap" = true := by first | (simp [plainName, overriddenIn]; done) | decide +kernel
theorem d32_4 : decode jdk_69_method_7_code 4 = .ok (.aload_n 0, 1) := by decide +kernel
theorem d32_5 : decode jdk_69_method_7_code 5 = .ok (.ldc 92, 2) := by decide +kernel
theorem W249 : Wd (Jvm.Cond.constantFloat cn0 (92 : Nat) (1061158912 : UInt32)) := Wd.at 249 rfl
theorem d32_7 : decode jdk_69_method_7_code 7 = .ok (.putfield 81, 3) := by decide +kernel
theorem W250 : Wd (Jvm.Cond.fieldLink cn0 (81 : Nat) cn0 "loadFactor" "F") := Wd.at 250 rfl
theorem d32_10 : decode jdk_69_method_7_code 10 = .ok (.return_, 1) := by decide +kernel
theorem d33_0 : decode jdk_71_method_1_code 0 = .ok (.aload_n 0, 1) := by decide +kernel
theorem d33_1 : decode jdk_71_method_1_code 1 = .ok (.invokespecial 1, 3) := by decide +kernel
theorem W248 : Wd (Jvm.Cond.methodLink "java/util/AbstractMap" (1 : Nat) ({ cls := cn1, name := "<init>", desc := "()V" } : Jvm.MethodName)) := Wd.at 248 rfl
theorem d33_4 : decode jdk_71_method_1_code 4 = .ok (.return_, 1) := by decide +kernel
theorem d34_0 : decode prog_7_method_3_code 0 = .ok (.aload_n 0, 1) := by decide +kernel
theorem d34_1 : decode prog_7_method_3_code 1 = .ok (.getfield 19, 3) := by decide +kernel
theorem d34_4 : decode prog_7_method_3_code 4 = .ok (.areturn, 1) := by decide +kernel
theorem d35_0 : decode jdk_45_method_3_code 0 = .ok (.aload_n 0, 1) := by decide +kernel
theorem d35_1 : decode jdk_45_method_3_code 1 = .ok (.getfield 7, 3) := by decide +kernel
theorem d35_4 : decode jdk_45_method_3_code 4 = .ok (.arraylength, 1) := by decide +kernel
theorem d35_5 : decode jdk_45_method_3_code 5 = .ok (.ireturn, 1) := by decide +kernel
theorem d36_0 : decode jdk_45_method_4_code 0 = .ok (.aload_n 0, 1) := by decide +kernel
theorem d36_1 : decode jdk_45_method_4_code 1 = .ok (.getfield 7, 3) := by decide +kernel
theorem d36_4 : decode jdk_45_method_4_code 4 = .ok (.iload_n 1, 1) := by decide +kernel
theorem d36_5 : decode jdk_45_method_4_code 5 = .ok (.aaload, 1) := by decide +kernel
theorem d36_6 : decode jdk_45_method_4_code 6 = .ok (.areturn, 1) := by decide +kernel
theorem d37_0 : decode prog_69_method_4_code 0 = .ok (.aload_n 0, 1) := by decide +kernel
theorem d37_1 : decode prog_69_method_4_code 1 = .ok (.getfield 7, 3) := by decide +kernel
theorem d37_4 : decode prog_69_method_4_code 4 = .ok (.ldc 17, 2) := by decide +kernel
theorem W280 : Wd (Jvm.Cond.stringLink cn5 (17 : Nat) "_") := Wd.at 280 rfl
theorem d37_6 : decode prog_69_method_4_code 6 = .ok (.invokevirtual 19, 3) := by decide +kernel
theorem W287 : Wd (Jvm.Cond.code ({ cls := cn3, name := "equals", desc := cn9 } : Jvm.MethodName) jdk_42_method_66_code (3 : Nat) (Option.some Jvm.ClassFile.FieldType.boolean)) := Wd.at 287 rfl
theorem W283 : Wd (Jvm.Cond.methodLink cn5 (19 : Nat) ({ cls := cn3, name := "equals", desc := cn9 } : Jvm.MethodName)) := Wd.at 283 rfl
theorem W286 : Wd (Jvm.Cond.selects cn3 ({ cls := cn3, name := "equals", desc := cn9 } : Jvm.MethodName) ({ cls := cn3, name := "equals", desc := cn9 } : Jvm.MethodName)) := Wd.at 286 rfl
theorem W284 : Wd (Jvm.Cond.declares ({ cls := cn3, name := "equals", desc := cn9 } : Jvm.MethodName)) := Wd.at 284 rfl
theorem W285 : Wd (Jvm.Cond.instanceMethod ({ cls := cn3, name := "equals", desc := cn9 } : Jvm.MethodName)) := Wd.at 285 rfl
theorem d37_9 : decode prog_69_method_4_code 9 = .ok (.ireturn, 1) := by decide +kernel
theorem d38_0 : decode jdk_42_method_66_code 0 = .ok (.aload_n 0, 1) := by decide +kernel
theorem d38_1 : decode jdk_42_method_66_code 1 = .ok (.aload_n 1, 1) := by decide +kernel
theorem d38_2 : decode jdk_42_method_66_code 2 = .ok (.if_acmp .ne 5, 3) := by decide +kernel
theorem d38_7 : decode jdk_42_method_66_code 7 = .ok (.aload_n 1, 1) := by decide +kernel
theorem d38_8 : decode jdk_42_method_66_code 8 = .ok (.instanceof 10, 3) := by decide +kernel
theorem d38_11 : decode jdk_42_method_66_code 11 = .ok (.ifCond .eq 43, 3) := by decide +kernel
theorem d38_14 : decode jdk_42_method_66_code 14 = .ok (.aload_n 1, 1) := by decide +kernel
theorem d38_15 : decode jdk_42_method_66_code 15 = .ok (.checkcast 10, 3) := by decide +kernel
theorem d38_18 : decode jdk_42_method_66_code 18 = .ok (.astore_n 2, 1) := by decide +kernel
theorem d38_19 : decode jdk_42_method_66_code 19 = .ok (.getstatic 38, 3) := by decide +kernel
theorem d38_22 : decode jdk_42_method_66_code 22 = .ok (.ifCond .eq 14, 3) := by decide +kernel
theorem d38_25 : decode jdk_42_method_66_code 25 = .ok (.aload_n 0, 1) := by decide +kernel
theorem d38_26 : decode jdk_42_method_66_code 26 = .ok (.getfield 15, 3) := by decide +kernel
theorem d38_29 : decode jdk_42_method_66_code 29 = .ok (.aload_n 2, 1) := by decide +kernel
theorem d38_30 : decode jdk_42_method_66_code 30 = .ok (.getfield 15, 3) := by decide +kernel
theorem d38_33 : decode jdk_42_method_66_code 33 = .ok (.if_icmp .ne 21, 3) := by decide +kernel
theorem d38_36 : decode jdk_42_method_66_code 36 = .ok (.aload_n 0, 1) := by decide +kernel
theorem d38_37 : decode jdk_42_method_66_code 37 = .ok (.getfield 9, 3) := by decide +kernel
theorem d38_40 : decode jdk_42_method_66_code 40 = .ok (.aload_n 2, 1) := by decide +kernel
theorem d38_41 : decode jdk_42_method_66_code 41 = .ok (.getfield 9, 3) := by decide +kernel
theorem d38_44 : decode jdk_42_method_66_code 44 = .ok (.invokestatic 541, 3) := by decide +kernel
theorem W290 : Wd (Jvm.Cond.code ({ cls := "java/lang/StringLatin1", name := "equals", desc := "([B[B)Z" } : Jvm.MethodName) jdk_43_method_13_code (3 : Nat) (Option.some Jvm.ClassFile.FieldType.boolean)) := Wd.at 290 rfl
theorem W288 : Wd (Jvm.Cond.methodLink cn3 (541 : Nat) ({ cls := "java/lang/StringLatin1", name := "equals", desc := "([B[B)Z" } : Jvm.MethodName)) := Wd.at 288 rfl
theorem pd__B_B_Z : parseMethodDescriptor "([B[B)Z" = some ⟨[(.array .byte), (.array .byte)], some .boolean⟩ := by decide +kernel
theorem W289 : Wd (Jvm.Cond.static ({ cls := "java/lang/StringLatin1", name := "equals", desc := "([B[B)Z" } : Jvm.MethodName)) := Wd.at 289 rfl
theorem d38_47 : decode jdk_42_method_66_code 47 = .ok (.ifCond .eq 7, 3) := by decide +kernel
theorem d38_54 : decode jdk_42_method_66_code 54 = .ok (.iconst 0, 1) := by decide +kernel
theorem d38_55 : decode jdk_42_method_66_code 55 = .ok (.ireturn, 1) := by decide +kernel
theorem d39_0 : decode jdk_43_method_13_code 0 = .ok (.aload_n 0, 1) := by decide +kernel
theorem d39_1 : decode jdk_43_method_13_code 1 = .ok (.arraylength, 1) := by decide +kernel
theorem d39_2 : decode jdk_43_method_13_code 2 = .ok (.aload_n 1, 1) := by decide +kernel
theorem d39_3 : decode jdk_43_method_13_code 3 = .ok (.arraylength, 1) := by decide +kernel
theorem d39_4 : decode jdk_43_method_13_code 4 = .ok (.if_icmp .ne 30, 3) := by decide +kernel
theorem d39_7 : decode jdk_43_method_13_code 7 = .ok (.iconst 0, 1) := by decide +kernel
theorem d39_8 : decode jdk_43_method_13_code 8 = .ok (.istore_n 2, 1) := by decide +kernel
theorem d39_9 : decode jdk_43_method_13_code 9 = .ok (.iload_n 2, 1) := by decide +kernel
theorem d39_10 : decode jdk_43_method_13_code 10 = .ok (.aload_n 0, 1) := by decide +kernel
theorem d39_11 : decode jdk_43_method_13_code 11 = .ok (.arraylength, 1) := by decide +kernel
theorem d39_12 : decode jdk_43_method_13_code 12 = .ok (.if_icmp .ge 20, 3) := by decide +kernel
theorem d39_15 : decode jdk_43_method_13_code 15 = .ok (.aload_n 0, 1) := by decide +kernel
theorem d39_16 : decode jdk_43_method_13_code 16 = .ok (.iload_n 2, 1) := by decide +kernel
theorem d39_17 : decode jdk_43_method_13_code 17 = .ok (.baload, 1) := by decide +kernel
theorem d39_18 : decode jdk_43_method_13_code 18 = .ok (.aload_n 1, 1) := by decide +kernel
theorem d39_19 : decode jdk_43_method_13_code 19 = .ok (.iload_n 2, 1) := by decide +kernel
theorem d39_20 : decode jdk_43_method_13_code 20 = .ok (.baload, 1) := by decide +kernel
theorem d39_21 : decode jdk_43_method_13_code 21 = .ok (.if_icmp .eq 5, 3) := by decide +kernel
theorem d39_24 : decode jdk_43_method_13_code 24 = .ok (.iconst 0, 1) := by decide +kernel
theorem d39_25 : decode jdk_43_method_13_code 25 = .ok (.ireturn, 1) := by decide +kernel
theorem d40_0 : decode prog_69_method_2_code 0 = .ok (.aload_n 0, 1) := by decide +kernel
theorem d40_1 : decode prog_69_method_2_code 1 = .ok (.getfield 7, 3) := by decide +kernel
theorem d40_4 : decode prog_69_method_2_code 4 = .ok (.areturn, 1) := by decide +kernel
theorem d41_0 : decode jdk_33_method_22_code 0 = .ok (.iload_n 0, 1) := by decide +kernel
theorem d41_1 : decode jdk_33_method_22_code 1 = .ok (.bipush (-128), 2) := by decide +kernel
theorem d41_3 : decode jdk_33_method_22_code 3 = .ok (.if_icmp .lt 20, 3) := by decide +kernel
theorem d41_6 : decode jdk_33_method_22_code 6 = .ok (.iload_n 0, 1) := by decide +kernel
theorem d41_7 : decode jdk_33_method_22_code 7 = .ok (.getstatic 191, 3) := by decide +kernel
theorem W300 : Wd (Jvm.Cond.fieldLink cn11 (191 : Nat) "java/lang/Integer$IntegerCache" "high" "I") := Wd.at 300 rfl
theorem d41_10 : decode jdk_33_method_22_code 10 = .ok (.if_icmp .gt 13, 3) := by decide +kernel
theorem d41_13 : decode jdk_33_method_22_code 13 = .ok (.getstatic 195, 3) := by decide +kernel
theorem W302 : Wd (Jvm.Cond.fieldLink cn11 (195 : Nat) "java/lang/Integer$IntegerCache" "cache" "[Ljava/lang/Integer;") := Wd.at 302 rfl
theorem d41_16 : decode jdk_33_method_22_code 16 = .ok (.iload_n 0, 1) := by decide +kernel
theorem d41_17 : decode jdk_33_method_22_code 17 = .ok (.sipush 128, 3) := by decide +kernel
theorem d41_20 : decode jdk_33_method_22_code 20 = .ok (.iadd, 1) := by decide +kernel
theorem d41_21 : decode jdk_33_method_22_code 21 = .ok (.aaload, 1) := by decide +kernel
theorem d41_22 : decode jdk_33_method_22_code 22 = .ok (.areturn, 1) := by decide +kernel
theorem d42_0 : decode jdk_69_method_31_code 0 = .ok (.aload_n 0, 1) := by decide +kernel
theorem d42_1 : decode jdk_69_method_31_code 1 = .ok (.aload_n 1, 1) := by decide +kernel
theorem d42_2 : decode jdk_69_method_31_code 2 = .ok (.invokestatic 149, 3) := by decide +kernel
theorem W314 : Wd (Jvm.Cond.code ({ cls := cn0, name := "hash", desc := "(Ljava/lang/Object;)I" } : Jvm.MethodName) jdk_69_method_1_code (2 : Nat) (Option.some Jvm.ClassFile.FieldType.int)) := Wd.at 314 rfl
theorem W312 : Wd (Jvm.Cond.methodLink cn0 (149 : Nat) ({ cls := cn0, name := "hash", desc := "(Ljava/lang/Object;)I" } : Jvm.MethodName)) := Wd.at 312 rfl
theorem pd__Ljava_lang_Object_I : parseMethodDescriptor "(Ljava/lang/Object;)I" = some ⟨[(.object "java/lang/Object")], some .int⟩ := by decide +kernel
theorem W313 : Wd (Jvm.Cond.static ({ cls := cn0, name := "hash", desc := "(Ljava/lang/Object;)I" } : Jvm.MethodName)) := Wd.at 313 rfl
theorem d42_5 : decode jdk_69_method_31_code 5 = .ok (.aload_n 1, 1) := by decide +kernel
theorem d42_6 : decode jdk_69_method_31_code 6 = .ok (.aload_n 2, 1) := by decide +kernel
theorem d42_7 : decode jdk_69_method_31_code 7 = .ok (.iconst 1, 1) := by decide +kernel
theorem d42_8 : decode jdk_69_method_31_code 8 = .ok (.iconst 1, 1) := by decide +kernel
theorem d42_9 : decode jdk_69_method_31_code 9 = .ok (.invokevirtual 152, 3) := by decide +kernel
theorem W337 : Wd (Jvm.Cond.code ({ cls := cn0, name := "putVal", desc := cn18 } : Jvm.MethodName) jdk_69_method_16_code (13 : Nat) (Option.some (Jvm.ClassFile.FieldType.object cn1))) := Wd.at 337 rfl
theorem W333 : Wd (Jvm.Cond.methodLink cn0 (152 : Nat) ({ cls := cn0, name := "putVal", desc := cn18 } : Jvm.MethodName)) := Wd.at 333 rfl
theorem pd__ILjava_lang_Object_Ljava_lang_Object_ZZ_Ljava_lang_Object_ : parseMethodDescriptor "(ILjava/lang/Object;Ljava/lang/Object;ZZ)Ljava/lang/Object;" = some ⟨[.int, (.object "java/lang/Object"), (.object "java/lang/Object"), .boolean, .boolean], some (.object "java/lang/Object")⟩ := by decide +kernel
theorem W336 : Wd (Jvm.Cond.selects cn0 ({ cls := cn0, name := "putVal", desc := cn18 } : Jvm.MethodName) ({ cls := cn0, name := "putVal", desc := cn18 } : Jvm.MethodName)) := Wd.at 336 rfl
theorem W334 : Wd (Jvm.Cond.declares ({ cls := cn0, name := "putVal", desc := cn18 } : Jvm.MethodName)) := Wd.at 334 rfl
theorem W335 : Wd (Jvm.Cond.instanceMethod ({ cls := cn0, name := "putVal", desc := cn18 } : Jvm.MethodName)) := Wd.at 335 rfl
theorem d42_12 : decode jdk_69_method_31_code 12 = .ok (.areturn, 1) := by decide +kernel
theorem d43_0 : decode jdk_69_method_1_code 0 = .ok (.aload_n 0, 1) := by decide +kernel
theorem d43_1 : decode jdk_69_method_1_code 1 = .ok (.ifnonnull 7, 3) := by decide +kernel
theorem d43_8 : decode jdk_69_method_1_code 8 = .ok (.aload_n 0, 1) := by decide +kernel
theorem d43_9 : decode jdk_69_method_1_code 9 = .ok (.invokevirtual 1, 3) := by decide +kernel
theorem W320 : Wd (Jvm.Cond.code ({ cls := cn3, name := "hashCode", desc := "()I" } : Jvm.MethodName) jdk_42_method_78_code (2 : Nat) (Option.some Jvm.ClassFile.FieldType.int)) := Wd.at 320 rfl
theorem W315 : Wd (Jvm.Cond.methodLink cn0 (1 : Nat) ({ cls := cn1, name := "hashCode", desc := "()I" } : Jvm.MethodName)) := Wd.at 315 rfl
theorem W316 : Wd (Jvm.Cond.declares ({ cls := cn1, name := "hashCode", desc := "()I" } : Jvm.MethodName)) := Wd.at 316 rfl
theorem W318 : Wd (Jvm.Cond.selects cn3 ({ cls := cn1, name := "hashCode", desc := "()I" } : Jvm.MethodName) ({ cls := cn3, name := "hashCode", desc := "()I" } : Jvm.MethodName)) := Wd.at 318 rfl
theorem W319 : Wd (Jvm.Cond.instanceMethod ({ cls := cn3, name := "hashCode", desc := "()I" } : Jvm.MethodName)) := Wd.at 319 rfl
theorem d43_12 : decode jdk_69_method_1_code 12 = .ok (.dup, 1) := by decide +kernel
theorem d43_13 : decode jdk_69_method_1_code 13 = .ok (.istore_n 1, 1) := by decide +kernel
theorem d43_14 : decode jdk_69_method_1_code 14 = .ok (.iload_n 1, 1) := by decide +kernel
theorem d43_15 : decode jdk_69_method_1_code 15 = .ok (.bipush 16, 2) := by decide +kernel
theorem d43_17 : decode jdk_69_method_1_code 17 = .ok (.iushr, 1) := by decide +kernel
theorem d43_18 : decode jdk_69_method_1_code 18 = .ok (.ixor, 1) := by decide +kernel
theorem d43_19 : decode jdk_69_method_1_code 19 = .ok (.ireturn, 1) := by decide +kernel
theorem d44_0 : decode jdk_42_method_78_code 0 = .ok (.aload_n 0, 1) := by decide +kernel
theorem d44_1 : decode jdk_42_method_78_code 1 = .ok (.getfield 19, 3) := by decide +kernel
theorem W321 : Wd (Jvm.Cond.fieldLink cn3 (19 : Nat) cn3 "hash" "I") := Wd.at 321 rfl
theorem d44_4 : decode jdk_42_method_78_code 4 = .ok (.istore_n 1, 1) := by decide +kernel
theorem d44_5 : decode jdk_42_method_78_code 5 = .ok (.iload_n 1, 1) := by decide +kernel
theorem d44_6 : decode jdk_42_method_78_code 6 = .ok (.ifCond .ne 52, 3) := by decide +kernel
theorem d44_9 : decode jdk_42_method_78_code 9 = .ok (.aload_n 0, 1) := by decide +kernel
theorem d44_10 : decode jdk_42_method_78_code 10 = .ok (.getfield 23, 3) := by decide +kernel
theorem W323 : Wd (Jvm.Cond.fieldLink cn3 (23 : Nat) cn3 "hashIsZero" "Z") := Wd.at 323 rfl
theorem d44_13 : decode jdk_42_method_78_code 13 = .ok (.ifCond .ne 45, 3) := by decide +kernel
theorem d44_16 : decode jdk_42_method_78_code 16 = .ok (.aload_n 0, 1) := by decide +kernel
theorem d44_17 : decode jdk_42_method_78_code 17 = .ok (.invokevirtual 492, 3) := by decide +kernel
theorem W329 : Wd (Jvm.Cond.code ({ cls := cn3, name := "isLatin1", desc := "()Z" } : Jvm.MethodName) jdk_42_method_154_code (1 : Nat) (Option.some Jvm.ClassFile.FieldType.boolean)) := Wd.at 329 rfl
theorem W325 : Wd (Jvm.Cond.methodLink cn3 (492 : Nat) ({ cls := cn3, name := "isLatin1", desc := "()Z" } : Jvm.MethodName)) := Wd.at 325 rfl
theorem W328 : Wd (Jvm.Cond.selects cn3 ({ cls := cn3, name := "isLatin1", desc := "()Z" } : Jvm.MethodName) ({ cls := cn3, name := "isLatin1", desc := "()Z" } : Jvm.MethodName)) := Wd.at 328 rfl
theorem W326 : Wd (Jvm.Cond.declares ({ cls := cn3, name := "isLatin1", desc := "()Z" } : Jvm.MethodName)) := Wd.at 326 rfl
theorem W327 : Wd (Jvm.Cond.instanceMethod ({ cls := cn3, name := "isLatin1", desc := "()Z" } : Jvm.MethodName)) := Wd.at 327 rfl
theorem d44_20 : decode jdk_42_method_78_code 20 = .ok (.ifCond .eq 13, 3) := by decide +kernel
theorem d44_23 : decode jdk_42_method_78_code 23 = .ok (.aload_n 0, 1) := by decide +kernel
theorem d44_24 : decode jdk_42_method_78_code 24 = .ok (.getfield 9, 3) := by decide +kernel
theorem d44_27 : decode jdk_42_method_78_code 27 = .ok (.invokestatic 628, 3) := by decide +kernel
theorem W332 : Wd (Jvm.Cond.code ({ cls := "java/lang/StringLatin1", name := "hashCode", desc := "([B)I" } : Jvm.MethodName) jdk_43_method_21_code (1 : Nat) (Option.some Jvm.ClassFile.FieldType.int)) := Wd.at 332 rfl
theorem W330 : Wd (Jvm.Cond.methodLink cn3 (628 : Nat) ({ cls := "java/lang/StringLatin1", name := "hashCode", desc := "([B)I" } : Jvm.MethodName)) := Wd.at 330 rfl
theorem pd__B_I : parseMethodDescriptor "([B)I" = some ⟨[(.array .byte)], some .int⟩ := by decide +kernel
theorem W331 : Wd (Jvm.Cond.static ({ cls := "java/lang/StringLatin1", name := "hashCode", desc := "([B)I" } : Jvm.MethodName)) := Wd.at 331 rfl
theorem d44_30 : decode jdk_42_method_78_code 30 = .ok (.goto 10, 3) := by decide +kernel
theorem d44_40 : decode jdk_42_method_78_code 40 = .ok (.istore_n 1, 1) := by decide +kernel
theorem d44_41 : decode jdk_42_method_78_code 41 = .ok (.iload_n 1, 1) := by decide +kernel
theorem d44_42 : decode jdk_42_method_78_code 42 = .ok (.ifCond .ne 11, 3) := by decide +kernel
theorem d44_53 : decode jdk_42_method_78_code 53 = .ok (.aload_n 0, 1) := by decide +kernel
theorem d44_54 : decode jdk_42_method_78_code 54 = .ok (.iload_n 1, 1) := by decide +kernel
theorem d44_55 : decode jdk_42_method_78_code 55 = .ok (.putfield 19, 3) := by decide +kernel
theorem d44_58 : decode jdk_42_method_78_code 58 = .ok (.iload_n 1, 1) := by decide +kernel
theorem d44_59 : decode jdk_42_method_78_code 59 = .ok (.ireturn, 1) := by decide +kernel
theorem d45_0 : decode jdk_42_method_154_code 0 = .ok (.getstatic 38, 3) := by decide +kernel
theorem d45_3 : decode jdk_42_method_154_code 3 = .ok (.ifCond .eq 14, 3) := by decide +kernel
theorem d45_6 : decode jdk_42_method_154_code 6 = .ok (.aload_n 0, 1) := by decide +kernel
theorem d45_7 : decode jdk_42_method_154_code 7 = .ok (.getfield 15, 3) := by decide +kernel
theorem d45_10 : decode jdk_42_method_154_code 10 = .ok (.ifCond .ne 7, 3) := by decide +kernel
theorem d45_13 : decode jdk_42_method_154_code 13 = .ok (.iconst 1, 1) := by decide +kernel
theorem d45_14 : decode jdk_42_method_154_code 14 = .ok (.goto 4, 3) := by decide +kernel
theorem d45_18 : decode jdk_42_method_154_code 18 = .ok (.ireturn, 1) := by decide +kernel
theorem d46_0 : decode jdk_43_method_21_code 0 = .ok (.aload_n 0, 1) := by decide +kernel
theorem d46_1 : decode jdk_43_method_21_code 1 = .ok (.arraylength, 1) := by decide +kernel
theorem d46_2 : decode jdk_43_method_21_code 2 = .ok (.lookupswitch 40 #[(0, 26), (1, 30)], 26) := by decide +kernel
theorem d46_32 : decode jdk_43_method_21_code 32 = .ok (.aload_n 0, 1) := by decide +kernel
theorem d46_33 : decode jdk_43_method_21_code 33 = .ok (.iconst 0, 1) := by decide +kernel
theorem d46_34 : decode jdk_43_method_21_code 34 = .ok (.baload, 1) := by decide +kernel
theorem d46_35 : decode jdk_43_method_21_code 35 = .ok (.sipush 255, 3) := by decide +kernel
theorem d46_38 : decode jdk_43_method_21_code 38 = .ok (.iand, 1) := by decide +kernel
theorem d46_39 : decode jdk_43_method_21_code 39 = .ok (.goto 12, 3) := by decide +kernel
theorem d46_51 : decode jdk_43_method_21_code 51 = .ok (.ireturn, 1) := by decide +kernel
theorem d47_0 : decode jdk_69_method_16_code 0 = .ok (.aload_n 0, 1) := by decide +kernel
theorem d47_1 : decode jdk_69_method_16_code 1 = .ok (.getfield 105, 3) := by decide +kernel
theorem W338 : Wd (Jvm.Cond.fieldLink cn0 (105 : Nat) cn0 "table" "[Ljava/util/HashMap$Node;") := Wd.at 338 rfl
theorem d47_4 : decode jdk_69_method_16_code 4 = .ok (.dup, 1) := by decide +kernel
theorem d47_5 : decode jdk_69_method_16_code 5 = .ok (.astore 6, 2) := by decide +kernel
theorem d47_7 : decode jdk_69_method_16_code 7 = .ok (.ifnull 12, 3) := by decide +kernel
theorem d47_10 : decode jdk_69_method_16_code 10 = .ok (.aload 6, 2) := by decide +kernel
theorem d47_12 : decode jdk_69_method_16_code 12 = .ok (.arraylength, 1) := by decide +kernel
theorem d47_13 : decode jdk_69_method_16_code 13 = .ok (.dup, 1) := by decide +kernel
theorem d47_14 : decode jdk_69_method_16_code 14 = .ok (.istore 8, 2) := by decide +kernel
theorem d47_16 : decode jdk_69_method_16_code 16 = .ok (.ifCond .ne 13, 3) := by decide +kernel
theorem d47_19 : decode jdk_69_method_16_code 19 = .ok (.aload_n 0, 1) := by decide +kernel
theorem d47_20 : decode jdk_69_method_16_code 20 = .ok (.invokevirtual 117, 3) := by decide +kernel
theorem W344 : Wd (Jvm.Cond.code ({ cls := cn0, name := "resize", desc := "()[Ljava/util/HashMap$Node;" } : Jvm.MethodName) jdk_69_method_17_code (14 : Nat) (Option.some (Jvm.ClassFile.FieldType.array (Jvm.ClassFile.FieldType.object cn6)))) := Wd.at 344 rfl
theorem W340 : Wd (Jvm.Cond.methodLink cn0 (117 : Nat) ({ cls := cn0, name := "resize", desc := "()[Ljava/util/HashMap$Node;" } : Jvm.MethodName)) := Wd.at 340 rfl
theorem pd___Ljava_util_HashMap_Node_ : parseMethodDescriptor "()[Ljava/util/HashMap$Node;" = some ⟨[], some (.array (.object "java/util/HashMap$Node"))⟩ := by decide +kernel
theorem W343 : Wd (Jvm.Cond.selects cn0 ({ cls := cn0, name := "resize", desc := "()[Ljava/util/HashMap$Node;" } : Jvm.MethodName) ({ cls := cn0, name := "resize", desc := "()[Ljava/util/HashMap$Node;" } : Jvm.MethodName)) := Wd.at 343 rfl
theorem W341 : Wd (Jvm.Cond.declares ({ cls := cn0, name := "resize", desc := "()[Ljava/util/HashMap$Node;" } : Jvm.MethodName)) := Wd.at 341 rfl
theorem W342 : Wd (Jvm.Cond.instanceMethod ({ cls := cn0, name := "resize", desc := "()[Ljava/util/HashMap$Node;" } : Jvm.MethodName)) := Wd.at 342 rfl
theorem d47_23 : decode jdk_69_method_16_code 23 = .ok (.dup, 1) := by decide +kernel
theorem d47_24 : decode jdk_69_method_16_code 24 = .ok (.astore 6, 2) := by decide +kernel
theorem d47_26 : decode jdk_69_method_16_code 26 = .ok (.arraylength, 1) := by decide +kernel
theorem d47_27 : decode jdk_69_method_16_code 27 = .ok (.istore 8, 2) := by decide +kernel
theorem d47_29 : decode jdk_69_method_16_code 29 = .ok (.aload 6, 2) := by decide +kernel
theorem d47_31 : decode jdk_69_method_16_code 31 = .ok (.iload 8, 2) := by decide +kernel
theorem d47_33 : decode jdk_69_method_16_code 33 = .ok (.iconst 1, 1) := by decide +kernel
theorem d47_34 : decode jdk_69_method_16_code 34 = .ok (.isub, 1) := by decide +kernel
theorem d47_35 : decode jdk_69_method_16_code 35 = .ok (.iload_n 1, 1) := by decide +kernel
theorem d47_36 : decode jdk_69_method_16_code 36 = .ok (.iand, 1) := by decide +kernel
theorem d47_37 : decode jdk_69_method_16_code 37 = .ok (.dup, 1) := by decide +kernel
theorem d47_38 : decode jdk_69_method_16_code 38 = .ok (.istore 9, 2) := by decide +kernel
theorem d47_40 : decode jdk_69_method_16_code 40 = .ok (.aaload, 1) := by decide +kernel
theorem d47_41 : decode jdk_69_method_16_code 41 = .ok (.dup, 1) := by decide +kernel
theorem d47_42 : decode jdk_69_method_16_code 42 = .ok (.astore 7, 2) := by decide +kernel
theorem d47_44 : decode jdk_69_method_16_code 44 = .ok (.ifnonnull 19, 3) := by decide +kernel
theorem d47_47 : decode jdk_69_method_16_code 47 = .ok (.aload 6, 2) := by decide +kernel
theorem d47_49 : decode jdk_69_method_16_code 49 = .ok (.iload 9, 2) := by decide +kernel
theorem d47_51 : decode jdk_69_method_16_code 51 = .ok (.aload_n 0, 1) := by decide +kernel
theorem d47_52 : decode jdk_69_method_16_code 52 = .ok (.iload_n 1, 1) := by decide +kernel
theorem d47_53 : decode jdk_69_method_16_code 53 = .ok (.aload_n 2, 1) := by decide +kernel
theorem d47_54 : decode jdk_69_method_16_code 54 = .ok (.aload_n 3, 1) := by decide +kernel
theorem d47_55 : decode jdk_69_method_16_code 55 = .ok (.aconst_null, 1) := by decide +kernel
theorem d47_56 : decode jdk_69_method_16_code 56 = .ok (.invokevirtual 186, 3) := by decide +kernel
theorem W353 : Wd (Jvm.Cond.code ({ cls := cn0, name := "newNode", desc := cn19 } : Jvm.MethodName) jdk_69_method_46_code (5 : Nat) (Option.some (Jvm.ClassFile.FieldType.object cn6))) := Wd.at 353 rfl
theorem W349 : Wd (Jvm.Cond.methodLink cn0 (186 : Nat) ({ cls := cn0, name := "newNode", desc := cn19 } : Jvm.MethodName)) := Wd.at 349 rfl
theorem pd__ILjava_lang_Object_Ljava_lang_Object_Ljava_util_HashMap_Node_Ljava_util_HashMap_Node_ : parseMethodDescriptor "(ILjava/lang/Object;Ljava/lang/Object;Ljava/util/HashMap$Node;)Ljava/util/HashMap$Node;" = some ⟨[.int, (.object "java/lang/Object"), (.object "java/lang/Object"), (.object "java/util/HashMap$Node")], some (.object "java/util/HashMap$Node")⟩ := by decide +kernel
theorem W352 : Wd (Jvm.Cond.selects cn0 ({ cls := cn0, name := "newNode", desc := cn19 } : Jvm.MethodName) ({ cls := cn0, name := "newNode", desc := cn19 } : Jvm.MethodName)) := Wd.at 352 rfl
theorem W350 : Wd (Jvm.Cond.declares ({ cls := cn0, name := "newNode", desc := cn19 } : Jvm.MethodName)) := Wd.at 350 rfl
theorem W351 : Wd (Jvm.Cond.instanceMethod ({ cls := cn0, name := "newNode", desc := cn19 } : Jvm.MethodName)) := Wd.at 351 rfl
theorem d47_59 : decode jdk_69_method_16_code 59 = .ok (.aastore, 1) := by decide +kernel
theorem d47_60 : decode jdk_69_method_16_code 60 = .ok (.goto 199, 3) := by decide +kernel
theorem d47_259 : decode jdk_69_method_16_code 259 = .ok (.aload_n 0, 1) := by decide +kernel
theorem d47_260 : decode jdk_69_method_16_code 260 = .ok (.dup, 1) := by decide +kernel
theorem d47_261 : decode jdk_69_method_16_code 261 = .ok (.getfield 202, 3) := by decide +kernel
theorem W369 : Wd (Jvm.Cond.fieldLink cn0 (202 : Nat) cn0 "modCount" "I") := Wd.at 369 rfl
theorem d47_264 : decode jdk_69_method_16_code 264 = .ok (.iconst 1, 1) := by decide +kernel
theorem d47_265 : decode jdk_69_method_16_code 265 = .ok (.iadd, 1) := by decide +kernel
theorem d47_266 : decode jdk_69_method_16_code 266 = .ok (.putfield 202, 3) := by decide +kernel
theorem d47_269 : decode jdk_69_method_16_code 269 = .ok (.aload_n 0, 1) := by decide +kernel
theorem d47_270 : decode jdk_69_method_16_code 270 = .ok (.dup, 1) := by decide +kernel
theorem d47_271 : decode jdk_69_method_16_code 271 = .ok (.getfield 156, 3) := by decide +kernel
theorem W371 : Wd (Jvm.Cond.fieldLink cn0 (156 : Nat) cn0 "size" "I") := Wd.at 371 rfl
theorem d47_274 : decode jdk_69_method_16_code 274 = .ok (.iconst 1, 1) := by decide +kernel
theorem d47_275 : decode jdk_69_method_16_code 275 = .ok (.iadd, 1) := by decide +kernel
theorem d47_276 : decode jdk_69_method_16_code 276 = .ok (.dup_x1, 1) := by decide +kernel
theorem d47_277 : decode jdk_69_method_16_code 277 = .ok (.putfield 156, 3) := by decide +kernel
theorem d47_280 : decode jdk_69_method_16_code 280 = .ok (.aload_n 0, 1) := by decide +kernel
theorem d47_281 : decode jdk_69_method_16_code 281 = .ok (.getfield 88, 3) := by decide +kernel
theorem W345 : Wd (Jvm.Cond.fieldLink cn0 (88 : Nat) cn0 "threshold" "I") := Wd.at 345 rfl
theorem d47_284 : decode jdk_69_method_16_code 284 = .ok (.if_icmp .le 8, 3) := by decide +kernel
theorem d47_292 : decode jdk_69_method_16_code 292 = .ok (.aload_n 0, 1) := by decide +kernel
theorem d47_293 : decode jdk_69_method_16_code 293 = .ok (.iload 5, 2) := by decide +kernel
theorem d47_295 : decode jdk_69_method_16_code 295 = .ok (.invokevirtual 205, 3) := by decide +kernel
theorem W377 : Wd (Jvm.Cond.code ({ cls := cn0, name := "afterNodeInsertion", desc := "(Z)V" } : Jvm.MethodName) jdk_69_method_52_code (2 : Nat) (Option.none : Option Jvm.ClassFile.FieldType)) := Wd.at 377 rfl
theorem W373 : Wd (Jvm.Cond.methodLink cn0 (205 : Nat) ({ cls := cn0, name := "afterNodeInsertion", desc := "(Z)V" } : Jvm.MethodName)) := Wd.at 373 rfl
theorem pd__Z_V : parseMethodDescriptor "(Z)V" = some ⟨[.boolean], none⟩ := by decide +kernel
theorem W376 : Wd (Jvm.Cond.selects cn0 ({ cls := cn0, name := "afterNodeInsertion", desc := "(Z)V" } : Jvm.MethodName) ({ cls := cn0, name := "afterNodeInsertion", desc := "(Z)V" } : Jvm.MethodName)) := Wd.at 376 rfl
theorem W374 : Wd (Jvm.Cond.declares ({ cls := cn0, name := "afterNodeInsertion", desc := "(Z)V" } : Jvm.MethodName)) := Wd.at 374 rfl
theorem W375 : Wd (Jvm.Cond.instanceMethod ({ cls := cn0, name := "afterNodeInsertion", desc := "(Z)V" } : Jvm.MethodName)) := Wd.at 375 rfl
theorem d47_298 : decode jdk_69_method_16_code 298 = .ok (.aconst_null, 1) := by decide +kernel
theorem d47_299 : decode jdk_69_method_16_code 299 = .ok (.areturn, 1) := by decide +kernel
theorem d48_0 : decode jdk_69_method_17_code 0 = .ok (.aload_n 0, 1) := by decide +kernel
theorem d48_1 : decode jdk_69_method_17_code 1 = .ok (.getfield 105, 3) := by decide +kernel
theorem d48_4 : decode jdk_69_method_17_code 4 = .ok (.astore_n 1, 1) := by decide +kernel
theorem d48_5 : decode jdk_69_method_17_code 5 = .ok (.aload_n 1, 1) := by decide +kernel
theorem d48_6 : decode jdk_69_method_17_code 6 = .ok (.ifnonnull 7, 3) := by decide +kernel
theorem d48_9 : decode jdk_69_method_17_code 9 = .ok (.iconst 0, 1) := by decide +kernel
theorem d48_10 : decode jdk_69_method_17_code 10 = .ok (.goto 5, 3) := by decide +kernel
theorem d48_15 : decode jdk_69_method_17_code 15 = .ok (.istore_n 2, 1) := by decide +kernel
theorem d48_16 : decode jdk_69_method_17_code 16 = .ok (.aload_n 0, 1) := by decide +kernel
theorem d48_17 : decode jdk_69_method_17_code 17 = .ok (.getfield 88, 3) := by decide +kernel
theorem d48_20 : decode jdk_69_method_17_code 20 = .ok (.istore_n 3, 1) := by decide +kernel
theorem d48_21 : decode jdk_69_method_17_code 21 = .ok (.iconst 0, 1) := by decide +kernel
theorem d48_22 : decode jdk_69_method_17_code 22 = .ok (.istore 5, 2) := by decide +kernel
theorem d48_24 : decode jdk_69_method_17_code 24 = .ok (.iload_n 2, 1) := by decide +kernel
theorem d48_25 : decode jdk_69_method_17_code 25 = .ok (.ifCond .le 42, 3) := by decide +kernel
theorem d48_67 : decode jdk_69_method_17_code 67 = .ok (.iload_n 3, 1) := by decide +kernel
theorem d48_68 : decode jdk_69_method_17_code 68 = .ok (.ifCond .le 9, 3) := by decide +kernel
theorem d48_77 : decode jdk_69_method_17_code 77 = .ok (.bipush 16, 2) := by decide +kernel
theorem d48_79 : decode jdk_69_method_17_code 79 = .ok (.istore 4, 2) := by decide +kernel
theorem d48_81 : decode jdk_69_method_17_code 81 = .ok (.bipush 12, 2) := by decide +kernel
theorem d48_83 : decode jdk_69_method_17_code 83 = .ok (.istore 5, 2) := by decide +kernel
theorem d48_85 : decode jdk_69_method_17_code 85 = .ok (.iload 5, 2) := by decide +kernel
theorem d48_87 : decode jdk_69_method_17_code 87 = .ok (.ifCond .ne 38, 3) := by decide +kernel
theorem d48_125 : decode jdk_69_method_17_code 125 = .ok (.aload_n 0, 1) := by decide +kernel
theorem d48_126 : decode jdk_69_method_17_code 126 = .ok (.iload 5, 2) := by decide +kernel
theorem d48_128 : decode jdk_69_method_17_code 128 = .ok (.putfield 88, 3) := by decide +kernel
theorem d48_131 : decode jdk_69_method_17_code 131 = .ok (.iload 4, 2) := by decide +kernel
theorem d48_133 : decode jdk_69_method_17_code 133 = .ok (.anewarray 163, 3) := by decide +kernel
theorem W347 : Wd (Jvm.Cond.classLink cn0 (163 : Nat) cn6) := Wd.at 347 rfl
theorem W348 : Wd (Jvm.Cond.arrayOver (Jvm.ClassFile.FieldType.object cn6)) := Wd.at 348 rfl
theorem d48_136 : decode jdk_69_method_17_code 136 = .ok (.astore 6, 2) := by decide +kernel
theorem d48_138 : decode jdk_69_method_17_code 138 = .ok (.aload_n 0, 1) := by decide +kernel
theorem d48_139 : decode jdk_69_method_17_code 139 = .ok (.aload 6, 2) := by decide +kernel
theorem d48_141 : decode jdk_69_method_17_code 141 = .ok (.putfield 105, 3) := by decide +kernel
theorem d48_144 : decode jdk_69_method_17_code 144 = .ok (.aload_n 1, 1) := by decide +kernel
theorem d48_145 : decode jdk_69_method_17_code 145 = .ok (.ifnull 208, 3) := by decide +kernel
theorem d48_353 : decode jdk_69_method_17_code 353 = .ok (.aload 6, 2) := by decide +kernel
theorem d48_355 : decode jdk_69_method_17_code 355 = .ok (.areturn, 1) := by decide +kernel
theorem d49_0 : decode jdk_69_method_46_code 0 = .ok (.new 163, 3) := by decide +kernel
theorem W354 : Wd (Jvm.Cond.instantiable cn6 (4 : Nat)) := Wd.at 354 rfl
theorem W355 : Wd (Jvm.Cond.initialized cn6) := Wd.at 355 rfl
theorem d49_3 : decode jdk_69_method_46_code 3 = .ok (.dup, 1) := by decide +kernel
theorem d49_4 : decode jdk_69_method_46_code 4 = .ok (.iload_n 1, 1) := by decide +kernel
theorem d49_5 : decode jdk_69_method_46_code 5 = .ok (.aload_n 2, 1) := by decide +kernel
theorem d49_6 : decode jdk_69_method_46_code 6 = .ok (.aload_n 3, 1) := by decide +kernel
theorem d49_7 : decode jdk_69_method_46_code 7 = .ok (.aload 4, 2) := by decide +kernel
theorem d49_9 : decode jdk_69_method_46_code 9 = .ok (.invokespecial 375, 3) := by decide +kernel
theorem W359 : Wd (Jvm.Cond.code ({ cls := cn6, name := "<init>", desc := "(ILjava/lang/Object;Ljava/lang/Object;Ljava/util/HashMap$Node;)V" } : Jvm.MethodName) jdk_70_method_1_code (5 : Nat) (Option.none : Option Jvm.ClassFile.FieldType)) := Wd.at 359 rfl
theorem W356 : Wd (Jvm.Cond.methodLink cn0 (375 : Nat) ({ cls := cn6, name := "<init>", desc := "(ILjava/lang/Object;Ljava/lang/Object;Ljava/util/HashMap$Node;)V" } : Jvm.MethodName)) := Wd.at 356 rfl
theorem pd__ILjava_lang_Object_Ljava_lang_Object_Ljava_util_HashMap_Node_V : parseMethodDescriptor "(ILjava/lang/Object;Ljava/lang/Object;Ljava/util/HashMap$Node;)V" = some ⟨[.int, (.object "java/lang/Object"), (.object "java/lang/Object"), (.object "java/util/HashMap$Node")], none⟩ := by decide +kernel
theorem W357 : Wd (Jvm.Cond.instanceMethod ({ cls := cn6, name := "<init>", desc := "(ILjava/lang/Object;Ljava/lang/Object;Ljava/util/HashMap$Node;)V" } : Jvm.MethodName)) := Wd.at 357 rfl
theorem pn_java_util_HashMap_Node : plainName "java/util/HashMap$Node" = true := by first | (simp [plainName, overriddenIn]; done) | decide +kernel
theorem d49_12 : decode jdk_69_method_46_code 12 = .ok (.areturn, 1) := by decide +kernel
theorem d50_0 : decode jdk_70_method_1_code 0 = .ok (.aload_n 0, 1) := by decide +kernel
theorem d50_1 : decode jdk_70_method_1_code 1 = .ok (.invokespecial 1, 3) := by decide +kernel
theorem W360 : Wd (Jvm.Cond.methodLink cn6 (1 : Nat) ({ cls := cn1, name := "<init>", desc := "()V" } : Jvm.MethodName)) := Wd.at 360 rfl
theorem d50_4 : decode jdk_70_method_1_code 4 = .ok (.aload_n 0, 1) := by decide +kernel
theorem d50_5 : decode jdk_70_method_1_code 5 = .ok (.iload_n 1, 1) := by decide +kernel
theorem d50_6 : decode jdk_70_method_1_code 6 = .ok (.putfield 7, 3) := by decide +kernel
theorem W361 : Wd (Jvm.Cond.fieldLink cn6 (7 : Nat) cn6 "hash" "I") := Wd.at 361 rfl
theorem d50_9 : decode jdk_70_method_1_code 9 = .ok (.aload_n 0, 1) := by decide +kernel
theorem d50_10 : decode jdk_70_method_1_code 10 = .ok (.aload_n 2, 1) := by decide +kernel
theorem d50_11 : decode jdk_70_method_1_code 11 = .ok (.putfield 13, 3) := by decide +kernel
theorem W363 : Wd (Jvm.Cond.fieldLink cn6 (13 : Nat) cn6 "key" "Ljava/lang/Object;") := Wd.at 363 rfl
theorem d50_14 : decode jdk_70_method_1_code 14 = .ok (.aload_n 0, 1) := by decide +kernel
theorem d50_15 : decode jdk_70_method_1_code 15 = .ok (.aload_n 3, 1) := by decide +kernel
theorem d50_16 : decode jdk_70_method_1_code 16 = .ok (.putfield 17, 3) := by decide +kernel
theorem W365 : Wd (Jvm.Cond.fieldLink cn6 (17 : Nat) cn6 "value" "Ljava/lang/Object;") := Wd.at 365 rfl
theorem d50_19 : decode jdk_70_method_1_code 19 = .ok (.aload_n 0, 1) := by decide +kernel
theorem d50_20 : decode jdk_70_method_1_code 20 = .ok (.aload 4, 2) := by decide +kernel
theorem d50_22 : decode jdk_70_method_1_code 22 = .ok (.putfield 20, 3) := by decide +kernel
theorem W367 : Wd (Jvm.Cond.fieldLink cn6 (20 : Nat) cn6 "next" "Ljava/util/HashMap$Node;") := Wd.at 367 rfl
theorem d50_25 : decode jdk_70_method_1_code 25 = .ok (.return_, 1) := by decide +kernel
theorem d51_0 : decode jdk_69_method_52_code 0 = .ok (.return_, 1) := by decide +kernel
theorem d52_0 : decode jdk_93_method_1_code 0 = .ok (.aload_n 0, 1) := by decide +kernel
theorem d52_1 : decode jdk_93_method_1_code 1 = .ok (.invokespecial 1, 3) := by decide +kernel
theorem W389 : Wd (Jvm.Cond.code ({ cls := "java/util/AbstractSet", name := "<init>", desc := "()V" } : Jvm.MethodName) jdk_91_method_1_code (1 : Nat) (Option.none : Option Jvm.ClassFile.FieldType)) := Wd.at 389 rfl
theorem W388 : Wd (Jvm.Cond.initialized "java/util/AbstractSet") := Wd.at 388 rfl
theorem W384 : Wd (Jvm.Cond.methodLink cn10 (1 : Nat) ({ cls := "java/util/AbstractSet", name := "<init>", desc := "()V" } : Jvm.MethodName)) := Wd.at 384 rfl
theorem W385 : Wd (Jvm.Cond.instanceMethod ({ cls := "java/util/AbstractSet", name := "<init>", desc := "()V" } : Jvm.MethodName)) := Wd.at 385 rfl
theorem pn_java_util_AbstractSet : plainName "java/util/AbstractSet" = true := by first | (simp [plainName, overriddenIn]; done) | decide +kernel
theorem d52_4 : decode jdk_93_method_1_code 4 = .ok (.aload_n 0, 1) := by decide +kernel
theorem d52_5 : decode jdk_93_method_1_code 5 = .ok (.new 7, 3) := by decide +kernel
theorem W392 : Wd (Jvm.Cond.classLink cn10 (7 : Nat) cn0) := Wd.at 392 rfl
theorem d52_8 : decode jdk_93_method_1_code 8 = .ok (.dup, 1) := by decide +kernel
theorem d52_9 : decode jdk_93_method_1_code 9 = .ok (.invokespecial 9, 3) := by decide +kernel
theorem W393 : Wd (Jvm.Cond.methodLink cn10 (9 : Nat) ({ cls := cn0, name := "<init>", desc := "()V" } : Jvm.MethodName)) := Wd.at 393 rfl
theorem d52_12 : decode jdk_93_method_1_code 12 = .ok (.putfield 10, 3) := by decide +kernel
theorem W395 : Wd (Jvm.Cond.fieldLink cn10 (10 : Nat) cn10 "map" "Ljava/util/HashMap;") := Wd.at 395 rfl
theorem d52_15 : decode jdk_93_method_1_code 15 = .ok (.return_, 1) := by decide +kernel
theorem d53_0 : decode jdk_91_method_1_code 0 = .ok (.aload_n 0, 1) := by decide +kernel
theorem d53_1 : decode jdk_91_method_1_code 1 = .ok (.invokespecial 1, 3) := by decide +kernel
theorem W390 : Wd (Jvm.Cond.methodLink "java/util/AbstractSet" (1 : Nat) ({ cls := "java/util/AbstractCollection", name := "<init>", desc := "()V" } : Jvm.MethodName)) := Wd.at 390 rfl
theorem d53_4 : decode jdk_91_method_1_code 4 = .ok (.return_, 1) := by decide +kernel
theorem d54_0 : decode jdk_38_method_8_code 0 = .ok (.aload_n 0, 1) := by decide +kernel
theorem d54_1 : decode jdk_38_method_8_code 1 = .ok (.getfield 48, 3) := by decide +kernel
theorem d54_4 : decode jdk_38_method_8_code 4 = .ok (.ireturn, 1) := by decide +kernel
theorem d55_0 : decode jdk_38_method_20_code 0 = .ok (.iload_n 1, 1) := by decide +kernel
theorem d55_1 : decode jdk_38_method_20_code 1 = .ok (.aload_n 0, 1) := by decide +kernel
theorem d55_2 : decode jdk_38_method_20_code 2 = .ok (.getfield 48, 3) := by decide +kernel
theorem d55_5 : decode jdk_38_method_20_code 5 = .ok (.invokestatic 118, 3) := by decide +kernel
theorem W412 : Wd (Jvm.Cond.code ({ cls := "java/util/Objects", name := "checkIndex", desc := "(II)I" } : Jvm.MethodName) jdk_31_method_17_code (2 : Nat) (Option.some Jvm.ClassFile.FieldType.int)) := Wd.at 412 rfl
theorem W410 : Wd (Jvm.Cond.methodLink cn2 (118 : Nat) ({ cls := "java/util/Objects", name := "checkIndex", desc := "(II)I" } : Jvm.MethodName)) := Wd.at 410 rfl
theorem W411 : Wd (Jvm.Cond.static ({ cls := "java/util/Objects", name := "checkIndex", desc := "(II)I" } : Jvm.MethodName)) := Wd.at 411 rfl
theorem d55_8 : decode jdk_38_method_20_code 8 = .ok (.pop, 1) := by decide +kernel
theorem d55_9 : decode jdk_38_method_20_code 9 = .ok (.aload_n 0, 1) := by decide +kernel
theorem d55_10 : decode jdk_38_method_20_code 10 = .ok (.iload_n 1, 1) := by decide +kernel
theorem d55_11 : decode jdk_38_method_20_code 11 = .ok (.invokevirtual 123, 3) := by decide +kernel
theorem W421 : Wd (Jvm.Cond.code ({ cls := cn2, name := "elementData", desc := cn14 } : Jvm.MethodName) jdk_38_method_18_code (2 : Nat) (Option.some (Jvm.ClassFile.FieldType.object cn1))) := Wd.at 421 rfl
theorem W417 : Wd (Jvm.Cond.methodLink cn2 (123 : Nat) ({ cls := cn2, name := "elementData", desc := cn14 } : Jvm.MethodName)) := Wd.at 417 rfl
theorem W420 : Wd (Jvm.Cond.selects cn2 ({ cls := cn2, name := "elementData", desc := cn14 } : Jvm.MethodName) ({ cls := cn2, name := "elementData", desc := cn14 } : Jvm.MethodName)) := Wd.at 420 rfl
theorem W418 : Wd (Jvm.Cond.declares ({ cls := cn2, name := "elementData", desc := cn14 } : Jvm.MethodName)) := Wd.at 418 rfl
theorem W419 : Wd (Jvm.Cond.instanceMethod ({ cls := cn2, name := "elementData", desc := cn14 } : Jvm.MethodName)) := Wd.at 419 rfl
theorem d55_14 : decode jdk_38_method_20_code 14 = .ok (.areturn, 1) := by decide +kernel
theorem d56_0 : decode jdk_31_method_17_code 0 = .ok (.iload_n 0, 1) := by decide +kernel
theorem d56_1 : decode jdk_31_method_17_code 1 = .ok (.iload_n 1, 1) := by decide +kernel
theorem d56_2 : decode jdk_31_method_17_code 2 = .ok (.aconst_null, 1) := by decide +kernel
theorem d56_3 : decode jdk_31_method_17_code 3 = .ok (.invokestatic 105, 3) := by decide +kernel
theorem W416 : Wd (Jvm.Cond.code ({ cls := "jdk/internal/util/Preconditions", name := "checkIndex", desc := "(IILjava/util/function/BiFunction;)I" } : Jvm.MethodName) jdk_41_method_11_code (3 : Nat) (Option.some Jvm.ClassFile.FieldType.int)) := Wd.at 416 rfl
theorem W415 : Wd (Jvm.Cond.initialized "jdk/internal/util/Preconditions") := Wd.at 415 rfl
theorem W413 : Wd (Jvm.Cond.methodLink "java/util/Objects" (105 : Nat) ({ cls := "jdk/internal/util/Preconditions", name := "checkIndex", desc := "(IILjava/util/function/BiFunction;)I" } : Jvm.MethodName)) := Wd.at 413 rfl
theorem pd__IILjava_util_function_BiFunction_I : parseMethodDescriptor "(IILjava/util/function/BiFunction;)I" = some ⟨[.int, .int, (.object "java/util/function/BiFunction")], some .int⟩ := by decide +kernel
theorem W414 : Wd (Jvm.Cond.static ({ cls := "jdk/internal/util/Preconditions", name := "checkIndex", desc := "(IILjava/util/function/BiFunction;)I" } : Jvm.MethodName)) := Wd.at 414 rfl
theorem pn_jdk_internal_util_Preconditions : plainName "jdk/internal/util/Preconditions" = true := by first | (simp [plainName, overriddenIn]; done) | decide +kernel
theorem d56_6 : decode jdk_31_method_17_code 6 = .ok (.ireturn, 1) := by decide +kernel
theorem d57_0 : decode jdk_41_method_11_code 0 = .ok (.iload_n 0, 1) := by decide +kernel
theorem d57_1 : decode jdk_41_method_11_code 1 = .ok (.ifCond .lt 8, 3) := by decide +kernel
theorem d57_4 : decode jdk_41_method_11_code 4 = .ok (.iload_n 0, 1) := by decide +kernel
theorem d57_5 : decode jdk_41_method_11_code 5 = .ok (.iload_n 1, 1) := by decide +kernel
theorem d57_6 : decode jdk_41_method_11_code 6 = .ok (.if_icmp .lt 10, 3) := by decide +kernel
theorem d57_16 : decode jdk_41_method_11_code 16 = .ok (.iload_n 0, 1) := by decide +kernel
theorem d57_17 : decode jdk_41_method_11_code 17 = .ok (.ireturn, 1) := by decide +kernel
theorem d58_0 : decode jdk_38_method_18_code 0 = .ok (.aload_n 0, 1) := by decide +kernel
theorem d58_1 : decode jdk_38_method_18_code 1 = .ok (.getfield 9, 3) := by decide +kernel
theorem d58_4 : decode jdk_38_method_18_code 4 = .ok (.iload_n 1, 1) := by decide +kernel
theorem d58_5 : decode jdk_38_method_18_code 5 = .ok (.aaload, 1) := by decide +kernel
theorem d58_6 : decode jdk_38_method_18_code 6 = .ok (.areturn, 1) := by decide +kernel
theorem d59_0 : decode prog_48_method_2_code 0 = .ok (.aload_n 2, 1) := by decide +kernel
theorem d59_1 : decode prog_48_method_2_code 1 = .ok (.aload_n 1, 1) := by decide +kernel
theorem d59_2 : decode prog_48_method_2_code 2 = .ok (.invokevirtual 58, 3) := by decide +kernel
theorem d59_5 : decode prog_48_method_2_code 5 = .ok (.invokeinterface 101 2, 5) := by decide +kernel
theorem W433 : Wd (Jvm.Cond.code ({ cls := cn0, name := "get", desc := cn16 } : Jvm.MethodName) jdk_69_method_12_code (3 : Nat) (Option.some (Jvm.ClassFile.FieldType.object cn1))) := Wd.at 433 rfl
theorem W426 : Wd (Jvm.Cond.methodLink cn4 (101 : Nat) ({ cls := "java/util/Map", name := "get", desc := cn16 } : Jvm.MethodName)) := Wd.at 426 rfl
theorem W427 : Wd (Jvm.Cond.declares ({ cls := "java/util/Map", name := "get", desc := cn16 } : Jvm.MethodName)) := Wd.at 427 rfl
theorem W428 : Wd (Jvm.Cond.interfaceMethod "java/util/Map" "java/util/Map" "get" cn16) := Wd.at 428 rfl
theorem W429 : Wd (Jvm.Cond.selects cn0 ({ cls := "java/util/Map", name := "get", desc := cn16 } : Jvm.MethodName) ({ cls := cn0, name := "get", desc := cn16 } : Jvm.MethodName)) := Wd.at 429 rfl
theorem W430 : Wd (Jvm.Cond.instanceMethod ({ cls := cn0, name := "get", desc := cn16 } : Jvm.MethodName)) := Wd.at 430 rfl
theorem W431 : Wd (Jvm.Cond.publicMethod ({ cls := cn0, name := "get", desc := cn16 } : Jvm.MethodName)) := Wd.at 431 rfl
theorem W432 : Wd (Jvm.Cond.unhidden cn0 "get" cn16) := Wd.at 432 rfl
theorem d59_10 : decode prog_48_method_2_code 10 = .ok (.checkcast 63, 3) := by decide +kernel
theorem W442 : Wd (Jvm.Cond.classLink cn4 (63 : Nat) cn11) := Wd.at 442 rfl
theorem d59_13 : decode prog_48_method_2_code 13 = .ok (.astore 4, 2) := by decide +kernel
theorem d59_15 : decode prog_48_method_2_code 15 = .ok (.aload 4, 2) := by decide +kernel
theorem d59_17 : decode prog_48_method_2_code 17 = .ok (.ifnonnull 34, 3) := by decide +kernel
theorem d59_51 : decode prog_48_method_2_code 51 = .ok (.aload_n 3, 1) := by decide +kernel
theorem d59_52 : decode prog_48_method_2_code 52 = .ok (.aload_n 1, 1) := by decide +kernel
theorem d59_53 : decode prog_48_method_2_code 53 = .ok (.invokevirtual 58, 3) := by decide +kernel
theorem d59_56 : decode prog_48_method_2_code 56 = .ok (.invokeinterface 116 2, 5) := by decide +kernel
theorem W452 : Wd (Jvm.Cond.code ({ cls := cn10, name := "add", desc := cn9 } : Jvm.MethodName) jdk_93_method_10_code (2 : Nat) (Option.some Jvm.ClassFile.FieldType.boolean)) := Wd.at 452 rfl
theorem W444 : Wd (Jvm.Cond.methodLink cn4 (116 : Nat) ({ cls := "java/util/Set", name := "add", desc := cn9 } : Jvm.MethodName)) := Wd.at 444 rfl
theorem W445 : Wd (Jvm.Cond.declares ({ cls := "java/util/Set", name := "add", desc := cn9 } : Jvm.MethodName)) := Wd.at 445 rfl
theorem W446 : Wd (Jvm.Cond.interfaceMethod "java/util/Set" "java/util/Set" "add" cn9) := Wd.at 446 rfl
theorem W447 : Wd (Jvm.Cond.selects cn10 ({ cls := "java/util/Set", name := "add", desc := cn9 } : Jvm.MethodName) ({ cls := cn10, name := "add", desc := cn9 } : Jvm.MethodName)) := Wd.at 447 rfl
theorem W448 : Wd (Jvm.Cond.instanceMethod ({ cls := cn10, name := "add", desc := cn9 } : Jvm.MethodName)) := Wd.at 448 rfl
theorem W449 : Wd (Jvm.Cond.publicMethod ({ cls := cn10, name := "add", desc := cn9 } : Jvm.MethodName)) := Wd.at 449 rfl
theorem W450 : Wd (Jvm.Cond.unhidden cn10 "add" cn9) := Wd.at 450 rfl
theorem W451 : Wd (Jvm.Cond.castable cn10 "java/util/Set") := Wd.at 451 rfl
theorem d59_61 : decode prog_48_method_2_code 61 = .ok (.ifCond .ne 24, 3) := by decide +kernel
theorem d59_85 : decode prog_48_method_2_code 85 = .ok (.aload 4, 2) := by decide +kernel
theorem d59_87 : decode prog_48_method_2_code 87 = .ok (.invokevirtual 123, 3) := by decide +kernel
theorem W463 : Wd (Jvm.Cond.code ({ cls := cn11, name := "intValue", desc := "()I" } : Jvm.MethodName) jdk_33_method_27_code (1 : Nat) (Option.some Jvm.ClassFile.FieldType.int)) := Wd.at 463 rfl
theorem W459 : Wd (Jvm.Cond.methodLink cn4 (123 : Nat) ({ cls := cn11, name := "intValue", desc := "()I" } : Jvm.MethodName)) := Wd.at 459 rfl
theorem W462 : Wd (Jvm.Cond.selects cn11 ({ cls := cn11, name := "intValue", desc := "()I" } : Jvm.MethodName) ({ cls := cn11, name := "intValue", desc := "()I" } : Jvm.MethodName)) := Wd.at 462 rfl
theorem W460 : Wd (Jvm.Cond.declares ({ cls := cn11, name := "intValue", desc := "()I" } : Jvm.MethodName)) := Wd.at 460 rfl
theorem W461 : Wd (Jvm.Cond.instanceMethod ({ cls := cn11, name := "intValue", desc := "()I" } : Jvm.MethodName)) := Wd.at 461 rfl
theorem d59_90 : decode prog_48_method_2_code 90 = .ok (.ireturn, 1) := by decide +kernel
theorem d60_0 : decode jdk_69_method_12_code 0 = .ok (.aload_n 0, 1) := by decide +kernel
theorem d60_1 : decode jdk_69_method_12_code 1 = .ok (.aload_n 1, 1) := by decide +kernel
theorem d60_2 : decode jdk_69_method_12_code 2 = .ok (.invokevirtual 158, 3) := by decide +kernel
theorem W438 : Wd (Jvm.Cond.code ({ cls := cn0, name := "getNode", desc := "(Ljava/lang/Object;)Ljava/util/HashMap$Node;" } : Jvm.MethodName) jdk_69_method_13_code (8 : Nat) (Option.some (Jvm.ClassFile.FieldType.object cn6))) := Wd.at 438 rfl
theorem W434 : Wd (Jvm.Cond.methodLink cn0 (158 : Nat) ({ cls := cn0, name := "getNode", desc := "(Ljava/lang/Object;)Ljava/util/HashMap$Node;" } : Jvm.MethodName)) := Wd.at 434 rfl
theorem pd__Ljava_lang_Object_Ljava_util_HashMap_Node_ : parseMethodDescriptor "(Ljava/lang/Object;)Ljava/util/HashMap$Node;" = some ⟨[(.object "java/lang/Object")], some (.object "java/util/HashMap$Node")⟩ := by decide +kernel
theorem W437 : Wd (Jvm.Cond.selects cn0 ({ cls := cn0, name := "getNode", desc := "(Ljava/lang/Object;)Ljava/util/HashMap$Node;" } : Jvm.MethodName) ({ cls := cn0, name := "getNode", desc := "(Ljava/lang/Object;)Ljava/util/HashMap$Node;" } : Jvm.MethodName)) := Wd.at 437 rfl
theorem W435 : Wd (Jvm.Cond.declares ({ cls := cn0, name := "getNode", desc := "(Ljava/lang/Object;)Ljava/util/HashMap$Node;" } : Jvm.MethodName)) := Wd.at 435 rfl
theorem W436 : Wd (Jvm.Cond.instanceMethod ({ cls := cn0, name := "getNode", desc := "(Ljava/lang/Object;)Ljava/util/HashMap$Node;" } : Jvm.MethodName)) := Wd.at 436 rfl
theorem d60_5 : decode jdk_69_method_12_code 5 = .ok (.dup, 1) := by decide +kernel
theorem d60_6 : decode jdk_69_method_12_code 6 = .ok (.astore_n 2, 1) := by decide +kernel
theorem d60_7 : decode jdk_69_method_12_code 7 = .ok (.ifnonnull 7, 3) := by decide +kernel
theorem d60_14 : decode jdk_69_method_12_code 14 = .ok (.aload_n 2, 1) := by decide +kernel
theorem d60_15 : decode jdk_69_method_12_code 15 = .ok (.getfield 162, 3) := by decide +kernel
theorem W441 : Wd (Jvm.Cond.fieldLink cn0 (162 : Nat) cn6 "value" "Ljava/lang/Object;") := Wd.at 441 rfl
theorem d60_18 : decode jdk_69_method_12_code 18 = .ok (.areturn, 1) := by decide +kernel
theorem d61_0 : decode jdk_69_method_13_code 0 = .ok (.aload_n 0, 1) := by decide +kernel
theorem d61_1 : decode jdk_69_method_13_code 1 = .ok (.getfield 105, 3) := by decide +kernel
theorem d61_4 : decode jdk_69_method_13_code 4 = .ok (.dup, 1) := by decide +kernel
theorem d61_5 : decode jdk_69_method_13_code 5 = .ok (.astore_n 2, 1) := by decide +kernel
theorem d61_6 : decode jdk_69_method_13_code 6 = .ok (.ifnull 142, 3) := by decide +kernel
theorem d61_9 : decode jdk_69_method_13_code 9 = .ok (.aload_n 2, 1) := by decide +kernel
theorem d61_10 : decode jdk_69_method_13_code 10 = .ok (.arraylength, 1) := by decide +kernel
theorem d61_11 : decode jdk_69_method_13_code 11 = .ok (.dup, 1) := by decide +kernel
theorem d61_12 : decode jdk_69_method_13_code 12 = .ok (.istore 5, 2) := by decide +kernel
theorem d61_14 : decode jdk_69_method_13_code 14 = .ok (.ifCond .le 134, 3) := by decide +kernel
theorem d61_17 : decode jdk_69_method_13_code 17 = .ok (.aload_n 2, 1) := by decide +kernel
theorem d61_18 : decode jdk_69_method_13_code 18 = .ok (.iload 5, 2) := by decide +kernel
theorem d61_20 : decode jdk_69_method_13_code 20 = .ok (.iconst 1, 1) := by decide +kernel
theorem d61_21 : decode jdk_69_method_13_code 21 = .ok (.isub, 1) := by decide +kernel
theorem d61_22 : decode jdk_69_method_13_code 22 = .ok (.aload_n 1, 1) := by decide +kernel
theorem d61_23 : decode jdk_69_method_13_code 23 = .ok (.invokestatic 149, 3) := by decide +kernel
theorem d61_26 : decode jdk_69_method_13_code 26 = .ok (.dup, 1) := by decide +kernel
theorem d61_27 : decode jdk_69_method_13_code 27 = .ok (.istore 6, 2) := by decide +kernel
theorem d61_29 : decode jdk_69_method_13_code 29 = .ok (.iand, 1) := by decide +kernel
theorem d61_30 : decode jdk_69_method_13_code 30 = .ok (.aaload, 1) := by decide +kernel
theorem d61_31 : decode jdk_69_method_13_code 31 = .ok (.dup, 1) := by decide +kernel
theorem d61_32 : decode jdk_69_method_13_code 32 = .ok (.astore_n 3, 1) := by decide +kernel
theorem d61_33 : decode jdk_69_method_13_code 33 = .ok (.ifnull 115, 3) := by decide +kernel
theorem d61_36 : decode jdk_69_method_13_code 36 = .ok (.aload_n 3, 1) := by decide +kernel
theorem d61_37 : decode jdk_69_method_13_code 37 = .ok (.getfield 168, 3) := by decide +kernel
theorem W439 : Wd (Jvm.Cond.fieldLink cn0 (168 : Nat) cn6 "hash" "I") := Wd.at 439 rfl
theorem d61_40 : decode jdk_69_method_13_code 40 = .ok (.iload 6, 2) := by decide +kernel
theorem d61_42 : decode jdk_69_method_13_code 42 = .ok (.if_icmp .ne 29, 3) := by decide +kernel
theorem d61_45 : decode jdk_69_method_13_code 45 = .ok (.aload_n 3, 1) := by decide +kernel
theorem d61_46 : decode jdk_69_method_13_code 46 = .ok (.getfield 170, 3) := by decide +kernel
theorem W440 : Wd (Jvm.Cond.fieldLink cn0 (170 : Nat) cn6 "key" "Ljava/lang/Object;") := Wd.at 440 rfl
theorem d61_49 : decode jdk_69_method_13_code 49 = .ok (.dup, 1) := by decide +kernel
theorem d61_50 : decode jdk_69_method_13_code 50 = .ok (.astore 7, 2) := by decide +kernel
theorem d61_52 : decode jdk_69_method_13_code 52 = .ok (.aload_n 1, 1) := by decide +kernel
theorem d61_53 : decode jdk_69_method_13_code 53 = .ok (.if_acmp .eq 16, 3) := by decide +kernel
theorem d61_69 : decode jdk_69_method_13_code 69 = .ok (.aload_n 3, 1) := by decide +kernel
theorem d61_70 : decode jdk_69_method_13_code 70 = .ok (.areturn, 1) := by decide +kernel
theorem d62_0 : decode jdk_93_method_10_code 0 = .ok (.aload_n 0, 1) := by decide +kernel
theorem d62_1 : decode jdk_93_method_10_code 1 = .ok (.getfield 10, 3) := by decide +kernel
theorem d62_4 : decode jdk_93_method_10_code 4 = .ok (.aload_n 1, 1) := by decide +kernel
theorem d62_5 : decode jdk_93_method_10_code 5 = .ok (.getstatic 64, 3) := by decide +kernel
theorem W453 : Wd (Jvm.Cond.fieldLink cn10 (64 : Nat) cn10 "PRESENT" "Ljava/lang/Object;") := Wd.at 453 rfl
theorem d62_8 : decode jdk_93_method_10_code 8 = .ok (.invokevirtual 68, 3) := by decide +kernel
theorem W458 : Wd (Jvm.Cond.code ({ cls := cn0, name := "put", desc := cn15 } : Jvm.MethodName) jdk_69_method_15_code (3 : Nat) (Option.some (Jvm.ClassFile.FieldType.object cn1))) := Wd.at 458 rfl
theorem W454 : Wd (Jvm.Cond.methodLink cn10 (68 : Nat) ({ cls := cn0, name := "put", desc := cn15 } : Jvm.MethodName)) := Wd.at 454 rfl
theorem W457 : Wd (Jvm.Cond.selects cn0 ({ cls := cn0, name := "put", desc := cn15 } : Jvm.MethodName) ({ cls := cn0, name := "put", desc := cn15 } : Jvm.MethodName)) := Wd.at 457 rfl
theorem W455 : Wd (Jvm.Cond.declares ({ cls := cn0, name := "put", desc := cn15 } : Jvm.MethodName)) := Wd.at 455 rfl
theorem W456 : Wd (Jvm.Cond.instanceMethod ({ cls := cn0, name := "put", desc := cn15 } : Jvm.MethodName)) := Wd.at 456 rfl
theorem d62_11 : decode jdk_93_method_10_code 11 = .ok (.ifnonnull 7, 3) := by decide +kernel
theorem d62_14 : decode jdk_93_method_10_code 14 = .ok (.iconst 1, 1) := by decide +kernel
theorem d62_15 : decode jdk_93_method_10_code 15 = .ok (.goto 4, 3) := by decide +kernel
theorem d62_19 : decode jdk_93_method_10_code 19 = .ok (.ireturn, 1) := by decide +kernel
theorem d63_0 : decode jdk_69_method_15_code 0 = .ok (.aload_n 0, 1) := by decide +kernel
theorem d63_1 : decode jdk_69_method_15_code 1 = .ok (.aload_n 1, 1) := by decide +kernel
theorem d63_2 : decode jdk_69_method_15_code 2 = .ok (.invokestatic 149, 3) := by decide +kernel
theorem d63_5 : decode jdk_69_method_15_code 5 = .ok (.aload_n 1, 1) := by decide +kernel
theorem d63_6 : decode jdk_69_method_15_code 6 = .ok (.aload_n 2, 1) := by decide +kernel
theorem d63_7 : decode jdk_69_method_15_code 7 = .ok (.iconst 0, 1) := by decide +kernel
theorem d63_8 : decode jdk_69_method_15_code 8 = .ok (.iconst 1, 1) := by decide +kernel
theorem d63_9 : decode jdk_69_method_15_code 9 = .ok (.invokevirtual 152, 3) := by decide +kernel
theorem d63_12 : decode jdk_69_method_15_code 12 = .ok (.areturn, 1) := by decide +kernel
theorem d64_0 : decode jdk_33_method_27_code 0 = .ok (.aload_n 0, 1) := by decide +kernel
theorem d64_1 : decode jdk_33_method_27_code 1 = .ok (.getfield 205, 3) := by decide +kernel
theorem W464 : Wd (Jvm.Cond.fieldLink cn11 (205 : Nat) cn11 "value" "I") := Wd.at 464 rfl
theorem d64_4 : decode jdk_33_method_27_code 4 = .ok (.ireturn, 1) := by decide +kernel
theorem d65_0 : decode prog_48_method_6_code 0 = .ok (.aload_n 0, 1) := by decide +kernel
theorem d65_1 : decode prog_48_method_6_code 1 = .ok (.getfield 89, 3) := by decide +kernel
theorem d65_4 : decode prog_48_method_6_code 4 = .ok (.astore_n 2, 1) := by decide +kernel
theorem d65_5 : decode prog_48_method_6_code 5 = .ok (.aload_n 2, 1) := by decide +kernel
theorem d65_6 : decode prog_48_method_6_code 6 = .ok (.arraylength, 1) := by decide +kernel
theorem d65_7 : decode prog_48_method_6_code 7 = .ok (.istore_n 3, 1) := by decide +kernel
theorem d65_8 : decode prog_48_method_6_code 8 = .ok (.iconst 0, 1) := by decide +kernel
theorem d65_9 : decode prog_48_method_6_code 9 = .ok (.istore 4, 2) := by decide +kernel
theorem d65_11 : decode prog_48_method_6_code 11 = .ok (.iload 4, 2) := by decide +kernel
theorem d65_13 : decode prog_48_method_6_code 13 = .ok (.iload_n 3, 1) := by decide +kernel
theorem d65_14 : decode prog_48_method_6_code 14 = .ok (.if_icmp .ge 23, 3) := by decide +kernel
theorem d65_17 : decode prog_48_method_6_code 17 = .ok (.aload_n 2, 1) := by decide +kernel
theorem d65_18 : decode prog_48_method_6_code 18 = .ok (.iload 4, 2) := by decide +kernel
theorem d65_20 : decode prog_48_method_6_code 20 = .ok (.iaload, 1) := by decide +kernel
theorem d65_21 : decode prog_48_method_6_code 21 = .ok (.istore 5, 2) := by decide +kernel
theorem d65_23 : decode prog_48_method_6_code 23 = .ok (.iload 5, 2) := by decide +kernel
theorem d65_25 : decode prog_48_method_6_code 25 = .ok (.iload_n 1, 1) := by decide +kernel
theorem d65_26 : decode prog_48_method_6_code 26 = .ok (.if_icmp .ne 5, 3) := by decide +kernel
theorem d65_29 : decode prog_48_method_6_code 29 = .ok (.iconst 1, 1) := by decide +kernel
theorem d65_30 : decode prog_48_method_6_code 30 = .ok (.ireturn, 1) := by decide +kernel
theorem d65_31 : decode prog_48_method_6_code 31 = .ok (.iinc 4 1, 3) := by decide +kernel
theorem d65_34 : decode prog_48_method_6_code 34 = .ok (.goto (-23), 3) := by decide +kernel
theorem d65_37 : decode prog_48_method_6_code 37 = .ok (.iconst 0, 1) := by decide +kernel
theorem d65_38 : decode prog_48_method_6_code 38 = .ok (.ireturn, 1) := by decide +kernel
theorem d66_0 : decode jdk_44_method_1_code 0 = .ok (.aload_n 0, 1) := by decide +kernel
theorem d66_1 : decode jdk_44_method_1_code 1 = .ok (.invokespecial 1, 3) := by decide +kernel
theorem d66_4 : decode jdk_44_method_1_code 4 = .ok (.aload_n 0, 1) := by decide +kernel
theorem d66_5 : decode jdk_44_method_1_code 5 = .ok (.aload_n 1, 1) := by decide +kernel
theorem d66_6 : decode jdk_44_method_1_code 6 = .ok (.invokestatic 7, 3) := by decide +kernel
theorem d66_9 : decode jdk_44_method_1_code 9 = .ok (.putfield 13, 3) := by decide +kernel
theorem d66_12 : decode jdk_44_method_1_code 12 = .ok (.aload_n 0, 1) := by decide +kernel
theorem d66_13 : decode jdk_44_method_1_code 13 = .ok (.getstatic 19, 3) := by decide +kernel
theorem W476 : Wd (Jvm.Cond.fieldLinkNest cn12 (19 : Nat) cn13 "EMPTY" "Ljava/lang/Object;" cn13) := Wd.at 476 rfl
theorem d66_16 : decode jdk_44_method_1_code 16 = .ok (.putfield 24, 3) := by decide +kernel
theorem d66_19 : decode jdk_44_method_1_code 19 = .ok (.return_, 1) := by decide +kernel
theorem d67_0 : decode jdk_40_method_36_code 0 = .ok (.getstatic 90, 3) := by decide +kernel
theorem W480 : Wd (Jvm.Cond.fieldLink "java/util/List" (90 : Nat) cn13 "EMPTY_LIST" "Ljava/util/ImmutableCollections$ListN;") := Wd.at 480 rfl
theorem d67_3 : decode jdk_40_method_36_code 3 = .ok (.areturn, 1) := by decide +kernel
def t0 (pc : Nat) : GStep := cond (Nat.ble 170 pc) (cond (Nat.ble 261 pc) (cond (Nat.ble 306 pc) (cond (Nat.ble 331 pc) (cond (Nat.ble 341 pc) (cond (Nat.ble 349 pc) (cond (Nat.ble 350 pc) (cond (Nat.ble 354 pc) (mk 0 (s_reti (ty := .boolean) at_354 rfl (by decide))) (mk 0 (s_goto (pc' := 354) at_350 (by decide) (by decide)))) (mk 0 (s_iconst at_349))) (cond (Nat.ble 344 pc) (cond (Nat.ble 346 pc) (mk 0 (s_icmp (pcY := 353) at_346 (by decide) (by decide))) (mk 0 (s_iload at_344))) (mk 0 (s_call (n := 2) (b' := 65) (maxL := 6) (kr := some 14) (.virt (y := (⟨cn4, "groups", "(I)Z"⟩ : MethodName)) at_341 W468 W469 (fun _ _ _ hw hZ => (notFace_of_selects (args := #[]) (mvT hZ (W471 _ _ hw)))) W471 W470 (by decide) (own_lenN pd__I_Z rfl)) (krS (by decide)) (plainFor_of_name pn_com_example_hornwort_hornwort_Selection) rfl W472 W105)))) (cond (Nat.ble 336 pc) (cond (Nat.ble 338 pc) (cond (Nat.ble 340 pc) (mk 0 (s_iloadN at_340)) (mk 0 (s_aload at_338))) (mk 0 (s_istore at_336))) (cond (Nat.ble 332 pc) (cond (Nat.ble 335 pc) (mk 0 (s_iconst at_335)) (mk 0 (s_goto (pc' := 336) at_332 (by decide) (by decide)))) (mk 0 (s_iconst at_331))))) (cond (Nat.ble 317 pc) (cond (Nat.ble 325 pc) (cond (Nat.ble 326 pc) (cond (Nat.ble 328 pc) (mk 0 (s_icmp (pcY := 335) at_328 (by decide) (by decide))) (mk 0 (s_iload at_326))) (mk 0 (s_iloadN at_325))) (cond (Nat.ble 320 pc) (cond (Nat.ble 322 pc) (mk 0 (s_if (pcY := 335) at_322 (by decide) (by decide))) (mk 0 (s_iload at_320))) (mk 0 (s_icmp (pcY := 331) at_317 (by decide) (by decide))))) (cond (Nat.ble 311 pc) (cond (Nat.ble 314 pc) (cond (Nat.ble 315 pc) (mk 0 (s_iload at_315)) (mk 0 (s_iloadN at_314))) (mk 0 (s_if (pcY := 320) at_311 (by decide) (by decide)))) (cond (Nat.ble 309 pc) (mk 0 (s_iload at_309)) (mk 0 (s_icmp (pcY := 331) at_306 (by decide) (by decide))))))) (cond (Nat.ble 287 pc) (cond (Nat.ble 293 pc) (cond (Nat.ble 300 pc) (cond (Nat.ble 303 pc) (cond (Nat.ble 304 pc) (mk 0 (s_iload at_304)) (mk 0 (s_iloadN at_303))) (mk 0 (s_if (pcY := 309) at_300 (by decide) (by decide)))) (cond (Nat.ble 296 pc) (cond (Nat.ble 298 pc) (mk 0 (s_qs (i := 2) (s_iload at_298))) (mk 0 (s_astore at_296))) (mk 0 (s_call (n := 6) (b' := 30) (maxL := 9) (kr := some 14) (.init at_293 rfl rfl (.inl W205) W206 W207 (by decide) (own_lenN pd__Lcom_example_hornwort_hornwort_Atom_Ljava_util_List_Lcom_example_hornwort_hornwort_Aggregate_Function_Lcom_example_hornwort_hornwort_Variable_Lcom_example_hornwort_hornwort_Position_V rfl)) (krS (by decide)) (plainFor_of_name pn_com_example_hornwort_hornwort_Selection) rfl W207 W105)))) (cond (Nat.ble 290 pc) (cond (Nat.ble 291 pc) (cond (Nat.ble 292 pc) (mk 0 (s_null at_292)) (mk 0 (s_aaload (k := 8) at_291 (.inr (.inl rfl)) rfl))) (mk 0 (s_iloadN at_290))) (cond (Nat.ble 288 pc) (mk 0 (s_aload at_288)) (mk 0 (s_null at_287))))) (cond (Nat.ble 274 pc) (cond (Nat.ble 280 pc) (cond (Nat.ble 282 pc) (cond (Nat.ble 285 pc) (mk 0 (s_aload at_285)) (mk 0 (s_call (n := 3) (b' := 16) (maxL := 3) (kr := some 15) (.init at_282 rfl rfl (.inl W109) W110 W111 (by decide) (own_lenN pd__Ljava_lang_String_Ljava_util_List_V rfl)) (krS (by decide)) (plainFor_of_name pn_com_example_hornwort_hornwort_Atom) rfl W111 W108))) (mk 0 (s_aload at_280))) (cond (Nat.ble 275 pc) (cond (Nat.ble 277 pc) (mk 0 (s_call (n := 1) (b' := 1) (maxL := 1) (kr := none) (.stat at_277 (.inl W4) W5 W6 W7 (by decide) (own_lenN pd__C_Ljava_lang_String_ rfl)) krN (plainFor_of_name pn_java_lang_String) rfl W7 W6)) (mk 0 (s_bipush at_275))) (mk 0 (s_dup at_274)))) (cond (Nat.ble 267 pc) (cond (Nat.ble 270 pc) (cond (Nat.ble 271 pc) (mk 0 (s_new (k := 15) (sl := 2) (vs := [.null, .null]) at_271 rfl W106 W107 W108 knew15)) (mk 0 (s_dup at_270))) (mk 0 (s_new (k := 14) (sl := 7) (vs := [.null, .null, .null, .null, .null, .null, .int (0 : Int32)]) at_267 rfl W103 W104 W105 knew14))) (cond (Nat.ble 266 pc) (mk 0 (s_pop at_266)) (mk 0 (s_call (n := 2) (b' := 11) (maxL := 2) (kr := some 12) (.face (y := (⟨"java/util/List", "add", cn9⟩ : MethodName)) at_261 W68 W69 W70 (by decide) W71 W72 W73 W74 W75 (by decide) (own_lenN pd__Ljava_lang_Object_Z rfl)) (krS (by decide)) (plainFor_of_name pn_java_util_ArrayList) rfl W76 W46))))))) (cond (Nat.ble 211 pc) (cond (Nat.ble 236 pc) (cond (Nat.ble 249 pc) (cond (Nat.ble 256 pc) (cond (Nat.ble 258 pc) (cond (Nat.ble 260 pc) (mk 0 (s_aaload (k := 8) at_260 (.inr (.inl rfl)) rfl)) (mk 0 (s_iload at_258))) (mk 0 (s_aload at_256))) (cond (Nat.ble 251 pc) (cond (Nat.ble 254 pc) (mk 0 (s_aload at_254)) (mk 0 (s_if (pcY := 267) at_251 (by decide) (by decide)))) (mk 0 (s_iload at_249)))) (cond (Nat.ble 242 pc) (cond (Nat.ble 243 pc) (cond (Nat.ble 248 pc) (mk 0 (s_pop at_248)) (mk 0 (s_call (n := 2) (b' := 11) (maxL := 2) (kr := some 12) (.face (y := (⟨"java/util/List", "add", cn9⟩ : MethodName)) at_243 W68 W69 W70 (by decide) W71 W72 W73 W74 W75 (by decide) (own_lenN pd__Ljava_lang_Object_Z rfl)) (krS (by decide)) (plainFor_of_name pn_java_util_ArrayList) rfl W76 W46))) (mk 0 (s_aaload (k := 8) at_242 (.inr (.inl rfl)) rfl))) (cond (Nat.ble 238 pc) (cond (Nat.ble 240 pc) (mk 0 (s_iload at_240)) (mk 0 (s_aload at_238))) (mk 0 (s_aload at_236))))) (cond (Nat.ble 222 pc) (cond (Nat.ble 230 pc) (cond (Nat.ble 231 pc) (cond (Nat.ble 233 pc) (mk 0 (s_if (pcY := 249) at_233 (by decide) (by decide))) (mk 0 (s_iload at_231))) (mk 0 (s_pop at_230))) (cond (Nat.ble 224 pc) (cond (Nat.ble 225 pc) (mk 0 (s_call (n := 2) (b' := 11) (maxL := 2) (kr := some 12) (.face (y := (⟨"java/util/List", "add", cn9⟩ : MethodName)) at_225 W68 W69 W70 (by decide) W71 W72 W73 W74 W75 (by decide) (own_lenN pd__Ljava_lang_Object_Z rfl)) (krS (by decide)) (plainFor_of_name pn_java_util_ArrayList) rfl W76 W46)) (mk 0 (s_aaload (k := 8) at_224 (.inr (.inl rfl)) rfl))) (mk 0 (s_iload at_222)))) (cond (Nat.ble 215 pc) (cond (Nat.ble 218 pc) (cond (Nat.ble 220 pc) (mk 0 (s_aload at_220)) (mk 0 (s_aload at_218))) (mk 0 (s_if (pcY := 231) at_215 (by decide) (by decide)))) (cond (Nat.ble 213 pc) (mk 0 (s_iload at_213)) (mk 0 (s_astore at_211)))))) (cond (Nat.ble 190 pc) (cond (Nat.ble 198 pc) (cond (Nat.ble 204 pc) (cond (Nat.ble 207 pc) (cond (Nat.ble 208 pc) (mk 0 (s_call (n := 1) (b' := 8) (maxL := 1) (kr := some 12) (.init at_208 rfl rfl (.inl W47) W48 W49 (by decide) (own_lenN pd__V rfl)) (krS (by decide)) (plainFor_of_name pn_java_util_ArrayList) rfl W49 W46)) (mk 0 (s_dup at_207))) (mk 0 (s_new (k := 12) (sl := 3) (vs := [.int (0 : Int32), .null, .int (0 : Int32)]) at_204 rfl W44 W45 W46 knew12))) (cond (Nat.ble 201 pc) (cond (Nat.ble 202 pc) (mk 0 (s_istore at_202)) (mk 0 (s_iconst at_201))) (mk 0 (s_goto (pc' := 202) at_198 (by decide) (by decide))))) (cond (Nat.ble 193 pc) (cond (Nat.ble 194 pc) (cond (Nat.ble 197 pc) (mk 0 (s_iconst at_197)) (mk 0 (s_if (pcY := 201) at_194 (by decide) (by decide)))) (mk 0 (s_iand at_193))) (cond (Nat.ble 192 pc) (mk 0 (s_iconst at_192)) (mk 0 (s_iload at_190))))) (cond (Nat.ble 179 pc) (cond (Nat.ble 184 pc) (cond (Nat.ble 187 pc) (cond (Nat.ble 188 pc) (mk 0 (s_istore at_188)) (mk 0 (s_iconst at_187))) (mk 0 (s_goto (pc' := 188) at_184 (by decide) (by decide)))) (cond (Nat.ble 180 pc) (cond (Nat.ble 183 pc) (mk 0 (s_iconst at_183)) (mk 0 (s_if (pcY := 187) at_180 (by decide) (by decide)))) (mk 0 (s_iand at_179)))) (cond (Nat.ble 174 pc) (cond (Nat.ble 176 pc) (cond (Nat.ble 178 pc) (mk 0 (s_iconst at_178)) (mk 0 (s_iload at_176))) (mk 0 (s_istore at_174))) (cond (Nat.ble 173 pc) (mk 0 (s_iconst at_173)) (mk 0 (s_goto (pc' := 174) at_170 (by decide) (by decide))))))))) (cond (Nat.ble 97 pc) (cond (Nat.ble 141 pc) (cond (Nat.ble 153 pc) (cond (Nat.ble 160 pc) (cond (Nat.ble 165 pc) (cond (Nat.ble 166 pc) (cond (Nat.ble 169 pc) (mk 0 (s_iconst at_169)) (mk 0 (s_if (pcY := 173) at_166 (by decide) (by decide)))) (mk 0 (s_iand at_165))) (cond (Nat.ble 162 pc) (cond (Nat.ble 164 pc) (mk 0 (s_iconst at_164)) (mk 0 (s_iload at_162))) (mk 0 (s_istore at_160)))) (cond (Nat.ble 157 pc) (cond (Nat.ble 158 pc) (cond (Nat.ble 159 pc) (mk 0 (s_iand at_159)) (mk 0 (s_iconst at_158))) (mk 0 (s_iadd at_157))) (cond (Nat.ble 155 pc) (cond (Nat.ble 156 pc) (mk 0 (s_iconst at_156)) (mk 0 (s_iloadN at_155))) (mk 0 (s_istore at_153))))) (cond (Nat.ble 146 pc) (cond (Nat.ble 150 pc) (cond (Nat.ble 151 pc) (cond (Nat.ble 152 pc) (mk 0 (s_iand at_152)) (mk 0 (s_iconst at_151))) (mk 0 (s_iadd at_150))) (cond (Nat.ble 148 pc) (cond (Nat.ble 149 pc) (mk 0 (s_iconst at_149)) (mk 0 (s_iloadN at_148))) (mk 0 (s_istore at_146)))) (cond (Nat.ble 143 pc) (cond (Nat.ble 144 pc) (cond (Nat.ble 145 pc) (mk 0 (s_iand at_145)) (mk 0 (s_iconst at_144))) (mk 0 (s_iadd at_143))) (cond (Nat.ble 142 pc) (mk 0 (s_iconst at_142)) (mk 0 (s_iloadN at_141)))))) (cond (Nat.ble 119 pc) (cond (Nat.ble 129 pc) (cond (Nat.ble 134 pc) (cond (Nat.ble 135 pc) (cond (Nat.ble 140 pc) (mk 0 (s_pop at_140)) (mk 0 (s_call (n := 2) (b' := 11) (maxL := 2) (kr := some 12) (.face (y := (⟨"java/util/List", "add", cn9⟩ : MethodName)) at_135 W68 W69 W70 (by decide) W71 W72 W73 W74 W75 (by decide) (own_lenN pd__Ljava_lang_Object_Z rfl)) (krS (by decide)) (plainFor_of_name pn_java_util_ArrayList) rfl W76 W46))) (mk 0 (s_aaload (k := 8) at_134 (.inr (.inl rfl)) rfl))) (cond (Nat.ble 131 pc) (cond (Nat.ble 133 pc) (mk 0 (s_iconst at_133)) (mk 0 (s_aload at_131))) (mk 0 (s_aload at_129)))) (cond (Nat.ble 122 pc) (cond (Nat.ble 123 pc) (cond (Nat.ble 128 pc) (mk 0 (s_pop at_128)) (mk 0 (s_call (n := 2) (b' := 11) (maxL := 2) (kr := some 12) (.face (y := (⟨"java/util/List", "add", cn9⟩ : MethodName)) at_123 W68 W69 W70 (by decide) W71 W72 W73 W74 W75 (by decide) (own_lenN pd__Ljava_lang_Object_Z rfl)) (krS (by decide)) (plainFor_of_name pn_java_util_ArrayList) rfl W76 W46))) (mk 0 (s_aaload (k := 8) at_122 (.inr (.inl rfl)) rfl))) (cond (Nat.ble 121 pc) (mk 0 (s_iconst at_121)) (mk 0 (s_aload at_119))))) (cond (Nat.ble 107 pc) (cond (Nat.ble 111 pc) (cond (Nat.ble 116 pc) (cond (Nat.ble 117 pc) (mk 0 (s_aload at_117)) (mk 0 (s_pop at_116))) (mk 0 (s_call (n := 2) (b' := 11) (maxL := 2) (kr := some 12) (.face (y := (⟨"java/util/List", "add", cn9⟩ : MethodName)) at_111 W68 W69 W70 (by decide) W71 W72 W73 W74 W75 (by decide) (own_lenN pd__Ljava_lang_Object_Z rfl)) (krS (by decide)) (plainFor_of_name pn_java_util_ArrayList) rfl W76 W46))) (cond (Nat.ble 109 pc) (cond (Nat.ble 110 pc) (mk 0 (s_aaload (k := 8) at_110 (.inr (.inl rfl)) rfl)) (mk 0 (s_iconst at_109))) (mk 0 (s_aload at_107)))) (cond (Nat.ble 99 pc) (cond (Nat.ble 104 pc) (cond (Nat.ble 105 pc) (mk 0 (s_aload at_105)) (mk 0 (s_pop at_104))) (mk 0 (s_call (n := 2) (b' := 11) (maxL := 2) (kr := some 12) (.face (y := (⟨"java/util/List", "add", cn9⟩ : MethodName)) at_99 W68 W69 W70 (by decide) W71 W72 W73 W74 W75 (by decide) (own_lenN pd__Ljava_lang_Object_Z rfl)) (krS (by decide)) (plainFor_of_name pn_java_util_ArrayList) rfl W76 W46))) (cond (Nat.ble 98 pc) (mk 0 (s_aaload (k := 8) at_98 (.inr (.inl rfl)) rfl)) (mk 0 (s_iconst at_97))))))) (cond (Nat.ble 52 pc) (cond (Nat.ble 73 pc) (cond (Nat.ble 84 pc) (cond (Nat.ble 91 pc) (cond (Nat.ble 93 pc) (cond (Nat.ble 95 pc) (mk 0 (s_aload at_95)) (mk 0 (s_aload at_93))) (mk 0 (s_astore at_91))) (cond (Nat.ble 87 pc) (cond (Nat.ble 88 pc) (mk 0 (s_call (n := 1) (b' := 8) (maxL := 1) (kr := some 12) (.init at_88 rfl rfl (.inl W47) W48 W49 (by decide) (own_lenN pd__V rfl)) (krS (by decide)) (plainFor_of_name pn_java_util_ArrayList) rfl W49 W46)) (mk 0 (s_dup at_87))) (mk 0 (s_new (k := 12) (sl := 3) (vs := [.int (0 : Int32), .null, .int (0 : Int32)]) at_84 rfl W44 W45 W46 knew12)))) (cond (Nat.ble 79 pc) (cond (Nat.ble 80 pc) (cond (Nat.ble 83 pc) (mk 0 (s_aastore (k := 8) (kv := 9) (C := cn5) at_83 rfl rfl (by decide) (.inl rfl))) (mk 0 (s_call (n := 3) (b' := 6) (maxL := 3) (kr := some 9) (.init at_80 rfl rfl (.inl W30) W31 W32 (by decide) (own_lenN pd__Ljava_lang_String_Lcom_example_hornwort_hornwort_Position_V rfl)) (krS (by decide)) (plainFor_of_name pn_com_example_hornwort_hornwort_Variable) rfl W32 W3))) (mk 0 (s_null at_79))) (cond (Nat.ble 74 pc) (cond (Nat.ble 76 pc) (mk 0 (s_call (n := 1) (b' := 1) (maxL := 1) (kr := none) (.stat at_76 (.inl W4) W5 W6 W7 (by decide) (own_lenN pd__C_Ljava_lang_String_ rfl)) krN (plainFor_of_name pn_java_lang_String) rfl W7 W6)) (mk 0 (s_bipush at_74))) (mk 0 (s_dup at_73))))) (cond (Nat.ble 62 pc) (cond (Nat.ble 67 pc) (cond (Nat.ble 69 pc) (cond (Nat.ble 70 pc) (mk 0 (s_new (k := 9) (sl := 2) (vs := [.null, .null]) at_70 rfl W0 W2 W3 knew9)) (mk 0 (s_iconst at_69))) (mk 0 (s_aload at_67))) (cond (Nat.ble 63 pc) (cond (Nat.ble 66 pc) (mk 0 (s_aastore (k := 8) (kv := 9) (C := cn5) at_66 rfl rfl (by decide) (.inl rfl))) (mk 0 (s_call (n := 3) (b' := 6) (maxL := 3) (kr := some 9) (.init at_63 rfl rfl (.inl W30) W31 W32 (by decide) (own_lenN pd__Ljava_lang_String_Lcom_example_hornwort_hornwort_Position_V rfl)) (krS (by decide)) (plainFor_of_name pn_com_example_hornwort_hornwort_Variable) rfl W32 W3))) (mk 0 (s_null at_62)))) (cond (Nat.ble 56 pc) (cond (Nat.ble 57 pc) (cond (Nat.ble 59 pc) (mk 0 (s_call (n := 1) (b' := 1) (maxL := 1) (kr := none) (.stat at_59 (.inl W4) W5 W6 W7 (by decide) (own_lenN pd__C_Ljava_lang_String_ rfl)) krN (plainFor_of_name pn_java_lang_String) rfl W7 W6)) (mk 0 (s_bipush at_57))) (mk 0 (s_dup at_56))) (cond (Nat.ble 53 pc) (mk 0 (s_new (k := 9) (sl := 2) (vs := [.null, .null]) at_53 rfl W0 W2 W3 knew9)) (mk 0 (s_iconst at_52)))))) (cond (Nat.ble 32 pc) (cond (Nat.ble 40 pc) (cond (Nat.ble 46 pc) (cond (Nat.ble 49 pc) (cond (Nat.ble 50 pc) (mk 0 (s_aload at_50)) (mk 0 (s_aastore (k := 8) (kv := 9) (C := cn5) at_49 rfl rfl (by decide) (.inl rfl)))) (mk 0 (s_call (n := 3) (b' := 6) (maxL := 3) (kr := some 9) (.init at_46 rfl rfl (.inl W30) W31 W32 (by decide) (own_lenN pd__Ljava_lang_String_Lcom_example_hornwort_hornwort_Position_V rfl)) (krS (by decide)) (plainFor_of_name pn_com_example_hornwort_hornwort_Variable) rfl W32 W3))) (cond (Nat.ble 42 pc) (cond (Nat.ble 45 pc) (mk 0 (s_null at_45)) (mk 0 (s_call (n := 1) (b' := 1) (maxL := 1) (kr := none) (.stat at_42 (.inl W4) W5 W6 W7 (by decide) (own_lenN pd__C_Ljava_lang_String_ rfl)) krN (plainFor_of_name pn_java_lang_String) rfl W7 W6))) (mk 0 (s_bipush at_40)))) (cond (Nat.ble 35 pc) (cond (Nat.ble 36 pc) (cond (Nat.ble 39 pc) (mk 0 (s_dup at_39)) (mk 0 (s_new (k := 9) (sl := 2) (vs := [.null, .null]) at_36 rfl W0 W2 W3 knew9))) (mk 0 (s_iconst at_35))) (cond (Nat.ble 33 pc) (mk 0 (s_aload at_33)) (mk 0 (s_aastore (k := 8) (kv := 9) (C := cn5) at_32 rfl rfl (by decide) (.inl rfl)))))) (cond (Nat.ble 19 pc) (cond (Nat.ble 25 pc) (cond (Nat.ble 28 pc) (cond (Nat.ble 29 pc) (mk 0 (s_call (n := 3) (b' := 6) (maxL := 3) (kr := some 9) (.init at_29 rfl rfl (.inl W30) W31 W32 (by decide) (own_lenN pd__Ljava_lang_String_Lcom_example_hornwort_hornwort_Position_V rfl)) (krS (by decide)) (plainFor_of_name pn_com_example_hornwort_hornwort_Variable) rfl W32 W3)) (mk 0 (s_null at_28))) (mk 0 (s_call (n := 1) (b' := 1) (maxL := 1) (kr := none) (.stat at_25 (.inl W4) W5 W6 W7 (by decide) (own_lenN pd__C_Ljava_lang_String_ rfl)) krN (plainFor_of_name pn_java_lang_String) rfl W7 W6))) (cond (Nat.ble 22 pc) (cond (Nat.ble 23 pc) (mk 0 (s_bipush at_23)) (mk 0 (s_dup at_22))) (mk 0 (s_new (k := 9) (sl := 2) (vs := [.null, .null]) at_19 rfl W0 W2 W3 knew9)))) (cond (Nat.ble 14 pc) (cond (Nat.ble 16 pc) (cond (Nat.ble 18 pc) (mk 0 (s_iconst at_18)) (mk 0 (s_aload at_16))) (mk 0 (s_astore at_14))) (cond (Nat.ble 11 pc) (mk 0 (s_newr (k := 8) at_11 rfl rfl W0 W1 rfl)) (mk 0 (s_iconst at_10))))))))
def t1 (pc : Nat) : GStep := cond (Nat.ble 16 pc) (cond (Nat.ble 21 pc) (cond (Nat.ble 22 pc) (cond (Nat.ble 25 pc) (mk 1 (s_reta d1_25 rfl rfl)) (mk 1 (s_call (n := 3) (b' := 4) (maxL := 3) (kr := some 10) (.init d1_22 rfl rfl (.inl W19) W20 W22 (by decide) (own_lenN pd__BB_V rfl)) (krS (by decide)) (plainFor_of_name pn_java_lang_String) rfl W22 W6))) (mk 1 (s_iconst d1_21))) (cond (Nat.ble 17 pc) (cond (Nat.ble 18 pc) (mk 1 (s_call (n := 1) (b' := 3) (maxL := 1) (kr := none) (.stat d1_18 (.inl W15) W16 W11 W17 (by decide) (own_lenN pd__C_B rfl)) krN (plainFor_of_name pn_java_lang_StringLatin1) rfl W17 W11)) (mk 1 (s_iloadN d1_17))) (mk 1 (s_dup d1_16)))) (cond (Nat.ble 7 pc) (cond (Nat.ble 10 pc) (cond (Nat.ble 13 pc) (mk 1 (s_new (k := 10) (sl := 4) (vs := [.null, .int (0 : Int32), .int (0 : Int32), .int (0 : Int32)]) d1_13 rfl W13 W14 W6 knew10)) (mk 1 (s_if (pcY := 26) d1_10 (by decide) (by decide)))) (mk 1 (s_call (n := 1) (b' := 2) (maxL := 1) (kr := none) (.stat d1_7 (.inl W9) W10 W11 W12 (by decide) (own_lenN pd__C_Z rfl)) krN (plainFor_of_name pn_java_lang_StringLatin1) rfl W12 W11))) (cond (Nat.ble 3 pc) (cond (Nat.ble 6 pc) (mk 1 (s_iloadN d1_6)) (mk 1 (s_if (pcY := 26) d1_3 (by decide) (by decide)))) (mk 1 (s_gets (i := 0) (v := .retAddr 1) d1_0 rfl (.inl W8) .refl))))
def t2 (pc : Nat) : GStep := cond (Nat.ble 7 pc) (cond (Nat.ble 8 pc) (cond (Nat.ble 12 pc) (mk 2 (s_reti (ty := .boolean) d2_12 rfl (by decide))) (mk 2 (s_goto (pc' := 12) d2_8 (by decide) (by decide)))) (mk 2 (s_iconst d2_7))) (cond (Nat.ble 1 pc) (cond (Nat.ble 4 pc) (mk 2 (s_icmp (pcY := 11) d2_4 (by decide) (by decide))) (mk 2 (s_sipush d2_1))) (mk 2 (s_iloadN d2_0)))
def t3 (pc : Nat) : GStep := cond (Nat.ble 5 pc) (cond (Nat.ble 7 pc) (cond (Nat.ble 8 pc) (mk 3 (s_reta d3_8 rfl rfl)) (mk 3 (s_bastore (k := 11) d3_7 rfl rfl))) (cond (Nat.ble 6 pc) (mk 3 (s_i2b d3_6)) (mk 3 (s_iloadN d3_5)))) (cond (Nat.ble 3 pc) (cond (Nat.ble 4 pc) (mk 3 (s_iconst d3_4)) (mk 3 (s_dup d3_3))) (cond (Nat.ble 1 pc) (mk 3 (s_newp (k := 11) (dv := .int 0) d3_1 rfl rfl W18 rfl (fun _ => rfl))) (mk 3 (s_iconst d3_0))))
def t4 (pc : Nat) : GStep := cond (Nat.ble 6 pc) (cond (Nat.ble 10 pc) (cond (Nat.ble 11 pc) (cond (Nat.ble 14 pc) (mk 4 (s_retv d4_14 rfl)) (mk 4 (s_putf (k := 10) (q := 1) (ty := .byte) d4_11 rfl rfl (.inl W28) .refl kok10 (.inr ⟨W29, rfl, rfl⟩) W14 (by decide)))) (mk 4 (s_iloadN d4_10))) (cond (Nat.ble 9 pc) (mk 4 (s_aloadN d4_9)) (mk 4 (s_putf (k := 10) (q := 0) (ty := (.array .byte)) d4_6 rfl rfl (.inl W26) .refl kok10 (.inr ⟨W27, rfl, rfl⟩) W14 (by decide))))) (cond (Nat.ble 4 pc) (cond (Nat.ble 5 pc) (mk 4 (s_aloadN d4_5)) (mk 4 (s_aloadN d4_4))) (cond (Nat.ble 1 pc) (mk 4 (s_objinit d4_1 W23 W24 W25)) (mk 4 (s_aloadN d4_0))))
def t6 (pc : Nat) : GStep := cond (Nat.ble 6 pc) (cond (Nat.ble 10 pc) (cond (Nat.ble 11 pc) (cond (Nat.ble 14 pc) (mk 6 (s_retv d6_14 rfl)) (mk 6 (s_putf (k := 9) (q := 1) (ty := (.object "com/example/hornwort/hornwort/Position")) d6_11 rfl rfl (.inl W41) .refl kok9 (.inr ⟨W42, rfl, rfl⟩) W2 (by decide)))) (mk 6 (s_aloadN d6_10))) (cond (Nat.ble 9 pc) (mk 6 (s_aloadN d6_9)) (mk 6 (s_putf (k := 9) (q := 0) (ty := (.object cn3)) d6_6 rfl rfl (.inl W39) .refl kok9 (.inr ⟨W40, rfl, rfl⟩) W2 (by decide))))) (cond (Nat.ble 4 pc) (cond (Nat.ble 5 pc) (mk 6 (s_aloadN d6_5)) (mk 6 (s_aloadN d6_4))) (cond (Nat.ble 1 pc) (mk 6 (s_call (n := 1) (b' := 7) (maxL := 1) (kr := some 9) (.init d6_1 rfl rfl (.inl W33) W34 W37 (by decide) (own_lenN pd__V rfl)) (krS (by decide)) (plainFor_of_name pn_com_example_hornwort_hornwort_Term) rfl W37 W36)) (mk 6 (s_aloadN d6_0))))
def t7 (pc : Nat) : GStep := cond (Nat.ble 1 pc) (cond (Nat.ble 4 pc) (mk 7 (s_retv d7_4 rfl)) (mk 7 (s_objinit d7_1 W38 W24 W25))) (mk 7 (s_aloadN d7_0))
def t8 (pc : Nat) : GStep := cond (Nat.ble 5 pc) (cond (Nat.ble 8 pc) (cond (Nat.ble 11 pc) (mk 8 (s_retv d8_11 rfl)) (mk 8 (s_putf (k := 12) (q := 1) (ty := (.array (.object cn1))) d8_8 rfl rfl (.inl W66) .refl kok12 (.inl W67) W45 (by decide)))) (mk 8 (s_gets (i := 2) (v := .ref 1) d8_5 rfl (.inl W65) .refl))) (cond (Nat.ble 1 pc) (cond (Nat.ble 4 pc) (mk 8 (s_aloadN d8_4)) (mk 8 (s_call (n := 1) (b' := 9) (maxL := 1) (kr := some 12) (.init d8_1 rfl rfl (.inl W50) W51 W55 (by decide) (own_lenN pd__V rfl)) (krS (by decide)) (plainFor_of_name pn_java_util_AbstractList) rfl W55 W54))) (mk 8 (s_aloadN d8_0)))
def t9 (pc : Nat) : GStep := cond (Nat.ble 5 pc) (cond (Nat.ble 6 pc) (cond (Nat.ble 9 pc) (mk 9 (s_retv d9_9 rfl)) (mk 9 (s_putf (k := 12) (q := 0) (ty := .int) d9_6 rfl rfl (.inl W63) .refl kok12 (.inl W64) W45 (by decide)))) (mk 9 (s_iconst d9_5))) (cond (Nat.ble 1 pc) (cond (Nat.ble 4 pc) (mk 9 (s_aloadN d9_4)) (mk 9 (s_call (n := 1) (b' := 10) (maxL := 1) (kr := some 12) (.init d9_1 rfl rfl (.inl W56) W57 W61 (by decide) (own_lenN pd__V rfl)) (krS (by decide)) (plainFor_of_name pn_java_util_AbstractCollection) rfl W61 W60))) (mk 9 (s_aloadN d9_0)))
def t10 (pc : Nat) : GStep := cond (Nat.ble 1 pc) (cond (Nat.ble 4 pc) (mk 10 (s_retv d10_4 rfl)) (mk 10 (s_objinit d10_1 W62 W24 W25))) (mk 10 (s_aloadN d10_0))
def t11 (pc : Nat) : GStep := cond (Nat.ble 11 pc) (cond (Nat.ble 17 pc) (cond (Nat.ble 23 pc) (cond (Nat.ble 24 pc) (mk 11 (s_reti (ty := .boolean) d11_24 rfl (by decide))) (mk 11 (s_iconst d11_23))) (cond (Nat.ble 20 pc) (mk 11 (s_call (n := 4) (b' := 12) (maxL := 4) (kr := some 12) (.priv d11_20 W81 W82 W84 W83 W85 (by decide) (own_lenN pd__Ljava_lang_Object_Ljava_lang_Object_I_V rfl)) (krS (by decide)) (plainFor_of_name pn_java_util_ArrayList) rfl W85 W46)) (mk 11 (s_getf (k := 12) (q := 2) d11_17 rfl rfl (.inl W79) .refl)))) (cond (Nat.ble 13 pc) (cond (Nat.ble 16 pc) (mk 11 (s_aloadN d11_16)) (mk 11 (s_getf (k := 12) (q := 1) d11_13 rfl rfl (.inl W66) .refl))) (cond (Nat.ble 12 pc) (mk 11 (s_aloadN d11_12)) (mk 11 (s_aloadN d11_11))))) (cond (Nat.ble 5 pc) (cond (Nat.ble 7 pc) (cond (Nat.ble 10 pc) (mk 11 (s_aloadN d11_10)) (mk 11 (s_putf (k := 12) (q := 0) (ty := .int) d11_7 rfl rfl (.inl W77) (.of W78) kok12 (.inl W64) W45 (by decide)))) (cond (Nat.ble 6 pc) (mk 11 (s_iadd d11_6)) (mk 11 (s_iconst d11_5)))) (cond (Nat.ble 1 pc) (cond (Nat.ble 2 pc) (mk 11 (s_getf (k := 12) (q := 0) d11_2 rfl rfl (.inl W77) (.of W78))) (mk 11 (s_dup d11_1))) (mk 11 (s_aloadN d11_0))))
def t12 (pc : Nat) : GStep := cond (Nat.ble 12 pc) (cond (Nat.ble 16 pc) (cond (Nat.ble 18 pc) (cond (Nat.ble 19 pc) (cond (Nat.ble 22 pc) (mk 12 (s_retv d12_22 rfl)) (mk 12 (s_putf (k := 12) (q := 2) (ty := .int) d12_19 rfl rfl (.inl W79) .refl kok12 (.inl W80) W45 (by decide)))) (mk 12 (s_iadd d12_18))) (cond (Nat.ble 17 pc) (mk 12 (s_iconst d12_17)) (mk 12 (s_iloadN d12_16)))) (cond (Nat.ble 14 pc) (cond (Nat.ble 15 pc) (mk 12 (s_aloadN d12_15)) (mk 12 (s_aastore (k := 13) (kv := 9) (C := cn1) d12_14 rfl rfl (by decide) (.inr W102)))) (cond (Nat.ble 13 pc) (mk 12 (s_aloadN d12_13)) (mk 12 (s_iloadN d12_12))))) (cond (Nat.ble 6 pc) (cond (Nat.ble 10 pc) (cond (Nat.ble 11 pc) (mk 12 (s_aloadN d12_11)) (mk 12 (s_astoreN d12_10))) (cond (Nat.ble 7 pc) (mk 12 (s_call (n := 1) (b' := 13) (maxL := 1) (kr := some 12) (.priv d12_7 W86 W87 W89 W88 W90 (by decide) (own_lenN pd___Ljava_lang_Object_ rfl)) (krS (by decide)) (plainFor_of_name pn_java_util_ArrayList) rfl W90 W46)) (mk 12 (s_aloadN d12_6)))) (cond (Nat.ble 2 pc) (cond (Nat.ble 3 pc) (mk 12 (s_icmp (pcY := 11) d12_3 (by decide) (by decide))) (mk 12 (s_or (s_alen (k := 0) d12_2 (.inl rfl)) (s_alen (k := 13) d12_2 (.inr (.inl rfl)))))) (cond (Nat.ble 1 pc) (mk 12 (s_aloadN d12_1)) (mk 12 (s_iloadN d12_0)))))
def t13 (pc : Nat) : GStep := cond (Nat.ble 5 pc) (cond (Nat.ble 7 pc) (cond (Nat.ble 10 pc) (mk 13 (s_reta d13_10 rfl rfl)) (mk 13 (s_call (n := 2) (b' := 14) (maxL := 4) (kr := some 12) (.priv d13_7 W91 W92 W94 W93 W95 (by decide) (own_lenN pd__I_Ljava_lang_Object_ rfl)) (krS (by decide)) (plainFor_of_name pn_java_util_ArrayList) rfl W95 W46))) (cond (Nat.ble 6 pc) (mk 13 (s_iadd d13_6)) (mk 13 (s_iconst d13_5)))) (cond (Nat.ble 1 pc) (cond (Nat.ble 2 pc) (mk 13 (s_getf (k := 12) (q := 2) d13_2 rfl rfl (.inl W79) .refl)) (mk 13 (s_aloadN d13_1))) (mk 13 (s_aloadN d13_0)))
def t14 (pc : Nat) : GStep := cond (Nat.ble 17 pc) (cond (Nat.ble 49 pc) (cond (Nat.ble 55 pc) (cond (Nat.ble 56 pc) (cond (Nat.ble 59 pc) (mk 14 (s_reta d14_59 rfl rfl)) (mk 14 (s_putf (k := 12) (q := 1) (ty := (.array (.object cn1))) d14_56 rfl rfl (.inl W66) .refl kok12 (.inl W67) W45 (by decide)))) (mk 14 (s_dupX1 d14_55))) (cond (Nat.ble 52 pc) (mk 14 (s_newr (k := 13) d14_52 rfl rfl W100 W101 rfl)) (mk 14 (s_call (n := 2) (b' := 15) (maxL := 2) (kr := none) (.stat d14_49 (.inl W96) W97 W98 W99 (by decide) (own_lenN pd__II_I rfl)) krN (Jvm.Free.JP.mathPlain rfl (by decide +kernel)) rfl W99 W98)))) (cond (Nat.ble 46 pc) (cond (Nat.ble 48 pc) (mk 14 (s_iloadN d14_48)) (mk 14 (s_bipush d14_46))) (cond (Nat.ble 45 pc) (mk 14 (s_aloadN d14_45)) (mk 14 (s_acmp (pcY := 45) d14_17 (by decide) (by decide)))))) (cond (Nat.ble 6 pc) (cond (Nat.ble 10 pc) (cond (Nat.ble 11 pc) (cond (Nat.ble 14 pc) (mk 14 (s_gets (i := 2) (v := .ref 1) d14_14 rfl (.inl W65) .refl)) (mk 14 (s_getf (k := 12) (q := 1) d14_11 rfl rfl (.inl W66) .refl))) (mk 14 (s_aloadN d14_10))) (cond (Nat.ble 7 pc) (mk 14 (s_if (pcY := 20) d14_7 (by decide) (by decide))) (mk 14 (s_iloadN d14_6)))) (cond (Nat.ble 4 pc) (cond (Nat.ble 5 pc) (mk 14 (s_istoreN d14_5)) (mk 14 (s_alen (k := 0) d14_4 (.inl rfl)))) (cond (Nat.ble 1 pc) (mk 14 (s_getf (k := 12) (q := 1) d14_1 rfl rfl (.inl W66) .refl)) (mk 14 (s_aloadN d14_0)))))
def t15 (pc : Nat) : GStep := cond (Nat.ble 5 pc) (cond (Nat.ble 6 pc) (cond (Nat.ble 10 pc) (mk 15 (s_reti (ty := .int) d15_10 rfl (by decide))) (mk 15 (s_goto (pc' := 10) d15_6 (by decide) (by decide)))) (mk 15 (s_iloadN d15_5))) (cond (Nat.ble 1 pc) (cond (Nat.ble 2 pc) (mk 15 (s_icmp (pcY := 9) d15_2 (by decide) (by decide))) (mk 15 (s_iloadN d15_1))) (mk 15 (s_iloadN d15_0)))
def t16 (pc : Nat) : GStep := cond (Nat.ble 9 pc) (cond (Nat.ble 11 pc) (cond (Nat.ble 14 pc) (cond (Nat.ble 17 pc) (mk 16 (s_retv d16_17 rfl)) (mk 16 (s_putf (k := 15) (q := 1) (ty := (.object "java/util/List")) d16_14 rfl rfl (.inl W203) .refl kok15 (.inr ⟨W204, rfl, rfl⟩) W107 (by decide)))) (mk 16 (s_call (n := 1) (b' := 17) (maxL := 1) (kr := none) (.stat d16_11 (.inl W115) W116 W117 W118 (by decide) (own_lenN pd__Ljava_util_Collection_Ljava_util_List_ rfl)) krN (plainFor_of_name pn_java_util_List) rfl W118 W117))) (cond (Nat.ble 10 pc) (mk 16 (s_aloadN d16_10)) (mk 16 (s_aloadN d16_9)))) (cond (Nat.ble 4 pc) (cond (Nat.ble 5 pc) (cond (Nat.ble 6 pc) (mk 16 (s_putf (k := 15) (q := 0) (ty := (.object cn3)) d16_6 rfl rfl (.inl W113) .refl kok15 (.inr ⟨W114, rfl, rfl⟩) W107 (by decide))) (mk 16 (s_aloadN d16_5))) (mk 16 (s_aloadN d16_4))) (cond (Nat.ble 1 pc) (mk 16 (s_objinit d16_1 W112 W24 W25)) (mk 16 (s_aloadN d16_0))))
def t17 (pc : Nat) : GStep := cond (Nat.ble 1 pc) (cond (Nat.ble 4 pc) (mk 17 (s_reta d17_4 rfl rfl)) (mk 17 (s_call (n := 1) (b' := 18) (maxL := 2) (kr := none) (.stat d17_1 (.inl W119) W120 W121 W122 (by decide) (own_lenN pd__Ljava_util_Collection_Ljava_util_List_ rfl)) krN (plainFor_of_name pn_java_util_ImmutableCollections) rfl W122 W121))) (mk 17 (s_aloadN d17_0))
def t18 (pc : Nat) : GStep := cond (Nat.ble 32 pc) (cond (Nat.ble 44 pc) (cond (Nat.ble 50 pc) (cond (Nat.ble 53 pc) (mk 18 (s_reta d18_53 rfl rfl)) (mk 18 (s_call (n := 1) (b' := 24) (maxL := 2) (kr := none) (.stat d18_50 (.inl W168) W169 W117 W170 (by decide) (own_lenN pd__Ljava_lang_Object_Ljava_util_List_ rfl)) krN (plainFor_of_name pn_java_util_List) rfl W170 W117))) (cond (Nat.ble 45 pc) (mk 18 (s_call (n := 1) (b' := 20) (maxL := 1) (kr := some 12) (.face (y := (⟨"java/util/Collection", "toArray", "()[Ljava/lang/Object;"⟩ : MethodName)) d18_45 W138 W139 W140 (by decide) W141 W142 W143 W144 W136 (by decide) (own_lenN pd___Ljava_lang_Object_ rfl)) (krS (by decide)) (plainFor_of_name pn_java_util_ArrayList) rfl W145 W46)) (mk 18 (s_aloadN d18_44)))) (cond (Nat.ble 40 pc) (cond (Nat.ble 43 pc) (mk 18 (s_reta d18_43 rfl rfl)) (mk 18 (s_call (n := 0) (b' := 67) (maxL := 0) (kr := none) (.stat d18_40 (.inl W477) W478 W117 W479 (by decide) (own_lenN pd__Ljava_util_List_ rfl)) krN (plainFor_of_name pn_java_util_List) rfl W479 W117))) (cond (Nat.ble 37 pc) (mk 18 (s_if (pcY := 44) d18_37 (by decide) (by decide))) (mk 18 (s_call (n := 1) (b' := 19) (maxL := 1) (kr := some 12) (.face (y := (⟨"java/util/Collection", "isEmpty", "()Z"⟩ : MethodName)) d18_32 W129 W130 W131 (by decide) W132 W133 W134 W135 W136 (by decide) (own_lenN pd__Z rfl)) (krS (by decide)) (plainFor_of_name pn_java_util_ArrayList) rfl W137 W46))))) (cond (Nat.ble 7 pc) (cond (Nat.ble 11 pc) (cond (Nat.ble 31 pc) (mk 18 (s_aloadN d18_31)) (mk 18 (s_if (pcY := 31) d18_11 (by decide) (by decide)))) (cond (Nat.ble 8 pc) (mk 18 (s_inst (kv := 12) (z := 0) d18_8 W128 (.inr ⟨rfl, by decide, fun _ _ hw => own_NS_no (W124 _ _ hw) (W179 _ _ hw) (NS.step (W124 _ _ hw) (NS.step (W125 _ _ hw) (NS.step (W126 _ _ hw) (own_NS_root (W127 _ _ hw) (W179 _ _ hw) (by decide)) (by decide)) (by decide)) (by decide)) (by decide)⟩))) (mk 18 (s_aloadN d18_7)))) (cond (Nat.ble 1 pc) (cond (Nat.ble 4 pc) (mk 18 (s_if (pcY := 26) d18_4 (by decide) (by decide))) (mk 18 (s_inst (kv := 12) (z := 0) d18_1 W123 (.inr ⟨rfl, by decide, fun _ _ hw => own_NS_no (W124 _ _ hw) (W213 _ _ hw) (NS.step (W124 _ _ hw) (NS.step (W125 _ _ hw) (NS.step (W126 _ _ hw) (own_NS_root (W127 _ _ hw) (W213 _ _ hw) (by decide)) (by decide)) (by decide)) (by decide)) (by decide)⟩)))) (mk 18 (s_aloadN d18_0))))
def t19 (pc : Nat) : GStep := cond (Nat.ble 7 pc) (cond (Nat.ble 11 pc) (cond (Nat.ble 12 pc) (mk 19 (s_reti (ty := .boolean) d19_12 rfl (by decide))) (mk 19 (s_iconst d19_11))) (cond (Nat.ble 8 pc) (mk 19 (s_goto (pc' := 12) d19_8 (by decide) (by decide))) (mk 19 (s_iconst d19_7)))) (cond (Nat.ble 1 pc) (cond (Nat.ble 4 pc) (mk 19 (s_if (pcY := 11) d19_4 (by decide) (by decide))) (mk 19 (s_getf (k := 12) (q := 2) d19_1 rfl rfl (.inl W79) .refl))) (mk 19 (s_aloadN d19_0)))
def t20 (pc : Nat) : GStep := cond (Nat.ble 5 pc) (cond (Nat.ble 8 pc) (cond (Nat.ble 11 pc) (mk 20 (s_reta d20_11 rfl rfl)) (mk 20 (s_call (n := 2) (b' := 21) (maxL := 2) (kr := none) (.stat d20_8 (.inl W146) W147 W148 W149 (by decide) (own_lenN pd__Ljava_lang_Object_I_Ljava_lang_Object_ rfl)) krN (plainFor_of_name pn_java_util_Arrays) rfl W149 W148))) (mk 20 (s_getf (k := 12) (q := 2) d20_5 rfl rfl (.inl W79) .refl))) (cond (Nat.ble 1 pc) (cond (Nat.ble 4 pc) (mk 20 (s_aloadN d20_4)) (mk 20 (s_getf (k := 12) (q := 1) d20_1 rfl rfl (.inl W66) .refl))) (mk 20 (s_aloadN d20_0)))
def t21 (pc : Nat) : GStep := cond (Nat.ble 3 pc) (cond (Nat.ble 6 pc) (cond (Nat.ble 9 pc) (mk 21 (s_reta d21_9 rfl rfl)) (mk 21 (s_call (n := 3) (b' := 22) (maxL := 4) (kr := none) (.stat d21_6 (.inl W156) W157 W148 W158 (by decide) (own_lenN pd__Ljava_lang_Object_ILjava_lang_Class__Ljava_lang_Object_ rfl)) krN (plainFor_of_name pn_java_util_Arrays) rfl W158 W148))) (mk 21 (s_gcls (kv := 13) (i := 7) (k := 4) d21_3 rfl (by decide) rfl W150 W151 W127 W153 W152 W154))) (cond (Nat.ble 1 pc) (cond (Nat.ble 2 pc) (mk 21 (s_aloadN d21_2)) (mk 21 (s_iloadN d21_1))) (mk 21 (s_aloadN d21_0)))
def t22 (pc : Nat) : GStep := cond (Nat.ble 27 pc) (cond (Nat.ble 31 pc) (cond (Nat.ble 35 pc) (cond (Nat.ble 38 pc) (cond (Nat.ble 39 pc) (mk 22 (s_reta d22_39 rfl rfl)) (mk 22 (s_aloadN d22_38))) (mk 22 (s_acopy (ka := 13) (kb := 13) (kvs := [9]) d22_35 (.inr (.inl rfl)) rfl rfl rfl (own_allS ⟨by decide, .inr W102⟩ (fun _ h => nomatch h)) W164 W167 W165 W166))) (cond (Nat.ble 32 pc) (mk 22 (s_call (n := 2) (b' := 23) (maxL := 2) (kr := none) (.stat d22_32 (.inl W161) W162 W98 W163 (by decide) (own_lenN pd__II_I rfl)) krN (Jvm.Free.JP.mathPlain rfl (by decide +kernel)) rfl W163 W98)) (mk 22 (s_iloadN d22_31)))) (cond (Nat.ble 29 pc) (cond (Nat.ble 30 pc) (mk 22 (s_alen (k := 13) d22_30 (.inr (.inl rfl)))) (mk 22 (s_aloadN d22_29))) (cond (Nat.ble 28 pc) (mk 22 (s_iconst d22_28)) (mk 22 (s_aloadN d22_27))))) (cond (Nat.ble 7 pc) (cond (Nat.ble 24 pc) (cond (Nat.ble 25 pc) (cond (Nat.ble 26 pc) (mk 22 (s_iconst d22_26)) (mk 22 (s_aloadN d22_25))) (mk 22 (s_astoreN d22_24))) (cond (Nat.ble 10 pc) (mk 22 (s_goto (pc' := 24) d22_10 (by decide) (by decide))) (mk 22 (s_newr (k := 13) d22_7 rfl rfl W160 W101 rfl)))) (cond (Nat.ble 3 pc) (cond (Nat.ble 6 pc) (mk 22 (s_iloadN d22_6)) (mk 22 (s_acmp (pcY := 13) d22_3 (by decide) (by decide)))) (cond (Nat.ble 1 pc) (mk 22 (s_ldcM (i := 7) (k := 4) d22_1 rfl W159)) (mk 22 (s_aloadN d22_0)))))
def t23 (pc : Nat) : GStep := cond (Nat.ble 2 pc) (cond (Nat.ble 9 pc) (cond (Nat.ble 10 pc) (mk 23 (s_reti (ty := .int) d23_10 rfl (by decide))) (mk 23 (s_iloadN d23_9))) (mk 23 (s_icmp (pcY := 9) d23_2 (by decide) (by decide)))) (cond (Nat.ble 1 pc) (mk 23 (s_iloadN d23_1)) (mk 23 (s_iloadN d23_0)))
def t24 (pc : Nat) : GStep := cond (Nat.ble 48 pc) (cond (Nat.ble 54 pc) (cond (Nat.ble 59 pc) (cond (Nat.ble 60 pc) (cond (Nat.ble 63 pc) (mk 24 (s_reta d24_63 rfl rfl)) (mk 24 (s_call (n := 1) (b' := 25) (maxL := 3) (kr := none) (.stat d24_60 (.inl W171) W172 W121 W173 (by decide) (own_lenN pd__Ljava_lang_Object_Ljava_util_List_ rfl)) krN (plainFor_of_name pn_java_util_ImmutableCollections) rfl W173 W121))) (mk 24 (s_aloadN d24_59))) (cond (Nat.ble 55 pc) (cond (Nat.ble 58 pc) (mk 24 (s_reta d24_58 rfl rfl)) (mk 24 (s_call (n := 3) (b' := 31) (maxL := 3) (kr := some 21) (.init d24_55 rfl rfl (.inl W215) W216 W218 (by decide) (own_lenN pd__Ljava_lang_Object_Ljava_lang_Object_V rfl)) (krS (by decide)) (plainFor_of_name pn_java_util_ImmutableCollections_List12) rfl W218 W214))) (mk 24 (s_aaload (k := 13) d24_54 (.inr (.inl rfl)) rfl)))) (cond (Nat.ble 51 pc) (cond (Nat.ble 52 pc) (cond (Nat.ble 53 pc) (mk 24 (s_iconst d24_53)) (mk 24 (s_aloadN d24_52))) (mk 24 (s_aaload (k := 13) d24_51 (.inr (.inl rfl)) rfl))) (cond (Nat.ble 49 pc) (cond (Nat.ble 50 pc) (mk 24 (s_iconst d24_50)) (mk 24 (s_aloadN d24_49))) (mk 24 (s_dup d24_48))))) (cond (Nat.ble 38 pc) (cond (Nat.ble 41 pc) (cond (Nat.ble 44 pc) (cond (Nat.ble 45 pc) (mk 24 (s_new (k := 21) (sl := 2) (vs := [.null, .null]) d24_45 rfl W212 W213 W214 knew21)) (mk 24 (s_reta d24_44 rfl rfl))) (mk 24 (s_call (n := 2) (b' := 66) (maxL := 2) (kr := some 21) (.init d24_41 rfl rfl (.inl W473) W474 W475 (by decide) (own_lenN pd__Ljava_lang_Object_V rfl)) (krS (by decide)) (plainFor_of_name pn_java_util_ImmutableCollections_List12) rfl W475 W214))) (cond (Nat.ble 39 pc) (cond (Nat.ble 40 pc) (mk 24 (s_aaload (k := 13) d24_40 (.inr (.inl rfl)) rfl)) (mk 24 (s_iconst d24_39))) (mk 24 (s_aloadN d24_38)))) (cond (Nat.ble 2 pc) (cond (Nat.ble 34 pc) (cond (Nat.ble 37 pc) (mk 24 (s_dup d24_37)) (mk 24 (s_new (k := 21) (sl := 2) (vs := [.null, .null]) d24_34 rfl W212 W213 W214 knew21))) (mk 24 (s_or (s_tswOut (z := (4 : Int32)) (pc' := 59) d24_2 (by decide) (by decide) (by decide)) (s_or (s_tswIn (z := (1 : Int32)) (pc' := 34) (i := 32) d24_2 (by decide) rfl (by decide) (by decide)) (s_or (s_tswIn (z := (2 : Int32)) (pc' := 45) (i := 43) d24_2 (by decide) rfl (by decide) (by decide)) (s_tswOut (z := (3 : Int32)) (pc' := 59) d24_2 (by decide) (by decide) (by decide))))))) (cond (Nat.ble 1 pc) (mk 24 (s_alen (k := 13) d24_1 (.inr (.inl rfl)))) (mk 24 (s_aloadN d24_0)))))
def t25 (pc : Nat) : GStep := cond (Nat.ble 16 pc) (cond (Nat.ble 26 pc) (cond (Nat.ble 33 pc) (cond (Nat.ble 35 pc) (cond (Nat.ble 38 pc) (mk 25 (s_reta d25_38 rfl rfl)) (mk 25 (s_call (n := 3) (b' := 27) (maxL := 3) (kr := some 3) (.init d25_35 rfl rfl (.inr ⟨_, W181⟩) W182 W184 (by decide) (own_lenN pd__Ljava_lang_Object_Z_V rfl)) (krS (by decide)) (plainFor_of_name pn_java_util_ImmutableCollections_ListN) rfl W184 W180))) (cond (Nat.ble 34 pc) (mk 25 (s_iconst d25_34)) (mk 25 (s_aloadN d25_33)))) (cond (Nat.ble 29 pc) (cond (Nat.ble 32 pc) (mk 25 (s_dup d25_32)) (mk 25 (s_new (k := 3) (sl := 2) (vs := [.null, .int (0 : Int32)]) d25_29 rfl W128 W179 W180 knew3))) (mk 25 (s_goto (pc' := 8) d25_26 (by decide) (by decide))))) (cond (Nat.ble 19 pc) (cond (Nat.ble 22 pc) (cond (Nat.ble 23 pc) (mk 25 (s_iinc d25_23)) (mk 25 (s_aastore (k := 13) (kv := 9) (C := cn1) d25_22 rfl rfl (by decide) (.inr W102)))) (mk 25 (s_call (n := 1) (b' := 26) (maxL := 1) (kr := none) (.stat d25_19 (.inl W175) W176 W177 W178 (by decide) (own_lenN pd__Ljava_lang_Object_Ljava_lang_Object_ rfl)) krN (plainFor_of_name pn_java_util_Objects) rfl W178 W177))) (cond (Nat.ble 17 pc) (cond (Nat.ble 18 pc) (mk 25 (s_aaload (k := 13) d25_18 (.inr (.inl rfl)) rfl)) (mk 25 (s_iloadN d25_17))) (mk 25 (s_aloadN d25_16))))) (cond (Nat.ble 8 pc) (cond (Nat.ble 11 pc) (cond (Nat.ble 14 pc) (cond (Nat.ble 15 pc) (mk 25 (s_iloadN d25_15)) (mk 25 (s_aloadN d25_14))) (mk 25 (s_icmp (pcY := 29) d25_11 (by decide) (by decide)))) (cond (Nat.ble 9 pc) (cond (Nat.ble 10 pc) (mk 25 (s_alen (k := 13) d25_10 (.inr (.inl rfl)))) (mk 25 (s_aloadN d25_9))) (mk 25 (s_iloadN d25_8)))) (cond (Nat.ble 5 pc) (cond (Nat.ble 6 pc) (cond (Nat.ble 7 pc) (mk 25 (s_istoreN d25_7)) (mk 25 (s_iconst d25_6))) (mk 25 (s_astoreN d25_5))) (cond (Nat.ble 1 pc) (cond (Nat.ble 2 pc) (mk 25 (s_newr (k := 13) d25_2 rfl rfl W174 W101 rfl)) (mk 25 (s_alen (k := 13) d25_1 (.inr (.inl rfl))))) (mk 25 (s_aloadN d25_0)))))
def t26 (pc : Nat) : GStep := cond (Nat.ble 12 pc) (cond (Nat.ble 13 pc) (mk 26 (s_reta d26_13 rfl rfl)) (mk 26 (s_aloadN d26_12))) (cond (Nat.ble 1 pc) (mk 26 (s_ifnonnull (pcY := 12) d26_1 (by decide) (by decide))) (mk 26 (s_aloadN d26_0)))
def t27 (pc : Nat) : GStep := cond (Nat.ble 6 pc) (cond (Nat.ble 10 pc) (cond (Nat.ble 11 pc) (cond (Nat.ble 14 pc) (mk 27 (s_retv d27_14 rfl)) (mk 27 (s_putf (k := 3) (q := 1) (ty := .boolean) d27_11 rfl rfl (.inl W201) .refl kok3 (.inr ⟨W202, rfl, rfl⟩) W179 (by decide)))) (mk 27 (s_iloadN d27_10))) (cond (Nat.ble 9 pc) (mk 27 (s_aloadN d27_9)) (mk 27 (s_putf (k := 3) (q := 0) (ty := (.array (.object cn1))) d27_6 rfl rfl (.inl W199) .refl kok3 (.inr ⟨W200, rfl, rfl⟩) W179 (by decide))))) (cond (Nat.ble 4 pc) (cond (Nat.ble 5 pc) (mk 27 (s_aloadN d27_5)) (mk 27 (s_aloadN d27_4))) (cond (Nat.ble 1 pc) (mk 27 (s_call (n := 1) (b' := 28) (maxL := 1) (kr := some 3) (.init d27_1 rfl rfl (.inl W185) W186 W190 (by decide) (own_lenN pd__V rfl)) (krS (by decide)) (plainFor_of_name pn_java_util_ImmutableCollections_AbstractImmutableList) rfl W190 W189)) (mk 27 (s_aloadN d27_0))))
def t28 (pc : Nat) : GStep := cond (Nat.ble 1 pc) (cond (Nat.ble 4 pc) (mk 28 (s_retv d28_4 rfl)) (mk 28 (s_or (s_call (n := 1) (b' := 29) (maxL := 1) (kr := some 3) (.init d28_1 rfl rfl (.inl W191) W192 W196 (by decide) (own_lenN pd__V rfl)) (krS (by decide)) (plainFor_of_name pn_java_util_ImmutableCollections_AbstractImmutableCollection) rfl W196 W195) (s_call (n := 1) (b' := 29) (maxL := 1) (kr := some 21) (.init d28_1 rfl rfl (.inl W191) W192 W196 (by decide) (own_lenN pd__V rfl)) (krS (by decide)) (plainFor_of_name pn_java_util_ImmutableCollections_AbstractImmutableCollection) rfl W196 W195)))) (mk 28 (s_aloadN d28_0))
def t29 (pc : Nat) : GStep := cond (Nat.ble 1 pc) (cond (Nat.ble 4 pc) (mk 29 (s_retv d29_4 rfl)) (mk 29 (s_or (s_call (n := 1) (b' := 10) (maxL := 1) (kr := some 3) (.init d29_1 rfl rfl (.inl W197) W57 W61 (by decide) (own_lenN pd__V rfl)) (krS (by decide)) (plainFor_of_name pn_java_util_AbstractCollection) rfl W61 W60) (s_call (n := 1) (b' := 10) (maxL := 1) (kr := some 21) (.init d29_1 rfl rfl (.inl W197) W57 W61 (by decide) (own_lenN pd__V rfl)) (krS (by decide)) (plainFor_of_name pn_java_util_AbstractCollection) rfl W61 W60)))) (mk 29 (s_aloadN d29_0))
def t30 (pc : Nat) : GStep := cond (Nat.ble 93 pc) (cond (Nat.ble 167 pc) (cond (Nat.ble 192 pc) (cond (Nat.ble 201 pc) (cond (Nat.ble 207 pc) (cond (Nat.ble 210 pc) (cond (Nat.ble 213 pc) (mk 30 (s_retv d30_213 rfl)) (mk 30 (s_putf (k := 14) (q := 6) (ty := .int) d30_210 rfl rfl (.inl W466) .refl kok14 (.inr ⟨W467, rfl, rfl⟩) W104 (by decide)))) (mk 30 (s_call (n := 4) (b' := 59) (maxL := 5) (kr := some 14) (.priv d30_207 W422 W423 (fun _ _ hw => own_selPriv (W104 _ _ hw) (W424 _ _ hw) (W423 _ _ hw) (by decide)) W424 W425 (by decide) (own_lenN pd__Lcom_example_hornwort_hornwort_Variable_Ljava_util_Map_Ljava_util_Set_I rfl)) (krS (by decide)) (plainFor_of_name pn_com_example_hornwort_hornwort_Selection) rfl W425 W105))) (cond (Nat.ble 203 pc) (cond (Nat.ble 205 pc) (mk 30 (s_aload d30_205)) (mk 30 (s_aload d30_203))) (mk 30 (s_aload d30_201)))) (cond (Nat.ble 196 pc) (cond (Nat.ble 199 pc) (cond (Nat.ble 200 pc) (mk 30 (s_aloadN d30_200)) (mk 30 (s_aloadN d30_199))) (mk 30 (s_goto (pc' := 157) d30_196 (by decide) (by decide)))) (cond (Nat.ble 193 pc) (mk 30 (s_iinc d30_193)) (mk 30 (s_iastore (k := 20) d30_192 rfl rfl))))) (cond (Nat.ble 175 pc) (cond (Nat.ble 185 pc) (cond (Nat.ble 187 pc) (cond (Nat.ble 189 pc) (mk 30 (s_call (n := 4) (b' := 59) (maxL := 5) (kr := some 14) (.priv d30_189 W422 W423 (fun _ _ hw => own_selPriv (W104 _ _ hw) (W424 _ _ hw) (W423 _ _ hw) (by decide)) W424 W425 (by decide) (own_lenN pd__Lcom_example_hornwort_hornwort_Variable_Ljava_util_Map_Ljava_util_Set_I rfl)) (krS (by decide)) (plainFor_of_name pn_com_example_hornwort_hornwort_Selection) rfl W425 W105)) (mk 30 (s_aload d30_187))) (mk 30 (s_aload d30_185))) (cond (Nat.ble 177 pc) (cond (Nat.ble 182 pc) (mk 30 (s_cast (kv := 9) d30_182 W274 ⟨by decide, .inl rfl⟩)) (mk 30 (s_call (n := 2) (b' := 55) (maxL := 2) (kr := some 12) (.face (y := (⟨"java/util/List", "get", cn14⟩ : MethodName)) d30_177 W266 W267 W268 (by decide) W405 W406 W407 W408 W75 (by decide) (own_lenN pd__I_Ljava_lang_Object__632 rfl)) (krS (by decide)) (plainFor_of_name pn_java_util_ArrayList) rfl W409 W46))) (mk 30 (s_iload d30_175)))) (cond (Nat.ble 171 pc) (cond (Nat.ble 173 pc) (cond (Nat.ble 174 pc) (mk 30 (s_aloadN d30_174)) (mk 30 (s_aloadN d30_173))) (mk 30 (s_iload d30_171))) (cond (Nat.ble 168 pc) (mk 30 (s_getf (k := 14) (q := 5) d30_168 rfl rfl (.inl W403) .refl)) (mk 30 (s_aloadN d30_167)))))) (cond (Nat.ble 143 pc) (cond (Nat.ble 155 pc) (cond (Nat.ble 160 pc) (cond (Nat.ble 163 pc) (cond (Nat.ble 164 pc) (mk 30 (s_icmp (pcY := 199) d30_164 (by decide) (by decide))) (mk 30 (s_alen (k := 20) d30_163 (.inl rfl)))) (mk 30 (s_getf (k := 14) (q := 5) d30_160 rfl rfl (.inl W403) .refl))) (cond (Nat.ble 157 pc) (cond (Nat.ble 159 pc) (mk 30 (s_aloadN d30_159)) (mk 30 (s_iload d30_157))) (mk 30 (s_istore d30_155)))) (cond (Nat.ble 149 pc) (cond (Nat.ble 151 pc) (cond (Nat.ble 154 pc) (mk 30 (s_iconst d30_154)) (mk 30 (s_putf (k := 14) (q := 5) (ty := (.array .int)) d30_151 rfl rfl (.inl W403) .refl kok14 (.inr ⟨W404, rfl, rfl⟩) W104 (by decide)))) (mk 30 (s_newp (k := 20) (dv := .int 0) d30_149 rfl rfl W402 rfl (fun _ => rfl)))) (cond (Nat.ble 144 pc) (mk 30 (s_call (n := 1) (b' := 54) (maxL := 1) (kr := some 12) (.face (y := (⟨"java/util/List", "size", "()I"⟩ : MethodName)) d30_144 W257 W258 W259 (by decide) W397 W398 W399 W400 W75 (by decide) (own_lenN pd__I rfl)) (krS (by decide)) (plainFor_of_name pn_java_util_ArrayList) rfl W401 W46)) (mk 30 (s_aloadN d30_143))))) (cond (Nat.ble 133 pc) (cond (Nat.ble 137 pc) (cond (Nat.ble 140 pc) (cond (Nat.ble 142 pc) (mk 30 (s_aloadN d30_142)) (mk 30 (s_astore d30_140))) (mk 30 (s_call (n := 1) (b' := 52) (maxL := 1) (kr := some 19) (.init d30_137 rfl rfl (.inl W381) W382 W383 (by decide) (own_lenN pd__V rfl)) (krS (by decide)) (plainFor_of_name pn_java_util_HashSet) rfl W383 W380))) (cond (Nat.ble 136 pc) (mk 30 (s_dup d30_136)) (mk 30 (s_new (k := 19) (sl := 1) (vs := [.null]) d30_133 rfl W378 W379 W380 knew19)))) (cond (Nat.ble 101 pc) (cond (Nat.ble 127 pc) (cond (Nat.ble 130 pc) (mk 30 (s_goto (pc' := 46) d30_130 (by decide) (by decide))) (mk 30 (s_iinc d30_127))) (mk 30 (s_ifnull (pcY := 127) d30_101 (by decide) (by decide)))) (cond (Nat.ble 96 pc) (mk 30 (s_call (n := 3) (b' := 42) (maxL := 3) (kr := some 16) (.face (y := (⟨"java/util/Map", "putIfAbsent", cn15⟩ : MethodName)) d30_96 W303 W304 W305 (by decide) W306 W307 W308 W309 W310 (by decide) (own_lenN pd__Ljava_lang_Object_Ljava_lang_Object_Ljava_lang_Object_ rfl)) (krS (by decide)) (plainFor_of_name pn_java_util_HashMap) rfl W311 W238)) (mk 30 (s_call (n := 1) (b' := 41) (maxL := 1) (kr := none) (.stat d30_93 (.inl W296) W297 W298 W299 (by decide) (own_lenN pd__I_Ljava_lang_Integer_ rfl)) krN (plainFor_of_name pn_java_lang_Integer) rfl W299 W298))))))) (cond (Nat.ble 41 pc) (cond (Nat.ble 64 pc) (cond (Nat.ble 78 pc) (cond (Nat.ble 86 pc) (cond (Nat.ble 88 pc) (cond (Nat.ble 91 pc) (mk 30 (s_iload d30_91)) (mk 30 (s_call (n := 1) (b' := 40) (maxL := 1) (kr := some 9) (.virt (y := (⟨cn5, "name", "()Ljava/lang/String;"⟩ : MethodName)) d30_88 W291 W292 (fun _ _ _ hw hZ => (notFace_of_selects (args := #[]) (mvT hZ (W294 _ _ hw)))) W294 W293 (by decide) (own_lenN pd__Ljava_lang_String_ rfl)) (krS (by decide)) (plainFor_of_name pn_com_example_hornwort_hornwort_Variable) rfl W295 W3))) (mk 30 (s_aload d30_86))) (cond (Nat.ble 81 pc) (cond (Nat.ble 84 pc) (mk 30 (s_aload d30_84)) (mk 30 (s_if (pcY := 127) d30_81 (by decide) (by decide)))) (mk 30 (s_call (n := 1) (b' := 37) (maxL := 1) (kr := some 9) (.virt (y := (⟨cn5, "isAnonymous", "()Z"⟩ : MethodName)) d30_78 W275 W276 (fun _ _ _ hw hZ => (notFace_of_selects (args := #[]) (mvT hZ (W278 _ _ hw)))) W278 W277 (by decide) (own_lenN pd__Z rfl)) (krS (by decide)) (plainFor_of_name pn_com_example_hornwort_hornwort_Variable) rfl W279 W3)))) (cond (Nat.ble 71 pc) (cond (Nat.ble 74 pc) (cond (Nat.ble 76 pc) (mk 30 (s_aload d30_76)) (mk 30 (s_astore d30_74))) (mk 30 (s_cast (kv := 9) d30_71 W274 ⟨by decide, .inl rfl⟩))) (cond (Nat.ble 66 pc) (mk 30 (s_call (n := 2) (b' := 36) (maxL := 2) (kr := some 3) (.face (y := (⟨"java/util/List", "get", cn14⟩ : MethodName)) d30_66 W266 W267 W268 (by decide) W269 W270 W271 W272 W264 (by decide) (own_lenN pd__I_Ljava_lang_Object__632 rfl)) (krS (by decide)) (plainFor_of_name pn_java_util_ImmutableCollections_ListN) rfl W273 W180)) (mk 30 (s_iload d30_64))))) (cond (Nat.ble 49 pc) (cond (Nat.ble 57 pc) (cond (Nat.ble 60 pc) (cond (Nat.ble 61 pc) (mk 30 (s_call (n := 1) (b' := 34) (maxL := 1) (kr := some 15) (.virt (y := (⟨cn8, "args", "()Ljava/util/List;"⟩ : MethodName)) d30_61 W252 W253 (fun _ _ _ hw hZ => (notFace_of_selects (args := #[]) (mvT hZ (W255 _ _ hw)))) W255 W254 (by decide) (own_lenN pd__Ljava_util_List_ rfl)) (krS (by decide)) (plainFor_of_name pn_com_example_hornwort_hornwort_Atom) rfl W256 W108)) (mk 30 (s_aloadN d30_60))) (mk 30 (s_icmp (pcY := 133) d30_57 (by decide) (by decide)))) (cond (Nat.ble 52 pc) (mk 30 (s_call (n := 1) (b' := 35) (maxL := 1) (kr := some 3) (.face (y := (⟨"java/util/List", "size", "()I"⟩ : MethodName)) d30_52 W257 W258 W259 (by decide) W260 W261 W262 W263 W264 (by decide) (own_lenN pd__I rfl)) (krS (by decide)) (plainFor_of_name pn_java_util_ImmutableCollections_ListN) rfl W265 W180)) (mk 30 (s_call (n := 1) (b' := 34) (maxL := 1) (kr := some 15) (.virt (y := (⟨cn8, "args", "()Ljava/util/List;"⟩ : MethodName)) d30_49 W252 W253 (fun _ _ _ hw hZ => (notFace_of_selects (args := #[]) (mvT hZ (W255 _ _ hw)))) W255 W254 (by decide) (own_lenN pd__Ljava_util_List_ rfl)) (krS (by decide)) (plainFor_of_name pn_com_example_hornwort_hornwort_Atom) rfl W256 W108)))) (cond (Nat.ble 44 pc) (cond (Nat.ble 46 pc) (cond (Nat.ble 48 pc) (mk 30 (s_aloadN d30_48)) (mk 30 (s_iload d30_46))) (mk 30 (s_istore d30_44))) (cond (Nat.ble 43 pc) (mk 30 (s_iconst d30_43)) (mk 30 (s_astore d30_41)))))) (cond (Nat.ble 18 pc) (cond (Nat.ble 28 pc) (cond (Nat.ble 34 pc) (cond (Nat.ble 37 pc) (cond (Nat.ble 38 pc) (mk 30 (s_call (n := 1) (b' := 32) (maxL := 1) (kr := some 16) (.init d30_38 rfl rfl (.inl W239) W240 W241 (by decide) (own_lenN pd__V rfl)) (krS (by decide)) (plainFor_of_name pn_java_util_HashMap) rfl W241 W238)) (mk 30 (s_dup d30_37))) (mk 30 (s_new (k := 16) (sl := 8) (vs := [.float 0, .null, .int (0 : Int32), .int (0 : Int32), .int (0 : Int32)]) d30_34 rfl W236 W237 W238 knew16))) (cond (Nat.ble 29 pc) (cond (Nat.ble 31 pc) (mk 30 (s_putf (k := 14) (q := 4) (ty := (.object "com/example/hornwort/hornwort/Position")) d30_31 rfl rfl (.inl W234) .refl kok14 (.inr ⟨W235, rfl, rfl⟩) W104 (by decide))) (mk 30 (s_aload d30_29))) (mk 30 (s_aloadN d30_28)))) (cond (Nat.ble 22 pc) (cond (Nat.ble 23 pc) (cond (Nat.ble 25 pc) (mk 30 (s_putf (k := 14) (q := 3) (ty := (.object cn5)) d30_25 rfl rfl (.inl W232) .refl kok14 (.inr ⟨W233, rfl, rfl⟩) W104 (by decide))) (mk 30 (s_aload d30_23))) (mk 30 (s_aloadN d30_22))) (cond (Nat.ble 19 pc) (mk 30 (s_putf (k := 14) (q := 2) (ty := (.object "com/example/hornwort/hornwort/Aggregate$Function")) d30_19 rfl rfl (.inl W230) .refl kok14 (.inr ⟨W231, rfl, rfl⟩) W104 (by decide))) (mk 30 (s_aloadN d30_18))))) (cond (Nat.ble 9 pc) (cond (Nat.ble 11 pc) (cond (Nat.ble 14 pc) (cond (Nat.ble 17 pc) (mk 30 (s_aloadN d30_17)) (mk 30 (s_putf (k := 14) (q := 1) (ty := (.object "java/util/List")) d30_14 rfl rfl (.inl W228) .refl kok14 (.inr ⟨W229, rfl, rfl⟩) W104 (by decide)))) (mk 30 (s_call (n := 1) (b' := 17) (maxL := 1) (kr := none) (.stat d30_11 (.inl W211) W116 W117 W118 (by decide) (own_lenN pd__Ljava_util_Collection_Ljava_util_List_ rfl)) krN (plainFor_of_name pn_java_util_List) rfl W118 W117))) (cond (Nat.ble 10 pc) (mk 30 (s_aloadN d30_10)) (mk 30 (s_aloadN d30_9)))) (cond (Nat.ble 4 pc) (cond (Nat.ble 5 pc) (cond (Nat.ble 6 pc) (mk 30 (s_putf (k := 14) (q := 0) (ty := (.object cn8)) d30_6 rfl rfl (.inl W209) .refl kok14 (.inr ⟨W210, rfl, rfl⟩) W104 (by decide))) (mk 30 (s_aloadN d30_5))) (mk 30 (s_aloadN d30_4))) (cond (Nat.ble 1 pc) (mk 30 (s_objinit d30_1 W208 W24 W25)) (mk 30 (s_aloadN d30_0)))))))
def t31 (pc : Nat) : GStep := cond (Nat.ble 9 pc) (cond (Nat.ble 14 pc) (cond (Nat.ble 17 pc) (cond (Nat.ble 20 pc) (mk 31 (s_retv d31_20 rfl)) (mk 31 (s_putf (k := 21) (q := 1) (ty := (.object cn1)) d31_17 rfl rfl (.inl W226) .refl kok21 (.inr ⟨W227, rfl, rfl⟩) W213 (by decide)))) (mk 31 (s_call (n := 1) (b' := 26) (maxL := 1) (kr := none) (.stat d31_14 (.inl W223) W176 W177 W178 (by decide) (own_lenN pd__Ljava_lang_Object_Ljava_lang_Object_ rfl)) krN (plainFor_of_name pn_java_util_Objects) rfl W178 W177))) (cond (Nat.ble 12 pc) (cond (Nat.ble 13 pc) (mk 31 (s_aloadN d31_13)) (mk 31 (s_aloadN d31_12))) (mk 31 (s_putf (k := 21) (q := 0) (ty := (.object cn1)) d31_9 rfl rfl (.inl W224) .refl kok21 (.inr ⟨W225, rfl, rfl⟩) W213 (by decide))))) (cond (Nat.ble 4 pc) (cond (Nat.ble 5 pc) (cond (Nat.ble 6 pc) (mk 31 (s_call (n := 1) (b' := 26) (maxL := 1) (kr := none) (.stat d31_6 (.inl W223) W176 W177 W178 (by decide) (own_lenN pd__Ljava_lang_Object_Ljava_lang_Object_ rfl)) krN (plainFor_of_name pn_java_util_Objects) rfl W178 W177)) (mk 31 (s_aloadN d31_5))) (mk 31 (s_aloadN d31_4))) (cond (Nat.ble 1 pc) (mk 31 (s_call (n := 1) (b' := 28) (maxL := 1) (kr := some 21) (.init d31_1 rfl rfl (.inl W219) W186 W190 (by decide) (own_lenN pd__V rfl)) (krS (by decide)) (plainFor_of_name pn_java_util_ImmutableCollections_AbstractImmutableList) rfl W190 W189)) (mk 31 (s_aloadN d31_0))))
def t32 (pc : Nat) : GStep := cond (Nat.ble 5 pc) (cond (Nat.ble 7 pc) (cond (Nat.ble 10 pc) (mk 32 (s_retv d32_10 rfl)) (mk 32 (s_putf (k := 16) (q := 0) (ty := .float) d32_7 rfl rfl (.inl W250) .refl kok16 (.inr ⟨W251, rfl, rfl⟩) W237 (by decide)))) (mk 32 (s_ldcF (z := (1061158912 : UInt32)) d32_5 W249))) (cond (Nat.ble 1 pc) (cond (Nat.ble 4 pc) (mk 32 (s_aloadN d32_4)) (mk 32 (s_call (n := 1) (b' := 33) (maxL := 1) (kr := some 16) (.init d32_1 rfl rfl (.inl W242) W243 W247 (by decide) (own_lenN pd__V rfl)) (krS (by decide)) (plainFor_of_name pn_java_util_AbstractMap) rfl W247 W246))) (mk 32 (s_aloadN d32_0)))
def t33 (pc : Nat) : GStep := cond (Nat.ble 1 pc) (cond (Nat.ble 4 pc) (mk 33 (s_retv d33_4 rfl)) (mk 33 (s_objinit d33_1 W248 W24 W25))) (mk 33 (s_aloadN d33_0))
def t34 (pc : Nat) : GStep := cond (Nat.ble 1 pc) (cond (Nat.ble 4 pc) (mk 34 (s_reta d34_4 rfl rfl)) (mk 34 (s_getf (k := 15) (q := 1) d34_1 rfl rfl (.inl W203) .refl))) (mk 34 (s_aloadN d34_0))
def t35 (pc : Nat) : GStep := cond (Nat.ble 4 pc) (cond (Nat.ble 5 pc) (mk 35 (s_reti (ty := .int) d35_5 rfl (by decide))) (mk 35 (s_alen (k := 13) d35_4 (.inr (.inl rfl))))) (cond (Nat.ble 1 pc) (mk 35 (s_getf (k := 3) (q := 0) d35_1 rfl rfl (.inl W199) .refl)) (mk 35 (s_aloadN d35_0)))
def t36 (pc : Nat) : GStep := cond (Nat.ble 4 pc) (cond (Nat.ble 5 pc) (cond (Nat.ble 6 pc) (mk 36 (s_reta d36_6 rfl rfl)) (mk 36 (s_aaload (k := 13) d36_5 (.inr (.inl rfl)) rfl))) (mk 36 (s_iloadN d36_4))) (cond (Nat.ble 1 pc) (mk 36 (s_getf (k := 3) (q := 0) d36_1 rfl rfl (.inl W199) .refl)) (mk 36 (s_aloadN d36_0)))
def t37 (pc : Nat) : GStep := cond (Nat.ble 4 pc) (cond (Nat.ble 6 pc) (cond (Nat.ble 9 pc) (mk 37 (s_reti (ty := .boolean) d37_9 rfl (by decide))) (mk 37 (s_call (n := 2) (b' := 38) (maxL := 3) (kr := some 10) (.virt (y := (⟨cn3, "equals", cn9⟩ : MethodName)) d37_6 W283 W284 (fun _ _ _ hw hZ => (notFace_of_selects (args := #[]) (mvT hZ (W286 _ _ hw)))) W286 W285 (by decide) (own_lenN pd__Ljava_lang_Object_Z rfl)) (krS (by decide)) (plainFor_of_name pn_java_lang_String) rfl W287 W6))) (mk 37 (s_ldcS (i := 0) (kS := 7) (kB := 6) (nn := 4) (vs := [.int (95 : Int32)]) (z := (1 : Int32)) d37_4 rfl rfl rfl rfl rfl W280 rfl ⟨by decide, by decide⟩ (by decide) (by decide) (fun _ => ⟨_, _, rfl, rfl, rfl⟩) (by decide) (by decide)))) (cond (Nat.ble 1 pc) (mk 37 (s_getf (k := 9) (q := 0) d37_1 rfl rfl (.inl W39) .refl)) (mk 37 (s_aloadN d37_0)))
def t38 (pc : Nat) : GStep := cond (Nat.ble 26 pc) (cond (Nat.ble 40 pc) (cond (Nat.ble 47 pc) (cond (Nat.ble 54 pc) (cond (Nat.ble 55 pc) (mk 38 (s_reti (ty := .boolean) d38_55 rfl (by decide))) (mk 38 (s_iconst d38_54))) (mk 38 (s_if (pcY := 54) d38_47 (by decide) (by decide)))) (cond (Nat.ble 41 pc) (cond (Nat.ble 44 pc) (mk 38 (s_call (n := 2) (b' := 39) (maxL := 3) (kr := none) (.stat d38_44 (.inl W288) W289 W11 W290 (by decide) (own_lenN pd__B_B_Z rfl)) krN (plainFor_of_name pn_java_lang_StringLatin1) rfl W290 W11)) (mk 38 (s_getf (k := 7) (q := 1) d38_41 rfl rfl (.inl W26) .refl))) (mk 38 (s_aloadN d38_40)))) (cond (Nat.ble 33 pc) (cond (Nat.ble 36 pc) (cond (Nat.ble 37 pc) (mk 38 (s_getf (k := 10) (q := 0) d38_37 rfl rfl (.inl W26) .refl)) (mk 38 (s_aloadN d38_36))) (mk 38 (s_icmp (pcY := 54) d38_33 (by decide) (by decide)))) (cond (Nat.ble 29 pc) (cond (Nat.ble 30 pc) (mk 38 (s_getf (k := 7) (q := 0) d38_30 rfl rfl (.inl W28) .refl)) (mk 38 (s_aloadN d38_29))) (mk 38 (s_getf (k := 10) (q := 1) d38_26 rfl rfl (.inl W28) .refl))))) (cond (Nat.ble 14 pc) (cond (Nat.ble 19 pc) (cond (Nat.ble 22 pc) (cond (Nat.ble 25 pc) (mk 38 (s_aloadN d38_25)) (mk 38 (s_if (pcY := 36) d38_22 (by decide) (by decide)))) (mk 38 (s_gets (i := 0) (v := .retAddr 1) d38_19 rfl (.inl W8) .refl))) (cond (Nat.ble 15 pc) (cond (Nat.ble 18 pc) (mk 38 (s_astoreN d38_18)) (mk 38 (s_cast (kv := 7) d38_15 W13 ⟨by decide, .inl rfl⟩))) (mk 38 (s_aloadN d38_14)))) (cond (Nat.ble 7 pc) (cond (Nat.ble 8 pc) (cond (Nat.ble 11 pc) (mk 38 (s_if (pcY := 54) d38_11 (by decide) (by decide))) (mk 38 (s_inst (kv := 7) (z := 1) d38_8 W13 (.inl ⟨rfl, ⟨by decide, .inl rfl⟩⟩)))) (mk 38 (s_aloadN d38_7))) (cond (Nat.ble 1 pc) (cond (Nat.ble 2 pc) (mk 38 (s_acmp (pcY := 7) d38_2 (by decide) (by decide))) (mk 38 (s_aloadN d38_1))) (mk 38 (s_aloadN d38_0)))))
def t39 (pc : Nat) : GStep := cond (Nat.ble 12 pc) (cond (Nat.ble 19 pc) (cond (Nat.ble 21 pc) (cond (Nat.ble 24 pc) (cond (Nat.ble 25 pc) (mk 39 (s_reti (ty := .boolean) d39_25 rfl (by decide))) (mk 39 (s_iconst d39_24))) (mk 39 (s_icmp (pcY := 26) d39_21 (by decide) (by decide)))) (cond (Nat.ble 20 pc) (mk 39 (s_baload (k := 6) d39_20 (.inr (.inr rfl)) rfl)) (mk 39 (s_iloadN d39_19)))) (cond (Nat.ble 16 pc) (cond (Nat.ble 17 pc) (cond (Nat.ble 18 pc) (mk 39 (s_aloadN d39_18)) (mk 39 (s_baload (k := 11) d39_17 (.inl rfl) rfl))) (mk 39 (s_iloadN d39_16))) (cond (Nat.ble 15 pc) (mk 39 (s_aloadN d39_15)) (mk 39 (s_icmp (pcY := 32) d39_12 (by decide) (by decide)))))) (cond (Nat.ble 7 pc) (cond (Nat.ble 9 pc) (cond (Nat.ble 10 pc) (cond (Nat.ble 11 pc) (mk 39 (s_alen (k := 11) d39_11 (.inl rfl))) (mk 39 (s_aloadN d39_10))) (mk 39 (s_iloadN d39_9))) (cond (Nat.ble 8 pc) (mk 39 (s_istoreN d39_8)) (mk 39 (s_iconst d39_7)))) (cond (Nat.ble 2 pc) (cond (Nat.ble 3 pc) (cond (Nat.ble 4 pc) (mk 39 (s_icmp (pcY := 34) d39_4 (by decide) (by decide))) (mk 39 (s_alen (k := 6) d39_3 (.inr (.inr rfl))))) (mk 39 (s_aloadN d39_2))) (cond (Nat.ble 1 pc) (mk 39 (s_alen (k := 11) d39_1 (.inl rfl))) (mk 39 (s_aloadN d39_0)))))
def t40 (pc : Nat) : GStep := cond (Nat.ble 1 pc) (cond (Nat.ble 4 pc) (mk 40 (s_reta d40_4 rfl rfl)) (mk 40 (s_getf (k := 9) (q := 0) d40_1 rfl rfl (.inl W39) .refl))) (mk 40 (s_aloadN d40_0))
def t41 (pc : Nat) : GStep := cond (Nat.ble 13 pc) (cond (Nat.ble 20 pc) (cond (Nat.ble 21 pc) (cond (Nat.ble 22 pc) (mk 41 (s_reta d41_22 rfl rfl)) (mk 41 (s_box (kc := 1) (kI := 5) d41_21 rfl rfl rfl rfl))) (mk 41 (s_iadd d41_20))) (cond (Nat.ble 16 pc) (cond (Nat.ble 17 pc) (mk 41 (s_sipush d41_17)) (mk 41 (s_iloadN d41_16))) (mk 41 (s_gets (i := 4) (v := .ref 2) d41_13 rfl (.inl W302) .refl)))) (cond (Nat.ble 6 pc) (cond (Nat.ble 7 pc) (cond (Nat.ble 10 pc) (mk 41 (s_icmp (pcY := 23) d41_10 (by decide) (by decide))) (mk 41 (s_gets (i := 3) (v := .int (127 : Int32)) d41_7 rfl (.inl W300) .refl))) (mk 41 (s_iloadN d41_6))) (cond (Nat.ble 1 pc) (cond (Nat.ble 3 pc) (mk 41 (s_icmp (pcY := 23) d41_3 (by decide) (by decide))) (mk 41 (s_bipush d41_1))) (mk 41 (s_iloadN d41_0))))
def t42 (pc : Nat) : GStep := cond (Nat.ble 6 pc) (cond (Nat.ble 8 pc) (cond (Nat.ble 9 pc) (cond (Nat.ble 12 pc) (mk 42 (s_reta d42_12 rfl rfl)) (mk 42 (s_call (n := 6) (b' := 47) (maxL := 13) (kr := some 16) (.virt (y := (⟨cn0, "putVal", cn18⟩ : MethodName)) d42_9 W333 W334 (fun _ _ _ hw hZ => (notFace_of_selects (args := #[]) (mvT hZ (W336 _ _ hw)))) W336 W335 (by decide) (own_lenN pd__ILjava_lang_Object_Ljava_lang_Object_ZZ_Ljava_lang_Object_ rfl)) (krS (by decide)) (plainFor_of_name pn_java_util_HashMap) rfl W337 W238))) (mk 42 (s_iconst d42_8))) (cond (Nat.ble 7 pc) (mk 42 (s_iconst d42_7)) (mk 42 (s_aloadN d42_6)))) (cond (Nat.ble 2 pc) (cond (Nat.ble 5 pc) (mk 42 (s_aloadN d42_5)) (mk 42 (s_call (n := 1) (b' := 43) (maxL := 2) (kr := none) (.stat d42_2 (.inl W312) W313 W238 W314 (by decide) (own_lenN pd__Ljava_lang_Object_I rfl)) krN (plainFor_of_name pn_java_util_HashMap) rfl W314 W238))) (cond (Nat.ble 1 pc) (mk 42 (s_aloadN d42_1)) (mk 42 (s_aloadN d42_0))))
def t43 (pc : Nat) : GStep := cond (Nat.ble 13 pc) (cond (Nat.ble 17 pc) (cond (Nat.ble 18 pc) (cond (Nat.ble 19 pc) (mk 43 (s_reti (ty := .int) d43_19 rfl (by decide))) (mk 43 (s_ixor d43_18))) (mk 43 (s_iushr d43_17))) (cond (Nat.ble 14 pc) (cond (Nat.ble 15 pc) (mk 43 (s_bipush d43_15)) (mk 43 (s_iloadN d43_14))) (mk 43 (s_istoreN d43_13)))) (cond (Nat.ble 8 pc) (cond (Nat.ble 9 pc) (cond (Nat.ble 12 pc) (mk 43 (s_dup d43_12)) (mk 43 (s_call (n := 1) (b' := 44) (maxL := 2) (kr := some 10) (.virt (y := (⟨cn1, "hashCode", "()I"⟩ : MethodName)) d43_9 W315 W316 (fun _ _ _ hw hZ => (nf_top (args := #[]) (mvT hZ (W127 _ _ hw)))) W318 W319 (by decide) (own_lenN pd__I rfl)) (krS (by decide)) (plainFor_of_name pn_java_lang_String) rfl W320 W6))) (mk 43 (s_aloadN d43_8))) (cond (Nat.ble 1 pc) (mk 43 (s_ifnonnull (pcY := 8) d43_1 (by decide) (by decide))) (mk 43 (s_aloadN d43_0))))
def t44 (pc : Nat) : GStep := cond (Nat.ble 23 pc) (cond (Nat.ble 42 pc) (cond (Nat.ble 55 pc) (cond (Nat.ble 58 pc) (cond (Nat.ble 59 pc) (mk 44 (s_reti (ty := .int) d44_59 rfl (by decide))) (mk 44 (s_iloadN d44_58))) (mk 44 (s_putf (k := 10) (q := 2) (ty := .int) d44_55 rfl rfl (.inl W321) .refl kok10 (.inl W322) W14 (by decide)))) (cond (Nat.ble 53 pc) (cond (Nat.ble 54 pc) (mk 44 (s_iloadN d44_54)) (mk 44 (s_aloadN d44_53))) (mk 44 (s_if (pcY := 53) d44_42 (by decide) (by decide))))) (cond (Nat.ble 30 pc) (cond (Nat.ble 40 pc) (cond (Nat.ble 41 pc) (mk 44 (s_iloadN d44_41)) (mk 44 (s_istoreN d44_40))) (mk 44 (s_goto (pc' := 40) d44_30 (by decide) (by decide)))) (cond (Nat.ble 24 pc) (cond (Nat.ble 27 pc) (mk 44 (s_call (n := 1) (b' := 46) (maxL := 1) (kr := none) (.stat d44_27 (.inl W330) W331 W11 W332 (by decide) (own_lenN pd__B_I rfl)) krN (plainFor_of_name pn_java_lang_StringLatin1) rfl W332 W11)) (mk 44 (s_getf (k := 10) (q := 0) d44_24 rfl rfl (.inl W26) .refl))) (mk 44 (s_aloadN d44_23))))) (cond (Nat.ble 9 pc) (cond (Nat.ble 16 pc) (cond (Nat.ble 17 pc) (cond (Nat.ble 20 pc) (mk 44 (s_if (pcY := 33) d44_20 (by decide) (by decide))) (mk 44 (s_call (n := 1) (b' := 45) (maxL := 1) (kr := some 10) (.virt (y := (⟨cn3, "isLatin1", "()Z"⟩ : MethodName)) d44_17 W325 W326 (fun _ _ _ hw hZ => (notFace_of_selects (args := #[]) (mvT hZ (W328 _ _ hw)))) W328 W327 (by decide) (own_lenN pd__Z rfl)) (krS (by decide)) (plainFor_of_name pn_java_lang_String) rfl W329 W6))) (mk 44 (s_aloadN d44_16))) (cond (Nat.ble 10 pc) (cond (Nat.ble 13 pc) (mk 44 (s_if (pcY := 58) d44_13 (by decide) (by decide))) (mk 44 (s_getf (k := 10) (q := 3) d44_10 rfl rfl (.inl W323) .refl))) (mk 44 (s_aloadN d44_9)))) (cond (Nat.ble 4 pc) (cond (Nat.ble 5 pc) (cond (Nat.ble 6 pc) (mk 44 (s_if (pcY := 58) d44_6 (by decide) (by decide))) (mk 44 (s_iloadN d44_5))) (mk 44 (s_istoreN d44_4))) (cond (Nat.ble 1 pc) (mk 44 (s_getf (k := 10) (q := 2) d44_1 rfl rfl (.inl W321) .refl)) (mk 44 (s_aloadN d44_0)))))
def t45 (pc : Nat) : GStep := cond (Nat.ble 10 pc) (cond (Nat.ble 14 pc) (cond (Nat.ble 18 pc) (mk 45 (s_reti (ty := .boolean) d45_18 rfl (by decide))) (mk 45 (s_goto (pc' := 18) d45_14 (by decide) (by decide)))) (cond (Nat.ble 13 pc) (mk 45 (s_iconst d45_13)) (mk 45 (s_if (pcY := 17) d45_10 (by decide) (by decide))))) (cond (Nat.ble 6 pc) (cond (Nat.ble 7 pc) (mk 45 (s_getf (k := 10) (q := 1) d45_7 rfl rfl (.inl W28) .refl)) (mk 45 (s_aloadN d45_6))) (cond (Nat.ble 3 pc) (mk 45 (s_if (pcY := 17) d45_3 (by decide) (by decide))) (mk 45 (s_gets (i := 0) (v := .retAddr 1) d45_0 rfl (.inl W8) .refl))))
def t46 (pc : Nat) : GStep := cond (Nat.ble 34 pc) (cond (Nat.ble 38 pc) (cond (Nat.ble 39 pc) (cond (Nat.ble 51 pc) (mk 46 (s_reti (ty := .int) d46_51 rfl (by decide))) (mk 46 (s_goto (pc' := 51) d46_39 (by decide) (by decide)))) (mk 46 (s_iand d46_38))) (cond (Nat.ble 35 pc) (mk 46 (s_sipush d46_35)) (mk 46 (s_baload (k := 11) d46_34 (.inl rfl) rfl)))) (cond (Nat.ble 2 pc) (cond (Nat.ble 32 pc) (cond (Nat.ble 33 pc) (mk 46 (s_iconst d46_33)) (mk 46 (s_aloadN d46_32))) (mk 46 (s_lswHit (z := (1 : Int32)) (pc' := 32) (a := 1) (i := 30) d46_2 (by decide) (by decide) (by decide) (by decide)))) (cond (Nat.ble 1 pc) (mk 46 (s_alen (k := 11) d46_1 (.inl rfl))) (mk 46 (s_aloadN d46_0))))
def t47 (pc : Nat) : GStep := cond (Nat.ble 49 pc) (cond (Nat.ble 269 pc) (cond (Nat.ble 280 pc) (cond (Nat.ble 293 pc) (cond (Nat.ble 298 pc) (cond (Nat.ble 299 pc) (mk 47 (s_reta d47_299 rfl rfl)) (mk 47 (s_null d47_298))) (cond (Nat.ble 295 pc) (mk 47 (s_call (n := 2) (b' := 51) (maxL := 2) (kr := some 16) (.virt (y := (⟨cn0, "afterNodeInsertion", "(Z)V"⟩ : MethodName)) d47_295 W373 W374 (fun _ _ _ hw hZ => (notFace_of_selects (args := #[]) (mvT hZ (W376 _ _ hw)))) W376 W375 (by decide) (own_lenN pd__Z_V rfl)) (krS (by decide)) (plainFor_of_name pn_java_util_HashMap) rfl W377 W238)) (mk 47 (s_iload d47_293)))) (cond (Nat.ble 284 pc) (cond (Nat.ble 292 pc) (mk 47 (s_aloadN d47_292)) (mk 47 (s_icmp (pcY := 292) d47_284 (by decide) (by decide)))) (cond (Nat.ble 281 pc) (mk 47 (s_getf (k := 16) (q := 2) d47_281 rfl rfl (.inl W345) .refl)) (mk 47 (s_aloadN d47_280))))) (cond (Nat.ble 274 pc) (cond (Nat.ble 276 pc) (cond (Nat.ble 277 pc) (mk 47 (s_putf (k := 16) (q := 4) (ty := .int) d47_277 rfl rfl (.inl W371) .refl kok16 (.inl W372) W237 (by decide))) (mk 47 (s_dupX1 d47_276))) (cond (Nat.ble 275 pc) (mk 47 (s_iadd d47_275)) (mk 47 (s_iconst d47_274)))) (cond (Nat.ble 270 pc) (cond (Nat.ble 271 pc) (mk 47 (s_getf (k := 16) (q := 4) d47_271 rfl rfl (.inl W371) .refl)) (mk 47 (s_dup d47_270))) (mk 47 (s_aloadN d47_269))))) (cond (Nat.ble 59 pc) (cond (Nat.ble 261 pc) (cond (Nat.ble 265 pc) (cond (Nat.ble 266 pc) (mk 47 (s_putf (k := 16) (q := 3) (ty := .int) d47_266 rfl rfl (.inl W369) .refl kok16 (.inl W370) W237 (by decide))) (mk 47 (s_iadd d47_265))) (cond (Nat.ble 264 pc) (mk 47 (s_iconst d47_264)) (mk 47 (s_getf (k := 16) (q := 3) d47_261 rfl rfl (.inl W369) .refl)))) (cond (Nat.ble 259 pc) (cond (Nat.ble 260 pc) (mk 47 (s_dup d47_260)) (mk 47 (s_aloadN d47_259))) (cond (Nat.ble 60 pc) (mk 47 (s_goto (pc' := 259) d47_60 (by decide) (by decide))) (mk 47 (s_aastore (k := 17) (kv := 18) (C := cn6) d47_59 rfl rfl (by decide) (.inl rfl)))))) (cond (Nat.ble 53 pc) (cond (Nat.ble 55 pc) (cond (Nat.ble 56 pc) (mk 47 (s_call (n := 5) (b' := 49) (maxL := 5) (kr := some 16) (.virt (y := (⟨cn0, "newNode", cn19⟩ : MethodName)) d47_56 W349 W350 (fun _ _ _ hw hZ => (notFace_of_selects (args := #[]) (mvT hZ (W352 _ _ hw)))) W352 W351 (by decide) (own_lenN pd__ILjava_lang_Object_Ljava_lang_Object_Ljava_util_HashMap_Node_Ljava_util_HashMap_Node_ rfl)) (krS (by decide)) (plainFor_of_name pn_java_util_HashMap) rfl W353 W238)) (mk 47 (s_null d47_55))) (cond (Nat.ble 54 pc) (mk 47 (s_aloadN d47_54)) (mk 47 (s_aloadN d47_53)))) (cond (Nat.ble 51 pc) (cond (Nat.ble 52 pc) (mk 47 (s_iloadN d47_52)) (mk 47 (s_aloadN d47_51))) (mk 47 (s_iload d47_49)))))) (cond (Nat.ble 26 pc) (cond (Nat.ble 36 pc) (cond (Nat.ble 41 pc) (cond (Nat.ble 44 pc) (cond (Nat.ble 47 pc) (mk 47 (s_aload d47_47)) (mk 47 (s_ifnonnull (pcY := 63) d47_44 (by decide) (by decide)))) (cond (Nat.ble 42 pc) (mk 47 (s_astore d47_42)) (mk 47 (s_dup d47_41)))) (cond (Nat.ble 38 pc) (cond (Nat.ble 40 pc) (mk 47 (s_aaload (k := 17) d47_40 (.inr (.inl rfl)) rfl)) (mk 47 (s_istore d47_38))) (cond (Nat.ble 37 pc) (mk 47 (s_dup d47_37)) (mk 47 (s_iand d47_36))))) (cond (Nat.ble 31 pc) (cond (Nat.ble 34 pc) (cond (Nat.ble 35 pc) (mk 47 (s_iloadN d47_35)) (mk 47 (s_isub d47_34))) (cond (Nat.ble 33 pc) (mk 47 (s_iconst d47_33)) (mk 47 (s_iload d47_31)))) (cond (Nat.ble 27 pc) (cond (Nat.ble 29 pc) (mk 47 (s_aload d47_29)) (mk 47 (s_istore d47_27))) (mk 47 (s_alen (k := 17) d47_26 (.inr (.inl rfl))))))) (cond (Nat.ble 13 pc) (cond (Nat.ble 19 pc) (cond (Nat.ble 23 pc) (cond (Nat.ble 24 pc) (mk 47 (s_astore d47_24)) (mk 47 (s_dup d47_23))) (cond (Nat.ble 20 pc) (mk 47 (s_call (n := 1) (b' := 48) (maxL := 14) (kr := some 16) (.virt (y := (⟨cn0, "resize", "()[Ljava/util/HashMap$Node;"⟩ : MethodName)) d47_20 W340 W341 (fun _ _ _ hw hZ => (notFace_of_selects (args := #[]) (mvT hZ (W343 _ _ hw)))) W343 W342 (by decide) (own_lenN pd___Ljava_util_HashMap_Node_ rfl)) (krS (by decide)) (plainFor_of_name pn_java_util_HashMap) rfl W344 W238)) (mk 47 (s_aloadN d47_19)))) (cond (Nat.ble 14 pc) (cond (Nat.ble 16 pc) (mk 47 (s_if (pcY := 29) d47_16 (by decide) (by decide))) (mk 47 (s_istore d47_14))) (mk 47 (s_dup d47_13)))) (cond (Nat.ble 5 pc) (cond (Nat.ble 10 pc) (cond (Nat.ble 12 pc) (mk 47 (s_alen (k := 17) d47_12 (.inr (.inl rfl)))) (mk 47 (s_aload d47_10))) (cond (Nat.ble 7 pc) (mk 47 (s_ifnull (pcY := 19) d47_7 (by decide) (by decide))) (mk 47 (s_astore d47_5)))) (cond (Nat.ble 1 pc) (cond (Nat.ble 4 pc) (mk 47 (s_dup d47_4)) (mk 47 (s_getf (k := 16) (q := 1) d47_1 rfl rfl (.inl W338) .refl))) (mk 47 (s_aloadN d47_0))))))
def t48 (pc : Nat) : GStep := cond (Nat.ble 79 pc) (cond (Nat.ble 133 pc) (cond (Nat.ble 141 pc) (cond (Nat.ble 145 pc) (cond (Nat.ble 353 pc) (cond (Nat.ble 355 pc) (mk 48 (s_reta d48_355 rfl rfl)) (mk 48 (s_aload d48_353))) (mk 48 (s_ifnull (pcY := 353) d48_145 (by decide) (by decide)))) (cond (Nat.ble 144 pc) (mk 48 (s_aloadN d48_144)) (mk 48 (s_putf (k := 16) (q := 1) (ty := (.array (.object cn6))) d48_141 rfl rfl (.inl W338) .refl kok16 (.inl W339) W237 (by decide))))) (cond (Nat.ble 138 pc) (cond (Nat.ble 139 pc) (mk 48 (s_aload d48_139)) (mk 48 (s_aloadN d48_138))) (cond (Nat.ble 136 pc) (mk 48 (s_astore d48_136)) (mk 48 (s_newr (k := 17) d48_133 rfl rfl W347 W348 rfl))))) (cond (Nat.ble 87 pc) (cond (Nat.ble 126 pc) (cond (Nat.ble 128 pc) (cond (Nat.ble 131 pc) (mk 48 (s_iload d48_131)) (mk 48 (s_putf (k := 16) (q := 2) (ty := .int) d48_128 rfl rfl (.inl W345) .refl kok16 (.inl W346) W237 (by decide)))) (mk 48 (s_iload d48_126))) (cond (Nat.ble 125 pc) (mk 48 (s_aloadN d48_125)) (mk 48 (s_if (pcY := 125) d48_87 (by decide) (by decide))))) (cond (Nat.ble 83 pc) (cond (Nat.ble 85 pc) (mk 48 (s_iload d48_85)) (mk 48 (s_istore d48_83))) (cond (Nat.ble 81 pc) (mk 48 (s_bipush d48_81)) (mk 48 (s_istore d48_79)))))) (cond (Nat.ble 17 pc) (cond (Nat.ble 24 pc) (cond (Nat.ble 67 pc) (cond (Nat.ble 68 pc) (cond (Nat.ble 77 pc) (mk 48 (s_bipush d48_77)) (mk 48 (s_if (pcY := 77) d48_68 (by decide) (by decide)))) (mk 48 (s_iloadN d48_67))) (cond (Nat.ble 25 pc) (mk 48 (s_if (pcY := 67) d48_25 (by decide) (by decide))) (mk 48 (s_iloadN d48_24)))) (cond (Nat.ble 21 pc) (cond (Nat.ble 22 pc) (mk 48 (s_istore d48_22)) (mk 48 (s_iconst d48_21))) (cond (Nat.ble 20 pc) (mk 48 (s_istoreN d48_20)) (mk 48 (s_getf (k := 16) (q := 2) d48_17 rfl rfl (.inl W345) .refl))))) (cond (Nat.ble 6 pc) (cond (Nat.ble 10 pc) (cond (Nat.ble 15 pc) (cond (Nat.ble 16 pc) (mk 48 (s_aloadN d48_16)) (mk 48 (s_istoreN d48_15))) (mk 48 (s_goto (pc' := 15) d48_10 (by decide) (by decide)))) (cond (Nat.ble 9 pc) (mk 48 (s_iconst d48_9)) (mk 48 (s_ifnonnull (pcY := 13) d48_6 (by decide) (by decide))))) (cond (Nat.ble 4 pc) (cond (Nat.ble 5 pc) (mk 48 (s_aloadN d48_5)) (mk 48 (s_astoreN d48_4))) (cond (Nat.ble 1 pc) (mk 48 (s_getf (k := 16) (q := 1) d48_1 rfl rfl (.inl W338) .refl)) (mk 48 (s_aloadN d48_0))))))
def t49 (pc : Nat) : GStep := cond (Nat.ble 6 pc) (cond (Nat.ble 9 pc) (cond (Nat.ble 12 pc) (mk 49 (s_reta d49_12 rfl rfl)) (mk 49 (s_call (n := 5) (b' := 50) (maxL := 5) (kr := some 18) (.init d49_9 rfl rfl (.inl W356) W357 W359 (by decide) (own_lenN pd__ILjava_lang_Object_Ljava_lang_Object_Ljava_util_HashMap_Node_V rfl)) (krS (by decide)) (plainFor_of_name pn_java_util_HashMap_Node) rfl W359 W355))) (cond (Nat.ble 7 pc) (mk 49 (s_aload d49_7)) (mk 49 (s_aloadN d49_6)))) (cond (Nat.ble 4 pc) (cond (Nat.ble 5 pc) (mk 49 (s_aloadN d49_5)) (mk 49 (s_iloadN d49_4))) (cond (Nat.ble 3 pc) (mk 49 (s_dup d49_3)) (mk 49 (s_new (k := 18) (sl := 4) (vs := [.int (0 : Int32), .null, .null, .null]) d49_0 rfl W347 W354 W355 knew18))))
def t50 (pc : Nat) : GStep := cond (Nat.ble 11 pc) (cond (Nat.ble 19 pc) (cond (Nat.ble 22 pc) (cond (Nat.ble 25 pc) (mk 50 (s_retv d50_25 rfl)) (mk 50 (s_putf (k := 18) (q := 3) (ty := (.object cn6)) d50_22 rfl rfl (.inl W367) .refl kok18 (.inl W368) W354 (by decide)))) (cond (Nat.ble 20 pc) (mk 50 (s_aload d50_20)) (mk 50 (s_aloadN d50_19)))) (cond (Nat.ble 15 pc) (cond (Nat.ble 16 pc) (mk 50 (s_putf (k := 18) (q := 2) (ty := (.object cn1)) d50_16 rfl rfl (.inl W365) .refl kok18 (.inl W366) W354 (by decide))) (mk 50 (s_aloadN d50_15))) (cond (Nat.ble 14 pc) (mk 50 (s_aloadN d50_14)) (mk 50 (s_putf (k := 18) (q := 1) (ty := (.object cn1)) d50_11 rfl rfl (.inl W363) .refl kok18 (.inr ⟨W364, rfl, rfl⟩) W354 (by decide)))))) (cond (Nat.ble 5 pc) (cond (Nat.ble 9 pc) (cond (Nat.ble 10 pc) (mk 50 (s_aloadN d50_10)) (mk 50 (s_aloadN d50_9))) (cond (Nat.ble 6 pc) (mk 50 (s_putf (k := 18) (q := 0) (ty := .int) d50_6 rfl rfl (.inl W361) .refl kok18 (.inr ⟨W362, rfl, rfl⟩) W354 (by decide))) (mk 50 (s_iloadN d50_5)))) (cond (Nat.ble 1 pc) (cond (Nat.ble 4 pc) (mk 50 (s_aloadN d50_4)) (mk 50 (s_objinit d50_1 W360 W24 W25))) (mk 50 (s_aloadN d50_0))))
def t51 (pc : Nat) : GStep := mk 51 (s_retv d51_0 rfl)
def t52 (pc : Nat) : GStep := cond (Nat.ble 8 pc) (cond (Nat.ble 12 pc) (cond (Nat.ble 15 pc) (mk 52 (s_retv d52_15 rfl)) (mk 52 (s_putf (k := 19) (q := 0) (ty := (.object cn0)) d52_12 rfl rfl (.inl W395) .refl kok19 (.inl W396) W379 (by decide)))) (cond (Nat.ble 9 pc) (mk 52 (s_call (n := 1) (b' := 32) (maxL := 1) (kr := some 16) (.init d52_9 rfl rfl (.inl W393) W240 W241 (by decide) (own_lenN pd__V rfl)) (krS (by decide)) (plainFor_of_name pn_java_util_HashMap) rfl W241 W238)) (mk 52 (s_dup d52_8)))) (cond (Nat.ble 4 pc) (cond (Nat.ble 5 pc) (mk 52 (s_new (k := 16) (sl := 8) (vs := [.float 0, .null, .int (0 : Int32), .int (0 : Int32), .int (0 : Int32)]) d52_5 rfl W392 W237 W238 knew16)) (mk 52 (s_aloadN d52_4))) (cond (Nat.ble 1 pc) (mk 52 (s_call (n := 1) (b' := 53) (maxL := 1) (kr := some 19) (.init d52_1 rfl rfl (.inl W384) W385 W389 (by decide) (own_lenN pd__V rfl)) (krS (by decide)) (plainFor_of_name pn_java_util_AbstractSet) rfl W389 W388)) (mk 52 (s_aloadN d52_0))))
def t53 (pc : Nat) : GStep := cond (Nat.ble 1 pc) (cond (Nat.ble 4 pc) (mk 53 (s_retv d53_4 rfl)) (mk 53 (s_call (n := 1) (b' := 10) (maxL := 1) (kr := some 19) (.init d53_1 rfl rfl (.inl W390) W57 W61 (by decide) (own_lenN pd__V rfl)) (krS (by decide)) (plainFor_of_name pn_java_util_AbstractCollection) rfl W61 W60))) (mk 53 (s_aloadN d53_0))
def t54 (pc : Nat) : GStep := cond (Nat.ble 1 pc) (cond (Nat.ble 4 pc) (mk 54 (s_reti (ty := .int) d54_4 rfl (by decide))) (mk 54 (s_getf (k := 12) (q := 2) d54_1 rfl rfl (.inl W79) .refl))) (mk 54 (s_aloadN d54_0))
def t55 (pc : Nat) : GStep := cond (Nat.ble 8 pc) (cond (Nat.ble 10 pc) (cond (Nat.ble 11 pc) (cond (Nat.ble 14 pc) (mk 55 (s_reta d55_14 rfl rfl)) (mk 55 (s_call (n := 2) (b' := 58) (maxL := 2) (kr := some 12) (.virt (y := (⟨cn2, "elementData", cn14⟩ : MethodName)) d55_11 W417 W418 (fun _ _ _ hw hZ => (notFace_of_selects (args := #[]) (mvT hZ (W420 _ _ hw)))) W420 W419 (by decide) (own_lenN pd__I_Ljava_lang_Object__632 rfl)) (krS (by decide)) (plainFor_of_name pn_java_util_ArrayList) rfl W421 W46))) (mk 55 (s_iloadN d55_10))) (cond (Nat.ble 9 pc) (mk 55 (s_aloadN d55_9)) (mk 55 (s_pop d55_8)))) (cond (Nat.ble 2 pc) (cond (Nat.ble 5 pc) (mk 55 (s_call (n := 2) (b' := 56) (maxL := 2) (kr := none) (.stat d55_5 (.inl W410) W411 W177 W412 (by decide) (own_lenN pd__II_I rfl)) krN (plainFor_of_name pn_java_util_Objects) rfl W412 W177)) (mk 55 (s_getf (k := 12) (q := 2) d55_2 rfl rfl (.inl W79) .refl))) (cond (Nat.ble 1 pc) (mk 55 (s_aloadN d55_1)) (mk 55 (s_iloadN d55_0))))
def t56 (pc : Nat) : GStep := cond (Nat.ble 2 pc) (cond (Nat.ble 3 pc) (cond (Nat.ble 6 pc) (mk 56 (s_reti (ty := .int) d56_6 rfl (by decide))) (mk 56 (s_call (n := 3) (b' := 57) (maxL := 3) (kr := none) (.stat d56_3 (.inl W413) W414 W415 W416 (by decide) (own_lenN pd__IILjava_util_function_BiFunction_I rfl)) krN (plainFor_of_name pn_jdk_internal_util_Preconditions) rfl W416 W415))) (mk 56 (s_null d56_2))) (cond (Nat.ble 1 pc) (mk 56 (s_iloadN d56_1)) (mk 56 (s_iloadN d56_0)))
def t57 (pc : Nat) : GStep := cond (Nat.ble 5 pc) (cond (Nat.ble 16 pc) (cond (Nat.ble 17 pc) (mk 57 (s_reti (ty := .int) d57_17 rfl (by decide))) (mk 57 (s_iloadN d57_16))) (cond (Nat.ble 6 pc) (mk 57 (s_icmp (pcY := 16) d57_6 (by decide) (by decide))) (mk 57 (s_iloadN d57_5)))) (cond (Nat.ble 1 pc) (cond (Nat.ble 4 pc) (mk 57 (s_iloadN d57_4)) (mk 57 (s_if (pcY := 9) d57_1 (by decide) (by decide)))) (mk 57 (s_iloadN d57_0)))
def t58 (pc : Nat) : GStep := cond (Nat.ble 4 pc) (cond (Nat.ble 5 pc) (cond (Nat.ble 6 pc) (mk 58 (s_reta d58_6 rfl rfl)) (mk 58 (s_aaload (k := 13) d58_5 (.inr (.inl rfl)) rfl))) (mk 58 (s_iloadN d58_4))) (cond (Nat.ble 1 pc) (mk 58 (s_getf (k := 12) (q := 1) d58_1 rfl rfl (.inl W66) .refl)) (mk 58 (s_aloadN d58_0)))
def t59 (pc : Nat) : GStep := cond (Nat.ble 51 pc) (cond (Nat.ble 61 pc) (cond (Nat.ble 87 pc) (cond (Nat.ble 90 pc) (mk 59 (s_reti (ty := .int) d59_90 rfl (by decide))) (mk 59 (s_call (n := 1) (b' := 64) (maxL := 1) (kr := some 5) (.virt (y := (⟨cn11, "intValue", "()I"⟩ : MethodName)) d59_87 W459 W460 (fun _ _ _ hw hZ => (notFace_of_selects (args := #[]) (mvT hZ (W462 _ _ hw)))) W462 W461 (by decide) (own_lenN pd__I rfl)) (krS (by decide)) (plainFor_of_name pn_java_lang_Integer) rfl W463 W298))) (cond (Nat.ble 85 pc) (mk 59 (s_aload d59_85)) (mk 59 (s_if (pcY := 85) d59_61 (by decide) (by decide))))) (cond (Nat.ble 53 pc) (cond (Nat.ble 56 pc) (mk 59 (s_call (n := 2) (b' := 62) (maxL := 2) (kr := some 19) (.face (y := (⟨"java/util/Set", "add", cn9⟩ : MethodName)) d59_56 W444 W445 W446 (by decide) W447 W448 W449 W450 W451 (by decide) (own_lenN pd__Ljava_lang_Object_Z rfl)) (krS (by decide)) (plainFor_of_name pn_java_util_HashSet) rfl W452 W380)) (mk 59 (s_call (n := 1) (b' := 40) (maxL := 1) (kr := some 9) (.virt (y := (⟨cn5, "name", "()Ljava/lang/String;"⟩ : MethodName)) d59_53 W291 W292 (fun _ _ _ hw hZ => (notFace_of_selects (args := #[]) (mvT hZ (W294 _ _ hw)))) W294 W293 (by decide) (own_lenN pd__Ljava_lang_String_ rfl)) (krS (by decide)) (plainFor_of_name pn_com_example_hornwort_hornwort_Variable) rfl W295 W3))) (cond (Nat.ble 52 pc) (mk 59 (s_aloadN d59_52)) (mk 59 (s_aloadN d59_51))))) (cond (Nat.ble 10 pc) (cond (Nat.ble 15 pc) (cond (Nat.ble 17 pc) (mk 59 (s_ifnonnull (pcY := 51) d59_17 (by decide) (by decide))) (mk 59 (s_aload d59_15))) (cond (Nat.ble 13 pc) (mk 59 (s_astore d59_13)) (mk 59 (s_cast (kv := 5) d59_10 W442 ⟨by decide, .inl rfl⟩)))) (cond (Nat.ble 2 pc) (cond (Nat.ble 5 pc) (mk 59 (s_call (n := 2) (b' := 60) (maxL := 3) (kr := some 16) (.face (y := (⟨"java/util/Map", "get", cn16⟩ : MethodName)) d59_5 W426 W427 W428 (by decide) W429 W430 W431 W432 W310 (by decide) (own_lenN pd__Ljava_lang_Object_Ljava_lang_Object_ rfl)) (krS (by decide)) (plainFor_of_name pn_java_util_HashMap) rfl W433 W238)) (mk 59 (s_call (n := 1) (b' := 40) (maxL := 1) (kr := some 9) (.virt (y := (⟨cn5, "name", "()Ljava/lang/String;"⟩ : MethodName)) d59_2 W291 W292 (fun _ _ _ hw hZ => (notFace_of_selects (args := #[]) (mvT hZ (W294 _ _ hw)))) W294 W293 (by decide) (own_lenN pd__Ljava_lang_String_ rfl)) (krS (by decide)) (plainFor_of_name pn_com_example_hornwort_hornwort_Variable) rfl W295 W3))) (cond (Nat.ble 1 pc) (mk 59 (s_aloadN d59_1)) (mk 59 (s_aloadN d59_0)))))
def t60 (pc : Nat) : GStep := cond (Nat.ble 6 pc) (cond (Nat.ble 14 pc) (cond (Nat.ble 15 pc) (cond (Nat.ble 18 pc) (mk 60 (s_reta d60_18 rfl rfl)) (mk 60 (s_getf (k := 18) (q := 2) d60_15 rfl rfl (.inl W441) .refl))) (mk 60 (s_aloadN d60_14))) (cond (Nat.ble 7 pc) (mk 60 (s_ifnonnull (pcY := 14) d60_7 (by decide) (by decide))) (mk 60 (s_astoreN d60_6)))) (cond (Nat.ble 2 pc) (cond (Nat.ble 5 pc) (mk 60 (s_dup d60_5)) (mk 60 (s_call (n := 2) (b' := 61) (maxL := 8) (kr := some 16) (.virt (y := (⟨cn0, "getNode", "(Ljava/lang/Object;)Ljava/util/HashMap$Node;"⟩ : MethodName)) d60_2 W434 W435 (fun _ _ _ hw hZ => (notFace_of_selects (args := #[]) (mvT hZ (W437 _ _ hw)))) W437 W436 (by decide) (own_lenN pd__Ljava_lang_Object_Ljava_util_HashMap_Node_ rfl)) (krS (by decide)) (plainFor_of_name pn_java_util_HashMap) rfl W438 W238))) (cond (Nat.ble 1 pc) (mk 60 (s_aloadN d60_1)) (mk 60 (s_aloadN d60_0))))
def t61 (pc : Nat) : GStep := cond (Nat.ble 27 pc) (cond (Nat.ble 42 pc) (cond (Nat.ble 50 pc) (cond (Nat.ble 53 pc) (cond (Nat.ble 69 pc) (cond (Nat.ble 70 pc) (mk 61 (s_reta d61_70 rfl rfl)) (mk 61 (s_aloadN d61_69))) (mk 61 (s_acmp (pcY := 69) d61_53 (by decide) (by decide)))) (cond (Nat.ble 52 pc) (mk 61 (s_aloadN d61_52)) (mk 61 (s_astore d61_50)))) (cond (Nat.ble 46 pc) (cond (Nat.ble 49 pc) (mk 61 (s_dup d61_49)) (mk 61 (s_getf (k := 18) (q := 1) d61_46 rfl rfl (.inl W440) .refl))) (cond (Nat.ble 45 pc) (mk 61 (s_aloadN d61_45)) (mk 61 (s_icmp (pcY := 71) d61_42 (by decide) (by decide)))))) (cond (Nat.ble 32 pc) (cond (Nat.ble 36 pc) (cond (Nat.ble 37 pc) (cond (Nat.ble 40 pc) (mk 61 (s_iload d61_40)) (mk 61 (s_getf (k := 18) (q := 0) d61_37 rfl rfl (.inl W439) .refl))) (mk 61 (s_aloadN d61_36))) (cond (Nat.ble 33 pc) (mk 61 (s_ifnull (pcY := 148) d61_33 (by decide) (by decide))) (mk 61 (s_astoreN d61_32)))) (cond (Nat.ble 30 pc) (cond (Nat.ble 31 pc) (mk 61 (s_dup d61_31)) (mk 61 (s_aaload (k := 17) d61_30 (.inr (.inl rfl)) rfl))) (cond (Nat.ble 29 pc) (mk 61 (s_iand d61_29)) (mk 61 (s_istore d61_27)))))) (cond (Nat.ble 12 pc) (cond (Nat.ble 20 pc) (cond (Nat.ble 22 pc) (cond (Nat.ble 23 pc) (cond (Nat.ble 26 pc) (mk 61 (s_dup d61_26)) (mk 61 (s_call (n := 1) (b' := 43) (maxL := 2) (kr := none) (.stat d61_23 (.inl W312) W313 W238 W314 (by decide) (own_lenN pd__Ljava_lang_Object_I rfl)) krN (plainFor_of_name pn_java_util_HashMap) rfl W314 W238))) (mk 61 (s_aloadN d61_22))) (cond (Nat.ble 21 pc) (mk 61 (s_isub d61_21)) (mk 61 (s_iconst d61_20)))) (cond (Nat.ble 17 pc) (cond (Nat.ble 18 pc) (mk 61 (s_iload d61_18)) (mk 61 (s_aloadN d61_17))) (cond (Nat.ble 14 pc) (mk 61 (s_if (pcY := 148) d61_14 (by decide) (by decide))) (mk 61 (s_istore d61_12))))) (cond (Nat.ble 6 pc) (cond (Nat.ble 10 pc) (cond (Nat.ble 11 pc) (mk 61 (s_dup d61_11)) (mk 61 (s_alen (k := 17) d61_10 (.inr (.inl rfl))))) (cond (Nat.ble 9 pc) (mk 61 (s_aloadN d61_9)) (mk 61 (s_ifnull (pcY := 148) d61_6 (by decide) (by decide))))) (cond (Nat.ble 4 pc) (cond (Nat.ble 5 pc) (mk 61 (s_astoreN d61_5)) (mk 61 (s_dup d61_4))) (cond (Nat.ble 1 pc) (mk 61 (s_getf (k := 16) (q := 1) d61_1 rfl rfl (.inl W338) .refl)) (mk 61 (s_aloadN d61_0))))))
def t62 (pc : Nat) : GStep := cond (Nat.ble 8 pc) (cond (Nat.ble 14 pc) (cond (Nat.ble 15 pc) (cond (Nat.ble 19 pc) (mk 62 (s_reti (ty := .boolean) d62_19 rfl (by decide))) (mk 62 (s_goto (pc' := 19) d62_15 (by decide) (by decide)))) (mk 62 (s_iconst d62_14))) (cond (Nat.ble 11 pc) (mk 62 (s_ifnonnull (pcY := 18) d62_11 (by decide) (by decide))) (mk 62 (s_call (n := 3) (b' := 63) (maxL := 3) (kr := some 16) (.virt (y := (⟨cn0, "put", cn15⟩ : MethodName)) d62_8 W454 W455 (fun _ _ _ hw hZ => (notFace_of_selects (args := #[]) (mvT hZ (W457 _ _ hw)))) W457 W456 (by decide) (own_lenN pd__Ljava_lang_Object_Ljava_lang_Object_Ljava_lang_Object_ rfl)) (krS (by decide)) (plainFor_of_name pn_java_util_HashMap) rfl W458 W238)))) (cond (Nat.ble 4 pc) (cond (Nat.ble 5 pc) (mk 62 (s_gets (i := 5) (v := .ref 3) d62_5 rfl (.inl W453) .refl)) (mk 62 (s_aloadN d62_4))) (cond (Nat.ble 1 pc) (mk 62 (s_getf (k := 19) (q := 0) d62_1 rfl rfl (.inl W395) .refl)) (mk 62 (s_aloadN d62_0))))
def t63 (pc : Nat) : GStep := cond (Nat.ble 6 pc) (cond (Nat.ble 8 pc) (cond (Nat.ble 9 pc) (cond (Nat.ble 12 pc) (mk 63 (s_reta d63_12 rfl rfl)) (mk 63 (s_call (n := 6) (b' := 47) (maxL := 13) (kr := some 16) (.virt (y := (⟨cn0, "putVal", cn18⟩ : MethodName)) d63_9 W333 W334 (fun _ _ _ hw hZ => (notFace_of_selects (args := #[]) (mvT hZ (W336 _ _ hw)))) W336 W335 (by decide) (own_lenN pd__ILjava_lang_Object_Ljava_lang_Object_ZZ_Ljava_lang_Object_ rfl)) (krS (by decide)) (plainFor_of_name pn_java_util_HashMap) rfl W337 W238))) (mk 63 (s_iconst d63_8))) (cond (Nat.ble 7 pc) (mk 63 (s_iconst d63_7)) (mk 63 (s_aloadN d63_6)))) (cond (Nat.ble 2 pc) (cond (Nat.ble 5 pc) (mk 63 (s_aloadN d63_5)) (mk 63 (s_call (n := 1) (b' := 43) (maxL := 2) (kr := none) (.stat d63_2 (.inl W312) W313 W238 W314 (by decide) (own_lenN pd__Ljava_lang_Object_I rfl)) krN (plainFor_of_name pn_java_util_HashMap) rfl W314 W238))) (cond (Nat.ble 1 pc) (mk 63 (s_aloadN d63_1)) (mk 63 (s_aloadN d63_0))))
def t64 (pc : Nat) : GStep := cond (Nat.ble 1 pc) (cond (Nat.ble 4 pc) (mk 64 (s_reti (ty := .int) d64_4 rfl (by decide))) (mk 64 (s_getf (k := 5) (q := 0) d64_1 rfl rfl (.inl W464) .refl))) (mk 64 (s_aloadN d64_0))
def t65 (pc : Nat) : GStep := cond (Nat.ble 18 pc) (cond (Nat.ble 29 pc) (cond (Nat.ble 34 pc) (cond (Nat.ble 37 pc) (cond (Nat.ble 38 pc) (mk 65 (s_reti (ty := .boolean) d65_38 rfl (by decide))) (mk 65 (s_iconst d65_37))) (mk 65 (s_goto (pc' := 11) d65_34 (by decide) (by decide)))) (cond (Nat.ble 30 pc) (cond (Nat.ble 31 pc) (mk 65 (s_iinc d65_31)) (mk 65 (s_reti (ty := .boolean) d65_30 rfl (by decide)))) (mk 65 (s_iconst d65_29)))) (cond (Nat.ble 23 pc) (cond (Nat.ble 25 pc) (cond (Nat.ble 26 pc) (mk 65 (s_icmp (pcY := 31) d65_26 (by decide) (by decide))) (mk 65 (s_iloadN d65_25))) (mk 65 (s_iload d65_23))) (cond (Nat.ble 20 pc) (cond (Nat.ble 21 pc) (mk 65 (s_istore d65_21)) (mk 65 (s_iaload (k := 20) d65_20 (.inl rfl) rfl))) (mk 65 (s_iload d65_18))))) (cond (Nat.ble 8 pc) (cond (Nat.ble 13 pc) (cond (Nat.ble 14 pc) (cond (Nat.ble 17 pc) (mk 65 (s_aloadN d65_17)) (mk 65 (s_icmp (pcY := 37) d65_14 (by decide) (by decide)))) (mk 65 (s_iloadN d65_13))) (cond (Nat.ble 9 pc) (cond (Nat.ble 11 pc) (mk 65 (s_iload d65_11)) (mk 65 (s_istore d65_9))) (mk 65 (s_iconst d65_8)))) (cond (Nat.ble 5 pc) (cond (Nat.ble 6 pc) (cond (Nat.ble 7 pc) (mk 65 (s_istoreN d65_7)) (mk 65 (s_alen (k := 20) d65_6 (.inl rfl)))) (mk 65 (s_aloadN d65_5))) (cond (Nat.ble 1 pc) (cond (Nat.ble 4 pc) (mk 65 (s_astoreN d65_4)) (mk 65 (s_getf (k := 14) (q := 5) d65_1 rfl rfl (.inl W403) .refl))) (mk 65 (s_aloadN d65_0)))))
def t66 (pc : Nat) : GStep := cond (Nat.ble 9 pc) (cond (Nat.ble 13 pc) (cond (Nat.ble 16 pc) (cond (Nat.ble 19 pc) (mk 66 (s_retv d66_19 rfl)) (mk 66 (s_putf (k := 21) (q := 1) (ty := (.object cn1)) d66_16 rfl rfl (.inl W226) .refl kok21 (.inr ⟨W227, rfl, rfl⟩) W213 (by decide)))) (mk 66 (s_gets (i := 6) (v := .ref 4) d66_13 rfl (.inr ⟨_, W476⟩) .refl))) (cond (Nat.ble 12 pc) (mk 66 (s_aloadN d66_12)) (mk 66 (s_putf (k := 21) (q := 0) (ty := (.object cn1)) d66_9 rfl rfl (.inl W224) .refl kok21 (.inr ⟨W225, rfl, rfl⟩) W213 (by decide))))) (cond (Nat.ble 4 pc) (cond (Nat.ble 5 pc) (cond (Nat.ble 6 pc) (mk 66 (s_call (n := 1) (b' := 26) (maxL := 1) (kr := none) (.stat d66_6 (.inl W223) W176 W177 W178 (by decide) (own_lenN pd__Ljava_lang_Object_Ljava_lang_Object_ rfl)) krN (plainFor_of_name pn_java_util_Objects) rfl W178 W177)) (mk 66 (s_aloadN d66_5))) (mk 66 (s_aloadN d66_4))) (cond (Nat.ble 1 pc) (mk 66 (s_call (n := 1) (b' := 28) (maxL := 1) (kr := some 21) (.init d66_1 rfl rfl (.inl W219) W186 W190 (by decide) (own_lenN pd__V rfl)) (krS (by decide)) (plainFor_of_name pn_java_util_ImmutableCollections_AbstractImmutableList) rfl W190 W189)) (mk 66 (s_aloadN d66_0))))
def t67 (pc : Nat) : GStep := cond (Nat.ble 3 pc) (mk 67 (s_reta d67_3 rfl rfl)) (mk 67 (s_gets (i := 8) (v := .ref 5) d67_0 rfl (.inl W480) .refl))
def tab (b pc : Nat) : GStep := cond (Nat.ble 34 b) (cond (Nat.ble 51 b) (cond (Nat.ble 59 b) (cond (Nat.ble 63 b) (cond (Nat.ble 65 b) (cond (Nat.ble 66 b) (cond (Nat.ble 67 b) (t67 pc) (t66 pc)) (t65 pc)) (cond (Nat.ble 64 b) (t64 pc) (t63 pc))) (cond (Nat.ble 61 b) (cond (Nat.ble 62 b) (t62 pc) (t61 pc)) (cond (Nat.ble 60 b) (t60 pc) (t59 pc)))) (cond (Nat.ble 55 b) (cond (Nat.ble 57 b) (cond (Nat.ble 58 b) (t58 pc) (t57 pc)) (cond (Nat.ble 56 b) (t56 pc) (t55 pc))) (cond (Nat.ble 53 b) (cond (Nat.ble 54 b) (t54 pc) (t53 pc)) (cond (Nat.ble 52 b) (t52 pc) (t51 pc))))) (cond (Nat.ble 42 b) (cond (Nat.ble 46 b) (cond (Nat.ble 48 b) (cond (Nat.ble 49 b) (cond (Nat.ble 50 b) (t50 pc) (t49 pc)) (t48 pc)) (cond (Nat.ble 47 b) (t47 pc) (t46 pc))) (cond (Nat.ble 44 b) (cond (Nat.ble 45 b) (t45 pc) (t44 pc)) (cond (Nat.ble 43 b) (t43 pc) (t42 pc)))) (cond (Nat.ble 38 b) (cond (Nat.ble 40 b) (cond (Nat.ble 41 b) (t41 pc) (t40 pc)) (cond (Nat.ble 39 b) (t39 pc) (t38 pc))) (cond (Nat.ble 36 b) (cond (Nat.ble 37 b) (t37 pc) (t36 pc)) (cond (Nat.ble 35 b) (t35 pc) (t34 pc)))))) (cond (Nat.ble 17 b) (cond (Nat.ble 25 b) (cond (Nat.ble 29 b) (cond (Nat.ble 31 b) (cond (Nat.ble 32 b) (cond (Nat.ble 33 b) (t33 pc) (t32 pc)) (t31 pc)) (cond (Nat.ble 30 b) (t30 pc) (t29 pc))) (cond (Nat.ble 27 b) (cond (Nat.ble 28 b) (t28 pc) (t27 pc)) (cond (Nat.ble 26 b) (t26 pc) (t25 pc)))) (cond (Nat.ble 21 b) (cond (Nat.ble 23 b) (cond (Nat.ble 24 b) (t24 pc) (t23 pc)) (cond (Nat.ble 22 b) (t22 pc) (t21 pc))) (cond (Nat.ble 19 b) (cond (Nat.ble 20 b) (t20 pc) (t19 pc)) (cond (Nat.ble 18 b) (t18 pc) (t17 pc))))) (cond (Nat.ble 9 b) (cond (Nat.ble 13 b) (cond (Nat.ble 15 b) (cond (Nat.ble 16 b) (t16 pc) (t15 pc)) (cond (Nat.ble 14 b) (t14 pc) (t13 pc))) (cond (Nat.ble 11 b) (cond (Nat.ble 12 b) (t12 pc) (t11 pc)) (cond (Nat.ble 10 b) (t10 pc) (t9 pc)))) (cond (Nat.ble 4 b) (cond (Nat.ble 7 b) (cond (Nat.ble 8 b) (t8 pc) (t7 pc)) (cond (Nat.ble 6 b) (t6 pc) (t4 pc))) (cond (Nat.ble 2 b) (cond (Nat.ble 3 b) (t3 pc) (t2 pc)) (cond (Nat.ble 1 b) (t1 pc) (t0 pc))))))
def iter : Nat → Fn
  | 0 => fun _ _ _ _ _ _ => none
  | n + 1 => fun b pc L S H r => match Nat.beq (tab b pc).1.1.1 b && Nat.beq (tab b pc).1.1.2 pc with
    | true => (tab b pc).1.2 (iter n) L S H r
    | false => none
theorem iter_sound : ∀ (n b pc : Nat) (L : List Slot) (S : List Value) (H : AH) (r : Room) (o : ARes), iter n b pc L S H r = some o → Owes b pc L S H r o
  | 0, _, _, _, _, _, _, _, h => nomatch h
  | n + 1, b, pc, L, S, H, r, o, h => by
    unfold iter at h
    split at h
    · rename_i q
      rw [Bool.and_eq_true] at q
      have e1 := Nat.eq_of_beq_eq_true q.1
      have e2 := Nat.eq_of_beq_eq_true q.2
      have hs := (tab b pc).2
      rw [e1, e2] at hs
      exact hs (iter n) (iter_sound n) L S H r o h
    · cases h
def okr : Option ARes → Bool
  | some o => decide (o.1 = some (.int 1)) && Nat.ble o.2.2.frames room_1.frames && Nat.ble o.2.2.cells room_1.cells && Nat.ble o.2.2.slots room_1.slots && Nat.ble o.2.2.locals room_1.locals
  | none => false
theorem okr_at {b pc n : Nat} {L : List Slot} {S : List Value} {H : AH} {r : Room} (h : okr (iter n b pc L S H r) = true) : ∃ o, o.1 = some (.int 1) ∧ RmLe o.2.2 room_1 ∧ Owes b pc L S H r o := by
  cases hq : iter n b pc L S H r with
  | none => rw [hq] at h; cases h
  | some o =>
    rw [hq] at h
    simp only [okr, Bool.and_eq_true] at h
    obtain ⟨⟨⟨⟨h1, h2⟩, h3⟩, h4⟩, h5⟩ := h
    exact ⟨o, of_decide_eq_true h1, ⟨Nat.le_of_ble_eq_true h2, Nat.le_of_ble_eq_true h3, Nat.le_of_ble_eq_true h4, Nat.le_of_ble_eq_true h5⟩, iter_sound n _ _ _ _ _ _ _ hq⟩
def H0 : AH := [(0, false, []), (0, false, []), (1, false, []), (2, false, []), (2, false, []), (3, false, [.ref 6, .int (0 : Int32)]), (0, false, []), (4, false, [])]
def L0 (v m : Int32) : List Slot := [.val (.retAddr 0), .val (.retAddr 0), .val (.retAddr 0), .val (.int v), .val (.int m), .unset, .unset, .unset, .unset, .unset, .unset, .unset, .unset, .unset, .unset, .unset]
theorem r00 : okr (iter 3000 0 10 (L0 0 0) [] H0 rm0) = true := by decide +kernel
theorem r01 : okr (iter 3000 0 10 (L0 0 1) [] H0 rm0) = true := by decide +kernel
theorem r02 : okr (iter 3000 0 10 (L0 0 2) [] H0 rm0) = true := by decide +kernel
theorem r03 : okr (iter 3000 0 10 (L0 0 3) [] H0 rm0) = true := by decide +kernel
theorem r04 : okr (iter 3000 0 10 (L0 0 4) [] H0 rm0) = true := by decide +kernel
theorem r05 : okr (iter 3000 0 10 (L0 0 5) [] H0 rm0) = true := by decide +kernel
theorem r06 : okr (iter 3000 0 10 (L0 0 6) [] H0 rm0) = true := by decide +kernel
theorem r07 : okr (iter 3000 0 10 (L0 0 7) [] H0 rm0) = true := by decide +kernel
theorem r10 : okr (iter 3000 0 10 (L0 1 0) [] H0 rm0) = true := by decide +kernel
theorem r11 : okr (iter 3000 0 10 (L0 1 1) [] H0 rm0) = true := by decide +kernel
theorem r12 : okr (iter 3000 0 10 (L0 1 2) [] H0 rm0) = true := by decide +kernel
theorem r13 : okr (iter 3000 0 10 (L0 1 3) [] H0 rm0) = true := by decide +kernel
theorem r14 : okr (iter 3000 0 10 (L0 1 4) [] H0 rm0) = true := by decide +kernel
theorem r15 : okr (iter 3000 0 10 (L0 1 5) [] H0 rm0) = true := by decide +kernel
theorem r16 : okr (iter 3000 0 10 (L0 1 6) [] H0 rm0) = true := by decide +kernel
theorem r17 : okr (iter 3000 0 10 (L0 1 7) [] H0 rm0) = true := by decide +kernel
theorem r20 : okr (iter 3000 0 10 (L0 2 0) [] H0 rm0) = true := by decide +kernel
theorem r21 : okr (iter 3000 0 10 (L0 2 1) [] H0 rm0) = true := by decide +kernel
theorem r22 : okr (iter 3000 0 10 (L0 2 2) [] H0 rm0) = true := by decide +kernel
theorem r23 : okr (iter 3000 0 10 (L0 2 3) [] H0 rm0) = true := by decide +kernel
theorem r24 : okr (iter 3000 0 10 (L0 2 4) [] H0 rm0) = true := by decide +kernel
theorem r25 : okr (iter 3000 0 10 (L0 2 5) [] H0 rm0) = true := by decide +kernel
theorem r26 : okr (iter 3000 0 10 (L0 2 6) [] H0 rm0) = true := by decide +kernel
theorem r27 : okr (iter 3000 0 10 (L0 2 7) [] H0 rm0) = true := by decide +kernel
theorem r30 : okr (iter 3000 0 10 (L0 3 0) [] H0 rm0) = true := by decide +kernel
theorem r31 : okr (iter 3000 0 10 (L0 3 1) [] H0 rm0) = true := by decide +kernel
theorem r32 : okr (iter 3000 0 10 (L0 3 2) [] H0 rm0) = true := by decide +kernel
theorem r33 : okr (iter 3000 0 10 (L0 3 3) [] H0 rm0) = true := by decide +kernel
theorem r34 : okr (iter 3000 0 10 (L0 3 4) [] H0 rm0) = true := by decide +kernel
theorem r35 : okr (iter 3000 0 10 (L0 3 5) [] H0 rm0) = true := by decide +kernel
theorem r36 : okr (iter 3000 0 10 (L0 3 6) [] H0 rm0) = true := by decide +kernel
theorem r37 : okr (iter 3000 0 10 (L0 3 7) [] H0 rm0) = true := by decide +kernel
theorem own_and3 (x : Int32) : x &&& 3 = 0 ∨ x &&& 3 = 1 ∨ x &&& 3 = 2 ∨ x &&& 3 = 3 := by
  obtain ⟨h1, h2⟩ := Kit.i32_and_bounds x (m := 3) (by decide)
  rw [Int32.le_iff_toInt_le] at h1 h2
  have e : ∀ y : Int32, (x &&& 3).toInt = y.toInt → x &&& 3 = y := fun y h => Int32.toInt_inj.mp h
  have q : (x &&& 3).toInt = 0 ∨ (x &&& 3).toInt = 1 ∨ (x &&& 3).toInt = 2 ∨ (x &&& 3).toInt = 3 := by
    have a1 : (0 : Int32).toInt = 0 := by decide
    have a2 : (3 : Int32).toInt = 3 := by decide
    omega
  rcases q with q | q | q | q
  · exact Or.inl (e 0 q)
  · exact Or.inr (Or.inl (e 1 q))
  · exact Or.inr (Or.inr (Or.inl (e 2 q)))
  · exact Or.inr (Or.inr (Or.inr (e 3 q)))
theorem own_and7 (x : Int32) : x &&& 7 = 0 ∨ x &&& 7 = 1 ∨ x &&& 7 = 2 ∨ x &&& 7 = 3 ∨ x &&& 7 = 4 ∨ x &&& 7 = 5 ∨ x &&& 7 = 6 ∨ x &&& 7 = 7 := by
  obtain ⟨h1, h2⟩ := Kit.i32_and_bounds x (m := 7) (by decide)
  rw [Int32.le_iff_toInt_le] at h1 h2
  have e : ∀ y : Int32, (x &&& 7).toInt = y.toInt → x &&& 7 = y := fun y h => Int32.toInt_inj.mp h
  have q : (x &&& 7).toInt = 0 ∨ (x &&& 7).toInt = 1 ∨ (x &&& 7).toInt = 2 ∨ (x &&& 7).toInt = 3 ∨ (x &&& 7).toInt = 4 ∨ (x &&& 7).toInt = 5 ∨ (x &&& 7).toInt = 6 ∨ (x &&& 7).toInt = 7 := by
    have a1 : (0 : Int32).toInt = 0 := by decide
    have a2 : (7 : Int32).toInt = 7 := by decide
    omega
  rcases q with q | q | q | q | q | q | q | q
  · exact Or.inl (e 0 q)
  · exact Or.inr (Or.inl (e 1 q))
  · exact Or.inr (Or.inr (Or.inl (e 2 q)))
  · exact Or.inr (Or.inr (Or.inr (Or.inl (e 3 q))))
  · exact Or.inr (Or.inr (Or.inr (Or.inr (Or.inl (e 4 q)))))
  · exact Or.inr (Or.inr (Or.inr (Or.inr (Or.inr (Or.inl (e 5 q))))))
  · exact Or.inr (Or.inr (Or.inr (Or.inr (Or.inr (Or.inr (Or.inl (e 6 q)))))))
  · exact Or.inr (Or.inr (Or.inr (Or.inr (Or.inr (Or.inr (Or.inr (e 7 q)))))))
theorem own_runs (x y : Int32) : ∃ n, okr (iter n 0 10 (L0 (x &&& 3) (y &&& 7)) [] H0 rm0) = true := by
  rcases own_and3 x with h | h | h | h <;> rcases own_and7 y with k | k | k | k | k | k | k | k <;> rw [h, k]
  · exact ⟨_, r00⟩
  · exact ⟨_, r01⟩
  · exact ⟨_, r02⟩
  · exact ⟨_, r03⟩
  · exact ⟨_, r04⟩
  · exact ⟨_, r05⟩
  · exact ⟨_, r06⟩
  · exact ⟨_, r07⟩
  · exact ⟨_, r10⟩
  · exact ⟨_, r11⟩
  · exact ⟨_, r12⟩
  · exact ⟨_, r13⟩
  · exact ⟨_, r14⟩
  · exact ⟨_, r15⟩
  · exact ⟨_, r16⟩
  · exact ⟨_, r17⟩
  · exact ⟨_, r20⟩
  · exact ⟨_, r21⟩
  · exact ⟨_, r22⟩
  · exact ⟨_, r23⟩
  · exact ⟨_, r24⟩
  · exact ⟨_, r25⟩
  · exact ⟨_, r26⟩
  · exact ⟨_, r27⟩
  · exact ⟨_, r30⟩
  · exact ⟨_, r31⟩
  · exact ⟨_, r32⟩
  · exact ⟨_, r33⟩
  · exact ⟨_, r34⟩
  · exact ⟨_, r35⟩
  · exact ⟨_, r36⟩
  · exact ⟨_, r37⟩
theorem pn_com_example_hornwort_hornwort_SelectionGroupsPinLaw : plainName "com/example/hornwort/hornwort/SelectionGroupsPinLaw" = true := by first | (simp [plainName, overriddenIn]; done) | decide +kernel
set_option maxRecDepth 65536 in
set_option maxHeartbeats 4000000 in
theorem rm_law (l : Launch) (Z : State) (a0 : Array Value) (hw : ∀ d ∈ tables_1, d.before a0 Z = true) (ws : List Jvm.Cond) (p1 p2 p3 : Int32) (env : List Addr) (h0 : Heap) (n0 : Nat) (O0 : Old Z n0 h0) (hr : ∀ vm, CHv Z own_EL vm h0 → HR Z n0 vm h0 env H0) :
    MetFree l x (head1 (Jvm.Cond.code x code maxLocals ret :: ws) room_1) (fun a U => a = #[.int p1, .int p2, .int p3] ∧ Z.Warmed39 U.vm ∧ U.heap = h0 ∧ CHv Z own_EL U.vm h0) (fun _ _ _ _ _ => True) (fun _ U o U' => ∃ v L, o = .returned v ∧ (Fr n0 L ∧ True ∧ v = some (.int 1)) ∧ ReturnedEndW U o U' L room_1.cells room_1.slots) := by
  refine MetFree.of_bodySF (plainFor_of_name pn_com_example_hornwort_hornwort_SelectionGroupsPinLaw) hisR ?_
  intro p e s m args below meth c s₁ Bd hml hP hK
  obtain ⟨rfl, hZ, hh, hC⟩ := hP
  have hx := Bd.exec
  have hby := Bd.bytes
  have X : Stand p l e room_1 (s.setVm s.vm) m #[.int p1, .int p2, .int p3] below meth c s₁ [] 0 0 := Stand.of_body Bd
  have e0 : s₁.heap = h0 := by rw [← hh, Bd.state]; rfl
  have hef : entryFrame m #[.int p1, .int p2, .int p3] maxLocals = mkF m 0 #[.val (.int p1), .val (.int p2), .val (.int p3), .unset, .unset, .unset, .unset, .unset, .unset, .unset, .unset, .unset, .unset, .unset, .unset, .unset] [] := by first | (simp [entryFrame, mkF, argsToLocals, Value.category, maxLocals]; done) | rfl
  rw [hef]
  obtain ⟨n, hn⟩ := own_runs p1 p2
  obtain ⟨o, ho1, ho2, C⟩ := okr_at hn
  have hS0 : s.Since s.vm s.heap.size := (State.WarmedH.refl s).since _
  have G : Gets p e below (OutA Z n0 env o s below) (s₁.setTop (mkF m 10 #[.val (.int p1), .val (.int p2), .val (.int p3), .val (.int (p1 &&& 3)), .val (.int (p2 &&& 7)), .unset, .unset, .unset, .unset, .unset, .unset, .unset, .unset, .unset, .unset, .unset] [])) := C.2 p l e room_1 s s.vm m _ below meth c s₁ [] Z a0 n0 s.heap.size env #[.val (.int p1), .val (.int p2), .val (.int p3), .val (.int (p1 &&& 3)), .val (.int (p2 &&& 7)), .unset, .unset, .unset, .unset, .unset, .unset, .unset, .unset, .unset, .unset, .unset] [] ⟨X, hx, hS0, by rw [e0, hh]; exact Nat.le_refl _, hZ, findClass_of_methodNamed Bd.named, hby, hml, Bd.returns, Bd.notSynchronized, (name_of_methodNamed Bd.named Bd.method).1, hw, Fr.nil n0⟩ (by rw [e0]; exact hr _ hC) ⟨_, _, rfl, ⟨_, rfl, _, rfl, fun _ h => absurd h (Nat.not_lt_zero _)⟩, _, _, rfl, ⟨_, rfl, _, rfl, fun _ h => absurd h (Nat.not_lt_zero _)⟩, _, _, rfl, ⟨_, rfl, _, rfl, fun _ h => absurd h (Nat.not_lt_zero _)⟩, _, _, rfl, ⟨_, rfl, rfl⟩, _, _, rfl, ⟨_, rfl, rfl⟩, _, _, rfl, rfl, _, _, rfl, rfl, _, _, rfl, rfl, _, _, rfl, rfl, _, _, rfl, rfl, _, _, rfl, rfl, _, _, rfl, rfl, _, _, rfl, rfl, _, _, rfl, rfl, _, _, rfl, rfl, _, _, rfl, rfl, rfl⟩ rfl rfl ho2
  have G0 : Gets p e below (OutA Z n0 env o s below) (s₁.setTop (mkF m 0 #[.val (.int p1), .val (.int p2), .val (.int p3), .unset, .unset, .unset, .unset, .unset, .unset, .unset, .unset, .unset, .unset, .unset, .unset, .unset] [])) := by
    refine Gets.of (fun t k => XS.iloadN X.here hx rfl (hb hby at_0) rfl k) ?_
    refine Gets.of (fun t k => XS.iconst X.here hx rfl (hb hby at_1) k) ?_
    refine Gets.of (fun t k => XS.iand X.here hx rfl (hb hby at_2) rfl k) ?_
    refine Gets.of (fun t k => XS.istoreN X.here hx rfl (hb hby at_3) rfl (l' := #[.val (.int p1), .val (.int p2), .val (.int p3), .val (.int (p1 &&& 3)), .unset, .unset, .unset, .unset, .unset, .unset, .unset, .unset, .unset, .unset, .unset, .unset]) rfl k) ?_
    refine Gets.of (fun t k => XS.iloadN X.here hx rfl (hb hby at_4) rfl k) ?_
    refine Gets.of (fun t k => XS.bipush X.here hx rfl (hb hby at_5) k) ?_
    refine Gets.of (fun t k => XS.iand X.here hx rfl (hb hby at_7) rfl k) ?_
    refine Gets.of (fun t k => XS.istore X.here hx rfl (hb hby at_8) rfl (l' := #[.val (.int p1), .val (.int p2), .val (.int p3), .val (.int (p1 &&& 3)), .val (.int (p2 &&& 7)), .unset, .unset, .unset, .unset, .unset, .unset, .unset, .unset, .unset, .unset, .unset]) rfl k) ?_
    exact G
  obtain ⟨t, st, oc, h1, h2, v, L, h3, ⟨h4, env2, -, h6⟩, w1, w2, w3, w4⟩ := G0
  rw [ho1] at h6
  obtain ⟨w, h7, h8⟩ := h6
  cases h8
  exact ⟨t, oc, st, h1, h2, v, L, h3, ⟨h4, trivial, h7⟩, w1, w2, w3, w4.mono ho2.2.1 ho2.2.2.1⟩
theorem w46 {Z : State} {a0 : Array Value} (hw : ∀ d ∈ tables_1, d.before a0 Z = true) : (Jvm.Cond.initialized cn2).before a0 Z = true := hw _ (List.mem_of_getElem? (i := 46) rfl)
theorem w301 {Z : State} {a0 : Array Value} (hw : ∀ d ∈ tables_1, d.before a0 Z = true) : (Jvm.Cond.initialized "java/lang/Integer$IntegerCache").before a0 Z = true := hw _ (List.mem_of_getElem? (i := 301) rfl)
set_option maxRecDepth 65536 in
set_option maxHeartbeats 40000000 in
theorem comes_1 {Post : Tables → Env → Array Value → State → Outcome → State → Prop} (hpost : ∀ tb e args s v u, (limb_1_1.after args s (.returned v) u = true ∧ limb_1_2.after args s (.returned v) u = true ∧ True) → ReturnedEndW s (.returned v) u (Jvm.fieldLocs frame_1_writes args s ++ Jvm.arrayLocs frame_1_arrays args s ++ Jvm.staticLocs frame_1_statics s) 96 1472 → Post tb e args s (.returned v) u) :
    ArmFor flags0 classFile x code maxLocals ret World_1 tables_1 room_1 Calls_1 rest_1 Pre_1 Post := by
  intro l hfl _ _ p e ha hc hk s m args below hf hA hF happ hP
  obtain ⟨hcalls, hrest, hpre⟩ := hP
  obtain ⟨-, -, -, hnamed, -, -, -, hat⟩ := (Spec.applies_iff hf).mp happ
  obtain ⟨hg, hn⟩ := and_e (Cond.before_iff.mp (show (Jvm.Cond.and given_1 narrow_1).before args s = true from hpre))
  obtain ⟨hcount, hk0⟩ := and_e hg
  obtain ⟨hi0, hk1⟩ := and_e hk0
  obtain ⟨hi1, hk2⟩ := and_e hk1
  have hi2 := hk2
  obtain ⟨w0, w1, w2, rfl⟩ : ∃ w0 w1 w2 : Value, args = #[w0, w1, w2] := by
    have hs : args.size = 3 := by simpa [Cond.value, given_1] using hcount
    obtain ⟨L⟩ := args
    match L, hs with
    | [w0, w1, w2], _ => exact ⟨w0, w1, w2, rfl⟩
  have hw := fun d (hd : d ∈ tables_1) => atoms_spec (ws := Jvm.Cond.code x code maxLocals ret :: tables_1) hat d (List.mem_cons_of_mem _ hd)
  have hfit : Fit s := fun {y c} hc i hi => by
    obtain ⟨ha, rfl⟩ := Array.getElem?_eq_some_iff.mp hc
    have q := List.all_eq_true.mp ((Array.all_eq_true_iff_forall_mem.mp hF) _ (Array.getElem_mem ha)) i (List.mem_range.mpr hi)
    simpa [Array.getElem?_eq_getElem hi] using q
  obtain ⟨hsets, hown0⟩ := atoms_of _ (rest_1_c_eq ▸ (show rest_1_c.before _ s = true from hrest))
  obtain ⟨i0, ei0⟩ := is_v hi0
  obtain rfl : w0 = (.int i0) := Option.some.inj ei0
  obtain ⟨i1, ei1⟩ := is_v hi1
  obtain rfl : w1 = (.int i1) := Option.some.inj ei1
  obtain ⟨i2, ei2⟩ := is_v hi2
  obtain rfl : w2 = (.int i2) := Option.some.inj ei2
  obtain ⟨oi1, oe2⟩ := is_v (Cond.before_iff.mp (hsets _ (List.mem_of_getElem? (i := 1) rfl)))
  have oS3 : Sta s s.heap cn3 "COMPACT_STRINGS" "Z" (.int oi1) := Sta.start oe2 (Or.inl (hsets _ (List.mem_of_getElem? (i := 0) rfl)))
  have oh4 : ¬ (oi1 = (0 : Int32)) := by
    intro q
    have q2 := not_v (Cond.before_iff.mp (hsets _ (List.mem_of_getElem? (i := 2) rfl)))
    rw [eq_i oe2 (Term.int_eval (0)) (congrArg Value.int q)] at q2; cases q2
  obtain ⟨ov5, oe6⟩ := arr_v (Cond.before_iff.mp (hsets _ (List.mem_of_getElem? (i := 12) rfl)))
  have oS7 : Sta s s.heap cn2 "EMPTY_ELEMENTDATA" "[Ljava/lang/Object;" (.ref ov5) := Sta.start oe6 (Or.inl (hsets _ (List.mem_of_getElem? (i := 10) rfl)))
  obtain ⟨oc8, oA9⟩ := Arr.start oe6 (Cond.before_iff.mp (hsets _ (List.mem_of_getElem? (i := 12) rfl)))
  have oE10 : Exa s s.heap ov5 "[Ljava/lang/Object;" := Exa.start oe6 (Cond.before_iff.mp (hsets _ (List.mem_of_getElem? (i := 13) rfl)))
  obtain ⟨oq12, oq13⟩ := own_len31 oe6 (oA9.fin (Vm.Alike.refl _)) (eqv_i (Term.int_eval (0)) (Cond.before_iff.mp (hsets _ (List.mem_of_getElem? (i := 14) rfl))))
  obtain ⟨ov14, oe15⟩ := arr_v (Cond.before_iff.mp (hsets _ (List.mem_of_getElem? (i := 15) rfl)))
  have oS16 : Sta s s.heap cn2 "DEFAULTCAPACITY_EMPTY_ELEMENTDATA" "[Ljava/lang/Object;" (.ref ov14) := Sta.start oe15 (Or.inr ⟨(w46 hw), (hsets _ (List.mem_of_getElem? (i := 11) rfl))⟩)
  obtain ⟨oc17, oA18⟩ := Arr.start oe15 (Cond.before_iff.mp (hsets _ (List.mem_of_getElem? (i := 15) rfl)))
  have oE19 : Exa s s.heap ov14 "[Ljava/lang/Object;" := Exa.start oe15 (Cond.before_iff.mp (hsets _ (List.mem_of_getElem? (i := 16) rfl)))
  obtain ⟨oq21, oq22⟩ := own_len31 oe15 (oA18.fin (Vm.Alike.refl _)) (eqv_i (Term.int_eval (0)) (Cond.before_iff.mp (hsets _ (List.mem_of_getElem? (i := 17) rfl))))
  have oe23 := eqv_i (Term.int_eval (127)) (Cond.before_iff.mp (hsets _ (List.mem_of_getElem? (i := 21) rfl)))
  have oS24 : Sta s s.heap "java/lang/Integer$IntegerCache" "high" "I" (.int (127 : Int32)) := Sta.start oe23 (Or.inl (hsets _ (List.mem_of_getElem? (i := 19) rfl)))
  obtain ⟨ov25, oe26⟩ := arr_v (Cond.before_iff.mp (hsets _ (List.mem_of_getElem? (i := 22) rfl)))
  have oS27 : Sta s s.heap "java/lang/Integer$IntegerCache" "cache" "[Ljava/lang/Integer;" (.ref ov25) := Sta.start oe26 (Or.inr ⟨(w301 hw), (hsets _ (List.mem_of_getElem? (i := 20) rfl))⟩)
  obtain ⟨oc28, oA29⟩ := Arr.start oe26 (Cond.before_iff.mp (hsets _ (List.mem_of_getElem? (i := 22) rfl)))
  obtain ⟨oq31, oq32⟩ := own_len31 oe26 (oA29.fin (Vm.Alike.refl _)) (eqv_i (Term.int_eval (256)) (Cond.before_iff.mp (hsets _ (List.mem_of_getElem? (i := 24) rfl))))
  obtain ⟨ov33, oe34⟩ := exa_v (Cond.before_iff.mp (hsets _ (List.mem_of_getElem? (i := 28) rfl)))
  have oS35 : Sta s s.heap cn10 "PRESENT" "Ljava/lang/Object;" (.ref ov33) := Sta.start oe34 (Or.inl (hsets _ (List.mem_of_getElem? (i := 27) rfl)))
  have oE36 : Exa s s.heap ov33 cn1 := Exa.start oe34 (Cond.before_iff.mp (hsets _ (List.mem_of_getElem? (i := 28) rfl)))
  obtain ⟨ov37, oe38⟩ := exa_v (Cond.before_iff.mp (hsets _ (List.mem_of_getElem? (i := 31) rfl)))
  have oS39 : Sta s s.heap cn13 "EMPTY" "Ljava/lang/Object;" (.ref ov37) := Sta.start oe38 (Or.inl (hsets _ (List.mem_of_getElem? (i := 30) rfl)))
  have oE40 : Exa s s.heap ov37 cn1 := Exa.start oe38 (Cond.before_iff.mp (hsets _ (List.mem_of_getElem? (i := 31) rfl)))
  have oe41 := eqv_i (Term.int_eval (1)) (Cond.before_iff.mp (hsets _ (List.mem_of_getElem? (i := 34) rfl)))
  have oS42 : Sta s s.heap cn13 "$assertionsDisabled" "Z" (.int (1 : Int32)) := Sta.start oe41 (Or.inl (hsets _ (List.mem_of_getElem? (i := 33) rfl)))
  obtain ⟨ov43, oe44⟩ := exa_v (Cond.before_iff.mp (hsets _ (List.mem_of_getElem? (i := 37) rfl)))
  have oS45 : Sta s s.heap cn13 "EMPTY_LIST" "Ljava/util/ImmutableCollections$ListN;" (.ref ov43) := Sta.start oe44 (Or.inl (hsets _ (List.mem_of_getElem? (i := 36) rfl)))
  have oE46 : Exa s s.heap ov43 cn7 := Exa.start oe44 (Cond.before_iff.mp (hsets _ (List.mem_of_getElem? (i := 37) rfl)))
  obtain ⟨ov47, oe48⟩ := arr_v (Cond.before_iff.mp (hsets _ (List.mem_of_getElem? (i := 41) rfl)))
  have oF49 : Fld s s.heap ov43 cn7 "elements" "[Ljava/lang/Object;" (.ref ov47) := Fld.start ((fld_at oe44).symm.trans oe48)
  obtain ⟨oc50, oA51⟩ := Arr.start oe48 (Cond.before_iff.mp (hsets _ (List.mem_of_getElem? (i := 41) rfl)))
  have oE52 : Exa s s.heap ov47 "[Ljava/lang/Object;" := Exa.start oe48 (Cond.before_iff.mp (hsets _ (List.mem_of_getElem? (i := 42) rfl)))
  obtain ⟨oq54, oq55⟩ := own_len31 oe48 (oA51.fin (Vm.Alike.refl _)) (eqv_i (Term.int_eval (0)) (Cond.before_iff.mp (hsets _ (List.mem_of_getElem? (i := 43) rfl))))
  have oe56 := eqv_i (Term.int_eval (0)) (Cond.before_iff.mp (hsets _ (List.mem_of_getElem? (i := 44) rfl)))
  have oF57 : Fld s s.heap ov43 cn7 "allowNulls" "Z" (.int (0 : Int32)) := Fld.start ((fld_at oe44).symm.trans oe56)
  obtain ⟨ok59, hok59⟩ : ∃ k, k = oc8.cls := ⟨_, rfl⟩
  have oV58 : Arv s s.heap ov5 ok59 (.object cn1) (0 : Int32) [] .null := hok59 ▸ Arv.start hfit oA9 oq12 oq13 (by decide) rfl trivial
  obtain ⟨ok61, hok61⟩ : ∃ k, k = oc17.cls := ⟨_, rfl⟩
  have oV60 : Arv s s.heap ov14 ok61 (.object cn1) (0 : Int32) [] .null := hok61 ▸ Arv.start hfit oA18 oq21 oq22 (by decide) rfl trivial
  obtain ⟨ok63, hok63⟩ : ∃ k, k = oc50.cls := ⟨_, rfl⟩
  have oV62 : Arv s s.heap ov47 ok63 (.object cn1) (0 : Int32) [] .null := hok63 ▸ Arv.start hfit oA51 oq54 oq55 (by decide) rfl trivial
  have hbx : Bxs s ov25 oc28 cn11 "I" (256 : Int32) (fun j => .int (j - 128)) := Bxs.start (fun _ => oe26) oA29 oq31 oq32 (by decide) (Cond.before_iff.mp (hsets _ (List.mem_of_getElem? (i := 25) rfl))) (fun X j nn h => eqv_i (by simp [Term.eval, (back32 nn).1]) h)
  obtain ⟨mc, mk', ymir, mh1, mh2, mh3, mcell, mh4, mh5⟩ := hcalls.1
  have hmir : Mir s "[Ljava/lang/Object;" ymir := ⟨mc, mk', mh1, mh2, mh3, mcell, mh4, mh5⟩
  have hr0 : ∀ vm, CHv s own_EL vm s.heap → HR s s.heap.size vm s.heap [ov5, ov14, ov25, ov33, ov37, ov43, ov47, ymir] H0 := fun vm hC => HR.start hC ⟨⟨_, ⟨_, rfl, fun j hj => by cases Nat.lt_one_iff.mp hj; exact oh4⟩, oS3⟩, ⟨_, ⟨_, rfl, rfl⟩, oS7⟩, ⟨_, ⟨_, rfl, rfl⟩, oS16⟩, ⟨_, rfl, oS24⟩, ⟨_, ⟨_, rfl, rfl⟩, oS27⟩, ⟨_, ⟨_, rfl, rfl⟩, oS35⟩, ⟨_, ⟨_, rfl, rfl⟩, oS39⟩, ⟨_, rfl, oS42⟩, ⟨_, ⟨_, rfl, rfl⟩, oS45⟩, trivial⟩ ⟨_, _, rfl, ⟨oE10.lt, OR.arr1 rfl oE10 ⟨0, ok59, [], rfl, rfl, oV58, nofun⟩, rfl⟩, _, _, rfl, ⟨oE19.lt, OR.arr1 rfl oE19 ⟨0, ok61, [], rfl, rfl, oV60, nofun⟩, rfl⟩, _, _, rfl, ⟨hbx.1.lt, OR.box rfl hbx, rfl⟩, _, _, rfl, ⟨oE36.lt, OR.obj rfl oE36 rfl, rfl⟩, _, _, rfl, ⟨oE40.lt, OR.obj rfl oE40 rfl, rfl⟩, _, _, rfl, ⟨oE46.lt, OR.obj rfl oE46 ⟨_, _, rfl, ⟨.ref ov47, ⟨ov47, rfl, rfl⟩, oF49⟩, _, _, rfl, ⟨_, rfl, oF57⟩, rfl⟩, rfl⟩, _, _, rfl, ⟨oE52.lt, OR.arr1 rfl oE52 ⟨0, ok63, [], rfl, rfl, oV62, nofun⟩, rfl⟩, _, _, rfl, ⟨own_mirlt hmir, OR.mir rfl hmir, rfl⟩, rfl⟩
  have hCH : CHv s own_EL s.vm s.heap := CHv.start (own_EW hw) (fun q hq => hcalls.2.1 q hq) (hsets _ (List.mem_of_getElem? (i := 2) rfl)) (w18 hw) (w14 hw)
  obtain ⟨n, o, h1, h2, h3, _, L, rfl, ⟨N, -, hR⟩, hq⟩ := rm_law l s _ hw tables_1 i0 i1 i2 [ov5, ov14, ov25, ov33, ov37, ov43, ov47, ymir] s.heap s.heap.size (Old.start s) hr0 p e ha hc hk s m _ below hf ((Spec.applies_iff_loose hf).mp happ).1 ⟨rfl, State.Warmed39.refl s, rfl, hCH⟩ trivial
  obtain rfl := hR
  refine ⟨n, _, h1, h2, h3, hpost _ _ _ _ _ _ ⟨Cond.after_iff.mpr rfl, Cond.after_iff.mpr (eq_i res_at (Term.int_eval (1)) rfl), trivial⟩ ⟨hq.1, hq.2.1, hq.2.2.1, (hq.2.2.2.sift fun y hy => Or.inr (N y hy)).mono (by decide) (by decide)⟩⟩
theorem main_1_1 : Claimed_1_1 := comes_1 fun _ _ _ _ _ _ h hF => ⟨h.1, hF⟩
theorem main_1_2 : Claimed_1_2 := comes_1 fun _ _ _ _ _ _ h hF => ⟨h.2.1, hF⟩
end Jvm.Pilot.@@N@@
namespace Jvm.Pilot.@@N@@
open Jvm Jvm.ClassFile Sem Op Lib Jvm.Free Jvm.Stand Jvm.Pilot.@@N@@.Jvm.D
/-! MADE BY PROGRAM (witnessworld.py) out of the Statement's table words and the real class files: 53 classes; the members and pool entries that the words name. The judged class is class 1, her method 1. -/
namespace start1
open Jvm.ClassFile
def u (s : String) : CpInfo := .utf8 (stringToUtf16 s)
/-- a pool by its gaps: so many unusable entries, then the entry; so many at the end -/
def gap : Nat → List CpInfo → List CpInfo
  | 0, r => r
  | n + 1, r => .unusable :: gap n r
def poolList (es : List (Nat × CpInfo)) (last : Nat) : List CpInfo := es.foldr (fun e r => gap e.1 (e.2 :: r)) (gap last [])
def pool (es : List (Nat × CpInfo)) (last : Nat) : Array CpInfo := ⟨poolList es last⟩
def fileOf (pool : Array CpInfo) (this : Nat) (attrs : Array Attribute := #[]) (ms : Array MethodInfo := #[]) (fl : Nat := 33) (sup : Nat := 0) (ifs : Array Nat := #[]) (fds : Array FieldInfo := #[]) : ClassFile where
  minorVersion := 0
  majorVersion := 65
  constantPool := pool
  accessFlags := fl
  thisClass := this
  superClass := sup
  interfaces := ifs
  fields := fds
  methods := ms
  attributes := attrs
def plain (name : String) (sup : Option ClassId) : Class where
  name := name
  kind := .ordinary
  loader := none
  accessFlags := 33
  super := sup
  interfaces := #[]
  cf := none
  fields := #[]
  methods := #[]
  instanceTypes := #[]
  staticTypes := #[]
  resolved := #[]
  callSites := []
  init := .initialized
  statics := none
  mirror := none

def pool0 : Array CpInfo := pool [(5, u "<init>"), (0, u "()V"), (1, .class_ 10), (1, u "java/lang/Object"), (0, u "getClass"), (0, u "()Ljava/lang/Class;"), (14, u "hashCode"), (0, u "()I")] 95

def k0c0 : Code := { maxStack := 0, maxLocals := 1, code := object_method_1_code, exceptionTable := #[], attributes := #[] }
def k0m0 : Method := { name := "<init>", desc := "()V", sig := { parameters := [], returnType := none }, accessFlags := 1, code := some k0c0 }
def k0m1 : Method := { name := "getClass", desc := "()Ljava/lang/Class;", sig := { parameters := [], returnType := some (.object "java/lang/Class") }, accessFlags := 273, code := none }
def k0m2 : Method := { name := "hashCode", desc := "()I", sig := { parameters := [], returnType := some .int }, accessFlags := 257, code := none }
/-- java/lang/Object -/
def k0 : Class := { plain "java/lang/Object" none with
  accessFlags := 33
  interfaces := #[]
  cf := some (fileOf pool0 8 #[] #[{ accessFlags := 1, nameIndex := 5, descriptorIndex := 6, attributes := #[] }, { accessFlags := 273, nameIndex := 11, descriptorIndex := 12, attributes := #[] }, { accessFlags := 257, nameIndex := 27, descriptorIndex := 28, attributes := #[] }] 33 0 #[] #[])
  fields := #[]
  methods := #[k0m0, k0m1, k0m2]
  instanceTypes := #[]
  staticTypes := #[]
  resolved := Array.replicate 124 none
  statics := none }

def pool1 : Array CpInfo := pool [(2, .class_ 4), (0, .nameAndType 5 6), (0, u "java/lang/Object"), (0, u "<init>"), (0, u "()V"), (0, .class_ 8), (0, u "com/example/hornwort/hornwort/Variable"), (0, .methodref 10 11), (0, .class_ 12), (0, .nameAndType 13 14), (0, u "java/lang/String"), (0, u "valueOf"), (0, u "(C)Ljava/lang/String;"), (0, .methodref 7 16), (0, .nameAndType 5 17), (0, u "(Ljava/lang/String;Lcom/example/hornwort/hornwort/Position;)V"), (0, .class_ 19), (0, u "java/util/ArrayList"), (0, .methodref 18 3), (0, .interfaceMethodref 22 23), (0, .class_ 24), (0, .nameAndType 25 26), (0, u "java/util/List"), (0, u "add"), (0, u "(Ljava/lang/Object;)Z"), (0, .class_ 28), (0, u "com/example/hornwort/hornwort/Selection"), (0, .class_ 30), (0, u "com/example/hornwort/hornwort/Atom"), (0, .methodref 29 32), (0, .nameAndType 5 33), (0, u "(Ljava/lang/String;Ljava/util/List;)V"), (0, .methodref 27 35), (0, .nameAndType 5 36), (0, u "(Lcom/example/hornwort/hornwort/Atom;Ljava/util/List;Lcom/example/hornwort/hornwort/Aggregate$Function;Lcom/example/hornwort/hornwort/Variable;Lcom/example/hornwort/hornwort/Position;)V"), (0, .methodref 27 38), (0, .nameAndType 39 40), (0, u "groups"), (0, u "(I)Z"), (0, .class_ 42), (0, u "com/example/hornwort/hornwort/SelectionGroupsPinLaw"), (2, u "law"), (0, u "(III)Z")] 11

def k1m0 : Method := { name := "<init>", desc := "()V", sig := { parameters := [], returnType := none }, accessFlags := 1, code := none }
def k1c1 : Code := { maxStack := 7, maxLocals := 16, code := code, exceptionTable := #[], attributes := #[] }
def k1m1 : Method := { name := "law", desc := "(III)Z", sig := { parameters := [.int, .int, .int], returnType := some .boolean }, accessFlags := 9, code := some k1c1 }
/-- com/example/hornwort/hornwort/SelectionGroupsPinLaw -/
def k1 : Class := { plain "com/example/hornwort/hornwort/SelectionGroupsPinLaw" (some 0) with
  accessFlags := 49
  interfaces := #[]
  cf := some (fileOf pool1 41 #[] #[{ accessFlags := 1, nameIndex := 5, descriptorIndex := 6, attributes := #[] }, { accessFlags := 9, nameIndex := 45, descriptorIndex := 46, attributes := #[] }] 49 2 #[] #[])
  fields := #[]
  methods := #[k1m0, k1m1]
  instanceTypes := #[]
  staticTypes := #[]
  resolved := Array.replicate 58 none
  statics := none }

def pool2 : Array CpInfo := pool [(1, .methodref 2 3), (0, .class_ 4), (0, .nameAndType 5 6), (0, u "java/lang/Object"), (0, u "<init>"), (0, u "()V"), (16, .class_ 24), (0, u "com/example/hornwort/hornwort/Term"), (80, u "STRUCTURE"), (0, u "Ljava/lang/String;"), (37, .class_ 145), (0, u "com/example/hornwort/hornwort/Term$Kind")] 22

def k2c0 : Code := { maxStack := 1, maxLocals := 1, code := prog_63_method_1_code, exceptionTable := #[], attributes := #[] }
def k2m0 : Method := { name := "<init>", desc := "()V", sig := { parameters := [], returnType := none }, accessFlags := 0, code := some k2c0 }
/-- com/example/hornwort/hornwort/Term -/
def k2 : Class := { plain "com/example/hornwort/hornwort/Term" (some 0) with
  accessFlags := 1057
  interfaces := #[]
  cf := some (fileOf pool2 23 #[.nestMembers #[144]] #[{ accessFlags := 0, nameIndex := 5, descriptorIndex := 6, attributes := #[] }] 1057 2 #[] #[{ accessFlags := 26, nameIndex := 105, descriptorIndex := 106, attributes := #[] }])
  fields := #[{ name := "STRUCTURE", type := (.object "java/lang/String"), accessFlags := 26, slot := 0, constantValue := 0 }]
  methods := #[k2m0]
  instanceTypes := #[]
  staticTypes := #[(.object "java/lang/String")]
  resolved := Array.replicate 168 none
  statics := none }

def pool3 : Array CpInfo := pool [(1, .methodref 2 3), (0, .class_ 4), (0, .nameAndType 5 6), (0, u "com/example/hornwort/hornwort/Term"), (0, u "<init>"), (0, u "()V"), (0, .fieldref 8 9), (0, .class_ 10), (0, .nameAndType 11 12), (0, u "com/example/hornwort/hornwort/Variable"), (0, u "name"), (0, u "Ljava/lang/String;"), (0, .fieldref 8 14), (0, .nameAndType 15 16), (0, u "position"), (0, u "Lcom/example/hornwort/hornwort/Position;"), (0, .string 18), (0, u "_"), (0, .methodref 20 21), (0, .class_ 22), (0, .nameAndType 23 24), (0, u "java/lang/String"), (0, u "equals"), (0, u "(Ljava/lang/Object;)Z"), (23, u "ANONYMOUS"), (1, u "(Ljava/lang/String;Lcom/example/hornwort/hornwort/Position;)V"), (2, u "()Ljava/lang/String;"), (1, u "isAnonymous"), (0, u "()Z")] 16

def k3c0 : Code := { maxStack := 2, maxLocals := 3, code := prog_69_method_1_code, exceptionTable := #[], attributes := #[] }
def k3m0 : Method := { name := "<init>", desc := "(Ljava/lang/String;Lcom/example/hornwort/hornwort/Position;)V", sig := { parameters := [(.object "java/lang/String"), (.object "com/example/hornwort/hornwort/Position")], returnType := none }, accessFlags := 0, code := some k3c0 }
def k3c1 : Code := { maxStack := 1, maxLocals := 1, code := prog_69_method_2_code, exceptionTable := #[], attributes := #[] }
def k3m1 : Method := { name := "name", desc := "()Ljava/lang/String;", sig := { parameters := [], returnType := some (.object "java/lang/String") }, accessFlags := 0, code := some k3c1 }
def k3c2 : Code := { maxStack := 2, maxLocals := 1, code := prog_69_method_4_code, exceptionTable := #[], attributes := #[] }
def k3m2 : Method := { name := "isAnonymous", desc := "()Z", sig := { parameters := [], returnType := some .boolean }, accessFlags := 0, code := some k3c2 }
/-- com/example/hornwort/hornwort/Variable -/
def k3 : Class := { plain "com/example/hornwort/hornwort/Variable" (some 2) with
  accessFlags := 48
  interfaces := #[]
  cf := some (fileOf pool3 8 #[] #[{ accessFlags := 0, nameIndex := 5, descriptorIndex := 50, attributes := #[] }, { accessFlags := 0, nameIndex := 11, descriptorIndex := 53, attributes := #[] }, { accessFlags := 0, nameIndex := 55, descriptorIndex := 56, attributes := #[] }] 48 2 #[] #[{ accessFlags := 26, nameIndex := 48, descriptorIndex := 12, attributes := #[] }, { accessFlags := 18, nameIndex := 11, descriptorIndex := 12, attributes := #[] }, { accessFlags := 18, nameIndex := 15, descriptorIndex := 16, attributes := #[] }])
  fields := #[{ name := "ANONYMOUS", type := (.object "java/lang/String"), accessFlags := 26, slot := 0, constantValue := 0 }, { name := "name", type := (.object "java/lang/String"), accessFlags := 18, slot := 0, constantValue := 0 }, { name := "position", type := (.object "com/example/hornwort/hornwort/Position"), accessFlags := 18, slot := 1, constantValue := 0 }]
  methods := #[k3m0, k3m1, k3m2]
  instanceTypes := #[(.object "java/lang/String"), (.object "com/example/hornwort/hornwort/Position")]
  staticTypes := #[(.object "java/lang/String")]
  resolved := Array.replicate 73 none
  statics := none }

def pool4 : Array CpInfo := pool [(1, .class_ 2), (0, u "java/io/Serializable"), (0, .class_ 4), (0, u "java/lang/Object")] 2

/-- java/io/Serializable -/
def k4 : Class := { plain "java/io/Serializable" (some 0) with
  accessFlags := 1537
  interfaces := #[]
  cf := some (fileOf pool4 1 #[] #[] 1537 3 #[] #[])
  fields := #[]
  methods := #[]
  instanceTypes := #[]
  staticTypes := #[]
  resolved := Array.replicate 7 none
  statics := none }

def pool5 : Array CpInfo := pool [(1, .class_ 2), (0, u "java/lang/Comparable"), (0, .class_ 4), (0, u "java/lang/Object")] 7

/-- java/lang/Comparable -/
def k5 : Class := { plain "java/lang/Comparable" (some 0) with
  accessFlags := 1537
  interfaces := #[]
  cf := some (fileOf pool5 1 #[] #[] 1537 3 #[] #[])
  fields := #[]
  methods := #[]
  instanceTypes := #[]
  staticTypes := #[]
  resolved := Array.replicate 12 none
  statics := none }

def pool6 : Array CpInfo := pool [(2, .class_ 4), (1, u "java/lang/CharSequence"), (42, .class_ 48), (0, u "java/lang/CharSequence$1CodePointIterator"), (10, .class_ 60), (0, u "java/lang/CharSequence$1CharIterator"), (5, .class_ 67), (0, u "java/lang/Object")] 63

/-- java/lang/CharSequence -/
def k6 : Class := { plain "java/lang/CharSequence" (some 0) with
  accessFlags := 1537
  interfaces := #[]
  cf := some (fileOf pool6 2 #[.nestMembers #[47, 59]] #[] 1537 66 #[] #[])
  fields := #[]
  methods := #[]
  instanceTypes := #[]
  staticTypes := #[]
  resolved := Array.replicate 131 none
  statics := none }

def pool7 : Array CpInfo := pool [(1, .class_ 2), (0, u "java/lang/constant/Constable"), (0, .class_ 4), (0, u "java/lang/Object")] 6

/-- java/lang/constant/Constable -/
def k7 : Class := { plain "java/lang/constant/Constable" (some 0) with
  accessFlags := 1537
  interfaces := #[]
  cf := some (fileOf pool7 1 #[] #[] 1537 3 #[] #[])
  fields := #[]
  methods := #[]
  instanceTypes := #[]
  staticTypes := #[]
  resolved := Array.replicate 11 none
  statics := none }

def pool8 : Array CpInfo := pool [(1, .class_ 2), (0, u "java/lang/constant/ConstantDesc"), (0, .class_ 4), (0, u "java/lang/Object")] 32

/-- java/lang/constant/ConstantDesc -/
def k8 : Class := { plain "java/lang/constant/ConstantDesc" (some 0) with
  accessFlags := 1537
  interfaces := #[]
  cf := some (fileOf pool8 1 #[] #[] 1537 3 #[] #[])
  fields := #[]
  methods := #[]
  instanceTypes := #[]
  staticTypes := #[]
  resolved := Array.replicate 37 none
  statics := none }

def pool9 : Array CpInfo := pool [(1, .methodref 2 3), (0, .class_ 4), (0, .nameAndType 5 6), (0, u "java/lang/Object"), (0, u "<init>"), (0, u "()V"), (2, .fieldref 10 11), (0, .class_ 12), (0, .nameAndType 13 14), (0, u "java/lang/String"), (0, u "value"), (0, u "[B"), (0, .fieldref 10 16), (0, .nameAndType 17 18), (0, u "coder"), (0, u "B"), (0, .fieldref 10 20), (0, .nameAndType 21 22), (0, u "hash"), (0, u "I"), (0, .fieldref 10 24), (0, .nameAndType 25 26), (0, u "hashIsZero"), (0, u "Z"), (11, .fieldref 10 39), (0, .nameAndType 40 26), (0, u "COMPACT_STRINGS"), (12, u "toBytes"), (53, .class_ 109), (1, u "java/lang/StringLatin1"), (32, u "()Z"), (66, .methodref 10 210), (0, .nameAndType 5 211), (0, u "([BB)V"), (122, u "()I"), (34, u "(C)Z"), (122, .methodref 10 493), (0, .nameAndType 494 142), (0, u "isLatin1"), (46, .methodref 107 542), (0, .nameAndType 543 544), (0, u "equals"), (0, u "([B[B)Z"), (28, u "(Ljava/lang/Object;)Z"), (1, .class_ 576), (0, u "java/lang/CharSequence"), (22, u "CASE_INSENSITIVE_ORDER"), (0, u "Ljava/util/Comparator;"), (27, .methodref 107 629), (0, .nameAndType 630 631), (0, u "hashCode"), (0, u "([B)I"), (150, u "valueOf"), (0, u "(C)Ljava/lang/String;"), (231, .methodref 107 1016), (0, .nameAndType 1017 369), (0, u "canEncode"), (0, .methodref 107 1019), (0, .nameAndType 53 1020), (0, u "(C)[B"), (80, u "serialPersistentFields"), (0, u "[Ljava/io/ObjectStreamField;"), (0, .class_ 1104), (0, u "java/lang/String$CaseInsensitiveComparator"), (1, .class_ 1107), (0, u "java/io/Serializable"), (0, .class_ 1109), (0, u "java/lang/Comparable"), (0, .class_ 1111), (0, u "java/lang/constant/Constable"), (0, .class_ 1113), (0, u "java/lang/constant/ConstantDesc"), (2, u "serialVersionUID"), (0, u "J"), (3, u "REPL"), (0, u "C"), (2, u "LATIN1"), (1, u "UTF16")] 323

def k9m0 : Method := { name := "<init>", desc := "()V", sig := { parameters := [], returnType := none }, accessFlags := 1, code := none }
def k9c1 : Code := { maxStack := 2, maxLocals := 3, code := jdk_42_method_66_code, exceptionTable := #[], attributes := #[] }
def k9m1 : Method := { name := "equals", desc := "(Ljava/lang/Object;)Z", sig := { parameters := [(.object "java/lang/Object")], returnType := some .boolean }, accessFlags := 1, code := some k9c1 }
def k9c2 : Code := { maxStack := 2, maxLocals := 2, code := jdk_42_method_78_code, exceptionTable := #[], attributes := #[] }
def k9m2 : Method := { name := "hashCode", desc := "()I", sig := { parameters := [], returnType := some .int }, accessFlags := 1, code := some k9c2 }
def k9c3 : Code := { maxStack := 4, maxLocals := 1, code := jdk_42_method_139_code, exceptionTable := #[], attributes := #[] }
def k9m3 : Method := { name := "valueOf", desc := "(C)Ljava/lang/String;", sig := { parameters := [.char], returnType := some (.object "java/lang/String") }, accessFlags := 9, code := some k9c3 }
def k9c4 : Code := { maxStack := 2, maxLocals := 3, code := jdk_42_method_151_code, exceptionTable := #[], attributes := #[] }
def k9m4 : Method := { name := "<init>", desc := "([BB)V", sig := { parameters := [(.array .byte), .byte], returnType := none }, accessFlags := 0, code := some k9c4 }
def k9c5 : Code := { maxStack := 1, maxLocals := 1, code := jdk_42_method_154_code, exceptionTable := #[], attributes := #[] }
def k9m5 : Method := { name := "isLatin1", desc := "()Z", sig := { parameters := [], returnType := some .boolean }, accessFlags := 0, code := some k9c5 }
/-- java/lang/String -/
def k9 : Class := { plain "java/lang/String" (some 0) with
  accessFlags := 49
  interfaces := #[4, 5, 6, 7, 8]
  cf := some (fileOf pool9 10 #[.nestMembers #[1103]] #[{ accessFlags := 1, nameIndex := 5, descriptorIndex := 6, attributes := #[] }, { accessFlags := 1, nameIndex := 543, descriptorIndex := 573, attributes := #[] }, { accessFlags := 1, nameIndex := 630, descriptorIndex := 334, attributes := #[] }, { accessFlags := 9, nameIndex := 782, descriptorIndex := 783, attributes := #[] }, { accessFlags := 0, nameIndex := 5, descriptorIndex := 211, attributes := #[] }, { accessFlags := 0, nameIndex := 494, descriptorIndex := 142, attributes := #[] }] 49 2 #[1106, 1108, 575, 1110, 1112] #[{ accessFlags := 18, nameIndex := 13, descriptorIndex := 14, attributes := #[] }, { accessFlags := 18, nameIndex := 17, descriptorIndex := 18, attributes := #[] }, { accessFlags := 2, nameIndex := 21, descriptorIndex := 22, attributes := #[] }, { accessFlags := 2, nameIndex := 25, descriptorIndex := 26, attributes := #[] }, { accessFlags := 26, nameIndex := 1116, descriptorIndex := 1117, attributes := #[] }, { accessFlags := 24, nameIndex := 40, descriptorIndex := 26, attributes := #[] }, { accessFlags := 26, nameIndex := 1101, descriptorIndex := 1102, attributes := #[] }, { accessFlags := 26, nameIndex := 1121, descriptorIndex := 1122, attributes := #[] }, { accessFlags := 25, nameIndex := 599, descriptorIndex := 600, attributes := #[] }, { accessFlags := 24, nameIndex := 1125, descriptorIndex := 18, attributes := #[] }, { accessFlags := 24, nameIndex := 1127, descriptorIndex := 18, attributes := #[] }])
  fields := #[{ name := "value", type := (.array .byte), accessFlags := 18, slot := 0, constantValue := 0 }, { name := "coder", type := .byte, accessFlags := 18, slot := 1, constantValue := 0 }, { name := "hash", type := .int, accessFlags := 2, slot := 2, constantValue := 0 }, { name := "hashIsZero", type := .boolean, accessFlags := 2, slot := 3, constantValue := 0 }, { name := "serialVersionUID", type := .long, accessFlags := 26, slot := 0, constantValue := 0 }, { name := "COMPACT_STRINGS", type := .boolean, accessFlags := 24, slot := 1, constantValue := 0 }, { name := "serialPersistentFields", type := (.array (.object "java/io/ObjectStreamField")), accessFlags := 26, slot := 2, constantValue := 0 }, { name := "REPL", type := .char, accessFlags := 26, slot := 3, constantValue := 0 }, { name := "CASE_INSENSITIVE_ORDER", type := (.object "java/util/Comparator"), accessFlags := 25, slot := 4, constantValue := 0 }, { name := "LATIN1", type := .byte, accessFlags := 24, slot := 5, constantValue := 0 }, { name := "UTF16", type := .byte, accessFlags := 24, slot := 6, constantValue := 0 }]
  methods := #[k9m0, k9m1, k9m2, k9m3, k9m4, k9m5]
  instanceTypes := #[(.array .byte), .byte, .int, .boolean]
  staticTypes := #[.long, .boolean, (.array (.object "java/io/ObjectStreamField")), .char, (.object "java/util/Comparator"), .byte, .byte]
  resolved := Array.replicate 1451 none
  statics := some 0 }

def pool10 : Array CpInfo := pool [(4, .class_ 6), (1, u "java/lang/Object"), (0, u "<init>"), (0, u "()V"), (5, .class_ 16), (1, u "java/lang/StringLatin1"), (40, u "([B)I"), (32, u "canEncode"), (14, u "(C)Z"), (15, u "$assertionsDisabled"), (0, u "Z"), (98, .class_ 223), (1, u "java/lang/StringLatin1$LinesSpliterator"), (57, u "equals"), (0, u "([B[B)Z"), (15, u "hashCode"), (81, u "toBytes"), (1, u "(C)[B"), (7, .class_ 391), (0, u "java/lang/StringLatin1$CharsSpliterator")] 3

def k10m0 : Method := { name := "<init>", desc := "()V", sig := { parameters := [], returnType := none }, accessFlags := 0, code := none }
def k10c1 : Code := { maxStack := 2, maxLocals := 1, code := jdk_43_method_3_code, exceptionTable := #[], attributes := #[] }
def k10m1 : Method := { name := "canEncode", desc := "(C)Z", sig := { parameters := [.char], returnType := some .boolean }, accessFlags := 9, code := some k10c1 }
def k10c2 : Code := { maxStack := 3, maxLocals := 3, code := jdk_43_method_13_code, exceptionTable := #[], attributes := #[] }
def k10m2 : Method := { name := "equals", desc := "([B[B)Z", sig := { parameters := [(.array .byte), (.array .byte)], returnType := some .boolean }, accessFlags := 9, code := some k10c2 }
def k10c3 : Code := { maxStack := 5, maxLocals := 1, code := jdk_43_method_21_code, exceptionTable := #[], attributes := #[] }
def k10m3 : Method := { name := "hashCode", desc := "([B)I", sig := { parameters := [(.array .byte)], returnType := some .int }, accessFlags := 9, code := some k10c3 }
def k10c4 : Code := { maxStack := 4, maxLocals := 1, code := jdk_43_method_46_code, exceptionTable := #[], attributes := #[] }
def k10m4 : Method := { name := "toBytes", desc := "(C)[B", sig := { parameters := [.char], returnType := some (.array .byte) }, accessFlags := 9, code := some k10c4 }
/-- java/lang/StringLatin1 -/
def k10 : Class := { plain "java/lang/StringLatin1" (some 0) with
  accessFlags := 48
  interfaces := #[]
  cf := some (fileOf pool10 14 #[.nestMembers #[390, 221]] #[{ accessFlags := 0, nameIndex := 7, descriptorIndex := 8, attributes := #[] }, { accessFlags := 9, nameIndex := 90, descriptorIndex := 105, attributes := #[] }, { accessFlags := 9, nameIndex := 281, descriptorIndex := 282, attributes := #[] }, { accessFlags := 9, nameIndex := 298, descriptorIndex := 57, attributes := #[] }, { accessFlags := 9, nameIndex := 380, descriptorIndex := 382, attributes := #[] }] 48 4 #[] #[{ accessFlags := 4120, nameIndex := 121, descriptorIndex := 122, attributes := #[] }])
  fields := #[{ name := "$assertionsDisabled", type := .boolean, accessFlags := 4120, slot := 0, constantValue := 0 }]
  methods := #[k10m0, k10m1, k10m2, k10m3, k10m4]
  instanceTypes := #[]
  staticTypes := #[.boolean]
  resolved := Array.replicate 395 none
  statics := none }

def pool11 : Array CpInfo := pool [(8, .class_ 10), (1, u "java/lang/Iterable"), (24, .class_ 36), (0, u "java/lang/Object")] 25

/-- java/lang/Iterable -/
def k11 : Class := { plain "java/lang/Iterable" (some 0) with
  accessFlags := 1537
  interfaces := #[]
  cf := some (fileOf pool11 8 #[] #[] 1537 35 #[] #[])
  fields := #[]
  methods := #[]
  instanceTypes := #[]
  staticTypes := #[]
  resolved := Array.replicate 62 none
  statics := none }

def pool12 : Array CpInfo := pool [(10, .class_ 12), (1, u "java/util/Collection"), (0, u "toArray"), (16, u "()Z"), (29, .class_ 61), (0, u "java/lang/Object"), (0, .class_ 63), (0, u "java/lang/Iterable"), (2, u "isEmpty"), (3, u "()[Ljava/lang/Object;")] 44

def k12m0 : Method := { name := "isEmpty", desc := "()Z", sig := { parameters := [], returnType := some .boolean }, accessFlags := 1025, code := none }
def k12m1 : Method := { name := "toArray", desc := "()[Ljava/lang/Object;", sig := { parameters := [], returnType := some (.array (.object "java/lang/Object")) }, accessFlags := 1025, code := none }
/-- java/util/Collection -/
def k12 : Class := { plain "java/util/Collection" (some 0) with
  accessFlags := 1537
  interfaces := #[11]
  cf := some (fileOf pool12 10 #[] #[{ accessFlags := 1025, nameIndex := 66, descriptorIndex := 30, attributes := #[] }, { accessFlags := 1025, nameIndex := 13, descriptorIndex := 70, attributes := #[] }] 1537 60 #[62] #[])
  fields := #[]
  methods := #[k12m0, k12m1]
  instanceTypes := #[]
  staticTypes := #[]
  resolved := Array.replicate 115 none
  statics := none }

def pool13 : Array CpInfo := pool [(1, .methodref 2 3), (0, .class_ 4), (0, .nameAndType 5 6), (0, u "java/lang/Object"), (0, u "<init>"), (0, u "()V"), (1, .class_ 10), (1, u "java/util/AbstractCollection"), (66, .class_ 78), (0, u "java/util/Collection")] 81

def k13c0 : Code := { maxStack := 1, maxLocals := 1, code := jdk_22_method_1_code, exceptionTable := #[], attributes := #[] }
def k13m0 : Method := { name := "<init>", desc := "()V", sig := { parameters := [], returnType := none }, accessFlags := 4, code := some k13c0 }
/-- java/util/AbstractCollection -/
def k13 : Class := { plain "java/util/AbstractCollection" (some 0) with
  accessFlags := 1057
  interfaces := #[12]
  cf := some (fileOf pool13 8 #[] #[{ accessFlags := 4, nameIndex := 5, descriptorIndex := 6, attributes := #[] }] 1057 2 #[77] #[])
  fields := #[]
  methods := #[k13m0]
  instanceTypes := #[]
  staticTypes := #[]
  resolved := Array.replicate 160 none
  statics := none }

def pool14 : Array CpInfo := pool [(8, .class_ 10), (1, u "java/util/SequencedCollection"), (15, .class_ 27), (0, u "java/lang/Object"), (0, .class_ 29), (0, u "java/util/Collection")] 27

/-- java/util/SequencedCollection -/
def k14 : Class := { plain "java/util/SequencedCollection" (some 0) with
  accessFlags := 1537
  interfaces := #[12]
  cf := some (fileOf pool14 8 #[] #[] 1537 26 #[28] #[])
  fields := #[]
  methods := #[]
  instanceTypes := #[]
  staticTypes := #[]
  resolved := Array.replicate 57 none
  statics := none }

def pool15 : Array CpInfo := pool [(8, .class_ 10), (1, u "java/util/List"), (20, u "(Ljava/lang/Object;)V"), (16, u "<init>"), (11, u "add"), (3, u "(Ljava/lang/Object;)Z"), (10, u "get"), (0, u "(I)Ljava/lang/Object;"), (2, u "size"), (0, u "()I"), (7, u "of"), (1, .fieldref 91 92), (0, .class_ 93), (0, .nameAndType 94 95), (0, u "java/util/ImmutableCollections"), (0, u "EMPTY_LIST"), (0, u "Ljava/util/ImmutableCollections$ListN;"), (0, .class_ 97), (0, u "java/util/ImmutableCollections$List12"), (0, .methodref 96 99), (0, .nameAndType 48 31), (0, .methodref 96 101), (0, .nameAndType 48 102), (0, u "(Ljava/lang/Object;Ljava/lang/Object;)V"), (0, .class_ 104), (0, u "java/lang/Object"), (3, u "([Ljava/lang/Object;)Ljava/util/List;"), (0, .methodref 91 110), (0, .nameAndType 111 108), (0, u "listFromArray"), (0, .methodref 91 113), (0, .nameAndType 114 115), (0, u "listCopy"), (0, u "(Ljava/util/Collection;)Ljava/util/List;"), (3, u "()Ljava/util/List;"), (0, .class_ 121), (0, u "java/util/SequencedCollection"), (112, u "copyOf")] 16

def k15m0 : Method := { name := "size", desc := "()I", sig := { parameters := [], returnType := some .int }, accessFlags := 1025, code := none }
def k15m1 : Method := { name := "add", desc := "(Ljava/lang/Object;)Z", sig := { parameters := [(.object "java/lang/Object")], returnType := some .boolean }, accessFlags := 1025, code := none }
def k15m2 : Method := { name := "get", desc := "(I)Ljava/lang/Object;", sig := { parameters := [.int], returnType := some (.object "java/lang/Object") }, accessFlags := 1025, code := none }
def k15c3 : Code := { maxStack := 1, maxLocals := 0, code := jdk_40_method_36_code, exceptionTable := #[], attributes := #[] }
def k15m3 : Method := { name := "of", desc := "()Ljava/util/List;", sig := { parameters := [], returnType := some (.object "java/util/List") }, accessFlags := 9, code := some k15c3 }
def k15c4 : Code := { maxStack := 5, maxLocals := 2, code := jdk_40_method_47_code, exceptionTable := #[], attributes := #[] }
def k15m4 : Method := { name := "of", desc := "([Ljava/lang/Object;)Ljava/util/List;", sig := { parameters := [(.array (.object "java/lang/Object"))], returnType := some (.object "java/util/List") }, accessFlags := 137, code := some k15c4 }
def k15c5 : Code := { maxStack := 1, maxLocals := 1, code := jdk_40_method_48_code, exceptionTable := #[], attributes := #[] }
def k15m5 : Method := { name := "copyOf", desc := "(Ljava/util/Collection;)Ljava/util/List;", sig := { parameters := [(.object "java/util/Collection")], returnType := some (.object "java/util/List") }, accessFlags := 9, code := some k15c5 }
/-- java/util/List -/
def k15 : Class := { plain "java/util/List" (some 0) with
  accessFlags := 1537
  interfaces := #[14]
  cf := some (fileOf pool15 8 #[] #[{ accessFlags := 1025, nameIndex := 79, descriptorIndex := 80, attributes := #[] }, { accessFlags := 1025, nameIndex := 60, descriptorIndex := 64, attributes := #[] }, { accessFlags := 1025, nameIndex := 75, descriptorIndex := 76, attributes := #[] }, { accessFlags := 9, nameIndex := 88, descriptorIndex := 119, attributes := #[] }, { accessFlags := 137, nameIndex := 88, descriptorIndex := 108, attributes := #[] }, { accessFlags := 9, nameIndex := 234, descriptorIndex := 115, attributes := #[] }] 1537 103 #[120] #[])
  fields := #[]
  methods := #[k15m0, k15m1, k15m2, k15m3, k15m4, k15m5]
  instanceTypes := #[]
  staticTypes := #[]
  resolved := Array.replicate 251 none
  statics := none }

def pool16 : Array CpInfo := pool [(1, .methodref 2 3), (0, .class_ 4), (0, .nameAndType 5 6), (0, u "java/util/AbstractCollection"), (0, u "<init>"), (0, u "()V"), (0, .fieldref 8 9), (0, .class_ 10), (0, .nameAndType 11 12), (0, u "java/util/AbstractList"), (0, u "modCount"), (0, u "I"), (64, .class_ 78), (0, u "java/util/AbstractList$Itr"), (3, .class_ 83), (0, u "java/util/AbstractList$ListItr"), (9, .class_ 94), (0, u "java/util/AbstractList$RandomAccessSubList"), (3, .class_ 99), (0, u "java/util/AbstractList$SubList"), (33, .class_ 134), (0, u "java/util/List"), (73, .class_ 209), (0, u "java/util/AbstractList$SubList$1"), (0, .class_ 211), (0, u "java/util/AbstractList$RandomAccessSpliterator")] 6

def k16c0 : Code := { maxStack := 2, maxLocals := 1, code := jdk_39_method_1_code, exceptionTable := #[], attributes := #[] }
def k16m0 : Method := { name := "<init>", desc := "()V", sig := { parameters := [], returnType := none }, accessFlags := 4, code := some k16c0 }
/-- java/util/AbstractList -/
def k16 : Class := { plain "java/util/AbstractList" (some 13) with
  accessFlags := 1057
  interfaces := #[15]
  cf := some (fileOf pool16 8 #[.nestMembers #[93, 98, 208, 210, 82, 77]] #[{ accessFlags := 4, nameIndex := 5, descriptorIndex := 6, attributes := #[] }] 1057 2 #[133] #[{ accessFlags := 132, nameIndex := 11, descriptorIndex := 12, attributes := #[] }])
  fields := #[{ name := "modCount", type := .int, accessFlags := 132, slot := 0, constantValue := 0 }]
  methods := #[k16m0]
  instanceTypes := #[.int]
  staticTypes := #[]
  resolved := Array.replicate 218 none
  statics := none }

def pool17 : Array CpInfo := pool [(1, .class_ 2), (0, u "java/util/RandomAccess"), (0, .class_ 4), (0, u "java/lang/Object")] 2

/-- java/util/RandomAccess -/
def k17 : Class := { plain "java/util/RandomAccess" (some 0) with
  accessFlags := 1537
  interfaces := #[]
  cf := some (fileOf pool17 1 #[] #[] 1537 3 #[] #[])
  fields := #[]
  methods := #[]
  instanceTypes := #[]
  staticTypes := #[]
  resolved := Array.replicate 7 none
  statics := none }

def pool18 : Array CpInfo := pool [(1, .class_ 2), (0, u "java/lang/Cloneable"), (0, .class_ 4), (0, u "java/lang/Object")] 2

/-- java/lang/Cloneable -/
def k18 : Class := { plain "java/lang/Cloneable" (some 0) with
  accessFlags := 1537
  interfaces := #[]
  cf := some (fileOf pool18 1 #[] #[] 1537 3 #[] #[])
  fields := #[]
  methods := #[]
  instanceTypes := #[]
  staticTypes := #[]
  resolved := Array.replicate 7 none
  statics := none }

def pool19 : Array CpInfo := pool [(1, .methodref 2 3), (0, .class_ 4), (0, .nameAndType 5 6), (0, u "java/util/AbstractList"), (0, u "<init>"), (0, u "()V"), (0, .class_ 8), (0, u "java/lang/Object"), (0, .fieldref 10 11), (0, .class_ 12), (0, .nameAndType 13 14), (0, u "java/util/ArrayList"), (0, u "elementData"), (0, u "[Ljava/lang/Object;"), (2, u "EMPTY_ELEMENTDATA"), (21, .fieldref 10 40), (0, .nameAndType 41 14), (0, u "DEFAULTCAPACITY_EMPTY_ELEMENTDATA"), (4, u "toArray"), (0, u "()[Ljava/lang/Object;"), (0, .fieldref 10 49), (0, .nameAndType 50 51), (0, u "size"), (0, u "I"), (6, .class_ 60), (1, u "java/util/Arrays"), (0, u "copyOf"), (1, .fieldref 10 64), (0, .nameAndType 65 51), (0, u "modCount"), (0, .methodref 58 67), (0, .nameAndType 61 68), (0, u "([Ljava/lang/Object;I)[Ljava/lang/Object;"), (0, .methodref 10 70), (0, .nameAndType 71 72), (0, u "grow"), (0, u "(I)[Ljava/lang/Object;"), (6, .methodref 80 81), (0, .class_ 82), (0, .nameAndType 83 84), (0, u "java/lang/Math"), (0, u "max"), (0, u "(II)I"), (11, u "(Ljava/lang/Object;)Z"), (21, .methodref 119 120), (0, .class_ 121), (0, .nameAndType 122 84), (0, u "java/util/Objects"), (0, u "checkIndex"), (0, .methodref 10 124), (0, .nameAndType 13 125), (0, u "(I)Ljava/lang/Object;"), (3, .methodref 10 130), (0, .nameAndType 71 47), (0, .methodref 10 132), (0, .nameAndType 133 134), (0, u "add"), (0, u "(Ljava/lang/Object;[Ljava/lang/Object;I)V"), (13, .class_ 149), (0, u "java/util/List"), (23, u "()Z"), (12, u "()I"), (75, .class_ 263), (0, u "java/util/ArrayList$ListItr"), (3, .class_ 268), (0, u "java/util/ArrayList$Itr"), (7, .class_ 277), (0, u "java/util/ArrayList$SubList"), (12, .class_ 291), (0, u "java/util/ArrayList$ArrayListSpliterator"), (37, .class_ 330), (0, u "java/util/RandomAccess"), (0, .class_ 332), (0, u "java/lang/Cloneable"), (0, .class_ 334), (0, u "java/io/Serializable"), (0, u "serialVersionUID"), (0, u "J"), (3, u "DEFAULT_CAPACITY"), (22, u "isEmpty"), (17, u "get"), (118, .class_ 501), (0, u "java/util/ArrayList$SubList$2"), (0, .class_ 503), (0, u "java/util/ArrayList$SubList$1")] 5

def k19c0 : Code := { maxStack := 2, maxLocals := 1, code := jdk_38_method_2_code, exceptionTable := #[], attributes := #[] }
def k19m0 : Method := { name := "<init>", desc := "()V", sig := { parameters := [], returnType := none }, accessFlags := 1, code := some k19c0 }
def k19c1 : Code := { maxStack := 4, maxLocals := 4, code := jdk_38_method_6_code, exceptionTable := #[], attributes := #[] }
def k19m1 : Method := { name := "grow", desc := "(I)[Ljava/lang/Object;", sig := { parameters := [.int], returnType := some (.array (.object "java/lang/Object")) }, accessFlags := 2, code := some k19c1 }
def k19c2 : Code := { maxStack := 3, maxLocals := 1, code := jdk_38_method_7_code, exceptionTable := #[], attributes := #[] }
def k19m2 : Method := { name := "grow", desc := "()[Ljava/lang/Object;", sig := { parameters := [], returnType := some (.array (.object "java/lang/Object")) }, accessFlags := 2, code := some k19c2 }
def k19c3 : Code := { maxStack := 1, maxLocals := 1, code := jdk_38_method_8_code, exceptionTable := #[], attributes := #[] }
def k19m3 : Method := { name := "size", desc := "()I", sig := { parameters := [], returnType := some .int }, accessFlags := 1, code := some k19c3 }
def k19c4 : Code := { maxStack := 1, maxLocals := 1, code := jdk_38_method_9_code, exceptionTable := #[], attributes := #[] }
def k19m4 : Method := { name := "isEmpty", desc := "()Z", sig := { parameters := [], returnType := some .boolean }, accessFlags := 1, code := some k19c4 }
def k19c5 : Code := { maxStack := 2, maxLocals := 1, code := jdk_38_method_16_code, exceptionTable := #[], attributes := #[] }
def k19m5 : Method := { name := "toArray", desc := "()[Ljava/lang/Object;", sig := { parameters := [], returnType := some (.array (.object "java/lang/Object")) }, accessFlags := 1, code := some k19c5 }
def k19c6 : Code := { maxStack := 2, maxLocals := 2, code := jdk_38_method_18_code, exceptionTable := #[], attributes := #[] }
def k19m6 : Method := { name := "elementData", desc := "(I)Ljava/lang/Object;", sig := { parameters := [.int], returnType := some (.object "java/lang/Object") }, accessFlags := 0, code := some k19c6 }
def k19c7 : Code := { maxStack := 2, maxLocals := 2, code := jdk_38_method_20_code, exceptionTable := #[], attributes := #[] }
def k19m7 : Method := { name := "get", desc := "(I)Ljava/lang/Object;", sig := { parameters := [.int], returnType := some (.object "java/lang/Object") }, accessFlags := 1, code := some k19c7 }
def k19c8 : Code := { maxStack := 3, maxLocals := 4, code := jdk_38_method_24_code, exceptionTable := #[], attributes := #[] }
def k19m8 : Method := { name := "add", desc := "(Ljava/lang/Object;[Ljava/lang/Object;I)V", sig := { parameters := [(.object "java/lang/Object"), (.array (.object "java/lang/Object")), .int], returnType := none }, accessFlags := 2, code := some k19c8 }
def k19c9 : Code := { maxStack := 4, maxLocals := 2, code := jdk_38_method_25_code, exceptionTable := #[], attributes := #[] }
def k19m9 : Method := { name := "add", desc := "(Ljava/lang/Object;)Z", sig := { parameters := [(.object "java/lang/Object")], returnType := some .boolean }, accessFlags := 1, code := some k19c9 }
/-- java/util/ArrayList -/
def k19 : Class := { plain "java/util/ArrayList" (some 16) with
  accessFlags := 33
  interfaces := #[15, 17, 18, 4]
  cf := some (fileOf pool19 10 #[.nestMembers #[290, 276, 500, 502, 262, 267]] #[{ accessFlags := 1, nameIndex := 5, descriptorIndex := 6, attributes := #[] }, { accessFlags := 2, nameIndex := 71, descriptorIndex := 72, attributes := #[] }, { accessFlags := 2, nameIndex := 71, descriptorIndex := 47, attributes := #[] }, { accessFlags := 1, nameIndex := 50, descriptorIndex := 186, attributes := #[] }, { accessFlags := 1, nameIndex := 363, descriptorIndex := 173, attributes := #[] }, { accessFlags := 1, nameIndex := 46, descriptorIndex := 47, attributes := #[] }, { accessFlags := 0, nameIndex := 13, descriptorIndex := 125, attributes := #[] }, { accessFlags := 1, nameIndex := 381, descriptorIndex := 125, attributes := #[] }, { accessFlags := 2, nameIndex := 133, descriptorIndex := 134, attributes := #[] }, { accessFlags := 1, nameIndex := 133, descriptorIndex := 96, attributes := #[] }] 33 2 #[148, 329, 331, 333] #[{ accessFlags := 26, nameIndex := 335, descriptorIndex := 336, attributes := #[] }, { accessFlags := 26, nameIndex := 340, descriptorIndex := 51, attributes := #[] }, { accessFlags := 26, nameIndex := 17, descriptorIndex := 14, attributes := #[] }, { accessFlags := 26, nameIndex := 41, descriptorIndex := 14, attributes := #[] }, { accessFlags := 128, nameIndex := 13, descriptorIndex := 14, attributes := #[] }, { accessFlags := 2, nameIndex := 50, descriptorIndex := 51, attributes := #[] }])
  fields := #[{ name := "serialVersionUID", type := .long, accessFlags := 26, slot := 0, constantValue := 0 }, { name := "DEFAULT_CAPACITY", type := .int, accessFlags := 26, slot := 1, constantValue := 0 }, { name := "EMPTY_ELEMENTDATA", type := (.array (.object "java/lang/Object")), accessFlags := 26, slot := 2, constantValue := 0 }, { name := "DEFAULTCAPACITY_EMPTY_ELEMENTDATA", type := (.array (.object "java/lang/Object")), accessFlags := 26, slot := 3, constantValue := 0 }, { name := "elementData", type := (.array (.object "java/lang/Object")), accessFlags := 128, slot := 1, constantValue := 0 }, { name := "size", type := .int, accessFlags := 2, slot := 2, constantValue := 0 }]
  methods := #[k19m0, k19m1, k19m2, k19m3, k19m4, k19m5, k19m6, k19m7, k19m8, k19m9]
  instanceTypes := #[.int, (.array (.object "java/lang/Object")), .int]
  staticTypes := #[.long, .int, (.array (.object "java/lang/Object")), (.array (.object "java/lang/Object"))]
  resolved := Array.replicate 509 none
  statics := some 1 }

def pool20 : Array CpInfo := pool [(1, .class_ 2), (0, u "java/lang/Math"), (1, .class_ 6), (1, u "java/lang/Object"), (0, u "<init>"), (0, u "()V"), (89, .class_ 100), (1, u "java/lang/Math$RandomNumberGeneratorHolder"), (71, u "negativeZeroFloatBits"), (0, u "J"), (2, u "negativeZeroDoubleBits"), (21, u "max"), (2, u "min"), (43, u "$assertionsDisabled"), (0, u "Z"), (88, u "(II)I"), (2, u "twoToTheDoubleScaleDown"), (0, u "D"), (4, u "twoToTheDoubleScaleUp"), (9, u "E"), (3, u "PI"), (2, u "TAU"), (2, u "DEGREES_TO_RADIANS"), (0, u "RADIANS_TO_DEGREES")] 94

def k20m0 : Method := { name := "<init>", desc := "()V", sig := { parameters := [], returnType := none }, accessFlags := 2, code := none }
def k20c1 : Code := { maxStack := 2, maxLocals := 2, code := jdk_29_method_65_code, exceptionTable := #[], attributes := #[] }
def k20m1 : Method := { name := "max", desc := "(II)I", sig := { parameters := [.int, .int], returnType := some .int }, accessFlags := 9, code := some k20c1 }
def k20c2 : Code := { maxStack := 2, maxLocals := 2, code := jdk_29_method_69_code, exceptionTable := #[], attributes := #[] }
def k20m2 : Method := { name := "min", desc := "(II)I", sig := { parameters := [.int, .int], returnType := some .int }, accessFlags := 9, code := some k20c2 }
/-- java/lang/Math -/
def k20 : Class := { plain "java/lang/Math" (some 0) with
  accessFlags := 49
  interfaces := #[]
  cf := some (fileOf pool20 1 #[.nestMembers #[98]] #[{ accessFlags := 2, nameIndex := 7, descriptorIndex := 8, attributes := #[] }, { accessFlags := 9, nameIndex := 198, descriptorIndex := 335, attributes := #[] }, { accessFlags := 9, nameIndex := 201, descriptorIndex := 335, attributes := #[] }] 49 4 #[] #[{ accessFlags := 25, nameIndex := 354, descriptorIndex := 339, attributes := #[] }, { accessFlags := 25, nameIndex := 358, descriptorIndex := 339, attributes := #[] }, { accessFlags := 25, nameIndex := 361, descriptorIndex := 339, attributes := #[] }, { accessFlags := 26, nameIndex := 364, descriptorIndex := 339, attributes := #[] }, { accessFlags := 26, nameIndex := 365, descriptorIndex := 339, attributes := #[] }, { accessFlags := 26, nameIndex := 172, descriptorIndex := 173, attributes := #[] }, { accessFlags := 26, nameIndex := 176, descriptorIndex := 173, attributes := #[] }, { accessFlags := 8, nameIndex := 344, descriptorIndex := 339, attributes := #[] }, { accessFlags := 8, nameIndex := 338, descriptorIndex := 339, attributes := #[] }, { accessFlags := 4120, nameIndex := 245, descriptorIndex := 246, attributes := #[] }])
  fields := #[{ name := "E", type := .double, accessFlags := 25, slot := 0, constantValue := 0 }, { name := "PI", type := .double, accessFlags := 25, slot := 1, constantValue := 0 }, { name := "TAU", type := .double, accessFlags := 25, slot := 2, constantValue := 0 }, { name := "DEGREES_TO_RADIANS", type := .double, accessFlags := 26, slot := 3, constantValue := 0 }, { name := "RADIANS_TO_DEGREES", type := .double, accessFlags := 26, slot := 4, constantValue := 0 }, { name := "negativeZeroFloatBits", type := .long, accessFlags := 26, slot := 5, constantValue := 0 }, { name := "negativeZeroDoubleBits", type := .long, accessFlags := 26, slot := 6, constantValue := 0 }, { name := "twoToTheDoubleScaleUp", type := .double, accessFlags := 8, slot := 7, constantValue := 0 }, { name := "twoToTheDoubleScaleDown", type := .double, accessFlags := 8, slot := 8, constantValue := 0 }, { name := "$assertionsDisabled", type := .boolean, accessFlags := 4120, slot := 9, constantValue := 0 }]
  methods := #[k20m0, k20m1, k20m2]
  instanceTypes := #[]
  staticTypes := #[.double, .double, .double, .double, .double, .long, .long, .double, .double, .boolean]
  resolved := Array.replicate 460 none
  statics := none }

def pool21 : Array CpInfo := pool [(1, .methodref 2 3), (0, .class_ 4), (0, .nameAndType 5 6), (0, u "java/lang/Object"), (0, u "<init>"), (0, u "()V"), (0, .fieldref 8 9), (0, .class_ 10), (0, .nameAndType 11 12), (0, u "com/example/hornwort/hornwort/Selection"), (0, u "atom"), (0, u "Lcom/example/hornwort/hornwort/Atom;"), (0, .interfaceMethodref 14 15), (0, .class_ 16), (0, .nameAndType 17 18), (0, u "java/util/List"), (0, u "copyOf"), (0, u "(Ljava/util/Collection;)Ljava/util/List;"), (0, .fieldref 8 20), (0, .nameAndType 21 22), (0, u "groupBy"), (0, u "Ljava/util/List;"), (0, .fieldref 8 24), (0, .nameAndType 25 26), (0, u "function"), (0, u "Lcom/example/hornwort/hornwort/Aggregate$Function;"), (0, .fieldref 8 28), (0, .nameAndType 29 30), (0, u "value"), (0, u "Lcom/example/hornwort/hornwort/Variable;"), (0, .fieldref 8 32), (0, .nameAndType 33 34), (0, u "position"), (0, u "Lcom/example/hornwort/hornwort/Position;"), (0, .class_ 36), (0, u "java/util/HashMap"), (0, .methodref 35 3), (0, .methodref 39 40), (0, .class_ 41), (0, .nameAndType 42 43), (0, u "com/example/hornwort/hornwort/Atom"), (0, u "args"), (0, u "()Ljava/util/List;"), (0, .interfaceMethodref 14 45), (0, .nameAndType 46 47), (0, u "size"), (0, u "()I"), (0, .interfaceMethodref 14 49), (0, .nameAndType 50 51), (0, u "get"), (0, u "(I)Ljava/lang/Object;"), (0, .class_ 53), (0, u "com/example/hornwort/hornwort/Variable"), (0, .methodref 52 55), (0, .nameAndType 56 57), (0, u "isAnonymous"), (0, u "()Z"), (0, .methodref 52 59), (0, .nameAndType 60 61), (0, u "name"), (0, u "()Ljava/lang/String;"), (0, .methodref 63 64), (0, .class_ 65), (0, .nameAndType 66 67), (0, u "java/lang/Integer"), (0, u "valueOf"), (0, u "(I)Ljava/lang/Integer;"), (0, .interfaceMethodref 69 70), (0, .class_ 71), (0, .nameAndType 72 73), (0, u "java/util/Map"), (0, u "putIfAbsent"), (0, u "(Ljava/lang/Object;Ljava/lang/Object;)Ljava/lang/Object;"), (12, .class_ 87), (0, u "java/util/HashSet"), (0, .methodref 86 3), (0, .fieldref 8 90), (0, .nameAndType 91 92), (0, u "groupPositions"), (0, u "[I"), (0, .methodref 8 94), (0, .nameAndType 95 96), (0, u "place"), (0, u "(Lcom/example/hornwort/hornwort/Variable;Ljava/util/Map;Ljava/util/Set;)I"), (0, .fieldref 8 98), (0, .nameAndType 99 100), (0, u "valuePosition"), (0, u "I"), (0, .interfaceMethodref 69 102), (0, .nameAndType 50 103), (0, u "(Ljava/lang/Object;)Ljava/lang/Object;"), (12, .interfaceMethodref 117 118), (0, .class_ 119), (0, .nameAndType 120 121), (0, u "java/util/Set"), (0, u "add"), (0, u "(Ljava/lang/Object;)Z"), (1, .methodref 63 124), (0, .nameAndType 125 47), (0, u "intValue"), (8, u "(Lcom/example/hornwort/hornwort/Atom;Ljava/util/List;Lcom/example/hornwort/hornwort/Aggregate$Function;Lcom/example/hornwort/hornwort/Variable;Lcom/example/hornwort/hornwort/Position;)V"), (51, u "(I)Z"), (89, u "ANNOTATION"), (0, u "Ljava/lang/String;"), (1, u "GROUP_BY"), (11, u "groups")] 35

def k21c0 : Code := { maxStack := 6, maxLocals := 9, code := prog_48_method_1_code, exceptionTable := #[], attributes := #[] }
def k21m0 : Method := { name := "<init>", desc := "(Lcom/example/hornwort/hornwort/Atom;Ljava/util/List;Lcom/example/hornwort/hornwort/Aggregate$Function;Lcom/example/hornwort/hornwort/Variable;Lcom/example/hornwort/hornwort/Position;)V", sig := { parameters := [(.object "com/example/hornwort/hornwort/Atom"), (.object "java/util/List"), (.object "com/example/hornwort/hornwort/Aggregate$Function"), (.object "com/example/hornwort/hornwort/Variable"), (.object "com/example/hornwort/hornwort/Position")], returnType := none }, accessFlags := 0, code := some k21c0 }
def k21c1 : Code := { maxStack := 5, maxLocals := 5, code := prog_48_method_2_code, exceptionTable := #[], attributes := #[] }
def k21m1 : Method := { name := "place", desc := "(Lcom/example/hornwort/hornwort/Variable;Ljava/util/Map;Ljava/util/Set;)I", sig := { parameters := [(.object "com/example/hornwort/hornwort/Variable"), (.object "java/util/Map"), (.object "java/util/Set")], returnType := some .int }, accessFlags := 2, code := some k21c1 }
def k21c2 : Code := { maxStack := 2, maxLocals := 6, code := prog_48_method_6_code, exceptionTable := #[], attributes := #[] }
def k21m2 : Method := { name := "groups", desc := "(I)Z", sig := { parameters := [.int], returnType := some .boolean }, accessFlags := 0, code := some k21c2 }
/-- com/example/hornwort/hornwort/Selection -/
def k21 : Class := { plain "com/example/hornwort/hornwort/Selection" (some 0) with
  accessFlags := 48
  interfaces := #[]
  cf := some (fileOf pool21 8 #[] #[{ accessFlags := 0, nameIndex := 5, descriptorIndex := 134, attributes := #[] }, { accessFlags := 2, nameIndex := 95, descriptorIndex := 96, attributes := #[] }, { accessFlags := 0, nameIndex := 291, descriptorIndex := 186, attributes := #[] }] 48 2 #[] #[{ accessFlags := 24, nameIndex := 276, descriptorIndex := 277, attributes := #[] }, { accessFlags := 24, nameIndex := 279, descriptorIndex := 277, attributes := #[] }, { accessFlags := 18, nameIndex := 11, descriptorIndex := 12, attributes := #[] }, { accessFlags := 18, nameIndex := 21, descriptorIndex := 22, attributes := #[] }, { accessFlags := 18, nameIndex := 25, descriptorIndex := 26, attributes := #[] }, { accessFlags := 18, nameIndex := 29, descriptorIndex := 30, attributes := #[] }, { accessFlags := 18, nameIndex := 33, descriptorIndex := 34, attributes := #[] }, { accessFlags := 18, nameIndex := 91, descriptorIndex := 92, attributes := #[] }, { accessFlags := 18, nameIndex := 99, descriptorIndex := 100, attributes := #[] }])
  fields := #[{ name := "ANNOTATION", type := (.object "java/lang/String"), accessFlags := 24, slot := 0, constantValue := 0 }, { name := "GROUP_BY", type := (.object "java/lang/String"), accessFlags := 24, slot := 1, constantValue := 0 }, { name := "atom", type := (.object "com/example/hornwort/hornwort/Atom"), accessFlags := 18, slot := 0, constantValue := 0 }, { name := "groupBy", type := (.object "java/util/List"), accessFlags := 18, slot := 1, constantValue := 0 }, { name := "function", type := (.object "com/example/hornwort/hornwort/Aggregate$Function"), accessFlags := 18, slot := 2, constantValue := 0 }, { name := "value", type := (.object "com/example/hornwort/hornwort/Variable"), accessFlags := 18, slot := 3, constantValue := 0 }, { name := "position", type := (.object "com/example/hornwort/hornwort/Position"), accessFlags := 18, slot := 4, constantValue := 0 }, { name := "groupPositions", type := (.array .int), accessFlags := 18, slot := 5, constantValue := 0 }, { name := "valuePosition", type := .int, accessFlags := 18, slot := 6, constantValue := 0 }]
  methods := #[k21m0, k21m1, k21m2]
  instanceTypes := #[(.object "com/example/hornwort/hornwort/Atom"), (.object "java/util/List"), (.object "com/example/hornwort/hornwort/Aggregate$Function"), (.object "com/example/hornwort/hornwort/Variable"), (.object "com/example/hornwort/hornwort/Position"), (.array .int), .int]
  staticTypes := #[(.object "java/lang/String"), (.object "java/lang/String")]
  resolved := Array.replicate 327 none
  statics := none }

def pool22 : Array CpInfo := pool [(1, .methodref 2 3), (0, .class_ 4), (0, .nameAndType 5 6), (0, u "java/lang/Object"), (0, u "<init>"), (0, u "()V"), (0, .fieldref 8 9), (0, .class_ 10), (0, .nameAndType 11 12), (0, u "com/example/hornwort/hornwort/Atom"), (0, u "name"), (0, u "Ljava/lang/String;"), (0, .interfaceMethodref 14 15), (0, .class_ 16), (0, .nameAndType 17 18), (0, u "java/util/List"), (0, u "copyOf"), (0, u "(Ljava/util/Collection;)Ljava/util/List;"), (0, .fieldref 8 20), (0, .nameAndType 21 22), (0, u "args"), (0, u "Ljava/util/List;"), (51, u "(Ljava/lang/String;Ljava/util/List;)V"), (46, u "()Ljava/util/List;")] 46

def k22c0 : Code := { maxStack := 2, maxLocals := 3, code := prog_7_method_1_code, exceptionTable := #[], attributes := #[] }
def k22m0 : Method := { name := "<init>", desc := "(Ljava/lang/String;Ljava/util/List;)V", sig := { parameters := [(.object "java/lang/String"), (.object "java/util/List")], returnType := none }, accessFlags := 0, code := some k22c0 }
def k22c1 : Code := { maxStack := 1, maxLocals := 1, code := prog_7_method_3_code, exceptionTable := #[], attributes := #[] }
def k22m1 : Method := { name := "args", desc := "()Ljava/util/List;", sig := { parameters := [], returnType := some (.object "java/util/List") }, accessFlags := 0, code := some k22c1 }
/-- com/example/hornwort/hornwort/Atom -/
def k22 : Class := { plain "com/example/hornwort/hornwort/Atom" (some 0) with
  accessFlags := 48
  interfaces := #[]
  cf := some (fileOf pool22 8 #[] #[{ accessFlags := 0, nameIndex := 5, descriptorIndex := 74, attributes := #[] }, { accessFlags := 0, nameIndex := 21, descriptorIndex := 121, attributes := #[] }] 48 2 #[] #[{ accessFlags := 18, nameIndex := 11, descriptorIndex := 12, attributes := #[] }, { accessFlags := 18, nameIndex := 21, descriptorIndex := 22, attributes := #[] }])
  fields := #[{ name := "name", type := (.object "java/lang/String"), accessFlags := 18, slot := 0, constantValue := 0 }, { name := "args", type := (.object "java/util/List"), accessFlags := 18, slot := 1, constantValue := 0 }]
  methods := #[k22m0, k22m1]
  instanceTypes := #[(.object "java/lang/String"), (.object "java/util/List")]
  staticTypes := #[]
  resolved := Array.replicate 168 none
  statics := none }

def pool23 : Array CpInfo := pool [(2, .class_ 4), (1, u "java/lang/Object"), (0, u "<init>"), (0, u "()V"), (3, .class_ 11), (0, u "java/util/ImmutableCollections$List12"), (0, .class_ 13), (0, u "java/util/ImmutableCollections$ListN"), (3, u "Z"), (0, .class_ 19), (0, u "java/util/List"), (0, .interfaceMethodref 21 22), (0, .class_ 23), (0, .nameAndType 24 25), (0, u "java/util/Collection"), (0, u "isEmpty"), (0, u "()Z"), (0, .interfaceMethodref 18 27), (0, .nameAndType 28 29), (0, u "of"), (0, u "()Ljava/util/List;"), (0, .interfaceMethodref 21 31), (0, .nameAndType 32 33), (0, u "toArray"), (0, u "()[Ljava/lang/Object;"), (0, .interfaceMethodref 18 35), (0, .nameAndType 28 36), (0, u "([Ljava/lang/Object;)Ljava/util/List;"), (0, .methodref 38 39), (0, .class_ 40), (0, .nameAndType 41 42), (0, u "java/util/Objects"), (0, u "requireNonNull"), (0, u "(Ljava/lang/Object;)Ljava/lang/Object;"), (0, .methodref 12 44), (0, .nameAndType 5 45), (0, u "([Ljava/lang/Object;Z)V"), (1, .class_ 49), (1, u "java/util/ImmutableCollections"), (0, u "$assertionsDisabled"), (5, u "[Ljava/lang/Object;"), (5, u "EMPTY_LIST"), (0, u "Ljava/util/ImmutableCollections$ListN;"), (8, u "EMPTY_LIST_NULLS"), (22, u "SALT32L"), (0, u "J"), (2, u "REVERSE"), (6, u "archivedObjects"), (2, u "EMPTY"), (0, u "Ljava/lang/Object;"), (0, .class_ 112), (0, u "java/util/ImmutableCollections$SetN"), (5, u "EMPTY_SET"), (0, u "Ljava/util/ImmutableCollections$SetN;"), (0, .class_ 121), (0, u "java/util/ImmutableCollections$MapN"), (3, u "EMPTY_MAP"), (0, u "Ljava/util/ImmutableCollections$MapN;"), (4, u "EXPAND_FACTOR"), (0, u "I"), (9, u "listCopy"), (0, u "(Ljava/util/Collection;)Ljava/util/List;"), (7, u "listFromArray"), (17, .class_ 170), (0, u "java/util/ImmutableCollections$MapN$MapNIterator"), (0, .class_ 172), (0, u "java/util/ImmutableCollections$MapN$1"), (0, .class_ 174), (0, u "java/util/ImmutableCollections$Map1"), (0, .class_ 176), (0, u "java/util/ImmutableCollections$AbstractImmutableMap"), (0, .class_ 178), (0, u "java/util/ImmutableCollections$SetN$SetNIterator"), (0, .class_ 180), (0, u "java/util/ImmutableCollections$Set12"), (0, .class_ 182), (0, u "java/util/ImmutableCollections$Set12$1"), (0, .class_ 184), (0, u "java/util/ImmutableCollections$AbstractImmutableSet"), (0, .class_ 186), (0, u "java/util/ImmutableCollections$SubList"), (0, .class_ 188), (0, u "java/util/ImmutableCollections$ListItr"), (0, .class_ 190), (0, u "java/util/ImmutableCollections$AbstractImmutableList"), (0, .class_ 192), (0, u "java/util/ImmutableCollections$AbstractImmutableCollection"), (0, .class_ 194), (0, u "java/util/ImmutableCollections$Access"), (0, .class_ 196), (0, u "java/util/ImmutableCollections$Access$1")] 16

def k23m0 : Method := { name := "<init>", desc := "()V", sig := { parameters := [], returnType := none }, accessFlags := 2, code := none }
def k23c1 : Code := { maxStack := 1, maxLocals := 2, code := jdk_56_method_3_code, exceptionTable := #[], attributes := #[] }
def k23m1 : Method := { name := "listCopy", desc := "(Ljava/util/Collection;)Ljava/util/List;", sig := { parameters := [(.object "java/util/Collection")], returnType := some (.object "java/util/List") }, accessFlags := 8, code := some k23c1 }
def k23c2 : Code := { maxStack := 4, maxLocals := 3, code := jdk_56_method_4_code, exceptionTable := #[], attributes := #[] }
def k23m2 : Method := { name := "listFromArray", desc := "([Ljava/lang/Object;)Ljava/util/List;", sig := { parameters := [(.array (.object "java/lang/Object"))], returnType := some (.object "java/util/List") }, accessFlags := 136, code := some k23c2 }
/-- java/util/ImmutableCollections -/
def k23 : Class := { plain "java/util/ImmutableCollections" (some 0) with
  accessFlags := 32
  interfaces := #[]
  cf := some (fileOf pool23 47 #[.nestMembers #[120, 169, 171, 173, 175, 111, 177, 179, 181, 183, 12, 10, 185, 187, 189, 191, 193, 195]] #[{ accessFlags := 2, nameIndex := 5, descriptorIndex := 6, attributes := #[] }, { accessFlags := 8, nameIndex := 142, descriptorIndex := 143, attributes := #[] }, { accessFlags := 136, nameIndex := 151, descriptorIndex := 36, attributes := #[] }] 32 2 #[] #[{ accessFlags := 26, nameIndex := 95, descriptorIndex := 96, attributes := #[] }, { accessFlags := 26, nameIndex := 99, descriptorIndex := 17, attributes := #[] }, { accessFlags := 10, nameIndex := 106, descriptorIndex := 56, attributes := #[] }, { accessFlags := 26, nameIndex := 109, descriptorIndex := 110, attributes := #[] }, { accessFlags := 24, nameIndex := 62, descriptorIndex := 63, attributes := #[] }, { accessFlags := 24, nameIndex := 72, descriptorIndex := 63, attributes := #[] }, { accessFlags := 24, nameIndex := 118, descriptorIndex := 119, attributes := #[] }, { accessFlags := 24, nameIndex := 125, descriptorIndex := 126, attributes := #[] }, { accessFlags := 24, nameIndex := 131, descriptorIndex := 132, attributes := #[] }, { accessFlags := 4120, nameIndex := 50, descriptorIndex := 17, attributes := #[] }])
  fields := #[{ name := "SALT32L", type := .long, accessFlags := 26, slot := 0, constantValue := 0 }, { name := "REVERSE", type := .boolean, accessFlags := 26, slot := 1, constantValue := 0 }, { name := "archivedObjects", type := (.array (.object "java/lang/Object")), accessFlags := 10, slot := 2, constantValue := 0 }, { name := "EMPTY", type := (.object "java/lang/Object"), accessFlags := 26, slot := 3, constantValue := 0 }, { name := "EMPTY_LIST", type := (.object "java/util/ImmutableCollections$ListN"), accessFlags := 24, slot := 4, constantValue := 0 }, { name := "EMPTY_LIST_NULLS", type := (.object "java/util/ImmutableCollections$ListN"), accessFlags := 24, slot := 5, constantValue := 0 }, { name := "EMPTY_SET", type := (.object "java/util/ImmutableCollections$SetN"), accessFlags := 24, slot := 6, constantValue := 0 }, { name := "EMPTY_MAP", type := (.object "java/util/ImmutableCollections$MapN"), accessFlags := 24, slot := 7, constantValue := 0 }, { name := "EXPAND_FACTOR", type := .int, accessFlags := 24, slot := 8, constantValue := 0 }, { name := "$assertionsDisabled", type := .boolean, accessFlags := 4120, slot := 9, constantValue := 0 }]
  methods := #[k23m0, k23m1, k23m2]
  instanceTypes := #[]
  staticTypes := #[.long, .boolean, (.array (.object "java/lang/Object")), (.object "java/lang/Object"), (.object "java/util/ImmutableCollections$ListN"), (.object "java/util/ImmutableCollections$ListN"), (.object "java/util/ImmutableCollections$SetN"), (.object "java/util/ImmutableCollections$MapN"), .int, .boolean]
  resolved := Array.replicate 213 none
  statics := some 2 }

def pool24 : Array CpInfo := pool [(1, .methodref 2 3), (0, .class_ 4), (0, .nameAndType 5 6), (0, u "java/util/AbstractCollection"), (0, u "<init>"), (0, u "()V"), (1, .class_ 10), (1, u "java/util/ImmutableCollections"), (2, .class_ 14), (0, u "java/util/ImmutableCollections$AbstractImmutableCollection")] 41

def k24c0 : Code := { maxStack := 1, maxLocals := 1, code := jdk_47_method_1_code, exceptionTable := #[], attributes := #[] }
def k24m0 : Method := { name := "<init>", desc := "()V", sig := { parameters := [], returnType := none }, accessFlags := 0, code := some k24c0 }
/-- java/util/ImmutableCollections$AbstractImmutableCollection -/
def k24 : Class := { plain "java/util/ImmutableCollections$AbstractImmutableCollection" (some 13) with
  accessFlags := 1056
  interfaces := #[]
  cf := some (fileOf pool24 13 #[.nestHost 8] #[{ accessFlags := 0, nameIndex := 5, descriptorIndex := 6, attributes := #[] }] 1056 2 #[] #[])
  fields := #[]
  methods := #[k24m0]
  instanceTypes := #[]
  staticTypes := #[]
  resolved := Array.replicate 56 none
  statics := none }

def pool25 : Array CpInfo := pool [(1, .methodref 2 3), (0, .class_ 4), (0, .nameAndType 5 6), (0, u "java/util/ImmutableCollections$AbstractImmutableCollection"), (0, u "<init>"), (0, u "()V"), (1, .class_ 10), (1, u "java/util/ImmutableCollections"), (3, .class_ 16), (1, u "java/util/ImmutableCollections$AbstractImmutableList"), (60, .class_ 78), (0, u "java/util/List"), (45, .class_ 125), (0, u "java/util/RandomAccess")] 70

def k25c0 : Code := { maxStack := 1, maxLocals := 1, code := jdk_46_method_1_code, exceptionTable := #[], attributes := #[] }
def k25m0 : Method := { name := "<init>", desc := "()V", sig := { parameters := [], returnType := none }, accessFlags := 0, code := some k25c0 }
/-- java/util/ImmutableCollections$AbstractImmutableList -/
def k25 : Class := { plain "java/util/ImmutableCollections$AbstractImmutableList" (some 24) with
  accessFlags := 1056
  interfaces := #[15, 17]
  cf := some (fileOf pool25 14 #[.nestHost 8] #[{ accessFlags := 0, nameIndex := 5, descriptorIndex := 6, attributes := #[] }] 1056 2 #[77, 124] #[])
  fields := #[]
  methods := #[k25m0]
  instanceTypes := #[]
  staticTypes := #[]
  resolved := Array.replicate 196 none
  statics := none }

def pool26 : Array CpInfo := pool [(1, .methodref 2 3), (0, .class_ 4), (0, .nameAndType 5 6), (0, u "java/util/ImmutableCollections$AbstractImmutableList"), (0, u "<init>"), (0, u "()V"), (0, .methodref 8 9), (0, .class_ 10), (0, .nameAndType 11 12), (0, u "java/util/Objects"), (0, u "requireNonNull"), (0, u "(Ljava/lang/Object;)Ljava/lang/Object;"), (0, .fieldref 14 15), (0, .class_ 16), (0, .nameAndType 17 18), (0, u "java/util/ImmutableCollections$List12"), (0, u "e0"), (0, u "Ljava/lang/Object;"), (0, .fieldref 20 21), (0, .class_ 22), (0, .nameAndType 23 18), (0, u "java/util/ImmutableCollections"), (0, u "EMPTY"), (0, .fieldref 14 25), (0, .nameAndType 26 18), (0, u "e1"), (43, .class_ 71), (0, u "java/io/Serializable"), (4, u "(Ljava/lang/Object;)V"), (8, u "(Ljava/lang/Object;Ljava/lang/Object;)V")] 39

def k26c0 : Code := { maxStack := 2, maxLocals := 2, code := jdk_44_method_1_code, exceptionTable := #[], attributes := #[] }
def k26m0 : Method := { name := "<init>", desc := "(Ljava/lang/Object;)V", sig := { parameters := [(.object "java/lang/Object")], returnType := none }, accessFlags := 0, code := some k26c0 }
def k26c1 : Code := { maxStack := 2, maxLocals := 3, code := jdk_44_method_2_code, exceptionTable := #[], attributes := #[] }
def k26m1 : Method := { name := "<init>", desc := "(Ljava/lang/Object;Ljava/lang/Object;)V", sig := { parameters := [(.object "java/lang/Object"), (.object "java/lang/Object")], returnType := none }, accessFlags := 0, code := some k26c1 }
/-- java/util/ImmutableCollections$List12 -/
def k26 : Class := { plain "java/util/ImmutableCollections$List12" (some 25) with
  accessFlags := 48
  interfaces := #[4]
  cf := some (fileOf pool26 14 #[.nestHost 20] #[{ accessFlags := 0, nameIndex := 5, descriptorIndex := 76, attributes := #[] }, { accessFlags := 0, nameIndex := 5, descriptorIndex := 85, attributes := #[] }] 48 2 #[70] #[{ accessFlags := 18, nameIndex := 17, descriptorIndex := 18, attributes := #[] }, { accessFlags := 18, nameIndex := 26, descriptorIndex := 18, attributes := #[] }])
  fields := #[{ name := "e0", type := (.object "java/lang/Object"), accessFlags := 18, slot := 0, constantValue := 0 }, { name := "e1", type := (.object "java/lang/Object"), accessFlags := 18, slot := 1, constantValue := 0 }]
  methods := #[k26m0, k26m1]
  instanceTypes := #[(.object "java/lang/Object"), (.object "java/lang/Object")]
  staticTypes := #[]
  resolved := Array.replicate 125 none
  statics := none }

def pool27 : Array CpInfo := pool [(1, .methodref 2 3), (0, .class_ 4), (0, .nameAndType 5 6), (0, u "java/util/ImmutableCollections$AbstractImmutableList"), (0, u "<init>"), (0, u "()V"), (0, .fieldref 8 9), (0, .class_ 10), (0, .nameAndType 11 12), (0, u "java/util/ImmutableCollections$ListN"), (0, u "elements"), (0, u "[Ljava/lang/Object;"), (0, .fieldref 8 14), (0, .nameAndType 15 16), (0, u "allowNulls"), (0, u "Z"), (42, .class_ 60), (0, u "java/io/Serializable"), (4, u "([Ljava/lang/Object;Z)V"), (11, u "size"), (0, u "()I"), (0, u "get"), (0, u "(I)Ljava/lang/Object;"), (33, .class_ 115), (0, u "java/util/ImmutableCollections")] 3

def k27c0 : Code := { maxStack := 2, maxLocals := 3, code := jdk_45_method_1_code, exceptionTable := #[], attributes := #[] }
def k27m0 : Method := { name := "<init>", desc := "([Ljava/lang/Object;Z)V", sig := { parameters := [(.array (.object "java/lang/Object")), .boolean], returnType := none }, accessFlags := 2, code := some k27c0 }
def k27c1 : Code := { maxStack := 1, maxLocals := 1, code := jdk_45_method_3_code, exceptionTable := #[], attributes := #[] }
def k27m1 : Method := { name := "size", desc := "()I", sig := { parameters := [], returnType := some .int }, accessFlags := 1, code := some k27c1 }
def k27c2 : Code := { maxStack := 2, maxLocals := 2, code := jdk_45_method_4_code, exceptionTable := #[], attributes := #[] }
def k27m2 : Method := { name := "get", desc := "(I)Ljava/lang/Object;", sig := { parameters := [.int], returnType := some (.object "java/lang/Object") }, accessFlags := 1, code := some k27c2 }
/-- java/util/ImmutableCollections$ListN -/
def k27 : Class := { plain "java/util/ImmutableCollections$ListN" (some 25) with
  accessFlags := 48
  interfaces := #[4]
  cf := some (fileOf pool27 8 #[.nestHost 114] #[{ accessFlags := 2, nameIndex := 5, descriptorIndex := 65, attributes := #[] }, { accessFlags := 1, nameIndex := 77, descriptorIndex := 78, attributes := #[] }, { accessFlags := 1, nameIndex := 79, descriptorIndex := 80, attributes := #[] }] 48 2 #[59] #[{ accessFlags := 18, nameIndex := 11, descriptorIndex := 12, attributes := #[] }, { accessFlags := 18, nameIndex := 15, descriptorIndex := 16, attributes := #[] }])
  fields := #[{ name := "elements", type := (.array (.object "java/lang/Object")), accessFlags := 18, slot := 0, constantValue := 0 }, { name := "allowNulls", type := .boolean, accessFlags := 18, slot := 1, constantValue := 0 }]
  methods := #[k27m0, k27m1, k27m2]
  instanceTypes := #[(.array (.object "java/lang/Object")), .boolean]
  staticTypes := #[]
  resolved := Array.replicate 119 none
  statics := none }

def pool28 : Array CpInfo := pool [(2, .class_ 4), (1, u "java/lang/Object"), (0, u "<init>"), (0, u "()V"), (7, .class_ 16), (1, u "java/util/Arrays"), (57, .class_ 76), (1, u "java/util/Arrays$NaturalOrder"), (9, .methodref 2 87), (0, .nameAndType 88 89), (0, u "getClass"), (0, u "()Ljava/lang/Class;"), (20, .class_ 111), (0, u "[Ljava/lang/Object;"), (1, .class_ 115), (1, u "java/util/Arrays$LegacyMergeSort"), (1, u "Z"), (32, .methodref 151 152), (0, .class_ 153), (0, .nameAndType 154 155), (0, u "java/lang/System"), (0, u "arraycopy"), (0, u "(Ljava/lang/Object;ILjava/lang/Object;II)V"), (144, .methodref 14 301), (0, .nameAndType 302 303), (0, u "copyOf"), (0, u "([Ljava/lang/Object;ILjava/lang/Class;)[Ljava/lang/Object;"), (0, .methodref 305 306), (0, .class_ 307), (0, .nameAndType 308 309), (0, u "java/lang/Math"), (0, u "min"), (0, u "(II)I"), (65, .class_ 376), (0, u "java/util/Arrays$ArrayList"), (68, u "$assertionsDisabled"), (269, u "MIN_ARRAY_SORT_GRAN"), (0, u "I"), (2, u "INSERTIONSORT_THRESHOLD"), (140, u "([Ljava/lang/Object;I)[Ljava/lang/Object;"), (114, .class_ 976), (0, u "java/util/Arrays$ArrayItr")] 52

def k28m0 : Method := { name := "<init>", desc := "()V", sig := { parameters := [], returnType := none }, accessFlags := 2, code := none }
def k28c1 : Code := { maxStack := 3, maxLocals := 2, code := jdk_65_method_119_code, exceptionTable := #[], attributes := #[] }
def k28m1 : Method := { name := "copyOf", desc := "([Ljava/lang/Object;I)[Ljava/lang/Object;", sig := { parameters := [(.array (.object "java/lang/Object")), .int], returnType := some (.array (.object "java/lang/Object")) }, accessFlags := 9, code := some k28c1 }
def k28c2 : Code := { maxStack := 6, maxLocals := 4, code := jdk_65_method_120_code, exceptionTable := #[], attributes := #[] }
def k28m2 : Method := { name := "copyOf", desc := "([Ljava/lang/Object;ILjava/lang/Class;)[Ljava/lang/Object;", sig := { parameters := [(.array (.object "java/lang/Object")), .int, (.object "java/lang/Class")], returnType := some (.array (.object "java/lang/Object")) }, accessFlags := 9, code := some k28c2 }
/-- java/util/Arrays -/
def k28 : Class := { plain "java/util/Arrays" (some 0) with
  accessFlags := 49
  interfaces := #[]
  cf := some (fileOf pool28 14 #[.nestMembers #[975, 375, 113, 74]] #[{ accessFlags := 2, nameIndex := 5, descriptorIndex := 6, attributes := #[] }, { accessFlags := 9, nameIndex := 302, descriptorIndex := 860, attributes := #[] }, { accessFlags := 9, nameIndex := 302, descriptorIndex := 303, attributes := #[] }] 49 2 #[] #[{ accessFlags := 26, nameIndex := 715, descriptorIndex := 716, attributes := #[] }, { accessFlags := 26, nameIndex := 719, descriptorIndex := 716, attributes := #[] }, { accessFlags := 4120, nameIndex := 445, descriptorIndex := 117, attributes := #[] }])
  fields := #[{ name := "MIN_ARRAY_SORT_GRAN", type := .int, accessFlags := 26, slot := 0, constantValue := 0 }, { name := "INSERTIONSORT_THRESHOLD", type := .int, accessFlags := 26, slot := 1, constantValue := 0 }, { name := "$assertionsDisabled", type := .boolean, accessFlags := 4120, slot := 2, constantValue := 0 }]
  methods := #[k28m0, k28m1, k28m2]
  instanceTypes := #[]
  staticTypes := #[.int, .int, .boolean]
  resolved := Array.replicate 1029 none
  statics := none }

def pool29 : Array CpInfo := pool [(2, .class_ 4), (1, u "java/lang/Object"), (0, u "<init>"), (0, u "()V"), (1, .class_ 10), (1, u "java/lang/System"), (0, u "allowSecurityManager"), (0, u "I"), (16, u "cons"), (0, u "Ljava/io/Console;"), (77, .class_ 110), (1, u "java/lang/System$CallersHolder"), (43, u "initialErrStream"), (0, u "Ljava/io/PrintStream;"), (19, u "security"), (0, u "Ljava/lang/SecurityManager;"), (31, .class_ 209), (0, u "java/lang/System$1"), (7, u "props"), (0, u "Ljava/util/Properties;"), (2, u "lineSeparator"), (0, u "Ljava/lang/String;"), (96, .class_ 321), (1, u "java/lang/System$LoggerFinder"), (5, .class_ 328), (0, u "java/lang/System$Logger"), (67, u "err"), (2, u "out"), (91, u "notSupportedJnuEncoding"), (15, u "in"), (17, u "initialIn"), (0, u "Ljava/io/InputStream;"), (35, u "bootLayer"), (0, u "Ljava/lang/ModuleLayer;"), (99, .class_ 664), (0, u "java/lang/System$2"), (9, u "NEVER"), (2, u "MAYBE"), (49, u "arraycopy"), (0, u "(Ljava/lang/Object;ILjava/lang/Object;II)V"), (72, .class_ 802), (0, u "java/lang/System$Logger$Level")] 31

def k29m0 : Method := { name := "<init>", desc := "()V", sig := { parameters := [], returnType := none }, accessFlags := 2, code := none }
def k29m1 : Method := { name := "arraycopy", desc := "(Ljava/lang/Object;ILjava/lang/Object;II)V", sig := { parameters := [(.object "java/lang/Object"), .int, (.object "java/lang/Object"), .int, .int], returnType := none }, accessFlags := 265, code := none }
/-- java/lang/System -/
def k29 : Class := { plain "java/lang/System" (some 0) with
  accessFlags := 49
  interfaces := #[]
  cf := some (fileOf pool29 8 #[.nestMembers #[319, 327, 801, 108, 663, 208]] #[{ accessFlags := 2, nameIndex := 5, descriptorIndex := 6, attributes := #[] }, { accessFlags := 265, nameIndex := 727, descriptorIndex := 728, attributes := #[] }] 49 2 #[] #[{ accessFlags := 25, nameIndex := 507, descriptorIndex := 526, attributes := #[] }, { accessFlags := 25, nameIndex := 399, descriptorIndex := 155, attributes := #[] }, { accessFlags := 25, nameIndex := 396, descriptorIndex := 155, attributes := #[] }, { accessFlags := 10, nameIndex := 525, descriptorIndex := 526, attributes := #[] }, { accessFlags := 26, nameIndex := 674, descriptorIndex := 12, attributes := #[] }, { accessFlags := 26, nameIndex := 677, descriptorIndex := 12, attributes := #[] }, { accessFlags := 10, nameIndex := 11, descriptorIndex := 12, attributes := #[] }, { accessFlags := 74, nameIndex := 175, descriptorIndex := 176, attributes := #[] }, { accessFlags := 10, nameIndex := 491, descriptorIndex := 222, attributes := #[] }, { accessFlags := 74, nameIndex := 29, descriptorIndex := 30, attributes := #[] }, { accessFlags := 74, nameIndex := 154, descriptorIndex := 155, attributes := #[] }, { accessFlags := 10, nameIndex := 217, descriptorIndex := 218, attributes := #[] }, { accessFlags := 10, nameIndex := 221, descriptorIndex := 222, attributes := #[] }, { accessFlags := 8, nameIndex := 562, descriptorIndex := 563, attributes := #[] }])
  fields := #[{ name := "in", type := (.object "java/io/InputStream"), accessFlags := 25, slot := 0, constantValue := 0 }, { name := "out", type := (.object "java/io/PrintStream"), accessFlags := 25, slot := 1, constantValue := 0 }, { name := "err", type := (.object "java/io/PrintStream"), accessFlags := 25, slot := 2, constantValue := 0 }, { name := "initialIn", type := (.object "java/io/InputStream"), accessFlags := 10, slot := 3, constantValue := 0 }, { name := "NEVER", type := .int, accessFlags := 26, slot := 4, constantValue := 0 }, { name := "MAYBE", type := .int, accessFlags := 26, slot := 5, constantValue := 0 }, { name := "allowSecurityManager", type := .int, accessFlags := 10, slot := 6, constantValue := 0 }, { name := "security", type := (.object "java/lang/SecurityManager"), accessFlags := 74, slot := 7, constantValue := 0 }, { name := "notSupportedJnuEncoding", type := (.object "java/lang/String"), accessFlags := 10, slot := 8, constantValue := 0 }, { name := "cons", type := (.object "java/io/Console"), accessFlags := 74, slot := 9, constantValue := 0 }, { name := "initialErrStream", type := (.object "java/io/PrintStream"), accessFlags := 74, slot := 10, constantValue := 0 }, { name := "props", type := (.object "java/util/Properties"), accessFlags := 10, slot := 11, constantValue := 0 }, { name := "lineSeparator", type := (.object "java/lang/String"), accessFlags := 10, slot := 12, constantValue := 0 }, { name := "bootLayer", type := (.object "java/lang/ModuleLayer"), accessFlags := 8, slot := 13, constantValue := 0 }]
  methods := #[k29m0, k29m1]
  instanceTypes := #[]
  staticTypes := #[(.object "java/io/InputStream"), (.object "java/io/PrintStream"), (.object "java/io/PrintStream"), (.object "java/io/InputStream"), .int, .int, .int, (.object "java/lang/SecurityManager"), (.object "java/lang/String"), (.object "java/io/Console"), (.object "java/io/PrintStream"), (.object "java/util/Properties"), (.object "java/lang/String"), (.object "java/lang/ModuleLayer")]
  resolved := Array.replicate 834 none
  statics := none }

def pool30 : Array CpInfo := pool [(2, .class_ 4), (1, u "java/lang/Object"), (0, u "<init>"), (0, u "()V"), (35, .class_ 44), (1, u "java/util/Objects"), (0, u "requireNonNull"), (0, u "(Ljava/lang/Object;)Ljava/lang/Object;"), (58, .methodref 106 107), (0, .class_ 108), (0, .nameAndType 109 110), (0, u "jdk/internal/util/Preconditions"), (0, u "checkIndex"), (0, u "(IILjava/util/function/BiFunction;)I"), (60, u "(II)I")] 12

def k30m0 : Method := { name := "<init>", desc := "()V", sig := { parameters := [], returnType := none }, accessFlags := 2, code := none }
def k30c1 : Code := { maxStack := 2, maxLocals := 1, code := jdk_31_method_10_code, exceptionTable := #[], attributes := #[] }
def k30m1 : Method := { name := "requireNonNull", desc := "(Ljava/lang/Object;)Ljava/lang/Object;", sig := { parameters := [(.object "java/lang/Object")], returnType := some (.object "java/lang/Object") }, accessFlags := 9, code := some k30c1 }
def k30c2 : Code := { maxStack := 3, maxLocals := 2, code := jdk_31_method_17_code, exceptionTable := #[], attributes := #[] }
def k30m2 : Method := { name := "checkIndex", desc := "(II)I", sig := { parameters := [.int, .int], returnType := some .int }, accessFlags := 9, code := some k30c2 }
/-- java/util/Objects -/
def k30 : Class := { plain "java/util/Objects" (some 0) with
  accessFlags := 49
  interfaces := #[]
  cf := some (fileOf pool30 42 #[] #[{ accessFlags := 2, nameIndex := 5, descriptorIndex := 6, attributes := #[] }, { accessFlags := 9, nameIndex := 45, descriptorIndex := 46, attributes := #[] }, { accessFlags := 9, nameIndex := 109, descriptorIndex := 171, attributes := #[] }] 49 2 #[] #[])
  fields := #[]
  methods := #[k30m0, k30m1, k30m2]
  instanceTypes := #[]
  staticTypes := #[]
  resolved := Array.replicate 184 none
  statics := none }

def pool31 : Array CpInfo := pool [(2, .class_ 4), (1, u "java/util/Map"), (0, u "get"), (0, u "(Ljava/lang/Object;)Ljava/lang/Object;"), (29, .class_ 37), (0, u "java/util/Map$Entry"), (25, u "(Ljava/lang/Object;Ljava/lang/Object;)Ljava/lang/Object;"), (29, .class_ 94), (0, u "java/lang/Object"), (77, u "putIfAbsent")] 90

def k31m0 : Method := { name := "get", desc := "(Ljava/lang/Object;)Ljava/lang/Object;", sig := { parameters := [(.object "java/lang/Object")], returnType := some (.object "java/lang/Object") }, accessFlags := 1025, code := none }
def k31c1 : Code := { maxStack := 3, maxLocals := 4, code := ⟨#[0x2a, 0x2b, 0xb9, 0x00, 0x01, 0x02, 0x00, 0x4e, 0x2d, 0xc7, 0x00, 0x0c, 0x2a, 0x2b, 0x2c, 0xb9, 0x00, 0x43, 0x03, 0x00, 0x4e, 0x2d, 0xb0]⟩, exceptionTable := #[], attributes := #[] }
def k31m1 : Method := { name := "putIfAbsent", desc := "(Ljava/lang/Object;Ljava/lang/Object;)Ljava/lang/Object;", sig := { parameters := [(.object "java/lang/Object"), (.object "java/lang/Object")], returnType := some (.object "java/lang/Object") }, accessFlags := 1, code := some k31c1 }
/-- java/util/Map -/
def k31 : Class := { plain "java/util/Map" (some 0) with
  accessFlags := 1537
  interfaces := #[]
  cf := some (fileOf pool31 2 #[.nestMembers #[36]] #[{ accessFlags := 1025, nameIndex := 5, descriptorIndex := 6, attributes := #[] }, { accessFlags := 1, nameIndex := 172, descriptorIndex := 63, attributes := #[] }] 1537 93 #[] #[])
  fields := #[]
  methods := #[k31m0, k31m1]
  instanceTypes := #[]
  staticTypes := #[]
  resolved := Array.replicate 263 none
  statics := none }

def pool32 : Array CpInfo := pool [(1, .methodref 2 3), (0, .class_ 4), (0, .nameAndType 5 6), (0, u "java/lang/Object"), (0, u "<init>"), (0, u "()V"), (1, .class_ 10), (1, u "java/util/AbstractMap"), (42, .class_ 54), (0, u "java/util/Map"), (9, u "keySet"), (0, u "Ljava/util/Set;"), (0, .class_ 67), (0, u "java/util/AbstractMap$1"), (5, u "values"), (0, u "Ljava/util/Collection;"), (0, .class_ 76), (0, u "java/util/AbstractMap$2"), (104, .class_ 182), (0, u "java/util/AbstractMap$ViewCollection"), (0, .class_ 184), (0, u "java/util/AbstractMap$SimpleImmutableEntry"), (0, .class_ 186), (0, u "java/util/AbstractMap$SimpleEntry"), (0, .class_ 188), (0, u "java/util/AbstractMap$2$1"), (0, .class_ 190), (0, u "java/util/AbstractMap$1$1")] 5

def k32c0 : Code := { maxStack := 1, maxLocals := 1, code := jdk_71_method_1_code, exceptionTable := #[], attributes := #[] }
def k32m0 : Method := { name := "<init>", desc := "()V", sig := { parameters := [], returnType := none }, accessFlags := 4, code := some k32c0 }
/-- java/util/AbstractMap -/
def k32 : Class := { plain "java/util/AbstractMap" (some 0) with
  accessFlags := 1057
  interfaces := #[31]
  cf := some (fileOf pool32 8 #[.nestMembers #[181, 183, 185, 75, 187, 66, 189]] #[{ accessFlags := 4, nameIndex := 5, descriptorIndex := 6, attributes := #[] }] 1057 2 #[53] #[{ accessFlags := 128, nameIndex := 64, descriptorIndex := 65, attributes := #[] }, { accessFlags := 128, nameIndex := 73, descriptorIndex := 74, attributes := #[] }])
  fields := #[{ name := "keySet", type := (.object "java/util/Set"), accessFlags := 128, slot := 0, constantValue := 0 }, { name := "values", type := (.object "java/util/Collection"), accessFlags := 128, slot := 1, constantValue := 0 }]
  methods := #[k32m0]
  instanceTypes := #[(.object "java/util/Set"), (.object "java/util/Collection")]
  staticTypes := #[]
  resolved := Array.replicate 196 none
  statics := none }

def pool33 : Array CpInfo := pool [(1, .methodref 2 3), (0, .class_ 4), (0, .nameAndType 5 6), (0, u "java/lang/Object"), (0, u "hashCode"), (0, u "()I"), (26, u "(Ljava/lang/Object;)I"), (6, .class_ 41), (0, u "java/util/HashMap"), (1, .methodref 44 45), (0, .class_ 46), (0, .nameAndType 47 48), (0, u "java/util/AbstractMap"), (0, u "<init>"), (0, u "()V"), (32, .fieldref 40 82), (0, .nameAndType 83 84), (0, u "loadFactor"), (0, u "F"), (3, .fieldref 40 89), (0, .nameAndType 90 91), (0, u "threshold"), (0, u "I"), (0, .float 1061158912), (8, .class_ 103), (1, u "java/util/Map"), (0, u "size"), (0, .fieldref 40 106), (0, .nameAndType 107 108), (0, u "table"), (0, u "[Ljava/util/HashMap$Node;"), (8, .methodref 40 118), (0, .nameAndType 119 120), (0, u "resize"), (0, u "()[Ljava/util/HashMap$Node;"), (2, u "entrySet"), (25, .methodref 40 150), (0, .nameAndType 151 33), (0, u "hash"), (0, .methodref 40 153), (0, .nameAndType 154 155), (0, u "putVal"), (0, u "(ILjava/lang/Object;Ljava/lang/Object;ZZ)Ljava/lang/Object;"), (0, .fieldref 40 157), (0, .nameAndType 104 91), (0, .methodref 40 159), (0, .nameAndType 160 161), (0, u "getNode"), (0, u "(Ljava/lang/Object;)Ljava/util/HashMap$Node;"), (0, .fieldref 163 164), (0, .class_ 165), (0, .nameAndType 166 167), (0, u "java/util/HashMap$Node"), (0, u "value"), (0, u "Ljava/lang/Object;"), (0, .fieldref 163 169), (0, .nameAndType 151 91), (0, .fieldref 163 171), (0, .nameAndType 172 167), (0, u "key"), (7, .class_ 181), (0, u "java/util/HashMap$TreeNode"), (4, .methodref 40 187), (0, .nameAndType 188 189), (0, u "newNode"), (0, u "(ILjava/lang/Object;Ljava/lang/Object;Ljava/util/HashMap$Node;)Ljava/util/HashMap$Node;"), (12, .fieldref 40 203), (0, .nameAndType 204 91), (0, u "modCount"), (0, .methodref 40 206), (0, .nameAndType 207 208), (0, u "afterNodeInsertion"), (0, u "(Z)V"), (33, u "Ljava/util/Set;"), (0, .class_ 244), (0, u "java/util/HashMap$KeySet"), (18, .class_ 264), (0, u "java/util/HashMap$Values"), (3, .class_ 269), (0, u "java/util/HashMap$EntrySet"), (9, u "(Ljava/lang/Object;)Ljava/lang/Object;"), (7, u "(Ljava/lang/Object;Ljava/lang/Object;)Ljava/lang/Object;"), (46, u "get"), (11, .class_ 348), (1, u "java/util/HashMap$UnsafeHolder"), (26, .methodref 163 376), (0, .nameAndType 47 377), (0, u "(ILjava/lang/Object;Ljava/lang/Object;Ljava/util/HashMap$Node;)V"), (14, .class_ 393), (0, u "java/lang/Cloneable"), (0, .class_ 395), (0, u "java/io/Serializable"), (0, u "serialVersionUID"), (0, u "J"), (3, u "DEFAULT_INITIAL_CAPACITY"), (1, u "MAXIMUM_CAPACITY"), (0, u "DEFAULT_LOAD_FACTOR"), (0, u "TREEIFY_THRESHOLD"), (1, u "UNTREEIFY_THRESHOLD"), (1, u "MIN_TREEIFY_CAPACITY"), (60, u "put"), (56, u "putIfAbsent"), (68, .class_ 597), (0, u "java/util/HashMap$EntrySpliterator"), (0, .class_ 599), (0, u "java/util/HashMap$ValueSpliterator"), (0, .class_ 601), (0, u "java/util/HashMap$KeySpliterator"), (0, .class_ 603), (0, u "java/util/HashMap$HashMapSpliterator"), (0, .class_ 605), (0, u "java/util/HashMap$EntryIterator"), (0, .class_ 607), (0, u "java/util/HashMap$ValueIterator"), (0, .class_ 609), (0, u "java/util/HashMap$KeyIterator"), (0, .class_ 611), (0, u "java/util/HashMap$HashIterator")] 17

def k33c0 : Code := { maxStack := 3, maxLocals := 2, code := jdk_69_method_1_code, exceptionTable := #[], attributes := #[] }
def k33m0 : Method := { name := "hash", desc := "(Ljava/lang/Object;)I", sig := { parameters := [(.object "java/lang/Object")], returnType := some .int }, accessFlags := 24, code := some k33c0 }
def k33c1 : Code := { maxStack := 2, maxLocals := 1, code := jdk_69_method_7_code, exceptionTable := #[], attributes := #[] }
def k33m1 : Method := { name := "<init>", desc := "()V", sig := { parameters := [], returnType := none }, accessFlags := 1, code := some k33c1 }
def k33c2 : Code := { maxStack := 2, maxLocals := 3, code := jdk_69_method_12_code, exceptionTable := #[], attributes := #[] }
def k33m2 : Method := { name := "get", desc := "(Ljava/lang/Object;)Ljava/lang/Object;", sig := { parameters := [(.object "java/lang/Object")], returnType := some (.object "java/lang/Object") }, accessFlags := 1, code := some k33c2 }
def k33c3 : Code := { maxStack := 4, maxLocals := 8, code := jdk_69_method_13_code, exceptionTable := #[], attributes := #[] }
def k33m3 : Method := { name := "getNode", desc := "(Ljava/lang/Object;)Ljava/util/HashMap$Node;", sig := { parameters := [(.object "java/lang/Object")], returnType := some (.object "java/util/HashMap$Node") }, accessFlags := 16, code := some k33c3 }
def k33c4 : Code := { maxStack := 6, maxLocals := 3, code := jdk_69_method_15_code, exceptionTable := #[], attributes := #[] }
def k33m4 : Method := { name := "put", desc := "(Ljava/lang/Object;Ljava/lang/Object;)Ljava/lang/Object;", sig := { parameters := [(.object "java/lang/Object"), (.object "java/lang/Object")], returnType := some (.object "java/lang/Object") }, accessFlags := 1, code := some k33c4 }
def k33c5 : Code := { maxStack := 7, maxLocals := 13, code := jdk_69_method_16_code, exceptionTable := #[], attributes := #[] }
def k33m5 : Method := { name := "putVal", desc := "(ILjava/lang/Object;Ljava/lang/Object;ZZ)Ljava/lang/Object;", sig := { parameters := [.int, (.object "java/lang/Object"), (.object "java/lang/Object"), .boolean, .boolean], returnType := some (.object "java/lang/Object") }, accessFlags := 16, code := some k33c5 }
def k33c6 : Code := { maxStack := 5, maxLocals := 14, code := jdk_69_method_17_code, exceptionTable := #[], attributes := #[] }
def k33m6 : Method := { name := "resize", desc := "()[Ljava/util/HashMap$Node;", sig := { parameters := [], returnType := some (.array (.object "java/util/HashMap$Node")) }, accessFlags := 16, code := some k33c6 }
def k33c7 : Code := { maxStack := 6, maxLocals := 3, code := jdk_69_method_31_code, exceptionTable := #[], attributes := #[] }
def k33m7 : Method := { name := "putIfAbsent", desc := "(Ljava/lang/Object;Ljava/lang/Object;)Ljava/lang/Object;", sig := { parameters := [(.object "java/lang/Object"), (.object "java/lang/Object")], returnType := some (.object "java/lang/Object") }, accessFlags := 1, code := some k33c7 }
def k33c8 : Code := { maxStack := 6, maxLocals := 5, code := jdk_69_method_46_code, exceptionTable := #[], attributes := #[] }
def k33m8 : Method := { name := "newNode", desc := "(ILjava/lang/Object;Ljava/lang/Object;Ljava/util/HashMap$Node;)Ljava/util/HashMap$Node;", sig := { parameters := [.int, (.object "java/lang/Object"), (.object "java/lang/Object"), (.object "java/util/HashMap$Node")], returnType := some (.object "java/util/HashMap$Node") }, accessFlags := 0, code := some k33c8 }
def k33c9 : Code := { maxStack := 0, maxLocals := 2, code := jdk_69_method_52_code, exceptionTable := #[], attributes := #[] }
def k33m9 : Method := { name := "afterNodeInsertion", desc := "(Z)V", sig := { parameters := [.boolean], returnType := none }, accessFlags := 0, code := some k33c9 }
/-- java/util/HashMap -/
def k33 : Class := { plain "java/util/HashMap" (some 32) with
  accessFlags := 33
  interfaces := #[31, 18, 4]
  cf := some (fileOf pool33 40 #[.nestMembers #[180, 596, 598, 600, 602, 604, 606, 608, 610, 346, 268, 263, 243, 163]] #[{ accessFlags := 24, nameIndex := 151, descriptorIndex := 33, attributes := #[] }, { accessFlags := 1, nameIndex := 47, descriptorIndex := 48, attributes := #[] }, { accessFlags := 1, nameIndex := 334, descriptorIndex := 279, attributes := #[] }, { accessFlags := 16, nameIndex := 160, descriptorIndex := 161, attributes := #[] }, { accessFlags := 1, nameIndex := 470, descriptorIndex := 287, attributes := #[] }, { accessFlags := 16, nameIndex := 154, descriptorIndex := 155, attributes := #[] }, { accessFlags := 16, nameIndex := 119, descriptorIndex := 120, attributes := #[] }, { accessFlags := 1, nameIndex := 527, descriptorIndex := 287, attributes := #[] }, { accessFlags := 0, nameIndex := 188, descriptorIndex := 189, attributes := #[] }, { accessFlags := 0, nameIndex := 207, descriptorIndex := 208, attributes := #[] }] 33 44 #[101, 392, 394] #[{ accessFlags := 26, nameIndex := 396, descriptorIndex := 397, attributes := #[] }, { accessFlags := 24, nameIndex := 401, descriptorIndex := 91, attributes := #[] }, { accessFlags := 24, nameIndex := 403, descriptorIndex := 91, attributes := #[] }, { accessFlags := 24, nameIndex := 404, descriptorIndex := 84, attributes := #[] }, { accessFlags := 24, nameIndex := 405, descriptorIndex := 91, attributes := #[] }, { accessFlags := 24, nameIndex := 407, descriptorIndex := 91, attributes := #[] }, { accessFlags := 24, nameIndex := 409, descriptorIndex := 91, attributes := #[] }, { accessFlags := 128, nameIndex := 107, descriptorIndex := 108, attributes := #[] }, { accessFlags := 128, nameIndex := 123, descriptorIndex := 242, attributes := #[] }, { accessFlags := 128, nameIndex := 104, descriptorIndex := 91, attributes := #[] }, { accessFlags := 128, nameIndex := 204, descriptorIndex := 91, attributes := #[] }, { accessFlags := 0, nameIndex := 90, descriptorIndex := 91, attributes := #[] }, { accessFlags := 16, nameIndex := 83, descriptorIndex := 84, attributes := #[] }])
  fields := #[{ name := "serialVersionUID", type := .long, accessFlags := 26, slot := 0, constantValue := 0 }, { name := "DEFAULT_INITIAL_CAPACITY", type := .int, accessFlags := 24, slot := 1, constantValue := 0 }, { name := "MAXIMUM_CAPACITY", type := .int, accessFlags := 24, slot := 2, constantValue := 0 }, { name := "DEFAULT_LOAD_FACTOR", type := .float, accessFlags := 24, slot := 3, constantValue := 0 }, { name := "TREEIFY_THRESHOLD", type := .int, accessFlags := 24, slot := 4, constantValue := 0 }, { name := "UNTREEIFY_THRESHOLD", type := .int, accessFlags := 24, slot := 5, constantValue := 0 }, { name := "MIN_TREEIFY_CAPACITY", type := .int, accessFlags := 24, slot := 6, constantValue := 0 }, { name := "table", type := (.array (.object "java/util/HashMap$Node")), accessFlags := 128, slot := 2, constantValue := 0 }, { name := "entrySet", type := (.object "java/util/Set"), accessFlags := 128, slot := 3, constantValue := 0 }, { name := "size", type := .int, accessFlags := 128, slot := 4, constantValue := 0 }, { name := "modCount", type := .int, accessFlags := 128, slot := 5, constantValue := 0 }, { name := "threshold", type := .int, accessFlags := 0, slot := 6, constantValue := 0 }, { name := "loadFactor", type := .float, accessFlags := 16, slot := 7, constantValue := 0 }]
  methods := #[k33m0, k33m1, k33m2, k33m3, k33m4, k33m5, k33m6, k33m7, k33m8, k33m9]
  instanceTypes := #[(.object "java/util/Set"), (.object "java/util/Collection"), (.array (.object "java/util/HashMap$Node")), (.object "java/util/Set"), .int, .int, .int, .float]
  staticTypes := #[.long, .int, .int, .float, .int, .int, .int]
  resolved := Array.replicate 629 none
  statics := none }

def pool34 : Array CpInfo := pool [(2, .class_ 4), (1, u "java/lang/Object"), (0, u "<init>"), (0, u "()V"), (1, .class_ 10), (1, u "java/lang/Number"), (2, .class_ 14), (0, u "java/io/Serializable"), (0, u "serialVersionUID"), (0, u "J")] 20

def k34m0 : Method := { name := "<init>", desc := "()V", sig := { parameters := [], returnType := none }, accessFlags := 1, code := none }
/-- java/lang/Number -/
def k34 : Class := { plain "java/lang/Number" (some 0) with
  accessFlags := 1057
  interfaces := #[4]
  cf := some (fileOf pool34 8 #[] #[{ accessFlags := 1, nameIndex := 5, descriptorIndex := 6, attributes := #[] }] 1057 2 #[13] #[{ accessFlags := 26, nameIndex := 15, descriptorIndex := 16, attributes := #[] }])
  fields := #[{ name := "serialVersionUID", type := .long, accessFlags := 26, slot := 0, constantValue := 0 }]
  methods := #[k34m0]
  instanceTypes := #[]
  staticTypes := #[.long]
  resolved := Array.replicate 37 none
  statics := none }

def pool35 : Array CpInfo := pool [(1, .class_ 2), (0, u "java/lang/Integer"), (16, u "digits"), (0, u "[C"), (64, u "DigitOnes"), (0, u "[B"), (2, u "DigitTens"), (31, u "()I"), (65, u "valueOf"), (0, u "(I)Ljava/lang/Integer;"), (0, .class_ 190), (0, u "java/lang/Integer$IntegerCache"), (0, .fieldref 189 192), (0, .nameAndType 193 194), (0, u "high"), (0, u "I"), (0, .fieldref 189 196), (0, .nameAndType 197 198), (0, u "cache"), (0, u "[Ljava/lang/Integer;"), (4, .class_ 204), (0, u "java/lang/Number"), (0, .fieldref 1 206), (0, .nameAndType 207 194), (0, u "value"), (5, u "intValue"), (88, u "TYPE"), (0, u "Ljava/lang/Class;"), (0, .class_ 305), (0, u "java/lang/Comparable"), (0, .class_ 307), (0, u "java/lang/constant/Constable"), (0, .class_ 309), (0, u "java/lang/constant/ConstantDesc"), (0, u "MIN_VALUE"), (1, u "MAX_VALUE"), (3, u "SIZE"), (1, u "BYTES"), (1, u "serialVersionUID"), (0, u "J")] 131

def k35c0 : Code := { maxStack := 3, maxLocals := 1, code := jdk_33_method_22_code, exceptionTable := #[], attributes := #[] }
def k35m0 : Method := { name := "valueOf", desc := "(I)Ljava/lang/Integer;", sig := { parameters := [.int], returnType := some (.object "java/lang/Integer") }, accessFlags := 9, code := some k35c0 }
def k35c1 : Code := { maxStack := 1, maxLocals := 1, code := jdk_33_method_27_code, exceptionTable := #[], attributes := #[] }
def k35m1 : Method := { name := "intValue", desc := "()I", sig := { parameters := [], returnType := some .int }, accessFlags := 1, code := some k35c1 }
/-- java/lang/Integer -/
def k35 : Class := { plain "java/lang/Integer" (some 34) with
  accessFlags := 49
  interfaces := #[5, 7, 8]
  cf := some (fileOf pool35 1 #[.nestMembers #[189]] #[{ accessFlags := 9, nameIndex := 187, descriptorIndex := 188, attributes := #[] }, { accessFlags := 1, nameIndex := 213, descriptorIndex := 121, attributes := #[] }] 49 203 #[304, 306, 308] #[{ accessFlags := 25, nameIndex := 310, descriptorIndex := 194, attributes := #[] }, { accessFlags := 25, nameIndex := 312, descriptorIndex := 194, attributes := #[] }, { accessFlags := 25, nameIndex := 302, descriptorIndex := 303, attributes := #[] }, { accessFlags := 24, nameIndex := 19, descriptorIndex := 20, attributes := #[] }, { accessFlags := 24, nameIndex := 89, descriptorIndex := 86, attributes := #[] }, { accessFlags := 24, nameIndex := 85, descriptorIndex := 86, attributes := #[] }, { accessFlags := 18, nameIndex := 207, descriptorIndex := 194, attributes := #[] }, { accessFlags := 25, nameIndex := 316, descriptorIndex := 194, attributes := #[] }, { accessFlags := 25, nameIndex := 318, descriptorIndex := 194, attributes := #[] }, { accessFlags := 26, nameIndex := 320, descriptorIndex := 321, attributes := #[] }])
  fields := #[{ name := "MIN_VALUE", type := .int, accessFlags := 25, slot := 0, constantValue := 0 }, { name := "MAX_VALUE", type := .int, accessFlags := 25, slot := 1, constantValue := 0 }, { name := "TYPE", type := (.object "java/lang/Class"), accessFlags := 25, slot := 2, constantValue := 0 }, { name := "digits", type := (.array .char), accessFlags := 24, slot := 3, constantValue := 0 }, { name := "DigitTens", type := (.array .byte), accessFlags := 24, slot := 4, constantValue := 0 }, { name := "DigitOnes", type := (.array .byte), accessFlags := 24, slot := 5, constantValue := 0 }, { name := "value", type := .int, accessFlags := 18, slot := 0, constantValue := 0 }, { name := "SIZE", type := .int, accessFlags := 25, slot := 6, constantValue := 0 }, { name := "BYTES", type := .int, accessFlags := 25, slot := 7, constantValue := 0 }, { name := "serialVersionUID", type := .long, accessFlags := 26, slot := 8, constantValue := 0 }]
  methods := #[k35m0, k35m1]
  instanceTypes := #[.int]
  staticTypes := #[.int, .int, (.object "java/lang/Class"), (.array .char), (.array .byte), (.array .byte), .int, .int, .long]
  resolved := Array.replicate 453 none
  statics := none }

def pool36 : Array CpInfo := pool [(2, .class_ 4), (1, u "java/lang/Object"), (0, u "<init>"), (0, u "()V"), (0, .class_ 8), (0, u "java/lang/Integer"), (7, .class_ 18), (1, u "java/lang/Integer$IntegerCache"), (0, u "$assertionsDisabled"), (0, u "Z"), (26, u "high"), (0, u "I"), (8, u "archivedCache"), (0, u "[Ljava/lang/Integer;"), (12, u "cache"), (0, u "low")] 27

def k36m0 : Method := { name := "<init>", desc := "()V", sig := { parameters := [], returnType := none }, accessFlags := 2, code := none }
/-- java/lang/Integer$IntegerCache -/
def k36 : Class := { plain "java/lang/Integer$IntegerCache" (some 0) with
  accessFlags := 48
  interfaces := #[]
  cf := some (fileOf pool36 16 #[.nestHost 7] #[{ accessFlags := 2, nameIndex := 5, descriptorIndex := 6, attributes := #[] }] 48 2 #[] #[{ accessFlags := 24, nameIndex := 72, descriptorIndex := 48, attributes := #[] }, { accessFlags := 24, nameIndex := 47, descriptorIndex := 48, attributes := #[] }, { accessFlags := 24, nameIndex := 71, descriptorIndex := 58, attributes := #[] }, { accessFlags := 8, nameIndex := 57, descriptorIndex := 58, attributes := #[] }, { accessFlags := 4120, nameIndex := 19, descriptorIndex := 20, attributes := #[] }])
  fields := #[{ name := "low", type := .int, accessFlags := 24, slot := 0, constantValue := 0 }, { name := "high", type := .int, accessFlags := 24, slot := 1, constantValue := 0 }, { name := "cache", type := (.array (.object "java/lang/Integer")), accessFlags := 24, slot := 2, constantValue := 0 }, { name := "archivedCache", type := (.array (.object "java/lang/Integer")), accessFlags := 8, slot := 3, constantValue := 0 }, { name := "$assertionsDisabled", type := .boolean, accessFlags := 4120, slot := 4, constantValue := 0 }]
  methods := #[k36m0]
  instanceTypes := #[]
  staticTypes := #[.int, .int, (.array (.object "java/lang/Integer")), (.array (.object "java/lang/Integer")), .boolean]
  resolved := Array.replicate 100 none
  statics := some 3 }

def pool37 : Array CpInfo := pool [(23, .class_ 25), (1, u "java/util/Map$Entry"), (6, .class_ 34), (1, u "java/util/Map"), (34, .class_ 70), (0, u "java/lang/Object")] 107

/-- java/util/Map$Entry -/
def k37 : Class := { plain "java/util/Map$Entry" (some 0) with
  accessFlags := 1537
  interfaces := #[]
  cf := some (fileOf pool37 23 #[.nestHost 32] #[] 1537 69 #[] #[])
  fields := #[]
  methods := #[]
  instanceTypes := #[]
  staticTypes := #[]
  resolved := Array.replicate 178 none
  statics := none }

def pool38 : Array CpInfo := pool [(1, .methodref 2 3), (0, .class_ 4), (0, .nameAndType 5 6), (0, u "java/lang/Object"), (0, u "<init>"), (0, u "()V"), (0, .fieldref 8 9), (0, .class_ 10), (0, .nameAndType 11 12), (0, u "java/util/HashMap$Node"), (0, u "hash"), (0, u "I"), (0, .fieldref 8 14), (0, .nameAndType 15 16), (0, u "key"), (0, u "Ljava/lang/Object;"), (0, .fieldref 8 18), (0, .nameAndType 19 16), (0, u "value"), (0, .fieldref 8 21), (0, .nameAndType 22 23), (0, u "next"), (0, u "Ljava/util/HashMap$Node;"), (22, .class_ 47), (0, u "java/util/Map$Entry"), (15, u "(ILjava/lang/Object;Ljava/lang/Object;Ljava/util/HashMap$Node;)V"), (24, .class_ 89), (0, u "java/util/HashMap")] 5

def k38c0 : Code := { maxStack := 2, maxLocals := 5, code := jdk_70_method_1_code, exceptionTable := #[], attributes := #[] }
def k38m0 : Method := { name := "<init>", desc := "(ILjava/lang/Object;Ljava/lang/Object;Ljava/util/HashMap$Node;)V", sig := { parameters := [.int, (.object "java/lang/Object"), (.object "java/lang/Object"), (.object "java/util/HashMap$Node")], returnType := none }, accessFlags := 0, code := some k38c0 }
/-- java/util/HashMap$Node -/
def k38 : Class := { plain "java/util/HashMap$Node" (some 0) with
  accessFlags := 32
  interfaces := #[37]
  cf := some (fileOf pool38 8 #[.nestHost 88] #[{ accessFlags := 0, nameIndex := 5, descriptorIndex := 63, attributes := #[] }] 32 2 #[46] #[{ accessFlags := 16, nameIndex := 11, descriptorIndex := 12, attributes := #[] }, { accessFlags := 16, nameIndex := 15, descriptorIndex := 16, attributes := #[] }, { accessFlags := 0, nameIndex := 19, descriptorIndex := 16, attributes := #[] }, { accessFlags := 0, nameIndex := 22, descriptorIndex := 23, attributes := #[] }])
  fields := #[{ name := "hash", type := .int, accessFlags := 16, slot := 0, constantValue := 0 }, { name := "key", type := (.object "java/lang/Object"), accessFlags := 16, slot := 1, constantValue := 0 }, { name := "value", type := (.object "java/lang/Object"), accessFlags := 0, slot := 2, constantValue := 0 }, { name := "next", type := (.object "java/util/HashMap$Node"), accessFlags := 0, slot := 3, constantValue := 0 }]
  methods := #[k38m0]
  instanceTypes := #[.int, (.object "java/lang/Object"), (.object "java/lang/Object"), (.object "java/util/HashMap$Node")]
  staticTypes := #[]
  resolved := Array.replicate 95 none
  statics := none }

def pool39 : Array CpInfo := pool [(26, .class_ 27), (0, u "java/lang/Object"), (5, .class_ 34), (0, u "java/util/Set"), (1, .class_ 38), (1, u "java/util/Collection"), (21, u "(Ljava/lang/Object;)Z"), (6, u "add")] 76

def k39m0 : Method := { name := "add", desc := "(Ljava/lang/Object;)Z", sig := { parameters := [(.object "java/lang/Object")], returnType := some .boolean }, accessFlags := 1025, code := none }
/-- java/util/Set -/
def k39 : Class := { plain "java/util/Set" (some 0) with
  accessFlags := 1537
  interfaces := #[12]
  cf := some (fileOf pool39 33 #[] #[{ accessFlags := 1025, nameIndex := 67, descriptorIndex := 60, attributes := #[] }] 1537 26 #[36] #[])
  fields := #[]
  methods := #[k39m0]
  instanceTypes := #[]
  staticTypes := #[]
  resolved := Array.replicate 144 none
  statics := none }

def pool40 : Array CpInfo := pool [(1, .methodref 2 3), (0, .class_ 4), (0, .nameAndType 5 6), (0, u "java/util/AbstractCollection"), (0, u "<init>"), (0, u "()V"), (0, .class_ 8), (0, u "java/util/Set"), (7, .class_ 17), (0, u "java/util/AbstractSet")] 78

def k40c0 : Code := { maxStack := 1, maxLocals := 1, code := jdk_91_method_1_code, exceptionTable := #[], attributes := #[] }
def k40m0 : Method := { name := "<init>", desc := "()V", sig := { parameters := [], returnType := none }, accessFlags := 4, code := some k40c0 }
/-- java/util/AbstractSet -/
def k40 : Class := { plain "java/util/AbstractSet" (some 13) with
  accessFlags := 1057
  interfaces := #[39]
  cf := some (fileOf pool40 16 #[] #[{ accessFlags := 4, nameIndex := 5, descriptorIndex := 6, attributes := #[] }] 1057 2 #[7] #[])
  fields := #[]
  methods := #[k40m0]
  instanceTypes := #[]
  staticTypes := #[]
  resolved := Array.replicate 96 none
  statics := none }

def pool41 : Array CpInfo := pool [(1, .methodref 2 3), (0, .class_ 4), (0, .nameAndType 5 6), (0, u "java/util/AbstractSet"), (0, u "<init>"), (0, u "()V"), (0, .class_ 8), (0, u "java/util/HashMap"), (0, .methodref 7 3), (0, .fieldref 11 12), (0, .class_ 13), (0, .nameAndType 14 15), (0, u "java/util/HashSet"), (0, u "map"), (0, u "Ljava/util/HashMap;"), (34, .class_ 52), (1, u "java/util/Set"), (10, u "(Ljava/lang/Object;)Z"), (0, .fieldref 11 65), (0, .nameAndType 66 67), (0, u "PRESENT"), (0, u "Ljava/lang/Object;"), (0, .methodref 7 69), (0, .nameAndType 70 71), (0, u "put"), (0, u "(Ljava/lang/Object;Ljava/lang/Object;)Ljava/lang/Object;"), (154, .class_ 227), (0, u "java/lang/Cloneable"), (0, .class_ 229), (0, u "java/io/Serializable"), (0, u "serialVersionUID"), (0, u "J"), (26, u "add")] 44

def k41c0 : Code := { maxStack := 3, maxLocals := 1, code := jdk_93_method_1_code, exceptionTable := #[], attributes := #[] }
def k41m0 : Method := { name := "<init>", desc := "()V", sig := { parameters := [], returnType := none }, accessFlags := 1, code := some k41c0 }
def k41c1 : Code := { maxStack := 3, maxLocals := 2, code := jdk_93_method_10_code, exceptionTable := #[], attributes := #[] }
def k41m1 : Method := { name := "add", desc := "(Ljava/lang/Object;)Z", sig := { parameters := [(.object "java/lang/Object")], returnType := some .boolean }, accessFlags := 1, code := some k41c1 }
/-- java/util/HashSet -/
def k41 : Class := { plain "java/util/HashSet" (some 40) with
  accessFlags := 33
  interfaces := #[39, 18, 4]
  cf := some (fileOf pool41 11 #[] #[{ accessFlags := 1, nameIndex := 5, descriptorIndex := 6, attributes := #[] }, { accessFlags := 1, nameIndex := 258, descriptorIndex := 63, attributes := #[] }] 33 2 #[50, 226, 228] #[{ accessFlags := 24, nameIndex := 230, descriptorIndex := 231, attributes := #[] }, { accessFlags := 128, nameIndex := 14, descriptorIndex := 15, attributes := #[] }, { accessFlags := 24, nameIndex := 66, descriptorIndex := 67, attributes := #[] }])
  fields := #[{ name := "serialVersionUID", type := .long, accessFlags := 24, slot := 0, constantValue := 0 }, { name := "map", type := (.object "java/util/HashMap"), accessFlags := 128, slot := 0, constantValue := 0 }, { name := "PRESENT", type := (.object "java/lang/Object"), accessFlags := 24, slot := 1, constantValue := 0 }]
  methods := #[k41m0, k41m1]
  instanceTypes := #[(.object "java/util/HashMap")]
  staticTypes := #[.long, (.object "java/lang/Object")]
  resolved := Array.replicate 303 none
  statics := some 4 }

def pool42 : Array CpInfo := pool [(2, .class_ 4), (1, u "java/lang/Object"), (0, u "<init>"), (0, u "()V"), (17, .class_ 26), (1, u "jdk/internal/util/Preconditions"), (6, u "checkIndex"), (21, .class_ 56), (0, u "jdk/internal/util/Preconditions$4"), (57, .class_ 115), (0, u "jdk/internal/util/Preconditions$1"), (7, u "SIOOBE_FORMATTER"), (0, u "Ljava/util/function/BiFunction;"), (0, .class_ 126), (0, u "jdk/internal/util/Preconditions$2"), (3, u "AIOOBE_FORMATTER"), (0, .class_ 132), (0, u "jdk/internal/util/Preconditions$3"), (3, u "IOOBE_FORMATTER"), (41, u "(IILjava/util/function/BiFunction;)I")] 15

def k42m0 : Method := { name := "<init>", desc := "()V", sig := { parameters := [], returnType := none }, accessFlags := 1, code := none }
def k42c1 : Code := { maxStack := 3, maxLocals := 3, code := jdk_41_method_11_code, exceptionTable := #[], attributes := #[] }
def k42m1 : Method := { name := "checkIndex", desc := "(IILjava/util/function/BiFunction;)I", sig := { parameters := [.int, .int, (.object "java/util/function/BiFunction")], returnType := some .int }, accessFlags := 9, code := some k42c1 }
/-- jdk/internal/util/Preconditions -/
def k42 : Class := { plain "jdk/internal/util/Preconditions" (some 0) with
  accessFlags := 33
  interfaces := #[]
  cf := some (fileOf pool42 24 #[.nestMembers #[55, 131, 125, 114]] #[{ accessFlags := 1, nameIndex := 5, descriptorIndex := 6, attributes := #[] }, { accessFlags := 9, nameIndex := 33, descriptorIndex := 178, attributes := #[] }] 33 2 #[] #[{ accessFlags := 25, nameIndex := 123, descriptorIndex := 124, attributes := #[] }, { accessFlags := 25, nameIndex := 130, descriptorIndex := 124, attributes := #[] }, { accessFlags := 25, nameIndex := 136, descriptorIndex := 124, attributes := #[] }])
  fields := #[{ name := "SIOOBE_FORMATTER", type := (.object "java/util/function/BiFunction"), accessFlags := 25, slot := 0, constantValue := 0 }, { name := "AIOOBE_FORMATTER", type := (.object "java/util/function/BiFunction"), accessFlags := 25, slot := 1, constantValue := 0 }, { name := "IOOBE_FORMATTER", type := (.object "java/util/function/BiFunction"), accessFlags := 25, slot := 2, constantValue := 0 }]
  methods := #[k42m0, k42m1]
  instanceTypes := #[]
  staticTypes := #[(.object "java/util/function/BiFunction"), (.object "java/util/function/BiFunction"), (.object "java/util/function/BiFunction")]
  resolved := Array.replicate 194 none
  statics := some 5 }

def pool43 : Array CpInfo := pool [(9, u "<init>"), (6, .class_ 18), (1, u "java/lang/Object"), (0, u "()V"), (1, .class_ 23), (1, u "jdk/internal/util/ArraysSupport"), (0, u "LOG2_ARRAY_LONG_INDEX_SCALE"), (0, u "I"), (2, u "U"), (0, u "Ljdk/internal/misc/Unsafe;"), (8, u "BIG_ENDIAN"), (0, u "Z"), (8, u "LOG2_BYTE_BIT_SIZE"), (4, u "LOG2_ARRAY_INT_INDEX_SCALE"), (54, u "JLA"), (0, u "Ljdk/internal/access/JavaLangAccess;"), (11, u "LOG2_ARRAY_BOOLEAN_INDEX_SCALE"), (9, u "LOG2_ARRAY_BYTE_INDEX_SCALE"), (5, u "LOG2_ARRAY_CHAR_INDEX_SCALE"), (5, u "LOG2_ARRAY_SHORT_INDEX_SCALE"), (18, u "LOG2_ARRAY_FLOAT_INDEX_SCALE"), (24, u "LOG2_ARRAY_DOUBLE_INDEX_SCALE"), (89, u "T_BOOLEAN"), (2, u "T_CHAR"), (1, u "T_FLOAT"), (1, u "T_DOUBLE"), (1, u "T_BYTE"), (1, u "T_SHORT"), (1, u "T_INT"), (1, u "T_LONG"), (1, u "SOFT_MAX_ARRAY_LENGTH")] 83

def k43m0 : Method := { name := "<init>", desc := "()V", sig := { parameters := [], returnType := none }, accessFlags := 2, code := none }
/-- jdk/internal/util/ArraysSupport -/
def k43 : Class := { plain "jdk/internal/util/ArraysSupport" (some 0) with
  accessFlags := 33
  interfaces := #[]
  cf := some (fileOf pool43 21 #[] #[{ accessFlags := 2, nameIndex := 9, descriptorIndex := 19, attributes := #[] }] 33 16 #[] #[{ accessFlags := 24, nameIndex := 28, descriptorIndex := 29, attributes := #[] }, { accessFlags := 26, nameIndex := 38, descriptorIndex := 39, attributes := #[] }, { accessFlags := 25, nameIndex := 121, descriptorIndex := 25, attributes := #[] }, { accessFlags := 25, nameIndex := 131, descriptorIndex := 25, attributes := #[] }, { accessFlags := 25, nameIndex := 137, descriptorIndex := 25, attributes := #[] }, { accessFlags := 25, nameIndex := 143, descriptorIndex := 25, attributes := #[] }, { accessFlags := 25, nameIndex := 53, descriptorIndex := 25, attributes := #[] }, { accessFlags := 25, nameIndex := 24, descriptorIndex := 25, attributes := #[] }, { accessFlags := 25, nameIndex := 162, descriptorIndex := 25, attributes := #[] }, { accessFlags := 25, nameIndex := 187, descriptorIndex := 25, attributes := #[] }, { accessFlags := 26, nameIndex := 48, descriptorIndex := 25, attributes := #[] }, { accessFlags := 25, nameIndex := 277, descriptorIndex := 25, attributes := #[] }, { accessFlags := 25, nameIndex := 280, descriptorIndex := 25, attributes := #[] }, { accessFlags := 25, nameIndex := 282, descriptorIndex := 25, attributes := #[] }, { accessFlags := 25, nameIndex := 284, descriptorIndex := 25, attributes := #[] }, { accessFlags := 25, nameIndex := 286, descriptorIndex := 25, attributes := #[] }, { accessFlags := 25, nameIndex := 288, descriptorIndex := 25, attributes := #[] }, { accessFlags := 25, nameIndex := 290, descriptorIndex := 25, attributes := #[] }, { accessFlags := 25, nameIndex := 292, descriptorIndex := 25, attributes := #[] }, { accessFlags := 26, nameIndex := 108, descriptorIndex := 109, attributes := #[] }, { accessFlags := 25, nameIndex := 294, descriptorIndex := 25, attributes := #[] }])
  fields := #[{ name := "U", type := (.object "jdk/internal/misc/Unsafe"), accessFlags := 24, slot := 0, constantValue := 0 }, { name := "BIG_ENDIAN", type := .boolean, accessFlags := 26, slot := 1, constantValue := 0 }, { name := "LOG2_ARRAY_BOOLEAN_INDEX_SCALE", type := .int, accessFlags := 25, slot := 2, constantValue := 0 }, { name := "LOG2_ARRAY_BYTE_INDEX_SCALE", type := .int, accessFlags := 25, slot := 3, constantValue := 0 }, { name := "LOG2_ARRAY_CHAR_INDEX_SCALE", type := .int, accessFlags := 25, slot := 4, constantValue := 0 }, { name := "LOG2_ARRAY_SHORT_INDEX_SCALE", type := .int, accessFlags := 25, slot := 5, constantValue := 0 }, { name := "LOG2_ARRAY_INT_INDEX_SCALE", type := .int, accessFlags := 25, slot := 6, constantValue := 0 }, { name := "LOG2_ARRAY_LONG_INDEX_SCALE", type := .int, accessFlags := 25, slot := 7, constantValue := 0 }, { name := "LOG2_ARRAY_FLOAT_INDEX_SCALE", type := .int, accessFlags := 25, slot := 8, constantValue := 0 }, { name := "LOG2_ARRAY_DOUBLE_INDEX_SCALE", type := .int, accessFlags := 25, slot := 9, constantValue := 0 }, { name := "LOG2_BYTE_BIT_SIZE", type := .int, accessFlags := 26, slot := 10, constantValue := 0 }, { name := "T_BOOLEAN", type := .int, accessFlags := 25, slot := 11, constantValue := 0 }, { name := "T_CHAR", type := .int, accessFlags := 25, slot := 12, constantValue := 0 }, { name := "T_FLOAT", type := .int, accessFlags := 25, slot := 13, constantValue := 0 }, { name := "T_DOUBLE", type := .int, accessFlags := 25, slot := 14, constantValue := 0 }, { name := "T_BYTE", type := .int, accessFlags := 25, slot := 15, constantValue := 0 }, { name := "T_SHORT", type := .int, accessFlags := 25, slot := 16, constantValue := 0 }, { name := "T_INT", type := .int, accessFlags := 25, slot := 17, constantValue := 0 }, { name := "T_LONG", type := .int, accessFlags := 25, slot := 18, constantValue := 0 }, { name := "JLA", type := (.object "jdk/internal/access/JavaLangAccess"), accessFlags := 26, slot := 19, constantValue := 0 }, { name := "SOFT_MAX_ARRAY_LENGTH", type := .int, accessFlags := 25, slot := 20, constantValue := 0 }]
  methods := #[k43m0]
  instanceTypes := #[]
  staticTypes := #[(.object "jdk/internal/misc/Unsafe"), .boolean, .int, .int, .int, .int, .int, .int, .int, .int, .int, .int, .int, .int, .int, .int, .int, .int, .int, (.object "jdk/internal/access/JavaLangAccess"), .int]
  resolved := Array.replicate 378 none
  statics := none }

def pool44 : Array CpInfo := pool [(1, u "java/lang/Class"), (0, .class_ 1), (0, u "java/lang/Object"), (0, .class_ 3)] 3

/-- java/lang/Class -/
def k44 : Class := { plain "java/lang/Class" (some 0) with
  accessFlags := 49
  interfaces := #[]
  cf := some (fileOf pool44 2 #[] #[] 49 4 #[] #[])
  fields := #[]
  methods := #[]
  instanceTypes := #[]
  staticTypes := #[]
  resolved := Array.replicate 8 none
  statics := none }

/-- the primitive byte -/
def k45 : Class := { plain "byte" none with kind := .primitive 'B', accessFlags := 0x411 }
/-- [B -/
def k46 : Class := { plain "[B" (some 0) with kind := .array 45 .byte, interfaces := #[18, 4], accessFlags := 1041 }

/-- the primitive int -/
def k47 : Class := { plain "int" none with kind := .primitive 'I', accessFlags := 0x411 }
/-- [I -/
def k48 : Class := { plain "[I" (some 0) with kind := .array 47 .int, interfaces := #[18, 4], accessFlags := 1041 }

/-- [Lcom/example/hornwort/hornwort/Variable; -/
def k49 : Class := { plain "[Lcom/example/hornwort/hornwort/Variable;" (some 0) with kind := .array 3 (.object "com/example/hornwort/hornwort/Variable"), interfaces := #[18, 4], accessFlags := 1041 }

/-- [Ljava/lang/Integer; -/
def k50 : Class := { plain "[Ljava/lang/Integer;" (some 0) with kind := .array 35 (.object "java/lang/Integer"), interfaces := #[18, 4], accessFlags := 1041 }

/-- [Ljava/lang/Object; -/
def k51 : Class := { plain "[Ljava/lang/Object;" (some 0) with kind := .array 0 (.object "java/lang/Object"), interfaces := #[18, 4], accessFlags := 1041, mirror := some 6 }

/-- [Ljava/util/HashMap$Node; -/
def k52 : Class := { plain "[Ljava/util/HashMap$Node;" (some 0) with kind := .array 38 (.object "java/util/HashMap$Node"), interfaces := #[18, 4], accessFlags := 1041 }

def heap : Heap := #[{ cls := 9, slots := #[.long 0, .int 1, .null, .int 0, .null, .int 0, .int 0], vm := .statics 9 },
  { cls := 19, slots := #[.long 0, .int 0, .ref 266, .ref 267], vm := .statics 19 },
  { cls := 23, slots := #[.long 0, .int 0, .null, .ref 269, .ref 265, .null, .null, .null, .int 0, .int 1], vm := .statics 23 },
  { cls := 36, slots := #[.int 0, .int 127, .ref 7, .null, .int 0], vm := .statics 36 },
  { cls := 41, slots := #[.long 0, .ref 268], vm := .statics 41 },
  { cls := 42, slots := #[.null, .null, .null], vm := .statics 42 },
  { cls := 44, slots := #[], vm := .mirror 51 },
  { cls := 50, slots := #[.ref 9, .ref 10, .ref 11, .ref 12, .ref 13, .ref 14, .ref 15, .ref 16, .ref 17, .ref 18, .ref 19, .ref 20, .ref 21, .ref 22, .ref 23, .ref 24, .ref 25, .ref 26, .ref 27, .ref 28, .ref 29, .ref 30, .ref 31, .ref 32, .ref 33, .ref 34, .ref 35, .ref 36, .ref 37, .ref 38, .ref 39, .ref 40, .ref 41, .ref 42, .ref 43, .ref 44, .ref 45, .ref 46, .ref 47, .ref 48, .ref 49, .ref 50, .ref 51, .ref 52, .ref 53, .ref 54, .ref 55, .ref 56, .ref 57, .ref 58, .ref 59, .ref 60, .ref 61, .ref 62, .ref 63, .ref 64, .ref 65, .ref 66, .ref 67, .ref 68, .ref 69, .ref 70, .ref 71, .ref 72, .ref 73, .ref 74, .ref 75, .ref 76, .ref 77, .ref 78, .ref 79, .ref 80, .ref 81, .ref 82, .ref 83, .ref 84, .ref 85, .ref 86, .ref 87, .ref 88, .ref 89, .ref 90, .ref 91, .ref 92, .ref 93, .ref 94, .ref 95, .ref 96, .ref 97, .ref 98, .ref 99, .ref 100, .ref 101, .ref 102, .ref 103, .ref 104, .ref 105, .ref 106, .ref 107, .ref 108, .ref 109, .ref 110, .ref 111, .ref 112, .ref 113, .ref 114, .ref 115, .ref 116, .ref 117, .ref 118, .ref 119, .ref 120, .ref 121, .ref 122, .ref 123, .ref 124, .ref 125, .ref 126, .ref 127, .ref 128, .ref 129, .ref 130, .ref 131, .ref 132, .ref 133, .ref 134, .ref 135, .ref 136, .ref 137, .ref 138, .ref 139, .ref 140, .ref 141, .ref 142, .ref 143, .ref 144, .ref 145, .ref 146, .ref 147, .ref 148, .ref 149, .ref 150, .ref 151, .ref 152, .ref 153, .ref 154, .ref 155, .ref 156, .ref 157, .ref 158, .ref 159, .ref 160, .ref 161, .ref 162, .ref 163, .ref 164, .ref 165, .ref 166, .ref 167, .ref 168, .ref 169, .ref 170, .ref 171, .ref 172, .ref 173, .ref 174, .ref 175, .ref 176, .ref 177, .ref 178, .ref 179, .ref 180, .ref 181, .ref 182, .ref 183, .ref 184, .ref 185, .ref 186, .ref 187, .ref 188, .ref 189, .ref 190, .ref 191, .ref 192, .ref 193, .ref 194, .ref 195, .ref 196, .ref 197, .ref 198, .ref 199, .ref 200, .ref 201, .ref 202, .ref 203, .ref 204, .ref 205, .ref 206, .ref 207, .ref 208, .ref 209, .ref 210, .ref 211, .ref 212, .ref 213, .ref 214, .ref 215, .ref 216, .ref 217, .ref 218, .ref 219, .ref 220, .ref 221, .ref 222, .ref 223, .ref 224, .ref 225, .ref 226, .ref 227, .ref 228, .ref 229, .ref 230, .ref 231, .ref 232, .ref 233, .ref 234, .ref 235, .ref 236, .ref 237, .ref 238, .ref 239, .ref 240, .ref 241, .ref 242, .ref 243, .ref 244, .ref 245, .ref 246, .ref 247, .ref 248, .ref 249, .ref 250, .ref 251, .ref 252, .ref 253, .ref 254, .ref 255, .ref 256, .ref 257, .ref 258, .ref 259, .ref 260, .ref 261, .ref 262, .ref 263, .ref 264], vm := .none },
  { cls := 51, slots := #[], vm := .none },
  { cls := 35, slots := #[.int (-128)], vm := .none },
  { cls := 35, slots := #[.int (-127)], vm := .none },
  { cls := 35, slots := #[.int (-126)], vm := .none },
  { cls := 35, slots := #[.int (-125)], vm := .none },
  { cls := 35, slots := #[.int (-124)], vm := .none },
  { cls := 35, slots := #[.int (-123)], vm := .none },
  { cls := 35, slots := #[.int (-122)], vm := .none },
  { cls := 35, slots := #[.int (-121)], vm := .none },
  { cls := 35, slots := #[.int (-120)], vm := .none },
  { cls := 35, slots := #[.int (-119)], vm := .none },
  { cls := 35, slots := #[.int (-118)], vm := .none },
  { cls := 35, slots := #[.int (-117)], vm := .none },
  { cls := 35, slots := #[.int (-116)], vm := .none },
  { cls := 35, slots := #[.int (-115)], vm := .none },
  { cls := 35, slots := #[.int (-114)], vm := .none },
  { cls := 35, slots := #[.int (-113)], vm := .none },
  { cls := 35, slots := #[.int (-112)], vm := .none },
  { cls := 35, slots := #[.int (-111)], vm := .none },
  { cls := 35, slots := #[.int (-110)], vm := .none },
  { cls := 35, slots := #[.int (-109)], vm := .none },
  { cls := 35, slots := #[.int (-108)], vm := .none },
  { cls := 35, slots := #[.int (-107)], vm := .none },
  { cls := 35, slots := #[.int (-106)], vm := .none },
  { cls := 35, slots := #[.int (-105)], vm := .none },
  { cls := 35, slots := #[.int (-104)], vm := .none },
  { cls := 35, slots := #[.int (-103)], vm := .none },
  { cls := 35, slots := #[.int (-102)], vm := .none },
  { cls := 35, slots := #[.int (-101)], vm := .none },
  { cls := 35, slots := #[.int (-100)], vm := .none },
  { cls := 35, slots := #[.int (-99)], vm := .none },
  { cls := 35, slots := #[.int (-98)], vm := .none },
  { cls := 35, slots := #[.int (-97)], vm := .none },
  { cls := 35, slots := #[.int (-96)], vm := .none },
  { cls := 35, slots := #[.int (-95)], vm := .none },
  { cls := 35, slots := #[.int (-94)], vm := .none },
  { cls := 35, slots := #[.int (-93)], vm := .none },
  { cls := 35, slots := #[.int (-92)], vm := .none },
  { cls := 35, slots := #[.int (-91)], vm := .none },
  { cls := 35, slots := #[.int (-90)], vm := .none },
  { cls := 35, slots := #[.int (-89)], vm := .none },
  { cls := 35, slots := #[.int (-88)], vm := .none },
  { cls := 35, slots := #[.int (-87)], vm := .none },
  { cls := 35, slots := #[.int (-86)], vm := .none },
  { cls := 35, slots := #[.int (-85)], vm := .none },
  { cls := 35, slots := #[.int (-84)], vm := .none },
  { cls := 35, slots := #[.int (-83)], vm := .none },
  { cls := 35, slots := #[.int (-82)], vm := .none },
  { cls := 35, slots := #[.int (-81)], vm := .none },
  { cls := 35, slots := #[.int (-80)], vm := .none },
  { cls := 35, slots := #[.int (-79)], vm := .none },
  { cls := 35, slots := #[.int (-78)], vm := .none },
  { cls := 35, slots := #[.int (-77)], vm := .none },
  { cls := 35, slots := #[.int (-76)], vm := .none },
  { cls := 35, slots := #[.int (-75)], vm := .none },
  { cls := 35, slots := #[.int (-74)], vm := .none },
  { cls := 35, slots := #[.int (-73)], vm := .none },
  { cls := 35, slots := #[.int (-72)], vm := .none },
  { cls := 35, slots := #[.int (-71)], vm := .none },
  { cls := 35, slots := #[.int (-70)], vm := .none },
  { cls := 35, slots := #[.int (-69)], vm := .none },
  { cls := 35, slots := #[.int (-68)], vm := .none },
  { cls := 35, slots := #[.int (-67)], vm := .none },
  { cls := 35, slots := #[.int (-66)], vm := .none },
  { cls := 35, slots := #[.int (-65)], vm := .none },
  { cls := 35, slots := #[.int (-64)], vm := .none },
  { cls := 35, slots := #[.int (-63)], vm := .none },
  { cls := 35, slots := #[.int (-62)], vm := .none },
  { cls := 35, slots := #[.int (-61)], vm := .none },
  { cls := 35, slots := #[.int (-60)], vm := .none },
  { cls := 35, slots := #[.int (-59)], vm := .none },
  { cls := 35, slots := #[.int (-58)], vm := .none },
  { cls := 35, slots := #[.int (-57)], vm := .none },
  { cls := 35, slots := #[.int (-56)], vm := .none },
  { cls := 35, slots := #[.int (-55)], vm := .none },
  { cls := 35, slots := #[.int (-54)], vm := .none },
  { cls := 35, slots := #[.int (-53)], vm := .none },
  { cls := 35, slots := #[.int (-52)], vm := .none },
  { cls := 35, slots := #[.int (-51)], vm := .none },
  { cls := 35, slots := #[.int (-50)], vm := .none },
  { cls := 35, slots := #[.int (-49)], vm := .none },
  { cls := 35, slots := #[.int (-48)], vm := .none },
  { cls := 35, slots := #[.int (-47)], vm := .none },
  { cls := 35, slots := #[.int (-46)], vm := .none },
  { cls := 35, slots := #[.int (-45)], vm := .none },
  { cls := 35, slots := #[.int (-44)], vm := .none },
  { cls := 35, slots := #[.int (-43)], vm := .none },
  { cls := 35, slots := #[.int (-42)], vm := .none },
  { cls := 35, slots := #[.int (-41)], vm := .none },
  { cls := 35, slots := #[.int (-40)], vm := .none },
  { cls := 35, slots := #[.int (-39)], vm := .none },
  { cls := 35, slots := #[.int (-38)], vm := .none },
  { cls := 35, slots := #[.int (-37)], vm := .none },
  { cls := 35, slots := #[.int (-36)], vm := .none },
  { cls := 35, slots := #[.int (-35)], vm := .none },
  { cls := 35, slots := #[.int (-34)], vm := .none },
  { cls := 35, slots := #[.int (-33)], vm := .none },
  { cls := 35, slots := #[.int (-32)], vm := .none },
  { cls := 35, slots := #[.int (-31)], vm := .none },
  { cls := 35, slots := #[.int (-30)], vm := .none },
  { cls := 35, slots := #[.int (-29)], vm := .none },
  { cls := 35, slots := #[.int (-28)], vm := .none },
  { cls := 35, slots := #[.int (-27)], vm := .none },
  { cls := 35, slots := #[.int (-26)], vm := .none },
  { cls := 35, slots := #[.int (-25)], vm := .none },
  { cls := 35, slots := #[.int (-24)], vm := .none },
  { cls := 35, slots := #[.int (-23)], vm := .none },
  { cls := 35, slots := #[.int (-22)], vm := .none },
  { cls := 35, slots := #[.int (-21)], vm := .none },
  { cls := 35, slots := #[.int (-20)], vm := .none },
  { cls := 35, slots := #[.int (-19)], vm := .none },
  { cls := 35, slots := #[.int (-18)], vm := .none },
  { cls := 35, slots := #[.int (-17)], vm := .none },
  { cls := 35, slots := #[.int (-16)], vm := .none },
  { cls := 35, slots := #[.int (-15)], vm := .none },
  { cls := 35, slots := #[.int (-14)], vm := .none },
  { cls := 35, slots := #[.int (-13)], vm := .none },
  { cls := 35, slots := #[.int (-12)], vm := .none },
  { cls := 35, slots := #[.int (-11)], vm := .none },
  { cls := 35, slots := #[.int (-10)], vm := .none },
  { cls := 35, slots := #[.int (-9)], vm := .none },
  { cls := 35, slots := #[.int (-8)], vm := .none },
  { cls := 35, slots := #[.int (-7)], vm := .none },
  { cls := 35, slots := #[.int (-6)], vm := .none },
  { cls := 35, slots := #[.int (-5)], vm := .none },
  { cls := 35, slots := #[.int (-4)], vm := .none },
  { cls := 35, slots := #[.int (-3)], vm := .none },
  { cls := 35, slots := #[.int (-2)], vm := .none },
  { cls := 35, slots := #[.int (-1)], vm := .none },
  { cls := 35, slots := #[.int 0], vm := .none },
  { cls := 35, slots := #[.int 1], vm := .none },
  { cls := 35, slots := #[.int 2], vm := .none },
  { cls := 35, slots := #[.int 3], vm := .none },
  { cls := 35, slots := #[.int 4], vm := .none },
  { cls := 35, slots := #[.int 5], vm := .none },
  { cls := 35, slots := #[.int 6], vm := .none },
  { cls := 35, slots := #[.int 7], vm := .none },
  { cls := 35, slots := #[.int 8], vm := .none },
  { cls := 35, slots := #[.int 9], vm := .none },
  { cls := 35, slots := #[.int 10], vm := .none },
  { cls := 35, slots := #[.int 11], vm := .none },
  { cls := 35, slots := #[.int 12], vm := .none },
  { cls := 35, slots := #[.int 13], vm := .none },
  { cls := 35, slots := #[.int 14], vm := .none },
  { cls := 35, slots := #[.int 15], vm := .none },
  { cls := 35, slots := #[.int 16], vm := .none },
  { cls := 35, slots := #[.int 17], vm := .none },
  { cls := 35, slots := #[.int 18], vm := .none },
  { cls := 35, slots := #[.int 19], vm := .none },
  { cls := 35, slots := #[.int 20], vm := .none },
  { cls := 35, slots := #[.int 21], vm := .none },
  { cls := 35, slots := #[.int 22], vm := .none },
  { cls := 35, slots := #[.int 23], vm := .none },
  { cls := 35, slots := #[.int 24], vm := .none },
  { cls := 35, slots := #[.int 25], vm := .none },
  { cls := 35, slots := #[.int 26], vm := .none },
  { cls := 35, slots := #[.int 27], vm := .none },
  { cls := 35, slots := #[.int 28], vm := .none },
  { cls := 35, slots := #[.int 29], vm := .none },
  { cls := 35, slots := #[.int 30], vm := .none },
  { cls := 35, slots := #[.int 31], vm := .none },
  { cls := 35, slots := #[.int 32], vm := .none },
  { cls := 35, slots := #[.int 33], vm := .none },
  { cls := 35, slots := #[.int 34], vm := .none },
  { cls := 35, slots := #[.int 35], vm := .none },
  { cls := 35, slots := #[.int 36], vm := .none },
  { cls := 35, slots := #[.int 37], vm := .none },
  { cls := 35, slots := #[.int 38], vm := .none },
  { cls := 35, slots := #[.int 39], vm := .none },
  { cls := 35, slots := #[.int 40], vm := .none },
  { cls := 35, slots := #[.int 41], vm := .none },
  { cls := 35, slots := #[.int 42], vm := .none },
  { cls := 35, slots := #[.int 43], vm := .none },
  { cls := 35, slots := #[.int 44], vm := .none },
  { cls := 35, slots := #[.int 45], vm := .none },
  { cls := 35, slots := #[.int 46], vm := .none },
  { cls := 35, slots := #[.int 47], vm := .none },
  { cls := 35, slots := #[.int 48], vm := .none },
  { cls := 35, slots := #[.int 49], vm := .none },
  { cls := 35, slots := #[.int 50], vm := .none },
  { cls := 35, slots := #[.int 51], vm := .none },
  { cls := 35, slots := #[.int 52], vm := .none },
  { cls := 35, slots := #[.int 53], vm := .none },
  { cls := 35, slots := #[.int 54], vm := .none },
  { cls := 35, slots := #[.int 55], vm := .none },
  { cls := 35, slots := #[.int 56], vm := .none },
  { cls := 35, slots := #[.int 57], vm := .none },
  { cls := 35, slots := #[.int 58], vm := .none },
  { cls := 35, slots := #[.int 59], vm := .none },
  { cls := 35, slots := #[.int 60], vm := .none },
  { cls := 35, slots := #[.int 61], vm := .none },
  { cls := 35, slots := #[.int 62], vm := .none },
  { cls := 35, slots := #[.int 63], vm := .none },
  { cls := 35, slots := #[.int 64], vm := .none },
  { cls := 35, slots := #[.int 65], vm := .none },
  { cls := 35, slots := #[.int 66], vm := .none },
  { cls := 35, slots := #[.int 67], vm := .none },
  { cls := 35, slots := #[.int 68], vm := .none },
  { cls := 35, slots := #[.int 69], vm := .none },
  { cls := 35, slots := #[.int 70], vm := .none },
  { cls := 35, slots := #[.int 71], vm := .none },
  { cls := 35, slots := #[.int 72], vm := .none },
  { cls := 35, slots := #[.int 73], vm := .none },
  { cls := 35, slots := #[.int 74], vm := .none },
  { cls := 35, slots := #[.int 75], vm := .none },
  { cls := 35, slots := #[.int 76], vm := .none },
  { cls := 35, slots := #[.int 77], vm := .none },
  { cls := 35, slots := #[.int 78], vm := .none },
  { cls := 35, slots := #[.int 79], vm := .none },
  { cls := 35, slots := #[.int 80], vm := .none },
  { cls := 35, slots := #[.int 81], vm := .none },
  { cls := 35, slots := #[.int 82], vm := .none },
  { cls := 35, slots := #[.int 83], vm := .none },
  { cls := 35, slots := #[.int 84], vm := .none },
  { cls := 35, slots := #[.int 85], vm := .none },
  { cls := 35, slots := #[.int 86], vm := .none },
  { cls := 35, slots := #[.int 87], vm := .none },
  { cls := 35, slots := #[.int 88], vm := .none },
  { cls := 35, slots := #[.int 89], vm := .none },
  { cls := 35, slots := #[.int 90], vm := .none },
  { cls := 35, slots := #[.int 91], vm := .none },
  { cls := 35, slots := #[.int 92], vm := .none },
  { cls := 35, slots := #[.int 93], vm := .none },
  { cls := 35, slots := #[.int 94], vm := .none },
  { cls := 35, slots := #[.int 95], vm := .none },
  { cls := 35, slots := #[.int 96], vm := .none },
  { cls := 35, slots := #[.int 97], vm := .none },
  { cls := 35, slots := #[.int 98], vm := .none },
  { cls := 35, slots := #[.int 99], vm := .none },
  { cls := 35, slots := #[.int 100], vm := .none },
  { cls := 35, slots := #[.int 101], vm := .none },
  { cls := 35, slots := #[.int 102], vm := .none },
  { cls := 35, slots := #[.int 103], vm := .none },
  { cls := 35, slots := #[.int 104], vm := .none },
  { cls := 35, slots := #[.int 105], vm := .none },
  { cls := 35, slots := #[.int 106], vm := .none },
  { cls := 35, slots := #[.int 107], vm := .none },
  { cls := 35, slots := #[.int 108], vm := .none },
  { cls := 35, slots := #[.int 109], vm := .none },
  { cls := 35, slots := #[.int 110], vm := .none },
  { cls := 35, slots := #[.int 111], vm := .none },
  { cls := 35, slots := #[.int 112], vm := .none },
  { cls := 35, slots := #[.int 113], vm := .none },
  { cls := 35, slots := #[.int 114], vm := .none },
  { cls := 35, slots := #[.int 115], vm := .none },
  { cls := 35, slots := #[.int 116], vm := .none },
  { cls := 35, slots := #[.int 117], vm := .none },
  { cls := 35, slots := #[.int 118], vm := .none },
  { cls := 35, slots := #[.int 119], vm := .none },
  { cls := 35, slots := #[.int 120], vm := .none },
  { cls := 35, slots := #[.int 121], vm := .none },
  { cls := 35, slots := #[.int 122], vm := .none },
  { cls := 35, slots := #[.int 123], vm := .none },
  { cls := 35, slots := #[.int 124], vm := .none },
  { cls := 35, slots := #[.int 125], vm := .none },
  { cls := 35, slots := #[.int 126], vm := .none },
  { cls := 35, slots := #[.int 127], vm := .none },
  { cls := 27, slots := #[.ref 8, .int 0], vm := .none },
  { cls := 51, slots := #[], vm := .none },
  { cls := 51, slots := #[], vm := .none },
  { cls := 0, slots := #[], vm := .none },
  { cls := 0, slots := #[], vm := .none }]
def classes : Array Class := #[k0, k1, k2, k3, k4, k5, k6, k7, k8, k9, k10, k11, k12, k13, k14, k15, k16, k17, k18, k19, k20, k21, k22, k23, k24, k25, k26, k27, k28, k29, k30, k31, k32, k33, k34, k35, k36, k37, k38, k39, k40, k41, k42, k43, k44, k45, k46, k47, k48, k49, k50, k51, k52]
def interned : List (Array UInt16 × Addr) := []
def slotsUsed : Nat := 545
def theMethod : MethodId := ⟨1, 1⟩
def args0 : Array Value := #[.int 5, .int 5, .int 5]
def aboutOver (below : List Frame) : State where
  vm := { classes := classes, interned := interned.toArray }
  heap := heap
  slotsUsed := slotsUsed
  threads := #[{ frames := .invoking theMethod args0 :: below }]
def below0 : List Frame := [.native { method := ⟨0, 0⟩, args := #[] }]
def about1 : State := aboutOver below0
def p0 : Program := .bare "" "" ""
def e0 : Env := launch0.env 0 0 0
theorem w_frames : about1.frames = Frame.invoking theMethod args0 :: below0 := rfl
set_option maxRecDepth 65536 in
theorem w_args : argsFit about1.vm theMethod args0 = true := by decide +kernel
set_option maxRecDepth 65536 in
theorem w_heap : heapFits about1 = true := by decide +kernel
set_option maxRecDepth 65536 in
theorem w_runnable : about1.curStatus? = some .runnable := by decide +kernel
set_option maxRecDepth 65536 in
theorem w_alone : about1.alone = true := by decide +kernel
set_option maxRecDepth 65536 in
theorem w_named : about1.methodNamed? x = some theMethod := by decide +kernel
set_option maxRecDepth 65536 in
theorem w_hears : about1.hears theMethod below0 = true := by decide +kernel
set_option maxRecDepth 65536 in
theorem w_ripe : about1.ripe theMethod args0 below0 = true := by decide +kernel
theorem w_running : about1.status = .running := rfl
set_option maxRecDepth 65536 in
theorem w_room : about1.hasRoom e0.platform room_1 = true :=
  launch0.hasRoom_least _ room_1 (by decide +kernel) (by decide +kernel) (by decide +kernel) (by decide +kernel) (by decide +kernel) (by decide +kernel)
theorem allAtoms_all (ts : List Jvm.Cond) (a : Array Jvm.Value) (st : Jvm.State) : (allAtoms ts).before a st = ts.all (fun c => c.before a st) := by
  induction ts with
  | nil => rfl
  | cons c t ih =>
    show (Jvm.Cond.and c (allAtoms t)).before a st = _
    rw [Jvm.Cond.before_and, ih, List.all_cons]
def words1 : List Jvm.Cond := Jvm.Cond.code x code maxLocals ret :: tables_1
/-- a 'code' word, met by the world's own term for the bytes: nothing is compared byte by byte -/
theorem code_word {y : MethodName} {bytes : ByteArray} {mx : Nat} {rt : Option FieldType} {a : Array Value} {s : State} {m : MethodId} {meth : Method} {c : Code} (h1 : s.methodNamed? y = some m) (h2 : s.vm.method? m = some meth) (h3 : meth.code = some c) (h4 : c.code = bytes)
    (h5 : (c.maxLocals == mx && c.exceptionTable.isEmpty && decide (c.maxStack ≤ mostOperands) && decide (meth.sig.returnType = rt) && !meth.locks && decide (parseMethodDescriptor y.desc = some meth.sig)) = true) : (Jvm.Cond.code y bytes mx rt).before a s = true := by
  simp only [Bool.and_eq_true, beq_iff_eq, Bool.not_eq_true', decide_eq_true_eq] at h5
  obtain ⟨⟨⟨⟨⟨g1, g2⟩, g3⟩, g4⟩, g5⟩, g6⟩ := h5
  simp [Cond.before, Cond.holds, Cond.value, h1, h2, h3, h4, g1, g2, g3, g4, g5, g6]
def isCode : Jvm.Cond → Bool
  | .code _ _ _ _ => true
  | _ => false
theorem all_split {L : List Jvm.Cond} {P : Jvm.Cond → Bool} (h1 : L.all (fun c => isCode c || P c) = true) (h2 : ∀ c ∈ L.filter isCode, P c = true) : L.all P = true := by
  refine List.all_eq_true.mpr fun c hc => ?_
  have h := List.all_eq_true.mp h1 c hc
  rcases Bool.eq_false_or_eq_true (isCode c) with hi | hi
  · exact h2 c (List.mem_filter.mpr ⟨hc, hi⟩)
  · simpa [hi] using h
set_option maxRecDepth 65536 in
theorem w_c0 : (Jvm.Cond.code x code maxLocals ret).before args0 about1 = true := code_word (m := ⟨1, 1⟩) (meth := k1m1) (c := k1c1) (by decide +kernel) rfl rfl rfl (by decide +kernel)
set_option maxRecDepth 65536 in
theorem w_c1 : (Jvm.Cond.code ({ cls := "java/lang/String", name := "valueOf", desc := "(C)Ljava/lang/String;" } : Jvm.MethodName) jdk_42_method_139_code (1 : Nat) (Option.some (Jvm.ClassFile.FieldType.object "java/lang/String"))).before args0 about1 = true := code_word (m := ⟨9, 3⟩) (meth := k9m3) (c := k9c3) (by decide +kernel) rfl rfl rfl (by decide +kernel)
set_option maxRecDepth 65536 in
theorem w_c2 : (Jvm.Cond.code ({ cls := "java/lang/StringLatin1", name := "canEncode", desc := "(C)Z" } : Jvm.MethodName) jdk_43_method_3_code (1 : Nat) (Option.some Jvm.ClassFile.FieldType.boolean)).before args0 about1 = true := code_word (m := ⟨10, 1⟩) (meth := k10m1) (c := k10c1) (by decide +kernel) rfl rfl rfl (by decide +kernel)
set_option maxRecDepth 65536 in
theorem w_c3 : (Jvm.Cond.code ({ cls := "java/lang/StringLatin1", name := "toBytes", desc := "(C)[B" } : Jvm.MethodName) jdk_43_method_46_code (1 : Nat) (Option.some (Jvm.ClassFile.FieldType.array Jvm.ClassFile.FieldType.byte))).before args0 about1 = true := code_word (m := ⟨10, 4⟩) (meth := k10m4) (c := k10c4) (by decide +kernel) rfl rfl rfl (by decide +kernel)
set_option maxRecDepth 65536 in
theorem w_c4 : (Jvm.Cond.code ({ cls := "java/lang/String", name := "<init>", desc := "([BB)V" } : Jvm.MethodName) jdk_42_method_151_code (3 : Nat) (Option.none : Option Jvm.ClassFile.FieldType)).before args0 about1 = true := code_word (m := ⟨9, 4⟩) (meth := k9m4) (c := k9c4) (by decide +kernel) rfl rfl rfl (by decide +kernel)
set_option maxRecDepth 65536 in
theorem w_c5 : (Jvm.Cond.code ({ cls := "java/lang/Object", name := "<init>", desc := "()V" } : Jvm.MethodName) object_method_1_code (1 : Nat) (Option.none : Option Jvm.ClassFile.FieldType)).before args0 about1 = true := code_word (m := ⟨0, 0⟩) (meth := k0m0) (c := k0c0) (by decide +kernel) rfl rfl rfl (by decide +kernel)
set_option maxRecDepth 65536 in
theorem w_c6 : (Jvm.Cond.code ({ cls := "com/example/hornwort/hornwort/Variable", name := "<init>", desc := "(Ljava/lang/String;Lcom/example/hornwort/hornwort/Position;)V" } : Jvm.MethodName) prog_69_method_1_code (3 : Nat) (Option.none : Option Jvm.ClassFile.FieldType)).before args0 about1 = true := code_word (m := ⟨3, 0⟩) (meth := k3m0) (c := k3c0) (by decide +kernel) rfl rfl rfl (by decide +kernel)
set_option maxRecDepth 65536 in
theorem w_c7 : (Jvm.Cond.code ({ cls := "com/example/hornwort/hornwort/Term", name := "<init>", desc := "()V" } : Jvm.MethodName) prog_63_method_1_code (1 : Nat) (Option.none : Option Jvm.ClassFile.FieldType)).before args0 about1 = true := code_word (m := ⟨2, 0⟩) (meth := k2m0) (c := k2c0) (by decide +kernel) rfl rfl rfl (by decide +kernel)
set_option maxRecDepth 65536 in
theorem w_c8 : (Jvm.Cond.code ({ cls := "java/util/ArrayList", name := "<init>", desc := "()V" } : Jvm.MethodName) jdk_38_method_2_code (1 : Nat) (Option.none : Option Jvm.ClassFile.FieldType)).before args0 about1 = true := code_word (m := ⟨19, 0⟩) (meth := k19m0) (c := k19c0) (by decide +kernel) rfl rfl rfl (by decide +kernel)
set_option maxRecDepth 65536 in
theorem w_c9 : (Jvm.Cond.code ({ cls := "java/util/AbstractList", name := "<init>", desc := "()V" } : Jvm.MethodName) jdk_39_method_1_code (1 : Nat) (Option.none : Option Jvm.ClassFile.FieldType)).before args0 about1 = true := code_word (m := ⟨16, 0⟩) (meth := k16m0) (c := k16c0) (by decide +kernel) rfl rfl rfl (by decide +kernel)
set_option maxRecDepth 65536 in
theorem w_c10 : (Jvm.Cond.code ({ cls := "java/util/AbstractCollection", name := "<init>", desc := "()V" } : Jvm.MethodName) jdk_22_method_1_code (1 : Nat) (Option.none : Option Jvm.ClassFile.FieldType)).before args0 about1 = true := code_word (m := ⟨13, 0⟩) (meth := k13m0) (c := k13c0) (by decide +kernel) rfl rfl rfl (by decide +kernel)
set_option maxRecDepth 65536 in
theorem w_c11 : (Jvm.Cond.code ({ cls := "java/util/ArrayList", name := "add", desc := "(Ljava/lang/Object;)Z" } : Jvm.MethodName) jdk_38_method_25_code (2 : Nat) (Option.some Jvm.ClassFile.FieldType.boolean)).before args0 about1 = true := code_word (m := ⟨19, 9⟩) (meth := k19m9) (c := k19c9) (by decide +kernel) rfl rfl rfl (by decide +kernel)
set_option maxRecDepth 65536 in
theorem w_c12 : (Jvm.Cond.code ({ cls := "java/util/ArrayList", name := "add", desc := "(Ljava/lang/Object;[Ljava/lang/Object;I)V" } : Jvm.MethodName) jdk_38_method_24_code (4 : Nat) (Option.none : Option Jvm.ClassFile.FieldType)).before args0 about1 = true := code_word (m := ⟨19, 8⟩) (meth := k19m8) (c := k19c8) (by decide +kernel) rfl rfl rfl (by decide +kernel)
set_option maxRecDepth 65536 in
theorem w_c13 : (Jvm.Cond.code ({ cls := "java/util/ArrayList", name := "grow", desc := "()[Ljava/lang/Object;" } : Jvm.MethodName) jdk_38_method_7_code (1 : Nat) (Option.some (Jvm.ClassFile.FieldType.array (Jvm.ClassFile.FieldType.object "java/lang/Object")))).before args0 about1 = true := code_word (m := ⟨19, 2⟩) (meth := k19m2) (c := k19c2) (by decide +kernel) rfl rfl rfl (by decide +kernel)
set_option maxRecDepth 65536 in
theorem w_c14 : (Jvm.Cond.code ({ cls := "java/util/ArrayList", name := "grow", desc := "(I)[Ljava/lang/Object;" } : Jvm.MethodName) jdk_38_method_6_code (4 : Nat) (Option.some (Jvm.ClassFile.FieldType.array (Jvm.ClassFile.FieldType.object "java/lang/Object")))).before args0 about1 = true := code_word (m := ⟨19, 1⟩) (meth := k19m1) (c := k19c1) (by decide +kernel) rfl rfl rfl (by decide +kernel)
set_option maxRecDepth 65536 in
theorem w_c15 : (Jvm.Cond.code ({ cls := "java/lang/Math", name := "max", desc := "(II)I" } : Jvm.MethodName) jdk_29_method_65_code (2 : Nat) (Option.some Jvm.ClassFile.FieldType.int)).before args0 about1 = true := code_word (m := ⟨20, 1⟩) (meth := k20m1) (c := k20c1) (by decide +kernel) rfl rfl rfl (by decide +kernel)
set_option maxRecDepth 65536 in
theorem w_c16 : (Jvm.Cond.code ({ cls := "com/example/hornwort/hornwort/Atom", name := "<init>", desc := "(Ljava/lang/String;Ljava/util/List;)V" } : Jvm.MethodName) prog_7_method_1_code (3 : Nat) (Option.none : Option Jvm.ClassFile.FieldType)).before args0 about1 = true := code_word (m := ⟨22, 0⟩) (meth := k22m0) (c := k22c0) (by decide +kernel) rfl rfl rfl (by decide +kernel)
set_option maxRecDepth 65536 in
theorem w_c17 : (Jvm.Cond.code ({ cls := "java/util/List", name := "copyOf", desc := "(Ljava/util/Collection;)Ljava/util/List;" } : Jvm.MethodName) jdk_40_method_48_code (1 : Nat) (Option.some (Jvm.ClassFile.FieldType.object "java/util/List"))).before args0 about1 = true := code_word (m := ⟨15, 5⟩) (meth := k15m5) (c := k15c5) (by decide +kernel) rfl rfl rfl (by decide +kernel)
set_option maxRecDepth 65536 in
theorem w_c18 : (Jvm.Cond.code ({ cls := "java/util/ImmutableCollections", name := "listCopy", desc := "(Ljava/util/Collection;)Ljava/util/List;" } : Jvm.MethodName) jdk_56_method_3_code (2 : Nat) (Option.some (Jvm.ClassFile.FieldType.object "java/util/List"))).before args0 about1 = true := code_word (m := ⟨23, 1⟩) (meth := k23m1) (c := k23c1) (by decide +kernel) rfl rfl rfl (by decide +kernel)
set_option maxRecDepth 65536 in
theorem w_c19 : (Jvm.Cond.code ({ cls := "java/util/ArrayList", name := "isEmpty", desc := "()Z" } : Jvm.MethodName) jdk_38_method_9_code (1 : Nat) (Option.some Jvm.ClassFile.FieldType.boolean)).before args0 about1 = true := code_word (m := ⟨19, 4⟩) (meth := k19m4) (c := k19c4) (by decide +kernel) rfl rfl rfl (by decide +kernel)
set_option maxRecDepth 65536 in
theorem w_c20 : (Jvm.Cond.code ({ cls := "java/util/ArrayList", name := "toArray", desc := "()[Ljava/lang/Object;" } : Jvm.MethodName) jdk_38_method_16_code (1 : Nat) (Option.some (Jvm.ClassFile.FieldType.array (Jvm.ClassFile.FieldType.object "java/lang/Object")))).before args0 about1 = true := code_word (m := ⟨19, 5⟩) (meth := k19m5) (c := k19c5) (by decide +kernel) rfl rfl rfl (by decide +kernel)
set_option maxRecDepth 65536 in
theorem w_c21 : (Jvm.Cond.code ({ cls := "java/util/Arrays", name := "copyOf", desc := "([Ljava/lang/Object;I)[Ljava/lang/Object;" } : Jvm.MethodName) jdk_65_method_119_code (2 : Nat) (Option.some (Jvm.ClassFile.FieldType.array (Jvm.ClassFile.FieldType.object "java/lang/Object")))).before args0 about1 = true := code_word (m := ⟨28, 1⟩) (meth := k28m1) (c := k28c1) (by decide +kernel) rfl rfl rfl (by decide +kernel)
set_option maxRecDepth 65536 in
theorem w_c22 : (Jvm.Cond.code ({ cls := "java/util/Arrays", name := "copyOf", desc := "([Ljava/lang/Object;ILjava/lang/Class;)[Ljava/lang/Object;" } : Jvm.MethodName) jdk_65_method_120_code (4 : Nat) (Option.some (Jvm.ClassFile.FieldType.array (Jvm.ClassFile.FieldType.object "java/lang/Object")))).before args0 about1 = true := code_word (m := ⟨28, 2⟩) (meth := k28m2) (c := k28c2) (by decide +kernel) rfl rfl rfl (by decide +kernel)
set_option maxRecDepth 65536 in
theorem w_c23 : (Jvm.Cond.code ({ cls := "java/lang/Math", name := "min", desc := "(II)I" } : Jvm.MethodName) jdk_29_method_69_code (2 : Nat) (Option.some Jvm.ClassFile.FieldType.int)).before args0 about1 = true := code_word (m := ⟨20, 2⟩) (meth := k20m2) (c := k20c2) (by decide +kernel) rfl rfl rfl (by decide +kernel)
set_option maxRecDepth 65536 in
theorem w_c24 : (Jvm.Cond.code ({ cls := "java/util/List", name := "of", desc := "([Ljava/lang/Object;)Ljava/util/List;" } : Jvm.MethodName) jdk_40_method_47_code (2 : Nat) (Option.some (Jvm.ClassFile.FieldType.object "java/util/List"))).before args0 about1 = true := code_word (m := ⟨15, 4⟩) (meth := k15m4) (c := k15c4) (by decide +kernel) rfl rfl rfl (by decide +kernel)
set_option maxRecDepth 65536 in
theorem w_c25 : (Jvm.Cond.code ({ cls := "java/util/ImmutableCollections", name := "listFromArray", desc := "([Ljava/lang/Object;)Ljava/util/List;" } : Jvm.MethodName) jdk_56_method_4_code (3 : Nat) (Option.some (Jvm.ClassFile.FieldType.object "java/util/List"))).before args0 about1 = true := code_word (m := ⟨23, 2⟩) (meth := k23m2) (c := k23c2) (by decide +kernel) rfl rfl rfl (by decide +kernel)
set_option maxRecDepth 65536 in
theorem w_c26 : (Jvm.Cond.code ({ cls := "java/util/Objects", name := "requireNonNull", desc := "(Ljava/lang/Object;)Ljava/lang/Object;" } : Jvm.MethodName) jdk_31_method_10_code (1 : Nat) (Option.some (Jvm.ClassFile.FieldType.object "java/lang/Object"))).before args0 about1 = true := code_word (m := ⟨30, 1⟩) (meth := k30m1) (c := k30c1) (by decide +kernel) rfl rfl rfl (by decide +kernel)
set_option maxRecDepth 65536 in
theorem w_c27 : (Jvm.Cond.code ({ cls := "java/util/ImmutableCollections$ListN", name := "<init>", desc := "([Ljava/lang/Object;Z)V" } : Jvm.MethodName) jdk_45_method_1_code (3 : Nat) (Option.none : Option Jvm.ClassFile.FieldType)).before args0 about1 = true := code_word (m := ⟨27, 0⟩) (meth := k27m0) (c := k27c0) (by decide +kernel) rfl rfl rfl (by decide +kernel)
set_option maxRecDepth 65536 in
theorem w_c28 : (Jvm.Cond.code ({ cls := "java/util/ImmutableCollections$AbstractImmutableList", name := "<init>", desc := "()V" } : Jvm.MethodName) jdk_46_method_1_code (1 : Nat) (Option.none : Option Jvm.ClassFile.FieldType)).before args0 about1 = true := code_word (m := ⟨25, 0⟩) (meth := k25m0) (c := k25c0) (by decide +kernel) rfl rfl rfl (by decide +kernel)
set_option maxRecDepth 65536 in
theorem w_c29 : (Jvm.Cond.code ({ cls := "java/util/ImmutableCollections$AbstractImmutableCollection", name := "<init>", desc := "()V" } : Jvm.MethodName) jdk_47_method_1_code (1 : Nat) (Option.none : Option Jvm.ClassFile.FieldType)).before args0 about1 = true := code_word (m := ⟨24, 0⟩) (meth := k24m0) (c := k24c0) (by decide +kernel) rfl rfl rfl (by decide +kernel)
set_option maxRecDepth 65536 in
theorem w_c30 : (Jvm.Cond.code ({ cls := "com/example/hornwort/hornwort/Selection", name := "<init>", desc := "(Lcom/example/hornwort/hornwort/Atom;Ljava/util/List;Lcom/example/hornwort/hornwort/Aggregate$Function;Lcom/example/hornwort/hornwort/Variable;Lcom/example/hornwort/hornwort/Position;)V" } : Jvm.MethodName) prog_48_method_1_code (9 : Nat) (Option.none : Option Jvm.ClassFile.FieldType)).before args0 about1 = true := code_word (m := ⟨21, 0⟩) (meth := k21m0) (c := k21c0) (by decide +kernel) rfl rfl rfl (by decide +kernel)
set_option maxRecDepth 65536 in
theorem w_c31 : (Jvm.Cond.code ({ cls := "java/util/ImmutableCollections$List12", name := "<init>", desc := "(Ljava/lang/Object;Ljava/lang/Object;)V" } : Jvm.MethodName) jdk_44_method_2_code (3 : Nat) (Option.none : Option Jvm.ClassFile.FieldType)).before args0 about1 = true := code_word (m := ⟨26, 1⟩) (meth := k26m1) (c := k26c1) (by decide +kernel) rfl rfl rfl (by decide +kernel)
set_option maxRecDepth 65536 in
theorem w_c32 : (Jvm.Cond.code ({ cls := "java/util/HashMap", name := "<init>", desc := "()V" } : Jvm.MethodName) jdk_69_method_7_code (1 : Nat) (Option.none : Option Jvm.ClassFile.FieldType)).before args0 about1 = true := code_word (m := ⟨33, 1⟩) (meth := k33m1) (c := k33c1) (by decide +kernel) rfl rfl rfl (by decide +kernel)
set_option maxRecDepth 65536 in
theorem w_c33 : (Jvm.Cond.code ({ cls := "java/util/AbstractMap", name := "<init>", desc := "()V" } : Jvm.MethodName) jdk_71_method_1_code (1 : Nat) (Option.none : Option Jvm.ClassFile.FieldType)).before args0 about1 = true := code_word (m := ⟨32, 0⟩) (meth := k32m0) (c := k32c0) (by decide +kernel) rfl rfl rfl (by decide +kernel)
set_option maxRecDepth 65536 in
theorem w_c34 : (Jvm.Cond.code ({ cls := "com/example/hornwort/hornwort/Atom", name := "args", desc := "()Ljava/util/List;" } : Jvm.MethodName) prog_7_method_3_code (1 : Nat) (Option.some (Jvm.ClassFile.FieldType.object "java/util/List"))).before args0 about1 = true := code_word (m := ⟨22, 1⟩) (meth := k22m1) (c := k22c1) (by decide +kernel) rfl rfl rfl (by decide +kernel)
set_option maxRecDepth 65536 in
theorem w_c35 : (Jvm.Cond.code ({ cls := "java/util/ImmutableCollections$ListN", name := "size", desc := "()I" } : Jvm.MethodName) jdk_45_method_3_code (1 : Nat) (Option.some Jvm.ClassFile.FieldType.int)).before args0 about1 = true := code_word (m := ⟨27, 1⟩) (meth := k27m1) (c := k27c1) (by decide +kernel) rfl rfl rfl (by decide +kernel)
set_option maxRecDepth 65536 in
theorem w_c36 : (Jvm.Cond.code ({ cls := "java/util/ImmutableCollections$ListN", name := "get", desc := "(I)Ljava/lang/Object;" } : Jvm.MethodName) jdk_45_method_4_code (2 : Nat) (Option.some (Jvm.ClassFile.FieldType.object "java/lang/Object"))).before args0 about1 = true := code_word (m := ⟨27, 2⟩) (meth := k27m2) (c := k27c2) (by decide +kernel) rfl rfl rfl (by decide +kernel)
set_option maxRecDepth 65536 in
theorem w_c37 : (Jvm.Cond.code ({ cls := "com/example/hornwort/hornwort/Variable", name := "isAnonymous", desc := "()Z" } : Jvm.MethodName) prog_69_method_4_code (1 : Nat) (Option.some Jvm.ClassFile.FieldType.boolean)).before args0 about1 = true := code_word (m := ⟨3, 2⟩) (meth := k3m2) (c := k3c2) (by decide +kernel) rfl rfl rfl (by decide +kernel)
set_option maxRecDepth 65536 in
theorem w_c38 : (Jvm.Cond.code ({ cls := "java/lang/String", name := "equals", desc := "(Ljava/lang/Object;)Z" } : Jvm.MethodName) jdk_42_method_66_code (3 : Nat) (Option.some Jvm.ClassFile.FieldType.boolean)).before args0 about1 = true := code_word (m := ⟨9, 1⟩) (meth := k9m1) (c := k9c1) (by decide +kernel) rfl rfl rfl (by decide +kernel)
set_option maxRecDepth 65536 in
theorem w_c39 : (Jvm.Cond.code ({ cls := "java/lang/StringLatin1", name := "equals", desc := "([B[B)Z" } : Jvm.MethodName) jdk_43_method_13_code (3 : Nat) (Option.some Jvm.ClassFile.FieldType.boolean)).before args0 about1 = true := code_word (m := ⟨10, 2⟩) (meth := k10m2) (c := k10c2) (by decide +kernel) rfl rfl rfl (by decide +kernel)
set_option maxRecDepth 65536 in
theorem w_c40 : (Jvm.Cond.code ({ cls := "com/example/hornwort/hornwort/Variable", name := "name", desc := "()Ljava/lang/String;" } : Jvm.MethodName) prog_69_method_2_code (1 : Nat) (Option.some (Jvm.ClassFile.FieldType.object "java/lang/String"))).before args0 about1 = true := code_word (m := ⟨3, 1⟩) (meth := k3m1) (c := k3c1) (by decide +kernel) rfl rfl rfl (by decide +kernel)
set_option maxRecDepth 65536 in
theorem w_c41 : (Jvm.Cond.code ({ cls := "java/lang/Integer", name := "valueOf", desc := "(I)Ljava/lang/Integer;" } : Jvm.MethodName) jdk_33_method_22_code (1 : Nat) (Option.some (Jvm.ClassFile.FieldType.object "java/lang/Integer"))).before args0 about1 = true := code_word (m := ⟨35, 0⟩) (meth := k35m0) (c := k35c0) (by decide +kernel) rfl rfl rfl (by decide +kernel)
set_option maxRecDepth 65536 in
theorem w_c42 : (Jvm.Cond.code ({ cls := "java/util/HashMap", name := "putIfAbsent", desc := "(Ljava/lang/Object;Ljava/lang/Object;)Ljava/lang/Object;" } : Jvm.MethodName) jdk_69_method_31_code (3 : Nat) (Option.some (Jvm.ClassFile.FieldType.object "java/lang/Object"))).before args0 about1 = true := code_word (m := ⟨33, 7⟩) (meth := k33m7) (c := k33c7) (by decide +kernel) rfl rfl rfl (by decide +kernel)
set_option maxRecDepth 65536 in
theorem w_c43 : (Jvm.Cond.code ({ cls := "java/util/HashMap", name := "hash", desc := "(Ljava/lang/Object;)I" } : Jvm.MethodName) jdk_69_method_1_code (2 : Nat) (Option.some Jvm.ClassFile.FieldType.int)).before args0 about1 = true := code_word (m := ⟨33, 0⟩) (meth := k33m0) (c := k33c0) (by decide +kernel) rfl rfl rfl (by decide +kernel)
set_option maxRecDepth 65536 in
theorem w_c44 : (Jvm.Cond.code ({ cls := "java/lang/String", name := "hashCode", desc := "()I" } : Jvm.MethodName) jdk_42_method_78_code (2 : Nat) (Option.some Jvm.ClassFile.FieldType.int)).before args0 about1 = true := code_word (m := ⟨9, 2⟩) (meth := k9m2) (c := k9c2) (by decide +kernel) rfl rfl rfl (by decide +kernel)
set_option maxRecDepth 65536 in
theorem w_c45 : (Jvm.Cond.code ({ cls := "java/lang/String", name := "isLatin1", desc := "()Z" } : Jvm.MethodName) jdk_42_method_154_code (1 : Nat) (Option.some Jvm.ClassFile.FieldType.boolean)).before args0 about1 = true := code_word (m := ⟨9, 5⟩) (meth := k9m5) (c := k9c5) (by decide +kernel) rfl rfl rfl (by decide +kernel)
set_option maxRecDepth 65536 in
theorem w_c46 : (Jvm.Cond.code ({ cls := "java/lang/StringLatin1", name := "hashCode", desc := "([B)I" } : Jvm.MethodName) jdk_43_method_21_code (1 : Nat) (Option.some Jvm.ClassFile.FieldType.int)).before args0 about1 = true := code_word (m := ⟨10, 3⟩) (meth := k10m3) (c := k10c3) (by decide +kernel) rfl rfl rfl (by decide +kernel)
set_option maxRecDepth 65536 in
theorem w_c47 : (Jvm.Cond.code ({ cls := "java/util/HashMap", name := "putVal", desc := "(ILjava/lang/Object;Ljava/lang/Object;ZZ)Ljava/lang/Object;" } : Jvm.MethodName) jdk_69_method_16_code (13 : Nat) (Option.some (Jvm.ClassFile.FieldType.object "java/lang/Object"))).before args0 about1 = true := code_word (m := ⟨33, 5⟩) (meth := k33m5) (c := k33c5) (by decide +kernel) rfl rfl rfl (by decide +kernel)
set_option maxRecDepth 65536 in
theorem w_c48 : (Jvm.Cond.code ({ cls := "java/util/HashMap", name := "resize", desc := "()[Ljava/util/HashMap$Node;" } : Jvm.MethodName) jdk_69_method_17_code (14 : Nat) (Option.some (Jvm.ClassFile.FieldType.array (Jvm.ClassFile.FieldType.object "java/util/HashMap$Node")))).before args0 about1 = true := code_word (m := ⟨33, 6⟩) (meth := k33m6) (c := k33c6) (by decide +kernel) rfl rfl rfl (by decide +kernel)
set_option maxRecDepth 65536 in
theorem w_c49 : (Jvm.Cond.code ({ cls := "java/util/HashMap", name := "newNode", desc := "(ILjava/lang/Object;Ljava/lang/Object;Ljava/util/HashMap$Node;)Ljava/util/HashMap$Node;" } : Jvm.MethodName) jdk_69_method_46_code (5 : Nat) (Option.some (Jvm.ClassFile.FieldType.object "java/util/HashMap$Node"))).before args0 about1 = true := code_word (m := ⟨33, 8⟩) (meth := k33m8) (c := k33c8) (by decide +kernel) rfl rfl rfl (by decide +kernel)
set_option maxRecDepth 65536 in
theorem w_c50 : (Jvm.Cond.code ({ cls := "java/util/HashMap$Node", name := "<init>", desc := "(ILjava/lang/Object;Ljava/lang/Object;Ljava/util/HashMap$Node;)V" } : Jvm.MethodName) jdk_70_method_1_code (5 : Nat) (Option.none : Option Jvm.ClassFile.FieldType)).before args0 about1 = true := code_word (m := ⟨38, 0⟩) (meth := k38m0) (c := k38c0) (by decide +kernel) rfl rfl rfl (by decide +kernel)
set_option maxRecDepth 65536 in
theorem w_c51 : (Jvm.Cond.code ({ cls := "java/util/HashMap", name := "afterNodeInsertion", desc := "(Z)V" } : Jvm.MethodName) jdk_69_method_52_code (2 : Nat) (Option.none : Option Jvm.ClassFile.FieldType)).before args0 about1 = true := code_word (m := ⟨33, 9⟩) (meth := k33m9) (c := k33c9) (by decide +kernel) rfl rfl rfl (by decide +kernel)
set_option maxRecDepth 65536 in
theorem w_c52 : (Jvm.Cond.code ({ cls := "java/util/HashSet", name := "<init>", desc := "()V" } : Jvm.MethodName) jdk_93_method_1_code (1 : Nat) (Option.none : Option Jvm.ClassFile.FieldType)).before args0 about1 = true := code_word (m := ⟨41, 0⟩) (meth := k41m0) (c := k41c0) (by decide +kernel) rfl rfl rfl (by decide +kernel)
set_option maxRecDepth 65536 in
theorem w_c53 : (Jvm.Cond.code ({ cls := "java/util/AbstractSet", name := "<init>", desc := "()V" } : Jvm.MethodName) jdk_91_method_1_code (1 : Nat) (Option.none : Option Jvm.ClassFile.FieldType)).before args0 about1 = true := code_word (m := ⟨40, 0⟩) (meth := k40m0) (c := k40c0) (by decide +kernel) rfl rfl rfl (by decide +kernel)
set_option maxRecDepth 65536 in
theorem w_c54 : (Jvm.Cond.code ({ cls := "java/util/ArrayList", name := "size", desc := "()I" } : Jvm.MethodName) jdk_38_method_8_code (1 : Nat) (Option.some Jvm.ClassFile.FieldType.int)).before args0 about1 = true := code_word (m := ⟨19, 3⟩) (meth := k19m3) (c := k19c3) (by decide +kernel) rfl rfl rfl (by decide +kernel)
set_option maxRecDepth 65536 in
theorem w_c55 : (Jvm.Cond.code ({ cls := "java/util/ArrayList", name := "get", desc := "(I)Ljava/lang/Object;" } : Jvm.MethodName) jdk_38_method_20_code (2 : Nat) (Option.some (Jvm.ClassFile.FieldType.object "java/lang/Object"))).before args0 about1 = true := code_word (m := ⟨19, 7⟩) (meth := k19m7) (c := k19c7) (by decide +kernel) rfl rfl rfl (by decide +kernel)
set_option maxRecDepth 65536 in
theorem w_c56 : (Jvm.Cond.code ({ cls := "java/util/Objects", name := "checkIndex", desc := "(II)I" } : Jvm.MethodName) jdk_31_method_17_code (2 : Nat) (Option.some Jvm.ClassFile.FieldType.int)).before args0 about1 = true := code_word (m := ⟨30, 2⟩) (meth := k30m2) (c := k30c2) (by decide +kernel) rfl rfl rfl (by decide +kernel)
set_option maxRecDepth 65536 in
theorem w_c57 : (Jvm.Cond.code ({ cls := "jdk/internal/util/Preconditions", name := "checkIndex", desc := "(IILjava/util/function/BiFunction;)I" } : Jvm.MethodName) jdk_41_method_11_code (3 : Nat) (Option.some Jvm.ClassFile.FieldType.int)).before args0 about1 = true := code_word (m := ⟨42, 1⟩) (meth := k42m1) (c := k42c1) (by decide +kernel) rfl rfl rfl (by decide +kernel)
set_option maxRecDepth 65536 in
theorem w_c58 : (Jvm.Cond.code ({ cls := "java/util/ArrayList", name := "elementData", desc := "(I)Ljava/lang/Object;" } : Jvm.MethodName) jdk_38_method_18_code (2 : Nat) (Option.some (Jvm.ClassFile.FieldType.object "java/lang/Object"))).before args0 about1 = true := code_word (m := ⟨19, 6⟩) (meth := k19m6) (c := k19c6) (by decide +kernel) rfl rfl rfl (by decide +kernel)
set_option maxRecDepth 65536 in
theorem w_c59 : (Jvm.Cond.code ({ cls := "com/example/hornwort/hornwort/Selection", name := "place", desc := "(Lcom/example/hornwort/hornwort/Variable;Ljava/util/Map;Ljava/util/Set;)I" } : Jvm.MethodName) prog_48_method_2_code (5 : Nat) (Option.some Jvm.ClassFile.FieldType.int)).before args0 about1 = true := code_word (m := ⟨21, 1⟩) (meth := k21m1) (c := k21c1) (by decide +kernel) rfl rfl rfl (by decide +kernel)
set_option maxRecDepth 65536 in
theorem w_c60 : (Jvm.Cond.code ({ cls := "java/util/HashMap", name := "get", desc := "(Ljava/lang/Object;)Ljava/lang/Object;" } : Jvm.MethodName) jdk_69_method_12_code (3 : Nat) (Option.some (Jvm.ClassFile.FieldType.object "java/lang/Object"))).before args0 about1 = true := code_word (m := ⟨33, 2⟩) (meth := k33m2) (c := k33c2) (by decide +kernel) rfl rfl rfl (by decide +kernel)
set_option maxRecDepth 65536 in
theorem w_c61 : (Jvm.Cond.code ({ cls := "java/util/HashMap", name := "getNode", desc := "(Ljava/lang/Object;)Ljava/util/HashMap$Node;" } : Jvm.MethodName) jdk_69_method_13_code (8 : Nat) (Option.some (Jvm.ClassFile.FieldType.object "java/util/HashMap$Node"))).before args0 about1 = true := code_word (m := ⟨33, 3⟩) (meth := k33m3) (c := k33c3) (by decide +kernel) rfl rfl rfl (by decide +kernel)
set_option maxRecDepth 65536 in
theorem w_c62 : (Jvm.Cond.code ({ cls := "java/util/HashSet", name := "add", desc := "(Ljava/lang/Object;)Z" } : Jvm.MethodName) jdk_93_method_10_code (2 : Nat) (Option.some Jvm.ClassFile.FieldType.boolean)).before args0 about1 = true := code_word (m := ⟨41, 1⟩) (meth := k41m1) (c := k41c1) (by decide +kernel) rfl rfl rfl (by decide +kernel)
set_option maxRecDepth 65536 in
theorem w_c63 : (Jvm.Cond.code ({ cls := "java/util/HashMap", name := "put", desc := "(Ljava/lang/Object;Ljava/lang/Object;)Ljava/lang/Object;" } : Jvm.MethodName) jdk_69_method_15_code (3 : Nat) (Option.some (Jvm.ClassFile.FieldType.object "java/lang/Object"))).before args0 about1 = true := code_word (m := ⟨33, 4⟩) (meth := k33m4) (c := k33c4) (by decide +kernel) rfl rfl rfl (by decide +kernel)
set_option maxRecDepth 65536 in
theorem w_c64 : (Jvm.Cond.code ({ cls := "java/lang/Integer", name := "intValue", desc := "()I" } : Jvm.MethodName) jdk_33_method_27_code (1 : Nat) (Option.some Jvm.ClassFile.FieldType.int)).before args0 about1 = true := code_word (m := ⟨35, 1⟩) (meth := k35m1) (c := k35c1) (by decide +kernel) rfl rfl rfl (by decide +kernel)
set_option maxRecDepth 65536 in
theorem w_c65 : (Jvm.Cond.code ({ cls := "com/example/hornwort/hornwort/Selection", name := "groups", desc := "(I)Z" } : Jvm.MethodName) prog_48_method_6_code (6 : Nat) (Option.some Jvm.ClassFile.FieldType.boolean)).before args0 about1 = true := code_word (m := ⟨21, 2⟩) (meth := k21m2) (c := k21c2) (by decide +kernel) rfl rfl rfl (by decide +kernel)
set_option maxRecDepth 65536 in
theorem w_c66 : (Jvm.Cond.code ({ cls := "java/util/ImmutableCollections$List12", name := "<init>", desc := "(Ljava/lang/Object;)V" } : Jvm.MethodName) jdk_44_method_1_code (2 : Nat) (Option.none : Option Jvm.ClassFile.FieldType)).before args0 about1 = true := code_word (m := ⟨26, 0⟩) (meth := k26m0) (c := k26c0) (by decide +kernel) rfl rfl rfl (by decide +kernel)
set_option maxRecDepth 65536 in
theorem w_c67 : (Jvm.Cond.code ({ cls := "java/util/List", name := "of", desc := "()Ljava/util/List;" } : Jvm.MethodName) jdk_40_method_36_code (0 : Nat) (Option.some (Jvm.ClassFile.FieldType.object "java/util/List"))).before args0 about1 = true := code_word (m := ⟨15, 3⟩) (meth := k15m3) (c := k15c3) (by decide +kernel) rfl rfl rfl (by decide +kernel)
def codes1 : List Jvm.Cond := [Jvm.Cond.code x code maxLocals ret, Jvm.Cond.code ({ cls := "java/lang/String", name := "valueOf", desc := "(C)Ljava/lang/String;" } : Jvm.MethodName) jdk_42_method_139_code (1 : Nat) (Option.some (Jvm.ClassFile.FieldType.object "java/lang/String")), Jvm.Cond.code ({ cls := "java/lang/StringLatin1", name := "canEncode", desc := "(C)Z" } : Jvm.MethodName) jdk_43_method_3_code (1 : Nat) (Option.some Jvm.ClassFile.FieldType.boolean), Jvm.Cond.code ({ cls := "java/lang/StringLatin1", name := "toBytes", desc := "(C)[B" } : Jvm.MethodName) jdk_43_method_46_code (1 : Nat) (Option.some (Jvm.ClassFile.FieldType.array Jvm.ClassFile.FieldType.byte)), Jvm.Cond.code ({ cls := "java/lang/String", name := "<init>", desc := "([BB)V" } : Jvm.MethodName) jdk_42_method_151_code (3 : Nat) (Option.none : Option Jvm.ClassFile.FieldType), Jvm.Cond.code ({ cls := "java/lang/Object", name := "<init>", desc := "()V" } : Jvm.MethodName) object_method_1_code (1 : Nat) (Option.none : Option Jvm.ClassFile.FieldType), Jvm.Cond.code ({ cls := "com/example/hornwort/hornwort/Variable", name := "<init>", desc := "(Ljava/lang/String;Lcom/example/hornwort/hornwort/Position;)V" } : Jvm.MethodName) prog_69_method_1_code (3 : Nat) (Option.none : Option Jvm.ClassFile.FieldType), Jvm.Cond.code ({ cls := "com/example/hornwort/hornwort/Term", name := "<init>", desc := "()V" } : Jvm.MethodName) prog_63_method_1_code (1 : Nat) (Option.none : Option Jvm.ClassFile.FieldType), Jvm.Cond.code ({ cls := "java/util/ArrayList", name := "<init>", desc := "()V" } : Jvm.MethodName) jdk_38_method_2_code (1 : Nat) (Option.none : Option Jvm.ClassFile.FieldType), Jvm.Cond.code ({ cls := "java/util/AbstractList", name := "<init>", desc := "()V" } : Jvm.MethodName) jdk_39_method_1_code (1 : Nat) (Option.none : Option Jvm.ClassFile.FieldType), Jvm.Cond.code ({ cls := "java/util/AbstractCollection", name := "<init>", desc := "()V" } : Jvm.MethodName) jdk_22_method_1_code (1 : Nat) (Option.none : Option Jvm.ClassFile.FieldType), Jvm.Cond.code ({ cls := "java/util/ArrayList", name := "add", desc := "(Ljava/lang/Object;)Z" } : Jvm.MethodName) jdk_38_method_25_code (2 : Nat) (Option.some Jvm.ClassFile.FieldType.boolean), Jvm.Cond.code ({ cls := "java/util/ArrayList", name := "add", desc := "(Ljava/lang/Object;[Ljava/lang/Object;I)V" } : Jvm.MethodName) jdk_38_method_24_code (4 : Nat) (Option.none : Option Jvm.ClassFile.FieldType), Jvm.Cond.code ({ cls := "java/util/ArrayList", name := "grow", desc := "()[Ljava/lang/Object;" } : Jvm.MethodName) jdk_38_method_7_code (1 : Nat) (Option.some (Jvm.ClassFile.FieldType.array (Jvm.ClassFile.FieldType.object "java/lang/Object"))), Jvm.Cond.code ({ cls := "java/util/ArrayList", name := "grow", desc := "(I)[Ljava/lang/Object;" } : Jvm.MethodName) jdk_38_method_6_code (4 : Nat) (Option.some (Jvm.ClassFile.FieldType.array (Jvm.ClassFile.FieldType.object "java/lang/Object"))), Jvm.Cond.code ({ cls := "java/lang/Math", name := "max", desc := "(II)I" } : Jvm.MethodName) jdk_29_method_65_code (2 : Nat) (Option.some Jvm.ClassFile.FieldType.int), Jvm.Cond.code ({ cls := "com/example/hornwort/hornwort/Atom", name := "<init>", desc := "(Ljava/lang/String;Ljava/util/List;)V" } : Jvm.MethodName) prog_7_method_1_code (3 : Nat) (Option.none : Option Jvm.ClassFile.FieldType), Jvm.Cond.code ({ cls := "java/util/List", name := "copyOf", desc := "(Ljava/util/Collection;)Ljava/util/List;" } : Jvm.MethodName) jdk_40_method_48_code (1 : Nat) (Option.some (Jvm.ClassFile.FieldType.object "java/util/List")), Jvm.Cond.code ({ cls := "java/util/ImmutableCollections", name := "listCopy", desc := "(Ljava/util/Collection;)Ljava/util/List;" } : Jvm.MethodName) jdk_56_method_3_code (2 : Nat) (Option.some (Jvm.ClassFile.FieldType.object "java/util/List")), Jvm.Cond.code ({ cls := "java/util/ArrayList", name := "isEmpty", desc := "()Z" } : Jvm.MethodName) jdk_38_method_9_code (1 : Nat) (Option.some Jvm.ClassFile.FieldType.boolean), Jvm.Cond.code ({ cls := "java/util/ArrayList", name := "toArray", desc := "()[Ljava/lang/Object;" } : Jvm.MethodName) jdk_38_method_16_code (1 : Nat) (Option.some (Jvm.ClassFile.FieldType.array (Jvm.ClassFile.FieldType.object "java/lang/Object"))), Jvm.Cond.code ({ cls := "java/util/Arrays", name := "copyOf", desc := "([Ljava/lang/Object;I)[Ljava/lang/Object;" } : Jvm.MethodName) jdk_65_method_119_code (2 : Nat) (Option.some (Jvm.ClassFile.FieldType.array (Jvm.ClassFile.FieldType.object "java/lang/Object"))), Jvm.Cond.code ({ cls := "java/util/Arrays", name := "copyOf", desc := "([Ljava/lang/Object;ILjava/lang/Class;)[Ljava/lang/Object;" } : Jvm.MethodName) jdk_65_method_120_code (4 : Nat) (Option.some (Jvm.ClassFile.FieldType.array (Jvm.ClassFile.FieldType.object "java/lang/Object"))), Jvm.Cond.code ({ cls := "java/lang/Math", name := "min", desc := "(II)I" } : Jvm.MethodName) jdk_29_method_69_code (2 : Nat) (Option.some Jvm.ClassFile.FieldType.int), Jvm.Cond.code ({ cls := "java/util/List", name := "of", desc := "([Ljava/lang/Object;)Ljava/util/List;" } : Jvm.MethodName) jdk_40_method_47_code (2 : Nat) (Option.some (Jvm.ClassFile.FieldType.object "java/util/List")), Jvm.Cond.code ({ cls := "java/util/ImmutableCollections", name := "listFromArray", desc := "([Ljava/lang/Object;)Ljava/util/List;" } : Jvm.MethodName) jdk_56_method_4_code (3 : Nat) (Option.some (Jvm.ClassFile.FieldType.object "java/util/List")), Jvm.Cond.code ({ cls := "java/util/Objects", name := "requireNonNull", desc := "(Ljava/lang/Object;)Ljava/lang/Object;" } : Jvm.MethodName) jdk_31_method_10_code (1 : Nat) (Option.some (Jvm.ClassFile.FieldType.object "java/lang/Object")), Jvm.Cond.code ({ cls := "java/util/ImmutableCollections$ListN", name := "<init>", desc := "([Ljava/lang/Object;Z)V" } : Jvm.MethodName) jdk_45_method_1_code (3 : Nat) (Option.none : Option Jvm.ClassFile.FieldType), Jvm.Cond.code ({ cls := "java/util/ImmutableCollections$AbstractImmutableList", name := "<init>", desc := "()V" } : Jvm.MethodName) jdk_46_method_1_code (1 : Nat) (Option.none : Option Jvm.ClassFile.FieldType), Jvm.Cond.code ({ cls := "java/util/ImmutableCollections$AbstractImmutableCollection", name := "<init>", desc := "()V" } : Jvm.MethodName) jdk_47_method_1_code (1 : Nat) (Option.none : Option Jvm.ClassFile.FieldType), Jvm.Cond.code ({ cls := "com/example/hornwort/hornwort/Selection", name := "<init>", desc := "(Lcom/example/hornwort/hornwort/Atom;Ljava/util/List;Lcom/example/hornwort/hornwort/Aggregate$Function;Lcom/example/hornwort/hornwort/Variable;Lcom/example/hornwort/hornwort/Position;)V" } : Jvm.MethodName) prog_48_method_1_code (9 : Nat) (Option.none : Option Jvm.ClassFile.FieldType), Jvm.Cond.code ({ cls := "java/util/ImmutableCollections$List12", name := "<init>", desc := "(Ljava/lang/Object;Ljava/lang/Object;)V" } : Jvm.MethodName) jdk_44_method_2_code (3 : Nat) (Option.none : Option Jvm.ClassFile.FieldType), Jvm.Cond.code ({ cls := "java/util/HashMap", name := "<init>", desc := "()V" } : Jvm.MethodName) jdk_69_method_7_code (1 : Nat) (Option.none : Option Jvm.ClassFile.FieldType), Jvm.Cond.code ({ cls := "java/util/AbstractMap", name := "<init>", desc := "()V" } : Jvm.MethodName) jdk_71_method_1_code (1 : Nat) (Option.none : Option Jvm.ClassFile.FieldType), Jvm.Cond.code ({ cls := "com/example/hornwort/hornwort/Atom", name := "args", desc := "()Ljava/util/List;" } : Jvm.MethodName) prog_7_method_3_code (1 : Nat) (Option.some (Jvm.ClassFile.FieldType.object "java/util/List")), Jvm.Cond.code ({ cls := "java/util/ImmutableCollections$ListN", name := "size", desc := "()I" } : Jvm.MethodName) jdk_45_method_3_code (1 : Nat) (Option.some Jvm.ClassFile.FieldType.int), Jvm.Cond.code ({ cls := "java/util/ImmutableCollections$ListN", name := "get", desc := "(I)Ljava/lang/Object;" } : Jvm.MethodName) jdk_45_method_4_code (2 : Nat) (Option.some (Jvm.ClassFile.FieldType.object "java/lang/Object")), Jvm.Cond.code ({ cls := "com/example/hornwort/hornwort/Variable", name := "isAnonymous", desc := "()Z" } : Jvm.MethodName) prog_69_method_4_code (1 : Nat) (Option.some Jvm.ClassFile.FieldType.boolean), Jvm.Cond.code ({ cls := "java/lang/String", name := "equals", desc := "(Ljava/lang/Object;)Z" } : Jvm.MethodName) jdk_42_method_66_code (3 : Nat) (Option.some Jvm.ClassFile.FieldType.boolean), Jvm.Cond.code ({ cls := "java/lang/StringLatin1", name := "equals", desc := "([B[B)Z" } : Jvm.MethodName) jdk_43_method_13_code (3 : Nat) (Option.some Jvm.ClassFile.FieldType.boolean), Jvm.Cond.code ({ cls := "com/example/hornwort/hornwort/Variable", name := "name", desc := "()Ljava/lang/String;" } : Jvm.MethodName) prog_69_method_2_code (1 : Nat) (Option.some (Jvm.ClassFile.FieldType.object "java/lang/String")), Jvm.Cond.code ({ cls := "java/lang/Integer", name := "valueOf", desc := "(I)Ljava/lang/Integer;" } : Jvm.MethodName) jdk_33_method_22_code (1 : Nat) (Option.some (Jvm.ClassFile.FieldType.object "java/lang/Integer")), Jvm.Cond.code ({ cls := "java/util/HashMap", name := "putIfAbsent", desc := "(Ljava/lang/Object;Ljava/lang/Object;)Ljava/lang/Object;" } : Jvm.MethodName) jdk_69_method_31_code (3 : Nat) (Option.some (Jvm.ClassFile.FieldType.object "java/lang/Object")), Jvm.Cond.code ({ cls := "java/util/HashMap", name := "hash", desc := "(Ljava/lang/Object;)I" } : Jvm.MethodName) jdk_69_method_1_code (2 : Nat) (Option.some Jvm.ClassFile.FieldType.int), Jvm.Cond.code ({ cls := "java/lang/String", name := "hashCode", desc := "()I" } : Jvm.MethodName) jdk_42_method_78_code (2 : Nat) (Option.some Jvm.ClassFile.FieldType.int), Jvm.Cond.code ({ cls := "java/lang/String", name := "isLatin1", desc := "()Z" } : Jvm.MethodName) jdk_42_method_154_code (1 : Nat) (Option.some Jvm.ClassFile.FieldType.boolean), Jvm.Cond.code ({ cls := "java/lang/StringLatin1", name := "hashCode", desc := "([B)I" } : Jvm.MethodName) jdk_43_method_21_code (1 : Nat) (Option.some Jvm.ClassFile.FieldType.int), Jvm.Cond.code ({ cls := "java/util/HashMap", name := "putVal", desc := "(ILjava/lang/Object;Ljava/lang/Object;ZZ)Ljava/lang/Object;" } : Jvm.MethodName) jdk_69_method_16_code (13 : Nat) (Option.some (Jvm.ClassFile.FieldType.object "java/lang/Object")), Jvm.Cond.code ({ cls := "java/util/HashMap", name := "resize", desc := "()[Ljava/util/HashMap$Node;" } : Jvm.MethodName) jdk_69_method_17_code (14 : Nat) (Option.some (Jvm.ClassFile.FieldType.array (Jvm.ClassFile.FieldType.object "java/util/HashMap$Node"))), Jvm.Cond.code ({ cls := "java/util/HashMap", name := "newNode", desc := "(ILjava/lang/Object;Ljava/lang/Object;Ljava/util/HashMap$Node;)Ljava/util/HashMap$Node;" } : Jvm.MethodName) jdk_69_method_46_code (5 : Nat) (Option.some (Jvm.ClassFile.FieldType.object "java/util/HashMap$Node")), Jvm.Cond.code ({ cls := "java/util/HashMap$Node", name := "<init>", desc := "(ILjava/lang/Object;Ljava/lang/Object;Ljava/util/HashMap$Node;)V" } : Jvm.MethodName) jdk_70_method_1_code (5 : Nat) (Option.none : Option Jvm.ClassFile.FieldType), Jvm.Cond.code ({ cls := "java/util/HashMap", name := "afterNodeInsertion", desc := "(Z)V" } : Jvm.MethodName) jdk_69_method_52_code (2 : Nat) (Option.none : Option Jvm.ClassFile.FieldType), Jvm.Cond.code ({ cls := "java/util/HashSet", name := "<init>", desc := "()V" } : Jvm.MethodName) jdk_93_method_1_code (1 : Nat) (Option.none : Option Jvm.ClassFile.FieldType), Jvm.Cond.code ({ cls := "java/util/AbstractSet", name := "<init>", desc := "()V" } : Jvm.MethodName) jdk_91_method_1_code (1 : Nat) (Option.none : Option Jvm.ClassFile.FieldType), Jvm.Cond.code ({ cls := "java/util/ArrayList", name := "size", desc := "()I" } : Jvm.MethodName) jdk_38_method_8_code (1 : Nat) (Option.some Jvm.ClassFile.FieldType.int), Jvm.Cond.code ({ cls := "java/util/ArrayList", name := "get", desc := "(I)Ljava/lang/Object;" } : Jvm.MethodName) jdk_38_method_20_code (2 : Nat) (Option.some (Jvm.ClassFile.FieldType.object "java/lang/Object")), Jvm.Cond.code ({ cls := "java/util/Objects", name := "checkIndex", desc := "(II)I" } : Jvm.MethodName) jdk_31_method_17_code (2 : Nat) (Option.some Jvm.ClassFile.FieldType.int), Jvm.Cond.code ({ cls := "jdk/internal/util/Preconditions", name := "checkIndex", desc := "(IILjava/util/function/BiFunction;)I" } : Jvm.MethodName) jdk_41_method_11_code (3 : Nat) (Option.some Jvm.ClassFile.FieldType.int), Jvm.Cond.code ({ cls := "java/util/ArrayList", name := "elementData", desc := "(I)Ljava/lang/Object;" } : Jvm.MethodName) jdk_38_method_18_code (2 : Nat) (Option.some (Jvm.ClassFile.FieldType.object "java/lang/Object")), Jvm.Cond.code ({ cls := "com/example/hornwort/hornwort/Selection", name := "place", desc := "(Lcom/example/hornwort/hornwort/Variable;Ljava/util/Map;Ljava/util/Set;)I" } : Jvm.MethodName) prog_48_method_2_code (5 : Nat) (Option.some Jvm.ClassFile.FieldType.int), Jvm.Cond.code ({ cls := "java/util/HashMap", name := "get", desc := "(Ljava/lang/Object;)Ljava/lang/Object;" } : Jvm.MethodName) jdk_69_method_12_code (3 : Nat) (Option.some (Jvm.ClassFile.FieldType.object "java/lang/Object")), Jvm.Cond.code ({ cls := "java/util/HashMap", name := "getNode", desc := "(Ljava/lang/Object;)Ljava/util/HashMap$Node;" } : Jvm.MethodName) jdk_69_method_13_code (8 : Nat) (Option.some (Jvm.ClassFile.FieldType.object "java/util/HashMap$Node")), Jvm.Cond.code ({ cls := "java/util/HashSet", name := "add", desc := "(Ljava/lang/Object;)Z" } : Jvm.MethodName) jdk_93_method_10_code (2 : Nat) (Option.some Jvm.ClassFile.FieldType.boolean), Jvm.Cond.code ({ cls := "java/util/HashMap", name := "put", desc := "(Ljava/lang/Object;Ljava/lang/Object;)Ljava/lang/Object;" } : Jvm.MethodName) jdk_69_method_15_code (3 : Nat) (Option.some (Jvm.ClassFile.FieldType.object "java/lang/Object")), Jvm.Cond.code ({ cls := "java/lang/Integer", name := "intValue", desc := "()I" } : Jvm.MethodName) jdk_33_method_27_code (1 : Nat) (Option.some Jvm.ClassFile.FieldType.int), Jvm.Cond.code ({ cls := "com/example/hornwort/hornwort/Selection", name := "groups", desc := "(I)Z" } : Jvm.MethodName) prog_48_method_6_code (6 : Nat) (Option.some Jvm.ClassFile.FieldType.boolean), Jvm.Cond.code ({ cls := "java/util/ImmutableCollections$List12", name := "<init>", desc := "(Ljava/lang/Object;)V" } : Jvm.MethodName) jdk_44_method_1_code (2 : Nat) (Option.none : Option Jvm.ClassFile.FieldType), Jvm.Cond.code ({ cls := "java/util/List", name := "of", desc := "()Ljava/util/List;" } : Jvm.MethodName) jdk_40_method_36_code (0 : Nat) (Option.some (Jvm.ClassFile.FieldType.object "java/util/List"))]
set_option maxRecDepth 65536 in
theorem codes_eq : words1.filter isCode = codes1 := rfl
theorem w_codes : ∀ c ∈ words1.filter isCode, c.before args0 about1 = true := by
  rw [codes_eq]
  intro c hc
  simp only [codes1, List.mem_cons, List.not_mem_nil, or_false] at hc
  rcases hc with rfl | rfl | rfl | rfl | rfl | rfl | rfl | rfl | rfl | rfl | rfl | rfl | rfl | rfl | rfl | rfl | rfl | rfl | rfl | rfl | rfl | rfl | rfl | rfl | rfl | rfl | rfl | rfl | rfl | rfl | rfl | rfl | rfl | rfl | rfl | rfl | rfl | rfl | rfl | rfl | rfl | rfl | rfl | rfl | rfl | rfl | rfl | rfl | rfl | rfl | rfl | rfl | rfl | rfl | rfl | rfl | rfl | rfl | rfl | rfl | rfl | rfl | rfl | rfl | rfl | rfl | rfl | rfl
  · exact w_c0
  · exact w_c1
  · exact w_c2
  · exact w_c3
  · exact w_c4
  · exact w_c5
  · exact w_c6
  · exact w_c7
  · exact w_c8
  · exact w_c9
  · exact w_c10
  · exact w_c11
  · exact w_c12
  · exact w_c13
  · exact w_c14
  · exact w_c15
  · exact w_c16
  · exact w_c17
  · exact w_c18
  · exact w_c19
  · exact w_c20
  · exact w_c21
  · exact w_c22
  · exact w_c23
  · exact w_c24
  · exact w_c25
  · exact w_c26
  · exact w_c27
  · exact w_c28
  · exact w_c29
  · exact w_c30
  · exact w_c31
  · exact w_c32
  · exact w_c33
  · exact w_c34
  · exact w_c35
  · exact w_c36
  · exact w_c37
  · exact w_c38
  · exact w_c39
  · exact w_c40
  · exact w_c41
  · exact w_c42
  · exact w_c43
  · exact w_c44
  · exact w_c45
  · exact w_c46
  · exact w_c47
  · exact w_c48
  · exact w_c49
  · exact w_c50
  · exact w_c51
  · exact w_c52
  · exact w_c53
  · exact w_c54
  · exact w_c55
  · exact w_c56
  · exact w_c57
  · exact w_c58
  · exact w_c59
  · exact w_c60
  · exact w_c61
  · exact w_c62
  · exact w_c63
  · exact w_c64
  · exact w_c65
  · exact w_c66
  · exact w_c67
set_option maxRecDepth 65536 in
theorem w_t1 : (words1.take 24).all (fun c => isCode c || c.before args0 about1) = true := by decide +kernel
set_option maxRecDepth 65536 in
theorem w_t2 : ((words1.drop 24).take 24).all (fun c => isCode c || c.before args0 about1) = true := by decide +kernel
set_option maxRecDepth 65536 in
theorem w_t3 : (((words1.drop 24).drop 24).take 24).all (fun c => isCode c || c.before args0 about1) = true := by decide +kernel
set_option maxRecDepth 65536 in
theorem w_t4 : ((((words1.drop 24).drop 24).drop 24).take 24).all (fun c => isCode c || c.before args0 about1) = true := by decide +kernel
set_option maxRecDepth 65536 in
theorem w_t5 : (((((words1.drop 24).drop 24).drop 24).drop 24).take 24).all (fun c => isCode c || c.before args0 about1) = true := by decide +kernel
set_option maxRecDepth 65536 in
theorem w_t6 : ((((((words1.drop 24).drop 24).drop 24).drop 24).drop 24).take 24).all (fun c => isCode c || c.before args0 about1) = true := by decide +kernel
set_option maxRecDepth 65536 in
theorem w_t7 : (((((((words1.drop 24).drop 24).drop 24).drop 24).drop 24).drop 24).take 24).all (fun c => isCode c || c.before args0 about1) = true := by decide +kernel
set_option maxRecDepth 65536 in
theorem w_t8 : ((((((((words1.drop 24).drop 24).drop 24).drop 24).drop 24).drop 24).drop 24).take 24).all (fun c => isCode c || c.before args0 about1) = true := by decide +kernel
set_option maxRecDepth 65536 in
theorem w_t9 : (((((((((words1.drop 24).drop 24).drop 24).drop 24).drop 24).drop 24).drop 24).drop 24).take 24).all (fun c => isCode c || c.before args0 about1) = true := by decide +kernel
set_option maxRecDepth 65536 in
theorem w_t10 : ((((((((((words1.drop 24).drop 24).drop 24).drop 24).drop 24).drop 24).drop 24).drop 24).drop 24).take 24).all (fun c => isCode c || c.before args0 about1) = true := by decide +kernel
set_option maxRecDepth 65536 in
theorem w_t11 : (((((((((((words1.drop 24).drop 24).drop 24).drop 24).drop 24).drop 24).drop 24).drop 24).drop 24).drop 24).take 24).all (fun c => isCode c || c.before args0 about1) = true := by decide +kernel
set_option maxRecDepth 65536 in
theorem w_t12 : ((((((((((((words1.drop 24).drop 24).drop 24).drop 24).drop 24).drop 24).drop 24).drop 24).drop 24).drop 24).drop 24).take 24).all (fun c => isCode c || c.before args0 about1) = true := by decide +kernel
set_option maxRecDepth 65536 in
theorem w_t13 : (((((((((((((words1.drop 24).drop 24).drop 24).drop 24).drop 24).drop 24).drop 24).drop 24).drop 24).drop 24).drop 24).drop 24).take 24).all (fun c => isCode c || c.before args0 about1) = true := by decide +kernel
set_option maxRecDepth 65536 in
theorem w_t14 : ((((((((((((((words1.drop 24).drop 24).drop 24).drop 24).drop 24).drop 24).drop 24).drop 24).drop 24).drop 24).drop 24).drop 24).drop 24).take 24).all (fun c => isCode c || c.before args0 about1) = true := by decide +kernel
set_option maxRecDepth 65536 in
theorem w_t15 : (((((((((((((((words1.drop 24).drop 24).drop 24).drop 24).drop 24).drop 24).drop 24).drop 24).drop 24).drop 24).drop 24).drop 24).drop 24).drop 24).take 24).all (fun c => isCode c || c.before args0 about1) = true := by decide +kernel
set_option maxRecDepth 65536 in
theorem w_t16 : ((((((((((((((((words1.drop 24).drop 24).drop 24).drop 24).drop 24).drop 24).drop 24).drop 24).drop 24).drop 24).drop 24).drop 24).drop 24).drop 24).drop 24).take 24).all (fun c => isCode c || c.before args0 about1) = true := by decide +kernel
set_option maxRecDepth 65536 in
theorem w_t17 : (((((((((((((((((words1.drop 24).drop 24).drop 24).drop 24).drop 24).drop 24).drop 24).drop 24).drop 24).drop 24).drop 24).drop 24).drop 24).drop 24).drop 24).drop 24).take 24).all (fun c => isCode c || c.before args0 about1) = true := by decide +kernel
set_option maxRecDepth 65536 in
theorem w_t18 : ((((((((((((((((((words1.drop 24).drop 24).drop 24).drop 24).drop 24).drop 24).drop 24).drop 24).drop 24).drop 24).drop 24).drop 24).drop 24).drop 24).drop 24).drop 24).drop 24).take 24).all (fun c => isCode c || c.before args0 about1) = true := by decide +kernel
set_option maxRecDepth 65536 in
theorem w_t19 : (((((((((((((((((((words1.drop 24).drop 24).drop 24).drop 24).drop 24).drop 24).drop 24).drop 24).drop 24).drop 24).drop 24).drop 24).drop 24).drop 24).drop 24).drop 24).drop 24).drop 24).take 24).all (fun c => isCode c || c.before args0 about1) = true := by decide +kernel
set_option maxRecDepth 65536 in
theorem w_t20 : ((((((((((((((((((((words1.drop 24).drop 24).drop 24).drop 24).drop 24).drop 24).drop 24).drop 24).drop 24).drop 24).drop 24).drop 24).drop 24).drop 24).drop 24).drop 24).drop 24).drop 24).drop 24).take 24).all (fun c => isCode c || c.before args0 about1) = true := by decide +kernel
set_option maxRecDepth 65536 in
theorem w_t21 : ((((((((((((((((((((words1.drop 24).drop 24).drop 24).drop 24).drop 24).drop 24).drop 24).drop 24).drop 24).drop 24).drop 24).drop 24).drop 24).drop 24).drop 24).drop 24).drop 24).drop 24).drop 24).drop 24).all (fun c => isCode c || c.before args0 about1) = true := by decide +kernel
theorem w_tables : (allAtoms (Jvm.Cond.code x code maxLocals ret :: tables_1)).before args0 about1 = true := by
  rw [allAtoms_all]
  show words1.all (fun c => c.before args0 about1) = true
  refine all_split ?_ w_codes
  rw [← List.take_append_drop 24 words1, List.all_append, w_t1, ← List.take_append_drop 24 (words1.drop 24), List.all_append, w_t2, ← List.take_append_drop 24 ((words1.drop 24).drop 24), List.all_append, w_t3, ← List.take_append_drop 24 (((words1.drop 24).drop 24).drop 24), List.all_append, w_t4, ← List.take_append_drop 24 ((((words1.drop 24).drop 24).drop 24).drop 24), List.all_append, w_t5, ← List.take_append_drop 24 (((((words1.drop 24).drop 24).drop 24).drop 24).drop 24), List.all_append, w_t6, ← List.take_append_drop 24 ((((((words1.drop 24).drop 24).drop 24).drop 24).drop 24).drop 24), List.all_append, w_t7, ← List.take_append_drop 24 (((((((words1.drop 24).drop 24).drop 24).drop 24).drop 24).drop 24).drop 24), List.all_append, w_t8, ← List.take_append_drop 24 ((((((((words1.drop 24).drop 24).drop 24).drop 24).drop 24).drop 24).drop 24).drop 24), List.all_append, w_t9, ← List.take_append_drop 24 (((((((((words1.drop 24).drop 24).drop 24).drop 24).drop 24).drop 24).drop 24).drop 24).drop 24), List.all_append, w_t10, ← List.take_append_drop 24 ((((((((((words1.drop 24).drop 24).drop 24).drop 24).drop 24).drop 24).drop 24).drop 24).drop 24).drop 24), List.all_append, w_t11, ← List.take_append_drop 24 (((((((((((words1.drop 24).drop 24).drop 24).drop 24).drop 24).drop 24).drop 24).drop 24).drop 24).drop 24).drop 24), List.all_append, w_t12, ← List.take_append_drop 24 ((((((((((((words1.drop 24).drop 24).drop 24).drop 24).drop 24).drop 24).drop 24).drop 24).drop 24).drop 24).drop 24).drop 24), List.all_append, w_t13, ← List.take_append_drop 24 (((((((((((((words1.drop 24).drop 24).drop 24).drop 24).drop 24).drop 24).drop 24).drop 24).drop 24).drop 24).drop 24).drop 24).drop 24), List.all_append, w_t14, ← List.take_append_drop 24 ((((((((((((((words1.drop 24).drop 24).drop 24).drop 24).drop 24).drop 24).drop 24).drop 24).drop 24).drop 24).drop 24).drop 24).drop 24).drop 24), List.all_append, w_t15, ← List.take_append_drop 24 (((((((((((((((words1.drop 24).drop 24).drop 24).drop 24).drop 24).drop 24).drop 24).drop 24).drop 24).drop 24).drop 24).drop 24).drop 24).drop 24).drop 24), List.all_append, w_t16, ← List.take_append_drop 24 ((((((((((((((((words1.drop 24).drop 24).drop 24).drop 24).drop 24).drop 24).drop 24).drop 24).drop 24).drop 24).drop 24).drop 24).drop 24).drop 24).drop 24).drop 24), List.all_append, w_t17, ← List.take_append_drop 24 (((((((((((((((((words1.drop 24).drop 24).drop 24).drop 24).drop 24).drop 24).drop 24).drop 24).drop 24).drop 24).drop 24).drop 24).drop 24).drop 24).drop 24).drop 24).drop 24), List.all_append, w_t18, ← List.take_append_drop 24 ((((((((((((((((((words1.drop 24).drop 24).drop 24).drop 24).drop 24).drop 24).drop 24).drop 24).drop 24).drop 24).drop 24).drop 24).drop 24).drop 24).drop 24).drop 24).drop 24).drop 24), List.all_append, w_t19, ← List.take_append_drop 24 (((((((((((((((((((words1.drop 24).drop 24).drop 24).drop 24).drop 24).drop 24).drop 24).drop 24).drop 24).drop 24).drop 24).drop 24).drop 24).drop 24).drop 24).drop 24).drop 24).drop 24).drop 24), List.all_append, w_t20, w_t21]
  rfl
set_option maxRecDepth 65536 in
theorem w_rest : rest_1_c.before args0 about1 = true := by decide +kernel
set_option maxRecDepth 65536 in
theorem w_case : (Jvm.Cond.and given_1 narrow_1).before args0 about1 = true := by decide +kernel
set_option maxRecDepth 65536 in
theorem w_consts : constsHeld consts_1 about1 := Jvm.Lit.constsHeldB_iff.mp (by decide +kernel)
theorem w_applies : (headSpec (Jvm.Cond.code x code maxLocals ret :: tables_1) room_1).applies x e0.platform about1 = true :=
  (Spec.applies_iff w_frames).mpr ⟨w_running, w_runnable, w_alone, w_named, w_hears, w_ripe, w_room, w_tables⟩
set_option maxRecDepth 65536 in
theorem atStart : AtStart classFile x code maxLocals ret World_1 tables_1 room_1 Calls_1 rest_1 Pre_1 launch0 p0 e0 about1 theMethod args0 below0 :=
  ⟨lists_1, trivial, launch0.admits_env _ _ _, launch0.least_env, fairChoices_fair.cas, fairChoices_fair.clock, w_frames, w_args, w_heap, w_applies, ⟨⟨51, k51, 6, by decide +kernel, rfl, rfl, _, rfl, rfl⟩, ⟨w_consts, trivial⟩⟩, w_rest, w_case⟩
end start1
theorem witness_1 : WitnessClaimed_1 := ⟨start1.p0, start1.e0, start1.about1, start1.theMethod, start1.args0, start1.below0, start1.atStart⟩
end Jvm.Pilot.@@N@@
