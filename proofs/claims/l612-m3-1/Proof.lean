import JvmDerived
import JvmDerived.Pilot.@@N@@Statement
import JvmDerived.Pilot.@@N@@Code
set_option linter.unusedVariables false
set_option linter.unusedSimpArgs false
namespace Jvm.GoK
open Jvm Jvm.ClassFile Sem Op Lib Jvm.Free Jvm.Stand Jvm.LawKit Jvm.RoadKit Bundle
/-- what an invocation is: program, environment, start, method, arguments, frames below, method record, code -/
abbrev KT : Type := Program × Env × State × MethodId × Array Value × List Frame × Method × Code
abbrev KT.p (K : KT) : Program := K.1
abbrev KT.e (K : KT) : Env := K.2.1
abbrev KT.s (K : KT) : State := K.2.2.1
abbrev KT.m (K : KT) : MethodId := K.2.2.2.1
abbrev KT.args (K : KT) : Array Value := K.2.2.2.2.1
abbrev KT.below (K : KT) : List Frame := K.2.2.2.2.2.1
abbrev KT.meth (K : KT) : Method := K.2.2.2.2.2.2.1
abbrev KT.c (K : KT) : Code := K.2.2.2.2.2.2.2
def Kok (Z : State) (a0 : Array Value) (EL : List (String × Nat)) (bytes : ByteArray) (ml : Nat) (ret : Option FieldType) (nm : String) (K : KT) : Prop :=
  K.p.tables.exec = Jvm.exec ∧ K.c.code = bytes ∧ K.c.maxLocals = ml ∧ K.meth.sig.returnType = ret ∧ K.meth.name = nm ∧ K.meth.locks = false ∧ EW Z a0 EL
/-- the places of S are no booked constant's -/
def Sf (Z : State) (EL : List (String × Nat)) (vm : Vm) (h : Heap) (S : Addr → Prop) : Prop := ∀ x, S x → Safe Z EL vm h x ∧ x < h.size
theorem Sf.step {Z : State} {EL : List (String × Nat)} {vm vm1 : Vm} {h h' : Heap} {S : Addr → Prop} (F : Sf Z EL vm h S) (C : CHr Z EL vm h vm1 h') : Sf Z EL vm1 h' S := fun x hx =>
  ⟨C.safe (F x hx).2 (F x hx).1, Nat.lt_of_lt_of_le (F x hx).2 C.2.1⟩
/-- the walk stands at T with heap h, kc cells and ks slots still to be had -/
def St (l : Launch) (Z : State) (EL : List (String × Nat)) (R : Room) (own : String) (S0 : Addr → Prop) (K : KT) (T : State) (kc ks : Nat) (S : Addr → Prop) (h : Heap) : Prop :=
  ∃ (vm0 : Vm) (k0 : Nat) (locs : List Loc) (cells slots : Nat), Stand K.p l K.e R (K.s.setVm vm0) K.m K.args K.below K.meth K.c T locs cells slots ∧ T.heap = h ∧ K.s.Since vm0 k0 ∧ k0 ≤ h.size ∧ Z.Warmed39 vm0 ∧ vm0.findClass own = some K.m.cls ∧ CHr Z EL K.s.vm K.s.heap vm0 h ∧ Fr Z.heap.size locs ∧ cells + kc ≤ R.cells ∧ slots + ks ≤ R.slots ∧ Sf Z EL vm0 h S ∧ Ext Z.heap h ∧ ∀ x, S0 x → S x
def FinG (Z : State) (EL : List (String × Nat)) (R : Room) (S0 : Addr → Prop) (Q : (Addr → Prop) → Option Value → Heap → Prop) (s t : State) (o : Outcome) : Prop :=
  ∃ v L, o = .returned v ∧ ((∃ S, (∀ x, S0 x → S x) ∧ Sf Z EL t.vm t.heap S ∧ Ext Z.heap t.heap ∧ Q S v t.heap) ∧ Fr Z.heap.size L) ∧ CHr Z EL s.vm s.heap t.vm t.heap ∧ ReturnedEndW s o t L R.cells R.slots
/-- from every such point with the frame f on top the method ends, and Q -/
def Go (l : Launch) (Z : State) (a0 : Array Value) (EL : List (String × Nat)) (R : Room) (own : String) (bytes : ByteArray) (ml : Nat) (ret : Option FieldType) (nm : String) (S0 : Addr → Prop) (Q : (Addr → Prop) → Option Value → Heap → Prop) (K : KT) (kc ks : Nat) (S : Addr → Prop) (h : Heap) (f : JFrame) : Prop :=
  Kok Z a0 EL bytes ml ret nm K → ∀ T, St l Z EL R own S0 K T kc ks S h → ∃ t o, Steps K.p.tables K.e K.below (T.setTop f) t ∧ t.status = .running ∧ Ended t K.below o ∧ FinG Z EL R S0 Q K.s t o
/-- a method's contract -/
def Con (l : Launch) (Z : State) (EL : List (String × Nat)) (ws : List Jvm.Cond) (y : MethodName) (bytes : ByteArray) (ml : Nat) (ret : Option FieldType) (R : Room) (as : Array Value) (S : Addr → Prop) (h : Heap) (Q : (Addr → Prop) → Option Value → Heap → Prop) : Prop :=
  MetFree l y (head1 (Jvm.Cond.code y bytes ml ret :: ws) R) (fun a U => a = as ∧ Z.Warmed39 U.vm ∧ U.heap = h ∧ CHv Z EL U.vm h ∧ Sf Z EL U.vm h S ∧ Ext Z.heap h) (fun _ _ _ _ _ => True) (fun _ U o U' => FinG Z EL R S Q U U' o)
theorem con_of_go {l : Launch} {Z : State} {a0 : Array Value} {EL : List (String × Nat)} {ws : List Jvm.Cond} {y : MethodName} {bytes : ByteArray} {ml : Nat} {ret : Option FieldType} {R : Room} {as : Array Value} {S : Addr → Prop} {h : Heap} {Q : (Addr → Prop) → Option Value → Heap → Prop} {ls : Array Slot}
    (hy : plainName y.cls = true) (hEL : EW Z a0 EL) (hent : ∀ m, entryFrame m as ml = mkF m 0 ls []) (H : ∀ K : KT, Go l Z a0 EL R y.cls bytes ml ret y.name S Q K R.cells R.slots S h (mkF K.m 0 ls [])) : Con l Z EL ws y bytes ml ret R as S h Q := by
  refine MetFree.of_bodySF (plainFor_of_name hy) hisR ?_
  intro p e s m args below meth c s₁ Bd hml0 hP hK
  obtain ⟨rfl, hZ, hh, hC, hSf, hE⟩ := hP
  have X0 : Stand p l e R s m args below meth c s₁ [] 0 0 := Stand.of_body Bd
  have e0 : s₁.heap = h := by rw [← hh, Bd.state]; rfl
  have hown : s.vm.findClass y.cls = some m.cls := findClass_of_methodNamed Bd.named
  have hnm := (name_of_methodNamed Bd.named Bd.method).1
  have hCr : CHr Z EL s.vm s.heap s.vm h := by rw [hh]; exact CHr.refl hC
  obtain ⟨t, o, h1, h2, h3, h4⟩ := H (p, e, s, m, args, below, meth, c) ⟨Bd.exec, Bd.bytes, hml0, Bd.returns, hnm, Bd.notSynchronized, hEL⟩ s₁
    ⟨s.vm, 0, [], 0, 0, X0, e0, (State.WarmedH.refl s).since 0, Nat.zero_le _, hZ, hown, hCr, Fr.nil _, by simp, by simp, hSf, hE, fun _ q => q⟩
  exact ⟨t, o, castTop (hent m) h1, h2, h3, h4⟩
section
variable {l : Launch} {R : Room} {p : Program} {e : Env} {s : State} {args : Array Value} {below : List Frame} {Z : State} {a0 : Array Value} {EL : List (String × Nat)} {h : Heap} {vm0 : Vm}
/-- a callee's contract pays a call -/
theorem backG {y : MethodName} {bytes : ByteArray} {maxL : Nat} {ret : Option FieldType} {rm : Room} {len W : Nat} {as' : Array Value} {S : Addr → Prop} {Q : (Addr → Prop) → Option Value → Heap → Prop}
    (hM : Con l Z EL [] y bytes maxL ret rm as' S h Q)
    (hZ : Z.Warmed39 vm0) (wc : (Cond.code y bytes maxL ret).before a0 Z = true) (wz : (Cond.initialized y.cls).before a0 Z = true) (hf : rm.frames + 1 ≤ R.frames) (hl : W + (maxL + 11) + rm.locals ≤ R.locals) (hEL : EW Z a0 EL) (H : CHv Z EL vm0 h) (hSf : Sf Z EL vm0 h S) (hE : Ext Z.heap h) :
    BackS l R p e below (s.setVm vm0) args y len W (fun A a => a = as' ∧ A.U.heap = h ∧ A.cells + rm.cells ≤ R.cells ∧ A.slots + rm.slots ≤ R.slots)
      (fun A _ v B => ∃ L, ((∃ S', (∀ x, S x → S' x) ∧ Sf Z EL B.U.vm B.U.heap S' ∧ Ext Z.heap B.U.heap ∧ Q S' v B.U.heap) ∧ Fr Z.heap.size L) ∧ B.locs = A.locs ++ L ∧ B.cells = A.cells + rm.cells ∧ B.slots = A.slots + rm.slots ∧ CHr Z EL vm0 h B.U.vm B.U.heap) :=
  BackS.of_freeW (bytes := bytes) (maxL := maxL) (ret := ret) (E := fun _ first o t L k n => k = rm.cells ∧ n = rm.slots ∧ (∃ v, o = .returned v ∧ ((∃ S', (∀ x, S x → S' x) ∧ Sf Z EL t.vm t.heap S' ∧ Ext Z.heap t.heap ∧ Q S' v t.heap) ∧ Fr Z.heap.size L)) ∧ CHr Z EL first.vm first.heap t.vm t.heap) hM hf hl
    (fun m meth c A a Y hp => have hU : Z.Warmed39 A.U.vm := wtrans (s := s.setVm vm0) hZ Y.warmed
      ⟨by show (Cond.and _ .tt).before a A.U = true; rw [Cond.before_and, mv hU wc]; rfl, mv hU wc, mv hU wz, hp.2.2.1, hp.2.2.2⟩)
    (fun m meth c A a g mk Y hp => ⟨hp.1, wtrans (s := s.setVm vm0) hZ Y.warmed, hp.2.1, (CHv.at (T := A.U) Y hZ hEL H).1, hSf.step (CHv.at (T := A.U) Y hZ hEL H), hE⟩) (fun _ _ _ _ _ _ _ _ _ => trivial)
    (fun _ _ _ _ ⟨v, L, h1, h2, h3, h4⟩ => ⟨L, _, _, h4, rfl, rfl, ⟨v, h1, h2⟩, h3⟩)
    (fun m meth c A a g mk v t L k n Y hp _ _ ⟨e1, e2, ⟨v', e3, e4⟩, e5⟩ => by
      cases e3; subst e1 e2
      refine ⟨L, e4, rfl, rfl, rfl, (CHv.at Y hZ hEL H).trans ?_⟩
      rw [← hp.2.1]; exact e5)
end
/-- an instruction, and the place behind it -/
def Dec (bytes : ByteArray) (pc : Nat) (i : Instr) (len n : Nat) : Prop := decode bytes pc = .ok (i, len) ∧ pc + len = n
/-- a branch's instruction, offset, the place behind it and its goal -/
def Brn (bytes : ByteArray) (pc : Nat) (i : Instr) (o : Int) (n t : Nat) : Prop := decode bytes pc = .ok (i, 3) ∧ pc + 3 = n ∧ 0 ≤ (pc : Int) + o ∧ ((pc : Int) + o).toNat = t
section Rules
variable {l : Launch} {Z : State} {a0 : Array Value} {EL : List (String × Nat)} {R : Room} {own : String} {bytes : ByteArray} {ml : Nat} {ret : Option FieldType} {nm : String} {S0 : Addr → Prop} {Q : (Addr → Prop) → Option Value → Heap → Prop} {K : KT} {kc ks : Nat} {S : Addr → Prop} {h : Heap} {f f' : JFrame} {pc n t : Nat} {ls l' : Array Slot} {st : List Value} {x y v : Int32} {u w : Value}
theorem Go.pure (k : Go l Z a0 EL R own bytes ml ret nm S0 Q K kc ks S h f') (H : ∀ T, At T K.m K.c K.below → K.p.tables.exec = Jvm.exec → K.c.code = bytes → ∀ t, Steps K.p.tables K.e K.below (T.setTop f') t → Steps K.p.tables K.e K.below (T.setTop f) t) : Go l Z a0 EL R own bytes ml ret nm S0 Q K kc ks S h f := by
  intro hK T hT
  obtain ⟨t, o, hs, r⟩ := k hK T hT
  obtain ⟨vm0, k0, locs, cells, slots, X, -⟩ := hT
  exact ⟨t, o, H T X.here hK.1 hK.2.1 t hs, r⟩
/-- a step that moves the state alone, the heap as it was -/
theorem Go.calm (k : Go l Z a0 EL R own bytes ml ret nm S0 Q K kc ks S h f')
    (H : ∀ vm0 T locs cells slots, Kok Z a0 EL bytes ml ret nm K → Stand K.p l K.e R (K.s.setVm vm0) K.m K.args K.below K.meth K.c T locs cells slots → Z.Warmed39 (K.s.setVm vm0).vm → (K.s.setVm vm0).vm.findClass own = some K.m.cls → T.heap = h → Ext Z.heap h →
      ∃ T', Stand K.p l K.e R (K.s.setVm vm0) K.m K.args K.below K.meth K.c T' locs cells slots ∧ T'.heap = h ∧ ∀ target, Steps K.p.tables K.e K.below (T'.setTop f') target → Steps K.p.tables K.e K.below (T.setTop f) target) : Go l Z a0 EL R own bytes ml ret nm S0 Q K kc ks S h f := by
  intro hK T hT
  obtain ⟨vm0, k0, locs, cells, slots, X, e1, e2, e3, e4, e5, e6, e7, e8, e9, e10, e11, e12⟩ := hT
  obtain ⟨T', X', e', st'⟩ := H vm0 T locs cells slots hK X e4 e5 e1 e11
  obtain ⟨t, o, hs, r⟩ := k hK T' ⟨vm0, k0, locs, cells, slots, X', e', e2, e3, e4, e5, e6, e7, e8, e9, e10, e11, e12⟩
  exact ⟨t, o, st' _ hs, r⟩
theorem ext_trans {h1 h2 h3 : Heap} (E : Ext h1 h2) (F : Ext h2 h3) : Ext h1 h3 := ⟨Nat.le_trans E.1 F.1, fun a c q => F.2 a c (E.2 a c q)⟩
/-- a step that makes one cell at the heap's end -/
theorem Go.make {na : Nat} {f' : Addr → JFrame} (P : Addr → Heap → Prop) (k : ∀ S' h' a, a = h.size → (∀ x, S x → S' x) → S' a → Ext h h' → a < h'.size → P a h' → Go l Z a0 EL R own bytes ml ret nm S0 Q K kc ks S' h' (f' a) )
    (H : ∀ vm0 T locs cells slots, Kok Z a0 EL bytes ml ret nm K → Stand K.p l K.e R (K.s.setVm vm0) K.m K.args K.below K.meth K.c T locs cells slots → Z.Warmed39 (K.s.setVm vm0).vm → (K.s.setVm vm0).vm.findClass own = some K.m.cls → T.heap = h → cells + 1 ≤ R.cells → slots + na ≤ R.slots →
      ∃ T' h', Stand K.p l K.e R (K.s.setVm vm0) K.m K.args K.below K.meth K.c T' locs (cells + 1) (slots + na) ∧ T'.heap = h' ∧ Ext h h' ∧ h.size < h'.size ∧ P h.size h' ∧ ∀ target, Steps K.p.tables K.e K.below (T'.setTop (f' h.size)) target → Steps K.p.tables K.e K.below (T.setTop f) target) : Go l Z a0 EL R own bytes ml ret nm S0 Q K (kc + 1) (ks + na) S h f := by
  intro hK T hT
  obtain ⟨vm0, k0, locs, cells, slots, X, e1, e2, e3, e4, e5, e6, e7, e8, e9, e10, e11, e12⟩ := hT
  obtain ⟨T', h', X', e', E, hlt, p, st'⟩ := H vm0 T locs cells slots hK X e4 e5 e1 (by omega) (by omega)
  have hCr := e6.trans (CHr.ext E e6.1)
  have hSf : Sf Z EL vm0 h' (fun x => S x ∨ x = h.size) := fun x hx => by
    rcases hx with hx | rfl
    · exact (e10.step (CHr.ext E e6.1)) x hx
    · exact ⟨Safe.ext E e6.1 (Safe.new (Nat.le_refl _)), hlt⟩
  obtain ⟨t, o, hs, r⟩ := k (fun x => S x ∨ x = h.size) h' h.size rfl (fun _ q => Or.inl q) (Or.inr rfl) E hlt p hK T' ⟨vm0, k0, locs, cells + 1, slots + na, X', e', e2, Nat.le_trans e3 E.1, e4, e5, hCr, e7, by omega, by omega, hSf, ext_trans e11 E, fun x q => Or.inl (e12 x q)⟩
  exact ⟨t, o, st' _ hs, r⟩
theorem ext_wr {h' : Heap} {a : Addr} {sl : Nat} {v : Value} (E : Ext Z.heap h) (W : Wr h h' a sl v) (q : Z.heap.size ≤ a) : Ext Z.heap h' := (Old.wr (Z := Z) (n0 := Z.heap.size) ⟨rfl, E⟩ W q).2
/-- a step that writes one place of a cell made since the law began -/
theorem Go.write {a : Addr} {sl : Nat} (ha : Z.heap.size ≤ a) (hsafe : S a ∨ ∀ vm0 : Vm, Z.vm.Alike vm0 → Safe Z EL vm0 h a) (k : ∀ h', Wr h h' a sl w → Keep h h' [a] → Go l Z a0 EL R own bytes ml ret nm S0 Q K kc ks S h' f')
    (H : ∀ vm0 T locs cells slots, Kok Z a0 EL bytes ml ret nm K → Stand K.p l K.e R (K.s.setVm vm0) K.m K.args K.below K.meth K.c T locs cells slots → Z.Warmed39 (K.s.setVm vm0).vm → (K.s.setVm vm0).vm.findClass own = some K.m.cls → T.heap = h →
      ∃ T' h', Stand K.p l K.e R (K.s.setVm vm0) K.m K.args K.below K.meth K.c T' (locs ++ [⟨a, sl⟩]) cells slots ∧ T'.heap = h' ∧ Wr h h' a sl w ∧ ∀ target, Steps K.p.tables K.e K.below (T'.setTop f') target → Steps K.p.tables K.e K.below (T.setTop f) target) : Go l Z a0 EL R own bytes ml ret nm S0 Q K kc ks S h f := by
  intro hK T hT
  obtain ⟨vm0, k0, locs, cells, slots, X, e1, e2, e3, e4, e5, e6, e7, e8, e9, e10, e11, e12⟩ := hT
  obtain ⟨T', h', X', e', W, st'⟩ := H vm0 T locs cells slots hK X e4 e5 e1
  have hsf : Safe Z EL vm0 h a := by
    rcases hsafe with q | q
    · exact (e10 a q).1
    · exact q vm0 e4.alike
  have KW := Keep.of_wr W
  have hC := CHr.keep KW (allS hsf all0) e6.1
  obtain ⟨t, o, hs, r⟩ := k h' W KW hK T' ⟨vm0, k0, _, cells, slots, X', e', e2, Nat.le_trans e3 KW.1, e4, e5, e6.trans hC, Fr.snoc X' e7 ha, e8, e9, e10.step hC, ext_wr e11 W ha, e12⟩
  exact ⟨t, o, st' _ hs, r⟩
theorem go_aloadN {k : Fin 4} (hd : Dec bytes pc (.aload_n k) 1 n) (hl : ls[k.val]? = some (.val u)) (hv : u.isRef = true) (kk : Go l Z a0 EL R own bytes ml ret nm S0 Q K kc ks S h (mkF K.m n ls (u :: st))) : Go l Z a0 EL R own bytes ml ret nm S0 Q K kc ks S h (mkF K.m pc ls (st)) := by
  obtain ⟨hd, rfl⟩ := hd
  exact Go.pure kk fun T hT hx hb0 tgt hr => XS.aloadN hT hx rfl (hb hb0 hd) hl hv hr
theorem go_aload {k : Nat} (hd : Dec bytes pc (.aload k) 2 n) (hl : ls[k]? = some (.val u)) (hv : u.isRef = true) (kk : Go l Z a0 EL R own bytes ml ret nm S0 Q K kc ks S h (mkF K.m n ls (u :: st))) : Go l Z a0 EL R own bytes ml ret nm S0 Q K kc ks S h (mkF K.m pc ls (st)) := by
  obtain ⟨hd, rfl⟩ := hd
  exact Go.pure kk fun T hT hx hb0 tgt hr => XS.aload hT hx rfl (hb hb0 hd) hl hv hr
theorem go_iloadN {k : Fin 4} (hd : Dec bytes pc (.iload_n k) 1 n) (hl : ls[k.val]? = some (.val (.int x))) (kk : Go l Z a0 EL R own bytes ml ret nm S0 Q K kc ks S h (mkF K.m n ls (.int x :: st))) : Go l Z a0 EL R own bytes ml ret nm S0 Q K kc ks S h (mkF K.m pc ls (st)) := by
  obtain ⟨hd, rfl⟩ := hd
  exact Go.pure kk fun T hT hx hb0 tgt hr => XS.iloadN hT hx rfl (hb hb0 hd) hl hr
theorem go_iload {k : Nat} (hd : Dec bytes pc (.iload k) 2 n) (hl : ls[k]? = some (.val (.int x))) (kk : Go l Z a0 EL R own bytes ml ret nm S0 Q K kc ks S h (mkF K.m n ls (.int x :: st))) : Go l Z a0 EL R own bytes ml ret nm S0 Q K kc ks S h (mkF K.m pc ls (st)) := by
  obtain ⟨hd, rfl⟩ := hd
  exact Go.pure kk fun T hT hx hb0 tgt hr => XS.iload hT hx rfl (hb hb0 hd) hl hr
theorem go_lloadN {k : Fin 4} {z : Int64} (hd : Dec bytes pc (.lload_n k) 1 n) (hl : ls[k.val]? = some (.val (.long z))) (kk : Go l Z a0 EL R own bytes ml ret nm S0 Q K kc ks S h (mkF K.m n ls (.long z :: st))) : Go l Z a0 EL R own bytes ml ret nm S0 Q K kc ks S h (mkF K.m pc ls (st)) := by
  obtain ⟨hd, rfl⟩ := hd
  exact Go.pure kk fun T hT hx hb0 tgt hr => XT.lloadN hT hx rfl (hb hb0 hd) hl hr
theorem go_lload {k : Nat} {z : Int64} (hd : Dec bytes pc (.lload k) 2 n) (hl : ls[k]? = some (.val (.long z))) (kk : Go l Z a0 EL R own bytes ml ret nm S0 Q K kc ks S h (mkF K.m n ls (.long z :: st))) : Go l Z a0 EL R own bytes ml ret nm S0 Q K kc ks S h (mkF K.m pc ls (st)) := by
  obtain ⟨hd, rfl⟩ := hd
  exact Go.pure kk fun T hT hx hb0 tgt hr => XT.lload hT hx rfl (hb hb0 hd) hl hr
theorem go_iconst {i : Int} (hd : Dec bytes pc (.iconst i) 1 n) (hv : Int32.ofInt i = x) (kk : Go l Z a0 EL R own bytes ml ret nm S0 Q K kc ks S h (mkF K.m n ls (.int x :: st))) : Go l Z a0 EL R own bytes ml ret nm S0 Q K kc ks S h (mkF K.m pc ls (st)) := by
  obtain ⟨hd, rfl⟩ := hd
  exact Go.pure kk fun T hT hx hb0 tgt hr => XT.iconstV hT hx rfl x (hb hb0 hd) hv hr
theorem go_bipush {i : Int} (hd : Dec bytes pc (.bipush i) 2 n) (hv : (Int8.ofInt i).toInt32 = x) (kk : Go l Z a0 EL R own bytes ml ret nm S0 Q K kc ks S h (mkF K.m n ls (.int x :: st))) : Go l Z a0 EL R own bytes ml ret nm S0 Q K kc ks S h (mkF K.m pc ls (st)) := by
  obtain ⟨hd, rfl⟩ := hd
  exact Go.pure kk fun T hT hx hb0 tgt hr => XT.bipushV hT hx rfl x (hb hb0 hd) hv hr
theorem go_sipush {i : Int} (hd : Dec bytes pc (.sipush i) 3 n) (hv : (Int16.ofInt i).toInt32 = x) (kk : Go l Z a0 EL R own bytes ml ret nm S0 Q K kc ks S h (mkF K.m n ls (.int x :: st))) : Go l Z a0 EL R own bytes ml ret nm S0 Q K kc ks S h (mkF K.m pc ls (st)) := by
  obtain ⟨hd, rfl⟩ := hd
  exact Go.pure kk fun T hT hx hb0 tgt hr => XT.sipushV hT hx rfl x (hb hb0 hd) hv hr
theorem go_lconst {i : Fin 2} {z : Int64} (hd : Dec bytes pc (.lconst i) 1 n) (hv : Int64.ofNat i = z) (kk : Go l Z a0 EL R own bytes ml ret nm S0 Q K kc ks S h (mkF K.m n ls (.long z :: st))) : Go l Z a0 EL R own bytes ml ret nm S0 Q K kc ks S h (mkF K.m pc ls (st)) := by
  obtain ⟨hd, rfl⟩ := hd
  exact Go.pure kk fun T hT hx hb0 tgt hr => XT.lconstV hT hx rfl z (hb hb0 hd) hv hr
theorem go_null (hd : Dec bytes pc (.aconst_null) 1 n) (kk : Go l Z a0 EL R own bytes ml ret nm S0 Q K kc ks S h (mkF K.m n ls (.null :: st))) : Go l Z a0 EL R own bytes ml ret nm S0 Q K kc ks S h (mkF K.m pc ls (st)) := by
  obtain ⟨hd, rfl⟩ := hd
  exact Go.pure kk fun T hT hx hb0 tgt hr => XS.aconstNull hT hx rfl (hb hb0 hd) hr
theorem go_iadd (hd : Dec bytes pc (.iadd) 1 n) (hv : x + y = v) (kk : Go l Z a0 EL R own bytes ml ret nm S0 Q K kc ks S h (mkF K.m n ls (.int v :: st))) : Go l Z a0 EL R own bytes ml ret nm S0 Q K kc ks S h (mkF K.m pc ls (.int y :: .int x :: st)) := by
  obtain ⟨hd, rfl⟩ := hd
  exact Go.pure kk fun T hT hx hb0 tgt hr => XS.iadd hT hx rfl (hb hb0 hd) rfl (by rw [hv]; exact hr)
theorem go_isub (hd : Dec bytes pc (.isub) 1 n) (hv : x - y = v) (kk : Go l Z a0 EL R own bytes ml ret nm S0 Q K kc ks S h (mkF K.m n ls (.int v :: st))) : Go l Z a0 EL R own bytes ml ret nm S0 Q K kc ks S h (mkF K.m pc ls (.int y :: .int x :: st)) := by
  obtain ⟨hd, rfl⟩ := hd
  exact Go.pure kk fun T hT hx hb0 tgt hr => XS.isub hT hx rfl (hb hb0 hd) rfl (by rw [hv]; exact hr)
theorem go_imul (hd : Dec bytes pc (.imul) 1 n) (hv : x * y = v) (kk : Go l Z a0 EL R own bytes ml ret nm S0 Q K kc ks S h (mkF K.m n ls (.int v :: st))) : Go l Z a0 EL R own bytes ml ret nm S0 Q K kc ks S h (mkF K.m pc ls (.int y :: .int x :: st)) := by
  obtain ⟨hd, rfl⟩ := hd
  exact Go.pure kk fun T hT hx hb0 tgt hr => XS.imul hT hx rfl (hb hb0 hd) rfl (by rw [hv]; exact hr)
theorem go_iand (hd : Dec bytes pc (.iand) 1 n) (hv : x &&& y = v) (kk : Go l Z a0 EL R own bytes ml ret nm S0 Q K kc ks S h (mkF K.m n ls (.int v :: st))) : Go l Z a0 EL R own bytes ml ret nm S0 Q K kc ks S h (mkF K.m pc ls (.int y :: .int x :: st)) := by
  obtain ⟨hd, rfl⟩ := hd
  exact Go.pure kk fun T hT hx hb0 tgt hr => XS.iand hT hx rfl (hb hb0 hd) rfl (by rw [hv]; exact hr)
theorem go_ior (hd : Dec bytes pc (.ior) 1 n) (hv : x ||| y = v) (kk : Go l Z a0 EL R own bytes ml ret nm S0 Q K kc ks S h (mkF K.m n ls (.int v :: st))) : Go l Z a0 EL R own bytes ml ret nm S0 Q K kc ks S h (mkF K.m pc ls (.int y :: .int x :: st)) := by
  obtain ⟨hd, rfl⟩ := hd
  exact Go.pure kk fun T hT hx hb0 tgt hr => XT.ior hT hx rfl (hb hb0 hd) rfl (by rw [hv]; exact hr)
theorem go_ixor (hd : Dec bytes pc (.ixor) 1 n) (hv : x ^^^ y = v) (kk : Go l Z a0 EL R own bytes ml ret nm S0 Q K kc ks S h (mkF K.m n ls (.int v :: st))) : Go l Z a0 EL R own bytes ml ret nm S0 Q K kc ks S h (mkF K.m pc ls (.int y :: .int x :: st)) := by
  obtain ⟨hd, rfl⟩ := hd
  exact Go.pure kk fun T hT hx hb0 tgt hr => XT.ixor hT hx rfl (hb hb0 hd) rfl (by rw [hv]; exact hr)
theorem go_ishl (hd : Dec bytes pc (.ishl) 1 n) (hv : x <<< (y &&& 31) = v) (kk : Go l Z a0 EL R own bytes ml ret nm S0 Q K kc ks S h (mkF K.m n ls (.int v :: st))) : Go l Z a0 EL R own bytes ml ret nm S0 Q K kc ks S h (mkF K.m pc ls (.int y :: .int x :: st)) := by
  obtain ⟨hd, rfl⟩ := hd
  exact Go.pure kk fun T hT hx hb0 tgt hr => XT.ishl hT hx rfl (hb hb0 hd) rfl (by rw [hv]; exact hr)
theorem go_ishr (hd : Dec bytes pc (.ishr) 1 n) (hv : x >>> (y &&& 31) = v) (kk : Go l Z a0 EL R own bytes ml ret nm S0 Q K kc ks S h (mkF K.m n ls (.int v :: st))) : Go l Z a0 EL R own bytes ml ret nm S0 Q K kc ks S h (mkF K.m pc ls (.int y :: .int x :: st)) := by
  obtain ⟨hd, rfl⟩ := hd
  exact Go.pure kk fun T hT hx hb0 tgt hr => XT.ishr hT hx rfl (hb hb0 hd) rfl (by rw [hv]; exact hr)
theorem go_iushr (hd : Dec bytes pc (.iushr) 1 n) (hv : XT.ushr x y = v) (kk : Go l Z a0 EL R own bytes ml ret nm S0 Q K kc ks S h (mkF K.m n ls (.int v :: st))) : Go l Z a0 EL R own bytes ml ret nm S0 Q K kc ks S h (mkF K.m pc ls (.int y :: .int x :: st)) := by
  obtain ⟨hd, rfl⟩ := hd
  exact Go.pure kk fun T hT hx hb0 tgt hr => XT.iushr hT hx rfl (hb hb0 hd) rfl (by rw [hv]; exact hr)
theorem go_irem (hd : Dec bytes pc (.irem) 1 n) (hy : y ≠ 0) (hv : x % y = v) (kk : Go l Z a0 EL R own bytes ml ret nm S0 Q K kc ks S h (mkF K.m n ls (.int v :: st))) : Go l Z a0 EL R own bytes ml ret nm S0 Q K kc ks S h (mkF K.m pc ls (.int y :: .int x :: st)) := by
  obtain ⟨hd, rfl⟩ := hd
  exact Go.pure kk fun T hT hx hb0 tgt hr => XS.irem hT hx rfl (hb hb0 hd) rfl hy (by rw [irem_eq_mod, hv]; exact hr)
theorem go_idiv (hd : Dec bytes pc (.idiv) 1 n) (hy : y ≠ 0) (hv : x / y = v) (kk : Go l Z a0 EL R own bytes ml ret nm S0 Q K kc ks S h (mkF K.m n ls (.int v :: st))) : Go l Z a0 EL R own bytes ml ret nm S0 Q K kc ks S h (mkF K.m pc ls (.int y :: .int x :: st)) := by
  obtain ⟨hd, rfl⟩ := hd
  exact Go.pure kk fun T hT hx hb0 tgt hr => XS.idiv hT hx rfl (hb hb0 hd) rfl hy (by rw [hv]; exact hr)
theorem go_ineg (hd : Dec bytes pc (.ineg) 1 n) (hv : -x = v) (kk : Go l Z a0 EL R own bytes ml ret nm S0 Q K kc ks S h (mkF K.m n ls (.int v :: st))) : Go l Z a0 EL R own bytes ml ret nm S0 Q K kc ks S h (mkF K.m pc ls (.int x :: st)) := by
  obtain ⟨hd, rfl⟩ := hd
  exact Go.pure kk fun T hT hx hb0 tgt hr => XS.ineg hT hx rfl (hb hb0 hd) rfl (by rw [hv]; exact hr)
theorem go_i2c (hd : Dec bytes pc (.i2c) 1 n) (hv : x.toUInt32.toUInt16.toUInt32.toInt32 = v) (kk : Go l Z a0 EL R own bytes ml ret nm S0 Q K kc ks S h (mkF K.m n ls (.int v :: st))) : Go l Z a0 EL R own bytes ml ret nm S0 Q K kc ks S h (mkF K.m pc ls (.int x :: st)) := by
  obtain ⟨hd, rfl⟩ := hd
  exact Go.pure kk fun T hT hx hb0 tgt hr => XT.i2c hT hx rfl (hb hb0 hd) rfl (by rw [hv]; exact hr)
theorem go_i2b (hd : Dec bytes pc (.i2b) 1 n) (hv : x.toInt8.toInt32 = v) (kk : Go l Z a0 EL R own bytes ml ret nm S0 Q K kc ks S h (mkF K.m n ls (.int v :: st))) : Go l Z a0 EL R own bytes ml ret nm S0 Q K kc ks S h (mkF K.m pc ls (.int x :: st)) := by
  obtain ⟨hd, rfl⟩ := hd
  exact Go.pure kk fun T hT hx hb0 tgt hr => XT.i2b hT hx rfl (hb hb0 hd) rfl (by rw [hv]; exact hr)
theorem go_i2s (hd : Dec bytes pc (.i2s) 1 n) (hv : x.toInt16.toInt32 = v) (kk : Go l Z a0 EL R own bytes ml ret nm S0 Q K kc ks S h (mkF K.m n ls (.int v :: st))) : Go l Z a0 EL R own bytes ml ret nm S0 Q K kc ks S h (mkF K.m pc ls (.int x :: st)) := by
  obtain ⟨hd, rfl⟩ := hd
  exact Go.pure kk fun T hT hx hb0 tgt hr => XT.i2s hT hx rfl (hb hb0 hd) rfl (by rw [hv]; exact hr)
theorem go_i2l {z : Int64} (hd : Dec bytes pc (.i2l) 1 n) (hv : x.toInt64 = z) (kk : Go l Z a0 EL R own bytes ml ret nm S0 Q K kc ks S h (mkF K.m n ls (.long z :: st))) : Go l Z a0 EL R own bytes ml ret nm S0 Q K kc ks S h (mkF K.m pc ls (.int x :: st)) := by
  obtain ⟨hd, rfl⟩ := hd
  exact Go.pure kk fun T hT hx hb0 tgt hr => XT.i2l hT hx rfl (hb hb0 hd) rfl (by rw [hv]; exact hr)
theorem go_l2i {z : Int64} (hd : Dec bytes pc (.l2i) 1 n) (hv : z.toInt32 = v) (kk : Go l Z a0 EL R own bytes ml ret nm S0 Q K kc ks S h (mkF K.m n ls (.int v :: st))) : Go l Z a0 EL R own bytes ml ret nm S0 Q K kc ks S h (mkF K.m pc ls (.long z :: st)) := by
  obtain ⟨hd, rfl⟩ := hd
  exact Go.pure kk fun T hT hx hb0 tgt hr => XT.l2i hT hx rfl (hb hb0 hd) rfl (by rw [hv]; exact hr)
theorem go_ladd {z1 z2 z : Int64} (hd : Dec bytes pc (.ladd) 1 n) (hv : z1 + z2 = z) (kk : Go l Z a0 EL R own bytes ml ret nm S0 Q K kc ks S h (mkF K.m n ls (.long z :: st))) : Go l Z a0 EL R own bytes ml ret nm S0 Q K kc ks S h (mkF K.m pc ls (.long z2 :: .long z1 :: st)) := by
  obtain ⟨hd, rfl⟩ := hd
  exact Go.pure kk fun T hT hx hb0 tgt hr => XT.ladd hT hx rfl (hb hb0 hd) rfl (by rw [hv]; exact hr)
theorem go_lcmp {z1 z2 : Int64} (hd : Dec bytes pc (.lcmp) 1 n) (hv : XT.cmpL z1 z2 = v) (kk : Go l Z a0 EL R own bytes ml ret nm S0 Q K kc ks S h (mkF K.m n ls (.int v :: st))) : Go l Z a0 EL R own bytes ml ret nm S0 Q K kc ks S h (mkF K.m pc ls (.long z2 :: .long z1 :: st)) := by
  obtain ⟨hd, rfl⟩ := hd
  exact Go.pure kk fun T hT hx hb0 tgt hr => XT.lcmp hT hx rfl (hb hb0 hd) rfl (by rw [hv]; exact hr)
theorem go_dup (hd : Dec bytes pc (.dup) 1 n) (hc : u.category = 1) (kk : Go l Z a0 EL R own bytes ml ret nm S0 Q K kc ks S h (mkF K.m n ls (u :: u :: st))) : Go l Z a0 EL R own bytes ml ret nm S0 Q K kc ks S h (mkF K.m pc ls (u :: st)) := by
  obtain ⟨hd, rfl⟩ := hd
  exact Go.pure kk fun T hT hx hb0 tgt hr => XS.dup hT hx rfl (hb hb0 hd) rfl hc hr
theorem go_pop (hd : Dec bytes pc (.pop) 1 n) (hc : u.category = 1) (kk : Go l Z a0 EL R own bytes ml ret nm S0 Q K kc ks S h (mkF K.m n ls (st))) : Go l Z a0 EL R own bytes ml ret nm S0 Q K kc ks S h (mkF K.m pc ls (u :: st)) := by
  obtain ⟨hd, rfl⟩ := hd
  exact Go.pure kk fun T hT hx hb0 tgt hr => XT.pop hT hx rfl (hb hb0 hd) rfl hc hr
theorem go_dupX1 (hd : Dec bytes pc (.dup_x1) 1 n) (hc : u.category = 1) (hc' : w.category = 1) (kk : Go l Z a0 EL R own bytes ml ret nm S0 Q K kc ks S h (mkF K.m n ls (u :: w :: u :: st))) : Go l Z a0 EL R own bytes ml ret nm S0 Q K kc ks S h (mkF K.m pc ls (u :: w :: st)) := by
  obtain ⟨hd, rfl⟩ := hd
  exact Go.pure kk fun T hT hx hb0 tgt hr => XT.dupX1 hT hx rfl (hb hb0 hd) rfl hc hc' hr
theorem go_dup2 (hd : Dec bytes pc (.dup2) 1 n) (hc : u.category = 1) (hc' : w.category = 1) (kk : Go l Z a0 EL R own bytes ml ret nm S0 Q K kc ks S h (mkF K.m n ls (u :: w :: u :: w :: st))) : Go l Z a0 EL R own bytes ml ret nm S0 Q K kc ks S h (mkF K.m pc ls (u :: w :: st)) := by
  obtain ⟨hd, rfl⟩ := hd
  exact Go.pure kk fun T hT hx hb0 tgt hr => XT.dup2 hT hx rfl (hb hb0 hd) rfl hc hc' hr
theorem go_istoreN {k : Fin 4} (hd : Dec bytes pc (.istore_n k) 1 n) (hl : storeLocals ls k.val (.int x) = some l') (kk : Go l Z a0 EL R own bytes ml ret nm S0 Q K kc ks S h (mkF K.m n l' (st))) : Go l Z a0 EL R own bytes ml ret nm S0 Q K kc ks S h (mkF K.m pc ls (.int x :: st)) := by
  obtain ⟨hd, rfl⟩ := hd
  exact Go.pure kk fun T hT hx hb0 tgt hr => XS.istoreN hT hx rfl (hb hb0 hd) rfl hl hr
theorem go_istore {k : Nat} (hd : Dec bytes pc (.istore k) 2 n) (hl : storeLocals ls k (.int x) = some l') (kk : Go l Z a0 EL R own bytes ml ret nm S0 Q K kc ks S h (mkF K.m n l' (st))) : Go l Z a0 EL R own bytes ml ret nm S0 Q K kc ks S h (mkF K.m pc ls (.int x :: st)) := by
  obtain ⟨hd, rfl⟩ := hd
  exact Go.pure kk fun T hT hx hb0 tgt hr => XS.istore hT hx rfl (hb hb0 hd) rfl hl hr
theorem go_astoreN {k : Fin 4} (hd : Dec bytes pc (.astore_n k) 1 n) (hv : u.isRef = true) (hl : storeLocals ls k.val u = some l') (kk : Go l Z a0 EL R own bytes ml ret nm S0 Q K kc ks S h (mkF K.m n l' (st))) : Go l Z a0 EL R own bytes ml ret nm S0 Q K kc ks S h (mkF K.m pc ls (u :: st)) := by
  obtain ⟨hd, rfl⟩ := hd
  exact Go.pure kk fun T hT hx hb0 tgt hr => XS.astoreN hT hx rfl (hb hb0 hd) rfl hv hl hr
theorem go_astore {k : Nat} (hd : Dec bytes pc (.astore k) 2 n) (hv : u.isRef = true) (hl : storeLocals ls k u = some l') (kk : Go l Z a0 EL R own bytes ml ret nm S0 Q K kc ks S h (mkF K.m n l' (st))) : Go l Z a0 EL R own bytes ml ret nm S0 Q K kc ks S h (mkF K.m pc ls (u :: st)) := by
  obtain ⟨hd, rfl⟩ := hd
  exact Go.pure kk fun T hT hx hb0 tgt hr => XS.astore hT hx rfl (hb hb0 hd) rfl hv hl hr
theorem go_lstoreN {k : Fin 4} {z : Int64} (hd : Dec bytes pc (.lstore_n k) 1 n) (hl : storeLocals ls k.val (.long z) = some l') (kk : Go l Z a0 EL R own bytes ml ret nm S0 Q K kc ks S h (mkF K.m n l' (st))) : Go l Z a0 EL R own bytes ml ret nm S0 Q K kc ks S h (mkF K.m pc ls (.long z :: st)) := by
  obtain ⟨hd, rfl⟩ := hd
  exact Go.pure kk fun T hT hx hb0 tgt hr => XT.lstoreN hT hx rfl (hb hb0 hd) rfl hl hr
theorem go_lstore {k : Nat} {z : Int64} (hd : Dec bytes pc (.lstore k) 2 n) (hl : storeLocals ls k (.long z) = some l') (kk : Go l Z a0 EL R own bytes ml ret nm S0 Q K kc ks S h (mkF K.m n l' (st))) : Go l Z a0 EL R own bytes ml ret nm S0 Q K kc ks S h (mkF K.m pc ls (.long z :: st)) := by
  obtain ⟨hd, rfl⟩ := hd
  exact Go.pure kk fun T hT hx hb0 tgt hr => XT.lstore hT hx rfl (hb hb0 hd) rfl hl hr
theorem go_iinc {k : Nat} {i : Int} (hd : Dec bytes pc (.iinc k i) 3 n) (hl : ls[k]? = some (.val (.int x))) (hv : x + Int32.ofInt i = v) (hl' : storeLocals ls k (.int v) = some l') (kk : Go l Z a0 EL R own bytes ml ret nm S0 Q K kc ks S h (mkF K.m n l' (st))) : Go l Z a0 EL R own bytes ml ret nm S0 Q K kc ks S h (mkF K.m pc ls (st)) := by
  obtain ⟨hd, rfl⟩ := hd
  exact Go.pure kk fun T hT hx hb0 tgt hr => XT.iincV hT hx rfl _ (hb hb0 hd) rfl hl (by rw [hv]; exact hl') hr
theorem go_ifeq {o : Int} (hd : Brn bytes pc (.ifCond .eq o) o n t) (yes : x = 0 → Go l Z a0 EL R own bytes ml ret nm S0 Q K kc ks S h (mkF K.m t ls st)) (no : ¬ (x = 0) → Go l Z a0 EL R own bytes ml ret nm S0 Q K kc ks S h (mkF K.m n ls st)) : Go l Z a0 EL R own bytes ml ret nm S0 Q K kc ks S h (mkF K.m pc ls (.int x :: st)) := by
  obtain ⟨hd, rfl, ho, hp⟩ := hd
  by_cases c : x = 0
  · exact Go.pure (yes c) fun T hT hx hb0 tgt hr => XS.ifYes hT hx rfl (pc0 := pc) (pc' := t) rfl (hb hb0 hd) rfl (XT.i0_eq_t c) ho hp hr
  · exact Go.pure (no (c)) fun T hT hx hb0 tgt hr => XS.ifNo hT hx rfl (hb hb0 hd) rfl (XT.i0_eq_f c) hr
theorem go_ifne {o : Int} (hd : Brn bytes pc (.ifCond .ne o) o n t) (yes : ¬ (x = 0) → Go l Z a0 EL R own bytes ml ret nm S0 Q K kc ks S h (mkF K.m t ls st)) (no : x = 0 → Go l Z a0 EL R own bytes ml ret nm S0 Q K kc ks S h (mkF K.m n ls st)) : Go l Z a0 EL R own bytes ml ret nm S0 Q K kc ks S h (mkF K.m pc ls (.int x :: st)) := by
  obtain ⟨hd, rfl, ho, hp⟩ := hd
  by_cases c : ¬ (x = 0)
  · exact Go.pure (yes c) fun T hT hx hb0 tgt hr => XS.ifYes hT hx rfl (pc0 := pc) (pc' := t) rfl (hb hb0 hd) rfl (XT.i0_ne_t c) ho hp hr
  · exact Go.pure (no (Decidable.not_not.mp c)) fun T hT hx hb0 tgt hr => XS.ifNo hT hx rfl (hb hb0 hd) rfl (XT.i0_ne_f (Decidable.not_not.mp c)) hr
theorem go_iflt {o : Int} (hd : Brn bytes pc (.ifCond .lt o) o n t) (yes : x < 0 → Go l Z a0 EL R own bytes ml ret nm S0 Q K kc ks S h (mkF K.m t ls st)) (no : ¬ (x < 0) → Go l Z a0 EL R own bytes ml ret nm S0 Q K kc ks S h (mkF K.m n ls st)) : Go l Z a0 EL R own bytes ml ret nm S0 Q K kc ks S h (mkF K.m pc ls (.int x :: st)) := by
  obtain ⟨hd, rfl, ho, hp⟩ := hd
  by_cases c : x < 0
  · exact Go.pure (yes c) fun T hT hx hb0 tgt hr => XS.ifYes hT hx rfl (pc0 := pc) (pc' := t) rfl (hb hb0 hd) rfl (XT.i0_lt_t c) ho hp hr
  · exact Go.pure (no (c)) fun T hT hx hb0 tgt hr => XS.ifNo hT hx rfl (hb hb0 hd) rfl (XT.i0_lt_f c) hr
theorem go_ifge {o : Int} (hd : Brn bytes pc (.ifCond .ge o) o n t) (yes : ¬ (x < 0) → Go l Z a0 EL R own bytes ml ret nm S0 Q K kc ks S h (mkF K.m t ls st)) (no : x < 0 → Go l Z a0 EL R own bytes ml ret nm S0 Q K kc ks S h (mkF K.m n ls st)) : Go l Z a0 EL R own bytes ml ret nm S0 Q K kc ks S h (mkF K.m pc ls (.int x :: st)) := by
  obtain ⟨hd, rfl, ho, hp⟩ := hd
  by_cases c : ¬ (x < 0)
  · exact Go.pure (yes c) fun T hT hx hb0 tgt hr => XS.ifYes hT hx rfl (pc0 := pc) (pc' := t) rfl (hb hb0 hd) rfl (XT.i0_ge_t c) ho hp hr
  · exact Go.pure (no (Decidable.not_not.mp c)) fun T hT hx hb0 tgt hr => XS.ifNo hT hx rfl (hb hb0 hd) rfl (XT.i0_ge_f (Decidable.not_not.mp c)) hr
theorem go_ifgt {o : Int} (hd : Brn bytes pc (.ifCond .gt o) o n t) (yes : 0 < x → Go l Z a0 EL R own bytes ml ret nm S0 Q K kc ks S h (mkF K.m t ls st)) (no : ¬ (0 < x) → Go l Z a0 EL R own bytes ml ret nm S0 Q K kc ks S h (mkF K.m n ls st)) : Go l Z a0 EL R own bytes ml ret nm S0 Q K kc ks S h (mkF K.m pc ls (.int x :: st)) := by
  obtain ⟨hd, rfl, ho, hp⟩ := hd
  by_cases c : 0 < x
  · exact Go.pure (yes c) fun T hT hx hb0 tgt hr => XS.ifYes hT hx rfl (pc0 := pc) (pc' := t) rfl (hb hb0 hd) rfl (XT.i0_gt_t c) ho hp hr
  · exact Go.pure (no (c)) fun T hT hx hb0 tgt hr => XS.ifNo hT hx rfl (hb hb0 hd) rfl (XT.i0_gt_f c) hr
theorem go_ifle {o : Int} (hd : Brn bytes pc (.ifCond .le o) o n t) (yes : ¬ (0 < x) → Go l Z a0 EL R own bytes ml ret nm S0 Q K kc ks S h (mkF K.m t ls st)) (no : 0 < x → Go l Z a0 EL R own bytes ml ret nm S0 Q K kc ks S h (mkF K.m n ls st)) : Go l Z a0 EL R own bytes ml ret nm S0 Q K kc ks S h (mkF K.m pc ls (.int x :: st)) := by
  obtain ⟨hd, rfl, ho, hp⟩ := hd
  by_cases c : ¬ (0 < x)
  · exact Go.pure (yes c) fun T hT hx hb0 tgt hr => XS.ifYes hT hx rfl (pc0 := pc) (pc' := t) rfl (hb hb0 hd) rfl (XT.i0_le_t c) ho hp hr
  · exact Go.pure (no (Decidable.not_not.mp c)) fun T hT hx hb0 tgt hr => XS.ifNo hT hx rfl (hb hb0 hd) rfl (XT.i0_le_f (Decidable.not_not.mp c)) hr
theorem go_icmpeq {o : Int} (hd : Brn bytes pc (.if_icmp .eq o) o n t) (yes : x = y → Go l Z a0 EL R own bytes ml ret nm S0 Q K kc ks S h (mkF K.m t ls st)) (no : ¬ (x = y) → Go l Z a0 EL R own bytes ml ret nm S0 Q K kc ks S h (mkF K.m n ls st)) : Go l Z a0 EL R own bytes ml ret nm S0 Q K kc ks S h (mkF K.m pc ls (.int y :: .int x :: st)) := by
  obtain ⟨hd, rfl, ho, hp⟩ := hd
  by_cases c : x = y
  · exact Go.pure (yes c) fun T hT hx hb0 tgt hr => XS.icmpYes hT hx rfl (pc0 := pc) (pc' := t) rfl (hb hb0 hd) rfl (XT.ii_eq_t c) ho hp hr
  · exact Go.pure (no (c)) fun T hT hx hb0 tgt hr => XS.icmpNo hT hx rfl (hb hb0 hd) rfl (XT.ii_eq_f c) hr
theorem go_icmpne {o : Int} (hd : Brn bytes pc (.if_icmp .ne o) o n t) (yes : ¬ (x = y) → Go l Z a0 EL R own bytes ml ret nm S0 Q K kc ks S h (mkF K.m t ls st)) (no : x = y → Go l Z a0 EL R own bytes ml ret nm S0 Q K kc ks S h (mkF K.m n ls st)) : Go l Z a0 EL R own bytes ml ret nm S0 Q K kc ks S h (mkF K.m pc ls (.int y :: .int x :: st)) := by
  obtain ⟨hd, rfl, ho, hp⟩ := hd
  by_cases c : ¬ (x = y)
  · exact Go.pure (yes c) fun T hT hx hb0 tgt hr => XS.icmpYes hT hx rfl (pc0 := pc) (pc' := t) rfl (hb hb0 hd) rfl (XT.ii_ne_t c) ho hp hr
  · exact Go.pure (no (Decidable.not_not.mp c)) fun T hT hx hb0 tgt hr => XS.icmpNo hT hx rfl (hb hb0 hd) rfl (XT.ii_ne_f (Decidable.not_not.mp c)) hr
theorem go_icmplt {o : Int} (hd : Brn bytes pc (.if_icmp .lt o) o n t) (yes : x < y → Go l Z a0 EL R own bytes ml ret nm S0 Q K kc ks S h (mkF K.m t ls st)) (no : ¬ (x < y) → Go l Z a0 EL R own bytes ml ret nm S0 Q K kc ks S h (mkF K.m n ls st)) : Go l Z a0 EL R own bytes ml ret nm S0 Q K kc ks S h (mkF K.m pc ls (.int y :: .int x :: st)) := by
  obtain ⟨hd, rfl, ho, hp⟩ := hd
  by_cases c : x < y
  · exact Go.pure (yes c) fun T hT hx hb0 tgt hr => XS.icmpYes hT hx rfl (pc0 := pc) (pc' := t) rfl (hb hb0 hd) rfl (XT.ii_lt_t c) ho hp hr
  · exact Go.pure (no (c)) fun T hT hx hb0 tgt hr => XS.icmpNo hT hx rfl (hb hb0 hd) rfl (XT.ii_lt_f c) hr
theorem go_icmpge {o : Int} (hd : Brn bytes pc (.if_icmp .ge o) o n t) (yes : ¬ (x < y) → Go l Z a0 EL R own bytes ml ret nm S0 Q K kc ks S h (mkF K.m t ls st)) (no : x < y → Go l Z a0 EL R own bytes ml ret nm S0 Q K kc ks S h (mkF K.m n ls st)) : Go l Z a0 EL R own bytes ml ret nm S0 Q K kc ks S h (mkF K.m pc ls (.int y :: .int x :: st)) := by
  obtain ⟨hd, rfl, ho, hp⟩ := hd
  by_cases c : ¬ (x < y)
  · exact Go.pure (yes c) fun T hT hx hb0 tgt hr => XS.icmpYes hT hx rfl (pc0 := pc) (pc' := t) rfl (hb hb0 hd) rfl (XT.ii_ge_t c) ho hp hr
  · exact Go.pure (no (Decidable.not_not.mp c)) fun T hT hx hb0 tgt hr => XS.icmpNo hT hx rfl (hb hb0 hd) rfl (XT.ii_ge_f (Decidable.not_not.mp c)) hr
theorem go_icmpgt {o : Int} (hd : Brn bytes pc (.if_icmp .gt o) o n t) (yes : y < x → Go l Z a0 EL R own bytes ml ret nm S0 Q K kc ks S h (mkF K.m t ls st)) (no : ¬ (y < x) → Go l Z a0 EL R own bytes ml ret nm S0 Q K kc ks S h (mkF K.m n ls st)) : Go l Z a0 EL R own bytes ml ret nm S0 Q K kc ks S h (mkF K.m pc ls (.int y :: .int x :: st)) := by
  obtain ⟨hd, rfl, ho, hp⟩ := hd
  by_cases c : y < x
  · exact Go.pure (yes c) fun T hT hx hb0 tgt hr => XS.icmpYes hT hx rfl (pc0 := pc) (pc' := t) rfl (hb hb0 hd) rfl (XT.ii_gt_t c) ho hp hr
  · exact Go.pure (no (c)) fun T hT hx hb0 tgt hr => XS.icmpNo hT hx rfl (hb hb0 hd) rfl (XT.ii_gt_f c) hr
theorem go_icmple {o : Int} (hd : Brn bytes pc (.if_icmp .le o) o n t) (yes : ¬ (y < x) → Go l Z a0 EL R own bytes ml ret nm S0 Q K kc ks S h (mkF K.m t ls st)) (no : y < x → Go l Z a0 EL R own bytes ml ret nm S0 Q K kc ks S h (mkF K.m n ls st)) : Go l Z a0 EL R own bytes ml ret nm S0 Q K kc ks S h (mkF K.m pc ls (.int y :: .int x :: st)) := by
  obtain ⟨hd, rfl, ho, hp⟩ := hd
  by_cases c : ¬ (y < x)
  · exact Go.pure (yes c) fun T hT hx hb0 tgt hr => XS.icmpYes hT hx rfl (pc0 := pc) (pc' := t) rfl (hb hb0 hd) rfl (XT.ii_le_t c) ho hp hr
  · exact Go.pure (no (Decidable.not_not.mp c)) fun T hT hx hb0 tgt hr => XS.icmpNo hT hx rfl (hb hb0 hd) rfl (XT.ii_le_f (Decidable.not_not.mp c)) hr
theorem go_goto {o : Int} (hd : Brn bytes pc (.goto o) o n t) (kk : Go l Z a0 EL R own bytes ml ret nm S0 Q K kc ks S h (mkF K.m t ls st)) : Go l Z a0 EL R own bytes ml ret nm S0 Q K kc ks S h (mkF K.m pc ls st) := by
  obtain ⟨hd, rfl, ho, hp⟩ := hd
  exact Go.pure kk fun T hT hx hb0 tgt hr => XS.goto hT hx rfl (pc0 := pc) (pc' := t) rfl (hb hb0 hd) ho hp hr
theorem go_ifnullY {o : Int} (hd : Brn bytes pc (.ifnull o) o n t) (kk : Go l Z a0 EL R own bytes ml ret nm S0 Q K kc ks S h (mkF K.m t ls st)) : Go l Z a0 EL R own bytes ml ret nm S0 Q K kc ks S h (mkF K.m pc ls (.null :: st)) := by
  obtain ⟨hd, rfl, ho, hp⟩ := hd
  exact Go.pure kk fun T hT hx hb0 tgt hr => XS.ifnullYes hT hx rfl (pc0 := pc) (pc' := t) rfl (hb hb0 hd) rfl ho hp hr
theorem go_ifnullN {o : Int} {b : Addr} (hd : Brn bytes pc (.ifnull o) o n t) (kk : Go l Z a0 EL R own bytes ml ret nm S0 Q K kc ks S h (mkF K.m n ls st)) : Go l Z a0 EL R own bytes ml ret nm S0 Q K kc ks S h (mkF K.m pc ls (.ref b :: st)) := by
  obtain ⟨hd, rfl, ho, hp⟩ := hd
  exact Go.pure kk fun T hT hx hb0 tgt hr => XS.ifnullNo hT hx rfl (hb hb0 hd) rfl hr
theorem go_ifnonnullY {o : Int} {b : Addr} (hd : Brn bytes pc (.ifnonnull o) o n t) (kk : Go l Z a0 EL R own bytes ml ret nm S0 Q K kc ks S h (mkF K.m t ls st)) : Go l Z a0 EL R own bytes ml ret nm S0 Q K kc ks S h (mkF K.m pc ls (.ref b :: st)) := by
  obtain ⟨hd, rfl, ho, hp⟩ := hd
  exact Go.pure kk fun T hT hx hb0 tgt hr => XT.ifnonnullYes hT hx rfl (pc0 := pc) (pc' := t) rfl (hb hb0 hd) rfl ho hp hr
theorem go_ifnonnullN {o : Int} (hd : Brn bytes pc (.ifnonnull o) o n t) (kk : Go l Z a0 EL R own bytes ml ret nm S0 Q K kc ks S h (mkF K.m n ls st)) : Go l Z a0 EL R own bytes ml ret nm S0 Q K kc ks S h (mkF K.m pc ls (.null :: st)) := by
  obtain ⟨hd, rfl, ho, hp⟩ := hd
  exact Go.pure kk fun T hT hx hb0 tgt hr => XT.ifnonnullNo hT hx rfl (hb hb0 hd) rfl hr
theorem go_acmpeq {o : Int} (hd : Brn bytes pc (.if_acmp .eq o) o n t) (h1 : u.isRef = true) (h2 : w.isRef = true) (yes : u = w → Go l Z a0 EL R own bytes ml ret nm S0 Q K kc ks S h (mkF K.m t ls st)) (no : ¬ u = w → Go l Z a0 EL R own bytes ml ret nm S0 Q K kc ks S h (mkF K.m n ls st)) : Go l Z a0 EL R own bytes ml ret nm S0 Q K kc ks S h (mkF K.m pc ls (w :: u :: st)) := by
  obtain ⟨hd, rfl, ho, hp⟩ := hd
  by_cases c : u = w
  · exact Go.pure (yes c) fun T hT hx hb0 tgt hr => XT.acmpYes hT hx rfl (pc0 := pc) (pc' := t) rfl (hb hb0 hd) rfl h1 h2 (XT.aa_eq_t c) ho hp hr
  · exact Go.pure (no c) fun T hT hx hb0 tgt hr => XT.acmpNo hT hx rfl (hb hb0 hd) rfl h1 h2 (XT.aa_eq_f c) hr
theorem go_acmpne {o : Int} (hd : Brn bytes pc (.if_acmp .ne o) o n t) (h1 : u.isRef = true) (h2 : w.isRef = true) (yes : ¬ u = w → Go l Z a0 EL R own bytes ml ret nm S0 Q K kc ks S h (mkF K.m t ls st)) (no : u = w → Go l Z a0 EL R own bytes ml ret nm S0 Q K kc ks S h (mkF K.m n ls st)) : Go l Z a0 EL R own bytes ml ret nm S0 Q K kc ks S h (mkF K.m pc ls (w :: u :: st)) := by
  obtain ⟨hd, rfl, ho, hp⟩ := hd
  by_cases c : u = w
  · exact Go.pure (no c) fun T hT hx hb0 tgt hr => XT.acmpNo hT hx rfl (hb hb0 hd) rfl h1 h2 (XT.aa_ne_f c) hr
  · exact Go.pure (yes c) fun T hT hx hb0 tgt hr => XT.acmpYes hT hx rfl (pc0 := pc) (pc' := t) rfl (hb hb0 hd) rfl h1 h2 (XT.aa_ne_t c) ho hp hr
theorem cat_int (x : Int32) : (Value.int x).category = 1 := rfl
theorem cat_ref (x : Addr) : (Value.ref x).category = 1 := rfl
theorem cat_null : Value.null.category = 1 := rfl
theorem cat_long (x : Int64) : (Value.long x).category = 2 := rfl
theorem go_istoreS {k : Nat} {o : Slot} (hd : Dec bytes pc (.istore k) 2 n) (hold : ls[k]? = some o) (ho : o = .unset ∨ ∃ w, o = .val w ∧ w.category = 1) (hl : ls.setIfInBounds k (.val (.int x)) = l') (kk : Go l Z a0 EL R own bytes ml ret nm S0 Q K kc ks S h (mkF K.m n l' st)) : Go l Z a0 EL R own bytes ml ret nm S0 Q K kc ks S h (mkF K.m pc ls (.int x :: st)) :=
  go_istore hd ((XS.store1 hold ho rfl).trans (congrArg some hl)) kk
theorem go_istoreNS {k : Fin 4} {o : Slot} (hd : Dec bytes pc (.istore_n k) 1 n) (hold : ls[k.val]? = some o) (ho : o = .unset ∨ ∃ w, o = .val w ∧ w.category = 1) (hl : ls.setIfInBounds k.val (.val (.int x)) = l') (kk : Go l Z a0 EL R own bytes ml ret nm S0 Q K kc ks S h (mkF K.m n l' st)) : Go l Z a0 EL R own bytes ml ret nm S0 Q K kc ks S h (mkF K.m pc ls (.int x :: st)) :=
  go_istoreN hd ((XS.store1 hold ho rfl).trans (congrArg some hl)) kk
theorem go_astoreS {k : Nat} {o : Slot} (hd : Dec bytes pc (.astore k) 2 n) (hold : ls[k]? = some o) (hv : u.isRef = true) (ho : o = .unset ∨ ∃ w, o = .val w ∧ w.category = 1) (hl : ls.setIfInBounds k (.val u) = l') (kk : Go l Z a0 EL R own bytes ml ret nm S0 Q K kc ks S h (mkF K.m n l' st)) : Go l Z a0 EL R own bytes ml ret nm S0 Q K kc ks S h (mkF K.m pc ls (u :: st)) :=
  go_astore hd hv ((XS.store1 hold ho (XT.cat1 hv)).trans (congrArg some hl)) kk
theorem go_astoreNS {k : Fin 4} {o : Slot} (hd : Dec bytes pc (.astore_n k) 1 n) (hold : ls[k.val]? = some o) (hv : u.isRef = true) (ho : o = .unset ∨ ∃ w, o = .val w ∧ w.category = 1) (hl : ls.setIfInBounds k.val (.val u) = l') (kk : Go l Z a0 EL R own bytes ml ret nm S0 Q K kc ks S h (mkF K.m n l' st)) : Go l Z a0 EL R own bytes ml ret nm S0 Q K kc ks S h (mkF K.m pc ls (u :: st)) :=
  go_astoreN hd hv ((XS.store1 hold ho (XT.cat1 hv)).trans (congrArg some hl)) kk
theorem fin_of {vm0 : Vm} {locs : List Loc} {cells slots : Nat} {T : State} {fs : List Frame} {v : Option Value} (hEL : EW Z a0 EL)
    (X : Stand K.p l K.e R (K.s.setVm vm0) K.m K.args K.below K.meth K.c T locs cells slots) (e4 : Z.Warmed39 vm0) (e6 : CHr Z EL K.s.vm K.s.heap vm0 T.heap) (e7 : Fr Z.heap.size locs) (e8 : cells + kc ≤ R.cells) (e9 : slots + ks ≤ R.slots) (e10 : Sf Z EL vm0 T.heap S) (e11 : Ext Z.heap T.heap) (e12 : ∀ x, S0 x → S x)
    (hW : ReturnedEndW K.s (.returned v) (T.setFrames fs) locs cells slots) (q : Q S v T.heap) : FinG Z EL R S0 Q K.s (T.setFrames fs) (.returned v) :=
  have hC : CHr Z EL vm0 T.heap T.vm T.heap := CHv.at X e4 hEL e6.1
  ⟨v, locs, rfl, ⟨⟨S, e12, e10.step hC, e11, q⟩, e7⟩, e6.trans hC, hW.1, hW.2.1, hW.2.2.1, hW.2.2.2.mono (by omega) (by omega)⟩
theorem go_return (hd : Dec bytes pc .return_ 1 n) (hret : ret = none) (q : Q S none h) : Go l Z a0 EL R own bytes ml ret nm S0 Q K kc ks S h (mkF K.m pc ls []) := by
  intro hK T hT
  obtain ⟨hd, -⟩ := hd
  obtain ⟨vm0, k0, locs, cells, slots, X, e1, e2, e3, e4, e5, e6, e7, e8, e9, e10, e11, e12⟩ := hT
  subst e1
  have hr' : K.meth.sig.returnType = none := hK.2.2.2.1.trans hret
  obtain ⟨fs, hr, hrun, hended, hW⟩ := X.leaveW (v := none) e2 e3 (fun _ => rfl) hK.2.2.2.2.2.1
  exact ⟨_, _, X.returnOut hK.1 hr' (hb hK.2.1 hd) hr, hrun, hended, fin_of hK.2.2.2.2.2.2 X e4 e6 e7 e8 e9 e10 e11 e12 hW q⟩
theorem go_ireturn {ty : FieldType} (hd : Dec bytes pc .ireturn 1 n) (hret : ret = some ty) (ht : ty = .int ∨ ty = .boolean ∨ ty = .byte ∨ ty = .char ∨ ty = .short) (hv : narrow ty (.int x) = .int v) (q : Q S (some (.int v)) h) : Go l Z a0 EL R own bytes ml ret nm S0 Q K kc ks S h (mkF K.m pc ls (.int x :: st)) := by
  intro hK T hT
  obtain ⟨hd, -⟩ := hd
  obtain ⟨vm0, k0, locs, cells, slots, X, e1, e2, e3, e4, e5, e6, e7, e8, e9, e10, e11, e12⟩ := hT
  subst e1
  have hr' : K.meth.sig.returnType = some ty := hK.2.2.2.1.trans hret
  obtain ⟨fs, hr, hrun, hended, hW⟩ := X.leaveW (v := some (.int v)) e2 e3 (fun q => by rw [hr'] at q; cases q) hK.2.2.2.2.2.1
  refine ⟨_, _, ?_, hrun, hended, fin_of hK.2.2.2.2.2.2 X e4 e6 e7 e8 e9 e10 e11 e12 hW q⟩
  have hm' := X.method'
  have hx := hK.1
  have hd' := hb hK.2.1 hd
  show Steps K.p.tables K.e K.below (T.setTop { method := K.m, pc := pc, locals := ls, stack := _ :: st, locked := none }) _
  rcases ht with rfl | rfl | rfl | rfl | rfl
  all_goals
    jvm_step X.here [X.here.top, hx, hd', hm', hr', hv]
    first | (intro acts; rw [hr _ acts rfl rfl rfl]) | rw [hr _ _ rfl rfl rfl]
    exact Steps.refl _
theorem go_areturn {ty : FieldType} (hd : Dec bytes pc .areturn 1 n) (hret : ret = some ty) (ht : ty.isReference = true) (hu : u.isRef = true) (q : Q S (some u) h) : Go l Z a0 EL R own bytes ml ret nm S0 Q K kc ks S h (mkF K.m pc ls (u :: st)) := by
  intro hK T hT
  obtain ⟨hd, -⟩ := hd
  obtain ⟨vm0, k0, locs, cells, slots, X, e1, e2, e3, e4, e5, e6, e7, e8, e9, e10, e11, e12⟩ := hT
  subst e1
  have hr' : K.meth.sig.returnType = some ty := hK.2.2.2.1.trans hret
  obtain ⟨fs, hr, hrun, hended, hW⟩ := X.leaveW (v := some u) e2 e3 (fun q => by rw [hr'] at q; cases q) hK.2.2.2.2.2.1
  refine ⟨_, _, ?_, hrun, hended, fin_of hK.2.2.2.2.2.2 X e4 e6 e7 e8 e9 e10 e11 e12 hW q⟩
  have hm' := X.method'
  have hx := hK.1
  have hd' := hb hK.2.1 hd
  show Steps K.p.tables K.e K.below (T.setTop { method := K.m, pc := pc, locals := ls, stack := _ :: st, locked := none }) _
  rcases ref_cases hu with rfl | ⟨a, rfl⟩
  all_goals
    jvm_step X.here [X.here.top, hx, hd', hm', hr', Value.isRef, ht]
    first | (intro acts; rw [hr _ acts rfl rfl rfl]) | rw [hr _ _ rfl rfl rfl]
    exact Steps.refl _
theorem go_lreturn {z : Int64} (hd : Dec bytes pc .lreturn 1 n) (hret : ret = some .long) (q : Q S (some (.long z)) h) : Go l Z a0 EL R own bytes ml ret nm S0 Q K kc ks S h (mkF K.m pc ls (.long z :: st)) := by
  intro hK T hT
  obtain ⟨hd, -⟩ := hd
  obtain ⟨vm0, k0, locs, cells, slots, X, e1, e2, e3, e4, e5, e6, e7, e8, e9, e10, e11, e12⟩ := hT
  subst e1
  have hr' : K.meth.sig.returnType = some .long := hK.2.2.2.1.trans hret
  obtain ⟨fs, hr, hrun, hended, hW⟩ := X.leaveW (v := some (.long z)) e2 e3 (fun q => by rw [hr'] at q; cases q) hK.2.2.2.2.2.1
  refine ⟨_, _, ?_, hrun, hended, fin_of hK.2.2.2.2.2.2 X e4 e6 e7 e8 e9 e10 e11 e12 hW q⟩
  have hm' := X.method'
  have hx := hK.1
  have hd' := hb hK.2.1 hd
  have hv : narrow .long (.long z) = .long z := rfl
  show Steps K.p.tables K.e K.below (T.setTop { method := K.m, pc := pc, locals := ls, stack := _ :: st, locked := none }) _
  jvm_step X.here [X.here.top, hx, hd', hm', hr', hv]
  first | (intro acts; rw [hr _ acts rfl rfl rfl]) | rw [hr _ _ rfl rfl rfl]
  exact Steps.refl _
theorem go_getf {R0 O fn d : String} {idx : Nat} {a : Addr} (w1 : (Cond.fieldLink own idx R0 fn d).before a0 Z = true) (via : Via Z R0 O fn d) (F : Fld Z h a O fn d u) (hd : Dec bytes pc (.getfield idx) 3 n) (kk : Go l Z a0 EL R own bytes ml ret nm S0 Q K kc ks S h (mkF K.m n ls (u :: st))) : Go l Z a0 EL R own bytes ml ret nm S0 Q K kc ks S h (mkF K.m pc ls (.ref a :: st)) := by
  obtain ⟨hd, rfl⟩ := hd
  refine Go.calm kk fun vm0 T locs cells slots hK X hZ hown eT hE => ?_
  exact getF X hK.1 hZ hown (host := "") (Or.inl w1) via eT F (g := mkF K.m pc ls (.ref a :: st)) rfl rfl (hb hK.2.1 hd)
theorem go_getfN {R0 O fn d host : String} {idx : Nat} {a : Addr} (w1 : (Cond.fieldLinkNest own idx R0 fn d host).before a0 Z = true) (via : Via Z R0 O fn d) (F : Fld Z h a O fn d u) (hd : Dec bytes pc (.getfield idx) 3 n) (kk : Go l Z a0 EL R own bytes ml ret nm S0 Q K kc ks S h (mkF K.m n ls (u :: st))) : Go l Z a0 EL R own bytes ml ret nm S0 Q K kc ks S h (mkF K.m pc ls (.ref a :: st)) := by
  obtain ⟨hd, rfl⟩ := hd
  refine Go.calm kk fun vm0 T locs cells slots hK X hZ hown eT hE => ?_
  exact getF X hK.1 hZ hown (Or.inr w1) via eT F (g := mkF K.m pc ls (.ref a :: st)) rfl rfl (hb hK.2.1 hd)
theorem go_gets {R0 O fn d : String} {idx : Nat} (w1 : (Cond.fieldLink own idx R0 fn d).before a0 Z = true) (via : Via Z R0 O fn d) (F : Sta Z Z.heap O fn d u) (hd : Dec bytes pc (.getstatic idx) 3 n) (kk : Go l Z a0 EL R own bytes ml ret nm S0 Q K kc ks S h (mkF K.m n ls (u :: st))) : Go l Z a0 EL R own bytes ml ret nm S0 Q K kc ks S h (mkF K.m pc ls st) := by
  obtain ⟨hd, rfl⟩ := hd
  refine Go.calm kk fun vm0 T locs cells slots hK X hZ hown eT hE => ?_
  exact getS2 X hK.1 hZ hown (host := "") (Or.inl w1) via eT (F.ext hE) (g := mkF K.m pc ls st) rfl (hb hK.2.1 hd)
theorem go_cast {C : String} {idx : Nat} {a : Addr} (w1 : (Cond.classLink own idx C).before a0 Z = true) (I : Ins Z h a C true) (hd : Dec bytes pc (.checkcast idx) 3 n) (kk : Go l Z a0 EL R own bytes ml ret nm S0 Q K kc ks S h (mkF K.m n ls (.ref a :: st))) : Go l Z a0 EL R own bytes ml ret nm S0 Q K kc ks S h (mkF K.m pc ls (.ref a :: st)) := by
  obtain ⟨hd, rfl⟩ := hd
  refine Go.calm kk fun vm0 T locs cells slots hK X hZ hown eT hE => ?_
  exact castY X hK.1 hZ hown w1 eT I (g := mkF K.m pc ls (.ref a :: st)) rfl rfl (hb hK.2.1 hd)
theorem go_instY {C : String} {idx : Nat} {a : Addr} (w1 : (Cond.classLink own idx C).before a0 Z = true) (I : Ins Z h a C true) (hd : Dec bytes pc (.instanceof idx) 3 n) (kk : Go l Z a0 EL R own bytes ml ret nm S0 Q K kc ks S h (mkF K.m n ls (.int 1 :: st))) : Go l Z a0 EL R own bytes ml ret nm S0 Q K kc ks S h (mkF K.m pc ls (.ref a :: st)) := by
  obtain ⟨hd, rfl⟩ := hd
  refine Go.calm kk fun vm0 T locs cells slots hK X hZ hown eT hE => ?_
  exact instY X hK.1 hZ hown w1 eT I (g := mkF K.m pc ls (.ref a :: st)) rfl rfl (hb hK.2.1 hd)
theorem go_initO {idx : Nat} {a : Addr} (w1 : (Cond.methodLink own idx Lib.objectInit).before a0 Z = true) (w2 : (Cond.instanceMethod Lib.objectInit).before a0 Z = true) (w3 : (Cond.code Lib.objectInit ⟨#[0xb1]⟩ 1 none).before a0 Z = true) (hd : Dec bytes pc (.invokespecial idx) 3 n) (hsz : ls.size = ml) (hf : 1 ≤ R.frames) (hW : (st.map fun v => v.category).sum + 12 ≤ R.locals)
    (kk : Go l Z a0 EL R own bytes ml ret nm S0 Q K kc ks S h (mkF K.m n ls st)) : Go l Z a0 EL R own bytes ml ret nm S0 Q K kc ks S h (mkF K.m pc ls (.ref a :: st)) := by
  obtain ⟨hd, rfl⟩ := hd
  refine Go.calm kk fun vm0 T locs cells slots hK X hZ hown eT hE => ?_
  exact initO X hK.1 hZ hown w1 w2 w3 eT (g := mkF K.m pc ls (.ref a :: st)) rfl (hsz.trans hK.2.2.1.symm) rfl (hb hK.2.1 hd) hf (W := (st.map fun v => v.category).sum) (by show 2 * 0 + _ ≤ _; simp) hW
theorem go_new {C : String} {idx na : Nat} (w1 : (Cond.classLink own idx C).before a0 Z = true) (wi : (Cond.instantiable C na).before a0 Z = true) (wz : (Cond.initialized C).before a0 Z = true) (hd : Dec bytes pc (.new idx) 3 n)
    (kk : ∀ S' h' a, a = h.size → (∀ x, S x → S' x) → S' a → Ext h h' → a < h'.size → (Exa Z h' a C ∧ ∀ {O nm d : String} {ty : FieldType}, Laid Z a0 C O nm d → parseFieldDescriptor d = some ty → Fld Z h' a O nm d (defaultValue ty)) → Go l Z a0 EL R own bytes ml ret nm S0 Q K kc ks S' h' (mkF K.m n ls (.ref a :: st))) : Go l Z a0 EL R own bytes ml ret nm S0 Q K (kc + 1) (ks + na) S h (mkF K.m pc ls st) := by
  obtain ⟨hd, rfl⟩ := hd
  refine Go.make (f' := fun a => mkF K.m (pc + 3) ls (.ref a :: st)) _ kk fun vm0 T locs cells slots hK X hZ hown eT hc hl => ?_
  obtain ⟨T', h', X', e', E, A, D, -, st'⟩ := newO X hK.1 hZ hown w1 wi wz eT (g := mkF K.m pc ls st) rfl (hb hK.2.1 hd) hc hl
  exact ⟨T', h', X', e', E, A.lt, ⟨A, D⟩, st'⟩
/-- an array of ints, bytes, chars ..: its components as a list -/
def AI (Z : State) (h : Heap) (a : Addr) (ty : FieldType) (xs : List Int32) : Prop := ∃ c : Cell, Arr Z h a c ty ∧ c.slots.toList = xs.map Value.int ∧ xs.length < 2 ^ 31 ∧ ∀ x ∈ xs, fits ty (.int x) = true
theorem AI.lt {a : Addr} {ty : FieldType} {xs : List Int32} (A : AI Z h a ty xs) : a < h.size := by obtain ⟨c, A, -⟩ := A; exact A.lt
theorem AI.keep {a : Addr} {ty : FieldType} {xs : List Int32} {h' : Heap} {ws : List Addr} (A : AI Z h a ty xs) (K : Keep h h' ws) (q : a ∉ ws) : AI Z h' a ty xs := by obtain ⟨c, A, r⟩ := A; exact ⟨c, ⟨K.2.1 a c A.1 q, A.2⟩, r⟩
theorem AI.ext {a : Addr} {ty : FieldType} {xs : List Int32} {h' : Heap} (A : AI Z h a ty xs) (E : Ext h h') : AI Z h' a ty xs := by obtain ⟨c, A, r⟩ := A; exact ⟨c, A.ext E, r⟩
theorem AI.size {a : Addr} {ty : FieldType} {xs : List Int32} {c : Cell} (A : Arr Z h a c ty) (q : c.slots.toList = xs.map Value.int) : c.slots.size = xs.length := by
  have := congrArg List.length q
  simpa using this
theorem AI.at {xs : List Int32} {c : Cell} {i : Nat} (q : c.slots.toList = xs.map Value.int) (hx : xs[i]? = some x) : c.slots[i]? = some (.int x) := by
  have h1 : c.slots.toList[i]? = some (.int x) := by rw [q, List.getElem?_map, hx]; rfl
  simpa using h1
theorem AI.new {a : Addr} {ty : FieldType} {cA : ClassId} {j : Int32} {N : Nat} (A : Arr Z h a (newA cA ty j) ty) (hj : j = Int32.ofNat N) (hN : N < 2 ^ 31) (hd : defaultValue ty = .int 0) (hf : fits ty (.int 0) = true) : AI Z h a ty (List.replicate N 0) := by
  refine ⟨_, A, ?_, by simpa using hN, fun x hx => ?_⟩
  · simp [newA, clamp_of hj hN, hd]
  · rw [(List.mem_replicate.mp hx).2]; exact hf
theorem AI.set {a : Addr} {ty : FieldType} {xs : List Int32} {h' : Heap} {i : Nat} {sl : Nat} (A : AI Z h a ty xs) (W : Wr h h' a sl (.int x)) (hs : sl = i) (hf : fits ty (.int x) = true) : AI Z h' a ty (xs.set i x) := by
  subst hs
  obtain ⟨c, A, q1, q2, q3⟩ := A
  refine ⟨_, A.same W, ?_, by simpa using q2, fun y hy => ?_⟩
  · simp [Cell.setSlot, q1, List.map_set]
  · rcases List.mem_or_eq_of_mem_set hy with hy | rfl
    · exact q3 y hy
    · exact hf
theorem AI.ne_exa {a b : Addr} {ty : FieldType} {xs : List Int32} {C : String} {kn : Nat} (A : AI Z h a ty xs) (E : Exa Z h b C) (wi : (Cond.instantiable C kn).before a0 Z = true) : a ≠ b := by
  obtain ⟨c, A, -⟩ := A
  exact (ne_arr E wi A).symm
theorem Arr.ne_ty {a b : Addr} {ty ty' : FieldType} {c c' : Cell} (A : Arr Z h a c ty) (B : Arr Z h b c' ty') (hn : ty ≠ ty') : a ≠ b := fun e => by
  subst e
  cases A.1.symm.trans B.1
  obtain ⟨-, k1, i1, comp1, j1⟩ := A.2.1
  obtain ⟨-, k2, i2, comp2, j2⟩ := B.2.1
  cases i1.symm.trans i2
  have := j1.symm.trans j2
  injection this with _ e
  exact hn e
theorem AI.ne_ty {a b : Addr} {ty ty' : FieldType} {xs ys : List Int32} (A : AI Z h a ty xs) (B : AI Z h b ty' ys) (hn : ty ≠ ty') : a ≠ b := by
  obtain ⟨c, A, -⟩ := A
  obtain ⟨c', B, -⟩ := B
  exact Arr.ne_ty A B hn
theorem AI.safe {a : Addr} {ty : FieldType} {xs : List Int32} (A : AI Z h a ty xs) (hn : ty ≠ .byte) : ∀ vm0 : Vm, Z.vm.Alike vm0 → Safe Z EL vm0 h a := fun vm0 hal => by
  obtain ⟨c, A, -⟩ := A
  exact Safe.arr hal A hn
theorem toInt32_ofNat (i : Nat) : i.toInt32 = Int32.ofNat i := rfl
theorem go_newarr {aty : ArrayType} {j : Int32} {N cap : Nat} (w1 : (Cond.arrayClass (newarray.typeOf aty)).before a0 Z = true) (hj : j = Int32.ofNat N) (hN : N ≤ cap) (hcap : cap * 8 ≤ 536870912) (hdv : defaultValue (newarray.typeOf aty) = .int 0) (hft : fits (newarray.typeOf aty) (.int 0) = true) (hd : Dec bytes pc (.newarray aty) 2 n)
    (kk : ∀ S' h' a, a = h.size → (∀ x, S x → S' x) → S' a → Ext h h' → a < h'.size → AI Z h' a (newarray.typeOf aty) (List.replicate N 0) → Go l Z a0 EL R own bytes ml ret nm S0 Q K kc ks S' h' (mkF K.m n ls (.ref a :: st))) : Go l Z a0 EL R own bytes ml ret nm S0 Q K (kc + 1) (ks + cap) S h (mkF K.m pc ls (.int j :: st)) := by
  obtain ⟨hd, rfl⟩ := hd
  refine Go.make (f' := fun a => mkF K.m (pc + 2) ls (.ref a :: st)) _ kk fun vm0 T locs cells slots hK X hZ hown eT hc hl => ?_
  have hN' : N < 2 ^ 31 := by omega
  obtain ⟨T', h', cA, X', e', E, A, st'⟩ := newP X hK.1 hZ w1 eT (g := mkF K.m pc ls (.int j :: st)) rfl (hb hK.2.1 hd) (n := j) rfl (by rw [Int32.lt_iff_toInt_lt, toInt_of hj hN']; simp) (cap := cap) (by rw [clamp_of hj hN']; exact hN) hcap hc hl
  exact ⟨T', h', X', e', E, A.lt, AI.new A hj hN' hdv hft, st'⟩
theorem go_alen {a : Addr} {ty : FieldType} {xs : List Int32} (A : AI Z h a ty xs) (hd : Dec bytes pc .arraylength 1 n) (hv : Int32.ofNat xs.length = v) (kk : Go l Z a0 EL R own bytes ml ret nm S0 Q K kc ks S h (mkF K.m n ls (.int v :: st))) : Go l Z a0 EL R own bytes ml ret nm S0 Q K kc ks S h (mkF K.m pc ls (.ref a :: st)) := by
  obtain ⟨hd, rfl⟩ := hd
  obtain ⟨c, A, q1, q2, q3⟩ := A
  refine Go.calm kk fun vm0 T locs cells slots hK X hZ hown eT hE => ⟨T, X, eT, fun tgt hr => ?_⟩
  refine X.arraylength hK.1 (by rw [eT]; exact A.1) (State.isArrayOf_alike hZ.alike A.2.1) (g := mkF K.m pc ls (.ref a :: st)) rfl rfl (hb hK.2.1 hd) _ ?_
  rw [AI.size A q1, toInt32_ofNat, hv]; exact hr
theorem go_caload {a : Addr} {xs : List Int32} {j : Int32} {i : Nat} (A : AI Z h a .char xs) (hj : j = Int32.ofNat i) (hx : xs[i]? = some x) (hd : Dec bytes pc .caload 1 n) (kk : Go l Z a0 EL R own bytes ml ret nm S0 Q K kc ks S h (mkF K.m n ls (.int x :: st))) : Go l Z a0 EL R own bytes ml ret nm S0 Q K kc ks S h (mkF K.m pc ls (.int j :: .ref a :: st)) := by
  obtain ⟨hd, rfl⟩ := hd
  obtain ⟨c, A, q1, q2, q3⟩ := A
  have hi := (List.getElem?_eq_some_iff.mp hx).1
  refine Go.calm kk fun vm0 T locs cells slots hK X hZ hown eT hE => ⟨T, X, eT, fun tgt hr => ?_⟩
  exact X.caload hK.1 (j := j) (v := .int x) (by rw [eT]; exact A.1) (State.isArrayOf_alike hZ.alike A.2.1) A.2.2 (by rw [AI.size A q1]; exact within hj hi q2) (by rw [clamp_of hj (by omega)]; exact AI.at q1 hx) (g := mkF K.m pc ls (.int j :: .ref a :: st)) rfl rfl (hb hK.2.1 hd) _ hr
theorem go_baload {a : Addr} {xs : List Int32} {j : Int32} {i : Nat} (A : AI Z h a .byte xs) (hj : j = Int32.ofNat i) (hx : xs[i]? = some x) (hd : Dec bytes pc .baload 1 n) (kk : Go l Z a0 EL R own bytes ml ret nm S0 Q K kc ks S h (mkF K.m n ls (.int x :: st))) : Go l Z a0 EL R own bytes ml ret nm S0 Q K kc ks S h (mkF K.m pc ls (.int j :: .ref a :: st)) := by
  obtain ⟨hd, rfl⟩ := hd
  obtain ⟨c, A, q1, q2, q3⟩ := A
  have hi := (List.getElem?_eq_some_iff.mp hx).1
  refine Go.calm kk fun vm0 T locs cells slots hK X hZ hown eT hE => ⟨T, X, eT, fun tgt hr => ?_⟩
  exact X.baloadBytes hK.1 (j := j) (v := .int x) (by rw [eT]; exact A.1) (State.isArrayOf_alike hZ.alike A.2.1) A.2.2 (by rw [AI.size A q1]; exact within hj hi q2) (by rw [clamp_of hj (by omega)]; exact AI.at q1 hx) (g := mkF K.m pc ls (.int j :: .ref a :: st)) rfl rfl (hb hK.2.1 hd) _ hr
theorem go_iaload {a : Addr} {xs : List Int32} {j : Int32} {i : Nat} (A : AI Z h a .int xs) (hj : j = Int32.ofNat i) (hx : xs[i]? = some x) (hd : Dec bytes pc .iaload 1 n) (kk : Go l Z a0 EL R own bytes ml ret nm S0 Q K kc ks S h (mkF K.m n ls (.int x :: st))) : Go l Z a0 EL R own bytes ml ret nm S0 Q K kc ks S h (mkF K.m pc ls (.int j :: .ref a :: st)) := by
  obtain ⟨hd, rfl⟩ := hd
  obtain ⟨c, A, q1, q2, q3⟩ := A
  have hi := (List.getElem?_eq_some_iff.mp hx).1
  refine Go.calm kk fun vm0 T locs cells slots hK X hZ hown eT hE => ⟨T, X, eT, fun tgt hr => ?_⟩
  exact X.iaload hK.1 (j := j) (v := .int x) (by rw [eT]; exact A.1) (State.isArrayOf_alike hZ.alike A.2.1) A.2.2 (by rw [AI.size A q1]; exact within hj hi q2) (by rw [clamp_of hj (by omega)]; exact AI.at q1 hx) (g := mkF K.m pc ls (.int j :: .ref a :: st)) rfl rfl (hb hK.2.1 hd) _ hr
theorem go_castore {a : Addr} {xs : List Int32} {j : Int32} {i : Nat} (A : AI Z h a .char xs) (ha : Z.heap.size ≤ a) (hj : j = Int32.ofNat i) (hi : i < xs.length) (hv : nar .char x = v) (hd : Dec bytes pc .castore 1 n)
    (kk : ∀ h', Keep h h' [a] → AI Z h' a .char (xs.set i v) → Go l Z a0 EL R own bytes ml ret nm S0 Q K kc ks S h' (mkF K.m n ls st)) : Go l Z a0 EL R own bytes ml ret nm S0 Q K kc ks S h (mkF K.m pc ls (.int x :: .int j :: .ref a :: st)) := by
  obtain ⟨hd, rfl⟩ := hd
  subst hv
  have A' := A
  obtain ⟨c, A, q1, q2, q3⟩ := A
  refine Go.write (sl := j.toNatClampNeg) (w := .int (nar .char x)) ha (Or.inr (AI.safe A' (by decide))) (fun h' W KW => kk h' KW (A'.set W (clamp_of hj (by omega)) (fits_nar_char x))) fun vm0 T locs cells slots hK X hZ hown eT => ?_
  exact stC X hK.1 hZ eT A (by rw [AI.size A q1]; exact within hj hi q2) (g := mkF K.m pc ls (.int x :: .int j :: .ref a :: st)) rfl rfl (hb hK.2.1 hd)
theorem fits_nar_b (x : Int32) : fits .byte (.int (nar .byte x)) = true := fits_nar_byte x
theorem go_bastore {a : Addr} {xs : List Int32} {j : Int32} {i : Nat} (A : AI Z h a .byte xs) (ha : Z.heap.size ≤ a) (hsa : S a) (hj : j = Int32.ofNat i) (hi : i < xs.length) (hv : nar .byte x = v) (hd : Dec bytes pc .bastore 1 n)
    (kk : ∀ h', Keep h h' [a] → AI Z h' a .byte (xs.set i v) → Go l Z a0 EL R own bytes ml ret nm S0 Q K kc ks S h' (mkF K.m n ls st)) : Go l Z a0 EL R own bytes ml ret nm S0 Q K kc ks S h (mkF K.m pc ls (.int x :: .int j :: .ref a :: st)) := by
  obtain ⟨hd, rfl⟩ := hd
  subst hv
  have A' := A
  obtain ⟨c, A, q1, q2, q3⟩ := A
  refine Go.write (sl := j.toNatClampNeg) (w := .int (nar .byte x)) ha (Or.inl hsa) (fun h' W KW => kk h' KW (A'.set W (clamp_of hj (by omega)) (fits_nar_b x))) fun vm0 T locs cells slots hK X hZ hown eT => ?_
  exact stB X hK.1 hZ eT A (by rw [AI.size A q1]; exact within hj hi q2) (g := mkF K.m pc ls (.int x :: .int j :: .ref a :: st)) rfl rfl (hb hK.2.1 hd)
theorem go_iastore {a : Addr} {xs : List Int32} {j : Int32} {i : Nat} (A : AI Z h a .int xs) (ha : Z.heap.size ≤ a) (hj : j = Int32.ofNat i) (hi : i < xs.length) (hd : Dec bytes pc .iastore 1 n)
    (kk : ∀ h', Keep h h' [a] → AI Z h' a .int (xs.set i x) → Go l Z a0 EL R own bytes ml ret nm S0 Q K kc ks S h' (mkF K.m n ls st)) : Go l Z a0 EL R own bytes ml ret nm S0 Q K kc ks S h (mkF K.m pc ls (.int x :: .int j :: .ref a :: st)) := by
  obtain ⟨hd, rfl⟩ := hd
  have A' := A
  obtain ⟨c, A, q1, q2, q3⟩ := A
  refine Go.write (sl := j.toNatClampNeg) (w := .int x) ha (Or.inr (AI.safe A' (by decide))) (fun h' W KW => kk h' KW (A'.set W (clamp_of hj (by omega)) rfl)) fun vm0 T locs cells slots hK X hZ hown eT => ?_
  exact stI X hK.1 hZ eT A (by rw [AI.size A q1]; exact within hj hi q2) (g := mkF K.m pc ls (.int x :: .int j :: .ref a :: st)) rfl rfl (hb hK.2.1 hd)
theorem go_putf {R0 O fn d C : String} {idx kn : Nat} {ty : FieldType} {a : Addr} {old u' : Value} (w1 : (Cond.fieldLink own idx R0 fn d).before a0 Z = true) (via : Via Z R0 O fn d) (F : Fld Z h a O fn d old) (E : Exa Z h a C) (L : (Cond.lays C O fn d).before a0 Z = true ∨ ((Cond.laysFinal C O fn d).before a0 Z = true ∧ own = O ∧ nm = "<init>")) (wi : (Cond.instantiable C kn).before a0 Z = true)
    (hty : parseFieldDescriptor d = some ty) (hn : narrow ty u = u') (hf : fits ty u' = true) (ha : Z.heap.size ≤ a) (hsafe : S a ∨ (C ≠ "java/lang/String" ∧ C ≠ "[B")) (hd : Dec bytes pc (.putfield idx) 3 n)
    (kk : ∀ h', Wr h h' a (RoadKit.slotOf Z O fn d) u' → Keep h h' [a] → Exa Z h' a C → Fld Z h' a O fn d u' → Go l Z a0 EL R own bytes ml ret nm S0 Q K kc ks S h' (mkF K.m n ls st)) : Go l Z a0 EL R own bytes ml ret nm S0 Q K kc ks S h (mkF K.m pc ls (u :: .ref a :: st)) := by
  obtain ⟨hd, rfl⟩ := hd
  refine Go.write (sl := RoadKit.slotOf Z O fn d) (w := u') ha (hsafe.imp id fun q vm0 hal => Safe.exa hal E q.1 q.2) (fun h' W KW => kk h' W KW (E.wr W) (F.same W)) fun vm0 T locs cells slots hK X hZ hown eT => ?_
  exact putFN X hK.1 hZ hown w1 via eT F E (L.imp id fun q => ⟨q.1, q.2.1, hK.2.2.2.2.1.trans q.2.2⟩) wi hty hn hf (g := mkF K.m pc ls (u :: .ref a :: st)) rfl rfl (hb hK.2.1 hd)
theorem go_ldcI {idx : Nat} (w1 : (Cond.constant own idx v).before a0 Z = true) (hd : Dec bytes pc (.ldc idx) 2 n) (kk : Go l Z a0 EL R own bytes ml ret nm S0 Q K kc ks S h (mkF K.m n ls (.int v :: st))) : Go l Z a0 EL R own bytes ml ret nm S0 Q K kc ks S h (mkF K.m pc ls st) := by
  obtain ⟨hd, rfl⟩ := hd
  refine Go.calm kk fun vm0 T locs cells slots hK X hZ hown eT hE => ⟨T, X, eT, fun tgt hr => ?_⟩
  exact X.ldcInt hK.1 hown (mvT hZ w1) (g := mkF K.m pc ls st) rfl (hb hK.2.1 hd) _ hr
/-- a call: whatever brings the invocation back to a point at which it stands again -/
theorem Go.call {rc rs : Nat} {f1 : Option Value → JFrame} {QY : (Addr → Prop) → Option Value → Heap → Prop}
    (kk : ∀ S' v h', (∀ x, S x → S' x) → h.size ≤ h'.size → QY S' v h' → Go l Z a0 EL R own bytes ml ret nm S0 Q K kc ks S' h' (f1 v))
    (H : ∀ vm0 T locs cells slots, Kok Z a0 EL bytes ml ret nm K → Stand K.p l K.e R (K.s.setVm vm0) K.m K.args K.below K.meth K.c T locs cells slots → Z.Warmed39 (K.s.setVm vm0).vm → (K.s.setVm vm0).vm.findClass own = some K.m.cls → T.heap = h → CHv Z EL vm0 h → Sf Z EL vm0 h S → Ext Z.heap h → cells + rc ≤ R.cells → slots + rs ≤ R.slots →
      ∃ (v : Option Value) (B : Pt), Stand K.p l K.e R ((K.s.setVm vm0).setVm B.U.vm) K.m K.args K.below K.meth K.c B.U B.locs B.cells B.slots ∧ (K.s.setVm vm0).Since B.U.vm B.U.heap.size ∧ h.size ≤ B.U.heap.size ∧
        (∃ L, ((∃ S', (∀ x, S x → S' x) ∧ Sf Z EL B.U.vm B.U.heap S' ∧ Ext Z.heap B.U.heap ∧ QY S' v B.U.heap) ∧ Fr Z.heap.size L) ∧ B.locs = locs ++ L ∧ B.cells = cells + rc ∧ B.slots = slots + rs ∧ CHr Z EL vm0 h B.U.vm B.U.heap) ∧
        Steps K.p.tables K.e K.below (T.setTop f) (B.U.setTop (f1 v))) : Go l Z a0 EL R own bytes ml ret nm S0 Q K (kc + rc) (ks + rs) S h f := by
  intro hK T hT
  obtain ⟨vm0, k0, locs, cells, slots, X, e1, e2, e3, e4, e5, e6, e7, e8, e9, e10, e11, e12⟩ := hT
  obtain ⟨v, ⟨T2, L2, k2, n2⟩, X2, hSi, hgr, ⟨Lc, ⟨⟨S', m', sf', ex', q⟩, fr⟩, l2, y2, z2, ch⟩, st2⟩ := H vm0 T locs cells slots hK X e4 e5 e1 e6.1 e10 e11 (by omega) (by omega)
  dsimp only [Pt.U, Pt.locs, Pt.cells, Pt.slots] at *
  subst l2 y2 z2
  obtain ⟨t, o, hs, r⟩ := kk S' v T2.heap m' hgr q hK T2 ⟨T2.vm, T2.heap.size, _, _, _, X2, rfl, e2.trans hSi (Nat.le_trans e3 hgr), Nat.le_refl _, State.Warmed39.trans (t := K.s.setVm vm0) e4 hSi.1, (hSi.1.alike.findClass _ _).trans e5, e6.trans ch, Fr.app e7 fr, by omega, by omega, sf', ex', fun x q => m' x (e12 x q)⟩
  exact ⟨t, o, st2.trans hs, r⟩
theorem go_special {y : MethodName} {bY : ByteArray} {mY : Nat} {rm : Room} {as' : Array Value} {QY : (Addr → Prop) → Option Value → Heap → Prop} {idx : Nat} {a : Addr} (argsL rest : List Value) (C : Con l Z EL [] y bY mY none rm as' S h QY)
    (w1 : (Cond.methodLink own idx y).before a0 Z = true) (w2 : (Cond.instanceMethod y).before a0 Z = true) (w3 : (Cond.code y bY mY none).before a0 Z = true) (w4 : (Cond.initialized y.cls).before a0 Z = true) (hy : y.name = "<init>") (hy2 : y.cls ≠ "java/lang/invoke/MethodHandle" ∧ y.cls ≠ "java/lang/invoke/VarHandle")
    (has : as' = (.ref a :: argsL).toArray) (hs : st = argsL.reverse ++ .ref a :: rest) (hlen : ∀ sig, parseMethodDescriptor y.desc = some sig → argsL.length = sig.parameters.length) (hd : Dec bytes pc (.invokespecial idx) 3 n) (hsz : ls.size = ml) (hf : rm.frames + 1 ≤ R.frames) (hW : (rest.map fun v => v.category).sum + (mY + 11) + rm.locals ≤ R.locals)
    {rc rs : Nat} (hrc : rm.cells = rc) (hrs : rm.slots = rs) (kk : ∀ S' v h', (∀ x, S x → S' x) → h.size ≤ h'.size → QY S' v h' → Go l Z a0 EL R own bytes ml ret nm S0 Q K kc ks S' h' (mkF K.m n ls (v.toList ++ rest))) : Go l Z a0 EL R own bytes ml ret nm S0 Q K (kc + rc) (ks + rs) S h (mkF K.m pc ls st) := by
  subst hrc hrs
  obtain ⟨hd, rfl⟩ := hd
  refine Go.call (f1 := fun v => mkF K.m (pc + 3) ls (v.toList ++ rest)) kk fun vm0 T locs cells slots hK X hZ hown eT hC hSf hE hc hl => ?_
  obtain ⟨v, vm₁, B, hwm, X', hSi, hgr, ⟨L, hp⟩, st'⟩ := X.specialBackS hK.1 (y := y) hy hown (mvT hZ w1) (mvT hZ w2) (mvT hZ w3) hy2 (backG (W := (rest.map fun v => v.category).sum) C hZ w3 w4 hf hW hK.2.2.2.2.2.2 hC hSf hE) (g := mkF K.m pc ls st) rfl (hsz.trans hK.2.2.1.symm) (Steps.refl _) (a := a) (argsL := argsL) (rest := rest) hlen hs (by show 2 * 0 + _ ≤ _; simp) (hb hK.2.1 hd) (fun _ _ => ⟨has.symm, eT, hc, hl⟩)
  exact ⟨v, B, X', hSi, by rw [← eT]; exact hgr, ⟨L, hp⟩, st'⟩
theorem go_static {y : MethodName} {bY : ByteArray} {mY : Nat} {rY : Option FieldType} {rm : Room} {as' : Array Value} {QY : (Addr → Prop) → Option Value → Heap → Prop} {idx : Nat} (argsL rest : List Value) (C : Con l Z EL [] y bY mY rY rm as' S h QY)
    (w1 : (Cond.methodLink own idx y).before a0 Z = true) (w2 : (Cond.static y).before a0 Z = true) (w3 : (Cond.code y bY mY rY).before a0 Z = true) (w4 : (Cond.initialized y.cls).before a0 Z = true) (hy2 : y.cls ≠ "java/lang/invoke/MethodHandle" ∧ y.cls ≠ "java/lang/invoke/VarHandle")
    (has : as' = argsL.toArray) (hs : st = argsL.reverse ++ rest) (hlen : ∀ sig, parseMethodDescriptor y.desc = some sig → argsL.length = sig.parameters.length) (hd : Dec bytes pc (.invokestatic idx) 3 n) (hsz : ls.size = ml) (hf : rm.frames + 1 ≤ R.frames) (hW : (rest.map fun v => v.category).sum + (mY + 11) + rm.locals ≤ R.locals)
    {rc rs : Nat} (hrc : rm.cells = rc) (hrs : rm.slots = rs) (kk : ∀ S' v h', (∀ x, S x → S' x) → h.size ≤ h'.size → QY S' v h' → Go l Z a0 EL R own bytes ml ret nm S0 Q K kc ks S' h' (mkF K.m n ls (v.toList ++ rest))) : Go l Z a0 EL R own bytes ml ret nm S0 Q K (kc + rc) (ks + rs) S h (mkF K.m pc ls st) := by
  subst hrc hrs
  obtain ⟨hd, rfl⟩ := hd
  refine Go.call (f1 := fun v => mkF K.m (pc + 3) ls (v.toList ++ rest)) kk fun vm0 T locs cells slots hK X hZ hown eT hC hSf hE hc hl => ?_
  obtain ⟨v, vm₁, B, hwm, X', hSi, hgr, ⟨L, hp⟩, st'⟩ := callSS X hK.1 (y := y) hown (mvT hZ w1) (mvT hZ w2) (mvT hZ w4) (mvT hZ w3) hy2 (backG (W := (rest.map fun v => v.category).sum) C hZ w3 w4 hf hW hK.2.2.2.2.2.2 hC hSf hE) (g := mkF K.m pc ls st) rfl (hsz.trans hK.2.2.1.symm) (argsL := argsL) (rest := rest) hlen hs (by show 2 * 0 + _ ≤ _; simp) (hb hK.2.1 hd) (fun _ _ => ⟨has.symm, eT, hc, hl⟩)
  exact ⟨v, B, X', hSi, by rw [← eT]; exact hgr, ⟨L, hp⟩, st'⟩
theorem go_virtual {y z : MethodName} {D : String} {bY : ByteArray} {mY : Nat} {rY : Option FieldType} {rm : Room} {as' : Array Value} {QY : (Addr → Prop) → Option Value → Heap → Prop} {idx : Nat} {a : Addr} (argsL rest : List Value) (C : Con l Z EL [] z bY mY rY rm as' S h QY) (E : Exa Z h a D)
    (w1 : (Cond.methodLink own idx y).before a0 Z = true) (w2 : (Cond.declares y).before a0 Z = true) (w5 : (Cond.selects D y z).before a0 Z = true) (w6 : (Cond.instanceMethod z).before a0 Z = true) (wnf : ∀ s : State, Z.Warmed39 s.vm → NotFace s y) (w3 : (Cond.code z bY mY rY).before a0 Z = true) (w4 : (Cond.initialized z.cls).before a0 Z = true) (hy2 : y.cls ≠ "java/lang/invoke/MethodHandle" ∧ y.cls ≠ "java/lang/invoke/VarHandle")
    (has : as' = (.ref a :: argsL).toArray) (hs : st = argsL.reverse ++ .ref a :: rest) (hlen : ∀ sig, parseMethodDescriptor y.desc = some sig → argsL.length = sig.parameters.length) (hd : Dec bytes pc (.invokevirtual idx) 3 n) (hsz : ls.size = ml) (hf : rm.frames + 1 ≤ R.frames) (hW : (rest.map fun v => v.category).sum + (mY + 11) + rm.locals ≤ R.locals)
    {rc rs : Nat} (hrc : rm.cells = rc) (hrs : rm.slots = rs) (kk : ∀ S' v h', (∀ x, S x → S' x) → h.size ≤ h'.size → QY S' v h' → Go l Z a0 EL R own bytes ml ret nm S0 Q K kc ks S' h' (mkF K.m n ls (v.toList ++ rest))) : Go l Z a0 EL R own bytes ml ret nm S0 Q K (kc + rc) (ks + rs) S h (mkF K.m pc ls st) := by
  subst hrc hrs
  obtain ⟨hd, rfl⟩ := hd
  refine Go.call (f1 := fun v => mkF K.m (pc + 3) ls (v.toList ++ rest)) kk fun vm0 T locs cells slots hK X hZ hown eT hC hSf hE hc hl => ?_
  obtain ⟨cq, kq, qa, qb, qc⟩ := isOf hZ eT E
  obtain ⟨v, vm₁, B, hwm, X', hSi, hgr, ⟨L, hp⟩, st'⟩ := X.virtualBackS hK.1 (y := y) (z := z) hown (mvT hZ w1) (mvT hZ w2) (wnf _ hZ) (mvT hZ w5) (mvT hZ w6) hy2 (backG (W := (rest.map fun v => v.category).sum) C hZ w3 w4 hf hW hK.2.2.2.2.2.2 hC hSf hE) qa qc (g := mkF K.m pc ls st) rfl (hsz.trans hK.2.2.1.symm) (Steps.refl _) (argsL := argsL) (rest := rest) hlen hs (by show 2 * 0 + _ ≤ _; simp) (hb hK.2.1 hd) (fun _ _ => ⟨has.symm, eT, hc, hl⟩)
  exact ⟨v, B, X', hSi, by rw [← eT]; exact hgr, ⟨L, hp⟩, st'⟩
theorem nfSel {D : String} {y : MethodName} (w : (Cond.selects D y y).before a0 Z = true) : ∀ s : State, Z.Warmed39 s.vm → NotFace s y := fun s hZ => notFace_of_selects (args := #[]) (mvT hZ w)
theorem go_iface {xi z : MethodName} {D : String} {bY : ByteArray} {mY count : Nat} {rY : Option FieldType} {rm : Room} {as' : Array Value} {QY : (Addr → Prop) → Option Value → Heap → Prop} {idx : Nat} {a : Addr} (argsL rest : List Value) (C : Con l Z EL [] z bY mY rY rm as' S h QY) (E : Exa Z h a D)
    (w1 : (Cond.methodLink own idx xi).before a0 Z = true) (w2 : (Cond.declares xi).before a0 Z = true) (w7 : (Cond.interfaceMethod xi.cls xi.cls xi.name xi.desc).before a0 Z = true) (w5 : (Cond.selects D xi z).before a0 Z = true) (w6 : (Cond.instanceMethod z).before a0 Z = true) (w8 : (Cond.publicMethod z).before a0 Z = true) (w9 : (Cond.unhidden D xi.name xi.desc).before a0 Z = true) (w10 : (Cond.castable D xi.cls).before a0 Z = true)
    (hmv : ∀ s : State, ∀ args : Array Value, Z.Warmed39 s.vm → (Cond.interfaceMethod xi.cls xi.cls xi.name xi.desc).before args s = true ∧ (Cond.publicMethod z).before args s = true ∧ (Cond.unhidden D xi.name xi.desc).before args s = true ∧ (Cond.castable D xi.cls).before args s = true)
    (w3 : (Cond.code z bY mY rY).before a0 Z = true) (w4 : (Cond.initialized z.cls).before a0 Z = true) (hy2 : xi.cls ≠ "java/lang/invoke/MethodHandle" ∧ xi.cls ≠ "java/lang/invoke/VarHandle")
    (has : as' = (.ref a :: argsL).toArray) (hs : st = argsL.reverse ++ .ref a :: rest) (hlen : ∀ sig, parseMethodDescriptor xi.desc = some sig → argsL.length = sig.parameters.length) (hd : Dec bytes pc (.invokeinterface idx count) 5 n) (hsz : ls.size = ml) (hf : rm.frames + 1 ≤ R.frames) (hW : (rest.map fun v => v.category).sum + (mY + 11) + rm.locals ≤ R.locals)
    {rc rs : Nat} (hrc : rm.cells = rc) (hrs : rm.slots = rs) (kk : ∀ S' v h', (∀ x, S x → S' x) → h.size ≤ h'.size → QY S' v h' → Go l Z a0 EL R own bytes ml ret nm S0 Q K kc ks S' h' (mkF K.m n ls (v.toList ++ rest))) : Go l Z a0 EL R own bytes ml ret nm S0 Q K (kc + rc) (ks + rs) S h (mkF K.m pc ls st) := by
  subst hrc hrs
  obtain ⟨hd, rfl⟩ := hd
  refine Go.call (f1 := fun v => mkF K.m (pc + 5) ls (v.toList ++ rest)) kk fun vm0 T locs cells slots hK X hZ hown eT hC hSf hE hc hl => ?_
  obtain ⟨cq, kq, qa, qb, qc⟩ := isOf hZ eT E
  obtain ⟨m1, m2, m3, m4⟩ := hmv (K.s.setVm vm0) K.args hZ
  obtain ⟨v, vm₁, B, hwm, X', hSi, hgr, ⟨L, hp⟩, st'⟩ := X.interfaceBackS hK.1 (xi := xi) (y := z) hown (mvT hZ w1) (mvT hZ w2) m1 (mvT hZ w5) (mvT hZ w6) m2 m3 m4 hy2 (backG (W := (rest.map fun v => v.category).sum) C hZ w3 w4 hf hW hK.2.2.2.2.2.2 hC hSf hE) qa qb qc (g := mkF K.m pc ls st) rfl (hsz.trans hK.2.2.1.symm) (Steps.refl _) (argsL := argsL) (rest := rest) hlen hs (by show 2 * 0 + _ ≤ _; simp) (hb hK.2.1 hd) (fun _ _ => ⟨has.symm, eT, hc, hl⟩)
  exact ⟨v, B, X', hSi, by rw [← eT]; exact hgr, ⟨L, hp⟩, st'⟩
/-- ldc of a String constant of EL: a String of these bytes; two cells and 4 slots (and four a sign) may be made -/
theorem go_ldcS {text : String} {idx na nb : Nat} {xs : List Int32} (hnb : na + 4 = nb) (w1 : (Cond.stringLink own idx text).before a0 Z = true) (wS : ∀ a ∈ Bundle.stringAtoms, a.before a0 Z = true) (hmem : (own, idx) ∈ EL) (ht : (∀ c ∈ text.toList, c.toNat < 256) ∧ text.toList.map (fun c => Jvm.Lit.byteI c.toNat.toUInt16) = xs) (hna : 4 * text.toList.length ≤ na) (hbig : na ≤ 536870912) (hd : Dec bytes pc (.ldc idx) 2 n)
    (kk : ∀ S' h' a b, (∀ x, S x → S' x ∧ x ≠ a ∧ x ≠ b) → Ext h h' → a < h'.size → b < h'.size → Exa Z h' a "java/lang/String" → Fld Z h' a "java/lang/String" "coder" "B" (.int 0) → Fld Z h' a "java/lang/String" "value" "[B" (.ref b) → AI Z h' b .byte xs → Go l Z a0 EL R own bytes ml ret nm S0 Q K kc ks S' h' (mkF K.m n ls (.ref a :: st))) : Go l Z a0 EL R own bytes ml ret nm S0 Q K (kc + 2) (ks + nb) S h (mkF K.m pc ls st) := by
  subst hnb
  obtain ⟨hd, rfl⟩ := hd
  intro hK T hT
  obtain ⟨vm0, k0, locs, cells, slots, X, e1, e2, e3, e4, e5, e6, e7, e8, e9, e10, e11, e12⟩ := hT
  have hlen : xs.length = text.toList.length := by rw [← ht.2]; simp
  have hlt : xs.length < 2 ^ 31 := by omega
  obtain ⟨a, T', h', k1, b, k, X', e', E, hS', hk', hW', hown', Ea, Fc, Fv, Av, la, lb, ch, -, ne, st'⟩ := ldcCH X hK.1 e4 e5 w1 wS e1 e2 e3 hK.2.2.2.2.2.2 hmem e6.1 (vs := xs.map Value.int) (z := Int32.ofNat xs.length) ⟨ht.1, by rw [← ht.2]; simp⟩ (by rw [Int32.lt_iff_toInt_lt, toInt_of rfl hlt]; simp) (by rw [clamp_of rfl hlt]; simp) (g := mkF K.m pc ls st) rfl (hb hK.2.1 hd) hna hbig (by omega) (by omega)
  have hC := e6.trans ch
  have sf := e10.step ch
  have hAI : AI Z h' b .byte xs := by
    obtain ⟨c, A, -, r2, -, H, G⟩ := Av
    rw [clamp_of rfl hlt] at r2
    have hsz : c.slots.toList.length = xs.length := by simpa using r2
    refine ⟨c, A, ?_, hlt, fun x hx => ?_⟩
    · apply List.ext_getElem?
      intro i
      by_cases hi : i < xs.length
      · have q := H i (by omega)
        rw [List.getD_eq_getElem?_getD, List.getElem?_map, List.getElem?_eq_getElem hi] at q
        rw [List.getElem?_map, List.getElem?_eq_getElem hi]
        simpa using q
      · rw [List.getElem?_eq_none (by omega), List.getElem?_eq_none (by simp; omega)]
    · obtain ⟨i, hi, rfl⟩ := List.getElem_of_mem hx
      have q := G i (by omega)
      rw [List.getD_eq_getElem?_getD, List.getElem?_map, List.getElem?_eq_getElem hi] at q
      simpa using q
  obtain ⟨t, o, hs, r⟩ := kk S h' a b (fun x q => ⟨q, (ne x (sf x q).1).1, (ne x (sf x q).1).2⟩) E la lb Ea Fc Fv hAI hK T' ⟨T'.vm, k1, locs, _, _, X', e', hS', hk', hW', hown', hC, e7, by omega, by omega, sf, ext_trans e11 E, e12⟩
  exact ⟨t, o, st' _ hs, r⟩
/-- ldc of any String constant: some String -/
theorem go_ldcO {text : String} {idx na nb : Nat} (hnb : na + 4 = nb) (w1 : (Cond.stringLink own idx text).before a0 Z = true) (wS : ∀ a ∈ Bundle.stringAtoms, a.before a0 Z = true) (hna : 4 * text.toList.length ≤ na) (hbig : na ≤ 536870912) (hd : Dec bytes pc (.ldc idx) 2 n)
    (kk : ∀ h' a, Ext h h' → Go l Z a0 EL R own bytes ml ret nm S0 Q K kc ks S h' (mkF K.m n ls (.ref a :: st))) : Go l Z a0 EL R own bytes ml ret nm S0 Q K (kc + 2) (ks + nb) S h (mkF K.m pc ls st) := by
  subst hnb
  obtain ⟨hd, rfl⟩ := hd
  intro hK T hT
  obtain ⟨vm0, k0, locs, cells, slots, X, e1, e2, e3, e4, e5, e6, e7, e8, e9, e10, e11, e12⟩ := hT
  obtain ⟨a, T', h', k1, X', e', E, hS', hk', hW', hown', ch, -, st'⟩ := ldcOH X hK.1 e4 e5 w1 wS e1 e2 e3 hK.2.2.2.2.2.2 e6.1 (g := mkF K.m pc ls st) rfl (hb hK.2.1 hd) hna hbig (by omega) (by omega)
  obtain ⟨t, o, hs, r⟩ := kk h' a E hK T' ⟨T'.vm, k1, locs, _, _, X', e', hS', hk', hW', hown', e6.trans ch, e7, by omega, by omega, e10.step ch, ext_trans e11 E, e12⟩
  exact ⟨t, o, st' _ hs, r⟩
theorem Go.weak {kc' ks' : Nat} (k : Go l Z a0 EL R own bytes ml ret nm S0 Q K kc ks S h f) (h1 : kc ≤ kc') (h2 : ks ≤ ks') : Go l Z a0 EL R own bytes ml ret nm S0 Q K kc' ks' S h f := by
  intro hK T hT
  obtain ⟨vm0, k0, locs, cells, slots, X, e1, e2, e3, e4, e5, e6, e7, e8, e9, e10, e11, e12⟩ := hT
  exact k hK T ⟨vm0, k0, locs, cells, slots, X, e1, e2, e3, e4, e5, e6, e7, by omega, by omega, e10, e11, e12⟩
theorem AI.arv {a : Addr} {ty : FieldType} {xs : List Int32} (A : AI Z h a ty xs) : ∃ k, Arv Z h a k ty (Int32.ofNat xs.length) (xs.map Value.int) (.int 0) := by
  obtain ⟨c, A, q1, q2, q3⟩ := A
  have hs := AI.size A q1
  have ge : ∀ i, i < c.slots.size → ∃ x, xs[i]? = some x ∧ (xs.map Value.int).getD i (.int 0) = .int x := fun i hi => by
    refine ⟨_, List.getElem?_eq_getElem (by omega), ?_⟩
    rw [List.getD_eq_getElem?_getD, List.getElem?_map, List.getElem?_eq_getElem (by omega)]; rfl
  refine ⟨c.cls, c, A, rfl, by rw [clamp_of rfl q2]; exact hs, by rw [Int32.lt_iff_toInt_lt, toInt_of rfl q2]; simp, fun i hi => ?_, fun i hi => ?_⟩
  · obtain ⟨x, e1, e2⟩ := ge i hi
    rw [e2]; exact AI.at q1 e1
  · obtain ⟨x, e1, e2⟩ := ge i hi
    rw [e2]; exact q3 x (List.mem_of_getElem? e1)
theorem AI.of_arv {a : Addr} {ty : FieldType} {xs : List Int32} {k : ClassId} {dv : Value} {N : Nat} (V : Arv Z h a k ty (Int32.ofNat N) (xs.map Value.int) dv) (hN : xs.length = N) (hlt : N < 2 ^ 31) : AI Z h a ty xs := by
  subst hN
  obtain ⟨c, A, -, r2, -, H, G⟩ := V
  rw [clamp_of rfl hlt] at r2
  have hsz : c.slots.toList.length = xs.length := by simpa using r2
  refine ⟨c, A, ?_, hlt, fun x hx => ?_⟩
  · apply List.ext_getElem?
    intro i
    by_cases hi : i < xs.length
    · have q := H i (by omega)
      rw [List.getD_eq_getElem?_getD, List.getElem?_map, List.getElem?_eq_getElem hi] at q
      rw [List.getElem?_map, List.getElem?_eq_getElem hi]
      simpa using q
    · rw [List.getElem?_eq_none (by omega), List.getElem?_eq_none (by simp; omega)]
  · obtain ⟨i, hi, rfl⟩ := List.getElem_of_mem hx
    have q := G i (by omega)
    rw [List.getD_eq_getElem?_getD, List.getElem?_map, List.getElem?_eq_getElem hi] at q
    simpa using q
theorem range_take {xs : List Int32} {sp m : Nat} (hm : sp + m ≤ xs.length) : ((List.range m).map fun i => (xs.map Value.int).getD (sp + i) (.int 0)) = ((xs.drop sp).take m).map Value.int := by
  apply List.ext_getElem?
  intro i
  by_cases hi : i < m
  · rw [List.getElem?_map, List.getElem?_range hi, List.getElem?_map, List.getElem?_take_of_lt hi, List.getElem?_drop, List.getElem?_eq_getElem (by omega)]
    simp [List.getD_eq_getElem?_getD, List.getElem?_eq_getElem (show sp + i < xs.length by omega)]
  · rw [List.getElem?_eq_none (by simp; omega), List.getElem?_eq_none (by simp; omega)]
/-- System.arraycopy of ints, bytes, chars, the two arrays of one kind -/
theorem go_acopy {a b : Addr} {ty : FieldType} {xs ys : List Int32} {i1 i2 i3 : Int32} {sp dp m idx : Nat} (A : AI Z h a ty xs) (B : AI Z h b ty ys) (hty : refKind ty = false) (e1 : i1 = Int32.ofNat sp) (e2 : i2 = Int32.ofNat dp) (e3 : i3 = Int32.ofNat m) (h4 : sp + m ≤ xs.length) (h5 : dp + m ≤ ys.length) (hb : Z.heap.size ≤ b) (hsafe : S b ∨ ty ≠ .byte)
    (w1 : (Cond.methodLink own idx Jvm.Stand.acN).before a0 Z = true) (w2 : (Cond.native Jvm.Stand.acN).before a0 Z = true) (w3 : (Cond.static Jvm.Stand.acN).before a0 Z = true) (w4 : (Cond.initialized "java/lang/System").before a0 Z = true) (hd : Dec bytes pc (.invokestatic idx) 3 n) (hsz : ls.size = ml) (hf : 1 ≤ R.frames) (hW : (st.map fun v => v.category).sum + (nativeFrameWords "java/lang/System" "arraycopy" 5 + 11) ≤ R.locals)
    (kk : ∀ h', Keep h h' [b] → AI Z h' b ty (ys.take dp ++ (xs.drop sp).take m ++ ys.drop (dp + m)) → Go l Z a0 EL R own bytes ml ret nm S0 Q K kc ks S h' (mkF K.m n ls st)) : Go l Z a0 EL R own bytes ml ret nm S0 Q K kc ks S h (mkF K.m pc ls (.int i3 :: .int i2 :: .ref b :: .int i1 :: .ref a :: st)) := by
  obtain ⟨hd, rfl⟩ := hd
  intro hK T hT
  obtain ⟨vm0, k0, locs, cells, slots, X, q1, q2, q3, q4, q5, q6, q7, q8, q9, q10, q11, q12⟩ := hT
  have lx : xs.length < 2 ^ 31 := by obtain ⟨c, -, -, q, -⟩ := A; exact q
  have ly : ys.length < 2 ^ 31 := by obtain ⟨c, -, -, q, -⟩ := B; exact q
  have hsf : Safe Z EL vm0 h b := by
    rcases hsafe with q | q
    · exact (q10 b q).1
    · exact AI.safe B q vm0 q4.alike
  obtain ⟨kA, VA⟩ := A.arv
  obtain ⟨kB, VB⟩ := B.arv
  have c1 := clamp_of e1 (by omega)
  have c2 := clamp_of e2 (by omega)
  have c3 := clamp_of e3 (by omega)
  have cx := clamp_of (n := Int32.ofNat xs.length) rfl lx
  have cy := clamp_of (n := Int32.ofNat ys.length) rfl ly
  obtain ⟨T', h', L, X', e', fr, KW, V', st'⟩ := cpA X hK.1 q4 q5 w1 w2 w3 w4 q1 VA VB (Or.inl ⟨rfl, hty⟩) (by rw [Int32.lt_iff_toInt_lt, toInt_of e1 (by omega)]; simp) (by rw [Int32.lt_iff_toInt_lt, toInt_of e2 (by omega)]; simp) (by rw [Int32.lt_iff_toInt_lt, toInt_of e3 (by omega)]; simp) (by rw [c1, c3, cx]; exact h4) (by rw [c2, c3, cy]; exact h5) (us := ((xs.drop sp).take m).map Value.int) (by rw [c1, c3]; exact (range_take h4).symm) (by rw [c2, c3]; simpa using h5) q7 hb (g := mkF K.m pc ls (.int i3 :: .int i2 :: .ref b :: .int i1 :: .ref a :: st)) rfl (hsz.trans hK.2.2.1.symm) rfl (Jvm.hb hK.2.1 hd) hf (W := (st.map fun v => v.category).sum) (by show 2 * 0 + _ ≤ _; simp) hW
  rw [c2, c3] at V'
  have hl : (ys.take dp ++ (xs.drop sp).take m ++ ys.drop (dp + m)).length = ys.length := by simp; omega
  have V2 : Arv Z h' b kB ty (Int32.ofNat ys.length) ((ys.take dp ++ (xs.drop sp).take m ++ ys.drop (dp + m)).map Value.int) (.int 0) := by simpa [List.map_append, List.map_take, List.map_drop] using V'
  have hC := CHr.keep KW (allS hsf all0) q6.1
  have hE : Ext Z.heap h' := (Old.keep (Z := Z) (n0 := Z.heap.size) ⟨rfl, q11⟩ KW (allS hb all0)).2
  obtain ⟨t, o, hs, r⟩ := kk h' KW (AI.of_arv V2 hl ly) hK T' ⟨vm0, k0, L, cells, slots, X', e', q2, Nat.le_trans q3 KW.1, q4, q5, q6.trans hC, fr, q8, q9, q10.step hC, hE, q12⟩
  exact ⟨t, o, st' _ hs, r⟩
theorem go_newarrE {aty : ArrayType} {j : Int32} {N cap : Nat} {ad : String} (w1 : (Cond.arrayClass (newarray.typeOf aty)).before a0 Z = true) (had : "[" ++ (newarray.typeOf aty).toString = ad) (hj : j = Int32.ofNat N) (hN : N ≤ cap) (hcap : cap * 8 ≤ 536870912) (hdv : defaultValue (newarray.typeOf aty) = .int 0) (hft : fits (newarray.typeOf aty) (.int 0) = true) (hd : Dec bytes pc (.newarray aty) 2 n)
    (kk : ∀ S' h' a, a = h.size → (∀ x, S x → S' x) → S' a → Ext h h' → a < h'.size → (AI Z h' a (newarray.typeOf aty) (List.replicate N 0) ∧ Exa Z h' a ad) → Go l Z a0 EL R own bytes ml ret nm S0 Q K kc ks S' h' (mkF K.m n ls (.ref a :: st))) : Go l Z a0 EL R own bytes ml ret nm S0 Q K (kc + 1) (ks + cap) S h (mkF K.m pc ls (.int j :: st)) := by
  obtain ⟨hd, rfl⟩ := hd
  refine Go.make (f' := fun a => mkF K.m (pc + 2) ls (.ref a :: st)) _ kk fun vm0 T locs cells slots hK X hZ hown eT hc hl => ?_
  have hN' : N < 2 ^ 31 := by omega
  obtain ⟨T', h', cA, X', e', E, A, E2, st'⟩ := newPE X hK.1 hZ w1 eT (g := mkF K.m pc ls (.int j :: st)) rfl (hb hK.2.1 hd) (n := j) rfl (by rw [Int32.lt_iff_toInt_lt, toInt_of hj hN']; simp) (cap := cap) (by rw [clamp_of hj hN']; exact hN) hcap hc hl had
  exact ⟨T', h', X', e', E, A.lt, ⟨AI.new A hj hN' hdv hft, E2⟩, st'⟩
theorem go_lswHit {df : Int} {ps : Array (Int × Int)} {a off : Int} {len : Nat} (hd : decode bytes pc = .ok (.lookupswitch df ps, len)) (hs : (ps.toList.zip (ps.toList.drop 1)).all (fun (a, next) => a.1 < next.1) = true) (hf : ps.find? (·.1 == x.toInt) = some (a, off)) (ho : 0 ≤ (pc : Int) + off) (ht : ((pc : Int) + off).toNat = t) (kk : Go l Z a0 EL R own bytes ml ret nm S0 Q K kc ks S h (mkF K.m t ls st)) : Go l Z a0 EL R own bytes ml ret nm S0 Q K kc ks S h (mkF K.m pc ls (.int x :: st)) := by
  subst ht
  refine Go.calm kk fun vm0 T locs cells slots hK X hZ hown eT hE => ⟨T, X, eT, fun tgt hr => ?_⟩
  exact X.lookupswitchHit hK.1 (g := mkF K.m pc ls (.int x :: st)) rfl rfl (hb hK.2.1 hd) hs hf ho _ hr
theorem go_lswMiss {df : Int} {ps : Array (Int × Int)} {len : Nat} (hd : decode bytes pc = .ok (.lookupswitch df ps, len)) (hs : (ps.toList.zip (ps.toList.drop 1)).all (fun (a, next) => a.1 < next.1) = true) (hf : ps.find? (·.1 == x.toInt) = none) (ho : 0 ≤ (pc : Int) + df) (ht : ((pc : Int) + df).toNat = t) (kk : Go l Z a0 EL R own bytes ml ret nm S0 Q K kc ks S h (mkF K.m t ls st)) : Go l Z a0 EL R own bytes ml ret nm S0 Q K kc ks S h (mkF K.m pc ls (.int x :: st)) := by
  subst ht
  refine Go.calm kk fun vm0 T locs cells slots hK X hZ hown eT hE => ⟨T, X, eT, fun tgt hr => ?_⟩
  exact X.lookupswitchMiss hK.1 (g := mkF K.m pc ls (.int x :: st)) rfl rfl (hb hK.2.1 hd) hs hf ho _ hr
theorem go_tswIn {df lo hi off : Int} {os : Array Int} {len : Nat} (hd : decode bytes pc = .ok (.tableswitch df lo hi os, len)) (hin : ¬ (x.toInt < lo ∨ x.toInt > hi)) (hf : os[(x.toInt - lo).toNat]? = some off) (ho : 0 ≤ (pc : Int) + off) (ht : ((pc : Int) + off).toNat = t) (kk : Go l Z a0 EL R own bytes ml ret nm S0 Q K kc ks S h (mkF K.m t ls st)) : Go l Z a0 EL R own bytes ml ret nm S0 Q K kc ks S h (mkF K.m pc ls (.int x :: st)) := by
  subst ht
  refine Go.calm kk fun vm0 T locs cells slots hK X hZ hown eT hE => ⟨T, X, eT, fun tgt hr => ?_⟩
  exact X.tableswitchIn hK.1 (g := mkF K.m pc ls (.int x :: st)) rfl rfl (hb hK.2.1 hd) hin hf ho _ hr
theorem go_private {y y2 x2 : MethodName} {D C2 : String} {bY : ByteArray} {mY : Nat} {rY : Option FieldType} {rm : Room} {as' : Array Value} {QY : (Addr → Prop) → Option Value → Heap → Prop} {idx : Nat} {a : Addr} (argsL rest : List Value) (C : Con l Z EL [] y bY mY rY rm as' S h QY) (E : Exa Z h a D)
    (w1 : (Cond.methodLink own idx y).before a0 Z = true) (w2 : (Cond.instanceMethod y).before a0 Z = true) (wp : (Cond.privateMethod y).before a0 Z = true) (w5 : (Cond.selects C2 x2 y2).before a0 Z = true) (hc2 : y2.cls = y.cls) (w3 : (Cond.code y bY mY rY).before a0 Z = true) (w4 : (Cond.initialized y.cls).before a0 Z = true) (hy2 : y.cls ≠ "java/lang/invoke/MethodHandle" ∧ y.cls ≠ "java/lang/invoke/VarHandle")
    (has : as' = (.ref a :: argsL).toArray) (hs : st = argsL.reverse ++ .ref a :: rest) (hlen : ∀ sig, parseMethodDescriptor y.desc = some sig → argsL.length = sig.parameters.length) (hd : Dec bytes pc (.invokevirtual idx) 3 n) (hsz : ls.size = ml) (hf : rm.frames + 1 ≤ R.frames) (hW : (rest.map fun v => v.category).sum + (mY + 11) + rm.locals ≤ R.locals)
    {rc rs : Nat} (hrc : rm.cells = rc) (hrs : rm.slots = rs) (kk : ∀ S' v h', (∀ x, S x → S' x) → h.size ≤ h'.size → QY S' v h' → Go l Z a0 EL R own bytes ml ret nm S0 Q K kc ks S' h' (mkF K.m n ls (v.toList ++ rest))) : Go l Z a0 EL R own bytes ml ret nm S0 Q K (kc + rc) (ks + rs) S h (mkF K.m pc ls st) := by
  subst hrc hrs
  obtain ⟨hd, rfl⟩ := hd
  refine Go.call (f1 := fun v => mkF K.m (pc + 3) ls (v.toList ++ rest)) kk fun vm0 T locs cells slots hK X hZ hown eT hC hSf hE hc hl => ?_
  obtain ⟨c2, r2, m2, -, -, q3, -, kP, hkP, hkPi⟩ := Cond.selects_spec (mvT (args := K.args) hZ w5)
  have hcf := findClass_of_methodNamed q3
  rw [hc2] at hcf
  have hpr : (K.s.setVm vm0).PrivateAt y := Cond.privateMethod_at (mvP hZ wp (args := #[]))
  have hsel : (Cond.selects y.cls y y).before K.args (K.s.setVm vm0) = true := selects_self_of_private hcf hkP hkPi hpr (mvT hZ w2) hy2
  obtain ⟨cq, qa, qb⟩ := E.cell
  obtain ⟨v, vm₁, B, hwm, X', hSi, hgr, ⟨L, hp⟩, st'⟩ := X.privateBackS hK.1 (y := y) hown (mvT hZ w1) (mvT hZ w2) hsel hpr (mvT hZ w3) hy2 (backG (W := (rest.map fun v => v.category).sum) C hZ w3 w4 hf hW hK.2.2.2.2.2.2 hC hSf hE) (g := mkF K.m pc ls st) rfl (hsz.trans hK.2.2.1.symm) (Steps.refl _) (a := a) (cell := cq) (by rw [eT]; exact qa) qb (argsL := argsL) (rest := rest) hlen hs (by show 2 * 0 + _ ≤ _; simp) (hb hK.2.1 hd) (fun _ _ => ⟨has.symm, eT, hc, hl⟩)
  exact ⟨v, B, X', hSi, by rw [← eT]; exact hgr, ⟨L, hp⟩, st'⟩
end Rules
end Jvm.GoK
namespace Jvm.GoK
open Jvm Jvm.ClassFile Sem Op Lib Jvm.Free Jvm.Stand Jvm.LawKit Jvm.RoadKit Bundle
/-- the byte that is left of a char, as an int -/
def lo8 (x : Int32) : Int32 := x.toInt8.toInt32
theorem nar_lo8 (x : Int32) : nar .byte (lo8 x) = lo8 x := by
  show (x.toInt8.toInt32).toInt8.toInt32 = x.toInt8.toInt32
  simp
theorem fits_lo8 (x : Int32) : fits .byte (.int (lo8 x)) = true := fits_nar_byte x
theorem ofNat_lt {i n : Nat} (h : i < n) (hn : n < 2 ^ 31) : Int32.ofNat i < Int32.ofNat n := by
  rw [Int32.lt_iff_toInt_lt, Int32.toInt_ofNat_of_lt (by omega), Int32.toInt_ofNat_of_lt (by omega)]
  omega
theorem ofNat_nlt {i n : Nat} (h : n ≤ i) (hn : i < 2 ^ 31) : ¬ Int32.ofNat i < Int32.ofNat n := by
  rw [Int32.lt_iff_toInt_lt, Int32.toInt_ofNat_of_lt (by omega), Int32.toInt_ofNat_of_lt (by omega)]
  omega
theorem ofNat_lt_iff {i n : Nat} (hi : i < 2 ^ 31) (hn : n < 2 ^ 31) : Int32.ofNat i < Int32.ofNat n ↔ i < n := by
  rw [Int32.lt_iff_toInt_lt, Int32.toInt_ofNat_of_lt (by omega), Int32.toInt_ofNat_of_lt (by omega)]
  omega
theorem ofNat_inj {i n : Nat} (hi : i < 2 ^ 31) (hn : n < 2 ^ 31) : Int32.ofNat i = Int32.ofNat n ↔ i = n := by
  rw [← Int32.toInt_inj, Int32.toInt_ofNat_of_lt (by omega), Int32.toInt_ofNat_of_lt (by omega)]
  omega
theorem ofNat_add (i n : Nat) : Int32.ofNat i + Int32.ofNat n = Int32.ofNat (i + n) := (Int32.ofNat_add i n).symm
theorem ofNat_inc (i : Nat) : Int32.ofNat i + Int32.ofInt 1 = Int32.ofNat (i + 1) := (Int32.ofNat_add i 1).symm
theorem ofNat_sub {i n : Nat} (h : n ≤ i) : Int32.ofNat i - Int32.ofNat n = Int32.ofNat (i - n) := by
  have e : Int32.ofNat i = Int32.ofNat (i - n) + Int32.ofNat n := by rw [ofNat_add]; congr 1; omega
  rw [e, Int32.add_sub_cancel]
theorem set_fill {cs : List Int32} {i n : Nat} {c : Int32} (f : Int32 → Int32) (hn : cs.length = n) (hc : cs[i]? = some c) :
    (((cs.take i).map f ++ List.replicate (n - i) 0).set i (f c)) = (cs.take (i + 1)).map f ++ List.replicate (n - (i + 1)) 0 := by
  have hi := (List.getElem?_eq_some_iff.mp hc).1
  have hl : ((cs.take i).map f).length = i := by simp; omega
  rw [List.set_append_right _ _ (by omega), hl, Nat.sub_self]
  obtain ⟨m, hm⟩ : ∃ m, n - i = m + 1 := ⟨n - i - 1, by omega⟩
  rw [hm, List.replicate_succ, List.set_cons_zero, List.take_add_one, hc]
  have : n - (i + 1) = m := by omega
  rw [this]
  simp
theorem fill_len {cs : List Int32} {i n : Nat} (f : Int32 → Int32) (hn : cs.length = n) (hi : i ≤ n) : ((cs.take i).map f ++ List.replicate (n - i) (0 : Int32)).length = n := by
  simp; omega
theorem own_nar_ref {u : Value} {ty : FieldType} (h : u.isRef = true) : narrow ty u = u := by
  rcases ref_cases h with rfl | ⟨a, rfl⟩ <;> cases ty <;> rfl
theorem own_and255 (x : Int32) : ¬ (255 : Int32) < (x &&& 255) := by
  have t : ∀ k : Fin 256, ¬ (255 : Int32) < Int32.ofNat k.val := by decide +kernel
  have h : (x &&& 255).toBitVec.toNat < 256 := by
    simp only [Int32.toBitVec_and, BitVec.toNat_and]
    exact Nat.lt_succ_of_le Nat.and_le_right
  have e : (x &&& 255) = Int32.ofNat (x &&& 255).toBitVec.toNat := by
    apply Int32.toBitVec_inj.mp
    show _ = BitVec.ofNat 32 _
    rw [BitVec.ofNat_toNat]; simp
  rw [e]
  exact t ⟨_, h⟩
theorem own_eqint {args : Array Value} {first s : State} {o : Option Outcome} {idx : List Nat} {t : Term} {n : Int32} (h : (Jvm.Cond.eq t (.int n)).value args first o s idx = some true) : t.eval args first o idx s = some (.int n) := by
  obtain ⟨x, y, e1, e2, -, -⟩ := cmp_v (Or.inl h)
  have e3 : y = .int n := Option.some.inj (e2.symm.trans (Term.int_eval n))
  subst e3
  cases x <;> simp [Cond.value, e1, e2] at h
  subst h; exact e1
theorem fa1 {P : Int32 → Prop} {a : Int32} (ha : P a) : ∀ c ∈ [a], P c := List.forall_mem_cons.mpr ⟨ha, fun _ h => by cases h⟩
theorem fa2 {P : Int32 → Prop} {a b : Int32} (ha : P a) (hb : P b) : ∀ c ∈ [a, b], P c := List.forall_mem_cons.mpr ⟨ha, fa1 hb⟩
theorem lt_nat {a b : Nat} (h : a < b) : a < b := h
theorem ne_of {a b : Nat} (h : a < b ∨ b < a) : a ≠ b := by omega
end Jvm.GoK
namespace Jvm.Pilot.@@N@@
open Jvm Jvm.ClassFile Sem Op Lib Jvm.Free Jvm.Stand Jvm.LawKit Jvm.RoadKit Bundle Jvm.GoK Jvm.Pilot.@@N@@.Jvm.D
def own_EL : List (String × Nat) := [("java/lang/String", 7)]
theorem own_atoms {Z : State} {a0 : Array Value} (hw : ∀ d ∈ tables_1, d.before a0 Z = true) : ∀ a ∈ Bundle.stringAtoms, a.before a0 Z = true := fun d hd => hw d ((by decide +kernel : ∀ d ∈ Bundle.stringAtoms, d ∈ tables_1) d hd)
theorem d0_3 : Dec jdk_52_method_21_code 3 (.iload 5) 2 5 := ⟨by decide +kernel, rfl⟩
theorem d0_5 : Dec jdk_52_method_21_code 5 (.iload 4) 2 7 := ⟨by decide +kernel, rfl⟩
theorem d0_7 : Brn jdk_52_method_21_code 7 (.if_icmp .ge 37) 37 10 44 := ⟨by decide +kernel, rfl, by decide, by decide⟩
theorem d0_44 : Dec jdk_52_method_21_code 44 (.iload 4) 2 46 := ⟨by decide +kernel, rfl⟩
theorem d0_46 : Dec jdk_52_method_21_code 46 (.ireturn) 1 47 := ⟨by decide +kernel, rfl⟩
theorem d0_10 : Dec jdk_52_method_21_code 10 (.aload_n 0) 1 11 := ⟨by decide +kernel, rfl⟩
theorem d0_11 : Dec jdk_52_method_21_code 11 (.iload_n 1) 1 12 := ⟨by decide +kernel, rfl⟩
theorem d0_12 : Dec jdk_52_method_21_code 12 (.caload) 1 13 := ⟨by decide +kernel, rfl⟩
theorem d0_13 : Dec jdk_52_method_21_code 13 (.istore 6) 2 15 := ⟨by decide +kernel, rfl⟩
theorem d0_15 : Dec jdk_52_method_21_code 15 (.iload 6) 2 17 := ⟨by decide +kernel, rfl⟩
theorem d0_17 : Dec jdk_52_method_21_code 17 (.sipush 255) 3 20 := ⟨by decide +kernel, rfl⟩
theorem d0_20 : Brn jdk_52_method_21_code 20 (.if_icmp .le 6) 6 23 26 := ⟨by decide +kernel, rfl, by decide, by decide⟩
theorem d0_26 : Dec jdk_52_method_21_code 26 (.aload_n 2) 1 27 := ⟨by decide +kernel, rfl⟩
theorem d0_27 : Dec jdk_52_method_21_code 27 (.iload_n 3) 1 28 := ⟨by decide +kernel, rfl⟩
theorem d0_28 : Dec jdk_52_method_21_code 28 (.iload 6) 2 30 := ⟨by decide +kernel, rfl⟩
theorem d0_30 : Dec jdk_52_method_21_code 30 (.i2b) 1 31 := ⟨by decide +kernel, rfl⟩
theorem d0_31 : Dec jdk_52_method_21_code 31 (.bastore) 1 32 := ⟨by decide +kernel, rfl⟩
theorem d0_32 : Dec jdk_52_method_21_code 32 (.iinc 1 1) 3 35 := ⟨by decide +kernel, rfl⟩
theorem d0_35 : Dec jdk_52_method_21_code 35 (.iinc 3 1) 3 38 := ⟨by decide +kernel, rfl⟩
theorem d0_38 : Dec jdk_52_method_21_code 38 (.iinc 5 1) 3 41 := ⟨by decide +kernel, rfl⟩
theorem d0_41 : Brn jdk_52_method_21_code 41 (.goto (-38)) (-38) 44 3 := ⟨by decide +kernel, rfl, by decide, by decide⟩
theorem d0_23 : Dec jdk_52_method_21_code 23 (.iload 5) 2 25 := ⟨by decide +kernel, rfl⟩
theorem d0_25 : Dec jdk_52_method_21_code 25 (.ireturn) 1 26 := ⟨by decide +kernel, rfl⟩
theorem d0_0 : Dec jdk_52_method_21_code 0 (.iconst 0) 1 1 := ⟨by decide +kernel, rfl⟩
theorem d0_1 : Dec jdk_52_method_21_code 1 (.istore 5) 2 3 := ⟨by decide +kernel, rfl⟩
theorem pn0 : plainName "java/lang/StringUTF16" = true := by first | (simp [plainName, overriddenIn]; done) | decide +kernel
set_option maxRecDepth 65536 in
set_option maxHeartbeats 40000000 in
theorem c_cmp1 (l : Launch) (Z : State) (a0 : Array Value) (hw : ∀ d ∈ tables_1, d.before a0 Z = true) (hEL : EW Z a0 own_EL) (src dst : Addr) (cs : List Int32) (k : Nat) (S : Addr → Prop) (h0 : Heap) (hz : Z.heap.size ≤ h0.size) (A1 : AI Z h0 src .char cs) (A2 : AI Z h0 dst .byte (List.replicate cs.length 0)) (gd : Z.heap.size ≤ dst) (sd : S dst) (hk : k ≤ cs.length) (hpre : ∀ i c, i < k → cs[i]? = some c → ¬ (255 : Int32) < c) (hat : ∀ c, cs[k]? = some c → (255 : Int32) < c) :
    Con l Z own_EL [] (⟨"java/lang/StringUTF16", "compress", "([CI[BII)I"⟩ : MethodName) jdk_52_method_21_code 7 (some .int) ({ frames := 0, cells := 0, slots := 0, locals := 0 } : Room) #[.ref src, .int (0 : Int32), .ref dst, .int (0 : Int32), .int (Int32.ofNat cs.length)] S h0 (fun S' v h' => v = some (.int (Int32.ofNat k)) ∧ Keep h0 h' [dst] ∧ AI Z h' dst .byte ((cs.take k).map lo8 ++ List.replicate (cs.length - k) 0) ∧ ∀ x, S x → S' x) := by
  have hlen : cs.length < 2 ^ 31 := by obtain ⟨c, -, -, q, -⟩ := A1; exact q
  have hne : src ≠ dst := A1.ne_ty A2 (by decide)
  refine con_of_go (ls := #[.val (.ref src), .val (.int (0 : Int32)), .val (.ref dst), .val (.int (0 : Int32)), .val (.int (Int32.ofNat cs.length)), .unset, .unset]) pn0 hEL (fun m => by first | rfl | (simp [entryFrame, mkF, argsToLocals, cat_int, cat_ref, cat_null, cat_long]; done)) (fun K => ?_)
  show Go _ _ _ _ _ _ _ _ _ _ _ _ _ 0 0 _ _ _
  have loop : ∀ r i, i + r = cs.length → i ≤ k → ∀ (s6 : Slot) (hs6 : s6 = .unset ∨ ∃ w, s6 = .val w ∧ w.category = 1) (h1 : Heap), Keep h0 h1 [dst] → AI Z h1 src .char cs → AI Z h1 dst .byte ((cs.take i).map lo8 ++ List.replicate (cs.length - i) 0) → Go l Z a0 own_EL ({ frames := 0, cells := 0, slots := 0, locals := 0 } : Room) "java/lang/StringUTF16" jdk_52_method_21_code 7 (some .int) "compress" S (fun S' v h' => v = some (.int (Int32.ofNat k)) ∧ Keep h0 h' [dst] ∧ AI Z h' dst .byte ((cs.take k).map lo8 ++ List.replicate (cs.length - k) 0) ∧ ∀ x, S x → S' x) K 0 0 S h1 (mkF K.m 3 #[.val (.ref src), .val (.int (Int32.ofNat i)), .val (.ref dst), .val (.int (Int32.ofNat i)), .val (.int (Int32.ofNat cs.length)), .val (.int (Int32.ofNat i)), s6] []) := by
    intro r
    induction r with
    | zero =>
      intro i hi hik0 s6 hs6 h1 Kp B1 B2
      refine go_iload d0_3 rfl ?_
      refine go_iload d0_5 rfl ?_
      refine go_icmpge d0_7 (fun c1011 => ?_) (fun c1011 => absurd c1011 (ofNat_nlt (by omega) (by omega)))
      refine go_iload d0_44 rfl ?_
      exact go_ireturn (ty := .int) (v := (Int32.ofNat cs.length)) d0_46 rfl (by simp) rfl ⟨by congr 3; omega, Kp, by rw [show k = i by omega]; exact B2, fun _ q => q⟩
    | succ r ih =>
      intro i hi hik0 s6 hs6 h1 Kp B1 B2
      have zK := Kp.1
      obtain ⟨c, hc⟩ : ∃ c, cs[i]? = some c := ⟨_, List.getElem?_eq_getElem (by omega)⟩
      refine go_iload d0_3 rfl ?_
      refine go_iload d0_5 rfl ?_
      refine go_icmpge d0_7 (fun c1011 => absurd (ofNat_lt (by omega) (by omega)) c1011) (fun c1011 => ?_)
      refine go_aloadN d0_10 rfl rfl ?_
      refine go_iloadN d0_11 rfl ?_
      refine go_caload (x := c) B1 (i := i) rfl hc d0_12 ?_
      refine go_istoreS d0_13 rfl hs6 (l' := #[.val (.ref src), .val (.int (Int32.ofNat i)), .val (.ref dst), .val (.int (Int32.ofNat i)), .val (.int (Int32.ofNat cs.length)), .val (.int (Int32.ofNat i)), .val (.int c)]) rfl ?_
      refine go_iload d0_15 rfl ?_
      refine go_sipush (x := (255 : Int32)) d0_17 (by decide) ?_
      refine go_icmple d0_20 (fun c20 => ?_) (fun c20 => ?_)
      · have hik : i < k := by
          rcases Nat.lt_or_ge i k with q | q
          · exact q
          · exact absurd (hat c (by rw [show k = i by omega]; exact hc)) c20
        refine go_aloadN d0_26 rfl rfl ?_
        refine go_iloadN d0_27 rfl ?_
        refine go_iload d0_28 rfl ?_
        refine go_i2b (v := (lo8 c)) d0_30 rfl ?_
        refine go_bastore (v := (lo8 c)) B2 (by omega) sd (i := i) rfl (by rw [fill_len lo8 rfl (by omega)]; omega) (nar_lo8 c) d0_31 (fun h1012 K1012 A1012 => ?_)
        have z1012 := K1012.1
        have A1012 : AI Z h1012 dst .byte ((cs.take (i + 1)).map lo8 ++ List.replicate (cs.length - (i + 1)) 0) := set_fill lo8 rfl hc ▸ A1012
        refine go_iinc d0_32 rfl (v := (Int32.ofNat (i + 1))) (ofNat_inc i) (l' := #[.val (.ref src), .val (.int (Int32.ofNat (i + 1))), .val (.ref dst), .val (.int (Int32.ofNat i)), .val (.int (Int32.ofNat cs.length)), .val (.int (Int32.ofNat i)), .val (.int c)]) rfl ?_
        refine go_iinc d0_35 rfl (v := (Int32.ofNat (i + 1))) (ofNat_inc i) (l' := #[.val (.ref src), .val (.int (Int32.ofNat (i + 1))), .val (.ref dst), .val (.int (Int32.ofNat (i + 1))), .val (.int (Int32.ofNat cs.length)), .val (.int (Int32.ofNat i)), .val (.int c)]) rfl ?_
        refine go_iinc d0_38 rfl (v := (Int32.ofNat (i + 1))) (ofNat_inc i) (l' := #[.val (.ref src), .val (.int (Int32.ofNat (i + 1))), .val (.ref dst), .val (.int (Int32.ofNat (i + 1))), .val (.int (Int32.ofNat cs.length)), .val (.int (Int32.ofNat (i + 1))), .val (.int c)]) rfl ?_
        refine go_goto d0_41 ?_
        have f1013 := (B1.keep K1012 (ninS hne nin0))
        exact ih (i + 1) (by omega) (by omega) _ (Or.inr ⟨_, rfl, rfl⟩) h1012 (Kp.trans K1012 (allS (Or.inl (by simp)) all0)) f1013 A1012
      · have hik : i = k := by
          rcases Nat.lt_or_ge i k with q | q
          · exact absurd c20 (hpre i c q hc)
          · omega
        refine go_iload d0_23 rfl ?_
        exact go_ireturn (ty := .int) (v := (Int32.ofNat i)) d0_25 rfl (by simp) rfl ⟨by rw [hik], Kp, by rw [← hik]; exact B2, fun _ q => q⟩
  refine go_iconst (x := (0 : Int32)) d0_0 (by decide) ?_
  refine go_istore d0_1 (l' := #[.val (.ref src), .val (.int (0 : Int32)), .val (.ref dst), .val (.int (0 : Int32)), .val (.int (Int32.ofNat cs.length)), .val (.int (0 : Int32)), .unset]) rfl ?_
  exact loop cs.length 0 (by omega) (by omega) _ (Or.inl rfl) h0 (Keep.refl _ _) A1 (by simpa using A2)
theorem d1_0 : Dec jdk_52_method_16_code 0 (.iload_n 2) 1 1 := ⟨by decide +kernel, rfl⟩
theorem d1_1 : Dec jdk_52_method_16_code 1 (.newarray .byte) 2 3 := ⟨by decide +kernel, rfl⟩
theorem d1_3 : Dec jdk_52_method_16_code 3 (.astore_n 3) 1 4 := ⟨by decide +kernel, rfl⟩
theorem d1_4 : Dec jdk_52_method_16_code 4 (.aload_n 0) 1 5 := ⟨by decide +kernel, rfl⟩
theorem d1_5 : Dec jdk_52_method_16_code 5 (.iload_n 1) 1 6 := ⟨by decide +kernel, rfl⟩
theorem d1_6 : Dec jdk_52_method_16_code 6 (.aload_n 3) 1 7 := ⟨by decide +kernel, rfl⟩
theorem d1_7 : Dec jdk_52_method_16_code 7 (.iconst 0) 1 8 := ⟨by decide +kernel, rfl⟩
theorem d1_8 : Dec jdk_52_method_16_code 8 (.iload_n 2) 1 9 := ⟨by decide +kernel, rfl⟩
theorem d1_9 : Dec jdk_52_method_16_code 9 (.invokestatic 115) 3 12 := ⟨by decide +kernel, rfl⟩
theorem pd0 : parseMethodDescriptor "([CI[BII)I" = some ⟨[(.array .char), .int, (.array .byte), .int, .int], some .int⟩ := by decide +kernel
theorem d1_12 : Dec jdk_52_method_16_code 12 (.istore 4) 2 14 := ⟨by decide +kernel, rfl⟩
theorem d1_14 : Dec jdk_52_method_16_code 14 (.iload 4) 2 16 := ⟨by decide +kernel, rfl⟩
theorem d1_16 : Dec jdk_52_method_16_code 16 (.iload_n 2) 1 17 := ⟨by decide +kernel, rfl⟩
theorem d1_17 : Brn jdk_52_method_16_code 17 (.if_icmp .eq 40) 40 20 57 := ⟨by decide +kernel, rfl, by decide, by decide⟩
theorem d1_57 : Dec jdk_52_method_16_code 57 (.aload_n 3) 1 58 := ⟨by decide +kernel, rfl⟩
theorem d1_58 : Dec jdk_52_method_16_code 58 (.areturn) 1 59 := ⟨by decide +kernel, rfl⟩
set_option maxRecDepth 65536 in
set_option maxHeartbeats 40000000 in
theorem c_cmp2 (l : Launch) (Z : State) (a0 : Array Value) (hw : ∀ d ∈ tables_1, d.before a0 Z = true) (hEL : EW Z a0 own_EL) (src : Addr) (cs : List Int32) (S : Addr → Prop) (h0 : Heap) (hz : Z.heap.size ≤ h0.size) (A1 : AI Z h0 src .char cs) (hl : cs.length ≤ 2) (hcs : ∀ c ∈ cs, ¬ (255 : Int32) < c) :
    Con l Z own_EL [] (⟨"java/lang/StringUTF16", "compress", "([CII)[B"⟩ : MethodName) jdk_52_method_16_code 6 (some (.array .byte)) ({ frames := 1, cells := 1, slots := 2, locals := 18 } : Room) #[.ref src, .int (0 : Int32), .int (Int32.ofNat cs.length)] S h0 (fun S' v h' => ∃ b, v = some (.ref b) ∧ h0.size ≤ b ∧ b < h'.size ∧ S' b ∧ Keep h0 h' [] ∧ AI Z h' b .byte (cs.map lo8)) := by
  refine con_of_go (ls := #[.val (.ref src), .val (.int (0 : Int32)), .val (.int (Int32.ofNat cs.length)), .unset, .unset, .unset]) pn0 hEL (fun m => by first | rfl | (simp [entryFrame, mkF, argsToLocals, cat_int, cat_ref, cat_null, cat_long]; done)) (fun K => ?_)
  show Go _ _ _ _ _ _ _ _ _ _ _ _ _ 1 2 _ _ _
  have ls := lt_nat A1.lt
  refine go_iloadN d1_0 rfl ?_
  refine go_newarr (kc := 0) (ks := 0) (N := cs.length) (cap := 2) (hw _ (List.mem_of_getElem? (i := 34) rfl)) rfl hl (by decide) rfl rfl d1_1 (fun S1001 h1001 a1001 e1001 m1001 s1001 x1001 l1001 A1001 => ?_)
  have z1001 := x1001.1
  have A1001 : AI Z h1001 a1001 .byte (List.replicate cs.length 0) := A1001
  refine go_astoreN d1_3 rfl (l' := #[.val (.ref src), .val (.int (0 : Int32)), .val (.int (Int32.ofNat cs.length)), .val (.ref a1001), .unset, .unset]) rfl ?_
  refine go_aloadN d1_4 rfl rfl ?_
  refine go_iloadN d1_5 rfl ?_
  refine go_aloadN d1_6 rfl rfl ?_
  refine go_iconst (x := (0 : Int32)) d1_7 (by decide) ?_
  refine go_iloadN d1_8 rfl ?_
  have f1002 := (A1.ext x1001)
  refine go_static (R := ({ frames := 1, cells := 1, slots := 2, locals := 18 } : Room)) (kc := 0) (ks := 0) [.ref src, .int (0 : Int32), .ref a1001, .int (0 : Int32), .int (Int32.ofNat cs.length)] [] (c_cmp1 l Z a0 hw hEL src a1001 cs cs.length S1001 h1001 (by omega) f1002 A1001 (by omega) s1001 (by omega) (fun i c hi hc => hcs c (List.mem_of_getElem? hc)) (fun c hc => absurd (List.getElem?_eq_some_iff.mp hc).1 (by omega))) (hw _ (List.mem_of_getElem? (i := 35) rfl)) (hw _ (List.mem_of_getElem? (i := 36) rfl)) (hw _ (List.mem_of_getElem? (i := 37) rfl)) (hw _ (List.mem_of_getElem? (i := 32) rfl)) (by decide) rfl rfl (lenOf pd0 rfl) d1_9 (by rfl) (by decide) (Nat.le_of_ble_eq_true rfl) (rc := 0) (rs := 0) rfl rfl (fun S1003 v1003 h1003 m1003 z1003 q1003 => ?_)
  obtain ⟨rfl, K1003, A1003, -⟩ := q1003
  show Go _ _ _ _ _ _ _ _ _ _ _ _ _ _ _ _ _ (mkF K.m 12 #[.val (.ref src), .val (.int (0 : Int32)), .val (.int (Int32.ofNat cs.length)), .val (.ref a1001), .unset, .unset] [.int (Int32.ofNat cs.length)])
  refine go_istore d1_12 (l' := #[.val (.ref src), .val (.int (0 : Int32)), .val (.int (Int32.ofNat cs.length)), .val (.ref a1001), .val (.int (Int32.ofNat cs.length)), .unset]) rfl ?_
  refine go_iload d1_14 rfl ?_
  refine go_iloadN d1_16 rfl ?_
  refine go_icmpeq d1_17 (fun c1004 => ?_) (fun c1004 => absurd (rfl) c1004)
  refine go_aloadN d1_57 rfl rfl ?_
  have B1005 : AI Z h1003 a1001 .byte (cs.map lo8) := by simpa using A1003
  have L1005 := lt_nat B1005.lt
  exact go_areturn d1_58 rfl rfl rfl ⟨_, rfl, by omega, L1005, (m1003 _ s1001), (((Keep.refl h0 []).ext x1001).trans K1003 (allS (Or.inr (by omega)) all0)), B1005⟩
theorem d2_0 : Dec jdk_52_method_15_code 0 (.iload_n 1) 1 1 := ⟨by decide +kernel, rfl⟩
theorem d2_1 : Dec jdk_52_method_15_code 1 (.aload_n 0) 1 2 := ⟨by decide +kernel, rfl⟩
theorem d2_2 : Dec jdk_52_method_15_code 2 (.arraylength) 1 3 := ⟨by decide +kernel, rfl⟩
theorem d2_3 : Dec jdk_52_method_15_code 3 (.isub) 1 4 := ⟨by decide +kernel, rfl⟩
theorem d2_4 : Dec jdk_52_method_15_code 4 (.bipush 31) 2 6 := ⟨by decide +kernel, rfl⟩
theorem d2_6 : Dec jdk_52_method_15_code 6 (.iushr) 1 7 := ⟨by decide +kernel, rfl⟩
theorem d2_7 : Dec jdk_52_method_15_code 7 (.i2b) 1 8 := ⟨by decide +kernel, rfl⟩
theorem d2_8 : Dec jdk_52_method_15_code 8 (.ireturn) 1 9 := ⟨by decide +kernel, rfl⟩
set_option maxRecDepth 65536 in
set_option maxHeartbeats 40000000 in
theorem c_cod (l : Launch) (Z : State) (a0 : Array Value) (hw : ∀ d ∈ tables_1, d.before a0 Z = true) (hEL : EW Z a0 own_EL) (b : Addr) (xs : List Int32) (n : Nat) (hn : xs.length = n) (S : Addr → Prop) (h0 : Heap) (A1 : AI Z h0 b .byte xs) :
    Con l Z own_EL [] (⟨"java/lang/StringUTF16", "coderFromArrayLen", "([BI)B"⟩ : MethodName) jdk_52_method_15_code 2 (some .byte) ({ frames := 0, cells := 0, slots := 0, locals := 0 } : Room) #[.ref b, .int (Int32.ofNat n)] S h0 (fun S' v h' => v = some (.int (0 : Int32)) ∧ h0 = h') := by
  refine con_of_go (ls := #[.val (.ref b), .val (.int (Int32.ofNat n))]) pn0 hEL (fun m => by first | rfl | (simp [entryFrame, mkF, argsToLocals, cat_int, cat_ref, cat_null, cat_long]; done)) (fun K => ?_)
  show Go _ _ _ _ _ _ _ _ _ _ _ _ _ 0 0 _ _ _
  refine go_iloadN d2_0 rfl ?_
  refine go_aloadN d2_1 rfl rfl ?_
  refine go_alen A1 d2_2 (v := (Int32.ofNat n)) (by rw [hn]) ?_
  refine go_isub (v := (0 : Int32)) d2_3 (Int32.sub_self _) ?_
  refine go_bipush (x := (31 : Int32)) d2_4 (by decide) ?_
  refine go_iushr (v := (0 : Int32)) d2_6 (by decide) ?_
  refine go_i2b (v := (0 : Int32)) d2_7 (by decide) ?_
  exact go_ireturn (ty := .byte) (v := (0 : Int32)) d2_8 rfl (by simp) (by decide) ⟨rfl, rfl⟩
theorem d3_0 : Dec jdk_42_method_149_code 0 (.aload_n 0) 1 1 := ⟨by decide +kernel, rfl⟩
theorem d3_1 : Dec jdk_42_method_149_code 1 (.invokespecial 1) 3 4 := ⟨by decide +kernel, rfl⟩
theorem d3_4 : Dec jdk_42_method_149_code 4 (.iload_n 3) 1 5 := ⟨by decide +kernel, rfl⟩
theorem d3_5 : Brn jdk_42_method_149_code 5 (.ifCond .ne 22) 22 8 27 := ⟨by decide +kernel, rfl, by decide, by decide⟩
theorem d3_8 : Dec jdk_42_method_149_code 8 (.aload_n 0) 1 9 := ⟨by decide +kernel, rfl⟩
theorem d3_9 : Dec jdk_42_method_149_code 9 (.ldc 7) 2 11 := ⟨by decide +kernel, rfl⟩
theorem d3_11 : Dec jdk_42_method_149_code 11 (.getfield 9) 3 14 := ⟨by decide +kernel, rfl⟩
theorem d3_14 : Dec jdk_42_method_149_code 14 (.putfield 9) 3 17 := ⟨by decide +kernel, rfl⟩
theorem d3_17 : Dec jdk_42_method_149_code 17 (.aload_n 0) 1 18 := ⟨by decide +kernel, rfl⟩
theorem d3_18 : Dec jdk_42_method_149_code 18 (.ldc 7) 2 20 := ⟨by decide +kernel, rfl⟩
theorem d3_20 : Dec jdk_42_method_149_code 20 (.getfield 15) 3 23 := ⟨by decide +kernel, rfl⟩
theorem d3_23 : Dec jdk_42_method_149_code 23 (.putfield 15) 3 26 := ⟨by decide +kernel, rfl⟩
theorem d3_26 : Dec jdk_42_method_149_code 26 (.return_) 1 27 := ⟨by decide +kernel, rfl⟩
theorem pn1 : plainName "java/lang/String" = true := by first | (simp [plainName, overriddenIn]; done) | decide +kernel
set_option maxRecDepth 65536 in
set_option maxHeartbeats 40000000 in
theorem c_ini4E (l : Launch) (Z : State) (a0 : Array Value) (hw : ∀ d ∈ tables_1, d.before a0 Z = true) (hEL : EW Z a0 own_EL) (src : Addr) (cs : List Int32) (S : Addr → Prop) (h0 : Heap) (hz : Z.heap.size ≤ h0.size) (x : Addr) (Ex : Exa Z h0 x "java/lang/String") (uv uc : Value) (Fv : Fld Z h0 x "java/lang/String" "value" "[B" uv) (Fc : Fld Z h0 x "java/lang/String" "coder" "B" uc) (gx : Z.heap.size ≤ x) (sx : S x) (hcs : cs = []) :
    Con l Z own_EL [] (⟨"java/lang/String", "<init>", "([CIILjava/lang/Void;)V"⟩ : MethodName) jdk_42_method_149_code 6 (none : Option FieldType) ({ frames := 1, cells := 4, slots := 8, locals := 12 } : Room) #[.ref x, .ref src, .int (0 : Int32), .int (0 : Int32), .null] S h0 (fun S' v h' => v = none ∧ Keep h0 h' [x] ∧ Exa Z h' x "java/lang/String" ∧ Fld Z h' x "java/lang/String" "coder" "B" (.int (0 : Int32)) ∧ ∃ b, Fld Z h' x "java/lang/String" "value" "[B" (.ref b) ∧ AI Z h' b .byte (cs.map lo8) ∧ (cs ≠ [] → h0.size ≤ b ∧ S' b) ∧ b ≠ x) := by
  refine con_of_go (ls := #[.val (.ref x), .val (.ref src), .val (.int (0 : Int32)), .val (.int (0 : Int32)), .val (.null), .unset]) pn1 hEL (fun m => by first | rfl | (simp [entryFrame, mkF, argsToLocals, cat_int, cat_ref, cat_null, cat_long]; done)) (fun K => ?_)
  show Go _ _ _ _ _ _ _ _ _ _ _ _ _ 4 8 _ _ _
  have lx := lt_nat Ex.lt
  refine go_aloadN d3_0 rfl rfl ?_
  refine go_initO (hw _ (List.mem_of_getElem? (i := 26) rfl)) (hw _ (List.mem_of_getElem? (i := 27) rfl)) (hw _ (List.mem_of_getElem? (i := 28) rfl)) d3_1 (by rfl) (by decide) (Nat.le_of_ble_eq_true rfl) ?_
  refine go_iloadN d3_4 rfl ?_
  refine go_ifne d3_5 (fun c1001 => absurd (rfl) c1001) (fun c1001 => ?_)
  refine go_aloadN d3_8 rfl rfl ?_
  refine go_ldcS (kc := 2) (ks := 4) (na := 0) (nb := 4) (xs := []) rfl (hw _ (List.mem_of_getElem? (i := 59) rfl)) (own_atoms hw) (by simp [own_EL]) ⟨by simp, by simp⟩ (by simp) (by simp) d3_9 (fun S1002 h1002 a1002 b1002 m1002 x1002 l1002 k1002 E1002 C1002 V1002 A1002 => ?_)
  have z1002 := x1002.1
  have t1002 := m1002 _ sx
  refine go_getf (hw _ (List.mem_of_getElem? (i := 43) rfl)) Via.refl V1002 d3_11 ?_
  have f1003 := (Fv.ext x1002)
  have f1004 := (Ex.ext x1002)
  refine go_putf (u' := .ref b1002) (hw _ (List.mem_of_getElem? (i := 43) rfl)) Via.refl f1003 f1004 (Or.inr ⟨(hw _ (List.mem_of_getElem? (i := 44) rfl)), rfl, rfl⟩) (hw _ (List.mem_of_getElem? (i := 16) rfl)) (ty := (.array .byte)) (by decide) rfl rfl (by omega) (Or.inl ((fun y q => (m1002 y q).1) _ sx)) d3_14 (fun h1005 W1005 K1005 E1005 F1005 => ?_)
  have z1005 := K1005.1
  refine go_aloadN d3_17 rfl rfl ?_
  refine go_ldcS (kc := 0) (ks := 0) (na := 0) (nb := 4) (xs := []) rfl (hw _ (List.mem_of_getElem? (i := 59) rfl)) (own_atoms hw) (by simp [own_EL]) ⟨by simp, by simp⟩ (by simp) (by simp) d3_18 (fun S1006 h1006 a1006 b1006 m1006 x1006 l1006 k1006 E1006 C1006 V1006 A1006 => ?_)
  have z1006 := x1006.1
  have t1006 := m1006 _ ((fun y q => (m1002 y q).1) _ sx)
  refine go_getf (hw _ (List.mem_of_getElem? (i := 41) rfl)) Via.refl C1006 d3_20 ?_
  have f1007 := (((Fc.ext x1002).other W1005 (Or.inr (slot_ne (C := "java/lang/String") (a0 := a0) (Or.inr (hw _ (List.mem_of_getElem? (i := 42) rfl))) (Or.inr (hw _ (List.mem_of_getElem? (i := 44) rfl))) (by decide) (t := .byte) (t' := (.array .byte)) (by decide) (by decide)))).ext x1006)
  have f1008 := (E1005.ext x1006)
  refine go_putf (u' := .int (0 : Int32)) (hw _ (List.mem_of_getElem? (i := 41) rfl)) Via.refl f1007 f1008 (Or.inr ⟨(hw _ (List.mem_of_getElem? (i := 42) rfl)), rfl, rfl⟩) (hw _ (List.mem_of_getElem? (i := 16) rfl)) (ty := .byte) (by decide) (by decide) (by decide) (by omega) (Or.inl ((fun y q => (m1006 y q).1) _ ((fun y q => (m1002 y q).1) _ sx))) d3_23 (fun h1009 W1009 K1009 E1009 F1009 => ?_)
  have z1009 := K1009.1
  have f1010 := ((F1005.ext x1006).other W1009 (Or.inr (slot_ne (C := "java/lang/String") (a0 := a0) (Or.inr (hw _ (List.mem_of_getElem? (i := 44) rfl))) (Or.inr (hw _ (List.mem_of_getElem? (i := 42) rfl))) (by decide) (t := (.array .byte)) (t' := .byte) (by decide) (by decide))))
  have f1011 := (((A1002.keep K1005 (ninS (Ne.symm t1002.2.2) nin0)).ext x1006).keep K1009 (ninS (Ne.symm t1002.2.2) nin0))
  exact go_return d3_26 rfl ⟨rfl, (((((Keep.refl h0 [x]).ext x1002).wr W1005 (Or.inl (by simp))).ext x1006).wr W1009 (Or.inl (by simp))), E1009, F1009, _, f1010, by subst hcs; exact f1011, fun q => absurd hcs q, (Ne.symm t1002.2.2)⟩
theorem d3_27 : Dec jdk_42_method_149_code 27 (.getstatic 38) 3 30 := ⟨by decide +kernel, rfl⟩
theorem d3_30 : Brn jdk_42_method_149_code 30 (.ifCond .eq 28) 28 33 58 := ⟨by decide +kernel, rfl, by decide, by decide⟩
theorem d3_33 : Dec jdk_42_method_149_code 33 (.aload_n 1) 1 34 := ⟨by decide +kernel, rfl⟩
theorem d3_34 : Dec jdk_42_method_149_code 34 (.iload_n 2) 1 35 := ⟨by decide +kernel, rfl⟩
theorem d3_35 : Dec jdk_42_method_149_code 35 (.iload_n 3) 1 36 := ⟨by decide +kernel, rfl⟩
theorem d3_36 : Dec jdk_42_method_149_code 36 (.invokestatic 177) 3 39 := ⟨by decide +kernel, rfl⟩
theorem pd1 : parseMethodDescriptor "([CII)[B" = some ⟨[(.array .char), .int, .int], some (.array .byte)⟩ := by decide +kernel
theorem d3_39 : Dec jdk_42_method_149_code 39 (.astore 5) 2 41 := ⟨by decide +kernel, rfl⟩
theorem d3_41 : Dec jdk_42_method_149_code 41 (.aload_n 0) 1 42 := ⟨by decide +kernel, rfl⟩
theorem d3_42 : Dec jdk_42_method_149_code 42 (.aload 5) 2 44 := ⟨by decide +kernel, rfl⟩
theorem d3_44 : Dec jdk_42_method_149_code 44 (.iload_n 3) 1 45 := ⟨by decide +kernel, rfl⟩
theorem d3_45 : Dec jdk_42_method_149_code 45 (.invokestatic 47) 3 48 := ⟨by decide +kernel, rfl⟩
theorem pd2 : parseMethodDescriptor "([BI)B" = some ⟨[(.array .byte), .int], some .byte⟩ := by decide +kernel
theorem d3_48 : Dec jdk_42_method_149_code 48 (.putfield 15) 3 51 := ⟨by decide +kernel, rfl⟩
theorem d3_51 : Dec jdk_42_method_149_code 51 (.aload_n 0) 1 52 := ⟨by decide +kernel, rfl⟩
theorem d3_52 : Dec jdk_42_method_149_code 52 (.aload 5) 2 54 := ⟨by decide +kernel, rfl⟩
theorem d3_54 : Dec jdk_42_method_149_code 54 (.putfield 9) 3 57 := ⟨by decide +kernel, rfl⟩
theorem d3_57 : Dec jdk_42_method_149_code 57 (.return_) 1 58 := ⟨by decide +kernel, rfl⟩
set_option maxRecDepth 65536 in
set_option maxHeartbeats 40000000 in
theorem c_ini4 (l : Launch) (Z : State) (a0 : Array Value) (hw : ∀ d ∈ tables_1, d.before a0 Z = true) (hEL : EW Z a0 own_EL) (src : Addr) (cs : List Int32) (S : Addr → Prop) (h0 : Heap) (hz : Z.heap.size ≤ h0.size) (x : Addr) (Ex : Exa Z h0 x "java/lang/String") (uv uc : Value) (Fv : Fld Z h0 x "java/lang/String" "value" "[B" uv) (Fc : Fld Z h0 x "java/lang/String" "coder" "B" uc) (gx : Z.heap.size ≤ x) (sx : S x) (A1 : AI Z h0 src .char cs) (hl : cs.length ≤ 2) (hpos : cs ≠ []) (hcs : ∀ c ∈ cs, ¬ (255 : Int32) < c) (zc : Int32) (Oc : Sta Z Z.heap "java/lang/String" "COMPACT_STRINGS" "Z" (.int zc)) (Pc : ¬ zc = 0) :
    Con l Z own_EL [] (⟨"java/lang/String", "<init>", "([CIILjava/lang/Void;)V"⟩ : MethodName) jdk_42_method_149_code 6 (none : Option FieldType) ({ frames := 2, cells := 1, slots := 2, locals := 36 } : Room) #[.ref x, .ref src, .int (0 : Int32), .int (Int32.ofNat cs.length), .null] S h0 (fun S' v h' => v = none ∧ Keep h0 h' [x] ∧ Exa Z h' x "java/lang/String" ∧ Fld Z h' x "java/lang/String" "coder" "B" (.int (0 : Int32)) ∧ ∃ b, Fld Z h' x "java/lang/String" "value" "[B" (.ref b) ∧ AI Z h' b .byte (cs.map lo8) ∧ (cs ≠ [] → h0.size ≤ b ∧ S' b) ∧ b ≠ x) := by
  refine con_of_go (ls := #[.val (.ref x), .val (.ref src), .val (.int (0 : Int32)), .val (.int (Int32.ofNat cs.length)), .val (.null), .unset]) pn1 hEL (fun m => by first | rfl | (simp [entryFrame, mkF, argsToLocals, cat_int, cat_ref, cat_null, cat_long]; done)) (fun K => ?_)
  show Go _ _ _ _ _ _ _ _ _ _ _ _ _ 1 2 _ _ _
  have lx := lt_nat Ex.lt
  have ls := lt_nat A1.lt
  have hlen : 0 < cs.length := List.length_pos_iff.mpr hpos
  refine go_aloadN d3_0 rfl rfl ?_
  refine go_initO (hw _ (List.mem_of_getElem? (i := 26) rfl)) (hw _ (List.mem_of_getElem? (i := 27) rfl)) (hw _ (List.mem_of_getElem? (i := 28) rfl)) d3_1 (by rfl) (by decide) (Nat.le_of_ble_eq_true rfl) ?_
  refine go_iloadN d3_4 rfl ?_
  refine go_ifne d3_5 (fun c1001 => ?_) (fun c1001 => absurd c1001 (fun q => absurd ((ofNat_inj (n := 0) (by omega) (by omega)).mp q) (by omega)))
  refine go_gets (hw _ (List.mem_of_getElem? (i := 29) rfl)) Via.refl Oc d3_27 ?_
  refine go_ifeq d3_30 (fun c1002 => absurd c1002 (Pc)) (fun c1002 => ?_)
  refine go_aloadN d3_33 rfl rfl ?_
  refine go_iloadN d3_34 rfl ?_
  refine go_iloadN d3_35 rfl ?_
  refine go_static (R := ({ frames := 2, cells := 1, slots := 2, locals := 36 } : Room)) (kc := 0) (ks := 0) [.ref src, .int (0 : Int32), .int (Int32.ofNat cs.length)] [] (c_cmp2 l Z a0 hw hEL src cs S h0 (by omega) A1 hl hcs) (hw _ (List.mem_of_getElem? (i := 30) rfl)) (hw _ (List.mem_of_getElem? (i := 31) rfl)) (hw _ (List.mem_of_getElem? (i := 33) rfl)) (hw _ (List.mem_of_getElem? (i := 32) rfl)) (by decide) rfl rfl (lenOf pd1 rfl) d3_36 (by rfl) (by decide) (Nat.le_of_ble_eq_true rfl) (rc := 1) (rs := 2) rfl rfl (fun S1003 v1003 h1003 m1003 z1003 q1003 => ?_)
  obtain ⟨b1003, rfl, g1003, l1003, s1003, K1003, A1003⟩ := q1003
  show Go _ _ _ _ _ _ _ _ _ _ _ _ _ _ _ _ _ (mkF K.m 39 #[.val (.ref x), .val (.ref src), .val (.int (0 : Int32)), .val (.int (Int32.ofNat cs.length)), .val (.null), .unset] [.ref b1003])
  refine go_astore d3_39 rfl (l' := #[.val (.ref x), .val (.ref src), .val (.int (0 : Int32)), .val (.int (Int32.ofNat cs.length)), .val (.null), .val (.ref b1003)]) rfl ?_
  refine go_aloadN d3_41 rfl rfl ?_
  refine go_aload d3_42 rfl rfl ?_
  refine go_iloadN d3_44 rfl ?_
  refine go_static (R := ({ frames := 2, cells := 1, slots := 2, locals := 36 } : Room)) (kc := 0) (ks := 0) [.ref b1003, .int (Int32.ofNat cs.length)] [.ref x] (c_cod l Z a0 hw hEL b1003 _ cs.length (by simp) S1003 h1003 A1003) (hw _ (List.mem_of_getElem? (i := 38) rfl)) (hw _ (List.mem_of_getElem? (i := 39) rfl)) (hw _ (List.mem_of_getElem? (i := 40) rfl)) (hw _ (List.mem_of_getElem? (i := 32) rfl)) (by decide) rfl rfl (lenOf pd2 rfl) d3_45 (by rfl) (by decide) (Nat.le_of_ble_eq_true rfl) (rc := 0) (rs := 0) rfl rfl (fun S1004 v1004 h1004 m1004 z1004 q1004 => ?_)
  obtain ⟨rfl, rfl⟩ := q1004
  show Go _ _ _ _ _ _ _ _ _ _ _ _ _ _ _ _ _ (mkF K.m 48 #[.val (.ref x), .val (.ref src), .val (.int (0 : Int32)), .val (.int (Int32.ofNat cs.length)), .val (.null), .val (.ref b1003)] [.int (0 : Int32), .ref x])
  have f1005 := (Fc.keep K1003 nin0)
  have f1006 := (Ex.keep K1003)
  refine go_putf (u' := .int (0 : Int32)) (hw _ (List.mem_of_getElem? (i := 41) rfl)) Via.refl f1005 f1006 (Or.inr ⟨(hw _ (List.mem_of_getElem? (i := 42) rfl)), rfl, rfl⟩) (hw _ (List.mem_of_getElem? (i := 16) rfl)) (ty := .byte) (by decide) (by decide) (by decide) (by omega) (Or.inl (m1004 _ (m1003 _ sx))) d3_48 (fun h1007 W1007 K1007 E1007 F1007 => ?_)
  have z1007 := K1007.1
  refine go_aloadN d3_51 rfl rfl ?_
  refine go_aload d3_52 rfl rfl ?_
  have f1008 := ((Fv.keep K1003 nin0).other W1007 (Or.inr (slot_ne (C := "java/lang/String") (a0 := a0) (Or.inr (hw _ (List.mem_of_getElem? (i := 44) rfl))) (Or.inr (hw _ (List.mem_of_getElem? (i := 42) rfl))) (by decide) (t := (.array .byte)) (t' := .byte) (by decide) (by decide))))
  refine go_putf (u' := .ref b1003) (hw _ (List.mem_of_getElem? (i := 43) rfl)) Via.refl f1008 E1007 (Or.inr ⟨(hw _ (List.mem_of_getElem? (i := 44) rfl)), rfl, rfl⟩) (hw _ (List.mem_of_getElem? (i := 16) rfl)) (ty := (.array .byte)) (by decide) rfl rfl (by omega) (Or.inl (m1004 _ (m1003 _ sx))) d3_54 (fun h1009 W1009 K1009 E1009 F1009 => ?_)
  have z1009 := K1009.1
  have f1010 := (F1007.other W1009 (Or.inr (slot_ne (C := "java/lang/String") (a0 := a0) (Or.inr (hw _ (List.mem_of_getElem? (i := 42) rfl))) (Or.inr (hw _ (List.mem_of_getElem? (i := 44) rfl))) (by decide) (t := .byte) (t' := (.array .byte)) (by decide) (by decide))))
  have f1011 := ((A1003.keep K1007 (ninS (ne_of (a := b1003) (b := x) (by omega)) nin0)).keep K1009 (ninS (ne_of (a := b1003) (b := x) (by omega)) nin0))
  exact go_return d3_57 rfl ⟨rfl, ((((Keep.refl h0 [x]).trans K1003 all0).wr W1007 (Or.inl (by simp))).wr W1009 (Or.inl (by simp))), E1009, f1010, _, F1009, f1011, fun _ => ⟨by omega, (m1004 _ s1003)⟩, (ne_of (a := b1003) (b := x) (by omega))⟩
theorem d4_0 : Dec jdk_42_method_3_code 0 (.aload_n 0) 1 1 := ⟨by decide +kernel, rfl⟩
theorem d4_1 : Dec jdk_42_method_3_code 1 (.aload_n 1) 1 2 := ⟨by decide +kernel, rfl⟩
theorem d4_2 : Dec jdk_42_method_3_code 2 (.iconst 0) 1 3 := ⟨by decide +kernel, rfl⟩
theorem d4_3 : Dec jdk_42_method_3_code 3 (.aload_n 1) 1 4 := ⟨by decide +kernel, rfl⟩
theorem d4_4 : Dec jdk_42_method_3_code 4 (.arraylength) 1 5 := ⟨by decide +kernel, rfl⟩
theorem d4_5 : Dec jdk_42_method_3_code 5 (.aconst_null) 1 6 := ⟨by decide +kernel, rfl⟩
theorem d4_6 : Dec jdk_42_method_3_code 6 (.invokespecial 27) 3 9 := ⟨by decide +kernel, rfl⟩
theorem pd3 : parseMethodDescriptor "([CIILjava/lang/Void;)V" = some ⟨[(.array .char), .int, .int, (.object "java/lang/Void")], none⟩ := by decide +kernel
theorem d4_9 : Dec jdk_42_method_3_code 9 (.return_) 1 10 := ⟨by decide +kernel, rfl⟩
set_option maxRecDepth 65536 in
set_option maxHeartbeats 40000000 in
theorem c_ini1E (l : Launch) (Z : State) (a0 : Array Value) (hw : ∀ d ∈ tables_1, d.before a0 Z = true) (hEL : EW Z a0 own_EL) (src : Addr) (cs : List Int32) (S : Addr → Prop) (h0 : Heap) (hz : Z.heap.size ≤ h0.size) (x : Addr) (Ex : Exa Z h0 x "java/lang/String") (uv uc : Value) (Fv : Fld Z h0 x "java/lang/String" "value" "[B" uv) (Fc : Fld Z h0 x "java/lang/String" "coder" "B" uc) (gx : Z.heap.size ≤ x) (sx : S x) (A1 : AI Z h0 src .char cs) (hcs : cs = []) :
    Con l Z own_EL [] (⟨"java/lang/String", "<init>", "([C)V"⟩ : MethodName) jdk_42_method_3_code 2 (none : Option FieldType) ({ frames := 2, cells := 4, slots := 8, locals := 30 } : Room) #[.ref x, .ref src] S h0 (fun S' v h' => v = none ∧ Keep h0 h' [x] ∧ Exa Z h' x "java/lang/String" ∧ Fld Z h' x "java/lang/String" "coder" "B" (.int (0 : Int32)) ∧ ∃ b, Fld Z h' x "java/lang/String" "value" "[B" (.ref b) ∧ AI Z h' b .byte (cs.map lo8) ∧ (cs ≠ [] → h0.size ≤ b ∧ S' b) ∧ b ≠ x) := by
  refine con_of_go (ls := #[.val (.ref x), .val (.ref src)]) pn1 hEL (fun m => by first | rfl | (simp [entryFrame, mkF, argsToLocals, cat_int, cat_ref, cat_null, cat_long]; done)) (fun K => ?_)
  show Go _ _ _ _ _ _ _ _ _ _ _ _ _ 4 8 _ _ _
  have lx := lt_nat Ex.lt
  have ls := lt_nat A1.lt
  refine go_aloadN d4_0 rfl rfl ?_
  refine go_aloadN d4_1 rfl rfl ?_
  refine go_iconst (x := (0 : Int32)) d4_2 (by decide) ?_
  refine go_aloadN d4_3 rfl rfl ?_
  refine go_alen A1 d4_4 (v := (0 : Int32)) (by rw [hcs]; rfl) ?_
  refine go_null d4_5 ?_
  refine go_special (R := ({ frames := 2, cells := 4, slots := 8, locals := 30 } : Room)) (kc := 0) (ks := 0) [.ref src, .int (0 : Int32), .int (0 : Int32), .null] [] (c_ini4E l Z a0 hw hEL src _ S h0 (by omega) x Ex _ _ Fv Fc (by omega) sx hcs) (hw _ (List.mem_of_getElem? (i := 22) rfl)) (hw _ (List.mem_of_getElem? (i := 23) rfl)) (hw _ (List.mem_of_getElem? (i := 25) rfl)) (hw _ (List.mem_of_getElem? (i := 17) rfl)) rfl (by decide) rfl rfl (lenOf pd3 rfl) d4_6 (by rfl) (by decide) (Nat.le_of_ble_eq_true rfl) (rc := 4) (rs := 8) rfl rfl (fun S1001 v1001 h1001 m1001 z1001 q1001 => ?_)
  obtain ⟨rfl, K1001, E1001, C1001, b1001, V1001, A1001, g1001, n1001⟩ := q1001
  show Go _ _ _ _ _ _ _ _ _ _ _ _ _ _ _ _ _ (mkF K.m 9 #[.val (.ref x), .val (.ref src)] [])
  exact go_return d4_9 rfl ⟨rfl, ((Keep.refl h0 [x]).trans K1001 (allS (Or.inl (by simp)) all0)), E1001, C1001, _, V1001, A1001, g1001, n1001⟩
set_option maxRecDepth 65536 in
set_option maxHeartbeats 40000000 in
theorem c_ini1 (l : Launch) (Z : State) (a0 : Array Value) (hw : ∀ d ∈ tables_1, d.before a0 Z = true) (hEL : EW Z a0 own_EL) (src : Addr) (cs : List Int32) (S : Addr → Prop) (h0 : Heap) (hz : Z.heap.size ≤ h0.size) (x : Addr) (Ex : Exa Z h0 x "java/lang/String") (uv uc : Value) (Fv : Fld Z h0 x "java/lang/String" "value" "[B" uv) (Fc : Fld Z h0 x "java/lang/String" "coder" "B" uc) (gx : Z.heap.size ≤ x) (sx : S x) (A1 : AI Z h0 src .char cs) (hl : cs.length ≤ 2) (hpos : cs ≠ []) (hcs : ∀ c ∈ cs, ¬ (255 : Int32) < c) (zc : Int32) (Oc : Sta Z Z.heap "java/lang/String" "COMPACT_STRINGS" "Z" (.int zc)) (Pc : ¬ zc = 0) :
    Con l Z own_EL [] (⟨"java/lang/String", "<init>", "([C)V"⟩ : MethodName) jdk_42_method_3_code 2 (none : Option FieldType) ({ frames := 3, cells := 1, slots := 2, locals := 56 } : Room) #[.ref x, .ref src] S h0 (fun S' v h' => v = none ∧ Keep h0 h' [x] ∧ Exa Z h' x "java/lang/String" ∧ Fld Z h' x "java/lang/String" "coder" "B" (.int (0 : Int32)) ∧ ∃ b, Fld Z h' x "java/lang/String" "value" "[B" (.ref b) ∧ AI Z h' b .byte (cs.map lo8) ∧ (cs ≠ [] → h0.size ≤ b ∧ S' b) ∧ b ≠ x) := by
  refine con_of_go (ls := #[.val (.ref x), .val (.ref src)]) pn1 hEL (fun m => by first | rfl | (simp [entryFrame, mkF, argsToLocals, cat_int, cat_ref, cat_null, cat_long]; done)) (fun K => ?_)
  show Go _ _ _ _ _ _ _ _ _ _ _ _ _ 1 2 _ _ _
  have lx := lt_nat Ex.lt
  have ls := lt_nat A1.lt
  refine go_aloadN d4_0 rfl rfl ?_
  refine go_aloadN d4_1 rfl rfl ?_
  refine go_iconst (x := (0 : Int32)) d4_2 (by decide) ?_
  refine go_aloadN d4_3 rfl rfl ?_
  refine go_alen A1 d4_4 (v := (Int32.ofNat cs.length)) rfl ?_
  refine go_null d4_5 ?_
  refine go_special (R := ({ frames := 3, cells := 1, slots := 2, locals := 56 } : Room)) (kc := 0) (ks := 0) [.ref src, .int (0 : Int32), .int (Int32.ofNat cs.length), .null] [] (c_ini4 l Z a0 hw hEL src _ S h0 (by omega) x Ex _ _ Fv Fc (by omega) sx A1 hl hpos hcs zc Oc Pc) (hw _ (List.mem_of_getElem? (i := 22) rfl)) (hw _ (List.mem_of_getElem? (i := 23) rfl)) (hw _ (List.mem_of_getElem? (i := 25) rfl)) (hw _ (List.mem_of_getElem? (i := 17) rfl)) rfl (by decide) rfl rfl (lenOf pd3 rfl) d4_6 (by rfl) (by decide) (Nat.le_of_ble_eq_true rfl) (rc := 1) (rs := 2) rfl rfl (fun S1001 v1001 h1001 m1001 z1001 q1001 => ?_)
  obtain ⟨rfl, K1001, E1001, C1001, b1001, V1001, A1001, g1001, n1001⟩ := q1001
  show Go _ _ _ _ _ _ _ _ _ _ _ _ _ _ _ _ _ (mkF K.m 9 #[.val (.ref x), .val (.ref src)] [])
  exact go_return d4_9 rfl ⟨rfl, ((Keep.refl h0 [x]).trans K1001 (allS (Or.inl (by simp)) all0)), E1001, C1001, _, V1001, A1001, g1001, n1001⟩
theorem d5_0 : Dec jdk_43_method_3_code 0 (.iload_n 0) 1 1 := ⟨by decide +kernel, rfl⟩
theorem d5_1 : Dec jdk_43_method_3_code 1 (.sipush 255) 3 4 := ⟨by decide +kernel, rfl⟩
theorem d5_4 : Brn jdk_43_method_3_code 4 (.if_icmp .gt 7) 7 7 11 := ⟨by decide +kernel, rfl, by decide, by decide⟩
theorem d5_7 : Dec jdk_43_method_3_code 7 (.iconst 1) 1 8 := ⟨by decide +kernel, rfl⟩
theorem d5_8 : Brn jdk_43_method_3_code 8 (.goto 4) 4 11 12 := ⟨by decide +kernel, rfl, by decide, by decide⟩
theorem d5_12 : Dec jdk_43_method_3_code 12 (.ireturn) 1 13 := ⟨by decide +kernel, rfl⟩
theorem pn2 : plainName "java/lang/StringLatin1" = true := by first | (simp [plainName, overriddenIn]; done) | decide +kernel
set_option maxRecDepth 65536 in
set_option maxHeartbeats 40000000 in
theorem c_can (l : Launch) (Z : State) (a0 : Array Value) (hw : ∀ d ∈ tables_1, d.before a0 Z = true) (hEL : EW Z a0 own_EL) (c : Int32) (hc : ¬ (255 : Int32) < c) (S : Addr → Prop) (h0 : Heap) :
    Con l Z own_EL [] (⟨"java/lang/StringLatin1", "canEncode", "(C)Z"⟩ : MethodName) jdk_43_method_3_code 1 (some .boolean) ({ frames := 0, cells := 0, slots := 0, locals := 0 } : Room) #[.int c] S h0 (fun S' v h' => v = some (.int (1 : Int32)) ∧ h0 = h') := by
  refine con_of_go (ls := #[.val (.int c)]) pn2 hEL (fun m => by first | rfl | (simp [entryFrame, mkF, argsToLocals, cat_int, cat_ref, cat_null, cat_long]; done)) (fun K => ?_)
  show Go _ _ _ _ _ _ _ _ _ _ _ _ _ 0 0 _ _ _
  refine go_iloadN d5_0 rfl ?_
  refine go_sipush (x := (255 : Int32)) d5_1 (by decide) ?_
  refine go_icmpgt d5_4 (fun c1001 => absurd c1001 (hc)) (fun c1001 => ?_)
  refine go_iconst (x := (1 : Int32)) d5_7 (by decide) ?_
  refine go_goto d5_8 ?_
  exact go_ireturn (ty := .boolean) (v := (1 : Int32)) d5_12 rfl (by simp) rfl ⟨rfl, rfl⟩
theorem d6_0 : Dec jdk_43_method_46_code 0 (.iconst 1) 1 1 := ⟨by decide +kernel, rfl⟩
theorem d6_1 : Dec jdk_43_method_46_code 1 (.newarray .byte) 2 3 := ⟨by decide +kernel, rfl⟩
theorem d6_3 : Dec jdk_43_method_46_code 3 (.dup) 1 4 := ⟨by decide +kernel, rfl⟩
theorem d6_4 : Dec jdk_43_method_46_code 4 (.iconst 0) 1 5 := ⟨by decide +kernel, rfl⟩
theorem d6_5 : Dec jdk_43_method_46_code 5 (.iload_n 0) 1 6 := ⟨by decide +kernel, rfl⟩
theorem d6_6 : Dec jdk_43_method_46_code 6 (.i2b) 1 7 := ⟨by decide +kernel, rfl⟩
theorem d6_7 : Dec jdk_43_method_46_code 7 (.bastore) 1 8 := ⟨by decide +kernel, rfl⟩
theorem d6_8 : Dec jdk_43_method_46_code 8 (.areturn) 1 9 := ⟨by decide +kernel, rfl⟩
set_option maxRecDepth 65536 in
set_option maxHeartbeats 40000000 in
theorem c_tob (l : Launch) (Z : State) (a0 : Array Value) (hw : ∀ d ∈ tables_1, d.before a0 Z = true) (hEL : EW Z a0 own_EL) (c : Int32) (S : Addr → Prop) (h0 : Heap) (hz : Z.heap.size ≤ h0.size) :
    Con l Z own_EL [] (⟨"java/lang/StringLatin1", "toBytes", "(C)[B"⟩ : MethodName) jdk_43_method_46_code 1 (some (.array .byte)) ({ frames := 0, cells := 1, slots := 1, locals := 0 } : Room) #[.int c] S h0 (fun S' v h' => ∃ b, v = some (.ref b) ∧ h0.size ≤ b ∧ b < h'.size ∧ S' b ∧ Keep h0 h' [] ∧ AI Z h' b .byte [lo8 c]) := by
  refine con_of_go (ls := #[.val (.int c)]) pn2 hEL (fun m => by first | rfl | (simp [entryFrame, mkF, argsToLocals, cat_int, cat_ref, cat_null, cat_long]; done)) (fun K => ?_)
  show Go _ _ _ _ _ _ _ _ _ _ _ _ _ 1 1 _ _ _
  refine go_iconst (x := (1 : Int32)) d6_0 (by decide) ?_
  refine go_newarr (kc := 0) (ks := 0) (N := 1) (cap := 1) (hw _ (List.mem_of_getElem? (i := 34) rfl)) rfl (Nat.le_refl _) (by decide) rfl rfl d6_1 (fun S1001 h1001 a1001 e1001 m1001 s1001 x1001 l1001 A1001 => ?_)
  have z1001 := x1001.1
  have A1001 : AI Z h1001 a1001 .byte (List.replicate 1 0) := A1001
  refine go_dup d6_3 rfl ?_
  refine go_iconst (x := (0 : Int32)) d6_4 (by decide) ?_
  refine go_iloadN d6_5 rfl ?_
  refine go_i2b (v := (lo8 c)) d6_6 rfl ?_
  refine go_bastore (v := (lo8 c)) A1001 (by omega) s1001 (i := 0) rfl (by simp) (nar_lo8 c) d6_7 (fun h1002 K1002 A1002 => ?_)
  have z1002 := K1002.1
  have A1002 : AI Z h1002 a1001 .byte ([lo8 c]) := A1002
  have L1003 := lt_nat A1002.lt
  exact go_areturn d6_8 rfl rfl rfl ⟨_, rfl, by omega, L1003, s1001, (((Keep.refl h0 []).ext x1001).trans K1002 (allS (Or.inr (by omega)) all0)), A1002⟩
theorem d7_0 : Dec jdk_42_method_151_code 0 (.aload_n 0) 1 1 := ⟨by decide +kernel, rfl⟩
theorem d7_1 : Dec jdk_42_method_151_code 1 (.invokespecial 1) 3 4 := ⟨by decide +kernel, rfl⟩
theorem d7_4 : Dec jdk_42_method_151_code 4 (.aload_n 0) 1 5 := ⟨by decide +kernel, rfl⟩
theorem d7_5 : Dec jdk_42_method_151_code 5 (.aload_n 1) 1 6 := ⟨by decide +kernel, rfl⟩
theorem d7_6 : Dec jdk_42_method_151_code 6 (.putfield 9) 3 9 := ⟨by decide +kernel, rfl⟩
theorem d7_9 : Dec jdk_42_method_151_code 9 (.aload_n 0) 1 10 := ⟨by decide +kernel, rfl⟩
theorem d7_10 : Dec jdk_42_method_151_code 10 (.iload_n 2) 1 11 := ⟨by decide +kernel, rfl⟩
theorem d7_11 : Dec jdk_42_method_151_code 11 (.putfield 15) 3 14 := ⟨by decide +kernel, rfl⟩
theorem d7_14 : Dec jdk_42_method_151_code 14 (.return_) 1 15 := ⟨by decide +kernel, rfl⟩
set_option maxRecDepth 65536 in
set_option maxHeartbeats 40000000 in
theorem c_ini2 (l : Launch) (Z : State) (a0 : Array Value) (hw : ∀ d ∈ tables_1, d.before a0 Z = true) (hEL : EW Z a0 own_EL) (bb : Addr) (k : Int32) (hk1 : narrow .byte (.int k) = .int k) (hk2 : fits .byte (.int k) = true) (S : Addr → Prop) (h0 : Heap) (hz : Z.heap.size ≤ h0.size) (x : Addr) (Ex : Exa Z h0 x "java/lang/String") (uv uc : Value) (Fv : Fld Z h0 x "java/lang/String" "value" "[B" uv) (Fc : Fld Z h0 x "java/lang/String" "coder" "B" uc) (gx : Z.heap.size ≤ x) (sx : S x) :
    Con l Z own_EL [] (⟨"java/lang/String", "<init>", "([BB)V"⟩ : MethodName) jdk_42_method_151_code 3 (none : Option FieldType) ({ frames := 1, cells := 0, slots := 0, locals := 12 } : Room) #[.ref x, .ref bb, .int k] S h0 (fun S' v h' => v = none ∧ Keep h0 h' [x] ∧ Exa Z h' x "java/lang/String" ∧ Fld Z h' x "java/lang/String" "coder" "B" (.int k) ∧ Fld Z h' x "java/lang/String" "value" "[B" (.ref bb)) := by
  refine con_of_go (ls := #[.val (.ref x), .val (.ref bb), .val (.int k)]) pn1 hEL (fun m => by first | rfl | (simp [entryFrame, mkF, argsToLocals, cat_int, cat_ref, cat_null, cat_long]; done)) (fun K => ?_)
  show Go _ _ _ _ _ _ _ _ _ _ _ _ _ 0 0 _ _ _
  have lx := lt_nat Ex.lt
  refine go_aloadN d7_0 rfl rfl ?_
  refine go_initO (hw _ (List.mem_of_getElem? (i := 26) rfl)) (hw _ (List.mem_of_getElem? (i := 27) rfl)) (hw _ (List.mem_of_getElem? (i := 28) rfl)) d7_1 (by rfl) (by decide) (Nat.le_of_ble_eq_true rfl) ?_
  refine go_aloadN d7_4 rfl rfl ?_
  refine go_aloadN d7_5 rfl rfl ?_
  refine go_putf (u' := .ref bb) (hw _ (List.mem_of_getElem? (i := 43) rfl)) Via.refl Fv Ex (Or.inr ⟨(hw _ (List.mem_of_getElem? (i := 44) rfl)), rfl, rfl⟩) (hw _ (List.mem_of_getElem? (i := 16) rfl)) (ty := (.array .byte)) (by decide) rfl rfl (by omega) (Or.inl sx) d7_6 (fun h1001 W1001 K1001 E1001 F1001 => ?_)
  have z1001 := K1001.1
  refine go_aloadN d7_9 rfl rfl ?_
  refine go_iloadN d7_10 rfl ?_
  have f1002 := (Fc.other W1001 (Or.inr (slot_ne (C := "java/lang/String") (a0 := a0) (Or.inr (hw _ (List.mem_of_getElem? (i := 42) rfl))) (Or.inr (hw _ (List.mem_of_getElem? (i := 44) rfl))) (by decide) (t := .byte) (t' := (.array .byte)) (by decide) (by decide))))
  refine go_putf (u' := .int k) (hw _ (List.mem_of_getElem? (i := 41) rfl)) Via.refl f1002 E1001 (Or.inr ⟨(hw _ (List.mem_of_getElem? (i := 42) rfl)), rfl, rfl⟩) (hw _ (List.mem_of_getElem? (i := 16) rfl)) (ty := .byte) (by decide) hk1 hk2 (by omega) (Or.inl sx) d7_11 (fun h1003 W1003 K1003 E1003 F1003 => ?_)
  have z1003 := K1003.1
  have f1004 := (F1001.other W1003 (Or.inr (slot_ne (C := "java/lang/String") (a0 := a0) (Or.inr (hw _ (List.mem_of_getElem? (i := 44) rfl))) (Or.inr (hw _ (List.mem_of_getElem? (i := 42) rfl))) (by decide) (t := (.array .byte)) (t' := .byte) (by decide) (by decide))))
  exact go_return d7_14 rfl ⟨rfl, (((Keep.refl h0 [x]).wr W1001 (Or.inl (by simp))).wr W1003 (Or.inl (by simp))), E1003, F1003, f1004⟩
theorem d8_0 : Dec jdk_42_method_139_code 0 (.getstatic 38) 3 3 := ⟨by decide +kernel, rfl⟩
theorem d8_3 : Brn jdk_42_method_139_code 3 (.ifCond .eq 23) 23 6 26 := ⟨by decide +kernel, rfl, by decide, by decide⟩
theorem d8_6 : Dec jdk_42_method_139_code 6 (.iload_n 0) 1 7 := ⟨by decide +kernel, rfl⟩
theorem d8_7 : Dec jdk_42_method_139_code 7 (.invokestatic 1015) 3 10 := ⟨by decide +kernel, rfl⟩
theorem pd4 : parseMethodDescriptor "(C)Z" = some ⟨[.char], some .boolean⟩ := by decide +kernel
theorem d8_10 : Brn jdk_42_method_139_code 10 (.ifCond .eq 16) 16 13 26 := ⟨by decide +kernel, rfl, by decide, by decide⟩
theorem d8_13 : Dec jdk_42_method_139_code 13 (.new 10) 3 16 := ⟨by decide +kernel, rfl⟩
theorem d8_16 : Dec jdk_42_method_139_code 16 (.dup) 1 17 := ⟨by decide +kernel, rfl⟩
theorem d8_17 : Dec jdk_42_method_139_code 17 (.iload_n 0) 1 18 := ⟨by decide +kernel, rfl⟩
theorem d8_18 : Dec jdk_42_method_139_code 18 (.invokestatic 1018) 3 21 := ⟨by decide +kernel, rfl⟩
theorem pd5 : parseMethodDescriptor "(C)[B" = some ⟨[.char], some (.array .byte)⟩ := by decide +kernel
theorem d8_21 : Dec jdk_42_method_139_code 21 (.iconst 0) 1 22 := ⟨by decide +kernel, rfl⟩
theorem d8_22 : Dec jdk_42_method_139_code 22 (.invokespecial 209) 3 25 := ⟨by decide +kernel, rfl⟩
theorem pd6 : parseMethodDescriptor "([BB)V" = some ⟨[(.array .byte), .byte], none⟩ := by decide +kernel
theorem d8_25 : Dec jdk_42_method_139_code 25 (.areturn) 1 26 := ⟨by decide +kernel, rfl⟩
set_option maxRecDepth 65536 in
set_option maxHeartbeats 40000000 in
theorem c_val (l : Launch) (Z : State) (a0 : Array Value) (hw : ∀ d ∈ tables_1, d.before a0 Z = true) (hEL : EW Z a0 own_EL) (c : Int32) (hc : ¬ (255 : Int32) < c) (S : Addr → Prop) (h0 : Heap) (hz : Z.heap.size ≤ h0.size) (zc : Int32) (Oc : Sta Z Z.heap "java/lang/String" "COMPACT_STRINGS" "Z" (.int zc)) (Pc : ¬ zc = 0) :
    Con l Z own_EL [] (⟨"java/lang/String", "valueOf", "(C)Ljava/lang/String;"⟩ : MethodName) jdk_42_method_139_code 1 (some (.object "java/lang/String")) ({ frames := 2, cells := 2, slots := 5, locals := 29 } : Room) #[.int c] S h0 (fun S' v h' => ∃ x b, v = some (.ref x) ∧ h0.size ≤ x ∧ x < h'.size ∧ S' x ∧ h0.size ≤ b ∧ S' b ∧ Keep h0 h' [] ∧ Exa Z h' x "java/lang/String" ∧ Fld Z h' x "java/lang/String" "coder" "B" (.int (0 : Int32)) ∧ Fld Z h' x "java/lang/String" "value" "[B" (.ref b) ∧ AI Z h' b .byte [lo8 c]) := by
  refine con_of_go (ls := #[.val (.int c)]) pn1 hEL (fun m => by first | rfl | (simp [entryFrame, mkF, argsToLocals, cat_int, cat_ref, cat_null, cat_long]; done)) (fun K => ?_)
  show Go _ _ _ _ _ _ _ _ _ _ _ _ _ 2 5 _ _ _
  refine go_gets (hw _ (List.mem_of_getElem? (i := 29) rfl)) Via.refl Oc d8_0 ?_
  refine go_ifeq d8_3 (fun c1001 => absurd c1001 (Pc)) (fun c1001 => ?_)
  refine go_iloadN d8_6 rfl ?_
  refine go_static (R := ({ frames := 2, cells := 2, slots := 5, locals := 29 } : Room)) (kc := 2) (ks := 5) [.int c] [] (c_can l Z a0 hw hEL c hc S h0) (hw _ (List.mem_of_getElem? (i := 48) rfl)) (hw _ (List.mem_of_getElem? (i := 49) rfl)) (hw _ (List.mem_of_getElem? (i := 51) rfl)) (hw _ (List.mem_of_getElem? (i := 50) rfl)) (by decide) rfl rfl (lenOf pd4 rfl) d8_7 (by rfl) (by decide) (Nat.le_of_ble_eq_true rfl) (rc := 0) (rs := 0) rfl rfl (fun S1002 v1002 h1002 m1002 z1002 q1002 => ?_)
  obtain ⟨rfl, rfl⟩ := q1002
  show Go _ _ _ _ _ _ _ _ _ _ _ _ _ _ _ _ _ (mkF K.m 10 #[.val (.int c)] [.int (1 : Int32)])
  refine go_ifeq d8_10 (fun c1003 => absurd c1003 ((by decide))) (fun c1003 => ?_)
  refine go_new (kc := 1) (ks := 1) (hw _ (List.mem_of_getElem? (i := 52) rfl)) (hw _ (List.mem_of_getElem? (i := 16) rfl)) (hw _ (List.mem_of_getElem? (i := 17) rfl)) d8_13 (fun S1004 h1004 a1004 e1004 m1004 s1004 x1004 l1004 p1004 => ?_)
  have z1004 := x1004.1
  refine go_dup d8_16 rfl ?_
  refine go_iloadN d8_17 rfl ?_
  refine go_static (R := ({ frames := 2, cells := 2, slots := 5, locals := 29 } : Room)) (kc := 0) (ks := 0) [.int c] [.ref a1004, .ref a1004] (c_tob l Z a0 hw hEL c S1004 h1004 (by omega)) (hw _ (List.mem_of_getElem? (i := 53) rfl)) (hw _ (List.mem_of_getElem? (i := 54) rfl)) (hw _ (List.mem_of_getElem? (i := 55) rfl)) (hw _ (List.mem_of_getElem? (i := 50) rfl)) (by decide) rfl rfl (lenOf pd5 rfl) d8_18 (by rfl) (by decide) (Nat.le_of_ble_eq_true rfl) (rc := 1) (rs := 1) rfl rfl (fun S1005 v1005 h1005 m1005 z1005 q1005 => ?_)
  obtain ⟨b1005, rfl, g1005, l1005, s1005, K1005, A1005⟩ := q1005
  show Go _ _ _ _ _ _ _ _ _ _ _ _ _ _ _ _ _ (mkF K.m 21 #[.val (.int c)] [.ref b1005, .ref a1004, .ref a1004])
  refine go_iconst (x := (0 : Int32)) d8_21 (by decide) ?_
  have f1006 := (p1004.1.keep K1005)
  have f1007 := ((p1004.2 (Or.inr (hw _ (List.mem_of_getElem? (i := 44) rfl))) (ty := (.array .byte)) (by decide)).keep K1005 nin0)
  have f1008 := ((p1004.2 (Or.inr (hw _ (List.mem_of_getElem? (i := 42) rfl))) (ty := .byte) (by decide)).keep K1005 nin0)
  refine go_special (R := ({ frames := 2, cells := 2, slots := 5, locals := 29 } : Room)) (kc := 0) (ks := 0) [.ref b1005, .int (0 : Int32)] [.ref a1004] (c_ini2 l Z a0 hw hEL b1005 (0 : Int32) (by decide) (by decide) S1005 h1005 (by omega) a1004 f1006 _ _ f1007 f1008 (by omega) (m1005 _ s1004)) (hw _ (List.mem_of_getElem? (i := 56) rfl)) (hw _ (List.mem_of_getElem? (i := 57) rfl)) (hw _ (List.mem_of_getElem? (i := 58) rfl)) (hw _ (List.mem_of_getElem? (i := 17) rfl)) rfl (by decide) rfl rfl (lenOf pd6 rfl) d8_22 (by rfl) (by decide) (Nat.le_of_ble_eq_true rfl) (rc := 0) (rs := 0) rfl rfl (fun S1009 v1009 h1009 m1009 z1009 q1009 => ?_)
  obtain ⟨rfl, K1009, E1009, C1009, V1009⟩ := q1009
  show Go _ _ _ _ _ _ _ _ _ _ _ _ _ _ _ _ _ (mkF K.m 25 #[.val (.int c)] [.ref a1004])
  have L1010 := lt_nat E1009.lt
  have f1011 := (A1005.keep K1009 (ninS (ne_of (a := b1005) (b := a1004) (by omega)) nin0))
  exact go_areturn d8_25 rfl rfl rfl ⟨_, _, rfl, by omega, L1010, (m1009 _ (m1005 _ s1004)), by omega, (m1009 _ s1005), ((((Keep.refl h0 []).ext x1004).trans K1005 all0).trans K1009 (allS (Or.inr (by omega)) all0)), E1009, C1009, V1009, f1011⟩
theorem d9_0 : Dec method_2_code 0 (.iload_n 0) 1 1 := ⟨by decide +kernel, rfl⟩
theorem d9_1 : Brn method_2_code 1 (.ifCond .ne 5) 5 4 6 := ⟨by decide +kernel, rfl, by decide, by decide⟩
theorem d9_6 : Dec method_2_code 6 (.iload_n 1) 1 7 := ⟨by decide +kernel, rfl⟩
theorem d9_7 : Dec method_2_code 7 (.sipush 255) 3 10 := ⟨by decide +kernel, rfl⟩
theorem d9_10 : Dec method_2_code 10 (.iand) 1 11 := ⟨by decide +kernel, rfl⟩
theorem d9_11 : Dec method_2_code 11 (.i2c) 1 12 := ⟨by decide +kernel, rfl⟩
theorem d9_12 : Dec method_2_code 12 (.invokestatic 7) 3 15 := ⟨by decide +kernel, rfl⟩
theorem pd7 : parseMethodDescriptor "(C)Ljava/lang/String;" = some ⟨[.char], some (.object "java/lang/String")⟩ := by decide +kernel
theorem d9_15 : Dec method_2_code 15 (.areturn) 1 16 := ⟨by decide +kernel, rfl⟩
theorem d9_4 : Dec method_2_code 4 (.aconst_null) 1 5 := ⟨by decide +kernel, rfl⟩
theorem d9_5 : Dec method_2_code 5 (.areturn) 1 6 := ⟨by decide +kernel, rfl⟩
theorem pn3 : plainName "gatehouse/ScopeRequireFitsPinLaw" = true := by first | (simp [plainName, overriddenIn]; done) | decide +kernel
set_option maxRecDepth 65536 in
set_option maxHeartbeats 40000000 in
theorem c_drawn (l : Launch) (Z : State) (a0 : Array Value) (hw : ∀ d ∈ tables_1, d.before a0 Z = true) (hEL : EW Z a0 own_EL) (bit c : Int32) (S : Addr → Prop) (h0 : Heap) (hz : Z.heap.size ≤ h0.size) (zc : Int32) (Oc : Sta Z Z.heap "java/lang/String" "COMPACT_STRINGS" "Z" (.int zc)) (Pc : ¬ zc = 0) :
    Con l Z own_EL [] (⟨"gatehouse/ScopeRequireFitsPinLaw", "drawn", "(II)Ljava/lang/String;"⟩ : MethodName) method_2_code 2 (some (.object "java/lang/String")) ({ frames := 3, cells := 2, slots := 5, locals := 41 } : Room) #[.int bit, .int c] S h0 (fun S' v h' => ∃ u, v = some u ∧ u.isRef = true ∧ Keep h0 h' []) := by
  refine con_of_go (ls := #[.val (.int bit), .val (.int c)]) pn3 hEL (fun m => by first | rfl | (simp [entryFrame, mkF, argsToLocals, cat_int, cat_ref, cat_null, cat_long]; done)) (fun K => ?_)
  show Go _ _ _ _ _ _ _ _ _ _ _ _ _ 2 5 _ _ _
  refine go_iloadN d9_0 rfl ?_
  refine go_ifne d9_1 (fun c1001 => ?_) (fun c1001 => ?_)
  · refine go_iloadN d9_6 rfl ?_
    refine go_sipush (x := (255 : Int32)) d9_7 (by decide) ?_
    refine go_iand d9_10 rfl ?_
    refine go_i2c (v := (c &&& (255 : Int32))) d9_11 (i2c_mask c) ?_
    refine go_static (R := ({ frames := 3, cells := 2, slots := 5, locals := 41 } : Room)) (kc := 0) (ks := 0) [.int (c &&& (255 : Int32))] [] (c_val l Z a0 hw hEL (c &&& (255 : Int32)) (own_and255 c) S h0 (by omega) zc Oc Pc) (hw _ (List.mem_of_getElem? (i := 45) rfl)) (hw _ (List.mem_of_getElem? (i := 46) rfl)) (hw _ (List.mem_of_getElem? (i := 47) rfl)) (hw _ (List.mem_of_getElem? (i := 17) rfl)) (by decide) rfl rfl (lenOf pd7 rfl) d9_12 (by rfl) (by decide) (Nat.le_of_ble_eq_true rfl) (rc := 2) (rs := 5) rfl rfl (fun S1002 v1002 h1002 m1002 z1002 q1002 => ?_)
    obtain ⟨x1002, b1002, rfl, g1002, l1002, s1002, r1002, t1002, K1002, E1002, C1002, V1002, A1002⟩ := q1002
    have lb1002 := lt_nat A1002.lt
    show Go _ _ _ _ _ _ _ _ _ _ _ _ _ _ _ _ _ (mkF K.m 15 #[.val (.int bit), .val (.int c)] [.ref x1002])
    exact go_areturn d9_15 rfl rfl rfl ⟨_, rfl, rfl, ((Keep.refl h0 []).trans K1002 all0)⟩
  · refine go_null d9_4 ?_
    exact go_areturn d9_5 rfl rfl rfl ⟨_, rfl, rfl, (Keep.refl h0 [])⟩
theorem d10_0 : Dec prog_44_method_5_code 0 (.aload_n 1) 1 1 := ⟨by decide +kernel, rfl⟩
theorem d10_1 : Brn prog_44_method_5_code 1 (.ifnull 7) 7 4 8 := ⟨by decide +kernel, rfl, by decide, by decide⟩
theorem d10_8 : Dec prog_44_method_5_code 8 (.iconst 0) 1 9 := ⟨by decide +kernel, rfl⟩
theorem d10_9 : Dec prog_44_method_5_code 9 (.aload_n 0) 1 10 := ⟨by decide +kernel, rfl⟩
theorem d10_10 : Dec prog_44_method_5_code 10 (.getstatic 7) 3 13 := ⟨by decide +kernel, rfl⟩
theorem d10_13 : Brn prog_44_method_5_code 13 (.if_acmp .ne 7) 7 16 20 := ⟨by decide +kernel, rfl, by decide, by decide⟩
theorem d10_20 : Dec prog_44_method_5_code 20 (.iconst 0) 1 21 := ⟨by decide +kernel, rfl⟩
theorem d10_21 : Brn prog_44_method_5_code 21 (.if_icmp .ne 4) 4 24 25 := ⟨by decide +kernel, rfl, by decide, by decide⟩
theorem d10_24 : Dec prog_44_method_5_code 24 (.return_) 1 25 := ⟨by decide +kernel, rfl⟩
theorem pn4 : plainName "gatehouse/Scope" = true := by first | (simp [plainName, overriddenIn]; done) | decide +kernel
set_option maxRecDepth 65536 in
set_option maxHeartbeats 40000000 in
theorem c_rfN (l : Launch) (Z : State) (a0 : Array Value) (hw : ∀ d ∈ tables_1, d.before a0 Z = true) (hEL : EW Z a0 own_EL) (pj : Addr) (OP : Sta Z Z.heap "gatehouse/Scope" "PROJECT" "Lgatehouse/Scope;" (.ref pj)) (t : Addr) (ht : t ≠ pj) (u2 u3 u4 : Value) (hu2 : u2.isRef = true) (hu3 : u3.isRef = true) (hu4 : u4.isRef = true) (S : Addr → Prop) (h0 : Heap) :
    Con l Z own_EL [] (⟨"gatehouse/Scope", "requireFits", "(Ljava/lang/String;Ljava/lang/String;Ljava/lang/String;Ljava/lang/String;)V"⟩ : MethodName) prog_44_method_5_code 7 (none : Option FieldType) ({ frames := 0, cells := 0, slots := 0, locals := 0 } : Room) #[.ref t, .null, u2, u3, u4] S h0 (fun S' v h' => v = none ∧ h0 = h') := by
  refine con_of_go (ls := #[.val (.ref t), .val (.null), .val (u2), .val (u3), .val (u4), .unset, .unset]) pn4 hEL (fun m => by first | rfl | (simp [entryFrame, mkF, argsToLocals, cat_int, cat_ref, cat_null, cat_long, XT.cat1 hu2, XT.cat1 hu3, XT.cat1 hu4]; done)) (fun K => ?_)
  show Go _ _ _ _ _ _ _ _ _ _ _ _ _ 0 0 _ _ _
  refine go_aloadN d10_0 rfl rfl ?_
  refine go_ifnullY d10_1 ?_
  refine go_iconst (x := (0 : Int32)) d10_8 (by decide) ?_
  refine go_aloadN d10_9 rfl rfl ?_
  refine go_gets (hw _ (List.mem_of_getElem? (i := 12) rfl)) Via.refl OP d10_10 ?_
  refine go_acmpne d10_13 rfl rfl (fun c1001 => ?_) (fun c1001 => absurd c1001 (fun q => ht (Value.ref.inj q)))
  refine go_iconst (x := (0 : Int32)) d10_20 (by decide) ?_
  refine go_icmpne d10_21 (fun c1002 => absurd (rfl) c1002) (fun c1002 => ?_)
  exact go_return d10_24 rfl ⟨rfl, rfl⟩
theorem d10_4 : Dec prog_44_method_5_code 4 (.iconst 1) 1 5 := ⟨by decide +kernel, rfl⟩
theorem d10_5 : Brn prog_44_method_5_code 5 (.goto 4) 4 8 9 := ⟨by decide +kernel, rfl, by decide, by decide⟩
theorem d10_16 : Dec prog_44_method_5_code 16 (.iconst 1) 1 17 := ⟨by decide +kernel, rfl⟩
theorem d10_17 : Brn prog_44_method_5_code 17 (.goto 4) 4 20 21 := ⟨by decide +kernel, rfl, by decide, by decide⟩
set_option maxRecDepth 65536 in
set_option maxHeartbeats 40000000 in
theorem c_rfR (l : Launch) (Z : State) (a0 : Array Value) (hw : ∀ d ∈ tables_1, d.before a0 Z = true) (hEL : EW Z a0 own_EL) (pj : Addr) (OP : Sta Z Z.heap "gatehouse/Scope" "PROJECT" "Lgatehouse/Scope;" (.ref pj)) (pp : Addr) (u2 u3 u4 : Value) (hu2 : u2.isRef = true) (hu3 : u3.isRef = true) (hu4 : u4.isRef = true) (S : Addr → Prop) (h0 : Heap) :
    Con l Z own_EL [] (⟨"gatehouse/Scope", "requireFits", "(Ljava/lang/String;Ljava/lang/String;Ljava/lang/String;Ljava/lang/String;)V"⟩ : MethodName) prog_44_method_5_code 7 (none : Option FieldType) ({ frames := 0, cells := 0, slots := 0, locals := 0 } : Room) #[.ref pj, .ref pp, u2, u3, u4] S h0 (fun S' v h' => v = none ∧ h0 = h') := by
  refine con_of_go (ls := #[.val (.ref pj), .val (.ref pp), .val (u2), .val (u3), .val (u4), .unset, .unset]) pn4 hEL (fun m => by first | rfl | (simp [entryFrame, mkF, argsToLocals, cat_int, cat_ref, cat_null, cat_long, XT.cat1 hu2, XT.cat1 hu3, XT.cat1 hu4]; done)) (fun K => ?_)
  show Go _ _ _ _ _ _ _ _ _ _ _ _ _ 0 0 _ _ _
  refine go_aloadN d10_0 rfl rfl ?_
  refine go_ifnullN d10_1 ?_
  refine go_iconst (x := (1 : Int32)) d10_4 (by decide) ?_
  refine go_goto d10_5 ?_
  refine go_aloadN d10_9 rfl rfl ?_
  refine go_gets (hw _ (List.mem_of_getElem? (i := 12) rfl)) Via.refl OP d10_10 ?_
  refine go_acmpne d10_13 rfl rfl (fun c1001 => absurd (rfl) c1001) (fun c1001 => ?_)
  refine go_iconst (x := (1 : Int32)) d10_16 (by decide) ?_
  refine go_goto d10_17 ?_
  refine go_icmpne d10_21 (fun c1002 => absurd (rfl) c1002) (fun c1002 => ?_)
  exact go_return d10_24 rfl ⟨rfl, rfl⟩
theorem d11_0 : Dec code 0 (.iload_n 0) 1 1 := ⟨by decide +kernel, rfl⟩
theorem d11_1 : Dec code 1 (.iconst 1) 1 2 := ⟨by decide +kernel, rfl⟩
theorem d11_2 : Dec code 2 (.iand) 1 3 := ⟨by decide +kernel, rfl⟩
theorem d11_3 : Brn code 3 (.ifCond .eq 7) 7 6 10 := ⟨by decide +kernel, rfl, by decide, by decide⟩
theorem d11_10 : Dec code 10 (.iconst 0) 1 11 := ⟨by decide +kernel, rfl⟩
theorem d11_11 : Dec code 11 (.istore 5) 2 13 := ⟨by decide +kernel, rfl⟩
theorem d11_13 : Dec code 13 (.iload 5) 2 15 := ⟨by decide +kernel, rfl⟩
theorem d11_15 : Brn code 15 (.ifCond .eq 9) 9 18 24 := ⟨by decide +kernel, rfl, by decide, by decide⟩
theorem d11_24 : Dec code 24 (.getstatic 19) 3 27 := ⟨by decide +kernel, rfl⟩
theorem d11_27 : Dec code 27 (.astore 6) 2 29 := ⟨by decide +kernel, rfl⟩
theorem d11_29 : Dec code 29 (.aconst_null) 1 30 := ⟨by decide +kernel, rfl⟩
theorem d11_30 : Dec code 30 (.astore 7) 2 32 := ⟨by decide +kernel, rfl⟩
theorem d11_32 : Dec code 32 (.iload 5) 2 34 := ⟨by decide +kernel, rfl⟩
theorem d11_34 : Brn code 34 (.ifCond .eq 57) 57 37 91 := ⟨by decide +kernel, rfl, by decide, by decide⟩
theorem d11_91 : Dec code 91 (.iload_n 0) 1 92 := ⟨by decide +kernel, rfl⟩
theorem d11_92 : Dec code 92 (.iconst 4) 1 93 := ⟨by decide +kernel, rfl⟩
theorem d11_93 : Dec code 93 (.iand) 1 94 := ⟨by decide +kernel, rfl⟩
theorem d11_94 : Dec code 94 (.iload_n 2) 1 95 := ⟨by decide +kernel, rfl⟩
theorem d11_95 : Dec code 95 (.invokestatic 25) 3 98 := ⟨by decide +kernel, rfl⟩
theorem pd8 : parseMethodDescriptor "(II)Ljava/lang/String;" = some ⟨[.int, .int], some (.object "java/lang/String")⟩ := by decide +kernel
theorem d11_98 : Dec code 98 (.astore 8) 2 100 := ⟨by decide +kernel, rfl⟩
theorem d11_100 : Dec code 100 (.iload_n 0) 1 101 := ⟨by decide +kernel, rfl⟩
theorem d11_101 : Dec code 101 (.bipush 8) 2 103 := ⟨by decide +kernel, rfl⟩
theorem d11_103 : Dec code 103 (.iand) 1 104 := ⟨by decide +kernel, rfl⟩
theorem d11_104 : Dec code 104 (.iload_n 3) 1 105 := ⟨by decide +kernel, rfl⟩
theorem d11_105 : Dec code 105 (.invokestatic 25) 3 108 := ⟨by decide +kernel, rfl⟩
theorem d11_108 : Dec code 108 (.astore 9) 2 110 := ⟨by decide +kernel, rfl⟩
theorem d11_110 : Dec code 110 (.iload_n 0) 1 111 := ⟨by decide +kernel, rfl⟩
theorem d11_111 : Dec code 111 (.bipush 16) 2 113 := ⟨by decide +kernel, rfl⟩
theorem d11_113 : Dec code 113 (.iand) 1 114 := ⟨by decide +kernel, rfl⟩
theorem d11_114 : Dec code 114 (.iload 4) 2 116 := ⟨by decide +kernel, rfl⟩
theorem d11_116 : Dec code 116 (.invokestatic 25) 3 119 := ⟨by decide +kernel, rfl⟩
theorem d11_119 : Dec code 119 (.astore 10) 2 121 := ⟨by decide +kernel, rfl⟩
theorem d11_121 : Dec code 121 (.aload 6) 2 123 := ⟨by decide +kernel, rfl⟩
theorem d11_123 : Dec code 123 (.aload 7) 2 125 := ⟨by decide +kernel, rfl⟩
theorem d11_125 : Dec code 125 (.aload 8) 2 127 := ⟨by decide +kernel, rfl⟩
theorem d11_127 : Dec code 127 (.aload 9) 2 129 := ⟨by decide +kernel, rfl⟩
theorem d11_129 : Dec code 129 (.aload 10) 2 131 := ⟨by decide +kernel, rfl⟩
theorem d11_131 : Dec code 131 (.invokevirtual 31) 3 134 := ⟨by decide +kernel, rfl⟩
theorem pd9 : parseMethodDescriptor "(Ljava/lang/String;Ljava/lang/String;Ljava/lang/String;Ljava/lang/String;)V" = some ⟨[(.object "java/lang/String"), (.object "java/lang/String"), (.object "java/lang/String"), (.object "java/lang/String")], none⟩ := by decide +kernel
theorem d11_134 : Dec code 134 (.iconst 1) 1 135 := ⟨by decide +kernel, rfl⟩
theorem d11_135 : Dec code 135 (.ireturn) 1 136 := ⟨by decide +kernel, rfl⟩
theorem d11_6 : Dec code 6 (.iconst 1) 1 7 := ⟨by decide +kernel, rfl⟩
theorem d11_7 : Brn code 7 (.goto 4) 4 10 11 := ⟨by decide +kernel, rfl, by decide, by decide⟩
theorem d11_18 : Dec code 18 (.getstatic 13) 3 21 := ⟨by decide +kernel, rfl⟩
theorem d11_21 : Brn code 21 (.goto 6) 6 24 27 := ⟨by decide +kernel, rfl, by decide, by decide⟩
theorem d11_37 : Dec code 37 (.iload_n 0) 1 38 := ⟨by decide +kernel, rfl⟩
theorem d11_38 : Dec code 38 (.iconst 2) 1 39 := ⟨by decide +kernel, rfl⟩
theorem d11_39 : Dec code 39 (.iand) 1 40 := ⟨by decide +kernel, rfl⟩
theorem d11_40 : Brn code 40 (.ifCond .eq 39) 39 43 79 := ⟨by decide +kernel, rfl, by decide, by decide⟩
theorem d11_79 : Dec code 79 (.new 8) 3 82 := ⟨by decide +kernel, rfl⟩
theorem d11_82 : Dec code 82 (.dup) 1 83 := ⟨by decide +kernel, rfl⟩
theorem d11_83 : Dec code 83 (.iconst 0) 1 84 := ⟨by decide +kernel, rfl⟩
theorem d11_84 : Dec code 84 (.newarray .char) 2 86 := ⟨by decide +kernel, rfl⟩
theorem d11_86 : Dec code 86 (.invokespecial 22) 3 89 := ⟨by decide +kernel, rfl⟩
theorem pd10 : parseMethodDescriptor "([C)V" = some ⟨[(.array .char)], none⟩ := by decide +kernel
theorem d11_89 : Dec code 89 (.astore 7) 2 91 := ⟨by decide +kernel, rfl⟩
theorem d11_43 : Dec code 43 (.new 8) 3 46 := ⟨by decide +kernel, rfl⟩
theorem d11_46 : Dec code 46 (.dup) 1 47 := ⟨by decide +kernel, rfl⟩
theorem d11_47 : Dec code 47 (.iconst 2) 1 48 := ⟨by decide +kernel, rfl⟩
theorem d11_48 : Dec code 48 (.newarray .char) 2 50 := ⟨by decide +kernel, rfl⟩
theorem d11_50 : Dec code 50 (.dup) 1 51 := ⟨by decide +kernel, rfl⟩
theorem d11_51 : Dec code 51 (.iconst 0) 1 52 := ⟨by decide +kernel, rfl⟩
theorem d11_52 : Dec code 52 (.iload_n 1) 1 53 := ⟨by decide +kernel, rfl⟩
theorem d11_53 : Dec code 53 (.sipush 255) 3 56 := ⟨by decide +kernel, rfl⟩
theorem d11_56 : Dec code 56 (.iand) 1 57 := ⟨by decide +kernel, rfl⟩
theorem d11_57 : Dec code 57 (.i2c) 1 58 := ⟨by decide +kernel, rfl⟩
theorem d11_58 : Dec code 58 (.castore) 1 59 := ⟨by decide +kernel, rfl⟩
theorem d11_59 : Dec code 59 (.dup) 1 60 := ⟨by decide +kernel, rfl⟩
theorem d11_60 : Dec code 60 (.iconst 1) 1 61 := ⟨by decide +kernel, rfl⟩
theorem d11_61 : Dec code 61 (.iload_n 1) 1 62 := ⟨by decide +kernel, rfl⟩
theorem d11_62 : Dec code 62 (.bipush 8) 2 64 := ⟨by decide +kernel, rfl⟩
theorem d11_64 : Dec code 64 (.iushr) 1 65 := ⟨by decide +kernel, rfl⟩
theorem d11_65 : Dec code 65 (.sipush 255) 3 68 := ⟨by decide +kernel, rfl⟩
theorem d11_68 : Dec code 68 (.iand) 1 69 := ⟨by decide +kernel, rfl⟩
theorem d11_69 : Dec code 69 (.i2c) 1 70 := ⟨by decide +kernel, rfl⟩
theorem d11_70 : Dec code 70 (.castore) 1 71 := ⟨by decide +kernel, rfl⟩
theorem d11_71 : Dec code 71 (.invokespecial 22) 3 74 := ⟨by decide +kernel, rfl⟩
theorem d11_74 : Dec code 74 (.astore 7) 2 76 := ⟨by decide +kernel, rfl⟩
theorem d11_76 : Brn code 76 (.goto 15) 15 79 91 := ⟨by decide +kernel, rfl, by decide, by decide⟩
set_option maxRecDepth 65536 in
set_option maxHeartbeats 40000000 in
theorem c_law (l : Launch) (Z : State) (a0 : Array Value) (hw : ∀ d ∈ tables_1, d.before a0 Z = true) (hEL : EW Z a0 own_EL) (p0 p1 p2 p3 p4 : Int32) (zc : Int32) (Oc : Sta Z Z.heap "java/lang/String" "COMPACT_STRINGS" "Z" (.int zc)) (Pc : ¬ zc = 0) (pj ac : Addr) (OP : Sta Z Z.heap "gatehouse/Scope" "PROJECT" "Lgatehouse/Scope;" (.ref pj)) (OA : Sta Z Z.heap "gatehouse/Scope" "ACCOUNT" "Lgatehouse/Scope;" (.ref ac)) (EP : Exa Z Z.heap pj "gatehouse/Scope") (EA : Exa Z Z.heap ac "gatehouse/Scope") (hac : ac ≠ pj) :
    Con l Z own_EL tables_1 x code maxLocals ret room_1 #[.int p0, .int p1, .int p2, .int p3, .int p4] (fun _ => False) Z.heap (fun S' v h' => v = some (.int (1 : Int32))) := by
  refine con_of_go (ls := #[.val (.int p0), .val (.int p1), .val (.int p2), .val (.int p3), .val (.int p4), .unset, .unset, .unset, .unset, .unset, .unset]) pn3 hEL (fun m => by first | rfl | (simp [entryFrame, mkF, argsToLocals, cat_int, cat_ref, cat_null, cat_long, maxLocals]; done)) (fun K => ?_)
  show Go _ _ _ _ _ _ _ _ _ _ _ _ _ 32 1152 _ _ _
  refine go_iloadN d11_0 rfl ?_
  refine go_iconst (x := (1 : Int32)) d11_1 (by decide) ?_
  refine go_iand d11_2 rfl ?_
  refine go_ifeq d11_3 (fun c1001 => ?_) (fun c1001 => ?_)
  · refine go_iconst (x := (0 : Int32)) d11_10 (by decide) ?_
    refine go_istore d11_11 (l' := #[.val (.int p0), .val (.int p1), .val (.int p2), .val (.int p3), .val (.int p4), .val (.int (0 : Int32)), .unset, .unset, .unset, .unset, .unset]) rfl ?_
    refine go_iload d11_13 rfl ?_
    refine go_ifeq d11_15 (fun c1002 => ?_) (fun c1002 => absurd (rfl) c1002)
    refine go_gets (hw _ (List.mem_of_getElem? (i := 0) rfl)) Via.refl OA d11_24 ?_
    refine go_astore d11_27 rfl (l' := #[.val (.int p0), .val (.int p1), .val (.int p2), .val (.int p3), .val (.int p4), .val (.int (0 : Int32)), .val (.ref ac), .unset, .unset, .unset, .unset]) rfl ?_
    refine go_null d11_29 ?_
    refine go_astore d11_30 rfl (l' := #[.val (.int p0), .val (.int p1), .val (.int p2), .val (.int p3), .val (.int p4), .val (.int (0 : Int32)), .val (.ref ac), .val (.null), .unset, .unset, .unset]) rfl ?_
    refine go_iload d11_32 rfl ?_
    refine go_ifeq d11_34 (fun c1003 => ?_) (fun c1003 => absurd (rfl) c1003)
    refine go_iloadN d11_91 rfl ?_
    refine go_iconst (x := (4 : Int32)) d11_92 (by decide) ?_
    refine go_iand d11_93 rfl ?_
    refine go_iloadN d11_94 rfl ?_
    refine go_static (R := room_1) (kc := 30) (ks := 1147) [.int (p0 &&& (4 : Int32)), .int p2] [] (c_drawn l Z a0 hw hEL (p0 &&& (4 : Int32)) p2 (fun _ => False) Z.heap (by omega) zc Oc Pc) (hw _ (List.mem_of_getElem? (i := 3) rfl)) (hw _ (List.mem_of_getElem? (i := 4) rfl)) (hw _ (List.mem_of_getElem? (i := 6) rfl)) (hw _ (List.mem_of_getElem? (i := 5) rfl)) (by decide) rfl rfl (lenOf pd8 rfl) d11_95 (by rfl) (by decide) (Nat.le_of_ble_eq_true rfl) (rc := 2) (rs := 5) rfl rfl (fun S1004 v1004 h1004 m1004 z1004 q1004 => ?_)
    obtain ⟨u1004, rfl, r1004, K1004⟩ := q1004
    show Go _ _ _ _ _ _ _ _ _ _ _ _ _ _ _ _ _ (mkF K.m 98 #[.val (.int p0), .val (.int p1), .val (.int p2), .val (.int p3), .val (.int p4), .val (.int (0 : Int32)), .val (.ref ac), .val (.null), .unset, .unset, .unset] [u1004])
    refine go_astoreS d11_98 rfl r1004 (Or.inl rfl) (l' := #[.val (.int p0), .val (.int p1), .val (.int p2), .val (.int p3), .val (.int p4), .val (.int (0 : Int32)), .val (.ref ac), .val (.null), .val (u1004), .unset, .unset]) rfl ?_
    refine go_iloadN d11_100 rfl ?_
    refine go_bipush (x := (8 : Int32)) d11_101 (by decide) ?_
    refine go_iand d11_103 rfl ?_
    refine go_iloadN d11_104 rfl ?_
    refine go_static (R := room_1) (kc := 28) (ks := 1142) [.int (p0 &&& (8 : Int32)), .int p3] [] (c_drawn l Z a0 hw hEL (p0 &&& (8 : Int32)) p3 S1004 h1004 (by omega) zc Oc Pc) (hw _ (List.mem_of_getElem? (i := 3) rfl)) (hw _ (List.mem_of_getElem? (i := 4) rfl)) (hw _ (List.mem_of_getElem? (i := 6) rfl)) (hw _ (List.mem_of_getElem? (i := 5) rfl)) (by decide) rfl rfl (lenOf pd8 rfl) d11_105 (by rfl) (by decide) (Nat.le_of_ble_eq_true rfl) (rc := 2) (rs := 5) rfl rfl (fun S1005 v1005 h1005 m1005 z1005 q1005 => ?_)
    obtain ⟨u1005, rfl, r1005, K1005⟩ := q1005
    show Go _ _ _ _ _ _ _ _ _ _ _ _ _ _ _ _ _ (mkF K.m 108 #[.val (.int p0), .val (.int p1), .val (.int p2), .val (.int p3), .val (.int p4), .val (.int (0 : Int32)), .val (.ref ac), .val (.null), .val (u1004), .unset, .unset] [u1005])
    refine go_astoreS d11_108 rfl r1005 (Or.inl rfl) (l' := #[.val (.int p0), .val (.int p1), .val (.int p2), .val (.int p3), .val (.int p4), .val (.int (0 : Int32)), .val (.ref ac), .val (.null), .val (u1004), .val (u1005), .unset]) rfl ?_
    refine go_iloadN d11_110 rfl ?_
    refine go_bipush (x := (16 : Int32)) d11_111 (by decide) ?_
    refine go_iand d11_113 rfl ?_
    refine go_iload d11_114 rfl ?_
    refine go_static (R := room_1) (kc := 26) (ks := 1137) [.int (p0 &&& (16 : Int32)), .int p4] [] (c_drawn l Z a0 hw hEL (p0 &&& (16 : Int32)) p4 S1005 h1005 (by omega) zc Oc Pc) (hw _ (List.mem_of_getElem? (i := 3) rfl)) (hw _ (List.mem_of_getElem? (i := 4) rfl)) (hw _ (List.mem_of_getElem? (i := 6) rfl)) (hw _ (List.mem_of_getElem? (i := 5) rfl)) (by decide) rfl rfl (lenOf pd8 rfl) d11_116 (by rfl) (by decide) (Nat.le_of_ble_eq_true rfl) (rc := 2) (rs := 5) rfl rfl (fun S1006 v1006 h1006 m1006 z1006 q1006 => ?_)
    obtain ⟨u1006, rfl, r1006, K1006⟩ := q1006
    show Go _ _ _ _ _ _ _ _ _ _ _ _ _ _ _ _ _ (mkF K.m 119 #[.val (.int p0), .val (.int p1), .val (.int p2), .val (.int p3), .val (.int p4), .val (.int (0 : Int32)), .val (.ref ac), .val (.null), .val (u1004), .val (u1005), .unset] [u1006])
    refine go_astoreS d11_119 rfl r1006 (Or.inl rfl) (l' := #[.val (.int p0), .val (.int p1), .val (.int p2), .val (.int p3), .val (.int p4), .val (.int (0 : Int32)), .val (.ref ac), .val (.null), .val (u1004), .val (u1005), .val (u1006)]) rfl ?_
    refine go_aload d11_121 rfl rfl ?_
    refine go_aload d11_123 rfl rfl ?_
    refine go_aload d11_125 rfl r1004 ?_
    refine go_aload d11_127 rfl r1005 ?_
    refine go_aload d11_129 rfl r1006 ?_
    have f1008 := (((EA.keep K1004).keep K1005).keep K1006)
    refine go_virtual (R := room_1) (kc := 26) (ks := 1137) [.null, u1004, u1005, u1006] [] (c_rfN l Z a0 hw hEL pj OP ac hac u1004 u1005 u1006 r1004 r1005 r1006 S1006 h1006) f1008 (hw _ (List.mem_of_getElem? (i := 7) rfl)) (hw _ (List.mem_of_getElem? (i := 8) rfl)) (hw _ (List.mem_of_getElem? (i := 10) rfl)) (hw _ (List.mem_of_getElem? (i := 9) rfl)) (nfSel (hw _ (List.mem_of_getElem? (i := 10) rfl))) (hw _ (List.mem_of_getElem? (i := 11) rfl)) (hw _ (List.mem_of_getElem? (i := 1) rfl)) (by decide) rfl rfl (lenOf pd9 rfl) d11_131 (by rfl) (by decide) (Nat.le_of_ble_eq_true rfl) (rc := 0) (rs := 0) rfl rfl (fun S1007 v1007 h1007 m1007 z1007 q1007 => ?_)
    obtain ⟨rfl, rfl⟩ := q1007
    show Go _ _ _ _ _ _ _ _ _ _ _ _ _ _ _ _ _ (mkF K.m 134 #[.val (.int p0), .val (.int p1), .val (.int p2), .val (.int p3), .val (.int p4), .val (.int (0 : Int32)), .val (.ref ac), .val (.null), .val (u1004), .val (u1005), .val (u1006)] [])
    refine go_iconst (x := (1 : Int32)) d11_134 (by decide) ?_
    exact go_ireturn (ty := .boolean) (v := (1 : Int32)) d11_135 rfl (by simp) rfl rfl
  · refine go_iconst (x := (1 : Int32)) d11_6 (by decide) ?_
    refine go_goto d11_7 ?_
    refine go_istore d11_11 (l' := #[.val (.int p0), .val (.int p1), .val (.int p2), .val (.int p3), .val (.int p4), .val (.int (1 : Int32)), .unset, .unset, .unset, .unset, .unset]) rfl ?_
    refine go_iload d11_13 rfl ?_
    refine go_ifeq d11_15 (fun c1009 => absurd c1009 (by decide)) (fun c1009 => ?_)
    refine go_gets (hw _ (List.mem_of_getElem? (i := 14) rfl)) Via.refl OP d11_18 ?_
    refine go_goto d11_21 ?_
    refine go_astore d11_27 rfl (l' := #[.val (.int p0), .val (.int p1), .val (.int p2), .val (.int p3), .val (.int p4), .val (.int (1 : Int32)), .val (.ref pj), .unset, .unset, .unset, .unset]) rfl ?_
    refine go_null d11_29 ?_
    refine go_astore d11_30 rfl (l' := #[.val (.int p0), .val (.int p1), .val (.int p2), .val (.int p3), .val (.int p4), .val (.int (1 : Int32)), .val (.ref pj), .val (.null), .unset, .unset, .unset]) rfl ?_
    refine go_iload d11_32 rfl ?_
    refine go_ifeq d11_34 (fun c1010 => absurd c1010 (by decide)) (fun c1010 => ?_)
    refine go_iloadN d11_37 rfl ?_
    refine go_iconst (x := (2 : Int32)) d11_38 (by decide) ?_
    refine go_iand d11_39 rfl ?_
    refine go_ifeq d11_40 (fun c1011 => ?_) (fun c1011 => ?_)
    · refine go_new (kc := 31) (ks := 1148) (hw _ (List.mem_of_getElem? (i := 15) rfl)) (hw _ (List.mem_of_getElem? (i := 16) rfl)) (hw _ (List.mem_of_getElem? (i := 17) rfl)) d11_79 (fun S1012 h1012 a1012 e1012 m1012 s1012 x1012 l1012 p1012 => ?_)
      have z1012 := x1012.1
      refine go_dup d11_82 rfl ?_
      refine go_iconst (x := (0 : Int32)) d11_83 (by decide) ?_
      refine go_newarr (kc := 30) (ks := 1148) (N := 0) (cap := 0) (hw _ (List.mem_of_getElem? (i := 18) rfl)) rfl (Nat.le_refl _) (by decide) rfl rfl d11_84 (fun S1013 h1013 a1013 e1013 m1013 s1013 x1013 l1013 A1013 => ?_)
      have z1013 := x1013.1
      have A1013 : AI Z h1013 a1013 .char (List.replicate 0 0) := A1013
      have f1014 := (p1012.1.ext x1013)
      have f1015 := ((p1012.2 (Or.inr (hw _ (List.mem_of_getElem? (i := 44) rfl))) (ty := (.array .byte)) (by decide)).ext x1013)
      have f1016 := ((p1012.2 (Or.inr (hw _ (List.mem_of_getElem? (i := 42) rfl))) (ty := .byte) (by decide)).ext x1013)
      refine go_special (R := room_1) (kc := 26) (ks := 1140) [.ref a1013] [.ref a1012] (c_ini1E l Z a0 hw hEL a1013 [] S1013 h1013 (by omega) a1012 f1014 _ _ f1015 f1016 (by omega) (m1013 _ s1012) A1013 rfl) (hw _ (List.mem_of_getElem? (i := 19) rfl)) (hw _ (List.mem_of_getElem? (i := 20) rfl)) (hw _ (List.mem_of_getElem? (i := 21) rfl)) (hw _ (List.mem_of_getElem? (i := 17) rfl)) rfl (by decide) rfl rfl (lenOf pd10 rfl) d11_86 (by rfl) (by decide) (Nat.le_of_ble_eq_true rfl) (rc := 4) (rs := 8) rfl rfl (fun S1017 v1017 h1017 m1017 z1017 q1017 => ?_)
      obtain ⟨rfl, K1017, E1017, C1017, b1017, V1017, A1017, g1017, n1017⟩ := q1017
      have lb1017 := lt_nat A1017.lt
      show Go _ _ _ _ _ _ _ _ _ _ _ _ _ _ _ _ _ (mkF K.m 89 #[.val (.int p0), .val (.int p1), .val (.int p2), .val (.int p3), .val (.int p4), .val (.int (1 : Int32)), .val (.ref pj), .val (.null), .unset, .unset, .unset] [.ref a1012])
      refine go_astore d11_89 rfl (l' := #[.val (.int p0), .val (.int p1), .val (.int p2), .val (.int p3), .val (.int p4), .val (.int (1 : Int32)), .val (.ref pj), .val (.ref a1012), .unset, .unset, .unset]) rfl ?_
      refine go_iloadN d11_91 rfl ?_
      refine go_iconst (x := (4 : Int32)) d11_92 (by decide) ?_
      refine go_iand d11_93 rfl ?_
      refine go_iloadN d11_94 rfl ?_
      refine go_static (R := room_1) (kc := 24) (ks := 1135) [.int (p0 &&& (4 : Int32)), .int p2] [] (c_drawn l Z a0 hw hEL (p0 &&& (4 : Int32)) p2 S1017 h1017 (by omega) zc Oc Pc) (hw _ (List.mem_of_getElem? (i := 3) rfl)) (hw _ (List.mem_of_getElem? (i := 4) rfl)) (hw _ (List.mem_of_getElem? (i := 6) rfl)) (hw _ (List.mem_of_getElem? (i := 5) rfl)) (by decide) rfl rfl (lenOf pd8 rfl) d11_95 (by rfl) (by decide) (Nat.le_of_ble_eq_true rfl) (rc := 2) (rs := 5) rfl rfl (fun S1018 v1018 h1018 m1018 z1018 q1018 => ?_)
      obtain ⟨u1018, rfl, r1018, K1018⟩ := q1018
      show Go _ _ _ _ _ _ _ _ _ _ _ _ _ _ _ _ _ (mkF K.m 98 #[.val (.int p0), .val (.int p1), .val (.int p2), .val (.int p3), .val (.int p4), .val (.int (1 : Int32)), .val (.ref pj), .val (.ref a1012), .unset, .unset, .unset] [u1018])
      refine go_astoreS d11_98 rfl r1018 (Or.inl rfl) (l' := #[.val (.int p0), .val (.int p1), .val (.int p2), .val (.int p3), .val (.int p4), .val (.int (1 : Int32)), .val (.ref pj), .val (.ref a1012), .val (u1018), .unset, .unset]) rfl ?_
      refine go_iloadN d11_100 rfl ?_
      refine go_bipush (x := (8 : Int32)) d11_101 (by decide) ?_
      refine go_iand d11_103 rfl ?_
      refine go_iloadN d11_104 rfl ?_
      refine go_static (R := room_1) (kc := 22) (ks := 1130) [.int (p0 &&& (8 : Int32)), .int p3] [] (c_drawn l Z a0 hw hEL (p0 &&& (8 : Int32)) p3 S1018 h1018 (by omega) zc Oc Pc) (hw _ (List.mem_of_getElem? (i := 3) rfl)) (hw _ (List.mem_of_getElem? (i := 4) rfl)) (hw _ (List.mem_of_getElem? (i := 6) rfl)) (hw _ (List.mem_of_getElem? (i := 5) rfl)) (by decide) rfl rfl (lenOf pd8 rfl) d11_105 (by rfl) (by decide) (Nat.le_of_ble_eq_true rfl) (rc := 2) (rs := 5) rfl rfl (fun S1019 v1019 h1019 m1019 z1019 q1019 => ?_)
      obtain ⟨u1019, rfl, r1019, K1019⟩ := q1019
      show Go _ _ _ _ _ _ _ _ _ _ _ _ _ _ _ _ _ (mkF K.m 108 #[.val (.int p0), .val (.int p1), .val (.int p2), .val (.int p3), .val (.int p4), .val (.int (1 : Int32)), .val (.ref pj), .val (.ref a1012), .val (u1018), .unset, .unset] [u1019])
      refine go_astoreS d11_108 rfl r1019 (Or.inl rfl) (l' := #[.val (.int p0), .val (.int p1), .val (.int p2), .val (.int p3), .val (.int p4), .val (.int (1 : Int32)), .val (.ref pj), .val (.ref a1012), .val (u1018), .val (u1019), .unset]) rfl ?_
      refine go_iloadN d11_110 rfl ?_
      refine go_bipush (x := (16 : Int32)) d11_111 (by decide) ?_
      refine go_iand d11_113 rfl ?_
      refine go_iload d11_114 rfl ?_
      refine go_static (R := room_1) (kc := 20) (ks := 1125) [.int (p0 &&& (16 : Int32)), .int p4] [] (c_drawn l Z a0 hw hEL (p0 &&& (16 : Int32)) p4 S1019 h1019 (by omega) zc Oc Pc) (hw _ (List.mem_of_getElem? (i := 3) rfl)) (hw _ (List.mem_of_getElem? (i := 4) rfl)) (hw _ (List.mem_of_getElem? (i := 6) rfl)) (hw _ (List.mem_of_getElem? (i := 5) rfl)) (by decide) rfl rfl (lenOf pd8 rfl) d11_116 (by rfl) (by decide) (Nat.le_of_ble_eq_true rfl) (rc := 2) (rs := 5) rfl rfl (fun S1020 v1020 h1020 m1020 z1020 q1020 => ?_)
      obtain ⟨u1020, rfl, r1020, K1020⟩ := q1020
      show Go _ _ _ _ _ _ _ _ _ _ _ _ _ _ _ _ _ (mkF K.m 119 #[.val (.int p0), .val (.int p1), .val (.int p2), .val (.int p3), .val (.int p4), .val (.int (1 : Int32)), .val (.ref pj), .val (.ref a1012), .val (u1018), .val (u1019), .unset] [u1020])
      refine go_astoreS d11_119 rfl r1020 (Or.inl rfl) (l' := #[.val (.int p0), .val (.int p1), .val (.int p2), .val (.int p3), .val (.int p4), .val (.int (1 : Int32)), .val (.ref pj), .val (.ref a1012), .val (u1018), .val (u1019), .val (u1020)]) rfl ?_
      refine go_aload d11_121 rfl rfl ?_
      refine go_aload d11_123 rfl rfl ?_
      refine go_aload d11_125 rfl r1018 ?_
      refine go_aload d11_127 rfl r1019 ?_
      refine go_aload d11_129 rfl r1020 ?_
      have f1022 := ((((((EP.ext x1012).ext x1013).keep K1017).keep K1018).keep K1019).keep K1020)
      refine go_virtual (R := room_1) (kc := 20) (ks := 1125) [.ref a1012, u1018, u1019, u1020] [] (c_rfR l Z a0 hw hEL pj OP a1012 u1018 u1019 u1020 r1018 r1019 r1020 S1020 h1020) f1022 (hw _ (List.mem_of_getElem? (i := 7) rfl)) (hw _ (List.mem_of_getElem? (i := 8) rfl)) (hw _ (List.mem_of_getElem? (i := 10) rfl)) (hw _ (List.mem_of_getElem? (i := 9) rfl)) (nfSel (hw _ (List.mem_of_getElem? (i := 10) rfl))) (hw _ (List.mem_of_getElem? (i := 11) rfl)) (hw _ (List.mem_of_getElem? (i := 1) rfl)) (by decide) rfl rfl (lenOf pd9 rfl) d11_131 (by rfl) (by decide) (Nat.le_of_ble_eq_true rfl) (rc := 0) (rs := 0) rfl rfl (fun S1021 v1021 h1021 m1021 z1021 q1021 => ?_)
      obtain ⟨rfl, rfl⟩ := q1021
      show Go _ _ _ _ _ _ _ _ _ _ _ _ _ _ _ _ _ (mkF K.m 134 #[.val (.int p0), .val (.int p1), .val (.int p2), .val (.int p3), .val (.int p4), .val (.int (1 : Int32)), .val (.ref pj), .val (.ref a1012), .val (u1018), .val (u1019), .val (u1020)] [])
      refine go_iconst (x := (1 : Int32)) d11_134 (by decide) ?_
      exact go_ireturn (ty := .boolean) (v := (1 : Int32)) d11_135 rfl (by simp) rfl rfl
    · refine go_new (kc := 31) (ks := 1148) (hw _ (List.mem_of_getElem? (i := 15) rfl)) (hw _ (List.mem_of_getElem? (i := 16) rfl)) (hw _ (List.mem_of_getElem? (i := 17) rfl)) d11_43 (fun S1023 h1023 a1023 e1023 m1023 s1023 x1023 l1023 p1023 => ?_)
      have z1023 := x1023.1
      refine go_dup d11_46 rfl ?_
      refine go_iconst (x := (2 : Int32)) d11_47 (by decide) ?_
      refine go_newarr (kc := 30) (ks := 1146) (N := 2) (cap := 2) (hw _ (List.mem_of_getElem? (i := 18) rfl)) rfl (Nat.le_refl _) (by decide) rfl rfl d11_48 (fun S1024 h1024 a1024 e1024 m1024 s1024 x1024 l1024 A1024 => ?_)
      have z1024 := x1024.1
      have A1024 : AI Z h1024 a1024 .char (List.replicate 2 0) := A1024
      refine go_dup d11_50 rfl ?_
      refine go_iconst (x := (0 : Int32)) d11_51 (by decide) ?_
      refine go_iloadN d11_52 rfl ?_
      refine go_sipush (x := (255 : Int32)) d11_53 (by decide) ?_
      refine go_iand d11_56 rfl ?_
      refine go_i2c (v := (p1 &&& (255 : Int32))) d11_57 (i2c_mask _) ?_
      refine go_castore (v := (p1 &&& (255 : Int32))) A1024 (by omega) (i := 0) rfl (by simp) (i2c_mask _) d11_58 (fun h1025 K1025 A1025 => ?_)
      have z1025 := K1025.1
      have A1025 : AI Z h1025 a1024 .char ([(p1 &&& (255 : Int32)), 0]) := A1025
      refine go_dup d11_59 rfl ?_
      refine go_iconst (x := (1 : Int32)) d11_60 (by decide) ?_
      refine go_iloadN d11_61 rfl ?_
      refine go_bipush (x := (8 : Int32)) d11_62 (by decide) ?_
      refine go_iushr d11_64 rfl ?_
      refine go_sipush (x := (255 : Int32)) d11_65 (by decide) ?_
      refine go_iand d11_68 rfl ?_
      refine go_i2c (v := (XT.ushr p1 (8 : Int32) &&& (255 : Int32))) d11_69 (i2c_mask _) ?_
      refine go_castore (v := (XT.ushr p1 (8 : Int32) &&& (255 : Int32))) A1025 (by omega) (i := 1) rfl (by simp) (i2c_mask _) d11_70 (fun h1026 K1026 A1026 => ?_)
      have z1026 := K1026.1
      have A1026 : AI Z h1026 a1024 .char ([(p1 &&& (255 : Int32)), (XT.ushr p1 (8 : Int32) &&& (255 : Int32))]) := A1026
      have f1027 := (((p1023.1.ext x1024).keep K1025).keep K1026)
      have f1028 := ((((p1023.2 (Or.inr (hw _ (List.mem_of_getElem? (i := 44) rfl))) (ty := (.array .byte)) (by decide)).ext x1024).keep K1025 (ninS (ne_of (a := a1023) (b := a1024) (by omega)) nin0)).keep K1026 (ninS (ne_of (a := a1023) (b := a1024) (by omega)) nin0))
      have f1029 := ((((p1023.2 (Or.inr (hw _ (List.mem_of_getElem? (i := 42) rfl))) (ty := .byte) (by decide)).ext x1024).keep K1025 (ninS (ne_of (a := a1023) (b := a1024) (by omega)) nin0)).keep K1026 (ninS (ne_of (a := a1023) (b := a1024) (by omega)) nin0))
      refine go_special (R := room_1) (kc := 29) (ks := 1144) [.ref a1024] [.ref a1023] (c_ini1 l Z a0 hw hEL a1024 [(p1 &&& (255 : Int32)), (XT.ushr p1 (8 : Int32) &&& (255 : Int32))] S1024 h1026 (by omega) a1023 f1027 _ _ f1028 f1029 (by omega) (m1024 _ s1023) A1026 (by simp) (by simp) (fa2 (own_and255 _) (own_and255 _)) zc Oc Pc) (hw _ (List.mem_of_getElem? (i := 19) rfl)) (hw _ (List.mem_of_getElem? (i := 20) rfl)) (hw _ (List.mem_of_getElem? (i := 21) rfl)) (hw _ (List.mem_of_getElem? (i := 17) rfl)) rfl (by decide) rfl rfl (lenOf pd10 rfl) d11_71 (by rfl) (by decide) (Nat.le_of_ble_eq_true rfl) (rc := 1) (rs := 2) rfl rfl (fun S1030 v1030 h1030 m1030 z1030 q1030 => ?_)
      obtain ⟨rfl, K1030, E1030, C1030, b1030, V1030, A1030, g1030, n1030⟩ := q1030
      have lb1030 := lt_nat A1030.lt
      show Go _ _ _ _ _ _ _ _ _ _ _ _ _ _ _ _ _ (mkF K.m 74 #[.val (.int p0), .val (.int p1), .val (.int p2), .val (.int p3), .val (.int p4), .val (.int (1 : Int32)), .val (.ref pj), .val (.null), .unset, .unset, .unset] [.ref a1023])
      refine go_astore d11_74 rfl (l' := #[.val (.int p0), .val (.int p1), .val (.int p2), .val (.int p3), .val (.int p4), .val (.int (1 : Int32)), .val (.ref pj), .val (.ref a1023), .unset, .unset, .unset]) rfl ?_
      refine go_goto d11_76 ?_
      refine go_iloadN d11_91 rfl ?_
      refine go_iconst (x := (4 : Int32)) d11_92 (by decide) ?_
      refine go_iand d11_93 rfl ?_
      refine go_iloadN d11_94 rfl ?_
      refine go_static (R := room_1) (kc := 27) (ks := 1139) [.int (p0 &&& (4 : Int32)), .int p2] [] (c_drawn l Z a0 hw hEL (p0 &&& (4 : Int32)) p2 S1030 h1030 (by omega) zc Oc Pc) (hw _ (List.mem_of_getElem? (i := 3) rfl)) (hw _ (List.mem_of_getElem? (i := 4) rfl)) (hw _ (List.mem_of_getElem? (i := 6) rfl)) (hw _ (List.mem_of_getElem? (i := 5) rfl)) (by decide) rfl rfl (lenOf pd8 rfl) d11_95 (by rfl) (by decide) (Nat.le_of_ble_eq_true rfl) (rc := 2) (rs := 5) rfl rfl (fun S1031 v1031 h1031 m1031 z1031 q1031 => ?_)
      obtain ⟨u1031, rfl, r1031, K1031⟩ := q1031
      show Go _ _ _ _ _ _ _ _ _ _ _ _ _ _ _ _ _ (mkF K.m 98 #[.val (.int p0), .val (.int p1), .val (.int p2), .val (.int p3), .val (.int p4), .val (.int (1 : Int32)), .val (.ref pj), .val (.ref a1023), .unset, .unset, .unset] [u1031])
      refine go_astoreS d11_98 rfl r1031 (Or.inl rfl) (l' := #[.val (.int p0), .val (.int p1), .val (.int p2), .val (.int p3), .val (.int p4), .val (.int (1 : Int32)), .val (.ref pj), .val (.ref a1023), .val (u1031), .unset, .unset]) rfl ?_
      refine go_iloadN d11_100 rfl ?_
      refine go_bipush (x := (8 : Int32)) d11_101 (by decide) ?_
      refine go_iand d11_103 rfl ?_
      refine go_iloadN d11_104 rfl ?_
      refine go_static (R := room_1) (kc := 25) (ks := 1134) [.int (p0 &&& (8 : Int32)), .int p3] [] (c_drawn l Z a0 hw hEL (p0 &&& (8 : Int32)) p3 S1031 h1031 (by omega) zc Oc Pc) (hw _ (List.mem_of_getElem? (i := 3) rfl)) (hw _ (List.mem_of_getElem? (i := 4) rfl)) (hw _ (List.mem_of_getElem? (i := 6) rfl)) (hw _ (List.mem_of_getElem? (i := 5) rfl)) (by decide) rfl rfl (lenOf pd8 rfl) d11_105 (by rfl) (by decide) (Nat.le_of_ble_eq_true rfl) (rc := 2) (rs := 5) rfl rfl (fun S1032 v1032 h1032 m1032 z1032 q1032 => ?_)
      obtain ⟨u1032, rfl, r1032, K1032⟩ := q1032
      show Go _ _ _ _ _ _ _ _ _ _ _ _ _ _ _ _ _ (mkF K.m 108 #[.val (.int p0), .val (.int p1), .val (.int p2), .val (.int p3), .val (.int p4), .val (.int (1 : Int32)), .val (.ref pj), .val (.ref a1023), .val (u1031), .unset, .unset] [u1032])
      refine go_astoreS d11_108 rfl r1032 (Or.inl rfl) (l' := #[.val (.int p0), .val (.int p1), .val (.int p2), .val (.int p3), .val (.int p4), .val (.int (1 : Int32)), .val (.ref pj), .val (.ref a1023), .val (u1031), .val (u1032), .unset]) rfl ?_
      refine go_iloadN d11_110 rfl ?_
      refine go_bipush (x := (16 : Int32)) d11_111 (by decide) ?_
      refine go_iand d11_113 rfl ?_
      refine go_iload d11_114 rfl ?_
      refine go_static (R := room_1) (kc := 23) (ks := 1129) [.int (p0 &&& (16 : Int32)), .int p4] [] (c_drawn l Z a0 hw hEL (p0 &&& (16 : Int32)) p4 S1032 h1032 (by omega) zc Oc Pc) (hw _ (List.mem_of_getElem? (i := 3) rfl)) (hw _ (List.mem_of_getElem? (i := 4) rfl)) (hw _ (List.mem_of_getElem? (i := 6) rfl)) (hw _ (List.mem_of_getElem? (i := 5) rfl)) (by decide) rfl rfl (lenOf pd8 rfl) d11_116 (by rfl) (by decide) (Nat.le_of_ble_eq_true rfl) (rc := 2) (rs := 5) rfl rfl (fun S1033 v1033 h1033 m1033 z1033 q1033 => ?_)
      obtain ⟨u1033, rfl, r1033, K1033⟩ := q1033
      show Go _ _ _ _ _ _ _ _ _ _ _ _ _ _ _ _ _ (mkF K.m 119 #[.val (.int p0), .val (.int p1), .val (.int p2), .val (.int p3), .val (.int p4), .val (.int (1 : Int32)), .val (.ref pj), .val (.ref a1023), .val (u1031), .val (u1032), .unset] [u1033])
      refine go_astoreS d11_119 rfl r1033 (Or.inl rfl) (l' := #[.val (.int p0), .val (.int p1), .val (.int p2), .val (.int p3), .val (.int p4), .val (.int (1 : Int32)), .val (.ref pj), .val (.ref a1023), .val (u1031), .val (u1032), .val (u1033)]) rfl ?_
      refine go_aload d11_121 rfl rfl ?_
      refine go_aload d11_123 rfl rfl ?_
      refine go_aload d11_125 rfl r1031 ?_
      refine go_aload d11_127 rfl r1032 ?_
      refine go_aload d11_129 rfl r1033 ?_
      have f1035 := ((((((((EP.ext x1023).ext x1024).keep K1025).keep K1026).keep K1030).keep K1031).keep K1032).keep K1033)
      refine go_virtual (R := room_1) (kc := 23) (ks := 1129) [.ref a1023, u1031, u1032, u1033] [] (c_rfR l Z a0 hw hEL pj OP a1023 u1031 u1032 u1033 r1031 r1032 r1033 S1033 h1033) f1035 (hw _ (List.mem_of_getElem? (i := 7) rfl)) (hw _ (List.mem_of_getElem? (i := 8) rfl)) (hw _ (List.mem_of_getElem? (i := 10) rfl)) (hw _ (List.mem_of_getElem? (i := 9) rfl)) (nfSel (hw _ (List.mem_of_getElem? (i := 10) rfl))) (hw _ (List.mem_of_getElem? (i := 11) rfl)) (hw _ (List.mem_of_getElem? (i := 1) rfl)) (by decide) rfl rfl (lenOf pd9 rfl) d11_131 (by rfl) (by decide) (Nat.le_of_ble_eq_true rfl) (rc := 0) (rs := 0) rfl rfl (fun S1034 v1034 h1034 m1034 z1034 q1034 => ?_)
      obtain ⟨rfl, rfl⟩ := q1034
      show Go _ _ _ _ _ _ _ _ _ _ _ _ _ _ _ _ _ (mkF K.m 134 #[.val (.int p0), .val (.int p1), .val (.int p2), .val (.int p3), .val (.int p4), .val (.int (1 : Int32)), .val (.ref pj), .val (.ref a1023), .val (u1031), .val (u1032), .val (u1033)] [])
      refine go_iconst (x := (1 : Int32)) d11_134 (by decide) ?_
      exact go_ireturn (ty := .boolean) (v := (1 : Int32)) d11_135 rfl (by simp) rfl rfl
set_option maxRecDepth 65536 in
set_option maxHeartbeats 40000000 in
theorem comes_1 {Post : Tables → Env → Array Value → State → Outcome → State → Prop} (hpost : ∀ tb e args s v u, (limb_1_1.after args s (.returned v) u = true ∧ limb_1_2.after args s (.returned v) u = true ∧ True) → ReturnedEndW s (.returned v) u (Jvm.fieldLocs frame_1_writes args s ++ Jvm.arrayLocs frame_1_arrays args s ++ Jvm.staticLocs frame_1_statics s) 32 1152 → Post tb e args s (.returned v) u) :
    ArmFor flags0 classFile x code maxLocals ret World_1 tables_1 room_1 Calls_1 rest_1 Pre_1 Post := by
  intro l hfl _ _ p e ha hc hk s m args below hf hA hF happ hP
  obtain ⟨hcalls, hrest, hpre⟩ := hP
  obtain ⟨-, -, -, hnamed, -, -, -, hat⟩ := (Spec.applies_iff hf).mp happ
  obtain ⟨hg, hn⟩ := and_e (Cond.before_iff.mp (show (Jvm.Cond.and given_1 narrow_1).before args s = true from hpre))
  obtain ⟨g0, r0⟩ := and_e hg
  obtain ⟨g1, r1⟩ := and_e r0
  obtain ⟨g2, r2⟩ := and_e r1
  obtain ⟨g3, r3⟩ := and_e r2
  obtain ⟨g4, r4⟩ := and_e r3
  have g5 := r4
  obtain ⟨w0, w1, w2, w3, w4, rfl⟩ : ∃ w0 w1 w2 w3 w4 : Value, args = #[w0, w1, w2, w3, w4] := by
    have hs : args.size = 5 := by simpa [Cond.value, given_1] using g0
    obtain ⟨L⟩ := args
    match L, hs with
    | [w0, w1, w2, w3, w4], _ => exact ⟨w0, w1, w2, w3, w4, rfl⟩
  have hw := fun d (hd : d ∈ tables_1) => atoms_spec (ws := Jvm.Cond.code x code maxLocals ret :: tables_1) hat d (List.mem_cons_of_mem _ hd)
  have hfit : Fit s := fun {y c} hc i hi => by
    obtain ⟨ha, rfl⟩ := Array.getElem?_eq_some_iff.mp hc
    have q := List.all_eq_true.mp ((Array.all_eq_true_iff_forall_mem.mp hF) _ (Array.getElem_mem ha)) i (List.mem_range.mpr hi)
    simpa [Array.getElem?_eq_getElem hi] using q
  obtain ⟨hsets, hown0⟩ := atoms_of _ (rest_1_c_eq ▸ (show rest_1_c.before _ s = true from hrest))
  obtain ⟨i0, ei0⟩ := is_v g1
  obtain rfl : w0 = (.int i0) := Option.some.inj ei0
  obtain ⟨i1, ei1⟩ := is_v g2
  obtain rfl : w1 = (.int i1) := Option.some.inj ei1
  obtain ⟨i2, ei2⟩ := is_v g3
  obtain rfl : w2 = (.int i2) := Option.some.inj ei2
  obtain ⟨i3, ei3⟩ := is_v g4
  obtain rfl : w3 = (.int i3) := Option.some.inj ei3
  obtain ⟨i4, ei4⟩ := is_v g5
  obtain rfl : w4 = (.int i4) := Option.some.inj ei4
  have hEL : EW s _ own_EL := (EW.cons (text := "") (hw _ (List.mem_of_getElem? (i := 59) rfl)) (by decide) EW.nil)
  have hCH : CHv s own_EL s.vm s.heap := CHv.start hEL (fun p hp => hcalls.1 p hp) (hsets _ (List.mem_of_getElem? (i := 2) rfl)) (hw _ (List.mem_of_getElem? (i := 34) rfl)) (hw _ (List.mem_of_getElem? (i := 16) rfl))
  obtain ⟨zc, ezc⟩ := is_v (Cond.before_iff.mp (hsets _ (List.mem_of_getElem? (i := 1) rfl)))
  have Oc : Sta s s.heap "java/lang/String" "COMPACT_STRINGS" "Z" (.int zc) := Sta.start ezc (Or.inl (hsets _ (List.mem_of_getElem? (i := 0) rfl)))
  have Pc : ¬ (zc = (0 : Int32)) := gotF (Cond.eq_ints ezc (Term.int_eval (0))) (not_v (Cond.before_iff.mp (hsets _ (List.mem_of_getElem? (i := 2) rfl))))
  obtain ⟨nA, n1⟩ := and_e hn
  obtain ⟨nP, n2⟩ := and_e n1
  obtain ⟨oA, oP⟩ := and_e n2
  obtain ⟨ac, vA⟩ := exa_v nA
  obtain ⟨pj, vP⟩ := exa_v nP
  have OA : Sta s s.heap "gatehouse/Scope" "ACCOUNT" "Lgatehouse/Scope;" (.ref ac) := Sta.start vA (Or.inr ⟨(hw _ (List.mem_of_getElem? (i := 1) rfl)), (hw _ (List.mem_of_getElem? (i := 2) rfl))⟩)
  have OP : Sta s s.heap "gatehouse/Scope" "PROJECT" "Lgatehouse/Scope;" (.ref pj) := Sta.start vP (Or.inr ⟨(hw _ (List.mem_of_getElem? (i := 1) rfl)), (hw _ (List.mem_of_getElem? (i := 13) rfl))⟩)
  have F1 := Fld.start ((fld_at vA).symm.trans (own_eqint oA))
  have F2 := Fld.start ((fld_at vP).symm.trans (own_eqint oP))
  have hac : ac ≠ pj := F1.ne F2 (by simp)
  obtain ⟨n, o, h1, h2, h3, _, L, rfl, ⟨⟨S, -, -, -, rfl⟩, N⟩, -, hq⟩ := c_law l s _ hw hEL i0 i1 i2 i3 i4 zc Oc Pc pj ac OP OA (Exa.start vP nP) (Exa.start vA nA) hac p e ha hc hk s m _ below hf ((Spec.applies_iff_loose hf).mp happ).1 ⟨rfl, State.Warmed39.refl s, rfl, hCH, fun _ q => q.elim, ⟨Nat.le_refl _, fun _ _ q => q⟩⟩ trivial
  refine ⟨n, _, h1, h2, h3, hpost _ _ _ _ _ _ ⟨Cond.after_iff.mpr rfl, Cond.after_iff.mpr (eq_i res_at (Term.int_eval (1)) rfl), trivial⟩ ⟨hq.1, hq.2.1, hq.2.2.1, (hq.2.2.2.sift fun y hy => Or.inr (N y hy)).mono (by decide) (by decide)⟩⟩
theorem main_1_1 : Claimed_1_1 := comes_1 fun _ _ _ _ _ _ h hF => ⟨h.1, hF⟩
theorem main_1_2 : Claimed_1_2 := comes_1 fun _ _ _ _ _ _ h hF => ⟨h.2.1, hF⟩
end Jvm.Pilot.@@N@@
namespace Jvm.Pilot.@@N@@
open Jvm Jvm.ClassFile Sem Op Lib Jvm.Free Jvm.Stand Jvm.Pilot.@@N@@.Jvm.D
/-! MADE BY PROGRAM (witnessworld.py) out of the Statement's table words and the real class files: 21 classes; the members and pool entries that the words name. The judged class is class 1, her method 2. -/
namespace start1
open Jvm.ClassFile
def u (s : String) : CpInfo := .utf8 (stringToUtf16 s)
/-- a pool by its gaps: so many unusable entries, then the entry; so many at the end -/
def gap : Nat → List CpInfo → List CpInfo
  | 0, r => r
  | n + 1, r => .unusable :: gap n r
def poolList (es : List (Nat × CpInfo)) (last : Nat) : List CpInfo := es.foldr (fun e r => gap e.1 (e.2 :: r)) (gap last [])
def pool (es : List (Nat × CpInfo)) (last : Nat) : Array CpInfo := ⟨poolList es last⟩
def fileOf (pool : Array CpInfo) (this : Nat) (attrs : Array Attribute := #[]) (ms : Array MethodInfo := #[]) (fl : Nat := 33) (sup : Nat := 0) (ifs : Array Nat := #[]) (fds : Array FieldInfo := #[]) : ClassFile where
  minorVersion := 0
  majorVersion := 65
  constantPool := pool
  accessFlags := fl
  thisClass := this
  superClass := sup
  interfaces := ifs
  fields := fds
  methods := ms
  attributes := attrs
def plain (name : String) (sup : Option ClassId) : Class where
  name := name
  kind := .ordinary
  loader := none
  accessFlags := 33
  super := sup
  interfaces := #[]
  cf := none
  fields := #[]
  methods := #[]
  instanceTypes := #[]
  staticTypes := #[]
  resolved := #[]
  callSites := []
  init := .initialized
  statics := none
  mirror := none

def pool0 : Array CpInfo := pool [(5, u "<init>"), (0, u "()V"), (1, .class_ 10), (1, u "java/lang/Object")] 113

def k0c0 : Code := { maxStack := 0, maxLocals := 1, code := object_method_1_code, exceptionTable := #[], attributes := #[] }
def k0m0 : Method := { name := "<init>", desc := "()V", sig := { parameters := [], returnType := none }, accessFlags := 1, code := some k0c0 }
/-- java/lang/Object -/
def k0 : Class := { plain "java/lang/Object" none with
  accessFlags := 33
  interfaces := #[]
  cf := some (fileOf pool0 8 #[] #[{ accessFlags := 1, nameIndex := 5, descriptorIndex := 6, attributes := #[] }] 33 0 #[] #[])
  fields := #[]
  methods := #[k0m0]
  instanceTypes := #[]
  staticTypes := #[]
  resolved := Array.replicate 124 none
  statics := none }

def pool1 : Array CpInfo := pool [(2, .class_ 4), (1, u "java/lang/Object"), (0, u "<init>"), (0, u "()V"), (0, .methodref 8 9), (0, .class_ 10), (0, .nameAndType 11 12), (0, u "java/lang/String"), (0, u "valueOf"), (0, u "(C)Ljava/lang/String;"), (0, .fieldref 14 15), (0, .class_ 16), (0, .nameAndType 17 18), (0, u "gatehouse/Scope"), (0, u "PROJECT"), (0, u "Lgatehouse/Scope;"), (0, .fieldref 14 20), (0, .nameAndType 21 18), (0, u "ACCOUNT"), (0, .methodref 8 23), (0, .nameAndType 5 24), (0, u "([C)V"), (0, .methodref 26 27), (0, .class_ 28), (0, .nameAndType 29 30), (0, u "gatehouse/ScopeRequireFitsPinLaw"), (0, u "drawn"), (0, u "(II)Ljava/lang/String;"), (0, .methodref 14 32), (0, .nameAndType 33 34), (0, u "requireFits"), (0, u "(Ljava/lang/String;Ljava/lang/String;Ljava/lang/String;Ljava/lang/String;)V"), (3, u "law"), (0, u "(IIIII)Z")] 2

def k1m0 : Method := { name := "<init>", desc := "()V", sig := { parameters := [], returnType := none }, accessFlags := 2, code := none }
def k1c1 : Code := { maxStack := 2, maxLocals := 2, code := method_2_code, exceptionTable := #[], attributes := #[] }
def k1m1 : Method := { name := "drawn", desc := "(II)Ljava/lang/String;", sig := { parameters := [.int, .int], returnType := some (.object "java/lang/String") }, accessFlags := 10, code := some k1c1 }
def k1c2 : Code := { maxStack := 7, maxLocals := 11, code := code, exceptionTable := #[], attributes := #[] }
def k1m2 : Method := { name := "law", desc := "(IIIII)Z", sig := { parameters := [.int, .int, .int, .int, .int], returnType := some .boolean }, accessFlags := 9, code := some k1c2 }
/-- gatehouse/ScopeRequireFitsPinLaw -/
def k1 : Class := { plain "gatehouse/ScopeRequireFitsPinLaw" (some 0) with
  accessFlags := 49
  interfaces := #[]
  cf := some (fileOf pool1 26 #[] #[{ accessFlags := 2, nameIndex := 5, descriptorIndex := 6, attributes := #[] }, { accessFlags := 10, nameIndex := 29, descriptorIndex := 30, attributes := #[] }, { accessFlags := 9, nameIndex := 38, descriptorIndex := 39, attributes := #[] }] 49 2 #[] #[])
  fields := #[]
  methods := #[k1m0, k1m1, k1m2]
  instanceTypes := #[]
  staticTypes := #[]
  resolved := Array.replicate 42 none
  statics := none }

def pool2 : Array CpInfo := pool [(1, .class_ 2), (0, u "java/lang/constant/Constable"), (0, .class_ 4), (0, u "java/lang/Object")] 6

/-- java/lang/constant/Constable -/
def k2 : Class := { plain "java/lang/constant/Constable" (some 0) with
  accessFlags := 1537
  interfaces := #[]
  cf := some (fileOf pool2 1 #[] #[] 1537 3 #[] #[])
  fields := #[]
  methods := #[]
  instanceTypes := #[]
  staticTypes := #[]
  resolved := Array.replicate 11 none
  statics := none }

def pool3 : Array CpInfo := pool [(1, .class_ 2), (0, u "java/lang/Comparable"), (0, .class_ 4), (0, u "java/lang/Object")] 7

/-- java/lang/Comparable -/
def k3 : Class := { plain "java/lang/Comparable" (some 0) with
  accessFlags := 1537
  interfaces := #[]
  cf := some (fileOf pool3 1 #[] #[] 1537 3 #[] #[])
  fields := #[]
  methods := #[]
  instanceTypes := #[]
  staticTypes := #[]
  resolved := Array.replicate 12 none
  statics := none }

def pool4 : Array CpInfo := pool [(1, .class_ 2), (0, u "java/io/Serializable"), (0, .class_ 4), (0, u "java/lang/Object")] 2

/-- java/io/Serializable -/
def k4 : Class := { plain "java/io/Serializable" (some 0) with
  accessFlags := 1537
  interfaces := #[]
  cf := some (fileOf pool4 1 #[] #[] 1537 3 #[] #[])
  fields := #[]
  methods := #[]
  instanceTypes := #[]
  staticTypes := #[]
  resolved := Array.replicate 7 none
  statics := none }

def pool5 : Array CpInfo := pool [(2, .class_ 4), (1, u "java/lang/Enum"), (0, u "name"), (0, u "Ljava/lang/String;"), (2, u "ordinal"), (0, u "I"), (1, .class_ 14), (1, u "java/lang/Object"), (4, u "hash"), (86, .class_ 108), (1, u "java/lang/Enum$EnumDesc"), (2, .class_ 112), (0, u "java/lang/constant/Constable"), (0, .class_ 114), (0, u "java/lang/Comparable"), (0, .class_ 116), (0, u "java/io/Serializable")] 87

/-- java/lang/Enum -/
def k5 : Class := { plain "java/lang/Enum" (some 0) with
  accessFlags := 1057
  interfaces := #[2, 3, 4]
  cf := some (fileOf pool5 2 #[.nestMembers #[106]] #[] 1057 12 #[111, 113, 115] #[{ accessFlags := 18, nameIndex := 5, descriptorIndex := 6, attributes := #[] }, { accessFlags := 18, nameIndex := 9, descriptorIndex := 10, attributes := #[] }, { accessFlags := 2, nameIndex := 19, descriptorIndex := 10, attributes := #[] }])
  fields := #[{ name := "name", type := (.object "java/lang/String"), accessFlags := 18, slot := 0, constantValue := 0 }, { name := "ordinal", type := .int, accessFlags := 18, slot := 1, constantValue := 0 }, { name := "hash", type := .int, accessFlags := 2, slot := 2, constantValue := 0 }]
  methods := #[]
  instanceTypes := #[(.object "java/lang/String"), .int, .int]
  staticTypes := #[]
  resolved := Array.replicate 204 none
  statics := none }

def pool6 : Array CpInfo := pool [(1, .class_ 2), (0, u "gatehouse/Scope"), (2, u "ACCOUNT"), (0, u "Lgatehouse/Scope;"), (0, .fieldref 1 8), (0, .nameAndType 9 6), (0, u "PROJECT"), (2, u "$VALUES"), (0, u "[Lgatehouse/Scope;"), (6, .class_ 22), (1, u "java/lang/Enum"), (56, u "requireFits"), (0, u "(Ljava/lang/String;Ljava/lang/String;Ljava/lang/String;Ljava/lang/String;)V")] 20

def k6c0 : Code := { maxStack := 8, maxLocals := 7, code := prog_44_method_5_code, exceptionTable := #[], attributes := #[] }
def k6m0 : Method := { name := "requireFits", desc := "(Ljava/lang/String;Ljava/lang/String;Ljava/lang/String;Ljava/lang/String;)V", sig := { parameters := [(.object "java/lang/String"), (.object "java/lang/String"), (.object "java/lang/String"), (.object "java/lang/String")], returnType := none }, accessFlags := 0, code := some k6c0 }
/-- gatehouse/Scope -/
def k6 : Class := { plain "gatehouse/Scope" (some 5) with
  accessFlags := 16432
  interfaces := #[]
  cf := some (fileOf pool6 1 #[] #[{ accessFlags := 0, nameIndex := 79, descriptorIndex := 80, attributes := #[] }] 16432 20 #[] #[{ accessFlags := 16409, nameIndex := 5, descriptorIndex := 6, attributes := #[] }, { accessFlags := 16409, nameIndex := 9, descriptorIndex := 6, attributes := #[] }, { accessFlags := 4122, nameIndex := 12, descriptorIndex := 13, attributes := #[] }])
  fields := #[{ name := "ACCOUNT", type := (.object "gatehouse/Scope"), accessFlags := 16409, slot := 0, constantValue := 0 }, { name := "PROJECT", type := (.object "gatehouse/Scope"), accessFlags := 16409, slot := 1, constantValue := 0 }, { name := "$VALUES", type := (.array (.object "gatehouse/Scope")), accessFlags := 4122, slot := 2, constantValue := 0 }]
  methods := #[k6m0]
  instanceTypes := #[(.object "java/lang/String"), .int, .int]
  staticTypes := #[(.object "gatehouse/Scope"), (.object "gatehouse/Scope"), (.array (.object "gatehouse/Scope"))]
  resolved := Array.replicate 101 none
  statics := some 0 }

def pool7 : Array CpInfo := pool [(2, .class_ 4), (1, u "java/lang/CharSequence"), (42, .class_ 48), (0, u "java/lang/CharSequence$1CodePointIterator"), (10, .class_ 60), (0, u "java/lang/CharSequence$1CharIterator"), (5, .class_ 67), (0, u "java/lang/Object")] 63

/-- java/lang/CharSequence -/
def k7 : Class := { plain "java/lang/CharSequence" (some 0) with
  accessFlags := 1537
  interfaces := #[]
  cf := some (fileOf pool7 2 #[.nestMembers #[47, 59]] #[] 1537 66 #[] #[])
  fields := #[]
  methods := #[]
  instanceTypes := #[]
  staticTypes := #[]
  resolved := Array.replicate 131 none
  statics := none }

def pool8 : Array CpInfo := pool [(1, .class_ 2), (0, u "java/lang/constant/ConstantDesc"), (0, .class_ 4), (0, u "java/lang/Object")] 32

/-- java/lang/constant/ConstantDesc -/
def k8 : Class := { plain "java/lang/constant/ConstantDesc" (some 0) with
  accessFlags := 1537
  interfaces := #[]
  cf := some (fileOf pool8 1 #[] #[] 1537 3 #[] #[])
  fields := #[]
  methods := #[]
  instanceTypes := #[]
  staticTypes := #[]
  resolved := Array.replicate 37 none
  statics := none }

def pool9 : Array CpInfo := pool [(1, .methodref 2 3), (0, .class_ 4), (0, .nameAndType 5 6), (0, u "java/lang/Object"), (0, u "<init>"), (0, u "()V"), (0, .string 8), (0, u ""), (0, .fieldref 10 11), (0, .class_ 12), (0, .nameAndType 13 14), (0, u "java/lang/String"), (0, u "value"), (0, u "[B"), (0, .fieldref 10 16), (0, .nameAndType 17 18), (0, u "coder"), (0, u "B"), (2, u "hash"), (0, u "I"), (2, u "hashIsZero"), (0, u "Z"), (0, .methodref 10 28), (0, .nameAndType 5 29), (0, u "([CIILjava/lang/Void;)V"), (8, .fieldref 10 39), (0, .nameAndType 40 26), (0, u "COMPACT_STRINGS"), (1, .class_ 44), (1, u "java/lang/StringUTF16"), (0, u "compress"), (1, .methodref 42 48), (0, .nameAndType 49 50), (0, u "coderFromArrayLen"), (0, u "([BI)B"), (2, u "toBytes"), (53, .class_ 109), (1, u "java/lang/StringLatin1"), (67, .methodref 42 178), (0, .nameAndType 45 179), (0, u "([CII)[B"), (29, .methodref 10 210), (0, .nameAndType 5 211), (0, u "([BB)V"), (157, u "(C)Z"), (205, .class_ 576), (0, u "java/lang/CharSequence"), (22, u "CASE_INSENSITIVE_ORDER"), (0, u "Ljava/util/Comparator;"), (181, u "valueOf"), (0, u "(C)Ljava/lang/String;"), (226, u "([C)V"), (4, .methodref 107 1016), (0, .nameAndType 1017 369), (0, u "canEncode"), (0, .methodref 107 1019), (0, .nameAndType 53 1020), (0, u "(C)[B"), (80, u "serialPersistentFields"), (0, u "[Ljava/io/ObjectStreamField;"), (0, .class_ 1104), (0, u "java/lang/String$CaseInsensitiveComparator"), (1, .class_ 1107), (0, u "java/io/Serializable"), (0, .class_ 1109), (0, u "java/lang/Comparable"), (0, .class_ 1111), (0, u "java/lang/constant/Constable"), (0, .class_ 1113), (0, u "java/lang/constant/ConstantDesc"), (2, u "serialVersionUID"), (0, u "J"), (3, u "REPL"), (0, u "C"), (2, u "LATIN1"), (1, u "UTF16")] 323

def k9m0 : Method := { name := "<init>", desc := "()V", sig := { parameters := [], returnType := none }, accessFlags := 1, code := none }
def k9c1 : Code := { maxStack := 5, maxLocals := 2, code := jdk_42_method_3_code, exceptionTable := #[], attributes := #[] }
def k9m1 : Method := { name := "<init>", desc := "([C)V", sig := { parameters := [(.array .char)], returnType := none }, accessFlags := 1, code := some k9c1 }
def k9c2 : Code := { maxStack := 4, maxLocals := 1, code := jdk_42_method_139_code, exceptionTable := #[], attributes := #[] }
def k9m2 : Method := { name := "valueOf", desc := "(C)Ljava/lang/String;", sig := { parameters := [.char], returnType := some (.object "java/lang/String") }, accessFlags := 9, code := some k9c2 }
def k9c3 : Code := { maxStack := 4, maxLocals := 6, code := jdk_42_method_149_code, exceptionTable := #[], attributes := #[] }
def k9m3 : Method := { name := "<init>", desc := "([CIILjava/lang/Void;)V", sig := { parameters := [(.array .char), .int, .int, (.object "java/lang/Void")], returnType := none }, accessFlags := 2, code := some k9c3 }
def k9c4 : Code := { maxStack := 2, maxLocals := 3, code := jdk_42_method_151_code, exceptionTable := #[], attributes := #[] }
def k9m4 : Method := { name := "<init>", desc := "([BB)V", sig := { parameters := [(.array .byte), .byte], returnType := none }, accessFlags := 0, code := some k9c4 }
/-- java/lang/String -/
def k9 : Class := { plain "java/lang/String" (some 0) with
  accessFlags := 49
  interfaces := #[4, 3, 7, 2, 8]
  cf := some (fileOf pool9 10 #[.nestMembers #[1103]] #[{ accessFlags := 1, nameIndex := 5, descriptorIndex := 6, attributes := #[] }, { accessFlags := 1, nameIndex := 5, descriptorIndex := 1010, attributes := #[] }, { accessFlags := 9, nameIndex := 782, descriptorIndex := 783, attributes := #[] }, { accessFlags := 2, nameIndex := 5, descriptorIndex := 29, attributes := #[] }, { accessFlags := 0, nameIndex := 5, descriptorIndex := 211, attributes := #[] }] 49 2 #[1106, 1108, 575, 1110, 1112] #[{ accessFlags := 18, nameIndex := 13, descriptorIndex := 14, attributes := #[] }, { accessFlags := 18, nameIndex := 17, descriptorIndex := 18, attributes := #[] }, { accessFlags := 2, nameIndex := 21, descriptorIndex := 22, attributes := #[] }, { accessFlags := 2, nameIndex := 25, descriptorIndex := 26, attributes := #[] }, { accessFlags := 26, nameIndex := 1116, descriptorIndex := 1117, attributes := #[] }, { accessFlags := 24, nameIndex := 40, descriptorIndex := 26, attributes := #[] }, { accessFlags := 26, nameIndex := 1101, descriptorIndex := 1102, attributes := #[] }, { accessFlags := 26, nameIndex := 1121, descriptorIndex := 1122, attributes := #[] }, { accessFlags := 25, nameIndex := 599, descriptorIndex := 600, attributes := #[] }, { accessFlags := 24, nameIndex := 1125, descriptorIndex := 18, attributes := #[] }, { accessFlags := 24, nameIndex := 1127, descriptorIndex := 18, attributes := #[] }])
  fields := #[{ name := "value", type := (.array .byte), accessFlags := 18, slot := 0, constantValue := 0 }, { name := "coder", type := .byte, accessFlags := 18, slot := 1, constantValue := 0 }, { name := "hash", type := .int, accessFlags := 2, slot := 2, constantValue := 0 }, { name := "hashIsZero", type := .boolean, accessFlags := 2, slot := 3, constantValue := 0 }, { name := "serialVersionUID", type := .long, accessFlags := 26, slot := 0, constantValue := 0 }, { name := "COMPACT_STRINGS", type := .boolean, accessFlags := 24, slot := 1, constantValue := 0 }, { name := "serialPersistentFields", type := (.array (.object "java/io/ObjectStreamField")), accessFlags := 26, slot := 2, constantValue := 0 }, { name := "REPL", type := .char, accessFlags := 26, slot := 3, constantValue := 0 }, { name := "CASE_INSENSITIVE_ORDER", type := (.object "java/util/Comparator"), accessFlags := 25, slot := 4, constantValue := 0 }, { name := "LATIN1", type := .byte, accessFlags := 24, slot := 5, constantValue := 0 }, { name := "UTF16", type := .byte, accessFlags := 24, slot := 6, constantValue := 0 }]
  methods := #[k9m0, k9m1, k9m2, k9m3, k9m4]
  instanceTypes := #[(.array .byte), .byte, .int, .boolean]
  staticTypes := #[.long, .boolean, (.array (.object "java/io/ObjectStreamField")), .char, (.object "java/util/Comparator"), .byte, .byte]
  resolved := Array.replicate 1451 none
  statics := some 1 }

def pool10 : Array CpInfo := pool [(6, .class_ 8), (1, u "java/lang/Object"), (0, u "<init>"), (0, u "()V"), (1, .class_ 14), (1, u "java/lang/StringUTF16"), (31, u "$assertionsDisabled"), (0, u "Z"), (13, u "HI_BYTE_SHIFT"), (0, u "I"), (2, u "LO_BYTE_SHIFT"), (49, .methodref 12 116), (0, .nameAndType 117 118), (0, u "compress"), (0, u "([CI[BII)I"), (3, u "([CII)[B"), (138, u "coderFromArrayLen"), (0, u "([BI)B"), (106, .class_ 371), (1, u "java/lang/StringUTF16$LinesSpliterator"), (58, u "MAX_LENGTH"), (196, .class_ 628), (0, u "java/lang/StringUTF16$CodePointsSpliterator"), (0, .class_ 630), (0, u "java/lang/StringUTF16$CharsSpliterator")] 4

def k10m0 : Method := { name := "<init>", desc := "()V", sig := { parameters := [], returnType := none }, accessFlags := 0, code := none }
def k10c1 : Code := { maxStack := 2, maxLocals := 2, code := jdk_52_method_15_code, exceptionTable := #[], attributes := #[] }
def k10m1 : Method := { name := "coderFromArrayLen", desc := "([BI)B", sig := { parameters := [(.array .byte), .int], returnType := some .byte }, accessFlags := 8, code := some k10c1 }
def k10c2 : Code := { maxStack := 5, maxLocals := 6, code := jdk_52_method_16_code, exceptionTable := #[], attributes := #[] }
def k10m2 : Method := { name := "compress", desc := "([CII)[B", sig := { parameters := [(.array .char), .int, .int], returnType := some (.array .byte) }, accessFlags := 9, code := some k10c2 }
def k10c3 : Code := { maxStack := 3, maxLocals := 7, code := jdk_52_method_21_code, exceptionTable := #[], attributes := #[] }
def k10m3 : Method := { name := "compress", desc := "([CI[BII)I", sig := { parameters := [(.array .char), .int, (.array .byte), .int, .int], returnType := some .int }, accessFlags := 9, code := some k10c3 }
/-- java/lang/StringUTF16 -/
def k10 : Class := { plain "java/lang/StringUTF16" (some 0) with
  accessFlags := 48
  interfaces := #[]
  cf := some (fileOf pool10 12 #[.nestMembers #[627, 629, 369]] #[{ accessFlags := 0, nameIndex := 9, descriptorIndex := 10, attributes := #[] }, { accessFlags := 8, nameIndex := 261, descriptorIndex := 262, attributes := #[] }, { accessFlags := 9, nameIndex := 117, descriptorIndex := 122, attributes := #[] }, { accessFlags := 9, nameIndex := 117, descriptorIndex := 118, attributes := #[] }] 48 6 #[] #[{ accessFlags := 26, nameIndex := 61, descriptorIndex := 62, attributes := #[] }, { accessFlags := 26, nameIndex := 65, descriptorIndex := 62, attributes := #[] }, { accessFlags := 24, nameIndex := 430, descriptorIndex := 62, attributes := #[] }, { accessFlags := 4120, nameIndex := 46, descriptorIndex := 47, attributes := #[] }])
  fields := #[{ name := "HI_BYTE_SHIFT", type := .int, accessFlags := 26, slot := 0, constantValue := 0 }, { name := "LO_BYTE_SHIFT", type := .int, accessFlags := 26, slot := 1, constantValue := 0 }, { name := "MAX_LENGTH", type := .int, accessFlags := 24, slot := 2, constantValue := 0 }, { name := "$assertionsDisabled", type := .boolean, accessFlags := 4120, slot := 3, constantValue := 0 }]
  methods := #[k10m0, k10m1, k10m2, k10m3]
  instanceTypes := #[]
  staticTypes := #[.int, .int, .int, .boolean]
  resolved := Array.replicate 635 none
  statics := none }

def pool11 : Array CpInfo := pool [(4, .class_ 6), (1, u "java/lang/Object"), (0, u "<init>"), (0, u "()V"), (5, .class_ 16), (1, u "java/lang/StringLatin1"), (73, u "canEncode"), (14, u "(C)Z"), (15, u "$assertionsDisabled"), (0, u "Z"), (98, .class_ 223), (1, u "java/lang/StringLatin1$LinesSpliterator"), (156, u "toBytes"), (1, u "(C)[B"), (7, .class_ 391), (0, u "java/lang/StringLatin1$CharsSpliterator")] 3

def k11m0 : Method := { name := "<init>", desc := "()V", sig := { parameters := [], returnType := none }, accessFlags := 0, code := none }
def k11c1 : Code := { maxStack := 2, maxLocals := 1, code := jdk_43_method_3_code, exceptionTable := #[], attributes := #[] }
def k11m1 : Method := { name := "canEncode", desc := "(C)Z", sig := { parameters := [.char], returnType := some .boolean }, accessFlags := 9, code := some k11c1 }
def k11c2 : Code := { maxStack := 4, maxLocals := 1, code := jdk_43_method_46_code, exceptionTable := #[], attributes := #[] }
def k11m2 : Method := { name := "toBytes", desc := "(C)[B", sig := { parameters := [.char], returnType := some (.array .byte) }, accessFlags := 9, code := some k11c2 }
/-- java/lang/StringLatin1 -/
def k11 : Class := { plain "java/lang/StringLatin1" (some 0) with
  accessFlags := 48
  interfaces := #[]
  cf := some (fileOf pool11 14 #[.nestMembers #[390, 221]] #[{ accessFlags := 0, nameIndex := 7, descriptorIndex := 8, attributes := #[] }, { accessFlags := 9, nameIndex := 90, descriptorIndex := 105, attributes := #[] }, { accessFlags := 9, nameIndex := 380, descriptorIndex := 382, attributes := #[] }] 48 4 #[] #[{ accessFlags := 4120, nameIndex := 121, descriptorIndex := 122, attributes := #[] }])
  fields := #[{ name := "$assertionsDisabled", type := .boolean, accessFlags := 4120, slot := 0, constantValue := 0 }]
  methods := #[k11m0, k11m1, k11m2]
  instanceTypes := #[]
  staticTypes := #[.boolean]
  resolved := Array.replicate 395 none
  statics := none }

def pool12 : Array CpInfo := pool [(2, .class_ 4), (1, u "java/lang/Object"), (0, u "<init>"), (0, u "()V"), (17, .class_ 26), (1, u "jdk/internal/util/Preconditions"), (28, .class_ 56), (0, u "jdk/internal/util/Preconditions$4"), (57, .class_ 115), (0, u "jdk/internal/util/Preconditions$1"), (7, u "SIOOBE_FORMATTER"), (0, u "Ljava/util/function/BiFunction;"), (0, .class_ 126), (0, u "jdk/internal/util/Preconditions$2"), (3, u "AIOOBE_FORMATTER"), (0, .class_ 132), (0, u "jdk/internal/util/Preconditions$3"), (3, u "IOOBE_FORMATTER")] 57

def k12m0 : Method := { name := "<init>", desc := "()V", sig := { parameters := [], returnType := none }, accessFlags := 1, code := none }
/-- jdk/internal/util/Preconditions -/
def k12 : Class := { plain "jdk/internal/util/Preconditions" (some 0) with
  accessFlags := 33
  interfaces := #[]
  cf := some (fileOf pool12 24 #[.nestMembers #[55, 131, 125, 114]] #[{ accessFlags := 1, nameIndex := 5, descriptorIndex := 6, attributes := #[] }] 33 2 #[] #[{ accessFlags := 25, nameIndex := 123, descriptorIndex := 124, attributes := #[] }, { accessFlags := 25, nameIndex := 130, descriptorIndex := 124, attributes := #[] }, { accessFlags := 25, nameIndex := 136, descriptorIndex := 124, attributes := #[] }])
  fields := #[{ name := "SIOOBE_FORMATTER", type := (.object "java/util/function/BiFunction"), accessFlags := 25, slot := 0, constantValue := 0 }, { name := "AIOOBE_FORMATTER", type := (.object "java/util/function/BiFunction"), accessFlags := 25, slot := 1, constantValue := 0 }, { name := "IOOBE_FORMATTER", type := (.object "java/util/function/BiFunction"), accessFlags := 25, slot := 2, constantValue := 0 }]
  methods := #[k12m0]
  instanceTypes := #[]
  staticTypes := #[(.object "java/util/function/BiFunction"), (.object "java/util/function/BiFunction"), (.object "java/util/function/BiFunction")]
  resolved := Array.replicate 194 none
  statics := some 2 }

def pool13 : Array CpInfo := pool [(9, u "<init>"), (6, .class_ 18), (1, u "java/lang/Object"), (0, u "()V"), (1, .class_ 23), (1, u "jdk/internal/util/ArraysSupport"), (0, u "LOG2_ARRAY_LONG_INDEX_SCALE"), (0, u "I"), (2, u "U"), (0, u "Ljdk/internal/misc/Unsafe;"), (8, u "BIG_ENDIAN"), (0, u "Z"), (8, u "LOG2_BYTE_BIT_SIZE"), (4, u "LOG2_ARRAY_INT_INDEX_SCALE"), (54, u "JLA"), (0, u "Ljdk/internal/access/JavaLangAccess;"), (11, u "LOG2_ARRAY_BOOLEAN_INDEX_SCALE"), (9, u "LOG2_ARRAY_BYTE_INDEX_SCALE"), (5, u "LOG2_ARRAY_CHAR_INDEX_SCALE"), (5, u "LOG2_ARRAY_SHORT_INDEX_SCALE"), (18, u "LOG2_ARRAY_FLOAT_INDEX_SCALE"), (24, u "LOG2_ARRAY_DOUBLE_INDEX_SCALE"), (89, u "T_BOOLEAN"), (2, u "T_CHAR"), (1, u "T_FLOAT"), (1, u "T_DOUBLE"), (1, u "T_BYTE"), (1, u "T_SHORT"), (1, u "T_INT"), (1, u "T_LONG"), (1, u "SOFT_MAX_ARRAY_LENGTH")] 83

def k13m0 : Method := { name := "<init>", desc := "()V", sig := { parameters := [], returnType := none }, accessFlags := 2, code := none }
/-- jdk/internal/util/ArraysSupport -/
def k13 : Class := { plain "jdk/internal/util/ArraysSupport" (some 0) with
  accessFlags := 33
  interfaces := #[]
  cf := some (fileOf pool13 21 #[] #[{ accessFlags := 2, nameIndex := 9, descriptorIndex := 19, attributes := #[] }] 33 16 #[] #[{ accessFlags := 24, nameIndex := 28, descriptorIndex := 29, attributes := #[] }, { accessFlags := 26, nameIndex := 38, descriptorIndex := 39, attributes := #[] }, { accessFlags := 25, nameIndex := 121, descriptorIndex := 25, attributes := #[] }, { accessFlags := 25, nameIndex := 131, descriptorIndex := 25, attributes := #[] }, { accessFlags := 25, nameIndex := 137, descriptorIndex := 25, attributes := #[] }, { accessFlags := 25, nameIndex := 143, descriptorIndex := 25, attributes := #[] }, { accessFlags := 25, nameIndex := 53, descriptorIndex := 25, attributes := #[] }, { accessFlags := 25, nameIndex := 24, descriptorIndex := 25, attributes := #[] }, { accessFlags := 25, nameIndex := 162, descriptorIndex := 25, attributes := #[] }, { accessFlags := 25, nameIndex := 187, descriptorIndex := 25, attributes := #[] }, { accessFlags := 26, nameIndex := 48, descriptorIndex := 25, attributes := #[] }, { accessFlags := 25, nameIndex := 277, descriptorIndex := 25, attributes := #[] }, { accessFlags := 25, nameIndex := 280, descriptorIndex := 25, attributes := #[] }, { accessFlags := 25, nameIndex := 282, descriptorIndex := 25, attributes := #[] }, { accessFlags := 25, nameIndex := 284, descriptorIndex := 25, attributes := #[] }, { accessFlags := 25, nameIndex := 286, descriptorIndex := 25, attributes := #[] }, { accessFlags := 25, nameIndex := 288, descriptorIndex := 25, attributes := #[] }, { accessFlags := 25, nameIndex := 290, descriptorIndex := 25, attributes := #[] }, { accessFlags := 25, nameIndex := 292, descriptorIndex := 25, attributes := #[] }, { accessFlags := 26, nameIndex := 108, descriptorIndex := 109, attributes := #[] }, { accessFlags := 25, nameIndex := 294, descriptorIndex := 25, attributes := #[] }])
  fields := #[{ name := "U", type := (.object "jdk/internal/misc/Unsafe"), accessFlags := 24, slot := 0, constantValue := 0 }, { name := "BIG_ENDIAN", type := .boolean, accessFlags := 26, slot := 1, constantValue := 0 }, { name := "LOG2_ARRAY_BOOLEAN_INDEX_SCALE", type := .int, accessFlags := 25, slot := 2, constantValue := 0 }, { name := "LOG2_ARRAY_BYTE_INDEX_SCALE", type := .int, accessFlags := 25, slot := 3, constantValue := 0 }, { name := "LOG2_ARRAY_CHAR_INDEX_SCALE", type := .int, accessFlags := 25, slot := 4, constantValue := 0 }, { name := "LOG2_ARRAY_SHORT_INDEX_SCALE", type := .int, accessFlags := 25, slot := 5, constantValue := 0 }, { name := "LOG2_ARRAY_INT_INDEX_SCALE", type := .int, accessFlags := 25, slot := 6, constantValue := 0 }, { name := "LOG2_ARRAY_LONG_INDEX_SCALE", type := .int, accessFlags := 25, slot := 7, constantValue := 0 }, { name := "LOG2_ARRAY_FLOAT_INDEX_SCALE", type := .int, accessFlags := 25, slot := 8, constantValue := 0 }, { name := "LOG2_ARRAY_DOUBLE_INDEX_SCALE", type := .int, accessFlags := 25, slot := 9, constantValue := 0 }, { name := "LOG2_BYTE_BIT_SIZE", type := .int, accessFlags := 26, slot := 10, constantValue := 0 }, { name := "T_BOOLEAN", type := .int, accessFlags := 25, slot := 11, constantValue := 0 }, { name := "T_CHAR", type := .int, accessFlags := 25, slot := 12, constantValue := 0 }, { name := "T_FLOAT", type := .int, accessFlags := 25, slot := 13, constantValue := 0 }, { name := "T_DOUBLE", type := .int, accessFlags := 25, slot := 14, constantValue := 0 }, { name := "T_BYTE", type := .int, accessFlags := 25, slot := 15, constantValue := 0 }, { name := "T_SHORT", type := .int, accessFlags := 25, slot := 16, constantValue := 0 }, { name := "T_INT", type := .int, accessFlags := 25, slot := 17, constantValue := 0 }, { name := "T_LONG", type := .int, accessFlags := 25, slot := 18, constantValue := 0 }, { name := "JLA", type := (.object "jdk/internal/access/JavaLangAccess"), accessFlags := 26, slot := 19, constantValue := 0 }, { name := "SOFT_MAX_ARRAY_LENGTH", type := .int, accessFlags := 25, slot := 20, constantValue := 0 }]
  methods := #[k13m0]
  instanceTypes := #[]
  staticTypes := #[(.object "jdk/internal/misc/Unsafe"), .boolean, .int, .int, .int, .int, .int, .int, .int, .int, .int, .int, .int, .int, .int, .int, .int, .int, .int, (.object "jdk/internal/access/JavaLangAccess"), .int]
  resolved := Array.replicate 378 none
  statics := none }

def pool14 : Array CpInfo := pool [(1, u "java/lang/Cloneable"), (0, .class_ 1), (0, u "java/lang/Object"), (0, .class_ 3)] 3

/-- java/lang/Cloneable -/
def k14 : Class := { plain "java/lang/Cloneable" (some 0) with
  accessFlags := 1537
  interfaces := #[]
  cf := some (fileOf pool14 2 #[] #[] 1537 4 #[] #[])
  fields := #[]
  methods := #[]
  instanceTypes := #[]
  staticTypes := #[]
  resolved := Array.replicate 8 none
  statics := none }

/-- the primitive byte -/
def k15 : Class := { plain "byte" none with kind := .primitive 'B', accessFlags := 0x411 }
/-- [B -/
def k16 : Class := { plain "[B" (some 0) with kind := .array 15 .byte, interfaces := #[14, 4], accessFlags := 1041 }

/-- the primitive char -/
def k17 : Class := { plain "char" none with kind := .primitive 'C', accessFlags := 0x411 }
/-- [C -/
def k18 : Class := { plain "[C" (some 0) with kind := .array 17 .char, interfaces := #[14, 4], accessFlags := 1041 }

/-- the primitive int -/
def k19 : Class := { plain "int" none with kind := .primitive 'I', accessFlags := 0x411 }
/-- [I -/
def k20 : Class := { plain "[I" (some 0) with kind := .array 19 .int, interfaces := #[14, 4], accessFlags := 1041 }

def heap : Heap := #[{ cls := 6, slots := #[.ref 3, .ref 4, .null], vm := .statics 6 },
  { cls := 9, slots := #[.long 0, .int 1, .null, .int 0, .null, .int 0, .int 0], vm := .statics 9 },
  { cls := 12, slots := #[.null, .null, .null], vm := .statics 12 },
  { cls := 6, slots := #[.null, .int 0, .int 0], vm := .none },
  { cls := 6, slots := #[.null, .int 1, .int 0], vm := .none }]
def classes : Array Class := #[k0, k1, k2, k3, k4, k5, k6, k7, k8, k9, k10, k11, k12, k13, k14, k15, k16, k17, k18, k19, k20]
def interned : List (Array UInt16 × Addr) := []
def slotsUsed : Nat := 19
def theMethod : MethodId := ⟨1, 2⟩
def args0 : Array Value := #[.int 5, .int 5, .int 5, .int 5, .int 5]
def aboutOver (below : List Frame) : State where
  vm := { classes := classes, interned := interned.toArray }
  heap := heap
  slotsUsed := slotsUsed
  threads := #[{ frames := .invoking theMethod args0 :: below }]
def below0 : List Frame := [.native { method := ⟨0, 0⟩, args := #[] }]
def about1 : State := aboutOver below0
def p0 : Program := .bare "" "" ""
def e0 : Env := launch0.env 0 0 0
theorem w_frames : about1.frames = Frame.invoking theMethod args0 :: below0 := rfl
set_option maxRecDepth 65536 in
theorem w_args : argsFit about1.vm theMethod args0 = true := by decide +kernel
set_option maxRecDepth 65536 in
theorem w_heap : heapFits about1 = true := by decide +kernel
set_option maxRecDepth 65536 in
theorem w_runnable : about1.curStatus? = some .runnable := by decide +kernel
set_option maxRecDepth 65536 in
theorem w_alone : about1.alone = true := by decide +kernel
set_option maxRecDepth 65536 in
theorem w_named : about1.methodNamed? x = some theMethod := by decide +kernel
set_option maxRecDepth 65536 in
theorem w_hears : about1.hears theMethod below0 = true := by decide +kernel
set_option maxRecDepth 65536 in
theorem w_ripe : about1.ripe theMethod args0 below0 = true := by decide +kernel
theorem w_running : about1.status = .running := rfl
set_option maxRecDepth 65536 in
theorem w_room : about1.hasRoom e0.platform room_1 = true :=
  launch0.hasRoom_least _ room_1 (by decide +kernel) (by decide +kernel) (by decide +kernel) (by decide +kernel) (by decide +kernel) (by decide +kernel)
theorem allAtoms_all (ts : List Jvm.Cond) (a : Array Jvm.Value) (st : Jvm.State) : (allAtoms ts).before a st = ts.all (fun c => c.before a st) := by
  induction ts with
  | nil => rfl
  | cons c t ih =>
    show (Jvm.Cond.and c (allAtoms t)).before a st = _
    rw [Jvm.Cond.before_and, ih, List.all_cons]
def words1 : List Jvm.Cond := Jvm.Cond.code x code maxLocals ret :: tables_1
/-- a 'code' word, met by the world's own term for the bytes: nothing is compared byte by byte -/
theorem code_word {y : MethodName} {bytes : ByteArray} {mx : Nat} {rt : Option FieldType} {a : Array Value} {s : State} {m : MethodId} {meth : Method} {c : Code} (h1 : s.methodNamed? y = some m) (h2 : s.vm.method? m = some meth) (h3 : meth.code = some c) (h4 : c.code = bytes)
    (h5 : (c.maxLocals == mx && c.exceptionTable.isEmpty && decide (c.maxStack ≤ mostOperands) && decide (meth.sig.returnType = rt) && !meth.locks && decide (parseMethodDescriptor y.desc = some meth.sig)) = true) : (Jvm.Cond.code y bytes mx rt).before a s = true := by
  simp only [Bool.and_eq_true, beq_iff_eq, Bool.not_eq_true', decide_eq_true_eq] at h5
  obtain ⟨⟨⟨⟨⟨g1, g2⟩, g3⟩, g4⟩, g5⟩, g6⟩ := h5
  simp [Cond.before, Cond.holds, Cond.value, h1, h2, h3, h4, g1, g2, g3, g4, g5, g6]
def isCode : Jvm.Cond → Bool
  | .code _ _ _ _ => true
  | _ => false
theorem all_split {L : List Jvm.Cond} {P : Jvm.Cond → Bool} (h1 : L.all (fun c => isCode c || P c) = true) (h2 : ∀ c ∈ L.filter isCode, P c = true) : L.all P = true := by
  refine List.all_eq_true.mpr fun c hc => ?_
  have h := List.all_eq_true.mp h1 c hc
  rcases Bool.eq_false_or_eq_true (isCode c) with hi | hi
  · exact h2 c (List.mem_filter.mpr ⟨hc, hi⟩)
  · simpa [hi] using h
set_option maxRecDepth 65536 in
theorem w_c0 : (Jvm.Cond.code x code maxLocals ret).before args0 about1 = true := code_word (m := ⟨1, 2⟩) (meth := k1m2) (c := k1c2) (by decide +kernel) rfl rfl rfl (by decide +kernel)
set_option maxRecDepth 65536 in
theorem w_c1 : (Jvm.Cond.code ({ cls := "gatehouse/ScopeRequireFitsPinLaw", name := "drawn", desc := "(II)Ljava/lang/String;" } : Jvm.MethodName) method_2_code (2 : Nat) (Option.some (Jvm.ClassFile.FieldType.object "java/lang/String"))).before args0 about1 = true := code_word (m := ⟨1, 1⟩) (meth := k1m1) (c := k1c1) (by decide +kernel) rfl rfl rfl (by decide +kernel)
set_option maxRecDepth 65536 in
theorem w_c2 : (Jvm.Cond.code ({ cls := "gatehouse/Scope", name := "requireFits", desc := "(Ljava/lang/String;Ljava/lang/String;Ljava/lang/String;Ljava/lang/String;)V" } : Jvm.MethodName) prog_44_method_5_code (7 : Nat) (Option.none : Option Jvm.ClassFile.FieldType)).before args0 about1 = true := code_word (m := ⟨6, 0⟩) (meth := k6m0) (c := k6c0) (by decide +kernel) rfl rfl rfl (by decide +kernel)
set_option maxRecDepth 65536 in
theorem w_c3 : (Jvm.Cond.code ({ cls := "java/lang/String", name := "<init>", desc := "([C)V" } : Jvm.MethodName) jdk_42_method_3_code (2 : Nat) (Option.none : Option Jvm.ClassFile.FieldType)).before args0 about1 = true := code_word (m := ⟨9, 1⟩) (meth := k9m1) (c := k9c1) (by decide +kernel) rfl rfl rfl (by decide +kernel)
set_option maxRecDepth 65536 in
theorem w_c4 : (Jvm.Cond.code ({ cls := "java/lang/String", name := "<init>", desc := "([CIILjava/lang/Void;)V" } : Jvm.MethodName) jdk_42_method_149_code (6 : Nat) (Option.none : Option Jvm.ClassFile.FieldType)).before args0 about1 = true := code_word (m := ⟨9, 3⟩) (meth := k9m3) (c := k9c3) (by decide +kernel) rfl rfl rfl (by decide +kernel)
set_option maxRecDepth 65536 in
theorem w_c5 : (Jvm.Cond.code ({ cls := "java/lang/Object", name := "<init>", desc := "()V" } : Jvm.MethodName) object_method_1_code (1 : Nat) (Option.none : Option Jvm.ClassFile.FieldType)).before args0 about1 = true := code_word (m := ⟨0, 0⟩) (meth := k0m0) (c := k0c0) (by decide +kernel) rfl rfl rfl (by decide +kernel)
set_option maxRecDepth 65536 in
theorem w_c6 : (Jvm.Cond.code ({ cls := "java/lang/StringUTF16", name := "compress", desc := "([CII)[B" } : Jvm.MethodName) jdk_52_method_16_code (6 : Nat) (Option.some (Jvm.ClassFile.FieldType.array Jvm.ClassFile.FieldType.byte))).before args0 about1 = true := code_word (m := ⟨10, 2⟩) (meth := k10m2) (c := k10c2) (by decide +kernel) rfl rfl rfl (by decide +kernel)
set_option maxRecDepth 65536 in
theorem w_c7 : (Jvm.Cond.code ({ cls := "java/lang/StringUTF16", name := "compress", desc := "([CI[BII)I" } : Jvm.MethodName) jdk_52_method_21_code (7 : Nat) (Option.some Jvm.ClassFile.FieldType.int)).before args0 about1 = true := code_word (m := ⟨10, 3⟩) (meth := k10m3) (c := k10c3) (by decide +kernel) rfl rfl rfl (by decide +kernel)
set_option maxRecDepth 65536 in
theorem w_c8 : (Jvm.Cond.code ({ cls := "java/lang/StringUTF16", name := "coderFromArrayLen", desc := "([BI)B" } : Jvm.MethodName) jdk_52_method_15_code (2 : Nat) (Option.some Jvm.ClassFile.FieldType.byte)).before args0 about1 = true := code_word (m := ⟨10, 1⟩) (meth := k10m1) (c := k10c1) (by decide +kernel) rfl rfl rfl (by decide +kernel)
set_option maxRecDepth 65536 in
theorem w_c9 : (Jvm.Cond.code ({ cls := "java/lang/String", name := "valueOf", desc := "(C)Ljava/lang/String;" } : Jvm.MethodName) jdk_42_method_139_code (1 : Nat) (Option.some (Jvm.ClassFile.FieldType.object "java/lang/String"))).before args0 about1 = true := code_word (m := ⟨9, 2⟩) (meth := k9m2) (c := k9c2) (by decide +kernel) rfl rfl rfl (by decide +kernel)
set_option maxRecDepth 65536 in
theorem w_c10 : (Jvm.Cond.code ({ cls := "java/lang/StringLatin1", name := "canEncode", desc := "(C)Z" } : Jvm.MethodName) jdk_43_method_3_code (1 : Nat) (Option.some Jvm.ClassFile.FieldType.boolean)).before args0 about1 = true := code_word (m := ⟨11, 1⟩) (meth := k11m1) (c := k11c1) (by decide +kernel) rfl rfl rfl (by decide +kernel)
set_option maxRecDepth 65536 in
theorem w_c11 : (Jvm.Cond.code ({ cls := "java/lang/StringLatin1", name := "toBytes", desc := "(C)[B" } : Jvm.MethodName) jdk_43_method_46_code (1 : Nat) (Option.some (Jvm.ClassFile.FieldType.array Jvm.ClassFile.FieldType.byte))).before args0 about1 = true := code_word (m := ⟨11, 2⟩) (meth := k11m2) (c := k11c2) (by decide +kernel) rfl rfl rfl (by decide +kernel)
set_option maxRecDepth 65536 in
theorem w_c12 : (Jvm.Cond.code ({ cls := "java/lang/String", name := "<init>", desc := "([BB)V" } : Jvm.MethodName) jdk_42_method_151_code (3 : Nat) (Option.none : Option Jvm.ClassFile.FieldType)).before args0 about1 = true := code_word (m := ⟨9, 4⟩) (meth := k9m4) (c := k9c4) (by decide +kernel) rfl rfl rfl (by decide +kernel)
def codes1 : List Jvm.Cond := [Jvm.Cond.code x code maxLocals ret, Jvm.Cond.code ({ cls := "gatehouse/ScopeRequireFitsPinLaw", name := "drawn", desc := "(II)Ljava/lang/String;" } : Jvm.MethodName) method_2_code (2 : Nat) (Option.some (Jvm.ClassFile.FieldType.object "java/lang/String")), Jvm.Cond.code ({ cls := "gatehouse/Scope", name := "requireFits", desc := "(Ljava/lang/String;Ljava/lang/String;Ljava/lang/String;Ljava/lang/String;)V" } : Jvm.MethodName) prog_44_method_5_code (7 : Nat) (Option.none : Option Jvm.ClassFile.FieldType), Jvm.Cond.code ({ cls := "java/lang/String", name := "<init>", desc := "([C)V" } : Jvm.MethodName) jdk_42_method_3_code (2 : Nat) (Option.none : Option Jvm.ClassFile.FieldType), Jvm.Cond.code ({ cls := "java/lang/String", name := "<init>", desc := "([CIILjava/lang/Void;)V" } : Jvm.MethodName) jdk_42_method_149_code (6 : Nat) (Option.none : Option Jvm.ClassFile.FieldType), Jvm.Cond.code ({ cls := "java/lang/Object", name := "<init>", desc := "()V" } : Jvm.MethodName) object_method_1_code (1 : Nat) (Option.none : Option Jvm.ClassFile.FieldType), Jvm.Cond.code ({ cls := "java/lang/StringUTF16", name := "compress", desc := "([CII)[B" } : Jvm.MethodName) jdk_52_method_16_code (6 : Nat) (Option.some (Jvm.ClassFile.FieldType.array Jvm.ClassFile.FieldType.byte)), Jvm.Cond.code ({ cls := "java/lang/StringUTF16", name := "compress", desc := "([CI[BII)I" } : Jvm.MethodName) jdk_52_method_21_code (7 : Nat) (Option.some Jvm.ClassFile.FieldType.int), Jvm.Cond.code ({ cls := "java/lang/StringUTF16", name := "coderFromArrayLen", desc := "([BI)B" } : Jvm.MethodName) jdk_52_method_15_code (2 : Nat) (Option.some Jvm.ClassFile.FieldType.byte), Jvm.Cond.code ({ cls := "java/lang/String", name := "valueOf", desc := "(C)Ljava/lang/String;" } : Jvm.MethodName) jdk_42_method_139_code (1 : Nat) (Option.some (Jvm.ClassFile.FieldType.object "java/lang/String")), Jvm.Cond.code ({ cls := "java/lang/StringLatin1", name := "canEncode", desc := "(C)Z" } : Jvm.MethodName) jdk_43_method_3_code (1 : Nat) (Option.some Jvm.ClassFile.FieldType.boolean), Jvm.Cond.code ({ cls := "java/lang/StringLatin1", name := "toBytes", desc := "(C)[B" } : Jvm.MethodName) jdk_43_method_46_code (1 : Nat) (Option.some (Jvm.ClassFile.FieldType.array Jvm.ClassFile.FieldType.byte)), Jvm.Cond.code ({ cls := "java/lang/String", name := "<init>", desc := "([BB)V" } : Jvm.MethodName) jdk_42_method_151_code (3 : Nat) (Option.none : Option Jvm.ClassFile.FieldType)]
set_option maxRecDepth 65536 in
theorem codes_eq : words1.filter isCode = codes1 := rfl
theorem w_codes : ∀ c ∈ words1.filter isCode, c.before args0 about1 = true := by
  rw [codes_eq]
  intro c hc
  simp only [codes1, List.mem_cons, List.not_mem_nil, or_false] at hc
  rcases hc with rfl | rfl | rfl | rfl | rfl | rfl | rfl | rfl | rfl | rfl | rfl | rfl | rfl
  · exact w_c0
  · exact w_c1
  · exact w_c2
  · exact w_c3
  · exact w_c4
  · exact w_c5
  · exact w_c6
  · exact w_c7
  · exact w_c8
  · exact w_c9
  · exact w_c10
  · exact w_c11
  · exact w_c12
set_option maxRecDepth 65536 in
theorem w_t1 : (words1.take 24).all (fun c => isCode c || c.before args0 about1) = true := by decide +kernel
set_option maxRecDepth 65536 in
theorem w_t2 : ((words1.drop 24).take 24).all (fun c => isCode c || c.before args0 about1) = true := by decide +kernel
set_option maxRecDepth 65536 in
theorem w_t3 : ((words1.drop 24).drop 24).all (fun c => isCode c || c.before args0 about1) = true := by decide +kernel
theorem w_tables : (allAtoms (Jvm.Cond.code x code maxLocals ret :: tables_1)).before args0 about1 = true := by
  rw [allAtoms_all]
  show words1.all (fun c => c.before args0 about1) = true
  refine all_split ?_ w_codes
  rw [← List.take_append_drop 24 words1, List.all_append, w_t1, ← List.take_append_drop 24 (words1.drop 24), List.all_append, w_t2, w_t3]
  rfl
set_option maxRecDepth 65536 in
theorem w_rest : rest_1_c.before args0 about1 = true := by decide +kernel
set_option maxRecDepth 65536 in
theorem w_case : (Jvm.Cond.and given_1 narrow_1).before args0 about1 = true := by decide +kernel
set_option maxRecDepth 65536 in
theorem w_consts : constsHeld consts_1 about1 := Jvm.Lit.constsHeldB_iff.mp (by decide +kernel)
theorem w_applies : (headSpec (Jvm.Cond.code x code maxLocals ret :: tables_1) room_1).applies x e0.platform about1 = true :=
  (Spec.applies_iff w_frames).mpr ⟨w_running, w_runnable, w_alone, w_named, w_hears, w_ripe, w_room, w_tables⟩
theorem atStart : AtStart classFile x code maxLocals ret World_1 tables_1 room_1 Calls_1 rest_1 Pre_1 launch0 p0 e0 about1 theMethod args0 below0 :=
  ⟨lists_1, trivial, launch0.admits_env _ _ _, launch0.least_env, fairChoices_fair.cas, fairChoices_fair.clock, w_frames, w_args, w_heap, w_applies, ⟨w_consts, trivial⟩, w_rest, w_case⟩
end start1
theorem witness_1 : WitnessClaimed_1 := ⟨start1.p0, start1.e0, start1.about1, start1.theMethod, start1.args0, start1.below0, start1.atStart⟩
end Jvm.Pilot.@@N@@
