import JvmDerived
import JvmDerived.Pilot.@@N@@Statement
import JvmDerived.Pilot.@@N@@Code
set_option linter.unusedVariables false
set_option linter.unusedSimpArgs false
namespace Jvm.GoK
open Jvm Jvm.ClassFile Sem Op Lib Jvm.Free Jvm.Stand Jvm.LawKit Jvm.RoadKit Bundle
/-- what an invocation is: program, environment, start, method, arguments, frames below, method record, code -/
abbrev KT : Type := Program × Env × State × MethodId × Array Value × List Frame × Method × Code
abbrev KT.p (K : KT) : Program := K.1
abbrev KT.e (K : KT) : Env := K.2.1
abbrev KT.s (K : KT) : State := K.2.2.1
abbrev KT.m (K : KT) : MethodId := K.2.2.2.1
abbrev KT.args (K : KT) : Array Value := K.2.2.2.2.1
abbrev KT.below (K : KT) : List Frame := K.2.2.2.2.2.1
abbrev KT.meth (K : KT) : Method := K.2.2.2.2.2.2.1
abbrev KT.c (K : KT) : Code := K.2.2.2.2.2.2.2
def Kok (Z : State) (a0 : Array Value) (EL : List (String × Nat)) (bytes : ByteArray) (ml : Nat) (ret : Option FieldType) (nm : String) (K : KT) : Prop :=
  K.p.tables.exec = Jvm.exec ∧ K.c.code = bytes ∧ K.c.maxLocals = ml ∧ K.meth.sig.returnType = ret ∧ K.meth.name = nm ∧ K.meth.locks = false ∧ EW Z a0 EL
/-- the places of S are no booked constant's -/
def Sf (Z : State) (EL : List (String × Nat)) (vm : Vm) (h : Heap) (S : Addr → Prop) : Prop := ∀ x, S x → Safe Z EL vm h x ∧ x < h.size
theorem Sf.step {Z : State} {EL : List (String × Nat)} {vm vm1 : Vm} {h h' : Heap} {S : Addr → Prop} (F : Sf Z EL vm h S) (C : CHr Z EL vm h vm1 h') : Sf Z EL vm1 h' S := fun x hx =>
  ⟨C.safe (F x hx).2 (F x hx).1, Nat.lt_of_lt_of_le (F x hx).2 C.2.1⟩
/-- the walk stands at T with heap h, kc cells and ks slots still to be had -/
def St (l : Launch) (Z : State) (EL : List (String × Nat)) (R : Room) (own : String) (S0 : Addr → Prop) (K : KT) (T : State) (kc ks : Nat) (S : Addr → Prop) (h : Heap) : Prop :=
  ∃ (vm0 : Vm) (k0 : Nat) (locs : List Loc) (cells slots : Nat), Stand K.p l K.e R (K.s.setVm vm0) K.m K.args K.below K.meth K.c T locs cells slots ∧ T.heap = h ∧ K.s.Since vm0 k0 ∧ k0 ≤ h.size ∧ Z.Warmed39 vm0 ∧ vm0.findClass own = some K.m.cls ∧ CHr Z EL K.s.vm K.s.heap vm0 h ∧ Fr Z.heap.size locs ∧ cells + kc ≤ R.cells ∧ slots + ks ≤ R.slots ∧ Sf Z EL vm0 h S ∧ Ext Z.heap h ∧ ∀ x, S0 x → S x
def FinG (Z : State) (EL : List (String × Nat)) (R : Room) (S0 : Addr → Prop) (Q : (Addr → Prop) → Option Value → Heap → Prop) (s t : State) (o : Outcome) : Prop :=
  ∃ v L, o = .returned v ∧ ((∃ S, (∀ x, S0 x → S x) ∧ Sf Z EL t.vm t.heap S ∧ Ext Z.heap t.heap ∧ Q S v t.heap) ∧ Fr Z.heap.size L) ∧ CHr Z EL s.vm s.heap t.vm t.heap ∧ ReturnedEndW s o t L R.cells R.slots
/-- from every such point with the frame f on top the method ends, and Q -/
def Go (l : Launch) (Z : State) (a0 : Array Value) (EL : List (String × Nat)) (R : Room) (own : String) (bytes : ByteArray) (ml : Nat) (ret : Option FieldType) (nm : String) (S0 : Addr → Prop) (Q : (Addr → Prop) → Option Value → Heap → Prop) (K : KT) (kc ks : Nat) (S : Addr → Prop) (h : Heap) (f : JFrame) : Prop :=
  Kok Z a0 EL bytes ml ret nm K → ∀ T, St l Z EL R own S0 K T kc ks S h → ∃ t o, Steps K.p.tables K.e K.below (T.setTop f) t ∧ t.status = .running ∧ Ended t K.below o ∧ FinG Z EL R S0 Q K.s t o
/-- a method's contract -/
def Con (l : Launch) (Z : State) (EL : List (String × Nat)) (ws : List Jvm.Cond) (y : MethodName) (bytes : ByteArray) (ml : Nat) (ret : Option FieldType) (R : Room) (as : Array Value) (S : Addr → Prop) (h : Heap) (Q : (Addr → Prop) → Option Value → Heap → Prop) : Prop :=
  MetFree l y (head1 (Jvm.Cond.code y bytes ml ret :: ws) R) (fun a U => a = as ∧ Z.Warmed39 U.vm ∧ U.heap = h ∧ CHv Z EL U.vm h ∧ Sf Z EL U.vm h S ∧ Ext Z.heap h) (fun _ _ _ _ _ => True) (fun _ U o U' => FinG Z EL R S Q U U' o)
theorem con_of_go {l : Launch} {Z : State} {a0 : Array Value} {EL : List (String × Nat)} {ws : List Jvm.Cond} {y : MethodName} {bytes : ByteArray} {ml : Nat} {ret : Option FieldType} {R : Room} {as : Array Value} {S : Addr → Prop} {h : Heap} {Q : (Addr → Prop) → Option Value → Heap → Prop} {ls : Array Slot}
    (hy : plainFor y = true) (hEL : EW Z a0 EL) (hent : ∀ m, entryFrame m as ml = mkF m 0 ls []) (H : ∀ K : KT, Go l Z a0 EL R y.cls bytes ml ret y.name S Q K R.cells R.slots S h (mkF K.m 0 ls [])) : Con l Z EL ws y bytes ml ret R as S h Q := by
  refine MetFree.of_bodySF hy hisR ?_
  intro p e s m args below meth c s₁ Bd hml0 hP hK
  obtain ⟨rfl, hZ, hh, hC, hSf, hE⟩ := hP
  have X0 : Stand p l e R s m args below meth c s₁ [] 0 0 := Stand.of_body Bd
  have e0 : s₁.heap = h := by rw [← hh, Bd.state]; rfl
  have hown : s.vm.findClass y.cls = some m.cls := findClass_of_methodNamed Bd.named
  have hnm := (name_of_methodNamed Bd.named Bd.method).1
  have hCr : CHr Z EL s.vm s.heap s.vm h := by rw [hh]; exact CHr.refl hC
  obtain ⟨t, o, h1, h2, h3, h4⟩ := H (p, e, s, m, args, below, meth, c) ⟨Bd.exec, Bd.bytes, hml0, Bd.returns, hnm, Bd.notSynchronized, hEL⟩ s₁
    ⟨s.vm, 0, [], 0, 0, X0, e0, (State.WarmedH.refl s).since 0, Nat.zero_le _, hZ, hown, hCr, Fr.nil _, by simp, by simp, hSf, hE, fun _ q => q⟩
  exact ⟨t, o, castTop (hent m) h1, h2, h3, h4⟩
section
variable {l : Launch} {R : Room} {p : Program} {e : Env} {s : State} {args : Array Value} {below : List Frame} {Z : State} {a0 : Array Value} {EL : List (String × Nat)} {h : Heap} {vm0 : Vm}
/-- a callee's contract pays a call -/
theorem backG {y : MethodName} {bytes : ByteArray} {maxL : Nat} {ret : Option FieldType} {rm : Room} {len W : Nat} {as' : Array Value} {S : Addr → Prop} {Q : (Addr → Prop) → Option Value → Heap → Prop}
    (hM : Con l Z EL [] y bytes maxL ret rm as' S h Q)
    (hZ : Z.Warmed39 vm0) (wc : (Cond.code y bytes maxL ret).before a0 Z = true) (wz : (Cond.initialized y.cls).before a0 Z = true) (hf : rm.frames + 1 ≤ R.frames) (hl : W + (maxL + 11) + rm.locals ≤ R.locals) (hEL : EW Z a0 EL) (H : CHv Z EL vm0 h) (hSf : Sf Z EL vm0 h S) (hE : Ext Z.heap h) :
    BackS l R p e below (s.setVm vm0) args y len W (fun A a => a = as' ∧ A.U.heap = h ∧ A.cells + rm.cells ≤ R.cells ∧ A.slots + rm.slots ≤ R.slots)
      (fun A _ v B => ∃ L, ((∃ S', (∀ x, S x → S' x) ∧ Sf Z EL B.U.vm B.U.heap S' ∧ Ext Z.heap B.U.heap ∧ Q S' v B.U.heap) ∧ Fr Z.heap.size L) ∧ B.locs = A.locs ++ L ∧ B.cells = A.cells + rm.cells ∧ B.slots = A.slots + rm.slots ∧ CHr Z EL vm0 h B.U.vm B.U.heap) :=
  BackS.of_freeW (bytes := bytes) (maxL := maxL) (ret := ret) (E := fun _ first o t L k n => k = rm.cells ∧ n = rm.slots ∧ (∃ v, o = .returned v ∧ ((∃ S', (∀ x, S x → S' x) ∧ Sf Z EL t.vm t.heap S' ∧ Ext Z.heap t.heap ∧ Q S' v t.heap) ∧ Fr Z.heap.size L)) ∧ CHr Z EL first.vm first.heap t.vm t.heap) hM hf hl
    (fun m meth c A a Y hp => have hU : Z.Warmed39 A.U.vm := wtrans (s := s.setVm vm0) hZ Y.warmed
      ⟨by show (Cond.and _ .tt).before a A.U = true; rw [Cond.before_and, mv hU wc]; rfl, mv hU wc, mv hU wz, hp.2.2.1, hp.2.2.2⟩)
    (fun m meth c A a g mk Y hp => ⟨hp.1, wtrans (s := s.setVm vm0) hZ Y.warmed, hp.2.1, (CHv.at (T := A.U) Y hZ hEL H).1, hSf.step (CHv.at (T := A.U) Y hZ hEL H), hE⟩) (fun _ _ _ _ _ _ _ _ _ => trivial)
    (fun _ _ _ _ ⟨v, L, h1, h2, h3, h4⟩ => ⟨L, _, _, h4, rfl, rfl, ⟨v, h1, h2⟩, h3⟩)
    (fun m meth c A a g mk v t L k n Y hp _ _ ⟨e1, e2, ⟨v', e3, e4⟩, e5⟩ => by
      cases e3; subst e1 e2
      refine ⟨L, e4, rfl, rfl, rfl, (CHv.at Y hZ hEL H).trans ?_⟩
      rw [← hp.2.1]; exact e5)
end
/-- an instruction, and the place behind it -/
def Dec (bytes : ByteArray) (pc : Nat) (i : Instr) (len n : Nat) : Prop := decode bytes pc = .ok (i, len) ∧ pc + len = n
/-- a branch's instruction, offset, the place behind it and its goal -/
def Brn (bytes : ByteArray) (pc : Nat) (i : Instr) (o : Int) (n t : Nat) : Prop := decode bytes pc = .ok (i, 3) ∧ pc + 3 = n ∧ 0 ≤ (pc : Int) + o ∧ ((pc : Int) + o).toNat = t
section Rules
variable {l : Launch} {Z : State} {a0 : Array Value} {EL : List (String × Nat)} {R : Room} {own : String} {bytes : ByteArray} {ml : Nat} {ret : Option FieldType} {nm : String} {S0 : Addr → Prop} {Q : (Addr → Prop) → Option Value → Heap → Prop} {K : KT} {kc ks : Nat} {S : Addr → Prop} {h : Heap} {f f' : JFrame} {pc n t : Nat} {ls l' : Array Slot} {st : List Value} {x y v : Int32} {u w : Value}
theorem Go.pure (k : Go l Z a0 EL R own bytes ml ret nm S0 Q K kc ks S h f') (H : ∀ T, At T K.m K.c K.below → K.p.tables.exec = Jvm.exec → K.c.code = bytes → ∀ t, Steps K.p.tables K.e K.below (T.setTop f') t → Steps K.p.tables K.e K.below (T.setTop f) t) : Go l Z a0 EL R own bytes ml ret nm S0 Q K kc ks S h f := by
  intro hK T hT
  obtain ⟨t, o, hs, r⟩ := k hK T hT
  obtain ⟨vm0, k0, locs, cells, slots, X, -⟩ := hT
  exact ⟨t, o, H T X.here hK.1 hK.2.1 t hs, r⟩
/-- a step that moves the state alone, the heap as it was -/
theorem Go.calm (k : Go l Z a0 EL R own bytes ml ret nm S0 Q K kc ks S h f')
    (H : ∀ vm0 T locs cells slots, Kok Z a0 EL bytes ml ret nm K → Stand K.p l K.e R (K.s.setVm vm0) K.m K.args K.below K.meth K.c T locs cells slots → Z.Warmed39 (K.s.setVm vm0).vm → (K.s.setVm vm0).vm.findClass own = some K.m.cls → T.heap = h → Ext Z.heap h →
      ∃ T', Stand K.p l K.e R (K.s.setVm vm0) K.m K.args K.below K.meth K.c T' locs cells slots ∧ T'.heap = h ∧ ∀ target, Steps K.p.tables K.e K.below (T'.setTop f') target → Steps K.p.tables K.e K.below (T.setTop f) target) : Go l Z a0 EL R own bytes ml ret nm S0 Q K kc ks S h f := by
  intro hK T hT
  obtain ⟨vm0, k0, locs, cells, slots, X, e1, e2, e3, e4, e5, e6, e7, e8, e9, e10, e11, e12⟩ := hT
  obtain ⟨T', X', e', st'⟩ := H vm0 T locs cells slots hK X e4 e5 e1 e11
  obtain ⟨t, o, hs, r⟩ := k hK T' ⟨vm0, k0, locs, cells, slots, X', e', e2, e3, e4, e5, e6, e7, e8, e9, e10, e11, e12⟩
  exact ⟨t, o, st' _ hs, r⟩
theorem ext_trans {h1 h2 h3 : Heap} (E : Ext h1 h2) (F : Ext h2 h3) : Ext h1 h3 := ⟨Nat.le_trans E.1 F.1, fun a c q => F.2 a c (E.2 a c q)⟩
/-- a step that makes one cell at the heap's end -/
theorem Go.make {na : Nat} {f' : Addr → JFrame} (P : Addr → Heap → Prop) (k : ∀ S' h' a, a = h.size → (∀ x, S x → S' x) → S' a → Ext h h' → a < h'.size → P a h' → Go l Z a0 EL R own bytes ml ret nm S0 Q K kc ks S' h' (f' a) )
    (H : ∀ vm0 T locs cells slots, Kok Z a0 EL bytes ml ret nm K → Stand K.p l K.e R (K.s.setVm vm0) K.m K.args K.below K.meth K.c T locs cells slots → Z.Warmed39 (K.s.setVm vm0).vm → (K.s.setVm vm0).vm.findClass own = some K.m.cls → T.heap = h → cells + 1 ≤ R.cells → slots + na ≤ R.slots →
      ∃ T' h', Stand K.p l K.e R (K.s.setVm vm0) K.m K.args K.below K.meth K.c T' locs (cells + 1) (slots + na) ∧ T'.heap = h' ∧ Ext h h' ∧ h.size < h'.size ∧ P h.size h' ∧ ∀ target, Steps K.p.tables K.e K.below (T'.setTop (f' h.size)) target → Steps K.p.tables K.e K.below (T.setTop f) target) : Go l Z a0 EL R own bytes ml ret nm S0 Q K (kc + 1) (ks + na) S h f := by
  intro hK T hT
  obtain ⟨vm0, k0, locs, cells, slots, X, e1, e2, e3, e4, e5, e6, e7, e8, e9, e10, e11, e12⟩ := hT
  obtain ⟨T', h', X', e', E, hlt, p, st'⟩ := H vm0 T locs cells slots hK X e4 e5 e1 (by omega) (by omega)
  have hCr := e6.trans (CHr.ext E e6.1)
  have hSf : Sf Z EL vm0 h' (fun x => S x ∨ x = h.size) := fun x hx => by
    rcases hx with hx | rfl
    · exact (e10.step (CHr.ext E e6.1)) x hx
    · exact ⟨Safe.ext E e6.1 (Safe.new (Nat.le_refl _)), hlt⟩
  obtain ⟨t, o, hs, r⟩ := k (fun x => S x ∨ x = h.size) h' h.size rfl (fun _ q => Or.inl q) (Or.inr rfl) E hlt p hK T' ⟨vm0, k0, locs, cells + 1, slots + na, X', e', e2, Nat.le_trans e3 E.1, e4, e5, hCr, e7, by omega, by omega, hSf, ext_trans e11 E, fun x q => Or.inl (e12 x q)⟩
  exact ⟨t, o, st' _ hs, r⟩
theorem ext_wr {h' : Heap} {a : Addr} {sl : Nat} {v : Value} (E : Ext Z.heap h) (W : Wr h h' a sl v) (q : Z.heap.size ≤ a) : Ext Z.heap h' := (Old.wr (Z := Z) (n0 := Z.heap.size) ⟨rfl, E⟩ W q).2
/-- a step that writes one place of a cell made since the law began -/
theorem Go.write {a : Addr} {sl : Nat} (ha : Z.heap.size ≤ a) (hsafe : S a ∨ ∀ vm0 : Vm, Z.vm.Alike vm0 → Safe Z EL vm0 h a) (k : ∀ h', Wr h h' a sl w → Keep h h' [a] → Go l Z a0 EL R own bytes ml ret nm S0 Q K kc ks S h' f')
    (H : ∀ vm0 T locs cells slots, Kok Z a0 EL bytes ml ret nm K → Stand K.p l K.e R (K.s.setVm vm0) K.m K.args K.below K.meth K.c T locs cells slots → Z.Warmed39 (K.s.setVm vm0).vm → (K.s.setVm vm0).vm.findClass own = some K.m.cls → T.heap = h →
      ∃ T' h', Stand K.p l K.e R (K.s.setVm vm0) K.m K.args K.below K.meth K.c T' (locs ++ [⟨a, sl⟩]) cells slots ∧ T'.heap = h' ∧ Wr h h' a sl w ∧ ∀ target, Steps K.p.tables K.e K.below (T'.setTop f') target → Steps K.p.tables K.e K.below (T.setTop f) target) : Go l Z a0 EL R own bytes ml ret nm S0 Q K kc ks S h f := by
  intro hK T hT
  obtain ⟨vm0, k0, locs, cells, slots, X, e1, e2, e3, e4, e5, e6, e7, e8, e9, e10, e11, e12⟩ := hT
  obtain ⟨T', h', X', e', W, st'⟩ := H vm0 T locs cells slots hK X e4 e5 e1
  have hsf : Safe Z EL vm0 h a := by
    rcases hsafe with q | q
    · exact (e10 a q).1
    · exact q vm0 e4.alike
  have KW := Keep.of_wr W
  have hC := CHr.keep KW (allS hsf all0) e6.1
  obtain ⟨t, o, hs, r⟩ := k h' W KW hK T' ⟨vm0, k0, _, cells, slots, X', e', e2, Nat.le_trans e3 KW.1, e4, e5, e6.trans hC, Fr.snoc X' e7 ha, e8, e9, e10.step hC, ext_wr e11 W ha, e12⟩
  exact ⟨t, o, st' _ hs, r⟩
theorem go_aloadN {k : Fin 4} (hd : Dec bytes pc (.aload_n k) 1 n) (hl : ls[k.val]? = some (.val u)) (hv : u.isRef = true) (kk : Go l Z a0 EL R own bytes ml ret nm S0 Q K kc ks S h (mkF K.m n ls (u :: st))) : Go l Z a0 EL R own bytes ml ret nm S0 Q K kc ks S h (mkF K.m pc ls (st)) := by
  obtain ⟨hd, rfl⟩ := hd
  exact Go.pure kk fun T hT hx hb0 tgt hr => XS.aloadN hT hx rfl (hb hb0 hd) hl hv hr
theorem go_aload {k : Nat} (hd : Dec bytes pc (.aload k) 2 n) (hl : ls[k]? = some (.val u)) (hv : u.isRef = true) (kk : Go l Z a0 EL R own bytes ml ret nm S0 Q K kc ks S h (mkF K.m n ls (u :: st))) : Go l Z a0 EL R own bytes ml ret nm S0 Q K kc ks S h (mkF K.m pc ls (st)) := by
  obtain ⟨hd, rfl⟩ := hd
  exact Go.pure kk fun T hT hx hb0 tgt hr => XS.aload hT hx rfl (hb hb0 hd) hl hv hr
theorem go_iloadN {k : Fin 4} (hd : Dec bytes pc (.iload_n k) 1 n) (hl : ls[k.val]? = some (.val (.int x))) (kk : Go l Z a0 EL R own bytes ml ret nm S0 Q K kc ks S h (mkF K.m n ls (.int x :: st))) : Go l Z a0 EL R own bytes ml ret nm S0 Q K kc ks S h (mkF K.m pc ls (st)) := by
  obtain ⟨hd, rfl⟩ := hd
  exact Go.pure kk fun T hT hx hb0 tgt hr => XS.iloadN hT hx rfl (hb hb0 hd) hl hr
theorem go_iload {k : Nat} (hd : Dec bytes pc (.iload k) 2 n) (hl : ls[k]? = some (.val (.int x))) (kk : Go l Z a0 EL R own bytes ml ret nm S0 Q K kc ks S h (mkF K.m n ls (.int x :: st))) : Go l Z a0 EL R own bytes ml ret nm S0 Q K kc ks S h (mkF K.m pc ls (st)) := by
  obtain ⟨hd, rfl⟩ := hd
  exact Go.pure kk fun T hT hx hb0 tgt hr => XS.iload hT hx rfl (hb hb0 hd) hl hr
theorem go_lloadN {k : Fin 4} {z : Int64} (hd : Dec bytes pc (.lload_n k) 1 n) (hl : ls[k.val]? = some (.val (.long z))) (kk : Go l Z a0 EL R own bytes ml ret nm S0 Q K kc ks S h (mkF K.m n ls (.long z :: st))) : Go l Z a0 EL R own bytes ml ret nm S0 Q K kc ks S h (mkF K.m pc ls (st)) := by
  obtain ⟨hd, rfl⟩ := hd
  exact Go.pure kk fun T hT hx hb0 tgt hr => XT.lloadN hT hx rfl (hb hb0 hd) hl hr
theorem go_lload {k : Nat} {z : Int64} (hd : Dec bytes pc (.lload k) 2 n) (hl : ls[k]? = some (.val (.long z))) (kk : Go l Z a0 EL R own bytes ml ret nm S0 Q K kc ks S h (mkF K.m n ls (.long z :: st))) : Go l Z a0 EL R own bytes ml ret nm S0 Q K kc ks S h (mkF K.m pc ls (st)) := by
  obtain ⟨hd, rfl⟩ := hd
  exact Go.pure kk fun T hT hx hb0 tgt hr => XT.lload hT hx rfl (hb hb0 hd) hl hr
theorem go_iconst {i : Int} (hd : Dec bytes pc (.iconst i) 1 n) (hv : Int32.ofInt i = x) (kk : Go l Z a0 EL R own bytes ml ret nm S0 Q K kc ks S h (mkF K.m n ls (.int x :: st))) : Go l Z a0 EL R own bytes ml ret nm S0 Q K kc ks S h (mkF K.m pc ls (st)) := by
  obtain ⟨hd, rfl⟩ := hd
  exact Go.pure kk fun T hT hx hb0 tgt hr => XT.iconstV hT hx rfl x (hb hb0 hd) hv hr
theorem go_bipush {i : Int} (hd : Dec bytes pc (.bipush i) 2 n) (hv : (Int8.ofInt i).toInt32 = x) (kk : Go l Z a0 EL R own bytes ml ret nm S0 Q K kc ks S h (mkF K.m n ls (.int x :: st))) : Go l Z a0 EL R own bytes ml ret nm S0 Q K kc ks S h (mkF K.m pc ls (st)) := by
  obtain ⟨hd, rfl⟩ := hd
  exact Go.pure kk fun T hT hx hb0 tgt hr => XT.bipushV hT hx rfl x (hb hb0 hd) hv hr
theorem go_sipush {i : Int} (hd : Dec bytes pc (.sipush i) 3 n) (hv : (Int16.ofInt i).toInt32 = x) (kk : Go l Z a0 EL R own bytes ml ret nm S0 Q K kc ks S h (mkF K.m n ls (.int x :: st))) : Go l Z a0 EL R own bytes ml ret nm S0 Q K kc ks S h (mkF K.m pc ls (st)) := by
  obtain ⟨hd, rfl⟩ := hd
  exact Go.pure kk fun T hT hx hb0 tgt hr => XT.sipushV hT hx rfl x (hb hb0 hd) hv hr
theorem go_lconst {i : Fin 2} {z : Int64} (hd : Dec bytes pc (.lconst i) 1 n) (hv : Int64.ofNat i = z) (kk : Go l Z a0 EL R own bytes ml ret nm S0 Q K kc ks S h (mkF K.m n ls (.long z :: st))) : Go l Z a0 EL R own bytes ml ret nm S0 Q K kc ks S h (mkF K.m pc ls (st)) := by
  obtain ⟨hd, rfl⟩ := hd
  exact Go.pure kk fun T hT hx hb0 tgt hr => XT.lconstV hT hx rfl z (hb hb0 hd) hv hr
theorem go_null (hd : Dec bytes pc (.aconst_null) 1 n) (kk : Go l Z a0 EL R own bytes ml ret nm S0 Q K kc ks S h (mkF K.m n ls (.null :: st))) : Go l Z a0 EL R own bytes ml ret nm S0 Q K kc ks S h (mkF K.m pc ls (st)) := by
  obtain ⟨hd, rfl⟩ := hd
  exact Go.pure kk fun T hT hx hb0 tgt hr => XS.aconstNull hT hx rfl (hb hb0 hd) hr
theorem go_iadd (hd : Dec bytes pc (.iadd) 1 n) (hv : x + y = v) (kk : Go l Z a0 EL R own bytes ml ret nm S0 Q K kc ks S h (mkF K.m n ls (.int v :: st))) : Go l Z a0 EL R own bytes ml ret nm S0 Q K kc ks S h (mkF K.m pc ls (.int y :: .int x :: st)) := by
  obtain ⟨hd, rfl⟩ := hd
  exact Go.pure kk fun T hT hx hb0 tgt hr => XS.iadd hT hx rfl (hb hb0 hd) rfl (by rw [hv]; exact hr)
theorem go_isub (hd : Dec bytes pc (.isub) 1 n) (hv : x - y = v) (kk : Go l Z a0 EL R own bytes ml ret nm S0 Q K kc ks S h (mkF K.m n ls (.int v :: st))) : Go l Z a0 EL R own bytes ml ret nm S0 Q K kc ks S h (mkF K.m pc ls (.int y :: .int x :: st)) := by
  obtain ⟨hd, rfl⟩ := hd
  exact Go.pure kk fun T hT hx hb0 tgt hr => XS.isub hT hx rfl (hb hb0 hd) rfl (by rw [hv]; exact hr)
theorem go_imul (hd : Dec bytes pc (.imul) 1 n) (hv : x * y = v) (kk : Go l Z a0 EL R own bytes ml ret nm S0 Q K kc ks S h (mkF K.m n ls (.int v :: st))) : Go l Z a0 EL R own bytes ml ret nm S0 Q K kc ks S h (mkF K.m pc ls (.int y :: .int x :: st)) := by
  obtain ⟨hd, rfl⟩ := hd
  exact Go.pure kk fun T hT hx hb0 tgt hr => XS.imul hT hx rfl (hb hb0 hd) rfl (by rw [hv]; exact hr)
theorem go_iand (hd : Dec bytes pc (.iand) 1 n) (hv : x &&& y = v) (kk : Go l Z a0 EL R own bytes ml ret nm S0 Q K kc ks S h (mkF K.m n ls (.int v :: st))) : Go l Z a0 EL R own bytes ml ret nm S0 Q K kc ks S h (mkF K.m pc ls (.int y :: .int x :: st)) := by
  obtain ⟨hd, rfl⟩ := hd
  exact Go.pure kk fun T hT hx hb0 tgt hr => XS.iand hT hx rfl (hb hb0 hd) rfl (by rw [hv]; exact hr)
theorem go_ior (hd : Dec bytes pc (.ior) 1 n) (hv : x ||| y = v) (kk : Go l Z a0 EL R own bytes ml ret nm S0 Q K kc ks S h (mkF K.m n ls (.int v :: st))) : Go l Z a0 EL R own bytes ml ret nm S0 Q K kc ks S h (mkF K.m pc ls (.int y :: .int x :: st)) := by
  obtain ⟨hd, rfl⟩ := hd
  exact Go.pure kk fun T hT hx hb0 tgt hr => XT.ior hT hx rfl (hb hb0 hd) rfl (by rw [hv]; exact hr)
theorem go_ixor (hd : Dec bytes pc (.ixor) 1 n) (hv : x ^^^ y = v) (kk : Go l Z a0 EL R own bytes ml ret nm S0 Q K kc ks S h (mkF K.m n ls (.int v :: st))) : Go l Z a0 EL R own bytes ml ret nm S0 Q K kc ks S h (mkF K.m pc ls (.int y :: .int x :: st)) := by
  obtain ⟨hd, rfl⟩ := hd
  exact Go.pure kk fun T hT hx hb0 tgt hr => XT.ixor hT hx rfl (hb hb0 hd) rfl (by rw [hv]; exact hr)
theorem go_ishl (hd : Dec bytes pc (.ishl) 1 n) (hv : x <<< (y &&& 31) = v) (kk : Go l Z a0 EL R own bytes ml ret nm S0 Q K kc ks S h (mkF K.m n ls (.int v :: st))) : Go l Z a0 EL R own bytes ml ret nm S0 Q K kc ks S h (mkF K.m pc ls (.int y :: .int x :: st)) := by
  obtain ⟨hd, rfl⟩ := hd
  exact Go.pure kk fun T hT hx hb0 tgt hr => XT.ishl hT hx rfl (hb hb0 hd) rfl (by rw [hv]; exact hr)
theorem go_ishr (hd : Dec bytes pc (.ishr) 1 n) (hv : x >>> (y &&& 31) = v) (kk : Go l Z a0 EL R own bytes ml ret nm S0 Q K kc ks S h (mkF K.m n ls (.int v :: st))) : Go l Z a0 EL R own bytes ml ret nm S0 Q K kc ks S h (mkF K.m pc ls (.int y :: .int x :: st)) := by
  obtain ⟨hd, rfl⟩ := hd
  exact Go.pure kk fun T hT hx hb0 tgt hr => XT.ishr hT hx rfl (hb hb0 hd) rfl (by rw [hv]; exact hr)
theorem go_iushr (hd : Dec bytes pc (.iushr) 1 n) (hv : XT.ushr x y = v) (kk : Go l Z a0 EL R own bytes ml ret nm S0 Q K kc ks S h (mkF K.m n ls (.int v :: st))) : Go l Z a0 EL R own bytes ml ret nm S0 Q K kc ks S h (mkF K.m pc ls (.int y :: .int x :: st)) := by
  obtain ⟨hd, rfl⟩ := hd
  exact Go.pure kk fun T hT hx hb0 tgt hr => XT.iushr hT hx rfl (hb hb0 hd) rfl (by rw [hv]; exact hr)
theorem go_irem (hd : Dec bytes pc (.irem) 1 n) (hy : y ≠ 0) (hv : x % y = v) (kk : Go l Z a0 EL R own bytes ml ret nm S0 Q K kc ks S h (mkF K.m n ls (.int v :: st))) : Go l Z a0 EL R own bytes ml ret nm S0 Q K kc ks S h (mkF K.m pc ls (.int y :: .int x :: st)) := by
  obtain ⟨hd, rfl⟩ := hd
  exact Go.pure kk fun T hT hx hb0 tgt hr => XS.irem hT hx rfl (hb hb0 hd) rfl hy (by rw [irem_eq_mod, hv]; exact hr)
theorem go_idiv (hd : Dec bytes pc (.idiv) 1 n) (hy : y ≠ 0) (hv : x / y = v) (kk : Go l Z a0 EL R own bytes ml ret nm S0 Q K kc ks S h (mkF K.m n ls (.int v :: st))) : Go l Z a0 EL R own bytes ml ret nm S0 Q K kc ks S h (mkF K.m pc ls (.int y :: .int x :: st)) := by
  obtain ⟨hd, rfl⟩ := hd
  exact Go.pure kk fun T hT hx hb0 tgt hr => XS.idiv hT hx rfl (hb hb0 hd) rfl hy (by rw [hv]; exact hr)
theorem go_ineg (hd : Dec bytes pc (.ineg) 1 n) (hv : -x = v) (kk : Go l Z a0 EL R own bytes ml ret nm S0 Q K kc ks S h (mkF K.m n ls (.int v :: st))) : Go l Z a0 EL R own bytes ml ret nm S0 Q K kc ks S h (mkF K.m pc ls (.int x :: st)) := by
  obtain ⟨hd, rfl⟩ := hd
  exact Go.pure kk fun T hT hx hb0 tgt hr => XS.ineg hT hx rfl (hb hb0 hd) rfl (by rw [hv]; exact hr)
theorem go_i2c (hd : Dec bytes pc (.i2c) 1 n) (hv : x.toUInt32.toUInt16.toUInt32.toInt32 = v) (kk : Go l Z a0 EL R own bytes ml ret nm S0 Q K kc ks S h (mkF K.m n ls (.int v :: st))) : Go l Z a0 EL R own bytes ml ret nm S0 Q K kc ks S h (mkF K.m pc ls (.int x :: st)) := by
  obtain ⟨hd, rfl⟩ := hd
  exact Go.pure kk fun T hT hx hb0 tgt hr => XT.i2c hT hx rfl (hb hb0 hd) rfl (by rw [hv]; exact hr)
theorem go_i2b (hd : Dec bytes pc (.i2b) 1 n) (hv : x.toInt8.toInt32 = v) (kk : Go l Z a0 EL R own bytes ml ret nm S0 Q K kc ks S h (mkF K.m n ls (.int v :: st))) : Go l Z a0 EL R own bytes ml ret nm S0 Q K kc ks S h (mkF K.m pc ls (.int x :: st)) := by
  obtain ⟨hd, rfl⟩ := hd
  exact Go.pure kk fun T hT hx hb0 tgt hr => XT.i2b hT hx rfl (hb hb0 hd) rfl (by rw [hv]; exact hr)
theorem go_i2s (hd : Dec bytes pc (.i2s) 1 n) (hv : x.toInt16.toInt32 = v) (kk : Go l Z a0 EL R own bytes ml ret nm S0 Q K kc ks S h (mkF K.m n ls (.int v :: st))) : Go l Z a0 EL R own bytes ml ret nm S0 Q K kc ks S h (mkF K.m pc ls (.int x :: st)) := by
  obtain ⟨hd, rfl⟩ := hd
  exact Go.pure kk fun T hT hx hb0 tgt hr => XT.i2s hT hx rfl (hb hb0 hd) rfl (by rw [hv]; exact hr)
theorem go_i2l {z : Int64} (hd : Dec bytes pc (.i2l) 1 n) (hv : x.toInt64 = z) (kk : Go l Z a0 EL R own bytes ml ret nm S0 Q K kc ks S h (mkF K.m n ls (.long z :: st))) : Go l Z a0 EL R own bytes ml ret nm S0 Q K kc ks S h (mkF K.m pc ls (.int x :: st)) := by
  obtain ⟨hd, rfl⟩ := hd
  exact Go.pure kk fun T hT hx hb0 tgt hr => XT.i2l hT hx rfl (hb hb0 hd) rfl (by rw [hv]; exact hr)
theorem go_l2i {z : Int64} (hd : Dec bytes pc (.l2i) 1 n) (hv : z.toInt32 = v) (kk : Go l Z a0 EL R own bytes ml ret nm S0 Q K kc ks S h (mkF K.m n ls (.int v :: st))) : Go l Z a0 EL R own bytes ml ret nm S0 Q K kc ks S h (mkF K.m pc ls (.long z :: st)) := by
  obtain ⟨hd, rfl⟩ := hd
  exact Go.pure kk fun T hT hx hb0 tgt hr => XT.l2i hT hx rfl (hb hb0 hd) rfl (by rw [hv]; exact hr)
theorem go_ladd {z1 z2 z : Int64} (hd : Dec bytes pc (.ladd) 1 n) (hv : z1 + z2 = z) (kk : Go l Z a0 EL R own bytes ml ret nm S0 Q K kc ks S h (mkF K.m n ls (.long z :: st))) : Go l Z a0 EL R own bytes ml ret nm S0 Q K kc ks S h (mkF K.m pc ls (.long z2 :: .long z1 :: st)) := by
  obtain ⟨hd, rfl⟩ := hd
  exact Go.pure kk fun T hT hx hb0 tgt hr => XT.ladd hT hx rfl (hb hb0 hd) rfl (by rw [hv]; exact hr)
theorem go_lcmp {z1 z2 : Int64} (hd : Dec bytes pc (.lcmp) 1 n) (hv : XT.cmpL z1 z2 = v) (kk : Go l Z a0 EL R own bytes ml ret nm S0 Q K kc ks S h (mkF K.m n ls (.int v :: st))) : Go l Z a0 EL R own bytes ml ret nm S0 Q K kc ks S h (mkF K.m pc ls (.long z2 :: .long z1 :: st)) := by
  obtain ⟨hd, rfl⟩ := hd
  exact Go.pure kk fun T hT hx hb0 tgt hr => XT.lcmp hT hx rfl (hb hb0 hd) rfl (by rw [hv]; exact hr)
theorem go_dup (hd : Dec bytes pc (.dup) 1 n) (hc : u.category = 1) (kk : Go l Z a0 EL R own bytes ml ret nm S0 Q K kc ks S h (mkF K.m n ls (u :: u :: st))) : Go l Z a0 EL R own bytes ml ret nm S0 Q K kc ks S h (mkF K.m pc ls (u :: st)) := by
  obtain ⟨hd, rfl⟩ := hd
  exact Go.pure kk fun T hT hx hb0 tgt hr => XS.dup hT hx rfl (hb hb0 hd) rfl hc hr
theorem go_pop (hd : Dec bytes pc (.pop) 1 n) (hc : u.category = 1) (kk : Go l Z a0 EL R own bytes ml ret nm S0 Q K kc ks S h (mkF K.m n ls (st))) : Go l Z a0 EL R own bytes ml ret nm S0 Q K kc ks S h (mkF K.m pc ls (u :: st)) := by
  obtain ⟨hd, rfl⟩ := hd
  exact Go.pure kk fun T hT hx hb0 tgt hr => XT.pop hT hx rfl (hb hb0 hd) rfl hc hr
theorem go_dupX1 (hd : Dec bytes pc (.dup_x1) 1 n) (hc : u.category = 1) (hc' : w.category = 1) (kk : Go l Z a0 EL R own bytes ml ret nm S0 Q K kc ks S h (mkF K.m n ls (u :: w :: u :: st))) : Go l Z a0 EL R own bytes ml ret nm S0 Q K kc ks S h (mkF K.m pc ls (u :: w :: st)) := by
  obtain ⟨hd, rfl⟩ := hd
  exact Go.pure kk fun T hT hx hb0 tgt hr => XT.dupX1 hT hx rfl (hb hb0 hd) rfl hc hc' hr
theorem go_dup2 (hd : Dec bytes pc (.dup2) 1 n) (hc : u.category = 1) (hc' : w.category = 1) (kk : Go l Z a0 EL R own bytes ml ret nm S0 Q K kc ks S h (mkF K.m n ls (u :: w :: u :: w :: st))) : Go l Z a0 EL R own bytes ml ret nm S0 Q K kc ks S h (mkF K.m pc ls (u :: w :: st)) := by
  obtain ⟨hd, rfl⟩ := hd
  exact Go.pure kk fun T hT hx hb0 tgt hr => XT.dup2 hT hx rfl (hb hb0 hd) rfl hc hc' hr
theorem go_istoreN {k : Fin 4} (hd : Dec bytes pc (.istore_n k) 1 n) (hl : storeLocals ls k.val (.int x) = some l') (kk : Go l Z a0 EL R own bytes ml ret nm S0 Q K kc ks S h (mkF K.m n l' (st))) : Go l Z a0 EL R own bytes ml ret nm S0 Q K kc ks S h (mkF K.m pc ls (.int x :: st)) := by
  obtain ⟨hd, rfl⟩ := hd
  exact Go.pure kk fun T hT hx hb0 tgt hr => XS.istoreN hT hx rfl (hb hb0 hd) rfl hl hr
theorem go_istore {k : Nat} (hd : Dec bytes pc (.istore k) 2 n) (hl : storeLocals ls k (.int x) = some l') (kk : Go l Z a0 EL R own bytes ml ret nm S0 Q K kc ks S h (mkF K.m n l' (st))) : Go l Z a0 EL R own bytes ml ret nm S0 Q K kc ks S h (mkF K.m pc ls (.int x :: st)) := by
  obtain ⟨hd, rfl⟩ := hd
  exact Go.pure kk fun T hT hx hb0 tgt hr => XS.istore hT hx rfl (hb hb0 hd) rfl hl hr
theorem go_astoreN {k : Fin 4} (hd : Dec bytes pc (.astore_n k) 1 n) (hv : u.isRef = true) (hl : storeLocals ls k.val u = some l') (kk : Go l Z a0 EL R own bytes ml ret nm S0 Q K kc ks S h (mkF K.m n l' (st))) : Go l Z a0 EL R own bytes ml ret nm S0 Q K kc ks S h (mkF K.m pc ls (u :: st)) := by
  obtain ⟨hd, rfl⟩ := hd
  exact Go.pure kk fun T hT hx hb0 tgt hr => XS.astoreN hT hx rfl (hb hb0 hd) rfl hv hl hr
theorem go_astore {k : Nat} (hd : Dec bytes pc (.astore k) 2 n) (hv : u.isRef = true) (hl : storeLocals ls k u = some l') (kk : Go l Z a0 EL R own bytes ml ret nm S0 Q K kc ks S h (mkF K.m n l' (st))) : Go l Z a0 EL R own bytes ml ret nm S0 Q K kc ks S h (mkF K.m pc ls (u :: st)) := by
  obtain ⟨hd, rfl⟩ := hd
  exact Go.pure kk fun T hT hx hb0 tgt hr => XS.astore hT hx rfl (hb hb0 hd) rfl hv hl hr
theorem go_lstoreN {k : Fin 4} {z : Int64} (hd : Dec bytes pc (.lstore_n k) 1 n) (hl : storeLocals ls k.val (.long z) = some l') (kk : Go l Z a0 EL R own bytes ml ret nm S0 Q K kc ks S h (mkF K.m n l' (st))) : Go l Z a0 EL R own bytes ml ret nm S0 Q K kc ks S h (mkF K.m pc ls (.long z :: st)) := by
  obtain ⟨hd, rfl⟩ := hd
  exact Go.pure kk fun T hT hx hb0 tgt hr => XT.lstoreN hT hx rfl (hb hb0 hd) rfl hl hr
theorem go_lstore {k : Nat} {z : Int64} (hd : Dec bytes pc (.lstore k) 2 n) (hl : storeLocals ls k (.long z) = some l') (kk : Go l Z a0 EL R own bytes ml ret nm S0 Q K kc ks S h (mkF K.m n l' (st))) : Go l Z a0 EL R own bytes ml ret nm S0 Q K kc ks S h (mkF K.m pc ls (.long z :: st)) := by
  obtain ⟨hd, rfl⟩ := hd
  exact Go.pure kk fun T hT hx hb0 tgt hr => XT.lstore hT hx rfl (hb hb0 hd) rfl hl hr
theorem go_iinc {k : Nat} {i : Int} (hd : Dec bytes pc (.iinc k i) 3 n) (hl : ls[k]? = some (.val (.int x))) (hv : x + Int32.ofInt i = v) (hl' : storeLocals ls k (.int v) = some l') (kk : Go l Z a0 EL R own bytes ml ret nm S0 Q K kc ks S h (mkF K.m n l' (st))) : Go l Z a0 EL R own bytes ml ret nm S0 Q K kc ks S h (mkF K.m pc ls (st)) := by
  obtain ⟨hd, rfl⟩ := hd
  exact Go.pure kk fun T hT hx hb0 tgt hr => XT.iincV hT hx rfl _ (hb hb0 hd) rfl hl (by rw [hv]; exact hl') hr
theorem go_ifeq {o : Int} (hd : Brn bytes pc (.ifCond .eq o) o n t) (yes : x = 0 → Go l Z a0 EL R own bytes ml ret nm S0 Q K kc ks S h (mkF K.m t ls st)) (no : ¬ (x = 0) → Go l Z a0 EL R own bytes ml ret nm S0 Q K kc ks S h (mkF K.m n ls st)) : Go l Z a0 EL R own bytes ml ret nm S0 Q K kc ks S h (mkF K.m pc ls (.int x :: st)) := by
  obtain ⟨hd, rfl, ho, hp⟩ := hd
  by_cases c : x = 0
  · exact Go.pure (yes c) fun T hT hx hb0 tgt hr => XS.ifYes hT hx rfl (pc0 := pc) (pc' := t) rfl (hb hb0 hd) rfl (XT.i0_eq_t c) ho hp hr
  · exact Go.pure (no (c)) fun T hT hx hb0 tgt hr => XS.ifNo hT hx rfl (hb hb0 hd) rfl (XT.i0_eq_f c) hr
theorem go_ifne {o : Int} (hd : Brn bytes pc (.ifCond .ne o) o n t) (yes : ¬ (x = 0) → Go l Z a0 EL R own bytes ml ret nm S0 Q K kc ks S h (mkF K.m t ls st)) (no : x = 0 → Go l Z a0 EL R own bytes ml ret nm S0 Q K kc ks S h (mkF K.m n ls st)) : Go l Z a0 EL R own bytes ml ret nm S0 Q K kc ks S h (mkF K.m pc ls (.int x :: st)) := by
  obtain ⟨hd, rfl, ho, hp⟩ := hd
  by_cases c : ¬ (x = 0)
  · exact Go.pure (yes c) fun T hT hx hb0 tgt hr => XS.ifYes hT hx rfl (pc0 := pc) (pc' := t) rfl (hb hb0 hd) rfl (XT.i0_ne_t c) ho hp hr
  · exact Go.pure (no (Decidable.not_not.mp c)) fun T hT hx hb0 tgt hr => XS.ifNo hT hx rfl (hb hb0 hd) rfl (XT.i0_ne_f (Decidable.not_not.mp c)) hr
theorem go_iflt {o : Int} (hd : Brn bytes pc (.ifCond .lt o) o n t) (yes : x < 0 → Go l Z a0 EL R own bytes ml ret nm S0 Q K kc ks S h (mkF K.m t ls st)) (no : ¬ (x < 0) → Go l Z a0 EL R own bytes ml ret nm S0 Q K kc ks S h (mkF K.m n ls st)) : Go l Z a0 EL R own bytes ml ret nm S0 Q K kc ks S h (mkF K.m pc ls (.int x :: st)) := by
  obtain ⟨hd, rfl, ho, hp⟩ := hd
  by_cases c : x < 0
  · exact Go.pure (yes c) fun T hT hx hb0 tgt hr => XS.ifYes hT hx rfl (pc0 := pc) (pc' := t) rfl (hb hb0 hd) rfl (XT.i0_lt_t c) ho hp hr
  · exact Go.pure (no (c)) fun T hT hx hb0 tgt hr => XS.ifNo hT hx rfl (hb hb0 hd) rfl (XT.i0_lt_f c) hr
theorem go_ifge {o : Int} (hd : Brn bytes pc (.ifCond .ge o) o n t) (yes : ¬ (x < 0) → Go l Z a0 EL R own bytes ml ret nm S0 Q K kc ks S h (mkF K.m t ls st)) (no : x < 0 → Go l Z a0 EL R own bytes ml ret nm S0 Q K kc ks S h (mkF K.m n ls st)) : Go l Z a0 EL R own bytes ml ret nm S0 Q K kc ks S h (mkF K.m pc ls (.int x :: st)) := by
  obtain ⟨hd, rfl, ho, hp⟩ := hd
  by_cases c : ¬ (x < 0)
  · exact Go.pure (yes c) fun T hT hx hb0 tgt hr => XS.ifYes hT hx rfl (pc0 := pc) (pc' := t) rfl (hb hb0 hd) rfl (XT.i0_ge_t c) ho hp hr
  · exact Go.pure (no (Decidable.not_not.mp c)) fun T hT hx hb0 tgt hr => XS.ifNo hT hx rfl (hb hb0 hd) rfl (XT.i0_ge_f (Decidable.not_not.mp c)) hr
theorem go_ifgt {o : Int} (hd : Brn bytes pc (.ifCond .gt o) o n t) (yes : 0 < x → Go l Z a0 EL R own bytes ml ret nm S0 Q K kc ks S h (mkF K.m t ls st)) (no : ¬ (0 < x) → Go l Z a0 EL R own bytes ml ret nm S0 Q K kc ks S h (mkF K.m n ls st)) : Go l Z a0 EL R own bytes ml ret nm S0 Q K kc ks S h (mkF K.m pc ls (.int x :: st)) := by
  obtain ⟨hd, rfl, ho, hp⟩ := hd
  by_cases c : 0 < x
  · exact Go.pure (yes c) fun T hT hx hb0 tgt hr => XS.ifYes hT hx rfl (pc0 := pc) (pc' := t) rfl (hb hb0 hd) rfl (XT.i0_gt_t c) ho hp hr
  · exact Go.pure (no (c)) fun T hT hx hb0 tgt hr => XS.ifNo hT hx rfl (hb hb0 hd) rfl (XT.i0_gt_f c) hr
theorem go_ifle {o : Int} (hd : Brn bytes pc (.ifCond .le o) o n t) (yes : ¬ (0 < x) → Go l Z a0 EL R own bytes ml ret nm S0 Q K kc ks S h (mkF K.m t ls st)) (no : 0 < x → Go l Z a0 EL R own bytes ml ret nm S0 Q K kc ks S h (mkF K.m n ls st)) : Go l Z a0 EL R own bytes ml ret nm S0 Q K kc ks S h (mkF K.m pc ls (.int x :: st)) := by
  obtain ⟨hd, rfl, ho, hp⟩ := hd
  by_cases c : ¬ (0 < x)
  · exact Go.pure (yes c) fun T hT hx hb0 tgt hr => XS.ifYes hT hx rfl (pc0 := pc) (pc' := t) rfl (hb hb0 hd) rfl (XT.i0_le_t c) ho hp hr
  · exact Go.pure (no (Decidable.not_not.mp c)) fun T hT hx hb0 tgt hr => XS.ifNo hT hx rfl (hb hb0 hd) rfl (XT.i0_le_f (Decidable.not_not.mp c)) hr
theorem go_icmpeq {o : Int} (hd : Brn bytes pc (.if_icmp .eq o) o n t) (yes : x = y → Go l Z a0 EL R own bytes ml ret nm S0 Q K kc ks S h (mkF K.m t ls st)) (no : ¬ (x = y) → Go l Z a0 EL R own bytes ml ret nm S0 Q K kc ks S h (mkF K.m n ls st)) : Go l Z a0 EL R own bytes ml ret nm S0 Q K kc ks S h (mkF K.m pc ls (.int y :: .int x :: st)) := by
  obtain ⟨hd, rfl, ho, hp⟩ := hd
  by_cases c : x = y
  · exact Go.pure (yes c) fun T hT hx hb0 tgt hr => XS.icmpYes hT hx rfl (pc0 := pc) (pc' := t) rfl (hb hb0 hd) rfl (XT.ii_eq_t c) ho hp hr
  · exact Go.pure (no (c)) fun T hT hx hb0 tgt hr => XS.icmpNo hT hx rfl (hb hb0 hd) rfl (XT.ii_eq_f c) hr
theorem go_icmpne {o : Int} (hd : Brn bytes pc (.if_icmp .ne o) o n t) (yes : ¬ (x = y) → Go l Z a0 EL R own bytes ml ret nm S0 Q K kc ks S h (mkF K.m t ls st)) (no : x = y → Go l Z a0 EL R own bytes ml ret nm S0 Q K kc ks S h (mkF K.m n ls st)) : Go l Z a0 EL R own bytes ml ret nm S0 Q K kc ks S h (mkF K.m pc ls (.int y :: .int x :: st)) := by
  obtain ⟨hd, rfl, ho, hp⟩ := hd
  by_cases c : ¬ (x = y)
  · exact Go.pure (yes c) fun T hT hx hb0 tgt hr => XS.icmpYes hT hx rfl (pc0 := pc) (pc' := t) rfl (hb hb0 hd) rfl (XT.ii_ne_t c) ho hp hr
  · exact Go.pure (no (Decidable.not_not.mp c)) fun T hT hx hb0 tgt hr => XS.icmpNo hT hx rfl (hb hb0 hd) rfl (XT.ii_ne_f (Decidable.not_not.mp c)) hr
theorem go_icmplt {o : Int} (hd : Brn bytes pc (.if_icmp .lt o) o n t) (yes : x < y → Go l Z a0 EL R own bytes ml ret nm S0 Q K kc ks S h (mkF K.m t ls st)) (no : ¬ (x < y) → Go l Z a0 EL R own bytes ml ret nm S0 Q K kc ks S h (mkF K.m n ls st)) : Go l Z a0 EL R own bytes ml ret nm S0 Q K kc ks S h (mkF K.m pc ls (.int y :: .int x :: st)) := by
  obtain ⟨hd, rfl, ho, hp⟩ := hd
  by_cases c : x < y
  · exact Go.pure (yes c) fun T hT hx hb0 tgt hr => XS.icmpYes hT hx rfl (pc0 := pc) (pc' := t) rfl (hb hb0 hd) rfl (XT.ii_lt_t c) ho hp hr
  · exact Go.pure (no (c)) fun T hT hx hb0 tgt hr => XS.icmpNo hT hx rfl (hb hb0 hd) rfl (XT.ii_lt_f c) hr
theorem go_icmpge {o : Int} (hd : Brn bytes pc (.if_icmp .ge o) o n t) (yes : ¬ (x < y) → Go l Z a0 EL R own bytes ml ret nm S0 Q K kc ks S h (mkF K.m t ls st)) (no : x < y → Go l Z a0 EL R own bytes ml ret nm S0 Q K kc ks S h (mkF K.m n ls st)) : Go l Z a0 EL R own bytes ml ret nm S0 Q K kc ks S h (mkF K.m pc ls (.int y :: .int x :: st)) := by
  obtain ⟨hd, rfl, ho, hp⟩ := hd
  by_cases c : ¬ (x < y)
  · exact Go.pure (yes c) fun T hT hx hb0 tgt hr => XS.icmpYes hT hx rfl (pc0 := pc) (pc' := t) rfl (hb hb0 hd) rfl (XT.ii_ge_t c) ho hp hr
  · exact Go.pure (no (Decidable.not_not.mp c)) fun T hT hx hb0 tgt hr => XS.icmpNo hT hx rfl (hb hb0 hd) rfl (XT.ii_ge_f (Decidable.not_not.mp c)) hr
theorem go_icmpgt {o : Int} (hd : Brn bytes pc (.if_icmp .gt o) o n t) (yes : y < x → Go l Z a0 EL R own bytes ml ret nm S0 Q K kc ks S h (mkF K.m t ls st)) (no : ¬ (y < x) → Go l Z a0 EL R own bytes ml ret nm S0 Q K kc ks S h (mkF K.m n ls st)) : Go l Z a0 EL R own bytes ml ret nm S0 Q K kc ks S h (mkF K.m pc ls (.int y :: .int x :: st)) := by
  obtain ⟨hd, rfl, ho, hp⟩ := hd
  by_cases c : y < x
  · exact Go.pure (yes c) fun T hT hx hb0 tgt hr => XS.icmpYes hT hx rfl (pc0 := pc) (pc' := t) rfl (hb hb0 hd) rfl (XT.ii_gt_t c) ho hp hr
  · exact Go.pure (no (c)) fun T hT hx hb0 tgt hr => XS.icmpNo hT hx rfl (hb hb0 hd) rfl (XT.ii_gt_f c) hr
theorem go_icmple {o : Int} (hd : Brn bytes pc (.if_icmp .le o) o n t) (yes : ¬ (y < x) → Go l Z a0 EL R own bytes ml ret nm S0 Q K kc ks S h (mkF K.m t ls st)) (no : y < x → Go l Z a0 EL R own bytes ml ret nm S0 Q K kc ks S h (mkF K.m n ls st)) : Go l Z a0 EL R own bytes ml ret nm S0 Q K kc ks S h (mkF K.m pc ls (.int y :: .int x :: st)) := by
  obtain ⟨hd, rfl, ho, hp⟩ := hd
  by_cases c : ¬ (y < x)
  · exact Go.pure (yes c) fun T hT hx hb0 tgt hr => XS.icmpYes hT hx rfl (pc0 := pc) (pc' := t) rfl (hb hb0 hd) rfl (XT.ii_le_t c) ho hp hr
  · exact Go.pure (no (Decidable.not_not.mp c)) fun T hT hx hb0 tgt hr => XS.icmpNo hT hx rfl (hb hb0 hd) rfl (XT.ii_le_f (Decidable.not_not.mp c)) hr
theorem go_goto {o : Int} (hd : Brn bytes pc (.goto o) o n t) (kk : Go l Z a0 EL R own bytes ml ret nm S0 Q K kc ks S h (mkF K.m t ls st)) : Go l Z a0 EL R own bytes ml ret nm S0 Q K kc ks S h (mkF K.m pc ls st) := by
  obtain ⟨hd, rfl, ho, hp⟩ := hd
  exact Go.pure kk fun T hT hx hb0 tgt hr => XS.goto hT hx rfl (pc0 := pc) (pc' := t) rfl (hb hb0 hd) ho hp hr
theorem go_ifnullY {o : Int} (hd : Brn bytes pc (.ifnull o) o n t) (kk : Go l Z a0 EL R own bytes ml ret nm S0 Q K kc ks S h (mkF K.m t ls st)) : Go l Z a0 EL R own bytes ml ret nm S0 Q K kc ks S h (mkF K.m pc ls (.null :: st)) := by
  obtain ⟨hd, rfl, ho, hp⟩ := hd
  exact Go.pure kk fun T hT hx hb0 tgt hr => XS.ifnullYes hT hx rfl (pc0 := pc) (pc' := t) rfl (hb hb0 hd) rfl ho hp hr
theorem go_ifnullN {o : Int} {b : Addr} (hd : Brn bytes pc (.ifnull o) o n t) (kk : Go l Z a0 EL R own bytes ml ret nm S0 Q K kc ks S h (mkF K.m n ls st)) : Go l Z a0 EL R own bytes ml ret nm S0 Q K kc ks S h (mkF K.m pc ls (.ref b :: st)) := by
  obtain ⟨hd, rfl, ho, hp⟩ := hd
  exact Go.pure kk fun T hT hx hb0 tgt hr => XS.ifnullNo hT hx rfl (hb hb0 hd) rfl hr
theorem go_ifnonnullY {o : Int} {b : Addr} (hd : Brn bytes pc (.ifnonnull o) o n t) (kk : Go l Z a0 EL R own bytes ml ret nm S0 Q K kc ks S h (mkF K.m t ls st)) : Go l Z a0 EL R own bytes ml ret nm S0 Q K kc ks S h (mkF K.m pc ls (.ref b :: st)) := by
  obtain ⟨hd, rfl, ho, hp⟩ := hd
  exact Go.pure kk fun T hT hx hb0 tgt hr => XT.ifnonnullYes hT hx rfl (pc0 := pc) (pc' := t) rfl (hb hb0 hd) rfl ho hp hr
theorem go_ifnonnullN {o : Int} (hd : Brn bytes pc (.ifnonnull o) o n t) (kk : Go l Z a0 EL R own bytes ml ret nm S0 Q K kc ks S h (mkF K.m n ls st)) : Go l Z a0 EL R own bytes ml ret nm S0 Q K kc ks S h (mkF K.m pc ls (.null :: st)) := by
  obtain ⟨hd, rfl, ho, hp⟩ := hd
  exact Go.pure kk fun T hT hx hb0 tgt hr => XT.ifnonnullNo hT hx rfl (hb hb0 hd) rfl hr
theorem go_acmpeq {o : Int} (hd : Brn bytes pc (.if_acmp .eq o) o n t) (h1 : u.isRef = true) (h2 : w.isRef = true) (yes : u = w → Go l Z a0 EL R own bytes ml ret nm S0 Q K kc ks S h (mkF K.m t ls st)) (no : ¬ u = w → Go l Z a0 EL R own bytes ml ret nm S0 Q K kc ks S h (mkF K.m n ls st)) : Go l Z a0 EL R own bytes ml ret nm S0 Q K kc ks S h (mkF K.m pc ls (w :: u :: st)) := by
  obtain ⟨hd, rfl, ho, hp⟩ := hd
  by_cases c : u = w
  · exact Go.pure (yes c) fun T hT hx hb0 tgt hr => XT.acmpYes hT hx rfl (pc0 := pc) (pc' := t) rfl (hb hb0 hd) rfl h1 h2 (XT.aa_eq_t c) ho hp hr
  · exact Go.pure (no c) fun T hT hx hb0 tgt hr => XT.acmpNo hT hx rfl (hb hb0 hd) rfl h1 h2 (XT.aa_eq_f c) hr
theorem go_acmpne {o : Int} (hd : Brn bytes pc (.if_acmp .ne o) o n t) (h1 : u.isRef = true) (h2 : w.isRef = true) (yes : ¬ u = w → Go l Z a0 EL R own bytes ml ret nm S0 Q K kc ks S h (mkF K.m t ls st)) (no : u = w → Go l Z a0 EL R own bytes ml ret nm S0 Q K kc ks S h (mkF K.m n ls st)) : Go l Z a0 EL R own bytes ml ret nm S0 Q K kc ks S h (mkF K.m pc ls (w :: u :: st)) := by
  obtain ⟨hd, rfl, ho, hp⟩ := hd
  by_cases c : u = w
  · exact Go.pure (no c) fun T hT hx hb0 tgt hr => XT.acmpNo hT hx rfl (hb hb0 hd) rfl h1 h2 (XT.aa_ne_f c) hr
  · exact Go.pure (yes c) fun T hT hx hb0 tgt hr => XT.acmpYes hT hx rfl (pc0 := pc) (pc' := t) rfl (hb hb0 hd) rfl h1 h2 (XT.aa_ne_t c) ho hp hr
theorem cat_int (x : Int32) : (Value.int x).category = 1 := rfl
theorem cat_ref (x : Addr) : (Value.ref x).category = 1 := rfl
theorem cat_null : Value.null.category = 1 := rfl
theorem cat_long (x : Int64) : (Value.long x).category = 2 := rfl
theorem go_istoreS {k : Nat} {o : Slot} (hd : Dec bytes pc (.istore k) 2 n) (hold : ls[k]? = some o) (ho : o = .unset ∨ ∃ w, o = .val w ∧ w.category = 1) (hl : ls.setIfInBounds k (.val (.int x)) = l') (kk : Go l Z a0 EL R own bytes ml ret nm S0 Q K kc ks S h (mkF K.m n l' st)) : Go l Z a0 EL R own bytes ml ret nm S0 Q K kc ks S h (mkF K.m pc ls (.int x :: st)) :=
  go_istore hd ((XS.store1 hold ho rfl).trans (congrArg some hl)) kk
theorem go_istoreNS {k : Fin 4} {o : Slot} (hd : Dec bytes pc (.istore_n k) 1 n) (hold : ls[k.val]? = some o) (ho : o = .unset ∨ ∃ w, o = .val w ∧ w.category = 1) (hl : ls.setIfInBounds k.val (.val (.int x)) = l') (kk : Go l Z a0 EL R own bytes ml ret nm S0 Q K kc ks S h (mkF K.m n l' st)) : Go l Z a0 EL R own bytes ml ret nm S0 Q K kc ks S h (mkF K.m pc ls (.int x :: st)) :=
  go_istoreN hd ((XS.store1 hold ho rfl).trans (congrArg some hl)) kk
theorem go_astoreS {k : Nat} {o : Slot} (hd : Dec bytes pc (.astore k) 2 n) (hold : ls[k]? = some o) (hv : u.isRef = true) (ho : o = .unset ∨ ∃ w, o = .val w ∧ w.category = 1) (hl : ls.setIfInBounds k (.val u) = l') (kk : Go l Z a0 EL R own bytes ml ret nm S0 Q K kc ks S h (mkF K.m n l' st)) : Go l Z a0 EL R own bytes ml ret nm S0 Q K kc ks S h (mkF K.m pc ls (u :: st)) :=
  go_astore hd hv ((XS.store1 hold ho (XT.cat1 hv)).trans (congrArg some hl)) kk
theorem go_astoreNS {k : Fin 4} {o : Slot} (hd : Dec bytes pc (.astore_n k) 1 n) (hold : ls[k.val]? = some o) (hv : u.isRef = true) (ho : o = .unset ∨ ∃ w, o = .val w ∧ w.category = 1) (hl : ls.setIfInBounds k.val (.val u) = l') (kk : Go l Z a0 EL R own bytes ml ret nm S0 Q K kc ks S h (mkF K.m n l' st)) : Go l Z a0 EL R own bytes ml ret nm S0 Q K kc ks S h (mkF K.m pc ls (u :: st)) :=
  go_astoreN hd hv ((XS.store1 hold ho (XT.cat1 hv)).trans (congrArg some hl)) kk
theorem fin_of {vm0 : Vm} {locs : List Loc} {cells slots : Nat} {T : State} {fs : List Frame} {v : Option Value} (hEL : EW Z a0 EL)
    (X : Stand K.p l K.e R (K.s.setVm vm0) K.m K.args K.below K.meth K.c T locs cells slots) (e4 : Z.Warmed39 vm0) (e6 : CHr Z EL K.s.vm K.s.heap vm0 T.heap) (e7 : Fr Z.heap.size locs) (e8 : cells + kc ≤ R.cells) (e9 : slots + ks ≤ R.slots) (e10 : Sf Z EL vm0 T.heap S) (e11 : Ext Z.heap T.heap) (e12 : ∀ x, S0 x → S x)
    (hW : ReturnedEndW K.s (.returned v) (T.setFrames fs) locs cells slots) (q : Q S v T.heap) : FinG Z EL R S0 Q K.s (T.setFrames fs) (.returned v) :=
  have hC : CHr Z EL vm0 T.heap T.vm T.heap := CHv.at X e4 hEL e6.1
  ⟨v, locs, rfl, ⟨⟨S, e12, e10.step hC, e11, q⟩, e7⟩, e6.trans hC, hW.1, hW.2.1, hW.2.2.1, hW.2.2.2.mono (by omega) (by omega)⟩
theorem go_return (hd : Dec bytes pc .return_ 1 n) (hret : ret = none) (q : Q S none h) : Go l Z a0 EL R own bytes ml ret nm S0 Q K kc ks S h (mkF K.m pc ls []) := by
  intro hK T hT
  obtain ⟨hd, -⟩ := hd
  obtain ⟨vm0, k0, locs, cells, slots, X, e1, e2, e3, e4, e5, e6, e7, e8, e9, e10, e11, e12⟩ := hT
  subst e1
  have hr' : K.meth.sig.returnType = none := hK.2.2.2.1.trans hret
  obtain ⟨fs, hr, hrun, hended, hW⟩ := X.leaveW (v := none) e2 e3 (fun _ => rfl) hK.2.2.2.2.2.1
  exact ⟨_, _, X.returnOut hK.1 hr' (hb hK.2.1 hd) hr, hrun, hended, fin_of hK.2.2.2.2.2.2 X e4 e6 e7 e8 e9 e10 e11 e12 hW q⟩
theorem go_ireturn {ty : FieldType} (hd : Dec bytes pc .ireturn 1 n) (hret : ret = some ty) (ht : ty = .int ∨ ty = .boolean ∨ ty = .byte ∨ ty = .char ∨ ty = .short) (hv : narrow ty (.int x) = .int v) (q : Q S (some (.int v)) h) : Go l Z a0 EL R own bytes ml ret nm S0 Q K kc ks S h (mkF K.m pc ls (.int x :: st)) := by
  intro hK T hT
  obtain ⟨hd, -⟩ := hd
  obtain ⟨vm0, k0, locs, cells, slots, X, e1, e2, e3, e4, e5, e6, e7, e8, e9, e10, e11, e12⟩ := hT
  subst e1
  have hr' : K.meth.sig.returnType = some ty := hK.2.2.2.1.trans hret
  obtain ⟨fs, hr, hrun, hended, hW⟩ := X.leaveW (v := some (.int v)) e2 e3 (fun q => by rw [hr'] at q; cases q) hK.2.2.2.2.2.1
  refine ⟨_, _, ?_, hrun, hended, fin_of hK.2.2.2.2.2.2 X e4 e6 e7 e8 e9 e10 e11 e12 hW q⟩
  have hm' := X.method'
  have hx := hK.1
  have hd' := hb hK.2.1 hd
  show Steps K.p.tables K.e K.below (T.setTop { method := K.m, pc := pc, locals := ls, stack := _ :: st, locked := none }) _
  rcases ht with rfl | rfl | rfl | rfl | rfl
  all_goals
    jvm_step X.here [X.here.top, hx, hd', hm', hr', hv]
    first | (intro acts; rw [hr _ acts rfl rfl rfl]) | rw [hr _ _ rfl rfl rfl]
    exact Steps.refl _
theorem go_areturn {ty : FieldType} (hd : Dec bytes pc .areturn 1 n) (hret : ret = some ty) (ht : ty.isReference = true) (hu : u.isRef = true) (q : Q S (some u) h) : Go l Z a0 EL R own bytes ml ret nm S0 Q K kc ks S h (mkF K.m pc ls (u :: st)) := by
  intro hK T hT
  obtain ⟨hd, -⟩ := hd
  obtain ⟨vm0, k0, locs, cells, slots, X, e1, e2, e3, e4, e5, e6, e7, e8, e9, e10, e11, e12⟩ := hT
  subst e1
  have hr' : K.meth.sig.returnType = some ty := hK.2.2.2.1.trans hret
  obtain ⟨fs, hr, hrun, hended, hW⟩ := X.leaveW (v := some u) e2 e3 (fun q => by rw [hr'] at q; cases q) hK.2.2.2.2.2.1
  refine ⟨_, _, ?_, hrun, hended, fin_of hK.2.2.2.2.2.2 X e4 e6 e7 e8 e9 e10 e11 e12 hW q⟩
  have hm' := X.method'
  have hx := hK.1
  have hd' := hb hK.2.1 hd
  show Steps K.p.tables K.e K.below (T.setTop { method := K.m, pc := pc, locals := ls, stack := _ :: st, locked := none }) _
  rcases ref_cases hu with rfl | ⟨a, rfl⟩
  all_goals
    jvm_step X.here [X.here.top, hx, hd', hm', hr', Value.isRef, ht]
    first | (intro acts; rw [hr _ acts rfl rfl rfl]) | rw [hr _ _ rfl rfl rfl]
    exact Steps.refl _
theorem go_lreturn {z : Int64} (hd : Dec bytes pc .lreturn 1 n) (hret : ret = some .long) (q : Q S (some (.long z)) h) : Go l Z a0 EL R own bytes ml ret nm S0 Q K kc ks S h (mkF K.m pc ls (.long z :: st)) := by
  intro hK T hT
  obtain ⟨hd, -⟩ := hd
  obtain ⟨vm0, k0, locs, cells, slots, X, e1, e2, e3, e4, e5, e6, e7, e8, e9, e10, e11, e12⟩ := hT
  subst e1
  have hr' : K.meth.sig.returnType = some .long := hK.2.2.2.1.trans hret
  obtain ⟨fs, hr, hrun, hended, hW⟩ := X.leaveW (v := some (.long z)) e2 e3 (fun q => by rw [hr'] at q; cases q) hK.2.2.2.2.2.1
  refine ⟨_, _, ?_, hrun, hended, fin_of hK.2.2.2.2.2.2 X e4 e6 e7 e8 e9 e10 e11 e12 hW q⟩
  have hm' := X.method'
  have hx := hK.1
  have hd' := hb hK.2.1 hd
  have hv : narrow .long (.long z) = .long z := rfl
  show Steps K.p.tables K.e K.below (T.setTop { method := K.m, pc := pc, locals := ls, stack := _ :: st, locked := none }) _
  jvm_step X.here [X.here.top, hx, hd', hm', hr', hv]
  first | (intro acts; rw [hr _ acts rfl rfl rfl]) | rw [hr _ _ rfl rfl rfl]
  exact Steps.refl _
theorem go_getf {R0 O fn d : String} {idx : Nat} {a : Addr} (w1 : (Cond.fieldLink own idx R0 fn d).before a0 Z = true) (via : Via Z R0 O fn d) (F : Fld Z h a O fn d u) (hd : Dec bytes pc (.getfield idx) 3 n) (kk : Go l Z a0 EL R own bytes ml ret nm S0 Q K kc ks S h (mkF K.m n ls (u :: st))) : Go l Z a0 EL R own bytes ml ret nm S0 Q K kc ks S h (mkF K.m pc ls (.ref a :: st)) := by
  obtain ⟨hd, rfl⟩ := hd
  refine Go.calm kk fun vm0 T locs cells slots hK X hZ hown eT hE => ?_
  exact getF X hK.1 hZ hown (host := "") (Or.inl w1) via eT F (g := mkF K.m pc ls (.ref a :: st)) rfl rfl (hb hK.2.1 hd)
theorem go_getfN {R0 O fn d host : String} {idx : Nat} {a : Addr} (w1 : (Cond.fieldLinkNest own idx R0 fn d host).before a0 Z = true) (via : Via Z R0 O fn d) (F : Fld Z h a O fn d u) (hd : Dec bytes pc (.getfield idx) 3 n) (kk : Go l Z a0 EL R own bytes ml ret nm S0 Q K kc ks S h (mkF K.m n ls (u :: st))) : Go l Z a0 EL R own bytes ml ret nm S0 Q K kc ks S h (mkF K.m pc ls (.ref a :: st)) := by
  obtain ⟨hd, rfl⟩ := hd
  refine Go.calm kk fun vm0 T locs cells slots hK X hZ hown eT hE => ?_
  exact getF X hK.1 hZ hown (Or.inr w1) via eT F (g := mkF K.m pc ls (.ref a :: st)) rfl rfl (hb hK.2.1 hd)
theorem go_gets {R0 O fn d : String} {idx : Nat} (w1 : (Cond.fieldLink own idx R0 fn d).before a0 Z = true) (via : Via Z R0 O fn d) (F : Sta Z Z.heap O fn d u) (hd : Dec bytes pc (.getstatic idx) 3 n) (kk : Go l Z a0 EL R own bytes ml ret nm S0 Q K kc ks S h (mkF K.m n ls (u :: st))) : Go l Z a0 EL R own bytes ml ret nm S0 Q K kc ks S h (mkF K.m pc ls st) := by
  obtain ⟨hd, rfl⟩ := hd
  refine Go.calm kk fun vm0 T locs cells slots hK X hZ hown eT hE => ?_
  exact getS2 X hK.1 hZ hown (host := "") (Or.inl w1) via eT (F.ext hE) (g := mkF K.m pc ls st) rfl (hb hK.2.1 hd)
theorem go_cast {C : String} {idx : Nat} {a : Addr} (w1 : (Cond.classLink own idx C).before a0 Z = true) (I : Ins Z h a C true) (hd : Dec bytes pc (.checkcast idx) 3 n) (kk : Go l Z a0 EL R own bytes ml ret nm S0 Q K kc ks S h (mkF K.m n ls (.ref a :: st))) : Go l Z a0 EL R own bytes ml ret nm S0 Q K kc ks S h (mkF K.m pc ls (.ref a :: st)) := by
  obtain ⟨hd, rfl⟩ := hd
  refine Go.calm kk fun vm0 T locs cells slots hK X hZ hown eT hE => ?_
  exact castY X hK.1 hZ hown w1 eT I (g := mkF K.m pc ls (.ref a :: st)) rfl rfl (hb hK.2.1 hd)
theorem go_instY {C : String} {idx : Nat} {a : Addr} (w1 : (Cond.classLink own idx C).before a0 Z = true) (I : Ins Z h a C true) (hd : Dec bytes pc (.instanceof idx) 3 n) (kk : Go l Z a0 EL R own bytes ml ret nm S0 Q K kc ks S h (mkF K.m n ls (.int 1 :: st))) : Go l Z a0 EL R own bytes ml ret nm S0 Q K kc ks S h (mkF K.m pc ls (.ref a :: st)) := by
  obtain ⟨hd, rfl⟩ := hd
  refine Go.calm kk fun vm0 T locs cells slots hK X hZ hown eT hE => ?_
  exact instY X hK.1 hZ hown w1 eT I (g := mkF K.m pc ls (.ref a :: st)) rfl rfl (hb hK.2.1 hd)
theorem go_initO {idx : Nat} {a : Addr} (w1 : (Cond.methodLink own idx Lib.objectInit).before a0 Z = true) (w2 : (Cond.instanceMethod Lib.objectInit).before a0 Z = true) (w3 : (Cond.code Lib.objectInit ⟨#[0xb1]⟩ 1 none).before a0 Z = true) (hd : Dec bytes pc (.invokespecial idx) 3 n) (hsz : ls.size = ml) (hf : 1 ≤ R.frames) (hW : (st.map fun v => v.category).sum + 12 ≤ R.locals)
    (kk : Go l Z a0 EL R own bytes ml ret nm S0 Q K kc ks S h (mkF K.m n ls st)) : Go l Z a0 EL R own bytes ml ret nm S0 Q K kc ks S h (mkF K.m pc ls (.ref a :: st)) := by
  obtain ⟨hd, rfl⟩ := hd
  refine Go.calm kk fun vm0 T locs cells slots hK X hZ hown eT hE => ?_
  exact initO X hK.1 hZ hown w1 w2 w3 eT (g := mkF K.m pc ls (.ref a :: st)) rfl (hsz.trans hK.2.2.1.symm) rfl (hb hK.2.1 hd) hf (W := (st.map fun v => v.category).sum) (by show 2 * 0 + _ ≤ _; simp) hW
theorem go_new {C : String} {idx na : Nat} (w1 : (Cond.classLink own idx C).before a0 Z = true) (wi : (Cond.instantiable C na).before a0 Z = true) (wz : (Cond.initialized C).before a0 Z = true) (hd : Dec bytes pc (.new idx) 3 n)
    (kk : ∀ S' h' a, a = h.size → (∀ x, S x → S' x) → S' a → Ext h h' → a < h'.size → (Exa Z h' a C ∧ ∀ {O nm d : String} {ty : FieldType}, Laid Z a0 C O nm d → parseFieldDescriptor d = some ty → Fld Z h' a O nm d (defaultValue ty)) → Go l Z a0 EL R own bytes ml ret nm S0 Q K kc ks S' h' (mkF K.m n ls (.ref a :: st))) : Go l Z a0 EL R own bytes ml ret nm S0 Q K (kc + 1) (ks + na) S h (mkF K.m pc ls st) := by
  obtain ⟨hd, rfl⟩ := hd
  refine Go.make (f' := fun a => mkF K.m (pc + 3) ls (.ref a :: st)) _ kk fun vm0 T locs cells slots hK X hZ hown eT hc hl => ?_
  obtain ⟨T', h', X', e', E, A, D, -, st'⟩ := newO X hK.1 hZ hown w1 wi wz eT (g := mkF K.m pc ls st) rfl (hb hK.2.1 hd) hc hl
  exact ⟨T', h', X', e', E, A.lt, ⟨A, D⟩, st'⟩
/-- an array of ints, bytes, chars ..: its components as a list -/
def AI (Z : State) (h : Heap) (a : Addr) (ty : FieldType) (xs : List Int32) : Prop := ∃ c : Cell, Arr Z h a c ty ∧ c.slots.toList = xs.map Value.int ∧ xs.length < 2 ^ 31 ∧ ∀ x ∈ xs, fits ty (.int x) = true
theorem AI.lt {a : Addr} {ty : FieldType} {xs : List Int32} (A : AI Z h a ty xs) : a < h.size := by obtain ⟨c, A, -⟩ := A; exact A.lt
theorem AI.keep {a : Addr} {ty : FieldType} {xs : List Int32} {h' : Heap} {ws : List Addr} (A : AI Z h a ty xs) (K : Keep h h' ws) (q : a ∉ ws) : AI Z h' a ty xs := by obtain ⟨c, A, r⟩ := A; exact ⟨c, ⟨K.2.1 a c A.1 q, A.2⟩, r⟩
theorem AI.ext {a : Addr} {ty : FieldType} {xs : List Int32} {h' : Heap} (A : AI Z h a ty xs) (E : Ext h h') : AI Z h' a ty xs := by obtain ⟨c, A, r⟩ := A; exact ⟨c, A.ext E, r⟩
theorem AI.size {a : Addr} {ty : FieldType} {xs : List Int32} {c : Cell} (A : Arr Z h a c ty) (q : c.slots.toList = xs.map Value.int) : c.slots.size = xs.length := by
  have := congrArg List.length q
  simpa using this
theorem AI.at {xs : List Int32} {c : Cell} {i : Nat} (q : c.slots.toList = xs.map Value.int) (hx : xs[i]? = some x) : c.slots[i]? = some (.int x) := by
  have h1 : c.slots.toList[i]? = some (.int x) := by rw [q, List.getElem?_map, hx]; rfl
  simpa using h1
theorem AI.new {a : Addr} {ty : FieldType} {cA : ClassId} {j : Int32} {N : Nat} (A : Arr Z h a (newA cA ty j) ty) (hj : j = Int32.ofNat N) (hN : N < 2 ^ 31) (hd : defaultValue ty = .int 0) (hf : fits ty (.int 0) = true) : AI Z h a ty (List.replicate N 0) := by
  refine ⟨_, A, ?_, by simpa using hN, fun x hx => ?_⟩
  · simp [newA, clamp_of hj hN, hd]
  · rw [(List.mem_replicate.mp hx).2]; exact hf
theorem AI.set {a : Addr} {ty : FieldType} {xs : List Int32} {h' : Heap} {i : Nat} {sl : Nat} (A : AI Z h a ty xs) (W : Wr h h' a sl (.int x)) (hs : sl = i) (hf : fits ty (.int x) = true) : AI Z h' a ty (xs.set i x) := by
  subst hs
  obtain ⟨c, A, q1, q2, q3⟩ := A
  refine ⟨_, A.same W, ?_, by simpa using q2, fun y hy => ?_⟩
  · simp [Cell.setSlot, q1, List.map_set]
  · rcases List.mem_or_eq_of_mem_set hy with hy | rfl
    · exact q3 y hy
    · exact hf
theorem AI.ne_exa {a b : Addr} {ty : FieldType} {xs : List Int32} {C : String} {kn : Nat} (A : AI Z h a ty xs) (E : Exa Z h b C) (wi : (Cond.instantiable C kn).before a0 Z = true) : a ≠ b := by
  obtain ⟨c, A, -⟩ := A
  exact (ne_arr E wi A).symm
theorem Arr.ne_ty {a b : Addr} {ty ty' : FieldType} {c c' : Cell} (A : Arr Z h a c ty) (B : Arr Z h b c' ty') (hn : ty ≠ ty') : a ≠ b := fun e => by
  subst e
  cases A.1.symm.trans B.1
  obtain ⟨-, k1, i1, comp1, j1⟩ := A.2.1
  obtain ⟨-, k2, i2, comp2, j2⟩ := B.2.1
  cases i1.symm.trans i2
  have := j1.symm.trans j2
  injection this with _ e
  exact hn e
theorem AI.ne_ty {a b : Addr} {ty ty' : FieldType} {xs ys : List Int32} (A : AI Z h a ty xs) (B : AI Z h b ty' ys) (hn : ty ≠ ty') : a ≠ b := by
  obtain ⟨c, A, -⟩ := A
  obtain ⟨c', B, -⟩ := B
  exact Arr.ne_ty A B hn
theorem AI.safe {a : Addr} {ty : FieldType} {xs : List Int32} (A : AI Z h a ty xs) (hn : ty ≠ .byte) : ∀ vm0 : Vm, Z.vm.Alike vm0 → Safe Z EL vm0 h a := fun vm0 hal => by
  obtain ⟨c, A, -⟩ := A
  exact Safe.arr hal A hn
theorem toInt32_ofNat (i : Nat) : i.toInt32 = Int32.ofNat i := rfl
theorem go_newarr {aty : ArrayType} {j : Int32} {N cap : Nat} (w1 : (Cond.arrayClass (newarray.typeOf aty)).before a0 Z = true) (hj : j = Int32.ofNat N) (hN : N ≤ cap) (hcap : cap * 8 ≤ 536870912) (hdv : defaultValue (newarray.typeOf aty) = .int 0) (hft : fits (newarray.typeOf aty) (.int 0) = true) (hd : Dec bytes pc (.newarray aty) 2 n)
    (kk : ∀ S' h' a, a = h.size → (∀ x, S x → S' x) → S' a → Ext h h' → a < h'.size → AI Z h' a (newarray.typeOf aty) (List.replicate N 0) → Go l Z a0 EL R own bytes ml ret nm S0 Q K kc ks S' h' (mkF K.m n ls (.ref a :: st))) : Go l Z a0 EL R own bytes ml ret nm S0 Q K (kc + 1) (ks + cap) S h (mkF K.m pc ls (.int j :: st)) := by
  obtain ⟨hd, rfl⟩ := hd
  refine Go.make (f' := fun a => mkF K.m (pc + 2) ls (.ref a :: st)) _ kk fun vm0 T locs cells slots hK X hZ hown eT hc hl => ?_
  have hN' : N < 2 ^ 31 := by omega
  obtain ⟨T', h', cA, X', e', E, A, st'⟩ := newP X hK.1 hZ w1 eT (g := mkF K.m pc ls (.int j :: st)) rfl (hb hK.2.1 hd) (n := j) rfl (by rw [Int32.lt_iff_toInt_lt, toInt_of hj hN']; simp) (cap := cap) (by rw [clamp_of hj hN']; exact hN) hcap hc hl
  exact ⟨T', h', X', e', E, A.lt, AI.new A hj hN' hdv hft, st'⟩
theorem go_alen {a : Addr} {ty : FieldType} {xs : List Int32} (A : AI Z h a ty xs) (hd : Dec bytes pc .arraylength 1 n) (hv : Int32.ofNat xs.length = v) (kk : Go l Z a0 EL R own bytes ml ret nm S0 Q K kc ks S h (mkF K.m n ls (.int v :: st))) : Go l Z a0 EL R own bytes ml ret nm S0 Q K kc ks S h (mkF K.m pc ls (.ref a :: st)) := by
  obtain ⟨hd, rfl⟩ := hd
  obtain ⟨c, A, q1, q2, q3⟩ := A
  refine Go.calm kk fun vm0 T locs cells slots hK X hZ hown eT hE => ⟨T, X, eT, fun tgt hr => ?_⟩
  refine X.arraylength hK.1 (by rw [eT]; exact A.1) (State.isArrayOf_alike hZ.alike A.2.1) (g := mkF K.m pc ls (.ref a :: st)) rfl rfl (hb hK.2.1 hd) _ ?_
  rw [AI.size A q1, toInt32_ofNat, hv]; exact hr
theorem go_caload {a : Addr} {xs : List Int32} {j : Int32} {i : Nat} (A : AI Z h a .char xs) (hj : j = Int32.ofNat i) (hx : xs[i]? = some x) (hd : Dec bytes pc .caload 1 n) (kk : Go l Z a0 EL R own bytes ml ret nm S0 Q K kc ks S h (mkF K.m n ls (.int x :: st))) : Go l Z a0 EL R own bytes ml ret nm S0 Q K kc ks S h (mkF K.m pc ls (.int j :: .ref a :: st)) := by
  obtain ⟨hd, rfl⟩ := hd
  obtain ⟨c, A, q1, q2, q3⟩ := A
  have hi := (List.getElem?_eq_some_iff.mp hx).1
  refine Go.calm kk fun vm0 T locs cells slots hK X hZ hown eT hE => ⟨T, X, eT, fun tgt hr => ?_⟩
  exact X.caload hK.1 (j := j) (v := .int x) (by rw [eT]; exact A.1) (State.isArrayOf_alike hZ.alike A.2.1) A.2.2 (by rw [AI.size A q1]; exact within hj hi q2) (by rw [clamp_of hj (by omega)]; exact AI.at q1 hx) (g := mkF K.m pc ls (.int j :: .ref a :: st)) rfl rfl (hb hK.2.1 hd) _ hr
theorem go_baload {a : Addr} {xs : List Int32} {j : Int32} {i : Nat} (A : AI Z h a .byte xs) (hj : j = Int32.ofNat i) (hx : xs[i]? = some x) (hd : Dec bytes pc .baload 1 n) (kk : Go l Z a0 EL R own bytes ml ret nm S0 Q K kc ks S h (mkF K.m n ls (.int x :: st))) : Go l Z a0 EL R own bytes ml ret nm S0 Q K kc ks S h (mkF K.m pc ls (.int j :: .ref a :: st)) := by
  obtain ⟨hd, rfl⟩ := hd
  obtain ⟨c, A, q1, q2, q3⟩ := A
  have hi := (List.getElem?_eq_some_iff.mp hx).1
  refine Go.calm kk fun vm0 T locs cells slots hK X hZ hown eT hE => ⟨T, X, eT, fun tgt hr => ?_⟩
  exact X.baloadBytes hK.1 (j := j) (v := .int x) (by rw [eT]; exact A.1) (State.isArrayOf_alike hZ.alike A.2.1) A.2.2 (by rw [AI.size A q1]; exact within hj hi q2) (by rw [clamp_of hj (by omega)]; exact AI.at q1 hx) (g := mkF K.m pc ls (.int j :: .ref a :: st)) rfl rfl (hb hK.2.1 hd) _ hr
theorem go_iaload {a : Addr} {xs : List Int32} {j : Int32} {i : Nat} (A : AI Z h a .int xs) (hj : j = Int32.ofNat i) (hx : xs[i]? = some x) (hd : Dec bytes pc .iaload 1 n) (kk : Go l Z a0 EL R own bytes ml ret nm S0 Q K kc ks S h (mkF K.m n ls (.int x :: st))) : Go l Z a0 EL R own bytes ml ret nm S0 Q K kc ks S h (mkF K.m pc ls (.int j :: .ref a :: st)) := by
  obtain ⟨hd, rfl⟩ := hd
  obtain ⟨c, A, q1, q2, q3⟩ := A
  have hi := (List.getElem?_eq_some_iff.mp hx).1
  refine Go.calm kk fun vm0 T locs cells slots hK X hZ hown eT hE => ⟨T, X, eT, fun tgt hr => ?_⟩
  exact X.iaload hK.1 (j := j) (v := .int x) (by rw [eT]; exact A.1) (State.isArrayOf_alike hZ.alike A.2.1) A.2.2 (by rw [AI.size A q1]; exact within hj hi q2) (by rw [clamp_of hj (by omega)]; exact AI.at q1 hx) (g := mkF K.m pc ls (.int j :: .ref a :: st)) rfl rfl (hb hK.2.1 hd) _ hr
theorem go_castore {a : Addr} {xs : List Int32} {j : Int32} {i : Nat} (A : AI Z h a .char xs) (ha : Z.heap.size ≤ a) (hj : j = Int32.ofNat i) (hi : i < xs.length) (hv : nar .char x = v) (hd : Dec bytes pc .castore 1 n)
    (kk : ∀ h', Keep h h' [a] → AI Z h' a .char (xs.set i v) → Go l Z a0 EL R own bytes ml ret nm S0 Q K kc ks S h' (mkF K.m n ls st)) : Go l Z a0 EL R own bytes ml ret nm S0 Q K kc ks S h (mkF K.m pc ls (.int x :: .int j :: .ref a :: st)) := by
  obtain ⟨hd, rfl⟩ := hd
  subst hv
  have A' := A
  obtain ⟨c, A, q1, q2, q3⟩ := A
  refine Go.write (sl := j.toNatClampNeg) (w := .int (nar .char x)) ha (Or.inr (AI.safe A' (by decide))) (fun h' W KW => kk h' KW (A'.set W (clamp_of hj (by omega)) (fits_nar_char x))) fun vm0 T locs cells slots hK X hZ hown eT => ?_
  exact stC X hK.1 hZ eT A (by rw [AI.size A q1]; exact within hj hi q2) (g := mkF K.m pc ls (.int x :: .int j :: .ref a :: st)) rfl rfl (hb hK.2.1 hd)
theorem fits_nar_b (x : Int32) : fits .byte (.int (nar .byte x)) = true := fits_nar_byte x
theorem go_bastore {a : Addr} {xs : List Int32} {j : Int32} {i : Nat} (A : AI Z h a .byte xs) (ha : Z.heap.size ≤ a) (hsa : S a) (hj : j = Int32.ofNat i) (hi : i < xs.length) (hv : nar .byte x = v) (hd : Dec bytes pc .bastore 1 n)
    (kk : ∀ h', Keep h h' [a] → AI Z h' a .byte (xs.set i v) → Go l Z a0 EL R own bytes ml ret nm S0 Q K kc ks S h' (mkF K.m n ls st)) : Go l Z a0 EL R own bytes ml ret nm S0 Q K kc ks S h (mkF K.m pc ls (.int x :: .int j :: .ref a :: st)) := by
  obtain ⟨hd, rfl⟩ := hd
  subst hv
  have A' := A
  obtain ⟨c, A, q1, q2, q3⟩ := A
  refine Go.write (sl := j.toNatClampNeg) (w := .int (nar .byte x)) ha (Or.inl hsa) (fun h' W KW => kk h' KW (A'.set W (clamp_of hj (by omega)) (fits_nar_b x))) fun vm0 T locs cells slots hK X hZ hown eT => ?_
  exact stB X hK.1 hZ eT A (by rw [AI.size A q1]; exact within hj hi q2) (g := mkF K.m pc ls (.int x :: .int j :: .ref a :: st)) rfl rfl (hb hK.2.1 hd)
theorem go_iastore {a : Addr} {xs : List Int32} {j : Int32} {i : Nat} (A : AI Z h a .int xs) (ha : Z.heap.size ≤ a) (hj : j = Int32.ofNat i) (hi : i < xs.length) (hd : Dec bytes pc .iastore 1 n)
    (kk : ∀ h', Keep h h' [a] → AI Z h' a .int (xs.set i x) → Go l Z a0 EL R own bytes ml ret nm S0 Q K kc ks S h' (mkF K.m n ls st)) : Go l Z a0 EL R own bytes ml ret nm S0 Q K kc ks S h (mkF K.m pc ls (.int x :: .int j :: .ref a :: st)) := by
  obtain ⟨hd, rfl⟩ := hd
  have A' := A
  obtain ⟨c, A, q1, q2, q3⟩ := A
  refine Go.write (sl := j.toNatClampNeg) (w := .int x) ha (Or.inr (AI.safe A' (by decide))) (fun h' W KW => kk h' KW (A'.set W (clamp_of hj (by omega)) rfl)) fun vm0 T locs cells slots hK X hZ hown eT => ?_
  exact stI X hK.1 hZ eT A (by rw [AI.size A q1]; exact within hj hi q2) (g := mkF K.m pc ls (.int x :: .int j :: .ref a :: st)) rfl rfl (hb hK.2.1 hd)
theorem go_putf {R0 O fn d C : String} {idx kn : Nat} {ty : FieldType} {a : Addr} {old u' : Value} (w1 : (Cond.fieldLink own idx R0 fn d).before a0 Z = true) (via : Via Z R0 O fn d) (F : Fld Z h a O fn d old) (E : Exa Z h a C) (L : (Cond.lays C O fn d).before a0 Z = true ∨ ((Cond.laysFinal C O fn d).before a0 Z = true ∧ own = O ∧ nm = "<init>")) (wi : (Cond.instantiable C kn).before a0 Z = true)
    (hty : parseFieldDescriptor d = some ty) (hn : narrow ty u = u') (hf : fits ty u' = true) (ha : Z.heap.size ≤ a) (hsafe : S a ∨ (C ≠ "java/lang/String" ∧ C ≠ "[B")) (hd : Dec bytes pc (.putfield idx) 3 n)
    (kk : ∀ h', Wr h h' a (RoadKit.slotOf Z O fn d) u' → Keep h h' [a] → Exa Z h' a C → Fld Z h' a O fn d u' → Go l Z a0 EL R own bytes ml ret nm S0 Q K kc ks S h' (mkF K.m n ls st)) : Go l Z a0 EL R own bytes ml ret nm S0 Q K kc ks S h (mkF K.m pc ls (u :: .ref a :: st)) := by
  obtain ⟨hd, rfl⟩ := hd
  refine Go.write (sl := RoadKit.slotOf Z O fn d) (w := u') ha (hsafe.imp id fun q vm0 hal => Safe.exa hal E q.1 q.2) (fun h' W KW => kk h' W KW (E.wr W) (F.same W)) fun vm0 T locs cells slots hK X hZ hown eT => ?_
  exact putFN X hK.1 hZ hown w1 via eT F E (L.imp id fun q => ⟨q.1, q.2.1, hK.2.2.2.2.1.trans q.2.2⟩) wi hty hn hf (g := mkF K.m pc ls (u :: .ref a :: st)) rfl rfl (hb hK.2.1 hd)
theorem go_ldcI {idx : Nat} (w1 : (Cond.constant own idx v).before a0 Z = true) (hd : Dec bytes pc (.ldc idx) 2 n) (kk : Go l Z a0 EL R own bytes ml ret nm S0 Q K kc ks S h (mkF K.m n ls (.int v :: st))) : Go l Z a0 EL R own bytes ml ret nm S0 Q K kc ks S h (mkF K.m pc ls st) := by
  obtain ⟨hd, rfl⟩ := hd
  refine Go.calm kk fun vm0 T locs cells slots hK X hZ hown eT hE => ⟨T, X, eT, fun tgt hr => ?_⟩
  exact X.ldcInt hK.1 hown (mvT hZ w1) (g := mkF K.m pc ls st) rfl (hb hK.2.1 hd) _ hr
/-- a call: whatever brings the invocation back to a point at which it stands again -/
theorem Go.call {rc rs : Nat} {f1 : Option Value → JFrame} {QY : (Addr → Prop) → Option Value → Heap → Prop}
    (kk : ∀ S' v h', (∀ x, S x → S' x) → h.size ≤ h'.size → QY S' v h' → Go l Z a0 EL R own bytes ml ret nm S0 Q K kc ks S' h' (f1 v))
    (H : ∀ vm0 T locs cells slots, Kok Z a0 EL bytes ml ret nm K → Stand K.p l K.e R (K.s.setVm vm0) K.m K.args K.below K.meth K.c T locs cells slots → Z.Warmed39 (K.s.setVm vm0).vm → (K.s.setVm vm0).vm.findClass own = some K.m.cls → T.heap = h → CHv Z EL vm0 h → Sf Z EL vm0 h S → Ext Z.heap h → cells + rc ≤ R.cells → slots + rs ≤ R.slots →
      ∃ (v : Option Value) (B : Pt), Stand K.p l K.e R ((K.s.setVm vm0).setVm B.U.vm) K.m K.args K.below K.meth K.c B.U B.locs B.cells B.slots ∧ (K.s.setVm vm0).Since B.U.vm B.U.heap.size ∧ h.size ≤ B.U.heap.size ∧
        (∃ L, ((∃ S', (∀ x, S x → S' x) ∧ Sf Z EL B.U.vm B.U.heap S' ∧ Ext Z.heap B.U.heap ∧ QY S' v B.U.heap) ∧ Fr Z.heap.size L) ∧ B.locs = locs ++ L ∧ B.cells = cells + rc ∧ B.slots = slots + rs ∧ CHr Z EL vm0 h B.U.vm B.U.heap) ∧
        Steps K.p.tables K.e K.below (T.setTop f) (B.U.setTop (f1 v))) : Go l Z a0 EL R own bytes ml ret nm S0 Q K (kc + rc) (ks + rs) S h f := by
  intro hK T hT
  obtain ⟨vm0, k0, locs, cells, slots, X, e1, e2, e3, e4, e5, e6, e7, e8, e9, e10, e11, e12⟩ := hT
  obtain ⟨v, ⟨T2, L2, k2, n2⟩, X2, hSi, hgr, ⟨Lc, ⟨⟨S', m', sf', ex', q⟩, fr⟩, l2, y2, z2, ch⟩, st2⟩ := H vm0 T locs cells slots hK X e4 e5 e1 e6.1 e10 e11 (by omega) (by omega)
  dsimp only [Pt.U, Pt.locs, Pt.cells, Pt.slots] at *
  subst l2 y2 z2
  obtain ⟨t, o, hs, r⟩ := kk S' v T2.heap m' hgr q hK T2 ⟨T2.vm, T2.heap.size, _, _, _, X2, rfl, e2.trans hSi (Nat.le_trans e3 hgr), Nat.le_refl _, State.Warmed39.trans (t := K.s.setVm vm0) e4 hSi.1, (hSi.1.alike.findClass _ _).trans e5, e6.trans ch, Fr.app e7 fr, by omega, by omega, sf', ex', fun x q => m' x (e12 x q)⟩
  exact ⟨t, o, st2.trans hs, r⟩
theorem go_special {y : MethodName} {bY : ByteArray} {mY : Nat} {rm : Room} {as' : Array Value} {QY : (Addr → Prop) → Option Value → Heap → Prop} {idx : Nat} {a : Addr} (argsL rest : List Value) (C : Con l Z EL [] y bY mY none rm as' S h QY)
    (w1 : (Cond.methodLink own idx y).before a0 Z = true) (w2 : (Cond.instanceMethod y).before a0 Z = true) (w3 : (Cond.code y bY mY none).before a0 Z = true) (w4 : (Cond.initialized y.cls).before a0 Z = true) (hy : y.name = "<init>") (hy2 : y.cls ≠ "java/lang/invoke/MethodHandle" ∧ y.cls ≠ "java/lang/invoke/VarHandle")
    (has : as' = (.ref a :: argsL).toArray) (hs : st = argsL.reverse ++ .ref a :: rest) (hlen : ∀ sig, parseMethodDescriptor y.desc = some sig → argsL.length = sig.parameters.length) (hd : Dec bytes pc (.invokespecial idx) 3 n) (hsz : ls.size = ml) (hf : rm.frames + 1 ≤ R.frames) (hW : (rest.map fun v => v.category).sum + (mY + 11) + rm.locals ≤ R.locals)
    {rc rs : Nat} (hrc : rm.cells = rc) (hrs : rm.slots = rs) (kk : ∀ S' v h', (∀ x, S x → S' x) → h.size ≤ h'.size → QY S' v h' → Go l Z a0 EL R own bytes ml ret nm S0 Q K kc ks S' h' (mkF K.m n ls (v.toList ++ rest))) : Go l Z a0 EL R own bytes ml ret nm S0 Q K (kc + rc) (ks + rs) S h (mkF K.m pc ls st) := by
  subst hrc hrs
  obtain ⟨hd, rfl⟩ := hd
  refine Go.call (f1 := fun v => mkF K.m (pc + 3) ls (v.toList ++ rest)) kk fun vm0 T locs cells slots hK X hZ hown eT hC hSf hE hc hl => ?_
  obtain ⟨v, vm₁, B, hwm, X', hSi, hgr, ⟨L, hp⟩, st'⟩ := X.specialBackS hK.1 (y := y) hy hown (mvT hZ w1) (mvT hZ w2) (mvT hZ w3) hy2 (backG (W := (rest.map fun v => v.category).sum) C hZ w3 w4 hf hW hK.2.2.2.2.2.2 hC hSf hE) (g := mkF K.m pc ls st) rfl (hsz.trans hK.2.2.1.symm) (Steps.refl _) (a := a) (argsL := argsL) (rest := rest) hlen hs (by show 2 * 0 + _ ≤ _; simp) (hb hK.2.1 hd) (fun _ _ => ⟨has.symm, eT, hc, hl⟩)
  exact ⟨v, B, X', hSi, by rw [← eT]; exact hgr, ⟨L, hp⟩, st'⟩
theorem go_static {y : MethodName} {bY : ByteArray} {mY : Nat} {rY : Option FieldType} {rm : Room} {as' : Array Value} {QY : (Addr → Prop) → Option Value → Heap → Prop} {idx : Nat} (argsL rest : List Value) (C : Con l Z EL [] y bY mY rY rm as' S h QY)
    (w1 : (Cond.methodLink own idx y).before a0 Z = true) (w2 : (Cond.static y).before a0 Z = true) (w3 : (Cond.code y bY mY rY).before a0 Z = true) (w4 : (Cond.initialized y.cls).before a0 Z = true) (hy2 : y.cls ≠ "java/lang/invoke/MethodHandle" ∧ y.cls ≠ "java/lang/invoke/VarHandle")
    (has : as' = argsL.toArray) (hs : st = argsL.reverse ++ rest) (hlen : ∀ sig, parseMethodDescriptor y.desc = some sig → argsL.length = sig.parameters.length) (hd : Dec bytes pc (.invokestatic idx) 3 n) (hsz : ls.size = ml) (hf : rm.frames + 1 ≤ R.frames) (hW : (rest.map fun v => v.category).sum + (mY + 11) + rm.locals ≤ R.locals)
    {rc rs : Nat} (hrc : rm.cells = rc) (hrs : rm.slots = rs) (kk : ∀ S' v h', (∀ x, S x → S' x) → h.size ≤ h'.size → QY S' v h' → Go l Z a0 EL R own bytes ml ret nm S0 Q K kc ks S' h' (mkF K.m n ls (v.toList ++ rest))) : Go l Z a0 EL R own bytes ml ret nm S0 Q K (kc + rc) (ks + rs) S h (mkF K.m pc ls st) := by
  subst hrc hrs
  obtain ⟨hd, rfl⟩ := hd
  refine Go.call (f1 := fun v => mkF K.m (pc + 3) ls (v.toList ++ rest)) kk fun vm0 T locs cells slots hK X hZ hown eT hC hSf hE hc hl => ?_
  obtain ⟨v, vm₁, B, hwm, X', hSi, hgr, ⟨L, hp⟩, st'⟩ := callSS X hK.1 (y := y) hown (mvT hZ w1) (mvT hZ w2) (mvT hZ w4) (mvT hZ w3) hy2 (backG (W := (rest.map fun v => v.category).sum) C hZ w3 w4 hf hW hK.2.2.2.2.2.2 hC hSf hE) (g := mkF K.m pc ls st) rfl (hsz.trans hK.2.2.1.symm) (argsL := argsL) (rest := rest) hlen hs (by show 2 * 0 + _ ≤ _; simp) (hb hK.2.1 hd) (fun _ _ => ⟨has.symm, eT, hc, hl⟩)
  exact ⟨v, B, X', hSi, by rw [← eT]; exact hgr, ⟨L, hp⟩, st'⟩
theorem go_virtual {y z : MethodName} {D : String} {bY : ByteArray} {mY : Nat} {rY : Option FieldType} {rm : Room} {as' : Array Value} {QY : (Addr → Prop) → Option Value → Heap → Prop} {idx : Nat} {a : Addr} (argsL rest : List Value) (C : Con l Z EL [] z bY mY rY rm as' S h QY) (E : Exa Z h a D)
    (w1 : (Cond.methodLink own idx y).before a0 Z = true) (w2 : (Cond.declares y).before a0 Z = true) (w5 : (Cond.selects D y z).before a0 Z = true) (w6 : (Cond.instanceMethod z).before a0 Z = true) (wnf : ∀ s : State, Z.Warmed39 s.vm → NotFace s y) (w3 : (Cond.code z bY mY rY).before a0 Z = true) (w4 : (Cond.initialized z.cls).before a0 Z = true) (hy2 : y.cls ≠ "java/lang/invoke/MethodHandle" ∧ y.cls ≠ "java/lang/invoke/VarHandle")
    (has : as' = (.ref a :: argsL).toArray) (hs : st = argsL.reverse ++ .ref a :: rest) (hlen : ∀ sig, parseMethodDescriptor y.desc = some sig → argsL.length = sig.parameters.length) (hd : Dec bytes pc (.invokevirtual idx) 3 n) (hsz : ls.size = ml) (hf : rm.frames + 1 ≤ R.frames) (hW : (rest.map fun v => v.category).sum + (mY + 11) + rm.locals ≤ R.locals)
    {rc rs : Nat} (hrc : rm.cells = rc) (hrs : rm.slots = rs) (kk : ∀ S' v h', (∀ x, S x → S' x) → h.size ≤ h'.size → QY S' v h' → Go l Z a0 EL R own bytes ml ret nm S0 Q K kc ks S' h' (mkF K.m n ls (v.toList ++ rest))) : Go l Z a0 EL R own bytes ml ret nm S0 Q K (kc + rc) (ks + rs) S h (mkF K.m pc ls st) := by
  subst hrc hrs
  obtain ⟨hd, rfl⟩ := hd
  refine Go.call (f1 := fun v => mkF K.m (pc + 3) ls (v.toList ++ rest)) kk fun vm0 T locs cells slots hK X hZ hown eT hC hSf hE hc hl => ?_
  obtain ⟨cq, kq, qa, qb, qc⟩ := isOf hZ eT E
  obtain ⟨v, vm₁, B, hwm, X', hSi, hgr, ⟨L, hp⟩, st'⟩ := X.virtualBackS hK.1 (y := y) (z := z) hown (mvT hZ w1) (mvT hZ w2) (wnf _ hZ) (mvT hZ w5) (mvT hZ w6) hy2 (backG (W := (rest.map fun v => v.category).sum) C hZ w3 w4 hf hW hK.2.2.2.2.2.2 hC hSf hE) qa qc (g := mkF K.m pc ls st) rfl (hsz.trans hK.2.2.1.symm) (Steps.refl _) (argsL := argsL) (rest := rest) hlen hs (by show 2 * 0 + _ ≤ _; simp) (hb hK.2.1 hd) (fun _ _ => ⟨has.symm, eT, hc, hl⟩)
  exact ⟨v, B, X', hSi, by rw [← eT]; exact hgr, ⟨L, hp⟩, st'⟩
theorem nfSel {D : String} {y : MethodName} (w : (Cond.selects D y y).before a0 Z = true) : ∀ s : State, Z.Warmed39 s.vm → NotFace s y := fun s hZ => notFace_of_selects (args := #[]) (mvT hZ w)
theorem go_iface {xi z : MethodName} {D : String} {bY : ByteArray} {mY count : Nat} {rY : Option FieldType} {rm : Room} {as' : Array Value} {QY : (Addr → Prop) → Option Value → Heap → Prop} {idx : Nat} {a : Addr} (argsL rest : List Value) (C : Con l Z EL [] z bY mY rY rm as' S h QY) (E : Exa Z h a D)
    (w1 : (Cond.methodLink own idx xi).before a0 Z = true) (w2 : (Cond.declares xi).before a0 Z = true) (w7 : (Cond.interfaceMethod xi.cls xi.cls xi.name xi.desc).before a0 Z = true) (w5 : (Cond.selects D xi z).before a0 Z = true) (w6 : (Cond.instanceMethod z).before a0 Z = true) (w8 : (Cond.publicMethod z).before a0 Z = true) (w9 : (Cond.unhidden D xi.name xi.desc).before a0 Z = true) (w10 : (Cond.castable D xi.cls).before a0 Z = true)
    (hmv : ∀ s : State, ∀ args : Array Value, Z.Warmed39 s.vm → (Cond.interfaceMethod xi.cls xi.cls xi.name xi.desc).before args s = true ∧ (Cond.publicMethod z).before args s = true ∧ (Cond.unhidden D xi.name xi.desc).before args s = true ∧ (Cond.castable D xi.cls).before args s = true)
    (w3 : (Cond.code z bY mY rY).before a0 Z = true) (w4 : (Cond.initialized z.cls).before a0 Z = true) (hy2 : xi.cls ≠ "java/lang/invoke/MethodHandle" ∧ xi.cls ≠ "java/lang/invoke/VarHandle")
    (has : as' = (.ref a :: argsL).toArray) (hs : st = argsL.reverse ++ .ref a :: rest) (hlen : ∀ sig, parseMethodDescriptor xi.desc = some sig → argsL.length = sig.parameters.length) (hd : Dec bytes pc (.invokeinterface idx count) 5 n) (hsz : ls.size = ml) (hf : rm.frames + 1 ≤ R.frames) (hW : (rest.map fun v => v.category).sum + (mY + 11) + rm.locals ≤ R.locals)
    {rc rs : Nat} (hrc : rm.cells = rc) (hrs : rm.slots = rs) (kk : ∀ S' v h', (∀ x, S x → S' x) → h.size ≤ h'.size → QY S' v h' → Go l Z a0 EL R own bytes ml ret nm S0 Q K kc ks S' h' (mkF K.m n ls (v.toList ++ rest))) : Go l Z a0 EL R own bytes ml ret nm S0 Q K (kc + rc) (ks + rs) S h (mkF K.m pc ls st) := by
  subst hrc hrs
  obtain ⟨hd, rfl⟩ := hd
  refine Go.call (f1 := fun v => mkF K.m (pc + 5) ls (v.toList ++ rest)) kk fun vm0 T locs cells slots hK X hZ hown eT hC hSf hE hc hl => ?_
  obtain ⟨cq, kq, qa, qb, qc⟩ := isOf hZ eT E
  obtain ⟨m1, m2, m3, m4⟩ := hmv (K.s.setVm vm0) K.args hZ
  obtain ⟨v, vm₁, B, hwm, X', hSi, hgr, ⟨L, hp⟩, st'⟩ := X.interfaceBackS hK.1 (xi := xi) (y := z) hown (mvT hZ w1) (mvT hZ w2) m1 (mvT hZ w5) (mvT hZ w6) m2 m3 m4 hy2 (backG (W := (rest.map fun v => v.category).sum) C hZ w3 w4 hf hW hK.2.2.2.2.2.2 hC hSf hE) qa qb qc (g := mkF K.m pc ls st) rfl (hsz.trans hK.2.2.1.symm) (Steps.refl _) (argsL := argsL) (rest := rest) hlen hs (by show 2 * 0 + _ ≤ _; simp) (hb hK.2.1 hd) (fun _ _ => ⟨has.symm, eT, hc, hl⟩)
  exact ⟨v, B, X', hSi, by rw [← eT]; exact hgr, ⟨L, hp⟩, st'⟩
/-- ldc of a String constant of EL: a String of these bytes; two cells and 4 slots (and four a sign) may be made -/
theorem go_ldcS {text : String} {idx na nb : Nat} {xs : List Int32} (hnb : na + 4 = nb) (w1 : (Cond.stringLink own idx text).before a0 Z = true) (wS : ∀ a ∈ Bundle.stringAtoms, a.before a0 Z = true) (hmem : (own, idx) ∈ EL) (ht : (∀ c ∈ text.toList, c.toNat < 256) ∧ text.toList.map (fun c => Jvm.Lit.byteI c.toNat.toUInt16) = xs) (hna : 4 * text.toList.length ≤ na) (hbig : na ≤ 536870912) (hd : Dec bytes pc (.ldc idx) 2 n)
    (kk : ∀ S' h' a b, (∀ x, S x → S' x ∧ x ≠ a ∧ x ≠ b) → Ext h h' → a < h'.size → b < h'.size → Exa Z h' a "java/lang/String" → Fld Z h' a "java/lang/String" "coder" "B" (.int 0) → Fld Z h' a "java/lang/String" "value" "[B" (.ref b) → AI Z h' b .byte xs → Go l Z a0 EL R own bytes ml ret nm S0 Q K kc ks S' h' (mkF K.m n ls (.ref a :: st))) : Go l Z a0 EL R own bytes ml ret nm S0 Q K (kc + 2) (ks + nb) S h (mkF K.m pc ls st) := by
  subst hnb
  obtain ⟨hd, rfl⟩ := hd
  intro hK T hT
  obtain ⟨vm0, k0, locs, cells, slots, X, e1, e2, e3, e4, e5, e6, e7, e8, e9, e10, e11, e12⟩ := hT
  have hlen : xs.length = text.toList.length := by rw [← ht.2]; simp
  have hlt : xs.length < 2 ^ 31 := by omega
  obtain ⟨a, T', h', k1, b, k, X', e', E, hS', hk', hW', hown', Ea, Fc, Fv, Av, la, lb, ch, -, ne, st'⟩ := ldcCH X hK.1 e4 e5 w1 wS e1 e2 e3 hK.2.2.2.2.2.2 hmem e6.1 (vs := xs.map Value.int) (z := Int32.ofNat xs.length) ⟨ht.1, by rw [← ht.2]; simp⟩ (by rw [Int32.lt_iff_toInt_lt, toInt_of rfl hlt]; simp) (by rw [clamp_of rfl hlt]; simp) (g := mkF K.m pc ls st) rfl (hb hK.2.1 hd) hna hbig (by omega) (by omega)
  have hC := e6.trans ch
  have sf := e10.step ch
  have hAI : AI Z h' b .byte xs := by
    obtain ⟨c, A, -, r2, -, H, G⟩ := Av
    rw [clamp_of rfl hlt] at r2
    have hsz : c.slots.toList.length = xs.length := by simpa using r2
    refine ⟨c, A, ?_, hlt, fun x hx => ?_⟩
    · apply List.ext_getElem?
      intro i
      by_cases hi : i < xs.length
      · have q := H i (by omega)
        rw [List.getD_eq_getElem?_getD, List.getElem?_map, List.getElem?_eq_getElem hi] at q
        rw [List.getElem?_map, List.getElem?_eq_getElem hi]
        simpa using q
      · rw [List.getElem?_eq_none (by omega), List.getElem?_eq_none (by simp; omega)]
    · obtain ⟨i, hi, rfl⟩ := List.getElem_of_mem hx
      have q := G i (by omega)
      rw [List.getD_eq_getElem?_getD, List.getElem?_map, List.getElem?_eq_getElem hi] at q
      simpa using q
  obtain ⟨t, o, hs, r⟩ := kk S h' a b (fun x q => ⟨q, (ne x (sf x q).1).1, (ne x (sf x q).1).2⟩) E la lb Ea Fc Fv hAI hK T' ⟨T'.vm, k1, locs, _, _, X', e', hS', hk', hW', hown', hC, e7, by omega, by omega, sf, ext_trans e11 E, e12⟩
  exact ⟨t, o, st' _ hs, r⟩
/-- ldc of any String constant: some String -/
theorem go_ldcO {text : String} {idx na nb : Nat} (hnb : na + 4 = nb) (w1 : (Cond.stringLink own idx text).before a0 Z = true) (wS : ∀ a ∈ Bundle.stringAtoms, a.before a0 Z = true) (hna : 4 * text.toList.length ≤ na) (hbig : na ≤ 536870912) (hd : Dec bytes pc (.ldc idx) 2 n)
    (kk : ∀ h' a, Ext h h' → Go l Z a0 EL R own bytes ml ret nm S0 Q K kc ks S h' (mkF K.m n ls (.ref a :: st))) : Go l Z a0 EL R own bytes ml ret nm S0 Q K (kc + 2) (ks + nb) S h (mkF K.m pc ls st) := by
  subst hnb
  obtain ⟨hd, rfl⟩ := hd
  intro hK T hT
  obtain ⟨vm0, k0, locs, cells, slots, X, e1, e2, e3, e4, e5, e6, e7, e8, e9, e10, e11, e12⟩ := hT
  obtain ⟨a, T', h', k1, X', e', E, hS', hk', hW', hown', ch, -, st'⟩ := ldcOH X hK.1 e4 e5 w1 wS e1 e2 e3 hK.2.2.2.2.2.2 e6.1 (g := mkF K.m pc ls st) rfl (hb hK.2.1 hd) hna hbig (by omega) (by omega)
  obtain ⟨t, o, hs, r⟩ := kk h' a E hK T' ⟨T'.vm, k1, locs, _, _, X', e', hS', hk', hW', hown', e6.trans ch, e7, by omega, by omega, e10.step ch, ext_trans e11 E, e12⟩
  exact ⟨t, o, st' _ hs, r⟩
theorem Go.weak {kc' ks' : Nat} (k : Go l Z a0 EL R own bytes ml ret nm S0 Q K kc ks S h f) (h1 : kc ≤ kc') (h2 : ks ≤ ks') : Go l Z a0 EL R own bytes ml ret nm S0 Q K kc' ks' S h f := by
  intro hK T hT
  obtain ⟨vm0, k0, locs, cells, slots, X, e1, e2, e3, e4, e5, e6, e7, e8, e9, e10, e11, e12⟩ := hT
  exact k hK T ⟨vm0, k0, locs, cells, slots, X, e1, e2, e3, e4, e5, e6, e7, by omega, by omega, e10, e11, e12⟩
theorem AI.arv {a : Addr} {ty : FieldType} {xs : List Int32} (A : AI Z h a ty xs) : ∃ k, Arv Z h a k ty (Int32.ofNat xs.length) (xs.map Value.int) (.int 0) := by
  obtain ⟨c, A, q1, q2, q3⟩ := A
  have hs := AI.size A q1
  have ge : ∀ i, i < c.slots.size → ∃ x, xs[i]? = some x ∧ (xs.map Value.int).getD i (.int 0) = .int x := fun i hi => by
    refine ⟨_, List.getElem?_eq_getElem (by omega), ?_⟩
    rw [List.getD_eq_getElem?_getD, List.getElem?_map, List.getElem?_eq_getElem (by omega)]; rfl
  refine ⟨c.cls, c, A, rfl, by rw [clamp_of rfl q2]; exact hs, by rw [Int32.lt_iff_toInt_lt, toInt_of rfl q2]; simp, fun i hi => ?_, fun i hi => ?_⟩
  · obtain ⟨x, e1, e2⟩ := ge i hi
    rw [e2]; exact AI.at q1 e1
  · obtain ⟨x, e1, e2⟩ := ge i hi
    rw [e2]; exact q3 x (List.mem_of_getElem? e1)
theorem AI.of_arv {a : Addr} {ty : FieldType} {xs : List Int32} {k : ClassId} {dv : Value} {N : Nat} (V : Arv Z h a k ty (Int32.ofNat N) (xs.map Value.int) dv) (hN : xs.length = N) (hlt : N < 2 ^ 31) : AI Z h a ty xs := by
  subst hN
  obtain ⟨c, A, -, r2, -, H, G⟩ := V
  rw [clamp_of rfl hlt] at r2
  have hsz : c.slots.toList.length = xs.length := by simpa using r2
  refine ⟨c, A, ?_, hlt, fun x hx => ?_⟩
  · apply List.ext_getElem?
    intro i
    by_cases hi : i < xs.length
    · have q := H i (by omega)
      rw [List.getD_eq_getElem?_getD, List.getElem?_map, List.getElem?_eq_getElem hi] at q
      rw [List.getElem?_map, List.getElem?_eq_getElem hi]
      simpa using q
    · rw [List.getElem?_eq_none (by omega), List.getElem?_eq_none (by simp; omega)]
  · obtain ⟨i, hi, rfl⟩ := List.getElem_of_mem hx
    have q := G i (by omega)
    rw [List.getD_eq_getElem?_getD, List.getElem?_map, List.getElem?_eq_getElem hi] at q
    simpa using q
theorem range_take {xs : List Int32} {sp m : Nat} (hm : sp + m ≤ xs.length) : ((List.range m).map fun i => (xs.map Value.int).getD (sp + i) (.int 0)) = ((xs.drop sp).take m).map Value.int := by
  apply List.ext_getElem?
  intro i
  by_cases hi : i < m
  · rw [List.getElem?_map, List.getElem?_range hi, List.getElem?_map, List.getElem?_take_of_lt hi, List.getElem?_drop, List.getElem?_eq_getElem (by omega)]
    simp [List.getD_eq_getElem?_getD, List.getElem?_eq_getElem (show sp + i < xs.length by omega)]
  · rw [List.getElem?_eq_none (by simp; omega), List.getElem?_eq_none (by simp; omega)]
theorem nfw : nativeFrameWords "java/lang/System" "arraycopy" 5 + 11 = 18 := by decide +kernel
/-- System.arraycopy of ints, bytes, chars, the two arrays of one kind -/
theorem go_acopy {a b : Addr} {ty : FieldType} {xs ys : List Int32} {i1 i2 i3 : Int32} {sp dp m idx : Nat} (A : AI Z h a ty xs) (B : AI Z h b ty ys) (hty : refKind ty = false) (e1 : i1 = Int32.ofNat sp) (e2 : i2 = Int32.ofNat dp) (e3 : i3 = Int32.ofNat m) (h4 : sp + m ≤ xs.length) (h5 : dp + m ≤ ys.length) (hb : Z.heap.size ≤ b) (hsafe : S b ∨ ty ≠ .byte)
    (w1 : (Cond.methodLink own idx Jvm.Stand.acN).before a0 Z = true) (w2 : (Cond.native Jvm.Stand.acN).before a0 Z = true) (w3 : (Cond.static Jvm.Stand.acN).before a0 Z = true) (w4 : (Cond.initialized "java/lang/System").before a0 Z = true) (hd : Dec bytes pc (.invokestatic idx) 3 n) (hsz : ls.size = ml) (hf : 1 ≤ R.frames) (hW : (st.map fun v => v.category).sum + 18 ≤ R.locals)
    (kk : ∀ h', Keep h h' [b] → AI Z h' b ty (ys.take dp ++ (xs.drop sp).take m ++ ys.drop (dp + m)) → Go l Z a0 EL R own bytes ml ret nm S0 Q K kc ks S h' (mkF K.m n ls st)) : Go l Z a0 EL R own bytes ml ret nm S0 Q K kc ks S h (mkF K.m pc ls (.int i3 :: .int i2 :: .ref b :: .int i1 :: .ref a :: st)) := by
  obtain ⟨hd, rfl⟩ := hd
  intro hK T hT
  obtain ⟨vm0, k0, locs, cells, slots, X, q1, q2, q3, q4, q5, q6, q7, q8, q9, q10, q11, q12⟩ := hT
  have lx : xs.length < 2 ^ 31 := by obtain ⟨c, -, -, q, -⟩ := A; exact q
  have ly : ys.length < 2 ^ 31 := by obtain ⟨c, -, -, q, -⟩ := B; exact q
  have hsf : Safe Z EL vm0 h b := by
    rcases hsafe with q | q
    · exact (q10 b q).1
    · exact AI.safe B q vm0 q4.alike
  obtain ⟨kA, VA⟩ := A.arv
  obtain ⟨kB, VB⟩ := B.arv
  have c1 := clamp_of e1 (by omega)
  have c2 := clamp_of e2 (by omega)
  have c3 := clamp_of e3 (by omega)
  have cx := clamp_of (n := Int32.ofNat xs.length) rfl lx
  have cy := clamp_of (n := Int32.ofNat ys.length) rfl ly
  obtain ⟨T', h', L, X', e', fr, KW, V', st'⟩ := cpA X hK.1 q4 q5 w1 w2 w3 w4 q1 VA VB (Or.inl ⟨rfl, hty⟩) (by rw [Int32.lt_iff_toInt_lt, toInt_of e1 (by omega)]; simp) (by rw [Int32.lt_iff_toInt_lt, toInt_of e2 (by omega)]; simp) (by rw [Int32.lt_iff_toInt_lt, toInt_of e3 (by omega)]; simp) (by rw [c1, c3, cx]; exact h4) (by rw [c2, c3, cy]; exact h5) (us := ((xs.drop sp).take m).map Value.int) (by rw [c1, c3]; exact (range_take h4).symm) (by rw [c2, c3]; simpa using h5) q7 hb (g := mkF K.m pc ls (.int i3 :: .int i2 :: .ref b :: .int i1 :: .ref a :: st)) rfl (hsz.trans hK.2.2.1.symm) rfl (Jvm.hb hK.2.1 hd) hf (W := (st.map fun v => v.category).sum) (by show 2 * 0 + _ ≤ _; simp) (by rw [nfw]; exact hW)
  rw [c2, c3] at V'
  have hl : (ys.take dp ++ (xs.drop sp).take m ++ ys.drop (dp + m)).length = ys.length := by simp; omega
  have V2 : Arv Z h' b kB ty (Int32.ofNat ys.length) ((ys.take dp ++ (xs.drop sp).take m ++ ys.drop (dp + m)).map Value.int) (.int 0) := by simpa [List.map_append, List.map_take, List.map_drop] using V'
  have hC := CHr.keep KW (allS hsf all0) q6.1
  have hE : Ext Z.heap h' := (Old.keep (Z := Z) (n0 := Z.heap.size) ⟨rfl, q11⟩ KW (allS hb all0)).2
  obtain ⟨t, o, hs, r⟩ := kk h' KW (AI.of_arv V2 hl ly) hK T' ⟨vm0, k0, L, cells, slots, X', e', q2, Nat.le_trans q3 KW.1, q4, q5, q6.trans hC, fr, q8, q9, q10.step hC, hE, q12⟩
  exact ⟨t, o, st' _ hs, r⟩
theorem go_newarrE {aty : ArrayType} {j : Int32} {N cap : Nat} {ad : String} (w1 : (Cond.arrayClass (newarray.typeOf aty)).before a0 Z = true) (had : "[" ++ (newarray.typeOf aty).toString = ad) (hj : j = Int32.ofNat N) (hN : N ≤ cap) (hcap : cap * 8 ≤ 536870912) (hdv : defaultValue (newarray.typeOf aty) = .int 0) (hft : fits (newarray.typeOf aty) (.int 0) = true) (hd : Dec bytes pc (.newarray aty) 2 n)
    (kk : ∀ S' h' a, a = h.size → (∀ x, S x → S' x) → S' a → Ext h h' → a < h'.size → (AI Z h' a (newarray.typeOf aty) (List.replicate N 0) ∧ Exa Z h' a ad) → Go l Z a0 EL R own bytes ml ret nm S0 Q K kc ks S' h' (mkF K.m n ls (.ref a :: st))) : Go l Z a0 EL R own bytes ml ret nm S0 Q K (kc + 1) (ks + cap) S h (mkF K.m pc ls (.int j :: st)) := by
  obtain ⟨hd, rfl⟩ := hd
  refine Go.make (f' := fun a => mkF K.m (pc + 2) ls (.ref a :: st)) _ kk fun vm0 T locs cells slots hK X hZ hown eT hc hl => ?_
  have hN' : N < 2 ^ 31 := by omega
  obtain ⟨T', h', cA, X', e', E, A, E2, st'⟩ := newPE X hK.1 hZ w1 eT (g := mkF K.m pc ls (.int j :: st)) rfl (hb hK.2.1 hd) (n := j) rfl (by rw [Int32.lt_iff_toInt_lt, toInt_of hj hN']; simp) (cap := cap) (by rw [clamp_of hj hN']; exact hN) hcap hc hl had
  exact ⟨T', h', X', e', E, A.lt, ⟨AI.new A hj hN' hdv hft, E2⟩, st'⟩
theorem go_lswHit {df : Int} {ps : Array (Int × Int)} {a off : Int} {len : Nat} (hd : decode bytes pc = .ok (.lookupswitch df ps, len)) (hs : (ps.toList.zip (ps.toList.drop 1)).all (fun (a, next) => a.1 < next.1) = true) (hf : ps.find? (·.1 == x.toInt) = some (a, off)) (ho : 0 ≤ (pc : Int) + off) (ht : ((pc : Int) + off).toNat = t) (kk : Go l Z a0 EL R own bytes ml ret nm S0 Q K kc ks S h (mkF K.m t ls st)) : Go l Z a0 EL R own bytes ml ret nm S0 Q K kc ks S h (mkF K.m pc ls (.int x :: st)) := by
  subst ht
  refine Go.calm kk fun vm0 T locs cells slots hK X hZ hown eT hE => ⟨T, X, eT, fun tgt hr => ?_⟩
  exact X.lookupswitchHit hK.1 (g := mkF K.m pc ls (.int x :: st)) rfl rfl (hb hK.2.1 hd) hs hf ho _ hr
theorem go_lswMiss {df : Int} {ps : Array (Int × Int)} {len : Nat} (hd : decode bytes pc = .ok (.lookupswitch df ps, len)) (hs : (ps.toList.zip (ps.toList.drop 1)).all (fun (a, next) => a.1 < next.1) = true) (hf : ps.find? (·.1 == x.toInt) = none) (ho : 0 ≤ (pc : Int) + df) (ht : ((pc : Int) + df).toNat = t) (kk : Go l Z a0 EL R own bytes ml ret nm S0 Q K kc ks S h (mkF K.m t ls st)) : Go l Z a0 EL R own bytes ml ret nm S0 Q K kc ks S h (mkF K.m pc ls (.int x :: st)) := by
  subst ht
  refine Go.calm kk fun vm0 T locs cells slots hK X hZ hown eT hE => ⟨T, X, eT, fun tgt hr => ?_⟩
  exact X.lookupswitchMiss hK.1 (g := mkF K.m pc ls (.int x :: st)) rfl rfl (hb hK.2.1 hd) hs hf ho _ hr
theorem go_tswIn {df lo hi off : Int} {os : Array Int} {len : Nat} (hd : decode bytes pc = .ok (.tableswitch df lo hi os, len)) (hin : ¬ (x.toInt < lo ∨ x.toInt > hi)) (hf : os[(x.toInt - lo).toNat]? = some off) (ho : 0 ≤ (pc : Int) + off) (ht : ((pc : Int) + off).toNat = t) (kk : Go l Z a0 EL R own bytes ml ret nm S0 Q K kc ks S h (mkF K.m t ls st)) : Go l Z a0 EL R own bytes ml ret nm S0 Q K kc ks S h (mkF K.m pc ls (.int x :: st)) := by
  subst ht
  refine Go.calm kk fun vm0 T locs cells slots hK X hZ hown eT hE => ⟨T, X, eT, fun tgt hr => ?_⟩
  exact X.tableswitchIn hK.1 (g := mkF K.m pc ls (.int x :: st)) rfl rfl (hb hK.2.1 hd) hin hf ho _ hr
theorem go_private {y y2 x2 : MethodName} {D C2 : String} {bY : ByteArray} {mY : Nat} {rY : Option FieldType} {rm : Room} {as' : Array Value} {QY : (Addr → Prop) → Option Value → Heap → Prop} {idx : Nat} {a : Addr} (argsL rest : List Value) (C : Con l Z EL [] y bY mY rY rm as' S h QY) (E : Exa Z h a D)
    (w1 : (Cond.methodLink own idx y).before a0 Z = true) (w2 : (Cond.instanceMethod y).before a0 Z = true) (wp : (Cond.privateMethod y).before a0 Z = true) (w5 : (Cond.selects C2 x2 y2).before a0 Z = true) (hc2 : y2.cls = y.cls) (w3 : (Cond.code y bY mY rY).before a0 Z = true) (w4 : (Cond.initialized y.cls).before a0 Z = true) (hy2 : y.cls ≠ "java/lang/invoke/MethodHandle" ∧ y.cls ≠ "java/lang/invoke/VarHandle")
    (has : as' = (.ref a :: argsL).toArray) (hs : st = argsL.reverse ++ .ref a :: rest) (hlen : ∀ sig, parseMethodDescriptor y.desc = some sig → argsL.length = sig.parameters.length) (hd : Dec bytes pc (.invokevirtual idx) 3 n) (hsz : ls.size = ml) (hf : rm.frames + 1 ≤ R.frames) (hW : (rest.map fun v => v.category).sum + (mY + 11) + rm.locals ≤ R.locals)
    {rc rs : Nat} (hrc : rm.cells = rc) (hrs : rm.slots = rs) (kk : ∀ S' v h', (∀ x, S x → S' x) → h.size ≤ h'.size → QY S' v h' → Go l Z a0 EL R own bytes ml ret nm S0 Q K kc ks S' h' (mkF K.m n ls (v.toList ++ rest))) : Go l Z a0 EL R own bytes ml ret nm S0 Q K (kc + rc) (ks + rs) S h (mkF K.m pc ls st) := by
  subst hrc hrs
  obtain ⟨hd, rfl⟩ := hd
  refine Go.call (f1 := fun v => mkF K.m (pc + 3) ls (v.toList ++ rest)) kk fun vm0 T locs cells slots hK X hZ hown eT hC hSf hE hc hl => ?_
  obtain ⟨c2, r2, m2, -, -, q3, -, kP, hkP, hkPi⟩ := Cond.selects_spec (mvT (args := K.args) hZ w5)
  have hcf := findClass_of_methodNamed q3
  rw [hc2] at hcf
  have hpr : (K.s.setVm vm0).PrivateAt y := Cond.privateMethod_at (mvP hZ wp (args := #[]))
  have hsel : (Cond.selects y.cls y y).before K.args (K.s.setVm vm0) = true := selects_self_of_private hcf hkP hkPi hpr (mvT hZ w2) hy2
  obtain ⟨cq, qa, qb⟩ := E.cell
  obtain ⟨v, vm₁, B, hwm, X', hSi, hgr, ⟨L, hp⟩, st'⟩ := X.privateBackS hK.1 (y := y) hown (mvT hZ w1) (mvT hZ w2) hsel hpr (mvT hZ w3) hy2 (backG (W := (rest.map fun v => v.category).sum) C hZ w3 w4 hf hW hK.2.2.2.2.2.2 hC hSf hE) (g := mkF K.m pc ls st) rfl (hsz.trans hK.2.2.1.symm) (Steps.refl _) (a := a) (cell := cq) (by rw [eT]; exact qa) qb (argsL := argsL) (rest := rest) hlen hs (by show 2 * 0 + _ ≤ _; simp) (hb hK.2.1 hd) (fun _ _ => ⟨has.symm, eT, hc, hl⟩)
  exact ⟨v, B, X', hSi, by rw [← eT]; exact hgr, ⟨L, hp⟩, st'⟩
end Rules
end Jvm.GoK
namespace Jvm.GoK
open Jvm Jvm.ClassFile Sem Op Lib Jvm.Free Jvm.Stand Jvm.LawKit Jvm.RoadKit Bundle
/-- the byte that is left of a char, as an int -/
def lo8 (x : Int32) : Int32 := x.toInt8.toInt32
theorem nar_lo8 (x : Int32) : nar .byte (lo8 x) = lo8 x := by
  show (x.toInt8.toInt32).toInt8.toInt32 = x.toInt8.toInt32
  simp
theorem fits_lo8 (x : Int32) : fits .byte (.int (lo8 x)) = true := fits_nar_byte x
theorem ofNat_lt {i n : Nat} (h : i < n) (hn : n < 2 ^ 31) : Int32.ofNat i < Int32.ofNat n := by
  rw [Int32.lt_iff_toInt_lt, Int32.toInt_ofNat_of_lt (by omega), Int32.toInt_ofNat_of_lt (by omega)]
  omega
theorem ofNat_nlt {i n : Nat} (h : n ≤ i) (hn : i < 2 ^ 31) : ¬ Int32.ofNat i < Int32.ofNat n := by
  rw [Int32.lt_iff_toInt_lt, Int32.toInt_ofNat_of_lt (by omega), Int32.toInt_ofNat_of_lt (by omega)]
  omega
theorem ofNat_lt_iff {i n : Nat} (hi : i < 2 ^ 31) (hn : n < 2 ^ 31) : Int32.ofNat i < Int32.ofNat n ↔ i < n := by
  rw [Int32.lt_iff_toInt_lt, Int32.toInt_ofNat_of_lt (by omega), Int32.toInt_ofNat_of_lt (by omega)]
  omega
theorem ofNat_inj {i n : Nat} (hi : i < 2 ^ 31) (hn : n < 2 ^ 31) : Int32.ofNat i = Int32.ofNat n ↔ i = n := by
  rw [← Int32.toInt_inj, Int32.toInt_ofNat_of_lt (by omega), Int32.toInt_ofNat_of_lt (by omega)]
  omega
theorem ofNat_add (i n : Nat) : Int32.ofNat i + Int32.ofNat n = Int32.ofNat (i + n) := (Int32.ofNat_add i n).symm
theorem ofNat_inc (i : Nat) : Int32.ofNat i + Int32.ofInt 1 = Int32.ofNat (i + 1) := (Int32.ofNat_add i 1).symm
theorem ofNat_sub {i n : Nat} (h : n ≤ i) : Int32.ofNat i - Int32.ofNat n = Int32.ofNat (i - n) := by
  have e : Int32.ofNat i = Int32.ofNat (i - n) + Int32.ofNat n := by rw [ofNat_add]; congr 1; omega
  rw [e, Int32.add_sub_cancel]
theorem set_fill {cs : List Int32} {i n : Nat} {c : Int32} (f : Int32 → Int32) (hn : cs.length = n) (hc : cs[i]? = some c) :
    (((cs.take i).map f ++ List.replicate (n - i) 0).set i (f c)) = (cs.take (i + 1)).map f ++ List.replicate (n - (i + 1)) 0 := by
  have hi := (List.getElem?_eq_some_iff.mp hc).1
  have hl : ((cs.take i).map f).length = i := by simp; omega
  rw [List.set_append_right _ _ (by omega), hl, Nat.sub_self]
  obtain ⟨m, hm⟩ : ∃ m, n - i = m + 1 := ⟨n - i - 1, by omega⟩
  rw [hm, List.replicate_succ, List.set_cons_zero, List.take_add_one, hc]
  have : n - (i + 1) = m := by omega
  rw [this]
  simp
theorem fill_len {cs : List Int32} {i n : Nat} (f : Int32 → Int32) (hn : cs.length = n) (hi : i ≤ n) : ((cs.take i).map f ++ List.replicate (n - i) (0 : Int32)).length = n := by
  simp; omega
theorem own_nar_ref {u : Value} {ty : FieldType} (h : u.isRef = true) : narrow ty u = u := by
  rcases ref_cases h with rfl | ⟨a, rfl⟩ <;> cases ty <;> rfl
theorem own_and255 (x : Int32) : ¬ (255 : Int32) < (x &&& 255) := by
  have t : ∀ k : Fin 256, ¬ (255 : Int32) < Int32.ofNat k.val := by decide +kernel
  have h : (x &&& 255).toBitVec.toNat < 256 := by
    simp only [Int32.toBitVec_and, BitVec.toNat_and]
    exact Nat.lt_succ_of_le Nat.and_le_right
  have e : (x &&& 255) = Int32.ofNat (x &&& 255).toBitVec.toNat := by
    apply Int32.toBitVec_inj.mp
    show _ = BitVec.ofNat 32 _
    rw [BitVec.ofNat_toNat]; simp
  rw [e]
  exact t ⟨_, h⟩
theorem own_eqint {args : Array Value} {first s : State} {o : Option Outcome} {idx : List Nat} {t : Term} {n : Int32} (h : (Jvm.Cond.eq t (.int n)).value args first o s idx = some true) : t.eval args first o idx s = some (.int n) := by
  obtain ⟨x, y, e1, e2, -, -⟩ := cmp_v (Or.inl h)
  have e3 : y = .int n := Option.some.inj (e2.symm.trans (Term.int_eval n))
  subst e3
  cases x <;> simp [Cond.value, e1, e2] at h
  subst h; exact e1
theorem fa1 {P : Int32 → Prop} {a : Int32} (ha : P a) : ∀ c ∈ [a], P c := List.forall_mem_cons.mpr ⟨ha, fun _ h => by cases h⟩
theorem fa2 {P : Int32 → Prop} {a b : Int32} (ha : P a) (hb : P b) : ∀ c ∈ [a, b], P c := List.forall_mem_cons.mpr ⟨ha, fa1 hb⟩
theorem lt_nat {a b : Nat} (h : a < b) : a < b := h
theorem ne_of {a b : Nat} (h : a < b ∨ b < a) : a ≠ b := by omega
end Jvm.GoK
namespace Jvm.GoK
open Jvm Jvm.ClassFile Sem Op Lib Jvm.Free Jvm.Stand Jvm.LawKit Jvm.RoadKit Bundle
/-- a char's two bytes, the low one first -/
def two (c : Int32) : List Int32 := [lo8 c, lo8 (c >>> 8)]
/-- a String's bytes, by its coder -/
def sbytes (k : Int32) (cs : List Int32) : List Int32 := if k = 0 then cs.map lo8 else cs.flatMap two
theorem sbytes0 (cs : List Int32) : sbytes 0 cs = cs.map lo8 := rfl
theorem sbytes1 (cs : List Int32) : sbytes 1 cs = cs.flatMap two := rfl
def isCh (c : Int32) : Prop := fits .char (.int c) = true
/-- the String at x: its chars cs, its byte[] b, its coder k -/
def Str (Z : State) (h : Heap) (x : Addr) (cs : List Int32) (b : Addr) (k : Int32) : Prop :=
  Exa Z h x "java/lang/String" ∧ Fld Z h x "java/lang/String" "coder" "B" (.int k) ∧ Fld Z h x "java/lang/String" "value" "[B" (.ref b) ∧ AI Z h b .byte (sbytes k cs) ∧
  ((k = 0 ∧ ∀ c ∈ cs, ¬ (255 : Int32) < c) ∨ (k = 1 ∧ ∃ c ∈ cs, (255 : Int32) < c)) ∧ (∀ c ∈ cs, isCh c) ∧ cs.length < 2 ^ 29
section
variable {Z : State} {h h' : Heap} {x b : Addr} {cs : List Int32} {k : Int32} {ws : List Addr}
theorem Str.keep (F : Str Z h x cs b k) (K : Keep h h' ws) (hx : x ∉ ws) (hb : b ∉ ws) : Str Z h' x cs b k :=
  ⟨F.1.keep K, F.2.1.keep K hx, F.2.2.1.keep K hx, F.2.2.2.1.keep K hb, F.2.2.2.2⟩
theorem Str.ext (F : Str Z h x cs b k) (E : Ext h h') : Str Z h' x cs b k := ⟨F.1.ext E, F.2.1.ext E, F.2.2.1.ext E, F.2.2.2.1.ext E, F.2.2.2.2⟩
theorem Str.lx (F : Str Z h x cs b k) : x < h.size := F.1.lt
theorem Str.lb (F : Str Z h x cs b k) : b < h.size := F.2.2.2.1.lt
end
theorem AI.len {Z : State} {h : Heap} {a : Addr} {ty : FieldType} {xs : List Int32} (A : AI Z h a ty xs) : xs.length < 2 ^ 31 := by obtain ⟨c, -, -, q, -⟩ := A; exact q
theorem nar_cod {k : Int32} {cs : List Int32} (h : (k = 0 ∧ ∀ c ∈ cs, ¬ (255 : Int32) < c) ∨ (k = 1 ∧ ∃ c ∈ cs, (255 : Int32) < c)) : narrow .byte (.int k) = .int k := by
  rcases h with ⟨rfl, -⟩ | ⟨rfl, -⟩ <;> rfl
theorem fits_cod {k : Int32} {cs : List Int32} (h : (k = 0 ∧ ∀ c ∈ cs, ¬ (255 : Int32) < c) ∨ (k = 1 ∧ ∃ c ∈ cs, (255 : Int32) < c)) : fits .byte (.int k) = true := by
  rcases h with ⟨rfl, -⟩ | ⟨rfl, -⟩ <;> decide
theorem isCh_iff {c : Int32} : isCh c ↔ 0 ≤ c.toInt ∧ c.toInt ≤ 65535 := by
  have e1 : (65535 : Int32).toInt = 65535 := rfl
  simp only [isCh, fits, Bool.and_eq_true, decide_eq_true_eq, Int32.le_iff_toInt_le, Int32.toInt_zero, e1]
theorem lt255 {c : Int32} : (255 : Int32) < c ↔ 255 < c.toInt := by
  have e1 : (255 : Int32).toInt = 255 := rfl
  rw [Int32.lt_iff_toInt_lt, e1]
theorem isCh_ofNat {c : Int32} (h : isCh c) : ∃ n : Nat, n < 65536 ∧ c = Int32.ofNat n := by
  obtain ⟨h1, h2⟩ := isCh_iff.mp h
  refine ⟨c.toInt.toNat, by omega, ?_⟩
  apply Int32.toInt_inj.mp
  rw [Int32.toInt_ofNat_of_lt (by omega)]
  omega
theorem flat_len (cs : List Int32) : (cs.flatMap two).length = 2 * cs.length := by
  induction cs with
  | nil => rfl
  | cons c cs ih => simp [List.flatMap_cons, two, ih]; omega
theorem flat_lo {cs : List Int32} {i : Nat} {c : Int32} (hc : cs[i]? = some c) : (cs.flatMap two)[2 * i]? = some (lo8 c) := by
  induction cs generalizing i with
  | nil => simp at hc
  | cons d cs ih =>
    cases i with
    | zero => simp at hc; subst hc; rfl
    | succ i =>
      rw [List.flatMap_cons, show 2 * (i + 1) = 2 * i + 2 by omega]
      have := ih (i := i) (by simpa using hc)
      simpa [two] using this
theorem flat_hi {cs : List Int32} {i : Nat} {c : Int32} (hc : cs[i]? = some c) : (cs.flatMap two)[2 * i + 1]? = some (lo8 (c >>> 8)) := by
  induction cs generalizing i with
  | nil => simp at hc
  | cons d cs ih =>
    cases i with
    | zero => simp at hc; subst hc; rfl
    | succ i =>
      rw [List.flatMap_cons, show 2 * (i + 1) + 1 = 2 * i + 1 + 2 by omega]
      have := ih (i := i) (by simpa using hc)
      simpa [two] using this
theorem flat_take {cs : List Int32} {i : Nat} {c : Int32} (hc : cs[i]? = some c) : (cs.take (i + 1)).flatMap two = (cs.take i).flatMap two ++ two c := by
  rw [List.take_add_one, hc, List.flatMap_append]
  simp
theorem set_two {cs : List Int32} {i n : Nat} {c : Int32} (hn : cs.length = n) (hc : cs[i]? = some c) :
    ((((cs.take i).flatMap two ++ List.replicate (2 * n - 2 * i) 0).set (2 * i) (lo8 c)).set (2 * i + 1) (lo8 (c >>> 8))) = (cs.take (i + 1)).flatMap two ++ List.replicate (2 * n - 2 * (i + 1)) 0 := by
  have hi := (List.getElem?_eq_some_iff.mp hc).1
  have hl : ((cs.take i).flatMap two).length = 2 * i := by rw [flat_len]; simp; omega
  rw [flat_take hc, List.set_append_right _ _ (by omega), hl, Nat.sub_self]
  obtain ⟨m, hm⟩ : ∃ m, 2 * n - 2 * i = m + 2 := ⟨2 * n - 2 * i - 2, by omega⟩
  rw [hm, List.replicate_succ, List.replicate_succ, List.set_cons_zero, List.set_append_right _ _ (by omega), hl]
  have e : 2 * i + 1 - 2 * i = 1 := by omega
  have e2 : 2 * n - 2 * (i + 1) = m := by omega
  rw [e, e2]
  simp [two]
theorem fill2_len {cs : List Int32} {i n : Nat} (hn : cs.length = n) (hi : i ≤ n) : ((cs.take i).flatMap two ++ List.replicate (2 * n - 2 * i) (0 : Int32)).length = 2 * n := by
  rw [List.length_append, flat_len]; simp; omega
theorem lat_or (cs : List Int32) : (∀ c ∈ cs, ¬ (255 : Int32) < c) ∨ ∃ (k : Nat) (c : Int32), cs[k]? = some c ∧ (255 : Int32) < c ∧ ∀ (i : Nat) (d : Int32), i < k → cs[i]? = some d → ¬ (255 : Int32) < d := by
  induction cs with
  | nil => left; simp
  | cons d cs ih =>
    by_cases hd : (255 : Int32) < d
    · right; exact ⟨0, d, rfl, hd, fun i e hi => absurd hi (by omega)⟩
    · rcases ih with ih | ⟨k, c, h1, h2, h3⟩
      · left; intro c hc
        rcases List.mem_cons.mp hc with rfl | hc
        · exact hd
        · exact ih c hc
      · right
        refine ⟨k + 1, c, by simpa using h1, h2, fun i e hi he => ?_⟩
        cases i with
        | zero => simp at he; subst he; exact hd
        | succ i => exact h3 i e (by omega) (by simpa using he)
theorem sh0 (c : Int32) : c >>> ((0 : Int32) &&& 31) = c := by
  apply Int32.toBitVec_inj.mp
  simp
theorem shl0 (c : Int32) : c <<< ((0 : Int32) &&& 31) = c := by
  apply Int32.toBitVec_inj.mp
  simp
theorem sh8 (c : Int32) : c >>> ((8 : Int32) &&& 31) = c >>> 8 := rfl
theorem shl8 (c : Int32) : c <<< ((8 : Int32) &&& 31) = c <<< 8 := rfl
theorem ofNat_shl1 {i : Nat} : Int32.ofNat i <<< ((1 : Int32) &&& 31) = Int32.ofNat (2 * i) := by
  have e : Int32.ofNat i <<< ((1 : Int32) &&& 31) = Int32.ofNat i <<< (1 : Int32) := rfl
  rw [e]
  apply Int32.toBitVec_inj.mp
  show BitVec.ofNat 32 i <<< _ = BitVec.ofNat 32 (2 * i)
  apply BitVec.eq_of_toNat_eq
  have e2 : (Int32.toBitVec 1).smod 32 = 1#32 := by decide
  simp [Nat.shiftLeft_eq, Nat.mul_comm]
theorem toInt_bv {i : Nat} (h : i < 2 ^ 31) : (BitVec.ofNat 32 i).toInt = i := by
  show (Int32.ofNat i).toInt = i
  exact Int32.toInt_ofNat_of_lt (by omega)
theorem shrK {i k : Nat} (h : i < 2 ^ 31) : (⟨⟨(BitVec.ofNat 32 i).sshiftRight k⟩⟩ : Int32) = Int32.ofNat (i / 2 ^ k) := by
  have hle : i / 2 ^ k ≤ i := Nat.div_le_self _ _
  apply Int32.toInt_inj.mp
  show BitVec.toInt ((BitVec.ofNat 32 i).sshiftRight k) = _
  rw [BitVec.toInt_sshiftRight, Int32.toInt_ofNat_of_lt (by omega), toInt_bv h, Int.shiftRight_eq_div_pow]
  norm_cast
theorem shr1 {i : Nat} (h : i < 2 ^ 31) : Int32.ofNat i >>> ((1 : Int32) &&& 31) = Int32.ofNat (i / 2) := shrK (k := 1) h
theorem shr0 {i : Nat} : Int32.ofNat i >>> ((0 : Int32) &&& 31) = Int32.ofNat i := sh0 _
theorem mask8 {n : Nat} (h : n < 256) : lo8 (Int32.ofNat n) &&& 255 = Int32.ofNat n := by
  have t : ∀ k : Fin 256, lo8 (Int32.ofNat k.val) &&& 255 = Int32.ofNat k.val := by decide +kernel
  exact t ⟨n, h⟩
theorem lat_mask {c : Int32} (h1 : isCh c) (h2 : ¬ (255 : Int32) < c) : lo8 c &&& 255 = c := by
  obtain ⟨n, hn, rfl⟩ := isCh_ofNat h1
  rw [lt255, Int32.toInt_ofNat_of_lt (by omega)] at h2
  exact mask8 (by omega)
theorem i2c_ch {c : Int32} (h : isCh c) : c.toUInt32.toUInt16.toUInt32.toInt32 = c := by
  obtain ⟨n, hn, rfl⟩ := isCh_ofNat h
  apply Int32.toBitVec_inj.mp
  apply BitVec.eq_of_toNat_eq
  simp
  omega
theorem nar_ch {c : Int32} (h : isCh c) : nar .char c = c := i2c_ch h
theorem shr8 {i : Nat} (h : i < 2 ^ 31) : Int32.ofNat i >>> (8 : Int32) = Int32.ofNat (i / 256) := shrK (k := 8) h
theorem lo8_mod (n : Nat) : lo8 (Int32.ofNat n) = lo8 (Int32.ofNat (n % 256)) := by
  show (Int32.ofNat n).toInt8.toInt32 = (Int32.ofNat (n % 256)).toInt8.toInt32
  congr 1
  apply Int8.toBitVec_inj.mp
  apply BitVec.eq_of_toNat_eq
  simp
theorem ofNat_shl8 {i : Nat} : Int32.ofNat i <<< (8 : Int32) = Int32.ofNat (i * 256) := by
  apply Int32.toBitVec_inj.mp
  show BitVec.ofNat 32 i <<< _ = BitVec.ofNat 32 (i * 256)
  apply BitVec.eq_of_toNat_eq
  simp [Nat.shiftLeft_eq]
theorem ofNat_or {a b : Nat} : (Int32.ofNat a ||| Int32.ofNat b) = Int32.ofNat (a ||| b) := by
  apply Int32.toBitVec_inj.mp
  show BitVec.ofNat 32 a ||| BitVec.ofNat 32 b = BitVec.ofNat 32 (a ||| b)
  apply BitVec.eq_of_toNat_eq
  simp
theorem join16 {c : Int32} (h : isCh c) : ((lo8 c &&& (255 : Int32)) ||| ((lo8 (c >>> (8 : Int32)) &&& (255 : Int32)) <<< (8 : Int32))) = c := by
  obtain ⟨n, hn, rfl⟩ := isCh_ofNat h
  rw [lo8_mod, mask8 (Nat.mod_lt _ (by omega)), shr8 (by omega), mask8 (by omega), ofNat_shl8, ofNat_or]
  congr 1
  have h1 := Nat.shiftLeft_add_eq_or_of_lt (show n % 256 < 2 ^ 8 by omega) (n / 256)
  rw [Nat.shiftLeft_eq] at h1
  rw [Nat.or_comm, ← h1]
  omega
theorem cod1 {n : Nat} (h1 : 0 < n) (h2 : n < 2 ^ 29) : XT.ushr (Int32.ofNat n - Int32.ofNat (2 * n)) 31 = 1 := by
  have e : Int32.ofNat n - Int32.ofNat (2 * n) = Int32.ofNat (2 ^ 32 - n) := by
    apply Int32.toBitVec_inj.mp
    apply BitVec.eq_of_toNat_eq
    simp
    omega
  rw [e]
  apply Int32.toBitVec_inj.mp
  apply BitVec.eq_of_toNat_eq
  show (BitVec.ofNat 32 (2 ^ 32 - n) >>> 31).toNat = 1
  simp [Nat.shiftRight_eq_div_pow]
  omega
end Jvm.GoK
namespace Jvm.GoK
open Jvm Jvm.ClassFile Sem Op Lib Jvm.Free Jvm.Stand Jvm.LawKit Jvm.RoadKit Bundle
theorem flat_takes (cs : List Int32) (e : Nat) : (cs.flatMap two).take (2 * e) = (cs.take e).flatMap two := by
  induction cs generalizing e with
  | nil => simp
  | cons c cs ih =>
    cases e with
    | zero => simp
    | succ e =>
      rw [List.flatMap_cons, List.take_succ_cons, List.flatMap_cons, show 2 * (e + 1) = 2 * e + 2 by omega]
      simp [two, ih]
theorem or_nneg {a b : Nat} (ha : a < 2 ^ 31) (hb : b < 2 ^ 31) : ¬ (Int32.ofNat a ||| Int32.ofNat b) < 0 := by
  rw [ofNat_or]
  exact ofNat_nlt (n := 0) (Nat.zero_le _) (Nat.or_lt_two_pow ha hb)
theorem or_lt31 {a b : Nat} (ha : a < 2 ^ 31) (hb : b < 2 ^ 31) : a ||| b < 2 ^ 31 := Nat.or_lt_two_pow ha hb
end Jvm.GoK
namespace Jvm.Pilot.@@N@@
open Jvm Jvm.ClassFile Sem Op Lib Jvm.Free Jvm.Stand Jvm.LawKit Jvm.RoadKit Bundle Jvm.GoK Jvm.Pilot.@@N@@.Jvm.D
def own_EL : List (String × Nat) := [("java/lang/String", 7)]
theorem own_atoms {Z : State} {a0 : Array Value} (hw : ∀ d ∈ tables_1, d.before a0 Z = true) : ∀ a ∈ Bundle.stringAtoms, a.before a0 Z = true := fun d hd => hw d ((by decide +kernel : ∀ d ∈ Bundle.stringAtoms, d ∈ tables_1) d hd)
theorem d0_3 : Dec jdk_52_method_21_code 3 (.iload 5) 2 5 := ⟨by decide +kernel, rfl⟩
theorem d0_5 : Dec jdk_52_method_21_code 5 (.iload 4) 2 7 := ⟨by decide +kernel, rfl⟩
theorem d0_7 : Brn jdk_52_method_21_code 7 (.if_icmp .ge 37) 37 10 44 := ⟨by decide +kernel, rfl, by decide, by decide⟩
theorem d0_44 : Dec jdk_52_method_21_code 44 (.iload 4) 2 46 := ⟨by decide +kernel, rfl⟩
theorem d0_46 : Dec jdk_52_method_21_code 46 (.ireturn) 1 47 := ⟨by decide +kernel, rfl⟩
theorem d0_10 : Dec jdk_52_method_21_code 10 (.aload_n 0) 1 11 := ⟨by decide +kernel, rfl⟩
theorem d0_11 : Dec jdk_52_method_21_code 11 (.iload_n 1) 1 12 := ⟨by decide +kernel, rfl⟩
theorem d0_12 : Dec jdk_52_method_21_code 12 (.caload) 1 13 := ⟨by decide +kernel, rfl⟩
theorem d0_13 : Dec jdk_52_method_21_code 13 (.istore 6) 2 15 := ⟨by decide +kernel, rfl⟩
theorem d0_15 : Dec jdk_52_method_21_code 15 (.iload 6) 2 17 := ⟨by decide +kernel, rfl⟩
theorem d0_17 : Dec jdk_52_method_21_code 17 (.sipush 255) 3 20 := ⟨by decide +kernel, rfl⟩
theorem d0_20 : Brn jdk_52_method_21_code 20 (.if_icmp .le 6) 6 23 26 := ⟨by decide +kernel, rfl, by decide, by decide⟩
theorem d0_26 : Dec jdk_52_method_21_code 26 (.aload_n 2) 1 27 := ⟨by decide +kernel, rfl⟩
theorem d0_27 : Dec jdk_52_method_21_code 27 (.iload_n 3) 1 28 := ⟨by decide +kernel, rfl⟩
theorem d0_28 : Dec jdk_52_method_21_code 28 (.iload 6) 2 30 := ⟨by decide +kernel, rfl⟩
theorem d0_30 : Dec jdk_52_method_21_code 30 (.i2b) 1 31 := ⟨by decide +kernel, rfl⟩
theorem d0_31 : Dec jdk_52_method_21_code 31 (.bastore) 1 32 := ⟨by decide +kernel, rfl⟩
theorem d0_32 : Dec jdk_52_method_21_code 32 (.iinc 1 1) 3 35 := ⟨by decide +kernel, rfl⟩
theorem d0_35 : Dec jdk_52_method_21_code 35 (.iinc 3 1) 3 38 := ⟨by decide +kernel, rfl⟩
theorem d0_38 : Dec jdk_52_method_21_code 38 (.iinc 5 1) 3 41 := ⟨by decide +kernel, rfl⟩
theorem d0_41 : Brn jdk_52_method_21_code 41 (.goto (-38)) (-38) 44 3 := ⟨by decide +kernel, rfl, by decide, by decide⟩
theorem d0_23 : Dec jdk_52_method_21_code 23 (.iload 5) 2 25 := ⟨by decide +kernel, rfl⟩
theorem d0_25 : Dec jdk_52_method_21_code 25 (.ireturn) 1 26 := ⟨by decide +kernel, rfl⟩
theorem d0_0 : Dec jdk_52_method_21_code 0 (.iconst 0) 1 1 := ⟨by decide +kernel, rfl⟩
theorem d0_1 : Dec jdk_52_method_21_code 1 (.istore 5) 2 3 := ⟨by decide +kernel, rfl⟩
theorem pn0 : plainName "java/lang/StringUTF16" = true := by first | (simp [plainName, overriddenIn]; done) | decide +kernel
set_option maxRecDepth 65536 in
set_option maxHeartbeats 40000000 in
theorem c_cmp1 (l : Launch) (Z : State) (a0 : Array Value) (hw : ∀ d ∈ tables_1, d.before a0 Z = true) (hEL : EW Z a0 own_EL) (src dst : Addr) (cs : List Int32) (k : Nat) (S : Addr → Prop) (h0 : Heap) (hz : Z.heap.size ≤ h0.size) (A1 : AI Z h0 src .char cs) (A2 : AI Z h0 dst .byte (List.replicate cs.length 0)) (gd : Z.heap.size ≤ dst) (sd : S dst) (hk : k ≤ cs.length) (hpre : ∀ i c, i < k → cs[i]? = some c → ¬ (255 : Int32) < c) (hat : ∀ c, cs[k]? = some c → (255 : Int32) < c) :
    Con l Z own_EL [] (⟨"java/lang/StringUTF16", "compress", "([CI[BII)I"⟩ : MethodName) jdk_52_method_21_code 7 (some .int) ({ frames := 0, cells := 0, slots := 0, locals := 0 } : Room) #[.ref src, .int (0 : Int32), .ref dst, .int (0 : Int32), .int (Int32.ofNat cs.length)] S h0 (fun S' v h' => v = some (.int (Int32.ofNat k)) ∧ Keep h0 h' [dst] ∧ AI Z h' dst .byte ((cs.take k).map lo8 ++ List.replicate (cs.length - k) 0) ∧ ∀ x, S x → S' x) := by
  have hlen : cs.length < 2 ^ 31 := by obtain ⟨c, -, -, q, -⟩ := A1; exact q
  have hne : src ≠ dst := A1.ne_ty A2 (by decide)
  refine con_of_go (ls := #[.val (.ref src), .val (.int (0 : Int32)), .val (.ref dst), .val (.int (0 : Int32)), .val (.int (Int32.ofNat cs.length)), .unset, .unset]) (plainFor_of_name pn0) hEL (fun m => by first | rfl | (simp [entryFrame, mkF, argsToLocals, cat_int, cat_ref, cat_null, cat_long]; done)) (fun K => ?_)
  show Go _ _ _ _ _ _ _ _ _ _ _ _ _ 0 0 _ _ _
  have loop : ∀ r i, i + r = cs.length → i ≤ k → ∀ (s6 : Slot) (hs6 : s6 = .unset ∨ ∃ w, s6 = .val w ∧ w.category = 1) (h1 : Heap), Keep h0 h1 [dst] → AI Z h1 src .char cs → AI Z h1 dst .byte ((cs.take i).map lo8 ++ List.replicate (cs.length - i) 0) → Go l Z a0 own_EL ({ frames := 0, cells := 0, slots := 0, locals := 0 } : Room) "java/lang/StringUTF16" jdk_52_method_21_code 7 (some .int) "compress" S (fun S' v h' => v = some (.int (Int32.ofNat k)) ∧ Keep h0 h' [dst] ∧ AI Z h' dst .byte ((cs.take k).map lo8 ++ List.replicate (cs.length - k) 0) ∧ ∀ x, S x → S' x) K 0 0 S h1 (mkF K.m 3 #[.val (.ref src), .val (.int (Int32.ofNat i)), .val (.ref dst), .val (.int (Int32.ofNat i)), .val (.int (Int32.ofNat cs.length)), .val (.int (Int32.ofNat i)), s6] []) := by
    intro r
    induction r with
    | zero =>
      intro i hi hik0 s6 hs6 h1 Kp B1 B2
      refine go_iload d0_3 rfl ?_
      refine go_iload d0_5 rfl ?_
      refine go_icmpge d0_7 (fun c1011 => ?_) (fun c1011 => absurd c1011 (ofNat_nlt (by omega) (by omega)))
      refine go_iload d0_44 rfl ?_
      exact go_ireturn (ty := .int) (v := (Int32.ofNat cs.length)) d0_46 rfl (by simp) rfl ⟨by congr 3; omega, Kp, by rw [show k = i by omega]; exact B2, fun _ q => q⟩
    | succ r ih =>
      intro i hi hik0 s6 hs6 h1 Kp B1 B2
      have zK := Kp.1
      obtain ⟨c, hc⟩ : ∃ c, cs[i]? = some c := ⟨_, List.getElem?_eq_getElem (by omega)⟩
      refine go_iload d0_3 rfl ?_
      refine go_iload d0_5 rfl ?_
      refine go_icmpge d0_7 (fun c1011 => absurd (ofNat_lt (by omega) (by omega)) c1011) (fun c1011 => ?_)
      refine go_aloadN d0_10 rfl rfl ?_
      refine go_iloadN d0_11 rfl ?_
      refine go_caload (x := c) B1 (i := i) rfl hc d0_12 ?_
      refine go_istoreS d0_13 rfl hs6 (l' := #[.val (.ref src), .val (.int (Int32.ofNat i)), .val (.ref dst), .val (.int (Int32.ofNat i)), .val (.int (Int32.ofNat cs.length)), .val (.int (Int32.ofNat i)), .val (.int c)]) rfl ?_
      refine go_iload d0_15 rfl ?_
      refine go_sipush (x := (255 : Int32)) d0_17 (by decide) ?_
      refine go_icmple d0_20 (fun c20 => ?_) (fun c20 => ?_)
      · have hik : i < k := by
          rcases Nat.lt_or_ge i k with q | q
          · exact q
          · exact absurd (hat c (by rw [show k = i by omega]; exact hc)) c20
        refine go_aloadN d0_26 rfl rfl ?_
        refine go_iloadN d0_27 rfl ?_
        refine go_iload d0_28 rfl ?_
        refine go_i2b (v := (lo8 c)) d0_30 rfl ?_
        refine go_bastore (v := (lo8 c)) B2 (by omega) sd (i := i) rfl (by rw [fill_len lo8 rfl (by omega)]; omega) (nar_lo8 c) d0_31 (fun h1012 K1012 A1012 => ?_)
        have z1012 := K1012.1
        have A1012 : AI Z h1012 dst .byte ((cs.take (i + 1)).map lo8 ++ List.replicate (cs.length - (i + 1)) 0) := set_fill lo8 rfl hc ▸ A1012
        refine go_iinc d0_32 rfl (v := (Int32.ofNat (i + 1))) (ofNat_inc i) (l' := #[.val (.ref src), .val (.int (Int32.ofNat (i + 1))), .val (.ref dst), .val (.int (Int32.ofNat i)), .val (.int (Int32.ofNat cs.length)), .val (.int (Int32.ofNat i)), .val (.int c)]) rfl ?_
        refine go_iinc d0_35 rfl (v := (Int32.ofNat (i + 1))) (ofNat_inc i) (l' := #[.val (.ref src), .val (.int (Int32.ofNat (i + 1))), .val (.ref dst), .val (.int (Int32.ofNat (i + 1))), .val (.int (Int32.ofNat cs.length)), .val (.int (Int32.ofNat i)), .val (.int c)]) rfl ?_
        refine go_iinc d0_38 rfl (v := (Int32.ofNat (i + 1))) (ofNat_inc i) (l' := #[.val (.ref src), .val (.int (Int32.ofNat (i + 1))), .val (.ref dst), .val (.int (Int32.ofNat (i + 1))), .val (.int (Int32.ofNat cs.length)), .val (.int (Int32.ofNat (i + 1))), .val (.int c)]) rfl ?_
        refine go_goto d0_41 ?_
        have f1013 := (B1.keep K1012 (ninS hne nin0))
        exact ih (i + 1) (by omega) (by omega) _ (Or.inr ⟨_, rfl, rfl⟩) h1012 (Kp.trans K1012 (allS (Or.inl (by simp)) all0)) f1013 A1012
      · have hik : i = k := by
          rcases Nat.lt_or_ge i k with q | q
          · exact absurd c20 (hpre i c q hc)
          · omega
        refine go_iload d0_23 rfl ?_
        exact go_ireturn (ty := .int) (v := (Int32.ofNat i)) d0_25 rfl (by simp) rfl ⟨by rw [hik], Kp, by rw [← hik]; exact B2, fun _ q => q⟩
  refine go_iconst (x := (0 : Int32)) d0_0 (by decide) ?_
  refine go_istore d0_1 (l' := #[.val (.ref src), .val (.int (0 : Int32)), .val (.ref dst), .val (.int (0 : Int32)), .val (.int (Int32.ofNat cs.length)), .val (.int (0 : Int32)), .unset]) rfl ?_
  exact loop cs.length 0 (by omega) (by omega) _ (Or.inl rfl) h0 (Keep.refl _ _) A1 (by simpa using A2)
theorem d1_0 : Dec jdk_42_method_152_code 0 (.getstatic 38) 3 3 := ⟨by decide +kernel, rfl⟩
theorem d1_3 : Brn jdk_42_method_152_code 3 (.ifCond .eq 10) 10 6 13 := ⟨by decide +kernel, rfl, by decide, by decide⟩
theorem d1_6 : Dec jdk_42_method_152_code 6 (.aload_n 0) 1 7 := ⟨by decide +kernel, rfl⟩
theorem d1_7 : Dec jdk_42_method_152_code 7 (.getfield 15) 3 10 := ⟨by decide +kernel, rfl⟩
theorem d1_10 : Brn jdk_42_method_152_code 10 (.goto 4) 4 13 14 := ⟨by decide +kernel, rfl, by decide, by decide⟩
theorem d1_14 : Dec jdk_42_method_152_code 14 (.ireturn) 1 15 := ⟨by decide +kernel, rfl⟩
theorem pn1 : plainName "java/lang/String" = true := by first | (simp [plainName, overriddenIn]; done) | decide +kernel
set_option maxRecDepth 65536 in
set_option maxHeartbeats 40000000 in
theorem c_coder (l : Launch) (Z : State) (a0 : Array Value) (hw : ∀ d ∈ tables_1, d.before a0 Z = true) (hEL : EW Z a0 own_EL) (x : Addr) (cs : List Int32) (b : Addr) (k : Int32) (S : Addr → Prop) (h0 : Heap) (F : Str Z h0 x cs b k) (zc : Int32) (Oc : Sta Z Z.heap "java/lang/String" "COMPACT_STRINGS" "Z" (.int zc)) (Pc : ¬ zc = 0) :
    Con l Z own_EL [] (⟨"java/lang/String", "coder", "()B"⟩ : MethodName) jdk_42_method_152_code 1 (some .byte) ({ frames := 0, cells := 0, slots := 0, locals := 0 } : Room) #[.ref x] S h0 (fun S' v h' => v = some (.int k) ∧ h0 = h') := by
  refine con_of_go (ls := #[.val (.ref x)]) (plainFor_of_name pn1) hEL (fun m => by first | rfl | (simp [entryFrame, mkF, argsToLocals, cat_int, cat_ref, cat_null, cat_long]; done)) (fun K => ?_)
  show Go _ _ _ _ _ _ _ _ _ _ _ _ _ 0 0 _ _ _
  refine go_gets (hw _ (List.mem_of_getElem? (i := 36) rfl)) Via.refl Oc d1_0 ?_
  refine go_ifeq d1_3 (fun c1001 => absurd c1001 (Pc)) (fun c1001 => ?_)
  refine go_aloadN d1_6 rfl rfl ?_
  refine go_getf (hw _ (List.mem_of_getElem? (i := 21) rfl)) Via.refl F.2.1 d1_7 ?_
  refine go_goto d1_10 ?_
  exact go_ireturn (ty := .byte) (v := k) d1_14 rfl (by simp) (nar_cod F.2.2.2.2.1) ⟨rfl, rfl⟩
theorem d2_0 : Dec jdk_42_method_154_code 0 (.getstatic 38) 3 3 := ⟨by decide +kernel, rfl⟩
theorem d2_3 : Brn jdk_42_method_154_code 3 (.ifCond .eq 14) 14 6 17 := ⟨by decide +kernel, rfl, by decide, by decide⟩
theorem d2_6 : Dec jdk_42_method_154_code 6 (.aload_n 0) 1 7 := ⟨by decide +kernel, rfl⟩
theorem d2_7 : Dec jdk_42_method_154_code 7 (.getfield 15) 3 10 := ⟨by decide +kernel, rfl⟩
theorem d2_10 : Brn jdk_42_method_154_code 10 (.ifCond .ne 7) 7 13 17 := ⟨by decide +kernel, rfl, by decide, by decide⟩
theorem d2_13 : Dec jdk_42_method_154_code 13 (.iconst 1) 1 14 := ⟨by decide +kernel, rfl⟩
theorem d2_14 : Brn jdk_42_method_154_code 14 (.goto 4) 4 17 18 := ⟨by decide +kernel, rfl, by decide, by decide⟩
theorem d2_18 : Dec jdk_42_method_154_code 18 (.ireturn) 1 19 := ⟨by decide +kernel, rfl⟩
theorem d2_17 : Dec jdk_42_method_154_code 17 (.iconst 0) 1 18 := ⟨by decide +kernel, rfl⟩
set_option maxRecDepth 65536 in
set_option maxHeartbeats 40000000 in
theorem c_lat (l : Launch) (Z : State) (a0 : Array Value) (hw : ∀ d ∈ tables_1, d.before a0 Z = true) (hEL : EW Z a0 own_EL) (x : Addr) (cs : List Int32) (b : Addr) (k : Int32) (S : Addr → Prop) (h0 : Heap) (F : Str Z h0 x cs b k) (zc : Int32) (Oc : Sta Z Z.heap "java/lang/String" "COMPACT_STRINGS" "Z" (.int zc)) (Pc : ¬ zc = 0) :
    Con l Z own_EL [] (⟨"java/lang/String", "isLatin1", "()Z"⟩ : MethodName) jdk_42_method_154_code 1 (some .boolean) ({ frames := 0, cells := 0, slots := 0, locals := 0 } : Room) #[.ref x] S h0 (fun S' v h' => v = some (.int ((1 : Int32) - k)) ∧ h0 = h') := by
  have F0 := F
  obtain ⟨-, -, -, -, hk, -⟩ := F0
  rcases hk with ⟨rfl, hk⟩ | ⟨rfl, hk⟩
  · refine con_of_go (ls := #[.val (.ref x)]) (plainFor_of_name pn1) hEL (fun m => by first | rfl | (simp [entryFrame, mkF, argsToLocals, cat_int, cat_ref, cat_null, cat_long]; done)) (fun K => ?_)
    show Go _ _ _ _ _ _ _ _ _ _ _ _ _ 0 0 _ _ _
    refine go_gets (hw _ (List.mem_of_getElem? (i := 36) rfl)) Via.refl Oc d2_0 ?_
    refine go_ifeq d2_3 (fun c1001 => absurd c1001 (Pc)) (fun c1001 => ?_)
    refine go_aloadN d2_6 rfl rfl ?_
    refine go_getf (hw _ (List.mem_of_getElem? (i := 21) rfl)) Via.refl F.2.1 d2_7 ?_
    refine go_ifne d2_10 (fun c1002 => absurd (rfl) c1002) (fun c1002 => ?_)
    refine go_iconst (x := (1 : Int32)) d2_13 (by decide) ?_
    refine go_goto d2_14 ?_
    exact go_ireturn (ty := .boolean) (v := (1 : Int32)) d2_18 rfl (by simp) rfl ⟨rfl, rfl⟩
  · refine con_of_go (ls := #[.val (.ref x)]) (plainFor_of_name pn1) hEL (fun m => by first | rfl | (simp [entryFrame, mkF, argsToLocals, cat_int, cat_ref, cat_null, cat_long]; done)) (fun K => ?_)
    show Go _ _ _ _ _ _ _ _ _ _ _ _ _ 0 0 _ _ _
    refine go_gets (hw _ (List.mem_of_getElem? (i := 36) rfl)) Via.refl Oc d2_0 ?_
    refine go_ifeq d2_3 (fun c1001 => absurd c1001 (Pc)) (fun c1001 => ?_)
    refine go_aloadN d2_6 rfl rfl ?_
    refine go_getf (hw _ (List.mem_of_getElem? (i := 21) rfl)) Via.refl F.2.1 d2_7 ?_
    refine go_ifne d2_10 (fun c1002 => ?_) (fun c1002 => absurd c1002 (by decide))
    refine go_iconst (x := (0 : Int32)) d2_17 (by decide) ?_
    exact go_ireturn (ty := .boolean) (v := (0 : Int32)) d2_18 rfl (by simp) rfl ⟨rfl, rfl⟩
theorem d3_0 : Dec jdk_42_method_54_code 0 (.aload_n 0) 1 1 := ⟨by decide +kernel, rfl⟩
theorem d3_1 : Dec jdk_42_method_54_code 1 (.getfield 9) 3 4 := ⟨by decide +kernel, rfl⟩
theorem d3_4 : Dec jdk_42_method_54_code 4 (.arraylength) 1 5 := ⟨by decide +kernel, rfl⟩
theorem d3_5 : Dec jdk_42_method_54_code 5 (.aload_n 0) 1 6 := ⟨by decide +kernel, rfl⟩
theorem d3_6 : Dec jdk_42_method_54_code 6 (.invokevirtual 335) 3 9 := ⟨by decide +kernel, rfl⟩
theorem pd0 : parseMethodDescriptor "()B" = some ⟨[], some .byte⟩ := by decide +kernel
theorem d3_9 : Dec jdk_42_method_54_code 9 (.ishr) 1 10 := ⟨by decide +kernel, rfl⟩
theorem d3_10 : Dec jdk_42_method_54_code 10 (.ireturn) 1 11 := ⟨by decide +kernel, rfl⟩
set_option maxRecDepth 65536 in
set_option maxHeartbeats 40000000 in
theorem c_len (l : Launch) (Z : State) (a0 : Array Value) (hw : ∀ d ∈ tables_1, d.before a0 Z = true) (hEL : EW Z a0 own_EL) (x : Addr) (cs : List Int32) (b : Addr) (k : Int32) (S : Addr → Prop) (h0 : Heap) (F : Str Z h0 x cs b k) (zc : Int32) (Oc : Sta Z Z.heap "java/lang/String" "COMPACT_STRINGS" "Z" (.int zc)) (Pc : ¬ zc = 0) :
    Con l Z own_EL [] (⟨"java/lang/String", "length", "()I"⟩ : MethodName) jdk_42_method_54_code 1 (some .int) ({ frames := 1, cells := 0, slots := 0, locals := 13 } : Room) #[.ref x] S h0 (fun S' v h' => v = some (.int (Int32.ofNat cs.length)) ∧ h0 = h') := by
  have F0 := F
  obtain ⟨-, -, -, -, hk, hch, hlen⟩ := F0
  rcases hk with ⟨rfl, hk⟩ | ⟨rfl, hk⟩
  · refine con_of_go (ls := #[.val (.ref x)]) (plainFor_of_name pn1) hEL (fun m => by first | rfl | (simp [entryFrame, mkF, argsToLocals, cat_int, cat_ref, cat_null, cat_long]; done)) (fun K => ?_)
    show Go _ _ _ _ _ _ _ _ _ _ _ _ _ 0 0 _ _ _
    refine go_aloadN d3_0 rfl rfl ?_
    refine go_getf (hw _ (List.mem_of_getElem? (i := 20) rfl)) Via.refl F.2.2.1 d3_1 ?_
    refine go_alen F.2.2.2.1 d3_4 (v := (Int32.ofNat cs.length)) (by rw [sbytes0]; simp) ?_
    refine go_aloadN d3_5 rfl rfl ?_
    refine go_virtual (R := ({ frames := 1, cells := 0, slots := 0, locals := 13 } : Room)) (kc := 0) (ks := 0) [] [.int (Int32.ofNat cs.length)] (c_coder l Z a0 hw hEL x _ _ _ S h0 F zc Oc Pc) F.1 (hw _ (List.mem_of_getElem? (i := 31) rfl)) (hw _ (List.mem_of_getElem? (i := 32) rfl)) (hw _ (List.mem_of_getElem? (i := 34) rfl)) (hw _ (List.mem_of_getElem? (i := 33) rfl)) (nfSel (hw _ (List.mem_of_getElem? (i := 34) rfl))) (hw _ (List.mem_of_getElem? (i := 35) rfl)) (hw _ (List.mem_of_getElem? (i := 3) rfl)) (by decide) rfl rfl (lenOf pd0 rfl) d3_6 (by rfl) (by decide) (Nat.le_of_ble_eq_true rfl) (rc := 0) (rs := 0) rfl rfl (fun S1001 v1001 h1001 m1001 z1001 q1001 => ?_)
    obtain ⟨rfl, rfl⟩ := q1001
    show Go _ _ _ _ _ _ _ _ _ _ _ _ _ _ _ _ _ (mkF K.m 9 #[.val (.ref x)] [.int (0 : Int32), .int (Int32.ofNat cs.length)])
    refine go_ishr (v := (Int32.ofNat cs.length)) d3_9 shr0 ?_
    exact go_ireturn (ty := .int) (v := (Int32.ofNat cs.length)) d3_10 rfl (by simp) rfl ⟨rfl, rfl⟩
  · refine con_of_go (ls := #[.val (.ref x)]) (plainFor_of_name pn1) hEL (fun m => by first | rfl | (simp [entryFrame, mkF, argsToLocals, cat_int, cat_ref, cat_null, cat_long]; done)) (fun K => ?_)
    show Go _ _ _ _ _ _ _ _ _ _ _ _ _ 0 0 _ _ _
    refine go_aloadN d3_0 rfl rfl ?_
    refine go_getf (hw _ (List.mem_of_getElem? (i := 20) rfl)) Via.refl F.2.2.1 d3_1 ?_
    refine go_alen F.2.2.2.1 d3_4 (v := (Int32.ofNat (2 * cs.length))) (by rw [sbytes1, flat_len]) ?_
    refine go_aloadN d3_5 rfl rfl ?_
    refine go_virtual (R := ({ frames := 1, cells := 0, slots := 0, locals := 13 } : Room)) (kc := 0) (ks := 0) [] [.int (Int32.ofNat (2 * cs.length))] (c_coder l Z a0 hw hEL x _ _ _ S h0 F zc Oc Pc) F.1 (hw _ (List.mem_of_getElem? (i := 31) rfl)) (hw _ (List.mem_of_getElem? (i := 32) rfl)) (hw _ (List.mem_of_getElem? (i := 34) rfl)) (hw _ (List.mem_of_getElem? (i := 33) rfl)) (nfSel (hw _ (List.mem_of_getElem? (i := 34) rfl))) (hw _ (List.mem_of_getElem? (i := 35) rfl)) (hw _ (List.mem_of_getElem? (i := 3) rfl)) (by decide) rfl rfl (lenOf pd0 rfl) d3_6 (by rfl) (by decide) (Nat.le_of_ble_eq_true rfl) (rc := 0) (rs := 0) rfl rfl (fun S1001 v1001 h1001 m1001 z1001 q1001 => ?_)
    obtain ⟨rfl, rfl⟩ := q1001
    show Go _ _ _ _ _ _ _ _ _ _ _ _ _ _ _ _ _ (mkF K.m 9 #[.val (.ref x)] [.int (1 : Int32), .int (Int32.ofNat (2 * cs.length))])
    refine go_ishr (v := (Int32.ofNat cs.length)) d3_9 (by rw [shr1 (by omega)]; congr 1; omega) ?_
    exact go_ireturn (ty := .int) (v := (Int32.ofNat cs.length)) d3_10 rfl (by simp) rfl ⟨rfl, rfl⟩
theorem d4_0 : Dec jdk_41_method_11_code 0 (.iload_n 0) 1 1 := ⟨by decide +kernel, rfl⟩
theorem d4_1 : Brn jdk_41_method_11_code 1 (.ifCond .lt 8) 8 4 9 := ⟨by decide +kernel, rfl, by decide, by decide⟩
theorem d4_4 : Dec jdk_41_method_11_code 4 (.iload_n 0) 1 5 := ⟨by decide +kernel, rfl⟩
theorem d4_5 : Dec jdk_41_method_11_code 5 (.iload_n 1) 1 6 := ⟨by decide +kernel, rfl⟩
theorem d4_6 : Brn jdk_41_method_11_code 6 (.if_icmp .lt 10) 10 9 16 := ⟨by decide +kernel, rfl, by decide, by decide⟩
theorem d4_16 : Dec jdk_41_method_11_code 16 (.iload_n 0) 1 17 := ⟨by decide +kernel, rfl⟩
theorem d4_17 : Dec jdk_41_method_11_code 17 (.ireturn) 1 18 := ⟨by decide +kernel, rfl⟩
theorem pn2 : plainName "jdk/internal/util/Preconditions" = true := by first | (simp [plainName, overriddenIn]; done) | decide +kernel
set_option maxRecDepth 65536 in
set_option maxHeartbeats 40000000 in
theorem c_pci (l : Launch) (Z : State) (a0 : Array Value) (hw : ∀ d ∈ tables_1, d.before a0 Z = true) (hEL : EW Z a0 own_EL) (i n : Nat) (hi : i < n) (hn : n < 2 ^ 31) (sf : Value) (rsf : sf.isRef = true) (S : Addr → Prop) (h0 : Heap) :
    Con l Z own_EL [] (⟨"jdk/internal/util/Preconditions", "checkIndex", "(IILjava/util/function/BiFunction;)I"⟩ : MethodName) jdk_41_method_11_code 3 (some .int) ({ frames := 0, cells := 0, slots := 0, locals := 0 } : Room) #[.int (Int32.ofNat i), .int (Int32.ofNat n), sf] S h0 (fun S' v h' => v = some (.int (Int32.ofNat i)) ∧ h0 = h') := by
  refine con_of_go (ls := #[.val (.int (Int32.ofNat i)), .val (.int (Int32.ofNat n)), .val (sf)]) (plainFor_of_name pn2) hEL (fun m => by first | rfl | (simp [entryFrame, mkF, argsToLocals, cat_int, cat_ref, cat_null, cat_long, XT.cat1 rsf]; done)) (fun K => ?_)
  show Go _ _ _ _ _ _ _ _ _ _ _ _ _ 0 0 _ _ _
  refine go_iloadN d4_0 rfl ?_
  refine go_iflt d4_1 (fun c1001 => absurd c1001 (ofNat_nlt (n := 0) (by omega) (by omega))) (fun c1001 => ?_)
  refine go_iloadN d4_4 rfl ?_
  refine go_iloadN d4_5 rfl ?_
  refine go_icmplt d4_6 (fun c1002 => ?_) (fun c1002 => absurd (ofNat_lt hi hn) c1002)
  refine go_iloadN d4_16 rfl ?_
  exact go_ireturn (ty := .int) (v := (Int32.ofNat i)) d4_17 rfl (by simp) rfl ⟨rfl, rfl⟩
theorem d5_0 : Dec jdk_42_method_155_code 0 (.iload_n 0) 1 1 := ⟨by decide +kernel, rfl⟩
theorem d5_1 : Dec jdk_42_method_155_code 1 (.iload_n 1) 1 2 := ⟨by decide +kernel, rfl⟩
theorem d5_2 : Dec jdk_42_method_155_code 2 (.getstatic 1053) 3 5 := ⟨by decide +kernel, rfl⟩
theorem d5_5 : Dec jdk_42_method_155_code 5 (.invokestatic 1059) 3 8 := ⟨by decide +kernel, rfl⟩
theorem pd1 : parseMethodDescriptor "(IILjava/util/function/BiFunction;)I" = some ⟨[.int, .int, (.object "java/util/function/BiFunction")], some .int⟩ := by decide +kernel
theorem d5_8 : Dec jdk_42_method_155_code 8 (.pop) 1 9 := ⟨by decide +kernel, rfl⟩
theorem d5_9 : Dec jdk_42_method_155_code 9 (.return_) 1 10 := ⟨by decide +kernel, rfl⟩
set_option maxRecDepth 65536 in
set_option maxHeartbeats 40000000 in
theorem c_sci (l : Launch) (Z : State) (a0 : Array Value) (hw : ∀ d ∈ tables_1, d.before a0 Z = true) (hEL : EW Z a0 own_EL) (i n : Nat) (hi : i < n) (hn : n < 2 ^ 31) (sf : Value) (rsf : sf.isRef = true) (Os : Sta Z Z.heap "jdk/internal/util/Preconditions" "SIOOBE_FORMATTER" "Ljava/util/function/BiFunction;" sf) (S : Addr → Prop) (h0 : Heap) :
    Con l Z own_EL [] (⟨"java/lang/String", "checkIndex", "(II)V"⟩ : MethodName) jdk_42_method_155_code 2 (none : Option FieldType) ({ frames := 1, cells := 0, slots := 0, locals := 14 } : Room) #[.int (Int32.ofNat i), .int (Int32.ofNat n)] S h0 (fun S' v h' => v = none ∧ h0 = h') := by
  refine con_of_go (ls := #[.val (.int (Int32.ofNat i)), .val (.int (Int32.ofNat n))]) (plainFor_of_name pn1) hEL (fun m => by first | rfl | (simp [entryFrame, mkF, argsToLocals, cat_int, cat_ref, cat_null, cat_long]; done)) (fun K => ?_)
  show Go _ _ _ _ _ _ _ _ _ _ _ _ _ 0 0 _ _ _
  refine go_iloadN d5_0 rfl ?_
  refine go_iloadN d5_1 rfl ?_
  refine go_gets (hw _ (List.mem_of_getElem? (i := 71) rfl)) Via.refl Os d5_2 ?_
  refine go_static (R := ({ frames := 1, cells := 0, slots := 0, locals := 14 } : Room)) (kc := 0) (ks := 0) [.int (Int32.ofNat i), .int (Int32.ofNat n), sf] [] (c_pci l Z a0 hw hEL i n hi hn sf rsf S h0) (hw _ (List.mem_of_getElem? (i := 73) rfl)) (hw _ (List.mem_of_getElem? (i := 74) rfl)) (hw _ (List.mem_of_getElem? (i := 75) rfl)) (hw _ (List.mem_of_getElem? (i := 72) rfl)) (by decide) rfl rfl (lenOf pd1 rfl) d5_5 (by rfl) (by decide) (Nat.le_of_ble_eq_true rfl) (rc := 0) (rs := 0) rfl rfl (fun S1001 v1001 h1001 m1001 z1001 q1001 => ?_)
  obtain ⟨rfl, rfl⟩ := q1001
  show Go _ _ _ _ _ _ _ _ _ _ _ _ _ _ _ _ _ (mkF K.m 8 #[.val (.int (Int32.ofNat i)), .val (.int (Int32.ofNat n))] [.int (Int32.ofNat i)])
  refine go_pop d5_8 rfl ?_
  exact go_return d5_9 rfl ⟨rfl, rfl⟩
theorem d6_0 : Dec jdk_43_method_2_code 0 (.iload_n 1) 1 1 := ⟨by decide +kernel, rfl⟩
theorem d6_1 : Dec jdk_43_method_2_code 1 (.aload_n 0) 1 2 := ⟨by decide +kernel, rfl⟩
theorem d6_2 : Dec jdk_43_method_2_code 2 (.arraylength) 1 3 := ⟨by decide +kernel, rfl⟩
theorem d6_3 : Dec jdk_43_method_2_code 3 (.invokestatic 9) 3 6 := ⟨by decide +kernel, rfl⟩
theorem pd2 : parseMethodDescriptor "(II)V" = some ⟨[.int, .int], none⟩ := by decide +kernel
theorem d6_6 : Dec jdk_43_method_2_code 6 (.aload_n 0) 1 7 := ⟨by decide +kernel, rfl⟩
theorem d6_7 : Dec jdk_43_method_2_code 7 (.iload_n 1) 1 8 := ⟨by decide +kernel, rfl⟩
theorem d6_8 : Dec jdk_43_method_2_code 8 (.baload) 1 9 := ⟨by decide +kernel, rfl⟩
theorem d6_9 : Dec jdk_43_method_2_code 9 (.sipush 255) 3 12 := ⟨by decide +kernel, rfl⟩
theorem d6_12 : Dec jdk_43_method_2_code 12 (.iand) 1 13 := ⟨by decide +kernel, rfl⟩
theorem d6_13 : Dec jdk_43_method_2_code 13 (.i2c) 1 14 := ⟨by decide +kernel, rfl⟩
theorem d6_14 : Dec jdk_43_method_2_code 14 (.ireturn) 1 15 := ⟨by decide +kernel, rfl⟩
theorem pn3 : plainName "java/lang/StringLatin1" = true := by first | (simp [plainName, overriddenIn]; done) | decide +kernel
set_option maxRecDepth 65536 in
set_option maxHeartbeats 40000000 in
theorem c_l1ch (l : Launch) (Z : State) (a0 : Array Value) (hw : ∀ d ∈ tables_1, d.before a0 Z = true) (hEL : EW Z a0 own_EL) (b : Addr) (cs : List Int32) (i : Nat) (c : Int32) (hc : cs[i]? = some c) (hc1 : isCh c) (hc2 : ¬ (255 : Int32) < c) (S : Addr → Prop) (h0 : Heap) (A : AI Z h0 b .byte (cs.map lo8)) (sf : Value) (rsf : sf.isRef = true) (Os : Sta Z Z.heap "jdk/internal/util/Preconditions" "SIOOBE_FORMATTER" "Ljava/util/function/BiFunction;" sf) :
    Con l Z own_EL [] (⟨"java/lang/StringLatin1", "charAt", "([BI)C"⟩ : MethodName) jdk_43_method_2_code 2 (some .char) ({ frames := 2, cells := 0, slots := 0, locals := 27 } : Room) #[.ref b, .int (Int32.ofNat i)] S h0 (fun S' v h' => v = some (.int c) ∧ h0 = h') := by
  refine con_of_go (ls := #[.val (.ref b), .val (.int (Int32.ofNat i))]) (plainFor_of_name pn3) hEL (fun m => by first | rfl | (simp [entryFrame, mkF, argsToLocals, cat_int, cat_ref, cat_null, cat_long]; done)) (fun K => ?_)
  show Go _ _ _ _ _ _ _ _ _ _ _ _ _ 0 0 _ _ _
  refine go_iloadN d6_0 rfl ?_
  refine go_aloadN d6_1 rfl rfl ?_
  refine go_alen A d6_2 (v := (Int32.ofNat cs.length)) (by simp) ?_
  refine go_static (R := ({ frames := 2, cells := 0, slots := 0, locals := 27 } : Room)) (kc := 0) (ks := 0) [.int (Int32.ofNat i), .int (Int32.ofNat cs.length)] [] (c_sci l Z a0 hw hEL i cs.length (List.getElem?_eq_some_iff.mp hc).1 (by have := A.len; simpa using this) sf rsf Os S h0) (hw _ (List.mem_of_getElem? (i := 68) rfl)) (hw _ (List.mem_of_getElem? (i := 69) rfl)) (hw _ (List.mem_of_getElem? (i := 70) rfl)) (hw _ (List.mem_of_getElem? (i := 3) rfl)) (by decide) rfl rfl (lenOf pd2 rfl) d6_3 (by rfl) (by decide) (Nat.le_of_ble_eq_true rfl) (rc := 0) (rs := 0) rfl rfl (fun S1001 v1001 h1001 m1001 z1001 q1001 => ?_)
  obtain ⟨rfl, rfl⟩ := q1001
  show Go _ _ _ _ _ _ _ _ _ _ _ _ _ _ _ _ _ (mkF K.m 6 #[.val (.ref b), .val (.int (Int32.ofNat i))] [])
  refine go_aloadN d6_6 rfl rfl ?_
  refine go_iloadN d6_7 rfl ?_
  refine go_baload (x := (lo8 c)) A (i := i) rfl (by rw [List.getElem?_map, hc]; rfl) d6_8 ?_
  refine go_sipush (x := (255 : Int32)) d6_9 (by decide) ?_
  refine go_iand (v := c) d6_12 (lat_mask hc1 hc2) ?_
  refine go_i2c (v := c) d6_13 (i2c_ch hc1) ?_
  exact go_ireturn (ty := .char) (v := c) d6_14 rfl (by simp) (congrArg Value.int (i2c_ch hc1)) ⟨rfl, rfl⟩
theorem d7_0 : Dec jdk_52_method_6_code 0 (.aload_n 0) 1 1 := ⟨by decide +kernel, rfl⟩
theorem d7_1 : Dec jdk_52_method_6_code 1 (.arraylength) 1 2 := ⟨by decide +kernel, rfl⟩
theorem d7_2 : Dec jdk_52_method_6_code 2 (.iconst 1) 1 3 := ⟨by decide +kernel, rfl⟩
theorem d7_3 : Dec jdk_52_method_6_code 3 (.ishr) 1 4 := ⟨by decide +kernel, rfl⟩
theorem d7_4 : Dec jdk_52_method_6_code 4 (.ireturn) 1 5 := ⟨by decide +kernel, rfl⟩
set_option maxRecDepth 65536 in
set_option maxHeartbeats 40000000 in
theorem c_u16len (l : Launch) (Z : State) (a0 : Array Value) (hw : ∀ d ∈ tables_1, d.before a0 Z = true) (hEL : EW Z a0 own_EL) (b : Addr) (xs : List Int32) (n : Nat) (hl : xs.length = 2 * n) (hn : n < 2 ^ 29) (S : Addr → Prop) (h0 : Heap) (A : AI Z h0 b .byte xs) :
    Con l Z own_EL [] (⟨"java/lang/StringUTF16", "length", "([B)I"⟩ : MethodName) jdk_52_method_6_code 1 (some .int) ({ frames := 0, cells := 0, slots := 0, locals := 0 } : Room) #[.ref b] S h0 (fun S' v h' => v = some (.int (Int32.ofNat n)) ∧ h0 = h') := by
  refine con_of_go (ls := #[.val (.ref b)]) (plainFor_of_name pn0) hEL (fun m => by first | rfl | (simp [entryFrame, mkF, argsToLocals, cat_int, cat_ref, cat_null, cat_long]; done)) (fun K => ?_)
  show Go _ _ _ _ _ _ _ _ _ _ _ _ _ 0 0 _ _ _
  refine go_aloadN d7_0 rfl rfl ?_
  refine go_alen A d7_1 (v := (Int32.ofNat (2 * n))) (by rw [hl]) ?_
  refine go_iconst (x := (1 : Int32)) d7_2 (by decide) ?_
  refine go_ishr (v := (Int32.ofNat n)) d7_3 (by rw [shr1 (by omega)]; congr 1; omega) ?_
  exact go_ireturn (ty := .int) (v := (Int32.ofNat n)) d7_4 rfl (by simp) rfl ⟨rfl, rfl⟩
theorem d8_0 : Dec jdk_52_method_91_code 0 (.iload_n 0) 1 1 := ⟨by decide +kernel, rfl⟩
theorem d8_1 : Dec jdk_52_method_91_code 1 (.aload_n 1) 1 2 := ⟨by decide +kernel, rfl⟩
theorem d8_2 : Dec jdk_52_method_91_code 2 (.invokestatic 48) 3 5 := ⟨by decide +kernel, rfl⟩
theorem pd3 : parseMethodDescriptor "([B)I" = some ⟨[(.array .byte)], some .int⟩ := by decide +kernel
theorem d8_5 : Dec jdk_52_method_91_code 5 (.invokestatic 414) 3 8 := ⟨by decide +kernel, rfl⟩
theorem d8_8 : Dec jdk_52_method_91_code 8 (.return_) 1 9 := ⟨by decide +kernel, rfl⟩
set_option maxRecDepth 65536 in
set_option maxHeartbeats 40000000 in
theorem c_u16ci (l : Launch) (Z : State) (a0 : Array Value) (hw : ∀ d ∈ tables_1, d.before a0 Z = true) (hEL : EW Z a0 own_EL) (b : Addr) (xs : List Int32) (n i : Nat) (hi : i < n) (hl : xs.length = 2 * n) (hn : n < 2 ^ 29) (S : Addr → Prop) (h0 : Heap) (A : AI Z h0 b .byte xs) (sf : Value) (rsf : sf.isRef = true) (Os : Sta Z Z.heap "jdk/internal/util/Preconditions" "SIOOBE_FORMATTER" "Ljava/util/function/BiFunction;" sf) :
    Con l Z own_EL [] (⟨"java/lang/StringUTF16", "checkIndex", "(I[B)V"⟩ : MethodName) jdk_52_method_91_code 2 (none : Option FieldType) ({ frames := 2, cells := 0, slots := 0, locals := 27 } : Room) #[.int (Int32.ofNat i), .ref b] S h0 (fun S' v h' => v = none ∧ h0 = h') := by
  refine con_of_go (ls := #[.val (.int (Int32.ofNat i)), .val (.ref b)]) (plainFor_of_name pn0) hEL (fun m => by first | rfl | (simp [entryFrame, mkF, argsToLocals, cat_int, cat_ref, cat_null, cat_long]; done)) (fun K => ?_)
  show Go _ _ _ _ _ _ _ _ _ _ _ _ _ 0 0 _ _ _
  refine go_iloadN d8_0 rfl ?_
  refine go_aloadN d8_1 rfl rfl ?_
  refine go_static (R := ({ frames := 2, cells := 0, slots := 0, locals := 27 } : Room)) (kc := 0) (ks := 0) [.ref b] [.int (Int32.ofNat i)] (c_u16len l Z a0 hw hEL b _ n hl hn S h0 A) (hw _ (List.mem_of_getElem? (i := 101) rfl)) (hw _ (List.mem_of_getElem? (i := 102) rfl)) (hw _ (List.mem_of_getElem? (i := 103) rfl)) (hw _ (List.mem_of_getElem? (i := 46) rfl)) (by decide) rfl rfl (lenOf pd3 rfl) d8_2 (by rfl) (by decide) (Nat.le_of_ble_eq_true rfl) (rc := 0) (rs := 0) rfl rfl (fun S1001 v1001 h1001 m1001 z1001 q1001 => ?_)
  obtain ⟨rfl, rfl⟩ := q1001
  show Go _ _ _ _ _ _ _ _ _ _ _ _ _ _ _ _ _ (mkF K.m 5 #[.val (.int (Int32.ofNat i)), .val (.ref b)] [.int (Int32.ofNat n), .int (Int32.ofNat i)])
  refine go_static (R := ({ frames := 2, cells := 0, slots := 0, locals := 27 } : Room)) (kc := 0) (ks := 0) [.int (Int32.ofNat i), .int (Int32.ofNat n)] [] (c_sci l Z a0 hw hEL i n hi (by omega) sf rsf Os S1001 h0) (hw _ (List.mem_of_getElem? (i := 104) rfl)) (hw _ (List.mem_of_getElem? (i := 69) rfl)) (hw _ (List.mem_of_getElem? (i := 70) rfl)) (hw _ (List.mem_of_getElem? (i := 3) rfl)) (by decide) rfl rfl (lenOf pd2 rfl) d8_5 (by rfl) (by decide) (Nat.le_of_ble_eq_true rfl) (rc := 0) (rs := 0) rfl rfl (fun S1002 v1002 h1002 m1002 z1002 q1002 => ?_)
  obtain ⟨rfl, rfl⟩ := q1002
  show Go _ _ _ _ _ _ _ _ _ _ _ _ _ _ _ _ _ (mkF K.m 8 #[.val (.int (Int32.ofNat i)), .val (.ref b)] [])
  exact go_return d8_8 rfl ⟨rfl, rfl⟩
theorem d9_0 : Dec jdk_52_method_5_code 0 (.getstatic 44) 3 3 := ⟨by decide +kernel, rfl⟩
theorem d9_3 : Brn jdk_52_method_5_code 3 (.ifCond .ne 25) 25 6 28 := ⟨by decide +kernel, rfl, by decide, by decide⟩
theorem d9_28 : Dec jdk_52_method_5_code 28 (.iload_n 1) 1 29 := ⟨by decide +kernel, rfl⟩
theorem d9_29 : Dec jdk_52_method_5_code 29 (.iconst 1) 1 30 := ⟨by decide +kernel, rfl⟩
theorem d9_30 : Dec jdk_52_method_5_code 30 (.ishl) 1 31 := ⟨by decide +kernel, rfl⟩
theorem d9_31 : Dec jdk_52_method_5_code 31 (.istore_n 1) 1 32 := ⟨by decide +kernel, rfl⟩
theorem d9_32 : Dec jdk_52_method_5_code 32 (.aload_n 0) 1 33 := ⟨by decide +kernel, rfl⟩
theorem d9_33 : Dec jdk_52_method_5_code 33 (.iload_n 1) 1 34 := ⟨by decide +kernel, rfl⟩
theorem d9_34 : Dec jdk_52_method_5_code 34 (.iinc 1 1) 3 37 := ⟨by decide +kernel, rfl⟩
theorem d9_37 : Dec jdk_52_method_5_code 37 (.baload) 1 38 := ⟨by decide +kernel, rfl⟩
theorem d9_38 : Dec jdk_52_method_5_code 38 (.sipush 255) 3 41 := ⟨by decide +kernel, rfl⟩
theorem d9_41 : Dec jdk_52_method_5_code 41 (.iand) 1 42 := ⟨by decide +kernel, rfl⟩
theorem d9_42 : Dec jdk_52_method_5_code 42 (.getstatic 59) 3 45 := ⟨by decide +kernel, rfl⟩
theorem d9_45 : Dec jdk_52_method_5_code 45 (.ishl) 1 46 := ⟨by decide +kernel, rfl⟩
theorem d9_46 : Dec jdk_52_method_5_code 46 (.aload_n 0) 1 47 := ⟨by decide +kernel, rfl⟩
theorem d9_47 : Dec jdk_52_method_5_code 47 (.iload_n 1) 1 48 := ⟨by decide +kernel, rfl⟩
theorem d9_48 : Dec jdk_52_method_5_code 48 (.baload) 1 49 := ⟨by decide +kernel, rfl⟩
theorem d9_49 : Dec jdk_52_method_5_code 49 (.sipush 255) 3 52 := ⟨by decide +kernel, rfl⟩
theorem d9_52 : Dec jdk_52_method_5_code 52 (.iand) 1 53 := ⟨by decide +kernel, rfl⟩
theorem d9_53 : Dec jdk_52_method_5_code 53 (.getstatic 63) 3 56 := ⟨by decide +kernel, rfl⟩
theorem d9_56 : Dec jdk_52_method_5_code 56 (.ishl) 1 57 := ⟨by decide +kernel, rfl⟩
theorem d9_57 : Dec jdk_52_method_5_code 57 (.ior) 1 58 := ⟨by decide +kernel, rfl⟩
theorem d9_58 : Dec jdk_52_method_5_code 58 (.i2c) 1 59 := ⟨by decide +kernel, rfl⟩
theorem d9_59 : Dec jdk_52_method_5_code 59 (.ireturn) 1 60 := ⟨by decide +kernel, rfl⟩
set_option maxRecDepth 65536 in
set_option maxHeartbeats 40000000 in
theorem c_getc (l : Launch) (Z : State) (a0 : Array Value) (hw : ∀ d ∈ tables_1, d.before a0 Z = true) (hEL : EW Z a0 own_EL) (b : Addr) (cs : List Int32) (i : Nat) (c : Int32) (hc : cs[i]? = some c) (hc1 : isCh c) (S : Addr → Prop) (h0 : Heap) (A : AI Z h0 b .byte (cs.flatMap two)) (Oa : Sta Z Z.heap "java/lang/StringUTF16" "$assertionsDisabled" "Z" (.int (1 : Int32))) (Oh : Sta Z Z.heap "java/lang/StringUTF16" "HI_BYTE_SHIFT" "I" (.int (0 : Int32))) (Ol : Sta Z Z.heap "java/lang/StringUTF16" "LO_BYTE_SHIFT" "I" (.int (8 : Int32))) :
    Con l Z own_EL [] (⟨"java/lang/StringUTF16", "getChar", "([BI)C"⟩ : MethodName) jdk_52_method_5_code 2 (some .char) ({ frames := 0, cells := 0, slots := 0, locals := 0 } : Room) #[.ref b, .int (Int32.ofNat i)] S h0 (fun S' v h' => v = some (.int c) ∧ h0 = h') := by
  refine con_of_go (ls := #[.val (.ref b), .val (.int (Int32.ofNat i))]) (plainFor_of_name pn0) hEL (fun m => by first | rfl | (simp [entryFrame, mkF, argsToLocals, cat_int, cat_ref, cat_null, cat_long]; done)) (fun K => ?_)
  show Go _ _ _ _ _ _ _ _ _ _ _ _ _ 0 0 _ _ _
  refine go_gets (hw _ (List.mem_of_getElem? (i := 89) rfl)) Via.refl Oa d9_0 ?_
  refine go_ifne d9_3 (fun c1001 => ?_) (fun c1001 => absurd c1001 (by decide))
  refine go_iloadN d9_28 rfl ?_
  refine go_iconst (x := (1 : Int32)) d9_29 (by decide) ?_
  refine go_ishl (v := (Int32.ofNat (2 * i))) d9_30 ofNat_shl1 ?_
  refine go_istoreN d9_31 (l' := #[.val (.ref b), .val (.int (Int32.ofNat (2 * i)))]) rfl ?_
  refine go_aloadN d9_32 rfl rfl ?_
  refine go_iloadN d9_33 rfl ?_
  refine go_iinc d9_34 rfl (v := (Int32.ofNat (2 * i + 1))) (ofNat_inc _) (l' := #[.val (.ref b), .val (.int (Int32.ofNat (2 * i + 1)))]) rfl ?_
  refine go_baload (x := (lo8 c)) A (i := (2 * i)) rfl (flat_lo hc) d9_37 ?_
  refine go_sipush (x := (255 : Int32)) d9_38 (by decide) ?_
  refine go_iand d9_41 rfl ?_
  refine go_gets (hw _ (List.mem_of_getElem? (i := 90) rfl)) Via.refl Oh d9_42 ?_
  refine go_ishl (v := (lo8 c &&& (255 : Int32))) d9_45 (shl0 _) ?_
  refine go_aloadN d9_46 rfl rfl ?_
  refine go_iloadN d9_47 rfl ?_
  refine go_baload (x := (lo8 (c >>> 8))) A (i := (2 * i + 1)) rfl (flat_hi hc) d9_48 ?_
  refine go_sipush (x := (255 : Int32)) d9_49 (by decide) ?_
  refine go_iand d9_52 rfl ?_
  refine go_gets (hw _ (List.mem_of_getElem? (i := 91) rfl)) Via.refl Ol d9_53 ?_
  refine go_ishl (v := ((lo8 (c >>> 8) &&& (255 : Int32)) <<< 8)) d9_56 (shl8 _) ?_
  refine go_ior (v := c) d9_57 (join16 hc1) ?_
  refine go_i2c (v := c) d9_58 (i2c_ch hc1) ?_
  exact go_ireturn (ty := .char) (v := c) d9_59 rfl (by simp) (congrArg Value.int (i2c_ch hc1)) ⟨rfl, rfl⟩
theorem d10_0 : Dec jdk_52_method_83_code 0 (.iload_n 1) 1 1 := ⟨by decide +kernel, rfl⟩
theorem d10_1 : Dec jdk_52_method_83_code 1 (.aload_n 0) 1 2 := ⟨by decide +kernel, rfl⟩
theorem d10_2 : Dec jdk_52_method_83_code 2 (.invokestatic 67) 3 5 := ⟨by decide +kernel, rfl⟩
theorem pd4 : parseMethodDescriptor "(I[B)V" = some ⟨[.int, (.array .byte)], none⟩ := by decide +kernel
theorem d10_5 : Dec jdk_52_method_83_code 5 (.aload_n 0) 1 6 := ⟨by decide +kernel, rfl⟩
theorem d10_6 : Dec jdk_52_method_83_code 6 (.iload_n 1) 1 7 := ⟨by decide +kernel, rfl⟩
theorem d10_7 : Dec jdk_52_method_83_code 7 (.invokestatic 71) 3 10 := ⟨by decide +kernel, rfl⟩
theorem pd5 : parseMethodDescriptor "([BI)C" = some ⟨[(.array .byte), .int], some .char⟩ := by decide +kernel
theorem d10_10 : Dec jdk_52_method_83_code 10 (.ireturn) 1 11 := ⟨by decide +kernel, rfl⟩
set_option maxRecDepth 65536 in
set_option maxHeartbeats 40000000 in
theorem c_u16ch (l : Launch) (Z : State) (a0 : Array Value) (hw : ∀ d ∈ tables_1, d.before a0 Z = true) (hEL : EW Z a0 own_EL) (b : Addr) (cs : List Int32) (i : Nat) (c : Int32) (hc : cs[i]? = some c) (hc1 : isCh c) (hlen : cs.length < 2 ^ 29) (S : Addr → Prop) (h0 : Heap) (A : AI Z h0 b .byte (cs.flatMap two)) (sf : Value) (rsf : sf.isRef = true) (Os : Sta Z Z.heap "jdk/internal/util/Preconditions" "SIOOBE_FORMATTER" "Ljava/util/function/BiFunction;" sf) (Oa : Sta Z Z.heap "java/lang/StringUTF16" "$assertionsDisabled" "Z" (.int (1 : Int32))) (Oh : Sta Z Z.heap "java/lang/StringUTF16" "HI_BYTE_SHIFT" "I" (.int (0 : Int32))) (Ol : Sta Z Z.heap "java/lang/StringUTF16" "LO_BYTE_SHIFT" "I" (.int (8 : Int32))) :
    Con l Z own_EL [] (⟨"java/lang/StringUTF16", "charAt", "([BI)C"⟩ : MethodName) jdk_52_method_83_code 2 (some .char) ({ frames := 3, cells := 0, slots := 0, locals := 40 } : Room) #[.ref b, .int (Int32.ofNat i)] S h0 (fun S' v h' => v = some (.int c) ∧ h0 = h') := by
  refine con_of_go (ls := #[.val (.ref b), .val (.int (Int32.ofNat i))]) (plainFor_of_name pn0) hEL (fun m => by first | rfl | (simp [entryFrame, mkF, argsToLocals, cat_int, cat_ref, cat_null, cat_long]; done)) (fun K => ?_)
  show Go _ _ _ _ _ _ _ _ _ _ _ _ _ 0 0 _ _ _
  refine go_iloadN d10_0 rfl ?_
  refine go_aloadN d10_1 rfl rfl ?_
  refine go_static (R := ({ frames := 3, cells := 0, slots := 0, locals := 40 } : Room)) (kc := 0) (ks := 0) [.int (Int32.ofNat i), .ref b] [] (c_u16ci l Z a0 hw hEL b _ cs.length i (List.getElem?_eq_some_iff.mp hc).1 (flat_len cs) hlen S h0 A sf rsf Os) (hw _ (List.mem_of_getElem? (i := 98) rfl)) (hw _ (List.mem_of_getElem? (i := 99) rfl)) (hw _ (List.mem_of_getElem? (i := 100) rfl)) (hw _ (List.mem_of_getElem? (i := 46) rfl)) (by decide) rfl rfl (lenOf pd4 rfl) d10_2 (by rfl) (by decide) (Nat.le_of_ble_eq_true rfl) (rc := 0) (rs := 0) rfl rfl (fun S1001 v1001 h1001 m1001 z1001 q1001 => ?_)
  obtain ⟨rfl, rfl⟩ := q1001
  show Go _ _ _ _ _ _ _ _ _ _ _ _ _ _ _ _ _ (mkF K.m 5 #[.val (.ref b), .val (.int (Int32.ofNat i))] [])
  refine go_aloadN d10_5 rfl rfl ?_
  refine go_iloadN d10_6 rfl ?_
  refine go_static (R := ({ frames := 3, cells := 0, slots := 0, locals := 40 } : Room)) (kc := 0) (ks := 0) [.ref b, .int (Int32.ofNat i)] [] (c_getc l Z a0 hw hEL b cs i c hc hc1 S1001 h0 A Oa Oh Ol) (hw _ (List.mem_of_getElem? (i := 92) rfl)) (hw _ (List.mem_of_getElem? (i := 93) rfl)) (hw _ (List.mem_of_getElem? (i := 94) rfl)) (hw _ (List.mem_of_getElem? (i := 46) rfl)) (by decide) rfl rfl (lenOf pd5 rfl) d10_7 (by rfl) (by decide) (Nat.le_of_ble_eq_true rfl) (rc := 0) (rs := 0) rfl rfl (fun S1002 v1002 h1002 m1002 z1002 q1002 => ?_)
  obtain ⟨rfl, rfl⟩ := q1002
  show Go _ _ _ _ _ _ _ _ _ _ _ _ _ _ _ _ _ (mkF K.m 10 #[.val (.ref b), .val (.int (Int32.ofNat i))] [.int c])
  exact go_ireturn (ty := .char) (v := c) d10_10 rfl (by simp) (congrArg Value.int (i2c_ch hc1)) ⟨rfl, rfl⟩
theorem d11_0 : Dec jdk_42_method_56_code 0 (.aload_n 0) 1 1 := ⟨by decide +kernel, rfl⟩
theorem d11_1 : Dec jdk_42_method_56_code 1 (.invokevirtual 492) 3 4 := ⟨by decide +kernel, rfl⟩
theorem pd6 : parseMethodDescriptor "()Z" = some ⟨[], some .boolean⟩ := by decide +kernel
theorem d11_4 : Brn jdk_42_method_56_code 4 (.ifCond .eq 12) 12 7 16 := ⟨by decide +kernel, rfl, by decide, by decide⟩
theorem d11_7 : Dec jdk_42_method_56_code 7 (.aload_n 0) 1 8 := ⟨by decide +kernel, rfl⟩
theorem d11_8 : Dec jdk_42_method_56_code 8 (.getfield 9) 3 11 := ⟨by decide +kernel, rfl⟩
theorem d11_11 : Dec jdk_42_method_56_code 11 (.iload_n 1) 1 12 := ⟨by decide +kernel, rfl⟩
theorem d11_12 : Dec jdk_42_method_56_code 12 (.invokestatic 495) 3 15 := ⟨by decide +kernel, rfl⟩
theorem d11_15 : Dec jdk_42_method_56_code 15 (.ireturn) 1 16 := ⟨by decide +kernel, rfl⟩
theorem d11_16 : Dec jdk_42_method_56_code 16 (.aload_n 0) 1 17 := ⟨by decide +kernel, rfl⟩
theorem d11_17 : Dec jdk_42_method_56_code 17 (.getfield 9) 3 20 := ⟨by decide +kernel, rfl⟩
theorem d11_20 : Dec jdk_42_method_56_code 20 (.iload_n 1) 1 21 := ⟨by decide +kernel, rfl⟩
theorem d11_21 : Dec jdk_42_method_56_code 21 (.invokestatic 498) 3 24 := ⟨by decide +kernel, rfl⟩
theorem d11_24 : Dec jdk_42_method_56_code 24 (.ireturn) 1 25 := ⟨by decide +kernel, rfl⟩
set_option maxRecDepth 65536 in
set_option maxHeartbeats 40000000 in
theorem c_chat (l : Launch) (Z : State) (a0 : Array Value) (hw : ∀ d ∈ tables_1, d.before a0 Z = true) (hEL : EW Z a0 own_EL) (x : Addr) (cs : List Int32) (b : Addr) (k : Int32) (S : Addr → Prop) (h0 : Heap) (F : Str Z h0 x cs b k) (i : Nat) (c : Int32) (hc : cs[i]? = some c) (zc : Int32) (Oc : Sta Z Z.heap "java/lang/String" "COMPACT_STRINGS" "Z" (.int zc)) (Pc : ¬ zc = 0) (sf : Value) (rsf : sf.isRef = true) (Os : Sta Z Z.heap "jdk/internal/util/Preconditions" "SIOOBE_FORMATTER" "Ljava/util/function/BiFunction;" sf) (Oa : Sta Z Z.heap "java/lang/StringUTF16" "$assertionsDisabled" "Z" (.int (1 : Int32))) (Oh : Sta Z Z.heap "java/lang/StringUTF16" "HI_BYTE_SHIFT" "I" (.int (0 : Int32))) (Ol : Sta Z Z.heap "java/lang/StringUTF16" "LO_BYTE_SHIFT" "I" (.int (8 : Int32))) :
    Con l Z own_EL [] (⟨"java/lang/String", "charAt", "(I)C"⟩ : MethodName) jdk_42_method_56_code 2 (some .char) ({ frames := 4, cells := 0, slots := 0, locals := 53 } : Room) #[.ref x, .int (Int32.ofNat i)] S h0 (fun S' v h' => v = some (.int c) ∧ h0 = h') := by
  have F0 := F
  obtain ⟨-, -, -, -, hk, hch, hlen⟩ := F0
  rcases hk with ⟨rfl, hk⟩ | ⟨rfl, hk⟩
  · refine con_of_go (ls := #[.val (.ref x), .val (.int (Int32.ofNat i))]) (plainFor_of_name pn1) hEL (fun m => by first | rfl | (simp [entryFrame, mkF, argsToLocals, cat_int, cat_ref, cat_null, cat_long]; done)) (fun K => ?_)
    show Go _ _ _ _ _ _ _ _ _ _ _ _ _ 0 0 _ _ _
    have hc2 : ¬ (255 : Int32) < c := hk c (List.mem_of_getElem? hc)
    have hc1 : isCh c := hch c (List.mem_of_getElem? hc)
    refine go_aloadN d11_0 rfl rfl ?_
    refine go_virtual (R := ({ frames := 4, cells := 0, slots := 0, locals := 53 } : Room)) (kc := 0) (ks := 0) [] [] (c_lat l Z a0 hw hEL x _ _ _ S h0 F zc Oc Pc) F.1 (hw _ (List.mem_of_getElem? (i := 59) rfl)) (hw _ (List.mem_of_getElem? (i := 60) rfl)) (hw _ (List.mem_of_getElem? (i := 62) rfl)) (hw _ (List.mem_of_getElem? (i := 61) rfl)) (nfSel (hw _ (List.mem_of_getElem? (i := 62) rfl))) (hw _ (List.mem_of_getElem? (i := 63) rfl)) (hw _ (List.mem_of_getElem? (i := 3) rfl)) (by decide) rfl rfl (lenOf pd6 rfl) d11_1 (by rfl) (by decide) (Nat.le_of_ble_eq_true rfl) (rc := 0) (rs := 0) rfl rfl (fun S1001 v1001 h1001 m1001 z1001 q1001 => ?_)
    obtain ⟨rfl, rfl⟩ := q1001
    show Go _ _ _ _ _ _ _ _ _ _ _ _ _ _ _ _ _ (mkF K.m 4 #[.val (.ref x), .val (.int (Int32.ofNat i))] [.int ((1 : Int32) - (0 : Int32))])
    refine go_ifeq d11_4 (fun c1002 => absurd c1002 (by decide)) (fun c1002 => ?_)
    refine go_aloadN d11_7 rfl rfl ?_
    refine go_getf (hw _ (List.mem_of_getElem? (i := 20) rfl)) Via.refl F.2.2.1 d11_8 ?_
    refine go_iloadN d11_11 rfl ?_
    refine go_static (R := ({ frames := 4, cells := 0, slots := 0, locals := 53 } : Room)) (kc := 0) (ks := 0) [.ref b, .int (Int32.ofNat i)] [] (c_l1ch l Z a0 hw hEL b cs i c hc hc1 hc2 S1001 h0 F.2.2.2.1 sf rsf Os) (hw _ (List.mem_of_getElem? (i := 64) rfl)) (hw _ (List.mem_of_getElem? (i := 65) rfl)) (hw _ (List.mem_of_getElem? (i := 67) rfl)) (hw _ (List.mem_of_getElem? (i := 66) rfl)) (by decide) rfl rfl (lenOf pd5 rfl) d11_12 (by rfl) (by decide) (Nat.le_of_ble_eq_true rfl) (rc := 0) (rs := 0) rfl rfl (fun S1003 v1003 h1003 m1003 z1003 q1003 => ?_)
    obtain ⟨rfl, rfl⟩ := q1003
    show Go _ _ _ _ _ _ _ _ _ _ _ _ _ _ _ _ _ (mkF K.m 15 #[.val (.ref x), .val (.int (Int32.ofNat i))] [.int c])
    exact go_ireturn (ty := .char) (v := c) d11_15 rfl (by simp) (congrArg Value.int (i2c_ch hc1)) ⟨rfl, rfl⟩
  · refine con_of_go (ls := #[.val (.ref x), .val (.int (Int32.ofNat i))]) (plainFor_of_name pn1) hEL (fun m => by first | rfl | (simp [entryFrame, mkF, argsToLocals, cat_int, cat_ref, cat_null, cat_long]; done)) (fun K => ?_)
    show Go _ _ _ _ _ _ _ _ _ _ _ _ _ 0 0 _ _ _
    have hc1 : isCh c := hch c (List.mem_of_getElem? hc)
    refine go_aloadN d11_0 rfl rfl ?_
    refine go_virtual (R := ({ frames := 4, cells := 0, slots := 0, locals := 53 } : Room)) (kc := 0) (ks := 0) [] [] (c_lat l Z a0 hw hEL x _ _ _ S h0 F zc Oc Pc) F.1 (hw _ (List.mem_of_getElem? (i := 59) rfl)) (hw _ (List.mem_of_getElem? (i := 60) rfl)) (hw _ (List.mem_of_getElem? (i := 62) rfl)) (hw _ (List.mem_of_getElem? (i := 61) rfl)) (nfSel (hw _ (List.mem_of_getElem? (i := 62) rfl))) (hw _ (List.mem_of_getElem? (i := 63) rfl)) (hw _ (List.mem_of_getElem? (i := 3) rfl)) (by decide) rfl rfl (lenOf pd6 rfl) d11_1 (by rfl) (by decide) (Nat.le_of_ble_eq_true rfl) (rc := 0) (rs := 0) rfl rfl (fun S1001 v1001 h1001 m1001 z1001 q1001 => ?_)
    obtain ⟨rfl, rfl⟩ := q1001
    show Go _ _ _ _ _ _ _ _ _ _ _ _ _ _ _ _ _ (mkF K.m 4 #[.val (.ref x), .val (.int (Int32.ofNat i))] [.int ((1 : Int32) - (1 : Int32))])
    refine go_ifeq d11_4 (fun c1002 => ?_) (fun c1002 => absurd (by decide) c1002)
    refine go_aloadN d11_16 rfl rfl ?_
    refine go_getf (hw _ (List.mem_of_getElem? (i := 20) rfl)) Via.refl F.2.2.1 d11_17 ?_
    refine go_iloadN d11_20 rfl ?_
    refine go_static (R := ({ frames := 4, cells := 0, slots := 0, locals := 53 } : Room)) (kc := 0) (ks := 0) [.ref b, .int (Int32.ofNat i)] [] (c_u16ch l Z a0 hw hEL b cs i c hc hc1 hlen S1001 h0 F.2.2.2.1 sf rsf Os Oa Oh Ol) (hw _ (List.mem_of_getElem? (i := 95) rfl)) (hw _ (List.mem_of_getElem? (i := 96) rfl)) (hw _ (List.mem_of_getElem? (i := 97) rfl)) (hw _ (List.mem_of_getElem? (i := 46) rfl)) (by decide) rfl rfl (lenOf pd5 rfl) d11_21 (by rfl) (by decide) (Nat.le_of_ble_eq_true rfl) (rc := 0) (rs := 0) rfl rfl (fun S1003 v1003 h1003 m1003 z1003 q1003 => ?_)
    obtain ⟨rfl, rfl⟩ := q1003
    show Go _ _ _ _ _ _ _ _ _ _ _ _ _ _ _ _ _ (mkF K.m 24 #[.val (.ref x), .val (.int (Int32.ofNat i))] [.int c])
    exact go_ireturn (ty := .char) (v := c) d11_24 rfl (by simp) (congrArg Value.int (i2c_ch hc1)) ⟨rfl, rfl⟩
theorem d12_0 : Dec jdk_52_method_3_code 0 (.iload_n 0) 1 1 := ⟨by decide +kernel, rfl⟩
theorem d12_1 : Brn jdk_52_method_3_code 1 (.ifCond .ge 11) 11 4 12 := ⟨by decide +kernel, rfl, by decide, by decide⟩
theorem d12_12 : Dec jdk_52_method_3_code 12 (.iload_n 0) 1 13 := ⟨by decide +kernel, rfl⟩
theorem d12_13 : Dec jdk_52_method_3_code 13 (.ldc 20) 2 15 := ⟨by decide +kernel, rfl⟩
theorem d12_15 : Brn jdk_52_method_3_code 15 (.if_icmp .lt 40) 40 18 55 := ⟨by decide +kernel, rfl, by decide, by decide⟩
theorem d12_55 : Dec jdk_52_method_3_code 55 (.iload_n 0) 1 56 := ⟨by decide +kernel, rfl⟩
theorem d12_56 : Dec jdk_52_method_3_code 56 (.iconst 1) 1 57 := ⟨by decide +kernel, rfl⟩
theorem d12_57 : Dec jdk_52_method_3_code 57 (.ishl) 1 58 := ⟨by decide +kernel, rfl⟩
theorem d12_58 : Dec jdk_52_method_3_code 58 (.ireturn) 1 59 := ⟨by decide +kernel, rfl⟩
set_option maxRecDepth 65536 in
set_option maxHeartbeats 40000000 in
theorem c_nbl (l : Launch) (Z : State) (a0 : Array Value) (hw : ∀ d ∈ tables_1, d.before a0 Z = true) (hEL : EW Z a0 own_EL) (n : Nat) (hn : n < 2 ^ 29) (S : Addr → Prop) (h0 : Heap) :
    Con l Z own_EL [] (⟨"java/lang/StringUTF16", "newBytesLength", "(I)I"⟩ : MethodName) jdk_52_method_3_code 1 (some .int) ({ frames := 0, cells := 0, slots := 0, locals := 0 } : Room) #[.int (Int32.ofNat n)] S h0 (fun S' v h' => v = some (.int (Int32.ofNat (2 * n))) ∧ h0 = h') := by
  refine con_of_go (ls := #[.val (.int (Int32.ofNat n))]) (plainFor_of_name pn0) hEL (fun m => by first | rfl | (simp [entryFrame, mkF, argsToLocals, cat_int, cat_ref, cat_null, cat_long]; done)) (fun K => ?_)
  show Go _ _ _ _ _ _ _ _ _ _ _ _ _ 0 0 _ _ _
  refine go_iloadN d12_0 rfl ?_
  refine go_ifge d12_1 (fun c1001 => ?_) (fun c1001 => absurd c1001 (ofNat_nlt (n := 0) (by omega) (by omega)))
  refine go_iloadN d12_12 rfl ?_
  refine go_ldcI (v := (1073741823 : Int32)) (hw _ (List.mem_of_getElem? (i := 85) rfl)) d12_13 ?_
  refine go_icmplt d12_15 (fun c1002 => ?_) (fun c1002 => absurd (ofNat_lt (n := 1073741823) (by omega) (by omega)) c1002)
  refine go_iloadN d12_55 rfl ?_
  refine go_iconst (x := (1 : Int32)) d12_56 (by decide) ?_
  refine go_ishl (v := (Int32.ofNat (2 * n))) d12_57 ofNat_shl1 ?_
  exact go_ireturn (ty := .int) (v := (Int32.ofNat (2 * n))) d12_58 rfl (by simp) rfl ⟨rfl, rfl⟩
theorem d13_0 : Dec jdk_52_method_2_code 0 (.iload_n 0) 1 1 := ⟨by decide +kernel, rfl⟩
theorem d13_1 : Dec jdk_52_method_2_code 1 (.invokestatic 11) 3 4 := ⟨by decide +kernel, rfl⟩
theorem pd7 : parseMethodDescriptor "(I)I" = some ⟨[.int], some .int⟩ := by decide +kernel
theorem d13_4 : Dec jdk_52_method_2_code 4 (.newarray .byte) 2 6 := ⟨by decide +kernel, rfl⟩
theorem d13_6 : Dec jdk_52_method_2_code 6 (.areturn) 1 7 := ⟨by decide +kernel, rfl⟩
set_option maxRecDepth 65536 in
set_option maxHeartbeats 40000000 in
theorem c_nbf (l : Launch) (Z : State) (a0 : Array Value) (hw : ∀ d ∈ tables_1, d.before a0 Z = true) (hEL : EW Z a0 own_EL) (n : Nat) (hn : n ≤ 64) (S : Addr → Prop) (h0 : Heap) (hz : Z.heap.size ≤ h0.size) :
    Con l Z own_EL [] (⟨"java/lang/StringUTF16", "newBytesFor", "(I)[B"⟩ : MethodName) jdk_52_method_2_code 1 (some (.array .byte)) ({ frames := 1, cells := 1, slots := 128, locals := 12 } : Room) #[.int (Int32.ofNat n)] S h0 (fun S' v h' => ∃ b, v = some (.ref b) ∧ h0.size ≤ b ∧ b < h'.size ∧ S' b ∧ Keep h0 h' [] ∧ AI Z h' b .byte (List.replicate (2 * n) 0)) := by
  refine con_of_go (ls := #[.val (.int (Int32.ofNat n))]) (plainFor_of_name pn0) hEL (fun m => by first | rfl | (simp [entryFrame, mkF, argsToLocals, cat_int, cat_ref, cat_null, cat_long]; done)) (fun K => ?_)
  show Go _ _ _ _ _ _ _ _ _ _ _ _ _ 1 128 _ _ _
  refine go_iloadN d13_0 rfl ?_
  refine go_static (R := ({ frames := 1, cells := 1, slots := 128, locals := 12 } : Room)) (kc := 1) (ks := 128) [.int (Int32.ofNat n)] [] (c_nbl l Z a0 hw hEL n (by omega) S h0) (hw _ (List.mem_of_getElem? (i := 82) rfl)) (hw _ (List.mem_of_getElem? (i := 83) rfl)) (hw _ (List.mem_of_getElem? (i := 84) rfl)) (hw _ (List.mem_of_getElem? (i := 46) rfl)) (by decide) rfl rfl (lenOf pd7 rfl) d13_1 (by rfl) (by decide) (Nat.le_of_ble_eq_true rfl) (rc := 0) (rs := 0) rfl rfl (fun S1001 v1001 h1001 m1001 z1001 q1001 => ?_)
  obtain ⟨rfl, rfl⟩ := q1001
  show Go _ _ _ _ _ _ _ _ _ _ _ _ _ _ _ _ _ (mkF K.m 4 #[.val (.int (Int32.ofNat n))] [.int (Int32.ofNat (2 * n))])
  refine go_newarr (kc := 0) (ks := 0) (N := (2 * n)) (cap := 128) (hw _ (List.mem_of_getElem? (i := 15) rfl)) rfl (by omega) (by decide) rfl rfl d13_4 (fun S1002 h1002 a1002 e1002 m1002 s1002 x1002 l1002 A1002 => ?_)
  have z1002 := x1002.1
  have A1002 : AI Z h1002 a1002 .byte (List.replicate (2 * n) 0) := A1002
  have L1003 := lt_nat A1002.lt
  exact go_areturn d13_6 rfl rfl rfl ⟨_, rfl, by omega, L1003, s1002, ((Keep.refl h0 []).ext x1002), A1002⟩
theorem d14_0 : Dec jdk_52_method_4_code 0 (.getstatic 44) 3 3 := ⟨by decide +kernel, rfl⟩
theorem d14_3 : Brn jdk_52_method_4_code 3 (.ifCond .ne 25) 25 6 28 := ⟨by decide +kernel, rfl, by decide, by decide⟩
theorem d14_28 : Dec jdk_52_method_4_code 28 (.iload_n 1) 1 29 := ⟨by decide +kernel, rfl⟩
theorem d14_29 : Dec jdk_52_method_4_code 29 (.iconst 1) 1 30 := ⟨by decide +kernel, rfl⟩
theorem d14_30 : Dec jdk_52_method_4_code 30 (.ishl) 1 31 := ⟨by decide +kernel, rfl⟩
theorem d14_31 : Dec jdk_52_method_4_code 31 (.istore_n 1) 1 32 := ⟨by decide +kernel, rfl⟩
theorem d14_32 : Dec jdk_52_method_4_code 32 (.aload_n 0) 1 33 := ⟨by decide +kernel, rfl⟩
theorem d14_33 : Dec jdk_52_method_4_code 33 (.iload_n 1) 1 34 := ⟨by decide +kernel, rfl⟩
theorem d14_34 : Dec jdk_52_method_4_code 34 (.iinc 1 1) 3 37 := ⟨by decide +kernel, rfl⟩
theorem d14_37 : Dec jdk_52_method_4_code 37 (.iload_n 2) 1 38 := ⟨by decide +kernel, rfl⟩
theorem d14_38 : Dec jdk_52_method_4_code 38 (.getstatic 59) 3 41 := ⟨by decide +kernel, rfl⟩
theorem d14_41 : Dec jdk_52_method_4_code 41 (.ishr) 1 42 := ⟨by decide +kernel, rfl⟩
theorem d14_42 : Dec jdk_52_method_4_code 42 (.i2b) 1 43 := ⟨by decide +kernel, rfl⟩
theorem d14_43 : Dec jdk_52_method_4_code 43 (.bastore) 1 44 := ⟨by decide +kernel, rfl⟩
theorem d14_44 : Dec jdk_52_method_4_code 44 (.aload_n 0) 1 45 := ⟨by decide +kernel, rfl⟩
theorem d14_45 : Dec jdk_52_method_4_code 45 (.iload_n 1) 1 46 := ⟨by decide +kernel, rfl⟩
theorem d14_46 : Dec jdk_52_method_4_code 46 (.iload_n 2) 1 47 := ⟨by decide +kernel, rfl⟩
theorem d14_47 : Dec jdk_52_method_4_code 47 (.getstatic 63) 3 50 := ⟨by decide +kernel, rfl⟩
theorem d14_50 : Dec jdk_52_method_4_code 50 (.ishr) 1 51 := ⟨by decide +kernel, rfl⟩
theorem d14_51 : Dec jdk_52_method_4_code 51 (.i2b) 1 52 := ⟨by decide +kernel, rfl⟩
theorem d14_52 : Dec jdk_52_method_4_code 52 (.bastore) 1 53 := ⟨by decide +kernel, rfl⟩
theorem d14_53 : Dec jdk_52_method_4_code 53 (.return_) 1 54 := ⟨by decide +kernel, rfl⟩
set_option maxRecDepth 65536 in
set_option maxHeartbeats 40000000 in
theorem c_putc (l : Launch) (Z : State) (a0 : Array Value) (hw : ∀ d ∈ tables_1, d.before a0 Z = true) (hEL : EW Z a0 own_EL) (b : Addr) (xs : List Int32) (i : Nat) (c : Int32) (hi : 2 * i + 1 < xs.length) (S : Addr → Prop) (h0 : Heap) (hz : Z.heap.size ≤ h0.size) (A : AI Z h0 b .byte xs) (gb : Z.heap.size ≤ b) (sb : S b) (Oa : Sta Z Z.heap "java/lang/StringUTF16" "$assertionsDisabled" "Z" (.int (1 : Int32))) (Oh : Sta Z Z.heap "java/lang/StringUTF16" "HI_BYTE_SHIFT" "I" (.int (0 : Int32))) (Ol : Sta Z Z.heap "java/lang/StringUTF16" "LO_BYTE_SHIFT" "I" (.int (8 : Int32))) :
    Con l Z own_EL [] (⟨"java/lang/StringUTF16", "putChar", "([BII)V"⟩ : MethodName) jdk_52_method_4_code 3 (none : Option FieldType) ({ frames := 0, cells := 0, slots := 0, locals := 0 } : Room) #[.ref b, .int (Int32.ofNat i), .int c] S h0 (fun S' v h' => v = none ∧ Keep h0 h' [b] ∧ AI Z h' b .byte ((xs.set (2 * i) (lo8 c)).set (2 * i + 1) (lo8 (c >>> 8)))) := by
  refine con_of_go (ls := #[.val (.ref b), .val (.int (Int32.ofNat i)), .val (.int c)]) (plainFor_of_name pn0) hEL (fun m => by first | rfl | (simp [entryFrame, mkF, argsToLocals, cat_int, cat_ref, cat_null, cat_long]; done)) (fun K => ?_)
  show Go _ _ _ _ _ _ _ _ _ _ _ _ _ 0 0 _ _ _
  have lb := lt_nat A.lt
  refine go_gets (hw _ (List.mem_of_getElem? (i := 89) rfl)) Via.refl Oa d14_0 ?_
  refine go_ifne d14_3 (fun c1001 => ?_) (fun c1001 => absurd c1001 (by decide))
  refine go_iloadN d14_28 rfl ?_
  refine go_iconst (x := (1 : Int32)) d14_29 (by decide) ?_
  refine go_ishl (v := (Int32.ofNat (2 * i))) d14_30 ofNat_shl1 ?_
  refine go_istoreN d14_31 (l' := #[.val (.ref b), .val (.int (Int32.ofNat (2 * i))), .val (.int c)]) rfl ?_
  refine go_aloadN d14_32 rfl rfl ?_
  refine go_iloadN d14_33 rfl ?_
  refine go_iinc d14_34 rfl (v := (Int32.ofNat (2 * i + 1))) (ofNat_inc _) (l' := #[.val (.ref b), .val (.int (Int32.ofNat (2 * i + 1))), .val (.int c)]) rfl ?_
  refine go_iloadN d14_37 rfl ?_
  refine go_gets (hw _ (List.mem_of_getElem? (i := 90) rfl)) Via.refl Oh d14_38 ?_
  refine go_ishr (v := c) d14_41 (sh0 c) ?_
  refine go_i2b (v := (lo8 c)) d14_42 rfl ?_
  refine go_bastore (v := (lo8 c)) A (by omega) sb (i := (2 * i)) rfl (by omega) (nar_lo8 _) d14_43 (fun h1002 K1002 A1002 => ?_)
  have z1002 := K1002.1
  have A1002 : AI Z h1002 b .byte (xs.set (2 * i) (lo8 c)) := A1002
  refine go_aloadN d14_44 rfl rfl ?_
  refine go_iloadN d14_45 rfl ?_
  refine go_iloadN d14_46 rfl ?_
  refine go_gets (hw _ (List.mem_of_getElem? (i := 91) rfl)) Via.refl Ol d14_47 ?_
  refine go_ishr (v := (c >>> 8)) d14_50 (sh8 c) ?_
  refine go_i2b (v := (lo8 (c >>> 8))) d14_51 rfl ?_
  refine go_bastore (v := (lo8 (c >>> 8))) A1002 (by omega) sb (i := (2 * i + 1)) rfl (by rw [List.length_set]; omega) (nar_lo8 _) d14_52 (fun h1003 K1003 A1003 => ?_)
  have z1003 := K1003.1
  have A1003 : AI Z h1003 b .byte ((xs.set (2 * i) (lo8 c)).set (2 * i + 1) (lo8 (c >>> 8))) := A1003
  exact go_return d14_53 rfl ⟨rfl, (((Keep.refl h0 [b]).trans K1002 (allS (Or.inl (by simp)) all0)).trans K1003 (allS (Or.inl (by simp)) all0)), A1003⟩
theorem d15_0 : Dec jdk_52_method_14_code 0 (.iload_n 2) 1 1 := ⟨by decide +kernel, rfl⟩
theorem d15_1 : Dec jdk_52_method_14_code 1 (.invokestatic 107) 3 4 := ⟨by decide +kernel, rfl⟩
theorem pd8 : parseMethodDescriptor "(I)[B" = some ⟨[.int], some (.array .byte)⟩ := by decide +kernel
theorem d15_4 : Dec jdk_52_method_14_code 4 (.astore_n 3) 1 5 := ⟨by decide +kernel, rfl⟩
theorem d15_5 : Dec jdk_52_method_14_code 5 (.iconst 0) 1 6 := ⟨by decide +kernel, rfl⟩
theorem d15_6 : Dec jdk_52_method_14_code 6 (.istore 4) 2 8 := ⟨by decide +kernel, rfl⟩
theorem d15_8 : Dec jdk_52_method_14_code 8 (.iload 4) 2 10 := ⟨by decide +kernel, rfl⟩
theorem d15_10 : Dec jdk_52_method_14_code 10 (.iload_n 2) 1 11 := ⟨by decide +kernel, rfl⟩
theorem d15_11 : Brn jdk_52_method_14_code 11 (.if_icmp .ge 21) 21 14 32 := ⟨by decide +kernel, rfl, by decide, by decide⟩
theorem d15_32 : Dec jdk_52_method_14_code 32 (.aload_n 3) 1 33 := ⟨by decide +kernel, rfl⟩
theorem d15_33 : Dec jdk_52_method_14_code 33 (.areturn) 1 34 := ⟨by decide +kernel, rfl⟩
theorem d15_14 : Dec jdk_52_method_14_code 14 (.aload_n 3) 1 15 := ⟨by decide +kernel, rfl⟩
theorem d15_15 : Dec jdk_52_method_14_code 15 (.iload 4) 2 17 := ⟨by decide +kernel, rfl⟩
theorem d15_17 : Dec jdk_52_method_14_code 17 (.aload_n 0) 1 18 := ⟨by decide +kernel, rfl⟩
theorem d15_18 : Dec jdk_52_method_14_code 18 (.iload_n 1) 1 19 := ⟨by decide +kernel, rfl⟩
theorem d15_19 : Dec jdk_52_method_14_code 19 (.caload) 1 20 := ⟨by decide +kernel, rfl⟩
theorem d15_20 : Dec jdk_52_method_14_code 20 (.invokestatic 111) 3 23 := ⟨by decide +kernel, rfl⟩
theorem pd9 : parseMethodDescriptor "([BII)V" = some ⟨[(.array .byte), .int, .int], none⟩ := by decide +kernel
theorem d15_23 : Dec jdk_52_method_14_code 23 (.iinc 1 1) 3 26 := ⟨by decide +kernel, rfl⟩
theorem d15_26 : Dec jdk_52_method_14_code 26 (.iinc 4 1) 3 29 := ⟨by decide +kernel, rfl⟩
theorem d15_29 : Brn jdk_52_method_14_code 29 (.goto (-21)) (-21) 32 8 := ⟨by decide +kernel, rfl, by decide, by decide⟩
set_option maxRecDepth 65536 in
set_option maxHeartbeats 40000000 in
theorem c_tob2 (l : Launch) (Z : State) (a0 : Array Value) (hw : ∀ d ∈ tables_1, d.before a0 Z = true) (hEL : EW Z a0 own_EL) (src : Addr) (cs : List Int32) (S : Addr → Prop) (h0 : Heap) (hz : Z.heap.size ≤ h0.size) (A1 : AI Z h0 src .char cs) (hl : cs.length ≤ 64) (Oa : Sta Z Z.heap "java/lang/StringUTF16" "$assertionsDisabled" "Z" (.int (1 : Int32))) (Oh : Sta Z Z.heap "java/lang/StringUTF16" "HI_BYTE_SHIFT" "I" (.int (0 : Int32))) (Ol : Sta Z Z.heap "java/lang/StringUTF16" "LO_BYTE_SHIFT" "I" (.int (8 : Int32))) :
    Con l Z own_EL [] (⟨"java/lang/StringUTF16", "toBytes", "([CII)[B"⟩ : MethodName) jdk_52_method_14_code 5 (some (.array .byte)) ({ frames := 2, cells := 1, slots := 128, locals := 24 } : Room) #[.ref src, .int (0 : Int32), .int (Int32.ofNat cs.length)] S h0 (fun S' v h' => ∃ b, v = some (.ref b) ∧ h0.size ≤ b ∧ b < h'.size ∧ S' b ∧ Keep h0 h' [] ∧ AI Z h' b .byte (cs.flatMap two)) := by
  refine con_of_go (ls := #[.val (.ref src), .val (.int (0 : Int32)), .val (.int (Int32.ofNat cs.length)), .unset, .unset]) (plainFor_of_name pn0) hEL (fun m => by first | rfl | (simp [entryFrame, mkF, argsToLocals, cat_int, cat_ref, cat_null, cat_long]; done)) (fun K => ?_)
  show Go _ _ _ _ _ _ _ _ _ _ _ _ _ 1 128 _ _ _
  have ls := lt_nat A1.lt
  have hlen : cs.length < 2 ^ 31 := by omega
  refine go_iloadN d15_0 rfl ?_
  refine go_static (R := ({ frames := 2, cells := 1, slots := 128, locals := 24 } : Room)) (kc := 0) (ks := 0) [.int (Int32.ofNat cs.length)] [] (c_nbf l Z a0 hw hEL cs.length hl S h0 (by omega)) (hw _ (List.mem_of_getElem? (i := 79) rfl)) (hw _ (List.mem_of_getElem? (i := 80) rfl)) (hw _ (List.mem_of_getElem? (i := 81) rfl)) (hw _ (List.mem_of_getElem? (i := 46) rfl)) (by decide) rfl rfl (lenOf pd8 rfl) d15_1 (by rfl) (by decide) (Nat.le_of_ble_eq_true rfl) (rc := 1) (rs := 128) rfl rfl (fun S1001 v1001 h1001 m1001 z1001 q1001 => ?_)
  obtain ⟨b1001, rfl, g1001, l1001, s1001, K1001, A1001⟩ := q1001
  have l1001 := lt_nat l1001
  show Go _ _ _ _ _ _ _ _ _ _ _ _ _ _ _ _ _ (mkF K.m 4 #[.val (.ref src), .val (.int (0 : Int32)), .val (.int (Int32.ofNat cs.length)), .unset, .unset] [.ref b1001])
  refine go_astoreN d15_4 rfl (l' := #[.val (.ref src), .val (.int (0 : Int32)), .val (.int (Int32.ofNat cs.length)), .val (.ref b1001), .unset]) rfl ?_
  refine go_iconst (x := (0 : Int32)) d15_5 (by decide) ?_
  refine go_istore d15_6 (l' := #[.val (.ref src), .val (.int (0 : Int32)), .val (.int (Int32.ofNat cs.length)), .val (.ref b1001), .val (.int (0 : Int32))]) rfl ?_
  have loop : ∀ r i, i + r = cs.length → ∀ (S1 : Addr → Prop) (h1 : Heap), S1 b1001 → Keep h1001 h1 [b1001] → AI Z h1 src .char cs → AI Z h1 b1001 .byte ((cs.take i).flatMap two ++ List.replicate (2 * cs.length - 2 * i) 0) → Go l Z a0 own_EL ({ frames := 2, cells := 1, slots := 128, locals := 24 } : Room) "java/lang/StringUTF16" jdk_52_method_14_code 5 (some (.array .byte)) "toBytes" S (fun S' v h' => ∃ b, v = some (.ref b) ∧ h0.size ≤ b ∧ b < h'.size ∧ S' b ∧ Keep h0 h' [] ∧ AI Z h' b .byte (cs.flatMap two)) K 0 0 S1 h1 (mkF K.m 8 #[.val (.ref src), .val (.int (Int32.ofNat i)), .val (.int (Int32.ofNat cs.length)), .val (.ref b1001), .val (.int (Int32.ofNat i))] []) := by
    intro r
    induction r with
    | zero =>
      intro i hi S1 h1 sd Kp B1 B2
      have zK := Kp.1
      refine go_iload d15_8 rfl ?_
      refine go_iloadN d15_10 rfl ?_
      refine go_icmpge d15_11 (fun c1002 => ?_) (fun c1002 => absurd c1002 (ofNat_nlt (by omega) (by omega)))
      refine go_aloadN d15_32 rfl rfl ?_
      have hi0 : i = cs.length := by omega
      have B1003 : AI Z h1 b1001 .byte (cs.flatMap two) := by rw [hi0] at B2; simpa using B2
      have L1003 := lt_nat B1003.lt
      exact go_areturn d15_33 rfl rfl rfl ⟨_, rfl, by omega, L1003, sd, (((Keep.refl h0 []).trans K1001 all0).trans Kp (allS (Or.inr (by omega)) all0)), B1003⟩
    | succ r ih =>
      intro i hi S1 h1 sd Kp B1 B2
      have zK := Kp.1
      obtain ⟨c, hc⟩ : ∃ c, cs[i]? = some c := ⟨_, List.getElem?_eq_getElem (by omega)⟩
      refine go_iload d15_8 rfl ?_
      refine go_iloadN d15_10 rfl ?_
      refine go_icmpge d15_11 (fun c1004 => absurd (ofNat_lt (by omega) (by omega)) c1004) (fun c1004 => ?_)
      refine go_aloadN d15_14 rfl rfl ?_
      refine go_iload d15_15 rfl ?_
      refine go_aloadN d15_17 rfl rfl ?_
      refine go_iloadN d15_18 rfl ?_
      refine go_caload (x := c) B1 (i := i) rfl hc d15_19 ?_
      refine go_static (R := ({ frames := 2, cells := 1, slots := 128, locals := 24 } : Room)) (kc := 0) (ks := 0) [.ref b1001, .int (Int32.ofNat i), .int c] [] (c_putc l Z a0 hw hEL b1001 _ i c (by rw [fill2_len rfl (by omega)]; omega) S1 h1 (by omega) B2 (by omega) sd Oa Oh Ol) (hw _ (List.mem_of_getElem? (i := 86) rfl)) (hw _ (List.mem_of_getElem? (i := 87) rfl)) (hw _ (List.mem_of_getElem? (i := 88) rfl)) (hw _ (List.mem_of_getElem? (i := 46) rfl)) (by decide) rfl rfl (lenOf pd9 rfl) d15_20 (by rfl) (by decide) (Nat.le_of_ble_eq_true rfl) (rc := 0) (rs := 0) rfl rfl (fun S1005 v1005 h1005 m1005 z1005 q1005 => ?_)
      obtain ⟨rfl, K1005, A1005⟩ := q1005
      have zz1005 := K1005.1
      have A1005 : AI Z h1005 b1001 .byte ((cs.take (i + 1)).flatMap two ++ List.replicate (2 * cs.length - 2 * (i + 1)) 0) := set_two rfl hc ▸ A1005
      show Go _ _ _ _ _ _ _ _ _ _ _ _ _ _ _ _ _ (mkF K.m 23 #[.val (.ref src), .val (.int (Int32.ofNat i)), .val (.int (Int32.ofNat cs.length)), .val (.ref b1001), .val (.int (Int32.ofNat i))] [])
      refine go_iinc d15_23 rfl (v := (Int32.ofNat (i + 1))) (ofNat_inc i) (l' := #[.val (.ref src), .val (.int (Int32.ofNat (i + 1))), .val (.int (Int32.ofNat cs.length)), .val (.ref b1001), .val (.int (Int32.ofNat i))]) rfl ?_
      refine go_iinc d15_26 rfl (v := (Int32.ofNat (i + 1))) (ofNat_inc i) (l' := #[.val (.ref src), .val (.int (Int32.ofNat (i + 1))), .val (.int (Int32.ofNat cs.length)), .val (.ref b1001), .val (.int (Int32.ofNat (i + 1)))]) rfl ?_
      refine go_goto d15_29 ?_
      have f1006 := (B1.keep K1005 (ninS (ne_of (a := src) (b := b1001) (by omega)) nin0))
      exact ih (i + 1) (by omega) S1005 h1005 (m1005 _ sd) (Kp.trans K1005 (allS (Or.inl (by simp)) all0)) f1006 A1005
  have f1007 := (A1.keep K1001 nin0)
  exact loop cs.length 0 (by omega) S1001 h1001 s1001 (Keep.refl _ _) f1007 (by simpa using A1001)
theorem d16_0 : Dec jdk_52_method_16_code 0 (.iload_n 2) 1 1 := ⟨by decide +kernel, rfl⟩
theorem d16_1 : Dec jdk_52_method_16_code 1 (.newarray .byte) 2 3 := ⟨by decide +kernel, rfl⟩
theorem d16_3 : Dec jdk_52_method_16_code 3 (.astore_n 3) 1 4 := ⟨by decide +kernel, rfl⟩
theorem d16_4 : Dec jdk_52_method_16_code 4 (.aload_n 0) 1 5 := ⟨by decide +kernel, rfl⟩
theorem d16_5 : Dec jdk_52_method_16_code 5 (.iload_n 1) 1 6 := ⟨by decide +kernel, rfl⟩
theorem d16_6 : Dec jdk_52_method_16_code 6 (.aload_n 3) 1 7 := ⟨by decide +kernel, rfl⟩
theorem d16_7 : Dec jdk_52_method_16_code 7 (.iconst 0) 1 8 := ⟨by decide +kernel, rfl⟩
theorem d16_8 : Dec jdk_52_method_16_code 8 (.iload_n 2) 1 9 := ⟨by decide +kernel, rfl⟩
theorem d16_9 : Dec jdk_52_method_16_code 9 (.invokestatic 115) 3 12 := ⟨by decide +kernel, rfl⟩
theorem pd10 : parseMethodDescriptor "([CI[BII)I" = some ⟨[(.array .char), .int, (.array .byte), .int, .int], some .int⟩ := by decide +kernel
theorem d16_12 : Dec jdk_52_method_16_code 12 (.istore 4) 2 14 := ⟨by decide +kernel, rfl⟩
theorem d16_14 : Dec jdk_52_method_16_code 14 (.iload 4) 2 16 := ⟨by decide +kernel, rfl⟩
theorem d16_16 : Dec jdk_52_method_16_code 16 (.iload_n 2) 1 17 := ⟨by decide +kernel, rfl⟩
theorem d16_17 : Brn jdk_52_method_16_code 17 (.if_icmp .eq 40) 40 20 57 := ⟨by decide +kernel, rfl, by decide, by decide⟩
theorem d16_57 : Dec jdk_52_method_16_code 57 (.aload_n 3) 1 58 := ⟨by decide +kernel, rfl⟩
theorem d16_58 : Dec jdk_52_method_16_code 58 (.areturn) 1 59 := ⟨by decide +kernel, rfl⟩
theorem d16_20 : Dec jdk_52_method_16_code 20 (.aload_n 0) 1 21 := ⟨by decide +kernel, rfl⟩
theorem d16_21 : Dec jdk_52_method_16_code 21 (.iload_n 1) 1 22 := ⟨by decide +kernel, rfl⟩
theorem d16_22 : Dec jdk_52_method_16_code 22 (.iload_n 2) 1 23 := ⟨by decide +kernel, rfl⟩
theorem d16_23 : Dec jdk_52_method_16_code 23 (.invokestatic 119) 3 26 := ⟨by decide +kernel, rfl⟩
theorem pd11 : parseMethodDescriptor "([CII)[B" = some ⟨[(.array .char), .int, .int], some (.array .byte)⟩ := by decide +kernel
theorem d16_26 : Dec jdk_52_method_16_code 26 (.astore 5) 2 28 := ⟨by decide +kernel, rfl⟩
theorem d16_28 : Dec jdk_52_method_16_code 28 (.aload 5) 2 30 := ⟨by decide +kernel, rfl⟩
theorem d16_30 : Dec jdk_52_method_16_code 30 (.iload 4) 2 32 := ⟨by decide +kernel, rfl⟩
theorem d16_32 : Dec jdk_52_method_16_code 32 (.invokestatic 71) 3 35 := ⟨by decide +kernel, rfl⟩
theorem d16_35 : Dec jdk_52_method_16_code 35 (.sipush 255) 3 38 := ⟨by decide +kernel, rfl⟩
theorem d16_38 : Brn jdk_52_method_16_code 38 (.if_icmp .gt 16) 16 41 54 := ⟨by decide +kernel, rfl, by decide, by decide⟩
theorem d16_54 : Dec jdk_52_method_16_code 54 (.aload 5) 2 56 := ⟨by decide +kernel, rfl⟩
theorem d16_56 : Dec jdk_52_method_16_code 56 (.areturn) 1 57 := ⟨by decide +kernel, rfl⟩
set_option maxRecDepth 65536 in
set_option maxHeartbeats 40000000 in
theorem c_cmpU (l : Launch) (Z : State) (a0 : Array Value) (hw : ∀ d ∈ tables_1, d.before a0 Z = true) (hEL : EW Z a0 own_EL) (src : Addr) (cs : List Int32) (S : Addr → Prop) (h0 : Heap) (hz : Z.heap.size ≤ h0.size) (A1 : AI Z h0 src .char cs) (hl : cs.length ≤ 64) (Oa : Sta Z Z.heap "java/lang/StringUTF16" "$assertionsDisabled" "Z" (.int (1 : Int32))) (Oh : Sta Z Z.heap "java/lang/StringUTF16" "HI_BYTE_SHIFT" "I" (.int (0 : Int32))) (Ol : Sta Z Z.heap "java/lang/StringUTF16" "LO_BYTE_SHIFT" "I" (.int (8 : Int32))) :
    Con l Z own_EL [] (⟨"java/lang/StringUTF16", "compress", "([CII)[B"⟩ : MethodName) jdk_52_method_16_code 6 (some (.array .byte)) ({ frames := 3, cells := 2, slots := 192, locals := 40 } : Room) #[.ref src, .int (0 : Int32), .int (Int32.ofNat cs.length)] S h0 (fun S' v h' => ∃ b k, v = some (.ref b) ∧ h0.size ≤ b ∧ b < h'.size ∧ S' b ∧ Keep h0 h' [] ∧ AI Z h' b .byte (sbytes k cs) ∧ ((k = 0 ∧ ∀ c ∈ cs, ¬ (255 : Int32) < c) ∨ (k = 1 ∧ ∃ c ∈ cs, (255 : Int32) < c))) := by
  have hch : ∀ c ∈ cs, isCh c := by obtain ⟨c, -, -, -, q⟩ := A1; exact q
  rcases lat_or cs with hcs | ⟨k, c, h1, h2, h3⟩
  · refine con_of_go (ls := #[.val (.ref src), .val (.int (0 : Int32)), .val (.int (Int32.ofNat cs.length)), .unset, .unset, .unset]) (plainFor_of_name pn0) hEL (fun m => by first | rfl | (simp [entryFrame, mkF, argsToLocals, cat_int, cat_ref, cat_null, cat_long]; done)) (fun K => ?_)
    show Go _ _ _ _ _ _ _ _ _ _ _ _ _ 2 192 _ _ _
    have ls := lt_nat A1.lt
    refine go_iloadN d16_0 rfl ?_
    refine go_newarr (kc := 1) (ks := 128) (N := cs.length) (cap := 64) (hw _ (List.mem_of_getElem? (i := 15) rfl)) rfl hl (by decide) rfl rfl d16_1 (fun S1001 h1001 a1001 e1001 m1001 s1001 x1001 l1001 A1001 => ?_)
    have z1001 := x1001.1
    have A1001 : AI Z h1001 a1001 .byte (List.replicate cs.length 0) := A1001
    refine go_astoreN d16_3 rfl (l' := #[.val (.ref src), .val (.int (0 : Int32)), .val (.int (Int32.ofNat cs.length)), .val (.ref a1001), .unset, .unset]) rfl ?_
    refine go_aloadN d16_4 rfl rfl ?_
    refine go_iloadN d16_5 rfl ?_
    refine go_aloadN d16_6 rfl rfl ?_
    refine go_iconst (x := (0 : Int32)) d16_7 (by decide) ?_
    refine go_iloadN d16_8 rfl ?_
    have f1002 := (A1.ext x1001)
    refine go_static (R := ({ frames := 3, cells := 2, slots := 192, locals := 40 } : Room)) (kc := 1) (ks := 128) [.ref src, .int (0 : Int32), .ref a1001, .int (0 : Int32), .int (Int32.ofNat cs.length)] [] (c_cmp1 l Z a0 hw hEL src a1001 cs cs.length S1001 h1001 (by omega) f1002 A1001 (by omega) s1001 (by omega) (fun i c hi hc => hcs c (List.mem_of_getElem? hc)) (fun c hc => absurd (List.getElem?_eq_some_iff.mp hc).1 (by omega))) (hw _ (List.mem_of_getElem? (i := 48) rfl)) (hw _ (List.mem_of_getElem? (i := 49) rfl)) (hw _ (List.mem_of_getElem? (i := 50) rfl)) (hw _ (List.mem_of_getElem? (i := 46) rfl)) (by decide) rfl rfl (lenOf pd10 rfl) d16_9 (by rfl) (by decide) (Nat.le_of_ble_eq_true rfl) (rc := 0) (rs := 0) rfl rfl (fun S1003 v1003 h1003 m1003 z1003 q1003 => ?_)
    obtain ⟨rfl, K1003, A1003, -⟩ := q1003
    show Go _ _ _ _ _ _ _ _ _ _ _ _ _ _ _ _ _ (mkF K.m 12 #[.val (.ref src), .val (.int (0 : Int32)), .val (.int (Int32.ofNat cs.length)), .val (.ref a1001), .unset, .unset] [.int (Int32.ofNat cs.length)])
    refine go_istore d16_12 (l' := #[.val (.ref src), .val (.int (0 : Int32)), .val (.int (Int32.ofNat cs.length)), .val (.ref a1001), .val (.int (Int32.ofNat cs.length)), .unset]) rfl ?_
    refine go_iload d16_14 rfl ?_
    refine go_iloadN d16_16 rfl ?_
    refine go_icmpeq d16_17 (fun c1004 => ?_) (fun c1004 => absurd (rfl) c1004)
    refine go_aloadN d16_57 rfl rfl ?_
    have B1005 : AI Z h1003 a1001 .byte (sbytes 0 cs) := by rw [sbytes0]; simpa using A1003
    have L1005 := lt_nat B1005.lt
    exact go_areturn d16_58 rfl rfl rfl ⟨_, (0 : Int32), rfl, by omega, L1005, (m1003 _ s1001), (((Keep.refl h0 []).ext x1001).trans K1003 (allS (Or.inr (by omega)) all0)), B1005, Or.inl ⟨rfl, hcs⟩⟩
  · refine con_of_go (ls := #[.val (.ref src), .val (.int (0 : Int32)), .val (.int (Int32.ofNat cs.length)), .unset, .unset, .unset]) (plainFor_of_name pn0) hEL (fun m => by first | rfl | (simp [entryFrame, mkF, argsToLocals, cat_int, cat_ref, cat_null, cat_long]; done)) (fun K => ?_)
    show Go _ _ _ _ _ _ _ _ _ _ _ _ _ 2 192 _ _ _
    have ls := lt_nat A1.lt
    have hkl := (List.getElem?_eq_some_iff.mp h1).1
    refine go_iloadN d16_0 rfl ?_
    refine go_newarr (kc := 1) (ks := 128) (N := cs.length) (cap := 64) (hw _ (List.mem_of_getElem? (i := 15) rfl)) rfl hl (by decide) rfl rfl d16_1 (fun S1001 h1001 a1001 e1001 m1001 s1001 x1001 l1001 A1001 => ?_)
    have z1001 := x1001.1
    have A1001 : AI Z h1001 a1001 .byte (List.replicate cs.length 0) := A1001
    refine go_astoreN d16_3 rfl (l' := #[.val (.ref src), .val (.int (0 : Int32)), .val (.int (Int32.ofNat cs.length)), .val (.ref a1001), .unset, .unset]) rfl ?_
    refine go_aloadN d16_4 rfl rfl ?_
    refine go_iloadN d16_5 rfl ?_
    refine go_aloadN d16_6 rfl rfl ?_
    refine go_iconst (x := (0 : Int32)) d16_7 (by decide) ?_
    refine go_iloadN d16_8 rfl ?_
    have f1002 := (A1.ext x1001)
    refine go_static (R := ({ frames := 3, cells := 2, slots := 192, locals := 40 } : Room)) (kc := 1) (ks := 128) [.ref src, .int (0 : Int32), .ref a1001, .int (0 : Int32), .int (Int32.ofNat cs.length)] [] (c_cmp1 l Z a0 hw hEL src a1001 cs k S1001 h1001 (by omega) f1002 A1001 (by omega) s1001 (by omega) h3 (fun d hd => by rw [h1] at hd; cases hd; exact h2)) (hw _ (List.mem_of_getElem? (i := 48) rfl)) (hw _ (List.mem_of_getElem? (i := 49) rfl)) (hw _ (List.mem_of_getElem? (i := 50) rfl)) (hw _ (List.mem_of_getElem? (i := 46) rfl)) (by decide) rfl rfl (lenOf pd10 rfl) d16_9 (by rfl) (by decide) (Nat.le_of_ble_eq_true rfl) (rc := 0) (rs := 0) rfl rfl (fun S1003 v1003 h1003 m1003 z1003 q1003 => ?_)
    obtain ⟨rfl, K1003, A1003, -⟩ := q1003
    show Go _ _ _ _ _ _ _ _ _ _ _ _ _ _ _ _ _ (mkF K.m 12 #[.val (.ref src), .val (.int (0 : Int32)), .val (.int (Int32.ofNat cs.length)), .val (.ref a1001), .unset, .unset] [.int (Int32.ofNat k)])
    refine go_istore d16_12 (l' := #[.val (.ref src), .val (.int (0 : Int32)), .val (.int (Int32.ofNat cs.length)), .val (.ref a1001), .val (.int (Int32.ofNat k)), .unset]) rfl ?_
    refine go_iload d16_14 rfl ?_
    refine go_iloadN d16_16 rfl ?_
    refine go_icmpeq d16_17 (fun c1004 => absurd c1004 (fun q => absurd ((ofNat_inj (by omega) (by omega)).mp q) (by omega))) (fun c1004 => ?_)
    refine go_aloadN d16_20 rfl rfl ?_
    refine go_iloadN d16_21 rfl ?_
    refine go_iloadN d16_22 rfl ?_
    have f1005 := (f1002.keep K1003 (ninS (ne_of (a := src) (b := a1001) (by omega)) nin0))
    refine go_static (R := ({ frames := 3, cells := 2, slots := 192, locals := 40 } : Room)) (kc := 0) (ks := 0) [.ref src, .int (0 : Int32), .int (Int32.ofNat cs.length)] [] (c_tob2 l Z a0 hw hEL src cs S1003 h1003 (by omega) f1005 (by omega) Oa Oh Ol) (hw _ (List.mem_of_getElem? (i := 76) rfl)) (hw _ (List.mem_of_getElem? (i := 77) rfl)) (hw _ (List.mem_of_getElem? (i := 78) rfl)) (hw _ (List.mem_of_getElem? (i := 46) rfl)) (by decide) rfl rfl (lenOf pd11 rfl) d16_23 (by rfl) (by decide) (Nat.le_of_ble_eq_true rfl) (rc := 1) (rs := 128) rfl rfl (fun S1006 v1006 h1006 m1006 z1006 q1006 => ?_)
    obtain ⟨b1006, rfl, g1006, l1006, s1006, K1006, A1006⟩ := q1006
    have l1006 := lt_nat l1006
    show Go _ _ _ _ _ _ _ _ _ _ _ _ _ _ _ _ _ (mkF K.m 26 #[.val (.ref src), .val (.int (0 : Int32)), .val (.int (Int32.ofNat cs.length)), .val (.ref a1001), .val (.int (Int32.ofNat k)), .unset] [.ref b1006])
    refine go_astore d16_26 rfl (l' := #[.val (.ref src), .val (.int (0 : Int32)), .val (.int (Int32.ofNat cs.length)), .val (.ref a1001), .val (.int (Int32.ofNat k)), .val (.ref b1006)]) rfl ?_
    refine go_aload d16_28 rfl rfl ?_
    refine go_iload d16_30 rfl ?_
    refine go_static (R := ({ frames := 3, cells := 2, slots := 192, locals := 40 } : Room)) (kc := 0) (ks := 0) [.ref b1006, .int (Int32.ofNat k)] [] (c_getc l Z a0 hw hEL b1006 cs k c h1 (hch c (List.mem_of_getElem? h1)) S1006 h1006 A1006 Oa Oh Ol) (hw _ (List.mem_of_getElem? (i := 92) rfl)) (hw _ (List.mem_of_getElem? (i := 93) rfl)) (hw _ (List.mem_of_getElem? (i := 94) rfl)) (hw _ (List.mem_of_getElem? (i := 46) rfl)) (by decide) rfl rfl (lenOf pd5 rfl) d16_32 (by rfl) (by decide) (Nat.le_of_ble_eq_true rfl) (rc := 0) (rs := 0) rfl rfl (fun S1007 v1007 h1007 m1007 z1007 q1007 => ?_)
    obtain ⟨rfl, rfl⟩ := q1007
    show Go _ _ _ _ _ _ _ _ _ _ _ _ _ _ _ _ _ (mkF K.m 35 #[.val (.ref src), .val (.int (0 : Int32)), .val (.int (Int32.ofNat cs.length)), .val (.ref a1001), .val (.int (Int32.ofNat k)), .val (.ref b1006)] [.int c])
    refine go_sipush (x := (255 : Int32)) d16_35 (by decide) ?_
    refine go_icmpgt d16_38 (fun c1008 => ?_) (fun c1008 => absurd (h2) c1008)
    refine go_aload d16_54 rfl rfl ?_
    have B1009 : AI Z h1006 b1006 .byte (sbytes 1 cs) := A1006
    have L1009 := lt_nat B1009.lt
    exact go_areturn d16_56 rfl rfl rfl ⟨_, (1 : Int32), rfl, by omega, L1009, (m1007 _ s1006), ((((Keep.refl h0 []).ext x1001).trans K1003 (allS (Or.inr (by omega)) all0)).trans K1006 all0), B1009, Or.inr ⟨rfl, c, List.mem_of_getElem? h1, h2⟩⟩
theorem d17_0 : Dec jdk_52_method_15_code 0 (.iload_n 1) 1 1 := ⟨by decide +kernel, rfl⟩
theorem d17_1 : Dec jdk_52_method_15_code 1 (.aload_n 0) 1 2 := ⟨by decide +kernel, rfl⟩
theorem d17_2 : Dec jdk_52_method_15_code 2 (.arraylength) 1 3 := ⟨by decide +kernel, rfl⟩
theorem d17_3 : Dec jdk_52_method_15_code 3 (.isub) 1 4 := ⟨by decide +kernel, rfl⟩
theorem d17_4 : Dec jdk_52_method_15_code 4 (.bipush 31) 2 6 := ⟨by decide +kernel, rfl⟩
theorem d17_6 : Dec jdk_52_method_15_code 6 (.iushr) 1 7 := ⟨by decide +kernel, rfl⟩
theorem d17_7 : Dec jdk_52_method_15_code 7 (.i2b) 1 8 := ⟨by decide +kernel, rfl⟩
theorem d17_8 : Dec jdk_52_method_15_code 8 (.ireturn) 1 9 := ⟨by decide +kernel, rfl⟩
set_option maxRecDepth 65536 in
set_option maxHeartbeats 40000000 in
theorem c_codU (l : Launch) (Z : State) (a0 : Array Value) (hw : ∀ d ∈ tables_1, d.before a0 Z = true) (hEL : EW Z a0 own_EL) (b : Addr) (cs : List Int32) (k : Int32) (hk : k = 0 ∨ k = 1) (hpos : 0 < cs.length) (hlen : cs.length < 2 ^ 29) (S : Addr → Prop) (h0 : Heap) (A : AI Z h0 b .byte (sbytes k cs)) :
    Con l Z own_EL [] (⟨"java/lang/StringUTF16", "coderFromArrayLen", "([BI)B"⟩ : MethodName) jdk_52_method_15_code 2 (some .byte) ({ frames := 0, cells := 0, slots := 0, locals := 0 } : Room) #[.ref b, .int (Int32.ofNat cs.length)] S h0 (fun S' v h' => v = some (.int k) ∧ h0 = h') := by
  rcases hk with rfl | rfl
  · refine con_of_go (ls := #[.val (.ref b), .val (.int (Int32.ofNat cs.length))]) (plainFor_of_name pn0) hEL (fun m => by first | rfl | (simp [entryFrame, mkF, argsToLocals, cat_int, cat_ref, cat_null, cat_long]; done)) (fun K => ?_)
    show Go _ _ _ _ _ _ _ _ _ _ _ _ _ 0 0 _ _ _
    refine go_iloadN d17_0 rfl ?_
    refine go_aloadN d17_1 rfl rfl ?_
    refine go_alen A d17_2 (v := (Int32.ofNat cs.length)) (by rw [sbytes0]; simp) ?_
    refine go_isub (v := (0 : Int32)) d17_3 (Int32.sub_self _) ?_
    refine go_bipush (x := (31 : Int32)) d17_4 (by decide) ?_
    refine go_iushr (v := (0 : Int32)) d17_6 (by decide) ?_
    refine go_i2b (v := (0 : Int32)) d17_7 (by decide) ?_
    exact go_ireturn (ty := .byte) (v := (0 : Int32)) d17_8 rfl (by simp) (by decide) ⟨rfl, rfl⟩
  · refine con_of_go (ls := #[.val (.ref b), .val (.int (Int32.ofNat cs.length))]) (plainFor_of_name pn0) hEL (fun m => by first | rfl | (simp [entryFrame, mkF, argsToLocals, cat_int, cat_ref, cat_null, cat_long]; done)) (fun K => ?_)
    show Go _ _ _ _ _ _ _ _ _ _ _ _ _ 0 0 _ _ _
    refine go_iloadN d17_0 rfl ?_
    refine go_aloadN d17_1 rfl rfl ?_
    refine go_alen A d17_2 (v := (Int32.ofNat (2 * cs.length))) (by rw [sbytes1, flat_len]) ?_
    refine go_isub d17_3 rfl ?_
    refine go_bipush (x := (31 : Int32)) d17_4 (by decide) ?_
    refine go_iushr (v := (1 : Int32)) d17_6 (cod1 hpos hlen) ?_
    refine go_i2b (v := (1 : Int32)) d17_7 (by decide) ?_
    exact go_ireturn (ty := .byte) (v := (1 : Int32)) d17_8 rfl (by simp) (by decide) ⟨rfl, rfl⟩
theorem d18_0 : Dec jdk_42_method_149_code 0 (.aload_n 0) 1 1 := ⟨by decide +kernel, rfl⟩
theorem d18_1 : Dec jdk_42_method_149_code 1 (.invokespecial 1) 3 4 := ⟨by decide +kernel, rfl⟩
theorem d18_4 : Dec jdk_42_method_149_code 4 (.iload_n 3) 1 5 := ⟨by decide +kernel, rfl⟩
theorem d18_5 : Brn jdk_42_method_149_code 5 (.ifCond .ne 22) 22 8 27 := ⟨by decide +kernel, rfl, by decide, by decide⟩
theorem d18_8 : Dec jdk_42_method_149_code 8 (.aload_n 0) 1 9 := ⟨by decide +kernel, rfl⟩
theorem d18_9 : Dec jdk_42_method_149_code 9 (.ldc 7) 2 11 := ⟨by decide +kernel, rfl⟩
theorem d18_11 : Dec jdk_42_method_149_code 11 (.getfield 9) 3 14 := ⟨by decide +kernel, rfl⟩
theorem d18_14 : Dec jdk_42_method_149_code 14 (.putfield 9) 3 17 := ⟨by decide +kernel, rfl⟩
theorem d18_17 : Dec jdk_42_method_149_code 17 (.aload_n 0) 1 18 := ⟨by decide +kernel, rfl⟩
theorem d18_18 : Dec jdk_42_method_149_code 18 (.ldc 7) 2 20 := ⟨by decide +kernel, rfl⟩
theorem d18_20 : Dec jdk_42_method_149_code 20 (.getfield 15) 3 23 := ⟨by decide +kernel, rfl⟩
theorem d18_23 : Dec jdk_42_method_149_code 23 (.putfield 15) 3 26 := ⟨by decide +kernel, rfl⟩
theorem d18_26 : Dec jdk_42_method_149_code 26 (.return_) 1 27 := ⟨by decide +kernel, rfl⟩
theorem d18_27 : Dec jdk_42_method_149_code 27 (.getstatic 38) 3 30 := ⟨by decide +kernel, rfl⟩
theorem d18_30 : Brn jdk_42_method_149_code 30 (.ifCond .eq 28) 28 33 58 := ⟨by decide +kernel, rfl, by decide, by decide⟩
theorem d18_33 : Dec jdk_42_method_149_code 33 (.aload_n 1) 1 34 := ⟨by decide +kernel, rfl⟩
theorem d18_34 : Dec jdk_42_method_149_code 34 (.iload_n 2) 1 35 := ⟨by decide +kernel, rfl⟩
theorem d18_35 : Dec jdk_42_method_149_code 35 (.iload_n 3) 1 36 := ⟨by decide +kernel, rfl⟩
theorem d18_36 : Dec jdk_42_method_149_code 36 (.invokestatic 177) 3 39 := ⟨by decide +kernel, rfl⟩
theorem d18_39 : Dec jdk_42_method_149_code 39 (.astore 5) 2 41 := ⟨by decide +kernel, rfl⟩
theorem d18_41 : Dec jdk_42_method_149_code 41 (.aload_n 0) 1 42 := ⟨by decide +kernel, rfl⟩
theorem d18_42 : Dec jdk_42_method_149_code 42 (.aload 5) 2 44 := ⟨by decide +kernel, rfl⟩
theorem d18_44 : Dec jdk_42_method_149_code 44 (.iload_n 3) 1 45 := ⟨by decide +kernel, rfl⟩
theorem d18_45 : Dec jdk_42_method_149_code 45 (.invokestatic 47) 3 48 := ⟨by decide +kernel, rfl⟩
theorem pd12 : parseMethodDescriptor "([BI)B" = some ⟨[(.array .byte), .int], some .byte⟩ := by decide +kernel
theorem d18_48 : Dec jdk_42_method_149_code 48 (.putfield 15) 3 51 := ⟨by decide +kernel, rfl⟩
theorem d18_51 : Dec jdk_42_method_149_code 51 (.aload_n 0) 1 52 := ⟨by decide +kernel, rfl⟩
theorem d18_52 : Dec jdk_42_method_149_code 52 (.aload 5) 2 54 := ⟨by decide +kernel, rfl⟩
theorem d18_54 : Dec jdk_42_method_149_code 54 (.putfield 9) 3 57 := ⟨by decide +kernel, rfl⟩
theorem d18_57 : Dec jdk_42_method_149_code 57 (.return_) 1 58 := ⟨by decide +kernel, rfl⟩
set_option maxRecDepth 65536 in
set_option maxHeartbeats 40000000 in
theorem c_ini4U (l : Launch) (Z : State) (a0 : Array Value) (hw : ∀ d ∈ tables_1, d.before a0 Z = true) (hEL : EW Z a0 own_EL) (src : Addr) (cs : List Int32) (S : Addr → Prop) (h0 : Heap) (hz : Z.heap.size ≤ h0.size) (x : Addr) (Ex : Exa Z h0 x "java/lang/String") (uv uc : Value) (Fv : Fld Z h0 x "java/lang/String" "value" "[B" uv) (Fc : Fld Z h0 x "java/lang/String" "coder" "B" uc) (gx : Z.heap.size ≤ x) (sx : S x) (A1 : AI Z h0 src .char cs) (hl : cs.length ≤ 64) (zc : Int32) (Oc : Sta Z Z.heap "java/lang/String" "COMPACT_STRINGS" "Z" (.int zc)) (Pc : ¬ zc = 0) (Oa : Sta Z Z.heap "java/lang/StringUTF16" "$assertionsDisabled" "Z" (.int (1 : Int32))) (Oh : Sta Z Z.heap "java/lang/StringUTF16" "HI_BYTE_SHIFT" "I" (.int (0 : Int32))) (Ol : Sta Z Z.heap "java/lang/StringUTF16" "LO_BYTE_SHIFT" "I" (.int (8 : Int32))) :
    Con l Z own_EL [] (⟨"java/lang/String", "<init>", "([CIILjava/lang/Void;)V"⟩ : MethodName) jdk_42_method_149_code 6 (none : Option FieldType) ({ frames := 4, cells := 4, slots := 192, locals := 57 } : Room) #[.ref x, .ref src, .int (0 : Int32), .int (Int32.ofNat cs.length), .null] S h0 (fun S' v h' => v = none ∧ Keep h0 h' [x] ∧ ∃ b k, Str Z h' x cs b k ∧ (cs ≠ [] → h0.size ≤ b ∧ S' b) ∧ b ≠ x) := by
  have hch : ∀ c ∈ cs, isCh c := by obtain ⟨c, -, -, -, q⟩ := A1; exact q
  rcases Nat.eq_zero_or_pos cs.length with hemp0 | hpos
  · refine con_of_go (ls := #[.val (.ref x), .val (.ref src), .val (.int (0 : Int32)), .val (.int (Int32.ofNat cs.length)), .val (.null), .unset]) (plainFor_of_name pn1) hEL (fun m => by first | rfl | (simp [entryFrame, mkF, argsToLocals, cat_int, cat_ref, cat_null, cat_long]; done)) (fun K => ?_)
    show Go _ _ _ _ _ _ _ _ _ _ _ _ _ 4 192 _ _ _
    have lx := lt_nat Ex.lt
    have ls := lt_nat A1.lt
    have hemp : cs = [] := List.length_eq_zero_iff.mp hemp0
    refine go_aloadN d18_0 rfl rfl ?_
    refine go_initO (hw _ (List.mem_of_getElem? (i := 11) rfl)) (hw _ (List.mem_of_getElem? (i := 12) rfl)) (hw _ (List.mem_of_getElem? (i := 13) rfl)) d18_1 (by rfl) (by decide) (Nat.le_of_ble_eq_true rfl) ?_
    refine go_iloadN d18_4 rfl ?_
    refine go_ifne d18_5 (fun c1001 => absurd (by rw [hemp]; rfl) c1001) (fun c1001 => ?_)
    refine go_aloadN d18_8 rfl rfl ?_
    refine go_ldcS (kc := 2) (ks := 188) (na := 0) (nb := 4) (xs := []) rfl (hw _ (List.mem_of_getElem? (i := 14) rfl)) (own_atoms hw) (by simp [own_EL]) ⟨by simp, by simp⟩ (by simp) (by simp) d18_9 (fun S1002 h1002 a1002 b1002 m1002 x1002 l1002 k1002 E1002 C1002 V1002 A1002 => ?_)
    have z1002 := x1002.1
    have t1002 := m1002 _ sx
    refine go_getf (hw _ (List.mem_of_getElem? (i := 20) rfl)) Via.refl V1002 d18_11 ?_
    have f1003 := (Fv.ext x1002)
    have f1004 := (Ex.ext x1002)
    refine go_putf (u' := .ref b1002) (hw _ (List.mem_of_getElem? (i := 20) rfl)) Via.refl f1003 f1004 (Or.inr ⟨(hw _ (List.mem_of_getElem? (i := 16) rfl)), rfl, rfl⟩) (hw _ (List.mem_of_getElem? (i := 2) rfl)) (ty := (.array .byte)) (by decide) rfl rfl (by omega) (Or.inl ((fun y q => (m1002 y q).1) _ sx)) d18_14 (fun h1005 W1005 K1005 E1005 F1005 => ?_)
    have z1005 := K1005.1
    refine go_aloadN d18_17 rfl rfl ?_
    refine go_ldcS (kc := 0) (ks := 184) (na := 0) (nb := 4) (xs := []) rfl (hw _ (List.mem_of_getElem? (i := 14) rfl)) (own_atoms hw) (by simp [own_EL]) ⟨by simp, by simp⟩ (by simp) (by simp) d18_18 (fun S1006 h1006 a1006 b1006 m1006 x1006 l1006 k1006 E1006 C1006 V1006 A1006 => ?_)
    have z1006 := x1006.1
    have t1006 := m1006 _ ((fun y q => (m1002 y q).1) _ sx)
    refine go_getf (hw _ (List.mem_of_getElem? (i := 21) rfl)) Via.refl C1006 d18_20 ?_
    have f1007 := (((Fc.ext x1002).other W1005 (Or.inr (slot_ne (C := "java/lang/String") (a0 := a0) (Or.inr (hw _ (List.mem_of_getElem? (i := 17) rfl))) (Or.inr (hw _ (List.mem_of_getElem? (i := 16) rfl))) (by decide) (t := .byte) (t' := (.array .byte)) (by decide) (by decide)))).ext x1006)
    have f1008 := (E1005.ext x1006)
    refine go_putf (u' := .int (0 : Int32)) (hw _ (List.mem_of_getElem? (i := 21) rfl)) Via.refl f1007 f1008 (Or.inr ⟨(hw _ (List.mem_of_getElem? (i := 17) rfl)), rfl, rfl⟩) (hw _ (List.mem_of_getElem? (i := 2) rfl)) (ty := .byte) (by decide) (by decide) (by decide) (by omega) (Or.inl ((fun y q => (m1006 y q).1) _ ((fun y q => (m1002 y q).1) _ sx))) d18_23 (fun h1009 W1009 K1009 E1009 F1009 => ?_)
    have z1009 := K1009.1
    have f1010 := ((F1005.ext x1006).other W1009 (Or.inr (slot_ne (C := "java/lang/String") (a0 := a0) (Or.inr (hw _ (List.mem_of_getElem? (i := 16) rfl))) (Or.inr (hw _ (List.mem_of_getElem? (i := 17) rfl))) (by decide) (t := (.array .byte)) (t' := .byte) (by decide) (by decide))))
    have f1011 := (((A1002.keep K1005 (ninS (Ne.symm t1002.2.2) nin0)).ext x1006).keep K1009 (ninS (Ne.symm t1002.2.2) nin0))
    exact go_return d18_26 rfl ⟨rfl, (((((Keep.refl h0 [x]).ext x1002).wr W1005 (Or.inl (by simp))).ext x1006).wr W1009 (Or.inl (by simp))), _, (0 : Int32), ⟨E1009, F1009, f1010, by subst hemp; exact f1011, Or.inl ⟨rfl, by subst hemp; simp⟩, hch, by omega⟩, fun q => absurd hemp q, (Ne.symm t1002.2.2)⟩
  · refine con_of_go (ls := #[.val (.ref x), .val (.ref src), .val (.int (0 : Int32)), .val (.int (Int32.ofNat cs.length)), .val (.null), .unset]) (plainFor_of_name pn1) hEL (fun m => by first | rfl | (simp [entryFrame, mkF, argsToLocals, cat_int, cat_ref, cat_null, cat_long]; done)) (fun K => ?_)
    show Go _ _ _ _ _ _ _ _ _ _ _ _ _ 4 192 _ _ _
    have lx := lt_nat Ex.lt
    have ls := lt_nat A1.lt
    refine go_aloadN d18_0 rfl rfl ?_
    refine go_initO (hw _ (List.mem_of_getElem? (i := 11) rfl)) (hw _ (List.mem_of_getElem? (i := 12) rfl)) (hw _ (List.mem_of_getElem? (i := 13) rfl)) d18_1 (by rfl) (by decide) (Nat.le_of_ble_eq_true rfl) ?_
    refine go_iloadN d18_4 rfl ?_
    refine go_ifne d18_5 (fun c1001 => ?_) (fun c1001 => absurd c1001 (fun q => absurd ((ofNat_inj (n := 0) (by omega) (by omega)).mp q) (by omega)))
    refine go_gets (hw _ (List.mem_of_getElem? (i := 36) rfl)) Via.refl Oc d18_27 ?_
    refine go_ifeq d18_30 (fun c1002 => absurd c1002 (Pc)) (fun c1002 => ?_)
    refine go_aloadN d18_33 rfl rfl ?_
    refine go_iloadN d18_34 rfl ?_
    refine go_iloadN d18_35 rfl ?_
    refine go_static (R := ({ frames := 4, cells := 4, slots := 192, locals := 57 } : Room)) (kc := 2) (ks := 0) [.ref src, .int (0 : Int32), .int (Int32.ofNat cs.length)] [] (c_cmpU l Z a0 hw hEL src cs S h0 (by omega) A1 hl Oa Oh Ol) (hw _ (List.mem_of_getElem? (i := 44) rfl)) (hw _ (List.mem_of_getElem? (i := 45) rfl)) (hw _ (List.mem_of_getElem? (i := 47) rfl)) (hw _ (List.mem_of_getElem? (i := 46) rfl)) (by decide) rfl rfl (lenOf pd11 rfl) d18_36 (by rfl) (by decide) (Nat.le_of_ble_eq_true rfl) (rc := 2) (rs := 192) rfl rfl (fun S1003 v1003 h1003 m1003 z1003 q1003 => ?_)
    obtain ⟨b1003, k1003, rfl, g1003, l1003, s1003, K1003, A1003, o1003⟩ := q1003
    have l1003 := lt_nat l1003
    show Go _ _ _ _ _ _ _ _ _ _ _ _ _ _ _ _ _ (mkF K.m 39 #[.val (.ref x), .val (.ref src), .val (.int (0 : Int32)), .val (.int (Int32.ofNat cs.length)), .val (.null), .unset] [.ref b1003])
    refine go_astore d18_39 rfl (l' := #[.val (.ref x), .val (.ref src), .val (.int (0 : Int32)), .val (.int (Int32.ofNat cs.length)), .val (.null), .val (.ref b1003)]) rfl ?_
    refine go_aloadN d18_41 rfl rfl ?_
    refine go_aload d18_42 rfl rfl ?_
    refine go_iloadN d18_44 rfl ?_
    refine go_static (R := ({ frames := 4, cells := 4, slots := 192, locals := 57 } : Room)) (kc := 2) (ks := 0) [.ref b1003, .int (Int32.ofNat cs.length)] [.ref x] (c_codU l Z a0 hw hEL b1003 cs k1003 (o1003.imp And.left And.left) hpos (by omega) S1003 h1003 A1003) (hw _ (List.mem_of_getElem? (i := 51) rfl)) (hw _ (List.mem_of_getElem? (i := 52) rfl)) (hw _ (List.mem_of_getElem? (i := 53) rfl)) (hw _ (List.mem_of_getElem? (i := 46) rfl)) (by decide) rfl rfl (lenOf pd12 rfl) d18_45 (by rfl) (by decide) (Nat.le_of_ble_eq_true rfl) (rc := 0) (rs := 0) rfl rfl (fun S1004 v1004 h1004 m1004 z1004 q1004 => ?_)
    obtain ⟨rfl, rfl⟩ := q1004
    show Go _ _ _ _ _ _ _ _ _ _ _ _ _ _ _ _ _ (mkF K.m 48 #[.val (.ref x), .val (.ref src), .val (.int (0 : Int32)), .val (.int (Int32.ofNat cs.length)), .val (.null), .val (.ref b1003)] [.int k1003, .ref x])
    have f1005 := (Fc.keep K1003 nin0)
    have f1006 := (Ex.keep K1003)
    refine go_putf (u' := .int k1003) (hw _ (List.mem_of_getElem? (i := 21) rfl)) Via.refl f1005 f1006 (Or.inr ⟨(hw _ (List.mem_of_getElem? (i := 17) rfl)), rfl, rfl⟩) (hw _ (List.mem_of_getElem? (i := 2) rfl)) (ty := .byte) (by decide) (nar_cod (cs := cs) o1003) (fits_cod (cs := cs) o1003) (by omega) (Or.inl (m1004 _ (m1003 _ sx))) d18_48 (fun h1007 W1007 K1007 E1007 F1007 => ?_)
    have z1007 := K1007.1
    refine go_aloadN d18_51 rfl rfl ?_
    refine go_aload d18_52 rfl rfl ?_
    have f1008 := ((Fv.keep K1003 nin0).other W1007 (Or.inr (slot_ne (C := "java/lang/String") (a0 := a0) (Or.inr (hw _ (List.mem_of_getElem? (i := 16) rfl))) (Or.inr (hw _ (List.mem_of_getElem? (i := 17) rfl))) (by decide) (t := (.array .byte)) (t' := .byte) (by decide) (by decide))))
    refine go_putf (u' := .ref b1003) (hw _ (List.mem_of_getElem? (i := 20) rfl)) Via.refl f1008 E1007 (Or.inr ⟨(hw _ (List.mem_of_getElem? (i := 16) rfl)), rfl, rfl⟩) (hw _ (List.mem_of_getElem? (i := 2) rfl)) (ty := (.array .byte)) (by decide) rfl rfl (by omega) (Or.inl (m1004 _ (m1003 _ sx))) d18_54 (fun h1009 W1009 K1009 E1009 F1009 => ?_)
    have z1009 := K1009.1
    have f1010 := (F1007.other W1009 (Or.inr (slot_ne (C := "java/lang/String") (a0 := a0) (Or.inr (hw _ (List.mem_of_getElem? (i := 17) rfl))) (Or.inr (hw _ (List.mem_of_getElem? (i := 16) rfl))) (by decide) (t := .byte) (t' := (.array .byte)) (by decide) (by decide))))
    have f1011 := ((A1003.keep K1007 (ninS (ne_of (a := b1003) (b := x) (by omega)) nin0)).keep K1009 (ninS (ne_of (a := b1003) (b := x) (by omega)) nin0))
    exact go_return d18_57 rfl ⟨rfl, ((((Keep.refl h0 [x]).trans K1003 all0).wr W1007 (Or.inl (by simp))).wr W1009 (Or.inl (by simp))), _, k1003, ⟨E1009, f1010, F1009, f1011, o1003, hch, by omega⟩, fun _ => ⟨by omega, (m1004 _ s1003)⟩, (ne_of (a := b1003) (b := x) (by omega))⟩
theorem d19_0 : Dec jdk_42_method_3_code 0 (.aload_n 0) 1 1 := ⟨by decide +kernel, rfl⟩
theorem d19_1 : Dec jdk_42_method_3_code 1 (.aload_n 1) 1 2 := ⟨by decide +kernel, rfl⟩
theorem d19_2 : Dec jdk_42_method_3_code 2 (.iconst 0) 1 3 := ⟨by decide +kernel, rfl⟩
theorem d19_3 : Dec jdk_42_method_3_code 3 (.aload_n 1) 1 4 := ⟨by decide +kernel, rfl⟩
theorem d19_4 : Dec jdk_42_method_3_code 4 (.arraylength) 1 5 := ⟨by decide +kernel, rfl⟩
theorem d19_5 : Dec jdk_42_method_3_code 5 (.aconst_null) 1 6 := ⟨by decide +kernel, rfl⟩
theorem d19_6 : Dec jdk_42_method_3_code 6 (.invokespecial 27) 3 9 := ⟨by decide +kernel, rfl⟩
theorem pd13 : parseMethodDescriptor "([CIILjava/lang/Void;)V" = some ⟨[(.array .char), .int, .int, (.object "java/lang/Void")], none⟩ := by decide +kernel
theorem d19_9 : Dec jdk_42_method_3_code 9 (.return_) 1 10 := ⟨by decide +kernel, rfl⟩
set_option maxRecDepth 65536 in
set_option maxHeartbeats 40000000 in
theorem c_ini1U (l : Launch) (Z : State) (a0 : Array Value) (hw : ∀ d ∈ tables_1, d.before a0 Z = true) (hEL : EW Z a0 own_EL) (src : Addr) (cs : List Int32) (S : Addr → Prop) (h0 : Heap) (hz : Z.heap.size ≤ h0.size) (x : Addr) (Ex : Exa Z h0 x "java/lang/String") (uv uc : Value) (Fv : Fld Z h0 x "java/lang/String" "value" "[B" uv) (Fc : Fld Z h0 x "java/lang/String" "coder" "B" uc) (gx : Z.heap.size ≤ x) (sx : S x) (A1 : AI Z h0 src .char cs) (hl : cs.length ≤ 64) (zc : Int32) (Oc : Sta Z Z.heap "java/lang/String" "COMPACT_STRINGS" "Z" (.int zc)) (Pc : ¬ zc = 0) (Oa : Sta Z Z.heap "java/lang/StringUTF16" "$assertionsDisabled" "Z" (.int (1 : Int32))) (Oh : Sta Z Z.heap "java/lang/StringUTF16" "HI_BYTE_SHIFT" "I" (.int (0 : Int32))) (Ol : Sta Z Z.heap "java/lang/StringUTF16" "LO_BYTE_SHIFT" "I" (.int (8 : Int32))) :
    Con l Z own_EL [] (⟨"java/lang/String", "<init>", "([C)V"⟩ : MethodName) jdk_42_method_3_code 2 (none : Option FieldType) ({ frames := 5, cells := 4, slots := 192, locals := 74 } : Room) #[.ref x, .ref src] S h0 (fun S' v h' => v = none ∧ Keep h0 h' [x] ∧ ∃ b k, Str Z h' x cs b k ∧ (cs ≠ [] → h0.size ≤ b ∧ S' b) ∧ b ≠ x) := by
  refine con_of_go (ls := #[.val (.ref x), .val (.ref src)]) (plainFor_of_name pn1) hEL (fun m => by first | rfl | (simp [entryFrame, mkF, argsToLocals, cat_int, cat_ref, cat_null, cat_long]; done)) (fun K => ?_)
  show Go _ _ _ _ _ _ _ _ _ _ _ _ _ 4 192 _ _ _
  have lx := lt_nat Ex.lt
  have ls := lt_nat A1.lt
  refine go_aloadN d19_0 rfl rfl ?_
  refine go_aloadN d19_1 rfl rfl ?_
  refine go_iconst (x := (0 : Int32)) d19_2 (by decide) ?_
  refine go_aloadN d19_3 rfl rfl ?_
  refine go_alen A1 d19_4 (v := (Int32.ofNat cs.length)) rfl ?_
  refine go_null d19_5 ?_
  refine go_special (R := ({ frames := 5, cells := 4, slots := 192, locals := 74 } : Room)) (kc := 0) (ks := 0) [.ref src, .int (0 : Int32), .int (Int32.ofNat cs.length), .null] [] (c_ini4U l Z a0 hw hEL src cs S h0 (by omega) x Ex _ _ Fv Fc (by omega) sx A1 hl zc Oc Pc Oa Oh Ol) (hw _ (List.mem_of_getElem? (i := 7) rfl)) (hw _ (List.mem_of_getElem? (i := 8) rfl)) (hw _ (List.mem_of_getElem? (i := 10) rfl)) (hw _ (List.mem_of_getElem? (i := 3) rfl)) rfl (by decide) rfl rfl (lenOf pd13 rfl) d19_6 (by rfl) (by decide) (Nat.le_of_ble_eq_true rfl) (rc := 4) (rs := 192) rfl rfl (fun S1001 v1001 h1001 m1001 z1001 q1001 => ?_)
  obtain ⟨rfl, K1001, b1001, k1001, T1001, g1001, n1001⟩ := q1001
  have lb1001 := lt_nat T1001.lb
  have lx1001 := lt_nat T1001.lx
  show Go _ _ _ _ _ _ _ _ _ _ _ _ _ _ _ _ _ (mkF K.m 9 #[.val (.ref x), .val (.ref src)] [])
  exact go_return d19_9 rfl ⟨rfl, ((Keep.refl h0 [x]).trans K1001 (allS (Or.inl (by simp)) all0)), _, _, T1001, g1001, n1001⟩
/-- a sign that the law's 'inner' takes -/
def own_in (c : Int32) : Prop := (¬ c < 97 ∧ ¬ 122 < c) ∨ (¬ c < 48 ∧ ¬ 57 < c) ∨ c = 45
/-- a sign that isIdentifier takes at place i -/
def own_ok (i : Nat) (c : Int32) : Prop := (¬ c < 97 ∧ ¬ 122 < c) ∨ (¬ c < 48 ∧ ¬ 57 < c) ∨ (c = 45 ∧ 0 < i)
def own_all (cs : List Int32) : Prop := ∀ (i : Nat) (c : Int32), cs[i]? = some c → own_ok i c
def own_id (cs : List Int32) : Prop := 1 ≤ cs.length ∧ cs.length ≤ 63 ∧ own_all cs
theorem own_ch (x : Int32) : ∃ a, x.toUInt32.toUInt16.toUInt32.toInt32 = a ∧ isCh a := ⟨_, rfl, fits_nar_char x⟩
theorem own_ok0 {c : Int32} : own_ok 0 c ↔ (¬ c = 45 ∧ own_in c) := by
  unfold own_ok own_in
  constructor
  · rintro (⟨q1, q2⟩ | ⟨q1, q2⟩ | ⟨q1, q2⟩)
    · exact ⟨fun q => by subst q; exact q1 (by decide), Or.inl ⟨q1, q2⟩⟩
    · exact ⟨fun q => by subst q; exact q1 (by decide), Or.inr (Or.inl ⟨q1, q2⟩)⟩
    · omega
  · rintro ⟨q, q1 | q1 | q1⟩
    · exact Or.inl q1
    · exact Or.inr (Or.inl q1)
    · exact absurd q1 q
theorem own_okS {i : Nat} {c : Int32} : own_ok (i + 1) c ↔ own_in c := by
  unfold own_ok own_in
  constructor
  · rintro (q | q | ⟨q, -⟩)
    · exact Or.inl q
    · exact Or.inr (Or.inl q)
    · exact Or.inr (Or.inr q)
  · rintro (q | q | q)
    · exact Or.inl q
    · exact Or.inr (Or.inl q)
    · exact Or.inr (Or.inr ⟨q, by omega⟩)
theorem own_all_cons {c : Int32} {cs : List Int32} : own_all (c :: cs) ↔ (¬ c = 45 ∧ own_in c) ∧ ∀ d ∈ cs, own_in d := by
  constructor
  · intro h
    refine ⟨own_ok0.mp (h 0 c rfl), fun d hd => ?_⟩
    obtain ⟨i, hi, rfl⟩ := List.getElem_of_mem hd
    exact own_okS.mp (h (i + 1) _ (by simp))
  · rintro ⟨h1, h2⟩ i d hd
    cases i with
    | zero => simp at hd; subst hd; exact own_ok0.mpr h1
    | succ i => exact own_okS.mpr (h2 d (List.mem_of_getElem? (by simpa using hd)))
theorem set_take {cs : List Int32} {i n : Nat} {c : Int32} (hn : cs.length = n) (hc : cs[i]? = some c) : ((cs.take i ++ List.replicate (n - i) 0).set i c) = cs.take (i + 1) ++ List.replicate (n - (i + 1)) 0 := by
  have h := set_fill (cs := cs) (i := i) id hn hc
  simpa using h
theorem take_all {cs : List Int32} {n : Nat} (hn : cs.length = n) : cs.take n ++ List.replicate (n - n) (0 : Int32) = cs := by subst hn; simp
theorem take_len {cs : List Int32} {i n : Nat} (hn : cs.length = n) (hi : i ≤ n) : (cs.take i ++ List.replicate (n - i) (0 : Int32)).length = n := by simp; omega
theorem d20_0 : Dec method_2_code 0 (.iload_n 0) 1 1 := ⟨by decide +kernel, rfl⟩
theorem d20_1 : Dec method_2_code 1 (.bipush 97) 2 3 := ⟨by decide +kernel, rfl⟩
theorem d20_3 : Brn method_2_code 3 (.if_icmp .lt 9) 9 6 12 := ⟨by decide +kernel, rfl, by decide, by decide⟩
theorem d20_12 : Dec method_2_code 12 (.iload_n 0) 1 13 := ⟨by decide +kernel, rfl⟩
theorem d20_13 : Dec method_2_code 13 (.bipush 48) 2 15 := ⟨by decide +kernel, rfl⟩
theorem d20_15 : Brn method_2_code 15 (.if_icmp .lt 9) 9 18 24 := ⟨by decide +kernel, rfl, by decide, by decide⟩
theorem d20_24 : Dec method_2_code 24 (.iload_n 0) 1 25 := ⟨by decide +kernel, rfl⟩
theorem d20_25 : Dec method_2_code 25 (.bipush 45) 2 27 := ⟨by decide +kernel, rfl⟩
theorem d20_27 : Brn method_2_code 27 (.if_icmp .ne 7) 7 30 34 := ⟨by decide +kernel, rfl, by decide, by decide⟩
theorem d20_34 : Dec method_2_code 34 (.iconst 0) 1 35 := ⟨by decide +kernel, rfl⟩
theorem d20_35 : Dec method_2_code 35 (.ireturn) 1 36 := ⟨by decide +kernel, rfl⟩
theorem d20_30 : Dec method_2_code 30 (.iconst 1) 1 31 := ⟨by decide +kernel, rfl⟩
theorem d20_31 : Brn method_2_code 31 (.goto 4) 4 34 35 := ⟨by decide +kernel, rfl, by decide, by decide⟩
theorem d20_18 : Dec method_2_code 18 (.iload_n 0) 1 19 := ⟨by decide +kernel, rfl⟩
theorem d20_19 : Dec method_2_code 19 (.bipush 57) 2 21 := ⟨by decide +kernel, rfl⟩
theorem d20_21 : Brn method_2_code 21 (.if_icmp .le 9) 9 24 30 := ⟨by decide +kernel, rfl, by decide, by decide⟩
theorem d20_6 : Dec method_2_code 6 (.iload_n 0) 1 7 := ⟨by decide +kernel, rfl⟩
theorem d20_7 : Dec method_2_code 7 (.bipush 122) 2 9 := ⟨by decide +kernel, rfl⟩
theorem d20_9 : Brn method_2_code 9 (.if_icmp .le 21) 21 12 30 := ⟨by decide +kernel, rfl, by decide, by decide⟩
theorem pn4 : plainName "gatehouse/IdentifiersIsIdentifierPinLaw" = true := by first | (simp [plainName, overriddenIn]; done) | decide +kernel
set_option maxRecDepth 65536 in
set_option maxHeartbeats 40000000 in
theorem c_inner (l : Launch) (Z : State) (a0 : Array Value) (hw : ∀ d ∈ tables_1, d.before a0 Z = true) (hEL : EW Z a0 own_EL) (c : Int32) (S : Addr → Prop) (h0 : Heap) :
    Con l Z own_EL [] (⟨"gatehouse/IdentifiersIsIdentifierPinLaw", "inner", "(C)Z"⟩ : MethodName) method_2_code 1 (some .boolean) ({ frames := 0, cells := 0, slots := 0, locals := 0 } : Room) #[.int c] S h0 (fun S' v h' => (own_in c ∧ v = some (.int (1 : Int32)) ∧ h0 = h') ∨ (¬ (own_in c) ∧ v = some (.int (0 : Int32)) ∧ h0 = h')) := by
  refine con_of_go (ls := #[.val (.int c)]) (plainFor_of_name pn4) hEL (fun m => by first | rfl | (simp [entryFrame, mkF, argsToLocals, cat_int, cat_ref, cat_null, cat_long]; done)) (fun K => ?_)
  show Go _ _ _ _ _ _ _ _ _ _ _ _ _ 0 0 _ _ _
  refine go_iloadN d20_0 rfl ?_
  refine go_bipush (x := (97 : Int32)) d20_1 (by decide) ?_
  refine go_icmplt d20_3 (fun c3 => ?_) (fun c3 => ?_)
  · refine go_iloadN d20_12 rfl ?_
    refine go_bipush (x := (48 : Int32)) d20_13 (by decide) ?_
    refine go_icmplt d20_15 (fun c15 => ?_) (fun c15 => ?_)
    · refine go_iloadN d20_24 rfl ?_
      refine go_bipush (x := (45 : Int32)) d20_25 (by decide) ?_
      refine go_icmpne d20_27 (fun c27 => ?_) (fun c27 => ?_)
      · refine go_iconst (x := (0 : Int32)) d20_34 (by decide) ?_
        exact go_ireturn (ty := .boolean) (v := (0 : Int32)) d20_35 rfl (by simp) rfl (Or.inr ⟨by rintro (⟨q1, q2⟩ | ⟨q1, q2⟩ | q1) <;> first | exact q1 c3 | exact q2 c9 | exact q1 c15 | exact q2 c21 | exact c27 q1, rfl, rfl⟩)
      · refine go_iconst (x := (1 : Int32)) d20_30 (by decide) ?_
        refine go_goto d20_31 ?_
        exact go_ireturn (ty := .boolean) (v := (1 : Int32)) d20_35 rfl (by simp) rfl (Or.inl ⟨by unfold own_in; first | exact Or.inl ⟨c3, c9⟩ | exact Or.inr (Or.inl ⟨c15, c21⟩) | exact Or.inr (Or.inr c27), rfl, rfl⟩)
    · refine go_iloadN d20_18 rfl ?_
      refine go_bipush (x := (57 : Int32)) d20_19 (by decide) ?_
      refine go_icmple d20_21 (fun c21 => ?_) (fun c21 => ?_)
      · refine go_iconst (x := (1 : Int32)) d20_30 (by decide) ?_
        refine go_goto d20_31 ?_
        exact go_ireturn (ty := .boolean) (v := (1 : Int32)) d20_35 rfl (by simp) rfl (Or.inl ⟨by unfold own_in; first | exact Or.inl ⟨c3, c9⟩ | exact Or.inr (Or.inl ⟨c15, c21⟩) | exact Or.inr (Or.inr c27), rfl, rfl⟩)
      · refine go_iloadN d20_24 rfl ?_
        refine go_bipush (x := (45 : Int32)) d20_25 (by decide) ?_
        refine go_icmpne d20_27 (fun c27 => ?_) (fun c27 => ?_)
        · refine go_iconst (x := (0 : Int32)) d20_34 (by decide) ?_
          exact go_ireturn (ty := .boolean) (v := (0 : Int32)) d20_35 rfl (by simp) rfl (Or.inr ⟨by rintro (⟨q1, q2⟩ | ⟨q1, q2⟩ | q1) <;> first | exact q1 c3 | exact q2 c9 | exact q1 c15 | exact q2 c21 | exact c27 q1, rfl, rfl⟩)
        · refine go_iconst (x := (1 : Int32)) d20_30 (by decide) ?_
          refine go_goto d20_31 ?_
          exact go_ireturn (ty := .boolean) (v := (1 : Int32)) d20_35 rfl (by simp) rfl (Or.inl ⟨by unfold own_in; first | exact Or.inl ⟨c3, c9⟩ | exact Or.inr (Or.inl ⟨c15, c21⟩) | exact Or.inr (Or.inr c27), rfl, rfl⟩)
  · refine go_iloadN d20_6 rfl ?_
    refine go_bipush (x := (122 : Int32)) d20_7 (by decide) ?_
    refine go_icmple d20_9 (fun c9 => ?_) (fun c9 => ?_)
    · refine go_iconst (x := (1 : Int32)) d20_30 (by decide) ?_
      refine go_goto d20_31 ?_
      exact go_ireturn (ty := .boolean) (v := (1 : Int32)) d20_35 rfl (by simp) rfl (Or.inl ⟨by unfold own_in; first | exact Or.inl ⟨c3, c9⟩ | exact Or.inr (Or.inl ⟨c15, c21⟩) | exact Or.inr (Or.inr c27), rfl, rfl⟩)
    · refine go_iloadN d20_12 rfl ?_
      refine go_bipush (x := (48 : Int32)) d20_13 (by decide) ?_
      refine go_icmplt d20_15 (fun c15 => ?_) (fun c15 => ?_)
      · refine go_iloadN d20_24 rfl ?_
        refine go_bipush (x := (45 : Int32)) d20_25 (by decide) ?_
        refine go_icmpne d20_27 (fun c27 => ?_) (fun c27 => ?_)
        · refine go_iconst (x := (0 : Int32)) d20_34 (by decide) ?_
          exact go_ireturn (ty := .boolean) (v := (0 : Int32)) d20_35 rfl (by simp) rfl (Or.inr ⟨by rintro (⟨q1, q2⟩ | ⟨q1, q2⟩ | q1) <;> first | exact q1 c3 | exact q2 c9 | exact q1 c15 | exact q2 c21 | exact c27 q1, rfl, rfl⟩)
        · refine go_iconst (x := (1 : Int32)) d20_30 (by decide) ?_
          refine go_goto d20_31 ?_
          exact go_ireturn (ty := .boolean) (v := (1 : Int32)) d20_35 rfl (by simp) rfl (Or.inl ⟨by unfold own_in; first | exact Or.inl ⟨c3, c9⟩ | exact Or.inr (Or.inl ⟨c15, c21⟩) | exact Or.inr (Or.inr c27), rfl, rfl⟩)
      · refine go_iloadN d20_18 rfl ?_
        refine go_bipush (x := (57 : Int32)) d20_19 (by decide) ?_
        refine go_icmple d20_21 (fun c21 => ?_) (fun c21 => ?_)
        · refine go_iconst (x := (1 : Int32)) d20_30 (by decide) ?_
          refine go_goto d20_31 ?_
          exact go_ireturn (ty := .boolean) (v := (1 : Int32)) d20_35 rfl (by simp) rfl (Or.inl ⟨by unfold own_in; first | exact Or.inl ⟨c3, c9⟩ | exact Or.inr (Or.inl ⟨c15, c21⟩) | exact Or.inr (Or.inr c27), rfl, rfl⟩)
        · refine go_iloadN d20_24 rfl ?_
          refine go_bipush (x := (45 : Int32)) d20_25 (by decide) ?_
          refine go_icmpne d20_27 (fun c27 => ?_) (fun c27 => ?_)
          · refine go_iconst (x := (0 : Int32)) d20_34 (by decide) ?_
            exact go_ireturn (ty := .boolean) (v := (0 : Int32)) d20_35 rfl (by simp) rfl (Or.inr ⟨by rintro (⟨q1, q2⟩ | ⟨q1, q2⟩ | q1) <;> first | exact q1 c3 | exact q2 c9 | exact q1 c15 | exact q2 c21 | exact c27 q1, rfl, rfl⟩)
          · refine go_iconst (x := (1 : Int32)) d20_30 (by decide) ?_
            refine go_goto d20_31 ?_
            exact go_ireturn (ty := .boolean) (v := (1 : Int32)) d20_35 rfl (by simp) rfl (Or.inl ⟨by unfold own_in; first | exact Or.inl ⟨c3, c9⟩ | exact Or.inr (Or.inl ⟨c15, c21⟩) | exact Or.inr (Or.inr c27), rfl, rfl⟩)
theorem d21_0 : Dec method_3_code 0 (.iload_n 0) 1 1 := ⟨by decide +kernel, rfl⟩
theorem d21_1 : Dec method_3_code 1 (.bipush 45) 2 3 := ⟨by decide +kernel, rfl⟩
theorem d21_3 : Brn method_3_code 3 (.if_icmp .eq 14) 14 6 17 := ⟨by decide +kernel, rfl, by decide, by decide⟩
theorem d21_17 : Dec method_3_code 17 (.iconst 0) 1 18 := ⟨by decide +kernel, rfl⟩
theorem d21_18 : Dec method_3_code 18 (.ireturn) 1 19 := ⟨by decide +kernel, rfl⟩
theorem d21_6 : Dec method_3_code 6 (.iload_n 0) 1 7 := ⟨by decide +kernel, rfl⟩
theorem d21_7 : Dec method_3_code 7 (.invokestatic 7) 3 10 := ⟨by decide +kernel, rfl⟩
theorem pd14 : parseMethodDescriptor "(C)Z" = some ⟨[.char], some .boolean⟩ := by decide +kernel
theorem d21_10 : Brn method_3_code 10 (.ifCond .eq 7) 7 13 17 := ⟨by decide +kernel, rfl, by decide, by decide⟩
theorem d21_13 : Dec method_3_code 13 (.iconst 1) 1 14 := ⟨by decide +kernel, rfl⟩
theorem d21_14 : Brn method_3_code 14 (.goto 4) 4 17 18 := ⟨by decide +kernel, rfl, by decide, by decide⟩
set_option maxRecDepth 65536 in
set_option maxHeartbeats 40000000 in
theorem c_first (l : Launch) (Z : State) (a0 : Array Value) (hw : ∀ d ∈ tables_1, d.before a0 Z = true) (hEL : EW Z a0 own_EL) (c : Int32) (S : Addr → Prop) (h0 : Heap) :
    Con l Z own_EL [] (⟨"gatehouse/IdentifiersIsIdentifierPinLaw", "first", "(C)Z"⟩ : MethodName) method_3_code 1 (some .boolean) ({ frames := 1, cells := 0, slots := 0, locals := 12 } : Room) #[.int c] S h0 (fun S' v h' => ((¬ c = 45 ∧ own_in c) ∧ v = some (.int (1 : Int32)) ∧ h0 = h') ∨ (¬ ((¬ c = 45 ∧ own_in c)) ∧ v = some (.int (0 : Int32)) ∧ h0 = h')) := by
  refine con_of_go (ls := #[.val (.int c)]) (plainFor_of_name pn4) hEL (fun m => by first | rfl | (simp [entryFrame, mkF, argsToLocals, cat_int, cat_ref, cat_null, cat_long]; done)) (fun K => ?_)
  show Go _ _ _ _ _ _ _ _ _ _ _ _ _ 0 0 _ _ _
  refine go_iloadN d21_0 rfl ?_
  refine go_bipush (x := (45 : Int32)) d21_1 (by decide) ?_
  refine go_icmpeq d21_3 (fun c3 => ?_) (fun c3 => ?_)
  · refine go_iconst (x := (0 : Int32)) d21_17 (by decide) ?_
    exact go_ireturn (ty := .boolean) (v := (0 : Int32)) d21_18 rfl (by simp) rfl (Or.inr ⟨fun q => q.1 c3, rfl, rfl⟩)
  · refine go_iloadN d21_6 rfl ?_
    refine go_static (R := ({ frames := 1, cells := 0, slots := 0, locals := 12 } : Room)) (kc := 0) (ks := 0) [.int c] [] (c_inner l Z a0 hw hEL c S h0) (hw _ (List.mem_of_getElem? (i := 41) rfl)) (hw _ (List.mem_of_getElem? (i := 42) rfl)) (hw _ (List.mem_of_getElem? (i := 43) rfl)) (hw _ (List.mem_of_getElem? (i := 39) rfl)) (by decide) rfl rfl (lenOf pd14 rfl) d21_7 (by rfl) (by decide) (Nat.le_of_ble_eq_true rfl) (rc := 0) (rs := 0) rfl rfl (fun S1001 v1001 h1001 m1001 z1001 q1001 => ?_)
    rcases q1001 with ⟨p1001, rfl, rfl⟩ | ⟨p1001, rfl, rfl⟩
    · show Go _ _ _ _ _ _ _ _ _ _ _ _ _ _ _ _ _ (mkF K.m 10 #[.val (.int c)] [.int (1 : Int32)])
      refine go_ifeq d21_10 (fun c1002 => absurd c1002 (by decide)) (fun c1002 => ?_)
      refine go_iconst (x := (1 : Int32)) d21_13 (by decide) ?_
      refine go_goto d21_14 ?_
      exact go_ireturn (ty := .boolean) (v := (1 : Int32)) d21_18 rfl (by simp) rfl (Or.inl ⟨⟨c3, p1001⟩, rfl, rfl⟩)
    · show Go _ _ _ _ _ _ _ _ _ _ _ _ _ _ _ _ _ (mkF K.m 10 #[.val (.int c)] [.int (0 : Int32)])
      refine go_ifeq d21_10 (fun c1003 => ?_) (fun c1003 => absurd (rfl) c1003)
      refine go_iconst (x := (0 : Int32)) d21_17 (by decide) ?_
      exact go_ireturn (ty := .boolean) (v := (0 : Int32)) d21_18 rfl (by simp) rfl (Or.inr ⟨fun q => p1001 q.2, rfl, rfl⟩)
theorem d22_0 : Dec prog_21_method_5_code 0 (.aload_n 0) 1 1 := ⟨by decide +kernel, rfl⟩
theorem d22_1 : Dec prog_21_method_5_code 1 (.invokevirtual 37) 3 4 := ⟨by decide +kernel, rfl⟩
theorem pd15 : parseMethodDescriptor "()I" = some ⟨[], some .int⟩ := by decide +kernel
theorem d22_4 : Dec prog_21_method_5_code 4 (.istore_n 1) 1 5 := ⟨by decide +kernel, rfl⟩
theorem d22_5 : Dec prog_21_method_5_code 5 (.iload_n 1) 1 6 := ⟨by decide +kernel, rfl⟩
theorem d22_6 : Dec prog_21_method_5_code 6 (.iconst 1) 1 7 := ⟨by decide +kernel, rfl⟩
theorem d22_7 : Brn prog_21_method_5_code 7 (.if_icmp .lt 9) 9 10 16 := ⟨by decide +kernel, rfl, by decide, by decide⟩
theorem d22_16 : Dec prog_21_method_5_code 16 (.iconst 0) 1 17 := ⟨by decide +kernel, rfl⟩
theorem d22_17 : Dec prog_21_method_5_code 17 (.ireturn) 1 18 := ⟨by decide +kernel, rfl⟩
theorem d22_10 : Dec prog_21_method_5_code 10 (.iload_n 1) 1 11 := ⟨by decide +kernel, rfl⟩
theorem d22_11 : Dec prog_21_method_5_code 11 (.bipush 63) 2 13 := ⟨by decide +kernel, rfl⟩
theorem d22_13 : Brn prog_21_method_5_code 13 (.if_icmp .le 5) 5 16 18 := ⟨by decide +kernel, rfl, by decide, by decide⟩
theorem d22_18 : Dec prog_21_method_5_code 18 (.iconst 0) 1 19 := ⟨by decide +kernel, rfl⟩
theorem d22_19 : Dec prog_21_method_5_code 19 (.istore_n 2) 1 20 := ⟨by decide +kernel, rfl⟩
theorem d22_20 : Dec prog_21_method_5_code 20 (.iload_n 2) 1 21 := ⟨by decide +kernel, rfl⟩
theorem d22_21 : Dec prog_21_method_5_code 21 (.iload_n 1) 1 22 := ⟨by decide +kernel, rfl⟩
theorem d22_22 : Brn prog_21_method_5_code 22 (.if_icmp .ge 63) 63 25 85 := ⟨by decide +kernel, rfl, by decide, by decide⟩
theorem d22_85 : Dec prog_21_method_5_code 85 (.iconst 1) 1 86 := ⟨by decide +kernel, rfl⟩
theorem d22_86 : Dec prog_21_method_5_code 86 (.ireturn) 1 87 := ⟨by decide +kernel, rfl⟩
theorem d22_25 : Dec prog_21_method_5_code 25 (.aload_n 0) 1 26 := ⟨by decide +kernel, rfl⟩
theorem d22_26 : Dec prog_21_method_5_code 26 (.iload_n 2) 1 27 := ⟨by decide +kernel, rfl⟩
theorem d22_27 : Dec prog_21_method_5_code 27 (.invokevirtual 43) 3 30 := ⟨by decide +kernel, rfl⟩
theorem pd16 : parseMethodDescriptor "(I)C" = some ⟨[.int], some .char⟩ := by decide +kernel
theorem d22_30 : Dec prog_21_method_5_code 30 (.istore_n 3) 1 31 := ⟨by decide +kernel, rfl⟩
theorem d22_31 : Dec prog_21_method_5_code 31 (.iload_n 3) 1 32 := ⟨by decide +kernel, rfl⟩
theorem d22_32 : Dec prog_21_method_5_code 32 (.bipush 97) 2 34 := ⟨by decide +kernel, rfl⟩
theorem d22_34 : Brn prog_21_method_5_code 34 (.if_icmp .lt 9) 9 37 43 := ⟨by decide +kernel, rfl, by decide, by decide⟩
theorem d22_43 : Dec prog_21_method_5_code 43 (.iload_n 3) 1 44 := ⟨by decide +kernel, rfl⟩
theorem d22_44 : Dec prog_21_method_5_code 44 (.bipush 48) 2 46 := ⟨by decide +kernel, rfl⟩
theorem d22_46 : Brn prog_21_method_5_code 46 (.if_icmp .lt 9) 9 49 55 := ⟨by decide +kernel, rfl, by decide, by decide⟩
theorem d22_55 : Dec prog_21_method_5_code 55 (.iload_n 3) 1 56 := ⟨by decide +kernel, rfl⟩
theorem d22_56 : Dec prog_21_method_5_code 56 (.bipush 45) 2 58 := ⟨by decide +kernel, rfl⟩
theorem d22_58 : Brn prog_21_method_5_code 58 (.if_icmp .ne 11) 11 61 69 := ⟨by decide +kernel, rfl, by decide, by decide⟩
theorem d22_69 : Dec prog_21_method_5_code 69 (.iconst 0) 1 70 := ⟨by decide +kernel, rfl⟩
theorem d22_70 : Dec prog_21_method_5_code 70 (.istore 4) 2 72 := ⟨by decide +kernel, rfl⟩
theorem d22_72 : Dec prog_21_method_5_code 72 (.iload 4) 2 74 := ⟨by decide +kernel, rfl⟩
theorem d22_74 : Brn prog_21_method_5_code 74 (.ifCond .ne 5) 5 77 79 := ⟨by decide +kernel, rfl, by decide, by decide⟩
theorem d22_77 : Dec prog_21_method_5_code 77 (.iconst 0) 1 78 := ⟨by decide +kernel, rfl⟩
theorem d22_78 : Dec prog_21_method_5_code 78 (.ireturn) 1 79 := ⟨by decide +kernel, rfl⟩
theorem d22_61 : Dec prog_21_method_5_code 61 (.iload_n 2) 1 62 := ⟨by decide +kernel, rfl⟩
theorem d22_62 : Brn prog_21_method_5_code 62 (.ifCond .le 7) 7 65 69 := ⟨by decide +kernel, rfl, by decide, by decide⟩
theorem d22_65 : Dec prog_21_method_5_code 65 (.iconst 1) 1 66 := ⟨by decide +kernel, rfl⟩
theorem d22_66 : Brn prog_21_method_5_code 66 (.goto 4) 4 69 70 := ⟨by decide +kernel, rfl, by decide, by decide⟩
theorem d22_79 : Dec prog_21_method_5_code 79 (.iinc 2 1) 3 82 := ⟨by decide +kernel, rfl⟩
theorem d22_82 : Brn prog_21_method_5_code 82 (.goto (-62)) (-62) 85 20 := ⟨by decide +kernel, rfl, by decide, by decide⟩
theorem d22_49 : Dec prog_21_method_5_code 49 (.iload_n 3) 1 50 := ⟨by decide +kernel, rfl⟩
theorem d22_50 : Dec prog_21_method_5_code 50 (.bipush 57) 2 52 := ⟨by decide +kernel, rfl⟩
theorem d22_52 : Brn prog_21_method_5_code 52 (.if_icmp .le 13) 13 55 65 := ⟨by decide +kernel, rfl, by decide, by decide⟩
theorem d22_37 : Dec prog_21_method_5_code 37 (.iload_n 3) 1 38 := ⟨by decide +kernel, rfl⟩
theorem d22_38 : Dec prog_21_method_5_code 38 (.bipush 122) 2 40 := ⟨by decide +kernel, rfl⟩
theorem d22_40 : Brn prog_21_method_5_code 40 (.if_icmp .le 25) 25 43 65 := ⟨by decide +kernel, rfl, by decide, by decide⟩
theorem pn5 : plainName "gatehouse/Identifiers" = true := by first | (simp [plainName, overriddenIn]; done) | decide +kernel
set_option maxRecDepth 65536 in
set_option maxHeartbeats 40000000 in
theorem c_isid (l : Launch) (Z : State) (a0 : Array Value) (hw : ∀ d ∈ tables_1, d.before a0 Z = true) (hEL : EW Z a0 own_EL) (x : Addr) (cs : List Int32) (b : Addr) (k : Int32) (S : Addr → Prop) (h0 : Heap) (F : Str Z h0 x cs b k) (zc : Int32) (Oc : Sta Z Z.heap "java/lang/String" "COMPACT_STRINGS" "Z" (.int zc)) (Pc : ¬ zc = 0) (sf : Value) (rsf : sf.isRef = true) (Os : Sta Z Z.heap "jdk/internal/util/Preconditions" "SIOOBE_FORMATTER" "Ljava/util/function/BiFunction;" sf) (Oa : Sta Z Z.heap "java/lang/StringUTF16" "$assertionsDisabled" "Z" (.int (1 : Int32))) (Oh : Sta Z Z.heap "java/lang/StringUTF16" "HI_BYTE_SHIFT" "I" (.int (0 : Int32))) (Ol : Sta Z Z.heap "java/lang/StringUTF16" "LO_BYTE_SHIFT" "I" (.int (8 : Int32))) :
    Con l Z own_EL [] (⟨"gatehouse/Identifiers", "isIdentifier", "(Ljava/lang/String;)Z"⟩ : MethodName) prog_21_method_5_code 5 (some .boolean) ({ frames := 5, cells := 0, slots := 0, locals := 66 } : Room) #[.ref x] S h0 (fun S' v h' => (own_id cs ∧ v = some (.int (1 : Int32)) ∧ h0 = h') ∨ (¬ (own_id cs) ∧ v = some (.int (0 : Int32)) ∧ h0 = h')) := by
  refine con_of_go (ls := #[.val (.ref x), .unset, .unset, .unset, .unset]) (plainFor_of_name pn5) hEL (fun m => by first | rfl | (simp [entryFrame, mkF, argsToLocals, cat_int, cat_ref, cat_null, cat_long]; done)) (fun K => ?_)
  show Go _ _ _ _ _ _ _ _ _ _ _ _ _ 0 0 _ _ _
  have hlen : cs.length < 2 ^ 29 := F.2.2.2.2.2.2
  refine go_aloadN d22_0 rfl rfl ?_
  refine go_virtual (R := ({ frames := 5, cells := 0, slots := 0, locals := 66 } : Room)) (kc := 0) (ks := 0) [] [] (c_len l Z a0 hw hEL x _ _ _ S h0 F zc Oc Pc) F.1 (hw _ (List.mem_of_getElem? (i := 26) rfl)) (hw _ (List.mem_of_getElem? (i := 27) rfl)) (hw _ (List.mem_of_getElem? (i := 29) rfl)) (hw _ (List.mem_of_getElem? (i := 28) rfl)) (nfSel (hw _ (List.mem_of_getElem? (i := 29) rfl))) (hw _ (List.mem_of_getElem? (i := 30) rfl)) (hw _ (List.mem_of_getElem? (i := 3) rfl)) (by decide) rfl rfl (lenOf pd15 rfl) d22_1 (by rfl) (by decide) (Nat.le_of_ble_eq_true rfl) (rc := 0) (rs := 0) rfl rfl (fun S1001 v1001 h1001 m1001 z1001 q1001 => ?_)
  obtain ⟨rfl, rfl⟩ := q1001
  show Go _ _ _ _ _ _ _ _ _ _ _ _ _ _ _ _ _ (mkF K.m 4 #[.val (.ref x), .unset, .unset, .unset, .unset] [.int (Int32.ofNat cs.length)])
  refine go_istoreN d22_4 (l' := #[.val (.ref x), .val (.int (Int32.ofNat cs.length)), .unset, .unset, .unset]) rfl ?_
  refine go_iloadN d22_5 rfl ?_
  refine go_iconst (x := (1 : Int32)) d22_6 (by decide) ?_
  refine go_icmplt d22_7 (fun c7 => ?_) (fun c7 => ?_)
  · refine go_iconst (x := (0 : Int32)) d22_16 (by decide) ?_
    exact go_ireturn (ty := .boolean) (v := (0 : Int32)) d22_17 rfl (by simp) rfl (Or.inr ⟨fun q => by
        have q1 := q.1
        have q2 := q.2.1
        first | exact absurd c7 (ofNat_nlt (n := 1) (by omega) (by omega)) | exact absurd c13 (ofNat_nlt (i := 63) (by omega) (by omega)), rfl, rfl⟩)
  · refine go_iloadN d22_10 rfl ?_
    refine go_bipush (x := (63 : Int32)) d22_11 (by decide) ?_
    refine go_icmple d22_13 (fun c13 => ?_) (fun c13 => ?_)
    · refine go_iconst (x := (0 : Int32)) d22_18 (by decide) ?_
      refine go_istoreN d22_19 (l' := #[.val (.ref x), .val (.int (Int32.ofNat cs.length)), .val (.int (0 : Int32)), .unset, .unset]) rfl ?_
      have h1 : 1 ≤ cs.length := by rcases Nat.lt_or_ge cs.length 1 with q | q; exact absurd (ofNat_lt (n := 1) q (by omega)) c7; exact q
      have h2 : cs.length ≤ 63 := by rcases Nat.lt_or_ge 63 cs.length with q | q; exact absurd (ofNat_lt (i := 63) q (by omega)) c13; exact q
      have loop : ∀ r i, i + r = cs.length → (∀ j c, j < i → cs[j]? = some c → own_ok j c) → ∀ (S1 : Addr → Prop) (s3 s4 : Slot) (hs3 : s3 = .unset ∨ ∃ w, s3 = .val w ∧ w.category = 1) (hs4 : s4 = .unset ∨ ∃ w, s4 = .val w ∧ w.category = 1), Go l Z a0 own_EL ({ frames := 5, cells := 0, slots := 0, locals := 66 } : Room) "gatehouse/Identifiers" prog_21_method_5_code 5 (some .boolean) "isIdentifier" S (fun S' v h' => (own_id cs ∧ v = some (.int (1 : Int32)) ∧ h0 = h') ∨ (¬ (own_id cs) ∧ v = some (.int (0 : Int32)) ∧ h0 = h')) K 0 0 S1 h0 (mkF K.m 20 #[.val (.ref x), .val (.int (Int32.ofNat cs.length)), .val (.int (Int32.ofNat i)), s3, s4] []) := by
        intro r
        induction r with
        | zero =>
          intro i hi hpre S1 s3 s4 hs3 hs4
          refine go_iloadN d22_20 rfl ?_
          refine go_iloadN d22_21 rfl ?_
          refine go_icmpge d22_22 (fun c1002 => ?_) (fun c1002 => absurd c1002 (ofNat_nlt (by omega) (by omega)))
          refine go_iconst (x := (1 : Int32)) d22_85 (by decide) ?_
          exact go_ireturn (ty := .boolean) (v := (1 : Int32)) d22_86 rfl (by simp) rfl (Or.inl ⟨⟨h1, h2, fun j c hj => hpre j c (by have := (List.getElem?_eq_some_iff.mp hj).1; omega) hj⟩, rfl, rfl⟩)
        | succ r ih =>
          intro i hi hpre S1 s3 s4 hs3 hs4
          obtain ⟨c, hc⟩ : ∃ c, cs[i]? = some c := ⟨_, List.getElem?_eq_getElem (by omega)⟩
          refine go_iloadN d22_20 rfl ?_
          refine go_iloadN d22_21 rfl ?_
          refine go_icmpge d22_22 (fun c1003 => absurd (ofNat_lt (by omega) (by omega)) c1003) (fun c1003 => ?_)
          refine go_aloadN d22_25 rfl rfl ?_
          refine go_iloadN d22_26 rfl ?_
          refine go_virtual (R := ({ frames := 5, cells := 0, slots := 0, locals := 66 } : Room)) (kc := 0) (ks := 0) [.int (Int32.ofNat i)] [] (c_chat l Z a0 hw hEL x _ _ _ S1 h0 F i c hc zc Oc Pc sf rsf Os Oa Oh Ol) F.1 (hw _ (List.mem_of_getElem? (i := 54) rfl)) (hw _ (List.mem_of_getElem? (i := 55) rfl)) (hw _ (List.mem_of_getElem? (i := 57) rfl)) (hw _ (List.mem_of_getElem? (i := 56) rfl)) (nfSel (hw _ (List.mem_of_getElem? (i := 57) rfl))) (hw _ (List.mem_of_getElem? (i := 58) rfl)) (hw _ (List.mem_of_getElem? (i := 3) rfl)) (by decide) rfl rfl (lenOf pd16 rfl) d22_27 (by rfl) (by decide) (Nat.le_of_ble_eq_true rfl) (rc := 0) (rs := 0) rfl rfl (fun S1004 v1004 h1004 m1004 z1004 q1004 => ?_)
          obtain ⟨rfl, rfl⟩ := q1004
          show Go _ _ _ _ _ _ _ _ _ _ _ _ _ _ _ _ _ (mkF K.m 30 #[.val (.ref x), .val (.int (Int32.ofNat cs.length)), .val (.int (Int32.ofNat i)), s3, s4] [.int c])
          refine go_istoreNS d22_30 rfl hs3 (l' := #[.val (.ref x), .val (.int (Int32.ofNat cs.length)), .val (.int (Int32.ofNat i)), .val (.int c), s4]) rfl ?_
          refine go_iloadN d22_31 rfl ?_
          refine go_bipush (x := (97 : Int32)) d22_32 (by decide) ?_
          refine go_icmplt d22_34 (fun c34 => ?_) (fun c34 => ?_)
          · refine go_iloadN d22_43 rfl ?_
            refine go_bipush (x := (48 : Int32)) d22_44 (by decide) ?_
            refine go_icmplt d22_46 (fun c46 => ?_) (fun c46 => ?_)
            · refine go_iloadN d22_55 rfl ?_
              refine go_bipush (x := (45 : Int32)) d22_56 (by decide) ?_
              refine go_icmpne d22_58 (fun c58 => ?_) (fun c58 => ?_)
              · refine go_iconst (x := (0 : Int32)) d22_69 (by decide) ?_
                refine go_istoreS d22_70 rfl hs4 (l' := #[.val (.ref x), .val (.int (Int32.ofNat cs.length)), .val (.int (Int32.ofNat i)), .val (.int c), .val (.int (0 : Int32))]) rfl ?_
                refine go_iload d22_72 rfl ?_
                refine go_ifne d22_74 (fun c1005 => absurd (rfl) c1005) (fun c1005 => ?_)
                refine go_iconst (x := (0 : Int32)) d22_77 (by decide) ?_
                exact go_ireturn (ty := .boolean) (v := (0 : Int32)) d22_78 rfl (by simp) rfl (Or.inr ⟨fun q => by
                    rcases q.2.2 i c hc with ⟨q1, q2⟩ | ⟨q1, q2⟩ | ⟨q1, q2⟩ <;> first | exact q1 c34 | exact q2 c40 | exact q1 c46 | exact q2 c52 | exact c58 q1 | exact c62 (ofNat_lt (i := 0) q2 (by omega)), rfl, rfl⟩)
              · refine go_iloadN d22_61 rfl ?_
                refine go_ifle d22_62 (fun c62 => ?_) (fun c62 => ?_)
                · refine go_iconst (x := (0 : Int32)) d22_69 (by decide) ?_
                  refine go_istoreS d22_70 rfl hs4 (l' := #[.val (.ref x), .val (.int (Int32.ofNat cs.length)), .val (.int (Int32.ofNat i)), .val (.int c), .val (.int (0 : Int32))]) rfl ?_
                  refine go_iload d22_72 rfl ?_
                  refine go_ifne d22_74 (fun c1006 => absurd (rfl) c1006) (fun c1006 => ?_)
                  refine go_iconst (x := (0 : Int32)) d22_77 (by decide) ?_
                  exact go_ireturn (ty := .boolean) (v := (0 : Int32)) d22_78 rfl (by simp) rfl (Or.inr ⟨fun q => by
                      rcases q.2.2 i c hc with ⟨q1, q2⟩ | ⟨q1, q2⟩ | ⟨q1, q2⟩ <;> first | exact q1 c34 | exact q2 c40 | exact q1 c46 | exact q2 c52 | exact c58 q1 | exact c62 (ofNat_lt (i := 0) q2 (by omega)), rfl, rfl⟩)
                · refine go_iconst (x := (1 : Int32)) d22_65 (by decide) ?_
                  refine go_goto d22_66 ?_
                  refine go_istoreS d22_70 rfl hs4 (l' := #[.val (.ref x), .val (.int (Int32.ofNat cs.length)), .val (.int (Int32.ofNat i)), .val (.int c), .val (.int (1 : Int32))]) rfl ?_
                  refine go_iload d22_72 rfl ?_
                  refine go_ifne d22_74 (fun c1007 => ?_) (fun c1007 => absurd c1007 (by decide))
                  refine go_iinc d22_79 rfl (v := (Int32.ofNat (i + 1))) (ofNat_inc i) (l' := #[.val (.ref x), .val (.int (Int32.ofNat cs.length)), .val (.int (Int32.ofNat (i + 1))), .val (.int c), .val (.int (1 : Int32))]) rfl ?_
                  refine go_goto d22_82 ?_
                  refine ih (i + 1) (by omega) (fun j d hj hd => ?_) S1004 _ _ (Or.inr ⟨_, rfl, rfl⟩) (Or.inr ⟨_, rfl, rfl⟩)
                  rcases Nat.lt_or_ge j i with q | q
                  · exact hpre j d q hd
                  · have ej : j = i := by omega
                    subst ej
                    rw [hc] at hd; cases hd
                    first | exact Or.inl ⟨c34, c40⟩ | exact Or.inr (Or.inl ⟨c46, c52⟩) | exact Or.inr (Or.inr ⟨c58, (by rcases Nat.eq_zero_or_pos j with z | z; subst z; exact absurd c62 (by decide); exact z)⟩)
            · refine go_iloadN d22_49 rfl ?_
              refine go_bipush (x := (57 : Int32)) d22_50 (by decide) ?_
              refine go_icmple d22_52 (fun c52 => ?_) (fun c52 => ?_)
              · refine go_iconst (x := (1 : Int32)) d22_65 (by decide) ?_
                refine go_goto d22_66 ?_
                refine go_istoreS d22_70 rfl hs4 (l' := #[.val (.ref x), .val (.int (Int32.ofNat cs.length)), .val (.int (Int32.ofNat i)), .val (.int c), .val (.int (1 : Int32))]) rfl ?_
                refine go_iload d22_72 rfl ?_
                refine go_ifne d22_74 (fun c1008 => ?_) (fun c1008 => absurd c1008 (by decide))
                refine go_iinc d22_79 rfl (v := (Int32.ofNat (i + 1))) (ofNat_inc i) (l' := #[.val (.ref x), .val (.int (Int32.ofNat cs.length)), .val (.int (Int32.ofNat (i + 1))), .val (.int c), .val (.int (1 : Int32))]) rfl ?_
                refine go_goto d22_82 ?_
                refine ih (i + 1) (by omega) (fun j d hj hd => ?_) S1004 _ _ (Or.inr ⟨_, rfl, rfl⟩) (Or.inr ⟨_, rfl, rfl⟩)
                rcases Nat.lt_or_ge j i with q | q
                · exact hpre j d q hd
                · have ej : j = i := by omega
                  subst ej
                  rw [hc] at hd; cases hd
                  first | exact Or.inl ⟨c34, c40⟩ | exact Or.inr (Or.inl ⟨c46, c52⟩) | exact Or.inr (Or.inr ⟨c58, (by rcases Nat.eq_zero_or_pos j with z | z; subst z; exact absurd c62 (by decide); exact z)⟩)
              · refine go_iloadN d22_55 rfl ?_
                refine go_bipush (x := (45 : Int32)) d22_56 (by decide) ?_
                refine go_icmpne d22_58 (fun c58 => ?_) (fun c58 => ?_)
                · refine go_iconst (x := (0 : Int32)) d22_69 (by decide) ?_
                  refine go_istoreS d22_70 rfl hs4 (l' := #[.val (.ref x), .val (.int (Int32.ofNat cs.length)), .val (.int (Int32.ofNat i)), .val (.int c), .val (.int (0 : Int32))]) rfl ?_
                  refine go_iload d22_72 rfl ?_
                  refine go_ifne d22_74 (fun c1009 => absurd (rfl) c1009) (fun c1009 => ?_)
                  refine go_iconst (x := (0 : Int32)) d22_77 (by decide) ?_
                  exact go_ireturn (ty := .boolean) (v := (0 : Int32)) d22_78 rfl (by simp) rfl (Or.inr ⟨fun q => by
                      rcases q.2.2 i c hc with ⟨q1, q2⟩ | ⟨q1, q2⟩ | ⟨q1, q2⟩ <;> first | exact q1 c34 | exact q2 c40 | exact q1 c46 | exact q2 c52 | exact c58 q1 | exact c62 (ofNat_lt (i := 0) q2 (by omega)), rfl, rfl⟩)
                · refine go_iloadN d22_61 rfl ?_
                  refine go_ifle d22_62 (fun c62 => ?_) (fun c62 => ?_)
                  · refine go_iconst (x := (0 : Int32)) d22_69 (by decide) ?_
                    refine go_istoreS d22_70 rfl hs4 (l' := #[.val (.ref x), .val (.int (Int32.ofNat cs.length)), .val (.int (Int32.ofNat i)), .val (.int c), .val (.int (0 : Int32))]) rfl ?_
                    refine go_iload d22_72 rfl ?_
                    refine go_ifne d22_74 (fun c1010 => absurd (rfl) c1010) (fun c1010 => ?_)
                    refine go_iconst (x := (0 : Int32)) d22_77 (by decide) ?_
                    exact go_ireturn (ty := .boolean) (v := (0 : Int32)) d22_78 rfl (by simp) rfl (Or.inr ⟨fun q => by
                        rcases q.2.2 i c hc with ⟨q1, q2⟩ | ⟨q1, q2⟩ | ⟨q1, q2⟩ <;> first | exact q1 c34 | exact q2 c40 | exact q1 c46 | exact q2 c52 | exact c58 q1 | exact c62 (ofNat_lt (i := 0) q2 (by omega)), rfl, rfl⟩)
                  · refine go_iconst (x := (1 : Int32)) d22_65 (by decide) ?_
                    refine go_goto d22_66 ?_
                    refine go_istoreS d22_70 rfl hs4 (l' := #[.val (.ref x), .val (.int (Int32.ofNat cs.length)), .val (.int (Int32.ofNat i)), .val (.int c), .val (.int (1 : Int32))]) rfl ?_
                    refine go_iload d22_72 rfl ?_
                    refine go_ifne d22_74 (fun c1011 => ?_) (fun c1011 => absurd c1011 (by decide))
                    refine go_iinc d22_79 rfl (v := (Int32.ofNat (i + 1))) (ofNat_inc i) (l' := #[.val (.ref x), .val (.int (Int32.ofNat cs.length)), .val (.int (Int32.ofNat (i + 1))), .val (.int c), .val (.int (1 : Int32))]) rfl ?_
                    refine go_goto d22_82 ?_
                    refine ih (i + 1) (by omega) (fun j d hj hd => ?_) S1004 _ _ (Or.inr ⟨_, rfl, rfl⟩) (Or.inr ⟨_, rfl, rfl⟩)
                    rcases Nat.lt_or_ge j i with q | q
                    · exact hpre j d q hd
                    · have ej : j = i := by omega
                      subst ej
                      rw [hc] at hd; cases hd
                      first | exact Or.inl ⟨c34, c40⟩ | exact Or.inr (Or.inl ⟨c46, c52⟩) | exact Or.inr (Or.inr ⟨c58, (by rcases Nat.eq_zero_or_pos j with z | z; subst z; exact absurd c62 (by decide); exact z)⟩)
          · refine go_iloadN d22_37 rfl ?_
            refine go_bipush (x := (122 : Int32)) d22_38 (by decide) ?_
            refine go_icmple d22_40 (fun c40 => ?_) (fun c40 => ?_)
            · refine go_iconst (x := (1 : Int32)) d22_65 (by decide) ?_
              refine go_goto d22_66 ?_
              refine go_istoreS d22_70 rfl hs4 (l' := #[.val (.ref x), .val (.int (Int32.ofNat cs.length)), .val (.int (Int32.ofNat i)), .val (.int c), .val (.int (1 : Int32))]) rfl ?_
              refine go_iload d22_72 rfl ?_
              refine go_ifne d22_74 (fun c1012 => ?_) (fun c1012 => absurd c1012 (by decide))
              refine go_iinc d22_79 rfl (v := (Int32.ofNat (i + 1))) (ofNat_inc i) (l' := #[.val (.ref x), .val (.int (Int32.ofNat cs.length)), .val (.int (Int32.ofNat (i + 1))), .val (.int c), .val (.int (1 : Int32))]) rfl ?_
              refine go_goto d22_82 ?_
              refine ih (i + 1) (by omega) (fun j d hj hd => ?_) S1004 _ _ (Or.inr ⟨_, rfl, rfl⟩) (Or.inr ⟨_, rfl, rfl⟩)
              rcases Nat.lt_or_ge j i with q | q
              · exact hpre j d q hd
              · have ej : j = i := by omega
                subst ej
                rw [hc] at hd; cases hd
                first | exact Or.inl ⟨c34, c40⟩ | exact Or.inr (Or.inl ⟨c46, c52⟩) | exact Or.inr (Or.inr ⟨c58, (by rcases Nat.eq_zero_or_pos j with z | z; subst z; exact absurd c62 (by decide); exact z)⟩)
            · refine go_iloadN d22_43 rfl ?_
              refine go_bipush (x := (48 : Int32)) d22_44 (by decide) ?_
              refine go_icmplt d22_46 (fun c46 => ?_) (fun c46 => ?_)
              · refine go_iloadN d22_55 rfl ?_
                refine go_bipush (x := (45 : Int32)) d22_56 (by decide) ?_
                refine go_icmpne d22_58 (fun c58 => ?_) (fun c58 => ?_)
                · refine go_iconst (x := (0 : Int32)) d22_69 (by decide) ?_
                  refine go_istoreS d22_70 rfl hs4 (l' := #[.val (.ref x), .val (.int (Int32.ofNat cs.length)), .val (.int (Int32.ofNat i)), .val (.int c), .val (.int (0 : Int32))]) rfl ?_
                  refine go_iload d22_72 rfl ?_
                  refine go_ifne d22_74 (fun c1013 => absurd (rfl) c1013) (fun c1013 => ?_)
                  refine go_iconst (x := (0 : Int32)) d22_77 (by decide) ?_
                  exact go_ireturn (ty := .boolean) (v := (0 : Int32)) d22_78 rfl (by simp) rfl (Or.inr ⟨fun q => by
                      rcases q.2.2 i c hc with ⟨q1, q2⟩ | ⟨q1, q2⟩ | ⟨q1, q2⟩ <;> first | exact q1 c34 | exact q2 c40 | exact q1 c46 | exact q2 c52 | exact c58 q1 | exact c62 (ofNat_lt (i := 0) q2 (by omega)), rfl, rfl⟩)
                · refine go_iloadN d22_61 rfl ?_
                  refine go_ifle d22_62 (fun c62 => ?_) (fun c62 => ?_)
                  · refine go_iconst (x := (0 : Int32)) d22_69 (by decide) ?_
                    refine go_istoreS d22_70 rfl hs4 (l' := #[.val (.ref x), .val (.int (Int32.ofNat cs.length)), .val (.int (Int32.ofNat i)), .val (.int c), .val (.int (0 : Int32))]) rfl ?_
                    refine go_iload d22_72 rfl ?_
                    refine go_ifne d22_74 (fun c1014 => absurd (rfl) c1014) (fun c1014 => ?_)
                    refine go_iconst (x := (0 : Int32)) d22_77 (by decide) ?_
                    exact go_ireturn (ty := .boolean) (v := (0 : Int32)) d22_78 rfl (by simp) rfl (Or.inr ⟨fun q => by
                        rcases q.2.2 i c hc with ⟨q1, q2⟩ | ⟨q1, q2⟩ | ⟨q1, q2⟩ <;> first | exact q1 c34 | exact q2 c40 | exact q1 c46 | exact q2 c52 | exact c58 q1 | exact c62 (ofNat_lt (i := 0) q2 (by omega)), rfl, rfl⟩)
                  · refine go_iconst (x := (1 : Int32)) d22_65 (by decide) ?_
                    refine go_goto d22_66 ?_
                    refine go_istoreS d22_70 rfl hs4 (l' := #[.val (.ref x), .val (.int (Int32.ofNat cs.length)), .val (.int (Int32.ofNat i)), .val (.int c), .val (.int (1 : Int32))]) rfl ?_
                    refine go_iload d22_72 rfl ?_
                    refine go_ifne d22_74 (fun c1015 => ?_) (fun c1015 => absurd c1015 (by decide))
                    refine go_iinc d22_79 rfl (v := (Int32.ofNat (i + 1))) (ofNat_inc i) (l' := #[.val (.ref x), .val (.int (Int32.ofNat cs.length)), .val (.int (Int32.ofNat (i + 1))), .val (.int c), .val (.int (1 : Int32))]) rfl ?_
                    refine go_goto d22_82 ?_
                    refine ih (i + 1) (by omega) (fun j d hj hd => ?_) S1004 _ _ (Or.inr ⟨_, rfl, rfl⟩) (Or.inr ⟨_, rfl, rfl⟩)
                    rcases Nat.lt_or_ge j i with q | q
                    · exact hpre j d q hd
                    · have ej : j = i := by omega
                      subst ej
                      rw [hc] at hd; cases hd
                      first | exact Or.inl ⟨c34, c40⟩ | exact Or.inr (Or.inl ⟨c46, c52⟩) | exact Or.inr (Or.inr ⟨c58, (by rcases Nat.eq_zero_or_pos j with z | z; subst z; exact absurd c62 (by decide); exact z)⟩)
              · refine go_iloadN d22_49 rfl ?_
                refine go_bipush (x := (57 : Int32)) d22_50 (by decide) ?_
                refine go_icmple d22_52 (fun c52 => ?_) (fun c52 => ?_)
                · refine go_iconst (x := (1 : Int32)) d22_65 (by decide) ?_
                  refine go_goto d22_66 ?_
                  refine go_istoreS d22_70 rfl hs4 (l' := #[.val (.ref x), .val (.int (Int32.ofNat cs.length)), .val (.int (Int32.ofNat i)), .val (.int c), .val (.int (1 : Int32))]) rfl ?_
                  refine go_iload d22_72 rfl ?_
                  refine go_ifne d22_74 (fun c1016 => ?_) (fun c1016 => absurd c1016 (by decide))
                  refine go_iinc d22_79 rfl (v := (Int32.ofNat (i + 1))) (ofNat_inc i) (l' := #[.val (.ref x), .val (.int (Int32.ofNat cs.length)), .val (.int (Int32.ofNat (i + 1))), .val (.int c), .val (.int (1 : Int32))]) rfl ?_
                  refine go_goto d22_82 ?_
                  refine ih (i + 1) (by omega) (fun j d hj hd => ?_) S1004 _ _ (Or.inr ⟨_, rfl, rfl⟩) (Or.inr ⟨_, rfl, rfl⟩)
                  rcases Nat.lt_or_ge j i with q | q
                  · exact hpre j d q hd
                  · have ej : j = i := by omega
                    subst ej
                    rw [hc] at hd; cases hd
                    first | exact Or.inl ⟨c34, c40⟩ | exact Or.inr (Or.inl ⟨c46, c52⟩) | exact Or.inr (Or.inr ⟨c58, (by rcases Nat.eq_zero_or_pos j with z | z; subst z; exact absurd c62 (by decide); exact z)⟩)
                · refine go_iloadN d22_55 rfl ?_
                  refine go_bipush (x := (45 : Int32)) d22_56 (by decide) ?_
                  refine go_icmpne d22_58 (fun c58 => ?_) (fun c58 => ?_)
                  · refine go_iconst (x := (0 : Int32)) d22_69 (by decide) ?_
                    refine go_istoreS d22_70 rfl hs4 (l' := #[.val (.ref x), .val (.int (Int32.ofNat cs.length)), .val (.int (Int32.ofNat i)), .val (.int c), .val (.int (0 : Int32))]) rfl ?_
                    refine go_iload d22_72 rfl ?_
                    refine go_ifne d22_74 (fun c1017 => absurd (rfl) c1017) (fun c1017 => ?_)
                    refine go_iconst (x := (0 : Int32)) d22_77 (by decide) ?_
                    exact go_ireturn (ty := .boolean) (v := (0 : Int32)) d22_78 rfl (by simp) rfl (Or.inr ⟨fun q => by
                        rcases q.2.2 i c hc with ⟨q1, q2⟩ | ⟨q1, q2⟩ | ⟨q1, q2⟩ <;> first | exact q1 c34 | exact q2 c40 | exact q1 c46 | exact q2 c52 | exact c58 q1 | exact c62 (ofNat_lt (i := 0) q2 (by omega)), rfl, rfl⟩)
                  · refine go_iloadN d22_61 rfl ?_
                    refine go_ifle d22_62 (fun c62 => ?_) (fun c62 => ?_)
                    · refine go_iconst (x := (0 : Int32)) d22_69 (by decide) ?_
                      refine go_istoreS d22_70 rfl hs4 (l' := #[.val (.ref x), .val (.int (Int32.ofNat cs.length)), .val (.int (Int32.ofNat i)), .val (.int c), .val (.int (0 : Int32))]) rfl ?_
                      refine go_iload d22_72 rfl ?_
                      refine go_ifne d22_74 (fun c1018 => absurd (rfl) c1018) (fun c1018 => ?_)
                      refine go_iconst (x := (0 : Int32)) d22_77 (by decide) ?_
                      exact go_ireturn (ty := .boolean) (v := (0 : Int32)) d22_78 rfl (by simp) rfl (Or.inr ⟨fun q => by
                          rcases q.2.2 i c hc with ⟨q1, q2⟩ | ⟨q1, q2⟩ | ⟨q1, q2⟩ <;> first | exact q1 c34 | exact q2 c40 | exact q1 c46 | exact q2 c52 | exact c58 q1 | exact c62 (ofNat_lt (i := 0) q2 (by omega)), rfl, rfl⟩)
                    · refine go_iconst (x := (1 : Int32)) d22_65 (by decide) ?_
                      refine go_goto d22_66 ?_
                      refine go_istoreS d22_70 rfl hs4 (l' := #[.val (.ref x), .val (.int (Int32.ofNat cs.length)), .val (.int (Int32.ofNat i)), .val (.int c), .val (.int (1 : Int32))]) rfl ?_
                      refine go_iload d22_72 rfl ?_
                      refine go_ifne d22_74 (fun c1019 => ?_) (fun c1019 => absurd c1019 (by decide))
                      refine go_iinc d22_79 rfl (v := (Int32.ofNat (i + 1))) (ofNat_inc i) (l' := #[.val (.ref x), .val (.int (Int32.ofNat cs.length)), .val (.int (Int32.ofNat (i + 1))), .val (.int c), .val (.int (1 : Int32))]) rfl ?_
                      refine go_goto d22_82 ?_
                      refine ih (i + 1) (by omega) (fun j d hj hd => ?_) S1004 _ _ (Or.inr ⟨_, rfl, rfl⟩) (Or.inr ⟨_, rfl, rfl⟩)
                      rcases Nat.lt_or_ge j i with q | q
                      · exact hpre j d q hd
                      · have ej : j = i := by omega
                        subst ej
                        rw [hc] at hd; cases hd
                        first | exact Or.inl ⟨c34, c40⟩ | exact Or.inr (Or.inl ⟨c46, c52⟩) | exact Or.inr (Or.inr ⟨c58, (by rcases Nat.eq_zero_or_pos j with z | z; subst z; exact absurd c62 (by decide); exact z)⟩)
      exact loop cs.length 0 (by omega) (fun j c hj => absurd hj (by omega)) S1001 _ _ (Or.inl rfl) (Or.inl rfl)
    · refine go_iconst (x := (0 : Int32)) d22_16 (by decide) ?_
      exact go_ireturn (ty := .boolean) (v := (0 : Int32)) d22_17 rfl (by simp) rfl (Or.inr ⟨fun q => by
          have q1 := q.1
          have q2 := q.2.1
          first | exact absurd c7 (ofNat_nlt (n := 1) (by omega) (by omega)) | exact absurd c13 (ofNat_nlt (i := 63) (by omega) (by omega)), rfl, rfl⟩)
theorem d23_1162 : Dec code 1162 (.new 16) 3 1165 := ⟨by decide +kernel, rfl⟩
theorem d23_1165 : Dec code 1165 (.dup) 1 1166 := ⟨by decide +kernel, rfl⟩
theorem d23_1166 : Dec code 1166 (.aload 10) 2 1168 := ⟨by decide +kernel, rfl⟩
theorem d23_1168 : Dec code 1168 (.invokespecial 18) 3 1171 := ⟨by decide +kernel, rfl⟩
theorem pd17 : parseMethodDescriptor "([C)V" = some ⟨[(.array .char)], none⟩ := by decide +kernel
theorem d23_1171 : Dec code 1171 (.invokestatic 21) 3 1174 := ⟨by decide +kernel, rfl⟩
theorem pd18 : parseMethodDescriptor "(Ljava/lang/String;)Z" = some ⟨[(.object "java/lang/String")], some .boolean⟩ := by decide +kernel
theorem d23_1174 : Dec code 1174 (.iload 11) 2 1176 := ⟨by decide +kernel, rfl⟩
theorem d23_1176 : Brn code 1176 (.if_icmp .ne 7) 7 1179 1183 := ⟨by decide +kernel, rfl, by decide, by decide⟩
theorem d23_1179 : Dec code 1179 (.iconst 1) 1 1180 := ⟨by decide +kernel, rfl⟩
theorem d23_1180 : Brn code 1180 (.goto 4) 4 1183 1184 := ⟨by decide +kernel, rfl, by decide, by decide⟩
theorem d23_1184 : Dec code 1184 (.ireturn) 1 1185 := ⟨by decide +kernel, rfl⟩
theorem d23_0 : Dec code 0 (.iload_n 1) 1 1 := ⟨by decide +kernel, rfl⟩
theorem d23_1 : Dec code 1 (.i2c) 1 2 := ⟨by decide +kernel, rfl⟩
theorem d23_2 : Dec code 2 (.istore 4) 2 4 := ⟨by decide +kernel, rfl⟩
theorem d23_4 : Dec code 4 (.iload_n 1) 1 5 := ⟨by decide +kernel, rfl⟩
theorem d23_5 : Dec code 5 (.bipush 16) 2 7 := ⟨by decide +kernel, rfl⟩
theorem d23_7 : Dec code 7 (.iushr) 1 8 := ⟨by decide +kernel, rfl⟩
theorem d23_8 : Dec code 8 (.i2c) 1 9 := ⟨by decide +kernel, rfl⟩
theorem d23_9 : Dec code 9 (.istore 5) 2 11 := ⟨by decide +kernel, rfl⟩
theorem d23_11 : Dec code 11 (.iload_n 2) 1 12 := ⟨by decide +kernel, rfl⟩
theorem d23_12 : Dec code 12 (.i2c) 1 13 := ⟨by decide +kernel, rfl⟩
theorem d23_13 : Dec code 13 (.istore 6) 2 15 := ⟨by decide +kernel, rfl⟩
theorem d23_15 : Dec code 15 (.iload_n 2) 1 16 := ⟨by decide +kernel, rfl⟩
theorem d23_16 : Dec code 16 (.bipush 16) 2 18 := ⟨by decide +kernel, rfl⟩
theorem d23_18 : Dec code 18 (.iushr) 1 19 := ⟨by decide +kernel, rfl⟩
theorem d23_19 : Dec code 19 (.i2c) 1 20 := ⟨by decide +kernel, rfl⟩
theorem d23_20 : Dec code 20 (.istore 7) 2 22 := ⟨by decide +kernel, rfl⟩
theorem d23_22 : Dec code 22 (.iload_n 3) 1 23 := ⟨by decide +kernel, rfl⟩
theorem d23_23 : Dec code 23 (.i2c) 1 24 := ⟨by decide +kernel, rfl⟩
theorem d23_24 : Dec code 24 (.istore 8) 2 26 := ⟨by decide +kernel, rfl⟩
theorem d23_26 : Dec code 26 (.iload_n 0) 1 27 := ⟨by decide +kernel, rfl⟩
theorem d23_27 : Dec code 27 (.bipush 7) 2 29 := ⟨by decide +kernel, rfl⟩
theorem d23_29 : Dec code 29 (.iand) 1 30 := ⟨by decide +kernel, rfl⟩
theorem d23_30 : Dec code 30 (.istore 9) 2 32 := ⟨by decide +kernel, rfl⟩
theorem d23_32 : Dec code 32 (.iload 9) 2 34 := ⟨by decide +kernel, rfl⟩
theorem d23_34 : Brn code 34 (.ifCond .ne 14) 14 37 48 := ⟨by decide +kernel, rfl, by decide, by decide⟩
theorem d23_48 : Dec code 48 (.iload 9) 2 50 := ⟨by decide +kernel, rfl⟩
theorem d23_50 : Dec code 50 (.iconst 1) 1 51 := ⟨by decide +kernel, rfl⟩
theorem d23_51 : Brn code 51 (.if_icmp .ne 23) 23 54 74 := ⟨by decide +kernel, rfl, by decide, by decide⟩
theorem d23_74 : Dec code 74 (.iload 9) 2 76 := ⟨by decide +kernel, rfl⟩
theorem d23_76 : Dec code 76 (.iconst 2) 1 77 := ⟨by decide +kernel, rfl⟩
theorem d23_77 : Brn code 77 (.if_icmp .ne 44) 44 80 121 := ⟨by decide +kernel, rfl, by decide, by decide⟩
theorem d23_121 : Dec code 121 (.iload 9) 2 123 := ⟨by decide +kernel, rfl⟩
theorem d23_123 : Dec code 123 (.iconst 3) 1 124 := ⟨by decide +kernel, rfl⟩
theorem d23_124 : Brn code 124 (.if_icmp .ne 57) 57 127 181 := ⟨by decide +kernel, rfl, by decide, by decide⟩
theorem d23_181 : Dec code 181 (.iload 9) 2 183 := ⟨by decide +kernel, rfl⟩
theorem d23_183 : Dec code 183 (.iconst 4) 1 184 := ⟨by decide +kernel, rfl⟩
theorem d23_184 : Brn code 184 (.if_icmp .ne 70) 70 187 254 := ⟨by decide +kernel, rfl, by decide, by decide⟩
theorem d23_254 : Dec code 254 (.iload 9) 2 256 := ⟨by decide +kernel, rfl⟩
theorem d23_256 : Dec code 256 (.iconst 5) 1 257 := ⟨by decide +kernel, rfl⟩
theorem d23_257 : Brn code 257 (.if_icmp .ne 83) 83 260 340 := ⟨by decide +kernel, rfl, by decide, by decide⟩
theorem d23_340 : Dec code 340 (.iload 9) 2 342 := ⟨by decide +kernel, rfl⟩
theorem d23_342 : Dec code 342 (.bipush 6) 2 344 := ⟨by decide +kernel, rfl⟩
theorem d23_344 : Brn code 344 (.if_icmp .ne 431) 431 347 775 := ⟨by decide +kernel, rfl, by decide, by decide⟩
theorem d23_775 : Dec code 775 (.bipush 64) 2 777 := ⟨by decide +kernel, rfl⟩
theorem d23_777 : Dec code 777 (.newarray .char) 2 779 := ⟨by decide +kernel, rfl⟩
theorem d23_779 : Dec code 779 (.dup) 1 780 := ⟨by decide +kernel, rfl⟩
theorem d23_780 : Dec code 780 (.iconst 0) 1 781 := ⟨by decide +kernel, rfl⟩
theorem d23_781 : Dec code 781 (.iload 4) 2 783 := ⟨by decide +kernel, rfl⟩
theorem d23_783 : Dec code 783 (.castore) 1 784 := ⟨by decide +kernel, rfl⟩
theorem d23_784 : Dec code 784 (.dup) 1 785 := ⟨by decide +kernel, rfl⟩
theorem d23_785 : Dec code 785 (.iconst 1) 1 786 := ⟨by decide +kernel, rfl⟩
theorem d23_786 : Dec code 786 (.iload 5) 2 788 := ⟨by decide +kernel, rfl⟩
theorem d23_788 : Dec code 788 (.castore) 1 789 := ⟨by decide +kernel, rfl⟩
theorem d23_789 : Dec code 789 (.dup) 1 790 := ⟨by decide +kernel, rfl⟩
theorem d23_790 : Dec code 790 (.iconst 2) 1 791 := ⟨by decide +kernel, rfl⟩
theorem d23_791 : Dec code 791 (.iload 8) 2 793 := ⟨by decide +kernel, rfl⟩
theorem d23_793 : Dec code 793 (.castore) 1 794 := ⟨by decide +kernel, rfl⟩
theorem d23_794 : Dec code 794 (.dup) 1 795 := ⟨by decide +kernel, rfl⟩
theorem d23_795 : Dec code 795 (.iconst 3) 1 796 := ⟨by decide +kernel, rfl⟩
theorem d23_796 : Dec code 796 (.iload 8) 2 798 := ⟨by decide +kernel, rfl⟩
theorem d23_798 : Dec code 798 (.castore) 1 799 := ⟨by decide +kernel, rfl⟩
theorem d23_799 : Dec code 799 (.dup) 1 800 := ⟨by decide +kernel, rfl⟩
theorem d23_800 : Dec code 800 (.iconst 4) 1 801 := ⟨by decide +kernel, rfl⟩
theorem d23_801 : Dec code 801 (.iload 8) 2 803 := ⟨by decide +kernel, rfl⟩
theorem d23_803 : Dec code 803 (.castore) 1 804 := ⟨by decide +kernel, rfl⟩
theorem d23_804 : Dec code 804 (.dup) 1 805 := ⟨by decide +kernel, rfl⟩
theorem d23_805 : Dec code 805 (.iconst 5) 1 806 := ⟨by decide +kernel, rfl⟩
theorem d23_806 : Dec code 806 (.iload 8) 2 808 := ⟨by decide +kernel, rfl⟩
theorem d23_808 : Dec code 808 (.castore) 1 809 := ⟨by decide +kernel, rfl⟩
theorem d23_809 : Dec code 809 (.dup) 1 810 := ⟨by decide +kernel, rfl⟩
theorem d23_810 : Dec code 810 (.bipush 6) 2 812 := ⟨by decide +kernel, rfl⟩
theorem d23_812 : Dec code 812 (.iload 8) 2 814 := ⟨by decide +kernel, rfl⟩
theorem d23_814 : Dec code 814 (.castore) 1 815 := ⟨by decide +kernel, rfl⟩
theorem d23_815 : Dec code 815 (.dup) 1 816 := ⟨by decide +kernel, rfl⟩
theorem d23_816 : Dec code 816 (.bipush 7) 2 818 := ⟨by decide +kernel, rfl⟩
theorem d23_818 : Dec code 818 (.iload 8) 2 820 := ⟨by decide +kernel, rfl⟩
theorem d23_820 : Dec code 820 (.castore) 1 821 := ⟨by decide +kernel, rfl⟩
theorem d23_821 : Dec code 821 (.dup) 1 822 := ⟨by decide +kernel, rfl⟩
theorem d23_822 : Dec code 822 (.bipush 8) 2 824 := ⟨by decide +kernel, rfl⟩
theorem d23_824 : Dec code 824 (.iload 8) 2 826 := ⟨by decide +kernel, rfl⟩
theorem d23_826 : Dec code 826 (.castore) 1 827 := ⟨by decide +kernel, rfl⟩
theorem d23_827 : Dec code 827 (.dup) 1 828 := ⟨by decide +kernel, rfl⟩
theorem d23_828 : Dec code 828 (.bipush 9) 2 830 := ⟨by decide +kernel, rfl⟩
theorem d23_830 : Dec code 830 (.iload 8) 2 832 := ⟨by decide +kernel, rfl⟩
theorem d23_832 : Dec code 832 (.castore) 1 833 := ⟨by decide +kernel, rfl⟩
theorem d23_833 : Dec code 833 (.dup) 1 834 := ⟨by decide +kernel, rfl⟩
theorem d23_834 : Dec code 834 (.bipush 10) 2 836 := ⟨by decide +kernel, rfl⟩
theorem d23_836 : Dec code 836 (.iload 8) 2 838 := ⟨by decide +kernel, rfl⟩
theorem d23_838 : Dec code 838 (.castore) 1 839 := ⟨by decide +kernel, rfl⟩
theorem d23_839 : Dec code 839 (.dup) 1 840 := ⟨by decide +kernel, rfl⟩
theorem d23_840 : Dec code 840 (.bipush 11) 2 842 := ⟨by decide +kernel, rfl⟩
theorem d23_842 : Dec code 842 (.iload 8) 2 844 := ⟨by decide +kernel, rfl⟩
theorem d23_844 : Dec code 844 (.castore) 1 845 := ⟨by decide +kernel, rfl⟩
theorem d23_845 : Dec code 845 (.dup) 1 846 := ⟨by decide +kernel, rfl⟩
theorem d23_846 : Dec code 846 (.bipush 12) 2 848 := ⟨by decide +kernel, rfl⟩
theorem d23_848 : Dec code 848 (.iload 8) 2 850 := ⟨by decide +kernel, rfl⟩
theorem d23_850 : Dec code 850 (.castore) 1 851 := ⟨by decide +kernel, rfl⟩
theorem d23_851 : Dec code 851 (.dup) 1 852 := ⟨by decide +kernel, rfl⟩
theorem d23_852 : Dec code 852 (.bipush 13) 2 854 := ⟨by decide +kernel, rfl⟩
theorem d23_854 : Dec code 854 (.iload 8) 2 856 := ⟨by decide +kernel, rfl⟩
theorem d23_856 : Dec code 856 (.castore) 1 857 := ⟨by decide +kernel, rfl⟩
theorem d23_857 : Dec code 857 (.dup) 1 858 := ⟨by decide +kernel, rfl⟩
theorem d23_858 : Dec code 858 (.bipush 14) 2 860 := ⟨by decide +kernel, rfl⟩
theorem d23_860 : Dec code 860 (.iload 8) 2 862 := ⟨by decide +kernel, rfl⟩
theorem d23_862 : Dec code 862 (.castore) 1 863 := ⟨by decide +kernel, rfl⟩
theorem d23_863 : Dec code 863 (.dup) 1 864 := ⟨by decide +kernel, rfl⟩
theorem d23_864 : Dec code 864 (.bipush 15) 2 866 := ⟨by decide +kernel, rfl⟩
theorem d23_866 : Dec code 866 (.iload 8) 2 868 := ⟨by decide +kernel, rfl⟩
theorem d23_868 : Dec code 868 (.castore) 1 869 := ⟨by decide +kernel, rfl⟩
theorem d23_869 : Dec code 869 (.dup) 1 870 := ⟨by decide +kernel, rfl⟩
theorem d23_870 : Dec code 870 (.bipush 16) 2 872 := ⟨by decide +kernel, rfl⟩
theorem d23_872 : Dec code 872 (.iload 8) 2 874 := ⟨by decide +kernel, rfl⟩
theorem d23_874 : Dec code 874 (.castore) 1 875 := ⟨by decide +kernel, rfl⟩
theorem d23_875 : Dec code 875 (.dup) 1 876 := ⟨by decide +kernel, rfl⟩
theorem d23_876 : Dec code 876 (.bipush 17) 2 878 := ⟨by decide +kernel, rfl⟩
theorem d23_878 : Dec code 878 (.iload 8) 2 880 := ⟨by decide +kernel, rfl⟩
theorem d23_880 : Dec code 880 (.castore) 1 881 := ⟨by decide +kernel, rfl⟩
theorem d23_881 : Dec code 881 (.dup) 1 882 := ⟨by decide +kernel, rfl⟩
theorem d23_882 : Dec code 882 (.bipush 18) 2 884 := ⟨by decide +kernel, rfl⟩
theorem d23_884 : Dec code 884 (.iload 8) 2 886 := ⟨by decide +kernel, rfl⟩
theorem d23_886 : Dec code 886 (.castore) 1 887 := ⟨by decide +kernel, rfl⟩
theorem d23_887 : Dec code 887 (.dup) 1 888 := ⟨by decide +kernel, rfl⟩
theorem d23_888 : Dec code 888 (.bipush 19) 2 890 := ⟨by decide +kernel, rfl⟩
theorem d23_890 : Dec code 890 (.iload 8) 2 892 := ⟨by decide +kernel, rfl⟩
theorem d23_892 : Dec code 892 (.castore) 1 893 := ⟨by decide +kernel, rfl⟩
theorem d23_893 : Dec code 893 (.dup) 1 894 := ⟨by decide +kernel, rfl⟩
theorem d23_894 : Dec code 894 (.bipush 20) 2 896 := ⟨by decide +kernel, rfl⟩
theorem d23_896 : Dec code 896 (.iload 8) 2 898 := ⟨by decide +kernel, rfl⟩
theorem d23_898 : Dec code 898 (.castore) 1 899 := ⟨by decide +kernel, rfl⟩
theorem d23_899 : Dec code 899 (.dup) 1 900 := ⟨by decide +kernel, rfl⟩
theorem d23_900 : Dec code 900 (.bipush 21) 2 902 := ⟨by decide +kernel, rfl⟩
theorem d23_902 : Dec code 902 (.iload 8) 2 904 := ⟨by decide +kernel, rfl⟩
theorem d23_904 : Dec code 904 (.castore) 1 905 := ⟨by decide +kernel, rfl⟩
theorem d23_905 : Dec code 905 (.dup) 1 906 := ⟨by decide +kernel, rfl⟩
theorem d23_906 : Dec code 906 (.bipush 22) 2 908 := ⟨by decide +kernel, rfl⟩
theorem d23_908 : Dec code 908 (.iload 8) 2 910 := ⟨by decide +kernel, rfl⟩
theorem d23_910 : Dec code 910 (.castore) 1 911 := ⟨by decide +kernel, rfl⟩
theorem d23_911 : Dec code 911 (.dup) 1 912 := ⟨by decide +kernel, rfl⟩
theorem d23_912 : Dec code 912 (.bipush 23) 2 914 := ⟨by decide +kernel, rfl⟩
theorem d23_914 : Dec code 914 (.iload 8) 2 916 := ⟨by decide +kernel, rfl⟩
theorem d23_916 : Dec code 916 (.castore) 1 917 := ⟨by decide +kernel, rfl⟩
theorem d23_917 : Dec code 917 (.dup) 1 918 := ⟨by decide +kernel, rfl⟩
theorem d23_918 : Dec code 918 (.bipush 24) 2 920 := ⟨by decide +kernel, rfl⟩
theorem d23_920 : Dec code 920 (.iload 8) 2 922 := ⟨by decide +kernel, rfl⟩
theorem d23_922 : Dec code 922 (.castore) 1 923 := ⟨by decide +kernel, rfl⟩
theorem d23_923 : Dec code 923 (.dup) 1 924 := ⟨by decide +kernel, rfl⟩
theorem d23_924 : Dec code 924 (.bipush 25) 2 926 := ⟨by decide +kernel, rfl⟩
theorem d23_926 : Dec code 926 (.iload 8) 2 928 := ⟨by decide +kernel, rfl⟩
theorem d23_928 : Dec code 928 (.castore) 1 929 := ⟨by decide +kernel, rfl⟩
theorem d23_929 : Dec code 929 (.dup) 1 930 := ⟨by decide +kernel, rfl⟩
theorem d23_930 : Dec code 930 (.bipush 26) 2 932 := ⟨by decide +kernel, rfl⟩
theorem d23_932 : Dec code 932 (.iload 8) 2 934 := ⟨by decide +kernel, rfl⟩
theorem d23_934 : Dec code 934 (.castore) 1 935 := ⟨by decide +kernel, rfl⟩
theorem d23_935 : Dec code 935 (.dup) 1 936 := ⟨by decide +kernel, rfl⟩
theorem d23_936 : Dec code 936 (.bipush 27) 2 938 := ⟨by decide +kernel, rfl⟩
theorem d23_938 : Dec code 938 (.iload 8) 2 940 := ⟨by decide +kernel, rfl⟩
theorem d23_940 : Dec code 940 (.castore) 1 941 := ⟨by decide +kernel, rfl⟩
theorem d23_941 : Dec code 941 (.dup) 1 942 := ⟨by decide +kernel, rfl⟩
theorem d23_942 : Dec code 942 (.bipush 28) 2 944 := ⟨by decide +kernel, rfl⟩
theorem d23_944 : Dec code 944 (.iload 8) 2 946 := ⟨by decide +kernel, rfl⟩
theorem d23_946 : Dec code 946 (.castore) 1 947 := ⟨by decide +kernel, rfl⟩
theorem d23_947 : Dec code 947 (.dup) 1 948 := ⟨by decide +kernel, rfl⟩
theorem d23_948 : Dec code 948 (.bipush 29) 2 950 := ⟨by decide +kernel, rfl⟩
theorem d23_950 : Dec code 950 (.iload 8) 2 952 := ⟨by decide +kernel, rfl⟩
theorem d23_952 : Dec code 952 (.castore) 1 953 := ⟨by decide +kernel, rfl⟩
theorem d23_953 : Dec code 953 (.dup) 1 954 := ⟨by decide +kernel, rfl⟩
theorem d23_954 : Dec code 954 (.bipush 30) 2 956 := ⟨by decide +kernel, rfl⟩
theorem d23_956 : Dec code 956 (.iload 8) 2 958 := ⟨by decide +kernel, rfl⟩
theorem d23_958 : Dec code 958 (.castore) 1 959 := ⟨by decide +kernel, rfl⟩
theorem d23_959 : Dec code 959 (.dup) 1 960 := ⟨by decide +kernel, rfl⟩
theorem d23_960 : Dec code 960 (.bipush 31) 2 962 := ⟨by decide +kernel, rfl⟩
theorem d23_962 : Dec code 962 (.iload 8) 2 964 := ⟨by decide +kernel, rfl⟩
theorem d23_964 : Dec code 964 (.castore) 1 965 := ⟨by decide +kernel, rfl⟩
theorem d23_965 : Dec code 965 (.dup) 1 966 := ⟨by decide +kernel, rfl⟩
theorem d23_966 : Dec code 966 (.bipush 32) 2 968 := ⟨by decide +kernel, rfl⟩
theorem d23_968 : Dec code 968 (.iload 8) 2 970 := ⟨by decide +kernel, rfl⟩
theorem d23_970 : Dec code 970 (.castore) 1 971 := ⟨by decide +kernel, rfl⟩
theorem d23_971 : Dec code 971 (.dup) 1 972 := ⟨by decide +kernel, rfl⟩
theorem d23_972 : Dec code 972 (.bipush 33) 2 974 := ⟨by decide +kernel, rfl⟩
theorem d23_974 : Dec code 974 (.iload 8) 2 976 := ⟨by decide +kernel, rfl⟩
theorem d23_976 : Dec code 976 (.castore) 1 977 := ⟨by decide +kernel, rfl⟩
theorem d23_977 : Dec code 977 (.dup) 1 978 := ⟨by decide +kernel, rfl⟩
theorem d23_978 : Dec code 978 (.bipush 34) 2 980 := ⟨by decide +kernel, rfl⟩
theorem d23_980 : Dec code 980 (.iload 8) 2 982 := ⟨by decide +kernel, rfl⟩
theorem d23_982 : Dec code 982 (.castore) 1 983 := ⟨by decide +kernel, rfl⟩
theorem d23_983 : Dec code 983 (.dup) 1 984 := ⟨by decide +kernel, rfl⟩
theorem d23_984 : Dec code 984 (.bipush 35) 2 986 := ⟨by decide +kernel, rfl⟩
theorem d23_986 : Dec code 986 (.iload 8) 2 988 := ⟨by decide +kernel, rfl⟩
theorem d23_988 : Dec code 988 (.castore) 1 989 := ⟨by decide +kernel, rfl⟩
theorem d23_989 : Dec code 989 (.dup) 1 990 := ⟨by decide +kernel, rfl⟩
theorem d23_990 : Dec code 990 (.bipush 36) 2 992 := ⟨by decide +kernel, rfl⟩
theorem d23_992 : Dec code 992 (.iload 8) 2 994 := ⟨by decide +kernel, rfl⟩
theorem d23_994 : Dec code 994 (.castore) 1 995 := ⟨by decide +kernel, rfl⟩
theorem d23_995 : Dec code 995 (.dup) 1 996 := ⟨by decide +kernel, rfl⟩
theorem d23_996 : Dec code 996 (.bipush 37) 2 998 := ⟨by decide +kernel, rfl⟩
theorem d23_998 : Dec code 998 (.iload 8) 2 1000 := ⟨by decide +kernel, rfl⟩
theorem d23_1000 : Dec code 1000 (.castore) 1 1001 := ⟨by decide +kernel, rfl⟩
theorem d23_1001 : Dec code 1001 (.dup) 1 1002 := ⟨by decide +kernel, rfl⟩
theorem d23_1002 : Dec code 1002 (.bipush 38) 2 1004 := ⟨by decide +kernel, rfl⟩
theorem d23_1004 : Dec code 1004 (.iload 8) 2 1006 := ⟨by decide +kernel, rfl⟩
theorem d23_1006 : Dec code 1006 (.castore) 1 1007 := ⟨by decide +kernel, rfl⟩
theorem d23_1007 : Dec code 1007 (.dup) 1 1008 := ⟨by decide +kernel, rfl⟩
theorem d23_1008 : Dec code 1008 (.bipush 39) 2 1010 := ⟨by decide +kernel, rfl⟩
theorem d23_1010 : Dec code 1010 (.iload 8) 2 1012 := ⟨by decide +kernel, rfl⟩
theorem d23_1012 : Dec code 1012 (.castore) 1 1013 := ⟨by decide +kernel, rfl⟩
theorem d23_1013 : Dec code 1013 (.dup) 1 1014 := ⟨by decide +kernel, rfl⟩
theorem d23_1014 : Dec code 1014 (.bipush 40) 2 1016 := ⟨by decide +kernel, rfl⟩
theorem d23_1016 : Dec code 1016 (.iload 8) 2 1018 := ⟨by decide +kernel, rfl⟩
theorem d23_1018 : Dec code 1018 (.castore) 1 1019 := ⟨by decide +kernel, rfl⟩
theorem d23_1019 : Dec code 1019 (.dup) 1 1020 := ⟨by decide +kernel, rfl⟩
theorem d23_1020 : Dec code 1020 (.bipush 41) 2 1022 := ⟨by decide +kernel, rfl⟩
theorem d23_1022 : Dec code 1022 (.iload 8) 2 1024 := ⟨by decide +kernel, rfl⟩
theorem d23_1024 : Dec code 1024 (.castore) 1 1025 := ⟨by decide +kernel, rfl⟩
theorem d23_1025 : Dec code 1025 (.dup) 1 1026 := ⟨by decide +kernel, rfl⟩
theorem d23_1026 : Dec code 1026 (.bipush 42) 2 1028 := ⟨by decide +kernel, rfl⟩
theorem d23_1028 : Dec code 1028 (.iload 8) 2 1030 := ⟨by decide +kernel, rfl⟩
theorem d23_1030 : Dec code 1030 (.castore) 1 1031 := ⟨by decide +kernel, rfl⟩
theorem d23_1031 : Dec code 1031 (.dup) 1 1032 := ⟨by decide +kernel, rfl⟩
theorem d23_1032 : Dec code 1032 (.bipush 43) 2 1034 := ⟨by decide +kernel, rfl⟩
theorem d23_1034 : Dec code 1034 (.iload 8) 2 1036 := ⟨by decide +kernel, rfl⟩
theorem d23_1036 : Dec code 1036 (.castore) 1 1037 := ⟨by decide +kernel, rfl⟩
theorem d23_1037 : Dec code 1037 (.dup) 1 1038 := ⟨by decide +kernel, rfl⟩
theorem d23_1038 : Dec code 1038 (.bipush 44) 2 1040 := ⟨by decide +kernel, rfl⟩
theorem d23_1040 : Dec code 1040 (.iload 8) 2 1042 := ⟨by decide +kernel, rfl⟩
theorem d23_1042 : Dec code 1042 (.castore) 1 1043 := ⟨by decide +kernel, rfl⟩
theorem d23_1043 : Dec code 1043 (.dup) 1 1044 := ⟨by decide +kernel, rfl⟩
theorem d23_1044 : Dec code 1044 (.bipush 45) 2 1046 := ⟨by decide +kernel, rfl⟩
theorem d23_1046 : Dec code 1046 (.iload 8) 2 1048 := ⟨by decide +kernel, rfl⟩
theorem d23_1048 : Dec code 1048 (.castore) 1 1049 := ⟨by decide +kernel, rfl⟩
theorem d23_1049 : Dec code 1049 (.dup) 1 1050 := ⟨by decide +kernel, rfl⟩
theorem d23_1050 : Dec code 1050 (.bipush 46) 2 1052 := ⟨by decide +kernel, rfl⟩
theorem d23_1052 : Dec code 1052 (.iload 8) 2 1054 := ⟨by decide +kernel, rfl⟩
theorem d23_1054 : Dec code 1054 (.castore) 1 1055 := ⟨by decide +kernel, rfl⟩
theorem d23_1055 : Dec code 1055 (.dup) 1 1056 := ⟨by decide +kernel, rfl⟩
theorem d23_1056 : Dec code 1056 (.bipush 47) 2 1058 := ⟨by decide +kernel, rfl⟩
theorem d23_1058 : Dec code 1058 (.iload 8) 2 1060 := ⟨by decide +kernel, rfl⟩
theorem d23_1060 : Dec code 1060 (.castore) 1 1061 := ⟨by decide +kernel, rfl⟩
theorem d23_1061 : Dec code 1061 (.dup) 1 1062 := ⟨by decide +kernel, rfl⟩
theorem d23_1062 : Dec code 1062 (.bipush 48) 2 1064 := ⟨by decide +kernel, rfl⟩
theorem d23_1064 : Dec code 1064 (.iload 8) 2 1066 := ⟨by decide +kernel, rfl⟩
theorem d23_1066 : Dec code 1066 (.castore) 1 1067 := ⟨by decide +kernel, rfl⟩
theorem d23_1067 : Dec code 1067 (.dup) 1 1068 := ⟨by decide +kernel, rfl⟩
theorem d23_1068 : Dec code 1068 (.bipush 49) 2 1070 := ⟨by decide +kernel, rfl⟩
theorem d23_1070 : Dec code 1070 (.iload 8) 2 1072 := ⟨by decide +kernel, rfl⟩
theorem d23_1072 : Dec code 1072 (.castore) 1 1073 := ⟨by decide +kernel, rfl⟩
theorem d23_1073 : Dec code 1073 (.dup) 1 1074 := ⟨by decide +kernel, rfl⟩
theorem d23_1074 : Dec code 1074 (.bipush 50) 2 1076 := ⟨by decide +kernel, rfl⟩
theorem d23_1076 : Dec code 1076 (.iload 8) 2 1078 := ⟨by decide +kernel, rfl⟩
theorem d23_1078 : Dec code 1078 (.castore) 1 1079 := ⟨by decide +kernel, rfl⟩
theorem d23_1079 : Dec code 1079 (.dup) 1 1080 := ⟨by decide +kernel, rfl⟩
theorem d23_1080 : Dec code 1080 (.bipush 51) 2 1082 := ⟨by decide +kernel, rfl⟩
theorem d23_1082 : Dec code 1082 (.iload 8) 2 1084 := ⟨by decide +kernel, rfl⟩
theorem d23_1084 : Dec code 1084 (.castore) 1 1085 := ⟨by decide +kernel, rfl⟩
theorem d23_1085 : Dec code 1085 (.dup) 1 1086 := ⟨by decide +kernel, rfl⟩
theorem d23_1086 : Dec code 1086 (.bipush 52) 2 1088 := ⟨by decide +kernel, rfl⟩
theorem d23_1088 : Dec code 1088 (.iload 8) 2 1090 := ⟨by decide +kernel, rfl⟩
theorem d23_1090 : Dec code 1090 (.castore) 1 1091 := ⟨by decide +kernel, rfl⟩
theorem d23_1091 : Dec code 1091 (.dup) 1 1092 := ⟨by decide +kernel, rfl⟩
theorem d23_1092 : Dec code 1092 (.bipush 53) 2 1094 := ⟨by decide +kernel, rfl⟩
theorem d23_1094 : Dec code 1094 (.iload 8) 2 1096 := ⟨by decide +kernel, rfl⟩
theorem d23_1096 : Dec code 1096 (.castore) 1 1097 := ⟨by decide +kernel, rfl⟩
theorem d23_1097 : Dec code 1097 (.dup) 1 1098 := ⟨by decide +kernel, rfl⟩
theorem d23_1098 : Dec code 1098 (.bipush 54) 2 1100 := ⟨by decide +kernel, rfl⟩
theorem d23_1100 : Dec code 1100 (.iload 8) 2 1102 := ⟨by decide +kernel, rfl⟩
theorem d23_1102 : Dec code 1102 (.castore) 1 1103 := ⟨by decide +kernel, rfl⟩
theorem d23_1103 : Dec code 1103 (.dup) 1 1104 := ⟨by decide +kernel, rfl⟩
theorem d23_1104 : Dec code 1104 (.bipush 55) 2 1106 := ⟨by decide +kernel, rfl⟩
theorem d23_1106 : Dec code 1106 (.iload 8) 2 1108 := ⟨by decide +kernel, rfl⟩
theorem d23_1108 : Dec code 1108 (.castore) 1 1109 := ⟨by decide +kernel, rfl⟩
theorem d23_1109 : Dec code 1109 (.dup) 1 1110 := ⟨by decide +kernel, rfl⟩
theorem d23_1110 : Dec code 1110 (.bipush 56) 2 1112 := ⟨by decide +kernel, rfl⟩
theorem d23_1112 : Dec code 1112 (.iload 8) 2 1114 := ⟨by decide +kernel, rfl⟩
theorem d23_1114 : Dec code 1114 (.castore) 1 1115 := ⟨by decide +kernel, rfl⟩
theorem d23_1115 : Dec code 1115 (.dup) 1 1116 := ⟨by decide +kernel, rfl⟩
theorem d23_1116 : Dec code 1116 (.bipush 57) 2 1118 := ⟨by decide +kernel, rfl⟩
theorem d23_1118 : Dec code 1118 (.iload 8) 2 1120 := ⟨by decide +kernel, rfl⟩
theorem d23_1120 : Dec code 1120 (.castore) 1 1121 := ⟨by decide +kernel, rfl⟩
theorem d23_1121 : Dec code 1121 (.dup) 1 1122 := ⟨by decide +kernel, rfl⟩
theorem d23_1122 : Dec code 1122 (.bipush 58) 2 1124 := ⟨by decide +kernel, rfl⟩
theorem d23_1124 : Dec code 1124 (.iload 8) 2 1126 := ⟨by decide +kernel, rfl⟩
theorem d23_1126 : Dec code 1126 (.castore) 1 1127 := ⟨by decide +kernel, rfl⟩
theorem d23_1127 : Dec code 1127 (.dup) 1 1128 := ⟨by decide +kernel, rfl⟩
theorem d23_1128 : Dec code 1128 (.bipush 59) 2 1130 := ⟨by decide +kernel, rfl⟩
theorem d23_1130 : Dec code 1130 (.iload 8) 2 1132 := ⟨by decide +kernel, rfl⟩
theorem d23_1132 : Dec code 1132 (.castore) 1 1133 := ⟨by decide +kernel, rfl⟩
theorem d23_1133 : Dec code 1133 (.dup) 1 1134 := ⟨by decide +kernel, rfl⟩
theorem d23_1134 : Dec code 1134 (.bipush 60) 2 1136 := ⟨by decide +kernel, rfl⟩
theorem d23_1136 : Dec code 1136 (.iload 8) 2 1138 := ⟨by decide +kernel, rfl⟩
theorem d23_1138 : Dec code 1138 (.castore) 1 1139 := ⟨by decide +kernel, rfl⟩
theorem d23_1139 : Dec code 1139 (.dup) 1 1140 := ⟨by decide +kernel, rfl⟩
theorem d23_1140 : Dec code 1140 (.bipush 61) 2 1142 := ⟨by decide +kernel, rfl⟩
theorem d23_1142 : Dec code 1142 (.iload 8) 2 1144 := ⟨by decide +kernel, rfl⟩
theorem d23_1144 : Dec code 1144 (.castore) 1 1145 := ⟨by decide +kernel, rfl⟩
theorem d23_1145 : Dec code 1145 (.dup) 1 1146 := ⟨by decide +kernel, rfl⟩
theorem d23_1146 : Dec code 1146 (.bipush 62) 2 1148 := ⟨by decide +kernel, rfl⟩
theorem d23_1148 : Dec code 1148 (.iload 6) 2 1150 := ⟨by decide +kernel, rfl⟩
theorem d23_1150 : Dec code 1150 (.castore) 1 1151 := ⟨by decide +kernel, rfl⟩
theorem d23_1151 : Dec code 1151 (.dup) 1 1152 := ⟨by decide +kernel, rfl⟩
theorem d23_1152 : Dec code 1152 (.bipush 63) 2 1154 := ⟨by decide +kernel, rfl⟩
theorem d23_1154 : Dec code 1154 (.iload 7) 2 1156 := ⟨by decide +kernel, rfl⟩
theorem d23_1156 : Dec code 1156 (.castore) 1 1157 := ⟨by decide +kernel, rfl⟩
theorem d23_1157 : Dec code 1157 (.astore 10) 2 1159 := ⟨by decide +kernel, rfl⟩
theorem d23_1159 : Dec code 1159 (.iconst 0) 1 1160 := ⟨by decide +kernel, rfl⟩
theorem d23_1160 : Dec code 1160 (.istore 11) 2 1162 := ⟨by decide +kernel, rfl⟩
theorem d23_347 : Dec code 347 (.bipush 63) 2 349 := ⟨by decide +kernel, rfl⟩
theorem d23_349 : Dec code 349 (.newarray .char) 2 351 := ⟨by decide +kernel, rfl⟩
theorem d23_351 : Dec code 351 (.dup) 1 352 := ⟨by decide +kernel, rfl⟩
theorem d23_352 : Dec code 352 (.iconst 0) 1 353 := ⟨by decide +kernel, rfl⟩
theorem d23_353 : Dec code 353 (.iload 4) 2 355 := ⟨by decide +kernel, rfl⟩
theorem d23_355 : Dec code 355 (.castore) 1 356 := ⟨by decide +kernel, rfl⟩
theorem d23_356 : Dec code 356 (.dup) 1 357 := ⟨by decide +kernel, rfl⟩
theorem d23_357 : Dec code 357 (.iconst 1) 1 358 := ⟨by decide +kernel, rfl⟩
theorem d23_358 : Dec code 358 (.iload 5) 2 360 := ⟨by decide +kernel, rfl⟩
theorem d23_360 : Dec code 360 (.castore) 1 361 := ⟨by decide +kernel, rfl⟩
theorem d23_361 : Dec code 361 (.dup) 1 362 := ⟨by decide +kernel, rfl⟩
theorem d23_362 : Dec code 362 (.iconst 2) 1 363 := ⟨by decide +kernel, rfl⟩
theorem d23_363 : Dec code 363 (.iload 8) 2 365 := ⟨by decide +kernel, rfl⟩
theorem d23_365 : Dec code 365 (.castore) 1 366 := ⟨by decide +kernel, rfl⟩
theorem d23_366 : Dec code 366 (.dup) 1 367 := ⟨by decide +kernel, rfl⟩
theorem d23_367 : Dec code 367 (.iconst 3) 1 368 := ⟨by decide +kernel, rfl⟩
theorem d23_368 : Dec code 368 (.iload 8) 2 370 := ⟨by decide +kernel, rfl⟩
theorem d23_370 : Dec code 370 (.castore) 1 371 := ⟨by decide +kernel, rfl⟩
theorem d23_371 : Dec code 371 (.dup) 1 372 := ⟨by decide +kernel, rfl⟩
theorem d23_372 : Dec code 372 (.iconst 4) 1 373 := ⟨by decide +kernel, rfl⟩
theorem d23_373 : Dec code 373 (.iload 8) 2 375 := ⟨by decide +kernel, rfl⟩
theorem d23_375 : Dec code 375 (.castore) 1 376 := ⟨by decide +kernel, rfl⟩
theorem d23_376 : Dec code 376 (.dup) 1 377 := ⟨by decide +kernel, rfl⟩
theorem d23_377 : Dec code 377 (.iconst 5) 1 378 := ⟨by decide +kernel, rfl⟩
theorem d23_378 : Dec code 378 (.iload 8) 2 380 := ⟨by decide +kernel, rfl⟩
theorem d23_380 : Dec code 380 (.castore) 1 381 := ⟨by decide +kernel, rfl⟩
theorem d23_381 : Dec code 381 (.dup) 1 382 := ⟨by decide +kernel, rfl⟩
theorem d23_382 : Dec code 382 (.bipush 6) 2 384 := ⟨by decide +kernel, rfl⟩
theorem d23_384 : Dec code 384 (.iload 8) 2 386 := ⟨by decide +kernel, rfl⟩
theorem d23_386 : Dec code 386 (.castore) 1 387 := ⟨by decide +kernel, rfl⟩
theorem d23_387 : Dec code 387 (.dup) 1 388 := ⟨by decide +kernel, rfl⟩
theorem d23_388 : Dec code 388 (.bipush 7) 2 390 := ⟨by decide +kernel, rfl⟩
theorem d23_390 : Dec code 390 (.iload 8) 2 392 := ⟨by decide +kernel, rfl⟩
theorem d23_392 : Dec code 392 (.castore) 1 393 := ⟨by decide +kernel, rfl⟩
theorem d23_393 : Dec code 393 (.dup) 1 394 := ⟨by decide +kernel, rfl⟩
theorem d23_394 : Dec code 394 (.bipush 8) 2 396 := ⟨by decide +kernel, rfl⟩
theorem d23_396 : Dec code 396 (.iload 8) 2 398 := ⟨by decide +kernel, rfl⟩
theorem d23_398 : Dec code 398 (.castore) 1 399 := ⟨by decide +kernel, rfl⟩
theorem d23_399 : Dec code 399 (.dup) 1 400 := ⟨by decide +kernel, rfl⟩
theorem d23_400 : Dec code 400 (.bipush 9) 2 402 := ⟨by decide +kernel, rfl⟩
theorem d23_402 : Dec code 402 (.iload 8) 2 404 := ⟨by decide +kernel, rfl⟩
theorem d23_404 : Dec code 404 (.castore) 1 405 := ⟨by decide +kernel, rfl⟩
theorem d23_405 : Dec code 405 (.dup) 1 406 := ⟨by decide +kernel, rfl⟩
theorem d23_406 : Dec code 406 (.bipush 10) 2 408 := ⟨by decide +kernel, rfl⟩
theorem d23_408 : Dec code 408 (.iload 8) 2 410 := ⟨by decide +kernel, rfl⟩
theorem d23_410 : Dec code 410 (.castore) 1 411 := ⟨by decide +kernel, rfl⟩
theorem d23_411 : Dec code 411 (.dup) 1 412 := ⟨by decide +kernel, rfl⟩
theorem d23_412 : Dec code 412 (.bipush 11) 2 414 := ⟨by decide +kernel, rfl⟩
theorem d23_414 : Dec code 414 (.iload 8) 2 416 := ⟨by decide +kernel, rfl⟩
theorem d23_416 : Dec code 416 (.castore) 1 417 := ⟨by decide +kernel, rfl⟩
theorem d23_417 : Dec code 417 (.dup) 1 418 := ⟨by decide +kernel, rfl⟩
theorem d23_418 : Dec code 418 (.bipush 12) 2 420 := ⟨by decide +kernel, rfl⟩
theorem d23_420 : Dec code 420 (.iload 8) 2 422 := ⟨by decide +kernel, rfl⟩
theorem d23_422 : Dec code 422 (.castore) 1 423 := ⟨by decide +kernel, rfl⟩
theorem d23_423 : Dec code 423 (.dup) 1 424 := ⟨by decide +kernel, rfl⟩
theorem d23_424 : Dec code 424 (.bipush 13) 2 426 := ⟨by decide +kernel, rfl⟩
theorem d23_426 : Dec code 426 (.iload 8) 2 428 := ⟨by decide +kernel, rfl⟩
theorem d23_428 : Dec code 428 (.castore) 1 429 := ⟨by decide +kernel, rfl⟩
theorem d23_429 : Dec code 429 (.dup) 1 430 := ⟨by decide +kernel, rfl⟩
theorem d23_430 : Dec code 430 (.bipush 14) 2 432 := ⟨by decide +kernel, rfl⟩
theorem d23_432 : Dec code 432 (.iload 8) 2 434 := ⟨by decide +kernel, rfl⟩
theorem d23_434 : Dec code 434 (.castore) 1 435 := ⟨by decide +kernel, rfl⟩
theorem d23_435 : Dec code 435 (.dup) 1 436 := ⟨by decide +kernel, rfl⟩
theorem d23_436 : Dec code 436 (.bipush 15) 2 438 := ⟨by decide +kernel, rfl⟩
theorem d23_438 : Dec code 438 (.iload 8) 2 440 := ⟨by decide +kernel, rfl⟩
theorem d23_440 : Dec code 440 (.castore) 1 441 := ⟨by decide +kernel, rfl⟩
theorem d23_441 : Dec code 441 (.dup) 1 442 := ⟨by decide +kernel, rfl⟩
theorem d23_442 : Dec code 442 (.bipush 16) 2 444 := ⟨by decide +kernel, rfl⟩
theorem d23_444 : Dec code 444 (.iload 8) 2 446 := ⟨by decide +kernel, rfl⟩
theorem d23_446 : Dec code 446 (.castore) 1 447 := ⟨by decide +kernel, rfl⟩
theorem d23_447 : Dec code 447 (.dup) 1 448 := ⟨by decide +kernel, rfl⟩
theorem d23_448 : Dec code 448 (.bipush 17) 2 450 := ⟨by decide +kernel, rfl⟩
theorem d23_450 : Dec code 450 (.iload 8) 2 452 := ⟨by decide +kernel, rfl⟩
theorem d23_452 : Dec code 452 (.castore) 1 453 := ⟨by decide +kernel, rfl⟩
theorem d23_453 : Dec code 453 (.dup) 1 454 := ⟨by decide +kernel, rfl⟩
theorem d23_454 : Dec code 454 (.bipush 18) 2 456 := ⟨by decide +kernel, rfl⟩
theorem d23_456 : Dec code 456 (.iload 8) 2 458 := ⟨by decide +kernel, rfl⟩
theorem d23_458 : Dec code 458 (.castore) 1 459 := ⟨by decide +kernel, rfl⟩
theorem d23_459 : Dec code 459 (.dup) 1 460 := ⟨by decide +kernel, rfl⟩
theorem d23_460 : Dec code 460 (.bipush 19) 2 462 := ⟨by decide +kernel, rfl⟩
theorem d23_462 : Dec code 462 (.iload 8) 2 464 := ⟨by decide +kernel, rfl⟩
theorem d23_464 : Dec code 464 (.castore) 1 465 := ⟨by decide +kernel, rfl⟩
theorem d23_465 : Dec code 465 (.dup) 1 466 := ⟨by decide +kernel, rfl⟩
theorem d23_466 : Dec code 466 (.bipush 20) 2 468 := ⟨by decide +kernel, rfl⟩
theorem d23_468 : Dec code 468 (.iload 8) 2 470 := ⟨by decide +kernel, rfl⟩
theorem d23_470 : Dec code 470 (.castore) 1 471 := ⟨by decide +kernel, rfl⟩
theorem d23_471 : Dec code 471 (.dup) 1 472 := ⟨by decide +kernel, rfl⟩
theorem d23_472 : Dec code 472 (.bipush 21) 2 474 := ⟨by decide +kernel, rfl⟩
theorem d23_474 : Dec code 474 (.iload 8) 2 476 := ⟨by decide +kernel, rfl⟩
theorem d23_476 : Dec code 476 (.castore) 1 477 := ⟨by decide +kernel, rfl⟩
theorem d23_477 : Dec code 477 (.dup) 1 478 := ⟨by decide +kernel, rfl⟩
theorem d23_478 : Dec code 478 (.bipush 22) 2 480 := ⟨by decide +kernel, rfl⟩
theorem d23_480 : Dec code 480 (.iload 8) 2 482 := ⟨by decide +kernel, rfl⟩
theorem d23_482 : Dec code 482 (.castore) 1 483 := ⟨by decide +kernel, rfl⟩
theorem d23_483 : Dec code 483 (.dup) 1 484 := ⟨by decide +kernel, rfl⟩
theorem d23_484 : Dec code 484 (.bipush 23) 2 486 := ⟨by decide +kernel, rfl⟩
theorem d23_486 : Dec code 486 (.iload 8) 2 488 := ⟨by decide +kernel, rfl⟩
theorem d23_488 : Dec code 488 (.castore) 1 489 := ⟨by decide +kernel, rfl⟩
theorem d23_489 : Dec code 489 (.dup) 1 490 := ⟨by decide +kernel, rfl⟩
theorem d23_490 : Dec code 490 (.bipush 24) 2 492 := ⟨by decide +kernel, rfl⟩
theorem d23_492 : Dec code 492 (.iload 8) 2 494 := ⟨by decide +kernel, rfl⟩
theorem d23_494 : Dec code 494 (.castore) 1 495 := ⟨by decide +kernel, rfl⟩
theorem d23_495 : Dec code 495 (.dup) 1 496 := ⟨by decide +kernel, rfl⟩
theorem d23_496 : Dec code 496 (.bipush 25) 2 498 := ⟨by decide +kernel, rfl⟩
theorem d23_498 : Dec code 498 (.iload 8) 2 500 := ⟨by decide +kernel, rfl⟩
theorem d23_500 : Dec code 500 (.castore) 1 501 := ⟨by decide +kernel, rfl⟩
theorem d23_501 : Dec code 501 (.dup) 1 502 := ⟨by decide +kernel, rfl⟩
theorem d23_502 : Dec code 502 (.bipush 26) 2 504 := ⟨by decide +kernel, rfl⟩
theorem d23_504 : Dec code 504 (.iload 8) 2 506 := ⟨by decide +kernel, rfl⟩
theorem d23_506 : Dec code 506 (.castore) 1 507 := ⟨by decide +kernel, rfl⟩
theorem d23_507 : Dec code 507 (.dup) 1 508 := ⟨by decide +kernel, rfl⟩
theorem d23_508 : Dec code 508 (.bipush 27) 2 510 := ⟨by decide +kernel, rfl⟩
theorem d23_510 : Dec code 510 (.iload 8) 2 512 := ⟨by decide +kernel, rfl⟩
theorem d23_512 : Dec code 512 (.castore) 1 513 := ⟨by decide +kernel, rfl⟩
theorem d23_513 : Dec code 513 (.dup) 1 514 := ⟨by decide +kernel, rfl⟩
theorem d23_514 : Dec code 514 (.bipush 28) 2 516 := ⟨by decide +kernel, rfl⟩
theorem d23_516 : Dec code 516 (.iload 8) 2 518 := ⟨by decide +kernel, rfl⟩
theorem d23_518 : Dec code 518 (.castore) 1 519 := ⟨by decide +kernel, rfl⟩
theorem d23_519 : Dec code 519 (.dup) 1 520 := ⟨by decide +kernel, rfl⟩
theorem d23_520 : Dec code 520 (.bipush 29) 2 522 := ⟨by decide +kernel, rfl⟩
theorem d23_522 : Dec code 522 (.iload 8) 2 524 := ⟨by decide +kernel, rfl⟩
theorem d23_524 : Dec code 524 (.castore) 1 525 := ⟨by decide +kernel, rfl⟩
theorem d23_525 : Dec code 525 (.dup) 1 526 := ⟨by decide +kernel, rfl⟩
theorem d23_526 : Dec code 526 (.bipush 30) 2 528 := ⟨by decide +kernel, rfl⟩
theorem d23_528 : Dec code 528 (.iload 8) 2 530 := ⟨by decide +kernel, rfl⟩
theorem d23_530 : Dec code 530 (.castore) 1 531 := ⟨by decide +kernel, rfl⟩
theorem d23_531 : Dec code 531 (.dup) 1 532 := ⟨by decide +kernel, rfl⟩
theorem d23_532 : Dec code 532 (.bipush 31) 2 534 := ⟨by decide +kernel, rfl⟩
theorem d23_534 : Dec code 534 (.iload 8) 2 536 := ⟨by decide +kernel, rfl⟩
theorem d23_536 : Dec code 536 (.castore) 1 537 := ⟨by decide +kernel, rfl⟩
theorem d23_537 : Dec code 537 (.dup) 1 538 := ⟨by decide +kernel, rfl⟩
theorem d23_538 : Dec code 538 (.bipush 32) 2 540 := ⟨by decide +kernel, rfl⟩
theorem d23_540 : Dec code 540 (.iload 8) 2 542 := ⟨by decide +kernel, rfl⟩
theorem d23_542 : Dec code 542 (.castore) 1 543 := ⟨by decide +kernel, rfl⟩
theorem d23_543 : Dec code 543 (.dup) 1 544 := ⟨by decide +kernel, rfl⟩
theorem d23_544 : Dec code 544 (.bipush 33) 2 546 := ⟨by decide +kernel, rfl⟩
theorem d23_546 : Dec code 546 (.iload 8) 2 548 := ⟨by decide +kernel, rfl⟩
theorem d23_548 : Dec code 548 (.castore) 1 549 := ⟨by decide +kernel, rfl⟩
theorem d23_549 : Dec code 549 (.dup) 1 550 := ⟨by decide +kernel, rfl⟩
theorem d23_550 : Dec code 550 (.bipush 34) 2 552 := ⟨by decide +kernel, rfl⟩
theorem d23_552 : Dec code 552 (.iload 8) 2 554 := ⟨by decide +kernel, rfl⟩
theorem d23_554 : Dec code 554 (.castore) 1 555 := ⟨by decide +kernel, rfl⟩
theorem d23_555 : Dec code 555 (.dup) 1 556 := ⟨by decide +kernel, rfl⟩
theorem d23_556 : Dec code 556 (.bipush 35) 2 558 := ⟨by decide +kernel, rfl⟩
theorem d23_558 : Dec code 558 (.iload 8) 2 560 := ⟨by decide +kernel, rfl⟩
theorem d23_560 : Dec code 560 (.castore) 1 561 := ⟨by decide +kernel, rfl⟩
theorem d23_561 : Dec code 561 (.dup) 1 562 := ⟨by decide +kernel, rfl⟩
theorem d23_562 : Dec code 562 (.bipush 36) 2 564 := ⟨by decide +kernel, rfl⟩
theorem d23_564 : Dec code 564 (.iload 8) 2 566 := ⟨by decide +kernel, rfl⟩
theorem d23_566 : Dec code 566 (.castore) 1 567 := ⟨by decide +kernel, rfl⟩
theorem d23_567 : Dec code 567 (.dup) 1 568 := ⟨by decide +kernel, rfl⟩
theorem d23_568 : Dec code 568 (.bipush 37) 2 570 := ⟨by decide +kernel, rfl⟩
theorem d23_570 : Dec code 570 (.iload 8) 2 572 := ⟨by decide +kernel, rfl⟩
theorem d23_572 : Dec code 572 (.castore) 1 573 := ⟨by decide +kernel, rfl⟩
theorem d23_573 : Dec code 573 (.dup) 1 574 := ⟨by decide +kernel, rfl⟩
theorem d23_574 : Dec code 574 (.bipush 38) 2 576 := ⟨by decide +kernel, rfl⟩
theorem d23_576 : Dec code 576 (.iload 8) 2 578 := ⟨by decide +kernel, rfl⟩
theorem d23_578 : Dec code 578 (.castore) 1 579 := ⟨by decide +kernel, rfl⟩
theorem d23_579 : Dec code 579 (.dup) 1 580 := ⟨by decide +kernel, rfl⟩
theorem d23_580 : Dec code 580 (.bipush 39) 2 582 := ⟨by decide +kernel, rfl⟩
theorem d23_582 : Dec code 582 (.iload 8) 2 584 := ⟨by decide +kernel, rfl⟩
theorem d23_584 : Dec code 584 (.castore) 1 585 := ⟨by decide +kernel, rfl⟩
theorem d23_585 : Dec code 585 (.dup) 1 586 := ⟨by decide +kernel, rfl⟩
theorem d23_586 : Dec code 586 (.bipush 40) 2 588 := ⟨by decide +kernel, rfl⟩
theorem d23_588 : Dec code 588 (.iload 8) 2 590 := ⟨by decide +kernel, rfl⟩
theorem d23_590 : Dec code 590 (.castore) 1 591 := ⟨by decide +kernel, rfl⟩
theorem d23_591 : Dec code 591 (.dup) 1 592 := ⟨by decide +kernel, rfl⟩
theorem d23_592 : Dec code 592 (.bipush 41) 2 594 := ⟨by decide +kernel, rfl⟩
theorem d23_594 : Dec code 594 (.iload 8) 2 596 := ⟨by decide +kernel, rfl⟩
theorem d23_596 : Dec code 596 (.castore) 1 597 := ⟨by decide +kernel, rfl⟩
theorem d23_597 : Dec code 597 (.dup) 1 598 := ⟨by decide +kernel, rfl⟩
theorem d23_598 : Dec code 598 (.bipush 42) 2 600 := ⟨by decide +kernel, rfl⟩
theorem d23_600 : Dec code 600 (.iload 8) 2 602 := ⟨by decide +kernel, rfl⟩
theorem d23_602 : Dec code 602 (.castore) 1 603 := ⟨by decide +kernel, rfl⟩
theorem d23_603 : Dec code 603 (.dup) 1 604 := ⟨by decide +kernel, rfl⟩
theorem d23_604 : Dec code 604 (.bipush 43) 2 606 := ⟨by decide +kernel, rfl⟩
theorem d23_606 : Dec code 606 (.iload 8) 2 608 := ⟨by decide +kernel, rfl⟩
theorem d23_608 : Dec code 608 (.castore) 1 609 := ⟨by decide +kernel, rfl⟩
theorem d23_609 : Dec code 609 (.dup) 1 610 := ⟨by decide +kernel, rfl⟩
theorem d23_610 : Dec code 610 (.bipush 44) 2 612 := ⟨by decide +kernel, rfl⟩
theorem d23_612 : Dec code 612 (.iload 8) 2 614 := ⟨by decide +kernel, rfl⟩
theorem d23_614 : Dec code 614 (.castore) 1 615 := ⟨by decide +kernel, rfl⟩
theorem d23_615 : Dec code 615 (.dup) 1 616 := ⟨by decide +kernel, rfl⟩
theorem d23_616 : Dec code 616 (.bipush 45) 2 618 := ⟨by decide +kernel, rfl⟩
theorem d23_618 : Dec code 618 (.iload 8) 2 620 := ⟨by decide +kernel, rfl⟩
theorem d23_620 : Dec code 620 (.castore) 1 621 := ⟨by decide +kernel, rfl⟩
theorem d23_621 : Dec code 621 (.dup) 1 622 := ⟨by decide +kernel, rfl⟩
theorem d23_622 : Dec code 622 (.bipush 46) 2 624 := ⟨by decide +kernel, rfl⟩
theorem d23_624 : Dec code 624 (.iload 8) 2 626 := ⟨by decide +kernel, rfl⟩
theorem d23_626 : Dec code 626 (.castore) 1 627 := ⟨by decide +kernel, rfl⟩
theorem d23_627 : Dec code 627 (.dup) 1 628 := ⟨by decide +kernel, rfl⟩
theorem d23_628 : Dec code 628 (.bipush 47) 2 630 := ⟨by decide +kernel, rfl⟩
theorem d23_630 : Dec code 630 (.iload 8) 2 632 := ⟨by decide +kernel, rfl⟩
theorem d23_632 : Dec code 632 (.castore) 1 633 := ⟨by decide +kernel, rfl⟩
theorem d23_633 : Dec code 633 (.dup) 1 634 := ⟨by decide +kernel, rfl⟩
theorem d23_634 : Dec code 634 (.bipush 48) 2 636 := ⟨by decide +kernel, rfl⟩
theorem d23_636 : Dec code 636 (.iload 8) 2 638 := ⟨by decide +kernel, rfl⟩
theorem d23_638 : Dec code 638 (.castore) 1 639 := ⟨by decide +kernel, rfl⟩
theorem d23_639 : Dec code 639 (.dup) 1 640 := ⟨by decide +kernel, rfl⟩
theorem d23_640 : Dec code 640 (.bipush 49) 2 642 := ⟨by decide +kernel, rfl⟩
theorem d23_642 : Dec code 642 (.iload 8) 2 644 := ⟨by decide +kernel, rfl⟩
theorem d23_644 : Dec code 644 (.castore) 1 645 := ⟨by decide +kernel, rfl⟩
theorem d23_645 : Dec code 645 (.dup) 1 646 := ⟨by decide +kernel, rfl⟩
theorem d23_646 : Dec code 646 (.bipush 50) 2 648 := ⟨by decide +kernel, rfl⟩
theorem d23_648 : Dec code 648 (.iload 8) 2 650 := ⟨by decide +kernel, rfl⟩
theorem d23_650 : Dec code 650 (.castore) 1 651 := ⟨by decide +kernel, rfl⟩
theorem d23_651 : Dec code 651 (.dup) 1 652 := ⟨by decide +kernel, rfl⟩
theorem d23_652 : Dec code 652 (.bipush 51) 2 654 := ⟨by decide +kernel, rfl⟩
theorem d23_654 : Dec code 654 (.iload 8) 2 656 := ⟨by decide +kernel, rfl⟩
theorem d23_656 : Dec code 656 (.castore) 1 657 := ⟨by decide +kernel, rfl⟩
theorem d23_657 : Dec code 657 (.dup) 1 658 := ⟨by decide +kernel, rfl⟩
theorem d23_658 : Dec code 658 (.bipush 52) 2 660 := ⟨by decide +kernel, rfl⟩
theorem d23_660 : Dec code 660 (.iload 8) 2 662 := ⟨by decide +kernel, rfl⟩
theorem d23_662 : Dec code 662 (.castore) 1 663 := ⟨by decide +kernel, rfl⟩
theorem d23_663 : Dec code 663 (.dup) 1 664 := ⟨by decide +kernel, rfl⟩
theorem d23_664 : Dec code 664 (.bipush 53) 2 666 := ⟨by decide +kernel, rfl⟩
theorem d23_666 : Dec code 666 (.iload 8) 2 668 := ⟨by decide +kernel, rfl⟩
theorem d23_668 : Dec code 668 (.castore) 1 669 := ⟨by decide +kernel, rfl⟩
theorem d23_669 : Dec code 669 (.dup) 1 670 := ⟨by decide +kernel, rfl⟩
theorem d23_670 : Dec code 670 (.bipush 54) 2 672 := ⟨by decide +kernel, rfl⟩
theorem d23_672 : Dec code 672 (.iload 8) 2 674 := ⟨by decide +kernel, rfl⟩
theorem d23_674 : Dec code 674 (.castore) 1 675 := ⟨by decide +kernel, rfl⟩
theorem d23_675 : Dec code 675 (.dup) 1 676 := ⟨by decide +kernel, rfl⟩
theorem d23_676 : Dec code 676 (.bipush 55) 2 678 := ⟨by decide +kernel, rfl⟩
theorem d23_678 : Dec code 678 (.iload 8) 2 680 := ⟨by decide +kernel, rfl⟩
theorem d23_680 : Dec code 680 (.castore) 1 681 := ⟨by decide +kernel, rfl⟩
theorem d23_681 : Dec code 681 (.dup) 1 682 := ⟨by decide +kernel, rfl⟩
theorem d23_682 : Dec code 682 (.bipush 56) 2 684 := ⟨by decide +kernel, rfl⟩
theorem d23_684 : Dec code 684 (.iload 8) 2 686 := ⟨by decide +kernel, rfl⟩
theorem d23_686 : Dec code 686 (.castore) 1 687 := ⟨by decide +kernel, rfl⟩
theorem d23_687 : Dec code 687 (.dup) 1 688 := ⟨by decide +kernel, rfl⟩
theorem d23_688 : Dec code 688 (.bipush 57) 2 690 := ⟨by decide +kernel, rfl⟩
theorem d23_690 : Dec code 690 (.iload 8) 2 692 := ⟨by decide +kernel, rfl⟩
theorem d23_692 : Dec code 692 (.castore) 1 693 := ⟨by decide +kernel, rfl⟩
theorem d23_693 : Dec code 693 (.dup) 1 694 := ⟨by decide +kernel, rfl⟩
theorem d23_694 : Dec code 694 (.bipush 58) 2 696 := ⟨by decide +kernel, rfl⟩
theorem d23_696 : Dec code 696 (.iload 8) 2 698 := ⟨by decide +kernel, rfl⟩
theorem d23_698 : Dec code 698 (.castore) 1 699 := ⟨by decide +kernel, rfl⟩
theorem d23_699 : Dec code 699 (.dup) 1 700 := ⟨by decide +kernel, rfl⟩
theorem d23_700 : Dec code 700 (.bipush 59) 2 702 := ⟨by decide +kernel, rfl⟩
theorem d23_702 : Dec code 702 (.iload 8) 2 704 := ⟨by decide +kernel, rfl⟩
theorem d23_704 : Dec code 704 (.castore) 1 705 := ⟨by decide +kernel, rfl⟩
theorem d23_705 : Dec code 705 (.dup) 1 706 := ⟨by decide +kernel, rfl⟩
theorem d23_706 : Dec code 706 (.bipush 60) 2 708 := ⟨by decide +kernel, rfl⟩
theorem d23_708 : Dec code 708 (.iload 8) 2 710 := ⟨by decide +kernel, rfl⟩
theorem d23_710 : Dec code 710 (.castore) 1 711 := ⟨by decide +kernel, rfl⟩
theorem d23_711 : Dec code 711 (.dup) 1 712 := ⟨by decide +kernel, rfl⟩
theorem d23_712 : Dec code 712 (.bipush 61) 2 714 := ⟨by decide +kernel, rfl⟩
theorem d23_714 : Dec code 714 (.iload 6) 2 716 := ⟨by decide +kernel, rfl⟩
theorem d23_716 : Dec code 716 (.castore) 1 717 := ⟨by decide +kernel, rfl⟩
theorem d23_717 : Dec code 717 (.dup) 1 718 := ⟨by decide +kernel, rfl⟩
theorem d23_718 : Dec code 718 (.bipush 62) 2 720 := ⟨by decide +kernel, rfl⟩
theorem d23_720 : Dec code 720 (.iload 7) 2 722 := ⟨by decide +kernel, rfl⟩
theorem d23_722 : Dec code 722 (.castore) 1 723 := ⟨by decide +kernel, rfl⟩
theorem d23_723 : Dec code 723 (.astore 10) 2 725 := ⟨by decide +kernel, rfl⟩
theorem d23_725 : Dec code 725 (.iload 4) 2 727 := ⟨by decide +kernel, rfl⟩
theorem d23_727 : Dec code 727 (.invokestatic 13) 3 730 := ⟨by decide +kernel, rfl⟩
theorem d23_730 : Brn code 730 (.ifCond .eq 39) 39 733 769 := ⟨by decide +kernel, rfl, by decide, by decide⟩
theorem d23_733 : Dec code 733 (.iload 5) 2 735 := ⟨by decide +kernel, rfl⟩
theorem d23_735 : Dec code 735 (.invokestatic 7) 3 738 := ⟨by decide +kernel, rfl⟩
theorem d23_738 : Brn code 738 (.ifCond .eq 31) 31 741 769 := ⟨by decide +kernel, rfl, by decide, by decide⟩
theorem d23_741 : Dec code 741 (.iload 8) 2 743 := ⟨by decide +kernel, rfl⟩
theorem d23_743 : Dec code 743 (.invokestatic 7) 3 746 := ⟨by decide +kernel, rfl⟩
theorem d23_746 : Brn code 746 (.ifCond .eq 23) 23 749 769 := ⟨by decide +kernel, rfl, by decide, by decide⟩
theorem d23_749 : Dec code 749 (.iload 6) 2 751 := ⟨by decide +kernel, rfl⟩
theorem d23_751 : Dec code 751 (.invokestatic 7) 3 754 := ⟨by decide +kernel, rfl⟩
theorem d23_754 : Brn code 754 (.ifCond .eq 15) 15 757 769 := ⟨by decide +kernel, rfl, by decide, by decide⟩
theorem d23_757 : Dec code 757 (.iload 7) 2 759 := ⟨by decide +kernel, rfl⟩
theorem d23_759 : Dec code 759 (.invokestatic 7) 3 762 := ⟨by decide +kernel, rfl⟩
theorem d23_762 : Brn code 762 (.ifCond .eq 7) 7 765 769 := ⟨by decide +kernel, rfl, by decide, by decide⟩
theorem d23_765 : Dec code 765 (.iconst 1) 1 766 := ⟨by decide +kernel, rfl⟩
theorem d23_766 : Brn code 766 (.goto 4) 4 769 770 := ⟨by decide +kernel, rfl, by decide, by decide⟩
theorem d23_770 : Dec code 770 (.istore 11) 2 772 := ⟨by decide +kernel, rfl⟩
theorem d23_772 : Brn code 772 (.goto 390) 390 775 1162 := ⟨by decide +kernel, rfl, by decide, by decide⟩
theorem d23_769 : Dec code 769 (.iconst 0) 1 770 := ⟨by decide +kernel, rfl⟩
theorem d23_260 : Dec code 260 (.iconst 5) 1 261 := ⟨by decide +kernel, rfl⟩
theorem d23_261 : Dec code 261 (.newarray .char) 2 263 := ⟨by decide +kernel, rfl⟩
theorem d23_263 : Dec code 263 (.dup) 1 264 := ⟨by decide +kernel, rfl⟩
theorem d23_264 : Dec code 264 (.iconst 0) 1 265 := ⟨by decide +kernel, rfl⟩
theorem d23_265 : Dec code 265 (.iload 4) 2 267 := ⟨by decide +kernel, rfl⟩
theorem d23_267 : Dec code 267 (.castore) 1 268 := ⟨by decide +kernel, rfl⟩
theorem d23_268 : Dec code 268 (.dup) 1 269 := ⟨by decide +kernel, rfl⟩
theorem d23_269 : Dec code 269 (.iconst 1) 1 270 := ⟨by decide +kernel, rfl⟩
theorem d23_270 : Dec code 270 (.iload 5) 2 272 := ⟨by decide +kernel, rfl⟩
theorem d23_272 : Dec code 272 (.castore) 1 273 := ⟨by decide +kernel, rfl⟩
theorem d23_273 : Dec code 273 (.dup) 1 274 := ⟨by decide +kernel, rfl⟩
theorem d23_274 : Dec code 274 (.iconst 2) 1 275 := ⟨by decide +kernel, rfl⟩
theorem d23_275 : Dec code 275 (.iload 6) 2 277 := ⟨by decide +kernel, rfl⟩
theorem d23_277 : Dec code 277 (.castore) 1 278 := ⟨by decide +kernel, rfl⟩
theorem d23_278 : Dec code 278 (.dup) 1 279 := ⟨by decide +kernel, rfl⟩
theorem d23_279 : Dec code 279 (.iconst 3) 1 280 := ⟨by decide +kernel, rfl⟩
theorem d23_280 : Dec code 280 (.iload 7) 2 282 := ⟨by decide +kernel, rfl⟩
theorem d23_282 : Dec code 282 (.castore) 1 283 := ⟨by decide +kernel, rfl⟩
theorem d23_283 : Dec code 283 (.dup) 1 284 := ⟨by decide +kernel, rfl⟩
theorem d23_284 : Dec code 284 (.iconst 4) 1 285 := ⟨by decide +kernel, rfl⟩
theorem d23_285 : Dec code 285 (.iload 8) 2 287 := ⟨by decide +kernel, rfl⟩
theorem d23_287 : Dec code 287 (.castore) 1 288 := ⟨by decide +kernel, rfl⟩
theorem d23_288 : Dec code 288 (.astore 10) 2 290 := ⟨by decide +kernel, rfl⟩
theorem d23_290 : Dec code 290 (.iload 4) 2 292 := ⟨by decide +kernel, rfl⟩
theorem d23_292 : Dec code 292 (.invokestatic 13) 3 295 := ⟨by decide +kernel, rfl⟩
theorem d23_295 : Brn code 295 (.ifCond .eq 39) 39 298 334 := ⟨by decide +kernel, rfl, by decide, by decide⟩
theorem d23_298 : Dec code 298 (.iload 5) 2 300 := ⟨by decide +kernel, rfl⟩
theorem d23_300 : Dec code 300 (.invokestatic 7) 3 303 := ⟨by decide +kernel, rfl⟩
theorem d23_303 : Brn code 303 (.ifCond .eq 31) 31 306 334 := ⟨by decide +kernel, rfl, by decide, by decide⟩
theorem d23_306 : Dec code 306 (.iload 6) 2 308 := ⟨by decide +kernel, rfl⟩
theorem d23_308 : Dec code 308 (.invokestatic 7) 3 311 := ⟨by decide +kernel, rfl⟩
theorem d23_311 : Brn code 311 (.ifCond .eq 23) 23 314 334 := ⟨by decide +kernel, rfl, by decide, by decide⟩
theorem d23_314 : Dec code 314 (.iload 7) 2 316 := ⟨by decide +kernel, rfl⟩
theorem d23_316 : Dec code 316 (.invokestatic 7) 3 319 := ⟨by decide +kernel, rfl⟩
theorem d23_319 : Brn code 319 (.ifCond .eq 15) 15 322 334 := ⟨by decide +kernel, rfl, by decide, by decide⟩
theorem d23_322 : Dec code 322 (.iload 8) 2 324 := ⟨by decide +kernel, rfl⟩
theorem d23_324 : Dec code 324 (.invokestatic 7) 3 327 := ⟨by decide +kernel, rfl⟩
theorem d23_327 : Brn code 327 (.ifCond .eq 7) 7 330 334 := ⟨by decide +kernel, rfl, by decide, by decide⟩
theorem d23_330 : Dec code 330 (.iconst 1) 1 331 := ⟨by decide +kernel, rfl⟩
theorem d23_331 : Brn code 331 (.goto 4) 4 334 335 := ⟨by decide +kernel, rfl, by decide, by decide⟩
theorem d23_335 : Dec code 335 (.istore 11) 2 337 := ⟨by decide +kernel, rfl⟩
theorem d23_337 : Brn code 337 (.goto 825) 825 340 1162 := ⟨by decide +kernel, rfl, by decide, by decide⟩
theorem d23_334 : Dec code 334 (.iconst 0) 1 335 := ⟨by decide +kernel, rfl⟩
theorem d23_187 : Dec code 187 (.iconst 4) 1 188 := ⟨by decide +kernel, rfl⟩
theorem d23_188 : Dec code 188 (.newarray .char) 2 190 := ⟨by decide +kernel, rfl⟩
theorem d23_190 : Dec code 190 (.dup) 1 191 := ⟨by decide +kernel, rfl⟩
theorem d23_191 : Dec code 191 (.iconst 0) 1 192 := ⟨by decide +kernel, rfl⟩
theorem d23_192 : Dec code 192 (.iload 4) 2 194 := ⟨by decide +kernel, rfl⟩
theorem d23_194 : Dec code 194 (.castore) 1 195 := ⟨by decide +kernel, rfl⟩
theorem d23_195 : Dec code 195 (.dup) 1 196 := ⟨by decide +kernel, rfl⟩
theorem d23_196 : Dec code 196 (.iconst 1) 1 197 := ⟨by decide +kernel, rfl⟩
theorem d23_197 : Dec code 197 (.iload 5) 2 199 := ⟨by decide +kernel, rfl⟩
theorem d23_199 : Dec code 199 (.castore) 1 200 := ⟨by decide +kernel, rfl⟩
theorem d23_200 : Dec code 200 (.dup) 1 201 := ⟨by decide +kernel, rfl⟩
theorem d23_201 : Dec code 201 (.iconst 2) 1 202 := ⟨by decide +kernel, rfl⟩
theorem d23_202 : Dec code 202 (.iload 6) 2 204 := ⟨by decide +kernel, rfl⟩
theorem d23_204 : Dec code 204 (.castore) 1 205 := ⟨by decide +kernel, rfl⟩
theorem d23_205 : Dec code 205 (.dup) 1 206 := ⟨by decide +kernel, rfl⟩
theorem d23_206 : Dec code 206 (.iconst 3) 1 207 := ⟨by decide +kernel, rfl⟩
theorem d23_207 : Dec code 207 (.iload 7) 2 209 := ⟨by decide +kernel, rfl⟩
theorem d23_209 : Dec code 209 (.castore) 1 210 := ⟨by decide +kernel, rfl⟩
theorem d23_210 : Dec code 210 (.astore 10) 2 212 := ⟨by decide +kernel, rfl⟩
theorem d23_212 : Dec code 212 (.iload 4) 2 214 := ⟨by decide +kernel, rfl⟩
theorem d23_214 : Dec code 214 (.invokestatic 13) 3 217 := ⟨by decide +kernel, rfl⟩
theorem d23_217 : Brn code 217 (.ifCond .eq 31) 31 220 248 := ⟨by decide +kernel, rfl, by decide, by decide⟩
theorem d23_220 : Dec code 220 (.iload 5) 2 222 := ⟨by decide +kernel, rfl⟩
theorem d23_222 : Dec code 222 (.invokestatic 7) 3 225 := ⟨by decide +kernel, rfl⟩
theorem d23_225 : Brn code 225 (.ifCond .eq 23) 23 228 248 := ⟨by decide +kernel, rfl, by decide, by decide⟩
theorem d23_228 : Dec code 228 (.iload 6) 2 230 := ⟨by decide +kernel, rfl⟩
theorem d23_230 : Dec code 230 (.invokestatic 7) 3 233 := ⟨by decide +kernel, rfl⟩
theorem d23_233 : Brn code 233 (.ifCond .eq 15) 15 236 248 := ⟨by decide +kernel, rfl, by decide, by decide⟩
theorem d23_236 : Dec code 236 (.iload 7) 2 238 := ⟨by decide +kernel, rfl⟩
theorem d23_238 : Dec code 238 (.invokestatic 7) 3 241 := ⟨by decide +kernel, rfl⟩
theorem d23_241 : Brn code 241 (.ifCond .eq 7) 7 244 248 := ⟨by decide +kernel, rfl, by decide, by decide⟩
theorem d23_244 : Dec code 244 (.iconst 1) 1 245 := ⟨by decide +kernel, rfl⟩
theorem d23_245 : Brn code 245 (.goto 4) 4 248 249 := ⟨by decide +kernel, rfl, by decide, by decide⟩
theorem d23_249 : Dec code 249 (.istore 11) 2 251 := ⟨by decide +kernel, rfl⟩
theorem d23_251 : Brn code 251 (.goto 911) 911 254 1162 := ⟨by decide +kernel, rfl, by decide, by decide⟩
theorem d23_248 : Dec code 248 (.iconst 0) 1 249 := ⟨by decide +kernel, rfl⟩
theorem d23_127 : Dec code 127 (.iconst 3) 1 128 := ⟨by decide +kernel, rfl⟩
theorem d23_128 : Dec code 128 (.newarray .char) 2 130 := ⟨by decide +kernel, rfl⟩
theorem d23_130 : Dec code 130 (.dup) 1 131 := ⟨by decide +kernel, rfl⟩
theorem d23_131 : Dec code 131 (.iconst 0) 1 132 := ⟨by decide +kernel, rfl⟩
theorem d23_132 : Dec code 132 (.iload 4) 2 134 := ⟨by decide +kernel, rfl⟩
theorem d23_134 : Dec code 134 (.castore) 1 135 := ⟨by decide +kernel, rfl⟩
theorem d23_135 : Dec code 135 (.dup) 1 136 := ⟨by decide +kernel, rfl⟩
theorem d23_136 : Dec code 136 (.iconst 1) 1 137 := ⟨by decide +kernel, rfl⟩
theorem d23_137 : Dec code 137 (.iload 5) 2 139 := ⟨by decide +kernel, rfl⟩
theorem d23_139 : Dec code 139 (.castore) 1 140 := ⟨by decide +kernel, rfl⟩
theorem d23_140 : Dec code 140 (.dup) 1 141 := ⟨by decide +kernel, rfl⟩
theorem d23_141 : Dec code 141 (.iconst 2) 1 142 := ⟨by decide +kernel, rfl⟩
theorem d23_142 : Dec code 142 (.iload 6) 2 144 := ⟨by decide +kernel, rfl⟩
theorem d23_144 : Dec code 144 (.castore) 1 145 := ⟨by decide +kernel, rfl⟩
theorem d23_145 : Dec code 145 (.astore 10) 2 147 := ⟨by decide +kernel, rfl⟩
theorem d23_147 : Dec code 147 (.iload 4) 2 149 := ⟨by decide +kernel, rfl⟩
theorem d23_149 : Dec code 149 (.invokestatic 13) 3 152 := ⟨by decide +kernel, rfl⟩
theorem d23_152 : Brn code 152 (.ifCond .eq 23) 23 155 175 := ⟨by decide +kernel, rfl, by decide, by decide⟩
theorem d23_155 : Dec code 155 (.iload 5) 2 157 := ⟨by decide +kernel, rfl⟩
theorem d23_157 : Dec code 157 (.invokestatic 7) 3 160 := ⟨by decide +kernel, rfl⟩
theorem d23_160 : Brn code 160 (.ifCond .eq 15) 15 163 175 := ⟨by decide +kernel, rfl, by decide, by decide⟩
theorem d23_163 : Dec code 163 (.iload 6) 2 165 := ⟨by decide +kernel, rfl⟩
theorem d23_165 : Dec code 165 (.invokestatic 7) 3 168 := ⟨by decide +kernel, rfl⟩
theorem d23_168 : Brn code 168 (.ifCond .eq 7) 7 171 175 := ⟨by decide +kernel, rfl, by decide, by decide⟩
theorem d23_171 : Dec code 171 (.iconst 1) 1 172 := ⟨by decide +kernel, rfl⟩
theorem d23_172 : Brn code 172 (.goto 4) 4 175 176 := ⟨by decide +kernel, rfl, by decide, by decide⟩
theorem d23_176 : Dec code 176 (.istore 11) 2 178 := ⟨by decide +kernel, rfl⟩
theorem d23_178 : Brn code 178 (.goto 984) 984 181 1162 := ⟨by decide +kernel, rfl, by decide, by decide⟩
theorem d23_175 : Dec code 175 (.iconst 0) 1 176 := ⟨by decide +kernel, rfl⟩
theorem d23_80 : Dec code 80 (.iconst 2) 1 81 := ⟨by decide +kernel, rfl⟩
theorem d23_81 : Dec code 81 (.newarray .char) 2 83 := ⟨by decide +kernel, rfl⟩
theorem d23_83 : Dec code 83 (.dup) 1 84 := ⟨by decide +kernel, rfl⟩
theorem d23_84 : Dec code 84 (.iconst 0) 1 85 := ⟨by decide +kernel, rfl⟩
theorem d23_85 : Dec code 85 (.iload 4) 2 87 := ⟨by decide +kernel, rfl⟩
theorem d23_87 : Dec code 87 (.castore) 1 88 := ⟨by decide +kernel, rfl⟩
theorem d23_88 : Dec code 88 (.dup) 1 89 := ⟨by decide +kernel, rfl⟩
theorem d23_89 : Dec code 89 (.iconst 1) 1 90 := ⟨by decide +kernel, rfl⟩
theorem d23_90 : Dec code 90 (.iload 5) 2 92 := ⟨by decide +kernel, rfl⟩
theorem d23_92 : Dec code 92 (.castore) 1 93 := ⟨by decide +kernel, rfl⟩
theorem d23_93 : Dec code 93 (.astore 10) 2 95 := ⟨by decide +kernel, rfl⟩
theorem d23_95 : Dec code 95 (.iload 4) 2 97 := ⟨by decide +kernel, rfl⟩
theorem d23_97 : Dec code 97 (.invokestatic 13) 3 100 := ⟨by decide +kernel, rfl⟩
theorem d23_100 : Brn code 100 (.ifCond .eq 15) 15 103 115 := ⟨by decide +kernel, rfl, by decide, by decide⟩
theorem d23_103 : Dec code 103 (.iload 5) 2 105 := ⟨by decide +kernel, rfl⟩
theorem d23_105 : Dec code 105 (.invokestatic 7) 3 108 := ⟨by decide +kernel, rfl⟩
theorem d23_108 : Brn code 108 (.ifCond .eq 7) 7 111 115 := ⟨by decide +kernel, rfl, by decide, by decide⟩
theorem d23_111 : Dec code 111 (.iconst 1) 1 112 := ⟨by decide +kernel, rfl⟩
theorem d23_112 : Brn code 112 (.goto 4) 4 115 116 := ⟨by decide +kernel, rfl, by decide, by decide⟩
theorem d23_116 : Dec code 116 (.istore 11) 2 118 := ⟨by decide +kernel, rfl⟩
theorem d23_118 : Brn code 118 (.goto 1044) 1044 121 1162 := ⟨by decide +kernel, rfl, by decide, by decide⟩
theorem d23_115 : Dec code 115 (.iconst 0) 1 116 := ⟨by decide +kernel, rfl⟩
theorem d23_54 : Dec code 54 (.iconst 1) 1 55 := ⟨by decide +kernel, rfl⟩
theorem d23_55 : Dec code 55 (.newarray .char) 2 57 := ⟨by decide +kernel, rfl⟩
theorem d23_57 : Dec code 57 (.dup) 1 58 := ⟨by decide +kernel, rfl⟩
theorem d23_58 : Dec code 58 (.iconst 0) 1 59 := ⟨by decide +kernel, rfl⟩
theorem d23_59 : Dec code 59 (.iload 4) 2 61 := ⟨by decide +kernel, rfl⟩
theorem d23_61 : Dec code 61 (.castore) 1 62 := ⟨by decide +kernel, rfl⟩
theorem d23_62 : Dec code 62 (.astore 10) 2 64 := ⟨by decide +kernel, rfl⟩
theorem d23_64 : Dec code 64 (.iload 4) 2 66 := ⟨by decide +kernel, rfl⟩
theorem d23_66 : Dec code 66 (.invokestatic 13) 3 69 := ⟨by decide +kernel, rfl⟩
theorem d23_69 : Dec code 69 (.istore 11) 2 71 := ⟨by decide +kernel, rfl⟩
theorem d23_71 : Brn code 71 (.goto 1091) 1091 74 1162 := ⟨by decide +kernel, rfl, by decide, by decide⟩
theorem d23_37 : Dec code 37 (.iconst 0) 1 38 := ⟨by decide +kernel, rfl⟩
theorem d23_38 : Dec code 38 (.newarray .char) 2 40 := ⟨by decide +kernel, rfl⟩
theorem d23_40 : Dec code 40 (.astore 10) 2 42 := ⟨by decide +kernel, rfl⟩
theorem d23_42 : Dec code 42 (.iconst 0) 1 43 := ⟨by decide +kernel, rfl⟩
theorem d23_43 : Dec code 43 (.istore 11) 2 45 := ⟨by decide +kernel, rfl⟩
theorem d23_45 : Brn code 45 (.goto 1117) 1117 48 1162 := ⟨by decide +kernel, rfl, by decide, by decide⟩
set_option maxRecDepth 65536 in
set_option maxHeartbeats 40000000 in
theorem c_law (l : Launch) (Z : State) (a0 : Array Value) (hw : ∀ d ∈ tables_1, d.before a0 Z = true) (hEL : EW Z a0 own_EL) (p0 p1 p2 p3 : Int32) (zc : Int32) (Oc : Sta Z Z.heap "java/lang/String" "COMPACT_STRINGS" "Z" (.int zc)) (Pc : ¬ zc = 0) (sf : Value) (rsf : sf.isRef = true) (Os : Sta Z Z.heap "jdk/internal/util/Preconditions" "SIOOBE_FORMATTER" "Ljava/util/function/BiFunction;" sf) (Oa : Sta Z Z.heap "java/lang/StringUTF16" "$assertionsDisabled" "Z" (.int (1 : Int32))) (Oh : Sta Z Z.heap "java/lang/StringUTF16" "HI_BYTE_SHIFT" "I" (.int (0 : Int32))) (Ol : Sta Z Z.heap "java/lang/StringUTF16" "LO_BYTE_SHIFT" "I" (.int (8 : Int32))) :
    Con l Z own_EL tables_1 x code maxLocals ret room_1 #[.int p0, .int p1, .int p2, .int p3] (fun _ => False) Z.heap (fun S' v h' => v = some (.int (1 : Int32))) := by
  refine con_of_go (ls := #[.val (.int p0), .val (.int p1), .val (.int p2), .val (.int p3), .unset, .unset, .unset, .unset, .unset, .unset, .unset, .unset]) (plainFor_of_name pn4) hEL (fun m => by first | rfl | (simp [entryFrame, mkF, argsToLocals, cat_int, cat_ref, cat_null, cat_long, maxLocals]; done)) (fun K => ?_)
  show Go _ _ _ _ _ _ _ _ _ _ _ _ _ 24 1664 _ _ _
  obtain ⟨a, ea, ha⟩ := own_ch p1
  obtain ⟨b, eb, hb⟩ := own_ch (XT.ushr p1 (16 : Int32))
  obtain ⟨y, ey, hy⟩ := own_ch p2
  obtain ⟨z, ez, hz⟩ := own_ch (XT.ushr p2 (16 : Int32))
  obtain ⟨f, ef, hf⟩ := own_ch p3
  have tail : ∀ (kv : Int32) (ar : Addr) (cs : List Int32) (ex : Int32) (S1 : Addr → Prop) (h1 : Heap), Z.heap.size ≤ h1.size → AI Z h1 ar .char cs → cs.length ≤ 64 → ((own_id cs ∧ ex = 1) ∨ (¬ own_id cs ∧ ex = 0)) → Go l Z a0 own_EL room_1 x.cls code maxLocals ret x.name (fun _ => False) (fun S' v h' => v = some (.int (1 : Int32))) K 5 196 S1 h1 (mkF K.m 1162 #[.val (.int p0), .val (.int p1), .val (.int p2), .val (.int p3), .val (.int a), .val (.int b), .val (.int y), .val (.int z), .val (.int f), .val (.int kv), .val (.ref ar), .val (.int ex)] []) := by
    intro kv ar cs ex S1 h1 zz A hl hex
    have la := lt_nat A.lt
    refine go_new (kc := 4) (ks := 192) (hw _ (List.mem_of_getElem? (i := 1) rfl)) (hw _ (List.mem_of_getElem? (i := 2) rfl)) (hw _ (List.mem_of_getElem? (i := 3) rfl)) d23_1162 (fun S1001 h1001 a1001 e1001 m1001 s1001 x1001 l1001 p1001 => ?_)
    have z1001 := x1001.1
    refine go_dup d23_1165 rfl ?_
    refine go_aload d23_1166 rfl rfl ?_
    have f1002 := (A.ext x1001)
    refine go_special (R := room_1) (kc := 0) (ks := 0) [.ref ar] [.ref a1001] (c_ini1U l Z a0 hw hEL ar cs S1001 h1001 (by omega) a1001 p1001.1 _ _ (p1001.2 (Or.inr (hw _ (List.mem_of_getElem? (i := 16) rfl))) (ty := (.array .byte)) (by decide)) (p1001.2 (Or.inr (hw _ (List.mem_of_getElem? (i := 17) rfl))) (ty := .byte) (by decide)) (by omega) s1001 f1002 hl zc Oc Pc Oa Oh Ol) (hw _ (List.mem_of_getElem? (i := 4) rfl)) (hw _ (List.mem_of_getElem? (i := 5) rfl)) (hw _ (List.mem_of_getElem? (i := 6) rfl)) (hw _ (List.mem_of_getElem? (i := 3) rfl)) rfl (by decide) rfl rfl (lenOf pd17 rfl) d23_1168 (by rfl) (by decide) (Nat.le_of_ble_eq_true rfl) (rc := 4) (rs := 192) rfl rfl (fun S1003 v1003 h1003 m1003 z1003 q1003 => ?_)
    obtain ⟨rfl, K1003, b1003, k1003, T1003, g1003, n1003⟩ := q1003
    have lb1003 := lt_nat T1003.lb
    have lx1003 := lt_nat T1003.lx
    show Go _ _ _ _ _ _ _ _ _ _ _ _ _ _ _ _ _ (mkF K.m 1171 #[.val (.int p0), .val (.int p1), .val (.int p2), .val (.int p3), .val (.int a), .val (.int b), .val (.int y), .val (.int z), .val (.int f), .val (.int kv), .val (.ref ar), .val (.int ex)] [.ref a1001])
    refine go_static (R := room_1) (kc := 0) (ks := 0) [.ref a1001] [] (c_isid l Z a0 hw hEL a1001 _ _ _ S1003 h1003 T1003 zc Oc Pc sf rsf Os Oa Oh Ol) (hw _ (List.mem_of_getElem? (i := 22) rfl)) (hw _ (List.mem_of_getElem? (i := 23) rfl)) (hw _ (List.mem_of_getElem? (i := 25) rfl)) (hw _ (List.mem_of_getElem? (i := 24) rfl)) (by decide) rfl rfl (lenOf pd18 rfl) d23_1171 (by rfl) (by decide) (Nat.le_of_ble_eq_true rfl) (rc := 0) (rs := 0) rfl rfl (fun S1004 v1004 h1004 m1004 z1004 q1004 => ?_)
    rcases q1004 with ⟨p1004, rfl, rfl⟩ | ⟨p1004, rfl, rfl⟩
    · show Go _ _ _ _ _ _ _ _ _ _ _ _ _ _ _ _ _ (mkF K.m 1174 #[.val (.int p0), .val (.int p1), .val (.int p2), .val (.int p3), .val (.int a), .val (.int b), .val (.int y), .val (.int z), .val (.int f), .val (.int kv), .val (.ref ar), .val (.int ex)] [.int (1 : Int32)])
      refine go_iload d23_1174 rfl ?_
      refine go_icmpne d23_1176 (fun c1005 => absurd ((hex.resolve_right (fun q => q.1 p1004)).2.symm) c1005) (fun c1005 => ?_)
      refine go_iconst (x := (1 : Int32)) d23_1179 (by decide) ?_
      refine go_goto d23_1180 ?_
      exact go_ireturn (ty := .boolean) (v := (1 : Int32)) d23_1184 rfl (by simp) rfl rfl
    · show Go _ _ _ _ _ _ _ _ _ _ _ _ _ _ _ _ _ (mkF K.m 1174 #[.val (.int p0), .val (.int p1), .val (.int p2), .val (.int p3), .val (.int a), .val (.int b), .val (.int y), .val (.int z), .val (.int f), .val (.int kv), .val (.ref ar), .val (.int ex)] [.int (0 : Int32)])
      refine go_iload d23_1174 rfl ?_
      refine go_icmpne d23_1176 (fun c1006 => absurd ((hex.resolve_left (fun q => p1004 q.1)).2.symm) c1006) (fun c1006 => ?_)
      refine go_iconst (x := (1 : Int32)) d23_1179 (by decide) ?_
      refine go_goto d23_1180 ?_
      exact go_ireturn (ty := .boolean) (v := (1 : Int32)) d23_1184 rfl (by simp) rfl rfl
  refine go_iloadN d23_0 rfl ?_
  refine go_i2c (v := a) d23_1 ea ?_
  refine go_istore d23_2 (l' := #[.val (.int p0), .val (.int p1), .val (.int p2), .val (.int p3), .val (.int a), .unset, .unset, .unset, .unset, .unset, .unset, .unset]) rfl ?_
  refine go_iloadN d23_4 rfl ?_
  refine go_bipush (x := (16 : Int32)) d23_5 (by decide) ?_
  refine go_iushr d23_7 rfl ?_
  refine go_i2c (v := b) d23_8 eb ?_
  refine go_istore d23_9 (l' := #[.val (.int p0), .val (.int p1), .val (.int p2), .val (.int p3), .val (.int a), .val (.int b), .unset, .unset, .unset, .unset, .unset, .unset]) rfl ?_
  refine go_iloadN d23_11 rfl ?_
  refine go_i2c (v := y) d23_12 ey ?_
  refine go_istore d23_13 (l' := #[.val (.int p0), .val (.int p1), .val (.int p2), .val (.int p3), .val (.int a), .val (.int b), .val (.int y), .unset, .unset, .unset, .unset, .unset]) rfl ?_
  refine go_iloadN d23_15 rfl ?_
  refine go_bipush (x := (16 : Int32)) d23_16 (by decide) ?_
  refine go_iushr d23_18 rfl ?_
  refine go_i2c (v := z) d23_19 ez ?_
  refine go_istore d23_20 (l' := #[.val (.int p0), .val (.int p1), .val (.int p2), .val (.int p3), .val (.int a), .val (.int b), .val (.int y), .val (.int z), .unset, .unset, .unset, .unset]) rfl ?_
  refine go_iloadN d23_22 rfl ?_
  refine go_i2c (v := f) d23_23 ef ?_
  refine go_istore d23_24 (l' := #[.val (.int p0), .val (.int p1), .val (.int p2), .val (.int p3), .val (.int a), .val (.int b), .val (.int y), .val (.int z), .val (.int f), .unset, .unset, .unset]) rfl ?_
  refine go_iloadN d23_26 rfl ?_
  refine go_bipush (x := (7 : Int32)) d23_27 (by decide) ?_
  refine go_iand d23_29 rfl ?_
  refine go_istore d23_30 (l' := #[.val (.int p0), .val (.int p1), .val (.int p2), .val (.int p3), .val (.int a), .val (.int b), .val (.int y), .val (.int z), .val (.int f), .val (.int (p0 &&& (7 : Int32))), .unset, .unset]) rfl ?_
  refine go_iload d23_32 rfl ?_
  refine go_ifne d23_34 (fun k34 => ?_) (fun k34 => ?_)
  · refine go_iload d23_48 rfl ?_
    refine go_iconst (x := (1 : Int32)) d23_50 (by decide) ?_
    refine go_icmpne d23_51 (fun k51 => ?_) (fun k51 => ?_)
    · refine go_iload d23_74 rfl ?_
      refine go_iconst (x := (2 : Int32)) d23_76 (by decide) ?_
      refine go_icmpne d23_77 (fun k77 => ?_) (fun k77 => ?_)
      · refine go_iload d23_121 rfl ?_
        refine go_iconst (x := (3 : Int32)) d23_123 (by decide) ?_
        refine go_icmpne d23_124 (fun k124 => ?_) (fun k124 => ?_)
        · refine go_iload d23_181 rfl ?_
          refine go_iconst (x := (4 : Int32)) d23_183 (by decide) ?_
          refine go_icmpne d23_184 (fun k184 => ?_) (fun k184 => ?_)
          · refine go_iload d23_254 rfl ?_
            refine go_iconst (x := (5 : Int32)) d23_256 (by decide) ?_
            refine go_icmpne d23_257 (fun k257 => ?_) (fun k257 => ?_)
            · refine go_iload d23_340 rfl ?_
              refine go_bipush (x := (6 : Int32)) d23_342 (by decide) ?_
              refine go_icmpne d23_344 (fun k344 => ?_) (fun k344 => ?_)
              · refine go_bipush (x := (64 : Int32)) d23_775 (by decide) ?_
                obtain ⟨cs64, ecs64⟩ : ∃ q, q = ([a, b, f, f, f, f, f, f, f, f, f, f, f, f, f, f, f, f, f, f, f, f, f, f, f, f, f, f, f, f, f, f, f, f, f, f, f, f, f, f, f, f, f, f, f, f, f, f, f, f, f, f, f, f, f, f, f, f, f, f, f, f, y, z] : List Int32) := ⟨_, rfl⟩
                have hl64 : cs64.length = 64 := by rw [ecs64]; rfl
                refine go_newarr (kc := 23) (ks := 1600) (N := 64) (cap := 64) (hw _ (List.mem_of_getElem? (i := 0) rfl)) rfl (Nat.le_refl _) (by decide) rfl rfl d23_777 (fun S1007 h1007 a1007 e1007 m1007 s1007 x1007 l1007 A1007 => ?_)
                have z1007 := x1007.1
                have A1007 : AI Z h1007 a1007 .char (List.replicate 64 0) := A1007
                have A1008 : AI Z h1007 a1007 .char (cs64.take 0 ++ List.replicate (64 - 0) 0) := A1007
                refine go_dup d23_779 rfl ?_
                refine go_iconst (x := (0 : Int32)) d23_780 (by decide) ?_
                refine go_iload d23_781 rfl ?_
                refine go_castore (v := a) A1008 (by omega) (i := 0) rfl (by rw [take_len hl64 (by decide)]; decide) (nar_ch ha) d23_783 (fun h1009 K1009 A1009 => ?_)
                have z1009 := K1009.1
                have A1009 : AI Z h1009 a1007 .char (cs64.take (0 + 1) ++ List.replicate (64 - (0 + 1)) 0) := set_take (i := 0) (c := a) hl64 (by rw [ecs64]; rfl) ▸ A1009
                refine go_dup d23_784 rfl ?_
                refine go_iconst (x := (1 : Int32)) d23_785 (by decide) ?_
                refine go_iload d23_786 rfl ?_
                refine go_castore (v := b) A1009 (by omega) (i := 1) rfl (by rw [take_len hl64 (by decide)]; decide) (nar_ch hb) d23_788 (fun h1010 K1010 A1010 => ?_)
                have z1010 := K1010.1
                have A1010 : AI Z h1010 a1007 .char (cs64.take (1 + 1) ++ List.replicate (64 - (1 + 1)) 0) := set_take (i := 1) (c := b) hl64 (by rw [ecs64]; rfl) ▸ A1010
                refine go_dup d23_789 rfl ?_
                refine go_iconst (x := (2 : Int32)) d23_790 (by decide) ?_
                refine go_iload d23_791 rfl ?_
                refine go_castore (v := f) A1010 (by omega) (i := 2) rfl (by rw [take_len hl64 (by decide)]; decide) (nar_ch hf) d23_793 (fun h1011 K1011 A1011 => ?_)
                have z1011 := K1011.1
                have A1011 : AI Z h1011 a1007 .char (cs64.take (2 + 1) ++ List.replicate (64 - (2 + 1)) 0) := set_take (i := 2) (c := f) hl64 (by rw [ecs64]; rfl) ▸ A1011
                refine go_dup d23_794 rfl ?_
                refine go_iconst (x := (3 : Int32)) d23_795 (by decide) ?_
                refine go_iload d23_796 rfl ?_
                refine go_castore (v := f) A1011 (by omega) (i := 3) rfl (by rw [take_len hl64 (by decide)]; decide) (nar_ch hf) d23_798 (fun h1012 K1012 A1012 => ?_)
                have z1012 := K1012.1
                have A1012 : AI Z h1012 a1007 .char (cs64.take (3 + 1) ++ List.replicate (64 - (3 + 1)) 0) := set_take (i := 3) (c := f) hl64 (by rw [ecs64]; rfl) ▸ A1012
                refine go_dup d23_799 rfl ?_
                refine go_iconst (x := (4 : Int32)) d23_800 (by decide) ?_
                refine go_iload d23_801 rfl ?_
                refine go_castore (v := f) A1012 (by omega) (i := 4) rfl (by rw [take_len hl64 (by decide)]; decide) (nar_ch hf) d23_803 (fun h1013 K1013 A1013 => ?_)
                have z1013 := K1013.1
                have A1013 : AI Z h1013 a1007 .char (cs64.take (4 + 1) ++ List.replicate (64 - (4 + 1)) 0) := set_take (i := 4) (c := f) hl64 (by rw [ecs64]; rfl) ▸ A1013
                refine go_dup d23_804 rfl ?_
                refine go_iconst (x := (5 : Int32)) d23_805 (by decide) ?_
                refine go_iload d23_806 rfl ?_
                refine go_castore (v := f) A1013 (by omega) (i := 5) rfl (by rw [take_len hl64 (by decide)]; decide) (nar_ch hf) d23_808 (fun h1014 K1014 A1014 => ?_)
                have z1014 := K1014.1
                have A1014 : AI Z h1014 a1007 .char (cs64.take (5 + 1) ++ List.replicate (64 - (5 + 1)) 0) := set_take (i := 5) (c := f) hl64 (by rw [ecs64]; rfl) ▸ A1014
                refine go_dup d23_809 rfl ?_
                refine go_bipush (x := (6 : Int32)) d23_810 (by decide) ?_
                refine go_iload d23_812 rfl ?_
                refine go_castore (v := f) A1014 (by omega) (i := 6) rfl (by rw [take_len hl64 (by decide)]; decide) (nar_ch hf) d23_814 (fun h1015 K1015 A1015 => ?_)
                have z1015 := K1015.1
                have A1015 : AI Z h1015 a1007 .char (cs64.take (6 + 1) ++ List.replicate (64 - (6 + 1)) 0) := set_take (i := 6) (c := f) hl64 (by rw [ecs64]; rfl) ▸ A1015
                refine go_dup d23_815 rfl ?_
                refine go_bipush (x := (7 : Int32)) d23_816 (by decide) ?_
                refine go_iload d23_818 rfl ?_
                refine go_castore (v := f) A1015 (by omega) (i := 7) rfl (by rw [take_len hl64 (by decide)]; decide) (nar_ch hf) d23_820 (fun h1016 K1016 A1016 => ?_)
                have z1016 := K1016.1
                have A1016 : AI Z h1016 a1007 .char (cs64.take (7 + 1) ++ List.replicate (64 - (7 + 1)) 0) := set_take (i := 7) (c := f) hl64 (by rw [ecs64]; rfl) ▸ A1016
                refine go_dup d23_821 rfl ?_
                refine go_bipush (x := (8 : Int32)) d23_822 (by decide) ?_
                refine go_iload d23_824 rfl ?_
                refine go_castore (v := f) A1016 (by omega) (i := 8) rfl (by rw [take_len hl64 (by decide)]; decide) (nar_ch hf) d23_826 (fun h1017 K1017 A1017 => ?_)
                have z1017 := K1017.1
                have A1017 : AI Z h1017 a1007 .char (cs64.take (8 + 1) ++ List.replicate (64 - (8 + 1)) 0) := set_take (i := 8) (c := f) hl64 (by rw [ecs64]; rfl) ▸ A1017
                refine go_dup d23_827 rfl ?_
                refine go_bipush (x := (9 : Int32)) d23_828 (by decide) ?_
                refine go_iload d23_830 rfl ?_
                refine go_castore (v := f) A1017 (by omega) (i := 9) rfl (by rw [take_len hl64 (by decide)]; decide) (nar_ch hf) d23_832 (fun h1018 K1018 A1018 => ?_)
                have z1018 := K1018.1
                have A1018 : AI Z h1018 a1007 .char (cs64.take (9 + 1) ++ List.replicate (64 - (9 + 1)) 0) := set_take (i := 9) (c := f) hl64 (by rw [ecs64]; rfl) ▸ A1018
                refine go_dup d23_833 rfl ?_
                refine go_bipush (x := (10 : Int32)) d23_834 (by decide) ?_
                refine go_iload d23_836 rfl ?_
                refine go_castore (v := f) A1018 (by omega) (i := 10) rfl (by rw [take_len hl64 (by decide)]; decide) (nar_ch hf) d23_838 (fun h1019 K1019 A1019 => ?_)
                have z1019 := K1019.1
                have A1019 : AI Z h1019 a1007 .char (cs64.take (10 + 1) ++ List.replicate (64 - (10 + 1)) 0) := set_take (i := 10) (c := f) hl64 (by rw [ecs64]; rfl) ▸ A1019
                refine go_dup d23_839 rfl ?_
                refine go_bipush (x := (11 : Int32)) d23_840 (by decide) ?_
                refine go_iload d23_842 rfl ?_
                refine go_castore (v := f) A1019 (by omega) (i := 11) rfl (by rw [take_len hl64 (by decide)]; decide) (nar_ch hf) d23_844 (fun h1020 K1020 A1020 => ?_)
                have z1020 := K1020.1
                have A1020 : AI Z h1020 a1007 .char (cs64.take (11 + 1) ++ List.replicate (64 - (11 + 1)) 0) := set_take (i := 11) (c := f) hl64 (by rw [ecs64]; rfl) ▸ A1020
                refine go_dup d23_845 rfl ?_
                refine go_bipush (x := (12 : Int32)) d23_846 (by decide) ?_
                refine go_iload d23_848 rfl ?_
                refine go_castore (v := f) A1020 (by omega) (i := 12) rfl (by rw [take_len hl64 (by decide)]; decide) (nar_ch hf) d23_850 (fun h1021 K1021 A1021 => ?_)
                have z1021 := K1021.1
                have A1021 : AI Z h1021 a1007 .char (cs64.take (12 + 1) ++ List.replicate (64 - (12 + 1)) 0) := set_take (i := 12) (c := f) hl64 (by rw [ecs64]; rfl) ▸ A1021
                refine go_dup d23_851 rfl ?_
                refine go_bipush (x := (13 : Int32)) d23_852 (by decide) ?_
                refine go_iload d23_854 rfl ?_
                refine go_castore (v := f) A1021 (by omega) (i := 13) rfl (by rw [take_len hl64 (by decide)]; decide) (nar_ch hf) d23_856 (fun h1022 K1022 A1022 => ?_)
                have z1022 := K1022.1
                have A1022 : AI Z h1022 a1007 .char (cs64.take (13 + 1) ++ List.replicate (64 - (13 + 1)) 0) := set_take (i := 13) (c := f) hl64 (by rw [ecs64]; rfl) ▸ A1022
                refine go_dup d23_857 rfl ?_
                refine go_bipush (x := (14 : Int32)) d23_858 (by decide) ?_
                refine go_iload d23_860 rfl ?_
                refine go_castore (v := f) A1022 (by omega) (i := 14) rfl (by rw [take_len hl64 (by decide)]; decide) (nar_ch hf) d23_862 (fun h1023 K1023 A1023 => ?_)
                have z1023 := K1023.1
                have A1023 : AI Z h1023 a1007 .char (cs64.take (14 + 1) ++ List.replicate (64 - (14 + 1)) 0) := set_take (i := 14) (c := f) hl64 (by rw [ecs64]; rfl) ▸ A1023
                refine go_dup d23_863 rfl ?_
                refine go_bipush (x := (15 : Int32)) d23_864 (by decide) ?_
                refine go_iload d23_866 rfl ?_
                refine go_castore (v := f) A1023 (by omega) (i := 15) rfl (by rw [take_len hl64 (by decide)]; decide) (nar_ch hf) d23_868 (fun h1024 K1024 A1024 => ?_)
                have z1024 := K1024.1
                have A1024 : AI Z h1024 a1007 .char (cs64.take (15 + 1) ++ List.replicate (64 - (15 + 1)) 0) := set_take (i := 15) (c := f) hl64 (by rw [ecs64]; rfl) ▸ A1024
                refine go_dup d23_869 rfl ?_
                refine go_bipush (x := (16 : Int32)) d23_870 (by decide) ?_
                refine go_iload d23_872 rfl ?_
                refine go_castore (v := f) A1024 (by omega) (i := 16) rfl (by rw [take_len hl64 (by decide)]; decide) (nar_ch hf) d23_874 (fun h1025 K1025 A1025 => ?_)
                have z1025 := K1025.1
                have A1025 : AI Z h1025 a1007 .char (cs64.take (16 + 1) ++ List.replicate (64 - (16 + 1)) 0) := set_take (i := 16) (c := f) hl64 (by rw [ecs64]; rfl) ▸ A1025
                refine go_dup d23_875 rfl ?_
                refine go_bipush (x := (17 : Int32)) d23_876 (by decide) ?_
                refine go_iload d23_878 rfl ?_
                refine go_castore (v := f) A1025 (by omega) (i := 17) rfl (by rw [take_len hl64 (by decide)]; decide) (nar_ch hf) d23_880 (fun h1026 K1026 A1026 => ?_)
                have z1026 := K1026.1
                have A1026 : AI Z h1026 a1007 .char (cs64.take (17 + 1) ++ List.replicate (64 - (17 + 1)) 0) := set_take (i := 17) (c := f) hl64 (by rw [ecs64]; rfl) ▸ A1026
                refine go_dup d23_881 rfl ?_
                refine go_bipush (x := (18 : Int32)) d23_882 (by decide) ?_
                refine go_iload d23_884 rfl ?_
                refine go_castore (v := f) A1026 (by omega) (i := 18) rfl (by rw [take_len hl64 (by decide)]; decide) (nar_ch hf) d23_886 (fun h1027 K1027 A1027 => ?_)
                have z1027 := K1027.1
                have A1027 : AI Z h1027 a1007 .char (cs64.take (18 + 1) ++ List.replicate (64 - (18 + 1)) 0) := set_take (i := 18) (c := f) hl64 (by rw [ecs64]; rfl) ▸ A1027
                refine go_dup d23_887 rfl ?_
                refine go_bipush (x := (19 : Int32)) d23_888 (by decide) ?_
                refine go_iload d23_890 rfl ?_
                refine go_castore (v := f) A1027 (by omega) (i := 19) rfl (by rw [take_len hl64 (by decide)]; decide) (nar_ch hf) d23_892 (fun h1028 K1028 A1028 => ?_)
                have z1028 := K1028.1
                have A1028 : AI Z h1028 a1007 .char (cs64.take (19 + 1) ++ List.replicate (64 - (19 + 1)) 0) := set_take (i := 19) (c := f) hl64 (by rw [ecs64]; rfl) ▸ A1028
                refine go_dup d23_893 rfl ?_
                refine go_bipush (x := (20 : Int32)) d23_894 (by decide) ?_
                refine go_iload d23_896 rfl ?_
                refine go_castore (v := f) A1028 (by omega) (i := 20) rfl (by rw [take_len hl64 (by decide)]; decide) (nar_ch hf) d23_898 (fun h1029 K1029 A1029 => ?_)
                have z1029 := K1029.1
                have A1029 : AI Z h1029 a1007 .char (cs64.take (20 + 1) ++ List.replicate (64 - (20 + 1)) 0) := set_take (i := 20) (c := f) hl64 (by rw [ecs64]; rfl) ▸ A1029
                refine go_dup d23_899 rfl ?_
                refine go_bipush (x := (21 : Int32)) d23_900 (by decide) ?_
                refine go_iload d23_902 rfl ?_
                refine go_castore (v := f) A1029 (by omega) (i := 21) rfl (by rw [take_len hl64 (by decide)]; decide) (nar_ch hf) d23_904 (fun h1030 K1030 A1030 => ?_)
                have z1030 := K1030.1
                have A1030 : AI Z h1030 a1007 .char (cs64.take (21 + 1) ++ List.replicate (64 - (21 + 1)) 0) := set_take (i := 21) (c := f) hl64 (by rw [ecs64]; rfl) ▸ A1030
                refine go_dup d23_905 rfl ?_
                refine go_bipush (x := (22 : Int32)) d23_906 (by decide) ?_
                refine go_iload d23_908 rfl ?_
                refine go_castore (v := f) A1030 (by omega) (i := 22) rfl (by rw [take_len hl64 (by decide)]; decide) (nar_ch hf) d23_910 (fun h1031 K1031 A1031 => ?_)
                have z1031 := K1031.1
                have A1031 : AI Z h1031 a1007 .char (cs64.take (22 + 1) ++ List.replicate (64 - (22 + 1)) 0) := set_take (i := 22) (c := f) hl64 (by rw [ecs64]; rfl) ▸ A1031
                refine go_dup d23_911 rfl ?_
                refine go_bipush (x := (23 : Int32)) d23_912 (by decide) ?_
                refine go_iload d23_914 rfl ?_
                refine go_castore (v := f) A1031 (by omega) (i := 23) rfl (by rw [take_len hl64 (by decide)]; decide) (nar_ch hf) d23_916 (fun h1032 K1032 A1032 => ?_)
                have z1032 := K1032.1
                have A1032 : AI Z h1032 a1007 .char (cs64.take (23 + 1) ++ List.replicate (64 - (23 + 1)) 0) := set_take (i := 23) (c := f) hl64 (by rw [ecs64]; rfl) ▸ A1032
                refine go_dup d23_917 rfl ?_
                refine go_bipush (x := (24 : Int32)) d23_918 (by decide) ?_
                refine go_iload d23_920 rfl ?_
                refine go_castore (v := f) A1032 (by omega) (i := 24) rfl (by rw [take_len hl64 (by decide)]; decide) (nar_ch hf) d23_922 (fun h1033 K1033 A1033 => ?_)
                have z1033 := K1033.1
                have A1033 : AI Z h1033 a1007 .char (cs64.take (24 + 1) ++ List.replicate (64 - (24 + 1)) 0) := set_take (i := 24) (c := f) hl64 (by rw [ecs64]; rfl) ▸ A1033
                refine go_dup d23_923 rfl ?_
                refine go_bipush (x := (25 : Int32)) d23_924 (by decide) ?_
                refine go_iload d23_926 rfl ?_
                refine go_castore (v := f) A1033 (by omega) (i := 25) rfl (by rw [take_len hl64 (by decide)]; decide) (nar_ch hf) d23_928 (fun h1034 K1034 A1034 => ?_)
                have z1034 := K1034.1
                have A1034 : AI Z h1034 a1007 .char (cs64.take (25 + 1) ++ List.replicate (64 - (25 + 1)) 0) := set_take (i := 25) (c := f) hl64 (by rw [ecs64]; rfl) ▸ A1034
                refine go_dup d23_929 rfl ?_
                refine go_bipush (x := (26 : Int32)) d23_930 (by decide) ?_
                refine go_iload d23_932 rfl ?_
                refine go_castore (v := f) A1034 (by omega) (i := 26) rfl (by rw [take_len hl64 (by decide)]; decide) (nar_ch hf) d23_934 (fun h1035 K1035 A1035 => ?_)
                have z1035 := K1035.1
                have A1035 : AI Z h1035 a1007 .char (cs64.take (26 + 1) ++ List.replicate (64 - (26 + 1)) 0) := set_take (i := 26) (c := f) hl64 (by rw [ecs64]; rfl) ▸ A1035
                refine go_dup d23_935 rfl ?_
                refine go_bipush (x := (27 : Int32)) d23_936 (by decide) ?_
                refine go_iload d23_938 rfl ?_
                refine go_castore (v := f) A1035 (by omega) (i := 27) rfl (by rw [take_len hl64 (by decide)]; decide) (nar_ch hf) d23_940 (fun h1036 K1036 A1036 => ?_)
                have z1036 := K1036.1
                have A1036 : AI Z h1036 a1007 .char (cs64.take (27 + 1) ++ List.replicate (64 - (27 + 1)) 0) := set_take (i := 27) (c := f) hl64 (by rw [ecs64]; rfl) ▸ A1036
                refine go_dup d23_941 rfl ?_
                refine go_bipush (x := (28 : Int32)) d23_942 (by decide) ?_
                refine go_iload d23_944 rfl ?_
                refine go_castore (v := f) A1036 (by omega) (i := 28) rfl (by rw [take_len hl64 (by decide)]; decide) (nar_ch hf) d23_946 (fun h1037 K1037 A1037 => ?_)
                have z1037 := K1037.1
                have A1037 : AI Z h1037 a1007 .char (cs64.take (28 + 1) ++ List.replicate (64 - (28 + 1)) 0) := set_take (i := 28) (c := f) hl64 (by rw [ecs64]; rfl) ▸ A1037
                refine go_dup d23_947 rfl ?_
                refine go_bipush (x := (29 : Int32)) d23_948 (by decide) ?_
                refine go_iload d23_950 rfl ?_
                refine go_castore (v := f) A1037 (by omega) (i := 29) rfl (by rw [take_len hl64 (by decide)]; decide) (nar_ch hf) d23_952 (fun h1038 K1038 A1038 => ?_)
                have z1038 := K1038.1
                have A1038 : AI Z h1038 a1007 .char (cs64.take (29 + 1) ++ List.replicate (64 - (29 + 1)) 0) := set_take (i := 29) (c := f) hl64 (by rw [ecs64]; rfl) ▸ A1038
                refine go_dup d23_953 rfl ?_
                refine go_bipush (x := (30 : Int32)) d23_954 (by decide) ?_
                refine go_iload d23_956 rfl ?_
                refine go_castore (v := f) A1038 (by omega) (i := 30) rfl (by rw [take_len hl64 (by decide)]; decide) (nar_ch hf) d23_958 (fun h1039 K1039 A1039 => ?_)
                have z1039 := K1039.1
                have A1039 : AI Z h1039 a1007 .char (cs64.take (30 + 1) ++ List.replicate (64 - (30 + 1)) 0) := set_take (i := 30) (c := f) hl64 (by rw [ecs64]; rfl) ▸ A1039
                refine go_dup d23_959 rfl ?_
                refine go_bipush (x := (31 : Int32)) d23_960 (by decide) ?_
                refine go_iload d23_962 rfl ?_
                refine go_castore (v := f) A1039 (by omega) (i := 31) rfl (by rw [take_len hl64 (by decide)]; decide) (nar_ch hf) d23_964 (fun h1040 K1040 A1040 => ?_)
                have z1040 := K1040.1
                have A1040 : AI Z h1040 a1007 .char (cs64.take (31 + 1) ++ List.replicate (64 - (31 + 1)) 0) := set_take (i := 31) (c := f) hl64 (by rw [ecs64]; rfl) ▸ A1040
                refine go_dup d23_965 rfl ?_
                refine go_bipush (x := (32 : Int32)) d23_966 (by decide) ?_
                refine go_iload d23_968 rfl ?_
                refine go_castore (v := f) A1040 (by omega) (i := 32) rfl (by rw [take_len hl64 (by decide)]; decide) (nar_ch hf) d23_970 (fun h1041 K1041 A1041 => ?_)
                have z1041 := K1041.1
                have A1041 : AI Z h1041 a1007 .char (cs64.take (32 + 1) ++ List.replicate (64 - (32 + 1)) 0) := set_take (i := 32) (c := f) hl64 (by rw [ecs64]; rfl) ▸ A1041
                refine go_dup d23_971 rfl ?_
                refine go_bipush (x := (33 : Int32)) d23_972 (by decide) ?_
                refine go_iload d23_974 rfl ?_
                refine go_castore (v := f) A1041 (by omega) (i := 33) rfl (by rw [take_len hl64 (by decide)]; decide) (nar_ch hf) d23_976 (fun h1042 K1042 A1042 => ?_)
                have z1042 := K1042.1
                have A1042 : AI Z h1042 a1007 .char (cs64.take (33 + 1) ++ List.replicate (64 - (33 + 1)) 0) := set_take (i := 33) (c := f) hl64 (by rw [ecs64]; rfl) ▸ A1042
                refine go_dup d23_977 rfl ?_
                refine go_bipush (x := (34 : Int32)) d23_978 (by decide) ?_
                refine go_iload d23_980 rfl ?_
                refine go_castore (v := f) A1042 (by omega) (i := 34) rfl (by rw [take_len hl64 (by decide)]; decide) (nar_ch hf) d23_982 (fun h1043 K1043 A1043 => ?_)
                have z1043 := K1043.1
                have A1043 : AI Z h1043 a1007 .char (cs64.take (34 + 1) ++ List.replicate (64 - (34 + 1)) 0) := set_take (i := 34) (c := f) hl64 (by rw [ecs64]; rfl) ▸ A1043
                refine go_dup d23_983 rfl ?_
                refine go_bipush (x := (35 : Int32)) d23_984 (by decide) ?_
                refine go_iload d23_986 rfl ?_
                refine go_castore (v := f) A1043 (by omega) (i := 35) rfl (by rw [take_len hl64 (by decide)]; decide) (nar_ch hf) d23_988 (fun h1044 K1044 A1044 => ?_)
                have z1044 := K1044.1
                have A1044 : AI Z h1044 a1007 .char (cs64.take (35 + 1) ++ List.replicate (64 - (35 + 1)) 0) := set_take (i := 35) (c := f) hl64 (by rw [ecs64]; rfl) ▸ A1044
                refine go_dup d23_989 rfl ?_
                refine go_bipush (x := (36 : Int32)) d23_990 (by decide) ?_
                refine go_iload d23_992 rfl ?_
                refine go_castore (v := f) A1044 (by omega) (i := 36) rfl (by rw [take_len hl64 (by decide)]; decide) (nar_ch hf) d23_994 (fun h1045 K1045 A1045 => ?_)
                have z1045 := K1045.1
                have A1045 : AI Z h1045 a1007 .char (cs64.take (36 + 1) ++ List.replicate (64 - (36 + 1)) 0) := set_take (i := 36) (c := f) hl64 (by rw [ecs64]; rfl) ▸ A1045
                refine go_dup d23_995 rfl ?_
                refine go_bipush (x := (37 : Int32)) d23_996 (by decide) ?_
                refine go_iload d23_998 rfl ?_
                refine go_castore (v := f) A1045 (by omega) (i := 37) rfl (by rw [take_len hl64 (by decide)]; decide) (nar_ch hf) d23_1000 (fun h1046 K1046 A1046 => ?_)
                have z1046 := K1046.1
                have A1046 : AI Z h1046 a1007 .char (cs64.take (37 + 1) ++ List.replicate (64 - (37 + 1)) 0) := set_take (i := 37) (c := f) hl64 (by rw [ecs64]; rfl) ▸ A1046
                refine go_dup d23_1001 rfl ?_
                refine go_bipush (x := (38 : Int32)) d23_1002 (by decide) ?_
                refine go_iload d23_1004 rfl ?_
                refine go_castore (v := f) A1046 (by omega) (i := 38) rfl (by rw [take_len hl64 (by decide)]; decide) (nar_ch hf) d23_1006 (fun h1047 K1047 A1047 => ?_)
                have z1047 := K1047.1
                have A1047 : AI Z h1047 a1007 .char (cs64.take (38 + 1) ++ List.replicate (64 - (38 + 1)) 0) := set_take (i := 38) (c := f) hl64 (by rw [ecs64]; rfl) ▸ A1047
                refine go_dup d23_1007 rfl ?_
                refine go_bipush (x := (39 : Int32)) d23_1008 (by decide) ?_
                refine go_iload d23_1010 rfl ?_
                refine go_castore (v := f) A1047 (by omega) (i := 39) rfl (by rw [take_len hl64 (by decide)]; decide) (nar_ch hf) d23_1012 (fun h1048 K1048 A1048 => ?_)
                have z1048 := K1048.1
                have A1048 : AI Z h1048 a1007 .char (cs64.take (39 + 1) ++ List.replicate (64 - (39 + 1)) 0) := set_take (i := 39) (c := f) hl64 (by rw [ecs64]; rfl) ▸ A1048
                refine go_dup d23_1013 rfl ?_
                refine go_bipush (x := (40 : Int32)) d23_1014 (by decide) ?_
                refine go_iload d23_1016 rfl ?_
                refine go_castore (v := f) A1048 (by omega) (i := 40) rfl (by rw [take_len hl64 (by decide)]; decide) (nar_ch hf) d23_1018 (fun h1049 K1049 A1049 => ?_)
                have z1049 := K1049.1
                have A1049 : AI Z h1049 a1007 .char (cs64.take (40 + 1) ++ List.replicate (64 - (40 + 1)) 0) := set_take (i := 40) (c := f) hl64 (by rw [ecs64]; rfl) ▸ A1049
                refine go_dup d23_1019 rfl ?_
                refine go_bipush (x := (41 : Int32)) d23_1020 (by decide) ?_
                refine go_iload d23_1022 rfl ?_
                refine go_castore (v := f) A1049 (by omega) (i := 41) rfl (by rw [take_len hl64 (by decide)]; decide) (nar_ch hf) d23_1024 (fun h1050 K1050 A1050 => ?_)
                have z1050 := K1050.1
                have A1050 : AI Z h1050 a1007 .char (cs64.take (41 + 1) ++ List.replicate (64 - (41 + 1)) 0) := set_take (i := 41) (c := f) hl64 (by rw [ecs64]; rfl) ▸ A1050
                refine go_dup d23_1025 rfl ?_
                refine go_bipush (x := (42 : Int32)) d23_1026 (by decide) ?_
                refine go_iload d23_1028 rfl ?_
                refine go_castore (v := f) A1050 (by omega) (i := 42) rfl (by rw [take_len hl64 (by decide)]; decide) (nar_ch hf) d23_1030 (fun h1051 K1051 A1051 => ?_)
                have z1051 := K1051.1
                have A1051 : AI Z h1051 a1007 .char (cs64.take (42 + 1) ++ List.replicate (64 - (42 + 1)) 0) := set_take (i := 42) (c := f) hl64 (by rw [ecs64]; rfl) ▸ A1051
                refine go_dup d23_1031 rfl ?_
                refine go_bipush (x := (43 : Int32)) d23_1032 (by decide) ?_
                refine go_iload d23_1034 rfl ?_
                refine go_castore (v := f) A1051 (by omega) (i := 43) rfl (by rw [take_len hl64 (by decide)]; decide) (nar_ch hf) d23_1036 (fun h1052 K1052 A1052 => ?_)
                have z1052 := K1052.1
                have A1052 : AI Z h1052 a1007 .char (cs64.take (43 + 1) ++ List.replicate (64 - (43 + 1)) 0) := set_take (i := 43) (c := f) hl64 (by rw [ecs64]; rfl) ▸ A1052
                refine go_dup d23_1037 rfl ?_
                refine go_bipush (x := (44 : Int32)) d23_1038 (by decide) ?_
                refine go_iload d23_1040 rfl ?_
                refine go_castore (v := f) A1052 (by omega) (i := 44) rfl (by rw [take_len hl64 (by decide)]; decide) (nar_ch hf) d23_1042 (fun h1053 K1053 A1053 => ?_)
                have z1053 := K1053.1
                have A1053 : AI Z h1053 a1007 .char (cs64.take (44 + 1) ++ List.replicate (64 - (44 + 1)) 0) := set_take (i := 44) (c := f) hl64 (by rw [ecs64]; rfl) ▸ A1053
                refine go_dup d23_1043 rfl ?_
                refine go_bipush (x := (45 : Int32)) d23_1044 (by decide) ?_
                refine go_iload d23_1046 rfl ?_
                refine go_castore (v := f) A1053 (by omega) (i := 45) rfl (by rw [take_len hl64 (by decide)]; decide) (nar_ch hf) d23_1048 (fun h1054 K1054 A1054 => ?_)
                have z1054 := K1054.1
                have A1054 : AI Z h1054 a1007 .char (cs64.take (45 + 1) ++ List.replicate (64 - (45 + 1)) 0) := set_take (i := 45) (c := f) hl64 (by rw [ecs64]; rfl) ▸ A1054
                refine go_dup d23_1049 rfl ?_
                refine go_bipush (x := (46 : Int32)) d23_1050 (by decide) ?_
                refine go_iload d23_1052 rfl ?_
                refine go_castore (v := f) A1054 (by omega) (i := 46) rfl (by rw [take_len hl64 (by decide)]; decide) (nar_ch hf) d23_1054 (fun h1055 K1055 A1055 => ?_)
                have z1055 := K1055.1
                have A1055 : AI Z h1055 a1007 .char (cs64.take (46 + 1) ++ List.replicate (64 - (46 + 1)) 0) := set_take (i := 46) (c := f) hl64 (by rw [ecs64]; rfl) ▸ A1055
                refine go_dup d23_1055 rfl ?_
                refine go_bipush (x := (47 : Int32)) d23_1056 (by decide) ?_
                refine go_iload d23_1058 rfl ?_
                refine go_castore (v := f) A1055 (by omega) (i := 47) rfl (by rw [take_len hl64 (by decide)]; decide) (nar_ch hf) d23_1060 (fun h1056 K1056 A1056 => ?_)
                have z1056 := K1056.1
                have A1056 : AI Z h1056 a1007 .char (cs64.take (47 + 1) ++ List.replicate (64 - (47 + 1)) 0) := set_take (i := 47) (c := f) hl64 (by rw [ecs64]; rfl) ▸ A1056
                refine go_dup d23_1061 rfl ?_
                refine go_bipush (x := (48 : Int32)) d23_1062 (by decide) ?_
                refine go_iload d23_1064 rfl ?_
                refine go_castore (v := f) A1056 (by omega) (i := 48) rfl (by rw [take_len hl64 (by decide)]; decide) (nar_ch hf) d23_1066 (fun h1057 K1057 A1057 => ?_)
                have z1057 := K1057.1
                have A1057 : AI Z h1057 a1007 .char (cs64.take (48 + 1) ++ List.replicate (64 - (48 + 1)) 0) := set_take (i := 48) (c := f) hl64 (by rw [ecs64]; rfl) ▸ A1057
                refine go_dup d23_1067 rfl ?_
                refine go_bipush (x := (49 : Int32)) d23_1068 (by decide) ?_
                refine go_iload d23_1070 rfl ?_
                refine go_castore (v := f) A1057 (by omega) (i := 49) rfl (by rw [take_len hl64 (by decide)]; decide) (nar_ch hf) d23_1072 (fun h1058 K1058 A1058 => ?_)
                have z1058 := K1058.1
                have A1058 : AI Z h1058 a1007 .char (cs64.take (49 + 1) ++ List.replicate (64 - (49 + 1)) 0) := set_take (i := 49) (c := f) hl64 (by rw [ecs64]; rfl) ▸ A1058
                refine go_dup d23_1073 rfl ?_
                refine go_bipush (x := (50 : Int32)) d23_1074 (by decide) ?_
                refine go_iload d23_1076 rfl ?_
                refine go_castore (v := f) A1058 (by omega) (i := 50) rfl (by rw [take_len hl64 (by decide)]; decide) (nar_ch hf) d23_1078 (fun h1059 K1059 A1059 => ?_)
                have z1059 := K1059.1
                have A1059 : AI Z h1059 a1007 .char (cs64.take (50 + 1) ++ List.replicate (64 - (50 + 1)) 0) := set_take (i := 50) (c := f) hl64 (by rw [ecs64]; rfl) ▸ A1059
                refine go_dup d23_1079 rfl ?_
                refine go_bipush (x := (51 : Int32)) d23_1080 (by decide) ?_
                refine go_iload d23_1082 rfl ?_
                refine go_castore (v := f) A1059 (by omega) (i := 51) rfl (by rw [take_len hl64 (by decide)]; decide) (nar_ch hf) d23_1084 (fun h1060 K1060 A1060 => ?_)
                have z1060 := K1060.1
                have A1060 : AI Z h1060 a1007 .char (cs64.take (51 + 1) ++ List.replicate (64 - (51 + 1)) 0) := set_take (i := 51) (c := f) hl64 (by rw [ecs64]; rfl) ▸ A1060
                refine go_dup d23_1085 rfl ?_
                refine go_bipush (x := (52 : Int32)) d23_1086 (by decide) ?_
                refine go_iload d23_1088 rfl ?_
                refine go_castore (v := f) A1060 (by omega) (i := 52) rfl (by rw [take_len hl64 (by decide)]; decide) (nar_ch hf) d23_1090 (fun h1061 K1061 A1061 => ?_)
                have z1061 := K1061.1
                have A1061 : AI Z h1061 a1007 .char (cs64.take (52 + 1) ++ List.replicate (64 - (52 + 1)) 0) := set_take (i := 52) (c := f) hl64 (by rw [ecs64]; rfl) ▸ A1061
                refine go_dup d23_1091 rfl ?_
                refine go_bipush (x := (53 : Int32)) d23_1092 (by decide) ?_
                refine go_iload d23_1094 rfl ?_
                refine go_castore (v := f) A1061 (by omega) (i := 53) rfl (by rw [take_len hl64 (by decide)]; decide) (nar_ch hf) d23_1096 (fun h1062 K1062 A1062 => ?_)
                have z1062 := K1062.1
                have A1062 : AI Z h1062 a1007 .char (cs64.take (53 + 1) ++ List.replicate (64 - (53 + 1)) 0) := set_take (i := 53) (c := f) hl64 (by rw [ecs64]; rfl) ▸ A1062
                refine go_dup d23_1097 rfl ?_
                refine go_bipush (x := (54 : Int32)) d23_1098 (by decide) ?_
                refine go_iload d23_1100 rfl ?_
                refine go_castore (v := f) A1062 (by omega) (i := 54) rfl (by rw [take_len hl64 (by decide)]; decide) (nar_ch hf) d23_1102 (fun h1063 K1063 A1063 => ?_)
                have z1063 := K1063.1
                have A1063 : AI Z h1063 a1007 .char (cs64.take (54 + 1) ++ List.replicate (64 - (54 + 1)) 0) := set_take (i := 54) (c := f) hl64 (by rw [ecs64]; rfl) ▸ A1063
                refine go_dup d23_1103 rfl ?_
                refine go_bipush (x := (55 : Int32)) d23_1104 (by decide) ?_
                refine go_iload d23_1106 rfl ?_
                refine go_castore (v := f) A1063 (by omega) (i := 55) rfl (by rw [take_len hl64 (by decide)]; decide) (nar_ch hf) d23_1108 (fun h1064 K1064 A1064 => ?_)
                have z1064 := K1064.1
                have A1064 : AI Z h1064 a1007 .char (cs64.take (55 + 1) ++ List.replicate (64 - (55 + 1)) 0) := set_take (i := 55) (c := f) hl64 (by rw [ecs64]; rfl) ▸ A1064
                refine go_dup d23_1109 rfl ?_
                refine go_bipush (x := (56 : Int32)) d23_1110 (by decide) ?_
                refine go_iload d23_1112 rfl ?_
                refine go_castore (v := f) A1064 (by omega) (i := 56) rfl (by rw [take_len hl64 (by decide)]; decide) (nar_ch hf) d23_1114 (fun h1065 K1065 A1065 => ?_)
                have z1065 := K1065.1
                have A1065 : AI Z h1065 a1007 .char (cs64.take (56 + 1) ++ List.replicate (64 - (56 + 1)) 0) := set_take (i := 56) (c := f) hl64 (by rw [ecs64]; rfl) ▸ A1065
                refine go_dup d23_1115 rfl ?_
                refine go_bipush (x := (57 : Int32)) d23_1116 (by decide) ?_
                refine go_iload d23_1118 rfl ?_
                refine go_castore (v := f) A1065 (by omega) (i := 57) rfl (by rw [take_len hl64 (by decide)]; decide) (nar_ch hf) d23_1120 (fun h1066 K1066 A1066 => ?_)
                have z1066 := K1066.1
                have A1066 : AI Z h1066 a1007 .char (cs64.take (57 + 1) ++ List.replicate (64 - (57 + 1)) 0) := set_take (i := 57) (c := f) hl64 (by rw [ecs64]; rfl) ▸ A1066
                refine go_dup d23_1121 rfl ?_
                refine go_bipush (x := (58 : Int32)) d23_1122 (by decide) ?_
                refine go_iload d23_1124 rfl ?_
                refine go_castore (v := f) A1066 (by omega) (i := 58) rfl (by rw [take_len hl64 (by decide)]; decide) (nar_ch hf) d23_1126 (fun h1067 K1067 A1067 => ?_)
                have z1067 := K1067.1
                have A1067 : AI Z h1067 a1007 .char (cs64.take (58 + 1) ++ List.replicate (64 - (58 + 1)) 0) := set_take (i := 58) (c := f) hl64 (by rw [ecs64]; rfl) ▸ A1067
                refine go_dup d23_1127 rfl ?_
                refine go_bipush (x := (59 : Int32)) d23_1128 (by decide) ?_
                refine go_iload d23_1130 rfl ?_
                refine go_castore (v := f) A1067 (by omega) (i := 59) rfl (by rw [take_len hl64 (by decide)]; decide) (nar_ch hf) d23_1132 (fun h1068 K1068 A1068 => ?_)
                have z1068 := K1068.1
                have A1068 : AI Z h1068 a1007 .char (cs64.take (59 + 1) ++ List.replicate (64 - (59 + 1)) 0) := set_take (i := 59) (c := f) hl64 (by rw [ecs64]; rfl) ▸ A1068
                refine go_dup d23_1133 rfl ?_
                refine go_bipush (x := (60 : Int32)) d23_1134 (by decide) ?_
                refine go_iload d23_1136 rfl ?_
                refine go_castore (v := f) A1068 (by omega) (i := 60) rfl (by rw [take_len hl64 (by decide)]; decide) (nar_ch hf) d23_1138 (fun h1069 K1069 A1069 => ?_)
                have z1069 := K1069.1
                have A1069 : AI Z h1069 a1007 .char (cs64.take (60 + 1) ++ List.replicate (64 - (60 + 1)) 0) := set_take (i := 60) (c := f) hl64 (by rw [ecs64]; rfl) ▸ A1069
                refine go_dup d23_1139 rfl ?_
                refine go_bipush (x := (61 : Int32)) d23_1140 (by decide) ?_
                refine go_iload d23_1142 rfl ?_
                refine go_castore (v := f) A1069 (by omega) (i := 61) rfl (by rw [take_len hl64 (by decide)]; decide) (nar_ch hf) d23_1144 (fun h1070 K1070 A1070 => ?_)
                have z1070 := K1070.1
                have A1070 : AI Z h1070 a1007 .char (cs64.take (61 + 1) ++ List.replicate (64 - (61 + 1)) 0) := set_take (i := 61) (c := f) hl64 (by rw [ecs64]; rfl) ▸ A1070
                refine go_dup d23_1145 rfl ?_
                refine go_bipush (x := (62 : Int32)) d23_1146 (by decide) ?_
                refine go_iload d23_1148 rfl ?_
                refine go_castore (v := y) A1070 (by omega) (i := 62) rfl (by rw [take_len hl64 (by decide)]; decide) (nar_ch hy) d23_1150 (fun h1071 K1071 A1071 => ?_)
                have z1071 := K1071.1
                have A1071 : AI Z h1071 a1007 .char (cs64.take (62 + 1) ++ List.replicate (64 - (62 + 1)) 0) := set_take (i := 62) (c := y) hl64 (by rw [ecs64]; rfl) ▸ A1071
                refine go_dup d23_1151 rfl ?_
                refine go_bipush (x := (63 : Int32)) d23_1152 (by decide) ?_
                refine go_iload d23_1154 rfl ?_
                refine go_castore (v := z) A1071 (by omega) (i := 63) rfl (by rw [take_len hl64 (by decide)]; decide) (nar_ch hz) d23_1156 (fun h1072 K1072 A1072 => ?_)
                have z1072 := K1072.1
                have A1072 : AI Z h1072 a1007 .char (cs64.take (63 + 1) ++ List.replicate (64 - (63 + 1)) 0) := set_take (i := 63) (c := z) hl64 (by rw [ecs64]; rfl) ▸ A1072
                refine go_astore d23_1157 rfl (l' := #[.val (.int p0), .val (.int p1), .val (.int p2), .val (.int p3), .val (.int a), .val (.int b), .val (.int y), .val (.int z), .val (.int f), .val (.int (p0 &&& (7 : Int32))), .val (.ref a1007), .unset]) rfl ?_
                refine go_iconst (x := (0 : Int32)) d23_1159 (by decide) ?_
                refine go_istore d23_1160 (l' := #[.val (.int p0), .val (.int p1), .val (.int p2), .val (.int p3), .val (.int a), .val (.int b), .val (.int y), .val (.int z), .val (.int f), .val (.int (p0 &&& (7 : Int32))), .val (.ref a1007), .val (.int (0 : Int32))]) rfl ?_
                have B1073 : AI Z h1072 a1007 .char ([a, b, f, f, f, f, f, f, f, f, f, f, f, f, f, f, f, f, f, f, f, f, f, f, f, f, f, f, f, f, f, f, f, f, f, f, f, f, f, f, f, f, f, f, f, f, f, f, f, f, f, f, f, f, f, f, f, f, f, f, f, f, y, z] : List Int32) := ecs64 ▸ (take_all hl64 ▸ A1072)
                exact (tail _ _ _ _ S1007 h1072 (by omega) B1073 (by simp) (Or.inr ⟨fun q => absurd q.2.1 (by simp), rfl⟩)).weak (by decide) (by decide)
              · refine go_bipush (x := (63 : Int32)) d23_347 (by decide) ?_
                obtain ⟨cs63, ecs63⟩ : ∃ q, q = ([a, b, f, f, f, f, f, f, f, f, f, f, f, f, f, f, f, f, f, f, f, f, f, f, f, f, f, f, f, f, f, f, f, f, f, f, f, f, f, f, f, f, f, f, f, f, f, f, f, f, f, f, f, f, f, f, f, f, f, f, f, y, z] : List Int32) := ⟨_, rfl⟩
                have hl63 : cs63.length = 63 := by rw [ecs63]; rfl
                refine go_newarr (kc := 23) (ks := 1601) (N := 63) (cap := 63) (hw _ (List.mem_of_getElem? (i := 0) rfl)) rfl (Nat.le_refl _) (by decide) rfl rfl d23_349 (fun S1074 h1074 a1074 e1074 m1074 s1074 x1074 l1074 A1074 => ?_)
                have z1074 := x1074.1
                have A1074 : AI Z h1074 a1074 .char (List.replicate 63 0) := A1074
                have A1075 : AI Z h1074 a1074 .char (cs63.take 0 ++ List.replicate (63 - 0) 0) := A1074
                refine go_dup d23_351 rfl ?_
                refine go_iconst (x := (0 : Int32)) d23_352 (by decide) ?_
                refine go_iload d23_353 rfl ?_
                refine go_castore (v := a) A1075 (by omega) (i := 0) rfl (by rw [take_len hl63 (by decide)]; decide) (nar_ch ha) d23_355 (fun h1076 K1076 A1076 => ?_)
                have z1076 := K1076.1
                have A1076 : AI Z h1076 a1074 .char (cs63.take (0 + 1) ++ List.replicate (63 - (0 + 1)) 0) := set_take (i := 0) (c := a) hl63 (by rw [ecs63]; rfl) ▸ A1076
                refine go_dup d23_356 rfl ?_
                refine go_iconst (x := (1 : Int32)) d23_357 (by decide) ?_
                refine go_iload d23_358 rfl ?_
                refine go_castore (v := b) A1076 (by omega) (i := 1) rfl (by rw [take_len hl63 (by decide)]; decide) (nar_ch hb) d23_360 (fun h1077 K1077 A1077 => ?_)
                have z1077 := K1077.1
                have A1077 : AI Z h1077 a1074 .char (cs63.take (1 + 1) ++ List.replicate (63 - (1 + 1)) 0) := set_take (i := 1) (c := b) hl63 (by rw [ecs63]; rfl) ▸ A1077
                refine go_dup d23_361 rfl ?_
                refine go_iconst (x := (2 : Int32)) d23_362 (by decide) ?_
                refine go_iload d23_363 rfl ?_
                refine go_castore (v := f) A1077 (by omega) (i := 2) rfl (by rw [take_len hl63 (by decide)]; decide) (nar_ch hf) d23_365 (fun h1078 K1078 A1078 => ?_)
                have z1078 := K1078.1
                have A1078 : AI Z h1078 a1074 .char (cs63.take (2 + 1) ++ List.replicate (63 - (2 + 1)) 0) := set_take (i := 2) (c := f) hl63 (by rw [ecs63]; rfl) ▸ A1078
                refine go_dup d23_366 rfl ?_
                refine go_iconst (x := (3 : Int32)) d23_367 (by decide) ?_
                refine go_iload d23_368 rfl ?_
                refine go_castore (v := f) A1078 (by omega) (i := 3) rfl (by rw [take_len hl63 (by decide)]; decide) (nar_ch hf) d23_370 (fun h1079 K1079 A1079 => ?_)
                have z1079 := K1079.1
                have A1079 : AI Z h1079 a1074 .char (cs63.take (3 + 1) ++ List.replicate (63 - (3 + 1)) 0) := set_take (i := 3) (c := f) hl63 (by rw [ecs63]; rfl) ▸ A1079
                refine go_dup d23_371 rfl ?_
                refine go_iconst (x := (4 : Int32)) d23_372 (by decide) ?_
                refine go_iload d23_373 rfl ?_
                refine go_castore (v := f) A1079 (by omega) (i := 4) rfl (by rw [take_len hl63 (by decide)]; decide) (nar_ch hf) d23_375 (fun h1080 K1080 A1080 => ?_)
                have z1080 := K1080.1
                have A1080 : AI Z h1080 a1074 .char (cs63.take (4 + 1) ++ List.replicate (63 - (4 + 1)) 0) := set_take (i := 4) (c := f) hl63 (by rw [ecs63]; rfl) ▸ A1080
                refine go_dup d23_376 rfl ?_
                refine go_iconst (x := (5 : Int32)) d23_377 (by decide) ?_
                refine go_iload d23_378 rfl ?_
                refine go_castore (v := f) A1080 (by omega) (i := 5) rfl (by rw [take_len hl63 (by decide)]; decide) (nar_ch hf) d23_380 (fun h1081 K1081 A1081 => ?_)
                have z1081 := K1081.1
                have A1081 : AI Z h1081 a1074 .char (cs63.take (5 + 1) ++ List.replicate (63 - (5 + 1)) 0) := set_take (i := 5) (c := f) hl63 (by rw [ecs63]; rfl) ▸ A1081
                refine go_dup d23_381 rfl ?_
                refine go_bipush (x := (6 : Int32)) d23_382 (by decide) ?_
                refine go_iload d23_384 rfl ?_
                refine go_castore (v := f) A1081 (by omega) (i := 6) rfl (by rw [take_len hl63 (by decide)]; decide) (nar_ch hf) d23_386 (fun h1082 K1082 A1082 => ?_)
                have z1082 := K1082.1
                have A1082 : AI Z h1082 a1074 .char (cs63.take (6 + 1) ++ List.replicate (63 - (6 + 1)) 0) := set_take (i := 6) (c := f) hl63 (by rw [ecs63]; rfl) ▸ A1082
                refine go_dup d23_387 rfl ?_
                refine go_bipush (x := (7 : Int32)) d23_388 (by decide) ?_
                refine go_iload d23_390 rfl ?_
                refine go_castore (v := f) A1082 (by omega) (i := 7) rfl (by rw [take_len hl63 (by decide)]; decide) (nar_ch hf) d23_392 (fun h1083 K1083 A1083 => ?_)
                have z1083 := K1083.1
                have A1083 : AI Z h1083 a1074 .char (cs63.take (7 + 1) ++ List.replicate (63 - (7 + 1)) 0) := set_take (i := 7) (c := f) hl63 (by rw [ecs63]; rfl) ▸ A1083
                refine go_dup d23_393 rfl ?_
                refine go_bipush (x := (8 : Int32)) d23_394 (by decide) ?_
                refine go_iload d23_396 rfl ?_
                refine go_castore (v := f) A1083 (by omega) (i := 8) rfl (by rw [take_len hl63 (by decide)]; decide) (nar_ch hf) d23_398 (fun h1084 K1084 A1084 => ?_)
                have z1084 := K1084.1
                have A1084 : AI Z h1084 a1074 .char (cs63.take (8 + 1) ++ List.replicate (63 - (8 + 1)) 0) := set_take (i := 8) (c := f) hl63 (by rw [ecs63]; rfl) ▸ A1084
                refine go_dup d23_399 rfl ?_
                refine go_bipush (x := (9 : Int32)) d23_400 (by decide) ?_
                refine go_iload d23_402 rfl ?_
                refine go_castore (v := f) A1084 (by omega) (i := 9) rfl (by rw [take_len hl63 (by decide)]; decide) (nar_ch hf) d23_404 (fun h1085 K1085 A1085 => ?_)
                have z1085 := K1085.1
                have A1085 : AI Z h1085 a1074 .char (cs63.take (9 + 1) ++ List.replicate (63 - (9 + 1)) 0) := set_take (i := 9) (c := f) hl63 (by rw [ecs63]; rfl) ▸ A1085
                refine go_dup d23_405 rfl ?_
                refine go_bipush (x := (10 : Int32)) d23_406 (by decide) ?_
                refine go_iload d23_408 rfl ?_
                refine go_castore (v := f) A1085 (by omega) (i := 10) rfl (by rw [take_len hl63 (by decide)]; decide) (nar_ch hf) d23_410 (fun h1086 K1086 A1086 => ?_)
                have z1086 := K1086.1
                have A1086 : AI Z h1086 a1074 .char (cs63.take (10 + 1) ++ List.replicate (63 - (10 + 1)) 0) := set_take (i := 10) (c := f) hl63 (by rw [ecs63]; rfl) ▸ A1086
                refine go_dup d23_411 rfl ?_
                refine go_bipush (x := (11 : Int32)) d23_412 (by decide) ?_
                refine go_iload d23_414 rfl ?_
                refine go_castore (v := f) A1086 (by omega) (i := 11) rfl (by rw [take_len hl63 (by decide)]; decide) (nar_ch hf) d23_416 (fun h1087 K1087 A1087 => ?_)
                have z1087 := K1087.1
                have A1087 : AI Z h1087 a1074 .char (cs63.take (11 + 1) ++ List.replicate (63 - (11 + 1)) 0) := set_take (i := 11) (c := f) hl63 (by rw [ecs63]; rfl) ▸ A1087
                refine go_dup d23_417 rfl ?_
                refine go_bipush (x := (12 : Int32)) d23_418 (by decide) ?_
                refine go_iload d23_420 rfl ?_
                refine go_castore (v := f) A1087 (by omega) (i := 12) rfl (by rw [take_len hl63 (by decide)]; decide) (nar_ch hf) d23_422 (fun h1088 K1088 A1088 => ?_)
                have z1088 := K1088.1
                have A1088 : AI Z h1088 a1074 .char (cs63.take (12 + 1) ++ List.replicate (63 - (12 + 1)) 0) := set_take (i := 12) (c := f) hl63 (by rw [ecs63]; rfl) ▸ A1088
                refine go_dup d23_423 rfl ?_
                refine go_bipush (x := (13 : Int32)) d23_424 (by decide) ?_
                refine go_iload d23_426 rfl ?_
                refine go_castore (v := f) A1088 (by omega) (i := 13) rfl (by rw [take_len hl63 (by decide)]; decide) (nar_ch hf) d23_428 (fun h1089 K1089 A1089 => ?_)
                have z1089 := K1089.1
                have A1089 : AI Z h1089 a1074 .char (cs63.take (13 + 1) ++ List.replicate (63 - (13 + 1)) 0) := set_take (i := 13) (c := f) hl63 (by rw [ecs63]; rfl) ▸ A1089
                refine go_dup d23_429 rfl ?_
                refine go_bipush (x := (14 : Int32)) d23_430 (by decide) ?_
                refine go_iload d23_432 rfl ?_
                refine go_castore (v := f) A1089 (by omega) (i := 14) rfl (by rw [take_len hl63 (by decide)]; decide) (nar_ch hf) d23_434 (fun h1090 K1090 A1090 => ?_)
                have z1090 := K1090.1
                have A1090 : AI Z h1090 a1074 .char (cs63.take (14 + 1) ++ List.replicate (63 - (14 + 1)) 0) := set_take (i := 14) (c := f) hl63 (by rw [ecs63]; rfl) ▸ A1090
                refine go_dup d23_435 rfl ?_
                refine go_bipush (x := (15 : Int32)) d23_436 (by decide) ?_
                refine go_iload d23_438 rfl ?_
                refine go_castore (v := f) A1090 (by omega) (i := 15) rfl (by rw [take_len hl63 (by decide)]; decide) (nar_ch hf) d23_440 (fun h1091 K1091 A1091 => ?_)
                have z1091 := K1091.1
                have A1091 : AI Z h1091 a1074 .char (cs63.take (15 + 1) ++ List.replicate (63 - (15 + 1)) 0) := set_take (i := 15) (c := f) hl63 (by rw [ecs63]; rfl) ▸ A1091
                refine go_dup d23_441 rfl ?_
                refine go_bipush (x := (16 : Int32)) d23_442 (by decide) ?_
                refine go_iload d23_444 rfl ?_
                refine go_castore (v := f) A1091 (by omega) (i := 16) rfl (by rw [take_len hl63 (by decide)]; decide) (nar_ch hf) d23_446 (fun h1092 K1092 A1092 => ?_)
                have z1092 := K1092.1
                have A1092 : AI Z h1092 a1074 .char (cs63.take (16 + 1) ++ List.replicate (63 - (16 + 1)) 0) := set_take (i := 16) (c := f) hl63 (by rw [ecs63]; rfl) ▸ A1092
                refine go_dup d23_447 rfl ?_
                refine go_bipush (x := (17 : Int32)) d23_448 (by decide) ?_
                refine go_iload d23_450 rfl ?_
                refine go_castore (v := f) A1092 (by omega) (i := 17) rfl (by rw [take_len hl63 (by decide)]; decide) (nar_ch hf) d23_452 (fun h1093 K1093 A1093 => ?_)
                have z1093 := K1093.1
                have A1093 : AI Z h1093 a1074 .char (cs63.take (17 + 1) ++ List.replicate (63 - (17 + 1)) 0) := set_take (i := 17) (c := f) hl63 (by rw [ecs63]; rfl) ▸ A1093
                refine go_dup d23_453 rfl ?_
                refine go_bipush (x := (18 : Int32)) d23_454 (by decide) ?_
                refine go_iload d23_456 rfl ?_
                refine go_castore (v := f) A1093 (by omega) (i := 18) rfl (by rw [take_len hl63 (by decide)]; decide) (nar_ch hf) d23_458 (fun h1094 K1094 A1094 => ?_)
                have z1094 := K1094.1
                have A1094 : AI Z h1094 a1074 .char (cs63.take (18 + 1) ++ List.replicate (63 - (18 + 1)) 0) := set_take (i := 18) (c := f) hl63 (by rw [ecs63]; rfl) ▸ A1094
                refine go_dup d23_459 rfl ?_
                refine go_bipush (x := (19 : Int32)) d23_460 (by decide) ?_
                refine go_iload d23_462 rfl ?_
                refine go_castore (v := f) A1094 (by omega) (i := 19) rfl (by rw [take_len hl63 (by decide)]; decide) (nar_ch hf) d23_464 (fun h1095 K1095 A1095 => ?_)
                have z1095 := K1095.1
                have A1095 : AI Z h1095 a1074 .char (cs63.take (19 + 1) ++ List.replicate (63 - (19 + 1)) 0) := set_take (i := 19) (c := f) hl63 (by rw [ecs63]; rfl) ▸ A1095
                refine go_dup d23_465 rfl ?_
                refine go_bipush (x := (20 : Int32)) d23_466 (by decide) ?_
                refine go_iload d23_468 rfl ?_
                refine go_castore (v := f) A1095 (by omega) (i := 20) rfl (by rw [take_len hl63 (by decide)]; decide) (nar_ch hf) d23_470 (fun h1096 K1096 A1096 => ?_)
                have z1096 := K1096.1
                have A1096 : AI Z h1096 a1074 .char (cs63.take (20 + 1) ++ List.replicate (63 - (20 + 1)) 0) := set_take (i := 20) (c := f) hl63 (by rw [ecs63]; rfl) ▸ A1096
                refine go_dup d23_471 rfl ?_
                refine go_bipush (x := (21 : Int32)) d23_472 (by decide) ?_
                refine go_iload d23_474 rfl ?_
                refine go_castore (v := f) A1096 (by omega) (i := 21) rfl (by rw [take_len hl63 (by decide)]; decide) (nar_ch hf) d23_476 (fun h1097 K1097 A1097 => ?_)
                have z1097 := K1097.1
                have A1097 : AI Z h1097 a1074 .char (cs63.take (21 + 1) ++ List.replicate (63 - (21 + 1)) 0) := set_take (i := 21) (c := f) hl63 (by rw [ecs63]; rfl) ▸ A1097
                refine go_dup d23_477 rfl ?_
                refine go_bipush (x := (22 : Int32)) d23_478 (by decide) ?_
                refine go_iload d23_480 rfl ?_
                refine go_castore (v := f) A1097 (by omega) (i := 22) rfl (by rw [take_len hl63 (by decide)]; decide) (nar_ch hf) d23_482 (fun h1098 K1098 A1098 => ?_)
                have z1098 := K1098.1
                have A1098 : AI Z h1098 a1074 .char (cs63.take (22 + 1) ++ List.replicate (63 - (22 + 1)) 0) := set_take (i := 22) (c := f) hl63 (by rw [ecs63]; rfl) ▸ A1098
                refine go_dup d23_483 rfl ?_
                refine go_bipush (x := (23 : Int32)) d23_484 (by decide) ?_
                refine go_iload d23_486 rfl ?_
                refine go_castore (v := f) A1098 (by omega) (i := 23) rfl (by rw [take_len hl63 (by decide)]; decide) (nar_ch hf) d23_488 (fun h1099 K1099 A1099 => ?_)
                have z1099 := K1099.1
                have A1099 : AI Z h1099 a1074 .char (cs63.take (23 + 1) ++ List.replicate (63 - (23 + 1)) 0) := set_take (i := 23) (c := f) hl63 (by rw [ecs63]; rfl) ▸ A1099
                refine go_dup d23_489 rfl ?_
                refine go_bipush (x := (24 : Int32)) d23_490 (by decide) ?_
                refine go_iload d23_492 rfl ?_
                refine go_castore (v := f) A1099 (by omega) (i := 24) rfl (by rw [take_len hl63 (by decide)]; decide) (nar_ch hf) d23_494 (fun h1100 K1100 A1100 => ?_)
                have z1100 := K1100.1
                have A1100 : AI Z h1100 a1074 .char (cs63.take (24 + 1) ++ List.replicate (63 - (24 + 1)) 0) := set_take (i := 24) (c := f) hl63 (by rw [ecs63]; rfl) ▸ A1100
                refine go_dup d23_495 rfl ?_
                refine go_bipush (x := (25 : Int32)) d23_496 (by decide) ?_
                refine go_iload d23_498 rfl ?_
                refine go_castore (v := f) A1100 (by omega) (i := 25) rfl (by rw [take_len hl63 (by decide)]; decide) (nar_ch hf) d23_500 (fun h1101 K1101 A1101 => ?_)
                have z1101 := K1101.1
                have A1101 : AI Z h1101 a1074 .char (cs63.take (25 + 1) ++ List.replicate (63 - (25 + 1)) 0) := set_take (i := 25) (c := f) hl63 (by rw [ecs63]; rfl) ▸ A1101
                refine go_dup d23_501 rfl ?_
                refine go_bipush (x := (26 : Int32)) d23_502 (by decide) ?_
                refine go_iload d23_504 rfl ?_
                refine go_castore (v := f) A1101 (by omega) (i := 26) rfl (by rw [take_len hl63 (by decide)]; decide) (nar_ch hf) d23_506 (fun h1102 K1102 A1102 => ?_)
                have z1102 := K1102.1
                have A1102 : AI Z h1102 a1074 .char (cs63.take (26 + 1) ++ List.replicate (63 - (26 + 1)) 0) := set_take (i := 26) (c := f) hl63 (by rw [ecs63]; rfl) ▸ A1102
                refine go_dup d23_507 rfl ?_
                refine go_bipush (x := (27 : Int32)) d23_508 (by decide) ?_
                refine go_iload d23_510 rfl ?_
                refine go_castore (v := f) A1102 (by omega) (i := 27) rfl (by rw [take_len hl63 (by decide)]; decide) (nar_ch hf) d23_512 (fun h1103 K1103 A1103 => ?_)
                have z1103 := K1103.1
                have A1103 : AI Z h1103 a1074 .char (cs63.take (27 + 1) ++ List.replicate (63 - (27 + 1)) 0) := set_take (i := 27) (c := f) hl63 (by rw [ecs63]; rfl) ▸ A1103
                refine go_dup d23_513 rfl ?_
                refine go_bipush (x := (28 : Int32)) d23_514 (by decide) ?_
                refine go_iload d23_516 rfl ?_
                refine go_castore (v := f) A1103 (by omega) (i := 28) rfl (by rw [take_len hl63 (by decide)]; decide) (nar_ch hf) d23_518 (fun h1104 K1104 A1104 => ?_)
                have z1104 := K1104.1
                have A1104 : AI Z h1104 a1074 .char (cs63.take (28 + 1) ++ List.replicate (63 - (28 + 1)) 0) := set_take (i := 28) (c := f) hl63 (by rw [ecs63]; rfl) ▸ A1104
                refine go_dup d23_519 rfl ?_
                refine go_bipush (x := (29 : Int32)) d23_520 (by decide) ?_
                refine go_iload d23_522 rfl ?_
                refine go_castore (v := f) A1104 (by omega) (i := 29) rfl (by rw [take_len hl63 (by decide)]; decide) (nar_ch hf) d23_524 (fun h1105 K1105 A1105 => ?_)
                have z1105 := K1105.1
                have A1105 : AI Z h1105 a1074 .char (cs63.take (29 + 1) ++ List.replicate (63 - (29 + 1)) 0) := set_take (i := 29) (c := f) hl63 (by rw [ecs63]; rfl) ▸ A1105
                refine go_dup d23_525 rfl ?_
                refine go_bipush (x := (30 : Int32)) d23_526 (by decide) ?_
                refine go_iload d23_528 rfl ?_
                refine go_castore (v := f) A1105 (by omega) (i := 30) rfl (by rw [take_len hl63 (by decide)]; decide) (nar_ch hf) d23_530 (fun h1106 K1106 A1106 => ?_)
                have z1106 := K1106.1
                have A1106 : AI Z h1106 a1074 .char (cs63.take (30 + 1) ++ List.replicate (63 - (30 + 1)) 0) := set_take (i := 30) (c := f) hl63 (by rw [ecs63]; rfl) ▸ A1106
                refine go_dup d23_531 rfl ?_
                refine go_bipush (x := (31 : Int32)) d23_532 (by decide) ?_
                refine go_iload d23_534 rfl ?_
                refine go_castore (v := f) A1106 (by omega) (i := 31) rfl (by rw [take_len hl63 (by decide)]; decide) (nar_ch hf) d23_536 (fun h1107 K1107 A1107 => ?_)
                have z1107 := K1107.1
                have A1107 : AI Z h1107 a1074 .char (cs63.take (31 + 1) ++ List.replicate (63 - (31 + 1)) 0) := set_take (i := 31) (c := f) hl63 (by rw [ecs63]; rfl) ▸ A1107
                refine go_dup d23_537 rfl ?_
                refine go_bipush (x := (32 : Int32)) d23_538 (by decide) ?_
                refine go_iload d23_540 rfl ?_
                refine go_castore (v := f) A1107 (by omega) (i := 32) rfl (by rw [take_len hl63 (by decide)]; decide) (nar_ch hf) d23_542 (fun h1108 K1108 A1108 => ?_)
                have z1108 := K1108.1
                have A1108 : AI Z h1108 a1074 .char (cs63.take (32 + 1) ++ List.replicate (63 - (32 + 1)) 0) := set_take (i := 32) (c := f) hl63 (by rw [ecs63]; rfl) ▸ A1108
                refine go_dup d23_543 rfl ?_
                refine go_bipush (x := (33 : Int32)) d23_544 (by decide) ?_
                refine go_iload d23_546 rfl ?_
                refine go_castore (v := f) A1108 (by omega) (i := 33) rfl (by rw [take_len hl63 (by decide)]; decide) (nar_ch hf) d23_548 (fun h1109 K1109 A1109 => ?_)
                have z1109 := K1109.1
                have A1109 : AI Z h1109 a1074 .char (cs63.take (33 + 1) ++ List.replicate (63 - (33 + 1)) 0) := set_take (i := 33) (c := f) hl63 (by rw [ecs63]; rfl) ▸ A1109
                refine go_dup d23_549 rfl ?_
                refine go_bipush (x := (34 : Int32)) d23_550 (by decide) ?_
                refine go_iload d23_552 rfl ?_
                refine go_castore (v := f) A1109 (by omega) (i := 34) rfl (by rw [take_len hl63 (by decide)]; decide) (nar_ch hf) d23_554 (fun h1110 K1110 A1110 => ?_)
                have z1110 := K1110.1
                have A1110 : AI Z h1110 a1074 .char (cs63.take (34 + 1) ++ List.replicate (63 - (34 + 1)) 0) := set_take (i := 34) (c := f) hl63 (by rw [ecs63]; rfl) ▸ A1110
                refine go_dup d23_555 rfl ?_
                refine go_bipush (x := (35 : Int32)) d23_556 (by decide) ?_
                refine go_iload d23_558 rfl ?_
                refine go_castore (v := f) A1110 (by omega) (i := 35) rfl (by rw [take_len hl63 (by decide)]; decide) (nar_ch hf) d23_560 (fun h1111 K1111 A1111 => ?_)
                have z1111 := K1111.1
                have A1111 : AI Z h1111 a1074 .char (cs63.take (35 + 1) ++ List.replicate (63 - (35 + 1)) 0) := set_take (i := 35) (c := f) hl63 (by rw [ecs63]; rfl) ▸ A1111
                refine go_dup d23_561 rfl ?_
                refine go_bipush (x := (36 : Int32)) d23_562 (by decide) ?_
                refine go_iload d23_564 rfl ?_
                refine go_castore (v := f) A1111 (by omega) (i := 36) rfl (by rw [take_len hl63 (by decide)]; decide) (nar_ch hf) d23_566 (fun h1112 K1112 A1112 => ?_)
                have z1112 := K1112.1
                have A1112 : AI Z h1112 a1074 .char (cs63.take (36 + 1) ++ List.replicate (63 - (36 + 1)) 0) := set_take (i := 36) (c := f) hl63 (by rw [ecs63]; rfl) ▸ A1112
                refine go_dup d23_567 rfl ?_
                refine go_bipush (x := (37 : Int32)) d23_568 (by decide) ?_
                refine go_iload d23_570 rfl ?_
                refine go_castore (v := f) A1112 (by omega) (i := 37) rfl (by rw [take_len hl63 (by decide)]; decide) (nar_ch hf) d23_572 (fun h1113 K1113 A1113 => ?_)
                have z1113 := K1113.1
                have A1113 : AI Z h1113 a1074 .char (cs63.take (37 + 1) ++ List.replicate (63 - (37 + 1)) 0) := set_take (i := 37) (c := f) hl63 (by rw [ecs63]; rfl) ▸ A1113
                refine go_dup d23_573 rfl ?_
                refine go_bipush (x := (38 : Int32)) d23_574 (by decide) ?_
                refine go_iload d23_576 rfl ?_
                refine go_castore (v := f) A1113 (by omega) (i := 38) rfl (by rw [take_len hl63 (by decide)]; decide) (nar_ch hf) d23_578 (fun h1114 K1114 A1114 => ?_)
                have z1114 := K1114.1
                have A1114 : AI Z h1114 a1074 .char (cs63.take (38 + 1) ++ List.replicate (63 - (38 + 1)) 0) := set_take (i := 38) (c := f) hl63 (by rw [ecs63]; rfl) ▸ A1114
                refine go_dup d23_579 rfl ?_
                refine go_bipush (x := (39 : Int32)) d23_580 (by decide) ?_
                refine go_iload d23_582 rfl ?_
                refine go_castore (v := f) A1114 (by omega) (i := 39) rfl (by rw [take_len hl63 (by decide)]; decide) (nar_ch hf) d23_584 (fun h1115 K1115 A1115 => ?_)
                have z1115 := K1115.1
                have A1115 : AI Z h1115 a1074 .char (cs63.take (39 + 1) ++ List.replicate (63 - (39 + 1)) 0) := set_take (i := 39) (c := f) hl63 (by rw [ecs63]; rfl) ▸ A1115
                refine go_dup d23_585 rfl ?_
                refine go_bipush (x := (40 : Int32)) d23_586 (by decide) ?_
                refine go_iload d23_588 rfl ?_
                refine go_castore (v := f) A1115 (by omega) (i := 40) rfl (by rw [take_len hl63 (by decide)]; decide) (nar_ch hf) d23_590 (fun h1116 K1116 A1116 => ?_)
                have z1116 := K1116.1
                have A1116 : AI Z h1116 a1074 .char (cs63.take (40 + 1) ++ List.replicate (63 - (40 + 1)) 0) := set_take (i := 40) (c := f) hl63 (by rw [ecs63]; rfl) ▸ A1116
                refine go_dup d23_591 rfl ?_
                refine go_bipush (x := (41 : Int32)) d23_592 (by decide) ?_
                refine go_iload d23_594 rfl ?_
                refine go_castore (v := f) A1116 (by omega) (i := 41) rfl (by rw [take_len hl63 (by decide)]; decide) (nar_ch hf) d23_596 (fun h1117 K1117 A1117 => ?_)
                have z1117 := K1117.1
                have A1117 : AI Z h1117 a1074 .char (cs63.take (41 + 1) ++ List.replicate (63 - (41 + 1)) 0) := set_take (i := 41) (c := f) hl63 (by rw [ecs63]; rfl) ▸ A1117
                refine go_dup d23_597 rfl ?_
                refine go_bipush (x := (42 : Int32)) d23_598 (by decide) ?_
                refine go_iload d23_600 rfl ?_
                refine go_castore (v := f) A1117 (by omega) (i := 42) rfl (by rw [take_len hl63 (by decide)]; decide) (nar_ch hf) d23_602 (fun h1118 K1118 A1118 => ?_)
                have z1118 := K1118.1
                have A1118 : AI Z h1118 a1074 .char (cs63.take (42 + 1) ++ List.replicate (63 - (42 + 1)) 0) := set_take (i := 42) (c := f) hl63 (by rw [ecs63]; rfl) ▸ A1118
                refine go_dup d23_603 rfl ?_
                refine go_bipush (x := (43 : Int32)) d23_604 (by decide) ?_
                refine go_iload d23_606 rfl ?_
                refine go_castore (v := f) A1118 (by omega) (i := 43) rfl (by rw [take_len hl63 (by decide)]; decide) (nar_ch hf) d23_608 (fun h1119 K1119 A1119 => ?_)
                have z1119 := K1119.1
                have A1119 : AI Z h1119 a1074 .char (cs63.take (43 + 1) ++ List.replicate (63 - (43 + 1)) 0) := set_take (i := 43) (c := f) hl63 (by rw [ecs63]; rfl) ▸ A1119
                refine go_dup d23_609 rfl ?_
                refine go_bipush (x := (44 : Int32)) d23_610 (by decide) ?_
                refine go_iload d23_612 rfl ?_
                refine go_castore (v := f) A1119 (by omega) (i := 44) rfl (by rw [take_len hl63 (by decide)]; decide) (nar_ch hf) d23_614 (fun h1120 K1120 A1120 => ?_)
                have z1120 := K1120.1
                have A1120 : AI Z h1120 a1074 .char (cs63.take (44 + 1) ++ List.replicate (63 - (44 + 1)) 0) := set_take (i := 44) (c := f) hl63 (by rw [ecs63]; rfl) ▸ A1120
                refine go_dup d23_615 rfl ?_
                refine go_bipush (x := (45 : Int32)) d23_616 (by decide) ?_
                refine go_iload d23_618 rfl ?_
                refine go_castore (v := f) A1120 (by omega) (i := 45) rfl (by rw [take_len hl63 (by decide)]; decide) (nar_ch hf) d23_620 (fun h1121 K1121 A1121 => ?_)
                have z1121 := K1121.1
                have A1121 : AI Z h1121 a1074 .char (cs63.take (45 + 1) ++ List.replicate (63 - (45 + 1)) 0) := set_take (i := 45) (c := f) hl63 (by rw [ecs63]; rfl) ▸ A1121
                refine go_dup d23_621 rfl ?_
                refine go_bipush (x := (46 : Int32)) d23_622 (by decide) ?_
                refine go_iload d23_624 rfl ?_
                refine go_castore (v := f) A1121 (by omega) (i := 46) rfl (by rw [take_len hl63 (by decide)]; decide) (nar_ch hf) d23_626 (fun h1122 K1122 A1122 => ?_)
                have z1122 := K1122.1
                have A1122 : AI Z h1122 a1074 .char (cs63.take (46 + 1) ++ List.replicate (63 - (46 + 1)) 0) := set_take (i := 46) (c := f) hl63 (by rw [ecs63]; rfl) ▸ A1122
                refine go_dup d23_627 rfl ?_
                refine go_bipush (x := (47 : Int32)) d23_628 (by decide) ?_
                refine go_iload d23_630 rfl ?_
                refine go_castore (v := f) A1122 (by omega) (i := 47) rfl (by rw [take_len hl63 (by decide)]; decide) (nar_ch hf) d23_632 (fun h1123 K1123 A1123 => ?_)
                have z1123 := K1123.1
                have A1123 : AI Z h1123 a1074 .char (cs63.take (47 + 1) ++ List.replicate (63 - (47 + 1)) 0) := set_take (i := 47) (c := f) hl63 (by rw [ecs63]; rfl) ▸ A1123
                refine go_dup d23_633 rfl ?_
                refine go_bipush (x := (48 : Int32)) d23_634 (by decide) ?_
                refine go_iload d23_636 rfl ?_
                refine go_castore (v := f) A1123 (by omega) (i := 48) rfl (by rw [take_len hl63 (by decide)]; decide) (nar_ch hf) d23_638 (fun h1124 K1124 A1124 => ?_)
                have z1124 := K1124.1
                have A1124 : AI Z h1124 a1074 .char (cs63.take (48 + 1) ++ List.replicate (63 - (48 + 1)) 0) := set_take (i := 48) (c := f) hl63 (by rw [ecs63]; rfl) ▸ A1124
                refine go_dup d23_639 rfl ?_
                refine go_bipush (x := (49 : Int32)) d23_640 (by decide) ?_
                refine go_iload d23_642 rfl ?_
                refine go_castore (v := f) A1124 (by omega) (i := 49) rfl (by rw [take_len hl63 (by decide)]; decide) (nar_ch hf) d23_644 (fun h1125 K1125 A1125 => ?_)
                have z1125 := K1125.1
                have A1125 : AI Z h1125 a1074 .char (cs63.take (49 + 1) ++ List.replicate (63 - (49 + 1)) 0) := set_take (i := 49) (c := f) hl63 (by rw [ecs63]; rfl) ▸ A1125
                refine go_dup d23_645 rfl ?_
                refine go_bipush (x := (50 : Int32)) d23_646 (by decide) ?_
                refine go_iload d23_648 rfl ?_
                refine go_castore (v := f) A1125 (by omega) (i := 50) rfl (by rw [take_len hl63 (by decide)]; decide) (nar_ch hf) d23_650 (fun h1126 K1126 A1126 => ?_)
                have z1126 := K1126.1
                have A1126 : AI Z h1126 a1074 .char (cs63.take (50 + 1) ++ List.replicate (63 - (50 + 1)) 0) := set_take (i := 50) (c := f) hl63 (by rw [ecs63]; rfl) ▸ A1126
                refine go_dup d23_651 rfl ?_
                refine go_bipush (x := (51 : Int32)) d23_652 (by decide) ?_
                refine go_iload d23_654 rfl ?_
                refine go_castore (v := f) A1126 (by omega) (i := 51) rfl (by rw [take_len hl63 (by decide)]; decide) (nar_ch hf) d23_656 (fun h1127 K1127 A1127 => ?_)
                have z1127 := K1127.1
                have A1127 : AI Z h1127 a1074 .char (cs63.take (51 + 1) ++ List.replicate (63 - (51 + 1)) 0) := set_take (i := 51) (c := f) hl63 (by rw [ecs63]; rfl) ▸ A1127
                refine go_dup d23_657 rfl ?_
                refine go_bipush (x := (52 : Int32)) d23_658 (by decide) ?_
                refine go_iload d23_660 rfl ?_
                refine go_castore (v := f) A1127 (by omega) (i := 52) rfl (by rw [take_len hl63 (by decide)]; decide) (nar_ch hf) d23_662 (fun h1128 K1128 A1128 => ?_)
                have z1128 := K1128.1
                have A1128 : AI Z h1128 a1074 .char (cs63.take (52 + 1) ++ List.replicate (63 - (52 + 1)) 0) := set_take (i := 52) (c := f) hl63 (by rw [ecs63]; rfl) ▸ A1128
                refine go_dup d23_663 rfl ?_
                refine go_bipush (x := (53 : Int32)) d23_664 (by decide) ?_
                refine go_iload d23_666 rfl ?_
                refine go_castore (v := f) A1128 (by omega) (i := 53) rfl (by rw [take_len hl63 (by decide)]; decide) (nar_ch hf) d23_668 (fun h1129 K1129 A1129 => ?_)
                have z1129 := K1129.1
                have A1129 : AI Z h1129 a1074 .char (cs63.take (53 + 1) ++ List.replicate (63 - (53 + 1)) 0) := set_take (i := 53) (c := f) hl63 (by rw [ecs63]; rfl) ▸ A1129
                refine go_dup d23_669 rfl ?_
                refine go_bipush (x := (54 : Int32)) d23_670 (by decide) ?_
                refine go_iload d23_672 rfl ?_
                refine go_castore (v := f) A1129 (by omega) (i := 54) rfl (by rw [take_len hl63 (by decide)]; decide) (nar_ch hf) d23_674 (fun h1130 K1130 A1130 => ?_)
                have z1130 := K1130.1
                have A1130 : AI Z h1130 a1074 .char (cs63.take (54 + 1) ++ List.replicate (63 - (54 + 1)) 0) := set_take (i := 54) (c := f) hl63 (by rw [ecs63]; rfl) ▸ A1130
                refine go_dup d23_675 rfl ?_
                refine go_bipush (x := (55 : Int32)) d23_676 (by decide) ?_
                refine go_iload d23_678 rfl ?_
                refine go_castore (v := f) A1130 (by omega) (i := 55) rfl (by rw [take_len hl63 (by decide)]; decide) (nar_ch hf) d23_680 (fun h1131 K1131 A1131 => ?_)
                have z1131 := K1131.1
                have A1131 : AI Z h1131 a1074 .char (cs63.take (55 + 1) ++ List.replicate (63 - (55 + 1)) 0) := set_take (i := 55) (c := f) hl63 (by rw [ecs63]; rfl) ▸ A1131
                refine go_dup d23_681 rfl ?_
                refine go_bipush (x := (56 : Int32)) d23_682 (by decide) ?_
                refine go_iload d23_684 rfl ?_
                refine go_castore (v := f) A1131 (by omega) (i := 56) rfl (by rw [take_len hl63 (by decide)]; decide) (nar_ch hf) d23_686 (fun h1132 K1132 A1132 => ?_)
                have z1132 := K1132.1
                have A1132 : AI Z h1132 a1074 .char (cs63.take (56 + 1) ++ List.replicate (63 - (56 + 1)) 0) := set_take (i := 56) (c := f) hl63 (by rw [ecs63]; rfl) ▸ A1132
                refine go_dup d23_687 rfl ?_
                refine go_bipush (x := (57 : Int32)) d23_688 (by decide) ?_
                refine go_iload d23_690 rfl ?_
                refine go_castore (v := f) A1132 (by omega) (i := 57) rfl (by rw [take_len hl63 (by decide)]; decide) (nar_ch hf) d23_692 (fun h1133 K1133 A1133 => ?_)
                have z1133 := K1133.1
                have A1133 : AI Z h1133 a1074 .char (cs63.take (57 + 1) ++ List.replicate (63 - (57 + 1)) 0) := set_take (i := 57) (c := f) hl63 (by rw [ecs63]; rfl) ▸ A1133
                refine go_dup d23_693 rfl ?_
                refine go_bipush (x := (58 : Int32)) d23_694 (by decide) ?_
                refine go_iload d23_696 rfl ?_
                refine go_castore (v := f) A1133 (by omega) (i := 58) rfl (by rw [take_len hl63 (by decide)]; decide) (nar_ch hf) d23_698 (fun h1134 K1134 A1134 => ?_)
                have z1134 := K1134.1
                have A1134 : AI Z h1134 a1074 .char (cs63.take (58 + 1) ++ List.replicate (63 - (58 + 1)) 0) := set_take (i := 58) (c := f) hl63 (by rw [ecs63]; rfl) ▸ A1134
                refine go_dup d23_699 rfl ?_
                refine go_bipush (x := (59 : Int32)) d23_700 (by decide) ?_
                refine go_iload d23_702 rfl ?_
                refine go_castore (v := f) A1134 (by omega) (i := 59) rfl (by rw [take_len hl63 (by decide)]; decide) (nar_ch hf) d23_704 (fun h1135 K1135 A1135 => ?_)
                have z1135 := K1135.1
                have A1135 : AI Z h1135 a1074 .char (cs63.take (59 + 1) ++ List.replicate (63 - (59 + 1)) 0) := set_take (i := 59) (c := f) hl63 (by rw [ecs63]; rfl) ▸ A1135
                refine go_dup d23_705 rfl ?_
                refine go_bipush (x := (60 : Int32)) d23_706 (by decide) ?_
                refine go_iload d23_708 rfl ?_
                refine go_castore (v := f) A1135 (by omega) (i := 60) rfl (by rw [take_len hl63 (by decide)]; decide) (nar_ch hf) d23_710 (fun h1136 K1136 A1136 => ?_)
                have z1136 := K1136.1
                have A1136 : AI Z h1136 a1074 .char (cs63.take (60 + 1) ++ List.replicate (63 - (60 + 1)) 0) := set_take (i := 60) (c := f) hl63 (by rw [ecs63]; rfl) ▸ A1136
                refine go_dup d23_711 rfl ?_
                refine go_bipush (x := (61 : Int32)) d23_712 (by decide) ?_
                refine go_iload d23_714 rfl ?_
                refine go_castore (v := y) A1136 (by omega) (i := 61) rfl (by rw [take_len hl63 (by decide)]; decide) (nar_ch hy) d23_716 (fun h1137 K1137 A1137 => ?_)
                have z1137 := K1137.1
                have A1137 : AI Z h1137 a1074 .char (cs63.take (61 + 1) ++ List.replicate (63 - (61 + 1)) 0) := set_take (i := 61) (c := y) hl63 (by rw [ecs63]; rfl) ▸ A1137
                refine go_dup d23_717 rfl ?_
                refine go_bipush (x := (62 : Int32)) d23_718 (by decide) ?_
                refine go_iload d23_720 rfl ?_
                refine go_castore (v := z) A1137 (by omega) (i := 62) rfl (by rw [take_len hl63 (by decide)]; decide) (nar_ch hz) d23_722 (fun h1138 K1138 A1138 => ?_)
                have z1138 := K1138.1
                have A1138 : AI Z h1138 a1074 .char (cs63.take (62 + 1) ++ List.replicate (63 - (62 + 1)) 0) := set_take (i := 62) (c := z) hl63 (by rw [ecs63]; rfl) ▸ A1138
                refine go_astore d23_723 rfl (l' := #[.val (.int p0), .val (.int p1), .val (.int p2), .val (.int p3), .val (.int a), .val (.int b), .val (.int y), .val (.int z), .val (.int f), .val (.int (p0 &&& (7 : Int32))), .val (.ref a1074), .unset]) rfl ?_
                refine go_iload d23_725 rfl ?_
                refine go_static (R := room_1) (kc := 23) (ks := 1601) [.int a] [] (c_first l Z a0 hw hEL a S1074 h1138) (hw _ (List.mem_of_getElem? (i := 37) rfl)) (hw _ (List.mem_of_getElem? (i := 38) rfl)) (hw _ (List.mem_of_getElem? (i := 40) rfl)) (hw _ (List.mem_of_getElem? (i := 39) rfl)) (by decide) rfl rfl (lenOf pd14 rfl) d23_727 (by rfl) (by decide) (Nat.le_of_ble_eq_true rfl) (rc := 0) (rs := 0) rfl rfl (fun S1139 v1139 h1139 m1139 z1139 q1139 => ?_)
                rcases q1139 with ⟨p1139, rfl, rfl⟩ | ⟨p1139, rfl, rfl⟩
                · show Go _ _ _ _ _ _ _ _ _ _ _ _ _ _ _ _ _ (mkF K.m 730 #[.val (.int p0), .val (.int p1), .val (.int p2), .val (.int p3), .val (.int a), .val (.int b), .val (.int y), .val (.int z), .val (.int f), .val (.int (p0 &&& (7 : Int32))), .val (.ref a1074), .unset] [.int (1 : Int32)])
                  refine go_ifeq d23_730 (fun c1140 => absurd c1140 (by decide)) (fun c1140 => ?_)
                  refine go_iload d23_733 rfl ?_
                  refine go_static (R := room_1) (kc := 23) (ks := 1601) [.int b] [] (c_inner l Z a0 hw hEL b S1139 h1138) (hw _ (List.mem_of_getElem? (i := 41) rfl)) (hw _ (List.mem_of_getElem? (i := 42) rfl)) (hw _ (List.mem_of_getElem? (i := 43) rfl)) (hw _ (List.mem_of_getElem? (i := 39) rfl)) (by decide) rfl rfl (lenOf pd14 rfl) d23_735 (by rfl) (by decide) (Nat.le_of_ble_eq_true rfl) (rc := 0) (rs := 0) rfl rfl (fun S1141 v1141 h1141 m1141 z1141 q1141 => ?_)
                  rcases q1141 with ⟨p1141, rfl, rfl⟩ | ⟨p1141, rfl, rfl⟩
                  · show Go _ _ _ _ _ _ _ _ _ _ _ _ _ _ _ _ _ (mkF K.m 738 #[.val (.int p0), .val (.int p1), .val (.int p2), .val (.int p3), .val (.int a), .val (.int b), .val (.int y), .val (.int z), .val (.int f), .val (.int (p0 &&& (7 : Int32))), .val (.ref a1074), .unset] [.int (1 : Int32)])
                    refine go_ifeq d23_738 (fun c1142 => absurd c1142 (by decide)) (fun c1142 => ?_)
                    refine go_iload d23_741 rfl ?_
                    refine go_static (R := room_1) (kc := 23) (ks := 1601) [.int f] [] (c_inner l Z a0 hw hEL f S1141 h1138) (hw _ (List.mem_of_getElem? (i := 41) rfl)) (hw _ (List.mem_of_getElem? (i := 42) rfl)) (hw _ (List.mem_of_getElem? (i := 43) rfl)) (hw _ (List.mem_of_getElem? (i := 39) rfl)) (by decide) rfl rfl (lenOf pd14 rfl) d23_743 (by rfl) (by decide) (Nat.le_of_ble_eq_true rfl) (rc := 0) (rs := 0) rfl rfl (fun S1143 v1143 h1143 m1143 z1143 q1143 => ?_)
                    rcases q1143 with ⟨p1143, rfl, rfl⟩ | ⟨p1143, rfl, rfl⟩
                    · show Go _ _ _ _ _ _ _ _ _ _ _ _ _ _ _ _ _ (mkF K.m 746 #[.val (.int p0), .val (.int p1), .val (.int p2), .val (.int p3), .val (.int a), .val (.int b), .val (.int y), .val (.int z), .val (.int f), .val (.int (p0 &&& (7 : Int32))), .val (.ref a1074), .unset] [.int (1 : Int32)])
                      refine go_ifeq d23_746 (fun c1144 => absurd c1144 (by decide)) (fun c1144 => ?_)
                      refine go_iload d23_749 rfl ?_
                      refine go_static (R := room_1) (kc := 23) (ks := 1601) [.int y] [] (c_inner l Z a0 hw hEL y S1143 h1138) (hw _ (List.mem_of_getElem? (i := 41) rfl)) (hw _ (List.mem_of_getElem? (i := 42) rfl)) (hw _ (List.mem_of_getElem? (i := 43) rfl)) (hw _ (List.mem_of_getElem? (i := 39) rfl)) (by decide) rfl rfl (lenOf pd14 rfl) d23_751 (by rfl) (by decide) (Nat.le_of_ble_eq_true rfl) (rc := 0) (rs := 0) rfl rfl (fun S1145 v1145 h1145 m1145 z1145 q1145 => ?_)
                      rcases q1145 with ⟨p1145, rfl, rfl⟩ | ⟨p1145, rfl, rfl⟩
                      · show Go _ _ _ _ _ _ _ _ _ _ _ _ _ _ _ _ _ (mkF K.m 754 #[.val (.int p0), .val (.int p1), .val (.int p2), .val (.int p3), .val (.int a), .val (.int b), .val (.int y), .val (.int z), .val (.int f), .val (.int (p0 &&& (7 : Int32))), .val (.ref a1074), .unset] [.int (1 : Int32)])
                        refine go_ifeq d23_754 (fun c1146 => absurd c1146 (by decide)) (fun c1146 => ?_)
                        refine go_iload d23_757 rfl ?_
                        refine go_static (R := room_1) (kc := 23) (ks := 1601) [.int z] [] (c_inner l Z a0 hw hEL z S1145 h1138) (hw _ (List.mem_of_getElem? (i := 41) rfl)) (hw _ (List.mem_of_getElem? (i := 42) rfl)) (hw _ (List.mem_of_getElem? (i := 43) rfl)) (hw _ (List.mem_of_getElem? (i := 39) rfl)) (by decide) rfl rfl (lenOf pd14 rfl) d23_759 (by rfl) (by decide) (Nat.le_of_ble_eq_true rfl) (rc := 0) (rs := 0) rfl rfl (fun S1147 v1147 h1147 m1147 z1147 q1147 => ?_)
                        rcases q1147 with ⟨p1147, rfl, rfl⟩ | ⟨p1147, rfl, rfl⟩
                        · show Go _ _ _ _ _ _ _ _ _ _ _ _ _ _ _ _ _ (mkF K.m 762 #[.val (.int p0), .val (.int p1), .val (.int p2), .val (.int p3), .val (.int a), .val (.int b), .val (.int y), .val (.int z), .val (.int f), .val (.int (p0 &&& (7 : Int32))), .val (.ref a1074), .unset] [.int (1 : Int32)])
                          refine go_ifeq d23_762 (fun c1148 => absurd c1148 (by decide)) (fun c1148 => ?_)
                          refine go_iconst (x := (1 : Int32)) d23_765 (by decide) ?_
                          refine go_goto d23_766 ?_
                          refine go_istore d23_770 (l' := #[.val (.int p0), .val (.int p1), .val (.int p2), .val (.int p3), .val (.int a), .val (.int b), .val (.int y), .val (.int z), .val (.int f), .val (.int (p0 &&& (7 : Int32))), .val (.ref a1074), .val (.int (1 : Int32))]) rfl ?_
                          refine go_goto d23_772 ?_
                          have B1149 : AI Z h1138 a1074 .char ([a, b, f, f, f, f, f, f, f, f, f, f, f, f, f, f, f, f, f, f, f, f, f, f, f, f, f, f, f, f, f, f, f, f, f, f, f, f, f, f, f, f, f, f, f, f, f, f, f, f, f, f, f, f, f, f, f, f, f, f, f, y, z] : List Int32) := ecs63 ▸ (take_all hl63 ▸ A1138)
                          exact (tail _ _ _ _ S1147 h1138 (by omega) B1149 (by simp) (Or.inl ⟨⟨by simp, by simp, own_all_cons.mpr ⟨p1139, by intro d hd; simp only [List.mem_cons, List.not_mem_nil, or_false] at hd; rcases hd with rfl | rfl | rfl | rfl | rfl | rfl | rfl | rfl | rfl | rfl | rfl | rfl | rfl | rfl | rfl | rfl | rfl | rfl | rfl | rfl | rfl | rfl | rfl | rfl | rfl | rfl | rfl | rfl | rfl | rfl | rfl | rfl | rfl | rfl | rfl | rfl | rfl | rfl | rfl | rfl | rfl | rfl | rfl | rfl | rfl | rfl | rfl | rfl | rfl | rfl | rfl | rfl | rfl | rfl | rfl | rfl | rfl | rfl | rfl | rfl | rfl | rfl <;> assumption⟩⟩, rfl⟩)).weak (by decide) (by decide)
                        · show Go _ _ _ _ _ _ _ _ _ _ _ _ _ _ _ _ _ (mkF K.m 762 #[.val (.int p0), .val (.int p1), .val (.int p2), .val (.int p3), .val (.int a), .val (.int b), .val (.int y), .val (.int z), .val (.int f), .val (.int (p0 &&& (7 : Int32))), .val (.ref a1074), .unset] [.int (0 : Int32)])
                          refine go_ifeq d23_762 (fun c1150 => ?_) (fun c1150 => absurd (rfl) c1150)
                          refine go_iconst (x := (0 : Int32)) d23_769 (by decide) ?_
                          refine go_istore d23_770 (l' := #[.val (.int p0), .val (.int p1), .val (.int p2), .val (.int p3), .val (.int a), .val (.int b), .val (.int y), .val (.int z), .val (.int f), .val (.int (p0 &&& (7 : Int32))), .val (.ref a1074), .val (.int (0 : Int32))]) rfl ?_
                          refine go_goto d23_772 ?_
                          have B1151 : AI Z h1138 a1074 .char ([a, b, f, f, f, f, f, f, f, f, f, f, f, f, f, f, f, f, f, f, f, f, f, f, f, f, f, f, f, f, f, f, f, f, f, f, f, f, f, f, f, f, f, f, f, f, f, f, f, f, f, f, f, f, f, f, f, f, f, f, f, y, z] : List Int32) := ecs63 ▸ (take_all hl63 ▸ A1138)
                          exact (tail _ _ _ _ S1147 h1138 (by omega) B1151 (by simp) (Or.inr ⟨fun q => p1147 ((own_all_cons.mp q.2.2).2 z (by simp)), rfl⟩)).weak (by decide) (by decide)
                      · show Go _ _ _ _ _ _ _ _ _ _ _ _ _ _ _ _ _ (mkF K.m 754 #[.val (.int p0), .val (.int p1), .val (.int p2), .val (.int p3), .val (.int a), .val (.int b), .val (.int y), .val (.int z), .val (.int f), .val (.int (p0 &&& (7 : Int32))), .val (.ref a1074), .unset] [.int (0 : Int32)])
                        refine go_ifeq d23_754 (fun c1152 => ?_) (fun c1152 => absurd (rfl) c1152)
                        refine go_iconst (x := (0 : Int32)) d23_769 (by decide) ?_
                        refine go_istore d23_770 (l' := #[.val (.int p0), .val (.int p1), .val (.int p2), .val (.int p3), .val (.int a), .val (.int b), .val (.int y), .val (.int z), .val (.int f), .val (.int (p0 &&& (7 : Int32))), .val (.ref a1074), .val (.int (0 : Int32))]) rfl ?_
                        refine go_goto d23_772 ?_
                        have B1153 : AI Z h1138 a1074 .char ([a, b, f, f, f, f, f, f, f, f, f, f, f, f, f, f, f, f, f, f, f, f, f, f, f, f, f, f, f, f, f, f, f, f, f, f, f, f, f, f, f, f, f, f, f, f, f, f, f, f, f, f, f, f, f, f, f, f, f, f, f, y, z] : List Int32) := ecs63 ▸ (take_all hl63 ▸ A1138)
                        exact (tail _ _ _ _ S1145 h1138 (by omega) B1153 (by simp) (Or.inr ⟨fun q => p1145 ((own_all_cons.mp q.2.2).2 y (by simp)), rfl⟩)).weak (by decide) (by decide)
                    · show Go _ _ _ _ _ _ _ _ _ _ _ _ _ _ _ _ _ (mkF K.m 746 #[.val (.int p0), .val (.int p1), .val (.int p2), .val (.int p3), .val (.int a), .val (.int b), .val (.int y), .val (.int z), .val (.int f), .val (.int (p0 &&& (7 : Int32))), .val (.ref a1074), .unset] [.int (0 : Int32)])
                      refine go_ifeq d23_746 (fun c1154 => ?_) (fun c1154 => absurd (rfl) c1154)
                      refine go_iconst (x := (0 : Int32)) d23_769 (by decide) ?_
                      refine go_istore d23_770 (l' := #[.val (.int p0), .val (.int p1), .val (.int p2), .val (.int p3), .val (.int a), .val (.int b), .val (.int y), .val (.int z), .val (.int f), .val (.int (p0 &&& (7 : Int32))), .val (.ref a1074), .val (.int (0 : Int32))]) rfl ?_
                      refine go_goto d23_772 ?_
                      have B1155 : AI Z h1138 a1074 .char ([a, b, f, f, f, f, f, f, f, f, f, f, f, f, f, f, f, f, f, f, f, f, f, f, f, f, f, f, f, f, f, f, f, f, f, f, f, f, f, f, f, f, f, f, f, f, f, f, f, f, f, f, f, f, f, f, f, f, f, f, f, y, z] : List Int32) := ecs63 ▸ (take_all hl63 ▸ A1138)
                      exact (tail _ _ _ _ S1143 h1138 (by omega) B1155 (by simp) (Or.inr ⟨fun q => p1143 ((own_all_cons.mp q.2.2).2 f (by simp)), rfl⟩)).weak (by decide) (by decide)
                  · show Go _ _ _ _ _ _ _ _ _ _ _ _ _ _ _ _ _ (mkF K.m 738 #[.val (.int p0), .val (.int p1), .val (.int p2), .val (.int p3), .val (.int a), .val (.int b), .val (.int y), .val (.int z), .val (.int f), .val (.int (p0 &&& (7 : Int32))), .val (.ref a1074), .unset] [.int (0 : Int32)])
                    refine go_ifeq d23_738 (fun c1156 => ?_) (fun c1156 => absurd (rfl) c1156)
                    refine go_iconst (x := (0 : Int32)) d23_769 (by decide) ?_
                    refine go_istore d23_770 (l' := #[.val (.int p0), .val (.int p1), .val (.int p2), .val (.int p3), .val (.int a), .val (.int b), .val (.int y), .val (.int z), .val (.int f), .val (.int (p0 &&& (7 : Int32))), .val (.ref a1074), .val (.int (0 : Int32))]) rfl ?_
                    refine go_goto d23_772 ?_
                    have B1157 : AI Z h1138 a1074 .char ([a, b, f, f, f, f, f, f, f, f, f, f, f, f, f, f, f, f, f, f, f, f, f, f, f, f, f, f, f, f, f, f, f, f, f, f, f, f, f, f, f, f, f, f, f, f, f, f, f, f, f, f, f, f, f, f, f, f, f, f, f, y, z] : List Int32) := ecs63 ▸ (take_all hl63 ▸ A1138)
                    exact (tail _ _ _ _ S1141 h1138 (by omega) B1157 (by simp) (Or.inr ⟨fun q => p1141 ((own_all_cons.mp q.2.2).2 b (by simp)), rfl⟩)).weak (by decide) (by decide)
                · show Go _ _ _ _ _ _ _ _ _ _ _ _ _ _ _ _ _ (mkF K.m 730 #[.val (.int p0), .val (.int p1), .val (.int p2), .val (.int p3), .val (.int a), .val (.int b), .val (.int y), .val (.int z), .val (.int f), .val (.int (p0 &&& (7 : Int32))), .val (.ref a1074), .unset] [.int (0 : Int32)])
                  refine go_ifeq d23_730 (fun c1158 => ?_) (fun c1158 => absurd (rfl) c1158)
                  refine go_iconst (x := (0 : Int32)) d23_769 (by decide) ?_
                  refine go_istore d23_770 (l' := #[.val (.int p0), .val (.int p1), .val (.int p2), .val (.int p3), .val (.int a), .val (.int b), .val (.int y), .val (.int z), .val (.int f), .val (.int (p0 &&& (7 : Int32))), .val (.ref a1074), .val (.int (0 : Int32))]) rfl ?_
                  refine go_goto d23_772 ?_
                  have B1159 : AI Z h1138 a1074 .char ([a, b, f, f, f, f, f, f, f, f, f, f, f, f, f, f, f, f, f, f, f, f, f, f, f, f, f, f, f, f, f, f, f, f, f, f, f, f, f, f, f, f, f, f, f, f, f, f, f, f, f, f, f, f, f, f, f, f, f, f, f, y, z] : List Int32) := ecs63 ▸ (take_all hl63 ▸ A1138)
                  exact (tail _ _ _ _ S1139 h1138 (by omega) B1159 (by simp) (Or.inr ⟨fun q => p1139 (own_all_cons.mp q.2.2).1, rfl⟩)).weak (by decide) (by decide)
            · refine go_iconst (x := (5 : Int32)) d23_260 (by decide) ?_
              obtain ⟨cs5, ecs5⟩ : ∃ q, q = ([a, b, y, z, f] : List Int32) := ⟨_, rfl⟩
              have hl5 : cs5.length = 5 := by rw [ecs5]; rfl
              refine go_newarr (kc := 23) (ks := 1659) (N := 5) (cap := 5) (hw _ (List.mem_of_getElem? (i := 0) rfl)) rfl (Nat.le_refl _) (by decide) rfl rfl d23_261 (fun S1160 h1160 a1160 e1160 m1160 s1160 x1160 l1160 A1160 => ?_)
              have z1160 := x1160.1
              have A1160 : AI Z h1160 a1160 .char (List.replicate 5 0) := A1160
              have A1161 : AI Z h1160 a1160 .char (cs5.take 0 ++ List.replicate (5 - 0) 0) := A1160
              refine go_dup d23_263 rfl ?_
              refine go_iconst (x := (0 : Int32)) d23_264 (by decide) ?_
              refine go_iload d23_265 rfl ?_
              refine go_castore (v := a) A1161 (by omega) (i := 0) rfl (by rw [take_len hl5 (by decide)]; decide) (nar_ch ha) d23_267 (fun h1162 K1162 A1162 => ?_)
              have z1162 := K1162.1
              have A1162 : AI Z h1162 a1160 .char (cs5.take (0 + 1) ++ List.replicate (5 - (0 + 1)) 0) := set_take (i := 0) (c := a) hl5 (by rw [ecs5]; rfl) ▸ A1162
              refine go_dup d23_268 rfl ?_
              refine go_iconst (x := (1 : Int32)) d23_269 (by decide) ?_
              refine go_iload d23_270 rfl ?_
              refine go_castore (v := b) A1162 (by omega) (i := 1) rfl (by rw [take_len hl5 (by decide)]; decide) (nar_ch hb) d23_272 (fun h1163 K1163 A1163 => ?_)
              have z1163 := K1163.1
              have A1163 : AI Z h1163 a1160 .char (cs5.take (1 + 1) ++ List.replicate (5 - (1 + 1)) 0) := set_take (i := 1) (c := b) hl5 (by rw [ecs5]; rfl) ▸ A1163
              refine go_dup d23_273 rfl ?_
              refine go_iconst (x := (2 : Int32)) d23_274 (by decide) ?_
              refine go_iload d23_275 rfl ?_
              refine go_castore (v := y) A1163 (by omega) (i := 2) rfl (by rw [take_len hl5 (by decide)]; decide) (nar_ch hy) d23_277 (fun h1164 K1164 A1164 => ?_)
              have z1164 := K1164.1
              have A1164 : AI Z h1164 a1160 .char (cs5.take (2 + 1) ++ List.replicate (5 - (2 + 1)) 0) := set_take (i := 2) (c := y) hl5 (by rw [ecs5]; rfl) ▸ A1164
              refine go_dup d23_278 rfl ?_
              refine go_iconst (x := (3 : Int32)) d23_279 (by decide) ?_
              refine go_iload d23_280 rfl ?_
              refine go_castore (v := z) A1164 (by omega) (i := 3) rfl (by rw [take_len hl5 (by decide)]; decide) (nar_ch hz) d23_282 (fun h1165 K1165 A1165 => ?_)
              have z1165 := K1165.1
              have A1165 : AI Z h1165 a1160 .char (cs5.take (3 + 1) ++ List.replicate (5 - (3 + 1)) 0) := set_take (i := 3) (c := z) hl5 (by rw [ecs5]; rfl) ▸ A1165
              refine go_dup d23_283 rfl ?_
              refine go_iconst (x := (4 : Int32)) d23_284 (by decide) ?_
              refine go_iload d23_285 rfl ?_
              refine go_castore (v := f) A1165 (by omega) (i := 4) rfl (by rw [take_len hl5 (by decide)]; decide) (nar_ch hf) d23_287 (fun h1166 K1166 A1166 => ?_)
              have z1166 := K1166.1
              have A1166 : AI Z h1166 a1160 .char (cs5.take (4 + 1) ++ List.replicate (5 - (4 + 1)) 0) := set_take (i := 4) (c := f) hl5 (by rw [ecs5]; rfl) ▸ A1166
              refine go_astore d23_288 rfl (l' := #[.val (.int p0), .val (.int p1), .val (.int p2), .val (.int p3), .val (.int a), .val (.int b), .val (.int y), .val (.int z), .val (.int f), .val (.int (p0 &&& (7 : Int32))), .val (.ref a1160), .unset]) rfl ?_
              refine go_iload d23_290 rfl ?_
              refine go_static (R := room_1) (kc := 23) (ks := 1659) [.int a] [] (c_first l Z a0 hw hEL a S1160 h1166) (hw _ (List.mem_of_getElem? (i := 37) rfl)) (hw _ (List.mem_of_getElem? (i := 38) rfl)) (hw _ (List.mem_of_getElem? (i := 40) rfl)) (hw _ (List.mem_of_getElem? (i := 39) rfl)) (by decide) rfl rfl (lenOf pd14 rfl) d23_292 (by rfl) (by decide) (Nat.le_of_ble_eq_true rfl) (rc := 0) (rs := 0) rfl rfl (fun S1167 v1167 h1167 m1167 z1167 q1167 => ?_)
              rcases q1167 with ⟨p1167, rfl, rfl⟩ | ⟨p1167, rfl, rfl⟩
              · show Go _ _ _ _ _ _ _ _ _ _ _ _ _ _ _ _ _ (mkF K.m 295 #[.val (.int p0), .val (.int p1), .val (.int p2), .val (.int p3), .val (.int a), .val (.int b), .val (.int y), .val (.int z), .val (.int f), .val (.int (p0 &&& (7 : Int32))), .val (.ref a1160), .unset] [.int (1 : Int32)])
                refine go_ifeq d23_295 (fun c1168 => absurd c1168 (by decide)) (fun c1168 => ?_)
                refine go_iload d23_298 rfl ?_
                refine go_static (R := room_1) (kc := 23) (ks := 1659) [.int b] [] (c_inner l Z a0 hw hEL b S1167 h1166) (hw _ (List.mem_of_getElem? (i := 41) rfl)) (hw _ (List.mem_of_getElem? (i := 42) rfl)) (hw _ (List.mem_of_getElem? (i := 43) rfl)) (hw _ (List.mem_of_getElem? (i := 39) rfl)) (by decide) rfl rfl (lenOf pd14 rfl) d23_300 (by rfl) (by decide) (Nat.le_of_ble_eq_true rfl) (rc := 0) (rs := 0) rfl rfl (fun S1169 v1169 h1169 m1169 z1169 q1169 => ?_)
                rcases q1169 with ⟨p1169, rfl, rfl⟩ | ⟨p1169, rfl, rfl⟩
                · show Go _ _ _ _ _ _ _ _ _ _ _ _ _ _ _ _ _ (mkF K.m 303 #[.val (.int p0), .val (.int p1), .val (.int p2), .val (.int p3), .val (.int a), .val (.int b), .val (.int y), .val (.int z), .val (.int f), .val (.int (p0 &&& (7 : Int32))), .val (.ref a1160), .unset] [.int (1 : Int32)])
                  refine go_ifeq d23_303 (fun c1170 => absurd c1170 (by decide)) (fun c1170 => ?_)
                  refine go_iload d23_306 rfl ?_
                  refine go_static (R := room_1) (kc := 23) (ks := 1659) [.int y] [] (c_inner l Z a0 hw hEL y S1169 h1166) (hw _ (List.mem_of_getElem? (i := 41) rfl)) (hw _ (List.mem_of_getElem? (i := 42) rfl)) (hw _ (List.mem_of_getElem? (i := 43) rfl)) (hw _ (List.mem_of_getElem? (i := 39) rfl)) (by decide) rfl rfl (lenOf pd14 rfl) d23_308 (by rfl) (by decide) (Nat.le_of_ble_eq_true rfl) (rc := 0) (rs := 0) rfl rfl (fun S1171 v1171 h1171 m1171 z1171 q1171 => ?_)
                  rcases q1171 with ⟨p1171, rfl, rfl⟩ | ⟨p1171, rfl, rfl⟩
                  · show Go _ _ _ _ _ _ _ _ _ _ _ _ _ _ _ _ _ (mkF K.m 311 #[.val (.int p0), .val (.int p1), .val (.int p2), .val (.int p3), .val (.int a), .val (.int b), .val (.int y), .val (.int z), .val (.int f), .val (.int (p0 &&& (7 : Int32))), .val (.ref a1160), .unset] [.int (1 : Int32)])
                    refine go_ifeq d23_311 (fun c1172 => absurd c1172 (by decide)) (fun c1172 => ?_)
                    refine go_iload d23_314 rfl ?_
                    refine go_static (R := room_1) (kc := 23) (ks := 1659) [.int z] [] (c_inner l Z a0 hw hEL z S1171 h1166) (hw _ (List.mem_of_getElem? (i := 41) rfl)) (hw _ (List.mem_of_getElem? (i := 42) rfl)) (hw _ (List.mem_of_getElem? (i := 43) rfl)) (hw _ (List.mem_of_getElem? (i := 39) rfl)) (by decide) rfl rfl (lenOf pd14 rfl) d23_316 (by rfl) (by decide) (Nat.le_of_ble_eq_true rfl) (rc := 0) (rs := 0) rfl rfl (fun S1173 v1173 h1173 m1173 z1173 q1173 => ?_)
                    rcases q1173 with ⟨p1173, rfl, rfl⟩ | ⟨p1173, rfl, rfl⟩
                    · show Go _ _ _ _ _ _ _ _ _ _ _ _ _ _ _ _ _ (mkF K.m 319 #[.val (.int p0), .val (.int p1), .val (.int p2), .val (.int p3), .val (.int a), .val (.int b), .val (.int y), .val (.int z), .val (.int f), .val (.int (p0 &&& (7 : Int32))), .val (.ref a1160), .unset] [.int (1 : Int32)])
                      refine go_ifeq d23_319 (fun c1174 => absurd c1174 (by decide)) (fun c1174 => ?_)
                      refine go_iload d23_322 rfl ?_
                      refine go_static (R := room_1) (kc := 23) (ks := 1659) [.int f] [] (c_inner l Z a0 hw hEL f S1173 h1166) (hw _ (List.mem_of_getElem? (i := 41) rfl)) (hw _ (List.mem_of_getElem? (i := 42) rfl)) (hw _ (List.mem_of_getElem? (i := 43) rfl)) (hw _ (List.mem_of_getElem? (i := 39) rfl)) (by decide) rfl rfl (lenOf pd14 rfl) d23_324 (by rfl) (by decide) (Nat.le_of_ble_eq_true rfl) (rc := 0) (rs := 0) rfl rfl (fun S1175 v1175 h1175 m1175 z1175 q1175 => ?_)
                      rcases q1175 with ⟨p1175, rfl, rfl⟩ | ⟨p1175, rfl, rfl⟩
                      · show Go _ _ _ _ _ _ _ _ _ _ _ _ _ _ _ _ _ (mkF K.m 327 #[.val (.int p0), .val (.int p1), .val (.int p2), .val (.int p3), .val (.int a), .val (.int b), .val (.int y), .val (.int z), .val (.int f), .val (.int (p0 &&& (7 : Int32))), .val (.ref a1160), .unset] [.int (1 : Int32)])
                        refine go_ifeq d23_327 (fun c1176 => absurd c1176 (by decide)) (fun c1176 => ?_)
                        refine go_iconst (x := (1 : Int32)) d23_330 (by decide) ?_
                        refine go_goto d23_331 ?_
                        refine go_istore d23_335 (l' := #[.val (.int p0), .val (.int p1), .val (.int p2), .val (.int p3), .val (.int a), .val (.int b), .val (.int y), .val (.int z), .val (.int f), .val (.int (p0 &&& (7 : Int32))), .val (.ref a1160), .val (.int (1 : Int32))]) rfl ?_
                        refine go_goto d23_337 ?_
                        have B1177 : AI Z h1166 a1160 .char ([a, b, y, z, f] : List Int32) := ecs5 ▸ (take_all hl5 ▸ A1166)
                        exact (tail _ _ _ _ S1175 h1166 (by omega) B1177 (by simp) (Or.inl ⟨⟨by simp, by simp, own_all_cons.mpr ⟨p1167, by intro d hd; simp only [List.mem_cons, List.not_mem_nil, or_false] at hd; rcases hd with rfl | rfl | rfl | rfl <;> assumption⟩⟩, rfl⟩)).weak (by decide) (by decide)
                      · show Go _ _ _ _ _ _ _ _ _ _ _ _ _ _ _ _ _ (mkF K.m 327 #[.val (.int p0), .val (.int p1), .val (.int p2), .val (.int p3), .val (.int a), .val (.int b), .val (.int y), .val (.int z), .val (.int f), .val (.int (p0 &&& (7 : Int32))), .val (.ref a1160), .unset] [.int (0 : Int32)])
                        refine go_ifeq d23_327 (fun c1178 => ?_) (fun c1178 => absurd (rfl) c1178)
                        refine go_iconst (x := (0 : Int32)) d23_334 (by decide) ?_
                        refine go_istore d23_335 (l' := #[.val (.int p0), .val (.int p1), .val (.int p2), .val (.int p3), .val (.int a), .val (.int b), .val (.int y), .val (.int z), .val (.int f), .val (.int (p0 &&& (7 : Int32))), .val (.ref a1160), .val (.int (0 : Int32))]) rfl ?_
                        refine go_goto d23_337 ?_
                        have B1179 : AI Z h1166 a1160 .char ([a, b, y, z, f] : List Int32) := ecs5 ▸ (take_all hl5 ▸ A1166)
                        exact (tail _ _ _ _ S1175 h1166 (by omega) B1179 (by simp) (Or.inr ⟨fun q => p1175 ((own_all_cons.mp q.2.2).2 f (by simp)), rfl⟩)).weak (by decide) (by decide)
                    · show Go _ _ _ _ _ _ _ _ _ _ _ _ _ _ _ _ _ (mkF K.m 319 #[.val (.int p0), .val (.int p1), .val (.int p2), .val (.int p3), .val (.int a), .val (.int b), .val (.int y), .val (.int z), .val (.int f), .val (.int (p0 &&& (7 : Int32))), .val (.ref a1160), .unset] [.int (0 : Int32)])
                      refine go_ifeq d23_319 (fun c1180 => ?_) (fun c1180 => absurd (rfl) c1180)
                      refine go_iconst (x := (0 : Int32)) d23_334 (by decide) ?_
                      refine go_istore d23_335 (l' := #[.val (.int p0), .val (.int p1), .val (.int p2), .val (.int p3), .val (.int a), .val (.int b), .val (.int y), .val (.int z), .val (.int f), .val (.int (p0 &&& (7 : Int32))), .val (.ref a1160), .val (.int (0 : Int32))]) rfl ?_
                      refine go_goto d23_337 ?_
                      have B1181 : AI Z h1166 a1160 .char ([a, b, y, z, f] : List Int32) := ecs5 ▸ (take_all hl5 ▸ A1166)
                      exact (tail _ _ _ _ S1173 h1166 (by omega) B1181 (by simp) (Or.inr ⟨fun q => p1173 ((own_all_cons.mp q.2.2).2 z (by simp)), rfl⟩)).weak (by decide) (by decide)
                  · show Go _ _ _ _ _ _ _ _ _ _ _ _ _ _ _ _ _ (mkF K.m 311 #[.val (.int p0), .val (.int p1), .val (.int p2), .val (.int p3), .val (.int a), .val (.int b), .val (.int y), .val (.int z), .val (.int f), .val (.int (p0 &&& (7 : Int32))), .val (.ref a1160), .unset] [.int (0 : Int32)])
                    refine go_ifeq d23_311 (fun c1182 => ?_) (fun c1182 => absurd (rfl) c1182)
                    refine go_iconst (x := (0 : Int32)) d23_334 (by decide) ?_
                    refine go_istore d23_335 (l' := #[.val (.int p0), .val (.int p1), .val (.int p2), .val (.int p3), .val (.int a), .val (.int b), .val (.int y), .val (.int z), .val (.int f), .val (.int (p0 &&& (7 : Int32))), .val (.ref a1160), .val (.int (0 : Int32))]) rfl ?_
                    refine go_goto d23_337 ?_
                    have B1183 : AI Z h1166 a1160 .char ([a, b, y, z, f] : List Int32) := ecs5 ▸ (take_all hl5 ▸ A1166)
                    exact (tail _ _ _ _ S1171 h1166 (by omega) B1183 (by simp) (Or.inr ⟨fun q => p1171 ((own_all_cons.mp q.2.2).2 y (by simp)), rfl⟩)).weak (by decide) (by decide)
                · show Go _ _ _ _ _ _ _ _ _ _ _ _ _ _ _ _ _ (mkF K.m 303 #[.val (.int p0), .val (.int p1), .val (.int p2), .val (.int p3), .val (.int a), .val (.int b), .val (.int y), .val (.int z), .val (.int f), .val (.int (p0 &&& (7 : Int32))), .val (.ref a1160), .unset] [.int (0 : Int32)])
                  refine go_ifeq d23_303 (fun c1184 => ?_) (fun c1184 => absurd (rfl) c1184)
                  refine go_iconst (x := (0 : Int32)) d23_334 (by decide) ?_
                  refine go_istore d23_335 (l' := #[.val (.int p0), .val (.int p1), .val (.int p2), .val (.int p3), .val (.int a), .val (.int b), .val (.int y), .val (.int z), .val (.int f), .val (.int (p0 &&& (7 : Int32))), .val (.ref a1160), .val (.int (0 : Int32))]) rfl ?_
                  refine go_goto d23_337 ?_
                  have B1185 : AI Z h1166 a1160 .char ([a, b, y, z, f] : List Int32) := ecs5 ▸ (take_all hl5 ▸ A1166)
                  exact (tail _ _ _ _ S1169 h1166 (by omega) B1185 (by simp) (Or.inr ⟨fun q => p1169 ((own_all_cons.mp q.2.2).2 b (by simp)), rfl⟩)).weak (by decide) (by decide)
              · show Go _ _ _ _ _ _ _ _ _ _ _ _ _ _ _ _ _ (mkF K.m 295 #[.val (.int p0), .val (.int p1), .val (.int p2), .val (.int p3), .val (.int a), .val (.int b), .val (.int y), .val (.int z), .val (.int f), .val (.int (p0 &&& (7 : Int32))), .val (.ref a1160), .unset] [.int (0 : Int32)])
                refine go_ifeq d23_295 (fun c1186 => ?_) (fun c1186 => absurd (rfl) c1186)
                refine go_iconst (x := (0 : Int32)) d23_334 (by decide) ?_
                refine go_istore d23_335 (l' := #[.val (.int p0), .val (.int p1), .val (.int p2), .val (.int p3), .val (.int a), .val (.int b), .val (.int y), .val (.int z), .val (.int f), .val (.int (p0 &&& (7 : Int32))), .val (.ref a1160), .val (.int (0 : Int32))]) rfl ?_
                refine go_goto d23_337 ?_
                have B1187 : AI Z h1166 a1160 .char ([a, b, y, z, f] : List Int32) := ecs5 ▸ (take_all hl5 ▸ A1166)
                exact (tail _ _ _ _ S1167 h1166 (by omega) B1187 (by simp) (Or.inr ⟨fun q => p1167 (own_all_cons.mp q.2.2).1, rfl⟩)).weak (by decide) (by decide)
          · refine go_iconst (x := (4 : Int32)) d23_187 (by decide) ?_
            obtain ⟨cs4, ecs4⟩ : ∃ q, q = ([a, b, y, z] : List Int32) := ⟨_, rfl⟩
            have hl4 : cs4.length = 4 := by rw [ecs4]; rfl
            refine go_newarr (kc := 23) (ks := 1660) (N := 4) (cap := 4) (hw _ (List.mem_of_getElem? (i := 0) rfl)) rfl (Nat.le_refl _) (by decide) rfl rfl d23_188 (fun S1188 h1188 a1188 e1188 m1188 s1188 x1188 l1188 A1188 => ?_)
            have z1188 := x1188.1
            have A1188 : AI Z h1188 a1188 .char (List.replicate 4 0) := A1188
            have A1189 : AI Z h1188 a1188 .char (cs4.take 0 ++ List.replicate (4 - 0) 0) := A1188
            refine go_dup d23_190 rfl ?_
            refine go_iconst (x := (0 : Int32)) d23_191 (by decide) ?_
            refine go_iload d23_192 rfl ?_
            refine go_castore (v := a) A1189 (by omega) (i := 0) rfl (by rw [take_len hl4 (by decide)]; decide) (nar_ch ha) d23_194 (fun h1190 K1190 A1190 => ?_)
            have z1190 := K1190.1
            have A1190 : AI Z h1190 a1188 .char (cs4.take (0 + 1) ++ List.replicate (4 - (0 + 1)) 0) := set_take (i := 0) (c := a) hl4 (by rw [ecs4]; rfl) ▸ A1190
            refine go_dup d23_195 rfl ?_
            refine go_iconst (x := (1 : Int32)) d23_196 (by decide) ?_
            refine go_iload d23_197 rfl ?_
            refine go_castore (v := b) A1190 (by omega) (i := 1) rfl (by rw [take_len hl4 (by decide)]; decide) (nar_ch hb) d23_199 (fun h1191 K1191 A1191 => ?_)
            have z1191 := K1191.1
            have A1191 : AI Z h1191 a1188 .char (cs4.take (1 + 1) ++ List.replicate (4 - (1 + 1)) 0) := set_take (i := 1) (c := b) hl4 (by rw [ecs4]; rfl) ▸ A1191
            refine go_dup d23_200 rfl ?_
            refine go_iconst (x := (2 : Int32)) d23_201 (by decide) ?_
            refine go_iload d23_202 rfl ?_
            refine go_castore (v := y) A1191 (by omega) (i := 2) rfl (by rw [take_len hl4 (by decide)]; decide) (nar_ch hy) d23_204 (fun h1192 K1192 A1192 => ?_)
            have z1192 := K1192.1
            have A1192 : AI Z h1192 a1188 .char (cs4.take (2 + 1) ++ List.replicate (4 - (2 + 1)) 0) := set_take (i := 2) (c := y) hl4 (by rw [ecs4]; rfl) ▸ A1192
            refine go_dup d23_205 rfl ?_
            refine go_iconst (x := (3 : Int32)) d23_206 (by decide) ?_
            refine go_iload d23_207 rfl ?_
            refine go_castore (v := z) A1192 (by omega) (i := 3) rfl (by rw [take_len hl4 (by decide)]; decide) (nar_ch hz) d23_209 (fun h1193 K1193 A1193 => ?_)
            have z1193 := K1193.1
            have A1193 : AI Z h1193 a1188 .char (cs4.take (3 + 1) ++ List.replicate (4 - (3 + 1)) 0) := set_take (i := 3) (c := z) hl4 (by rw [ecs4]; rfl) ▸ A1193
            refine go_astore d23_210 rfl (l' := #[.val (.int p0), .val (.int p1), .val (.int p2), .val (.int p3), .val (.int a), .val (.int b), .val (.int y), .val (.int z), .val (.int f), .val (.int (p0 &&& (7 : Int32))), .val (.ref a1188), .unset]) rfl ?_
            refine go_iload d23_212 rfl ?_
            refine go_static (R := room_1) (kc := 23) (ks := 1660) [.int a] [] (c_first l Z a0 hw hEL a S1188 h1193) (hw _ (List.mem_of_getElem? (i := 37) rfl)) (hw _ (List.mem_of_getElem? (i := 38) rfl)) (hw _ (List.mem_of_getElem? (i := 40) rfl)) (hw _ (List.mem_of_getElem? (i := 39) rfl)) (by decide) rfl rfl (lenOf pd14 rfl) d23_214 (by rfl) (by decide) (Nat.le_of_ble_eq_true rfl) (rc := 0) (rs := 0) rfl rfl (fun S1194 v1194 h1194 m1194 z1194 q1194 => ?_)
            rcases q1194 with ⟨p1194, rfl, rfl⟩ | ⟨p1194, rfl, rfl⟩
            · show Go _ _ _ _ _ _ _ _ _ _ _ _ _ _ _ _ _ (mkF K.m 217 #[.val (.int p0), .val (.int p1), .val (.int p2), .val (.int p3), .val (.int a), .val (.int b), .val (.int y), .val (.int z), .val (.int f), .val (.int (p0 &&& (7 : Int32))), .val (.ref a1188), .unset] [.int (1 : Int32)])
              refine go_ifeq d23_217 (fun c1195 => absurd c1195 (by decide)) (fun c1195 => ?_)
              refine go_iload d23_220 rfl ?_
              refine go_static (R := room_1) (kc := 23) (ks := 1660) [.int b] [] (c_inner l Z a0 hw hEL b S1194 h1193) (hw _ (List.mem_of_getElem? (i := 41) rfl)) (hw _ (List.mem_of_getElem? (i := 42) rfl)) (hw _ (List.mem_of_getElem? (i := 43) rfl)) (hw _ (List.mem_of_getElem? (i := 39) rfl)) (by decide) rfl rfl (lenOf pd14 rfl) d23_222 (by rfl) (by decide) (Nat.le_of_ble_eq_true rfl) (rc := 0) (rs := 0) rfl rfl (fun S1196 v1196 h1196 m1196 z1196 q1196 => ?_)
              rcases q1196 with ⟨p1196, rfl, rfl⟩ | ⟨p1196, rfl, rfl⟩
              · show Go _ _ _ _ _ _ _ _ _ _ _ _ _ _ _ _ _ (mkF K.m 225 #[.val (.int p0), .val (.int p1), .val (.int p2), .val (.int p3), .val (.int a), .val (.int b), .val (.int y), .val (.int z), .val (.int f), .val (.int (p0 &&& (7 : Int32))), .val (.ref a1188), .unset] [.int (1 : Int32)])
                refine go_ifeq d23_225 (fun c1197 => absurd c1197 (by decide)) (fun c1197 => ?_)
                refine go_iload d23_228 rfl ?_
                refine go_static (R := room_1) (kc := 23) (ks := 1660) [.int y] [] (c_inner l Z a0 hw hEL y S1196 h1193) (hw _ (List.mem_of_getElem? (i := 41) rfl)) (hw _ (List.mem_of_getElem? (i := 42) rfl)) (hw _ (List.mem_of_getElem? (i := 43) rfl)) (hw _ (List.mem_of_getElem? (i := 39) rfl)) (by decide) rfl rfl (lenOf pd14 rfl) d23_230 (by rfl) (by decide) (Nat.le_of_ble_eq_true rfl) (rc := 0) (rs := 0) rfl rfl (fun S1198 v1198 h1198 m1198 z1198 q1198 => ?_)
                rcases q1198 with ⟨p1198, rfl, rfl⟩ | ⟨p1198, rfl, rfl⟩
                · show Go _ _ _ _ _ _ _ _ _ _ _ _ _ _ _ _ _ (mkF K.m 233 #[.val (.int p0), .val (.int p1), .val (.int p2), .val (.int p3), .val (.int a), .val (.int b), .val (.int y), .val (.int z), .val (.int f), .val (.int (p0 &&& (7 : Int32))), .val (.ref a1188), .unset] [.int (1 : Int32)])
                  refine go_ifeq d23_233 (fun c1199 => absurd c1199 (by decide)) (fun c1199 => ?_)
                  refine go_iload d23_236 rfl ?_
                  refine go_static (R := room_1) (kc := 23) (ks := 1660) [.int z] [] (c_inner l Z a0 hw hEL z S1198 h1193) (hw _ (List.mem_of_getElem? (i := 41) rfl)) (hw _ (List.mem_of_getElem? (i := 42) rfl)) (hw _ (List.mem_of_getElem? (i := 43) rfl)) (hw _ (List.mem_of_getElem? (i := 39) rfl)) (by decide) rfl rfl (lenOf pd14 rfl) d23_238 (by rfl) (by decide) (Nat.le_of_ble_eq_true rfl) (rc := 0) (rs := 0) rfl rfl (fun S1200 v1200 h1200 m1200 z1200 q1200 => ?_)
                  rcases q1200 with ⟨p1200, rfl, rfl⟩ | ⟨p1200, rfl, rfl⟩
                  · show Go _ _ _ _ _ _ _ _ _ _ _ _ _ _ _ _ _ (mkF K.m 241 #[.val (.int p0), .val (.int p1), .val (.int p2), .val (.int p3), .val (.int a), .val (.int b), .val (.int y), .val (.int z), .val (.int f), .val (.int (p0 &&& (7 : Int32))), .val (.ref a1188), .unset] [.int (1 : Int32)])
                    refine go_ifeq d23_241 (fun c1201 => absurd c1201 (by decide)) (fun c1201 => ?_)
                    refine go_iconst (x := (1 : Int32)) d23_244 (by decide) ?_
                    refine go_goto d23_245 ?_
                    refine go_istore d23_249 (l' := #[.val (.int p0), .val (.int p1), .val (.int p2), .val (.int p3), .val (.int a), .val (.int b), .val (.int y), .val (.int z), .val (.int f), .val (.int (p0 &&& (7 : Int32))), .val (.ref a1188), .val (.int (1 : Int32))]) rfl ?_
                    refine go_goto d23_251 ?_
                    have B1202 : AI Z h1193 a1188 .char ([a, b, y, z] : List Int32) := ecs4 ▸ (take_all hl4 ▸ A1193)
                    exact (tail _ _ _ _ S1200 h1193 (by omega) B1202 (by simp) (Or.inl ⟨⟨by simp, by simp, own_all_cons.mpr ⟨p1194, by intro d hd; simp only [List.mem_cons, List.not_mem_nil, or_false] at hd; rcases hd with rfl | rfl | rfl <;> assumption⟩⟩, rfl⟩)).weak (by decide) (by decide)
                  · show Go _ _ _ _ _ _ _ _ _ _ _ _ _ _ _ _ _ (mkF K.m 241 #[.val (.int p0), .val (.int p1), .val (.int p2), .val (.int p3), .val (.int a), .val (.int b), .val (.int y), .val (.int z), .val (.int f), .val (.int (p0 &&& (7 : Int32))), .val (.ref a1188), .unset] [.int (0 : Int32)])
                    refine go_ifeq d23_241 (fun c1203 => ?_) (fun c1203 => absurd (rfl) c1203)
                    refine go_iconst (x := (0 : Int32)) d23_248 (by decide) ?_
                    refine go_istore d23_249 (l' := #[.val (.int p0), .val (.int p1), .val (.int p2), .val (.int p3), .val (.int a), .val (.int b), .val (.int y), .val (.int z), .val (.int f), .val (.int (p0 &&& (7 : Int32))), .val (.ref a1188), .val (.int (0 : Int32))]) rfl ?_
                    refine go_goto d23_251 ?_
                    have B1204 : AI Z h1193 a1188 .char ([a, b, y, z] : List Int32) := ecs4 ▸ (take_all hl4 ▸ A1193)
                    exact (tail _ _ _ _ S1200 h1193 (by omega) B1204 (by simp) (Or.inr ⟨fun q => p1200 ((own_all_cons.mp q.2.2).2 z (by simp)), rfl⟩)).weak (by decide) (by decide)
                · show Go _ _ _ _ _ _ _ _ _ _ _ _ _ _ _ _ _ (mkF K.m 233 #[.val (.int p0), .val (.int p1), .val (.int p2), .val (.int p3), .val (.int a), .val (.int b), .val (.int y), .val (.int z), .val (.int f), .val (.int (p0 &&& (7 : Int32))), .val (.ref a1188), .unset] [.int (0 : Int32)])
                  refine go_ifeq d23_233 (fun c1205 => ?_) (fun c1205 => absurd (rfl) c1205)
                  refine go_iconst (x := (0 : Int32)) d23_248 (by decide) ?_
                  refine go_istore d23_249 (l' := #[.val (.int p0), .val (.int p1), .val (.int p2), .val (.int p3), .val (.int a), .val (.int b), .val (.int y), .val (.int z), .val (.int f), .val (.int (p0 &&& (7 : Int32))), .val (.ref a1188), .val (.int (0 : Int32))]) rfl ?_
                  refine go_goto d23_251 ?_
                  have B1206 : AI Z h1193 a1188 .char ([a, b, y, z] : List Int32) := ecs4 ▸ (take_all hl4 ▸ A1193)
                  exact (tail _ _ _ _ S1198 h1193 (by omega) B1206 (by simp) (Or.inr ⟨fun q => p1198 ((own_all_cons.mp q.2.2).2 y (by simp)), rfl⟩)).weak (by decide) (by decide)
              · show Go _ _ _ _ _ _ _ _ _ _ _ _ _ _ _ _ _ (mkF K.m 225 #[.val (.int p0), .val (.int p1), .val (.int p2), .val (.int p3), .val (.int a), .val (.int b), .val (.int y), .val (.int z), .val (.int f), .val (.int (p0 &&& (7 : Int32))), .val (.ref a1188), .unset] [.int (0 : Int32)])
                refine go_ifeq d23_225 (fun c1207 => ?_) (fun c1207 => absurd (rfl) c1207)
                refine go_iconst (x := (0 : Int32)) d23_248 (by decide) ?_
                refine go_istore d23_249 (l' := #[.val (.int p0), .val (.int p1), .val (.int p2), .val (.int p3), .val (.int a), .val (.int b), .val (.int y), .val (.int z), .val (.int f), .val (.int (p0 &&& (7 : Int32))), .val (.ref a1188), .val (.int (0 : Int32))]) rfl ?_
                refine go_goto d23_251 ?_
                have B1208 : AI Z h1193 a1188 .char ([a, b, y, z] : List Int32) := ecs4 ▸ (take_all hl4 ▸ A1193)
                exact (tail _ _ _ _ S1196 h1193 (by omega) B1208 (by simp) (Or.inr ⟨fun q => p1196 ((own_all_cons.mp q.2.2).2 b (by simp)), rfl⟩)).weak (by decide) (by decide)
            · show Go _ _ _ _ _ _ _ _ _ _ _ _ _ _ _ _ _ (mkF K.m 217 #[.val (.int p0), .val (.int p1), .val (.int p2), .val (.int p3), .val (.int a), .val (.int b), .val (.int y), .val (.int z), .val (.int f), .val (.int (p0 &&& (7 : Int32))), .val (.ref a1188), .unset] [.int (0 : Int32)])
              refine go_ifeq d23_217 (fun c1209 => ?_) (fun c1209 => absurd (rfl) c1209)
              refine go_iconst (x := (0 : Int32)) d23_248 (by decide) ?_
              refine go_istore d23_249 (l' := #[.val (.int p0), .val (.int p1), .val (.int p2), .val (.int p3), .val (.int a), .val (.int b), .val (.int y), .val (.int z), .val (.int f), .val (.int (p0 &&& (7 : Int32))), .val (.ref a1188), .val (.int (0 : Int32))]) rfl ?_
              refine go_goto d23_251 ?_
              have B1210 : AI Z h1193 a1188 .char ([a, b, y, z] : List Int32) := ecs4 ▸ (take_all hl4 ▸ A1193)
              exact (tail _ _ _ _ S1194 h1193 (by omega) B1210 (by simp) (Or.inr ⟨fun q => p1194 (own_all_cons.mp q.2.2).1, rfl⟩)).weak (by decide) (by decide)
        · refine go_iconst (x := (3 : Int32)) d23_127 (by decide) ?_
          obtain ⟨cs3, ecs3⟩ : ∃ q, q = ([a, b, y] : List Int32) := ⟨_, rfl⟩
          have hl3 : cs3.length = 3 := by rw [ecs3]; rfl
          refine go_newarr (kc := 23) (ks := 1661) (N := 3) (cap := 3) (hw _ (List.mem_of_getElem? (i := 0) rfl)) rfl (Nat.le_refl _) (by decide) rfl rfl d23_128 (fun S1211 h1211 a1211 e1211 m1211 s1211 x1211 l1211 A1211 => ?_)
          have z1211 := x1211.1
          have A1211 : AI Z h1211 a1211 .char (List.replicate 3 0) := A1211
          have A1212 : AI Z h1211 a1211 .char (cs3.take 0 ++ List.replicate (3 - 0) 0) := A1211
          refine go_dup d23_130 rfl ?_
          refine go_iconst (x := (0 : Int32)) d23_131 (by decide) ?_
          refine go_iload d23_132 rfl ?_
          refine go_castore (v := a) A1212 (by omega) (i := 0) rfl (by rw [take_len hl3 (by decide)]; decide) (nar_ch ha) d23_134 (fun h1213 K1213 A1213 => ?_)
          have z1213 := K1213.1
          have A1213 : AI Z h1213 a1211 .char (cs3.take (0 + 1) ++ List.replicate (3 - (0 + 1)) 0) := set_take (i := 0) (c := a) hl3 (by rw [ecs3]; rfl) ▸ A1213
          refine go_dup d23_135 rfl ?_
          refine go_iconst (x := (1 : Int32)) d23_136 (by decide) ?_
          refine go_iload d23_137 rfl ?_
          refine go_castore (v := b) A1213 (by omega) (i := 1) rfl (by rw [take_len hl3 (by decide)]; decide) (nar_ch hb) d23_139 (fun h1214 K1214 A1214 => ?_)
          have z1214 := K1214.1
          have A1214 : AI Z h1214 a1211 .char (cs3.take (1 + 1) ++ List.replicate (3 - (1 + 1)) 0) := set_take (i := 1) (c := b) hl3 (by rw [ecs3]; rfl) ▸ A1214
          refine go_dup d23_140 rfl ?_
          refine go_iconst (x := (2 : Int32)) d23_141 (by decide) ?_
          refine go_iload d23_142 rfl ?_
          refine go_castore (v := y) A1214 (by omega) (i := 2) rfl (by rw [take_len hl3 (by decide)]; decide) (nar_ch hy) d23_144 (fun h1215 K1215 A1215 => ?_)
          have z1215 := K1215.1
          have A1215 : AI Z h1215 a1211 .char (cs3.take (2 + 1) ++ List.replicate (3 - (2 + 1)) 0) := set_take (i := 2) (c := y) hl3 (by rw [ecs3]; rfl) ▸ A1215
          refine go_astore d23_145 rfl (l' := #[.val (.int p0), .val (.int p1), .val (.int p2), .val (.int p3), .val (.int a), .val (.int b), .val (.int y), .val (.int z), .val (.int f), .val (.int (p0 &&& (7 : Int32))), .val (.ref a1211), .unset]) rfl ?_
          refine go_iload d23_147 rfl ?_
          refine go_static (R := room_1) (kc := 23) (ks := 1661) [.int a] [] (c_first l Z a0 hw hEL a S1211 h1215) (hw _ (List.mem_of_getElem? (i := 37) rfl)) (hw _ (List.mem_of_getElem? (i := 38) rfl)) (hw _ (List.mem_of_getElem? (i := 40) rfl)) (hw _ (List.mem_of_getElem? (i := 39) rfl)) (by decide) rfl rfl (lenOf pd14 rfl) d23_149 (by rfl) (by decide) (Nat.le_of_ble_eq_true rfl) (rc := 0) (rs := 0) rfl rfl (fun S1216 v1216 h1216 m1216 z1216 q1216 => ?_)
          rcases q1216 with ⟨p1216, rfl, rfl⟩ | ⟨p1216, rfl, rfl⟩
          · show Go _ _ _ _ _ _ _ _ _ _ _ _ _ _ _ _ _ (mkF K.m 152 #[.val (.int p0), .val (.int p1), .val (.int p2), .val (.int p3), .val (.int a), .val (.int b), .val (.int y), .val (.int z), .val (.int f), .val (.int (p0 &&& (7 : Int32))), .val (.ref a1211), .unset] [.int (1 : Int32)])
            refine go_ifeq d23_152 (fun c1217 => absurd c1217 (by decide)) (fun c1217 => ?_)
            refine go_iload d23_155 rfl ?_
            refine go_static (R := room_1) (kc := 23) (ks := 1661) [.int b] [] (c_inner l Z a0 hw hEL b S1216 h1215) (hw _ (List.mem_of_getElem? (i := 41) rfl)) (hw _ (List.mem_of_getElem? (i := 42) rfl)) (hw _ (List.mem_of_getElem? (i := 43) rfl)) (hw _ (List.mem_of_getElem? (i := 39) rfl)) (by decide) rfl rfl (lenOf pd14 rfl) d23_157 (by rfl) (by decide) (Nat.le_of_ble_eq_true rfl) (rc := 0) (rs := 0) rfl rfl (fun S1218 v1218 h1218 m1218 z1218 q1218 => ?_)
            rcases q1218 with ⟨p1218, rfl, rfl⟩ | ⟨p1218, rfl, rfl⟩
            · show Go _ _ _ _ _ _ _ _ _ _ _ _ _ _ _ _ _ (mkF K.m 160 #[.val (.int p0), .val (.int p1), .val (.int p2), .val (.int p3), .val (.int a), .val (.int b), .val (.int y), .val (.int z), .val (.int f), .val (.int (p0 &&& (7 : Int32))), .val (.ref a1211), .unset] [.int (1 : Int32)])
              refine go_ifeq d23_160 (fun c1219 => absurd c1219 (by decide)) (fun c1219 => ?_)
              refine go_iload d23_163 rfl ?_
              refine go_static (R := room_1) (kc := 23) (ks := 1661) [.int y] [] (c_inner l Z a0 hw hEL y S1218 h1215) (hw _ (List.mem_of_getElem? (i := 41) rfl)) (hw _ (List.mem_of_getElem? (i := 42) rfl)) (hw _ (List.mem_of_getElem? (i := 43) rfl)) (hw _ (List.mem_of_getElem? (i := 39) rfl)) (by decide) rfl rfl (lenOf pd14 rfl) d23_165 (by rfl) (by decide) (Nat.le_of_ble_eq_true rfl) (rc := 0) (rs := 0) rfl rfl (fun S1220 v1220 h1220 m1220 z1220 q1220 => ?_)
              rcases q1220 with ⟨p1220, rfl, rfl⟩ | ⟨p1220, rfl, rfl⟩
              · show Go _ _ _ _ _ _ _ _ _ _ _ _ _ _ _ _ _ (mkF K.m 168 #[.val (.int p0), .val (.int p1), .val (.int p2), .val (.int p3), .val (.int a), .val (.int b), .val (.int y), .val (.int z), .val (.int f), .val (.int (p0 &&& (7 : Int32))), .val (.ref a1211), .unset] [.int (1 : Int32)])
                refine go_ifeq d23_168 (fun c1221 => absurd c1221 (by decide)) (fun c1221 => ?_)
                refine go_iconst (x := (1 : Int32)) d23_171 (by decide) ?_
                refine go_goto d23_172 ?_
                refine go_istore d23_176 (l' := #[.val (.int p0), .val (.int p1), .val (.int p2), .val (.int p3), .val (.int a), .val (.int b), .val (.int y), .val (.int z), .val (.int f), .val (.int (p0 &&& (7 : Int32))), .val (.ref a1211), .val (.int (1 : Int32))]) rfl ?_
                refine go_goto d23_178 ?_
                have B1222 : AI Z h1215 a1211 .char ([a, b, y] : List Int32) := ecs3 ▸ (take_all hl3 ▸ A1215)
                exact (tail _ _ _ _ S1220 h1215 (by omega) B1222 (by simp) (Or.inl ⟨⟨by simp, by simp, own_all_cons.mpr ⟨p1216, by intro d hd; simp only [List.mem_cons, List.not_mem_nil, or_false] at hd; rcases hd with rfl | rfl <;> assumption⟩⟩, rfl⟩)).weak (by decide) (by decide)
              · show Go _ _ _ _ _ _ _ _ _ _ _ _ _ _ _ _ _ (mkF K.m 168 #[.val (.int p0), .val (.int p1), .val (.int p2), .val (.int p3), .val (.int a), .val (.int b), .val (.int y), .val (.int z), .val (.int f), .val (.int (p0 &&& (7 : Int32))), .val (.ref a1211), .unset] [.int (0 : Int32)])
                refine go_ifeq d23_168 (fun c1223 => ?_) (fun c1223 => absurd (rfl) c1223)
                refine go_iconst (x := (0 : Int32)) d23_175 (by decide) ?_
                refine go_istore d23_176 (l' := #[.val (.int p0), .val (.int p1), .val (.int p2), .val (.int p3), .val (.int a), .val (.int b), .val (.int y), .val (.int z), .val (.int f), .val (.int (p0 &&& (7 : Int32))), .val (.ref a1211), .val (.int (0 : Int32))]) rfl ?_
                refine go_goto d23_178 ?_
                have B1224 : AI Z h1215 a1211 .char ([a, b, y] : List Int32) := ecs3 ▸ (take_all hl3 ▸ A1215)
                exact (tail _ _ _ _ S1220 h1215 (by omega) B1224 (by simp) (Or.inr ⟨fun q => p1220 ((own_all_cons.mp q.2.2).2 y (by simp)), rfl⟩)).weak (by decide) (by decide)
            · show Go _ _ _ _ _ _ _ _ _ _ _ _ _ _ _ _ _ (mkF K.m 160 #[.val (.int p0), .val (.int p1), .val (.int p2), .val (.int p3), .val (.int a), .val (.int b), .val (.int y), .val (.int z), .val (.int f), .val (.int (p0 &&& (7 : Int32))), .val (.ref a1211), .unset] [.int (0 : Int32)])
              refine go_ifeq d23_160 (fun c1225 => ?_) (fun c1225 => absurd (rfl) c1225)
              refine go_iconst (x := (0 : Int32)) d23_175 (by decide) ?_
              refine go_istore d23_176 (l' := #[.val (.int p0), .val (.int p1), .val (.int p2), .val (.int p3), .val (.int a), .val (.int b), .val (.int y), .val (.int z), .val (.int f), .val (.int (p0 &&& (7 : Int32))), .val (.ref a1211), .val (.int (0 : Int32))]) rfl ?_
              refine go_goto d23_178 ?_
              have B1226 : AI Z h1215 a1211 .char ([a, b, y] : List Int32) := ecs3 ▸ (take_all hl3 ▸ A1215)
              exact (tail _ _ _ _ S1218 h1215 (by omega) B1226 (by simp) (Or.inr ⟨fun q => p1218 ((own_all_cons.mp q.2.2).2 b (by simp)), rfl⟩)).weak (by decide) (by decide)
          · show Go _ _ _ _ _ _ _ _ _ _ _ _ _ _ _ _ _ (mkF K.m 152 #[.val (.int p0), .val (.int p1), .val (.int p2), .val (.int p3), .val (.int a), .val (.int b), .val (.int y), .val (.int z), .val (.int f), .val (.int (p0 &&& (7 : Int32))), .val (.ref a1211), .unset] [.int (0 : Int32)])
            refine go_ifeq d23_152 (fun c1227 => ?_) (fun c1227 => absurd (rfl) c1227)
            refine go_iconst (x := (0 : Int32)) d23_175 (by decide) ?_
            refine go_istore d23_176 (l' := #[.val (.int p0), .val (.int p1), .val (.int p2), .val (.int p3), .val (.int a), .val (.int b), .val (.int y), .val (.int z), .val (.int f), .val (.int (p0 &&& (7 : Int32))), .val (.ref a1211), .val (.int (0 : Int32))]) rfl ?_
            refine go_goto d23_178 ?_
            have B1228 : AI Z h1215 a1211 .char ([a, b, y] : List Int32) := ecs3 ▸ (take_all hl3 ▸ A1215)
            exact (tail _ _ _ _ S1216 h1215 (by omega) B1228 (by simp) (Or.inr ⟨fun q => p1216 (own_all_cons.mp q.2.2).1, rfl⟩)).weak (by decide) (by decide)
      · refine go_iconst (x := (2 : Int32)) d23_80 (by decide) ?_
        obtain ⟨cs2, ecs2⟩ : ∃ q, q = ([a, b] : List Int32) := ⟨_, rfl⟩
        have hl2 : cs2.length = 2 := by rw [ecs2]; rfl
        refine go_newarr (kc := 23) (ks := 1662) (N := 2) (cap := 2) (hw _ (List.mem_of_getElem? (i := 0) rfl)) rfl (Nat.le_refl _) (by decide) rfl rfl d23_81 (fun S1229 h1229 a1229 e1229 m1229 s1229 x1229 l1229 A1229 => ?_)
        have z1229 := x1229.1
        have A1229 : AI Z h1229 a1229 .char (List.replicate 2 0) := A1229
        have A1230 : AI Z h1229 a1229 .char (cs2.take 0 ++ List.replicate (2 - 0) 0) := A1229
        refine go_dup d23_83 rfl ?_
        refine go_iconst (x := (0 : Int32)) d23_84 (by decide) ?_
        refine go_iload d23_85 rfl ?_
        refine go_castore (v := a) A1230 (by omega) (i := 0) rfl (by rw [take_len hl2 (by decide)]; decide) (nar_ch ha) d23_87 (fun h1231 K1231 A1231 => ?_)
        have z1231 := K1231.1
        have A1231 : AI Z h1231 a1229 .char (cs2.take (0 + 1) ++ List.replicate (2 - (0 + 1)) 0) := set_take (i := 0) (c := a) hl2 (by rw [ecs2]; rfl) ▸ A1231
        refine go_dup d23_88 rfl ?_
        refine go_iconst (x := (1 : Int32)) d23_89 (by decide) ?_
        refine go_iload d23_90 rfl ?_
        refine go_castore (v := b) A1231 (by omega) (i := 1) rfl (by rw [take_len hl2 (by decide)]; decide) (nar_ch hb) d23_92 (fun h1232 K1232 A1232 => ?_)
        have z1232 := K1232.1
        have A1232 : AI Z h1232 a1229 .char (cs2.take (1 + 1) ++ List.replicate (2 - (1 + 1)) 0) := set_take (i := 1) (c := b) hl2 (by rw [ecs2]; rfl) ▸ A1232
        refine go_astore d23_93 rfl (l' := #[.val (.int p0), .val (.int p1), .val (.int p2), .val (.int p3), .val (.int a), .val (.int b), .val (.int y), .val (.int z), .val (.int f), .val (.int (p0 &&& (7 : Int32))), .val (.ref a1229), .unset]) rfl ?_
        refine go_iload d23_95 rfl ?_
        refine go_static (R := room_1) (kc := 23) (ks := 1662) [.int a] [] (c_first l Z a0 hw hEL a S1229 h1232) (hw _ (List.mem_of_getElem? (i := 37) rfl)) (hw _ (List.mem_of_getElem? (i := 38) rfl)) (hw _ (List.mem_of_getElem? (i := 40) rfl)) (hw _ (List.mem_of_getElem? (i := 39) rfl)) (by decide) rfl rfl (lenOf pd14 rfl) d23_97 (by rfl) (by decide) (Nat.le_of_ble_eq_true rfl) (rc := 0) (rs := 0) rfl rfl (fun S1233 v1233 h1233 m1233 z1233 q1233 => ?_)
        rcases q1233 with ⟨p1233, rfl, rfl⟩ | ⟨p1233, rfl, rfl⟩
        · show Go _ _ _ _ _ _ _ _ _ _ _ _ _ _ _ _ _ (mkF K.m 100 #[.val (.int p0), .val (.int p1), .val (.int p2), .val (.int p3), .val (.int a), .val (.int b), .val (.int y), .val (.int z), .val (.int f), .val (.int (p0 &&& (7 : Int32))), .val (.ref a1229), .unset] [.int (1 : Int32)])
          refine go_ifeq d23_100 (fun c1234 => absurd c1234 (by decide)) (fun c1234 => ?_)
          refine go_iload d23_103 rfl ?_
          refine go_static (R := room_1) (kc := 23) (ks := 1662) [.int b] [] (c_inner l Z a0 hw hEL b S1233 h1232) (hw _ (List.mem_of_getElem? (i := 41) rfl)) (hw _ (List.mem_of_getElem? (i := 42) rfl)) (hw _ (List.mem_of_getElem? (i := 43) rfl)) (hw _ (List.mem_of_getElem? (i := 39) rfl)) (by decide) rfl rfl (lenOf pd14 rfl) d23_105 (by rfl) (by decide) (Nat.le_of_ble_eq_true rfl) (rc := 0) (rs := 0) rfl rfl (fun S1235 v1235 h1235 m1235 z1235 q1235 => ?_)
          rcases q1235 with ⟨p1235, rfl, rfl⟩ | ⟨p1235, rfl, rfl⟩
          · show Go _ _ _ _ _ _ _ _ _ _ _ _ _ _ _ _ _ (mkF K.m 108 #[.val (.int p0), .val (.int p1), .val (.int p2), .val (.int p3), .val (.int a), .val (.int b), .val (.int y), .val (.int z), .val (.int f), .val (.int (p0 &&& (7 : Int32))), .val (.ref a1229), .unset] [.int (1 : Int32)])
            refine go_ifeq d23_108 (fun c1236 => absurd c1236 (by decide)) (fun c1236 => ?_)
            refine go_iconst (x := (1 : Int32)) d23_111 (by decide) ?_
            refine go_goto d23_112 ?_
            refine go_istore d23_116 (l' := #[.val (.int p0), .val (.int p1), .val (.int p2), .val (.int p3), .val (.int a), .val (.int b), .val (.int y), .val (.int z), .val (.int f), .val (.int (p0 &&& (7 : Int32))), .val (.ref a1229), .val (.int (1 : Int32))]) rfl ?_
            refine go_goto d23_118 ?_
            have B1237 : AI Z h1232 a1229 .char ([a, b] : List Int32) := ecs2 ▸ (take_all hl2 ▸ A1232)
            exact (tail _ _ _ _ S1235 h1232 (by omega) B1237 (by simp) (Or.inl ⟨⟨by simp, by simp, own_all_cons.mpr ⟨p1233, by intro d hd; simp only [List.mem_cons, List.not_mem_nil, or_false] at hd; rcases hd with rfl <;> assumption⟩⟩, rfl⟩)).weak (by decide) (by decide)
          · show Go _ _ _ _ _ _ _ _ _ _ _ _ _ _ _ _ _ (mkF K.m 108 #[.val (.int p0), .val (.int p1), .val (.int p2), .val (.int p3), .val (.int a), .val (.int b), .val (.int y), .val (.int z), .val (.int f), .val (.int (p0 &&& (7 : Int32))), .val (.ref a1229), .unset] [.int (0 : Int32)])
            refine go_ifeq d23_108 (fun c1238 => ?_) (fun c1238 => absurd (rfl) c1238)
            refine go_iconst (x := (0 : Int32)) d23_115 (by decide) ?_
            refine go_istore d23_116 (l' := #[.val (.int p0), .val (.int p1), .val (.int p2), .val (.int p3), .val (.int a), .val (.int b), .val (.int y), .val (.int z), .val (.int f), .val (.int (p0 &&& (7 : Int32))), .val (.ref a1229), .val (.int (0 : Int32))]) rfl ?_
            refine go_goto d23_118 ?_
            have B1239 : AI Z h1232 a1229 .char ([a, b] : List Int32) := ecs2 ▸ (take_all hl2 ▸ A1232)
            exact (tail _ _ _ _ S1235 h1232 (by omega) B1239 (by simp) (Or.inr ⟨fun q => p1235 ((own_all_cons.mp q.2.2).2 b (by simp)), rfl⟩)).weak (by decide) (by decide)
        · show Go _ _ _ _ _ _ _ _ _ _ _ _ _ _ _ _ _ (mkF K.m 100 #[.val (.int p0), .val (.int p1), .val (.int p2), .val (.int p3), .val (.int a), .val (.int b), .val (.int y), .val (.int z), .val (.int f), .val (.int (p0 &&& (7 : Int32))), .val (.ref a1229), .unset] [.int (0 : Int32)])
          refine go_ifeq d23_100 (fun c1240 => ?_) (fun c1240 => absurd (rfl) c1240)
          refine go_iconst (x := (0 : Int32)) d23_115 (by decide) ?_
          refine go_istore d23_116 (l' := #[.val (.int p0), .val (.int p1), .val (.int p2), .val (.int p3), .val (.int a), .val (.int b), .val (.int y), .val (.int z), .val (.int f), .val (.int (p0 &&& (7 : Int32))), .val (.ref a1229), .val (.int (0 : Int32))]) rfl ?_
          refine go_goto d23_118 ?_
          have B1241 : AI Z h1232 a1229 .char ([a, b] : List Int32) := ecs2 ▸ (take_all hl2 ▸ A1232)
          exact (tail _ _ _ _ S1233 h1232 (by omega) B1241 (by simp) (Or.inr ⟨fun q => p1233 (own_all_cons.mp q.2.2).1, rfl⟩)).weak (by decide) (by decide)
    · refine go_iconst (x := (1 : Int32)) d23_54 (by decide) ?_
      obtain ⟨cs1, ecs1⟩ : ∃ q, q = ([a] : List Int32) := ⟨_, rfl⟩
      have hl1 : cs1.length = 1 := by rw [ecs1]; rfl
      refine go_newarr (kc := 23) (ks := 1663) (N := 1) (cap := 1) (hw _ (List.mem_of_getElem? (i := 0) rfl)) rfl (Nat.le_refl _) (by decide) rfl rfl d23_55 (fun S1242 h1242 a1242 e1242 m1242 s1242 x1242 l1242 A1242 => ?_)
      have z1242 := x1242.1
      have A1242 : AI Z h1242 a1242 .char (List.replicate 1 0) := A1242
      have A1243 : AI Z h1242 a1242 .char (cs1.take 0 ++ List.replicate (1 - 0) 0) := A1242
      refine go_dup d23_57 rfl ?_
      refine go_iconst (x := (0 : Int32)) d23_58 (by decide) ?_
      refine go_iload d23_59 rfl ?_
      refine go_castore (v := a) A1243 (by omega) (i := 0) rfl (by rw [take_len hl1 (by decide)]; decide) (nar_ch ha) d23_61 (fun h1244 K1244 A1244 => ?_)
      have z1244 := K1244.1
      have A1244 : AI Z h1244 a1242 .char (cs1.take (0 + 1) ++ List.replicate (1 - (0 + 1)) 0) := set_take (i := 0) (c := a) hl1 (by rw [ecs1]; rfl) ▸ A1244
      refine go_astore d23_62 rfl (l' := #[.val (.int p0), .val (.int p1), .val (.int p2), .val (.int p3), .val (.int a), .val (.int b), .val (.int y), .val (.int z), .val (.int f), .val (.int (p0 &&& (7 : Int32))), .val (.ref a1242), .unset]) rfl ?_
      refine go_iload d23_64 rfl ?_
      refine go_static (R := room_1) (kc := 23) (ks := 1663) [.int a] [] (c_first l Z a0 hw hEL a S1242 h1244) (hw _ (List.mem_of_getElem? (i := 37) rfl)) (hw _ (List.mem_of_getElem? (i := 38) rfl)) (hw _ (List.mem_of_getElem? (i := 40) rfl)) (hw _ (List.mem_of_getElem? (i := 39) rfl)) (by decide) rfl rfl (lenOf pd14 rfl) d23_66 (by rfl) (by decide) (Nat.le_of_ble_eq_true rfl) (rc := 0) (rs := 0) rfl rfl (fun S1245 v1245 h1245 m1245 z1245 q1245 => ?_)
      rcases q1245 with ⟨p1245, rfl, rfl⟩ | ⟨p1245, rfl, rfl⟩
      · show Go _ _ _ _ _ _ _ _ _ _ _ _ _ _ _ _ _ (mkF K.m 69 #[.val (.int p0), .val (.int p1), .val (.int p2), .val (.int p3), .val (.int a), .val (.int b), .val (.int y), .val (.int z), .val (.int f), .val (.int (p0 &&& (7 : Int32))), .val (.ref a1242), .unset] [.int (1 : Int32)])
        refine go_istore d23_69 (l' := #[.val (.int p0), .val (.int p1), .val (.int p2), .val (.int p3), .val (.int a), .val (.int b), .val (.int y), .val (.int z), .val (.int f), .val (.int (p0 &&& (7 : Int32))), .val (.ref a1242), .val (.int (1 : Int32))]) rfl ?_
        refine go_goto d23_71 ?_
        have B1246 : AI Z h1244 a1242 .char ([a] : List Int32) := ecs1 ▸ (take_all hl1 ▸ A1244)
        exact (tail _ _ _ _ S1245 h1244 (by omega) B1246 (by simp) (Or.inl ⟨⟨by simp, by simp, own_all_cons.mpr ⟨p1245, by simp⟩⟩, rfl⟩)).weak (by decide) (by decide)
      · show Go _ _ _ _ _ _ _ _ _ _ _ _ _ _ _ _ _ (mkF K.m 69 #[.val (.int p0), .val (.int p1), .val (.int p2), .val (.int p3), .val (.int a), .val (.int b), .val (.int y), .val (.int z), .val (.int f), .val (.int (p0 &&& (7 : Int32))), .val (.ref a1242), .unset] [.int (0 : Int32)])
        refine go_istore d23_69 (l' := #[.val (.int p0), .val (.int p1), .val (.int p2), .val (.int p3), .val (.int a), .val (.int b), .val (.int y), .val (.int z), .val (.int f), .val (.int (p0 &&& (7 : Int32))), .val (.ref a1242), .val (.int (0 : Int32))]) rfl ?_
        refine go_goto d23_71 ?_
        have B1247 : AI Z h1244 a1242 .char ([a] : List Int32) := ecs1 ▸ (take_all hl1 ▸ A1244)
        exact (tail _ _ _ _ S1245 h1244 (by omega) B1247 (by simp) (Or.inr ⟨fun q => p1245 (own_all_cons.mp q.2.2).1, rfl⟩)).weak (by decide) (by decide)
  · refine go_iconst (x := (0 : Int32)) d23_37 (by decide) ?_
    refine go_newarr (kc := 23) (ks := 1664) (N := 0) (cap := 0) (hw _ (List.mem_of_getElem? (i := 0) rfl)) rfl (Nat.le_refl _) (by decide) rfl rfl d23_38 (fun S1248 h1248 a1248 e1248 m1248 s1248 x1248 l1248 A1248 => ?_)
    have z1248 := x1248.1
    have A1248 : AI Z h1248 a1248 .char (List.replicate 0 0) := A1248
    refine go_astore d23_40 rfl (l' := #[.val (.int p0), .val (.int p1), .val (.int p2), .val (.int p3), .val (.int a), .val (.int b), .val (.int y), .val (.int z), .val (.int f), .val (.int (p0 &&& (7 : Int32))), .val (.ref a1248), .unset]) rfl ?_
    refine go_iconst (x := (0 : Int32)) d23_42 (by decide) ?_
    refine go_istore d23_43 (l' := #[.val (.int p0), .val (.int p1), .val (.int p2), .val (.int p3), .val (.int a), .val (.int b), .val (.int y), .val (.int z), .val (.int f), .val (.int (p0 &&& (7 : Int32))), .val (.ref a1248), .val (.int (0 : Int32))]) rfl ?_
    refine go_goto d23_45 ?_
    have B1249 : AI Z h1248 a1248 .char [] := A1248
    exact (tail _ _ _ _ S1248 h1248 (by omega) B1249 (by simp) (Or.inr ⟨fun q => absurd q.1 (by decide), rfl⟩)).weak (by decide) (by decide)
set_option maxRecDepth 65536 in
set_option maxHeartbeats 40000000 in
theorem comes_1 {Post : Tables → Env → Array Value → State → Outcome → State → Prop} (hpost : ∀ tb e args s v u, (limb_1_1.after args s (.returned v) u = true ∧ limb_1_2.after args s (.returned v) u = true ∧ True) → ReturnedEndW s (.returned v) u (Jvm.fieldLocs frame_1_writes args s ++ Jvm.arrayLocs frame_1_arrays args s ++ Jvm.staticLocs frame_1_statics s) 24 1664 → Post tb e args s (.returned v) u) :
    ArmFor flags0 classFile x code maxLocals ret World_1 tables_1 room_1 Calls_1 rest_1 Pre_1 Post := by
  intro l hfl _ _ p e ha hc hk s m args below hf hA hF happ hP
  obtain ⟨hcalls, hrest, hpre⟩ := hP
  obtain ⟨-, -, -, hnamed, -, -, -, hat⟩ := (Spec.applies_iff hf).mp happ
  obtain ⟨hg, hn⟩ := and_e (Cond.before_iff.mp (show (Jvm.Cond.and given_1 narrow_1).before args s = true from hpre))
  obtain ⟨g0, r0⟩ := and_e hg
  obtain ⟨g1, r1⟩ := and_e r0
  obtain ⟨g2, r2⟩ := and_e r1
  obtain ⟨g3, r3⟩ := and_e r2
  have g4 := r3
  obtain ⟨w0, w1, w2, w3, rfl⟩ : ∃ w0 w1 w2 w3 : Value, args = #[w0, w1, w2, w3] := by
    have hs : args.size = 4 := by simpa [Cond.value, given_1] using g0
    obtain ⟨L⟩ := args
    match L, hs with
    | [w0, w1, w2, w3], _ => exact ⟨w0, w1, w2, w3, rfl⟩
  have hw := fun d (hd : d ∈ tables_1) => atoms_spec (ws := Jvm.Cond.code x code maxLocals ret :: tables_1) hat d (List.mem_cons_of_mem _ hd)
  have hfit : Fit s := fun {y c} hc i hi => by
    obtain ⟨ha, rfl⟩ := Array.getElem?_eq_some_iff.mp hc
    have q := List.all_eq_true.mp ((Array.all_eq_true_iff_forall_mem.mp hF) _ (Array.getElem_mem ha)) i (List.mem_range.mpr hi)
    simpa [Array.getElem?_eq_getElem hi] using q
  obtain ⟨hsets, hown0⟩ := atoms_of _ (rest_1_c_eq ▸ (show rest_1_c.before _ s = true from hrest))
  obtain ⟨i0, ei0⟩ := is_v g1
  obtain rfl : w0 = (.int i0) := Option.some.inj ei0
  obtain ⟨i1, ei1⟩ := is_v g2
  obtain rfl : w1 = (.int i1) := Option.some.inj ei1
  obtain ⟨i2, ei2⟩ := is_v g3
  obtain rfl : w2 = (.int i2) := Option.some.inj ei2
  obtain ⟨i3, ei3⟩ := is_v g4
  obtain rfl : w3 = (.int i3) := Option.some.inj ei3
  have hEL : EW s _ own_EL := (EW.cons (text := "") (hw _ (List.mem_of_getElem? (i := 14) rfl)) (by decide) EW.nil)
  have hCH : CHv s own_EL s.vm s.heap := CHv.start hEL (fun p hp => hcalls.1 p hp) (hsets _ (List.mem_of_getElem? (i := 2) rfl)) (hw _ (List.mem_of_getElem? (i := 15) rfl)) (hw _ (List.mem_of_getElem? (i := 2) rfl))
  obtain ⟨zc, ezc⟩ := is_v (Cond.before_iff.mp (hsets _ (List.mem_of_getElem? (i := 1) rfl)))
  have Oc : Sta s s.heap "java/lang/String" "COMPACT_STRINGS" "Z" (.int zc) := Sta.start ezc (Or.inl (hsets _ (List.mem_of_getElem? (i := 0) rfl)))
  have Pc : ¬ (zc = (0 : Int32)) := gotF (Cond.eq_ints ezc (Term.int_eval (0))) (not_v (Cond.before_iff.mp (hsets _ (List.mem_of_getElem? (i := 2) rfl))))
  have Oa : Sta s s.heap "java/lang/StringUTF16" "$assertionsDisabled" "Z" (.int (1 : Int32)) := Sta.start (own_eqint (Cond.before_iff.mp (hsets _ (List.mem_of_getElem? (i := 12) rfl)))) (Or.inl (hsets _ (List.mem_of_getElem? (i := 11) rfl)))
  have Oh : Sta s s.heap "java/lang/StringUTF16" "HI_BYTE_SHIFT" "I" (.int (0 : Int32)) := Sta.start (own_eqint (Cond.before_iff.mp (hsets _ (List.mem_of_getElem? (i := 15) rfl)))) (Or.inl (hsets _ (List.mem_of_getElem? (i := 14) rfl)))
  have Ol : Sta s s.heap "java/lang/StringUTF16" "LO_BYTE_SHIFT" "I" (.int (8 : Int32)) := Sta.start (own_eqint (Cond.before_iff.mp (hsets _ (List.mem_of_getElem? (i := 18) rfl)))) (Or.inl (hsets _ (List.mem_of_getElem? (i := 17) rfl)))
  obtain ⟨sf, esf, rsf⟩ := isR_v (Cond.before_iff.mp (hsets _ (List.mem_of_getElem? (i := 8) rfl)))
  have Os : Sta s s.heap "jdk/internal/util/Preconditions" "SIOOBE_FORMATTER" "Ljava/util/function/BiFunction;" sf := Sta.start esf (Or.inl (hsets _ (List.mem_of_getElem? (i := 7) rfl)))
  obtain ⟨n, o, h1, h2, h3, _, L, rfl, ⟨⟨S, -, -, -, rfl⟩, N⟩, -, hq⟩ := c_law l s _ hw hEL i0 i1 i2 i3 zc Oc Pc sf rsf Os Oa Oh Ol p e ha hc hk s m _ below hf ((Spec.applies_iff_loose hf).mp happ).1 ⟨rfl, State.Warmed39.refl s, rfl, hCH, fun _ q => q.elim, ⟨Nat.le_refl _, fun _ _ q => q⟩⟩ trivial
  refine ⟨n, _, h1, h2, h3, hpost _ _ _ _ _ _ ⟨Cond.after_iff.mpr rfl, Cond.after_iff.mpr (eq_i res_at (Term.int_eval (1)) rfl), trivial⟩ ⟨hq.1, hq.2.1, hq.2.2.1, (hq.2.2.2.sift fun y hy => Or.inr (N y hy)).mono (by decide) (by decide)⟩⟩
theorem main_1_1 : Claimed_1_1 := comes_1 fun _ _ _ _ _ _ h hF => ⟨h.1, hF⟩
theorem main_1_2 : Claimed_1_2 := comes_1 fun _ _ _ _ _ _ h hF => ⟨h.2.1, hF⟩
end Jvm.Pilot.@@N@@
namespace Jvm.Pilot.@@N@@
open Jvm Jvm.ClassFile Sem Op Lib Jvm.Free Jvm.Stand Jvm.Pilot.@@N@@.Jvm.D
/-! MADE BY PROGRAM (witnessworld.py) out of the Statement's table words and the real class files: 20 classes; the members and pool entries that the words name. The judged class is class 1, her method 3. -/
namespace start1
open Jvm.ClassFile
def u (s : String) : CpInfo := .utf8 (stringToUtf16 s)
/-- a pool by its gaps: so many unusable entries, then the entry; so many at the end -/
def gap : Nat → List CpInfo → List CpInfo
  | 0, r => r
  | n + 1, r => .unusable :: gap n r
def poolList (es : List (Nat × CpInfo)) (last : Nat) : List CpInfo := es.foldr (fun e r => gap e.1 (e.2 :: r)) (gap last [])
def pool (es : List (Nat × CpInfo)) (last : Nat) : Array CpInfo := ⟨poolList es last⟩
def fileOf (pool : Array CpInfo) (this : Nat) (attrs : Array Attribute := #[]) (ms : Array MethodInfo := #[]) (fl : Nat := 33) (sup : Nat := 0) (ifs : Array Nat := #[]) (fds : Array FieldInfo := #[]) : ClassFile where
  minorVersion := 0
  majorVersion := 65
  constantPool := pool
  accessFlags := fl
  thisClass := this
  superClass := sup
  interfaces := ifs
  fields := fds
  methods := ms
  attributes := attrs
def plain (name : String) (sup : Option ClassId) : Class where
  name := name
  kind := .ordinary
  loader := none
  accessFlags := 33
  super := sup
  interfaces := #[]
  cf := none
  fields := #[]
  methods := #[]
  instanceTypes := #[]
  staticTypes := #[]
  resolved := #[]
  callSites := []
  init := .initialized
  statics := none
  mirror := none

def pool0 : Array CpInfo := pool [(5, u "<init>"), (0, u "()V"), (1, .class_ 10), (1, u "java/lang/Object")] 113

def k0c0 : Code := { maxStack := 0, maxLocals := 1, code := object_method_1_code, exceptionTable := #[], attributes := #[] }
def k0m0 : Method := { name := "<init>", desc := "()V", sig := { parameters := [], returnType := none }, accessFlags := 1, code := some k0c0 }
/-- java/lang/Object -/
def k0 : Class := { plain "java/lang/Object" none with
  accessFlags := 33
  interfaces := #[]
  cf := some (fileOf pool0 8 #[] #[{ accessFlags := 1, nameIndex := 5, descriptorIndex := 6, attributes := #[] }] 33 0 #[] #[])
  fields := #[]
  methods := #[k0m0]
  instanceTypes := #[]
  staticTypes := #[]
  resolved := Array.replicate 124 none
  statics := none }

def pool1 : Array CpInfo := pool [(2, .class_ 4), (1, u "java/lang/Object"), (0, u "<init>"), (0, u "()V"), (0, .methodref 8 9), (0, .class_ 10), (0, .nameAndType 11 12), (0, u "gatehouse/IdentifiersIsIdentifierPinLaw"), (0, u "inner"), (0, u "(C)Z"), (0, .methodref 8 14), (0, .nameAndType 15 12), (0, u "first"), (0, .class_ 17), (0, u "java/lang/String"), (0, .methodref 16 19), (0, .nameAndType 5 20), (0, u "([C)V"), (0, .methodref 22 23), (0, .class_ 24), (0, .nameAndType 25 26), (0, u "gatehouse/Identifiers"), (0, u "isIdentifier"), (0, u "(Ljava/lang/String;)Z"), (3, u "law"), (0, u "(IIII)Z")] 4

def k1m0 : Method := { name := "<init>", desc := "()V", sig := { parameters := [], returnType := none }, accessFlags := 2, code := none }
def k1c1 : Code := { maxStack := 2, maxLocals := 1, code := method_2_code, exceptionTable := #[], attributes := #[] }
def k1m1 : Method := { name := "inner", desc := "(C)Z", sig := { parameters := [.char], returnType := some .boolean }, accessFlags := 10, code := some k1c1 }
def k1c2 : Code := { maxStack := 2, maxLocals := 1, code := method_3_code, exceptionTable := #[], attributes := #[] }
def k1m2 : Method := { name := "first", desc := "(C)Z", sig := { parameters := [.char], returnType := some .boolean }, accessFlags := 10, code := some k1c2 }
def k1c3 : Code := { maxStack := 4, maxLocals := 12, code := code, exceptionTable := #[], attributes := #[] }
def k1m3 : Method := { name := "law", desc := "(IIII)Z", sig := { parameters := [.int, .int, .int, .int], returnType := some .boolean }, accessFlags := 9, code := some k1c3 }
/-- gatehouse/IdentifiersIsIdentifierPinLaw -/
def k1 : Class := { plain "gatehouse/IdentifiersIsIdentifierPinLaw" (some 0) with
  accessFlags := 49
  interfaces := #[]
  cf := some (fileOf pool1 8 #[] #[{ accessFlags := 2, nameIndex := 5, descriptorIndex := 6, attributes := #[] }, { accessFlags := 10, nameIndex := 11, descriptorIndex := 12, attributes := #[] }, { accessFlags := 10, nameIndex := 15, descriptorIndex := 12, attributes := #[] }, { accessFlags := 9, nameIndex := 30, descriptorIndex := 31, attributes := #[] }] 49 2 #[] #[])
  fields := #[]
  methods := #[k1m0, k1m1, k1m2, k1m3]
  instanceTypes := #[]
  staticTypes := #[]
  resolved := Array.replicate 36 none
  statics := none }

def pool2 : Array CpInfo := pool [(1, .class_ 2), (0, u "java/io/Serializable"), (0, .class_ 4), (0, u "java/lang/Object")] 2

/-- java/io/Serializable -/
def k2 : Class := { plain "java/io/Serializable" (some 0) with
  accessFlags := 1537
  interfaces := #[]
  cf := some (fileOf pool2 1 #[] #[] 1537 3 #[] #[])
  fields := #[]
  methods := #[]
  instanceTypes := #[]
  staticTypes := #[]
  resolved := Array.replicate 7 none
  statics := none }

def pool3 : Array CpInfo := pool [(1, .class_ 2), (0, u "java/lang/Comparable"), (0, .class_ 4), (0, u "java/lang/Object")] 7

/-- java/lang/Comparable -/
def k3 : Class := { plain "java/lang/Comparable" (some 0) with
  accessFlags := 1537
  interfaces := #[]
  cf := some (fileOf pool3 1 #[] #[] 1537 3 #[] #[])
  fields := #[]
  methods := #[]
  instanceTypes := #[]
  staticTypes := #[]
  resolved := Array.replicate 12 none
  statics := none }

def pool4 : Array CpInfo := pool [(2, .class_ 4), (1, u "java/lang/CharSequence"), (42, .class_ 48), (0, u "java/lang/CharSequence$1CodePointIterator"), (10, .class_ 60), (0, u "java/lang/CharSequence$1CharIterator"), (5, .class_ 67), (0, u "java/lang/Object")] 63

/-- java/lang/CharSequence -/
def k4 : Class := { plain "java/lang/CharSequence" (some 0) with
  accessFlags := 1537
  interfaces := #[]
  cf := some (fileOf pool4 2 #[.nestMembers #[47, 59]] #[] 1537 66 #[] #[])
  fields := #[]
  methods := #[]
  instanceTypes := #[]
  staticTypes := #[]
  resolved := Array.replicate 131 none
  statics := none }

def pool5 : Array CpInfo := pool [(1, .class_ 2), (0, u "java/lang/constant/Constable"), (0, .class_ 4), (0, u "java/lang/Object")] 6

/-- java/lang/constant/Constable -/
def k5 : Class := { plain "java/lang/constant/Constable" (some 0) with
  accessFlags := 1537
  interfaces := #[]
  cf := some (fileOf pool5 1 #[] #[] 1537 3 #[] #[])
  fields := #[]
  methods := #[]
  instanceTypes := #[]
  staticTypes := #[]
  resolved := Array.replicate 11 none
  statics := none }

def pool6 : Array CpInfo := pool [(1, .class_ 2), (0, u "java/lang/constant/ConstantDesc"), (0, .class_ 4), (0, u "java/lang/Object")] 32

/-- java/lang/constant/ConstantDesc -/
def k6 : Class := { plain "java/lang/constant/ConstantDesc" (some 0) with
  accessFlags := 1537
  interfaces := #[]
  cf := some (fileOf pool6 1 #[] #[] 1537 3 #[] #[])
  fields := #[]
  methods := #[]
  instanceTypes := #[]
  staticTypes := #[]
  resolved := Array.replicate 37 none
  statics := none }

def pool7 : Array CpInfo := pool [(1, .methodref 2 3), (0, .class_ 4), (0, .nameAndType 5 6), (0, u "java/lang/Object"), (0, u "<init>"), (0, u "()V"), (0, .string 8), (0, u ""), (0, .fieldref 10 11), (0, .class_ 12), (0, .nameAndType 13 14), (0, u "java/lang/String"), (0, u "value"), (0, u "[B"), (0, .fieldref 10 16), (0, .nameAndType 17 18), (0, u "coder"), (0, u "B"), (2, u "hash"), (0, u "I"), (2, u "hashIsZero"), (0, u "Z"), (0, .methodref 10 28), (0, .nameAndType 5 29), (0, u "([CIILjava/lang/Void;)V"), (8, .fieldref 10 39), (0, .nameAndType 40 26), (0, u "COMPACT_STRINGS"), (1, .class_ 44), (1, u "java/lang/StringUTF16"), (0, u "compress"), (1, .methodref 42 48), (0, .nameAndType 49 50), (0, u "coderFromArrayLen"), (0, u "([BI)B"), (56, .class_ 109), (1, u "java/lang/StringLatin1"), (32, u "()Z"), (34, .methodref 42 178), (0, .nameAndType 45 179), (0, u "([CII)[B"), (154, u "()I"), (0, .methodref 10 336), (0, .nameAndType 17 337), (0, u "()B"), (25, u "([BI)C"), (27, u "(II)V"), (35, u "(I)C"), (64, .methodref 10 493), (0, .nameAndType 494 142), (0, u "isLatin1"), (0, .methodref 107 496), (0, .nameAndType 497 363), (0, u "charAt"), (0, .methodref 42 496), (2, u "checkIndex"), (5, u "length"), (67, .class_ 576), (0, u "java/lang/CharSequence"), (22, u "CASE_INSENSITIVE_ORDER"), (0, u "Ljava/util/Comparator;"), (409, u "([C)V"), (42, .fieldref 1054 1055), (0, .class_ 1056), (0, .nameAndType 1057 1058), (0, u "jdk/internal/util/Preconditions"), (0, u "SIOOBE_FORMATTER"), (0, u "Ljava/util/function/BiFunction;"), (0, .methodref 1054 1060), (0, .nameAndType 501 1061), (0, u "(IILjava/util/function/BiFunction;)I"), (39, u "serialPersistentFields"), (0, u "[Ljava/io/ObjectStreamField;"), (0, .class_ 1104), (0, u "java/lang/String$CaseInsensitiveComparator"), (1, .class_ 1107), (0, u "java/io/Serializable"), (0, .class_ 1109), (0, u "java/lang/Comparable"), (0, .class_ 1111), (0, u "java/lang/constant/Constable"), (0, .class_ 1113), (0, u "java/lang/constant/ConstantDesc"), (2, u "serialVersionUID"), (0, u "J"), (3, u "REPL"), (0, u "C"), (2, u "LATIN1"), (1, u "UTF16")] 323

def k7m0 : Method := { name := "<init>", desc := "()V", sig := { parameters := [], returnType := none }, accessFlags := 1, code := none }
def k7c1 : Code := { maxStack := 5, maxLocals := 2, code := jdk_42_method_3_code, exceptionTable := #[], attributes := #[] }
def k7m1 : Method := { name := "<init>", desc := "([C)V", sig := { parameters := [(.array .char)], returnType := none }, accessFlags := 1, code := some k7c1 }
def k7c2 : Code := { maxStack := 2, maxLocals := 1, code := jdk_42_method_54_code, exceptionTable := #[], attributes := #[] }
def k7m2 : Method := { name := "length", desc := "()I", sig := { parameters := [], returnType := some .int }, accessFlags := 1, code := some k7c2 }
def k7c3 : Code := { maxStack := 2, maxLocals := 2, code := jdk_42_method_56_code, exceptionTable := #[], attributes := #[] }
def k7m3 : Method := { name := "charAt", desc := "(I)C", sig := { parameters := [.int], returnType := some .char }, accessFlags := 1, code := some k7c3 }
def k7c4 : Code := { maxStack := 4, maxLocals := 6, code := jdk_42_method_149_code, exceptionTable := #[], attributes := #[] }
def k7m4 : Method := { name := "<init>", desc := "([CIILjava/lang/Void;)V", sig := { parameters := [(.array .char), .int, .int, (.object "java/lang/Void")], returnType := none }, accessFlags := 2, code := some k7c4 }
def k7c5 : Code := { maxStack := 1, maxLocals := 1, code := jdk_42_method_152_code, exceptionTable := #[], attributes := #[] }
def k7m5 : Method := { name := "coder", desc := "()B", sig := { parameters := [], returnType := some .byte }, accessFlags := 0, code := some k7c5 }
def k7c6 : Code := { maxStack := 1, maxLocals := 1, code := jdk_42_method_154_code, exceptionTable := #[], attributes := #[] }
def k7m6 : Method := { name := "isLatin1", desc := "()Z", sig := { parameters := [], returnType := some .boolean }, accessFlags := 0, code := some k7c6 }
def k7c7 : Code := { maxStack := 3, maxLocals := 2, code := jdk_42_method_155_code, exceptionTable := #[], attributes := #[] }
def k7m7 : Method := { name := "checkIndex", desc := "(II)V", sig := { parameters := [.int, .int], returnType := none }, accessFlags := 8, code := some k7c7 }
/-- java/lang/String -/
def k7 : Class := { plain "java/lang/String" (some 0) with
  accessFlags := 49
  interfaces := #[2, 3, 4, 5, 6]
  cf := some (fileOf pool7 10 #[.nestMembers #[1103]] #[{ accessFlags := 1, nameIndex := 5, descriptorIndex := 6, attributes := #[] }, { accessFlags := 1, nameIndex := 5, descriptorIndex := 1010, attributes := #[] }, { accessFlags := 1, nameIndex := 507, descriptorIndex := 334, attributes := #[] }, { accessFlags := 1, nameIndex := 497, descriptorIndex := 427, attributes := #[] }, { accessFlags := 2, nameIndex := 5, descriptorIndex := 29, attributes := #[] }, { accessFlags := 0, nameIndex := 17, descriptorIndex := 337, attributes := #[] }, { accessFlags := 0, nameIndex := 494, descriptorIndex := 142, attributes := #[] }, { accessFlags := 8, nameIndex := 501, descriptorIndex := 391, attributes := #[] }] 49 2 #[1106, 1108, 575, 1110, 1112] #[{ accessFlags := 18, nameIndex := 13, descriptorIndex := 14, attributes := #[] }, { accessFlags := 18, nameIndex := 17, descriptorIndex := 18, attributes := #[] }, { accessFlags := 2, nameIndex := 21, descriptorIndex := 22, attributes := #[] }, { accessFlags := 2, nameIndex := 25, descriptorIndex := 26, attributes := #[] }, { accessFlags := 26, nameIndex := 1116, descriptorIndex := 1117, attributes := #[] }, { accessFlags := 24, nameIndex := 40, descriptorIndex := 26, attributes := #[] }, { accessFlags := 26, nameIndex := 1101, descriptorIndex := 1102, attributes := #[] }, { accessFlags := 26, nameIndex := 1121, descriptorIndex := 1122, attributes := #[] }, { accessFlags := 25, nameIndex := 599, descriptorIndex := 600, attributes := #[] }, { accessFlags := 24, nameIndex := 1125, descriptorIndex := 18, attributes := #[] }, { accessFlags := 24, nameIndex := 1127, descriptorIndex := 18, attributes := #[] }])
  fields := #[{ name := "value", type := (.array .byte), accessFlags := 18, slot := 0, constantValue := 0 }, { name := "coder", type := .byte, accessFlags := 18, slot := 1, constantValue := 0 }, { name := "hash", type := .int, accessFlags := 2, slot := 2, constantValue := 0 }, { name := "hashIsZero", type := .boolean, accessFlags := 2, slot := 3, constantValue := 0 }, { name := "serialVersionUID", type := .long, accessFlags := 26, slot := 0, constantValue := 0 }, { name := "COMPACT_STRINGS", type := .boolean, accessFlags := 24, slot := 1, constantValue := 0 }, { name := "serialPersistentFields", type := (.array (.object "java/io/ObjectStreamField")), accessFlags := 26, slot := 2, constantValue := 0 }, { name := "REPL", type := .char, accessFlags := 26, slot := 3, constantValue := 0 }, { name := "CASE_INSENSITIVE_ORDER", type := (.object "java/util/Comparator"), accessFlags := 25, slot := 4, constantValue := 0 }, { name := "LATIN1", type := .byte, accessFlags := 24, slot := 5, constantValue := 0 }, { name := "UTF16", type := .byte, accessFlags := 24, slot := 6, constantValue := 0 }]
  methods := #[k7m0, k7m1, k7m2, k7m3, k7m4, k7m5, k7m6, k7m7]
  instanceTypes := #[(.array .byte), .byte, .int, .boolean]
  staticTypes := #[.long, .boolean, (.array (.object "java/io/ObjectStreamField")), .char, (.object "java/util/Comparator"), .byte, .byte]
  resolved := Array.replicate 1451 none
  statics := some 0 }

def pool8 : Array CpInfo := pool [(2, .class_ 4), (1, u "java/lang/Object"), (0, u "<init>"), (0, u "()V"), (1, .class_ 10), (1, u "gatehouse/Identifiers"), (0, u "isIdentifier"), (0, u "(Ljava/lang/String;)Z"), (24, .methodref 38 39), (0, .class_ 40), (0, .nameAndType 41 42), (0, u "java/lang/String"), (0, u "length"), (0, u "()I"), (0, .methodref 38 44), (0, .nameAndType 45 46), (0, u "charAt"), (0, u "(I)C"), (0, u "LONGEST"), (0, u "I")] 26

def k8m0 : Method := { name := "<init>", desc := "()V", sig := { parameters := [], returnType := none }, accessFlags := 2, code := none }
def k8c1 : Code := { maxStack := 2, maxLocals := 5, code := prog_21_method_5_code, exceptionTable := #[], attributes := #[] }
def k8m1 : Method := { name := "isIdentifier", desc := "(Ljava/lang/String;)Z", sig := { parameters := [(.object "java/lang/String")], returnType := some .boolean }, accessFlags := 8, code := some k8c1 }
/-- gatehouse/Identifiers -/
def k8 : Class := { plain "gatehouse/Identifiers" (some 0) with
  accessFlags := 48
  interfaces := #[]
  cf := some (fileOf pool8 8 #[] #[{ accessFlags := 2, nameIndex := 5, descriptorIndex := 6, attributes := #[] }, { accessFlags := 8, nameIndex := 11, descriptorIndex := 12, attributes := #[] }] 48 2 #[] #[{ accessFlags := 26, nameIndex := 47, descriptorIndex := 48, attributes := #[] }])
  fields := #[{ name := "LONGEST", type := .int, accessFlags := 26, slot := 0, constantValue := 0 }]
  methods := #[k8m0, k8m1]
  instanceTypes := #[]
  staticTypes := #[.int]
  resolved := Array.replicate 75 none
  statics := none }

def pool9 : Array CpInfo := pool [(3, .class_ 4), (0, u "java/lang/String"), (1, .class_ 8), (1, u "java/lang/Object"), (0, u "<init>"), (0, u "()V"), (0, .methodref 12 13), (0, .class_ 14), (0, .nameAndType 15 16), (0, u "java/lang/StringUTF16"), (0, u "newBytesLength"), (0, u "(I)I"), (3, .integer 1073741823), (23, .fieldref 12 45), (0, .nameAndType 46 47), (0, u "$assertionsDisabled"), (0, u "Z"), (0, .methodref 12 49), (0, .nameAndType 50 51), (0, u "length"), (0, u "([B)I"), (7, .fieldref 12 60), (0, .nameAndType 61 62), (0, u "HI_BYTE_SHIFT"), (0, u "I"), (0, .fieldref 12 64), (0, .nameAndType 65 62), (0, u "LO_BYTE_SHIFT"), (1, .methodref 12 68), (0, .nameAndType 69 70), (0, u "checkIndex"), (0, u "(I[B)V"), (0, .methodref 12 72), (0, .nameAndType 73 74), (0, u "getChar"), (0, u "([BI)C"), (32, .methodref 12 108), (0, .nameAndType 109 110), (0, u "newBytesFor"), (0, u "(I)[B"), (0, .methodref 12 112), (0, .nameAndType 113 114), (0, u "putChar"), (0, u "([BII)V"), (0, .methodref 12 116), (0, .nameAndType 117 118), (0, u "compress"), (0, u "([CI[BII)I"), (0, .methodref 12 120), (0, .nameAndType 121 122), (0, u "toBytes"), (0, u "([CII)[B"), (138, u "coderFromArrayLen"), (0, u "([BI)B"), (106, .class_ 371), (1, u "java/lang/StringUTF16$LinesSpliterator"), (20, u "charAt"), (21, .methodref 3 415), (0, .nameAndType 69 416), (0, u "(II)V"), (13, u "MAX_LENGTH"), (196, .class_ 628), (0, u "java/lang/StringUTF16$CodePointsSpliterator"), (0, .class_ 630), (0, u "java/lang/StringUTF16$CharsSpliterator")] 4

def k9m0 : Method := { name := "<init>", desc := "()V", sig := { parameters := [], returnType := none }, accessFlags := 0, code := none }
def k9c1 : Code := { maxStack := 1, maxLocals := 1, code := jdk_52_method_2_code, exceptionTable := #[], attributes := #[] }
def k9m1 : Method := { name := "newBytesFor", desc := "(I)[B", sig := { parameters := [.int], returnType := some (.array .byte) }, accessFlags := 9, code := some k9c1 }
def k9c2 : Code := { maxStack := 4, maxLocals := 1, code := jdk_52_method_3_code, exceptionTable := #[], attributes := #[] }
def k9m2 : Method := { name := "newBytesLength", desc := "(I)I", sig := { parameters := [.int], returnType := some .int }, accessFlags := 9, code := some k9c2 }
def k9c3 : Code := { maxStack := 4, maxLocals := 3, code := jdk_52_method_4_code, exceptionTable := #[], attributes := #[] }
def k9m3 : Method := { name := "putChar", desc := "([BII)V", sig := { parameters := [(.array .byte), .int, .int], returnType := none }, accessFlags := 8, code := some k9c3 }
def k9c4 : Code := { maxStack := 3, maxLocals := 2, code := jdk_52_method_5_code, exceptionTable := #[], attributes := #[] }
def k9m4 : Method := { name := "getChar", desc := "([BI)C", sig := { parameters := [(.array .byte), .int], returnType := some .char }, accessFlags := 8, code := some k9c4 }
def k9c5 : Code := { maxStack := 2, maxLocals := 1, code := jdk_52_method_6_code, exceptionTable := #[], attributes := #[] }
def k9m5 : Method := { name := "length", desc := "([B)I", sig := { parameters := [(.array .byte)], returnType := some .int }, accessFlags := 9, code := some k9c5 }
def k9c6 : Code := { maxStack := 4, maxLocals := 5, code := jdk_52_method_14_code, exceptionTable := #[], attributes := #[] }
def k9m6 : Method := { name := "toBytes", desc := "([CII)[B", sig := { parameters := [(.array .char), .int, .int], returnType := some (.array .byte) }, accessFlags := 9, code := some k9c6 }
def k9c7 : Code := { maxStack := 2, maxLocals := 2, code := jdk_52_method_15_code, exceptionTable := #[], attributes := #[] }
def k9m7 : Method := { name := "coderFromArrayLen", desc := "([BI)B", sig := { parameters := [(.array .byte), .int], returnType := some .byte }, accessFlags := 8, code := some k9c7 }
def k9c8 : Code := { maxStack := 5, maxLocals := 6, code := jdk_52_method_16_code, exceptionTable := #[], attributes := #[] }
def k9m8 : Method := { name := "compress", desc := "([CII)[B", sig := { parameters := [(.array .char), .int, .int], returnType := some (.array .byte) }, accessFlags := 9, code := some k9c8 }
def k9c9 : Code := { maxStack := 3, maxLocals := 7, code := jdk_52_method_21_code, exceptionTable := #[], attributes := #[] }
def k9m9 : Method := { name := "compress", desc := "([CI[BII)I", sig := { parameters := [(.array .char), .int, (.array .byte), .int, .int], returnType := some .int }, accessFlags := 9, code := some k9c9 }
def k9c10 : Code := { maxStack := 2, maxLocals := 2, code := jdk_52_method_83_code, exceptionTable := #[], attributes := #[] }
def k9m10 : Method := { name := "charAt", desc := "([BI)C", sig := { parameters := [(.array .byte), .int], returnType := some .char }, accessFlags := 9, code := some k9c10 }
def k9c11 : Code := { maxStack := 2, maxLocals := 2, code := jdk_52_method_91_code, exceptionTable := #[], attributes := #[] }
def k9m11 : Method := { name := "checkIndex", desc := "(I[B)V", sig := { parameters := [.int, (.array .byte)], returnType := none }, accessFlags := 9, code := some k9c11 }
/-- java/lang/StringUTF16 -/
def k9 : Class := { plain "java/lang/StringUTF16" (some 0) with
  accessFlags := 48
  interfaces := #[]
  cf := some (fileOf pool9 12 #[.nestMembers #[627, 629, 369]] #[{ accessFlags := 0, nameIndex := 9, descriptorIndex := 10, attributes := #[] }, { accessFlags := 9, nameIndex := 109, descriptorIndex := 110, attributes := #[] }, { accessFlags := 9, nameIndex := 15, descriptorIndex := 16, attributes := #[] }, { accessFlags := 8, nameIndex := 113, descriptorIndex := 114, attributes := #[] }, { accessFlags := 8, nameIndex := 73, descriptorIndex := 74, attributes := #[] }, { accessFlags := 9, nameIndex := 50, descriptorIndex := 51, attributes := #[] }, { accessFlags := 9, nameIndex := 121, descriptorIndex := 122, attributes := #[] }, { accessFlags := 8, nameIndex := 261, descriptorIndex := 262, attributes := #[] }, { accessFlags := 9, nameIndex := 117, descriptorIndex := 122, attributes := #[] }, { accessFlags := 9, nameIndex := 117, descriptorIndex := 118, attributes := #[] }, { accessFlags := 9, nameIndex := 392, descriptorIndex := 74, attributes := #[] }, { accessFlags := 9, nameIndex := 69, descriptorIndex := 70, attributes := #[] }] 48 6 #[] #[{ accessFlags := 26, nameIndex := 61, descriptorIndex := 62, attributes := #[] }, { accessFlags := 26, nameIndex := 65, descriptorIndex := 62, attributes := #[] }, { accessFlags := 24, nameIndex := 430, descriptorIndex := 62, attributes := #[] }, { accessFlags := 4120, nameIndex := 46, descriptorIndex := 47, attributes := #[] }])
  fields := #[{ name := "HI_BYTE_SHIFT", type := .int, accessFlags := 26, slot := 0, constantValue := 0 }, { name := "LO_BYTE_SHIFT", type := .int, accessFlags := 26, slot := 1, constantValue := 0 }, { name := "MAX_LENGTH", type := .int, accessFlags := 24, slot := 2, constantValue := 0 }, { name := "$assertionsDisabled", type := .boolean, accessFlags := 4120, slot := 3, constantValue := 0 }]
  methods := #[k9m0, k9m1, k9m2, k9m3, k9m4, k9m5, k9m6, k9m7, k9m8, k9m9, k9m10, k9m11]
  instanceTypes := #[]
  staticTypes := #[.int, .int, .int, .boolean]
  resolved := Array.replicate 635 none
  statics := some 1 }

def pool10 : Array CpInfo := pool [(1, .class_ 2), (0, u "java/lang/String"), (1, .class_ 6), (1, u "java/lang/Object"), (0, u "<init>"), (0, u "()V"), (0, .methodref 1 10), (0, .nameAndType 11 12), (0, u "checkIndex"), (0, u "(II)V"), (1, .class_ 16), (1, u "java/lang/StringLatin1"), (36, u "([BI)C"), (67, u "$assertionsDisabled"), (0, u "Z"), (98, .class_ 223), (1, u "java/lang/StringLatin1$LinesSpliterator"), (28, u "charAt"), (137, .class_ 391), (0, u "java/lang/StringLatin1$CharsSpliterator")] 3

def k10m0 : Method := { name := "<init>", desc := "()V", sig := { parameters := [], returnType := none }, accessFlags := 0, code := none }
def k10c1 : Code := { maxStack := 2, maxLocals := 2, code := jdk_43_method_2_code, exceptionTable := #[], attributes := #[] }
def k10m1 : Method := { name := "charAt", desc := "([BI)C", sig := { parameters := [(.array .byte), .int], returnType := some .char }, accessFlags := 9, code := some k10c1 }
/-- java/lang/StringLatin1 -/
def k10 : Class := { plain "java/lang/StringLatin1" (some 0) with
  accessFlags := 48
  interfaces := #[]
  cf := some (fileOf pool10 14 #[.nestMembers #[390, 221]] #[{ accessFlags := 0, nameIndex := 7, descriptorIndex := 8, attributes := #[] }, { accessFlags := 9, nameIndex := 252, descriptorIndex := 53, attributes := #[] }] 48 4 #[] #[{ accessFlags := 4120, nameIndex := 121, descriptorIndex := 122, attributes := #[] }])
  fields := #[{ name := "$assertionsDisabled", type := .boolean, accessFlags := 4120, slot := 0, constantValue := 0 }]
  methods := #[k10m0, k10m1]
  instanceTypes := #[]
  staticTypes := #[.boolean]
  resolved := Array.replicate 395 none
  statics := none }

def pool11 : Array CpInfo := pool [(2, .class_ 4), (1, u "java/lang/Object"), (0, u "<init>"), (0, u "()V"), (17, .class_ 26), (1, u "jdk/internal/util/Preconditions"), (6, u "checkIndex"), (21, .class_ 56), (0, u "jdk/internal/util/Preconditions$4"), (57, .class_ 115), (0, u "jdk/internal/util/Preconditions$1"), (7, u "SIOOBE_FORMATTER"), (0, u "Ljava/util/function/BiFunction;"), (0, .class_ 126), (0, u "jdk/internal/util/Preconditions$2"), (3, u "AIOOBE_FORMATTER"), (0, .class_ 132), (0, u "jdk/internal/util/Preconditions$3"), (3, u "IOOBE_FORMATTER"), (41, u "(IILjava/util/function/BiFunction;)I")] 15

def k11m0 : Method := { name := "<init>", desc := "()V", sig := { parameters := [], returnType := none }, accessFlags := 1, code := none }
def k11c1 : Code := { maxStack := 3, maxLocals := 3, code := jdk_41_method_11_code, exceptionTable := #[], attributes := #[] }
def k11m1 : Method := { name := "checkIndex", desc := "(IILjava/util/function/BiFunction;)I", sig := { parameters := [.int, .int, (.object "java/util/function/BiFunction")], returnType := some .int }, accessFlags := 9, code := some k11c1 }
/-- jdk/internal/util/Preconditions -/
def k11 : Class := { plain "jdk/internal/util/Preconditions" (some 0) with
  accessFlags := 33
  interfaces := #[]
  cf := some (fileOf pool11 24 #[.nestMembers #[55, 131, 125, 114]] #[{ accessFlags := 1, nameIndex := 5, descriptorIndex := 6, attributes := #[] }, { accessFlags := 9, nameIndex := 33, descriptorIndex := 178, attributes := #[] }] 33 2 #[] #[{ accessFlags := 25, nameIndex := 123, descriptorIndex := 124, attributes := #[] }, { accessFlags := 25, nameIndex := 130, descriptorIndex := 124, attributes := #[] }, { accessFlags := 25, nameIndex := 136, descriptorIndex := 124, attributes := #[] }])
  fields := #[{ name := "SIOOBE_FORMATTER", type := (.object "java/util/function/BiFunction"), accessFlags := 25, slot := 0, constantValue := 0 }, { name := "AIOOBE_FORMATTER", type := (.object "java/util/function/BiFunction"), accessFlags := 25, slot := 1, constantValue := 0 }, { name := "IOOBE_FORMATTER", type := (.object "java/util/function/BiFunction"), accessFlags := 25, slot := 2, constantValue := 0 }]
  methods := #[k11m0, k11m1]
  instanceTypes := #[]
  staticTypes := #[(.object "java/util/function/BiFunction"), (.object "java/util/function/BiFunction"), (.object "java/util/function/BiFunction")]
  resolved := Array.replicate 194 none
  statics := some 2 }

def pool12 : Array CpInfo := pool [(9, u "<init>"), (6, .class_ 18), (1, u "java/lang/Object"), (0, u "()V"), (1, .class_ 23), (1, u "jdk/internal/util/ArraysSupport"), (0, u "LOG2_ARRAY_LONG_INDEX_SCALE"), (0, u "I"), (2, u "U"), (0, u "Ljdk/internal/misc/Unsafe;"), (8, u "BIG_ENDIAN"), (0, u "Z"), (8, u "LOG2_BYTE_BIT_SIZE"), (4, u "LOG2_ARRAY_INT_INDEX_SCALE"), (54, u "JLA"), (0, u "Ljdk/internal/access/JavaLangAccess;"), (11, u "LOG2_ARRAY_BOOLEAN_INDEX_SCALE"), (9, u "LOG2_ARRAY_BYTE_INDEX_SCALE"), (5, u "LOG2_ARRAY_CHAR_INDEX_SCALE"), (5, u "LOG2_ARRAY_SHORT_INDEX_SCALE"), (18, u "LOG2_ARRAY_FLOAT_INDEX_SCALE"), (24, u "LOG2_ARRAY_DOUBLE_INDEX_SCALE"), (89, u "T_BOOLEAN"), (2, u "T_CHAR"), (1, u "T_FLOAT"), (1, u "T_DOUBLE"), (1, u "T_BYTE"), (1, u "T_SHORT"), (1, u "T_INT"), (1, u "T_LONG"), (1, u "SOFT_MAX_ARRAY_LENGTH")] 83

def k12m0 : Method := { name := "<init>", desc := "()V", sig := { parameters := [], returnType := none }, accessFlags := 2, code := none }
/-- jdk/internal/util/ArraysSupport -/
def k12 : Class := { plain "jdk/internal/util/ArraysSupport" (some 0) with
  accessFlags := 33
  interfaces := #[]
  cf := some (fileOf pool12 21 #[] #[{ accessFlags := 2, nameIndex := 9, descriptorIndex := 19, attributes := #[] }] 33 16 #[] #[{ accessFlags := 24, nameIndex := 28, descriptorIndex := 29, attributes := #[] }, { accessFlags := 26, nameIndex := 38, descriptorIndex := 39, attributes := #[] }, { accessFlags := 25, nameIndex := 121, descriptorIndex := 25, attributes := #[] }, { accessFlags := 25, nameIndex := 131, descriptorIndex := 25, attributes := #[] }, { accessFlags := 25, nameIndex := 137, descriptorIndex := 25, attributes := #[] }, { accessFlags := 25, nameIndex := 143, descriptorIndex := 25, attributes := #[] }, { accessFlags := 25, nameIndex := 53, descriptorIndex := 25, attributes := #[] }, { accessFlags := 25, nameIndex := 24, descriptorIndex := 25, attributes := #[] }, { accessFlags := 25, nameIndex := 162, descriptorIndex := 25, attributes := #[] }, { accessFlags := 25, nameIndex := 187, descriptorIndex := 25, attributes := #[] }, { accessFlags := 26, nameIndex := 48, descriptorIndex := 25, attributes := #[] }, { accessFlags := 25, nameIndex := 277, descriptorIndex := 25, attributes := #[] }, { accessFlags := 25, nameIndex := 280, descriptorIndex := 25, attributes := #[] }, { accessFlags := 25, nameIndex := 282, descriptorIndex := 25, attributes := #[] }, { accessFlags := 25, nameIndex := 284, descriptorIndex := 25, attributes := #[] }, { accessFlags := 25, nameIndex := 286, descriptorIndex := 25, attributes := #[] }, { accessFlags := 25, nameIndex := 288, descriptorIndex := 25, attributes := #[] }, { accessFlags := 25, nameIndex := 290, descriptorIndex := 25, attributes := #[] }, { accessFlags := 25, nameIndex := 292, descriptorIndex := 25, attributes := #[] }, { accessFlags := 26, nameIndex := 108, descriptorIndex := 109, attributes := #[] }, { accessFlags := 25, nameIndex := 294, descriptorIndex := 25, attributes := #[] }])
  fields := #[{ name := "U", type := (.object "jdk/internal/misc/Unsafe"), accessFlags := 24, slot := 0, constantValue := 0 }, { name := "BIG_ENDIAN", type := .boolean, accessFlags := 26, slot := 1, constantValue := 0 }, { name := "LOG2_ARRAY_BOOLEAN_INDEX_SCALE", type := .int, accessFlags := 25, slot := 2, constantValue := 0 }, { name := "LOG2_ARRAY_BYTE_INDEX_SCALE", type := .int, accessFlags := 25, slot := 3, constantValue := 0 }, { name := "LOG2_ARRAY_CHAR_INDEX_SCALE", type := .int, accessFlags := 25, slot := 4, constantValue := 0 }, { name := "LOG2_ARRAY_SHORT_INDEX_SCALE", type := .int, accessFlags := 25, slot := 5, constantValue := 0 }, { name := "LOG2_ARRAY_INT_INDEX_SCALE", type := .int, accessFlags := 25, slot := 6, constantValue := 0 }, { name := "LOG2_ARRAY_LONG_INDEX_SCALE", type := .int, accessFlags := 25, slot := 7, constantValue := 0 }, { name := "LOG2_ARRAY_FLOAT_INDEX_SCALE", type := .int, accessFlags := 25, slot := 8, constantValue := 0 }, { name := "LOG2_ARRAY_DOUBLE_INDEX_SCALE", type := .int, accessFlags := 25, slot := 9, constantValue := 0 }, { name := "LOG2_BYTE_BIT_SIZE", type := .int, accessFlags := 26, slot := 10, constantValue := 0 }, { name := "T_BOOLEAN", type := .int, accessFlags := 25, slot := 11, constantValue := 0 }, { name := "T_CHAR", type := .int, accessFlags := 25, slot := 12, constantValue := 0 }, { name := "T_FLOAT", type := .int, accessFlags := 25, slot := 13, constantValue := 0 }, { name := "T_DOUBLE", type := .int, accessFlags := 25, slot := 14, constantValue := 0 }, { name := "T_BYTE", type := .int, accessFlags := 25, slot := 15, constantValue := 0 }, { name := "T_SHORT", type := .int, accessFlags := 25, slot := 16, constantValue := 0 }, { name := "T_INT", type := .int, accessFlags := 25, slot := 17, constantValue := 0 }, { name := "T_LONG", type := .int, accessFlags := 25, slot := 18, constantValue := 0 }, { name := "JLA", type := (.object "jdk/internal/access/JavaLangAccess"), accessFlags := 26, slot := 19, constantValue := 0 }, { name := "SOFT_MAX_ARRAY_LENGTH", type := .int, accessFlags := 25, slot := 20, constantValue := 0 }]
  methods := #[k12m0]
  instanceTypes := #[]
  staticTypes := #[(.object "jdk/internal/misc/Unsafe"), .boolean, .int, .int, .int, .int, .int, .int, .int, .int, .int, .int, .int, .int, .int, .int, .int, .int, .int, (.object "jdk/internal/access/JavaLangAccess"), .int]
  resolved := Array.replicate 378 none
  statics := none }

def pool13 : Array CpInfo := pool [(1, u "java/lang/Cloneable"), (0, .class_ 1), (0, u "java/lang/Object"), (0, .class_ 3)] 3

/-- java/lang/Cloneable -/
def k13 : Class := { plain "java/lang/Cloneable" (some 0) with
  accessFlags := 1537
  interfaces := #[]
  cf := some (fileOf pool13 2 #[] #[] 1537 4 #[] #[])
  fields := #[]
  methods := #[]
  instanceTypes := #[]
  staticTypes := #[]
  resolved := Array.replicate 8 none
  statics := none }

/-- the primitive byte -/
def k14 : Class := { plain "byte" none with kind := .primitive 'B', accessFlags := 0x411 }
/-- [B -/
def k15 : Class := { plain "[B" (some 0) with kind := .array 14 .byte, interfaces := #[13, 2], accessFlags := 1041 }

/-- the primitive char -/
def k16 : Class := { plain "char" none with kind := .primitive 'C', accessFlags := 0x411 }
/-- [C -/
def k17 : Class := { plain "[C" (some 0) with kind := .array 16 .char, interfaces := #[13, 2], accessFlags := 1041 }

/-- the primitive int -/
def k18 : Class := { plain "int" none with kind := .primitive 'I', accessFlags := 0x411 }
/-- [I -/
def k19 : Class := { plain "[I" (some 0) with kind := .array 18 .int, interfaces := #[13, 2], accessFlags := 1041 }

def heap : Heap := #[{ cls := 7, slots := #[.long 0, .int 1, .null, .int 0, .null, .int 0, .int 0], vm := .statics 7 },
  { cls := 9, slots := #[.int 0, .int 8, .int 0, .int 1], vm := .statics 9 },
  { cls := 11, slots := #[.null, .null, .null], vm := .statics 11 }]
def classes : Array Class := #[k0, k1, k2, k3, k4, k5, k6, k7, k8, k9, k10, k11, k12, k13, k14, k15, k16, k17, k18, k19]
def interned : List (Array UInt16 × Addr) := []
def slotsUsed : Nat := 14
def theMethod : MethodId := ⟨1, 3⟩
def args0 : Array Value := #[.int 5, .int 5, .int 5, .int 5]
def aboutOver (below : List Frame) : State where
  vm := { classes := classes, interned := interned.toArray }
  heap := heap
  slotsUsed := slotsUsed
  threads := #[{ frames := .invoking theMethod args0 :: below }]
def below0 : List Frame := [.native { method := ⟨0, 0⟩, args := #[] }]
def about1 : State := aboutOver below0
def p0 : Program := .bare "" "" ""
def e0 : Env := launch0.env 0 0 0
theorem w_frames : about1.frames = Frame.invoking theMethod args0 :: below0 := rfl
set_option maxRecDepth 65536 in
theorem w_args : argsFit about1.vm theMethod args0 = true := by decide +kernel
set_option maxRecDepth 65536 in
theorem w_heap : heapFits about1 = true := by decide +kernel
set_option maxRecDepth 65536 in
theorem w_runnable : about1.curStatus? = some .runnable := by decide +kernel
set_option maxRecDepth 65536 in
theorem w_alone : about1.alone = true := by decide +kernel
set_option maxRecDepth 65536 in
theorem w_named : about1.methodNamed? x = some theMethod := by decide +kernel
set_option maxRecDepth 65536 in
theorem w_hears : about1.hears theMethod below0 = true := by decide +kernel
set_option maxRecDepth 65536 in
theorem w_ripe : about1.ripe theMethod args0 below0 = true := by decide +kernel
theorem w_running : about1.status = .running := rfl
set_option maxRecDepth 65536 in
theorem w_room : about1.hasRoom e0.platform room_1 = true :=
  launch0.hasRoom_least _ room_1 (by decide +kernel) (by decide +kernel) (by decide +kernel) (by decide +kernel) (by decide +kernel) (by decide +kernel)
theorem allAtoms_all (ts : List Jvm.Cond) (a : Array Jvm.Value) (st : Jvm.State) : (allAtoms ts).before a st = ts.all (fun c => c.before a st) := by
  induction ts with
  | nil => rfl
  | cons c t ih =>
    show (Jvm.Cond.and c (allAtoms t)).before a st = _
    rw [Jvm.Cond.before_and, ih, List.all_cons]
def words1 : List Jvm.Cond := Jvm.Cond.code x code maxLocals ret :: tables_1
/-- a 'code' word, met by the world's own term for the bytes: nothing is compared byte by byte -/
theorem code_word {y : MethodName} {bytes : ByteArray} {mx : Nat} {rt : Option FieldType} {a : Array Value} {s : State} {m : MethodId} {meth : Method} {c : Code} (h1 : s.methodNamed? y = some m) (h2 : s.vm.method? m = some meth) (h3 : meth.code = some c) (h4 : c.code = bytes)
    (h5 : (c.maxLocals == mx && c.exceptionTable.isEmpty && decide (c.maxStack ≤ mostOperands) && decide (meth.sig.returnType = rt) && !meth.locks && decide (parseMethodDescriptor y.desc = some meth.sig)) = true) : (Jvm.Cond.code y bytes mx rt).before a s = true := by
  simp only [Bool.and_eq_true, beq_iff_eq, Bool.not_eq_true', decide_eq_true_eq] at h5
  obtain ⟨⟨⟨⟨⟨g1, g2⟩, g3⟩, g4⟩, g5⟩, g6⟩ := h5
  simp [Cond.before, Cond.holds, Cond.value, h1, h2, h3, h4, g1, g2, g3, g4, g5, g6]
def isCode : Jvm.Cond → Bool
  | .code _ _ _ _ => true
  | _ => false
theorem all_split {L : List Jvm.Cond} {P : Jvm.Cond → Bool} (h1 : L.all (fun c => isCode c || P c) = true) (h2 : ∀ c ∈ L.filter isCode, P c = true) : L.all P = true := by
  refine List.all_eq_true.mpr fun c hc => ?_
  have h := List.all_eq_true.mp h1 c hc
  rcases Bool.eq_false_or_eq_true (isCode c) with hi | hi
  · exact h2 c (List.mem_filter.mpr ⟨hc, hi⟩)
  · simpa [hi] using h
set_option maxRecDepth 65536 in
theorem w_c0 : (Jvm.Cond.code x code maxLocals ret).before args0 about1 = true := code_word (m := ⟨1, 3⟩) (meth := k1m3) (c := k1c3) (by decide +kernel) rfl rfl rfl (by decide +kernel)
set_option maxRecDepth 65536 in
theorem w_c1 : (Jvm.Cond.code ({ cls := "java/lang/String", name := "<init>", desc := "([C)V" } : Jvm.MethodName) jdk_42_method_3_code (2 : Nat) (Option.none : Option Jvm.ClassFile.FieldType)).before args0 about1 = true := code_word (m := ⟨7, 1⟩) (meth := k7m1) (c := k7c1) (by decide +kernel) rfl rfl rfl (by decide +kernel)
set_option maxRecDepth 65536 in
theorem w_c2 : (Jvm.Cond.code ({ cls := "java/lang/String", name := "<init>", desc := "([CIILjava/lang/Void;)V" } : Jvm.MethodName) jdk_42_method_149_code (6 : Nat) (Option.none : Option Jvm.ClassFile.FieldType)).before args0 about1 = true := code_word (m := ⟨7, 4⟩) (meth := k7m4) (c := k7c4) (by decide +kernel) rfl rfl rfl (by decide +kernel)
set_option maxRecDepth 65536 in
theorem w_c3 : (Jvm.Cond.code ({ cls := "java/lang/Object", name := "<init>", desc := "()V" } : Jvm.MethodName) object_method_1_code (1 : Nat) (Option.none : Option Jvm.ClassFile.FieldType)).before args0 about1 = true := code_word (m := ⟨0, 0⟩) (meth := k0m0) (c := k0c0) (by decide +kernel) rfl rfl rfl (by decide +kernel)
set_option maxRecDepth 65536 in
theorem w_c4 : (Jvm.Cond.code ({ cls := "gatehouse/Identifiers", name := "isIdentifier", desc := "(Ljava/lang/String;)Z" } : Jvm.MethodName) prog_21_method_5_code (5 : Nat) (Option.some Jvm.ClassFile.FieldType.boolean)).before args0 about1 = true := code_word (m := ⟨8, 1⟩) (meth := k8m1) (c := k8c1) (by decide +kernel) rfl rfl rfl (by decide +kernel)
set_option maxRecDepth 65536 in
theorem w_c5 : (Jvm.Cond.code ({ cls := "java/lang/String", name := "length", desc := "()I" } : Jvm.MethodName) jdk_42_method_54_code (1 : Nat) (Option.some Jvm.ClassFile.FieldType.int)).before args0 about1 = true := code_word (m := ⟨7, 2⟩) (meth := k7m2) (c := k7c2) (by decide +kernel) rfl rfl rfl (by decide +kernel)
set_option maxRecDepth 65536 in
theorem w_c6 : (Jvm.Cond.code ({ cls := "java/lang/String", name := "coder", desc := "()B" } : Jvm.MethodName) jdk_42_method_152_code (1 : Nat) (Option.some Jvm.ClassFile.FieldType.byte)).before args0 about1 = true := code_word (m := ⟨7, 5⟩) (meth := k7m5) (c := k7c5) (by decide +kernel) rfl rfl rfl (by decide +kernel)
set_option maxRecDepth 65536 in
theorem w_c7 : (Jvm.Cond.code ({ cls := "gatehouse/IdentifiersIsIdentifierPinLaw", name := "first", desc := "(C)Z" } : Jvm.MethodName) method_3_code (1 : Nat) (Option.some Jvm.ClassFile.FieldType.boolean)).before args0 about1 = true := code_word (m := ⟨1, 2⟩) (meth := k1m2) (c := k1c2) (by decide +kernel) rfl rfl rfl (by decide +kernel)
set_option maxRecDepth 65536 in
theorem w_c8 : (Jvm.Cond.code ({ cls := "gatehouse/IdentifiersIsIdentifierPinLaw", name := "inner", desc := "(C)Z" } : Jvm.MethodName) method_2_code (1 : Nat) (Option.some Jvm.ClassFile.FieldType.boolean)).before args0 about1 = true := code_word (m := ⟨1, 1⟩) (meth := k1m1) (c := k1c1) (by decide +kernel) rfl rfl rfl (by decide +kernel)
set_option maxRecDepth 65536 in
theorem w_c9 : (Jvm.Cond.code ({ cls := "java/lang/StringUTF16", name := "compress", desc := "([CII)[B" } : Jvm.MethodName) jdk_52_method_16_code (6 : Nat) (Option.some (Jvm.ClassFile.FieldType.array Jvm.ClassFile.FieldType.byte))).before args0 about1 = true := code_word (m := ⟨9, 8⟩) (meth := k9m8) (c := k9c8) (by decide +kernel) rfl rfl rfl (by decide +kernel)
set_option maxRecDepth 65536 in
theorem w_c10 : (Jvm.Cond.code ({ cls := "java/lang/StringUTF16", name := "compress", desc := "([CI[BII)I" } : Jvm.MethodName) jdk_52_method_21_code (7 : Nat) (Option.some Jvm.ClassFile.FieldType.int)).before args0 about1 = true := code_word (m := ⟨9, 9⟩) (meth := k9m9) (c := k9c9) (by decide +kernel) rfl rfl rfl (by decide +kernel)
set_option maxRecDepth 65536 in
theorem w_c11 : (Jvm.Cond.code ({ cls := "java/lang/StringUTF16", name := "coderFromArrayLen", desc := "([BI)B" } : Jvm.MethodName) jdk_52_method_15_code (2 : Nat) (Option.some Jvm.ClassFile.FieldType.byte)).before args0 about1 = true := code_word (m := ⟨9, 7⟩) (meth := k9m7) (c := k9c7) (by decide +kernel) rfl rfl rfl (by decide +kernel)
set_option maxRecDepth 65536 in
theorem w_c12 : (Jvm.Cond.code ({ cls := "java/lang/String", name := "charAt", desc := "(I)C" } : Jvm.MethodName) jdk_42_method_56_code (2 : Nat) (Option.some Jvm.ClassFile.FieldType.char)).before args0 about1 = true := code_word (m := ⟨7, 3⟩) (meth := k7m3) (c := k7c3) (by decide +kernel) rfl rfl rfl (by decide +kernel)
set_option maxRecDepth 65536 in
theorem w_c13 : (Jvm.Cond.code ({ cls := "java/lang/String", name := "isLatin1", desc := "()Z" } : Jvm.MethodName) jdk_42_method_154_code (1 : Nat) (Option.some Jvm.ClassFile.FieldType.boolean)).before args0 about1 = true := code_word (m := ⟨7, 6⟩) (meth := k7m6) (c := k7c6) (by decide +kernel) rfl rfl rfl (by decide +kernel)
set_option maxRecDepth 65536 in
theorem w_c14 : (Jvm.Cond.code ({ cls := "java/lang/StringLatin1", name := "charAt", desc := "([BI)C" } : Jvm.MethodName) jdk_43_method_2_code (2 : Nat) (Option.some Jvm.ClassFile.FieldType.char)).before args0 about1 = true := code_word (m := ⟨10, 1⟩) (meth := k10m1) (c := k10c1) (by decide +kernel) rfl rfl rfl (by decide +kernel)
set_option maxRecDepth 65536 in
theorem w_c15 : (Jvm.Cond.code ({ cls := "java/lang/String", name := "checkIndex", desc := "(II)V" } : Jvm.MethodName) jdk_42_method_155_code (2 : Nat) (Option.none : Option Jvm.ClassFile.FieldType)).before args0 about1 = true := code_word (m := ⟨7, 7⟩) (meth := k7m7) (c := k7c7) (by decide +kernel) rfl rfl rfl (by decide +kernel)
set_option maxRecDepth 65536 in
theorem w_c16 : (Jvm.Cond.code ({ cls := "jdk/internal/util/Preconditions", name := "checkIndex", desc := "(IILjava/util/function/BiFunction;)I" } : Jvm.MethodName) jdk_41_method_11_code (3 : Nat) (Option.some Jvm.ClassFile.FieldType.int)).before args0 about1 = true := code_word (m := ⟨11, 1⟩) (meth := k11m1) (c := k11c1) (by decide +kernel) rfl rfl rfl (by decide +kernel)
set_option maxRecDepth 65536 in
theorem w_c17 : (Jvm.Cond.code ({ cls := "java/lang/StringUTF16", name := "toBytes", desc := "([CII)[B" } : Jvm.MethodName) jdk_52_method_14_code (5 : Nat) (Option.some (Jvm.ClassFile.FieldType.array Jvm.ClassFile.FieldType.byte))).before args0 about1 = true := code_word (m := ⟨9, 6⟩) (meth := k9m6) (c := k9c6) (by decide +kernel) rfl rfl rfl (by decide +kernel)
set_option maxRecDepth 65536 in
theorem w_c18 : (Jvm.Cond.code ({ cls := "java/lang/StringUTF16", name := "newBytesFor", desc := "(I)[B" } : Jvm.MethodName) jdk_52_method_2_code (1 : Nat) (Option.some (Jvm.ClassFile.FieldType.array Jvm.ClassFile.FieldType.byte))).before args0 about1 = true := code_word (m := ⟨9, 1⟩) (meth := k9m1) (c := k9c1) (by decide +kernel) rfl rfl rfl (by decide +kernel)
set_option maxRecDepth 65536 in
theorem w_c19 : (Jvm.Cond.code ({ cls := "java/lang/StringUTF16", name := "newBytesLength", desc := "(I)I" } : Jvm.MethodName) jdk_52_method_3_code (1 : Nat) (Option.some Jvm.ClassFile.FieldType.int)).before args0 about1 = true := code_word (m := ⟨9, 2⟩) (meth := k9m2) (c := k9c2) (by decide +kernel) rfl rfl rfl (by decide +kernel)
set_option maxRecDepth 65536 in
theorem w_c20 : (Jvm.Cond.code ({ cls := "java/lang/StringUTF16", name := "putChar", desc := "([BII)V" } : Jvm.MethodName) jdk_52_method_4_code (3 : Nat) (Option.none : Option Jvm.ClassFile.FieldType)).before args0 about1 = true := code_word (m := ⟨9, 3⟩) (meth := k9m3) (c := k9c3) (by decide +kernel) rfl rfl rfl (by decide +kernel)
set_option maxRecDepth 65536 in
theorem w_c21 : (Jvm.Cond.code ({ cls := "java/lang/StringUTF16", name := "getChar", desc := "([BI)C" } : Jvm.MethodName) jdk_52_method_5_code (2 : Nat) (Option.some Jvm.ClassFile.FieldType.char)).before args0 about1 = true := code_word (m := ⟨9, 4⟩) (meth := k9m4) (c := k9c4) (by decide +kernel) rfl rfl rfl (by decide +kernel)
set_option maxRecDepth 65536 in
theorem w_c22 : (Jvm.Cond.code ({ cls := "java/lang/StringUTF16", name := "charAt", desc := "([BI)C" } : Jvm.MethodName) jdk_52_method_83_code (2 : Nat) (Option.some Jvm.ClassFile.FieldType.char)).before args0 about1 = true := code_word (m := ⟨9, 10⟩) (meth := k9m10) (c := k9c10) (by decide +kernel) rfl rfl rfl (by decide +kernel)
set_option maxRecDepth 65536 in
theorem w_c23 : (Jvm.Cond.code ({ cls := "java/lang/StringUTF16", name := "checkIndex", desc := "(I[B)V" } : Jvm.MethodName) jdk_52_method_91_code (2 : Nat) (Option.none : Option Jvm.ClassFile.FieldType)).before args0 about1 = true := code_word (m := ⟨9, 11⟩) (meth := k9m11) (c := k9c11) (by decide +kernel) rfl rfl rfl (by decide +kernel)
set_option maxRecDepth 65536 in
theorem w_c24 : (Jvm.Cond.code ({ cls := "java/lang/StringUTF16", name := "length", desc := "([B)I" } : Jvm.MethodName) jdk_52_method_6_code (1 : Nat) (Option.some Jvm.ClassFile.FieldType.int)).before args0 about1 = true := code_word (m := ⟨9, 5⟩) (meth := k9m5) (c := k9c5) (by decide +kernel) rfl rfl rfl (by decide +kernel)
def codes1 : List Jvm.Cond := [Jvm.Cond.code x code maxLocals ret, Jvm.Cond.code ({ cls := "java/lang/String", name := "<init>", desc := "([C)V" } : Jvm.MethodName) jdk_42_method_3_code (2 : Nat) (Option.none : Option Jvm.ClassFile.FieldType), Jvm.Cond.code ({ cls := "java/lang/String", name := "<init>", desc := "([CIILjava/lang/Void;)V" } : Jvm.MethodName) jdk_42_method_149_code (6 : Nat) (Option.none : Option Jvm.ClassFile.FieldType), Jvm.Cond.code ({ cls := "java/lang/Object", name := "<init>", desc := "()V" } : Jvm.MethodName) object_method_1_code (1 : Nat) (Option.none : Option Jvm.ClassFile.FieldType), Jvm.Cond.code ({ cls := "gatehouse/Identifiers", name := "isIdentifier", desc := "(Ljava/lang/String;)Z" } : Jvm.MethodName) prog_21_method_5_code (5 : Nat) (Option.some Jvm.ClassFile.FieldType.boolean), Jvm.Cond.code ({ cls := "java/lang/String", name := "length", desc := "()I" } : Jvm.MethodName) jdk_42_method_54_code (1 : Nat) (Option.some Jvm.ClassFile.FieldType.int), Jvm.Cond.code ({ cls := "java/lang/String", name := "coder", desc := "()B" } : Jvm.MethodName) jdk_42_method_152_code (1 : Nat) (Option.some Jvm.ClassFile.FieldType.byte), Jvm.Cond.code ({ cls := "gatehouse/IdentifiersIsIdentifierPinLaw", name := "first", desc := "(C)Z" } : Jvm.MethodName) method_3_code (1 : Nat) (Option.some Jvm.ClassFile.FieldType.boolean), Jvm.Cond.code ({ cls := "gatehouse/IdentifiersIsIdentifierPinLaw", name := "inner", desc := "(C)Z" } : Jvm.MethodName) method_2_code (1 : Nat) (Option.some Jvm.ClassFile.FieldType.boolean), Jvm.Cond.code ({ cls := "java/lang/StringUTF16", name := "compress", desc := "([CII)[B" } : Jvm.MethodName) jdk_52_method_16_code (6 : Nat) (Option.some (Jvm.ClassFile.FieldType.array Jvm.ClassFile.FieldType.byte)), Jvm.Cond.code ({ cls := "java/lang/StringUTF16", name := "compress", desc := "([CI[BII)I" } : Jvm.MethodName) jdk_52_method_21_code (7 : Nat) (Option.some Jvm.ClassFile.FieldType.int), Jvm.Cond.code ({ cls := "java/lang/StringUTF16", name := "coderFromArrayLen", desc := "([BI)B" } : Jvm.MethodName) jdk_52_method_15_code (2 : Nat) (Option.some Jvm.ClassFile.FieldType.byte), Jvm.Cond.code ({ cls := "java/lang/String", name := "charAt", desc := "(I)C" } : Jvm.MethodName) jdk_42_method_56_code (2 : Nat) (Option.some Jvm.ClassFile.FieldType.char), Jvm.Cond.code ({ cls := "java/lang/String", name := "isLatin1", desc := "()Z" } : Jvm.MethodName) jdk_42_method_154_code (1 : Nat) (Option.some Jvm.ClassFile.FieldType.boolean), Jvm.Cond.code ({ cls := "java/lang/StringLatin1", name := "charAt", desc := "([BI)C" } : Jvm.MethodName) jdk_43_method_2_code (2 : Nat) (Option.some Jvm.ClassFile.FieldType.char), Jvm.Cond.code ({ cls := "java/lang/String", name := "checkIndex", desc := "(II)V" } : Jvm.MethodName) jdk_42_method_155_code (2 : Nat) (Option.none : Option Jvm.ClassFile.FieldType), Jvm.Cond.code ({ cls := "jdk/internal/util/Preconditions", name := "checkIndex", desc := "(IILjava/util/function/BiFunction;)I" } : Jvm.MethodName) jdk_41_method_11_code (3 : Nat) (Option.some Jvm.ClassFile.FieldType.int), Jvm.Cond.code ({ cls := "java/lang/StringUTF16", name := "toBytes", desc := "([CII)[B" } : Jvm.MethodName) jdk_52_method_14_code (5 : Nat) (Option.some (Jvm.ClassFile.FieldType.array Jvm.ClassFile.FieldType.byte)), Jvm.Cond.code ({ cls := "java/lang/StringUTF16", name := "newBytesFor", desc := "(I)[B" } : Jvm.MethodName) jdk_52_method_2_code (1 : Nat) (Option.some (Jvm.ClassFile.FieldType.array Jvm.ClassFile.FieldType.byte)), Jvm.Cond.code ({ cls := "java/lang/StringUTF16", name := "newBytesLength", desc := "(I)I" } : Jvm.MethodName) jdk_52_method_3_code (1 : Nat) (Option.some Jvm.ClassFile.FieldType.int), Jvm.Cond.code ({ cls := "java/lang/StringUTF16", name := "putChar", desc := "([BII)V" } : Jvm.MethodName) jdk_52_method_4_code (3 : Nat) (Option.none : Option Jvm.ClassFile.FieldType), Jvm.Cond.code ({ cls := "java/lang/StringUTF16", name := "getChar", desc := "([BI)C" } : Jvm.MethodName) jdk_52_method_5_code (2 : Nat) (Option.some Jvm.ClassFile.FieldType.char), Jvm.Cond.code ({ cls := "java/lang/StringUTF16", name := "charAt", desc := "([BI)C" } : Jvm.MethodName) jdk_52_method_83_code (2 : Nat) (Option.some Jvm.ClassFile.FieldType.char), Jvm.Cond.code ({ cls := "java/lang/StringUTF16", name := "checkIndex", desc := "(I[B)V" } : Jvm.MethodName) jdk_52_method_91_code (2 : Nat) (Option.none : Option Jvm.ClassFile.FieldType), Jvm.Cond.code ({ cls := "java/lang/StringUTF16", name := "length", desc := "([B)I" } : Jvm.MethodName) jdk_52_method_6_code (1 : Nat) (Option.some Jvm.ClassFile.FieldType.int)]
set_option maxRecDepth 65536 in
theorem codes_eq : words1.filter isCode = codes1 := rfl
theorem w_codes : ∀ c ∈ words1.filter isCode, c.before args0 about1 = true := by
  rw [codes_eq]
  intro c hc
  simp only [codes1, List.mem_cons, List.not_mem_nil, or_false] at hc
  rcases hc with rfl | rfl | rfl | rfl | rfl | rfl | rfl | rfl | rfl | rfl | rfl | rfl | rfl | rfl | rfl | rfl | rfl | rfl | rfl | rfl | rfl | rfl | rfl | rfl | rfl
  · exact w_c0
  · exact w_c1
  · exact w_c2
  · exact w_c3
  · exact w_c4
  · exact w_c5
  · exact w_c6
  · exact w_c7
  · exact w_c8
  · exact w_c9
  · exact w_c10
  · exact w_c11
  · exact w_c12
  · exact w_c13
  · exact w_c14
  · exact w_c15
  · exact w_c16
  · exact w_c17
  · exact w_c18
  · exact w_c19
  · exact w_c20
  · exact w_c21
  · exact w_c22
  · exact w_c23
  · exact w_c24
set_option maxRecDepth 65536 in
theorem w_t1 : (words1.take 24).all (fun c => isCode c || c.before args0 about1) = true := by decide +kernel
set_option maxRecDepth 65536 in
theorem w_t2 : ((words1.drop 24).take 24).all (fun c => isCode c || c.before args0 about1) = true := by decide +kernel
set_option maxRecDepth 65536 in
theorem w_t3 : (((words1.drop 24).drop 24).take 24).all (fun c => isCode c || c.before args0 about1) = true := by decide +kernel
set_option maxRecDepth 65536 in
theorem w_t4 : ((((words1.drop 24).drop 24).drop 24).take 24).all (fun c => isCode c || c.before args0 about1) = true := by decide +kernel
set_option maxRecDepth 65536 in
theorem w_t5 : ((((words1.drop 24).drop 24).drop 24).drop 24).all (fun c => isCode c || c.before args0 about1) = true := by decide +kernel
theorem w_tables : (allAtoms (Jvm.Cond.code x code maxLocals ret :: tables_1)).before args0 about1 = true := by
  rw [allAtoms_all]
  show words1.all (fun c => c.before args0 about1) = true
  refine all_split ?_ w_codes
  rw [← List.take_append_drop 24 words1, List.all_append, w_t1, ← List.take_append_drop 24 (words1.drop 24), List.all_append, w_t2, ← List.take_append_drop 24 ((words1.drop 24).drop 24), List.all_append, w_t3, ← List.take_append_drop 24 (((words1.drop 24).drop 24).drop 24), List.all_append, w_t4, w_t5]
  rfl
set_option maxRecDepth 65536 in
theorem w_rest : rest_1_c.before args0 about1 = true := by decide +kernel
set_option maxRecDepth 65536 in
theorem w_case : (Jvm.Cond.and given_1 narrow_1).before args0 about1 = true := by decide +kernel
set_option maxRecDepth 65536 in
theorem w_consts : constsHeld consts_1 about1 := Jvm.Lit.constsHeldB_iff.mp (by decide +kernel)
theorem w_applies : (headSpec (Jvm.Cond.code x code maxLocals ret :: tables_1) room_1).applies x e0.platform about1 = true :=
  (Spec.applies_iff w_frames).mpr ⟨w_running, w_runnable, w_alone, w_named, w_hears, w_ripe, w_room, w_tables⟩
theorem atStart : AtStart classFile x code maxLocals ret World_1 tables_1 room_1 Calls_1 rest_1 Pre_1 launch0 p0 e0 about1 theMethod args0 below0 :=
  ⟨lists_1, trivial, launch0.admits_env _ _ _, launch0.least_env, fairChoices_fair.cas, fairChoices_fair.clock, w_frames, w_args, w_heap, w_applies, ⟨w_consts, trivial⟩, w_rest, w_case⟩
end start1
theorem witness_1 : WitnessClaimed_1 := ⟨start1.p0, start1.e0, start1.about1, start1.theMethod, start1.args0, start1.below0, start1.atStart⟩
end Jvm.Pilot.@@N@@
