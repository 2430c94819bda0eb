import JvmDerived
import JvmDerived.Pilot.@@N@@Statement
import JvmDerived.Pilot.@@N@@Code
set_option linter.unusedVariables false
set_option linter.unusedSimpArgs false
namespace Jvm.GoK
open Jvm Jvm.ClassFile Sem Op Lib Jvm.Free Jvm.Stand Jvm.LawKit Jvm.RoadKit Bundle
/-- what an invocation is: program, environment, start, method, arguments, frames below, method record, code -/
abbrev KT : Type := Program × Env × State × MethodId × Array Value × List Frame × Method × Code
abbrev KT.p (K : KT) : Program := K.1
abbrev KT.e (K : KT) : Env := K.2.1
abbrev KT.s (K : KT) : State := K.2.2.1
abbrev KT.m (K : KT) : MethodId := K.2.2.2.1
abbrev KT.args (K : KT) : Array Value := K.2.2.2.2.1
abbrev KT.below (K : KT) : List Frame := K.2.2.2.2.2.1
abbrev KT.meth (K : KT) : Method := K.2.2.2.2.2.2.1
abbrev KT.c (K : KT) : Code := K.2.2.2.2.2.2.2
def Kok (Z : State) (a0 : Array Value) (EL : List (String × Nat)) (bytes : ByteArray) (ml : Nat) (ret : Option FieldType) (nm : String) (K : KT) : Prop :=
  K.p.tables.exec = Jvm.exec ∧ K.c.code = bytes ∧ K.c.maxLocals = ml ∧ K.meth.sig.returnType = ret ∧ K.meth.name = nm ∧ K.meth.locks = false ∧ EW Z a0 EL
/-- the places of S are no booked constant's -/
def Sf (Z : State) (EL : List (String × Nat)) (vm : Vm) (h : Heap) (S : Addr → Prop) : Prop := ∀ x, S x → Safe Z EL vm h x ∧ x < h.size
theorem Sf.step {Z : State} {EL : List (String × Nat)} {vm vm1 : Vm} {h h' : Heap} {S : Addr → Prop} (F : Sf Z EL vm h S) (C : CHr Z EL vm h vm1 h') : Sf Z EL vm1 h' S := fun x hx =>
  ⟨C.safe (F x hx).2 (F x hx).1, Nat.lt_of_lt_of_le (F x hx).2 C.2.1⟩
/-- the walk stands at T with heap h, kc cells and ks slots still to be had -/
def St (l : Launch) (Z : State) (EL : List (String × Nat)) (R : Room) (own : String) (S0 : Addr → Prop) (K : KT) (T : State) (kc ks : Nat) (S : Addr → Prop) (h : Heap) : Prop :=
  ∃ (vm0 : Vm) (k0 : Nat) (locs : List Loc) (cells slots : Nat), Stand K.p l K.e R (K.s.setVm vm0) K.m K.args K.below K.meth K.c T locs cells slots ∧ T.heap = h ∧ K.s.Since vm0 k0 ∧ k0 ≤ h.size ∧ Z.Warmed39 vm0 ∧ vm0.findClass own = some K.m.cls ∧ CHr Z EL K.s.vm K.s.heap vm0 h ∧ Fr Z.heap.size locs ∧ cells + kc ≤ R.cells ∧ slots + ks ≤ R.slots ∧ Sf Z EL vm0 h S ∧ Ext Z.heap h ∧ ∀ x, S0 x → S x
def FinG (Z : State) (EL : List (String × Nat)) (R : Room) (S0 : Addr → Prop) (Q : (Addr → Prop) → Option Value → Heap → Prop) (s t : State) (o : Outcome) : Prop :=
  ∃ v L, o = .returned v ∧ ((∃ S, (∀ x, S0 x → S x) ∧ Sf Z EL t.vm t.heap S ∧ Ext Z.heap t.heap ∧ Q S v t.heap) ∧ Fr Z.heap.size L) ∧ CHr Z EL s.vm s.heap t.vm t.heap ∧ ReturnedEndW s o t L R.cells R.slots
/-- from every such point with the frame f on top the method ends, and Q -/
def Go (l : Launch) (Z : State) (a0 : Array Value) (EL : List (String × Nat)) (R : Room) (own : String) (bytes : ByteArray) (ml : Nat) (ret : Option FieldType) (nm : String) (S0 : Addr → Prop) (Q : (Addr → Prop) → Option Value → Heap → Prop) (K : KT) (kc ks : Nat) (S : Addr → Prop) (h : Heap) (f : JFrame) : Prop :=
  Kok Z a0 EL bytes ml ret nm K → ∀ T, St l Z EL R own S0 K T kc ks S h → ∃ t o, Steps K.p.tables K.e K.below (T.setTop f) t ∧ t.status = .running ∧ Ended t K.below o ∧ FinG Z EL R S0 Q K.s t o
/-- a method's contract -/
def Con (l : Launch) (Z : State) (EL : List (String × Nat)) (ws : List Jvm.Cond) (y : MethodName) (bytes : ByteArray) (ml : Nat) (ret : Option FieldType) (R : Room) (as : Array Value) (S : Addr → Prop) (h : Heap) (Q : (Addr → Prop) → Option Value → Heap → Prop) : Prop :=
  MetFree l y (head1 (Jvm.Cond.code y bytes ml ret :: ws) R) (fun a U => a = as ∧ Z.Warmed39 U.vm ∧ U.heap = h ∧ CHv Z EL U.vm h ∧ Sf Z EL U.vm h S ∧ Ext Z.heap h) (fun _ _ _ _ _ => True) (fun _ U o U' => FinG Z EL R S Q U U' o)
theorem con_of_go {l : Launch} {Z : State} {a0 : Array Value} {EL : List (String × Nat)} {ws : List Jvm.Cond} {y : MethodName} {bytes : ByteArray} {ml : Nat} {ret : Option FieldType} {R : Room} {as : Array Value} {S : Addr → Prop} {h : Heap} {Q : (Addr → Prop) → Option Value → Heap → Prop} {ls : Array Slot}
    (hy : plainFor y = true) (hEL : EW Z a0 EL) (hent : ∀ m, entryFrame m as ml = mkF m 0 ls []) (H : ∀ K : KT, Go l Z a0 EL R y.cls bytes ml ret y.name S Q K R.cells R.slots S h (mkF K.m 0 ls [])) : Con l Z EL ws y bytes ml ret R as S h Q := by
  refine MetFree.of_bodySF hy hisR ?_
  intro p e s m args below meth c s₁ Bd hml0 hP hK
  obtain ⟨rfl, hZ, hh, hC, hSf, hE⟩ := hP
  have X0 : Stand p l e R s m args below meth c s₁ [] 0 0 := Stand.of_body Bd
  have e0 : s₁.heap = h := by rw [← hh, Bd.state]; rfl
  have hown : s.vm.findClass y.cls = some m.cls := findClass_of_methodNamed Bd.named
  have hnm := (name_of_methodNamed Bd.named Bd.method).1
  have hCr : CHr Z EL s.vm s.heap s.vm h := by rw [hh]; exact CHr.refl hC
  obtain ⟨t, o, h1, h2, h3, h4⟩ := H (p, e, s, m, args, below, meth, c) ⟨Bd.exec, Bd.bytes, hml0, Bd.returns, hnm, Bd.notSynchronized, hEL⟩ s₁
    ⟨s.vm, 0, [], 0, 0, X0, e0, (State.WarmedH.refl s).since 0, Nat.zero_le _, hZ, hown, hCr, Fr.nil _, by simp, by simp, hSf, hE, fun _ q => q⟩
  exact ⟨t, o, castTop (hent m) h1, h2, h3, h4⟩
section
variable {l : Launch} {R : Room} {p : Program} {e : Env} {s : State} {args : Array Value} {below : List Frame} {Z : State} {a0 : Array Value} {EL : List (String × Nat)} {h : Heap} {vm0 : Vm}
/-- a callee's contract pays a call -/
theorem backG {y : MethodName} {bytes : ByteArray} {maxL : Nat} {ret : Option FieldType} {rm : Room} {len W : Nat} {as' : Array Value} {S : Addr → Prop} {Q : (Addr → Prop) → Option Value → Heap → Prop}
    (hM : Con l Z EL [] y bytes maxL ret rm as' S h Q)
    (hZ : Z.Warmed39 vm0) (wc : (Cond.code y bytes maxL ret).before a0 Z = true) (wz : (Cond.initialized y.cls).before a0 Z = true) (hf : rm.frames + 1 ≤ R.frames) (hl : W + (maxL + 11) + rm.locals ≤ R.locals) (hEL : EW Z a0 EL) (H : CHv Z EL vm0 h) (hSf : Sf Z EL vm0 h S) (hE : Ext Z.heap h) :
    BackS l R p e below (s.setVm vm0) args y len W (fun A a => a = as' ∧ A.U.heap = h ∧ A.cells + rm.cells ≤ R.cells ∧ A.slots + rm.slots ≤ R.slots)
      (fun A _ v B => ∃ L, ((∃ S', (∀ x, S x → S' x) ∧ Sf Z EL B.U.vm B.U.heap S' ∧ Ext Z.heap B.U.heap ∧ Q S' v B.U.heap) ∧ Fr Z.heap.size L) ∧ B.locs = A.locs ++ L ∧ B.cells = A.cells + rm.cells ∧ B.slots = A.slots + rm.slots ∧ CHr Z EL vm0 h B.U.vm B.U.heap) :=
  BackS.of_freeW (bytes := bytes) (maxL := maxL) (ret := ret) (E := fun _ first o t L k n => k = rm.cells ∧ n = rm.slots ∧ (∃ v, o = .returned v ∧ ((∃ S', (∀ x, S x → S' x) ∧ Sf Z EL t.vm t.heap S' ∧ Ext Z.heap t.heap ∧ Q S' v t.heap) ∧ Fr Z.heap.size L)) ∧ CHr Z EL first.vm first.heap t.vm t.heap) hM hf hl
    (fun m meth c A a Y hp => have hU : Z.Warmed39 A.U.vm := wtrans (s := s.setVm vm0) hZ Y.warmed
      ⟨by show (Cond.and _ .tt).before a A.U = true; rw [Cond.before_and, mv hU wc]; rfl, mv hU wc, mv hU wz, hp.2.2.1, hp.2.2.2⟩)
    (fun m meth c A a g mk Y hp => ⟨hp.1, wtrans (s := s.setVm vm0) hZ Y.warmed, hp.2.1, (CHv.at (T := A.U) Y hZ hEL H).1, hSf.step (CHv.at (T := A.U) Y hZ hEL H), hE⟩) (fun _ _ _ _ _ _ _ _ _ => trivial)
    (fun _ _ _ _ ⟨v, L, h1, h2, h3, h4⟩ => ⟨L, _, _, h4, rfl, rfl, ⟨v, h1, h2⟩, h3⟩)
    (fun m meth c A a g mk v t L k n Y hp _ _ ⟨e1, e2, ⟨v', e3, e4⟩, e5⟩ => by
      cases e3; subst e1 e2
      refine ⟨L, e4, rfl, rfl, rfl, (CHv.at Y hZ hEL H).trans ?_⟩
      rw [← hp.2.1]; exact e5)
end
/-- an instruction, and the place behind it -/
def Dec (bytes : ByteArray) (pc : Nat) (i : Instr) (len n : Nat) : Prop := decode bytes pc = .ok (i, len) ∧ pc + len = n
/-- a branch's instruction, offset, the place behind it and its goal -/
def Brn (bytes : ByteArray) (pc : Nat) (i : Instr) (o : Int) (n t : Nat) : Prop := decode bytes pc = .ok (i, 3) ∧ pc + 3 = n ∧ 0 ≤ (pc : Int) + o ∧ ((pc : Int) + o).toNat = t
section Rules
variable {l : Launch} {Z : State} {a0 : Array Value} {EL : List (String × Nat)} {R : Room} {own : String} {bytes : ByteArray} {ml : Nat} {ret : Option FieldType} {nm : String} {S0 : Addr → Prop} {Q : (Addr → Prop) → Option Value → Heap → Prop} {K : KT} {kc ks : Nat} {S : Addr → Prop} {h : Heap} {f f' : JFrame} {pc n t : Nat} {ls l' : Array Slot} {st : List Value} {x y v : Int32} {u w : Value}
theorem Go.pure (k : Go l Z a0 EL R own bytes ml ret nm S0 Q K kc ks S h f') (H : ∀ T, At T K.m K.c K.below → K.p.tables.exec = Jvm.exec → K.c.code = bytes → ∀ t, Steps K.p.tables K.e K.below (T.setTop f') t → Steps K.p.tables K.e K.below (T.setTop f) t) : Go l Z a0 EL R own bytes ml ret nm S0 Q K kc ks S h f := by
  intro hK T hT
  obtain ⟨t, o, hs, r⟩ := k hK T hT
  obtain ⟨vm0, k0, locs, cells, slots, X, -⟩ := hT
  exact ⟨t, o, H T X.here hK.1 hK.2.1 t hs, r⟩
/-- a step that moves the state alone, the heap as it was -/
theorem Go.calm (k : Go l Z a0 EL R own bytes ml ret nm S0 Q K kc ks S h f')
    (H : ∀ vm0 T locs cells slots, Kok Z a0 EL bytes ml ret nm K → Stand K.p l K.e R (K.s.setVm vm0) K.m K.args K.below K.meth K.c T locs cells slots → Z.Warmed39 (K.s.setVm vm0).vm → (K.s.setVm vm0).vm.findClass own = some K.m.cls → T.heap = h → Ext Z.heap h →
      ∃ T', Stand K.p l K.e R (K.s.setVm vm0) K.m K.args K.below K.meth K.c T' locs cells slots ∧ T'.heap = h ∧ ∀ target, Steps K.p.tables K.e K.below (T'.setTop f') target → Steps K.p.tables K.e K.below (T.setTop f) target) : Go l Z a0 EL R own bytes ml ret nm S0 Q K kc ks S h f := by
  intro hK T hT
  obtain ⟨vm0, k0, locs, cells, slots, X, e1, e2, e3, e4, e5, e6, e7, e8, e9, e10, e11, e12⟩ := hT
  obtain ⟨T', X', e', st'⟩ := H vm0 T locs cells slots hK X e4 e5 e1 e11
  obtain ⟨t, o, hs, r⟩ := k hK T' ⟨vm0, k0, locs, cells, slots, X', e', e2, e3, e4, e5, e6, e7, e8, e9, e10, e11, e12⟩
  exact ⟨t, o, st' _ hs, r⟩
theorem ext_trans {h1 h2 h3 : Heap} (E : Ext h1 h2) (F : Ext h2 h3) : Ext h1 h3 := ⟨Nat.le_trans E.1 F.1, fun a c q => F.2 a c (E.2 a c q)⟩
/-- a step that makes one cell at the heap's end -/
theorem Go.make {na : Nat} {f' : Addr → JFrame} (P : Addr → Heap → Prop) (k : ∀ S' h' a, a = h.size → (∀ x, S x → S' x) → S' a → Ext h h' → a < h'.size → P a h' → Go l Z a0 EL R own bytes ml ret nm S0 Q K kc ks S' h' (f' a) )
    (H : ∀ vm0 T locs cells slots, Kok Z a0 EL bytes ml ret nm K → Stand K.p l K.e R (K.s.setVm vm0) K.m K.args K.below K.meth K.c T locs cells slots → Z.Warmed39 (K.s.setVm vm0).vm → (K.s.setVm vm0).vm.findClass own = some K.m.cls → T.heap = h → cells + 1 ≤ R.cells → slots + na ≤ R.slots →
      ∃ T' h', Stand K.p l K.e R (K.s.setVm vm0) K.m K.args K.below K.meth K.c T' locs (cells + 1) (slots + na) ∧ T'.heap = h' ∧ Ext h h' ∧ h.size < h'.size ∧ P h.size h' ∧ ∀ target, Steps K.p.tables K.e K.below (T'.setTop (f' h.size)) target → Steps K.p.tables K.e K.below (T.setTop f) target) : Go l Z a0 EL R own bytes ml ret nm S0 Q K (kc + 1) (ks + na) S h f := by
  intro hK T hT
  obtain ⟨vm0, k0, locs, cells, slots, X, e1, e2, e3, e4, e5, e6, e7, e8, e9, e10, e11, e12⟩ := hT
  obtain ⟨T', h', X', e', E, hlt, p, st'⟩ := H vm0 T locs cells slots hK X e4 e5 e1 (by omega) (by omega)
  have hCr := e6.trans (CHr.ext E e6.1)
  have hSf : Sf Z EL vm0 h' (fun x => S x ∨ x = h.size) := fun x hx => by
    rcases hx with hx | rfl
    · exact (e10.step (CHr.ext E e6.1)) x hx
    · exact ⟨Safe.ext E e6.1 (Safe.new (Nat.le_refl _)), hlt⟩
  obtain ⟨t, o, hs, r⟩ := k (fun x => S x ∨ x = h.size) h' h.size rfl (fun _ q => Or.inl q) (Or.inr rfl) E hlt p hK T' ⟨vm0, k0, locs, cells + 1, slots + na, X', e', e2, Nat.le_trans e3 E.1, e4, e5, hCr, e7, by omega, by omega, hSf, ext_trans e11 E, fun x q => Or.inl (e12 x q)⟩
  exact ⟨t, o, st' _ hs, r⟩
theorem ext_wr {h' : Heap} {a : Addr} {sl : Nat} {v : Value} (E : Ext Z.heap h) (W : Wr h h' a sl v) (q : Z.heap.size ≤ a) : Ext Z.heap h' := (Old.wr (Z := Z) (n0 := Z.heap.size) ⟨rfl, E⟩ W q).2
/-- a step that writes one place of a cell made since the law began -/
theorem Go.write {a : Addr} {sl : Nat} (ha : Z.heap.size ≤ a) (hsafe : S a ∨ ∀ vm0 : Vm, Z.vm.Alike vm0 → Safe Z EL vm0 h a) (k : ∀ h', Wr h h' a sl w → Keep h h' [a] → Go l Z a0 EL R own bytes ml ret nm S0 Q K kc ks S h' f')
    (H : ∀ vm0 T locs cells slots, Kok Z a0 EL bytes ml ret nm K → Stand K.p l K.e R (K.s.setVm vm0) K.m K.args K.below K.meth K.c T locs cells slots → Z.Warmed39 (K.s.setVm vm0).vm → (K.s.setVm vm0).vm.findClass own = some K.m.cls → T.heap = h →
      ∃ T' h', Stand K.p l K.e R (K.s.setVm vm0) K.m K.args K.below K.meth K.c T' (locs ++ [⟨a, sl⟩]) cells slots ∧ T'.heap = h' ∧ Wr h h' a sl w ∧ ∀ target, Steps K.p.tables K.e K.below (T'.setTop f') target → Steps K.p.tables K.e K.below (T.setTop f) target) : Go l Z a0 EL R own bytes ml ret nm S0 Q K kc ks S h f := by
  intro hK T hT
  obtain ⟨vm0, k0, locs, cells, slots, X, e1, e2, e3, e4, e5, e6, e7, e8, e9, e10, e11, e12⟩ := hT
  obtain ⟨T', h', X', e', W, st'⟩ := H vm0 T locs cells slots hK X e4 e5 e1
  have hsf : Safe Z EL vm0 h a := by
    rcases hsafe with q | q
    · exact (e10 a q).1
    · exact q vm0 e4.alike
  have KW := Keep.of_wr W
  have hC := CHr.keep KW (allS hsf all0) e6.1
  obtain ⟨t, o, hs, r⟩ := k h' W KW hK T' ⟨vm0, k0, _, cells, slots, X', e', e2, Nat.le_trans e3 KW.1, e4, e5, e6.trans hC, Fr.snoc X' e7 ha, e8, e9, e10.step hC, ext_wr e11 W ha, e12⟩
  exact ⟨t, o, st' _ hs, r⟩
theorem go_aloadN {k : Fin 4} (hd : Dec bytes pc (.aload_n k) 1 n) (hl : ls[k.val]? = some (.val u)) (hv : u.isRef = true) (kk : Go l Z a0 EL R own bytes ml ret nm S0 Q K kc ks S h (mkF K.m n ls (u :: st))) : Go l Z a0 EL R own bytes ml ret nm S0 Q K kc ks S h (mkF K.m pc ls (st)) := by
  obtain ⟨hd, rfl⟩ := hd
  exact Go.pure kk fun T hT hx hb0 tgt hr => XS.aloadN hT hx rfl (hb hb0 hd) hl hv hr
theorem go_aload {k : Nat} (hd : Dec bytes pc (.aload k) 2 n) (hl : ls[k]? = some (.val u)) (hv : u.isRef = true) (kk : Go l Z a0 EL R own bytes ml ret nm S0 Q K kc ks S h (mkF K.m n ls (u :: st))) : Go l Z a0 EL R own bytes ml ret nm S0 Q K kc ks S h (mkF K.m pc ls (st)) := by
  obtain ⟨hd, rfl⟩ := hd
  exact Go.pure kk fun T hT hx hb0 tgt hr => XS.aload hT hx rfl (hb hb0 hd) hl hv hr
theorem go_iloadN {k : Fin 4} (hd : Dec bytes pc (.iload_n k) 1 n) (hl : ls[k.val]? = some (.val (.int x))) (kk : Go l Z a0 EL R own bytes ml ret nm S0 Q K kc ks S h (mkF K.m n ls (.int x :: st))) : Go l Z a0 EL R own bytes ml ret nm S0 Q K kc ks S h (mkF K.m pc ls (st)) := by
  obtain ⟨hd, rfl⟩ := hd
  exact Go.pure kk fun T hT hx hb0 tgt hr => XS.iloadN hT hx rfl (hb hb0 hd) hl hr
theorem go_iload {k : Nat} (hd : Dec bytes pc (.iload k) 2 n) (hl : ls[k]? = some (.val (.int x))) (kk : Go l Z a0 EL R own bytes ml ret nm S0 Q K kc ks S h (mkF K.m n ls (.int x :: st))) : Go l Z a0 EL R own bytes ml ret nm S0 Q K kc ks S h (mkF K.m pc ls (st)) := by
  obtain ⟨hd, rfl⟩ := hd
  exact Go.pure kk fun T hT hx hb0 tgt hr => XS.iload hT hx rfl (hb hb0 hd) hl hr
theorem go_lloadN {k : Fin 4} {z : Int64} (hd : Dec bytes pc (.lload_n k) 1 n) (hl : ls[k.val]? = some (.val (.long z))) (kk : Go l Z a0 EL R own bytes ml ret nm S0 Q K kc ks S h (mkF K.m n ls (.long z :: st))) : Go l Z a0 EL R own bytes ml ret nm S0 Q K kc ks S h (mkF K.m pc ls (st)) := by
  obtain ⟨hd, rfl⟩ := hd
  exact Go.pure kk fun T hT hx hb0 tgt hr => XT.lloadN hT hx rfl (hb hb0 hd) hl hr
theorem go_lload {k : Nat} {z : Int64} (hd : Dec bytes pc (.lload k) 2 n) (hl : ls[k]? = some (.val (.long z))) (kk : Go l Z a0 EL R own bytes ml ret nm S0 Q K kc ks S h (mkF K.m n ls (.long z :: st))) : Go l Z a0 EL R own bytes ml ret nm S0 Q K kc ks S h (mkF K.m pc ls (st)) := by
  obtain ⟨hd, rfl⟩ := hd
  exact Go.pure kk fun T hT hx hb0 tgt hr => XT.lload hT hx rfl (hb hb0 hd) hl hr
theorem go_iconst {i : Int} (hd : Dec bytes pc (.iconst i) 1 n) (hv : Int32.ofInt i = x) (kk : Go l Z a0 EL R own bytes ml ret nm S0 Q K kc ks S h (mkF K.m n ls (.int x :: st))) : Go l Z a0 EL R own bytes ml ret nm S0 Q K kc ks S h (mkF K.m pc ls (st)) := by
  obtain ⟨hd, rfl⟩ := hd
  exact Go.pure kk fun T hT hx hb0 tgt hr => XT.iconstV hT hx rfl x (hb hb0 hd) hv hr
theorem go_bipush {i : Int} (hd : Dec bytes pc (.bipush i) 2 n) (hv : (Int8.ofInt i).toInt32 = x) (kk : Go l Z a0 EL R own bytes ml ret nm S0 Q K kc ks S h (mkF K.m n ls (.int x :: st))) : Go l Z a0 EL R own bytes ml ret nm S0 Q K kc ks S h (mkF K.m pc ls (st)) := by
  obtain ⟨hd, rfl⟩ := hd
  exact Go.pure kk fun T hT hx hb0 tgt hr => XT.bipushV hT hx rfl x (hb hb0 hd) hv hr
theorem go_sipush {i : Int} (hd : Dec bytes pc (.sipush i) 3 n) (hv : (Int16.ofInt i).toInt32 = x) (kk : Go l Z a0 EL R own bytes ml ret nm S0 Q K kc ks S h (mkF K.m n ls (.int x :: st))) : Go l Z a0 EL R own bytes ml ret nm S0 Q K kc ks S h (mkF K.m pc ls (st)) := by
  obtain ⟨hd, rfl⟩ := hd
  exact Go.pure kk fun T hT hx hb0 tgt hr => XT.sipushV hT hx rfl x (hb hb0 hd) hv hr
theorem go_lconst {i : Fin 2} {z : Int64} (hd : Dec bytes pc (.lconst i) 1 n) (hv : Int64.ofNat i = z) (kk : Go l Z a0 EL R own bytes ml ret nm S0 Q K kc ks S h (mkF K.m n ls (.long z :: st))) : Go l Z a0 EL R own bytes ml ret nm S0 Q K kc ks S h (mkF K.m pc ls (st)) := by
  obtain ⟨hd, rfl⟩ := hd
  exact Go.pure kk fun T hT hx hb0 tgt hr => XT.lconstV hT hx rfl z (hb hb0 hd) hv hr
theorem go_null (hd : Dec bytes pc (.aconst_null) 1 n) (kk : Go l Z a0 EL R own bytes ml ret nm S0 Q K kc ks S h (mkF K.m n ls (.null :: st))) : Go l Z a0 EL R own bytes ml ret nm S0 Q K kc ks S h (mkF K.m pc ls (st)) := by
  obtain ⟨hd, rfl⟩ := hd
  exact Go.pure kk fun T hT hx hb0 tgt hr => XS.aconstNull hT hx rfl (hb hb0 hd) hr
theorem go_iadd (hd : Dec bytes pc (.iadd) 1 n) (hv : x + y = v) (kk : Go l Z a0 EL R own bytes ml ret nm S0 Q K kc ks S h (mkF K.m n ls (.int v :: st))) : Go l Z a0 EL R own bytes ml ret nm S0 Q K kc ks S h (mkF K.m pc ls (.int y :: .int x :: st)) := by
  obtain ⟨hd, rfl⟩ := hd
  exact Go.pure kk fun T hT hx hb0 tgt hr => XS.iadd hT hx rfl (hb hb0 hd) rfl (by rw [hv]; exact hr)
theorem go_isub (hd : Dec bytes pc (.isub) 1 n) (hv : x - y = v) (kk : Go l Z a0 EL R own bytes ml ret nm S0 Q K kc ks S h (mkF K.m n ls (.int v :: st))) : Go l Z a0 EL R own bytes ml ret nm S0 Q K kc ks S h (mkF K.m pc ls (.int y :: .int x :: st)) := by
  obtain ⟨hd, rfl⟩ := hd
  exact Go.pure kk fun T hT hx hb0 tgt hr => XS.isub hT hx rfl (hb hb0 hd) rfl (by rw [hv]; exact hr)
theorem go_imul (hd : Dec bytes pc (.imul) 1 n) (hv : x * y = v) (kk : Go l Z a0 EL R own bytes ml ret nm S0 Q K kc ks S h (mkF K.m n ls (.int v :: st))) : Go l Z a0 EL R own bytes ml ret nm S0 Q K kc ks S h (mkF K.m pc ls (.int y :: .int x :: st)) := by
  obtain ⟨hd, rfl⟩ := hd
  exact Go.pure kk fun T hT hx hb0 tgt hr => XS.imul hT hx rfl (hb hb0 hd) rfl (by rw [hv]; exact hr)
theorem go_iand (hd : Dec bytes pc (.iand) 1 n) (hv : x &&& y = v) (kk : Go l Z a0 EL R own bytes ml ret nm S0 Q K kc ks S h (mkF K.m n ls (.int v :: st))) : Go l Z a0 EL R own bytes ml ret nm S0 Q K kc ks S h (mkF K.m pc ls (.int y :: .int x :: st)) := by
  obtain ⟨hd, rfl⟩ := hd
  exact Go.pure kk fun T hT hx hb0 tgt hr => XS.iand hT hx rfl (hb hb0 hd) rfl (by rw [hv]; exact hr)
theorem go_ior (hd : Dec bytes pc (.ior) 1 n) (hv : x ||| y = v) (kk : Go l Z a0 EL R own bytes ml ret nm S0 Q K kc ks S h (mkF K.m n ls (.int v :: st))) : Go l Z a0 EL R own bytes ml ret nm S0 Q K kc ks S h (mkF K.m pc ls (.int y :: .int x :: st)) := by
  obtain ⟨hd, rfl⟩ := hd
  exact Go.pure kk fun T hT hx hb0 tgt hr => XT.ior hT hx rfl (hb hb0 hd) rfl (by rw [hv]; exact hr)
theorem go_ixor (hd : Dec bytes pc (.ixor) 1 n) (hv : x ^^^ y = v) (kk : Go l Z a0 EL R own bytes ml ret nm S0 Q K kc ks S h (mkF K.m n ls (.int v :: st))) : Go l Z a0 EL R own bytes ml ret nm S0 Q K kc ks S h (mkF K.m pc ls (.int y :: .int x :: st)) := by
  obtain ⟨hd, rfl⟩ := hd
  exact Go.pure kk fun T hT hx hb0 tgt hr => XT.ixor hT hx rfl (hb hb0 hd) rfl (by rw [hv]; exact hr)
theorem go_ishl (hd : Dec bytes pc (.ishl) 1 n) (hv : x <<< (y &&& 31) = v) (kk : Go l Z a0 EL R own bytes ml ret nm S0 Q K kc ks S h (mkF K.m n ls (.int v :: st))) : Go l Z a0 EL R own bytes ml ret nm S0 Q K kc ks S h (mkF K.m pc ls (.int y :: .int x :: st)) := by
  obtain ⟨hd, rfl⟩ := hd
  exact Go.pure kk fun T hT hx hb0 tgt hr => XT.ishl hT hx rfl (hb hb0 hd) rfl (by rw [hv]; exact hr)
theorem go_ishr (hd : Dec bytes pc (.ishr) 1 n) (hv : x >>> (y &&& 31) = v) (kk : Go l Z a0 EL R own bytes ml ret nm S0 Q K kc ks S h (mkF K.m n ls (.int v :: st))) : Go l Z a0 EL R own bytes ml ret nm S0 Q K kc ks S h (mkF K.m pc ls (.int y :: .int x :: st)) := by
  obtain ⟨hd, rfl⟩ := hd
  exact Go.pure kk fun T hT hx hb0 tgt hr => XT.ishr hT hx rfl (hb hb0 hd) rfl (by rw [hv]; exact hr)
theorem go_iushr (hd : Dec bytes pc (.iushr) 1 n) (hv : XT.ushr x y = v) (kk : Go l Z a0 EL R own bytes ml ret nm S0 Q K kc ks S h (mkF K.m n ls (.int v :: st))) : Go l Z a0 EL R own bytes ml ret nm S0 Q K kc ks S h (mkF K.m pc ls (.int y :: .int x :: st)) := by
  obtain ⟨hd, rfl⟩ := hd
  exact Go.pure kk fun T hT hx hb0 tgt hr => XT.iushr hT hx rfl (hb hb0 hd) rfl (by rw [hv]; exact hr)
theorem go_irem (hd : Dec bytes pc (.irem) 1 n) (hy : y ≠ 0) (hv : x % y = v) (kk : Go l Z a0 EL R own bytes ml ret nm S0 Q K kc ks S h (mkF K.m n ls (.int v :: st))) : Go l Z a0 EL R own bytes ml ret nm S0 Q K kc ks S h (mkF K.m pc ls (.int y :: .int x :: st)) := by
  obtain ⟨hd, rfl⟩ := hd
  exact Go.pure kk fun T hT hx hb0 tgt hr => XS.irem hT hx rfl (hb hb0 hd) rfl hy (by rw [irem_eq_mod, hv]; exact hr)
theorem go_idiv (hd : Dec bytes pc (.idiv) 1 n) (hy : y ≠ 0) (hv : x / y = v) (kk : Go l Z a0 EL R own bytes ml ret nm S0 Q K kc ks S h (mkF K.m n ls (.int v :: st))) : Go l Z a0 EL R own bytes ml ret nm S0 Q K kc ks S h (mkF K.m pc ls (.int y :: .int x :: st)) := by
  obtain ⟨hd, rfl⟩ := hd
  exact Go.pure kk fun T hT hx hb0 tgt hr => XS.idiv hT hx rfl (hb hb0 hd) rfl hy (by rw [hv]; exact hr)
theorem go_ineg (hd : Dec bytes pc (.ineg) 1 n) (hv : -x = v) (kk : Go l Z a0 EL R own bytes ml ret nm S0 Q K kc ks S h (mkF K.m n ls (.int v :: st))) : Go l Z a0 EL R own bytes ml ret nm S0 Q K kc ks S h (mkF K.m pc ls (.int x :: st)) := by
  obtain ⟨hd, rfl⟩ := hd
  exact Go.pure kk fun T hT hx hb0 tgt hr => XS.ineg hT hx rfl (hb hb0 hd) rfl (by rw [hv]; exact hr)
theorem go_i2c (hd : Dec bytes pc (.i2c) 1 n) (hv : x.toUInt32.toUInt16.toUInt32.toInt32 = v) (kk : Go l Z a0 EL R own bytes ml ret nm S0 Q K kc ks S h (mkF K.m n ls (.int v :: st))) : Go l Z a0 EL R own bytes ml ret nm S0 Q K kc ks S h (mkF K.m pc ls (.int x :: st)) := by
  obtain ⟨hd, rfl⟩ := hd
  exact Go.pure kk fun T hT hx hb0 tgt hr => XT.i2c hT hx rfl (hb hb0 hd) rfl (by rw [hv]; exact hr)
theorem go_i2b (hd : Dec bytes pc (.i2b) 1 n) (hv : x.toInt8.toInt32 = v) (kk : Go l Z a0 EL R own bytes ml ret nm S0 Q K kc ks S h (mkF K.m n ls (.int v :: st))) : Go l Z a0 EL R own bytes ml ret nm S0 Q K kc ks S h (mkF K.m pc ls (.int x :: st)) := by
  obtain ⟨hd, rfl⟩ := hd
  exact Go.pure kk fun T hT hx hb0 tgt hr => XT.i2b hT hx rfl (hb hb0 hd) rfl (by rw [hv]; exact hr)
theorem go_i2s (hd : Dec bytes pc (.i2s) 1 n) (hv : x.toInt16.toInt32 = v) (kk : Go l Z a0 EL R own bytes ml ret nm S0 Q K kc ks S h (mkF K.m n ls (.int v :: st))) : Go l Z a0 EL R own bytes ml ret nm S0 Q K kc ks S h (mkF K.m pc ls (.int x :: st)) := by
  obtain ⟨hd, rfl⟩ := hd
  exact Go.pure kk fun T hT hx hb0 tgt hr => XT.i2s hT hx rfl (hb hb0 hd) rfl (by rw [hv]; exact hr)
theorem go_i2l {z : Int64} (hd : Dec bytes pc (.i2l) 1 n) (hv : x.toInt64 = z) (kk : Go l Z a0 EL R own bytes ml ret nm S0 Q K kc ks S h (mkF K.m n ls (.long z :: st))) : Go l Z a0 EL R own bytes ml ret nm S0 Q K kc ks S h (mkF K.m pc ls (.int x :: st)) := by
  obtain ⟨hd, rfl⟩ := hd
  exact Go.pure kk fun T hT hx hb0 tgt hr => XT.i2l hT hx rfl (hb hb0 hd) rfl (by rw [hv]; exact hr)
theorem go_l2i {z : Int64} (hd : Dec bytes pc (.l2i) 1 n) (hv : z.toInt32 = v) (kk : Go l Z a0 EL R own bytes ml ret nm S0 Q K kc ks S h (mkF K.m n ls (.int v :: st))) : Go l Z a0 EL R own bytes ml ret nm S0 Q K kc ks S h (mkF K.m pc ls (.long z :: st)) := by
  obtain ⟨hd, rfl⟩ := hd
  exact Go.pure kk fun T hT hx hb0 tgt hr => XT.l2i hT hx rfl (hb hb0 hd) rfl (by rw [hv]; exact hr)
theorem go_ladd {z1 z2 z : Int64} (hd : Dec bytes pc (.ladd) 1 n) (hv : z1 + z2 = z) (kk : Go l Z a0 EL R own bytes ml ret nm S0 Q K kc ks S h (mkF K.m n ls (.long z :: st))) : Go l Z a0 EL R own bytes ml ret nm S0 Q K kc ks S h (mkF K.m pc ls (.long z2 :: .long z1 :: st)) := by
  obtain ⟨hd, rfl⟩ := hd
  exact Go.pure kk fun T hT hx hb0 tgt hr => XT.ladd hT hx rfl (hb hb0 hd) rfl (by rw [hv]; exact hr)
theorem go_lcmp {z1 z2 : Int64} (hd : Dec bytes pc (.lcmp) 1 n) (hv : XT.cmpL z1 z2 = v) (kk : Go l Z a0 EL R own bytes ml ret nm S0 Q K kc ks S h (mkF K.m n ls (.int v :: st))) : Go l Z a0 EL R own bytes ml ret nm S0 Q K kc ks S h (mkF K.m pc ls (.long z2 :: .long z1 :: st)) := by
  obtain ⟨hd, rfl⟩ := hd
  exact Go.pure kk fun T hT hx hb0 tgt hr => XT.lcmp hT hx rfl (hb hb0 hd) rfl (by rw [hv]; exact hr)
theorem go_dup (hd : Dec bytes pc (.dup) 1 n) (hc : u.category = 1) (kk : Go l Z a0 EL R own bytes ml ret nm S0 Q K kc ks S h (mkF K.m n ls (u :: u :: st))) : Go l Z a0 EL R own bytes ml ret nm S0 Q K kc ks S h (mkF K.m pc ls (u :: st)) := by
  obtain ⟨hd, rfl⟩ := hd
  exact Go.pure kk fun T hT hx hb0 tgt hr => XS.dup hT hx rfl (hb hb0 hd) rfl hc hr
theorem go_pop (hd : Dec bytes pc (.pop) 1 n) (hc : u.category = 1) (kk : Go l Z a0 EL R own bytes ml ret nm S0 Q K kc ks S h (mkF K.m n ls (st))) : Go l Z a0 EL R own bytes ml ret nm S0 Q K kc ks S h (mkF K.m pc ls (u :: st)) := by
  obtain ⟨hd, rfl⟩ := hd
  exact Go.pure kk fun T hT hx hb0 tgt hr => XT.pop hT hx rfl (hb hb0 hd) rfl hc hr
theorem go_dupX1 (hd : Dec bytes pc (.dup_x1) 1 n) (hc : u.category = 1) (hc' : w.category = 1) (kk : Go l Z a0 EL R own bytes ml ret nm S0 Q K kc ks S h (mkF K.m n ls (u :: w :: u :: st))) : Go l Z a0 EL R own bytes ml ret nm S0 Q K kc ks S h (mkF K.m pc ls (u :: w :: st)) := by
  obtain ⟨hd, rfl⟩ := hd
  exact Go.pure kk fun T hT hx hb0 tgt hr => XT.dupX1 hT hx rfl (hb hb0 hd) rfl hc hc' hr
theorem go_dup2 (hd : Dec bytes pc (.dup2) 1 n) (hc : u.category = 1) (hc' : w.category = 1) (kk : Go l Z a0 EL R own bytes ml ret nm S0 Q K kc ks S h (mkF K.m n ls (u :: w :: u :: w :: st))) : Go l Z a0 EL R own bytes ml ret nm S0 Q K kc ks S h (mkF K.m pc ls (u :: w :: st)) := by
  obtain ⟨hd, rfl⟩ := hd
  exact Go.pure kk fun T hT hx hb0 tgt hr => XT.dup2 hT hx rfl (hb hb0 hd) rfl hc hc' hr
theorem go_istoreN {k : Fin 4} (hd : Dec bytes pc (.istore_n k) 1 n) (hl : storeLocals ls k.val (.int x) = some l') (kk : Go l Z a0 EL R own bytes ml ret nm S0 Q K kc ks S h (mkF K.m n l' (st))) : Go l Z a0 EL R own bytes ml ret nm S0 Q K kc ks S h (mkF K.m pc ls (.int x :: st)) := by
  obtain ⟨hd, rfl⟩ := hd
  exact Go.pure kk fun T hT hx hb0 tgt hr => XS.istoreN hT hx rfl (hb hb0 hd) rfl hl hr
theorem go_istore {k : Nat} (hd : Dec bytes pc (.istore k) 2 n) (hl : storeLocals ls k (.int x) = some l') (kk : Go l Z a0 EL R own bytes ml ret nm S0 Q K kc ks S h (mkF K.m n l' (st))) : Go l Z a0 EL R own bytes ml ret nm S0 Q K kc ks S h (mkF K.m pc ls (.int x :: st)) := by
  obtain ⟨hd, rfl⟩ := hd
  exact Go.pure kk fun T hT hx hb0 tgt hr => XS.istore hT hx rfl (hb hb0 hd) rfl hl hr
theorem go_astoreN {k : Fin 4} (hd : Dec bytes pc (.astore_n k) 1 n) (hv : u.isRef = true) (hl : storeLocals ls k.val u = some l') (kk : Go l Z a0 EL R own bytes ml ret nm S0 Q K kc ks S h (mkF K.m n l' (st))) : Go l Z a0 EL R own bytes ml ret nm S0 Q K kc ks S h (mkF K.m pc ls (u :: st)) := by
  obtain ⟨hd, rfl⟩ := hd
  exact Go.pure kk fun T hT hx hb0 tgt hr => XS.astoreN hT hx rfl (hb hb0 hd) rfl hv hl hr
theorem go_astore {k : Nat} (hd : Dec bytes pc (.astore k) 2 n) (hv : u.isRef = true) (hl : storeLocals ls k u = some l') (kk : Go l Z a0 EL R own bytes ml ret nm S0 Q K kc ks S h (mkF K.m n l' (st))) : Go l Z a0 EL R own bytes ml ret nm S0 Q K kc ks S h (mkF K.m pc ls (u :: st)) := by
  obtain ⟨hd, rfl⟩ := hd
  exact Go.pure kk fun T hT hx hb0 tgt hr => XS.astore hT hx rfl (hb hb0 hd) rfl hv hl hr
theorem go_lstoreN {k : Fin 4} {z : Int64} (hd : Dec bytes pc (.lstore_n k) 1 n) (hl : storeLocals ls k.val (.long z) = some l') (kk : Go l Z a0 EL R own bytes ml ret nm S0 Q K kc ks S h (mkF K.m n l' (st))) : Go l Z a0 EL R own bytes ml ret nm S0 Q K kc ks S h (mkF K.m pc ls (.long z :: st)) := by
  obtain ⟨hd, rfl⟩ := hd
  exact Go.pure kk fun T hT hx hb0 tgt hr => XT.lstoreN hT hx rfl (hb hb0 hd) rfl hl hr
theorem go_lstore {k : Nat} {z : Int64} (hd : Dec bytes pc (.lstore k) 2 n) (hl : storeLocals ls k (.long z) = some l') (kk : Go l Z a0 EL R own bytes ml ret nm S0 Q K kc ks S h (mkF K.m n l' (st))) : Go l Z a0 EL R own bytes ml ret nm S0 Q K kc ks S h (mkF K.m pc ls (.long z :: st)) := by
  obtain ⟨hd, rfl⟩ := hd
  exact Go.pure kk fun T hT hx hb0 tgt hr => XT.lstore hT hx rfl (hb hb0 hd) rfl hl hr
theorem go_iinc {k : Nat} {i : Int} (hd : Dec bytes pc (.iinc k i) 3 n) (hl : ls[k]? = some (.val (.int x))) (hv : x + Int32.ofInt i = v) (hl' : storeLocals ls k (.int v) = some l') (kk : Go l Z a0 EL R own bytes ml ret nm S0 Q K kc ks S h (mkF K.m n l' (st))) : Go l Z a0 EL R own bytes ml ret nm S0 Q K kc ks S h (mkF K.m pc ls (st)) := by
  obtain ⟨hd, rfl⟩ := hd
  exact Go.pure kk fun T hT hx hb0 tgt hr => XT.iincV hT hx rfl _ (hb hb0 hd) rfl hl (by rw [hv]; exact hl') hr
theorem go_ifeq {o : Int} (hd : Brn bytes pc (.ifCond .eq o) o n t) (yes : x = 0 → Go l Z a0 EL R own bytes ml ret nm S0 Q K kc ks S h (mkF K.m t ls st)) (no : ¬ (x = 0) → Go l Z a0 EL R own bytes ml ret nm S0 Q K kc ks S h (mkF K.m n ls st)) : Go l Z a0 EL R own bytes ml ret nm S0 Q K kc ks S h (mkF K.m pc ls (.int x :: st)) := by
  obtain ⟨hd, rfl, ho, hp⟩ := hd
  by_cases c : x = 0
  · exact Go.pure (yes c) fun T hT hx hb0 tgt hr => XS.ifYes hT hx rfl (pc0 := pc) (pc' := t) rfl (hb hb0 hd) rfl (XT.i0_eq_t c) ho hp hr
  · exact Go.pure (no (c)) fun T hT hx hb0 tgt hr => XS.ifNo hT hx rfl (hb hb0 hd) rfl (XT.i0_eq_f c) hr
theorem go_ifne {o : Int} (hd : Brn bytes pc (.ifCond .ne o) o n t) (yes : ¬ (x = 0) → Go l Z a0 EL R own bytes ml ret nm S0 Q K kc ks S h (mkF K.m t ls st)) (no : x = 0 → Go l Z a0 EL R own bytes ml ret nm S0 Q K kc ks S h (mkF K.m n ls st)) : Go l Z a0 EL R own bytes ml ret nm S0 Q K kc ks S h (mkF K.m pc ls (.int x :: st)) := by
  obtain ⟨hd, rfl, ho, hp⟩ := hd
  by_cases c : ¬ (x = 0)
  · exact Go.pure (yes c) fun T hT hx hb0 tgt hr => XS.ifYes hT hx rfl (pc0 := pc) (pc' := t) rfl (hb hb0 hd) rfl (XT.i0_ne_t c) ho hp hr
  · exact Go.pure (no (Decidable.not_not.mp c)) fun T hT hx hb0 tgt hr => XS.ifNo hT hx rfl (hb hb0 hd) rfl (XT.i0_ne_f (Decidable.not_not.mp c)) hr
theorem go_iflt {o : Int} (hd : Brn bytes pc (.ifCond .lt o) o n t) (yes : x < 0 → Go l Z a0 EL R own bytes ml ret nm S0 Q K kc ks S h (mkF K.m t ls st)) (no : ¬ (x < 0) → Go l Z a0 EL R own bytes ml ret nm S0 Q K kc ks S h (mkF K.m n ls st)) : Go l Z a0 EL R own bytes ml ret nm S0 Q K kc ks S h (mkF K.m pc ls (.int x :: st)) := by
  obtain ⟨hd, rfl, ho, hp⟩ := hd
  by_cases c : x < 0
  · exact Go.pure (yes c) fun T hT hx hb0 tgt hr => XS.ifYes hT hx rfl (pc0 := pc) (pc' := t) rfl (hb hb0 hd) rfl (XT.i0_lt_t c) ho hp hr
  · exact Go.pure (no (c)) fun T hT hx hb0 tgt hr => XS.ifNo hT hx rfl (hb hb0 hd) rfl (XT.i0_lt_f c) hr
theorem go_ifge {o : Int} (hd : Brn bytes pc (.ifCond .ge o) o n t) (yes : ¬ (x < 0) → Go l Z a0 EL R own bytes ml ret nm S0 Q K kc ks S h (mkF K.m t ls st)) (no : x < 0 → Go l Z a0 EL R own bytes ml ret nm S0 Q K kc ks S h (mkF K.m n ls st)) : Go l Z a0 EL R own bytes ml ret nm S0 Q K kc ks S h (mkF K.m pc ls (.int x :: st)) := by
  obtain ⟨hd, rfl, ho, hp⟩ := hd
  by_cases c : ¬ (x < 0)
  · exact Go.pure (yes c) fun T hT hx hb0 tgt hr => XS.ifYes hT hx rfl (pc0 := pc) (pc' := t) rfl (hb hb0 hd) rfl (XT.i0_ge_t c) ho hp hr
  · exact Go.pure (no (Decidable.not_not.mp c)) fun T hT hx hb0 tgt hr => XS.ifNo hT hx rfl (hb hb0 hd) rfl (XT.i0_ge_f (Decidable.not_not.mp c)) hr
theorem go_ifgt {o : Int} (hd : Brn bytes pc (.ifCond .gt o) o n t) (yes : 0 < x → Go l Z a0 EL R own bytes ml ret nm S0 Q K kc ks S h (mkF K.m t ls st)) (no : ¬ (0 < x) → Go l Z a0 EL R own bytes ml ret nm S0 Q K kc ks S h (mkF K.m n ls st)) : Go l Z a0 EL R own bytes ml ret nm S0 Q K kc ks S h (mkF K.m pc ls (.int x :: st)) := by
  obtain ⟨hd, rfl, ho, hp⟩ := hd
  by_cases c : 0 < x
  · exact Go.pure (yes c) fun T hT hx hb0 tgt hr => XS.ifYes hT hx rfl (pc0 := pc) (pc' := t) rfl (hb hb0 hd) rfl (XT.i0_gt_t c) ho hp hr
  · exact Go.pure (no (c)) fun T hT hx hb0 tgt hr => XS.ifNo hT hx rfl (hb hb0 hd) rfl (XT.i0_gt_f c) hr
theorem go_ifle {o : Int} (hd : Brn bytes pc (.ifCond .le o) o n t) (yes : ¬ (0 < x) → Go l Z a0 EL R own bytes ml ret nm S0 Q K kc ks S h (mkF K.m t ls st)) (no : 0 < x → Go l Z a0 EL R own bytes ml ret nm S0 Q K kc ks S h (mkF K.m n ls st)) : Go l Z a0 EL R own bytes ml ret nm S0 Q K kc ks S h (mkF K.m pc ls (.int x :: st)) := by
  obtain ⟨hd, rfl, ho, hp⟩ := hd
  by_cases c : ¬ (0 < x)
  · exact Go.pure (yes c) fun T hT hx hb0 tgt hr => XS.ifYes hT hx rfl (pc0 := pc) (pc' := t) rfl (hb hb0 hd) rfl (XT.i0_le_t c) ho hp hr
  · exact Go.pure (no (Decidable.not_not.mp c)) fun T hT hx hb0 tgt hr => XS.ifNo hT hx rfl (hb hb0 hd) rfl (XT.i0_le_f (Decidable.not_not.mp c)) hr
theorem go_icmpeq {o : Int} (hd : Brn bytes pc (.if_icmp .eq o) o n t) (yes : x = y → Go l Z a0 EL R own bytes ml ret nm S0 Q K kc ks S h (mkF K.m t ls st)) (no : ¬ (x = y) → Go l Z a0 EL R own bytes ml ret nm S0 Q K kc ks S h (mkF K.m n ls st)) : Go l Z a0 EL R own bytes ml ret nm S0 Q K kc ks S h (mkF K.m pc ls (.int y :: .int x :: st)) := by
  obtain ⟨hd, rfl, ho, hp⟩ := hd
  by_cases c : x = y
  · exact Go.pure (yes c) fun T hT hx hb0 tgt hr => XS.icmpYes hT hx rfl (pc0 := pc) (pc' := t) rfl (hb hb0 hd) rfl (XT.ii_eq_t c) ho hp hr
  · exact Go.pure (no (c)) fun T hT hx hb0 tgt hr => XS.icmpNo hT hx rfl (hb hb0 hd) rfl (XT.ii_eq_f c) hr
theorem go_icmpne {o : Int} (hd : Brn bytes pc (.if_icmp .ne o) o n t) (yes : ¬ (x = y) → Go l Z a0 EL R own bytes ml ret nm S0 Q K kc ks S h (mkF K.m t ls st)) (no : x = y → Go l Z a0 EL R own bytes ml ret nm S0 Q K kc ks S h (mkF K.m n ls st)) : Go l Z a0 EL R own bytes ml ret nm S0 Q K kc ks S h (mkF K.m pc ls (.int y :: .int x :: st)) := by
  obtain ⟨hd, rfl, ho, hp⟩ := hd
  by_cases c : ¬ (x = y)
  · exact Go.pure (yes c) fun T hT hx hb0 tgt hr => XS.icmpYes hT hx rfl (pc0 := pc) (pc' := t) rfl (hb hb0 hd) rfl (XT.ii_ne_t c) ho hp hr
  · exact Go.pure (no (Decidable.not_not.mp c)) fun T hT hx hb0 tgt hr => XS.icmpNo hT hx rfl (hb hb0 hd) rfl (XT.ii_ne_f (Decidable.not_not.mp c)) hr
theorem go_icmplt {o : Int} (hd : Brn bytes pc (.if_icmp .lt o) o n t) (yes : x < y → Go l Z a0 EL R own bytes ml ret nm S0 Q K kc ks S h (mkF K.m t ls st)) (no : ¬ (x < y) → Go l Z a0 EL R own bytes ml ret nm S0 Q K kc ks S h (mkF K.m n ls st)) : Go l Z a0 EL R own bytes ml ret nm S0 Q K kc ks S h (mkF K.m pc ls (.int y :: .int x :: st)) := by
  obtain ⟨hd, rfl, ho, hp⟩ := hd
  by_cases c : x < y
  · exact Go.pure (yes c) fun T hT hx hb0 tgt hr => XS.icmpYes hT hx rfl (pc0 := pc) (pc' := t) rfl (hb hb0 hd) rfl (XT.ii_lt_t c) ho hp hr
  · exact Go.pure (no (c)) fun T hT hx hb0 tgt hr => XS.icmpNo hT hx rfl (hb hb0 hd) rfl (XT.ii_lt_f c) hr
theorem go_icmpge {o : Int} (hd : Brn bytes pc (.if_icmp .ge o) o n t) (yes : ¬ (x < y) → Go l Z a0 EL R own bytes ml ret nm S0 Q K kc ks S h (mkF K.m t ls st)) (no : x < y → Go l Z a0 EL R own bytes ml ret nm S0 Q K kc ks S h (mkF K.m n ls st)) : Go l Z a0 EL R own bytes ml ret nm S0 Q K kc ks S h (mkF K.m pc ls (.int y :: .int x :: st)) := by
  obtain ⟨hd, rfl, ho, hp⟩ := hd
  by_cases c : ¬ (x < y)
  · exact Go.pure (yes c) fun T hT hx hb0 tgt hr => XS.icmpYes hT hx rfl (pc0 := pc) (pc' := t) rfl (hb hb0 hd) rfl (XT.ii_ge_t c) ho hp hr
  · exact Go.pure (no (Decidable.not_not.mp c)) fun T hT hx hb0 tgt hr => XS.icmpNo hT hx rfl (hb hb0 hd) rfl (XT.ii_ge_f (Decidable.not_not.mp c)) hr
theorem go_icmpgt {o : Int} (hd : Brn bytes pc (.if_icmp .gt o) o n t) (yes : y < x → Go l Z a0 EL R own bytes ml ret nm S0 Q K kc ks S h (mkF K.m t ls st)) (no : ¬ (y < x) → Go l Z a0 EL R own bytes ml ret nm S0 Q K kc ks S h (mkF K.m n ls st)) : Go l Z a0 EL R own bytes ml ret nm S0 Q K kc ks S h (mkF K.m pc ls (.int y :: .int x :: st)) := by
  obtain ⟨hd, rfl, ho, hp⟩ := hd
  by_cases c : y < x
  · exact Go.pure (yes c) fun T hT hx hb0 tgt hr => XS.icmpYes hT hx rfl (pc0 := pc) (pc' := t) rfl (hb hb0 hd) rfl (XT.ii_gt_t c) ho hp hr
  · exact Go.pure (no (c)) fun T hT hx hb0 tgt hr => XS.icmpNo hT hx rfl (hb hb0 hd) rfl (XT.ii_gt_f c) hr
theorem go_icmple {o : Int} (hd : Brn bytes pc (.if_icmp .le o) o n t) (yes : ¬ (y < x) → Go l Z a0 EL R own bytes ml ret nm S0 Q K kc ks S h (mkF K.m t ls st)) (no : y < x → Go l Z a0 EL R own bytes ml ret nm S0 Q K kc ks S h (mkF K.m n ls st)) : Go l Z a0 EL R own bytes ml ret nm S0 Q K kc ks S h (mkF K.m pc ls (.int y :: .int x :: st)) := by
  obtain ⟨hd, rfl, ho, hp⟩ := hd
  by_cases c : ¬ (y < x)
  · exact Go.pure (yes c) fun T hT hx hb0 tgt hr => XS.icmpYes hT hx rfl (pc0 := pc) (pc' := t) rfl (hb hb0 hd) rfl (XT.ii_le_t c) ho hp hr
  · exact Go.pure (no (Decidable.not_not.mp c)) fun T hT hx hb0 tgt hr => XS.icmpNo hT hx rfl (hb hb0 hd) rfl (XT.ii_le_f (Decidable.not_not.mp c)) hr
theorem go_goto {o : Int} (hd : Brn bytes pc (.goto o) o n t) (kk : Go l Z a0 EL R own bytes ml ret nm S0 Q K kc ks S h (mkF K.m t ls st)) : Go l Z a0 EL R own bytes ml ret nm S0 Q K kc ks S h (mkF K.m pc ls st) := by
  obtain ⟨hd, rfl, ho, hp⟩ := hd
  exact Go.pure kk fun T hT hx hb0 tgt hr => XS.goto hT hx rfl (pc0 := pc) (pc' := t) rfl (hb hb0 hd) ho hp hr
theorem go_ifnullY {o : Int} (hd : Brn bytes pc (.ifnull o) o n t) (kk : Go l Z a0 EL R own bytes ml ret nm S0 Q K kc ks S h (mkF K.m t ls st)) : Go l Z a0 EL R own bytes ml ret nm S0 Q K kc ks S h (mkF K.m pc ls (.null :: st)) := by
  obtain ⟨hd, rfl, ho, hp⟩ := hd
  exact Go.pure kk fun T hT hx hb0 tgt hr => XS.ifnullYes hT hx rfl (pc0 := pc) (pc' := t) rfl (hb hb0 hd) rfl ho hp hr
theorem go_ifnullN {o : Int} {b : Addr} (hd : Brn bytes pc (.ifnull o) o n t) (kk : Go l Z a0 EL R own bytes ml ret nm S0 Q K kc ks S h (mkF K.m n ls st)) : Go l Z a0 EL R own bytes ml ret nm S0 Q K kc ks S h (mkF K.m pc ls (.ref b :: st)) := by
  obtain ⟨hd, rfl, ho, hp⟩ := hd
  exact Go.pure kk fun T hT hx hb0 tgt hr => XS.ifnullNo hT hx rfl (hb hb0 hd) rfl hr
theorem go_ifnonnullY {o : Int} {b : Addr} (hd : Brn bytes pc (.ifnonnull o) o n t) (kk : Go l Z a0 EL R own bytes ml ret nm S0 Q K kc ks S h (mkF K.m t ls st)) : Go l Z a0 EL R own bytes ml ret nm S0 Q K kc ks S h (mkF K.m pc ls (.ref b :: st)) := by
  obtain ⟨hd, rfl, ho, hp⟩ := hd
  exact Go.pure kk fun T hT hx hb0 tgt hr => XT.ifnonnullYes hT hx rfl (pc0 := pc) (pc' := t) rfl (hb hb0 hd) rfl ho hp hr
theorem go_ifnonnullN {o : Int} (hd : Brn bytes pc (.ifnonnull o) o n t) (kk : Go l Z a0 EL R own bytes ml ret nm S0 Q K kc ks S h (mkF K.m n ls st)) : Go l Z a0 EL R own bytes ml ret nm S0 Q K kc ks S h (mkF K.m pc ls (.null :: st)) := by
  obtain ⟨hd, rfl, ho, hp⟩ := hd
  exact Go.pure kk fun T hT hx hb0 tgt hr => XT.ifnonnullNo hT hx rfl (hb hb0 hd) rfl hr
theorem go_acmpeq {o : Int} (hd : Brn bytes pc (.if_acmp .eq o) o n t) (h1 : u.isRef = true) (h2 : w.isRef = true) (yes : u = w → Go l Z a0 EL R own bytes ml ret nm S0 Q K kc ks S h (mkF K.m t ls st)) (no : ¬ u = w → Go l Z a0 EL R own bytes ml ret nm S0 Q K kc ks S h (mkF K.m n ls st)) : Go l Z a0 EL R own bytes ml ret nm S0 Q K kc ks S h (mkF K.m pc ls (w :: u :: st)) := by
  obtain ⟨hd, rfl, ho, hp⟩ := hd
  by_cases c : u = w
  · exact Go.pure (yes c) fun T hT hx hb0 tgt hr => XT.acmpYes hT hx rfl (pc0 := pc) (pc' := t) rfl (hb hb0 hd) rfl h1 h2 (XT.aa_eq_t c) ho hp hr
  · exact Go.pure (no c) fun T hT hx hb0 tgt hr => XT.acmpNo hT hx rfl (hb hb0 hd) rfl h1 h2 (XT.aa_eq_f c) hr
theorem go_acmpne {o : Int} (hd : Brn bytes pc (.if_acmp .ne o) o n t) (h1 : u.isRef = true) (h2 : w.isRef = true) (yes : ¬ u = w → Go l Z a0 EL R own bytes ml ret nm S0 Q K kc ks S h (mkF K.m t ls st)) (no : u = w → Go l Z a0 EL R own bytes ml ret nm S0 Q K kc ks S h (mkF K.m n ls st)) : Go l Z a0 EL R own bytes ml ret nm S0 Q K kc ks S h (mkF K.m pc ls (w :: u :: st)) := by
  obtain ⟨hd, rfl, ho, hp⟩ := hd
  by_cases c : u = w
  · exact Go.pure (no c) fun T hT hx hb0 tgt hr => XT.acmpNo hT hx rfl (hb hb0 hd) rfl h1 h2 (XT.aa_ne_f c) hr
  · exact Go.pure (yes c) fun T hT hx hb0 tgt hr => XT.acmpYes hT hx rfl (pc0 := pc) (pc' := t) rfl (hb hb0 hd) rfl h1 h2 (XT.aa_ne_t c) ho hp hr
theorem cat_int (x : Int32) : (Value.int x).category = 1 := rfl
theorem cat_ref (x : Addr) : (Value.ref x).category = 1 := rfl
theorem cat_null : Value.null.category = 1 := rfl
theorem cat_long (x : Int64) : (Value.long x).category = 2 := rfl
theorem go_istoreS {k : Nat} {o : Slot} (hd : Dec bytes pc (.istore k) 2 n) (hold : ls[k]? = some o) (ho : o = .unset ∨ ∃ w, o = .val w ∧ w.category = 1) (hl : ls.setIfInBounds k (.val (.int x)) = l') (kk : Go l Z a0 EL R own bytes ml ret nm S0 Q K kc ks S h (mkF K.m n l' st)) : Go l Z a0 EL R own bytes ml ret nm S0 Q K kc ks S h (mkF K.m pc ls (.int x :: st)) :=
  go_istore hd ((XS.store1 hold ho rfl).trans (congrArg some hl)) kk
theorem go_istoreNS {k : Fin 4} {o : Slot} (hd : Dec bytes pc (.istore_n k) 1 n) (hold : ls[k.val]? = some o) (ho : o = .unset ∨ ∃ w, o = .val w ∧ w.category = 1) (hl : ls.setIfInBounds k.val (.val (.int x)) = l') (kk : Go l Z a0 EL R own bytes ml ret nm S0 Q K kc ks S h (mkF K.m n l' st)) : Go l Z a0 EL R own bytes ml ret nm S0 Q K kc ks S h (mkF K.m pc ls (.int x :: st)) :=
  go_istoreN hd ((XS.store1 hold ho rfl).trans (congrArg some hl)) kk
theorem go_astoreS {k : Nat} {o : Slot} (hd : Dec bytes pc (.astore k) 2 n) (hold : ls[k]? = some o) (hv : u.isRef = true) (ho : o = .unset ∨ ∃ w, o = .val w ∧ w.category = 1) (hl : ls.setIfInBounds k (.val u) = l') (kk : Go l Z a0 EL R own bytes ml ret nm S0 Q K kc ks S h (mkF K.m n l' st)) : Go l Z a0 EL R own bytes ml ret nm S0 Q K kc ks S h (mkF K.m pc ls (u :: st)) :=
  go_astore hd hv ((XS.store1 hold ho (XT.cat1 hv)).trans (congrArg some hl)) kk
theorem go_astoreNS {k : Fin 4} {o : Slot} (hd : Dec bytes pc (.astore_n k) 1 n) (hold : ls[k.val]? = some o) (hv : u.isRef = true) (ho : o = .unset ∨ ∃ w, o = .val w ∧ w.category = 1) (hl : ls.setIfInBounds k.val (.val u) = l') (kk : Go l Z a0 EL R own bytes ml ret nm S0 Q K kc ks S h (mkF K.m n l' st)) : Go l Z a0 EL R own bytes ml ret nm S0 Q K kc ks S h (mkF K.m pc ls (u :: st)) :=
  go_astoreN hd hv ((XS.store1 hold ho (XT.cat1 hv)).trans (congrArg some hl)) kk
theorem fin_of {vm0 : Vm} {locs : List Loc} {cells slots : Nat} {T : State} {fs : List Frame} {v : Option Value} (hEL : EW Z a0 EL)
    (X : Stand K.p l K.e R (K.s.setVm vm0) K.m K.args K.below K.meth K.c T locs cells slots) (e4 : Z.Warmed39 vm0) (e6 : CHr Z EL K.s.vm K.s.heap vm0 T.heap) (e7 : Fr Z.heap.size locs) (e8 : cells + kc ≤ R.cells) (e9 : slots + ks ≤ R.slots) (e10 : Sf Z EL vm0 T.heap S) (e11 : Ext Z.heap T.heap) (e12 : ∀ x, S0 x → S x)
    (hW : ReturnedEndW K.s (.returned v) (T.setFrames fs) locs cells slots) (q : Q S v T.heap) : FinG Z EL R S0 Q K.s (T.setFrames fs) (.returned v) :=
  have hC : CHr Z EL vm0 T.heap T.vm T.heap := CHv.at X e4 hEL e6.1
  ⟨v, locs, rfl, ⟨⟨S, e12, e10.step hC, e11, q⟩, e7⟩, e6.trans hC, hW.1, hW.2.1, hW.2.2.1, hW.2.2.2.mono (by omega) (by omega)⟩
theorem go_return (hd : Dec bytes pc .return_ 1 n) (hret : ret = none) (q : Q S none h) : Go l Z a0 EL R own bytes ml ret nm S0 Q K kc ks S h (mkF K.m pc ls []) := by
  intro hK T hT
  obtain ⟨hd, -⟩ := hd
  obtain ⟨vm0, k0, locs, cells, slots, X, e1, e2, e3, e4, e5, e6, e7, e8, e9, e10, e11, e12⟩ := hT
  subst e1
  have hr' : K.meth.sig.returnType = none := hK.2.2.2.1.trans hret
  obtain ⟨fs, hr, hrun, hended, hW⟩ := X.leaveW (v := none) e2 e3 (fun _ => rfl) hK.2.2.2.2.2.1
  exact ⟨_, _, X.returnOut hK.1 hr' (hb hK.2.1 hd) hr, hrun, hended, fin_of hK.2.2.2.2.2.2 X e4 e6 e7 e8 e9 e10 e11 e12 hW q⟩
theorem go_ireturn {ty : FieldType} (hd : Dec bytes pc .ireturn 1 n) (hret : ret = some ty) (ht : ty = .int ∨ ty = .boolean ∨ ty = .byte ∨ ty = .char ∨ ty = .short) (hv : narrow ty (.int x) = .int v) (q : Q S (some (.int v)) h) : Go l Z a0 EL R own bytes ml ret nm S0 Q K kc ks S h (mkF K.m pc ls (.int x :: st)) := by
  intro hK T hT
  obtain ⟨hd, -⟩ := hd
  obtain ⟨vm0, k0, locs, cells, slots, X, e1, e2, e3, e4, e5, e6, e7, e8, e9, e10, e11, e12⟩ := hT
  subst e1
  have hr' : K.meth.sig.returnType = some ty := hK.2.2.2.1.trans hret
  obtain ⟨fs, hr, hrun, hended, hW⟩ := X.leaveW (v := some (.int v)) e2 e3 (fun q => by rw [hr'] at q; cases q) hK.2.2.2.2.2.1
  refine ⟨_, _, ?_, hrun, hended, fin_of hK.2.2.2.2.2.2 X e4 e6 e7 e8 e9 e10 e11 e12 hW q⟩
  have hm' := X.method'
  have hx := hK.1
  have hd' := hb hK.2.1 hd
  show Steps K.p.tables K.e K.below (T.setTop { method := K.m, pc := pc, locals := ls, stack := _ :: st, locked := none }) _
  rcases ht with rfl | rfl | rfl | rfl | rfl
  all_goals
    jvm_step X.here [X.here.top, hx, hd', hm', hr', hv]
    first | (intro acts; rw [hr _ acts rfl rfl rfl]) | rw [hr _ _ rfl rfl rfl]
    exact Steps.refl _
theorem go_areturn {ty : FieldType} (hd : Dec bytes pc .areturn 1 n) (hret : ret = some ty) (ht : ty.isReference = true) (hu : u.isRef = true) (q : Q S (some u) h) : Go l Z a0 EL R own bytes ml ret nm S0 Q K kc ks S h (mkF K.m pc ls (u :: st)) := by
  intro hK T hT
  obtain ⟨hd, -⟩ := hd
  obtain ⟨vm0, k0, locs, cells, slots, X, e1, e2, e3, e4, e5, e6, e7, e8, e9, e10, e11, e12⟩ := hT
  subst e1
  have hr' : K.meth.sig.returnType = some ty := hK.2.2.2.1.trans hret
  obtain ⟨fs, hr, hrun, hended, hW⟩ := X.leaveW (v := some u) e2 e3 (fun q => by rw [hr'] at q; cases q) hK.2.2.2.2.2.1
  refine ⟨_, _, ?_, hrun, hended, fin_of hK.2.2.2.2.2.2 X e4 e6 e7 e8 e9 e10 e11 e12 hW q⟩
  have hm' := X.method'
  have hx := hK.1
  have hd' := hb hK.2.1 hd
  show Steps K.p.tables K.e K.below (T.setTop { method := K.m, pc := pc, locals := ls, stack := _ :: st, locked := none }) _
  rcases ref_cases hu with rfl | ⟨a, rfl⟩
  all_goals
    jvm_step X.here [X.here.top, hx, hd', hm', hr', Value.isRef, ht]
    first | (intro acts; rw [hr _ acts rfl rfl rfl]) | rw [hr _ _ rfl rfl rfl]
    exact Steps.refl _
theorem go_lreturn {z : Int64} (hd : Dec bytes pc .lreturn 1 n) (hret : ret = some .long) (q : Q S (some (.long z)) h) : Go l Z a0 EL R own bytes ml ret nm S0 Q K kc ks S h (mkF K.m pc ls (.long z :: st)) := by
  intro hK T hT
  obtain ⟨hd, -⟩ := hd
  obtain ⟨vm0, k0, locs, cells, slots, X, e1, e2, e3, e4, e5, e6, e7, e8, e9, e10, e11, e12⟩ := hT
  subst e1
  have hr' : K.meth.sig.returnType = some .long := hK.2.2.2.1.trans hret
  obtain ⟨fs, hr, hrun, hended, hW⟩ := X.leaveW (v := some (.long z)) e2 e3 (fun q => by rw [hr'] at q; cases q) hK.2.2.2.2.2.1
  refine ⟨_, _, ?_, hrun, hended, fin_of hK.2.2.2.2.2.2 X e4 e6 e7 e8 e9 e10 e11 e12 hW q⟩
  have hm' := X.method'
  have hx := hK.1
  have hd' := hb hK.2.1 hd
  have hv : narrow .long (.long z) = .long z := rfl
  show Steps K.p.tables K.e K.below (T.setTop { method := K.m, pc := pc, locals := ls, stack := _ :: st, locked := none }) _
  jvm_step X.here [X.here.top, hx, hd', hm', hr', hv]
  first | (intro acts; rw [hr _ acts rfl rfl rfl]) | rw [hr _ _ rfl rfl rfl]
  exact Steps.refl _
theorem go_getf {R0 O fn d : String} {idx : Nat} {a : Addr} (w1 : (Cond.fieldLink own idx R0 fn d).before a0 Z = true) (via : Via Z R0 O fn d) (F : Fld Z h a O fn d u) (hd : Dec bytes pc (.getfield idx) 3 n) (kk : Go l Z a0 EL R own bytes ml ret nm S0 Q K kc ks S h (mkF K.m n ls (u :: st))) : Go l Z a0 EL R own bytes ml ret nm S0 Q K kc ks S h (mkF K.m pc ls (.ref a :: st)) := by
  obtain ⟨hd, rfl⟩ := hd
  refine Go.calm kk fun vm0 T locs cells slots hK X hZ hown eT hE => ?_
  exact getF X hK.1 hZ hown (host := "") (Or.inl w1) via eT F (g := mkF K.m pc ls (.ref a :: st)) rfl rfl (hb hK.2.1 hd)
theorem go_getfN {R0 O fn d host : String} {idx : Nat} {a : Addr} (w1 : (Cond.fieldLinkNest own idx R0 fn d host).before a0 Z = true) (via : Via Z R0 O fn d) (F : Fld Z h a O fn d u) (hd : Dec bytes pc (.getfield idx) 3 n) (kk : Go l Z a0 EL R own bytes ml ret nm S0 Q K kc ks S h (mkF K.m n ls (u :: st))) : Go l Z a0 EL R own bytes ml ret nm S0 Q K kc ks S h (mkF K.m pc ls (.ref a :: st)) := by
  obtain ⟨hd, rfl⟩ := hd
  refine Go.calm kk fun vm0 T locs cells slots hK X hZ hown eT hE => ?_
  exact getF X hK.1 hZ hown (Or.inr w1) via eT F (g := mkF K.m pc ls (.ref a :: st)) rfl rfl (hb hK.2.1 hd)
theorem go_gets {R0 O fn d : String} {idx : Nat} (w1 : (Cond.fieldLink own idx R0 fn d).before a0 Z = true) (via : Via Z R0 O fn d) (F : Sta Z Z.heap O fn d u) (hd : Dec bytes pc (.getstatic idx) 3 n) (kk : Go l Z a0 EL R own bytes ml ret nm S0 Q K kc ks S h (mkF K.m n ls (u :: st))) : Go l Z a0 EL R own bytes ml ret nm S0 Q K kc ks S h (mkF K.m pc ls st) := by
  obtain ⟨hd, rfl⟩ := hd
  refine Go.calm kk fun vm0 T locs cells slots hK X hZ hown eT hE => ?_
  exact getS2 X hK.1 hZ hown (host := "") (Or.inl w1) via eT (F.ext hE) (g := mkF K.m pc ls st) rfl (hb hK.2.1 hd)
theorem go_cast {C : String} {idx : Nat} {a : Addr} (w1 : (Cond.classLink own idx C).before a0 Z = true) (I : Ins Z h a C true) (hd : Dec bytes pc (.checkcast idx) 3 n) (kk : Go l Z a0 EL R own bytes ml ret nm S0 Q K kc ks S h (mkF K.m n ls (.ref a :: st))) : Go l Z a0 EL R own bytes ml ret nm S0 Q K kc ks S h (mkF K.m pc ls (.ref a :: st)) := by
  obtain ⟨hd, rfl⟩ := hd
  refine Go.calm kk fun vm0 T locs cells slots hK X hZ hown eT hE => ?_
  exact castY X hK.1 hZ hown w1 eT I (g := mkF K.m pc ls (.ref a :: st)) rfl rfl (hb hK.2.1 hd)
theorem go_instY {C : String} {idx : Nat} {a : Addr} (w1 : (Cond.classLink own idx C).before a0 Z = true) (I : Ins Z h a C true) (hd : Dec bytes pc (.instanceof idx) 3 n) (kk : Go l Z a0 EL R own bytes ml ret nm S0 Q K kc ks S h (mkF K.m n ls (.int 1 :: st))) : Go l Z a0 EL R own bytes ml ret nm S0 Q K kc ks S h (mkF K.m pc ls (.ref a :: st)) := by
  obtain ⟨hd, rfl⟩ := hd
  refine Go.calm kk fun vm0 T locs cells slots hK X hZ hown eT hE => ?_
  exact instY X hK.1 hZ hown w1 eT I (g := mkF K.m pc ls (.ref a :: st)) rfl rfl (hb hK.2.1 hd)
theorem go_initO {idx : Nat} {a : Addr} (w1 : (Cond.methodLink own idx Lib.objectInit).before a0 Z = true) (w2 : (Cond.instanceMethod Lib.objectInit).before a0 Z = true) (w3 : (Cond.code Lib.objectInit ⟨#[0xb1]⟩ 1 none).before a0 Z = true) (hd : Dec bytes pc (.invokespecial idx) 3 n) (hsz : ls.size = ml) (hf : 1 ≤ R.frames) (hW : (st.map fun v => v.category).sum + 12 ≤ R.locals)
    (kk : Go l Z a0 EL R own bytes ml ret nm S0 Q K kc ks S h (mkF K.m n ls st)) : Go l Z a0 EL R own bytes ml ret nm S0 Q K kc ks S h (mkF K.m pc ls (.ref a :: st)) := by
  obtain ⟨hd, rfl⟩ := hd
  refine Go.calm kk fun vm0 T locs cells slots hK X hZ hown eT hE => ?_
  exact initO X hK.1 hZ hown w1 w2 w3 eT (g := mkF K.m pc ls (.ref a :: st)) rfl (hsz.trans hK.2.2.1.symm) rfl (hb hK.2.1 hd) hf (W := (st.map fun v => v.category).sum) (by show 2 * 0 + _ ≤ _; simp) hW
theorem go_new {C : String} {idx na : Nat} (w1 : (Cond.classLink own idx C).before a0 Z = true) (wi : (Cond.instantiable C na).before a0 Z = true) (wz : (Cond.initialized C).before a0 Z = true) (hd : Dec bytes pc (.new idx) 3 n)
    (kk : ∀ S' h' a, a = h.size → (∀ x, S x → S' x) → S' a → Ext h h' → a < h'.size → (Exa Z h' a C ∧ ∀ {O nm d : String} {ty : FieldType}, Laid Z a0 C O nm d → parseFieldDescriptor d = some ty → Fld Z h' a O nm d (defaultValue ty)) → Go l Z a0 EL R own bytes ml ret nm S0 Q K kc ks S' h' (mkF K.m n ls (.ref a :: st))) : Go l Z a0 EL R own bytes ml ret nm S0 Q K (kc + 1) (ks + na) S h (mkF K.m pc ls st) := by
  obtain ⟨hd, rfl⟩ := hd
  refine Go.make (f' := fun a => mkF K.m (pc + 3) ls (.ref a :: st)) _ kk fun vm0 T locs cells slots hK X hZ hown eT hc hl => ?_
  obtain ⟨T', h', X', e', E, A, D, -, st'⟩ := newO X hK.1 hZ hown w1 wi wz eT (g := mkF K.m pc ls st) rfl (hb hK.2.1 hd) hc hl
  exact ⟨T', h', X', e', E, A.lt, ⟨A, D⟩, st'⟩
/-- an array of ints, bytes, chars ..: its components as a list -/
def AI (Z : State) (h : Heap) (a : Addr) (ty : FieldType) (xs : List Int32) : Prop := ∃ c : Cell, Arr Z h a c ty ∧ c.slots.toList = xs.map Value.int ∧ xs.length < 2 ^ 31 ∧ ∀ x ∈ xs, fits ty (.int x) = true
theorem AI.lt {a : Addr} {ty : FieldType} {xs : List Int32} (A : AI Z h a ty xs) : a < h.size := by obtain ⟨c, A, -⟩ := A; exact A.lt
theorem AI.keep {a : Addr} {ty : FieldType} {xs : List Int32} {h' : Heap} {ws : List Addr} (A : AI Z h a ty xs) (K : Keep h h' ws) (q : a ∉ ws) : AI Z h' a ty xs := by obtain ⟨c, A, r⟩ := A; exact ⟨c, ⟨K.2.1 a c A.1 q, A.2⟩, r⟩
theorem AI.ext {a : Addr} {ty : FieldType} {xs : List Int32} {h' : Heap} (A : AI Z h a ty xs) (E : Ext h h') : AI Z h' a ty xs := by obtain ⟨c, A, r⟩ := A; exact ⟨c, A.ext E, r⟩
theorem AI.size {a : Addr} {ty : FieldType} {xs : List Int32} {c : Cell} (A : Arr Z h a c ty) (q : c.slots.toList = xs.map Value.int) : c.slots.size = xs.length := by
  have := congrArg List.length q
  simpa using this
theorem AI.at {xs : List Int32} {c : Cell} {i : Nat} (q : c.slots.toList = xs.map Value.int) (hx : xs[i]? = some x) : c.slots[i]? = some (.int x) := by
  have h1 : c.slots.toList[i]? = some (.int x) := by rw [q, List.getElem?_map, hx]; rfl
  simpa using h1
theorem AI.new {a : Addr} {ty : FieldType} {cA : ClassId} {j : Int32} {N : Nat} (A : Arr Z h a (newA cA ty j) ty) (hj : j = Int32.ofNat N) (hN : N < 2 ^ 31) (hd : defaultValue ty = .int 0) (hf : fits ty (.int 0) = true) : AI Z h a ty (List.replicate N 0) := by
  refine ⟨_, A, ?_, by simpa using hN, fun x hx => ?_⟩
  · simp [newA, clamp_of hj hN, hd]
  · rw [(List.mem_replicate.mp hx).2]; exact hf
theorem AI.set {a : Addr} {ty : FieldType} {xs : List Int32} {h' : Heap} {i : Nat} {sl : Nat} (A : AI Z h a ty xs) (W : Wr h h' a sl (.int x)) (hs : sl = i) (hf : fits ty (.int x) = true) : AI Z h' a ty (xs.set i x) := by
  subst hs
  obtain ⟨c, A, q1, q2, q3⟩ := A
  refine ⟨_, A.same W, ?_, by simpa using q2, fun y hy => ?_⟩
  · simp [Cell.setSlot, q1, List.map_set]
  · rcases List.mem_or_eq_of_mem_set hy with hy | rfl
    · exact q3 y hy
    · exact hf
theorem AI.ne_exa {a b : Addr} {ty : FieldType} {xs : List Int32} {C : String} {kn : Nat} (A : AI Z h a ty xs) (E : Exa Z h b C) (wi : (Cond.instantiable C kn).before a0 Z = true) : a ≠ b := by
  obtain ⟨c, A, -⟩ := A
  exact (ne_arr E wi A).symm
theorem Arr.ne_ty {a b : Addr} {ty ty' : FieldType} {c c' : Cell} (A : Arr Z h a c ty) (B : Arr Z h b c' ty') (hn : ty ≠ ty') : a ≠ b := fun e => by
  subst e
  cases A.1.symm.trans B.1
  obtain ⟨-, k1, i1, comp1, j1⟩ := A.2.1
  obtain ⟨-, k2, i2, comp2, j2⟩ := B.2.1
  cases i1.symm.trans i2
  have := j1.symm.trans j2
  injection this with _ e
  exact hn e
theorem AI.ne_ty {a b : Addr} {ty ty' : FieldType} {xs ys : List Int32} (A : AI Z h a ty xs) (B : AI Z h b ty' ys) (hn : ty ≠ ty') : a ≠ b := by
  obtain ⟨c, A, -⟩ := A
  obtain ⟨c', B, -⟩ := B
  exact Arr.ne_ty A B hn
theorem AI.safe {a : Addr} {ty : FieldType} {xs : List Int32} (A : AI Z h a ty xs) (hn : ty ≠ .byte) : ∀ vm0 : Vm, Z.vm.Alike vm0 → Safe Z EL vm0 h a := fun vm0 hal => by
  obtain ⟨c, A, -⟩ := A
  exact Safe.arr hal A hn
theorem toInt32_ofNat (i : Nat) : i.toInt32 = Int32.ofNat i := rfl
theorem go_newarr {aty : ArrayType} {j : Int32} {N cap : Nat} (w1 : (Cond.arrayClass (newarray.typeOf aty)).before a0 Z = true) (hj : j = Int32.ofNat N) (hN : N ≤ cap) (hcap : cap * 8 ≤ 536870912) (hdv : defaultValue (newarray.typeOf aty) = .int 0) (hft : fits (newarray.typeOf aty) (.int 0) = true) (hd : Dec bytes pc (.newarray aty) 2 n)
    (kk : ∀ S' h' a, a = h.size → (∀ x, S x → S' x) → S' a → Ext h h' → a < h'.size → AI Z h' a (newarray.typeOf aty) (List.replicate N 0) → Go l Z a0 EL R own bytes ml ret nm S0 Q K kc ks S' h' (mkF K.m n ls (.ref a :: st))) : Go l Z a0 EL R own bytes ml ret nm S0 Q K (kc + 1) (ks + cap) S h (mkF K.m pc ls (.int j :: st)) := by
  obtain ⟨hd, rfl⟩ := hd
  refine Go.make (f' := fun a => mkF K.m (pc + 2) ls (.ref a :: st)) _ kk fun vm0 T locs cells slots hK X hZ hown eT hc hl => ?_
  have hN' : N < 2 ^ 31 := by omega
  obtain ⟨T', h', cA, X', e', E, A, st'⟩ := newP X hK.1 hZ w1 eT (g := mkF K.m pc ls (.int j :: st)) rfl (hb hK.2.1 hd) (n := j) rfl (by rw [Int32.lt_iff_toInt_lt, toInt_of hj hN']; simp) (cap := cap) (by rw [clamp_of hj hN']; exact hN) hcap hc hl
  exact ⟨T', h', X', e', E, A.lt, AI.new A hj hN' hdv hft, st'⟩
theorem go_alen {a : Addr} {ty : FieldType} {xs : List Int32} (A : AI Z h a ty xs) (hd : Dec bytes pc .arraylength 1 n) (hv : Int32.ofNat xs.length = v) (kk : Go l Z a0 EL R own bytes ml ret nm S0 Q K kc ks S h (mkF K.m n ls (.int v :: st))) : Go l Z a0 EL R own bytes ml ret nm S0 Q K kc ks S h (mkF K.m pc ls (.ref a :: st)) := by
  obtain ⟨hd, rfl⟩ := hd
  obtain ⟨c, A, q1, q2, q3⟩ := A
  refine Go.calm kk fun vm0 T locs cells slots hK X hZ hown eT hE => ⟨T, X, eT, fun tgt hr => ?_⟩
  refine X.arraylength hK.1 (by rw [eT]; exact A.1) (State.isArrayOf_alike hZ.alike A.2.1) (g := mkF K.m pc ls (.ref a :: st)) rfl rfl (hb hK.2.1 hd) _ ?_
  rw [AI.size A q1, toInt32_ofNat, hv]; exact hr
theorem go_caload {a : Addr} {xs : List Int32} {j : Int32} {i : Nat} (A : AI Z h a .char xs) (hj : j = Int32.ofNat i) (hx : xs[i]? = some x) (hd : Dec bytes pc .caload 1 n) (kk : Go l Z a0 EL R own bytes ml ret nm S0 Q K kc ks S h (mkF K.m n ls (.int x :: st))) : Go l Z a0 EL R own bytes ml ret nm S0 Q K kc ks S h (mkF K.m pc ls (.int j :: .ref a :: st)) := by
  obtain ⟨hd, rfl⟩ := hd
  obtain ⟨c, A, q1, q2, q3⟩ := A
  have hi := (List.getElem?_eq_some_iff.mp hx).1
  refine Go.calm kk fun vm0 T locs cells slots hK X hZ hown eT hE => ⟨T, X, eT, fun tgt hr => ?_⟩
  exact X.caload hK.1 (j := j) (v := .int x) (by rw [eT]; exact A.1) (State.isArrayOf_alike hZ.alike A.2.1) A.2.2 (by rw [AI.size A q1]; exact within hj hi q2) (by rw [clamp_of hj (by omega)]; exact AI.at q1 hx) (g := mkF K.m pc ls (.int j :: .ref a :: st)) rfl rfl (hb hK.2.1 hd) _ hr
theorem go_baload {a : Addr} {xs : List Int32} {j : Int32} {i : Nat} (A : AI Z h a .byte xs) (hj : j = Int32.ofNat i) (hx : xs[i]? = some x) (hd : Dec bytes pc .baload 1 n) (kk : Go l Z a0 EL R own bytes ml ret nm S0 Q K kc ks S h (mkF K.m n ls (.int x :: st))) : Go l Z a0 EL R own bytes ml ret nm S0 Q K kc ks S h (mkF K.m pc ls (.int j :: .ref a :: st)) := by
  obtain ⟨hd, rfl⟩ := hd
  obtain ⟨c, A, q1, q2, q3⟩ := A
  have hi := (List.getElem?_eq_some_iff.mp hx).1
  refine Go.calm kk fun vm0 T locs cells slots hK X hZ hown eT hE => ⟨T, X, eT, fun tgt hr => ?_⟩
  exact X.baloadBytes hK.1 (j := j) (v := .int x) (by rw [eT]; exact A.1) (State.isArrayOf_alike hZ.alike A.2.1) A.2.2 (by rw [AI.size A q1]; exact within hj hi q2) (by rw [clamp_of hj (by omega)]; exact AI.at q1 hx) (g := mkF K.m pc ls (.int j :: .ref a :: st)) rfl rfl (hb hK.2.1 hd) _ hr
theorem go_iaload {a : Addr} {xs : List Int32} {j : Int32} {i : Nat} (A : AI Z h a .int xs) (hj : j = Int32.ofNat i) (hx : xs[i]? = some x) (hd : Dec bytes pc .iaload 1 n) (kk : Go l Z a0 EL R own bytes ml ret nm S0 Q K kc ks S h (mkF K.m n ls (.int x :: st))) : Go l Z a0 EL R own bytes ml ret nm S0 Q K kc ks S h (mkF K.m pc ls (.int j :: .ref a :: st)) := by
  obtain ⟨hd, rfl⟩ := hd
  obtain ⟨c, A, q1, q2, q3⟩ := A
  have hi := (List.getElem?_eq_some_iff.mp hx).1
  refine Go.calm kk fun vm0 T locs cells slots hK X hZ hown eT hE => ⟨T, X, eT, fun tgt hr => ?_⟩
  exact X.iaload hK.1 (j := j) (v := .int x) (by rw [eT]; exact A.1) (State.isArrayOf_alike hZ.alike A.2.1) A.2.2 (by rw [AI.size A q1]; exact within hj hi q2) (by rw [clamp_of hj (by omega)]; exact AI.at q1 hx) (g := mkF K.m pc ls (.int j :: .ref a :: st)) rfl rfl (hb hK.2.1 hd) _ hr
theorem go_castore {a : Addr} {xs : List Int32} {j : Int32} {i : Nat} (A : AI Z h a .char xs) (ha : Z.heap.size ≤ a) (hj : j = Int32.ofNat i) (hi : i < xs.length) (hv : nar .char x = v) (hd : Dec bytes pc .castore 1 n)
    (kk : ∀ h', Keep h h' [a] → AI Z h' a .char (xs.set i v) → Go l Z a0 EL R own bytes ml ret nm S0 Q K kc ks S h' (mkF K.m n ls st)) : Go l Z a0 EL R own bytes ml ret nm S0 Q K kc ks S h (mkF K.m pc ls (.int x :: .int j :: .ref a :: st)) := by
  obtain ⟨hd, rfl⟩ := hd
  subst hv
  have A' := A
  obtain ⟨c, A, q1, q2, q3⟩ := A
  refine Go.write (sl := j.toNatClampNeg) (w := .int (nar .char x)) ha (Or.inr (AI.safe A' (by decide))) (fun h' W KW => kk h' KW (A'.set W (clamp_of hj (by omega)) (fits_nar_char x))) fun vm0 T locs cells slots hK X hZ hown eT => ?_
  exact stC X hK.1 hZ eT A (by rw [AI.size A q1]; exact within hj hi q2) (g := mkF K.m pc ls (.int x :: .int j :: .ref a :: st)) rfl rfl (hb hK.2.1 hd)
theorem fits_nar_b (x : Int32) : fits .byte (.int (nar .byte x)) = true := fits_nar_byte x
theorem go_bastore {a : Addr} {xs : List Int32} {j : Int32} {i : Nat} (A : AI Z h a .byte xs) (ha : Z.heap.size ≤ a) (hsa : S a) (hj : j = Int32.ofNat i) (hi : i < xs.length) (hv : nar .byte x = v) (hd : Dec bytes pc .bastore 1 n)
    (kk : ∀ h', Keep h h' [a] → AI Z h' a .byte (xs.set i v) → Go l Z a0 EL R own bytes ml ret nm S0 Q K kc ks S h' (mkF K.m n ls st)) : Go l Z a0 EL R own bytes ml ret nm S0 Q K kc ks S h (mkF K.m pc ls (.int x :: .int j :: .ref a :: st)) := by
  obtain ⟨hd, rfl⟩ := hd
  subst hv
  have A' := A
  obtain ⟨c, A, q1, q2, q3⟩ := A
  refine Go.write (sl := j.toNatClampNeg) (w := .int (nar .byte x)) ha (Or.inl hsa) (fun h' W KW => kk h' KW (A'.set W (clamp_of hj (by omega)) (fits_nar_b x))) fun vm0 T locs cells slots hK X hZ hown eT => ?_
  exact stB X hK.1 hZ eT A (by rw [AI.size A q1]; exact within hj hi q2) (g := mkF K.m pc ls (.int x :: .int j :: .ref a :: st)) rfl rfl (hb hK.2.1 hd)
theorem go_iastore {a : Addr} {xs : List Int32} {j : Int32} {i : Nat} (A : AI Z h a .int xs) (ha : Z.heap.size ≤ a) (hj : j = Int32.ofNat i) (hi : i < xs.length) (hd : Dec bytes pc .iastore 1 n)
    (kk : ∀ h', Keep h h' [a] → AI Z h' a .int (xs.set i x) → Go l Z a0 EL R own bytes ml ret nm S0 Q K kc ks S h' (mkF K.m n ls st)) : Go l Z a0 EL R own bytes ml ret nm S0 Q K kc ks S h (mkF K.m pc ls (.int x :: .int j :: .ref a :: st)) := by
  obtain ⟨hd, rfl⟩ := hd
  have A' := A
  obtain ⟨c, A, q1, q2, q3⟩ := A
  refine Go.write (sl := j.toNatClampNeg) (w := .int x) ha (Or.inr (AI.safe A' (by decide))) (fun h' W KW => kk h' KW (A'.set W (clamp_of hj (by omega)) rfl)) fun vm0 T locs cells slots hK X hZ hown eT => ?_
  exact stI X hK.1 hZ eT A (by rw [AI.size A q1]; exact within hj hi q2) (g := mkF K.m pc ls (.int x :: .int j :: .ref a :: st)) rfl rfl (hb hK.2.1 hd)
theorem go_putf {R0 O fn d C : String} {idx kn : Nat} {ty : FieldType} {a : Addr} {old u' : Value} (w1 : (Cond.fieldLink own idx R0 fn d).before a0 Z = true) (via : Via Z R0 O fn d) (F : Fld Z h a O fn d old) (E : Exa Z h a C) (L : (Cond.lays C O fn d).before a0 Z = true ∨ ((Cond.laysFinal C O fn d).before a0 Z = true ∧ own = O ∧ nm = "<init>")) (wi : (Cond.instantiable C kn).before a0 Z = true)
    (hty : parseFieldDescriptor d = some ty) (hn : narrow ty u = u') (hf : fits ty u' = true) (ha : Z.heap.size ≤ a) (hsafe : S a ∨ (C ≠ "java/lang/String" ∧ C ≠ "[B")) (hd : Dec bytes pc (.putfield idx) 3 n)
    (kk : ∀ h', Wr h h' a (RoadKit.slotOf Z O fn d) u' → Keep h h' [a] → Exa Z h' a C → Fld Z h' a O fn d u' → Go l Z a0 EL R own bytes ml ret nm S0 Q K kc ks S h' (mkF K.m n ls st)) : Go l Z a0 EL R own bytes ml ret nm S0 Q K kc ks S h (mkF K.m pc ls (u :: .ref a :: st)) := by
  obtain ⟨hd, rfl⟩ := hd
  refine Go.write (sl := RoadKit.slotOf Z O fn d) (w := u') ha (hsafe.imp id fun q vm0 hal => Safe.exa hal E q.1 q.2) (fun h' W KW => kk h' W KW (E.wr W) (F.same W)) fun vm0 T locs cells slots hK X hZ hown eT => ?_
  exact putFN X hK.1 hZ hown w1 via eT F E (L.imp id fun q => ⟨q.1, q.2.1, hK.2.2.2.2.1.trans q.2.2⟩) wi hty hn hf (g := mkF K.m pc ls (u :: .ref a :: st)) rfl rfl (hb hK.2.1 hd)
theorem go_ldcI {idx : Nat} (w1 : (Cond.constant own idx v).before a0 Z = true) (hd : Dec bytes pc (.ldc idx) 2 n) (kk : Go l Z a0 EL R own bytes ml ret nm S0 Q K kc ks S h (mkF K.m n ls (.int v :: st))) : Go l Z a0 EL R own bytes ml ret nm S0 Q K kc ks S h (mkF K.m pc ls st) := by
  obtain ⟨hd, rfl⟩ := hd
  refine Go.calm kk fun vm0 T locs cells slots hK X hZ hown eT hE => ⟨T, X, eT, fun tgt hr => ?_⟩
  exact X.ldcInt hK.1 hown (mvT hZ w1) (g := mkF K.m pc ls st) rfl (hb hK.2.1 hd) _ hr
/-- a call: whatever brings the invocation back to a point at which it stands again -/
theorem Go.call {rc rs : Nat} {f1 : Option Value → JFrame} {QY : (Addr → Prop) → Option Value → Heap → Prop}
    (kk : ∀ S' v h', (∀ x, S x → S' x) → h.size ≤ h'.size → QY S' v h' → Go l Z a0 EL R own bytes ml ret nm S0 Q K kc ks S' h' (f1 v))
    (H : ∀ vm0 T locs cells slots, Kok Z a0 EL bytes ml ret nm K → Stand K.p l K.e R (K.s.setVm vm0) K.m K.args K.below K.meth K.c T locs cells slots → Z.Warmed39 (K.s.setVm vm0).vm → (K.s.setVm vm0).vm.findClass own = some K.m.cls → T.heap = h → CHv Z EL vm0 h → Sf Z EL vm0 h S → Ext Z.heap h → cells + rc ≤ R.cells → slots + rs ≤ R.slots →
      ∃ (v : Option Value) (B : Pt), Stand K.p l K.e R ((K.s.setVm vm0).setVm B.U.vm) K.m K.args K.below K.meth K.c B.U B.locs B.cells B.slots ∧ (K.s.setVm vm0).Since B.U.vm B.U.heap.size ∧ h.size ≤ B.U.heap.size ∧
        (∃ L, ((∃ S', (∀ x, S x → S' x) ∧ Sf Z EL B.U.vm B.U.heap S' ∧ Ext Z.heap B.U.heap ∧ QY S' v B.U.heap) ∧ Fr Z.heap.size L) ∧ B.locs = locs ++ L ∧ B.cells = cells + rc ∧ B.slots = slots + rs ∧ CHr Z EL vm0 h B.U.vm B.U.heap) ∧
        Steps K.p.tables K.e K.below (T.setTop f) (B.U.setTop (f1 v))) : Go l Z a0 EL R own bytes ml ret nm S0 Q K (kc + rc) (ks + rs) S h f := by
  intro hK T hT
  obtain ⟨vm0, k0, locs, cells, slots, X, e1, e2, e3, e4, e5, e6, e7, e8, e9, e10, e11, e12⟩ := hT
  obtain ⟨v, ⟨T2, L2, k2, n2⟩, X2, hSi, hgr, ⟨Lc, ⟨⟨S', m', sf', ex', q⟩, fr⟩, l2, y2, z2, ch⟩, st2⟩ := H vm0 T locs cells slots hK X e4 e5 e1 e6.1 e10 e11 (by omega) (by omega)
  dsimp only [Pt.U, Pt.locs, Pt.cells, Pt.slots] at *
  subst l2 y2 z2
  obtain ⟨t, o, hs, r⟩ := kk S' v T2.heap m' hgr q hK T2 ⟨T2.vm, T2.heap.size, _, _, _, X2, rfl, e2.trans hSi (Nat.le_trans e3 hgr), Nat.le_refl _, State.Warmed39.trans (t := K.s.setVm vm0) e4 hSi.1, (hSi.1.alike.findClass _ _).trans e5, e6.trans ch, Fr.app e7 fr, by omega, by omega, sf', ex', fun x q => m' x (e12 x q)⟩
  exact ⟨t, o, st2.trans hs, r⟩
theorem go_special {y : MethodName} {bY : ByteArray} {mY : Nat} {rm : Room} {as' : Array Value} {QY : (Addr → Prop) → Option Value → Heap → Prop} {idx : Nat} {a : Addr} (argsL rest : List Value) (C : Con l Z EL [] y bY mY none rm as' S h QY)
    (w1 : (Cond.methodLink own idx y).before a0 Z = true) (w2 : (Cond.instanceMethod y).before a0 Z = true) (w3 : (Cond.code y bY mY none).before a0 Z = true) (w4 : (Cond.initialized y.cls).before a0 Z = true) (hy : y.name = "<init>") (hy2 : y.cls ≠ "java/lang/invoke/MethodHandle" ∧ y.cls ≠ "java/lang/invoke/VarHandle")
    (has : as' = (.ref a :: argsL).toArray) (hs : st = argsL.reverse ++ .ref a :: rest) (hlen : ∀ sig, parseMethodDescriptor y.desc = some sig → argsL.length = sig.parameters.length) (hd : Dec bytes pc (.invokespecial idx) 3 n) (hsz : ls.size = ml) (hf : rm.frames + 1 ≤ R.frames) (hW : (rest.map fun v => v.category).sum + (mY + 11) + rm.locals ≤ R.locals)
    {rc rs : Nat} (hrc : rm.cells = rc) (hrs : rm.slots = rs) (kk : ∀ S' v h', (∀ x, S x → S' x) → h.size ≤ h'.size → QY S' v h' → Go l Z a0 EL R own bytes ml ret nm S0 Q K kc ks S' h' (mkF K.m n ls (v.toList ++ rest))) : Go l Z a0 EL R own bytes ml ret nm S0 Q K (kc + rc) (ks + rs) S h (mkF K.m pc ls st) := by
  subst hrc hrs
  obtain ⟨hd, rfl⟩ := hd
  refine Go.call (f1 := fun v => mkF K.m (pc + 3) ls (v.toList ++ rest)) kk fun vm0 T locs cells slots hK X hZ hown eT hC hSf hE hc hl => ?_
  obtain ⟨v, vm₁, B, hwm, X', hSi, hgr, ⟨L, hp⟩, st'⟩ := X.specialBackS hK.1 (y := y) hy hown (mvT hZ w1) (mvT hZ w2) (mvT hZ w3) hy2 (backG (W := (rest.map fun v => v.category).sum) C hZ w3 w4 hf hW hK.2.2.2.2.2.2 hC hSf hE) (g := mkF K.m pc ls st) rfl (hsz.trans hK.2.2.1.symm) (Steps.refl _) (a := a) (argsL := argsL) (rest := rest) hlen hs (by show 2 * 0 + _ ≤ _; simp) (hb hK.2.1 hd) (fun _ _ => ⟨has.symm, eT, hc, hl⟩)
  exact ⟨v, B, X', hSi, by rw [← eT]; exact hgr, ⟨L, hp⟩, st'⟩
theorem go_static {y : MethodName} {bY : ByteArray} {mY : Nat} {rY : Option FieldType} {rm : Room} {as' : Array Value} {QY : (Addr → Prop) → Option Value → Heap → Prop} {idx : Nat} (argsL rest : List Value) (C : Con l Z EL [] y bY mY rY rm as' S h QY)
    (w1 : (Cond.methodLink own idx y).before a0 Z = true) (w2 : (Cond.static y).before a0 Z = true) (w3 : (Cond.code y bY mY rY).before a0 Z = true) (w4 : (Cond.initialized y.cls).before a0 Z = true) (hy2 : y.cls ≠ "java/lang/invoke/MethodHandle" ∧ y.cls ≠ "java/lang/invoke/VarHandle")
    (has : as' = argsL.toArray) (hs : st = argsL.reverse ++ rest) (hlen : ∀ sig, parseMethodDescriptor y.desc = some sig → argsL.length = sig.parameters.length) (hd : Dec bytes pc (.invokestatic idx) 3 n) (hsz : ls.size = ml) (hf : rm.frames + 1 ≤ R.frames) (hW : (rest.map fun v => v.category).sum + (mY + 11) + rm.locals ≤ R.locals)
    {rc rs : Nat} (hrc : rm.cells = rc) (hrs : rm.slots = rs) (kk : ∀ S' v h', (∀ x, S x → S' x) → h.size ≤ h'.size → QY S' v h' → Go l Z a0 EL R own bytes ml ret nm S0 Q K kc ks S' h' (mkF K.m n ls (v.toList ++ rest))) : Go l Z a0 EL R own bytes ml ret nm S0 Q K (kc + rc) (ks + rs) S h (mkF K.m pc ls st) := by
  subst hrc hrs
  obtain ⟨hd, rfl⟩ := hd
  refine Go.call (f1 := fun v => mkF K.m (pc + 3) ls (v.toList ++ rest)) kk fun vm0 T locs cells slots hK X hZ hown eT hC hSf hE hc hl => ?_
  obtain ⟨v, vm₁, B, hwm, X', hSi, hgr, ⟨L, hp⟩, st'⟩ := callSS X hK.1 (y := y) hown (mvT hZ w1) (mvT hZ w2) (mvT hZ w4) (mvT hZ w3) hy2 (backG (W := (rest.map fun v => v.category).sum) C hZ w3 w4 hf hW hK.2.2.2.2.2.2 hC hSf hE) (g := mkF K.m pc ls st) rfl (hsz.trans hK.2.2.1.symm) (argsL := argsL) (rest := rest) hlen hs (by show 2 * 0 + _ ≤ _; simp) (hb hK.2.1 hd) (fun _ _ => ⟨has.symm, eT, hc, hl⟩)
  exact ⟨v, B, X', hSi, by rw [← eT]; exact hgr, ⟨L, hp⟩, st'⟩
theorem go_virtual {y z : MethodName} {D : String} {bY : ByteArray} {mY : Nat} {rY : Option FieldType} {rm : Room} {as' : Array Value} {QY : (Addr → Prop) → Option Value → Heap → Prop} {idx : Nat} {a : Addr} (argsL rest : List Value) (C : Con l Z EL [] z bY mY rY rm as' S h QY) (E : Exa Z h a D)
    (w1 : (Cond.methodLink own idx y).before a0 Z = true) (w2 : (Cond.declares y).before a0 Z = true) (w5 : (Cond.selects D y z).before a0 Z = true) (w6 : (Cond.instanceMethod z).before a0 Z = true) (wnf : ∀ s : State, Z.Warmed39 s.vm → NotFace s y) (w3 : (Cond.code z bY mY rY).before a0 Z = true) (w4 : (Cond.initialized z.cls).before a0 Z = true) (hy2 : y.cls ≠ "java/lang/invoke/MethodHandle" ∧ y.cls ≠ "java/lang/invoke/VarHandle")
    (has : as' = (.ref a :: argsL).toArray) (hs : st = argsL.reverse ++ .ref a :: rest) (hlen : ∀ sig, parseMethodDescriptor y.desc = some sig → argsL.length = sig.parameters.length) (hd : Dec bytes pc (.invokevirtual idx) 3 n) (hsz : ls.size = ml) (hf : rm.frames + 1 ≤ R.frames) (hW : (rest.map fun v => v.category).sum + (mY + 11) + rm.locals ≤ R.locals)
    {rc rs : Nat} (hrc : rm.cells = rc) (hrs : rm.slots = rs) (kk : ∀ S' v h', (∀ x, S x → S' x) → h.size ≤ h'.size → QY S' v h' → Go l Z a0 EL R own bytes ml ret nm S0 Q K kc ks S' h' (mkF K.m n ls (v.toList ++ rest))) : Go l Z a0 EL R own bytes ml ret nm S0 Q K (kc + rc) (ks + rs) S h (mkF K.m pc ls st) := by
  subst hrc hrs
  obtain ⟨hd, rfl⟩ := hd
  refine Go.call (f1 := fun v => mkF K.m (pc + 3) ls (v.toList ++ rest)) kk fun vm0 T locs cells slots hK X hZ hown eT hC hSf hE hc hl => ?_
  obtain ⟨cq, kq, qa, qb, qc⟩ := isOf hZ eT E
  obtain ⟨v, vm₁, B, hwm, X', hSi, hgr, ⟨L, hp⟩, st'⟩ := X.virtualBackS hK.1 (y := y) (z := z) hown (mvT hZ w1) (mvT hZ w2) (wnf _ hZ) (mvT hZ w5) (mvT hZ w6) hy2 (backG (W := (rest.map fun v => v.category).sum) C hZ w3 w4 hf hW hK.2.2.2.2.2.2 hC hSf hE) qa qc (g := mkF K.m pc ls st) rfl (hsz.trans hK.2.2.1.symm) (Steps.refl _) (argsL := argsL) (rest := rest) hlen hs (by show 2 * 0 + _ ≤ _; simp) (hb hK.2.1 hd) (fun _ _ => ⟨has.symm, eT, hc, hl⟩)
  exact ⟨v, B, X', hSi, by rw [← eT]; exact hgr, ⟨L, hp⟩, st'⟩
theorem nfSel {D : String} {y : MethodName} (w : (Cond.selects D y y).before a0 Z = true) : ∀ s : State, Z.Warmed39 s.vm → NotFace s y := fun s hZ => notFace_of_selects (args := #[]) (mvT hZ w)
theorem go_iface {xi z : MethodName} {D : String} {bY : ByteArray} {mY count : Nat} {rY : Option FieldType} {rm : Room} {as' : Array Value} {QY : (Addr → Prop) → Option Value → Heap → Prop} {idx : Nat} {a : Addr} (argsL rest : List Value) (C : Con l Z EL [] z bY mY rY rm as' S h QY) (E : Exa Z h a D)
    (w1 : (Cond.methodLink own idx xi).before a0 Z = true) (w2 : (Cond.declares xi).before a0 Z = true) (w7 : (Cond.interfaceMethod xi.cls xi.cls xi.name xi.desc).before a0 Z = true) (w5 : (Cond.selects D xi z).before a0 Z = true) (w6 : (Cond.instanceMethod z).before a0 Z = true) (w8 : (Cond.publicMethod z).before a0 Z = true) (w9 : (Cond.unhidden D xi.name xi.desc).before a0 Z = true) (w10 : (Cond.castable D xi.cls).before a0 Z = true)
    (hmv : ∀ s : State, ∀ args : Array Value, Z.Warmed39 s.vm → (Cond.interfaceMethod xi.cls xi.cls xi.name xi.desc).before args s = true ∧ (Cond.publicMethod z).before args s = true ∧ (Cond.unhidden D xi.name xi.desc).before args s = true ∧ (Cond.castable D xi.cls).before args s = true)
    (w3 : (Cond.code z bY mY rY).before a0 Z = true) (w4 : (Cond.initialized z.cls).before a0 Z = true) (hy2 : xi.cls ≠ "java/lang/invoke/MethodHandle" ∧ xi.cls ≠ "java/lang/invoke/VarHandle")
    (has : as' = (.ref a :: argsL).toArray) (hs : st = argsL.reverse ++ .ref a :: rest) (hlen : ∀ sig, parseMethodDescriptor xi.desc = some sig → argsL.length = sig.parameters.length) (hd : Dec bytes pc (.invokeinterface idx count) 5 n) (hsz : ls.size = ml) (hf : rm.frames + 1 ≤ R.frames) (hW : (rest.map fun v => v.category).sum + (mY + 11) + rm.locals ≤ R.locals)
    {rc rs : Nat} (hrc : rm.cells = rc) (hrs : rm.slots = rs) (kk : ∀ S' v h', (∀ x, S x → S' x) → h.size ≤ h'.size → QY S' v h' → Go l Z a0 EL R own bytes ml ret nm S0 Q K kc ks S' h' (mkF K.m n ls (v.toList ++ rest))) : Go l Z a0 EL R own bytes ml ret nm S0 Q K (kc + rc) (ks + rs) S h (mkF K.m pc ls st) := by
  subst hrc hrs
  obtain ⟨hd, rfl⟩ := hd
  refine Go.call (f1 := fun v => mkF K.m (pc + 5) ls (v.toList ++ rest)) kk fun vm0 T locs cells slots hK X hZ hown eT hC hSf hE hc hl => ?_
  obtain ⟨cq, kq, qa, qb, qc⟩ := isOf hZ eT E
  obtain ⟨m1, m2, m3, m4⟩ := hmv (K.s.setVm vm0) K.args hZ
  obtain ⟨v, vm₁, B, hwm, X', hSi, hgr, ⟨L, hp⟩, st'⟩ := X.interfaceBackS hK.1 (xi := xi) (y := z) hown (mvT hZ w1) (mvT hZ w2) m1 (mvT hZ w5) (mvT hZ w6) m2 m3 m4 hy2 (backG (W := (rest.map fun v => v.category).sum) C hZ w3 w4 hf hW hK.2.2.2.2.2.2 hC hSf hE) qa qb qc (g := mkF K.m pc ls st) rfl (hsz.trans hK.2.2.1.symm) (Steps.refl _) (argsL := argsL) (rest := rest) hlen hs (by show 2 * 0 + _ ≤ _; simp) (hb hK.2.1 hd) (fun _ _ => ⟨has.symm, eT, hc, hl⟩)
  exact ⟨v, B, X', hSi, by rw [← eT]; exact hgr, ⟨L, hp⟩, st'⟩
/-- ldc of a String constant of EL: a String of these bytes; two cells and 4 slots (and four a sign) may be made -/
theorem go_ldcS {text : String} {idx na nb : Nat} {xs : List Int32} (hnb : na + 4 = nb) (w1 : (Cond.stringLink own idx text).before a0 Z = true) (wS : ∀ a ∈ Bundle.stringAtoms, a.before a0 Z = true) (hmem : (own, idx) ∈ EL) (ht : (∀ c ∈ text.toList, c.toNat < 256) ∧ text.toList.map (fun c => Jvm.Lit.byteI c.toNat.toUInt16) = xs) (hna : 4 * text.toList.length ≤ na) (hbig : na ≤ 536870912) (hd : Dec bytes pc (.ldc idx) 2 n)
    (kk : ∀ S' h' a b, (∀ x, S x → S' x ∧ x ≠ a ∧ x ≠ b) → Ext h h' → a < h'.size → b < h'.size → Exa Z h' a "java/lang/String" → Fld Z h' a "java/lang/String" "coder" "B" (.int 0) → Fld Z h' a "java/lang/String" "value" "[B" (.ref b) → AI Z h' b .byte xs → Go l Z a0 EL R own bytes ml ret nm S0 Q K kc ks S' h' (mkF K.m n ls (.ref a :: st))) : Go l Z a0 EL R own bytes ml ret nm S0 Q K (kc + 2) (ks + nb) S h (mkF K.m pc ls st) := by
  subst hnb
  obtain ⟨hd, rfl⟩ := hd
  intro hK T hT
  obtain ⟨vm0, k0, locs, cells, slots, X, e1, e2, e3, e4, e5, e6, e7, e8, e9, e10, e11, e12⟩ := hT
  have hlen : xs.length = text.toList.length := by rw [← ht.2]; simp
  have hlt : xs.length < 2 ^ 31 := by omega
  obtain ⟨a, T', h', k1, b, k, X', e', E, hS', hk', hW', hown', Ea, Fc, Fv, Av, la, lb, ch, -, ne, st'⟩ := ldcCH X hK.1 e4 e5 w1 wS e1 e2 e3 hK.2.2.2.2.2.2 hmem e6.1 (vs := xs.map Value.int) (z := Int32.ofNat xs.length) ⟨ht.1, by rw [← ht.2]; simp⟩ (by rw [Int32.lt_iff_toInt_lt, toInt_of rfl hlt]; simp) (by rw [clamp_of rfl hlt]; simp) (g := mkF K.m pc ls st) rfl (hb hK.2.1 hd) hna hbig (by omega) (by omega)
  have hC := e6.trans ch
  have sf := e10.step ch
  have hAI : AI Z h' b .byte xs := by
    obtain ⟨c, A, -, r2, -, H, G⟩ := Av
    rw [clamp_of rfl hlt] at r2
    have hsz : c.slots.toList.length = xs.length := by simpa using r2
    refine ⟨c, A, ?_, hlt, fun x hx => ?_⟩
    · apply List.ext_getElem?
      intro i
      by_cases hi : i < xs.length
      · have q := H i (by omega)
        rw [List.getD_eq_getElem?_getD, List.getElem?_map, List.getElem?_eq_getElem hi] at q
        rw [List.getElem?_map, List.getElem?_eq_getElem hi]
        simpa using q
      · rw [List.getElem?_eq_none (by omega), List.getElem?_eq_none (by simp; omega)]
    · obtain ⟨i, hi, rfl⟩ := List.getElem_of_mem hx
      have q := G i (by omega)
      rw [List.getD_eq_getElem?_getD, List.getElem?_map, List.getElem?_eq_getElem hi] at q
      simpa using q
  obtain ⟨t, o, hs, r⟩ := kk S h' a b (fun x q => ⟨q, (ne x (sf x q).1).1, (ne x (sf x q).1).2⟩) E la lb Ea Fc Fv hAI hK T' ⟨T'.vm, k1, locs, _, _, X', e', hS', hk', hW', hown', hC, e7, by omega, by omega, sf, ext_trans e11 E, e12⟩
  exact ⟨t, o, st' _ hs, r⟩
/-- ldc of any String constant: some String -/
theorem go_ldcO {text : String} {idx na nb : Nat} (hnb : na + 4 = nb) (w1 : (Cond.stringLink own idx text).before a0 Z = true) (wS : ∀ a ∈ Bundle.stringAtoms, a.before a0 Z = true) (hna : 4 * text.toList.length ≤ na) (hbig : na ≤ 536870912) (hd : Dec bytes pc (.ldc idx) 2 n)
    (kk : ∀ h' a, Ext h h' → Go l Z a0 EL R own bytes ml ret nm S0 Q K kc ks S h' (mkF K.m n ls (.ref a :: st))) : Go l Z a0 EL R own bytes ml ret nm S0 Q K (kc + 2) (ks + nb) S h (mkF K.m pc ls st) := by
  subst hnb
  obtain ⟨hd, rfl⟩ := hd
  intro hK T hT
  obtain ⟨vm0, k0, locs, cells, slots, X, e1, e2, e3, e4, e5, e6, e7, e8, e9, e10, e11, e12⟩ := hT
  obtain ⟨a, T', h', k1, X', e', E, hS', hk', hW', hown', ch, -, st'⟩ := ldcOH X hK.1 e4 e5 w1 wS e1 e2 e3 hK.2.2.2.2.2.2 e6.1 (g := mkF K.m pc ls st) rfl (hb hK.2.1 hd) hna hbig (by omega) (by omega)
  obtain ⟨t, o, hs, r⟩ := kk h' a E hK T' ⟨T'.vm, k1, locs, _, _, X', e', hS', hk', hW', hown', e6.trans ch, e7, by omega, by omega, e10.step ch, ext_trans e11 E, e12⟩
  exact ⟨t, o, st' _ hs, r⟩
theorem Go.weak {kc' ks' : Nat} (k : Go l Z a0 EL R own bytes ml ret nm S0 Q K kc ks S h f) (h1 : kc ≤ kc') (h2 : ks ≤ ks') : Go l Z a0 EL R own bytes ml ret nm S0 Q K kc' ks' S h f := by
  intro hK T hT
  obtain ⟨vm0, k0, locs, cells, slots, X, e1, e2, e3, e4, e5, e6, e7, e8, e9, e10, e11, e12⟩ := hT
  exact k hK T ⟨vm0, k0, locs, cells, slots, X, e1, e2, e3, e4, e5, e6, e7, by omega, by omega, e10, e11, e12⟩
theorem AI.arv {a : Addr} {ty : FieldType} {xs : List Int32} (A : AI Z h a ty xs) : ∃ k, Arv Z h a k ty (Int32.ofNat xs.length) (xs.map Value.int) (.int 0) := by
  obtain ⟨c, A, q1, q2, q3⟩ := A
  have hs := AI.size A q1
  have ge : ∀ i, i < c.slots.size → ∃ x, xs[i]? = some x ∧ (xs.map Value.int).getD i (.int 0) = .int x := fun i hi => by
    refine ⟨_, List.getElem?_eq_getElem (by omega), ?_⟩
    rw [List.getD_eq_getElem?_getD, List.getElem?_map, List.getElem?_eq_getElem (by omega)]; rfl
  refine ⟨c.cls, c, A, rfl, by rw [clamp_of rfl q2]; exact hs, by rw [Int32.lt_iff_toInt_lt, toInt_of rfl q2]; simp, fun i hi => ?_, fun i hi => ?_⟩
  · obtain ⟨x, e1, e2⟩ := ge i hi
    rw [e2]; exact AI.at q1 e1
  · obtain ⟨x, e1, e2⟩ := ge i hi
    rw [e2]; exact q3 x (List.mem_of_getElem? e1)
theorem AI.of_arv {a : Addr} {ty : FieldType} {xs : List Int32} {k : ClassId} {dv : Value} {N : Nat} (V : Arv Z h a k ty (Int32.ofNat N) (xs.map Value.int) dv) (hN : xs.length = N) (hlt : N < 2 ^ 31) : AI Z h a ty xs := by
  subst hN
  obtain ⟨c, A, -, r2, -, H, G⟩ := V
  rw [clamp_of rfl hlt] at r2
  have hsz : c.slots.toList.length = xs.length := by simpa using r2
  refine ⟨c, A, ?_, hlt, fun x hx => ?_⟩
  · apply List.ext_getElem?
    intro i
    by_cases hi : i < xs.length
    · have q := H i (by omega)
      rw [List.getD_eq_getElem?_getD, List.getElem?_map, List.getElem?_eq_getElem hi] at q
      rw [List.getElem?_map, List.getElem?_eq_getElem hi]
      simpa using q
    · rw [List.getElem?_eq_none (by omega), List.getElem?_eq_none (by simp; omega)]
  · obtain ⟨i, hi, rfl⟩ := List.getElem_of_mem hx
    have q := G i (by omega)
    rw [List.getD_eq_getElem?_getD, List.getElem?_map, List.getElem?_eq_getElem hi] at q
    simpa using q
theorem range_take {xs : List Int32} {sp m : Nat} (hm : sp + m ≤ xs.length) : ((List.range m).map fun i => (xs.map Value.int).getD (sp + i) (.int 0)) = ((xs.drop sp).take m).map Value.int := by
  apply List.ext_getElem?
  intro i
  by_cases hi : i < m
  · rw [List.getElem?_map, List.getElem?_range hi, List.getElem?_map, List.getElem?_take_of_lt hi, List.getElem?_drop, List.getElem?_eq_getElem (by omega)]
    simp [List.getD_eq_getElem?_getD, List.getElem?_eq_getElem (show sp + i < xs.length by omega)]
  · rw [List.getElem?_eq_none (by simp; omega), List.getElem?_eq_none (by simp; omega)]
theorem nfw : nativeFrameWords "java/lang/System" "arraycopy" 5 + 11 = 18 := by decide +kernel
/-- System.arraycopy of ints, bytes, chars, the two arrays of one kind -/
theorem go_acopy {a b : Addr} {ty : FieldType} {xs ys : List Int32} {i1 i2 i3 : Int32} {sp dp m idx : Nat} (A : AI Z h a ty xs) (B : AI Z h b ty ys) (hty : refKind ty = false) (e1 : i1 = Int32.ofNat sp) (e2 : i2 = Int32.ofNat dp) (e3 : i3 = Int32.ofNat m) (h4 : sp + m ≤ xs.length) (h5 : dp + m ≤ ys.length) (hb : Z.heap.size ≤ b) (hsafe : S b ∨ ty ≠ .byte)
    (w1 : (Cond.methodLink own idx Jvm.Stand.acN).before a0 Z = true) (w2 : (Cond.native Jvm.Stand.acN).before a0 Z = true) (w3 : (Cond.static Jvm.Stand.acN).before a0 Z = true) (w4 : (Cond.initialized "java/lang/System").before a0 Z = true) (hd : Dec bytes pc (.invokestatic idx) 3 n) (hsz : ls.size = ml) (hf : 1 ≤ R.frames) (hW : (st.map fun v => v.category).sum + 18 ≤ R.locals)
    (kk : ∀ h', Keep h h' [b] → AI Z h' b ty (ys.take dp ++ (xs.drop sp).take m ++ ys.drop (dp + m)) → Go l Z a0 EL R own bytes ml ret nm S0 Q K kc ks S h' (mkF K.m n ls st)) : Go l Z a0 EL R own bytes ml ret nm S0 Q K kc ks S h (mkF K.m pc ls (.int i3 :: .int i2 :: .ref b :: .int i1 :: .ref a :: st)) := by
  obtain ⟨hd, rfl⟩ := hd
  intro hK T hT
  obtain ⟨vm0, k0, locs, cells, slots, X, q1, q2, q3, q4, q5, q6, q7, q8, q9, q10, q11, q12⟩ := hT
  have lx : xs.length < 2 ^ 31 := by obtain ⟨c, -, -, q, -⟩ := A; exact q
  have ly : ys.length < 2 ^ 31 := by obtain ⟨c, -, -, q, -⟩ := B; exact q
  have hsf : Safe Z EL vm0 h b := by
    rcases hsafe with q | q
    · exact (q10 b q).1
    · exact AI.safe B q vm0 q4.alike
  obtain ⟨kA, VA⟩ := A.arv
  obtain ⟨kB, VB⟩ := B.arv
  have c1 := clamp_of e1 (by omega)
  have c2 := clamp_of e2 (by omega)
  have c3 := clamp_of e3 (by omega)
  have cx := clamp_of (n := Int32.ofNat xs.length) rfl lx
  have cy := clamp_of (n := Int32.ofNat ys.length) rfl ly
  obtain ⟨T', h', L, X', e', fr, KW, V', st'⟩ := cpA X hK.1 q4 q5 w1 w2 w3 w4 q1 VA VB (Or.inl ⟨rfl, hty⟩) (by rw [Int32.lt_iff_toInt_lt, toInt_of e1 (by omega)]; simp) (by rw [Int32.lt_iff_toInt_lt, toInt_of e2 (by omega)]; simp) (by rw [Int32.lt_iff_toInt_lt, toInt_of e3 (by omega)]; simp) (by rw [c1, c3, cx]; exact h4) (by rw [c2, c3, cy]; exact h5) (us := ((xs.drop sp).take m).map Value.int) (by rw [c1, c3]; exact (range_take h4).symm) (by rw [c2, c3]; simpa using h5) q7 hb (g := mkF K.m pc ls (.int i3 :: .int i2 :: .ref b :: .int i1 :: .ref a :: st)) rfl (hsz.trans hK.2.2.1.symm) rfl (Jvm.hb hK.2.1 hd) hf (W := (st.map fun v => v.category).sum) (by show 2 * 0 + _ ≤ _; simp) (by rw [nfw]; exact hW)
  rw [c2, c3] at V'
  have hl : (ys.take dp ++ (xs.drop sp).take m ++ ys.drop (dp + m)).length = ys.length := by simp; omega
  have V2 : Arv Z h' b kB ty (Int32.ofNat ys.length) ((ys.take dp ++ (xs.drop sp).take m ++ ys.drop (dp + m)).map Value.int) (.int 0) := by simpa [List.map_append, List.map_take, List.map_drop] using V'
  have hC := CHr.keep KW (allS hsf all0) q6.1
  have hE : Ext Z.heap h' := (Old.keep (Z := Z) (n0 := Z.heap.size) ⟨rfl, q11⟩ KW (allS hb all0)).2
  obtain ⟨t, o, hs, r⟩ := kk h' KW (AI.of_arv V2 hl ly) hK T' ⟨vm0, k0, L, cells, slots, X', e', q2, Nat.le_trans q3 KW.1, q4, q5, q6.trans hC, fr, q8, q9, q10.step hC, hE, q12⟩
  exact ⟨t, o, st' _ hs, r⟩
theorem go_newarrE {aty : ArrayType} {j : Int32} {N cap : Nat} {ad : String} (w1 : (Cond.arrayClass (newarray.typeOf aty)).before a0 Z = true) (had : "[" ++ (newarray.typeOf aty).toString = ad) (hj : j = Int32.ofNat N) (hN : N ≤ cap) (hcap : cap * 8 ≤ 536870912) (hdv : defaultValue (newarray.typeOf aty) = .int 0) (hft : fits (newarray.typeOf aty) (.int 0) = true) (hd : Dec bytes pc (.newarray aty) 2 n)
    (kk : ∀ S' h' a, a = h.size → (∀ x, S x → S' x) → S' a → Ext h h' → a < h'.size → (AI Z h' a (newarray.typeOf aty) (List.replicate N 0) ∧ Exa Z h' a ad) → Go l Z a0 EL R own bytes ml ret nm S0 Q K kc ks S' h' (mkF K.m n ls (.ref a :: st))) : Go l Z a0 EL R own bytes ml ret nm S0 Q K (kc + 1) (ks + cap) S h (mkF K.m pc ls (.int j :: st)) := by
  obtain ⟨hd, rfl⟩ := hd
  refine Go.make (f' := fun a => mkF K.m (pc + 2) ls (.ref a :: st)) _ kk fun vm0 T locs cells slots hK X hZ hown eT hc hl => ?_
  have hN' : N < 2 ^ 31 := by omega
  obtain ⟨T', h', cA, X', e', E, A, E2, st'⟩ := newPE X hK.1 hZ w1 eT (g := mkF K.m pc ls (.int j :: st)) rfl (hb hK.2.1 hd) (n := j) rfl (by rw [Int32.lt_iff_toInt_lt, toInt_of hj hN']; simp) (cap := cap) (by rw [clamp_of hj hN']; exact hN) hcap hc hl had
  exact ⟨T', h', X', e', E, A.lt, ⟨AI.new A hj hN' hdv hft, E2⟩, st'⟩
theorem go_lswHit {df : Int} {ps : Array (Int × Int)} {a off : Int} {len : Nat} (hd : decode bytes pc = .ok (.lookupswitch df ps, len)) (hs : (ps.toList.zip (ps.toList.drop 1)).all (fun (a, next) => a.1 < next.1) = true) (hf : ps.find? (·.1 == x.toInt) = some (a, off)) (ho : 0 ≤ (pc : Int) + off) (ht : ((pc : Int) + off).toNat = t) (kk : Go l Z a0 EL R own bytes ml ret nm S0 Q K kc ks S h (mkF K.m t ls st)) : Go l Z a0 EL R own bytes ml ret nm S0 Q K kc ks S h (mkF K.m pc ls (.int x :: st)) := by
  subst ht
  refine Go.calm kk fun vm0 T locs cells slots hK X hZ hown eT hE => ⟨T, X, eT, fun tgt hr => ?_⟩
  exact X.lookupswitchHit hK.1 (g := mkF K.m pc ls (.int x :: st)) rfl rfl (hb hK.2.1 hd) hs hf ho _ hr
theorem go_lswMiss {df : Int} {ps : Array (Int × Int)} {len : Nat} (hd : decode bytes pc = .ok (.lookupswitch df ps, len)) (hs : (ps.toList.zip (ps.toList.drop 1)).all (fun (a, next) => a.1 < next.1) = true) (hf : ps.find? (·.1 == x.toInt) = none) (ho : 0 ≤ (pc : Int) + df) (ht : ((pc : Int) + df).toNat = t) (kk : Go l Z a0 EL R own bytes ml ret nm S0 Q K kc ks S h (mkF K.m t ls st)) : Go l Z a0 EL R own bytes ml ret nm S0 Q K kc ks S h (mkF K.m pc ls (.int x :: st)) := by
  subst ht
  refine Go.calm kk fun vm0 T locs cells slots hK X hZ hown eT hE => ⟨T, X, eT, fun tgt hr => ?_⟩
  exact X.lookupswitchMiss hK.1 (g := mkF K.m pc ls (.int x :: st)) rfl rfl (hb hK.2.1 hd) hs hf ho _ hr
theorem go_tswIn {df lo hi off : Int} {os : Array Int} {len : Nat} (hd : decode bytes pc = .ok (.tableswitch df lo hi os, len)) (hin : ¬ (x.toInt < lo ∨ x.toInt > hi)) (hf : os[(x.toInt - lo).toNat]? = some off) (ho : 0 ≤ (pc : Int) + off) (ht : ((pc : Int) + off).toNat = t) (kk : Go l Z a0 EL R own bytes ml ret nm S0 Q K kc ks S h (mkF K.m t ls st)) : Go l Z a0 EL R own bytes ml ret nm S0 Q K kc ks S h (mkF K.m pc ls (.int x :: st)) := by
  subst ht
  refine Go.calm kk fun vm0 T locs cells slots hK X hZ hown eT hE => ⟨T, X, eT, fun tgt hr => ?_⟩
  exact X.tableswitchIn hK.1 (g := mkF K.m pc ls (.int x :: st)) rfl rfl (hb hK.2.1 hd) hin hf ho _ hr
theorem go_private {y y2 x2 : MethodName} {D C2 : String} {bY : ByteArray} {mY : Nat} {rY : Option FieldType} {rm : Room} {as' : Array Value} {QY : (Addr → Prop) → Option Value → Heap → Prop} {idx : Nat} {a : Addr} (argsL rest : List Value) (C : Con l Z EL [] y bY mY rY rm as' S h QY) (E : Exa Z h a D)
    (w1 : (Cond.methodLink own idx y).before a0 Z = true) (w2 : (Cond.instanceMethod y).before a0 Z = true) (wp : (Cond.privateMethod y).before a0 Z = true) (w5 : (Cond.selects C2 x2 y2).before a0 Z = true) (hc2 : y2.cls = y.cls) (w3 : (Cond.code y bY mY rY).before a0 Z = true) (w4 : (Cond.initialized y.cls).before a0 Z = true) (hy2 : y.cls ≠ "java/lang/invoke/MethodHandle" ∧ y.cls ≠ "java/lang/invoke/VarHandle")
    (has : as' = (.ref a :: argsL).toArray) (hs : st = argsL.reverse ++ .ref a :: rest) (hlen : ∀ sig, parseMethodDescriptor y.desc = some sig → argsL.length = sig.parameters.length) (hd : Dec bytes pc (.invokevirtual idx) 3 n) (hsz : ls.size = ml) (hf : rm.frames + 1 ≤ R.frames) (hW : (rest.map fun v => v.category).sum + (mY + 11) + rm.locals ≤ R.locals)
    {rc rs : Nat} (hrc : rm.cells = rc) (hrs : rm.slots = rs) (kk : ∀ S' v h', (∀ x, S x → S' x) → h.size ≤ h'.size → QY S' v h' → Go l Z a0 EL R own bytes ml ret nm S0 Q K kc ks S' h' (mkF K.m n ls (v.toList ++ rest))) : Go l Z a0 EL R own bytes ml ret nm S0 Q K (kc + rc) (ks + rs) S h (mkF K.m pc ls st) := by
  subst hrc hrs
  obtain ⟨hd, rfl⟩ := hd
  refine Go.call (f1 := fun v => mkF K.m (pc + 3) ls (v.toList ++ rest)) kk fun vm0 T locs cells slots hK X hZ hown eT hC hSf hE hc hl => ?_
  obtain ⟨c2, r2, m2, -, -, q3, -, kP, hkP, hkPi⟩ := Cond.selects_spec (mvT (args := K.args) hZ w5)
  have hcf := findClass_of_methodNamed q3
  rw [hc2] at hcf
  have hpr : (K.s.setVm vm0).PrivateAt y := Cond.privateMethod_at (mvP hZ wp (args := #[]))
  have hsel : (Cond.selects y.cls y y).before K.args (K.s.setVm vm0) = true := selects_self_of_private hcf hkP hkPi hpr (mvT hZ w2) hy2
  obtain ⟨cq, qa, qb⟩ := E.cell
  obtain ⟨v, vm₁, B, hwm, X', hSi, hgr, ⟨L, hp⟩, st'⟩ := X.privateBackS hK.1 (y := y) hown (mvT hZ w1) (mvT hZ w2) hsel hpr (mvT hZ w3) hy2 (backG (W := (rest.map fun v => v.category).sum) C hZ w3 w4 hf hW hK.2.2.2.2.2.2 hC hSf hE) (g := mkF K.m pc ls st) rfl (hsz.trans hK.2.2.1.symm) (Steps.refl _) (a := a) (cell := cq) (by rw [eT]; exact qa) qb (argsL := argsL) (rest := rest) hlen hs (by show 2 * 0 + _ ≤ _; simp) (hb hK.2.1 hd) (fun _ _ => ⟨has.symm, eT, hc, hl⟩)
  exact ⟨v, B, X', hSi, by rw [← eT]; exact hgr, ⟨L, hp⟩, st'⟩
end Rules
end Jvm.GoK
namespace Jvm.GoK
open Jvm Jvm.ClassFile Sem Op Lib Jvm.Free Jvm.Stand Jvm.LawKit Jvm.RoadKit Bundle
/-- the byte that is left of a char, as an int -/
def lo8 (x : Int32) : Int32 := x.toInt8.toInt32
theorem nar_lo8 (x : Int32) : nar .byte (lo8 x) = lo8 x := by
  show (x.toInt8.toInt32).toInt8.toInt32 = x.toInt8.toInt32
  simp
theorem fits_lo8 (x : Int32) : fits .byte (.int (lo8 x)) = true := fits_nar_byte x
theorem ofNat_lt {i n : Nat} (h : i < n) (hn : n < 2 ^ 31) : Int32.ofNat i < Int32.ofNat n := by
  rw [Int32.lt_iff_toInt_lt, Int32.toInt_ofNat_of_lt (by omega), Int32.toInt_ofNat_of_lt (by omega)]
  omega
theorem ofNat_nlt {i n : Nat} (h : n ≤ i) (hn : i < 2 ^ 31) : ¬ Int32.ofNat i < Int32.ofNat n := by
  rw [Int32.lt_iff_toInt_lt, Int32.toInt_ofNat_of_lt (by omega), Int32.toInt_ofNat_of_lt (by omega)]
  omega
theorem ofNat_lt_iff {i n : Nat} (hi : i < 2 ^ 31) (hn : n < 2 ^ 31) : Int32.ofNat i < Int32.ofNat n ↔ i < n := by
  rw [Int32.lt_iff_toInt_lt, Int32.toInt_ofNat_of_lt (by omega), Int32.toInt_ofNat_of_lt (by omega)]
  omega
theorem ofNat_inj {i n : Nat} (hi : i < 2 ^ 31) (hn : n < 2 ^ 31) : Int32.ofNat i = Int32.ofNat n ↔ i = n := by
  rw [← Int32.toInt_inj, Int32.toInt_ofNat_of_lt (by omega), Int32.toInt_ofNat_of_lt (by omega)]
  omega
theorem ofNat_add (i n : Nat) : Int32.ofNat i + Int32.ofNat n = Int32.ofNat (i + n) := (Int32.ofNat_add i n).symm
theorem ofNat_inc (i : Nat) : Int32.ofNat i + Int32.ofInt 1 = Int32.ofNat (i + 1) := (Int32.ofNat_add i 1).symm
theorem ofNat_sub {i n : Nat} (h : n ≤ i) : Int32.ofNat i - Int32.ofNat n = Int32.ofNat (i - n) := by
  have e : Int32.ofNat i = Int32.ofNat (i - n) + Int32.ofNat n := by rw [ofNat_add]; congr 1; omega
  rw [e, Int32.add_sub_cancel]
theorem set_fill {cs : List Int32} {i n : Nat} {c : Int32} (f : Int32 → Int32) (hn : cs.length = n) (hc : cs[i]? = some c) :
    (((cs.take i).map f ++ List.replicate (n - i) 0).set i (f c)) = (cs.take (i + 1)).map f ++ List.replicate (n - (i + 1)) 0 := by
  have hi := (List.getElem?_eq_some_iff.mp hc).1
  have hl : ((cs.take i).map f).length = i := by simp; omega
  rw [List.set_append_right _ _ (by omega), hl, Nat.sub_self]
  obtain ⟨m, hm⟩ : ∃ m, n - i = m + 1 := ⟨n - i - 1, by omega⟩
  rw [hm, List.replicate_succ, List.set_cons_zero, List.take_add_one, hc]
  have : n - (i + 1) = m := by omega
  rw [this]
  simp
theorem fill_len {cs : List Int32} {i n : Nat} (f : Int32 → Int32) (hn : cs.length = n) (hi : i ≤ n) : ((cs.take i).map f ++ List.replicate (n - i) (0 : Int32)).length = n := by
  simp; omega
theorem own_nar_ref {u : Value} {ty : FieldType} (h : u.isRef = true) : narrow ty u = u := by
  rcases ref_cases h with rfl | ⟨a, rfl⟩ <;> cases ty <;> rfl
theorem own_and255 (x : Int32) : ¬ (255 : Int32) < (x &&& 255) := by
  have t : ∀ k : Fin 256, ¬ (255 : Int32) < Int32.ofNat k.val := by decide +kernel
  have h : (x &&& 255).toBitVec.toNat < 256 := by
    simp only [Int32.toBitVec_and, BitVec.toNat_and]
    exact Nat.lt_succ_of_le Nat.and_le_right
  have e : (x &&& 255) = Int32.ofNat (x &&& 255).toBitVec.toNat := by
    apply Int32.toBitVec_inj.mp
    show _ = BitVec.ofNat 32 _
    rw [BitVec.ofNat_toNat]; simp
  rw [e]
  exact t ⟨_, h⟩
theorem own_eqint {args : Array Value} {first s : State} {o : Option Outcome} {idx : List Nat} {t : Term} {n : Int32} (h : (Jvm.Cond.eq t (.int n)).value args first o s idx = some true) : t.eval args first o idx s = some (.int n) := by
  obtain ⟨x, y, e1, e2, -, -⟩ := cmp_v (Or.inl h)
  have e3 : y = .int n := Option.some.inj (e2.symm.trans (Term.int_eval n))
  subst e3
  cases x <;> simp [Cond.value, e1, e2] at h
  subst h; exact e1
theorem fa1 {P : Int32 → Prop} {a : Int32} (ha : P a) : ∀ c ∈ [a], P c := List.forall_mem_cons.mpr ⟨ha, fun _ h => by cases h⟩
theorem fa2 {P : Int32 → Prop} {a b : Int32} (ha : P a) (hb : P b) : ∀ c ∈ [a, b], P c := List.forall_mem_cons.mpr ⟨ha, fa1 hb⟩
theorem lt_nat {a b : Nat} (h : a < b) : a < b := h
theorem ne_of {a b : Nat} (h : a < b ∨ b < a) : a ≠ b := by omega
end Jvm.GoK
namespace Jvm.GoK
open Jvm Jvm.ClassFile Sem Op Lib Jvm.Free Jvm.Stand Jvm.LawKit Jvm.RoadKit Bundle
/-- a char's two bytes, the low one first -/
def two (c : Int32) : List Int32 := [lo8 c, lo8 (c >>> 8)]
/-- a String's bytes, by its coder -/
def sbytes (k : Int32) (cs : List Int32) : List Int32 := if k = 0 then cs.map lo8 else cs.flatMap two
theorem sbytes0 (cs : List Int32) : sbytes 0 cs = cs.map lo8 := rfl
theorem sbytes1 (cs : List Int32) : sbytes 1 cs = cs.flatMap two := rfl
def isCh (c : Int32) : Prop := fits .char (.int c) = true
/-- the String at x: its chars cs, its byte[] b, its coder k -/
def Str (Z : State) (h : Heap) (x : Addr) (cs : List Int32) (b : Addr) (k : Int32) : Prop :=
  Exa Z h x "java/lang/String" ∧ Fld Z h x "java/lang/String" "coder" "B" (.int k) ∧ Fld Z h x "java/lang/String" "value" "[B" (.ref b) ∧ AI Z h b .byte (sbytes k cs) ∧
  ((k = 0 ∧ ∀ c ∈ cs, ¬ (255 : Int32) < c) ∨ (k = 1 ∧ ∃ c ∈ cs, (255 : Int32) < c)) ∧ (∀ c ∈ cs, isCh c) ∧ cs.length < 2 ^ 29
section
variable {Z : State} {h h' : Heap} {x b : Addr} {cs : List Int32} {k : Int32} {ws : List Addr}
theorem Str.keep (F : Str Z h x cs b k) (K : Keep h h' ws) (hx : x ∉ ws) (hb : b ∉ ws) : Str Z h' x cs b k :=
  ⟨F.1.keep K, F.2.1.keep K hx, F.2.2.1.keep K hx, F.2.2.2.1.keep K hb, F.2.2.2.2⟩
theorem Str.ext (F : Str Z h x cs b k) (E : Ext h h') : Str Z h' x cs b k := ⟨F.1.ext E, F.2.1.ext E, F.2.2.1.ext E, F.2.2.2.1.ext E, F.2.2.2.2⟩
theorem Str.lx (F : Str Z h x cs b k) : x < h.size := F.1.lt
theorem Str.lb (F : Str Z h x cs b k) : b < h.size := F.2.2.2.1.lt
end
theorem AI.len {Z : State} {h : Heap} {a : Addr} {ty : FieldType} {xs : List Int32} (A : AI Z h a ty xs) : xs.length < 2 ^ 31 := by obtain ⟨c, -, -, q, -⟩ := A; exact q
theorem nar_cod {k : Int32} {cs : List Int32} (h : (k = 0 ∧ ∀ c ∈ cs, ¬ (255 : Int32) < c) ∨ (k = 1 ∧ ∃ c ∈ cs, (255 : Int32) < c)) : narrow .byte (.int k) = .int k := by
  rcases h with ⟨rfl, -⟩ | ⟨rfl, -⟩ <;> rfl
theorem fits_cod {k : Int32} {cs : List Int32} (h : (k = 0 ∧ ∀ c ∈ cs, ¬ (255 : Int32) < c) ∨ (k = 1 ∧ ∃ c ∈ cs, (255 : Int32) < c)) : fits .byte (.int k) = true := by
  rcases h with ⟨rfl, -⟩ | ⟨rfl, -⟩ <;> decide
theorem isCh_iff {c : Int32} : isCh c ↔ 0 ≤ c.toInt ∧ c.toInt ≤ 65535 := by
  have e1 : (65535 : Int32).toInt = 65535 := rfl
  simp only [isCh, fits, Bool.and_eq_true, decide_eq_true_eq, Int32.le_iff_toInt_le, Int32.toInt_zero, e1]
theorem lt255 {c : Int32} : (255 : Int32) < c ↔ 255 < c.toInt := by
  have e1 : (255 : Int32).toInt = 255 := rfl
  rw [Int32.lt_iff_toInt_lt, e1]
theorem isCh_ofNat {c : Int32} (h : isCh c) : ∃ n : Nat, n < 65536 ∧ c = Int32.ofNat n := by
  obtain ⟨h1, h2⟩ := isCh_iff.mp h
  refine ⟨c.toInt.toNat, by omega, ?_⟩
  apply Int32.toInt_inj.mp
  rw [Int32.toInt_ofNat_of_lt (by omega)]
  omega
theorem flat_len (cs : List Int32) : (cs.flatMap two).length = 2 * cs.length := by
  induction cs with
  | nil => rfl
  | cons c cs ih => simp [List.flatMap_cons, two, ih]; omega
theorem flat_lo {cs : List Int32} {i : Nat} {c : Int32} (hc : cs[i]? = some c) : (cs.flatMap two)[2 * i]? = some (lo8 c) := by
  induction cs generalizing i with
  | nil => simp at hc
  | cons d cs ih =>
    cases i with
    | zero => simp at hc; subst hc; rfl
    | succ i =>
      rw [List.flatMap_cons, show 2 * (i + 1) = 2 * i + 2 by omega]
      have := ih (i := i) (by simpa using hc)
      simpa [two] using this
theorem flat_hi {cs : List Int32} {i : Nat} {c : Int32} (hc : cs[i]? = some c) : (cs.flatMap two)[2 * i + 1]? = some (lo8 (c >>> 8)) := by
  induction cs generalizing i with
  | nil => simp at hc
  | cons d cs ih =>
    cases i with
    | zero => simp at hc; subst hc; rfl
    | succ i =>
      rw [List.flatMap_cons, show 2 * (i + 1) + 1 = 2 * i + 1 + 2 by omega]
      have := ih (i := i) (by simpa using hc)
      simpa [two] using this
theorem flat_take {cs : List Int32} {i : Nat} {c : Int32} (hc : cs[i]? = some c) : (cs.take (i + 1)).flatMap two = (cs.take i).flatMap two ++ two c := by
  rw [List.take_add_one, hc, List.flatMap_append]
  simp
theorem set_two {cs : List Int32} {i n : Nat} {c : Int32} (hn : cs.length = n) (hc : cs[i]? = some c) :
    ((((cs.take i).flatMap two ++ List.replicate (2 * n - 2 * i) 0).set (2 * i) (lo8 c)).set (2 * i + 1) (lo8 (c >>> 8))) = (cs.take (i + 1)).flatMap two ++ List.replicate (2 * n - 2 * (i + 1)) 0 := by
  have hi := (List.getElem?_eq_some_iff.mp hc).1
  have hl : ((cs.take i).flatMap two).length = 2 * i := by rw [flat_len]; simp; omega
  rw [flat_take hc, List.set_append_right _ _ (by omega), hl, Nat.sub_self]
  obtain ⟨m, hm⟩ : ∃ m, 2 * n - 2 * i = m + 2 := ⟨2 * n - 2 * i - 2, by omega⟩
  rw [hm, List.replicate_succ, List.replicate_succ, List.set_cons_zero, List.set_append_right _ _ (by omega), hl]
  have e : 2 * i + 1 - 2 * i = 1 := by omega
  have e2 : 2 * n - 2 * (i + 1) = m := by omega
  rw [e, e2]
  simp [two]
theorem fill2_len {cs : List Int32} {i n : Nat} (hn : cs.length = n) (hi : i ≤ n) : ((cs.take i).flatMap two ++ List.replicate (2 * n - 2 * i) (0 : Int32)).length = 2 * n := by
  rw [List.length_append, flat_len]; simp; omega
theorem lat_or (cs : List Int32) : (∀ c ∈ cs, ¬ (255 : Int32) < c) ∨ ∃ (k : Nat) (c : Int32), cs[k]? = some c ∧ (255 : Int32) < c ∧ ∀ (i : Nat) (d : Int32), i < k → cs[i]? = some d → ¬ (255 : Int32) < d := by
  induction cs with
  | nil => left; simp
  | cons d cs ih =>
    by_cases hd : (255 : Int32) < d
    · right; exact ⟨0, d, rfl, hd, fun i e hi => absurd hi (by omega)⟩
    · rcases ih with ih | ⟨k, c, h1, h2, h3⟩
      · left; intro c hc
        rcases List.mem_cons.mp hc with rfl | hc
        · exact hd
        · exact ih c hc
      · right
        refine ⟨k + 1, c, by simpa using h1, h2, fun i e hi he => ?_⟩
        cases i with
        | zero => simp at he; subst he; exact hd
        | succ i => exact h3 i e (by omega) (by simpa using he)
theorem sh0 (c : Int32) : c >>> ((0 : Int32) &&& 31) = c := by
  apply Int32.toBitVec_inj.mp
  simp
theorem shl0 (c : Int32) : c <<< ((0 : Int32) &&& 31) = c := by
  apply Int32.toBitVec_inj.mp
  simp
theorem sh8 (c : Int32) : c >>> ((8 : Int32) &&& 31) = c >>> 8 := rfl
theorem shl8 (c : Int32) : c <<< ((8 : Int32) &&& 31) = c <<< 8 := rfl
theorem ofNat_shl1 {i : Nat} : Int32.ofNat i <<< ((1 : Int32) &&& 31) = Int32.ofNat (2 * i) := by
  have e : Int32.ofNat i <<< ((1 : Int32) &&& 31) = Int32.ofNat i <<< (1 : Int32) := rfl
  rw [e]
  apply Int32.toBitVec_inj.mp
  show BitVec.ofNat 32 i <<< _ = BitVec.ofNat 32 (2 * i)
  apply BitVec.eq_of_toNat_eq
  have e2 : (Int32.toBitVec 1).smod 32 = 1#32 := by decide
  simp [Nat.shiftLeft_eq, Nat.mul_comm]
theorem toInt_bv {i : Nat} (h : i < 2 ^ 31) : (BitVec.ofNat 32 i).toInt = i := by
  show (Int32.ofNat i).toInt = i
  exact Int32.toInt_ofNat_of_lt (by omega)
theorem shrK {i k : Nat} (h : i < 2 ^ 31) : (⟨⟨(BitVec.ofNat 32 i).sshiftRight k⟩⟩ : Int32) = Int32.ofNat (i / 2 ^ k) := by
  have hle : i / 2 ^ k ≤ i := Nat.div_le_self _ _
  apply Int32.toInt_inj.mp
  show BitVec.toInt ((BitVec.ofNat 32 i).sshiftRight k) = _
  rw [BitVec.toInt_sshiftRight, Int32.toInt_ofNat_of_lt (by omega), toInt_bv h, Int.shiftRight_eq_div_pow]
  norm_cast
theorem shr1 {i : Nat} (h : i < 2 ^ 31) : Int32.ofNat i >>> ((1 : Int32) &&& 31) = Int32.ofNat (i / 2) := shrK (k := 1) h
theorem shr0 {i : Nat} : Int32.ofNat i >>> ((0 : Int32) &&& 31) = Int32.ofNat i := sh0 _
theorem mask8 {n : Nat} (h : n < 256) : lo8 (Int32.ofNat n) &&& 255 = Int32.ofNat n := by
  have t : ∀ k : Fin 256, lo8 (Int32.ofNat k.val) &&& 255 = Int32.ofNat k.val := by decide +kernel
  exact t ⟨n, h⟩
theorem lat_mask {c : Int32} (h1 : isCh c) (h2 : ¬ (255 : Int32) < c) : lo8 c &&& 255 = c := by
  obtain ⟨n, hn, rfl⟩ := isCh_ofNat h1
  rw [lt255, Int32.toInt_ofNat_of_lt (by omega)] at h2
  exact mask8 (by omega)
theorem i2c_ch {c : Int32} (h : isCh c) : c.toUInt32.toUInt16.toUInt32.toInt32 = c := by
  obtain ⟨n, hn, rfl⟩ := isCh_ofNat h
  apply Int32.toBitVec_inj.mp
  apply BitVec.eq_of_toNat_eq
  simp
  omega
theorem nar_ch {c : Int32} (h : isCh c) : nar .char c = c := i2c_ch h
theorem shr8 {i : Nat} (h : i < 2 ^ 31) : Int32.ofNat i >>> (8 : Int32) = Int32.ofNat (i / 256) := shrK (k := 8) h
theorem lo8_mod (n : Nat) : lo8 (Int32.ofNat n) = lo8 (Int32.ofNat (n % 256)) := by
  show (Int32.ofNat n).toInt8.toInt32 = (Int32.ofNat (n % 256)).toInt8.toInt32
  congr 1
  apply Int8.toBitVec_inj.mp
  apply BitVec.eq_of_toNat_eq
  simp
theorem ofNat_shl8 {i : Nat} : Int32.ofNat i <<< (8 : Int32) = Int32.ofNat (i * 256) := by
  apply Int32.toBitVec_inj.mp
  show BitVec.ofNat 32 i <<< _ = BitVec.ofNat 32 (i * 256)
  apply BitVec.eq_of_toNat_eq
  simp [Nat.shiftLeft_eq]
theorem ofNat_or {a b : Nat} : (Int32.ofNat a ||| Int32.ofNat b) = Int32.ofNat (a ||| b) := by
  apply Int32.toBitVec_inj.mp
  show BitVec.ofNat 32 a ||| BitVec.ofNat 32 b = BitVec.ofNat 32 (a ||| b)
  apply BitVec.eq_of_toNat_eq
  simp
theorem join16 {c : Int32} (h : isCh c) : ((lo8 c &&& (255 : Int32)) ||| ((lo8 (c >>> (8 : Int32)) &&& (255 : Int32)) <<< (8 : Int32))) = c := by
  obtain ⟨n, hn, rfl⟩ := isCh_ofNat h
  rw [lo8_mod, mask8 (Nat.mod_lt _ (by omega)), shr8 (by omega), mask8 (by omega), ofNat_shl8, ofNat_or]
  congr 1
  have h1 := Nat.shiftLeft_add_eq_or_of_lt (show n % 256 < 2 ^ 8 by omega) (n / 256)
  rw [Nat.shiftLeft_eq] at h1
  rw [Nat.or_comm, ← h1]
  omega
theorem cod1 {n : Nat} (h1 : 0 < n) (h2 : n < 2 ^ 29) : XT.ushr (Int32.ofNat n - Int32.ofNat (2 * n)) 31 = 1 := by
  have e : Int32.ofNat n - Int32.ofNat (2 * n) = Int32.ofNat (2 ^ 32 - n) := by
    apply Int32.toBitVec_inj.mp
    apply BitVec.eq_of_toNat_eq
    simp
    omega
  rw [e]
  apply Int32.toBitVec_inj.mp
  apply BitVec.eq_of_toNat_eq
  show (BitVec.ofNat 32 (2 ^ 32 - n) >>> 31).toNat = 1
  simp [Nat.shiftRight_eq_div_pow]
  omega
end Jvm.GoK
namespace Jvm.GoK
open Jvm Jvm.ClassFile Sem Op Lib Jvm.Free Jvm.Stand Jvm.LawKit Jvm.RoadKit Bundle
theorem flat_takes (cs : List Int32) (e : Nat) : (cs.flatMap two).take (2 * e) = (cs.take e).flatMap two := by
  induction cs generalizing e with
  | nil => simp
  | cons c cs ih =>
    cases e with
    | zero => simp
    | succ e =>
      rw [List.flatMap_cons, List.take_succ_cons, List.flatMap_cons, show 2 * (e + 1) = 2 * e + 2 by omega]
      simp [two, ih]
theorem or_nneg {a b : Nat} (ha : a < 2 ^ 31) (hb : b < 2 ^ 31) : ¬ (Int32.ofNat a ||| Int32.ofNat b) < 0 := by
  rw [ofNat_or]
  exact ofNat_nlt (n := 0) (Nat.zero_le _) (Nat.or_lt_two_pow ha hb)
theorem or_lt31 {a b : Nat} (ha : a < 2 ^ 31) (hb : b < 2 ^ 31) : a ||| b < 2 ^ 31 := Nat.or_lt_two_pow ha hb
end Jvm.GoK
namespace Jvm.GoK
open Jvm Jvm.ClassFile Sem Op Lib Jvm.Free Jvm.Stand Jvm.LawKit Jvm.RoadKit Bundle
def hcB (xs : List Int32) : Int32 := xs.foldl (fun h b => 31 * h + (b &&& 255)) 0
/-- String.hashCode of Latin-1 chars -/
def hcS (cs : List Int32) : Int32 := hcB (cs.map lo8)
def spr (x : Int32) : Int32 := (x * (-1640531527)) ^^^ XT.ushr (x * (-1640531527)) 16
def hsh (cs : List Int32) : Int32 := spr (hcS cs)
/-- the slot that a hash picks -/
def st0 (x : Int32) : Nat := (x &&& 31).toBitVec.toNat
theorem st0_lt (x : Int32) : st0 x < 32 := by
  have h : (x &&& 31).toBitVec.toNat ≤ 31 := by
    simp only [Int32.toBitVec_and, BitVec.toNat_and]
    exact Nat.and_le_right
  exact Nat.lt_succ_of_le h
theorem st0_eq (x : Int32) : x &&& 31 = Int32.ofNat (st0 x) := by
  apply Int32.toBitVec_inj.mp
  show _ = BitVec.ofNat 32 (x &&& 31).toBitVec.toNat
  rw [BitVec.ofNat_toNat]; simp
def stt (cs : List Int32) : Nat := st0 (hsh cs)
theorem stt_lt (cs : List Int32) : stt cs < 32 := st0_lt _
theorem stt_eq (cs : List Int32) : hsh cs &&& 31 = Int32.ofNat (stt cs) := st0_eq _
theorem nxt_eq (s : Nat) (h : s < 32) : (Int32.ofNat s + 1) &&& 31 = Int32.ofNat ((s + 1) % 32) := by
  have t : ∀ k : Fin 32, (Int32.ofNat k.val + 1) &&& 31 = Int32.ofNat ((k.val + 1) % 32) := by decide +kernel
  exact t ⟨s, h⟩
theorem hcB_take {xs : List Int32} {i : Nat} {b : Int32} (hb : xs[i]? = some b) : hcB (xs.take (i + 1)) = 31 * hcB (xs.take i) + (b &&& 255) := by
  rw [hcB, List.take_add_one, hb, List.foldl_append]; rfl
theorem hcB_one (b : Int32) : hcB [b] = b &&& 255 := by
  show 31 * 0 + (b &&& 255) = b &&& 255
  rw [Int32.mul_zero, Int32.zero_add]
/-- the two hash fields of a String -/
def Hsf (Z : State) (h : Heap) (x : Addr) (cs : List Int32) : Prop := ∃ hv hz : Int32, Fld Z h x "java/lang/String" "hash" "I" (.int hv) ∧ Fld Z h x "java/lang/String" "hashIsZero" "Z" (.int hz) ∧ (hv = 0 ∨ hv = hcS cs) ∧ (hz = 0 ∨ hcS cs = 0)
/-- a String of up to three Latin-1 chars -/
def LS (Z : State) (h : Heap) (x : Addr) (cs : List Int32) (b : Addr) : Prop := Str Z h x cs b 0 ∧ Hsf Z h x cs ∧ (2 ≤ cs.length → Exa Z h b "[B") ∧ cs.length ≤ 3
section
variable {Z : State} {h h' : Heap} {x b : Addr} {cs : List Int32} {ws : List Addr}
theorem Hsf.keep (F : Hsf Z h x cs) (K : Keep h h' ws) (hx : x ∉ ws) : Hsf Z h' x cs := by
  obtain ⟨hv, hz, f1, f2, r⟩ := F
  exact ⟨hv, hz, f1.keep K hx, f2.keep K hx, r⟩
theorem Hsf.ext (F : Hsf Z h x cs) (E : Ext h h') : Hsf Z h' x cs := by
  obtain ⟨hv, hz, f1, f2, r⟩ := F
  exact ⟨hv, hz, f1.ext E, f2.ext E, r⟩
theorem LS.keep (F : LS Z h x cs b) (K : Keep h h' ws) (hx : x ∉ ws) (hb : b ∉ ws) : LS Z h' x cs b := ⟨F.1.keep K hx hb, F.2.1.keep K hx, fun q => (F.2.2.1 q).keep K, F.2.2.2⟩
theorem LS.ext (F : LS Z h x cs b) (E : Ext h h') : LS Z h' x cs b := ⟨F.1.ext E, F.2.1.ext E, fun q => (F.2.2.1 q).ext E, F.2.2.2⟩
theorem LS.lat (F : LS Z h x cs b) : ∀ c ∈ cs, ¬ (255 : Int32) < c := by
  rcases F.1.2.2.2.2.1 with ⟨-, q⟩ | ⟨q, -⟩
  · exact q
  · exact absurd q (by decide)
theorem LS.ch (F : LS Z h x cs b) : ∀ c ∈ cs, isCh c := F.1.2.2.2.2.2.1
theorem LS.bytes (F : LS Z h x cs b) : AI Z h b .byte (cs.map lo8) := F.1.2.2.2.1
end
theorem lo8_inj {c d : Int32} (h1 : isCh c) (h2 : ¬ (255 : Int32) < c) (h3 : isCh d) (h4 : ¬ (255 : Int32) < d) (h : lo8 c = lo8 d) : c = d := by
  rw [← lat_mask h1 h2, h, lat_mask h3 h4]
theorem map_lo8_inj {cs ds : List Int32} (h1 : ∀ c ∈ cs, isCh c) (h2 : ∀ c ∈ cs, ¬ (255 : Int32) < c) (h3 : ∀ c ∈ ds, isCh c) (h4 : ∀ c ∈ ds, ¬ (255 : Int32) < c) (h : cs.map lo8 = ds.map lo8) : cs = ds := by
  induction cs generalizing ds with
  | nil => cases ds with
    | nil => rfl
    | cons d ds => simp at h
  | cons c cs ih => cases ds with
    | nil => simp at h
    | cons d ds =>
      simp only [List.map_cons, List.cons.injEq] at h
      rw [lo8_inj (h1 c (by simp)) (h2 c (by simp)) (h3 d (by simp)) (h4 d (by simp)) h.1,
        ih (fun c hc => h1 c (by simp [hc])) (fun c hc => h2 c (by simp [hc])) (fun c hc => h3 c (by simp [hc])) (fun c hc => h4 c (by simp [hc])) h.2]
/-- chars cs written from place o on, i of them so far -/
def spl (full : List Int32) (o : Nat) (cs : List Int32) (i : Nat) : List Int32 := full.take o ++ cs.take i ++ full.drop (o + i)
theorem spl_len {full cs : List Int32} {o i : Nat} (ho : o + cs.length ≤ full.length) (hi : i ≤ cs.length) : (spl full o cs i).length = full.length := by
  simp [spl]; omega
theorem spl_zero (full cs : List Int32) (o : Nat) : spl full o cs 0 = full := by simp [spl]
theorem spl_set {full cs : List Int32} {o i : Nat} {c : Int32} (ho : o + cs.length ≤ full.length) (hc : cs[i]? = some c) : (spl full o cs i).set (o + i) c = spl full o cs (i + 1) := by
  have hi := (List.getElem?_eq_some_iff.mp hc).1
  have hl : (full.take o ++ cs.take i).length = o + i := by simp; omega
  obtain ⟨d, r, hd⟩ : ∃ d r, full.drop (o + i) = d :: r := by
    cases e : full.drop (o + i) with
    | nil => rw [List.drop_eq_nil_iff] at e; omega
    | cons d r => exact ⟨d, r, rfl⟩
  have hr : full.drop (o + (i + 1)) = r := by
    have : full.drop (o + i + 1) = (full.drop (o + i)).drop 1 := by rw [List.drop_drop]
    rw [← Nat.add_assoc, this, hd]; rfl
  rw [spl, spl, hd, hr, List.set_append_right _ _ (by omega), hl, Nat.sub_self, List.set_cons_zero, List.take_add_one, hc]
  simp
theorem spl_all (full cs : List Int32) (o : Nat) : spl full o cs cs.length = full.take o ++ cs ++ full.drop (o + cs.length) := by rw [spl, List.take_length]
/-- what a Names of ts holds: its chars, ends, hashes, table; the slots of its places -/
def NIg (f : List Int32 → Int32) (g : List Int32 → Nat) (ts : List (List Int32)) (chs es hs tb : List Int32) (sl : List Nat) : Prop :=
  (chs.length = 64) ∧
  (es.length = 16) ∧
  (hs.length = 16) ∧
  (tb.length = 32) ∧
  (sl.length = ts.length) ∧
  (ts.length ≤ 3) ∧
  (∀ t ∈ ts, t.length ≤ 3) ∧
  (∀ t ∈ ts, ∀ c ∈ t, isCh c ∧ ¬ (255 : Int32) < c) ∧
  (∃ r, chs = ts.flatten ++ r) ∧
  (∀ (i : Nat) (t : List Int32), ts[i]? = some t → es[i]? = some (Int32.ofNat ((ts.take i).flatten.length + t.length))) ∧
  (∀ (i : Nat) (t : List Int32), ts[i]? = some t → hs[i]? = some (f t)) ∧
  (∀ (i : Nat) (s : Nat), sl[i]? = some s → s < 32 ∧ tb[s]? = some (Int32.ofNat (i + 1))) ∧
  (∀ j, j < 32 → j ∉ sl → tb[j]? = some 0) ∧
  (∀ (i : Nat) (t : List Int32), ts[i]? = some t → ∃ d, sl[i]? = some ((g t + d) % 32) ∧ ∀ d', d' < d → (g t + d') % 32 ∈ sl) ∧
  (∀ (i j : Nat) (t : List Int32), ts[i]? = some t → ts[j]? = some t → i = j)
theorem NIg.l1 {f : List Int32 → Int32} {g : List Int32 → Nat} {ts : List (List Int32)} {chs es hs tb : List Int32} {sl : List Nat} (I : NIg f g ts chs es hs tb sl) : chs.length = 64 := I.1
theorem NIg.l2 {f : List Int32 → Int32} {g : List Int32 → Nat} {ts : List (List Int32)} {chs es hs tb : List Int32} {sl : List Nat} (I : NIg f g ts chs es hs tb sl) : es.length = 16 := I.2.1
theorem NIg.l3 {f : List Int32 → Int32} {g : List Int32 → Nat} {ts : List (List Int32)} {chs es hs tb : List Int32} {sl : List Nat} (I : NIg f g ts chs es hs tb sl) : hs.length = 16 := I.2.2.1
theorem NIg.l4 {f : List Int32 → Int32} {g : List Int32 → Nat} {ts : List (List Int32)} {chs es hs tb : List Int32} {sl : List Nat} (I : NIg f g ts chs es hs tb sl) : tb.length = 32 := I.2.2.2.1
theorem NIg.l5 {f : List Int32 → Int32} {g : List Int32 → Nat} {ts : List (List Int32)} {chs es hs tb : List Int32} {sl : List Nat} (I : NIg f g ts chs es hs tb sl) : sl.length = ts.length := I.2.2.2.2.1
theorem NIg.n {f : List Int32 → Int32} {g : List Int32 → Nat} {ts : List (List Int32)} {chs es hs tb : List Int32} {sl : List Nat} (I : NIg f g ts chs es hs tb sl) : ts.length ≤ 3 := I.2.2.2.2.2.1
theorem NIg.t {f : List Int32 → Int32} {g : List Int32 → Nat} {ts : List (List Int32)} {chs es hs tb : List Int32} {sl : List Nat} (I : NIg f g ts chs es hs tb sl) : ∀ t ∈ ts, t.length ≤ 3 := I.2.2.2.2.2.2.1
theorem NIg.lt {f : List Int32 → Int32} {g : List Int32 → Nat} {ts : List (List Int32)} {chs es hs tb : List Int32} {sl : List Nat} (I : NIg f g ts chs es hs tb sl) : ∀ t ∈ ts, ∀ c ∈ t, isCh c ∧ ¬ (255 : Int32) < c := I.2.2.2.2.2.2.2.1
theorem NIg.c {f : List Int32 → Int32} {g : List Int32 → Nat} {ts : List (List Int32)} {chs es hs tb : List Int32} {sl : List Nat} (I : NIg f g ts chs es hs tb sl) : ∃ r, chs = ts.flatten ++ r := I.2.2.2.2.2.2.2.2.1
theorem NIg.e {f : List Int32 → Int32} {g : List Int32 → Nat} {ts : List (List Int32)} {chs es hs tb : List Int32} {sl : List Nat} (I : NIg f g ts chs es hs tb sl) : ∀ (i : Nat) (t : List Int32), ts[i]? = some t → es[i]? = some (Int32.ofNat ((ts.take i).flatten.length + t.length)) := I.2.2.2.2.2.2.2.2.2.1
theorem NIg.h {f : List Int32 → Int32} {g : List Int32 → Nat} {ts : List (List Int32)} {chs es hs tb : List Int32} {sl : List Nat} (I : NIg f g ts chs es hs tb sl) : ∀ (i : Nat) (t : List Int32), ts[i]? = some t → hs[i]? = some (f t) := I.2.2.2.2.2.2.2.2.2.2.1
theorem NIg.s1 {f : List Int32 → Int32} {g : List Int32 → Nat} {ts : List (List Int32)} {chs es hs tb : List Int32} {sl : List Nat} (I : NIg f g ts chs es hs tb sl) : ∀ (i : Nat) (s : Nat), sl[i]? = some s → s < 32 ∧ tb[s]? = some (Int32.ofNat (i + 1)) := I.2.2.2.2.2.2.2.2.2.2.2.1
theorem NIg.s2 {f : List Int32 → Int32} {g : List Int32 → Nat} {ts : List (List Int32)} {chs es hs tb : List Int32} {sl : List Nat} (I : NIg f g ts chs es hs tb sl) : ∀ j, j < 32 → j ∉ sl → tb[j]? = some 0 := I.2.2.2.2.2.2.2.2.2.2.2.2.1
theorem NIg.s3 {f : List Int32 → Int32} {g : List Int32 → Nat} {ts : List (List Int32)} {chs es hs tb : List Int32} {sl : List Nat} (I : NIg f g ts chs es hs tb sl) : ∀ (i : Nat) (t : List Int32), ts[i]? = some t → ∃ d, sl[i]? = some ((g t + d) % 32) ∧ ∀ d', d' < d → (g t + d') % 32 ∈ sl := I.2.2.2.2.2.2.2.2.2.2.2.2.2.1
theorem NIg.nd {f : List Int32 → Int32} {g : List Int32 → Nat} {ts : List (List Int32)} {chs es hs tb : List Int32} {sl : List Nat} (I : NIg f g ts chs es hs tb sl) : ∀ (i j : Nat) (t : List Int32), ts[i]? = some t → ts[j]? = some t → i = j := I.2.2.2.2.2.2.2.2.2.2.2.2.2.2
abbrev NI := NIg hsh stt
theorem NI.start : NI [] (List.replicate 64 0) (List.replicate 16 0) (List.replicate 16 0) (List.replicate 32 0) [] :=
  ⟨(by simp), (by simp), (by simp), (by simp), rfl, (by simp), (by simp), (by simp), ⟨_, rfl⟩, (by simp), (by simp), (by simp), (fun j hj _ => by rw [List.getElem?_replicate, if_pos hj]), (by simp), (by simp)⟩
theorem flat_le {ts : List (List Int32)} (h : ∀ t ∈ ts, t.length ≤ 3) : ts.flatten.length ≤ 3 * ts.length := by
  induction ts with
  | nil => simp
  | cons t ts ih =>
    have h1 := h t (by simp)
    have h2 := ih (fun u hu => h u (by simp [hu]))
    simp only [List.flatten_cons, List.length_append, List.length_cons]
    omega
theorem pig {sl : List Nat} (hl : sl.length ≤ 3) {s : Nat} (h : ∀ d, d < 4 → (s + d) % 32 ∈ sl) : False := by
  have h0 := h 0 (by omega)
  have h1 := h 1 (by omega)
  have h2 := h 2 (by omega)
  have h3 := h 3 (by omega)
  match sl, hl with
  | [], _ => simp at h0
  | [a], _ => simp only [List.mem_singleton] at h0 h1; omega
  | [a, b], _ => simp only [List.mem_cons, List.not_mem_nil, or_false] at h0 h1 h2; omega
  | [a, b, c], _ => simp only [List.mem_cons, List.not_mem_nil, or_false] at h0 h1 h2 h3; omega
  | a :: b :: c :: d :: r, q => simp at q
section
variable {f : List Int32 → Int32} {g : List Int32 → Nat} {ts : List (List Int32)} {chs es hs tb : List Int32} {sl : List Nat}
theorem NIg.take_le (I : NIg f g ts chs es hs tb sl) (i : Nat) : (ts.take i).flatten.length ≤ 9 := by
  have h1 := flat_le (ts := ts.take i) (fun t ht => I.t t (List.mem_of_mem_take ht))
  have h2 := I.n
  simp only [List.length_take] at h1
  omega
theorem NIg.ends (I : NIg f g ts chs es hs tb sl) {i : Nat} (hi : i < ts.length) : es[i]? = some (Int32.ofNat (ts.take (i + 1)).flatten.length) := by
  have e : ts[i]? = some ts[i] := List.getElem?_eq_getElem hi
  rw [I.e i _ e, List.take_add_one, e, Option.toList_some, List.flatten_append, List.length_append, List.flatten_singleton]
theorem flat_at {ts : List (List Int32)} {i j : Nat} {t : List Int32} {c : Int32} (ht : ts[i]? = some t) (hc : t[j]? = some c) : ts.flatten[(ts.take i).flatten.length + j]? = some c := by
  have hi := (List.getElem?_eq_some_iff.mp ht).1
  have hj := (List.getElem?_eq_some_iff.mp hc).1
  have e : ts = ts.take i ++ t :: ts.drop (i + 1) := by
    have h2 : t = ts[i] := (List.getElem?_eq_some_iff.mp ht).2.symm
    rw [h2, List.getElem_cons_drop, List.take_append_drop]
  have e2 : ts.flatten = (ts.take i).flatten ++ (t ++ (ts.drop (i + 1)).flatten) := by
    conv => lhs; rw [e]
    simp
  rw [e2, List.getElem?_append_right (by omega), Nat.add_sub_cancel_left, List.getElem?_append_left hj]
  exact hc
theorem NIg.chars (I : NIg f g ts chs es hs tb sl) {i j : Nat} {t : List Int32} {c : Int32} (ht : ts[i]? = some t) (hc : t[j]? = some c) : chs[(ts.take i).flatten.length + j]? = some c := by
  obtain ⟨r, e⟩ := I.c
  have h := flat_at ht hc
  have hl := (List.getElem?_eq_some_iff.mp h).1
  rw [e, List.getElem?_append_left hl]
  exact h
theorem NIg.room (I : NIg f g ts chs es hs tb sl) {i : Nat} {t : List Int32} (ht : ts[i]? = some t) : (ts.take i).flatten.length + t.length ≤ chs.length := by
  have h1 := I.take_le i
  have h2 := I.t t (List.mem_of_getElem? ht)
  rw [I.l1]; omega
/-- every slot of the table is free or some place's -/
theorem NIg.slot (I : NIg f g ts chs es hs tb sl) (j : Nat) (hj : j < 32) : (j ∉ sl ∧ tb[j]? = some 0) ∨ ∃ i t, j ∈ sl ∧ ts[i]? = some t ∧ sl[i]? = some j ∧ tb[j]? = some (Int32.ofNat (i + 1)) := by
  by_cases q : j ∈ sl
  · right
    obtain ⟨i, hi, e⟩ := List.getElem_of_mem q
    have e2 : sl[i]? = some j := by rw [List.getElem?_eq_getElem hi, e]
    have hi2 : i < ts.length := by rw [← I.l5]; exact hi
    exact ⟨i, ts[i], q, List.getElem?_eq_getElem hi2, e2, (I.s1 i j e2).2⟩
  · exact Or.inl ⟨q, I.s2 j hj q⟩
/-- a text that is held is met before a free slot -/
theorem NIg.held (I : NIg f g ts chs es hs tb sl) {i d : Nat} {t : List Int32} (ht : ts[i]? = some t) (hfree : (g t + d) % 32 ∉ sl) (hno : ∀ d', d' < d → sl[i]? ≠ some ((g t + d') % 32)) : False := by
  obtain ⟨d0, h1, h2⟩ := I.s3 i t ht
  rcases Nat.lt_or_ge d0 d with q | q
  · exact hno d0 q h1
  · rcases Nat.eq_or_lt_of_le q with q | q
    · subst q; exact hfree (List.mem_of_getElem? h1)
    · exact hfree (h2 d q)
theorem NIg.add (I : NIg f g ts chs es hs tb sl) {cs : List Int32} {d : Nat} (hn : ts.length ≤ 2) (hcs : cs.length ≤ 3) (hlat : ∀ c ∈ cs, isCh c ∧ ¬ (255 : Int32) < c) (hnew : ∀ i : Nat, ts[i]? ≠ some cs) (hfree : (g cs + d) % 32 ∉ sl) (hused : ∀ d', d' < d → (g cs + d') % 32 ∈ sl) :
    NIg f g (ts ++ [cs]) (spl chs ts.flatten.length cs cs.length) (es.set ts.length (Int32.ofNat (ts.flatten.length + cs.length))) (hs.set ts.length (f cs)) (tb.set ((g cs + d) % 32) (Int32.ofNat (ts.length + 1))) (sl ++ [(g cs + d) % 32]) := by
  have hfl : ts.flatten.length ≤ 6 := by
    have := flat_le I.t
    omega
  have at' : ∀ (i : Nat) (t : List Int32), (ts ++ [cs])[i]? = some t → (i < ts.length ∧ ts[i]? = some t) ∨ (i = ts.length ∧ t = cs) := fun i t ht => by
    rcases Nat.lt_trichotomy i ts.length with q | q | q
    · rw [List.getElem?_append_left q] at ht; exact Or.inl ⟨q, ht⟩
    · subst q; rw [List.getElem?_append_right (Nat.le_refl _)] at ht; simp at ht; exact Or.inr ⟨rfl, ht.symm⟩
    · rw [List.getElem?_eq_none (by simp; omega)] at ht; cases ht
  have sl' : ∀ (i : Nat) (s : Nat), (sl ++ [(g cs + d) % 32])[i]? = some s → (i < sl.length ∧ sl[i]? = some s) ∨ (i = sl.length ∧ s = (g cs + d) % 32) := fun i t ht => by
    rcases Nat.lt_trichotomy i sl.length with q | q | q
    · rw [List.getElem?_append_left q] at ht; exact Or.inl ⟨q, ht⟩
    · subst q; rw [List.getElem?_append_right (Nat.le_refl _)] at ht; simp at ht; exact Or.inr ⟨rfl, ht.symm⟩
    · rw [List.getElem?_eq_none (by simp; omega)] at ht; cases ht
  have hlt : (g cs + d) % 32 < 32 := Nat.mod_lt _ (by omega)
  have l1 := I.l1
  have l5 := I.l5
  refine ⟨?_, ?_, ?_, ?_, ?_, ?_, ?_, ?_, ?_, ?_, ?_, ?_, ?_, ?_, ?_⟩
  · rw [spl_len (by omega) (Nat.le_refl _)]; exact I.l1
  · rw [List.length_set]; exact I.l2
  · rw [List.length_set]; exact I.l3
  · rw [List.length_set]; exact I.l4
  · simp [I.l5]
  · simp; omega
  · intro t ht
    rcases List.mem_append.mp ht with ht | ht
    · exact I.t t ht
    · rw [List.mem_singleton.mp ht]; exact hcs
  · intro t ht
    rcases List.mem_append.mp ht with ht | ht
    · exact I.lt t ht
    · rw [List.mem_singleton.mp ht]; exact hlat
  · obtain ⟨r, e⟩ := I.c
    refine ⟨chs.drop (ts.flatten.length + cs.length), ?_⟩
    rw [spl_all]
    have : chs.take ts.flatten.length = ts.flatten := by rw [e, List.take_left]
    rw [this]
    simp
  · intro i t ht
    rcases at' i t ht with ⟨q, ht⟩ | ⟨rfl, rfl⟩
    · rw [List.getElem?_set_ne (by omega), I.e i t ht, List.take_append_of_le_length (by omega)]
    · rw [List.getElem?_set_self (by rw [I.l2]; omega), List.take_append_of_le_length (Nat.le_refl _), List.take_length]
  · intro i t ht
    rcases at' i t ht with ⟨q, ht⟩ | ⟨rfl, rfl⟩
    · rw [List.getElem?_set_ne (by omega)]; exact I.h i t ht
    · rw [List.getElem?_set_self (by rw [I.l3]; omega)]
  · intro i s hs
    rcases sl' i s hs with ⟨q, hs⟩ | ⟨rfl, rfl⟩
    · obtain ⟨h1, h2⟩ := I.s1 i s hs
      refine ⟨h1, ?_⟩
      rw [List.getElem?_set_ne (fun e => hfree (by rw [e]; exact List.mem_of_getElem? hs))]
      exact h2
    · refine ⟨hlt, ?_⟩
      rw [List.getElem?_set_self (by rw [I.l4]; exact hlt), I.l5]
  · intro j hj hjs
    rw [List.mem_append, List.mem_singleton] at hjs
    rw [List.getElem?_set_ne (fun e => hjs (Or.inr e.symm))]
    exact I.s2 j hj (fun q => hjs (Or.inl q))
  · intro i t ht
    rcases at' i t ht with ⟨q, ht⟩ | ⟨rfl, rfl⟩
    · obtain ⟨d0, h1, h2⟩ := I.s3 i t ht
      refine ⟨d0, ?_, fun d' hd' => List.mem_append_left _ (h2 d' hd')⟩
      rw [List.getElem?_append_left (by rw [I.l5]; exact q)]; exact h1
    · refine ⟨d, ?_, fun d' hd' => List.mem_append_left _ (hused d' hd')⟩
      rw [← I.l5, List.getElem?_append_right (Nat.le_refl _)]; simp
  · intro i j t hi hj
    rcases at' i t hi with ⟨q, hi⟩ | ⟨e1, e2⟩
    · rcases at' j t hj with ⟨r, hj⟩ | ⟨e3, e4⟩
      · exact I.nd i j t hi hj
      · rw [e4] at hi; exact absurd hi (hnew i)
    · rcases at' j _ hj with ⟨r, hj⟩ | ⟨e3, -⟩
      · rw [e2] at hj; exact absurd hj (hnew j)
      · rw [e1, e3]
end
/-- a Names on the heap -/
def NH (Z : State) (h : Heap) (N ca ea ha ta : Addr) (chs es hs tb : List Int32) (n : Nat) : Prop :=
  Exa Z h N "com/example/vestledger/vestledger/account/Names" ∧ Fld Z h N "com/example/vestledger/vestledger/account/Names" "characters" "[C" (.ref ca) ∧ Fld Z h N "com/example/vestledger/vestledger/account/Names" "ends" "[I" (.ref ea) ∧ Fld Z h N "com/example/vestledger/vestledger/account/Names" "hashes" "[I" (.ref ha) ∧ Fld Z h N "com/example/vestledger/vestledger/account/Names" "table" "[I" (.ref ta) ∧ Fld Z h N "com/example/vestledger/vestledger/account/Names" "size" "I" (.int (Int32.ofNat n)) ∧
  AI Z h ca .char chs ∧ AI Z h ea .int es ∧ AI Z h ha .int hs ∧ AI Z h ta .int tb ∧ ea ≠ ha ∧ ea ≠ ta ∧ ha ≠ ta ∧ Z.heap.size ≤ N ∧ Z.heap.size ≤ ca ∧ Z.heap.size ≤ ea ∧ Z.heap.size ≤ ha ∧ Z.heap.size ≤ ta
theorem NH.keep {Z : State} {h h' : Heap} {N ca ea ha ta : Addr} {chs es hs tb : List Int32} {n : Nat} {ws : List Addr} (F : NH Z h N ca ea ha ta chs es hs tb n) (K : Keep h h' ws) (h1 : N ∉ ws) (h2 : ca ∉ ws) (h3 : ea ∉ ws) (h4 : ha ∉ ws) (h5 : ta ∉ ws) : NH Z h' N ca ea ha ta chs es hs tb n := by
  obtain ⟨f1, f2, f3, f4, f5, f6, f7, f8, f9, f10, r⟩ := F
  exact ⟨f1.keep K, f2.keep K h1, f3.keep K h1, f4.keep K h1, f5.keep K h1, f6.keep K h1, f7.keep K h2, f8.keep K h3, f9.keep K h4, f10.keep K h5, r⟩
theorem NH.ext {Z : State} {h h' : Heap} {N ca ea ha ta : Addr} {chs es hs tb : List Int32} {n : Nat} (F : NH Z h N ca ea ha ta chs es hs tb n) (E : Ext h h') : NH Z h' N ca ea ha ta chs es hs tb n := by
  obtain ⟨f1, f2, f3, f4, f5, f6, f7, f8, f9, f10, r⟩ := F
  exact ⟨f1.ext E, f2.ext E, f3.ext E, f4.ext E, f5.ext E, f6.ext E, f7.ext E, f8.ext E, f9.ext E, f10.ext E, r⟩
end Jvm.GoK
namespace Jvm.Pilot.@@N@@
open Jvm Jvm.ClassFile Sem Op Lib Jvm.Free Jvm.Stand Jvm.LawKit Jvm.RoadKit Bundle Jvm.GoK Jvm.Pilot.@@N@@.Jvm.D
def own_EL : List (String × Nat) := [("java/lang/String", 7)]
theorem own_atoms {Z : State} {a0 : Array Value} (hw : ∀ d ∈ tables_1, d.before a0 Z = true) : ∀ a ∈ Bundle.stringAtoms, a.before a0 Z = true := fun d hd => hw d ((by decide +kernel : ∀ d ∈ Bundle.stringAtoms, d ∈ tables_1) d hd)
theorem d0_0 : Dec jdk_42_method_152_code 0 (.getstatic 38) 3 3 := ⟨by decide +kernel, rfl⟩
theorem d0_3 : Brn jdk_42_method_152_code 3 (.ifCond .eq 10) 10 6 13 := ⟨by decide +kernel, rfl, by decide, by decide⟩
theorem d0_6 : Dec jdk_42_method_152_code 6 (.aload_n 0) 1 7 := ⟨by decide +kernel, rfl⟩
theorem d0_7 : Dec jdk_42_method_152_code 7 (.getfield 15) 3 10 := ⟨by decide +kernel, rfl⟩
theorem d0_10 : Brn jdk_42_method_152_code 10 (.goto 4) 4 13 14 := ⟨by decide +kernel, rfl, by decide, by decide⟩
theorem d0_14 : Dec jdk_42_method_152_code 14 (.ireturn) 1 15 := ⟨by decide +kernel, rfl⟩
theorem pn0 : plainName "java/lang/String" = true := by first | (simp [plainName, overriddenIn]; done) | decide +kernel
set_option maxRecDepth 65536 in
set_option maxHeartbeats 40000000 in
theorem c_coder (l : Launch) (Z : State) (a0 : Array Value) (hw : ∀ d ∈ tables_1, d.before a0 Z = true) (hEL : EW Z a0 own_EL) (x : Addr) (cs : List Int32) (b : Addr) (k : Int32) (S : Addr → Prop) (h0 : Heap) (F : Str Z h0 x cs b k) (zc : Int32) (Oc : Sta Z Z.heap "java/lang/String" "COMPACT_STRINGS" "Z" (.int zc)) (Pc : ¬ zc = 0) :
    Con l Z own_EL [] (⟨"java/lang/String", "coder", "()B"⟩ : MethodName) jdk_42_method_152_code 1 (some .byte) ({ frames := 0, cells := 0, slots := 0, locals := 0 } : Room) #[.ref x] S h0 (fun S' v h' => v = some (.int k) ∧ h0 = h') := by
  refine con_of_go (ls := #[.val (.ref x)]) (plainFor_of_name pn0) hEL (fun m => by first | rfl | (simp [entryFrame, mkF, argsToLocals, cat_int, cat_ref, cat_null, cat_long]; done)) (fun K => ?_)
  show Go _ _ _ _ _ _ _ _ _ _ _ _ _ 0 0 _ _ _
  refine go_gets (hw _ (List.mem_of_getElem? (i := 61) rfl)) Via.refl Oc d0_0 ?_
  refine go_ifeq d0_3 (fun c1001 => absurd c1001 (Pc)) (fun c1001 => ?_)
  refine go_aloadN d0_6 rfl rfl ?_
  refine go_getf (hw _ (List.mem_of_getElem? (i := 25) rfl)) Via.refl F.2.1 d0_7 ?_
  refine go_goto d0_10 ?_
  exact go_ireturn (ty := .byte) (v := k) d0_14 rfl (by simp) (nar_cod F.2.2.2.2.1) ⟨rfl, rfl⟩
theorem d1_0 : Dec jdk_42_method_154_code 0 (.getstatic 38) 3 3 := ⟨by decide +kernel, rfl⟩
theorem d1_3 : Brn jdk_42_method_154_code 3 (.ifCond .eq 14) 14 6 17 := ⟨by decide +kernel, rfl, by decide, by decide⟩
theorem d1_6 : Dec jdk_42_method_154_code 6 (.aload_n 0) 1 7 := ⟨by decide +kernel, rfl⟩
theorem d1_7 : Dec jdk_42_method_154_code 7 (.getfield 15) 3 10 := ⟨by decide +kernel, rfl⟩
theorem d1_10 : Brn jdk_42_method_154_code 10 (.ifCond .ne 7) 7 13 17 := ⟨by decide +kernel, rfl, by decide, by decide⟩
theorem d1_13 : Dec jdk_42_method_154_code 13 (.iconst 1) 1 14 := ⟨by decide +kernel, rfl⟩
theorem d1_14 : Brn jdk_42_method_154_code 14 (.goto 4) 4 17 18 := ⟨by decide +kernel, rfl, by decide, by decide⟩
theorem d1_18 : Dec jdk_42_method_154_code 18 (.ireturn) 1 19 := ⟨by decide +kernel, rfl⟩
theorem d1_17 : Dec jdk_42_method_154_code 17 (.iconst 0) 1 18 := ⟨by decide +kernel, rfl⟩
set_option maxRecDepth 65536 in
set_option maxHeartbeats 40000000 in
theorem c_lat (l : Launch) (Z : State) (a0 : Array Value) (hw : ∀ d ∈ tables_1, d.before a0 Z = true) (hEL : EW Z a0 own_EL) (x : Addr) (cs : List Int32) (b : Addr) (k : Int32) (S : Addr → Prop) (h0 : Heap) (F : Str Z h0 x cs b k) (zc : Int32) (Oc : Sta Z Z.heap "java/lang/String" "COMPACT_STRINGS" "Z" (.int zc)) (Pc : ¬ zc = 0) :
    Con l Z own_EL [] (⟨"java/lang/String", "isLatin1", "()Z"⟩ : MethodName) jdk_42_method_154_code 1 (some .boolean) ({ frames := 0, cells := 0, slots := 0, locals := 0 } : Room) #[.ref x] S h0 (fun S' v h' => v = some (.int ((1 : Int32) - k)) ∧ h0 = h') := by
  have F0 := F
  obtain ⟨-, -, -, -, hk, -⟩ := F0
  rcases hk with ⟨rfl, hk⟩ | ⟨rfl, hk⟩
  · refine con_of_go (ls := #[.val (.ref x)]) (plainFor_of_name pn0) hEL (fun m => by first | rfl | (simp [entryFrame, mkF, argsToLocals, cat_int, cat_ref, cat_null, cat_long]; done)) (fun K => ?_)
    show Go _ _ _ _ _ _ _ _ _ _ _ _ _ 0 0 _ _ _
    refine go_gets (hw _ (List.mem_of_getElem? (i := 61) rfl)) Via.refl Oc d1_0 ?_
    refine go_ifeq d1_3 (fun c1001 => absurd c1001 (Pc)) (fun c1001 => ?_)
    refine go_aloadN d1_6 rfl rfl ?_
    refine go_getf (hw _ (List.mem_of_getElem? (i := 25) rfl)) Via.refl F.2.1 d1_7 ?_
    refine go_ifne d1_10 (fun c1002 => absurd (rfl) c1002) (fun c1002 => ?_)
    refine go_iconst (x := (1 : Int32)) d1_13 (by decide) ?_
    refine go_goto d1_14 ?_
    exact go_ireturn (ty := .boolean) (v := (1 : Int32)) d1_18 rfl (by simp) rfl ⟨rfl, rfl⟩
  · refine con_of_go (ls := #[.val (.ref x)]) (plainFor_of_name pn0) hEL (fun m => by first | rfl | (simp [entryFrame, mkF, argsToLocals, cat_int, cat_ref, cat_null, cat_long]; done)) (fun K => ?_)
    show Go _ _ _ _ _ _ _ _ _ _ _ _ _ 0 0 _ _ _
    refine go_gets (hw _ (List.mem_of_getElem? (i := 61) rfl)) Via.refl Oc d1_0 ?_
    refine go_ifeq d1_3 (fun c1001 => absurd c1001 (Pc)) (fun c1001 => ?_)
    refine go_aloadN d1_6 rfl rfl ?_
    refine go_getf (hw _ (List.mem_of_getElem? (i := 25) rfl)) Via.refl F.2.1 d1_7 ?_
    refine go_ifne d1_10 (fun c1002 => ?_) (fun c1002 => absurd c1002 (by decide))
    refine go_iconst (x := (0 : Int32)) d1_17 (by decide) ?_
    exact go_ireturn (ty := .boolean) (v := (0 : Int32)) d1_18 rfl (by simp) rfl ⟨rfl, rfl⟩
theorem d2_0 : Dec jdk_42_method_54_code 0 (.aload_n 0) 1 1 := ⟨by decide +kernel, rfl⟩
theorem d2_1 : Dec jdk_42_method_54_code 1 (.getfield 9) 3 4 := ⟨by decide +kernel, rfl⟩
theorem d2_4 : Dec jdk_42_method_54_code 4 (.arraylength) 1 5 := ⟨by decide +kernel, rfl⟩
theorem d2_5 : Dec jdk_42_method_54_code 5 (.aload_n 0) 1 6 := ⟨by decide +kernel, rfl⟩
theorem d2_6 : Dec jdk_42_method_54_code 6 (.invokevirtual 335) 3 9 := ⟨by decide +kernel, rfl⟩
theorem pd0 : parseMethodDescriptor "()B" = some ⟨[], some .byte⟩ := by decide +kernel
theorem d2_9 : Dec jdk_42_method_54_code 9 (.ishr) 1 10 := ⟨by decide +kernel, rfl⟩
theorem d2_10 : Dec jdk_42_method_54_code 10 (.ireturn) 1 11 := ⟨by decide +kernel, rfl⟩
set_option maxRecDepth 65536 in
set_option maxHeartbeats 40000000 in
theorem c_len (l : Launch) (Z : State) (a0 : Array Value) (hw : ∀ d ∈ tables_1, d.before a0 Z = true) (hEL : EW Z a0 own_EL) (x : Addr) (cs : List Int32) (b : Addr) (k : Int32) (S : Addr → Prop) (h0 : Heap) (F : Str Z h0 x cs b k) (zc : Int32) (Oc : Sta Z Z.heap "java/lang/String" "COMPACT_STRINGS" "Z" (.int zc)) (Pc : ¬ zc = 0) :
    Con l Z own_EL [] (⟨"java/lang/String", "length", "()I"⟩ : MethodName) jdk_42_method_54_code 1 (some .int) ({ frames := 1, cells := 0, slots := 0, locals := 13 } : Room) #[.ref x] S h0 (fun S' v h' => v = some (.int (Int32.ofNat cs.length)) ∧ h0 = h') := by
  have F0 := F
  obtain ⟨-, -, -, -, hk, hch, hlen⟩ := F0
  rcases hk with ⟨rfl, hk⟩ | ⟨rfl, hk⟩
  · refine con_of_go (ls := #[.val (.ref x)]) (plainFor_of_name pn0) hEL (fun m => by first | rfl | (simp [entryFrame, mkF, argsToLocals, cat_int, cat_ref, cat_null, cat_long]; done)) (fun K => ?_)
    show Go _ _ _ _ _ _ _ _ _ _ _ _ _ 0 0 _ _ _
    refine go_aloadN d2_0 rfl rfl ?_
    refine go_getf (hw _ (List.mem_of_getElem? (i := 24) rfl)) Via.refl F.2.2.1 d2_1 ?_
    refine go_alen F.2.2.2.1 d2_4 (v := (Int32.ofNat cs.length)) (by rw [sbytes0]; simp) ?_
    refine go_aloadN d2_5 rfl rfl ?_
    refine go_virtual (R := ({ frames := 1, cells := 0, slots := 0, locals := 13 } : Room)) (kc := 0) (ks := 0) [] [.int (Int32.ofNat cs.length)] (c_coder l Z a0 hw hEL x _ _ _ S h0 F zc Oc Pc) F.1 (hw _ (List.mem_of_getElem? (i := 100) rfl)) (hw _ (List.mem_of_getElem? (i := 101) rfl)) (hw _ (List.mem_of_getElem? (i := 103) rfl)) (hw _ (List.mem_of_getElem? (i := 102) rfl)) (nfSel (hw _ (List.mem_of_getElem? (i := 103) rfl))) (hw _ (List.mem_of_getElem? (i := 104) rfl)) (hw _ (List.mem_of_getElem? (i := 6) rfl)) (by decide) rfl rfl (lenOf pd0 rfl) d2_6 (by rfl) (by decide) (Nat.le_of_ble_eq_true rfl) (rc := 0) (rs := 0) rfl rfl (fun S1001 v1001 h1001 m1001 z1001 q1001 => ?_)
    obtain ⟨rfl, rfl⟩ := q1001
    show Go _ _ _ _ _ _ _ _ _ _ _ _ _ _ _ _ _ (mkF K.m 9 #[.val (.ref x)] [.int (0 : Int32), .int (Int32.ofNat cs.length)])
    refine go_ishr (v := (Int32.ofNat cs.length)) d2_9 shr0 ?_
    exact go_ireturn (ty := .int) (v := (Int32.ofNat cs.length)) d2_10 rfl (by simp) rfl ⟨rfl, rfl⟩
  · refine con_of_go (ls := #[.val (.ref x)]) (plainFor_of_name pn0) hEL (fun m => by first | rfl | (simp [entryFrame, mkF, argsToLocals, cat_int, cat_ref, cat_null, cat_long]; done)) (fun K => ?_)
    show Go _ _ _ _ _ _ _ _ _ _ _ _ _ 0 0 _ _ _
    refine go_aloadN d2_0 rfl rfl ?_
    refine go_getf (hw _ (List.mem_of_getElem? (i := 24) rfl)) Via.refl F.2.2.1 d2_1 ?_
    refine go_alen F.2.2.2.1 d2_4 (v := (Int32.ofNat (2 * cs.length))) (by rw [sbytes1, flat_len]) ?_
    refine go_aloadN d2_5 rfl rfl ?_
    refine go_virtual (R := ({ frames := 1, cells := 0, slots := 0, locals := 13 } : Room)) (kc := 0) (ks := 0) [] [.int (Int32.ofNat (2 * cs.length))] (c_coder l Z a0 hw hEL x _ _ _ S h0 F zc Oc Pc) F.1 (hw _ (List.mem_of_getElem? (i := 100) rfl)) (hw _ (List.mem_of_getElem? (i := 101) rfl)) (hw _ (List.mem_of_getElem? (i := 103) rfl)) (hw _ (List.mem_of_getElem? (i := 102) rfl)) (nfSel (hw _ (List.mem_of_getElem? (i := 103) rfl))) (hw _ (List.mem_of_getElem? (i := 104) rfl)) (hw _ (List.mem_of_getElem? (i := 6) rfl)) (by decide) rfl rfl (lenOf pd0 rfl) d2_6 (by rfl) (by decide) (Nat.le_of_ble_eq_true rfl) (rc := 0) (rs := 0) rfl rfl (fun S1001 v1001 h1001 m1001 z1001 q1001 => ?_)
    obtain ⟨rfl, rfl⟩ := q1001
    show Go _ _ _ _ _ _ _ _ _ _ _ _ _ _ _ _ _ (mkF K.m 9 #[.val (.ref x)] [.int (1 : Int32), .int (Int32.ofNat (2 * cs.length))])
    refine go_ishr (v := (Int32.ofNat cs.length)) d2_9 (by rw [shr1 (by omega)]; congr 1; omega) ?_
    exact go_ireturn (ty := .int) (v := (Int32.ofNat cs.length)) d2_10 rfl (by simp) rfl ⟨rfl, rfl⟩
theorem d3_0 : Dec jdk_41_method_11_code 0 (.iload_n 0) 1 1 := ⟨by decide +kernel, rfl⟩
theorem d3_1 : Brn jdk_41_method_11_code 1 (.ifCond .lt 8) 8 4 9 := ⟨by decide +kernel, rfl, by decide, by decide⟩
theorem d3_4 : Dec jdk_41_method_11_code 4 (.iload_n 0) 1 5 := ⟨by decide +kernel, rfl⟩
theorem d3_5 : Dec jdk_41_method_11_code 5 (.iload_n 1) 1 6 := ⟨by decide +kernel, rfl⟩
theorem d3_6 : Brn jdk_41_method_11_code 6 (.if_icmp .lt 10) 10 9 16 := ⟨by decide +kernel, rfl, by decide, by decide⟩
theorem d3_16 : Dec jdk_41_method_11_code 16 (.iload_n 0) 1 17 := ⟨by decide +kernel, rfl⟩
theorem d3_17 : Dec jdk_41_method_11_code 17 (.ireturn) 1 18 := ⟨by decide +kernel, rfl⟩
theorem pn1 : plainName "jdk/internal/util/Preconditions" = true := by first | (simp [plainName, overriddenIn]; done) | decide +kernel
set_option maxRecDepth 65536 in
set_option maxHeartbeats 40000000 in
theorem c_pci (l : Launch) (Z : State) (a0 : Array Value) (hw : ∀ d ∈ tables_1, d.before a0 Z = true) (hEL : EW Z a0 own_EL) (i n : Nat) (hi : i < n) (hn : n < 2 ^ 31) (sf : Value) (rsf : sf.isRef = true) (S : Addr → Prop) (h0 : Heap) :
    Con l Z own_EL [] (⟨"jdk/internal/util/Preconditions", "checkIndex", "(IILjava/util/function/BiFunction;)I"⟩ : MethodName) jdk_41_method_11_code 3 (some .int) ({ frames := 0, cells := 0, slots := 0, locals := 0 } : Room) #[.int (Int32.ofNat i), .int (Int32.ofNat n), sf] S h0 (fun S' v h' => v = some (.int (Int32.ofNat i)) ∧ h0 = h') := by
  refine con_of_go (ls := #[.val (.int (Int32.ofNat i)), .val (.int (Int32.ofNat n)), .val (sf)]) (plainFor_of_name pn1) hEL (fun m => by first | rfl | (simp [entryFrame, mkF, argsToLocals, cat_int, cat_ref, cat_null, cat_long, XT.cat1 rsf]; done)) (fun K => ?_)
  show Go _ _ _ _ _ _ _ _ _ _ _ _ _ 0 0 _ _ _
  refine go_iloadN d3_0 rfl ?_
  refine go_iflt d3_1 (fun c1001 => absurd c1001 (ofNat_nlt (n := 0) (by omega) (by omega))) (fun c1001 => ?_)
  refine go_iloadN d3_4 rfl ?_
  refine go_iloadN d3_5 rfl ?_
  refine go_icmplt d3_6 (fun c1002 => ?_) (fun c1002 => absurd (ofNat_lt hi hn) c1002)
  refine go_iloadN d3_16 rfl ?_
  exact go_ireturn (ty := .int) (v := (Int32.ofNat i)) d3_17 rfl (by simp) rfl ⟨rfl, rfl⟩
theorem d4_0 : Dec jdk_42_method_155_code 0 (.iload_n 0) 1 1 := ⟨by decide +kernel, rfl⟩
theorem d4_1 : Dec jdk_42_method_155_code 1 (.iload_n 1) 1 2 := ⟨by decide +kernel, rfl⟩
theorem d4_2 : Dec jdk_42_method_155_code 2 (.getstatic 1053) 3 5 := ⟨by decide +kernel, rfl⟩
theorem d4_5 : Dec jdk_42_method_155_code 5 (.invokestatic 1059) 3 8 := ⟨by decide +kernel, rfl⟩
theorem pd1 : parseMethodDescriptor "(IILjava/util/function/BiFunction;)I" = some ⟨[.int, .int, (.object "java/util/function/BiFunction")], some .int⟩ := by decide +kernel
theorem d4_8 : Dec jdk_42_method_155_code 8 (.pop) 1 9 := ⟨by decide +kernel, rfl⟩
theorem d4_9 : Dec jdk_42_method_155_code 9 (.return_) 1 10 := ⟨by decide +kernel, rfl⟩
set_option maxRecDepth 65536 in
set_option maxHeartbeats 40000000 in
theorem c_sci (l : Launch) (Z : State) (a0 : Array Value) (hw : ∀ d ∈ tables_1, d.before a0 Z = true) (hEL : EW Z a0 own_EL) (i n : Nat) (hi : i < n) (hn : n < 2 ^ 31) (sf : Value) (rsf : sf.isRef = true) (Os : Sta Z Z.heap "jdk/internal/util/Preconditions" "SIOOBE_FORMATTER" "Ljava/util/function/BiFunction;" sf) (S : Addr → Prop) (h0 : Heap) :
    Con l Z own_EL [] (⟨"java/lang/String", "checkIndex", "(II)V"⟩ : MethodName) jdk_42_method_155_code 2 (none : Option FieldType) ({ frames := 1, cells := 0, slots := 0, locals := 14 } : Room) #[.int (Int32.ofNat i), .int (Int32.ofNat n)] S h0 (fun S' v h' => v = none ∧ h0 = h') := by
  refine con_of_go (ls := #[.val (.int (Int32.ofNat i)), .val (.int (Int32.ofNat n))]) (plainFor_of_name pn0) hEL (fun m => by first | rfl | (simp [entryFrame, mkF, argsToLocals, cat_int, cat_ref, cat_null, cat_long]; done)) (fun K => ?_)
  show Go _ _ _ _ _ _ _ _ _ _ _ _ _ 0 0 _ _ _
  refine go_iloadN d4_0 rfl ?_
  refine go_iloadN d4_1 rfl ?_
  refine go_gets (hw _ (List.mem_of_getElem? (i := 114) rfl)) Via.refl Os d4_2 ?_
  refine go_static (R := ({ frames := 1, cells := 0, slots := 0, locals := 14 } : Room)) (kc := 0) (ks := 0) [.int (Int32.ofNat i), .int (Int32.ofNat n), sf] [] (c_pci l Z a0 hw hEL i n hi hn sf rsf S h0) (hw _ (List.mem_of_getElem? (i := 181) rfl)) (hw _ (List.mem_of_getElem? (i := 182) rfl)) (hw _ (List.mem_of_getElem? (i := 183) rfl)) (hw _ (List.mem_of_getElem? (i := 115) rfl)) (by decide) rfl rfl (lenOf pd1 rfl) d4_5 (by rfl) (by decide) (Nat.le_of_ble_eq_true rfl) (rc := 0) (rs := 0) rfl rfl (fun S1001 v1001 h1001 m1001 z1001 q1001 => ?_)
  obtain ⟨rfl, rfl⟩ := q1001
  show Go _ _ _ _ _ _ _ _ _ _ _ _ _ _ _ _ _ (mkF K.m 8 #[.val (.int (Int32.ofNat i)), .val (.int (Int32.ofNat n))] [.int (Int32.ofNat i)])
  refine go_pop d4_8 rfl ?_
  exact go_return d4_9 rfl ⟨rfl, rfl⟩
theorem d5_0 : Dec jdk_43_method_2_code 0 (.iload_n 1) 1 1 := ⟨by decide +kernel, rfl⟩
theorem d5_1 : Dec jdk_43_method_2_code 1 (.aload_n 0) 1 2 := ⟨by decide +kernel, rfl⟩
theorem d5_2 : Dec jdk_43_method_2_code 2 (.arraylength) 1 3 := ⟨by decide +kernel, rfl⟩
theorem d5_3 : Dec jdk_43_method_2_code 3 (.invokestatic 9) 3 6 := ⟨by decide +kernel, rfl⟩
theorem pd2 : parseMethodDescriptor "(II)V" = some ⟨[.int, .int], none⟩ := by decide +kernel
theorem d5_6 : Dec jdk_43_method_2_code 6 (.aload_n 0) 1 7 := ⟨by decide +kernel, rfl⟩
theorem d5_7 : Dec jdk_43_method_2_code 7 (.iload_n 1) 1 8 := ⟨by decide +kernel, rfl⟩
theorem d5_8 : Dec jdk_43_method_2_code 8 (.baload) 1 9 := ⟨by decide +kernel, rfl⟩
theorem d5_9 : Dec jdk_43_method_2_code 9 (.sipush 255) 3 12 := ⟨by decide +kernel, rfl⟩
theorem d5_12 : Dec jdk_43_method_2_code 12 (.iand) 1 13 := ⟨by decide +kernel, rfl⟩
theorem d5_13 : Dec jdk_43_method_2_code 13 (.i2c) 1 14 := ⟨by decide +kernel, rfl⟩
theorem d5_14 : Dec jdk_43_method_2_code 14 (.ireturn) 1 15 := ⟨by decide +kernel, rfl⟩
theorem pn2 : plainName "java/lang/StringLatin1" = true := by first | (simp [plainName, overriddenIn]; done) | decide +kernel
set_option maxRecDepth 65536 in
set_option maxHeartbeats 40000000 in
theorem c_l1ch (l : Launch) (Z : State) (a0 : Array Value) (hw : ∀ d ∈ tables_1, d.before a0 Z = true) (hEL : EW Z a0 own_EL) (b : Addr) (cs : List Int32) (i : Nat) (c : Int32) (hc : cs[i]? = some c) (hc1 : isCh c) (hc2 : ¬ (255 : Int32) < c) (S : Addr → Prop) (h0 : Heap) (A : AI Z h0 b .byte (cs.map lo8)) (sf : Value) (rsf : sf.isRef = true) (Os : Sta Z Z.heap "jdk/internal/util/Preconditions" "SIOOBE_FORMATTER" "Ljava/util/function/BiFunction;" sf) :
    Con l Z own_EL [] (⟨"java/lang/StringLatin1", "charAt", "([BI)C"⟩ : MethodName) jdk_43_method_2_code 2 (some .char) ({ frames := 2, cells := 0, slots := 0, locals := 27 } : Room) #[.ref b, .int (Int32.ofNat i)] S h0 (fun S' v h' => v = some (.int c) ∧ h0 = h') := by
  refine con_of_go (ls := #[.val (.ref b), .val (.int (Int32.ofNat i))]) (plainFor_of_name pn2) hEL (fun m => by first | rfl | (simp [entryFrame, mkF, argsToLocals, cat_int, cat_ref, cat_null, cat_long]; done)) (fun K => ?_)
  show Go _ _ _ _ _ _ _ _ _ _ _ _ _ 0 0 _ _ _
  refine go_iloadN d5_0 rfl ?_
  refine go_aloadN d5_1 rfl rfl ?_
  refine go_alen A d5_2 (v := (Int32.ofNat cs.length)) (by simp) ?_
  refine go_static (R := ({ frames := 2, cells := 0, slots := 0, locals := 27 } : Room)) (kc := 0) (ks := 0) [.int (Int32.ofNat i), .int (Int32.ofNat cs.length)] [] (c_sci l Z a0 hw hEL i cs.length (List.getElem?_eq_some_iff.mp hc).1 (by have := A.len; simpa using this) sf rsf Os S h0) (hw _ (List.mem_of_getElem? (i := 178) rfl)) (hw _ (List.mem_of_getElem? (i := 179) rfl)) (hw _ (List.mem_of_getElem? (i := 180) rfl)) (hw _ (List.mem_of_getElem? (i := 6) rfl)) (by decide) rfl rfl (lenOf pd2 rfl) d5_3 (by rfl) (by decide) (Nat.le_of_ble_eq_true rfl) (rc := 0) (rs := 0) rfl rfl (fun S1001 v1001 h1001 m1001 z1001 q1001 => ?_)
  obtain ⟨rfl, rfl⟩ := q1001
  show Go _ _ _ _ _ _ _ _ _ _ _ _ _ _ _ _ _ (mkF K.m 6 #[.val (.ref b), .val (.int (Int32.ofNat i))] [])
  refine go_aloadN d5_6 rfl rfl ?_
  refine go_iloadN d5_7 rfl ?_
  refine go_baload (x := (lo8 c)) A (i := i) rfl (by rw [List.getElem?_map, hc]; rfl) d5_8 ?_
  refine go_sipush (x := (255 : Int32)) d5_9 (by decide) ?_
  refine go_iand (v := c) d5_12 (lat_mask hc1 hc2) ?_
  refine go_i2c (v := c) d5_13 (i2c_ch hc1) ?_
  exact go_ireturn (ty := .char) (v := c) d5_14 rfl (by simp) (congrArg Value.int (i2c_ch hc1)) ⟨rfl, rfl⟩
theorem d6_0 : Dec jdk_42_method_56_code 0 (.aload_n 0) 1 1 := ⟨by decide +kernel, rfl⟩
theorem d6_1 : Dec jdk_42_method_56_code 1 (.invokevirtual 492) 3 4 := ⟨by decide +kernel, rfl⟩
theorem pd3 : parseMethodDescriptor "()Z" = some ⟨[], some .boolean⟩ := by decide +kernel
theorem d6_4 : Brn jdk_42_method_56_code 4 (.ifCond .eq 12) 12 7 16 := ⟨by decide +kernel, rfl, by decide, by decide⟩
theorem d6_7 : Dec jdk_42_method_56_code 7 (.aload_n 0) 1 8 := ⟨by decide +kernel, rfl⟩
theorem d6_8 : Dec jdk_42_method_56_code 8 (.getfield 9) 3 11 := ⟨by decide +kernel, rfl⟩
theorem d6_11 : Dec jdk_42_method_56_code 11 (.iload_n 1) 1 12 := ⟨by decide +kernel, rfl⟩
theorem d6_12 : Dec jdk_42_method_56_code 12 (.invokestatic 495) 3 15 := ⟨by decide +kernel, rfl⟩
theorem pd4 : parseMethodDescriptor "([BI)C" = some ⟨[(.array .byte), .int], some .char⟩ := by decide +kernel
theorem d6_15 : Dec jdk_42_method_56_code 15 (.ireturn) 1 16 := ⟨by decide +kernel, rfl⟩
set_option maxRecDepth 65536 in
set_option maxHeartbeats 40000000 in
theorem c_chat (l : Launch) (Z : State) (a0 : Array Value) (hw : ∀ d ∈ tables_1, d.before a0 Z = true) (hEL : EW Z a0 own_EL) (x : Addr) (cs : List Int32) (b : Addr) (k : Int32) (S : Addr → Prop) (h0 : Heap) (F : Str Z h0 x cs b k) (i : Nat) (c : Int32) (hc : cs[i]? = some c) (zc : Int32) (Oc : Sta Z Z.heap "java/lang/String" "COMPACT_STRINGS" "Z" (.int zc)) (Pc : ¬ zc = 0) (sf : Value) (rsf : sf.isRef = true) (Os : Sta Z Z.heap "jdk/internal/util/Preconditions" "SIOOBE_FORMATTER" "Ljava/util/function/BiFunction;" sf) (k0 : k = 0) :
    Con l Z own_EL [] (⟨"java/lang/String", "charAt", "(I)C"⟩ : MethodName) jdk_42_method_56_code 2 (some .char) ({ frames := 3, cells := 0, slots := 0, locals := 40 } : Room) #[.ref x, .int (Int32.ofNat i)] S h0 (fun S' v h' => v = some (.int c) ∧ h0 = h') := by
  subst k0
  have F0 := F
  obtain ⟨-, -, -, -, hk, hch, hlen⟩ := F0
  rcases hk with ⟨-, hk⟩ | ⟨hk, -⟩
  rotate_left
  · exact absurd hk (by decide)
  · refine con_of_go (ls := #[.val (.ref x), .val (.int (Int32.ofNat i))]) (plainFor_of_name pn0) hEL (fun m => by first | rfl | (simp [entryFrame, mkF, argsToLocals, cat_int, cat_ref, cat_null, cat_long]; done)) (fun K => ?_)
    show Go _ _ _ _ _ _ _ _ _ _ _ _ _ 0 0 _ _ _
    have hc2 : ¬ (255 : Int32) < c := hk c (List.mem_of_getElem? hc)
    have hc1 : isCh c := hch c (List.mem_of_getElem? hc)
    refine go_aloadN d6_0 rfl rfl ?_
    refine go_virtual (R := ({ frames := 3, cells := 0, slots := 0, locals := 40 } : Room)) (kc := 0) (ks := 0) [] [] (c_lat l Z a0 hw hEL x _ _ _ S h0 F zc Oc Pc) F.1 (hw _ (List.mem_of_getElem? (i := 56) rfl)) (hw _ (List.mem_of_getElem? (i := 57) rfl)) (hw _ (List.mem_of_getElem? (i := 59) rfl)) (hw _ (List.mem_of_getElem? (i := 58) rfl)) (nfSel (hw _ (List.mem_of_getElem? (i := 59) rfl))) (hw _ (List.mem_of_getElem? (i := 60) rfl)) (hw _ (List.mem_of_getElem? (i := 6) rfl)) (by decide) rfl rfl (lenOf pd3 rfl) d6_1 (by rfl) (by decide) (Nat.le_of_ble_eq_true rfl) (rc := 0) (rs := 0) rfl rfl (fun S1001 v1001 h1001 m1001 z1001 q1001 => ?_)
    obtain ⟨rfl, rfl⟩ := q1001
    show Go _ _ _ _ _ _ _ _ _ _ _ _ _ _ _ _ _ (mkF K.m 4 #[.val (.ref x), .val (.int (Int32.ofNat i))] [.int ((1 : Int32) - (0 : Int32))])
    refine go_ifeq d6_4 (fun c1002 => absurd c1002 (by decide)) (fun c1002 => ?_)
    refine go_aloadN d6_7 rfl rfl ?_
    refine go_getf (hw _ (List.mem_of_getElem? (i := 24) rfl)) Via.refl F.2.2.1 d6_8 ?_
    refine go_iloadN d6_11 rfl ?_
    refine go_static (R := ({ frames := 3, cells := 0, slots := 0, locals := 40 } : Room)) (kc := 0) (ks := 0) [.ref b, .int (Int32.ofNat i)] [] (c_l1ch l Z a0 hw hEL b cs i c hc hc1 hc2 S1001 h0 F.2.2.2.1 sf rsf Os) (hw _ (List.mem_of_getElem? (i := 175) rfl)) (hw _ (List.mem_of_getElem? (i := 176) rfl)) (hw _ (List.mem_of_getElem? (i := 177) rfl)) (hw _ (List.mem_of_getElem? (i := 64) rfl)) (by decide) rfl rfl (lenOf pd4 rfl) d6_12 (by rfl) (by decide) (Nat.le_of_ble_eq_true rfl) (rc := 0) (rs := 0) rfl rfl (fun S1003 v1003 h1003 m1003 z1003 q1003 => ?_)
    obtain ⟨rfl, rfl⟩ := q1003
    show Go _ _ _ _ _ _ _ _ _ _ _ _ _ _ _ _ _ (mkF K.m 15 #[.val (.ref x), .val (.int (Int32.ofNat i))] [.int c])
    exact go_ireturn (ty := .char) (v := c) d6_15 rfl (by simp) (congrArg Value.int (i2c_ch hc1)) ⟨rfl, rfl⟩
theorem d7_0 : Dec jdk_48_method_5_code 0 (.iload_n 2) 1 1 := ⟨by decide +kernel, rfl⟩
theorem d7_1 : Dec jdk_48_method_5_code 1 (.iload_n 3) 1 2 := ⟨by decide +kernel, rfl⟩
theorem d7_2 : Dec jdk_48_method_5_code 2 (.iadd) 1 3 := ⟨by decide +kernel, rfl⟩
theorem d7_3 : Dec jdk_48_method_5_code 3 (.istore 4) 2 5 := ⟨by decide +kernel, rfl⟩
theorem d7_5 : Dec jdk_48_method_5_code 5 (.iload_n 2) 1 6 := ⟨by decide +kernel, rfl⟩
theorem d7_6 : Dec jdk_48_method_5_code 6 (.istore 5) 2 8 := ⟨by decide +kernel, rfl⟩
theorem d7_8 : Dec jdk_48_method_5_code 8 (.iload 5) 2 10 := ⟨by decide +kernel, rfl⟩
theorem d7_10 : Dec jdk_48_method_5_code 10 (.iload 4) 2 12 := ⟨by decide +kernel, rfl⟩
theorem d7_12 : Brn jdk_48_method_5_code 12 (.if_icmp .ge 23) 23 15 35 := ⟨by decide +kernel, rfl, by decide, by decide⟩
theorem d7_35 : Dec jdk_48_method_5_code 35 (.iload_n 0) 1 36 := ⟨by decide +kernel, rfl⟩
theorem d7_36 : Dec jdk_48_method_5_code 36 (.ireturn) 1 37 := ⟨by decide +kernel, rfl⟩
theorem d7_15 : Dec jdk_48_method_5_code 15 (.bipush 31) 2 17 := ⟨by decide +kernel, rfl⟩
theorem d7_17 : Dec jdk_48_method_5_code 17 (.iload_n 0) 1 18 := ⟨by decide +kernel, rfl⟩
theorem d7_18 : Dec jdk_48_method_5_code 18 (.imul) 1 19 := ⟨by decide +kernel, rfl⟩
theorem d7_19 : Dec jdk_48_method_5_code 19 (.aload_n 1) 1 20 := ⟨by decide +kernel, rfl⟩
theorem d7_20 : Dec jdk_48_method_5_code 20 (.iload 5) 2 22 := ⟨by decide +kernel, rfl⟩
theorem d7_22 : Dec jdk_48_method_5_code 22 (.baload) 1 23 := ⟨by decide +kernel, rfl⟩
theorem d7_23 : Dec jdk_48_method_5_code 23 (.sipush 255) 3 26 := ⟨by decide +kernel, rfl⟩
theorem d7_26 : Dec jdk_48_method_5_code 26 (.iand) 1 27 := ⟨by decide +kernel, rfl⟩
theorem d7_27 : Dec jdk_48_method_5_code 27 (.iadd) 1 28 := ⟨by decide +kernel, rfl⟩
theorem d7_28 : Dec jdk_48_method_5_code 28 (.istore_n 0) 1 29 := ⟨by decide +kernel, rfl⟩
theorem d7_29 : Dec jdk_48_method_5_code 29 (.iinc 5 1) 3 32 := ⟨by decide +kernel, rfl⟩
theorem d7_32 : Brn jdk_48_method_5_code 32 (.goto (-24)) (-24) 35 8 := ⟨by decide +kernel, rfl, by decide, by decide⟩
theorem pn3 : plainName "jdk/internal/util/ArraysSupport" = true := by first | (simp [plainName, overriddenIn]; done) | decide +kernel
set_option maxRecDepth 65536 in
set_option maxHeartbeats 40000000 in
theorem c_shc (l : Launch) (Z : State) (a0 : Array Value) (hw : ∀ d ∈ tables_1, d.before a0 Z = true) (hEL : EW Z a0 own_EL) (b : Addr) (xs : List Int32) (S : Addr → Prop) (h0 : Heap) (A : AI Z h0 b .byte xs) :
    Con l Z own_EL [] (⟨"jdk/internal/util/ArraysSupport", "signedHashCode", "(I[BII)I"⟩ : MethodName) jdk_48_method_5_code 6 (some .int) ({ frames := 0, cells := 0, slots := 0, locals := 0 } : Room) #[.int (0 : Int32), .ref b, .int (0 : Int32), .int (Int32.ofNat xs.length)] S h0 (fun S' v h' => v = some (.int (hcB xs)) ∧ h0 = h') := by
  refine con_of_go (ls := #[.val (.int (0 : Int32)), .val (.ref b), .val (.int (0 : Int32)), .val (.int (Int32.ofNat xs.length)), .unset, .unset]) (plainFor_of_name pn3) hEL (fun m => by first | rfl | (simp [entryFrame, mkF, argsToLocals, cat_int, cat_ref, cat_null, cat_long]; done)) (fun K => ?_)
  show Go _ _ _ _ _ _ _ _ _ _ _ _ _ 0 0 _ _ _
  have hlen := A.len
  refine go_iloadN d7_0 rfl ?_
  refine go_iloadN d7_1 rfl ?_
  refine go_iadd (v := (Int32.ofNat xs.length)) d7_2 (Int32.zero_add _) ?_
  refine go_istore d7_3 (l' := #[.val (.int (0 : Int32)), .val (.ref b), .val (.int (0 : Int32)), .val (.int (Int32.ofNat xs.length)), .val (.int (Int32.ofNat xs.length)), .unset]) rfl ?_
  refine go_iloadN d7_5 rfl ?_
  refine go_istore d7_6 (l' := #[.val (.int (0 : Int32)), .val (.ref b), .val (.int (0 : Int32)), .val (.int (Int32.ofNat xs.length)), .val (.int (Int32.ofNat xs.length)), .val (.int (0 : Int32))]) rfl ?_
  have loop : ∀ r i, i + r = xs.length → Go l Z a0 own_EL ({ frames := 0, cells := 0, slots := 0, locals := 0 } : Room) "jdk/internal/util/ArraysSupport" jdk_48_method_5_code 6 (some .int) "signedHashCode" S (fun S' v h' => v = some (.int (hcB xs)) ∧ h0 = h') K 0 0 S h0 (mkF K.m 8 #[.val (.int (hcB (xs.take i))), .val (.ref b), .val (.int (0 : Int32)), .val (.int (Int32.ofNat xs.length)), .val (.int (Int32.ofNat xs.length)), .val (.int (Int32.ofNat i))] []) := by
    intro r
    induction r with
    | zero =>
      intro i hi
      refine go_iload d7_8 rfl ?_
      refine go_iload d7_10 rfl ?_
      refine go_icmpge d7_12 (fun c1001 => ?_) (fun c1001 => absurd c1001 (ofNat_nlt (by omega) (by omega)))
      refine go_iloadN d7_35 rfl ?_
      exact go_ireturn (ty := .int) (v := (hcB (xs.take i))) d7_36 rfl (by simp) rfl ⟨by rw [show xs.take i = xs by rw [show i = xs.length by omega, List.take_length]], rfl⟩
    | succ r ih =>
      intro i hi
      obtain ⟨c, hc⟩ : ∃ c, xs[i]? = some c := ⟨_, List.getElem?_eq_getElem (by omega)⟩
      refine go_iload d7_8 rfl ?_
      refine go_iload d7_10 rfl ?_
      refine go_icmpge d7_12 (fun c1002 => absurd (ofNat_lt (by omega) (by omega)) c1002) (fun c1002 => ?_)
      refine go_bipush (x := (31 : Int32)) d7_15 (by decide) ?_
      refine go_iloadN d7_17 rfl ?_
      refine go_imul d7_18 rfl ?_
      refine go_aloadN d7_19 rfl rfl ?_
      refine go_iload d7_20 rfl ?_
      refine go_baload (x := c) A (i := i) rfl hc d7_22 ?_
      refine go_sipush (x := (255 : Int32)) d7_23 (by decide) ?_
      refine go_iand d7_26 rfl ?_
      refine go_iadd (v := (hcB (xs.take (i + 1)))) d7_27 (hcB_take hc).symm ?_
      refine go_istoreN d7_28 (l' := #[.val (.int (hcB (xs.take (i + 1)))), .val (.ref b), .val (.int (0 : Int32)), .val (.int (Int32.ofNat xs.length)), .val (.int (Int32.ofNat xs.length)), .val (.int (Int32.ofNat i))]) rfl ?_
      refine go_iinc d7_29 rfl (v := (Int32.ofNat (i + 1))) (ofNat_inc i) (l' := #[.val (.int (hcB (xs.take (i + 1)))), .val (.ref b), .val (.int (0 : Int32)), .val (.int (Int32.ofNat xs.length)), .val (.int (Int32.ofNat xs.length)), .val (.int (Int32.ofNat (i + 1)))]) rfl ?_
      refine go_goto d7_32 ?_
      exact ih (i + 1) (by omega)
  exact loop xs.length 0 (by omega)
theorem d8_0 : Dec jdk_48_method_4_code 0 (.iload 4) 2 2 := ⟨by decide +kernel, rfl⟩
theorem own_tsw : decode jdk_48_method_4_code 2 = .ok (.tableswitch 127 4 10 #[42, 55, 127, 127, 88, 101, 114], 42) := by decide +kernel
theorem d8_44 : Dec jdk_48_method_4_code 44 (.iload_n 3) 1 45 := ⟨by decide +kernel, rfl⟩
theorem d8_45 : Dec jdk_48_method_4_code 45 (.aload_n 0) 1 46 := ⟨by decide +kernel, rfl⟩
theorem d8_46 : Dec jdk_48_method_4_code 46 (.checkcast 60) 3 49 := ⟨by decide +kernel, rfl⟩
theorem d8_49 : Dec jdk_48_method_4_code 49 (.iload_n 1) 1 50 := ⟨by decide +kernel, rfl⟩
theorem d8_50 : Dec jdk_48_method_4_code 50 (.iload_n 2) 1 51 := ⟨by decide +kernel, rfl⟩
theorem d8_51 : Dec jdk_48_method_4_code 51 (.invokestatic 62) 3 54 := ⟨by decide +kernel, rfl⟩
theorem pd5 : parseMethodDescriptor "(I[BII)I" = some ⟨[.int, (.array .byte), .int, .int], some .int⟩ := by decide +kernel
theorem d8_54 : Brn jdk_48_method_4_code 54 (.goto 103) 103 57 157 := ⟨by decide +kernel, rfl, by decide, by decide⟩
theorem d8_157 : Dec jdk_48_method_4_code 157 (.ireturn) 1 158 := ⟨by decide +kernel, rfl⟩
set_option maxRecDepth 65536 in
set_option maxHeartbeats 40000000 in
theorem c_vhc (l : Launch) (Z : State) (a0 : Array Value) (hw : ∀ d ∈ tables_1, d.before a0 Z = true) (hEL : EW Z a0 own_EL) (b : Addr) (xs : List Int32) (S : Addr → Prop) (h0 : Heap) (A : AI Z h0 b .byte xs) (E : Exa Z h0 b "[B") :
    Con l Z own_EL [] (⟨"jdk/internal/util/ArraysSupport", "vectorizedHashCode", "(Ljava/lang/Object;IIII)I"⟩ : MethodName) jdk_48_method_4_code 5 (some .int) ({ frames := 1, cells := 0, slots := 0, locals := 18 } : Room) #[.ref b, .int (0 : Int32), .int (Int32.ofNat xs.length), .int (0 : Int32), .int (4 : Int32)] S h0 (fun S' v h' => v = some (.int (hcB xs)) ∧ h0 = h') := by
  refine con_of_go (ls := #[.val (.ref b), .val (.int (0 : Int32)), .val (.int (Int32.ofNat xs.length)), .val (.int (0 : Int32)), .val (.int (4 : Int32))]) (plainFor_of_name pn3) hEL (fun m => by first | rfl | (simp [entryFrame, mkF, argsToLocals, cat_int, cat_ref, cat_null, cat_long]; done)) (fun K => ?_)
  show Go _ _ _ _ _ _ _ _ _ _ _ _ _ 0 0 _ _ _
  refine go_iload d8_0 rfl ?_
  refine go_tswIn own_tsw (by decide) (off := 42) (by decide) (by decide) (t := 44) (by decide) ?_
  refine go_iloadN d8_44 rfl ?_
  refine go_aloadN d8_45 rfl rfl ?_
  refine go_cast (hw _ (List.mem_of_getElem? (i := 165) rfl)) (Ins.self E) d8_46 ?_
  refine go_iloadN d8_49 rfl ?_
  refine go_iloadN d8_50 rfl ?_
  refine go_static (R := ({ frames := 1, cells := 0, slots := 0, locals := 18 } : Room)) (kc := 0) (ks := 0) [.int (0 : Int32), .ref b, .int (0 : Int32), .int (Int32.ofNat xs.length)] [] (c_shc l Z a0 hw hEL b _ S h0 A) (hw _ (List.mem_of_getElem? (i := 167) rfl)) (hw _ (List.mem_of_getElem? (i := 168) rfl)) (hw _ (List.mem_of_getElem? (i := 169) rfl)) (hw _ (List.mem_of_getElem? (i := 163) rfl)) (by decide) rfl rfl (lenOf pd5 rfl) d8_51 (by rfl) (by decide) (Nat.le_of_ble_eq_true rfl) (rc := 0) (rs := 0) rfl rfl (fun S1001 v1001 h1001 m1001 z1001 q1001 => ?_)
  obtain ⟨rfl, rfl⟩ := q1001
  show Go _ _ _ _ _ _ _ _ _ _ _ _ _ _ _ _ _ (mkF K.m 54 #[.val (.ref b), .val (.int (0 : Int32)), .val (.int (Int32.ofNat xs.length)), .val (.int (0 : Int32)), .val (.int (4 : Int32))] [.int (hcB xs)])
  refine go_goto d8_54 ?_
  exact go_ireturn (ty := .int) (v := (hcB xs)) d8_157 rfl (by simp) rfl ⟨rfl, rfl⟩
theorem own_lsw : decode jdk_43_method_21_code 2 = .ok (.lookupswitch 40 #[(0, 26), (1, 30)], 26) := by decide +kernel
theorem own_lswN {n : Nat} (h : 2 ≤ n) (hn : n < 2 ^ 31) : (#[((0 : Int), (26 : Int)), (1, 30)]).find? (·.1 == (Int32.ofNat n).toInt) = none := by
  rw [Int32.toInt_ofNat_of_lt (by omega)]
  simp; omega
theorem d9_0 : Dec jdk_43_method_21_code 0 (.aload_n 0) 1 1 := ⟨by decide +kernel, rfl⟩
theorem d9_1 : Dec jdk_43_method_21_code 1 (.arraylength) 1 2 := ⟨by decide +kernel, rfl⟩
theorem d9_28 : Dec jdk_43_method_21_code 28 (.iconst 0) 1 29 := ⟨by decide +kernel, rfl⟩
theorem d9_29 : Brn jdk_43_method_21_code 29 (.goto 22) 22 32 51 := ⟨by decide +kernel, rfl, by decide, by decide⟩
theorem d9_51 : Dec jdk_43_method_21_code 51 (.ireturn) 1 52 := ⟨by decide +kernel, rfl⟩
theorem d9_32 : Dec jdk_43_method_21_code 32 (.aload_n 0) 1 33 := ⟨by decide +kernel, rfl⟩
theorem d9_33 : Dec jdk_43_method_21_code 33 (.iconst 0) 1 34 := ⟨by decide +kernel, rfl⟩
theorem d9_34 : Dec jdk_43_method_21_code 34 (.baload) 1 35 := ⟨by decide +kernel, rfl⟩
theorem d9_35 : Dec jdk_43_method_21_code 35 (.sipush 255) 3 38 := ⟨by decide +kernel, rfl⟩
theorem d9_38 : Dec jdk_43_method_21_code 38 (.iand) 1 39 := ⟨by decide +kernel, rfl⟩
theorem d9_39 : Brn jdk_43_method_21_code 39 (.goto 12) 12 42 51 := ⟨by decide +kernel, rfl, by decide, by decide⟩
theorem d9_42 : Dec jdk_43_method_21_code 42 (.aload_n 0) 1 43 := ⟨by decide +kernel, rfl⟩
theorem d9_43 : Dec jdk_43_method_21_code 43 (.iconst 0) 1 44 := ⟨by decide +kernel, rfl⟩
theorem d9_44 : Dec jdk_43_method_21_code 44 (.aload_n 0) 1 45 := ⟨by decide +kernel, rfl⟩
theorem d9_45 : Dec jdk_43_method_21_code 45 (.arraylength) 1 46 := ⟨by decide +kernel, rfl⟩
theorem d9_46 : Dec jdk_43_method_21_code 46 (.iconst 0) 1 47 := ⟨by decide +kernel, rfl⟩
theorem d9_47 : Dec jdk_43_method_21_code 47 (.iconst 4) 1 48 := ⟨by decide +kernel, rfl⟩
theorem d9_48 : Dec jdk_43_method_21_code 48 (.invokestatic 84) 3 51 := ⟨by decide +kernel, rfl⟩
theorem pd6 : parseMethodDescriptor "(Ljava/lang/Object;IIII)I" = some ⟨[(.object "java/lang/Object"), .int, .int, .int, .int], some .int⟩ := by decide +kernel
set_option maxRecDepth 65536 in
set_option maxHeartbeats 40000000 in
theorem c_lhc (l : Launch) (Z : State) (a0 : Array Value) (hw : ∀ d ∈ tables_1, d.before a0 Z = true) (hEL : EW Z a0 own_EL) (b : Addr) (xs : List Int32) (S : Addr → Prop) (h0 : Heap) (A : AI Z h0 b .byte xs) (hE : 2 ≤ xs.length → Exa Z h0 b "[B") :
    Con l Z own_EL [] (⟨"java/lang/StringLatin1", "hashCode", "([B)I"⟩ : MethodName) jdk_43_method_21_code 1 (some .int) ({ frames := 2, cells := 0, slots := 0, locals := 36 } : Room) #[.ref b] S h0 (fun S' v h' => v = some (.int (hcB xs)) ∧ h0 = h') := by
  obtain hl | hl | hl : xs.length = 0 ∨ xs.length = 1 ∨ 2 ≤ xs.length := by omega
  · refine con_of_go (ls := #[.val (.ref b)]) (plainFor_of_name pn2) hEL (fun m => by first | rfl | (simp [entryFrame, mkF, argsToLocals, cat_int, cat_ref, cat_null, cat_long]; done)) (fun K => ?_)
    show Go _ _ _ _ _ _ _ _ _ _ _ _ _ 0 0 _ _ _
    refine go_aloadN d9_0 rfl rfl ?_
    refine go_alen A d9_1 (v := (0 : Int32)) (by rw [hl]; rfl) ?_
    refine go_lswHit own_lsw (by decide) (a := 0) (off := 26) (by decide) (by decide) (t := 28) (by decide) ?_
    refine go_iconst (x := (0 : Int32)) d9_28 (by decide) ?_
    refine go_goto d9_29 ?_
    exact go_ireturn (ty := .int) (v := (0 : Int32)) d9_51 rfl (by simp) rfl ⟨by rw [List.length_eq_zero_iff.mp hl]; rfl, rfl⟩
  · refine con_of_go (ls := #[.val (.ref b)]) (plainFor_of_name pn2) hEL (fun m => by first | rfl | (simp [entryFrame, mkF, argsToLocals, cat_int, cat_ref, cat_null, cat_long]; done)) (fun K => ?_)
    show Go _ _ _ _ _ _ _ _ _ _ _ _ _ 0 0 _ _ _
    obtain ⟨c0, rfl⟩ := List.length_eq_one_iff.mp hl
    have hc0 : [c0][0]? = some c0 := rfl
    refine go_aloadN d9_0 rfl rfl ?_
    refine go_alen A d9_1 (v := (1 : Int32)) (by rw [hl]; rfl) ?_
    refine go_lswHit own_lsw (by decide) (a := 1) (off := 30) (by decide) (by decide) (t := 32) (by decide) ?_
    refine go_aloadN d9_32 rfl rfl ?_
    refine go_iconst (x := (0 : Int32)) d9_33 (by decide) ?_
    refine go_baload (x := c0) A (i := 0) rfl hc0 d9_34 ?_
    refine go_sipush (x := (255 : Int32)) d9_35 (by decide) ?_
    refine go_iand d9_38 rfl ?_
    refine go_goto d9_39 ?_
    exact go_ireturn (ty := .int) (v := (c0 &&& (255 : Int32))) d9_51 rfl (by simp) rfl ⟨by rw [hcB_one], rfl⟩
  · refine con_of_go (ls := #[.val (.ref b)]) (plainFor_of_name pn2) hEL (fun m => by first | rfl | (simp [entryFrame, mkF, argsToLocals, cat_int, cat_ref, cat_null, cat_long]; done)) (fun K => ?_)
    show Go _ _ _ _ _ _ _ _ _ _ _ _ _ 0 0 _ _ _
    have hlen := A.len
    refine go_aloadN d9_0 rfl rfl ?_
    refine go_alen A d9_1 (v := (Int32.ofNat xs.length)) rfl ?_
    refine go_lswMiss own_lsw (by decide) (own_lswN hl hlen) (by decide) (t := 42) (by decide) ?_
    refine go_aloadN d9_42 rfl rfl ?_
    refine go_iconst (x := (0 : Int32)) d9_43 (by decide) ?_
    refine go_aloadN d9_44 rfl rfl ?_
    refine go_alen A d9_45 (v := (Int32.ofNat xs.length)) rfl ?_
    refine go_iconst (x := (0 : Int32)) d9_46 (by decide) ?_
    refine go_iconst (x := (4 : Int32)) d9_47 (by decide) ?_
    refine go_static (R := ({ frames := 2, cells := 0, slots := 0, locals := 36 } : Room)) (kc := 0) (ks := 0) [.ref b, .int (0 : Int32), .int (Int32.ofNat xs.length), .int (0 : Int32), .int (4 : Int32)] [] (c_vhc l Z a0 hw hEL b _ S h0 A (hE (by omega))) (hw _ (List.mem_of_getElem? (i := 161) rfl)) (hw _ (List.mem_of_getElem? (i := 162) rfl)) (hw _ (List.mem_of_getElem? (i := 164) rfl)) (hw _ (List.mem_of_getElem? (i := 163) rfl)) (by decide) rfl rfl (lenOf pd6 rfl) d9_48 (by rfl) (by decide) (Nat.le_of_ble_eq_true rfl) (rc := 0) (rs := 0) rfl rfl (fun S1001 v1001 h1001 m1001 z1001 q1001 => ?_)
    obtain ⟨rfl, rfl⟩ := q1001
    show Go _ _ _ _ _ _ _ _ _ _ _ _ _ _ _ _ _ (mkF K.m 51 #[.val (.ref b)] [.int (hcB xs)])
    exact go_ireturn (ty := .int) (v := (hcB xs)) d9_51 rfl (by simp) rfl ⟨rfl, rfl⟩
theorem d10_0 : Dec jdk_42_method_78_code 0 (.aload_n 0) 1 1 := ⟨by decide +kernel, rfl⟩
theorem d10_1 : Dec jdk_42_method_78_code 1 (.getfield 19) 3 4 := ⟨by decide +kernel, rfl⟩
theorem d10_4 : Dec jdk_42_method_78_code 4 (.istore_n 1) 1 5 := ⟨by decide +kernel, rfl⟩
theorem d10_5 : Dec jdk_42_method_78_code 5 (.iload_n 1) 1 6 := ⟨by decide +kernel, rfl⟩
theorem d10_6 : Brn jdk_42_method_78_code 6 (.ifCond .ne 52) 52 9 58 := ⟨by decide +kernel, rfl, by decide, by decide⟩
theorem d10_58 : Dec jdk_42_method_78_code 58 (.iload_n 1) 1 59 := ⟨by decide +kernel, rfl⟩
theorem d10_59 : Dec jdk_42_method_78_code 59 (.ireturn) 1 60 := ⟨by decide +kernel, rfl⟩
theorem d10_9 : Dec jdk_42_method_78_code 9 (.aload_n 0) 1 10 := ⟨by decide +kernel, rfl⟩
theorem d10_10 : Dec jdk_42_method_78_code 10 (.getfield 23) 3 13 := ⟨by decide +kernel, rfl⟩
theorem d10_13 : Brn jdk_42_method_78_code 13 (.ifCond .ne 45) 45 16 58 := ⟨by decide +kernel, rfl, by decide, by decide⟩
theorem d10_16 : Dec jdk_42_method_78_code 16 (.aload_n 0) 1 17 := ⟨by decide +kernel, rfl⟩
theorem d10_17 : Dec jdk_42_method_78_code 17 (.invokevirtual 492) 3 20 := ⟨by decide +kernel, rfl⟩
theorem d10_20 : Brn jdk_42_method_78_code 20 (.ifCond .eq 13) 13 23 33 := ⟨by decide +kernel, rfl, by decide, by decide⟩
theorem d10_23 : Dec jdk_42_method_78_code 23 (.aload_n 0) 1 24 := ⟨by decide +kernel, rfl⟩
theorem d10_24 : Dec jdk_42_method_78_code 24 (.getfield 9) 3 27 := ⟨by decide +kernel, rfl⟩
theorem d10_27 : Dec jdk_42_method_78_code 27 (.invokestatic 628) 3 30 := ⟨by decide +kernel, rfl⟩
theorem pd7 : parseMethodDescriptor "([B)I" = some ⟨[(.array .byte)], some .int⟩ := by decide +kernel
theorem d10_30 : Brn jdk_42_method_78_code 30 (.goto 10) 10 33 40 := ⟨by decide +kernel, rfl, by decide, by decide⟩
theorem d10_40 : Dec jdk_42_method_78_code 40 (.istore_n 1) 1 41 := ⟨by decide +kernel, rfl⟩
theorem d10_41 : Dec jdk_42_method_78_code 41 (.iload_n 1) 1 42 := ⟨by decide +kernel, rfl⟩
theorem d10_42 : Brn jdk_42_method_78_code 42 (.ifCond .ne 11) 11 45 53 := ⟨by decide +kernel, rfl, by decide, by decide⟩
theorem d10_53 : Dec jdk_42_method_78_code 53 (.aload_n 0) 1 54 := ⟨by decide +kernel, rfl⟩
theorem d10_54 : Dec jdk_42_method_78_code 54 (.iload_n 1) 1 55 := ⟨by decide +kernel, rfl⟩
theorem d10_55 : Dec jdk_42_method_78_code 55 (.putfield 19) 3 58 := ⟨by decide +kernel, rfl⟩
theorem d10_45 : Dec jdk_42_method_78_code 45 (.aload_n 0) 1 46 := ⟨by decide +kernel, rfl⟩
theorem d10_46 : Dec jdk_42_method_78_code 46 (.iconst 1) 1 47 := ⟨by decide +kernel, rfl⟩
theorem d10_47 : Dec jdk_42_method_78_code 47 (.putfield 23) 3 50 := ⟨by decide +kernel, rfl⟩
theorem d10_50 : Brn jdk_42_method_78_code 50 (.goto 8) 8 53 58 := ⟨by decide +kernel, rfl, by decide, by decide⟩
set_option maxRecDepth 65536 in
set_option maxHeartbeats 40000000 in
theorem c_hc (l : Launch) (Z : State) (a0 : Array Value) (hw : ∀ d ∈ tables_1, d.before a0 Z = true) (hEL : EW Z a0 own_EL) (x : Addr) (cs : List Int32) (b : Addr) (S : Addr → Prop) (h0 : Heap) (F : LS Z h0 x cs b) (gx : Z.heap.size ≤ x) (sx : S x) (zc : Int32) (Oc : Sta Z Z.heap "java/lang/String" "COMPACT_STRINGS" "Z" (.int zc)) (Pc : ¬ zc = 0) :
    Con l Z own_EL [] (⟨"java/lang/String", "hashCode", "()I"⟩ : MethodName) jdk_42_method_78_code 2 (some .int) ({ frames := 3, cells := 0, slots := 0, locals := 49 } : Room) #[.ref x] S h0 (fun S' v h' => v = some (.int (hcS cs)) ∧ Keep h0 h' [x] ∧ LS Z h' x cs b) := by
  refine con_of_go (ls := #[.val (.ref x), .unset]) (plainFor_of_name pn0) hEL (fun m => by first | rfl | (simp [entryFrame, mkF, argsToLocals, cat_int, cat_ref, cat_null, cat_long]; done)) (fun K => ?_)
  show Go _ _ _ _ _ _ _ _ _ _ _ _ _ 0 0 _ _ _
  have lx := lt_nat F.1.1.lt
  obtain ⟨hv, hz, Fh, Fz, ph, pz⟩ := F.2.1
  have nbx : b ≠ x := F.bytes.ne_exa F.1.1 (hw _ (List.mem_of_getElem? (i := 5) rfl))
  refine go_aloadN d10_0 rfl rfl ?_
  refine go_getf (hw _ (List.mem_of_getElem? (i := 52) rfl)) Via.refl Fh d10_1 ?_
  refine go_istoreN d10_4 (l' := #[.val (.ref x), .val (.int hv)]) rfl ?_
  refine go_iloadN d10_5 rfl ?_
  refine go_ifne d10_6 (fun c6 => ?_) (fun c6 => ?_)
  · refine go_iloadN d10_58 rfl ?_
    exact go_ireturn (ty := .int) (v := hv) d10_59 rfl (by simp) rfl ⟨by rw [ph.resolve_left c6], Keep.refl _ _, F⟩
  · refine go_aloadN d10_9 rfl rfl ?_
    refine go_getf (hw _ (List.mem_of_getElem? (i := 54) rfl)) Via.refl Fz d10_10 ?_
    refine go_ifne d10_13 (fun c13 => ?_) (fun c13 => ?_)
    · refine go_iloadN d10_58 rfl ?_
      exact go_ireturn (ty := .int) (v := hv) d10_59 rfl (by simp) rfl ⟨by rw [c6, pz.resolve_left c13], Keep.refl _ _, F⟩
    · refine go_aloadN d10_16 rfl rfl ?_
      refine go_virtual (R := ({ frames := 3, cells := 0, slots := 0, locals := 49 } : Room)) (kc := 0) (ks := 0) [] [] (c_lat l Z a0 hw hEL x _ _ _ S h0 F.1 zc Oc Pc) F.1.1 (hw _ (List.mem_of_getElem? (i := 56) rfl)) (hw _ (List.mem_of_getElem? (i := 57) rfl)) (hw _ (List.mem_of_getElem? (i := 59) rfl)) (hw _ (List.mem_of_getElem? (i := 58) rfl)) (nfSel (hw _ (List.mem_of_getElem? (i := 59) rfl))) (hw _ (List.mem_of_getElem? (i := 60) rfl)) (hw _ (List.mem_of_getElem? (i := 6) rfl)) (by decide) rfl rfl (lenOf pd3 rfl) d10_17 (by rfl) (by decide) (Nat.le_of_ble_eq_true rfl) (rc := 0) (rs := 0) rfl rfl (fun S1001 v1001 h1001 m1001 z1001 q1001 => ?_)
      obtain ⟨rfl, rfl⟩ := q1001
      show Go _ _ _ _ _ _ _ _ _ _ _ _ _ _ _ _ _ (mkF K.m 20 #[.val (.ref x), .val (.int hv)] [.int (1 : Int32)])
      refine go_ifeq d10_20 (fun c1002 => absurd c1002 (by decide)) (fun c1002 => ?_)
      refine go_aloadN d10_23 rfl rfl ?_
      refine go_getf (hw _ (List.mem_of_getElem? (i := 24) rfl)) Via.refl F.1.2.2.1 d10_24 ?_
      refine go_static (R := ({ frames := 3, cells := 0, slots := 0, locals := 49 } : Room)) (kc := 0) (ks := 0) [.ref b] [] (c_lhc l Z a0 hw hEL b _ S1001 h0 F.bytes (fun q => F.2.2.1 (by simpa using q))) (hw _ (List.mem_of_getElem? (i := 62) rfl)) (hw _ (List.mem_of_getElem? (i := 63) rfl)) (hw _ (List.mem_of_getElem? (i := 65) rfl)) (hw _ (List.mem_of_getElem? (i := 64) rfl)) (by decide) rfl rfl (lenOf pd7 rfl) d10_27 (by rfl) (by decide) (Nat.le_of_ble_eq_true rfl) (rc := 0) (rs := 0) rfl rfl (fun S1003 v1003 h1003 m1003 z1003 q1003 => ?_)
      obtain ⟨rfl, rfl⟩ := q1003
      show Go _ _ _ _ _ _ _ _ _ _ _ _ _ _ _ _ _ (mkF K.m 30 #[.val (.ref x), .val (.int hv)] [.int (hcS cs)])
      refine go_goto d10_30 ?_
      refine go_istoreN d10_40 (l' := #[.val (.ref x), .val (.int (hcS cs))]) rfl ?_
      refine go_iloadN d10_41 rfl ?_
      refine go_ifne d10_42 (fun c42 => ?_) (fun c42 => ?_)
      · refine go_aloadN d10_53 rfl rfl ?_
        refine go_iloadN d10_54 rfl ?_
        refine go_putf (u' := .int (hcS cs)) (hw _ (List.mem_of_getElem? (i := 52) rfl)) Via.refl Fh F.1.1 (Or.inl (hw _ (List.mem_of_getElem? (i := 53) rfl))) (hw _ (List.mem_of_getElem? (i := 5) rfl)) (ty := .int) (by decide) rfl rfl (by omega) (Or.inl (m1003 _ (m1001 _ sx))) d10_55 (fun h1004 W1004 K1004 E1004 F1004 => ?_)
        have z1004 := K1004.1
        refine go_iloadN d10_58 rfl ?_
        have f1005 := (F.1.2.1.other W1004 (Or.inr (slot_ne (C := "java/lang/String") (a0 := a0) (Or.inr (hw _ (List.mem_of_getElem? (i := 21) rfl))) (Or.inl (hw _ (List.mem_of_getElem? (i := 53) rfl))) (by decide) (t := .byte) (t' := .int) (by decide) (by decide))))
        have f1006 := (F.1.2.2.1.other W1004 (Or.inr (slot_ne (C := "java/lang/String") (a0 := a0) (Or.inr (hw _ (List.mem_of_getElem? (i := 20) rfl))) (Or.inl (hw _ (List.mem_of_getElem? (i := 53) rfl))) (by decide) (t := (.array .byte)) (t' := .int) (by decide) (by decide))))
        have f1007 := (F.bytes.keep K1004 (ninS nbx nin0))
        have f1008 := (Fz.other W1004 (Or.inr (slot_ne (C := "java/lang/String") (a0 := a0) (Or.inl (hw _ (List.mem_of_getElem? (i := 55) rfl))) (Or.inl (hw _ (List.mem_of_getElem? (i := 53) rfl))) (by decide) (t := .boolean) (t' := .int) (by decide) (by decide))))
        exact go_ireturn (ty := .int) (v := (hcS cs)) d10_59 rfl (by simp) rfl ⟨rfl, ((Keep.refl h0 [x]).wr W1004 (Or.inl (by simp))), ⟨E1004, f1005, f1006, f1007, F.1.2.2.2.2⟩, ⟨_, _, F1004, f1008, Or.inr rfl, Or.inl c13⟩, fun q => (F.2.2.1 q).keep ((Keep.refl h0 [x]).wr W1004 (Or.inl (by simp))), F.2.2.2⟩
      · refine go_aloadN d10_45 rfl rfl ?_
        refine go_iconst (x := (1 : Int32)) d10_46 (by decide) ?_
        refine go_putf (u' := .int (1 : Int32)) (hw _ (List.mem_of_getElem? (i := 54) rfl)) Via.refl Fz F.1.1 (Or.inl (hw _ (List.mem_of_getElem? (i := 55) rfl))) (hw _ (List.mem_of_getElem? (i := 5) rfl)) (ty := .boolean) (by decide) (by decide) (by decide) (by omega) (Or.inl (m1003 _ (m1001 _ sx))) d10_47 (fun h1009 W1009 K1009 E1009 F1009 => ?_)
        have z1009 := K1009.1
        refine go_goto d10_50 ?_
        refine go_iloadN d10_58 rfl ?_
        have f1010 := (F.1.2.1.other W1009 (Or.inr (slot_ne (C := "java/lang/String") (a0 := a0) (Or.inr (hw _ (List.mem_of_getElem? (i := 21) rfl))) (Or.inl (hw _ (List.mem_of_getElem? (i := 55) rfl))) (by decide) (t := .byte) (t' := .boolean) (by decide) (by decide))))
        have f1011 := (F.1.2.2.1.other W1009 (Or.inr (slot_ne (C := "java/lang/String") (a0 := a0) (Or.inr (hw _ (List.mem_of_getElem? (i := 20) rfl))) (Or.inl (hw _ (List.mem_of_getElem? (i := 55) rfl))) (by decide) (t := (.array .byte)) (t' := .boolean) (by decide) (by decide))))
        have f1012 := (F.bytes.keep K1009 (ninS nbx nin0))
        have f1013 := (Fh.other W1009 (Or.inr (slot_ne (C := "java/lang/String") (a0 := a0) (Or.inl (hw _ (List.mem_of_getElem? (i := 53) rfl))) (Or.inl (hw _ (List.mem_of_getElem? (i := 55) rfl))) (by decide) (t := .int) (t' := .boolean) (by decide) (by decide))))
        exact go_ireturn (ty := .int) (v := (hcS cs)) d10_59 rfl (by simp) rfl ⟨rfl, ((Keep.refl h0 [x]).wr W1009 (Or.inl (by simp))), ⟨E1009, f1010, f1011, f1012, F.1.2.2.2.2⟩, ⟨_, _, f1013, F1009, Or.inl c6, Or.inr c42⟩, fun q => (F.2.2.1 q).keep ((Keep.refl h0 [x]).wr W1009 (Or.inl (by simp))), F.2.2.2⟩
theorem d11_0 : Dec prog_3_method_11_code 0 (.iload_n 0) 1 1 := ⟨by decide +kernel, rfl⟩
theorem d11_1 : Dec prog_3_method_11_code 1 (.ldc 96) 2 3 := ⟨by decide +kernel, rfl⟩
theorem d11_3 : Dec prog_3_method_11_code 3 (.imul) 1 4 := ⟨by decide +kernel, rfl⟩
theorem d11_4 : Dec prog_3_method_11_code 4 (.istore_n 1) 1 5 := ⟨by decide +kernel, rfl⟩
theorem d11_5 : Dec prog_3_method_11_code 5 (.iload_n 1) 1 6 := ⟨by decide +kernel, rfl⟩
theorem d11_6 : Dec prog_3_method_11_code 6 (.iload_n 1) 1 7 := ⟨by decide +kernel, rfl⟩
theorem d11_7 : Dec prog_3_method_11_code 7 (.bipush 16) 2 9 := ⟨by decide +kernel, rfl⟩
theorem d11_9 : Dec prog_3_method_11_code 9 (.iushr) 1 10 := ⟨by decide +kernel, rfl⟩
theorem d11_10 : Dec prog_3_method_11_code 10 (.ixor) 1 11 := ⟨by decide +kernel, rfl⟩
theorem d11_11 : Dec prog_3_method_11_code 11 (.ireturn) 1 12 := ⟨by decide +kernel, rfl⟩
theorem pn4 : plainName "com/example/vestledger/vestledger/account/Names" = true := by first | (simp [plainName, overriddenIn]; done) | decide +kernel
set_option maxRecDepth 65536 in
set_option maxHeartbeats 40000000 in
theorem c_spr (l : Launch) (Z : State) (a0 : Array Value) (hw : ∀ d ∈ tables_1, d.before a0 Z = true) (hEL : EW Z a0 own_EL) (x : Int32) (S : Addr → Prop) (h0 : Heap) :
    Con l Z own_EL [] (⟨"com/example/vestledger/vestledger/account/Names", "spread", "(I)I"⟩ : MethodName) prog_3_method_11_code 2 (some .int) ({ frames := 0, cells := 0, slots := 0, locals := 0 } : Room) #[.int x] S h0 (fun S' v h' => v = some (.int (spr x)) ∧ h0 = h') := by
  refine con_of_go (ls := #[.val (.int x), .unset]) (plainFor_of_name pn4) hEL (fun m => by first | rfl | (simp [entryFrame, mkF, argsToLocals, cat_int, cat_ref, cat_null, cat_long]; done)) (fun K => ?_)
  show Go _ _ _ _ _ _ _ _ _ _ _ _ _ 0 0 _ _ _
  refine go_iloadN d11_0 rfl ?_
  refine go_ldcI (v := (-1640531527 : Int32)) (hw _ (List.mem_of_getElem? (i := 69) rfl)) d11_1 ?_
  refine go_imul d11_3 rfl ?_
  refine go_istoreN d11_4 (l' := #[.val (.int x), .val (.int (x * (-1640531527 : Int32)))]) rfl ?_
  refine go_iloadN d11_5 rfl ?_
  refine go_iloadN d11_6 rfl ?_
  refine go_bipush (x := (16 : Int32)) d11_7 (by decide) ?_
  refine go_iushr d11_9 rfl ?_
  refine go_ixor d11_10 rfl ?_
  exact go_ireturn (ty := .int) (v := ((x * (-1640531527 : Int32)) ^^^ (XT.ushr (x * (-1640531527 : Int32)) (16 : Int32)))) d11_11 rfl (by simp) rfl ⟨rfl, rfl⟩
theorem d12_0 : Dec jdk_41_method_12_code 0 (.iload_n 0) 1 1 := ⟨by decide +kernel, rfl⟩
theorem d12_1 : Brn jdk_41_method_12_code 1 (.ifCond .lt 13) 13 4 14 := ⟨by decide +kernel, rfl, by decide, by decide⟩
theorem d12_4 : Dec jdk_41_method_12_code 4 (.iload_n 0) 1 5 := ⟨by decide +kernel, rfl⟩
theorem d12_5 : Dec jdk_41_method_12_code 5 (.iload_n 1) 1 6 := ⟨by decide +kernel, rfl⟩
theorem d12_6 : Brn jdk_41_method_12_code 6 (.if_icmp .gt 8) 8 9 14 := ⟨by decide +kernel, rfl, by decide, by decide⟩
theorem d12_9 : Dec jdk_41_method_12_code 9 (.iload_n 1) 1 10 := ⟨by decide +kernel, rfl⟩
theorem d12_10 : Dec jdk_41_method_12_code 10 (.iload_n 2) 1 11 := ⟨by decide +kernel, rfl⟩
theorem d12_11 : Brn jdk_41_method_12_code 11 (.if_icmp .le 11) 11 14 22 := ⟨by decide +kernel, rfl, by decide, by decide⟩
theorem d12_22 : Dec jdk_41_method_12_code 22 (.iload_n 0) 1 23 := ⟨by decide +kernel, rfl⟩
theorem d12_23 : Dec jdk_41_method_12_code 23 (.ireturn) 1 24 := ⟨by decide +kernel, rfl⟩
set_option maxRecDepth 65536 in
set_option maxHeartbeats 40000000 in
theorem c_cft (l : Launch) (Z : State) (a0 : Array Value) (hw : ∀ d ∈ tables_1, d.before a0 Z = true) (hEL : EW Z a0 own_EL) (e : Nat) (he : e < 2 ^ 31) (sf : Value) (rsf : sf.isRef = true) (S : Addr → Prop) (h0 : Heap) :
    Con l Z own_EL [] (⟨"jdk/internal/util/Preconditions", "checkFromToIndex", "(IIILjava/util/function/BiFunction;)I"⟩ : MethodName) jdk_41_method_12_code 4 (some .int) ({ frames := 0, cells := 0, slots := 0, locals := 0 } : Room) #[.int (0 : Int32), .int (Int32.ofNat e), .int (Int32.ofNat e), sf] S h0 (fun S' v h' => v = some (.int (0 : Int32)) ∧ h0 = h') := by
  refine con_of_go (ls := #[.val (.int (0 : Int32)), .val (.int (Int32.ofNat e)), .val (.int (Int32.ofNat e)), .val (sf)]) (plainFor_of_name pn1) hEL (fun m => by first | rfl | (simp [entryFrame, mkF, argsToLocals, cat_int, cat_ref, cat_null, cat_long, XT.cat1 rsf]; done)) (fun K => ?_)
  show Go _ _ _ _ _ _ _ _ _ _ _ _ _ 0 0 _ _ _
  refine go_iloadN d12_0 rfl ?_
  refine go_iflt d12_1 (fun c1001 => absurd c1001 (by decide)) (fun c1001 => ?_)
  refine go_iloadN d12_4 rfl ?_
  refine go_iloadN d12_5 rfl ?_
  refine go_icmpgt d12_6 (fun c1002 => absurd c1002 (ofNat_nlt (n := 0) (by omega) (by omega))) (fun c1002 => ?_)
  refine go_iloadN d12_9 rfl ?_
  refine go_iloadN d12_10 rfl ?_
  refine go_icmple d12_11 (fun c1003 => ?_) (fun c1003 => absurd c1003 (ofNat_nlt (Nat.le_refl _) (by omega)))
  refine go_iloadN d12_22 rfl ?_
  exact go_ireturn (ty := .int) (v := (0 : Int32)) d12_23 rfl (by simp) rfl ⟨rfl, rfl⟩
theorem d13_0 : Dec jdk_42_method_158_code 0 (.iload_n 0) 1 1 := ⟨by decide +kernel, rfl⟩
theorem d13_1 : Dec jdk_42_method_158_code 1 (.iload_n 1) 1 2 := ⟨by decide +kernel, rfl⟩
theorem d13_2 : Dec jdk_42_method_158_code 2 (.iload_n 2) 1 3 := ⟨by decide +kernel, rfl⟩
theorem d13_3 : Dec jdk_42_method_158_code 3 (.getstatic 1053) 3 6 := ⟨by decide +kernel, rfl⟩
theorem d13_6 : Dec jdk_42_method_158_code 6 (.invokestatic 1062) 3 9 := ⟨by decide +kernel, rfl⟩
theorem pd8 : parseMethodDescriptor "(IIILjava/util/function/BiFunction;)I" = some ⟨[.int, .int, .int, (.object "java/util/function/BiFunction")], some .int⟩ := by decide +kernel
theorem d13_9 : Dec jdk_42_method_158_code 9 (.pop) 1 10 := ⟨by decide +kernel, rfl⟩
theorem d13_10 : Dec jdk_42_method_158_code 10 (.return_) 1 11 := ⟨by decide +kernel, rfl⟩
set_option maxRecDepth 65536 in
set_option maxHeartbeats 40000000 in
theorem c_cbe (l : Launch) (Z : State) (a0 : Array Value) (hw : ∀ d ∈ tables_1, d.before a0 Z = true) (hEL : EW Z a0 own_EL) (e : Nat) (he : e < 2 ^ 31) (sf : Value) (rsf : sf.isRef = true) (Os : Sta Z Z.heap "jdk/internal/util/Preconditions" "SIOOBE_FORMATTER" "Ljava/util/function/BiFunction;" sf) (S : Addr → Prop) (h0 : Heap) :
    Con l Z own_EL [] (⟨"java/lang/String", "checkBoundsBeginEnd", "(III)V"⟩ : MethodName) jdk_42_method_158_code 3 (none : Option FieldType) ({ frames := 1, cells := 0, slots := 0, locals := 15 } : Room) #[.int (0 : Int32), .int (Int32.ofNat e), .int (Int32.ofNat e)] S h0 (fun S' v h' => v = none ∧ h0 = h') := by
  refine con_of_go (ls := #[.val (.int (0 : Int32)), .val (.int (Int32.ofNat e)), .val (.int (Int32.ofNat e))]) (plainFor_of_name pn0) hEL (fun m => by first | rfl | (simp [entryFrame, mkF, argsToLocals, cat_int, cat_ref, cat_null, cat_long]; done)) (fun K => ?_)
  show Go _ _ _ _ _ _ _ _ _ _ _ _ _ 0 0 _ _ _
  refine go_iloadN d13_0 rfl ?_
  refine go_iloadN d13_1 rfl ?_
  refine go_iloadN d13_2 rfl ?_
  refine go_gets (hw _ (List.mem_of_getElem? (i := 114) rfl)) Via.refl Os d13_3 ?_
  refine go_static (R := ({ frames := 1, cells := 0, slots := 0, locals := 15 } : Room)) (kc := 0) (ks := 0) [.int (0 : Int32), .int (Int32.ofNat e), .int (Int32.ofNat e), sf] [] (c_cft l Z a0 hw hEL e he sf rsf S h0) (hw _ (List.mem_of_getElem? (i := 116) rfl)) (hw _ (List.mem_of_getElem? (i := 117) rfl)) (hw _ (List.mem_of_getElem? (i := 118) rfl)) (hw _ (List.mem_of_getElem? (i := 115) rfl)) (by decide) rfl rfl (lenOf pd8 rfl) d13_6 (by rfl) (by decide) (Nat.le_of_ble_eq_true rfl) (rc := 0) (rs := 0) rfl rfl (fun S1001 v1001 h1001 m1001 z1001 q1001 => ?_)
  obtain ⟨rfl, rfl⟩ := q1001
  show Go _ _ _ _ _ _ _ _ _ _ _ _ _ _ _ _ _ (mkF K.m 9 #[.val (.int (0 : Int32)), .val (.int (Int32.ofNat e)), .val (.int (Int32.ofNat e))] [.int (0 : Int32)])
  refine go_pop d13_9 rfl ?_
  exact go_return d13_10 rfl ⟨rfl, rfl⟩
theorem d14_0 : Dec jdk_41_method_13_code 0 (.iload_n 2) 1 1 := ⟨by decide +kernel, rfl⟩
theorem d14_1 : Dec jdk_41_method_13_code 1 (.iload_n 0) 1 2 := ⟨by decide +kernel, rfl⟩
theorem d14_2 : Dec jdk_41_method_13_code 2 (.ior) 1 3 := ⟨by decide +kernel, rfl⟩
theorem d14_3 : Dec jdk_41_method_13_code 3 (.iload_n 1) 1 4 := ⟨by decide +kernel, rfl⟩
theorem d14_4 : Dec jdk_41_method_13_code 4 (.ior) 1 5 := ⟨by decide +kernel, rfl⟩
theorem d14_5 : Brn jdk_41_method_13_code 5 (.ifCond .lt 10) 10 8 15 := ⟨by decide +kernel, rfl, by decide, by decide⟩
theorem d14_8 : Dec jdk_41_method_13_code 8 (.iload_n 1) 1 9 := ⟨by decide +kernel, rfl⟩
theorem d14_9 : Dec jdk_41_method_13_code 9 (.iload_n 2) 1 10 := ⟨by decide +kernel, rfl⟩
theorem d14_10 : Dec jdk_41_method_13_code 10 (.iload_n 0) 1 11 := ⟨by decide +kernel, rfl⟩
theorem d14_11 : Dec jdk_41_method_13_code 11 (.isub) 1 12 := ⟨by decide +kernel, rfl⟩
theorem d14_12 : Brn jdk_41_method_13_code 12 (.if_icmp .le 11) 11 15 23 := ⟨by decide +kernel, rfl, by decide, by decide⟩
theorem d14_23 : Dec jdk_41_method_13_code 23 (.iload_n 0) 1 24 := ⟨by decide +kernel, rfl⟩
theorem d14_24 : Dec jdk_41_method_13_code 24 (.ireturn) 1 25 := ⟨by decide +kernel, rfl⟩
set_option maxRecDepth 65536 in
set_option maxHeartbeats 40000000 in
theorem c_cfs (l : Launch) (Z : State) (a0 : Array Value) (hw : ∀ d ∈ tables_1, d.before a0 Z = true) (hEL : EW Z a0 own_EL) (o e m : Nat) (hoe : o + e ≤ m) (hm : m < 2 ^ 31) (sf : Value) (rsf : sf.isRef = true) (S : Addr → Prop) (h0 : Heap) :
    Con l Z own_EL [] (⟨"jdk/internal/util/Preconditions", "checkFromIndexSize", "(IIILjava/util/function/BiFunction;)I"⟩ : MethodName) jdk_41_method_13_code 4 (some .int) ({ frames := 0, cells := 0, slots := 0, locals := 0 } : Room) #[.int (Int32.ofNat o), .int (Int32.ofNat e), .int (Int32.ofNat m), sf] S h0 (fun S' v h' => v = some (.int (Int32.ofNat o)) ∧ h0 = h') := by
  refine con_of_go (ls := #[.val (.int (Int32.ofNat o)), .val (.int (Int32.ofNat e)), .val (.int (Int32.ofNat m)), .val (sf)]) (plainFor_of_name pn1) hEL (fun m => by first | rfl | (simp [entryFrame, mkF, argsToLocals, cat_int, cat_ref, cat_null, cat_long, XT.cat1 rsf]; done)) (fun K => ?_)
  show Go _ _ _ _ _ _ _ _ _ _ _ _ _ 0 0 _ _ _
  refine go_iloadN d14_0 rfl ?_
  refine go_iloadN d14_1 rfl ?_
  refine go_ior (v := (Int32.ofNat (m ||| o))) d14_2 ofNat_or ?_
  refine go_iloadN d14_3 rfl ?_
  refine go_ior (v := (Int32.ofNat ((m ||| o) ||| e))) d14_4 ofNat_or ?_
  refine go_iflt d14_5 (fun c1001 => absurd c1001 (ofNat_nlt (n := 0) (by omega) (or_lt31 (or_lt31 (by omega) (by omega)) (by omega)))) (fun c1001 => ?_)
  refine go_iloadN d14_8 rfl ?_
  refine go_iloadN d14_9 rfl ?_
  refine go_iloadN d14_10 rfl ?_
  refine go_isub (v := (Int32.ofNat (m - o))) d14_11 (ofNat_sub (by omega)) ?_
  refine go_icmple d14_12 (fun c1002 => ?_) (fun c1002 => absurd c1002 (ofNat_nlt (by omega) (by omega)))
  refine go_iloadN d14_23 rfl ?_
  exact go_ireturn (ty := .int) (v := (Int32.ofNat o)) d14_24 rfl (by simp) rfl ⟨rfl, rfl⟩
theorem d15_0 : Dec jdk_42_method_157_code 0 (.iload_n 0) 1 1 := ⟨by decide +kernel, rfl⟩
theorem d15_1 : Dec jdk_42_method_157_code 1 (.iload_n 1) 1 2 := ⟨by decide +kernel, rfl⟩
theorem d15_2 : Dec jdk_42_method_157_code 2 (.iload_n 2) 1 3 := ⟨by decide +kernel, rfl⟩
theorem d15_3 : Dec jdk_42_method_157_code 3 (.getstatic 1053) 3 6 := ⟨by decide +kernel, rfl⟩
theorem d15_6 : Dec jdk_42_method_157_code 6 (.invokestatic 1065) 3 9 := ⟨by decide +kernel, rfl⟩
theorem d15_9 : Dec jdk_42_method_157_code 9 (.ireturn) 1 10 := ⟨by decide +kernel, rfl⟩
set_option maxRecDepth 65536 in
set_option maxHeartbeats 40000000 in
theorem c_coc (l : Launch) (Z : State) (a0 : Array Value) (hw : ∀ d ∈ tables_1, d.before a0 Z = true) (hEL : EW Z a0 own_EL) (o e m : Nat) (hoe : o + e ≤ m) (hm : m < 2 ^ 31) (sf : Value) (rsf : sf.isRef = true) (Os : Sta Z Z.heap "jdk/internal/util/Preconditions" "SIOOBE_FORMATTER" "Ljava/util/function/BiFunction;" sf) (S : Addr → Prop) (h0 : Heap) :
    Con l Z own_EL [] (⟨"java/lang/String", "checkBoundsOffCount", "(III)I"⟩ : MethodName) jdk_42_method_157_code 3 (some .int) ({ frames := 1, cells := 0, slots := 0, locals := 15 } : Room) #[.int (Int32.ofNat o), .int (Int32.ofNat e), .int (Int32.ofNat m)] S h0 (fun S' v h' => v = some (.int (Int32.ofNat o)) ∧ h0 = h') := by
  refine con_of_go (ls := #[.val (.int (Int32.ofNat o)), .val (.int (Int32.ofNat e)), .val (.int (Int32.ofNat m))]) (plainFor_of_name pn0) hEL (fun m => by first | rfl | (simp [entryFrame, mkF, argsToLocals, cat_int, cat_ref, cat_null, cat_long]; done)) (fun K => ?_)
  show Go _ _ _ _ _ _ _ _ _ _ _ _ _ 0 0 _ _ _
  refine go_iloadN d15_0 rfl ?_
  refine go_iloadN d15_1 rfl ?_
  refine go_iloadN d15_2 rfl ?_
  refine go_gets (hw _ (List.mem_of_getElem? (i := 114) rfl)) Via.refl Os d15_3 ?_
  refine go_static (R := ({ frames := 1, cells := 0, slots := 0, locals := 15 } : Room)) (kc := 0) (ks := 0) [.int (Int32.ofNat o), .int (Int32.ofNat e), .int (Int32.ofNat m), sf] [] (c_cfs l Z a0 hw hEL o e m hoe hm sf rsf S h0) (hw _ (List.mem_of_getElem? (i := 122) rfl)) (hw _ (List.mem_of_getElem? (i := 123) rfl)) (hw _ (List.mem_of_getElem? (i := 124) rfl)) (hw _ (List.mem_of_getElem? (i := 115) rfl)) (by decide) rfl rfl (lenOf pd8 rfl) d15_6 (by rfl) (by decide) (Nat.le_of_ble_eq_true rfl) (rc := 0) (rs := 0) rfl rfl (fun S1001 v1001 h1001 m1001 z1001 q1001 => ?_)
  obtain ⟨rfl, rfl⟩ := q1001
  show Go _ _ _ _ _ _ _ _ _ _ _ _ _ _ _ _ _ (mkF K.m 9 #[.val (.int (Int32.ofNat o)), .val (.int (Int32.ofNat e)), .val (.int (Int32.ofNat m))] [.int (Int32.ofNat o)])
  exact go_ireturn (ty := .int) (v := (Int32.ofNat o)) d15_9 rfl (by simp) rfl ⟨rfl, rfl⟩
theorem d16_0 : Dec jdk_43_method_49_code 0 (.iconst 0) 1 1 := ⟨by decide +kernel, rfl⟩
theorem d16_1 : Dec jdk_43_method_49_code 1 (.istore 5) 2 3 := ⟨by decide +kernel, rfl⟩
theorem d16_3 : Dec jdk_43_method_49_code 3 (.iload 5) 2 5 := ⟨by decide +kernel, rfl⟩
theorem d16_5 : Dec jdk_43_method_49_code 5 (.iload 4) 2 7 := ⟨by decide +kernel, rfl⟩
theorem d16_7 : Brn jdk_43_method_49_code 7 (.if_icmp .ge 26) 26 10 33 := ⟨by decide +kernel, rfl, by decide, by decide⟩
theorem d16_33 : Dec jdk_43_method_49_code 33 (.return_) 1 34 := ⟨by decide +kernel, rfl⟩
theorem d16_10 : Dec jdk_43_method_49_code 10 (.aload_n 2) 1 11 := ⟨by decide +kernel, rfl⟩
theorem d16_11 : Dec jdk_43_method_49_code 11 (.iload_n 3) 1 12 := ⟨by decide +kernel, rfl⟩
theorem d16_12 : Dec jdk_43_method_49_code 12 (.iinc 3 1) 3 15 := ⟨by decide +kernel, rfl⟩
theorem d16_15 : Dec jdk_43_method_49_code 15 (.aload_n 0) 1 16 := ⟨by decide +kernel, rfl⟩
theorem d16_16 : Dec jdk_43_method_49_code 16 (.iload_n 1) 1 17 := ⟨by decide +kernel, rfl⟩
theorem d16_17 : Dec jdk_43_method_49_code 17 (.iinc 1 1) 3 20 := ⟨by decide +kernel, rfl⟩
theorem d16_20 : Dec jdk_43_method_49_code 20 (.baload) 1 21 := ⟨by decide +kernel, rfl⟩
theorem d16_21 : Dec jdk_43_method_49_code 21 (.sipush 255) 3 24 := ⟨by decide +kernel, rfl⟩
theorem d16_24 : Dec jdk_43_method_49_code 24 (.iand) 1 25 := ⟨by decide +kernel, rfl⟩
theorem d16_25 : Dec jdk_43_method_49_code 25 (.i2c) 1 26 := ⟨by decide +kernel, rfl⟩
theorem d16_26 : Dec jdk_43_method_49_code 26 (.castore) 1 27 := ⟨by decide +kernel, rfl⟩
theorem d16_27 : Dec jdk_43_method_49_code 27 (.iinc 5 1) 3 30 := ⟨by decide +kernel, rfl⟩
theorem d16_30 : Brn jdk_43_method_49_code 30 (.goto (-27)) (-27) 33 3 := ⟨by decide +kernel, rfl, by decide, by decide⟩
set_option maxRecDepth 65536 in
set_option maxHeartbeats 40000000 in
theorem c_inf (l : Launch) (Z : State) (a0 : Array Value) (hw : ∀ d ∈ tables_1, d.before a0 Z = true) (hEL : EW Z a0 own_EL) (b dst : Addr) (cs full : List Int32) (o : Nat) (S : Addr → Prop) (h0 : Heap) (hz : Z.heap.size ≤ h0.size) (A1 : AI Z h0 b .byte (cs.map lo8)) (A2 : AI Z h0 dst .char full) (gd : Z.heap.size ≤ dst) (hof : o + cs.length ≤ full.length) (hch : ∀ c ∈ cs, isCh c) (hlat : ∀ c ∈ cs, ¬ (255 : Int32) < c) :
    Con l Z own_EL [] (⟨"java/lang/StringLatin1", "inflate", "([BI[CII)V"⟩ : MethodName) jdk_43_method_49_code 6 (none : Option FieldType) ({ frames := 0, cells := 0, slots := 0, locals := 0 } : Room) #[.ref b, .int (0 : Int32), .ref dst, .int (Int32.ofNat o), .int (Int32.ofNat cs.length)] S h0 (fun S' v h' => v = none ∧ Keep h0 h' [dst] ∧ AI Z h' dst .char (spl full o cs cs.length)) := by
  refine con_of_go (ls := #[.val (.ref b), .val (.int (0 : Int32)), .val (.ref dst), .val (.int (Int32.ofNat o)), .val (.int (Int32.ofNat cs.length)), .unset]) (plainFor_of_name pn2) hEL (fun m => by first | rfl | (simp [entryFrame, mkF, argsToLocals, cat_int, cat_ref, cat_null, cat_long]; done)) (fun K => ?_)
  show Go _ _ _ _ _ _ _ _ _ _ _ _ _ 0 0 _ _ _
  have hf := A2.len
  have hne : b ≠ dst := A1.ne_ty A2 (by decide)
  refine go_iconst (x := (0 : Int32)) d16_0 (by decide) ?_
  refine go_istore d16_1 (l' := #[.val (.ref b), .val (.int (0 : Int32)), .val (.ref dst), .val (.int (Int32.ofNat o)), .val (.int (Int32.ofNat cs.length)), .val (.int (0 : Int32))]) rfl ?_
  have loop : ∀ r i, i + r = cs.length → ∀ h1 : Heap, Keep h0 h1 [dst] → AI Z h1 b .byte (cs.map lo8) → AI Z h1 dst .char (spl full o cs i) → Go l Z a0 own_EL ({ frames := 0, cells := 0, slots := 0, locals := 0 } : Room) "java/lang/StringLatin1" jdk_43_method_49_code 6 (none : Option FieldType) "inflate" S (fun S' v h' => v = none ∧ Keep h0 h' [dst] ∧ AI Z h' dst .char (spl full o cs cs.length)) K 0 0 S h1 (mkF K.m 3 #[.val (.ref b), .val (.int (Int32.ofNat i)), .val (.ref dst), .val (.int (Int32.ofNat (o + i))), .val (.int (Int32.ofNat cs.length)), .val (.int (Int32.ofNat i))] []) := by
    intro r
    induction r with
    | zero =>
      intro i hi h1 Kp B1 B2
      refine go_iload d16_3 rfl ?_
      refine go_iload d16_5 rfl ?_
      refine go_icmpge d16_7 (fun c1001 => ?_) (fun c1001 => absurd c1001 (ofNat_nlt (by omega) (by omega)))
      exact go_return d16_33 rfl ⟨rfl, Kp, by rw [show cs.length = i by omega]; exact B2⟩
    | succ r ih =>
      intro i hi h1 Kp B1 B2
      have zK := Kp.1
      obtain ⟨c, hc⟩ : ∃ c, cs[i]? = some c := ⟨_, List.getElem?_eq_getElem (by omega)⟩
      have hc1 := hch c (List.mem_of_getElem? hc)
      have hc2 := hlat c (List.mem_of_getElem? hc)
      refine go_iload d16_3 rfl ?_
      refine go_iload d16_5 rfl ?_
      refine go_icmpge d16_7 (fun c1002 => absurd (ofNat_lt (by omega) (by omega)) c1002) (fun c1002 => ?_)
      refine go_aloadN d16_10 rfl rfl ?_
      refine go_iloadN d16_11 rfl ?_
      refine go_iinc d16_12 rfl (v := (Int32.ofNat (o + (i + 1)))) (ofNat_inc (o + i)) (l' := #[.val (.ref b), .val (.int (Int32.ofNat i)), .val (.ref dst), .val (.int (Int32.ofNat (o + (i + 1)))), .val (.int (Int32.ofNat cs.length)), .val (.int (Int32.ofNat i))]) rfl ?_
      refine go_aloadN d16_15 rfl rfl ?_
      refine go_iloadN d16_16 rfl ?_
      refine go_iinc d16_17 rfl (v := (Int32.ofNat (i + 1))) (ofNat_inc i) (l' := #[.val (.ref b), .val (.int (Int32.ofNat (i + 1))), .val (.ref dst), .val (.int (Int32.ofNat (o + (i + 1)))), .val (.int (Int32.ofNat cs.length)), .val (.int (Int32.ofNat i))]) rfl ?_
      refine go_baload (x := (lo8 c)) B1 (i := i) rfl (by rw [List.getElem?_map, hc]; rfl) d16_20 ?_
      refine go_sipush (x := (255 : Int32)) d16_21 (by decide) ?_
      refine go_iand (v := c) d16_24 (lat_mask hc1 hc2) ?_
      refine go_i2c (v := c) d16_25 (i2c_ch hc1) ?_
      refine go_castore (v := c) B2 (by omega) (i := (o + i)) rfl (by rw [spl_len (by omega) (by omega)]; omega) (nar_ch hc1) d16_26 (fun h1003 K1003 A1003 => ?_)
      have z1003 := K1003.1
      have A1003 : AI Z h1003 dst .char (spl full o cs (i + 1)) := spl_set (by omega) hc ▸ A1003
      refine go_iinc d16_27 rfl (v := (Int32.ofNat (i + 1))) (ofNat_inc i) (l' := #[.val (.ref b), .val (.int (Int32.ofNat (i + 1))), .val (.ref dst), .val (.int (Int32.ofNat (o + (i + 1)))), .val (.int (Int32.ofNat cs.length)), .val (.int (Int32.ofNat (i + 1)))]) rfl ?_
      refine go_goto d16_30 ?_
      have f1004 := (B1.keep K1003 (ninS hne nin0))
      exact ih (i + 1) (by omega) h1003 (Kp.trans K1003 (allS (Or.inl (by simp)) all0)) f1004 A1003
  exact loop cs.length 0 (by omega) h0 (Keep.refl _ _) A1 (by rw [spl_zero]; exact A2)
theorem d17_0 : Dec jdk_43_method_11_code 0 (.aload_n 0) 1 1 := ⟨by decide +kernel, rfl⟩
theorem d17_1 : Dec jdk_43_method_11_code 1 (.iload_n 1) 1 2 := ⟨by decide +kernel, rfl⟩
theorem d17_2 : Dec jdk_43_method_11_code 2 (.aload_n 3) 1 3 := ⟨by decide +kernel, rfl⟩
theorem d17_3 : Dec jdk_43_method_11_code 3 (.iload 4) 2 5 := ⟨by decide +kernel, rfl⟩
theorem d17_5 : Dec jdk_43_method_11_code 5 (.iload_n 2) 1 6 := ⟨by decide +kernel, rfl⟩
theorem d17_6 : Dec jdk_43_method_11_code 6 (.iload_n 1) 1 7 := ⟨by decide +kernel, rfl⟩
theorem d17_7 : Dec jdk_43_method_11_code 7 (.isub) 1 8 := ⟨by decide +kernel, rfl⟩
theorem d17_8 : Dec jdk_43_method_11_code 8 (.invokestatic 13) 3 11 := ⟨by decide +kernel, rfl⟩
theorem pd9 : parseMethodDescriptor "([BI[CII)V" = some ⟨[(.array .byte), .int, (.array .char), .int, .int], none⟩ := by decide +kernel
theorem d17_11 : Dec jdk_43_method_11_code 11 (.return_) 1 12 := ⟨by decide +kernel, rfl⟩
set_option maxRecDepth 65536 in
set_option maxHeartbeats 40000000 in
theorem c_lgc (l : Launch) (Z : State) (a0 : Array Value) (hw : ∀ d ∈ tables_1, d.before a0 Z = true) (hEL : EW Z a0 own_EL) (b dst : Addr) (cs full : List Int32) (o : Nat) (S : Addr → Prop) (h0 : Heap) (hz : Z.heap.size ≤ h0.size) (A1 : AI Z h0 b .byte (cs.map lo8)) (A2 : AI Z h0 dst .char full) (gd : Z.heap.size ≤ dst) (hof : o + cs.length ≤ full.length) (hch : ∀ c ∈ cs, isCh c) (hlat : ∀ c ∈ cs, ¬ (255 : Int32) < c) :
    Con l Z own_EL [] (⟨"java/lang/StringLatin1", "getChars", "([BII[CI)V"⟩ : MethodName) jdk_43_method_11_code 5 (none : Option FieldType) ({ frames := 1, cells := 0, slots := 0, locals := 17 } : Room) #[.ref b, .int (0 : Int32), .int (Int32.ofNat cs.length), .ref dst, .int (Int32.ofNat o)] S h0 (fun S' v h' => v = none ∧ Keep h0 h' [dst] ∧ AI Z h' dst .char (spl full o cs cs.length)) := by
  refine con_of_go (ls := #[.val (.ref b), .val (.int (0 : Int32)), .val (.int (Int32.ofNat cs.length)), .val (.ref dst), .val (.int (Int32.ofNat o))]) (plainFor_of_name pn2) hEL (fun m => by first | rfl | (simp [entryFrame, mkF, argsToLocals, cat_int, cat_ref, cat_null, cat_long]; done)) (fun K => ?_)
  show Go _ _ _ _ _ _ _ _ _ _ _ _ _ 0 0 _ _ _
  refine go_aloadN d17_0 rfl rfl ?_
  refine go_iloadN d17_1 rfl ?_
  refine go_aloadN d17_2 rfl rfl ?_
  refine go_iload d17_3 rfl ?_
  refine go_iloadN d17_5 rfl ?_
  refine go_iloadN d17_6 rfl ?_
  refine go_isub (v := (Int32.ofNat cs.length)) d17_7 (Int32.sub_zero _) ?_
  refine go_static (R := ({ frames := 1, cells := 0, slots := 0, locals := 17 } : Room)) (kc := 0) (ks := 0) [.ref b, .int (0 : Int32), .ref dst, .int (Int32.ofNat o), .int (Int32.ofNat cs.length)] [] (c_inf l Z a0 hw hEL b dst _ _ o S h0 hz A1 A2 gd hof hch hlat) (hw _ (List.mem_of_getElem? (i := 128) rfl)) (hw _ (List.mem_of_getElem? (i := 129) rfl)) (hw _ (List.mem_of_getElem? (i := 130) rfl)) (hw _ (List.mem_of_getElem? (i := 64) rfl)) (by decide) rfl rfl (lenOf pd9 rfl) d17_8 (by rfl) (by decide) (Nat.le_of_ble_eq_true rfl) (rc := 0) (rs := 0) rfl rfl (fun S1001 v1001 h1001 m1001 z1001 q1001 => ?_)
  obtain ⟨rfl, K1001, A1001⟩ := q1001
  have z1001 := K1001.1
  show Go _ _ _ _ _ _ _ _ _ _ _ _ _ _ _ _ _ (mkF K.m 11 #[.val (.ref b), .val (.int (0 : Int32)), .val (.int (Int32.ofNat cs.length)), .val (.ref dst), .val (.int (Int32.ofNat o))] [])
  exact go_return d17_11 rfl ⟨rfl, ((Keep.refl h0 [dst]).trans K1001 (allS (Or.inl (by simp)) all0)), A1001⟩
theorem d18_0 : Dec jdk_42_method_61_code 0 (.iload_n 1) 1 1 := ⟨by decide +kernel, rfl⟩
theorem d18_1 : Dec jdk_42_method_61_code 1 (.iload_n 2) 1 2 := ⟨by decide +kernel, rfl⟩
theorem d18_2 : Dec jdk_42_method_61_code 2 (.aload_n 0) 1 3 := ⟨by decide +kernel, rfl⟩
theorem d18_3 : Dec jdk_42_method_61_code 3 (.invokevirtual 505) 3 6 := ⟨by decide +kernel, rfl⟩
theorem pd10 : parseMethodDescriptor "()I" = some ⟨[], some .int⟩ := by decide +kernel
theorem d18_6 : Dec jdk_42_method_61_code 6 (.invokestatic 521) 3 9 := ⟨by decide +kernel, rfl⟩
theorem pd11 : parseMethodDescriptor "(III)V" = some ⟨[.int, .int, .int], none⟩ := by decide +kernel
theorem d18_9 : Dec jdk_42_method_61_code 9 (.iload 4) 2 11 := ⟨by decide +kernel, rfl⟩
theorem d18_11 : Dec jdk_42_method_61_code 11 (.iload_n 2) 1 12 := ⟨by decide +kernel, rfl⟩
theorem d18_12 : Dec jdk_42_method_61_code 12 (.iload_n 1) 1 13 := ⟨by decide +kernel, rfl⟩
theorem d18_13 : Dec jdk_42_method_61_code 13 (.isub) 1 14 := ⟨by decide +kernel, rfl⟩
theorem d18_14 : Dec jdk_42_method_61_code 14 (.aload_n 3) 1 15 := ⟨by decide +kernel, rfl⟩
theorem d18_15 : Dec jdk_42_method_61_code 15 (.arraylength) 1 16 := ⟨by decide +kernel, rfl⟩
theorem d18_16 : Dec jdk_42_method_61_code 16 (.invokestatic 34) 3 19 := ⟨by decide +kernel, rfl⟩
theorem pd12 : parseMethodDescriptor "(III)I" = some ⟨[.int, .int, .int], some .int⟩ := by decide +kernel
theorem d18_19 : Dec jdk_42_method_61_code 19 (.pop) 1 20 := ⟨by decide +kernel, rfl⟩
theorem d18_20 : Dec jdk_42_method_61_code 20 (.aload_n 0) 1 21 := ⟨by decide +kernel, rfl⟩
theorem d18_21 : Dec jdk_42_method_61_code 21 (.invokevirtual 492) 3 24 := ⟨by decide +kernel, rfl⟩
theorem d18_24 : Brn jdk_42_method_61_code 24 (.ifCond .eq 18) 18 27 42 := ⟨by decide +kernel, rfl, by decide, by decide⟩
theorem d18_27 : Dec jdk_42_method_61_code 27 (.aload_n 0) 1 28 := ⟨by decide +kernel, rfl⟩
theorem d18_28 : Dec jdk_42_method_61_code 28 (.getfield 9) 3 31 := ⟨by decide +kernel, rfl⟩
theorem d18_31 : Dec jdk_42_method_61_code 31 (.iload_n 1) 1 32 := ⟨by decide +kernel, rfl⟩
theorem d18_32 : Dec jdk_42_method_61_code 32 (.iload_n 2) 1 33 := ⟨by decide +kernel, rfl⟩
theorem d18_33 : Dec jdk_42_method_61_code 33 (.aload_n 3) 1 34 := ⟨by decide +kernel, rfl⟩
theorem d18_34 : Dec jdk_42_method_61_code 34 (.iload 4) 2 36 := ⟨by decide +kernel, rfl⟩
theorem d18_36 : Dec jdk_42_method_61_code 36 (.invokestatic 525) 3 39 := ⟨by decide +kernel, rfl⟩
theorem pd13 : parseMethodDescriptor "([BII[CI)V" = some ⟨[(.array .byte), .int, .int, (.array .char), .int], none⟩ := by decide +kernel
theorem d18_39 : Brn jdk_42_method_61_code 39 (.goto 15) 15 42 54 := ⟨by decide +kernel, rfl, by decide, by decide⟩
theorem d18_54 : Dec jdk_42_method_61_code 54 (.return_) 1 55 := ⟨by decide +kernel, rfl⟩
set_option maxRecDepth 65536 in
set_option maxHeartbeats 40000000 in
theorem c_gc (l : Launch) (Z : State) (a0 : Array Value) (hw : ∀ d ∈ tables_1, d.before a0 Z = true) (hEL : EW Z a0 own_EL) (x : Addr) (cs : List Int32) (b : Addr) (dst : Addr) (full : List Int32) (o : Nat) (S : Addr → Prop) (h0 : Heap) (hz : Z.heap.size ≤ h0.size) (F : LS Z h0 x cs b) (A2 : AI Z h0 dst .char full) (gd : Z.heap.size ≤ dst) (hof : o + cs.length ≤ full.length) (zc : Int32) (Oc : Sta Z Z.heap "java/lang/String" "COMPACT_STRINGS" "Z" (.int zc)) (Pc : ¬ zc = 0) (sf : Value) (rsf : sf.isRef = true) (Os : Sta Z Z.heap "jdk/internal/util/Preconditions" "SIOOBE_FORMATTER" "Ljava/util/function/BiFunction;" sf) :
    Con l Z own_EL [] (⟨"java/lang/String", "getChars", "(II[CI)V"⟩ : MethodName) jdk_42_method_61_code 5 (none : Option FieldType) ({ frames := 2, cells := 0, slots := 0, locals := 38 } : Room) #[.ref x, .int (0 : Int32), .int (Int32.ofNat cs.length), .ref dst, .int (Int32.ofNat o)] S h0 (fun S' v h' => v = none ∧ Keep h0 h' [dst] ∧ AI Z h' dst .char (spl full o cs cs.length)) := by
  refine con_of_go (ls := #[.val (.ref x), .val (.int (0 : Int32)), .val (.int (Int32.ofNat cs.length)), .val (.ref dst), .val (.int (Int32.ofNat o))]) (plainFor_of_name pn0) hEL (fun m => by first | rfl | (simp [entryFrame, mkF, argsToLocals, cat_int, cat_ref, cat_null, cat_long]; done)) (fun K => ?_)
  show Go _ _ _ _ _ _ _ _ _ _ _ _ _ 0 0 _ _ _
  have hf := A2.len
  have h3 := F.2.2.2
  refine go_iloadN d18_0 rfl ?_
  refine go_iloadN d18_1 rfl ?_
  refine go_aloadN d18_2 rfl rfl ?_
  refine go_virtual (R := ({ frames := 2, cells := 0, slots := 0, locals := 38 } : Room)) (kc := 0) (ks := 0) [] [.int (Int32.ofNat cs.length), .int (0 : Int32)] (c_len l Z a0 hw hEL x _ _ _ S h0 F.1 zc Oc Pc) F.1.1 (hw _ (List.mem_of_getElem? (i := 110) rfl)) (hw _ (List.mem_of_getElem? (i := 96) rfl)) (hw _ (List.mem_of_getElem? (i := 98) rfl)) (hw _ (List.mem_of_getElem? (i := 97) rfl)) (nfSel (hw _ (List.mem_of_getElem? (i := 98) rfl))) (hw _ (List.mem_of_getElem? (i := 99) rfl)) (hw _ (List.mem_of_getElem? (i := 6) rfl)) (by decide) rfl rfl (lenOf pd10 rfl) d18_3 (by rfl) (by decide) (Nat.le_of_ble_eq_true rfl) (rc := 0) (rs := 0) rfl rfl (fun S1001 v1001 h1001 m1001 z1001 q1001 => ?_)
  obtain ⟨rfl, rfl⟩ := q1001
  show Go _ _ _ _ _ _ _ _ _ _ _ _ _ _ _ _ _ (mkF K.m 6 #[.val (.ref x), .val (.int (0 : Int32)), .val (.int (Int32.ofNat cs.length)), .val (.ref dst), .val (.int (Int32.ofNat o))] [.int (Int32.ofNat cs.length), .int (Int32.ofNat cs.length), .int (0 : Int32)])
  refine go_static (R := ({ frames := 2, cells := 0, slots := 0, locals := 38 } : Room)) (kc := 0) (ks := 0) [.int (0 : Int32), .int (Int32.ofNat cs.length), .int (Int32.ofNat cs.length)] [] (c_cbe l Z a0 hw hEL cs.length (by omega) sf rsf Os S1001 h0) (hw _ (List.mem_of_getElem? (i := 111) rfl)) (hw _ (List.mem_of_getElem? (i := 112) rfl)) (hw _ (List.mem_of_getElem? (i := 113) rfl)) (hw _ (List.mem_of_getElem? (i := 6) rfl)) (by decide) rfl rfl (lenOf pd11 rfl) d18_6 (by rfl) (by decide) (Nat.le_of_ble_eq_true rfl) (rc := 0) (rs := 0) rfl rfl (fun S1002 v1002 h1002 m1002 z1002 q1002 => ?_)
  obtain ⟨rfl, rfl⟩ := q1002
  show Go _ _ _ _ _ _ _ _ _ _ _ _ _ _ _ _ _ (mkF K.m 9 #[.val (.ref x), .val (.int (0 : Int32)), .val (.int (Int32.ofNat cs.length)), .val (.ref dst), .val (.int (Int32.ofNat o))] [])
  refine go_iload d18_9 rfl ?_
  refine go_iloadN d18_11 rfl ?_
  refine go_iloadN d18_12 rfl ?_
  refine go_isub (v := (Int32.ofNat cs.length)) d18_13 (Int32.sub_zero _) ?_
  refine go_aloadN d18_14 rfl rfl ?_
  refine go_alen A2 d18_15 (v := (Int32.ofNat full.length)) rfl ?_
  refine go_static (R := ({ frames := 2, cells := 0, slots := 0, locals := 38 } : Room)) (kc := 0) (ks := 0) [.int (Int32.ofNat o), .int (Int32.ofNat cs.length), .int (Int32.ofNat full.length)] [] (c_coc l Z a0 hw hEL o cs.length full.length hof hf sf rsf Os S1002 h0) (hw _ (List.mem_of_getElem? (i := 119) rfl)) (hw _ (List.mem_of_getElem? (i := 120) rfl)) (hw _ (List.mem_of_getElem? (i := 121) rfl)) (hw _ (List.mem_of_getElem? (i := 6) rfl)) (by decide) rfl rfl (lenOf pd12 rfl) d18_16 (by rfl) (by decide) (Nat.le_of_ble_eq_true rfl) (rc := 0) (rs := 0) rfl rfl (fun S1003 v1003 h1003 m1003 z1003 q1003 => ?_)
  obtain ⟨rfl, rfl⟩ := q1003
  show Go _ _ _ _ _ _ _ _ _ _ _ _ _ _ _ _ _ (mkF K.m 19 #[.val (.ref x), .val (.int (0 : Int32)), .val (.int (Int32.ofNat cs.length)), .val (.ref dst), .val (.int (Int32.ofNat o))] [.int (Int32.ofNat o)])
  refine go_pop d18_19 rfl ?_
  refine go_aloadN d18_20 rfl rfl ?_
  refine go_virtual (R := ({ frames := 2, cells := 0, slots := 0, locals := 38 } : Room)) (kc := 0) (ks := 0) [] [] (c_lat l Z a0 hw hEL x _ _ _ S1003 h0 F.1 zc Oc Pc) F.1.1 (hw _ (List.mem_of_getElem? (i := 56) rfl)) (hw _ (List.mem_of_getElem? (i := 57) rfl)) (hw _ (List.mem_of_getElem? (i := 59) rfl)) (hw _ (List.mem_of_getElem? (i := 58) rfl)) (nfSel (hw _ (List.mem_of_getElem? (i := 59) rfl))) (hw _ (List.mem_of_getElem? (i := 60) rfl)) (hw _ (List.mem_of_getElem? (i := 6) rfl)) (by decide) rfl rfl (lenOf pd3 rfl) d18_21 (by rfl) (by decide) (Nat.le_of_ble_eq_true rfl) (rc := 0) (rs := 0) rfl rfl (fun S1004 v1004 h1004 m1004 z1004 q1004 => ?_)
  obtain ⟨rfl, rfl⟩ := q1004
  show Go _ _ _ _ _ _ _ _ _ _ _ _ _ _ _ _ _ (mkF K.m 24 #[.val (.ref x), .val (.int (0 : Int32)), .val (.int (Int32.ofNat cs.length)), .val (.ref dst), .val (.int (Int32.ofNat o))] [.int (1 : Int32)])
  refine go_ifeq d18_24 (fun c1005 => absurd c1005 (by decide)) (fun c1005 => ?_)
  refine go_aloadN d18_27 rfl rfl ?_
  refine go_getf (hw _ (List.mem_of_getElem? (i := 24) rfl)) Via.refl F.1.2.2.1 d18_28 ?_
  refine go_iloadN d18_31 rfl ?_
  refine go_iloadN d18_32 rfl ?_
  refine go_aloadN d18_33 rfl rfl ?_
  refine go_iload d18_34 rfl ?_
  refine go_static (R := ({ frames := 2, cells := 0, slots := 0, locals := 38 } : Room)) (kc := 0) (ks := 0) [.ref b, .int (0 : Int32), .int (Int32.ofNat cs.length), .ref dst, .int (Int32.ofNat o)] [] (c_lgc l Z a0 hw hEL b dst _ _ o S1004 h0 hz F.bytes A2 gd hof F.ch F.lat) (hw _ (List.mem_of_getElem? (i := 125) rfl)) (hw _ (List.mem_of_getElem? (i := 126) rfl)) (hw _ (List.mem_of_getElem? (i := 127) rfl)) (hw _ (List.mem_of_getElem? (i := 64) rfl)) (by decide) rfl rfl (lenOf pd13 rfl) d18_36 (by rfl) (by decide) (Nat.le_of_ble_eq_true rfl) (rc := 0) (rs := 0) rfl rfl (fun S1006 v1006 h1006 m1006 z1006 q1006 => ?_)
  obtain ⟨rfl, K1006, A1006⟩ := q1006
  have z1006 := K1006.1
  show Go _ _ _ _ _ _ _ _ _ _ _ _ _ _ _ _ _ (mkF K.m 39 #[.val (.ref x), .val (.int (0 : Int32)), .val (.int (Int32.ofNat cs.length)), .val (.ref dst), .val (.int (Int32.ofNat o))] [])
  refine go_goto d18_39 ?_
  exact go_return d18_54 rfl ⟨rfl, ((Keep.refl h0 [dst]).trans K1006 (allS (Or.inl (by simp)) all0)), A1006⟩
theorem d19_0 : Dec jdk_52_method_21_code 0 (.iconst 0) 1 1 := ⟨by decide +kernel, rfl⟩
theorem d19_1 : Dec jdk_52_method_21_code 1 (.istore 5) 2 3 := ⟨by decide +kernel, rfl⟩
theorem d19_3 : Dec jdk_52_method_21_code 3 (.iload 5) 2 5 := ⟨by decide +kernel, rfl⟩
theorem d19_5 : Dec jdk_52_method_21_code 5 (.iload 4) 2 7 := ⟨by decide +kernel, rfl⟩
theorem d19_7 : Brn jdk_52_method_21_code 7 (.if_icmp .ge 37) 37 10 44 := ⟨by decide +kernel, rfl, by decide, by decide⟩
theorem d19_44 : Dec jdk_52_method_21_code 44 (.iload 4) 2 46 := ⟨by decide +kernel, rfl⟩
theorem d19_46 : Dec jdk_52_method_21_code 46 (.ireturn) 1 47 := ⟨by decide +kernel, rfl⟩
theorem d19_10 : Dec jdk_52_method_21_code 10 (.aload_n 0) 1 11 := ⟨by decide +kernel, rfl⟩
theorem d19_11 : Dec jdk_52_method_21_code 11 (.iload_n 1) 1 12 := ⟨by decide +kernel, rfl⟩
theorem d19_12 : Dec jdk_52_method_21_code 12 (.caload) 1 13 := ⟨by decide +kernel, rfl⟩
theorem d19_13 : Dec jdk_52_method_21_code 13 (.istore 6) 2 15 := ⟨by decide +kernel, rfl⟩
theorem d19_15 : Dec jdk_52_method_21_code 15 (.iload 6) 2 17 := ⟨by decide +kernel, rfl⟩
theorem d19_17 : Dec jdk_52_method_21_code 17 (.sipush 255) 3 20 := ⟨by decide +kernel, rfl⟩
theorem d19_20 : Brn jdk_52_method_21_code 20 (.if_icmp .le 6) 6 23 26 := ⟨by decide +kernel, rfl, by decide, by decide⟩
theorem d19_26 : Dec jdk_52_method_21_code 26 (.aload_n 2) 1 27 := ⟨by decide +kernel, rfl⟩
theorem d19_27 : Dec jdk_52_method_21_code 27 (.iload_n 3) 1 28 := ⟨by decide +kernel, rfl⟩
theorem d19_28 : Dec jdk_52_method_21_code 28 (.iload 6) 2 30 := ⟨by decide +kernel, rfl⟩
theorem d19_30 : Dec jdk_52_method_21_code 30 (.i2b) 1 31 := ⟨by decide +kernel, rfl⟩
theorem d19_31 : Dec jdk_52_method_21_code 31 (.bastore) 1 32 := ⟨by decide +kernel, rfl⟩
theorem d19_32 : Dec jdk_52_method_21_code 32 (.iinc 1 1) 3 35 := ⟨by decide +kernel, rfl⟩
theorem d19_35 : Dec jdk_52_method_21_code 35 (.iinc 3 1) 3 38 := ⟨by decide +kernel, rfl⟩
theorem d19_38 : Dec jdk_52_method_21_code 38 (.iinc 5 1) 3 41 := ⟨by decide +kernel, rfl⟩
theorem d19_41 : Brn jdk_52_method_21_code 41 (.goto (-38)) (-38) 44 3 := ⟨by decide +kernel, rfl, by decide, by decide⟩
theorem pn5 : plainName "java/lang/StringUTF16" = true := by first | (simp [plainName, overriddenIn]; done) | decide +kernel
set_option maxRecDepth 65536 in
set_option maxHeartbeats 40000000 in
theorem c_cmp1 (l : Launch) (Z : State) (a0 : Array Value) (hw : ∀ d ∈ tables_1, d.before a0 Z = true) (hEL : EW Z a0 own_EL) (dst : Addr) (S : Addr → Prop) (h0 : Heap) (hz : Z.heap.size ≤ h0.size) (src : Addr) (full cs : List Int32) (o : Nat) (A1 : AI Z h0 src .char full) (hsub : ∀ (i : Nat) (c : Int32), cs[i]? = some c → full[o + i]? = some c) (ho : o + cs.length ≤ full.length) (hl3 : cs.length ≤ 3) (hpos : cs ≠ []) (hlat : ∀ c ∈ cs, isCh c ∧ ¬ (255 : Int32) < c) (A2 : AI Z h0 dst .byte (List.replicate cs.length 0)) (gd : Z.heap.size ≤ dst) (sd : S dst) :
    Con l Z own_EL [] (⟨"java/lang/StringUTF16", "compress", "([CI[BII)I"⟩ : MethodName) jdk_52_method_21_code 7 (some .int) ({ frames := 0, cells := 0, slots := 0, locals := 0 } : Room) #[.ref src, .int (Int32.ofNat o), .ref dst, .int (0 : Int32), .int (Int32.ofNat cs.length)] S h0 (fun S' v h' => v = some (.int (Int32.ofNat cs.length)) ∧ Keep h0 h' [dst] ∧ AI Z h' dst .byte (cs.map lo8)) := by
  refine con_of_go (ls := #[.val (.ref src), .val (.int (Int32.ofNat o)), .val (.ref dst), .val (.int (0 : Int32)), .val (.int (Int32.ofNat cs.length)), .unset, .unset]) (plainFor_of_name pn5) hEL (fun m => by first | rfl | (simp [entryFrame, mkF, argsToLocals, cat_int, cat_ref, cat_null, cat_long]; done)) (fun K => ?_)
  show Go _ _ _ _ _ _ _ _ _ _ _ _ _ 0 0 _ _ _
  have hf := A1.len
  have hne : src ≠ dst := A1.ne_ty A2 (by decide)
  refine go_iconst (x := (0 : Int32)) d19_0 (by decide) ?_
  refine go_istore d19_1 (l' := #[.val (.ref src), .val (.int (Int32.ofNat o)), .val (.ref dst), .val (.int (0 : Int32)), .val (.int (Int32.ofNat cs.length)), .val (.int (0 : Int32)), .unset]) rfl ?_
  have loop : ∀ r i, i + r = cs.length → ∀ (s6 : Slot) (hs6 : s6 = .unset ∨ ∃ w, s6 = .val w ∧ w.category = 1) (h1 : Heap), Keep h0 h1 [dst] → AI Z h1 src .char full → AI Z h1 dst .byte ((cs.take i).map lo8 ++ List.replicate (cs.length - i) 0) → Go l Z a0 own_EL ({ frames := 0, cells := 0, slots := 0, locals := 0 } : Room) "java/lang/StringUTF16" jdk_52_method_21_code 7 (some .int) "compress" S (fun S' v h' => v = some (.int (Int32.ofNat cs.length)) ∧ Keep h0 h' [dst] ∧ AI Z h' dst .byte (cs.map lo8)) K 0 0 S h1 (mkF K.m 3 #[.val (.ref src), .val (.int (Int32.ofNat (o + i))), .val (.ref dst), .val (.int (Int32.ofNat i)), .val (.int (Int32.ofNat cs.length)), .val (.int (Int32.ofNat i)), s6] []) := by
    intro r
    induction r with
    | zero =>
      intro i hi s6 hs6 h1 Kp B1 B2
      refine go_iload d19_3 rfl ?_
      refine go_iload d19_5 rfl ?_
      refine go_icmpge d19_7 (fun c1001 => ?_) (fun c1001 => absurd c1001 (ofNat_nlt (by omega) (by omega)))
      refine go_iload d19_44 rfl ?_
      exact go_ireturn (ty := .int) (v := (Int32.ofNat cs.length)) d19_46 rfl (by simp) rfl ⟨rfl, Kp, by obtain rfl : i = cs.length := (by omega); simpa using B2⟩
    | succ r ih =>
      intro i hi s6 hs6 h1 Kp B1 B2
      have zK := Kp.1
      obtain ⟨c, hc⟩ : ∃ c, cs[i]? = some c := ⟨_, List.getElem?_eq_getElem (by omega)⟩
      refine go_iload d19_3 rfl ?_
      refine go_iload d19_5 rfl ?_
      refine go_icmpge d19_7 (fun c1002 => absurd (ofNat_lt (by omega) (by omega)) c1002) (fun c1002 => ?_)
      refine go_aloadN d19_10 rfl rfl ?_
      refine go_iloadN d19_11 rfl ?_
      refine go_caload (x := c) B1 (i := (o + i)) rfl (hsub i c hc) d19_12 ?_
      refine go_istoreS d19_13 rfl hs6 (l' := #[.val (.ref src), .val (.int (Int32.ofNat (o + i))), .val (.ref dst), .val (.int (Int32.ofNat i)), .val (.int (Int32.ofNat cs.length)), .val (.int (Int32.ofNat i)), .val (.int c)]) rfl ?_
      refine go_iload d19_15 rfl ?_
      refine go_sipush (x := (255 : Int32)) d19_17 (by decide) ?_
      refine go_icmple d19_20 (fun c1003 => ?_) (fun c1003 => absurd c1003 ((hlat c (List.mem_of_getElem? hc)).2))
      refine go_aloadN d19_26 rfl rfl ?_
      refine go_iloadN d19_27 rfl ?_
      refine go_iload d19_28 rfl ?_
      refine go_i2b (v := (lo8 c)) d19_30 rfl ?_
      refine go_bastore (v := (lo8 c)) B2 (by omega) sd (i := i) rfl (by rw [fill_len lo8 rfl (by omega)]; omega) (nar_lo8 c) d19_31 (fun h1004 K1004 A1004 => ?_)
      have z1004 := K1004.1
      have A1004 : AI Z h1004 dst .byte ((cs.take (i + 1)).map lo8 ++ List.replicate (cs.length - (i + 1)) 0) := set_fill lo8 rfl hc ▸ A1004
      refine go_iinc d19_32 rfl (v := (Int32.ofNat (o + (i + 1)))) (ofNat_inc (o + i)) (l' := #[.val (.ref src), .val (.int (Int32.ofNat (o + (i + 1)))), .val (.ref dst), .val (.int (Int32.ofNat i)), .val (.int (Int32.ofNat cs.length)), .val (.int (Int32.ofNat i)), .val (.int c)]) rfl ?_
      refine go_iinc d19_35 rfl (v := (Int32.ofNat (i + 1))) (ofNat_inc i) (l' := #[.val (.ref src), .val (.int (Int32.ofNat (o + (i + 1)))), .val (.ref dst), .val (.int (Int32.ofNat (i + 1))), .val (.int (Int32.ofNat cs.length)), .val (.int (Int32.ofNat i)), .val (.int c)]) rfl ?_
      refine go_iinc d19_38 rfl (v := (Int32.ofNat (i + 1))) (ofNat_inc i) (l' := #[.val (.ref src), .val (.int (Int32.ofNat (o + (i + 1)))), .val (.ref dst), .val (.int (Int32.ofNat (i + 1))), .val (.int (Int32.ofNat cs.length)), .val (.int (Int32.ofNat (i + 1))), .val (.int c)]) rfl ?_
      refine go_goto d19_41 ?_
      have f1005 := (B1.keep K1004 (ninS hne nin0))
      exact ih (i + 1) (by omega) _ (Or.inr ⟨_, rfl, rfl⟩) h1004 (Kp.trans K1004 (allS (Or.inl (by simp)) all0)) f1005 A1004
  exact loop cs.length 0 (by omega) _ (Or.inl rfl) h0 (Keep.refl _ _) A1 (by simpa using A2)
theorem d20_0 : Dec jdk_52_method_16_code 0 (.iload_n 2) 1 1 := ⟨by decide +kernel, rfl⟩
theorem d20_1 : Dec jdk_52_method_16_code 1 (.newarray .byte) 2 3 := ⟨by decide +kernel, rfl⟩
theorem d20_3 : Dec jdk_52_method_16_code 3 (.astore_n 3) 1 4 := ⟨by decide +kernel, rfl⟩
theorem d20_4 : Dec jdk_52_method_16_code 4 (.aload_n 0) 1 5 := ⟨by decide +kernel, rfl⟩
theorem d20_5 : Dec jdk_52_method_16_code 5 (.iload_n 1) 1 6 := ⟨by decide +kernel, rfl⟩
theorem d20_6 : Dec jdk_52_method_16_code 6 (.aload_n 3) 1 7 := ⟨by decide +kernel, rfl⟩
theorem d20_7 : Dec jdk_52_method_16_code 7 (.iconst 0) 1 8 := ⟨by decide +kernel, rfl⟩
theorem d20_8 : Dec jdk_52_method_16_code 8 (.iload_n 2) 1 9 := ⟨by decide +kernel, rfl⟩
theorem d20_9 : Dec jdk_52_method_16_code 9 (.invokestatic 115) 3 12 := ⟨by decide +kernel, rfl⟩
theorem pd14 : parseMethodDescriptor "([CI[BII)I" = some ⟨[(.array .char), .int, (.array .byte), .int, .int], some .int⟩ := by decide +kernel
theorem d20_12 : Dec jdk_52_method_16_code 12 (.istore 4) 2 14 := ⟨by decide +kernel, rfl⟩
theorem d20_14 : Dec jdk_52_method_16_code 14 (.iload 4) 2 16 := ⟨by decide +kernel, rfl⟩
theorem d20_16 : Dec jdk_52_method_16_code 16 (.iload_n 2) 1 17 := ⟨by decide +kernel, rfl⟩
theorem d20_17 : Brn jdk_52_method_16_code 17 (.if_icmp .eq 40) 40 20 57 := ⟨by decide +kernel, rfl, by decide, by decide⟩
theorem d20_57 : Dec jdk_52_method_16_code 57 (.aload_n 3) 1 58 := ⟨by decide +kernel, rfl⟩
theorem d20_58 : Dec jdk_52_method_16_code 58 (.areturn) 1 59 := ⟨by decide +kernel, rfl⟩
set_option maxRecDepth 65536 in
set_option maxHeartbeats 40000000 in
theorem c_cmp2 (l : Launch) (Z : State) (a0 : Array Value) (hw : ∀ d ∈ tables_1, d.before a0 Z = true) (hEL : EW Z a0 own_EL) (S : Addr → Prop) (h0 : Heap) (hz : Z.heap.size ≤ h0.size) (src : Addr) (full cs : List Int32) (o : Nat) (A1 : AI Z h0 src .char full) (hsub : ∀ (i : Nat) (c : Int32), cs[i]? = some c → full[o + i]? = some c) (ho : o + cs.length ≤ full.length) (hl3 : cs.length ≤ 3) (hpos : cs ≠ []) (hlat : ∀ c ∈ cs, isCh c ∧ ¬ (255 : Int32) < c) :
    Con l Z own_EL [] (⟨"java/lang/StringUTF16", "compress", "([CII)[B"⟩ : MethodName) jdk_52_method_16_code 6 (some (.array .byte)) ({ frames := 1, cells := 1, slots := 3, locals := 18 } : Room) #[.ref src, .int (Int32.ofNat o), .int (Int32.ofNat cs.length)] S h0 (fun S' v h' => ∃ b, v = some (.ref b) ∧ h0.size ≤ b ∧ S' b ∧ Keep h0 h' [] ∧ AI Z h' b .byte (cs.map lo8) ∧ Exa Z h' b "[B") := by
  refine con_of_go (ls := #[.val (.ref src), .val (.int (Int32.ofNat o)), .val (.int (Int32.ofNat cs.length)), .unset, .unset, .unset]) (plainFor_of_name pn5) hEL (fun m => by first | rfl | (simp [entryFrame, mkF, argsToLocals, cat_int, cat_ref, cat_null, cat_long]; done)) (fun K => ?_)
  show Go _ _ _ _ _ _ _ _ _ _ _ _ _ 1 3 _ _ _
  have ls := lt_nat A1.lt
  refine go_iloadN d20_0 rfl ?_
  refine go_newarrE (kc := 0) (ks := 0) (N := cs.length) (cap := 3) (ad := "[B") (hw _ (List.mem_of_getElem? (i := 19) rfl)) (by decide) rfl hl3 (by decide) rfl rfl d20_1 (fun S1001 h1001 a1001 e1001 m1001 s1001 x1001 l1001 ⟨A1001, E1001⟩ => ?_)
  have z1001 := x1001.1
  have A1001 : AI Z h1001 a1001 .byte (List.replicate cs.length 0) := A1001
  refine go_astoreN d20_3 rfl (l' := #[.val (.ref src), .val (.int (Int32.ofNat o)), .val (.int (Int32.ofNat cs.length)), .val (.ref a1001), .unset, .unset]) rfl ?_
  refine go_aloadN d20_4 rfl rfl ?_
  refine go_iloadN d20_5 rfl ?_
  refine go_aloadN d20_6 rfl rfl ?_
  refine go_iconst (x := (0 : Int32)) d20_7 (by decide) ?_
  refine go_iloadN d20_8 rfl ?_
  have f1002 := (A1.ext x1001)
  refine go_static (R := ({ frames := 1, cells := 1, slots := 3, locals := 18 } : Room)) (kc := 0) (ks := 0) [.ref src, .int (Int32.ofNat o), .ref a1001, .int (0 : Int32), .int (Int32.ofNat cs.length)] [] (c_cmp1 l Z a0 hw hEL a1001 S1001 h1001 (by omega) src full cs o f1002 hsub ho hl3 hpos hlat A1001 (by omega) s1001) (hw _ (List.mem_of_getElem? (i := 143) rfl)) (hw _ (List.mem_of_getElem? (i := 144) rfl)) (hw _ (List.mem_of_getElem? (i := 145) rfl)) (hw _ (List.mem_of_getElem? (i := 141) rfl)) (by decide) rfl rfl (lenOf pd14 rfl) d20_9 (by rfl) (by decide) (Nat.le_of_ble_eq_true rfl) (rc := 0) (rs := 0) rfl rfl (fun S1003 v1003 h1003 m1003 z1003 q1003 => ?_)
  obtain ⟨rfl, K1003, A1003⟩ := q1003
  have z1003 := K1003.1
  show Go _ _ _ _ _ _ _ _ _ _ _ _ _ _ _ _ _ (mkF K.m 12 #[.val (.ref src), .val (.int (Int32.ofNat o)), .val (.int (Int32.ofNat cs.length)), .val (.ref a1001), .unset, .unset] [.int (Int32.ofNat cs.length)])
  refine go_istore d20_12 (l' := #[.val (.ref src), .val (.int (Int32.ofNat o)), .val (.int (Int32.ofNat cs.length)), .val (.ref a1001), .val (.int (Int32.ofNat cs.length)), .unset]) rfl ?_
  refine go_iload d20_14 rfl ?_
  refine go_iloadN d20_16 rfl ?_
  refine go_icmpeq d20_17 (fun c1004 => ?_) (fun c1004 => absurd (rfl) c1004)
  refine go_aloadN d20_57 rfl rfl ?_
  have f1005 := (E1001.keep K1003)
  exact go_areturn d20_58 rfl rfl rfl ⟨_, rfl, by omega, (m1003 _ s1001), (((Keep.refl h0 []).ext x1001).trans K1003 (allS (Or.inr (by omega)) all0)), A1003, f1005⟩
theorem d21_0 : Dec jdk_52_method_15_code 0 (.iload_n 1) 1 1 := ⟨by decide +kernel, rfl⟩
theorem d21_1 : Dec jdk_52_method_15_code 1 (.aload_n 0) 1 2 := ⟨by decide +kernel, rfl⟩
theorem d21_2 : Dec jdk_52_method_15_code 2 (.arraylength) 1 3 := ⟨by decide +kernel, rfl⟩
theorem d21_3 : Dec jdk_52_method_15_code 3 (.isub) 1 4 := ⟨by decide +kernel, rfl⟩
theorem d21_4 : Dec jdk_52_method_15_code 4 (.bipush 31) 2 6 := ⟨by decide +kernel, rfl⟩
theorem d21_6 : Dec jdk_52_method_15_code 6 (.iushr) 1 7 := ⟨by decide +kernel, rfl⟩
theorem d21_7 : Dec jdk_52_method_15_code 7 (.i2b) 1 8 := ⟨by decide +kernel, rfl⟩
theorem d21_8 : Dec jdk_52_method_15_code 8 (.ireturn) 1 9 := ⟨by decide +kernel, rfl⟩
set_option maxRecDepth 65536 in
set_option maxHeartbeats 40000000 in
theorem c_cod (l : Launch) (Z : State) (a0 : Array Value) (hw : ∀ d ∈ tables_1, d.before a0 Z = true) (hEL : EW Z a0 own_EL) (b : Addr) (xs : List Int32) (n : Nat) (hn : xs.length = n) (S : Addr → Prop) (h0 : Heap) (A1 : AI Z h0 b .byte xs) :
    Con l Z own_EL [] (⟨"java/lang/StringUTF16", "coderFromArrayLen", "([BI)B"⟩ : MethodName) jdk_52_method_15_code 2 (some .byte) ({ frames := 0, cells := 0, slots := 0, locals := 0 } : Room) #[.ref b, .int (Int32.ofNat n)] S h0 (fun S' v h' => v = some (.int (0 : Int32)) ∧ h0 = h') := by
  refine con_of_go (ls := #[.val (.ref b), .val (.int (Int32.ofNat n))]) (plainFor_of_name pn5) hEL (fun m => by first | rfl | (simp [entryFrame, mkF, argsToLocals, cat_int, cat_ref, cat_null, cat_long]; done)) (fun K => ?_)
  show Go _ _ _ _ _ _ _ _ _ _ _ _ _ 0 0 _ _ _
  refine go_iloadN d21_0 rfl ?_
  refine go_aloadN d21_1 rfl rfl ?_
  refine go_alen A1 d21_2 (v := (Int32.ofNat n)) (by rw [hn]) ?_
  refine go_isub (v := (0 : Int32)) d21_3 (Int32.sub_self _) ?_
  refine go_bipush (x := (31 : Int32)) d21_4 (by decide) ?_
  refine go_iushr (v := (0 : Int32)) d21_6 (by decide) ?_
  refine go_i2b (v := (0 : Int32)) d21_7 (by decide) ?_
  exact go_ireturn (ty := .byte) (v := (0 : Int32)) d21_8 rfl (by simp) (by decide) ⟨rfl, rfl⟩
theorem d22_0 : Dec jdk_42_method_149_code 0 (.aload_n 0) 1 1 := ⟨by decide +kernel, rfl⟩
theorem d22_1 : Dec jdk_42_method_149_code 1 (.invokespecial 1) 3 4 := ⟨by decide +kernel, rfl⟩
theorem d22_4 : Dec jdk_42_method_149_code 4 (.iload_n 3) 1 5 := ⟨by decide +kernel, rfl⟩
theorem d22_5 : Brn jdk_42_method_149_code 5 (.ifCond .ne 22) 22 8 27 := ⟨by decide +kernel, rfl, by decide, by decide⟩
theorem d22_8 : Dec jdk_42_method_149_code 8 (.aload_n 0) 1 9 := ⟨by decide +kernel, rfl⟩
theorem d22_9 : Dec jdk_42_method_149_code 9 (.ldc 7) 2 11 := ⟨by decide +kernel, rfl⟩
theorem d22_11 : Dec jdk_42_method_149_code 11 (.getfield 9) 3 14 := ⟨by decide +kernel, rfl⟩
theorem d22_14 : Dec jdk_42_method_149_code 14 (.putfield 9) 3 17 := ⟨by decide +kernel, rfl⟩
theorem d22_17 : Dec jdk_42_method_149_code 17 (.aload_n 0) 1 18 := ⟨by decide +kernel, rfl⟩
theorem d22_18 : Dec jdk_42_method_149_code 18 (.ldc 7) 2 20 := ⟨by decide +kernel, rfl⟩
theorem d22_20 : Dec jdk_42_method_149_code 20 (.getfield 15) 3 23 := ⟨by decide +kernel, rfl⟩
theorem d22_23 : Dec jdk_42_method_149_code 23 (.putfield 15) 3 26 := ⟨by decide +kernel, rfl⟩
theorem d22_26 : Dec jdk_42_method_149_code 26 (.return_) 1 27 := ⟨by decide +kernel, rfl⟩
set_option maxRecDepth 65536 in
set_option maxHeartbeats 40000000 in
theorem c_ini4E (l : Launch) (Z : State) (a0 : Array Value) (hw : ∀ d ∈ tables_1, d.before a0 Z = true) (hEL : EW Z a0 own_EL) (src : Addr) (o : Int32) (S : Addr → Prop) (h0 : Heap) (hz : Z.heap.size ≤ h0.size) (x : Addr) (Ex : Exa Z h0 x "java/lang/String") (uv uc : Value) (Fv : Fld Z h0 x "java/lang/String" "value" "[B" uv) (Fc : Fld Z h0 x "java/lang/String" "coder" "B" uc) (Fh : Fld Z h0 x "java/lang/String" "hash" "I" (.int 0)) (Fz : Fld Z h0 x "java/lang/String" "hashIsZero" "Z" (.int 0)) (gx : Z.heap.size ≤ x) (sx : S x) :
    Con l Z own_EL [] (⟨"java/lang/String", "<init>", "([CIILjava/lang/Void;)V"⟩ : MethodName) jdk_42_method_149_code 6 (none : Option FieldType) ({ frames := 1, cells := 4, slots := 8, locals := 12 } : Room) #[.ref x, .ref src, .int o, .int (0 : Int32), .null] S h0 (fun S' v h' => v = none ∧ Keep h0 h' [x] ∧ ∃ b, LS Z h' x [] b) := by
  refine con_of_go (ls := #[.val (.ref x), .val (.ref src), .val (.int o), .val (.int (0 : Int32)), .val (.null), .unset]) (plainFor_of_name pn0) hEL (fun m => by first | rfl | (simp [entryFrame, mkF, argsToLocals, cat_int, cat_ref, cat_null, cat_long]; done)) (fun K => ?_)
  show Go _ _ _ _ _ _ _ _ _ _ _ _ _ 4 8 _ _ _
  have lx := lt_nat Ex.lt
  refine go_aloadN d22_0 rfl rfl ?_
  refine go_initO (hw _ (List.mem_of_getElem? (i := 15) rfl)) (hw _ (List.mem_of_getElem? (i := 16) rfl)) (hw _ (List.mem_of_getElem? (i := 17) rfl)) d22_1 (by rfl) (by decide) (Nat.le_of_ble_eq_true rfl) ?_
  refine go_iloadN d22_4 rfl ?_
  refine go_ifne d22_5 (fun c1001 => absurd (rfl) c1001) (fun c1001 => ?_)
  refine go_aloadN d22_8 rfl rfl ?_
  refine go_ldcS (kc := 2) (ks := 4) (na := 0) (nb := 4) (xs := []) rfl (hw _ (List.mem_of_getElem? (i := 18) rfl)) (own_atoms hw) (by simp [own_EL]) ⟨by simp, by simp⟩ (by simp) (by simp) d22_9 (fun S1002 h1002 a1002 b1002 m1002 x1002 l1002 k1002 E1002 C1002 V1002 A1002 => ?_)
  have z1002 := x1002.1
  have t1002 := m1002 _ sx
  refine go_getf (hw _ (List.mem_of_getElem? (i := 24) rfl)) Via.refl V1002 d22_11 ?_
  have f1003 := (Fv.ext x1002)
  have f1004 := (Ex.ext x1002)
  refine go_putf (u' := .ref b1002) (hw _ (List.mem_of_getElem? (i := 24) rfl)) Via.refl f1003 f1004 (Or.inr ⟨(hw _ (List.mem_of_getElem? (i := 20) rfl)), rfl, rfl⟩) (hw _ (List.mem_of_getElem? (i := 5) rfl)) (ty := (.array .byte)) (by decide) rfl rfl (by omega) (Or.inl ((fun y q => (m1002 y q).1) _ sx)) d22_14 (fun h1005 W1005 K1005 E1005 F1005 => ?_)
  have z1005 := K1005.1
  refine go_aloadN d22_17 rfl rfl ?_
  refine go_ldcS (kc := 0) (ks := 0) (na := 0) (nb := 4) (xs := []) rfl (hw _ (List.mem_of_getElem? (i := 18) rfl)) (own_atoms hw) (by simp [own_EL]) ⟨by simp, by simp⟩ (by simp) (by simp) d22_18 (fun S1006 h1006 a1006 b1006 m1006 x1006 l1006 k1006 E1006 C1006 V1006 A1006 => ?_)
  have z1006 := x1006.1
  have t1006 := m1006 _ ((fun y q => (m1002 y q).1) _ sx)
  refine go_getf (hw _ (List.mem_of_getElem? (i := 25) rfl)) Via.refl C1006 d22_20 ?_
  have f1007 := (((Fc.ext x1002).other W1005 (Or.inr (slot_ne (C := "java/lang/String") (a0 := a0) (Or.inr (hw _ (List.mem_of_getElem? (i := 21) rfl))) (Or.inr (hw _ (List.mem_of_getElem? (i := 20) rfl))) (by decide) (t := .byte) (t' := (.array .byte)) (by decide) (by decide)))).ext x1006)
  have f1008 := (E1005.ext x1006)
  refine go_putf (u' := .int (0 : Int32)) (hw _ (List.mem_of_getElem? (i := 25) rfl)) Via.refl f1007 f1008 (Or.inr ⟨(hw _ (List.mem_of_getElem? (i := 21) rfl)), rfl, rfl⟩) (hw _ (List.mem_of_getElem? (i := 5) rfl)) (ty := .byte) (by decide) (by decide) (by decide) (by omega) (Or.inl ((fun y q => (m1006 y q).1) _ ((fun y q => (m1002 y q).1) _ sx))) d22_23 (fun h1009 W1009 K1009 E1009 F1009 => ?_)
  have z1009 := K1009.1
  have f1010 := ((((Fh.ext x1002).other W1005 (Or.inr (slot_ne (C := "java/lang/String") (a0 := a0) (Or.inl (hw _ (List.mem_of_getElem? (i := 53) rfl))) (Or.inr (hw _ (List.mem_of_getElem? (i := 20) rfl))) (by decide) (t := .int) (t' := (.array .byte)) (by decide) (by decide)))).ext x1006).other W1009 (Or.inr (slot_ne (C := "java/lang/String") (a0 := a0) (Or.inl (hw _ (List.mem_of_getElem? (i := 53) rfl))) (Or.inr (hw _ (List.mem_of_getElem? (i := 21) rfl))) (by decide) (t := .int) (t' := .byte) (by decide) (by decide))))
  have f1011 := ((((Fz.ext x1002).other W1005 (Or.inr (slot_ne (C := "java/lang/String") (a0 := a0) (Or.inl (hw _ (List.mem_of_getElem? (i := 55) rfl))) (Or.inr (hw _ (List.mem_of_getElem? (i := 20) rfl))) (by decide) (t := .boolean) (t' := (.array .byte)) (by decide) (by decide)))).ext x1006).other W1009 (Or.inr (slot_ne (C := "java/lang/String") (a0 := a0) (Or.inl (hw _ (List.mem_of_getElem? (i := 55) rfl))) (Or.inr (hw _ (List.mem_of_getElem? (i := 21) rfl))) (by decide) (t := .boolean) (t' := .byte) (by decide) (by decide))))
  have f1012 := ((F1005.ext x1006).other W1009 (Or.inr (slot_ne (C := "java/lang/String") (a0 := a0) (Or.inr (hw _ (List.mem_of_getElem? (i := 20) rfl))) (Or.inr (hw _ (List.mem_of_getElem? (i := 21) rfl))) (by decide) (t := (.array .byte)) (t' := .byte) (by decide) (by decide))))
  have f1013 := (((A1002.keep K1005 (ninS (Ne.symm t1002.2.2) nin0)).ext x1006).keep K1009 (ninS (Ne.symm t1002.2.2) nin0))
  exact go_return d22_26 rfl ⟨rfl, (((((Keep.refl h0 [x]).ext x1002).wr W1005 (Or.inl (by simp))).ext x1006).wr W1009 (Or.inl (by simp))), _, ⟨E1009, F1009, f1012, f1013, Or.inl ⟨rfl, fun c q => absurd q (by simp)⟩, fun c q => absurd q (by simp), by simp⟩, ⟨_, _, f1010, f1011, Or.inl rfl, Or.inl rfl⟩, fun q => absurd q (by simp), by simp⟩
theorem d22_27 : Dec jdk_42_method_149_code 27 (.getstatic 38) 3 30 := ⟨by decide +kernel, rfl⟩
theorem d22_30 : Brn jdk_42_method_149_code 30 (.ifCond .eq 28) 28 33 58 := ⟨by decide +kernel, rfl, by decide, by decide⟩
theorem d22_33 : Dec jdk_42_method_149_code 33 (.aload_n 1) 1 34 := ⟨by decide +kernel, rfl⟩
theorem d22_34 : Dec jdk_42_method_149_code 34 (.iload_n 2) 1 35 := ⟨by decide +kernel, rfl⟩
theorem d22_35 : Dec jdk_42_method_149_code 35 (.iload_n 3) 1 36 := ⟨by decide +kernel, rfl⟩
theorem d22_36 : Dec jdk_42_method_149_code 36 (.invokestatic 177) 3 39 := ⟨by decide +kernel, rfl⟩
theorem pd15 : parseMethodDescriptor "([CII)[B" = some ⟨[(.array .char), .int, .int], some (.array .byte)⟩ := by decide +kernel
theorem d22_39 : Dec jdk_42_method_149_code 39 (.astore 5) 2 41 := ⟨by decide +kernel, rfl⟩
theorem d22_41 : Dec jdk_42_method_149_code 41 (.aload_n 0) 1 42 := ⟨by decide +kernel, rfl⟩
theorem d22_42 : Dec jdk_42_method_149_code 42 (.aload 5) 2 44 := ⟨by decide +kernel, rfl⟩
theorem d22_44 : Dec jdk_42_method_149_code 44 (.iload_n 3) 1 45 := ⟨by decide +kernel, rfl⟩
theorem d22_45 : Dec jdk_42_method_149_code 45 (.invokestatic 47) 3 48 := ⟨by decide +kernel, rfl⟩
theorem pd16 : parseMethodDescriptor "([BI)B" = some ⟨[(.array .byte), .int], some .byte⟩ := by decide +kernel
theorem d22_48 : Dec jdk_42_method_149_code 48 (.putfield 15) 3 51 := ⟨by decide +kernel, rfl⟩
theorem d22_51 : Dec jdk_42_method_149_code 51 (.aload_n 0) 1 52 := ⟨by decide +kernel, rfl⟩
theorem d22_52 : Dec jdk_42_method_149_code 52 (.aload 5) 2 54 := ⟨by decide +kernel, rfl⟩
theorem d22_54 : Dec jdk_42_method_149_code 54 (.putfield 9) 3 57 := ⟨by decide +kernel, rfl⟩
theorem d22_57 : Dec jdk_42_method_149_code 57 (.return_) 1 58 := ⟨by decide +kernel, rfl⟩
set_option maxRecDepth 65536 in
set_option maxHeartbeats 40000000 in
theorem c_ini4 (l : Launch) (Z : State) (a0 : Array Value) (hw : ∀ d ∈ tables_1, d.before a0 Z = true) (hEL : EW Z a0 own_EL) (S : Addr → Prop) (h0 : Heap) (hz : Z.heap.size ≤ h0.size) (x : Addr) (Ex : Exa Z h0 x "java/lang/String") (uv uc : Value) (Fv : Fld Z h0 x "java/lang/String" "value" "[B" uv) (Fc : Fld Z h0 x "java/lang/String" "coder" "B" uc) (Fh : Fld Z h0 x "java/lang/String" "hash" "I" (.int 0)) (Fz : Fld Z h0 x "java/lang/String" "hashIsZero" "Z" (.int 0)) (gx : Z.heap.size ≤ x) (sx : S x) (src : Addr) (full cs : List Int32) (o : Nat) (A1 : AI Z h0 src .char full) (hsub : ∀ (i : Nat) (c : Int32), cs[i]? = some c → full[o + i]? = some c) (ho : o + cs.length ≤ full.length) (hl3 : cs.length ≤ 3) (hpos : cs ≠ []) (hlat : ∀ c ∈ cs, isCh c ∧ ¬ (255 : Int32) < c) (zc : Int32) (Oc : Sta Z Z.heap "java/lang/String" "COMPACT_STRINGS" "Z" (.int zc)) (Pc : ¬ zc = 0) :
    Con l Z own_EL [] (⟨"java/lang/String", "<init>", "([CIILjava/lang/Void;)V"⟩ : MethodName) jdk_42_method_149_code 6 (none : Option FieldType) ({ frames := 2, cells := 1, slots := 3, locals := 36 } : Room) #[.ref x, .ref src, .int (Int32.ofNat o), .int (Int32.ofNat cs.length), .null] S h0 (fun S' v h' => v = none ∧ Keep h0 h' [x] ∧ ∃ b, LS Z h' x cs b) := by
  refine con_of_go (ls := #[.val (.ref x), .val (.ref src), .val (.int (Int32.ofNat o)), .val (.int (Int32.ofNat cs.length)), .val (.null), .unset]) (plainFor_of_name pn0) hEL (fun m => by first | rfl | (simp [entryFrame, mkF, argsToLocals, cat_int, cat_ref, cat_null, cat_long]; done)) (fun K => ?_)
  show Go _ _ _ _ _ _ _ _ _ _ _ _ _ 1 3 _ _ _
  have lx := lt_nat Ex.lt
  have ls := lt_nat A1.lt
  have hlen : 0 < cs.length := List.length_pos_iff.mpr hpos
  refine go_aloadN d22_0 rfl rfl ?_
  refine go_initO (hw _ (List.mem_of_getElem? (i := 15) rfl)) (hw _ (List.mem_of_getElem? (i := 16) rfl)) (hw _ (List.mem_of_getElem? (i := 17) rfl)) d22_1 (by rfl) (by decide) (Nat.le_of_ble_eq_true rfl) ?_
  refine go_iloadN d22_4 rfl ?_
  refine go_ifne d22_5 (fun c1001 => ?_) (fun c1001 => absurd c1001 (fun q => absurd ((ofNat_inj (n := 0) (by omega) (by omega)).mp q) (by omega)))
  refine go_gets (hw _ (List.mem_of_getElem? (i := 61) rfl)) Via.refl Oc d22_27 ?_
  refine go_ifeq d22_30 (fun c1002 => absurd c1002 (Pc)) (fun c1002 => ?_)
  refine go_aloadN d22_33 rfl rfl ?_
  refine go_iloadN d22_34 rfl ?_
  refine go_iloadN d22_35 rfl ?_
  refine go_static (R := ({ frames := 2, cells := 1, slots := 3, locals := 36 } : Room)) (kc := 0) (ks := 0) [.ref src, .int (Int32.ofNat o), .int (Int32.ofNat cs.length)] [] (c_cmp2 l Z a0 hw hEL S h0 (by omega) src full cs o A1 hsub ho hl3 hpos hlat) (hw _ (List.mem_of_getElem? (i := 139) rfl)) (hw _ (List.mem_of_getElem? (i := 140) rfl)) (hw _ (List.mem_of_getElem? (i := 142) rfl)) (hw _ (List.mem_of_getElem? (i := 141) rfl)) (by decide) rfl rfl (lenOf pd15 rfl) d22_36 (by rfl) (by decide) (Nat.le_of_ble_eq_true rfl) (rc := 1) (rs := 3) rfl rfl (fun S1003 v1003 h1003 m1003 z1003 q1003 => ?_)
  obtain ⟨b1003, rfl, g1003, s1003, K1003, A1003, E1003⟩ := q1003
  have z1003 := K1003.1
  have l1003 := lt_nat A1003.lt
  show Go _ _ _ _ _ _ _ _ _ _ _ _ _ _ _ _ _ (mkF K.m 39 #[.val (.ref x), .val (.ref src), .val (.int (Int32.ofNat o)), .val (.int (Int32.ofNat cs.length)), .val (.null), .unset] [.ref b1003])
  refine go_astore d22_39 rfl (l' := #[.val (.ref x), .val (.ref src), .val (.int (Int32.ofNat o)), .val (.int (Int32.ofNat cs.length)), .val (.null), .val (.ref b1003)]) rfl ?_
  refine go_aloadN d22_41 rfl rfl ?_
  refine go_aload d22_42 rfl rfl ?_
  refine go_iloadN d22_44 rfl ?_
  refine go_static (R := ({ frames := 2, cells := 1, slots := 3, locals := 36 } : Room)) (kc := 0) (ks := 0) [.ref b1003, .int (Int32.ofNat cs.length)] [.ref x] (c_cod l Z a0 hw hEL b1003 _ cs.length (by simp) S1003 h1003 A1003) (hw _ (List.mem_of_getElem? (i := 146) rfl)) (hw _ (List.mem_of_getElem? (i := 147) rfl)) (hw _ (List.mem_of_getElem? (i := 148) rfl)) (hw _ (List.mem_of_getElem? (i := 141) rfl)) (by decide) rfl rfl (lenOf pd16 rfl) d22_45 (by rfl) (by decide) (Nat.le_of_ble_eq_true rfl) (rc := 0) (rs := 0) rfl rfl (fun S1004 v1004 h1004 m1004 z1004 q1004 => ?_)
  obtain ⟨rfl, rfl⟩ := q1004
  show Go _ _ _ _ _ _ _ _ _ _ _ _ _ _ _ _ _ (mkF K.m 48 #[.val (.ref x), .val (.ref src), .val (.int (Int32.ofNat o)), .val (.int (Int32.ofNat cs.length)), .val (.null), .val (.ref b1003)] [.int (0 : Int32), .ref x])
  have f1005 := (Fc.keep K1003 nin0)
  have f1006 := (Ex.keep K1003)
  refine go_putf (u' := .int (0 : Int32)) (hw _ (List.mem_of_getElem? (i := 25) rfl)) Via.refl f1005 f1006 (Or.inr ⟨(hw _ (List.mem_of_getElem? (i := 21) rfl)), rfl, rfl⟩) (hw _ (List.mem_of_getElem? (i := 5) rfl)) (ty := .byte) (by decide) (by decide) (by decide) (by omega) (Or.inl (m1004 _ (m1003 _ sx))) d22_48 (fun h1007 W1007 K1007 E1007 F1007 => ?_)
  have z1007 := K1007.1
  refine go_aloadN d22_51 rfl rfl ?_
  refine go_aload d22_52 rfl rfl ?_
  have f1008 := ((Fv.keep K1003 nin0).other W1007 (Or.inr (slot_ne (C := "java/lang/String") (a0 := a0) (Or.inr (hw _ (List.mem_of_getElem? (i := 20) rfl))) (Or.inr (hw _ (List.mem_of_getElem? (i := 21) rfl))) (by decide) (t := (.array .byte)) (t' := .byte) (by decide) (by decide))))
  refine go_putf (u' := .ref b1003) (hw _ (List.mem_of_getElem? (i := 24) rfl)) Via.refl f1008 E1007 (Or.inr ⟨(hw _ (List.mem_of_getElem? (i := 20) rfl)), rfl, rfl⟩) (hw _ (List.mem_of_getElem? (i := 5) rfl)) (ty := (.array .byte)) (by decide) rfl rfl (by omega) (Or.inl (m1004 _ (m1003 _ sx))) d22_54 (fun h1009 W1009 K1009 E1009 F1009 => ?_)
  have z1009 := K1009.1
  have f1010 := (((Fh.keep K1003 nin0).other W1007 (Or.inr (slot_ne (C := "java/lang/String") (a0 := a0) (Or.inl (hw _ (List.mem_of_getElem? (i := 53) rfl))) (Or.inr (hw _ (List.mem_of_getElem? (i := 21) rfl))) (by decide) (t := .int) (t' := .byte) (by decide) (by decide)))).other W1009 (Or.inr (slot_ne (C := "java/lang/String") (a0 := a0) (Or.inl (hw _ (List.mem_of_getElem? (i := 53) rfl))) (Or.inr (hw _ (List.mem_of_getElem? (i := 20) rfl))) (by decide) (t := .int) (t' := (.array .byte)) (by decide) (by decide))))
  have f1011 := (((Fz.keep K1003 nin0).other W1007 (Or.inr (slot_ne (C := "java/lang/String") (a0 := a0) (Or.inl (hw _ (List.mem_of_getElem? (i := 55) rfl))) (Or.inr (hw _ (List.mem_of_getElem? (i := 21) rfl))) (by decide) (t := .boolean) (t' := .byte) (by decide) (by decide)))).other W1009 (Or.inr (slot_ne (C := "java/lang/String") (a0 := a0) (Or.inl (hw _ (List.mem_of_getElem? (i := 55) rfl))) (Or.inr (hw _ (List.mem_of_getElem? (i := 20) rfl))) (by decide) (t := .boolean) (t' := (.array .byte)) (by decide) (by decide))))
  have f1012 := (F1007.other W1009 (Or.inr (slot_ne (C := "java/lang/String") (a0 := a0) (Or.inr (hw _ (List.mem_of_getElem? (i := 21) rfl))) (Or.inr (hw _ (List.mem_of_getElem? (i := 20) rfl))) (by decide) (t := .byte) (t' := (.array .byte)) (by decide) (by decide))))
  have f1013 := ((A1003.keep K1007 (ninS (ne_of (a := b1003) (b := x) (by omega)) nin0)).keep K1009 (ninS (ne_of (a := b1003) (b := x) (by omega)) nin0))
  have f1014 := ((E1003.wr W1007).wr W1009)
  exact go_return d22_57 rfl ⟨rfl, ((((Keep.refl h0 [x]).trans K1003 all0).wr W1007 (Or.inl (by simp))).wr W1009 (Or.inl (by simp))), _, ⟨E1009, f1012, F1009, f1013, Or.inl ⟨rfl, fun c q => (hlat c q).2⟩, fun c q => (hlat c q).1, by omega⟩, ⟨_, _, f1010, f1011, Or.inl rfl, Or.inl rfl⟩, fun _ => f1014, by omega⟩
theorem d23_0 : Dec jdk_42_method_3_code 0 (.aload_n 0) 1 1 := ⟨by decide +kernel, rfl⟩
theorem d23_1 : Dec jdk_42_method_3_code 1 (.aload_n 1) 1 2 := ⟨by decide +kernel, rfl⟩
theorem d23_2 : Dec jdk_42_method_3_code 2 (.iconst 0) 1 3 := ⟨by decide +kernel, rfl⟩
theorem d23_3 : Dec jdk_42_method_3_code 3 (.aload_n 1) 1 4 := ⟨by decide +kernel, rfl⟩
theorem d23_4 : Dec jdk_42_method_3_code 4 (.arraylength) 1 5 := ⟨by decide +kernel, rfl⟩
theorem d23_5 : Dec jdk_42_method_3_code 5 (.aconst_null) 1 6 := ⟨by decide +kernel, rfl⟩
theorem d23_6 : Dec jdk_42_method_3_code 6 (.invokespecial 27) 3 9 := ⟨by decide +kernel, rfl⟩
theorem pd17 : parseMethodDescriptor "([CIILjava/lang/Void;)V" = some ⟨[(.array .char), .int, .int, (.object "java/lang/Void")], none⟩ := by decide +kernel
theorem d23_9 : Dec jdk_42_method_3_code 9 (.return_) 1 10 := ⟨by decide +kernel, rfl⟩
set_option maxRecDepth 65536 in
set_option maxHeartbeats 40000000 in
theorem c_ini1E (l : Launch) (Z : State) (a0 : Array Value) (hw : ∀ d ∈ tables_1, d.before a0 Z = true) (hEL : EW Z a0 own_EL) (src : Addr) (S : Addr → Prop) (h0 : Heap) (hz : Z.heap.size ≤ h0.size) (x : Addr) (Ex : Exa Z h0 x "java/lang/String") (uv uc : Value) (Fv : Fld Z h0 x "java/lang/String" "value" "[B" uv) (Fc : Fld Z h0 x "java/lang/String" "coder" "B" uc) (Fh : Fld Z h0 x "java/lang/String" "hash" "I" (.int 0)) (Fz : Fld Z h0 x "java/lang/String" "hashIsZero" "Z" (.int 0)) (gx : Z.heap.size ≤ x) (sx : S x) (A1 : AI Z h0 src .char []) :
    Con l Z own_EL [] (⟨"java/lang/String", "<init>", "([C)V"⟩ : MethodName) jdk_42_method_3_code 2 (none : Option FieldType) ({ frames := 2, cells := 4, slots := 8, locals := 30 } : Room) #[.ref x, .ref src] S h0 (fun S' v h' => v = none ∧ Keep h0 h' [x] ∧ ∃ b, LS Z h' x [] b) := by
  refine con_of_go (ls := #[.val (.ref x), .val (.ref src)]) (plainFor_of_name pn0) hEL (fun m => by first | rfl | (simp [entryFrame, mkF, argsToLocals, cat_int, cat_ref, cat_null, cat_long]; done)) (fun K => ?_)
  show Go _ _ _ _ _ _ _ _ _ _ _ _ _ 4 8 _ _ _
  have lx := lt_nat Ex.lt
  have ls := lt_nat A1.lt
  refine go_aloadN d23_0 rfl rfl ?_
  refine go_aloadN d23_1 rfl rfl ?_
  refine go_iconst (x := (0 : Int32)) d23_2 (by decide) ?_
  refine go_aloadN d23_3 rfl rfl ?_
  refine go_alen A1 d23_4 (v := (0 : Int32)) rfl ?_
  refine go_null d23_5 ?_
  refine go_special (R := ({ frames := 2, cells := 4, slots := 8, locals := 30 } : Room)) (kc := 0) (ks := 0) [.ref src, .int (0 : Int32), .int (0 : Int32), .null] [] (c_ini4E l Z a0 hw hEL src (0 : Int32) S h0 (by omega) x Ex _ _ Fv Fc Fh Fz (by omega) sx) (hw _ (List.mem_of_getElem? (i := 11) rfl)) (hw _ (List.mem_of_getElem? (i := 12) rfl)) (hw _ (List.mem_of_getElem? (i := 14) rfl)) (hw _ (List.mem_of_getElem? (i := 6) rfl)) rfl (by decide) rfl rfl (lenOf pd17 rfl) d23_6 (by rfl) (by decide) (Nat.le_of_ble_eq_true rfl) (rc := 4) (rs := 8) rfl rfl (fun S1001 v1001 h1001 m1001 z1001 q1001 => ?_)
  obtain ⟨rfl, K1001, b1001, F1001⟩ := q1001
  have z1001 := K1001.1
  have lb1001 := lt_nat F1001.1.lb
  show Go _ _ _ _ _ _ _ _ _ _ _ _ _ _ _ _ _ (mkF K.m 9 #[.val (.ref x), .val (.ref src)] [])
  exact go_return d23_9 rfl ⟨rfl, ((Keep.refl h0 [x]).trans K1001 (allS (Or.inl (by simp)) all0)), _, F1001⟩
set_option maxRecDepth 65536 in
set_option maxHeartbeats 40000000 in
theorem c_ini1 (l : Launch) (Z : State) (a0 : Array Value) (hw : ∀ d ∈ tables_1, d.before a0 Z = true) (hEL : EW Z a0 own_EL) (S : Addr → Prop) (h0 : Heap) (hz : Z.heap.size ≤ h0.size) (x : Addr) (Ex : Exa Z h0 x "java/lang/String") (uv uc : Value) (Fv : Fld Z h0 x "java/lang/String" "value" "[B" uv) (Fc : Fld Z h0 x "java/lang/String" "coder" "B" uc) (Fh : Fld Z h0 x "java/lang/String" "hash" "I" (.int 0)) (Fz : Fld Z h0 x "java/lang/String" "hashIsZero" "Z" (.int 0)) (gx : Z.heap.size ≤ x) (sx : S x) (src : Addr) (full cs : List Int32) (A1 : AI Z h0 src .char full) (hsub : ∀ (i : Nat) (c : Int32), cs[i]? = some c → full[0 + i]? = some c) (ho : 0 + cs.length ≤ full.length) (hl3 : cs.length ≤ 3) (hpos : cs ≠ []) (hlat : ∀ c ∈ cs, isCh c ∧ ¬ (255 : Int32) < c) (hfl : full.length = cs.length) (zc : Int32) (Oc : Sta Z Z.heap "java/lang/String" "COMPACT_STRINGS" "Z" (.int zc)) (Pc : ¬ zc = 0) :
    Con l Z own_EL [] (⟨"java/lang/String", "<init>", "([C)V"⟩ : MethodName) jdk_42_method_3_code 2 (none : Option FieldType) ({ frames := 3, cells := 1, slots := 3, locals := 56 } : Room) #[.ref x, .ref src] S h0 (fun S' v h' => v = none ∧ Keep h0 h' [x] ∧ ∃ b, LS Z h' x cs b) := by
  refine con_of_go (ls := #[.val (.ref x), .val (.ref src)]) (plainFor_of_name pn0) hEL (fun m => by first | rfl | (simp [entryFrame, mkF, argsToLocals, cat_int, cat_ref, cat_null, cat_long]; done)) (fun K => ?_)
  show Go _ _ _ _ _ _ _ _ _ _ _ _ _ 1 3 _ _ _
  have lx := lt_nat Ex.lt
  have ls := lt_nat A1.lt
  refine go_aloadN d23_0 rfl rfl ?_
  refine go_aloadN d23_1 rfl rfl ?_
  refine go_iconst (x := (0 : Int32)) d23_2 (by decide) ?_
  refine go_aloadN d23_3 rfl rfl ?_
  refine go_alen A1 d23_4 (v := (Int32.ofNat cs.length)) (by rw [hfl]) ?_
  refine go_null d23_5 ?_
  refine go_special (R := ({ frames := 3, cells := 1, slots := 3, locals := 56 } : Room)) (kc := 0) (ks := 0) [.ref src, .int (0 : Int32), .int (Int32.ofNat cs.length), .null] [] (c_ini4 l Z a0 hw hEL S h0 (by omega) x Ex _ _ Fv Fc Fh Fz (by omega) sx src full cs 0 A1 hsub ho hl3 hpos hlat zc Oc Pc) (hw _ (List.mem_of_getElem? (i := 11) rfl)) (hw _ (List.mem_of_getElem? (i := 12) rfl)) (hw _ (List.mem_of_getElem? (i := 14) rfl)) (hw _ (List.mem_of_getElem? (i := 6) rfl)) rfl (by decide) rfl rfl (lenOf pd17 rfl) d23_6 (by rfl) (by decide) (Nat.le_of_ble_eq_true rfl) (rc := 1) (rs := 3) rfl rfl (fun S1001 v1001 h1001 m1001 z1001 q1001 => ?_)
  obtain ⟨rfl, K1001, b1001, F1001⟩ := q1001
  have z1001 := K1001.1
  have lb1001 := lt_nat F1001.1.lb
  show Go _ _ _ _ _ _ _ _ _ _ _ _ _ _ _ _ _ (mkF K.m 9 #[.val (.ref x), .val (.ref src)] [])
  exact go_return d23_9 rfl ⟨rfl, ((Keep.refl h0 [x]).trans K1001 (allS (Or.inl (by simp)) all0)), _, F1001⟩
theorem d24_0 : Dec jdk_43_method_13_code 0 (.aload_n 0) 1 1 := ⟨by decide +kernel, rfl⟩
theorem d24_1 : Dec jdk_43_method_13_code 1 (.arraylength) 1 2 := ⟨by decide +kernel, rfl⟩
theorem d24_2 : Dec jdk_43_method_13_code 2 (.aload_n 1) 1 3 := ⟨by decide +kernel, rfl⟩
theorem d24_3 : Dec jdk_43_method_13_code 3 (.arraylength) 1 4 := ⟨by decide +kernel, rfl⟩
theorem d24_4 : Brn jdk_43_method_13_code 4 (.if_icmp .ne 30) 30 7 34 := ⟨by decide +kernel, rfl, by decide, by decide⟩
theorem d24_34 : Dec jdk_43_method_13_code 34 (.iconst 0) 1 35 := ⟨by decide +kernel, rfl⟩
theorem d24_35 : Dec jdk_43_method_13_code 35 (.ireturn) 1 36 := ⟨by decide +kernel, rfl⟩
theorem d24_7 : Dec jdk_43_method_13_code 7 (.iconst 0) 1 8 := ⟨by decide +kernel, rfl⟩
theorem d24_8 : Dec jdk_43_method_13_code 8 (.istore_n 2) 1 9 := ⟨by decide +kernel, rfl⟩
theorem d24_9 : Dec jdk_43_method_13_code 9 (.iload_n 2) 1 10 := ⟨by decide +kernel, rfl⟩
theorem d24_10 : Dec jdk_43_method_13_code 10 (.aload_n 0) 1 11 := ⟨by decide +kernel, rfl⟩
theorem d24_11 : Dec jdk_43_method_13_code 11 (.arraylength) 1 12 := ⟨by decide +kernel, rfl⟩
theorem d24_12 : Brn jdk_43_method_13_code 12 (.if_icmp .ge 20) 20 15 32 := ⟨by decide +kernel, rfl, by decide, by decide⟩
theorem d24_32 : Dec jdk_43_method_13_code 32 (.iconst 1) 1 33 := ⟨by decide +kernel, rfl⟩
theorem d24_33 : Dec jdk_43_method_13_code 33 (.ireturn) 1 34 := ⟨by decide +kernel, rfl⟩
theorem d24_15 : Dec jdk_43_method_13_code 15 (.aload_n 0) 1 16 := ⟨by decide +kernel, rfl⟩
theorem d24_16 : Dec jdk_43_method_13_code 16 (.iload_n 2) 1 17 := ⟨by decide +kernel, rfl⟩
theorem d24_17 : Dec jdk_43_method_13_code 17 (.baload) 1 18 := ⟨by decide +kernel, rfl⟩
theorem d24_18 : Dec jdk_43_method_13_code 18 (.aload_n 1) 1 19 := ⟨by decide +kernel, rfl⟩
theorem d24_19 : Dec jdk_43_method_13_code 19 (.iload_n 2) 1 20 := ⟨by decide +kernel, rfl⟩
theorem d24_20 : Dec jdk_43_method_13_code 20 (.baload) 1 21 := ⟨by decide +kernel, rfl⟩
theorem d24_21 : Brn jdk_43_method_13_code 21 (.if_icmp .eq 5) 5 24 26 := ⟨by decide +kernel, rfl, by decide, by decide⟩
theorem d24_26 : Dec jdk_43_method_13_code 26 (.iinc 2 1) 3 29 := ⟨by decide +kernel, rfl⟩
theorem d24_29 : Brn jdk_43_method_13_code 29 (.goto (-20)) (-20) 32 9 := ⟨by decide +kernel, rfl, by decide, by decide⟩
theorem d24_24 : Dec jdk_43_method_13_code 24 (.iconst 0) 1 25 := ⟨by decide +kernel, rfl⟩
theorem d24_25 : Dec jdk_43_method_13_code 25 (.ireturn) 1 26 := ⟨by decide +kernel, rfl⟩
set_option maxRecDepth 65536 in
set_option maxHeartbeats 40000000 in
theorem c_leq (l : Launch) (Z : State) (a0 : Array Value) (hw : ∀ d ∈ tables_1, d.before a0 Z = true) (hEL : EW Z a0 own_EL) (b1 b2 : Addr) (xs ys : List Int32) (S : Addr → Prop) (h0 : Heap) (A1 : AI Z h0 b1 .byte xs) (A2 : AI Z h0 b2 .byte ys) :
    Con l Z own_EL [] (⟨"java/lang/StringLatin1", "equals", "([B[B)Z"⟩ : MethodName) jdk_43_method_13_code 3 (some .boolean) ({ frames := 0, cells := 0, slots := 0, locals := 0 } : Room) #[.ref b1, .ref b2] S h0 (fun S' v h' => ∃ r : Int32, v = some (.int r) ∧ (r = 1 ∧ xs = ys ∨ r = 0 ∧ xs ≠ ys) ∧ h0 = h') := by
  refine con_of_go (ls := #[.val (.ref b1), .val (.ref b2), .unset]) (plainFor_of_name pn2) hEL (fun m => by first | rfl | (simp [entryFrame, mkF, argsToLocals, cat_int, cat_ref, cat_null, cat_long]; done)) (fun K => ?_)
  show Go _ _ _ _ _ _ _ _ _ _ _ _ _ 0 0 _ _ _
  have hx := A1.len
  have hy := A2.len
  refine go_aloadN d24_0 rfl rfl ?_
  refine go_alen A1 d24_1 (v := (Int32.ofNat xs.length)) rfl ?_
  refine go_aloadN d24_2 rfl rfl ?_
  refine go_alen A2 d24_3 (v := (Int32.ofNat ys.length)) rfl ?_
  refine go_icmpne d24_4 (fun c4 => ?_) (fun c4 => ?_)
  · refine go_iconst (x := (0 : Int32)) d24_34 (by decide) ?_
    exact go_ireturn (ty := .boolean) (v := (0 : Int32)) d24_35 rfl (by simp) rfl ⟨_, rfl, Or.inr ⟨rfl, fun q => c4 (by rw [q])⟩, rfl⟩
  · have hl : xs.length = ys.length := (ofNat_inj hx hy).mp c4
    refine go_iconst (x := (0 : Int32)) d24_7 (by decide) ?_
    refine go_istoreN d24_8 (l' := #[.val (.ref b1), .val (.ref b2), .val (.int (0 : Int32))]) rfl ?_
    have loop : ∀ r i, i + r = xs.length → xs.take i = ys.take i → Go l Z a0 own_EL ({ frames := 0, cells := 0, slots := 0, locals := 0 } : Room) "java/lang/StringLatin1" jdk_43_method_13_code 3 (some .boolean) "equals" S (fun S' v h' => ∃ r : Int32, v = some (.int r) ∧ (r = 1 ∧ xs = ys ∨ r = 0 ∧ xs ≠ ys) ∧ h0 = h') K 0 0 S h0 (mkF K.m 9 #[.val (.ref b1), .val (.ref b2), .val (.int (Int32.ofNat i))] []) := by
      intro r
      induction r with
      | zero =>
        intro i hi he
        refine go_iloadN d24_9 rfl ?_
        refine go_aloadN d24_10 rfl rfl ?_
        refine go_alen A1 d24_11 (v := (Int32.ofNat xs.length)) rfl ?_
        refine go_icmpge d24_12 (fun c1001 => ?_) (fun c1001 => absurd c1001 (ofNat_nlt (by omega) (by omega)))
        refine go_iconst (x := (1 : Int32)) d24_32 (by decide) ?_
        exact go_ireturn (ty := .boolean) (v := (1 : Int32)) d24_33 rfl (by simp) rfl ⟨_, rfl, Or.inl ⟨rfl, by rw [show i = xs.length by omega, List.take_length, hl, List.take_length] at he; exact he⟩, rfl⟩
      | succ r ih =>
        intro i hi he
        obtain ⟨c, hc⟩ : ∃ c, xs[i]? = some c := ⟨_, List.getElem?_eq_getElem (by omega)⟩
        obtain ⟨d, hd⟩ : ∃ d, ys[i]? = some d := ⟨_, List.getElem?_eq_getElem (by omega)⟩
        refine go_iloadN d24_9 rfl ?_
        refine go_aloadN d24_10 rfl rfl ?_
        refine go_alen A1 d24_11 (v := (Int32.ofNat xs.length)) rfl ?_
        refine go_icmpge d24_12 (fun c1002 => absurd (ofNat_lt (by omega) (by omega)) c1002) (fun c1002 => ?_)
        refine go_aloadN d24_15 rfl rfl ?_
        refine go_iloadN d24_16 rfl ?_
        refine go_baload (x := c) A1 (i := i) rfl hc d24_17 ?_
        refine go_aloadN d24_18 rfl rfl ?_
        refine go_iloadN d24_19 rfl ?_
        refine go_baload (x := d) A2 (i := i) rfl hd d24_20 ?_
        refine go_icmpeq d24_21 (fun c21 => ?_) (fun c21 => ?_)
        · refine go_iinc d24_26 rfl (v := (Int32.ofNat (i + 1))) (ofNat_inc i) (l' := #[.val (.ref b1), .val (.ref b2), .val (.int (Int32.ofNat (i + 1)))]) rfl ?_
          refine go_goto d24_29 ?_
          exact ih (i + 1) (by omega) (by rw [List.take_add_one, List.take_add_one, hc, hd, he, c21])
        · refine go_iconst (x := (0 : Int32)) d24_24 (by decide) ?_
          exact go_ireturn (ty := .boolean) (v := (0 : Int32)) d24_25 rfl (by simp) rfl ⟨_, rfl, Or.inr ⟨rfl, fun q => c21 (by rw [q, hd] at hc; exact (Option.some.inj hc).symm)⟩, rfl⟩
    exact loop xs.length 0 (by omega) rfl
theorem d25_0 : Dec jdk_42_method_66_code 0 (.aload_n 0) 1 1 := ⟨by decide +kernel, rfl⟩
theorem d25_1 : Dec jdk_42_method_66_code 1 (.aload_n 1) 1 2 := ⟨by decide +kernel, rfl⟩
theorem d25_2 : Brn jdk_42_method_66_code 2 (.if_acmp .ne 5) 5 5 7 := ⟨by decide +kernel, rfl, by decide, by decide⟩
theorem d25_7 : Dec jdk_42_method_66_code 7 (.aload_n 1) 1 8 := ⟨by decide +kernel, rfl⟩
theorem d25_8 : Dec jdk_42_method_66_code 8 (.instanceof 10) 3 11 := ⟨by decide +kernel, rfl⟩
theorem d25_11 : Brn jdk_42_method_66_code 11 (.ifCond .eq 43) 43 14 54 := ⟨by decide +kernel, rfl, by decide, by decide⟩
theorem d25_14 : Dec jdk_42_method_66_code 14 (.aload_n 1) 1 15 := ⟨by decide +kernel, rfl⟩
theorem d25_15 : Dec jdk_42_method_66_code 15 (.checkcast 10) 3 18 := ⟨by decide +kernel, rfl⟩
theorem d25_18 : Dec jdk_42_method_66_code 18 (.astore_n 2) 1 19 := ⟨by decide +kernel, rfl⟩
theorem d25_19 : Dec jdk_42_method_66_code 19 (.getstatic 38) 3 22 := ⟨by decide +kernel, rfl⟩
theorem d25_22 : Brn jdk_42_method_66_code 22 (.ifCond .eq 14) 14 25 36 := ⟨by decide +kernel, rfl, by decide, by decide⟩
theorem d25_25 : Dec jdk_42_method_66_code 25 (.aload_n 0) 1 26 := ⟨by decide +kernel, rfl⟩
theorem d25_26 : Dec jdk_42_method_66_code 26 (.getfield 15) 3 29 := ⟨by decide +kernel, rfl⟩
theorem d25_29 : Dec jdk_42_method_66_code 29 (.aload_n 2) 1 30 := ⟨by decide +kernel, rfl⟩
theorem d25_30 : Dec jdk_42_method_66_code 30 (.getfield 15) 3 33 := ⟨by decide +kernel, rfl⟩
theorem d25_33 : Brn jdk_42_method_66_code 33 (.if_icmp .ne 21) 21 36 54 := ⟨by decide +kernel, rfl, by decide, by decide⟩
theorem d25_36 : Dec jdk_42_method_66_code 36 (.aload_n 0) 1 37 := ⟨by decide +kernel, rfl⟩
theorem d25_37 : Dec jdk_42_method_66_code 37 (.getfield 9) 3 40 := ⟨by decide +kernel, rfl⟩
theorem d25_40 : Dec jdk_42_method_66_code 40 (.aload_n 2) 1 41 := ⟨by decide +kernel, rfl⟩
theorem d25_41 : Dec jdk_42_method_66_code 41 (.getfield 9) 3 44 := ⟨by decide +kernel, rfl⟩
theorem d25_44 : Dec jdk_42_method_66_code 44 (.invokestatic 541) 3 47 := ⟨by decide +kernel, rfl⟩
theorem pd18 : parseMethodDescriptor "([B[B)Z" = some ⟨[(.array .byte), (.array .byte)], some .boolean⟩ := by decide +kernel
theorem d25_47 : Brn jdk_42_method_66_code 47 (.ifCond .eq 7) 7 50 54 := ⟨by decide +kernel, rfl, by decide, by decide⟩
theorem d25_50 : Dec jdk_42_method_66_code 50 (.iconst 1) 1 51 := ⟨by decide +kernel, rfl⟩
theorem d25_51 : Brn jdk_42_method_66_code 51 (.goto 4) 4 54 55 := ⟨by decide +kernel, rfl, by decide, by decide⟩
theorem d25_55 : Dec jdk_42_method_66_code 55 (.ireturn) 1 56 := ⟨by decide +kernel, rfl⟩
theorem d25_54 : Dec jdk_42_method_66_code 54 (.iconst 0) 1 55 := ⟨by decide +kernel, rfl⟩
set_option maxRecDepth 65536 in
set_option maxHeartbeats 40000000 in
theorem c_eq (l : Launch) (Z : State) (a0 : Array Value) (hw : ∀ d ∈ tables_1, d.before a0 Z = true) (hEL : EW Z a0 own_EL) (x y : Addr) (cs ds : List Int32) (b1 b2 : Addr) (hne : x ≠ y) (S : Addr → Prop) (h0 : Heap) (F : LS Z h0 x cs b1) (G : LS Z h0 y ds b2) (zc : Int32) (Oc : Sta Z Z.heap "java/lang/String" "COMPACT_STRINGS" "Z" (.int zc)) (Pc : ¬ zc = 0) :
    Con l Z own_EL [] (⟨"java/lang/String", "equals", "(Ljava/lang/Object;)Z"⟩ : MethodName) jdk_42_method_66_code 3 (some .boolean) ({ frames := 1, cells := 0, slots := 0, locals := 14 } : Room) #[.ref x, .ref y] S h0 (fun S' v h' => (v = some (.int (1 : Int32)) ∧ cs = ds ∧ h0 = h') ∨ (v = some (.int (0 : Int32)) ∧ cs ≠ ds ∧ h0 = h')) := by
  refine con_of_go (ls := #[.val (.ref x), .val (.ref y), .unset]) (plainFor_of_name pn0) hEL (fun m => by first | rfl | (simp [entryFrame, mkF, argsToLocals, cat_int, cat_ref, cat_null, cat_long]; done)) (fun K => ?_)
  show Go _ _ _ _ _ _ _ _ _ _ _ _ _ 0 0 _ _ _
  refine go_aloadN d25_0 rfl rfl ?_
  refine go_aloadN d25_1 rfl rfl ?_
  refine go_acmpne d25_2 rfl rfl (fun c1001 => ?_) (fun c1001 => absurd c1001 (fun q => hne (Value.ref.inj q)))
  refine go_aloadN d25_7 rfl rfl ?_
  refine go_instY (hw _ (List.mem_of_getElem? (i := 75) rfl)) (Ins.self G.1.1) d25_8 ?_
  refine go_ifeq d25_11 (fun c1002 => absurd c1002 (by decide)) (fun c1002 => ?_)
  refine go_aloadN d25_14 rfl rfl ?_
  refine go_cast (hw _ (List.mem_of_getElem? (i := 75) rfl)) (Ins.self G.1.1) d25_15 ?_
  refine go_astoreN d25_18 rfl (l' := #[.val (.ref x), .val (.ref y), .val (.ref y)]) rfl ?_
  refine go_gets (hw _ (List.mem_of_getElem? (i := 61) rfl)) Via.refl Oc d25_19 ?_
  refine go_ifeq d25_22 (fun c1003 => absurd c1003 (Pc)) (fun c1003 => ?_)
  refine go_aloadN d25_25 rfl rfl ?_
  refine go_getf (hw _ (List.mem_of_getElem? (i := 25) rfl)) Via.refl F.1.2.1 d25_26 ?_
  refine go_aloadN d25_29 rfl rfl ?_
  refine go_getf (hw _ (List.mem_of_getElem? (i := 25) rfl)) Via.refl G.1.2.1 d25_30 ?_
  refine go_icmpne d25_33 (fun c1004 => absurd (rfl) c1004) (fun c1004 => ?_)
  refine go_aloadN d25_36 rfl rfl ?_
  refine go_getf (hw _ (List.mem_of_getElem? (i := 24) rfl)) Via.refl F.1.2.2.1 d25_37 ?_
  refine go_aloadN d25_40 rfl rfl ?_
  refine go_getf (hw _ (List.mem_of_getElem? (i := 24) rfl)) Via.refl G.1.2.2.1 d25_41 ?_
  refine go_static (R := ({ frames := 1, cells := 0, slots := 0, locals := 14 } : Room)) (kc := 0) (ks := 0) [.ref b1, .ref b2] [] (c_leq l Z a0 hw hEL b1 b2 _ _ S h0 F.bytes G.bytes) (hw _ (List.mem_of_getElem? (i := 76) rfl)) (hw _ (List.mem_of_getElem? (i := 77) rfl)) (hw _ (List.mem_of_getElem? (i := 78) rfl)) (hw _ (List.mem_of_getElem? (i := 64) rfl)) (by decide) rfl rfl (lenOf pd18 rfl) d25_44 (by rfl) (by decide) (Nat.le_of_ble_eq_true rfl) (rc := 0) (rs := 0) rfl rfl (fun S1005 v1005 h1005 m1005 z1005 q1005 => ?_)
  rcases q1005 with ⟨_, rfl, ⟨rfl, e1005⟩ | ⟨rfl, e1005⟩, rfl⟩
  · show Go _ _ _ _ _ _ _ _ _ _ _ _ _ _ _ _ _ (mkF K.m 47 #[.val (.ref x), .val (.ref y), .val (.ref y)] [.int (1 : Int32)])
    refine go_ifeq d25_47 (fun c1006 => absurd c1006 (by decide)) (fun c1006 => ?_)
    refine go_iconst (x := (1 : Int32)) d25_50 (by decide) ?_
    refine go_goto d25_51 ?_
    exact go_ireturn (ty := .boolean) (v := (1 : Int32)) d25_55 rfl (by simp) rfl (Or.inl ⟨rfl, map_lo8_inj F.ch F.lat G.ch G.lat e1005, rfl⟩)
  · show Go _ _ _ _ _ _ _ _ _ _ _ _ _ _ _ _ _ (mkF K.m 47 #[.val (.ref x), .val (.ref y), .val (.ref y)] [.int (0 : Int32)])
    refine go_ifeq d25_47 (fun c1007 => ?_) (fun c1007 => absurd (rfl) c1007)
    refine go_iconst (x := (0 : Int32)) d25_54 (by decide) ?_
    exact go_ireturn (ty := .boolean) (v := (0 : Int32)) d25_55 rfl (by simp) rfl (Or.inr ⟨rfl, fun q => e1005 (by rw [q]), rfl⟩)
theorem ofNat_inc1 (i : Nat) : Int32.ofNat i + 1 = Int32.ofNat (i + 1) := ofNat_inc i
theorem ofNat_dec1 (i : Nat) : Int32.ofNat (i + 1) - 1 = Int32.ofNat i := by rw [← ofNat_inc1]; exact Int32.add_sub_cancel _ _
theorem ofNat_two (k : Nat) : 2 * Int32.ofNat k = Int32.ofNat (2 * k) := (Int32.ofNat_mul 2 k).symm
theorem ofNat_pred {i : Nat} (h : 0 < i) : Int32.ofNat i - 1 = Int32.ofNat (i - 1) := by
  obtain ⟨k, rfl⟩ : ∃ k, i = k + 1 := ⟨i - 1, by omega⟩
  exact ofNat_dec1 k
theorem d26_0 : Dec prog_3_method_1_code 0 (.aload_n 0) 1 1 := ⟨by decide +kernel, rfl⟩
theorem d26_1 : Dec prog_3_method_1_code 1 (.invokespecial 1) 3 4 := ⟨by decide +kernel, rfl⟩
theorem d26_4 : Dec prog_3_method_1_code 4 (.aload_n 0) 1 5 := ⟨by decide +kernel, rfl⟩
theorem d26_5 : Dec prog_3_method_1_code 5 (.bipush 64) 2 7 := ⟨by decide +kernel, rfl⟩
theorem d26_7 : Dec prog_3_method_1_code 7 (.newarray .char) 2 9 := ⟨by decide +kernel, rfl⟩
theorem d26_9 : Dec prog_3_method_1_code 9 (.putfield 7) 3 12 := ⟨by decide +kernel, rfl⟩
theorem d26_12 : Dec prog_3_method_1_code 12 (.aload_n 0) 1 13 := ⟨by decide +kernel, rfl⟩
theorem d26_13 : Dec prog_3_method_1_code 13 (.bipush 16) 2 15 := ⟨by decide +kernel, rfl⟩
theorem d26_15 : Dec prog_3_method_1_code 15 (.newarray .int) 2 17 := ⟨by decide +kernel, rfl⟩
theorem d26_17 : Dec prog_3_method_1_code 17 (.putfield 13) 3 20 := ⟨by decide +kernel, rfl⟩
theorem d26_20 : Dec prog_3_method_1_code 20 (.aload_n 0) 1 21 := ⟨by decide +kernel, rfl⟩
theorem d26_21 : Dec prog_3_method_1_code 21 (.bipush 16) 2 23 := ⟨by decide +kernel, rfl⟩
theorem d26_23 : Dec prog_3_method_1_code 23 (.newarray .int) 2 25 := ⟨by decide +kernel, rfl⟩
theorem d26_25 : Dec prog_3_method_1_code 25 (.putfield 17) 3 28 := ⟨by decide +kernel, rfl⟩
theorem d26_28 : Dec prog_3_method_1_code 28 (.aload_n 0) 1 29 := ⟨by decide +kernel, rfl⟩
theorem d26_29 : Dec prog_3_method_1_code 29 (.bipush 32) 2 31 := ⟨by decide +kernel, rfl⟩
theorem d26_31 : Dec prog_3_method_1_code 31 (.newarray .int) 2 33 := ⟨by decide +kernel, rfl⟩
theorem d26_33 : Dec prog_3_method_1_code 33 (.putfield 20) 3 36 := ⟨by decide +kernel, rfl⟩
theorem d26_36 : Dec prog_3_method_1_code 36 (.return_) 1 37 := ⟨by decide +kernel, rfl⟩
set_option maxRecDepth 65536 in
set_option maxHeartbeats 40000000 in
theorem c_nini (l : Launch) (Z : State) (a0 : Array Value) (hw : ∀ d ∈ tables_1, d.before a0 Z = true) (hEL : EW Z a0 own_EL) (N : Addr) (S : Addr → Prop) (h0 : Heap) (hz : Z.heap.size ≤ h0.size) (gN : Z.heap.size ≤ N) (HE : Exa Z h0 N "com/example/vestledger/vestledger/account/Names") (Hc : Fld Z h0 N "com/example/vestledger/vestledger/account/Names" "characters" "[C" .null) (He : Fld Z h0 N "com/example/vestledger/vestledger/account/Names" "ends" "[I" .null) (Hh : Fld Z h0 N "com/example/vestledger/vestledger/account/Names" "hashes" "[I" .null) (Ht : Fld Z h0 N "com/example/vestledger/vestledger/account/Names" "table" "[I" .null) (Hs : Fld Z h0 N "com/example/vestledger/vestledger/account/Names" "size" "I" (.int 0)) :
    Con l Z own_EL [] (⟨"com/example/vestledger/vestledger/account/Names", "<init>", "()V"⟩ : MethodName) prog_3_method_1_code 1 (none : Option FieldType) ({ frames := 1, cells := 4, slots := 128, locals := 13 } : Room) #[.ref N] S h0 (fun S' v h' => v = none ∧ Keep h0 h' [N] ∧ ∃ ca ea ha ta, NH Z h' N ca ea ha ta (List.replicate 64 0) (List.replicate 16 0) (List.replicate 16 0) (List.replicate 32 0) 0 ∧ h0.size ≤ ca ∧ h0.size ≤ ea ∧ h0.size ≤ ha ∧ h0.size ≤ ta) := by
  refine con_of_go (ls := #[.val (.ref N)]) (plainFor_of_name pn4) hEL (fun m => by first | rfl | (simp [entryFrame, mkF, argsToLocals, cat_int, cat_ref, cat_null, cat_long]; done)) (fun K => ?_)
  show Go _ _ _ _ _ _ _ _ _ _ _ _ _ 4 128 _ _ _
  have lN := lt_nat HE.lt
  refine go_aloadN d26_0 rfl rfl ?_
  refine go_initO (hw _ (List.mem_of_getElem? (i := 32) rfl)) (hw _ (List.mem_of_getElem? (i := 16) rfl)) (hw _ (List.mem_of_getElem? (i := 17) rfl)) d26_1 (by rfl) (by decide) (Nat.le_of_ble_eq_true rfl) ?_
  refine go_aloadN d26_4 rfl rfl ?_
  refine go_bipush (x := (64 : Int32)) d26_5 (by decide) ?_
  refine go_newarr (kc := 3) (ks := 64) (N := 64) (cap := 64) (hw _ (List.mem_of_getElem? (i := 7) rfl)) rfl (Nat.le_refl _) (by decide) rfl rfl d26_7 (fun S1001 h1001 a1001 e1001 m1001 s1001 x1001 l1001 A1001 => ?_)
  have z1001 := x1001.1
  have A1001 : AI Z h1001 a1001 .char (List.replicate 64 0) := A1001
  have f1002 := (Hc.ext x1001)
  have f1003 := (HE.ext x1001)
  refine go_putf (u' := .ref a1001) (hw _ (List.mem_of_getElem? (i := 33) rfl)) Via.refl f1002 f1003 (Or.inl (hw _ (List.mem_of_getElem? (i := 34) rfl))) (hw _ (List.mem_of_getElem? (i := 27) rfl)) (ty := (.array .char)) (by decide) rfl rfl (by omega) (Or.inr (by decide)) d26_9 (fun h1004 W1004 K1004 E1004 F1004 => ?_)
  have z1004 := K1004.1
  refine go_aloadN d26_12 rfl rfl ?_
  refine go_bipush (x := (16 : Int32)) d26_13 (by decide) ?_
  refine go_newarr (kc := 2) (ks := 48) (N := 16) (cap := 16) (hw _ (List.mem_of_getElem? (i := 35) rfl)) rfl (Nat.le_refl _) (by decide) rfl rfl d26_15 (fun S1005 h1005 a1005 e1005 m1005 s1005 x1005 l1005 A1005 => ?_)
  have z1005 := x1005.1
  have A1005 : AI Z h1005 a1005 .int (List.replicate 16 0) := A1005
  have f1006 := (((He.ext x1001).other W1004 (Or.inr (slot_ne (C := "com/example/vestledger/vestledger/account/Names") (a0 := a0) (Or.inl (hw _ (List.mem_of_getElem? (i := 37) rfl))) (Or.inl (hw _ (List.mem_of_getElem? (i := 34) rfl))) (by decide) (t := (.array .int)) (t' := (.array .char)) (by decide) (by decide)))).ext x1005)
  have f1007 := (E1004.ext x1005)
  refine go_putf (u' := .ref a1005) (hw _ (List.mem_of_getElem? (i := 36) rfl)) Via.refl f1006 f1007 (Or.inl (hw _ (List.mem_of_getElem? (i := 37) rfl))) (hw _ (List.mem_of_getElem? (i := 27) rfl)) (ty := (.array .int)) (by decide) rfl rfl (by omega) (Or.inr (by decide)) d26_17 (fun h1008 W1008 K1008 E1008 F1008 => ?_)
  have z1008 := K1008.1
  refine go_aloadN d26_20 rfl rfl ?_
  refine go_bipush (x := (16 : Int32)) d26_21 (by decide) ?_
  refine go_newarr (kc := 1) (ks := 32) (N := 16) (cap := 16) (hw _ (List.mem_of_getElem? (i := 35) rfl)) rfl (Nat.le_refl _) (by decide) rfl rfl d26_23 (fun S1009 h1009 a1009 e1009 m1009 s1009 x1009 l1009 A1009 => ?_)
  have z1009 := x1009.1
  have A1009 : AI Z h1009 a1009 .int (List.replicate 16 0) := A1009
  have f1010 := (((((Hh.ext x1001).other W1004 (Or.inr (slot_ne (C := "com/example/vestledger/vestledger/account/Names") (a0 := a0) (Or.inl (hw _ (List.mem_of_getElem? (i := 39) rfl))) (Or.inl (hw _ (List.mem_of_getElem? (i := 34) rfl))) (by decide) (t := (.array .int)) (t' := (.array .char)) (by decide) (by decide)))).ext x1005).other W1008 (Or.inr (slot_ne (C := "com/example/vestledger/vestledger/account/Names") (a0 := a0) (Or.inl (hw _ (List.mem_of_getElem? (i := 39) rfl))) (Or.inl (hw _ (List.mem_of_getElem? (i := 37) rfl))) (by decide) (t := (.array .int)) (t' := (.array .int)) (by decide) (by decide)))).ext x1009)
  have f1011 := (E1008.ext x1009)
  refine go_putf (u' := .ref a1009) (hw _ (List.mem_of_getElem? (i := 38) rfl)) Via.refl f1010 f1011 (Or.inl (hw _ (List.mem_of_getElem? (i := 39) rfl))) (hw _ (List.mem_of_getElem? (i := 27) rfl)) (ty := (.array .int)) (by decide) rfl rfl (by omega) (Or.inr (by decide)) d26_25 (fun h1012 W1012 K1012 E1012 F1012 => ?_)
  have z1012 := K1012.1
  refine go_aloadN d26_28 rfl rfl ?_
  refine go_bipush (x := (32 : Int32)) d26_29 (by decide) ?_
  refine go_newarr (kc := 0) (ks := 0) (N := 32) (cap := 32) (hw _ (List.mem_of_getElem? (i := 35) rfl)) rfl (Nat.le_refl _) (by decide) rfl rfl d26_31 (fun S1013 h1013 a1013 e1013 m1013 s1013 x1013 l1013 A1013 => ?_)
  have z1013 := x1013.1
  have A1013 : AI Z h1013 a1013 .int (List.replicate 32 0) := A1013
  have f1014 := (((((((Ht.ext x1001).other W1004 (Or.inr (slot_ne (C := "com/example/vestledger/vestledger/account/Names") (a0 := a0) (Or.inl (hw _ (List.mem_of_getElem? (i := 41) rfl))) (Or.inl (hw _ (List.mem_of_getElem? (i := 34) rfl))) (by decide) (t := (.array .int)) (t' := (.array .char)) (by decide) (by decide)))).ext x1005).other W1008 (Or.inr (slot_ne (C := "com/example/vestledger/vestledger/account/Names") (a0 := a0) (Or.inl (hw _ (List.mem_of_getElem? (i := 41) rfl))) (Or.inl (hw _ (List.mem_of_getElem? (i := 37) rfl))) (by decide) (t := (.array .int)) (t' := (.array .int)) (by decide) (by decide)))).ext x1009).other W1012 (Or.inr (slot_ne (C := "com/example/vestledger/vestledger/account/Names") (a0 := a0) (Or.inl (hw _ (List.mem_of_getElem? (i := 41) rfl))) (Or.inl (hw _ (List.mem_of_getElem? (i := 39) rfl))) (by decide) (t := (.array .int)) (t' := (.array .int)) (by decide) (by decide)))).ext x1013)
  have f1015 := (E1012.ext x1013)
  refine go_putf (u' := .ref a1013) (hw _ (List.mem_of_getElem? (i := 40) rfl)) Via.refl f1014 f1015 (Or.inl (hw _ (List.mem_of_getElem? (i := 41) rfl))) (hw _ (List.mem_of_getElem? (i := 27) rfl)) (ty := (.array .int)) (by decide) rfl rfl (by omega) (Or.inr (by decide)) d26_33 (fun h1016 W1016 K1016 E1016 F1016 => ?_)
  have z1016 := K1016.1
  have f1017 := ((((((F1004.ext x1005).other W1008 (Or.inr (slot_ne (C := "com/example/vestledger/vestledger/account/Names") (a0 := a0) (Or.inl (hw _ (List.mem_of_getElem? (i := 34) rfl))) (Or.inl (hw _ (List.mem_of_getElem? (i := 37) rfl))) (by decide) (t := (.array .char)) (t' := (.array .int)) (by decide) (by decide)))).ext x1009).other W1012 (Or.inr (slot_ne (C := "com/example/vestledger/vestledger/account/Names") (a0 := a0) (Or.inl (hw _ (List.mem_of_getElem? (i := 34) rfl))) (Or.inl (hw _ (List.mem_of_getElem? (i := 39) rfl))) (by decide) (t := (.array .char)) (t' := (.array .int)) (by decide) (by decide)))).ext x1013).other W1016 (Or.inr (slot_ne (C := "com/example/vestledger/vestledger/account/Names") (a0 := a0) (Or.inl (hw _ (List.mem_of_getElem? (i := 34) rfl))) (Or.inl (hw _ (List.mem_of_getElem? (i := 41) rfl))) (by decide) (t := (.array .char)) (t' := (.array .int)) (by decide) (by decide))))
  have f1018 := ((((F1008.ext x1009).other W1012 (Or.inr (slot_ne (C := "com/example/vestledger/vestledger/account/Names") (a0 := a0) (Or.inl (hw _ (List.mem_of_getElem? (i := 37) rfl))) (Or.inl (hw _ (List.mem_of_getElem? (i := 39) rfl))) (by decide) (t := (.array .int)) (t' := (.array .int)) (by decide) (by decide)))).ext x1013).other W1016 (Or.inr (slot_ne (C := "com/example/vestledger/vestledger/account/Names") (a0 := a0) (Or.inl (hw _ (List.mem_of_getElem? (i := 37) rfl))) (Or.inl (hw _ (List.mem_of_getElem? (i := 41) rfl))) (by decide) (t := (.array .int)) (t' := (.array .int)) (by decide) (by decide))))
  have f1019 := ((F1012.ext x1013).other W1016 (Or.inr (slot_ne (C := "com/example/vestledger/vestledger/account/Names") (a0 := a0) (Or.inl (hw _ (List.mem_of_getElem? (i := 39) rfl))) (Or.inl (hw _ (List.mem_of_getElem? (i := 41) rfl))) (by decide) (t := (.array .int)) (t' := (.array .int)) (by decide) (by decide))))
  have f1020 := ((((((((Hs.ext x1001).other W1004 (Or.inr (slot_ne (C := "com/example/vestledger/vestledger/account/Names") (a0 := a0) (Or.inl (hw _ (List.mem_of_getElem? (i := 90) rfl))) (Or.inl (hw _ (List.mem_of_getElem? (i := 34) rfl))) (by decide) (t := .int) (t' := (.array .char)) (by decide) (by decide)))).ext x1005).other W1008 (Or.inr (slot_ne (C := "com/example/vestledger/vestledger/account/Names") (a0 := a0) (Or.inl (hw _ (List.mem_of_getElem? (i := 90) rfl))) (Or.inl (hw _ (List.mem_of_getElem? (i := 37) rfl))) (by decide) (t := .int) (t' := (.array .int)) (by decide) (by decide)))).ext x1009).other W1012 (Or.inr (slot_ne (C := "com/example/vestledger/vestledger/account/Names") (a0 := a0) (Or.inl (hw _ (List.mem_of_getElem? (i := 90) rfl))) (Or.inl (hw _ (List.mem_of_getElem? (i := 39) rfl))) (by decide) (t := .int) (t' := (.array .int)) (by decide) (by decide)))).ext x1013).other W1016 (Or.inr (slot_ne (C := "com/example/vestledger/vestledger/account/Names") (a0 := a0) (Or.inl (hw _ (List.mem_of_getElem? (i := 90) rfl))) (Or.inl (hw _ (List.mem_of_getElem? (i := 41) rfl))) (by decide) (t := .int) (t' := (.array .int)) (by decide) (by decide))))
  have f1021 := (((((((A1001.keep K1004 (ninS (ne_of (a := a1001) (b := N) (by omega)) nin0)).ext x1005).keep K1008 (ninS (ne_of (a := a1001) (b := N) (by omega)) nin0)).ext x1009).keep K1012 (ninS (ne_of (a := a1001) (b := N) (by omega)) nin0)).ext x1013).keep K1016 (ninS (ne_of (a := a1001) (b := N) (by omega)) nin0))
  have f1022 := (((((A1005.keep K1008 (ninS (ne_of (a := a1005) (b := N) (by omega)) nin0)).ext x1009).keep K1012 (ninS (ne_of (a := a1005) (b := N) (by omega)) nin0)).ext x1013).keep K1016 (ninS (ne_of (a := a1005) (b := N) (by omega)) nin0))
  have f1023 := (((A1009.keep K1012 (ninS (ne_of (a := a1009) (b := N) (by omega)) nin0)).ext x1013).keep K1016 (ninS (ne_of (a := a1009) (b := N) (by omega)) nin0))
  have f1024 := (A1013.keep K1016 (ninS (ne_of (a := a1013) (b := N) (by omega)) nin0))
  exact go_return d26_36 rfl ⟨rfl, (((((((((Keep.refl h0 [N]).ext x1001).wr W1004 (Or.inl (by simp))).ext x1005).wr W1008 (Or.inl (by simp))).ext x1009).wr W1012 (Or.inl (by simp))).ext x1013).wr W1016 (Or.inl (by simp))), _, _, _, _, ⟨E1016, f1017, f1018, f1019, F1016, f1020, f1021, f1022, f1023, f1024, ne_of (by omega), ne_of (by omega), ne_of (by omega), gN, by omega, by omega, by omega, by omega⟩, by omega, by omega, by omega, by omega⟩
theorem d27_0 : Dec prog_3_method_10_code 0 (.iload_n 1) 1 1 := ⟨by decide +kernel, rfl⟩
theorem d27_1 : Brn prog_3_method_10_code 1 (.ifCond .ne 7) 7 4 8 := ⟨by decide +kernel, rfl, by decide, by decide⟩
theorem d27_8 : Dec prog_3_method_10_code 8 (.aload_n 0) 1 9 := ⟨by decide +kernel, rfl⟩
theorem d27_9 : Dec prog_3_method_10_code 9 (.getfield 13) 3 12 := ⟨by decide +kernel, rfl⟩
theorem d27_12 : Dec prog_3_method_10_code 12 (.iload_n 1) 1 13 := ⟨by decide +kernel, rfl⟩
theorem d27_13 : Dec prog_3_method_10_code 13 (.iconst 1) 1 14 := ⟨by decide +kernel, rfl⟩
theorem d27_14 : Dec prog_3_method_10_code 14 (.isub) 1 15 := ⟨by decide +kernel, rfl⟩
theorem d27_15 : Dec prog_3_method_10_code 15 (.iaload) 1 16 := ⟨by decide +kernel, rfl⟩
theorem d27_16 : Dec prog_3_method_10_code 16 (.ireturn) 1 17 := ⟨by decide +kernel, rfl⟩
theorem d27_4 : Dec prog_3_method_10_code 4 (.iconst 0) 1 5 := ⟨by decide +kernel, rfl⟩
theorem d27_5 : Brn prog_3_method_10_code 5 (.goto 11) 11 8 16 := ⟨by decide +kernel, rfl, by decide, by decide⟩
set_option maxRecDepth 65536 in
set_option maxHeartbeats 40000000 in
theorem c_so (l : Launch) (Z : State) (a0 : Array Value) (hw : ∀ d ∈ tables_1, d.before a0 Z = true) (hEL : EW Z a0 own_EL) (N ca ea ha ta : Addr) (ts : List (List Int32)) (chs es hs tb : List Int32) (sl : List Nat) (S : Addr → Prop) (h0 : Heap) (I : NI ts chs es hs tb sl) (H : NH Z h0 N ca ea ha ta chs es hs tb ts.length) (i o : Nat) (hi : i ≤ ts.length) (ho : (ts.take i).flatten.length = o) :
    Con l Z own_EL [] (⟨"com/example/vestledger/vestledger/account/Names", "startOf", "(I)I"⟩ : MethodName) prog_3_method_10_code 2 (some .int) ({ frames := 0, cells := 0, slots := 0, locals := 0 } : Room) #[.ref N, .int (Int32.ofNat i)] S h0 (fun S' v h' => v = some (.int (Int32.ofNat o)) ∧ h0 = h') := by
  refine con_of_go (ls := #[.val (.ref N), .val (.int (Int32.ofNat i))]) (plainFor_of_name pn4) hEL (fun m => by first | rfl | (simp [entryFrame, mkF, argsToLocals, cat_int, cat_ref, cat_null, cat_long]; done)) (fun K => ?_)
  show Go _ _ _ _ _ _ _ _ _ _ _ _ _ 0 0 _ _ _
  have HH := H
  obtain ⟨HE, Hc, He, Hh, Ht, Hs, Ac, Ae, Ah, At, n1, n2, n3, gN, gc, ge, gh, gt⟩ := HH
  have I1 := I.l1
  have I2 := I.l2
  have I3 := I.l3
  have I4 := I.l4
  have I5 := I.n
  have lN := lt_nat HE.lt
  have lca := lt_nat Ac.lt
  have lea := lt_nat Ae.lt
  have lha := lt_nat Ah.lt
  have lta := lt_nat At.lt
  have ncaN : ca ≠ N := Ac.ne_exa HE (hw _ (List.mem_of_getElem? (i := 27) rfl))
  have neaN : ea ≠ N := Ae.ne_exa HE (hw _ (List.mem_of_getElem? (i := 27) rfl))
  have ncaea : ca ≠ ea := Ac.ne_ty Ae (by decide)
  have nhaN : ha ≠ N := Ah.ne_exa HE (hw _ (List.mem_of_getElem? (i := 27) rfl))
  have ncaha : ca ≠ ha := Ac.ne_ty Ah (by decide)
  have ntaN : ta ≠ N := At.ne_exa HE (hw _ (List.mem_of_getElem? (i := 27) rfl))
  have ncata : ca ≠ ta := Ac.ne_ty At (by decide)
  refine go_iloadN d27_0 rfl ?_
  refine go_ifne d27_1 (fun c1 => ?_) (fun c1 => ?_)
  · have hp : 0 < i := by
      rcases Nat.eq_zero_or_pos i with q | q
      · exact absurd (by rw [q]; rfl) c1
      · exact q
    refine go_aloadN d27_8 rfl rfl ?_
    refine go_getf (hw _ (List.mem_of_getElem? (i := 36) rfl)) Via.refl He d27_9 ?_
    refine go_iloadN d27_12 rfl ?_
    refine go_iconst (x := (1 : Int32)) d27_13 (by decide) ?_
    refine go_isub (v := (Int32.ofNat (i - 1))) d27_14 (ofNat_pred hp) ?_
    refine go_iaload (x := (Int32.ofNat o)) Ae (i := (i - 1)) rfl (by have q := I.ends (i := i - 1) (by omega); rw [show i - 1 + 1 = i by omega, ho] at q; exact q) d27_15 ?_
    exact go_ireturn (ty := .int) (v := (Int32.ofNat o)) d27_16 rfl (by simp) rfl ⟨rfl, rfl⟩
  · have hp : i = 0 := (ofNat_inj (n := 0) (by omega) (by omega)).mp c1
    refine go_iconst (x := (0 : Int32)) d27_4 (by decide) ?_
    refine go_goto d27_5 ?_
    exact go_ireturn (ty := .int) (v := (0 : Int32)) d27_16 rfl (by simp) rfl ⟨by rw [← ho, hp]; rfl, rfl⟩
theorem d28_0 : Dec prog_3_method_9_code 0 (.aload_n 0) 1 1 := ⟨by decide +kernel, rfl⟩
theorem d28_1 : Dec prog_3_method_9_code 1 (.iload_n 1) 1 2 := ⟨by decide +kernel, rfl⟩
theorem d28_2 : Dec prog_3_method_9_code 2 (.invokevirtual 27) 3 5 := ⟨by decide +kernel, rfl⟩
theorem pd19 : parseMethodDescriptor "(I)I" = some ⟨[.int], some .int⟩ := by decide +kernel
theorem d28_5 : Dec prog_3_method_9_code 5 (.istore_n 3) 1 6 := ⟨by decide +kernel, rfl⟩
theorem d28_6 : Dec prog_3_method_9_code 6 (.aload_n 0) 1 7 := ⟨by decide +kernel, rfl⟩
theorem d28_7 : Dec prog_3_method_9_code 7 (.getfield 13) 3 10 := ⟨by decide +kernel, rfl⟩
theorem d28_10 : Dec prog_3_method_9_code 10 (.iload_n 1) 1 11 := ⟨by decide +kernel, rfl⟩
theorem d28_11 : Dec prog_3_method_9_code 11 (.iaload) 1 12 := ⟨by decide +kernel, rfl⟩
theorem d28_12 : Dec prog_3_method_9_code 12 (.iload_n 3) 1 13 := ⟨by decide +kernel, rfl⟩
theorem d28_13 : Dec prog_3_method_9_code 13 (.isub) 1 14 := ⟨by decide +kernel, rfl⟩
theorem d28_14 : Dec prog_3_method_9_code 14 (.aload_n 2) 1 15 := ⟨by decide +kernel, rfl⟩
theorem d28_15 : Dec prog_3_method_9_code 15 (.invokevirtual 72) 3 18 := ⟨by decide +kernel, rfl⟩
theorem d28_18 : Brn prog_3_method_9_code 18 (.if_icmp .ne 7) 7 21 25 := ⟨by decide +kernel, rfl, by decide, by decide⟩
theorem d28_25 : Dec prog_3_method_9_code 25 (.iconst 0) 1 26 := ⟨by decide +kernel, rfl⟩
theorem d28_26 : Dec prog_3_method_9_code 26 (.istore 4) 2 28 := ⟨by decide +kernel, rfl⟩
theorem d28_28 : Dec prog_3_method_9_code 28 (.iconst 0) 1 29 := ⟨by decide +kernel, rfl⟩
theorem d28_29 : Dec prog_3_method_9_code 29 (.istore 5) 2 31 := ⟨by decide +kernel, rfl⟩
theorem d28_31 : Dec prog_3_method_9_code 31 (.iload 4) 2 33 := ⟨by decide +kernel, rfl⟩
theorem d28_33 : Brn prog_3_method_9_code 33 (.ifCond .eq 43) 43 36 76 := ⟨by decide +kernel, rfl, by decide, by decide⟩
theorem d28_76 : Dec prog_3_method_9_code 76 (.iload 4) 2 78 := ⟨by decide +kernel, rfl⟩
theorem d28_78 : Dec prog_3_method_9_code 78 (.ireturn) 1 79 := ⟨by decide +kernel, rfl⟩
theorem d28_21 : Dec prog_3_method_9_code 21 (.iconst 1) 1 22 := ⟨by decide +kernel, rfl⟩
theorem d28_22 : Brn prog_3_method_9_code 22 (.goto 4) 4 25 26 := ⟨by decide +kernel, rfl, by decide, by decide⟩
theorem d28_36 : Dec prog_3_method_9_code 36 (.iload 5) 2 38 := ⟨by decide +kernel, rfl⟩
theorem d28_38 : Dec prog_3_method_9_code 38 (.aload_n 2) 1 39 := ⟨by decide +kernel, rfl⟩
theorem d28_39 : Dec prog_3_method_9_code 39 (.invokevirtual 72) 3 42 := ⟨by decide +kernel, rfl⟩
theorem d28_42 : Brn prog_3_method_9_code 42 (.if_icmp .ge 34) 34 45 76 := ⟨by decide +kernel, rfl, by decide, by decide⟩
theorem d28_45 : Dec prog_3_method_9_code 45 (.aload_n 0) 1 46 := ⟨by decide +kernel, rfl⟩
theorem d28_46 : Dec prog_3_method_9_code 46 (.getfield 7) 3 49 := ⟨by decide +kernel, rfl⟩
theorem d28_49 : Dec prog_3_method_9_code 49 (.iload_n 3) 1 50 := ⟨by decide +kernel, rfl⟩
theorem d28_50 : Dec prog_3_method_9_code 50 (.iload 5) 2 52 := ⟨by decide +kernel, rfl⟩
theorem d28_52 : Dec prog_3_method_9_code 52 (.iadd) 1 53 := ⟨by decide +kernel, rfl⟩
theorem d28_53 : Dec prog_3_method_9_code 53 (.caload) 1 54 := ⟨by decide +kernel, rfl⟩
theorem d28_54 : Dec prog_3_method_9_code 54 (.aload_n 2) 1 55 := ⟨by decide +kernel, rfl⟩
theorem d28_55 : Dec prog_3_method_9_code 55 (.iload 5) 2 57 := ⟨by decide +kernel, rfl⟩
theorem d28_57 : Dec prog_3_method_9_code 57 (.invokevirtual 92) 3 60 := ⟨by decide +kernel, rfl⟩
theorem pd20 : parseMethodDescriptor "(I)C" = some ⟨[.int], some .char⟩ := by decide +kernel
theorem d28_60 : Brn prog_3_method_9_code 60 (.if_icmp .ne 7) 7 63 67 := ⟨by decide +kernel, rfl, by decide, by decide⟩
theorem d28_67 : Dec prog_3_method_9_code 67 (.iconst 0) 1 68 := ⟨by decide +kernel, rfl⟩
theorem d28_68 : Dec prog_3_method_9_code 68 (.istore 4) 2 70 := ⟨by decide +kernel, rfl⟩
theorem d28_70 : Dec prog_3_method_9_code 70 (.iinc 5 1) 3 73 := ⟨by decide +kernel, rfl⟩
theorem d28_73 : Brn prog_3_method_9_code 73 (.goto (-42)) (-42) 76 31 := ⟨by decide +kernel, rfl, by decide, by decide⟩
theorem d28_63 : Dec prog_3_method_9_code 63 (.iconst 1) 1 64 := ⟨by decide +kernel, rfl⟩
theorem d28_64 : Brn prog_3_method_9_code 64 (.goto 4) 4 67 68 := ⟨by decide +kernel, rfl, by decide, by decide⟩
set_option maxRecDepth 65536 in
set_option maxHeartbeats 40000000 in
theorem c_hold (l : Launch) (Z : State) (a0 : Array Value) (hw : ∀ d ∈ tables_1, d.before a0 Z = true) (hEL : EW Z a0 own_EL) (N ca ea ha ta : Addr) (ts : List (List Int32)) (chs es hs tb : List Int32) (sl : List Nat) (x : Addr) (cs : List Int32) (b : Addr) (S : Addr → Prop) (h0 : Heap) (I : NI ts chs es hs tb sl) (H : NH Z h0 N ca ea ha ta chs es hs tb ts.length) (F : LS Z h0 x cs b) (nx : N ≠ x) (i : Nat) (t : List Int32) (ht : ts[i]? = some t) (zc : Int32) (Oc : Sta Z Z.heap "java/lang/String" "COMPACT_STRINGS" "Z" (.int zc)) (Pc : ¬ zc = 0) (sf : Value) (rsf : sf.isRef = true) (Os : Sta Z Z.heap "jdk/internal/util/Preconditions" "SIOOBE_FORMATTER" "Ljava/util/function/BiFunction;" sf) :
    Con l Z own_EL [] (⟨"com/example/vestledger/vestledger/account/Names", "holds", "(ILjava/lang/String;)Z"⟩ : MethodName) prog_3_method_9_code 6 (some .boolean) ({ frames := 4, cells := 0, slots := 0, locals := 66 } : Room) #[.ref N, .int (Int32.ofNat i), .ref x] S h0 (fun S' v h' => (v = some (.int (1 : Int32)) ∧ t = cs ∧ h0 = h') ∨ (v = some (.int (0 : Int32)) ∧ t ≠ cs ∧ h0 = h')) := by
  refine con_of_go (ls := #[.val (.ref N), .val (.int (Int32.ofNat i)), .val (.ref x), .unset, .unset, .unset]) (plainFor_of_name pn4) hEL (fun m => by first | rfl | (simp [entryFrame, mkF, argsToLocals, cat_int, cat_ref, cat_null, cat_long]; done)) (fun K => ?_)
  show Go _ _ _ _ _ _ _ _ _ _ _ _ _ 0 0 _ _ _
  have HH := H
  obtain ⟨HE, Hc, He, Hh, Ht, Hs, Ac, Ae, Ah, At, n1, n2, n3, gN, gc, ge, gh, gt⟩ := HH
  have I1 := I.l1
  have I2 := I.l2
  have I3 := I.l3
  have I4 := I.l4
  have I5 := I.n
  have lN := lt_nat HE.lt
  have lca := lt_nat Ac.lt
  have lea := lt_nat Ae.lt
  have lha := lt_nat Ah.lt
  have lta := lt_nat At.lt
  have ncaN : ca ≠ N := Ac.ne_exa HE (hw _ (List.mem_of_getElem? (i := 27) rfl))
  have neaN : ea ≠ N := Ae.ne_exa HE (hw _ (List.mem_of_getElem? (i := 27) rfl))
  have ncaea : ca ≠ ea := Ac.ne_ty Ae (by decide)
  have nhaN : ha ≠ N := Ah.ne_exa HE (hw _ (List.mem_of_getElem? (i := 27) rfl))
  have ncaha : ca ≠ ha := Ac.ne_ty Ah (by decide)
  have ntaN : ta ≠ N := At.ne_exa HE (hw _ (List.mem_of_getElem? (i := 27) rfl))
  have ncata : ca ≠ ta := Ac.ne_ty At (by decide)
  have ncax : ca ≠ x := Ac.ne_exa F.1.1 (hw _ (List.mem_of_getElem? (i := 5) rfl))
  have neax : ea ≠ x := Ae.ne_exa F.1.1 (hw _ (List.mem_of_getElem? (i := 5) rfl))
  have nhax : ha ≠ x := Ah.ne_exa F.1.1 (hw _ (List.mem_of_getElem? (i := 5) rfl))
  have ntax : ta ≠ x := At.ne_exa F.1.1 (hw _ (List.mem_of_getElem? (i := 5) rfl))
  have nbx : b ≠ x := F.bytes.ne_exa F.1.1 (hw _ (List.mem_of_getElem? (i := 5) rfl))
  have nbN : b ≠ N := F.bytes.ne_exa HE (hw _ (List.mem_of_getElem? (i := 27) rfl))
  have nbca : b ≠ ca := F.bytes.ne_ty Ac (by decide)
  have nbea : b ≠ ea := F.bytes.ne_ty Ae (by decide)
  have nbha : b ≠ ha := F.bytes.ne_ty Ah (by decide)
  have nbta : b ≠ ta := F.bytes.ne_ty At (by decide)
  have lx := lt_nat F.1.lx
  have lb := lt_nat F.1.lb
  have h3 := F.2.2.2
  have hi := (List.getElem?_eq_some_iff.mp ht).1
  have h9 := I.take_le i
  have ht3 := I.t t (List.mem_of_getElem? ht)
  have hrm := I.room ht
  refine go_aloadN d28_0 rfl rfl ?_
  refine go_iloadN d28_1 rfl ?_
  refine go_private (R := ({ frames := 4, cells := 0, slots := 0, locals := 66 } : Room)) (kc := 0) (ks := 0) [.int (Int32.ofNat i)] [] (c_so l Z a0 hw hEL N ca ea ha ta ts chs es hs tb sl S h0 I ⟨HE, Hc, He, Hh, Ht, Hs, Ac, Ae, Ah, At, n1, n2, n3, gN, gc, ge, gh, gt⟩ i (ts.take i).flatten.length (by omega) rfl) HE (hw _ (List.mem_of_getElem? (i := 91) rfl)) (hw _ (List.mem_of_getElem? (i := 92) rfl)) (hw _ (List.mem_of_getElem? (i := 93) rfl)) (hw _ (List.mem_of_getElem? (i := 45) rfl)) rfl (hw _ (List.mem_of_getElem? (i := 94) rfl)) (hw _ (List.mem_of_getElem? (i := 28) rfl)) (by decide) rfl rfl (lenOf pd19 rfl) d28_2 (by rfl) (by decide) (Nat.le_of_ble_eq_true rfl) (rc := 0) (rs := 0) rfl rfl (fun S1001 v1001 h1001 m1001 z1001 q1001 => ?_)
  obtain ⟨rfl, rfl⟩ := q1001
  show Go _ _ _ _ _ _ _ _ _ _ _ _ _ _ _ _ _ (mkF K.m 5 #[.val (.ref N), .val (.int (Int32.ofNat i)), .val (.ref x), .unset, .unset, .unset] [.int (Int32.ofNat ((ts.take i).flatten.length))])
  refine go_istoreN d28_5 (l' := #[.val (.ref N), .val (.int (Int32.ofNat i)), .val (.ref x), .val (.int (Int32.ofNat ((ts.take i).flatten.length))), .unset, .unset]) rfl ?_
  refine go_aloadN d28_6 rfl rfl ?_
  refine go_getf (hw _ (List.mem_of_getElem? (i := 36) rfl)) Via.refl He d28_7 ?_
  refine go_iloadN d28_10 rfl ?_
  refine go_iaload (x := (Int32.ofNat ((ts.take i).flatten.length + t.length))) Ae (i := i) rfl (I.e i t ht) d28_11 ?_
  refine go_iloadN d28_12 rfl ?_
  refine go_isub (v := (Int32.ofNat t.length)) d28_13 (by rw [ofNat_sub (by omega)]; congr 1; omega) ?_
  refine go_aloadN d28_14 rfl rfl ?_
  refine go_virtual (R := ({ frames := 4, cells := 0, slots := 0, locals := 66 } : Room)) (kc := 0) (ks := 0) [] [.int (Int32.ofNat t.length)] (c_len l Z a0 hw hEL x _ _ _ S1001 h0 F.1 zc Oc Pc) F.1.1 (hw _ (List.mem_of_getElem? (i := 95) rfl)) (hw _ (List.mem_of_getElem? (i := 96) rfl)) (hw _ (List.mem_of_getElem? (i := 98) rfl)) (hw _ (List.mem_of_getElem? (i := 97) rfl)) (nfSel (hw _ (List.mem_of_getElem? (i := 98) rfl))) (hw _ (List.mem_of_getElem? (i := 99) rfl)) (hw _ (List.mem_of_getElem? (i := 6) rfl)) (by decide) rfl rfl (lenOf pd10 rfl) d28_15 (by rfl) (by decide) (Nat.le_of_ble_eq_true rfl) (rc := 0) (rs := 0) rfl rfl (fun S1002 v1002 h1002 m1002 z1002 q1002 => ?_)
  obtain ⟨rfl, rfl⟩ := q1002
  show Go _ _ _ _ _ _ _ _ _ _ _ _ _ _ _ _ _ (mkF K.m 18 #[.val (.ref N), .val (.int (Int32.ofNat i)), .val (.ref x), .val (.int (Int32.ofNat ((ts.take i).flatten.length))), .unset, .unset] [.int (Int32.ofNat cs.length), .int (Int32.ofNat t.length)])
  refine go_icmpne d28_18 (fun c18 => ?_) (fun c18 => ?_)
  · refine go_iconst (x := (0 : Int32)) d28_25 (by decide) ?_
    refine go_istore d28_26 (l' := #[.val (.ref N), .val (.int (Int32.ofNat i)), .val (.ref x), .val (.int (Int32.ofNat ((ts.take i).flatten.length))), .val (.int (0 : Int32)), .unset]) rfl ?_
    refine go_iconst (x := (0 : Int32)) d28_28 (by decide) ?_
    refine go_istore d28_29 (l' := #[.val (.ref N), .val (.int (Int32.ofNat i)), .val (.ref x), .val (.int (Int32.ofNat ((ts.take i).flatten.length))), .val (.int (0 : Int32)), .val (.int (0 : Int32))]) rfl ?_
    refine go_iload d28_31 rfl ?_
    refine go_ifeq d28_33 (fun c1003 => ?_) (fun c1003 => absurd (rfl) c1003)
    refine go_iload d28_76 rfl ?_
    exact go_ireturn (ty := .boolean) (v := (0 : Int32)) d28_78 rfl (by simp) rfl (Or.inr ⟨rfl, fun q => c18 (by rw [q]), rfl⟩)
  · have hl : t.length = cs.length := (ofNat_inj (by omega) (by omega)).mp c18
    refine go_iconst (x := (1 : Int32)) d28_21 (by decide) ?_
    refine go_goto d28_22 ?_
    refine go_istore d28_26 (l' := #[.val (.ref N), .val (.int (Int32.ofNat i)), .val (.ref x), .val (.int (Int32.ofNat ((ts.take i).flatten.length))), .val (.int (1 : Int32)), .unset]) rfl ?_
    refine go_iconst (x := (0 : Int32)) d28_28 (by decide) ?_
    refine go_istore d28_29 (l' := #[.val (.ref N), .val (.int (Int32.ofNat i)), .val (.ref x), .val (.int (Int32.ofNat ((ts.take i).flatten.length))), .val (.int (1 : Int32)), .val (.int (0 : Int32))]) rfl ?_
    have loop : ∀ r j, j + r = cs.length → t.take j = cs.take j → ∀ (S1 : Addr → Prop), Go l Z a0 own_EL ({ frames := 4, cells := 0, slots := 0, locals := 66 } : Room) "com/example/vestledger/vestledger/account/Names" prog_3_method_9_code 6 (some .boolean) "holds" S (fun S' v h' => (v = some (.int (1 : Int32)) ∧ t = cs ∧ h0 = h') ∨ (v = some (.int (0 : Int32)) ∧ t ≠ cs ∧ h0 = h')) K 0 0 S1 h0 (mkF K.m 31 #[.val (.ref N), .val (.int (Int32.ofNat i)), .val (.ref x), .val (.int (Int32.ofNat (ts.take i).flatten.length)), .val (.int (1 : Int32)), .val (.int (Int32.ofNat j))] []) := by
      intro r
      induction r with
      | zero =>
        intro j hj he S1
        refine go_iload d28_31 rfl ?_
        refine go_ifeq d28_33 (fun c1004 => absurd c1004 (by decide)) (fun c1004 => ?_)
        refine go_iload d28_36 rfl ?_
        refine go_aloadN d28_38 rfl rfl ?_
        refine go_virtual (R := ({ frames := 4, cells := 0, slots := 0, locals := 66 } : Room)) (kc := 0) (ks := 0) [] [.int (Int32.ofNat j)] (c_len l Z a0 hw hEL x _ _ _ S1 h0 F.1 zc Oc Pc) F.1.1 (hw _ (List.mem_of_getElem? (i := 95) rfl)) (hw _ (List.mem_of_getElem? (i := 96) rfl)) (hw _ (List.mem_of_getElem? (i := 98) rfl)) (hw _ (List.mem_of_getElem? (i := 97) rfl)) (nfSel (hw _ (List.mem_of_getElem? (i := 98) rfl))) (hw _ (List.mem_of_getElem? (i := 99) rfl)) (hw _ (List.mem_of_getElem? (i := 6) rfl)) (by decide) rfl rfl (lenOf pd10 rfl) d28_39 (by rfl) (by decide) (Nat.le_of_ble_eq_true rfl) (rc := 0) (rs := 0) rfl rfl (fun S1005 v1005 h1005 m1005 z1005 q1005 => ?_)
        obtain ⟨rfl, rfl⟩ := q1005
        show Go _ _ _ _ _ _ _ _ _ _ _ _ _ _ _ _ _ (mkF K.m 42 #[.val (.ref N), .val (.int (Int32.ofNat i)), .val (.ref x), .val (.int (Int32.ofNat (ts.take i).flatten.length)), .val (.int (1 : Int32)), .val (.int (Int32.ofNat j))] [.int (Int32.ofNat cs.length), .int (Int32.ofNat j)])
        refine go_icmpge d28_42 (fun c1006 => ?_) (fun c1006 => absurd c1006 (ofNat_nlt (by omega) (by omega)))
        refine go_iload d28_76 rfl ?_
        exact go_ireturn (ty := .boolean) (v := (1 : Int32)) d28_78 rfl (by simp) rfl (Or.inl ⟨rfl, by rw [show j = cs.length by omega, List.take_length, ← hl, List.take_length] at he; exact he, rfl⟩)
      | succ r ih =>
        intro j hj he S1
        obtain ⟨c, hc⟩ : ∃ c, cs[j]? = some c := ⟨_, List.getElem?_eq_getElem (by omega)⟩
        obtain ⟨d, hd⟩ : ∃ d, t[j]? = some d := ⟨_, List.getElem?_eq_getElem (by omega)⟩
        refine go_iload d28_31 rfl ?_
        refine go_ifeq d28_33 (fun c1007 => absurd c1007 (by decide)) (fun c1007 => ?_)
        refine go_iload d28_36 rfl ?_
        refine go_aloadN d28_38 rfl rfl ?_
        refine go_virtual (R := ({ frames := 4, cells := 0, slots := 0, locals := 66 } : Room)) (kc := 0) (ks := 0) [] [.int (Int32.ofNat j)] (c_len l Z a0 hw hEL x _ _ _ S1 h0 F.1 zc Oc Pc) F.1.1 (hw _ (List.mem_of_getElem? (i := 95) rfl)) (hw _ (List.mem_of_getElem? (i := 96) rfl)) (hw _ (List.mem_of_getElem? (i := 98) rfl)) (hw _ (List.mem_of_getElem? (i := 97) rfl)) (nfSel (hw _ (List.mem_of_getElem? (i := 98) rfl))) (hw _ (List.mem_of_getElem? (i := 99) rfl)) (hw _ (List.mem_of_getElem? (i := 6) rfl)) (by decide) rfl rfl (lenOf pd10 rfl) d28_39 (by rfl) (by decide) (Nat.le_of_ble_eq_true rfl) (rc := 0) (rs := 0) rfl rfl (fun S1008 v1008 h1008 m1008 z1008 q1008 => ?_)
        obtain ⟨rfl, rfl⟩ := q1008
        show Go _ _ _ _ _ _ _ _ _ _ _ _ _ _ _ _ _ (mkF K.m 42 #[.val (.ref N), .val (.int (Int32.ofNat i)), .val (.ref x), .val (.int (Int32.ofNat (ts.take i).flatten.length)), .val (.int (1 : Int32)), .val (.int (Int32.ofNat j))] [.int (Int32.ofNat cs.length), .int (Int32.ofNat j)])
        refine go_icmpge d28_42 (fun c1009 => absurd (ofNat_lt (by omega) (by omega)) c1009) (fun c1009 => ?_)
        refine go_aloadN d28_45 rfl rfl ?_
        refine go_getf (hw _ (List.mem_of_getElem? (i := 33) rfl)) Via.refl Hc d28_46 ?_
        refine go_iloadN d28_49 rfl ?_
        refine go_iload d28_50 rfl ?_
        refine go_iadd (v := (Int32.ofNat ((ts.take i).flatten.length + j))) d28_52 (ofNat_add _ _) ?_
        refine go_caload (x := d) Ac (i := ((ts.take i).flatten.length + j)) rfl (I.chars ht hd) d28_53 ?_
        refine go_aloadN d28_54 rfl rfl ?_
        refine go_iload d28_55 rfl ?_
        refine go_virtual (R := ({ frames := 4, cells := 0, slots := 0, locals := 66 } : Room)) (kc := 0) (ks := 0) [.int (Int32.ofNat j)] [.int d] (c_chat l Z a0 hw hEL x _ _ _ S1008 h0 F.1 j c hc zc Oc Pc sf rsf Os rfl) F.1.1 (hw _ (List.mem_of_getElem? (i := 170) rfl)) (hw _ (List.mem_of_getElem? (i := 171) rfl)) (hw _ (List.mem_of_getElem? (i := 173) rfl)) (hw _ (List.mem_of_getElem? (i := 172) rfl)) (nfSel (hw _ (List.mem_of_getElem? (i := 173) rfl))) (hw _ (List.mem_of_getElem? (i := 174) rfl)) (hw _ (List.mem_of_getElem? (i := 6) rfl)) (by decide) rfl rfl (lenOf pd20 rfl) d28_57 (by rfl) (by decide) (Nat.le_of_ble_eq_true rfl) (rc := 0) (rs := 0) rfl rfl (fun S1010 v1010 h1010 m1010 z1010 q1010 => ?_)
        obtain ⟨rfl, rfl⟩ := q1010
        show Go _ _ _ _ _ _ _ _ _ _ _ _ _ _ _ _ _ (mkF K.m 60 #[.val (.ref N), .val (.int (Int32.ofNat i)), .val (.ref x), .val (.int (Int32.ofNat (ts.take i).flatten.length)), .val (.int (1 : Int32)), .val (.int (Int32.ofNat j))] [.int c, .int d])
        refine go_icmpne d28_60 (fun c60 => ?_) (fun c60 => ?_)
        · refine go_iconst (x := (0 : Int32)) d28_67 (by decide) ?_
          refine go_istore d28_68 (l' := #[.val (.ref N), .val (.int (Int32.ofNat i)), .val (.ref x), .val (.int (Int32.ofNat (ts.take i).flatten.length)), .val (.int (0 : Int32)), .val (.int (Int32.ofNat j))]) rfl ?_
          refine go_iinc d28_70 rfl (v := (Int32.ofNat (j + 1))) (ofNat_inc j) (l' := #[.val (.ref N), .val (.int (Int32.ofNat i)), .val (.ref x), .val (.int (Int32.ofNat (ts.take i).flatten.length)), .val (.int (0 : Int32)), .val (.int (Int32.ofNat (j + 1)))]) rfl ?_
          refine go_goto d28_73 ?_
          refine go_iload d28_31 rfl ?_
          refine go_ifeq d28_33 (fun c1011 => ?_) (fun c1011 => absurd (rfl) c1011)
          refine go_iload d28_76 rfl ?_
          exact go_ireturn (ty := .boolean) (v := (0 : Int32)) d28_78 rfl (by simp) rfl (Or.inr ⟨rfl, fun e => c60 (by rw [e, hc] at hd; exact (Option.some.inj hd).symm), rfl⟩)
        · refine go_iconst (x := (1 : Int32)) d28_63 (by decide) ?_
          refine go_goto d28_64 ?_
          refine go_istore d28_68 (l' := #[.val (.ref N), .val (.int (Int32.ofNat i)), .val (.ref x), .val (.int (Int32.ofNat (ts.take i).flatten.length)), .val (.int (1 : Int32)), .val (.int (Int32.ofNat j))]) rfl ?_
          refine go_iinc d28_70 rfl (v := (Int32.ofNat (j + 1))) (ofNat_inc j) (l' := #[.val (.ref N), .val (.int (Int32.ofNat i)), .val (.ref x), .val (.int (Int32.ofNat (ts.take i).flatten.length)), .val (.int (1 : Int32)), .val (.int (Int32.ofNat (j + 1)))]) rfl ?_
          refine go_goto d28_73 ?_
          exact ih (j + 1) (by omega) (by rw [List.take_add_one, List.take_add_one, hc, hd, he, c60]) S1010
    exact loop cs.length 0 (by omega) rfl S1002
theorem own_next {ts : List (List Int32)} {chs es hs tb : List Int32} {sl : List Nat} (I : NI ts chs es hs tb sl) {cs : List Int32} {s d i0 : Nat} (hp : ∀ d', d' < d → (s + d') % 32 ∈ sl ∧ ∀ i : Nat, sl[i]? = some ((s + d') % 32) → ts[i]? ≠ some cs) (s1 : (s + d) % 32 ∈ sl) (s3 : sl[i0]? = some ((s + d) % 32)) (hno : ts[i0]? ≠ some cs) :
    ∀ d', d' < d + 1 → (s + d') % 32 ∈ sl ∧ ∀ i : Nat, sl[i]? = some ((s + d') % 32) → ts[i]? ≠ some cs := by
  intro d' hd'
  rcases Nat.lt_or_ge d' d with q | q
  · exact hp d' q
  · obtain rfl : d' = d := by omega
    refine ⟨s1, fun i hi => ?_⟩
    have e1 := (I.s1 i _ hi).2
    have e2 := (I.s1 i0 _ s3).2
    have hi1 := (List.getElem?_eq_some_iff.mp hi).1
    have hi2 := (List.getElem?_eq_some_iff.mp s3).1
    have l5 := I.l5
    have n3 := I.n
    have := (ofNat_inj (by omega) (by omega)).mp (Option.some.inj (e1.symm.trans e2))
    obtain rfl : i = i0 := by omega
    exact hno
theorem d29_0 : Dec prog_3_method_5_code 0 (.aload_n 1) 1 1 := ⟨by decide +kernel, rfl⟩
theorem d29_1 : Dec prog_3_method_5_code 1 (.invokevirtual 50) 3 4 := ⟨by decide +kernel, rfl⟩
theorem d29_4 : Dec prog_3_method_5_code 4 (.invokestatic 54) 3 7 := ⟨by decide +kernel, rfl⟩
theorem d29_7 : Dec prog_3_method_5_code 7 (.istore_n 2) 1 8 := ⟨by decide +kernel, rfl⟩
theorem d29_8 : Dec prog_3_method_5_code 8 (.iload_n 2) 1 9 := ⟨by decide +kernel, rfl⟩
theorem d29_9 : Dec prog_3_method_5_code 9 (.aload_n 0) 1 10 := ⟨by decide +kernel, rfl⟩
theorem d29_10 : Dec prog_3_method_5_code 10 (.getfield 20) 3 13 := ⟨by decide +kernel, rfl⟩
theorem d29_13 : Dec prog_3_method_5_code 13 (.arraylength) 1 14 := ⟨by decide +kernel, rfl⟩
theorem d29_14 : Dec prog_3_method_5_code 14 (.iconst 1) 1 15 := ⟨by decide +kernel, rfl⟩
theorem d29_15 : Dec prog_3_method_5_code 15 (.isub) 1 16 := ⟨by decide +kernel, rfl⟩
theorem d29_16 : Dec prog_3_method_5_code 16 (.iand) 1 17 := ⟨by decide +kernel, rfl⟩
theorem d29_17 : Dec prog_3_method_5_code 17 (.istore_n 3) 1 18 := ⟨by decide +kernel, rfl⟩
theorem d29_18 : Dec prog_3_method_5_code 18 (.aload_n 0) 1 19 := ⟨by decide +kernel, rfl⟩
theorem d29_19 : Dec prog_3_method_5_code 19 (.getfield 20) 3 22 := ⟨by decide +kernel, rfl⟩
theorem d29_22 : Dec prog_3_method_5_code 22 (.iload_n 3) 1 23 := ⟨by decide +kernel, rfl⟩
theorem d29_23 : Dec prog_3_method_5_code 23 (.iaload) 1 24 := ⟨by decide +kernel, rfl⟩
theorem d29_24 : Dec prog_3_method_5_code 24 (.iconst 1) 1 25 := ⟨by decide +kernel, rfl⟩
theorem d29_25 : Dec prog_3_method_5_code 25 (.isub) 1 26 := ⟨by decide +kernel, rfl⟩
theorem d29_26 : Dec prog_3_method_5_code 26 (.istore 4) 2 28 := ⟨by decide +kernel, rfl⟩
theorem d29_28 : Dec prog_3_method_5_code 28 (.iload 4) 2 30 := ⟨by decide +kernel, rfl⟩
theorem d29_30 : Brn prog_3_method_5_code 30 (.ifCond .lt 49) 49 33 79 := ⟨by decide +kernel, rfl, by decide, by decide⟩
theorem d29_79 : Dec prog_3_method_5_code 79 (.iload 4) 2 81 := ⟨by decide +kernel, rfl⟩
theorem d29_81 : Dec prog_3_method_5_code 81 (.ireturn) 1 82 := ⟨by decide +kernel, rfl⟩
theorem d29_33 : Dec prog_3_method_5_code 33 (.aload_n 0) 1 34 := ⟨by decide +kernel, rfl⟩
theorem d29_34 : Dec prog_3_method_5_code 34 (.getfield 17) 3 37 := ⟨by decide +kernel, rfl⟩
theorem d29_37 : Dec prog_3_method_5_code 37 (.iload 4) 2 39 := ⟨by decide +kernel, rfl⟩
theorem d29_39 : Dec prog_3_method_5_code 39 (.iaload) 1 40 := ⟨by decide +kernel, rfl⟩
theorem d29_40 : Dec prog_3_method_5_code 40 (.iload_n 2) 1 41 := ⟨by decide +kernel, rfl⟩
theorem d29_41 : Brn prog_3_method_5_code 41 (.if_icmp .ne 13) 13 44 54 := ⟨by decide +kernel, rfl, by decide, by decide⟩
theorem d29_54 : Dec prog_3_method_5_code 54 (.iload_n 3) 1 55 := ⟨by decide +kernel, rfl⟩
theorem d29_55 : Dec prog_3_method_5_code 55 (.iconst 1) 1 56 := ⟨by decide +kernel, rfl⟩
theorem d29_56 : Dec prog_3_method_5_code 56 (.iadd) 1 57 := ⟨by decide +kernel, rfl⟩
theorem d29_57 : Dec prog_3_method_5_code 57 (.aload_n 0) 1 58 := ⟨by decide +kernel, rfl⟩
theorem d29_58 : Dec prog_3_method_5_code 58 (.getfield 20) 3 61 := ⟨by decide +kernel, rfl⟩
theorem d29_61 : Dec prog_3_method_5_code 61 (.arraylength) 1 62 := ⟨by decide +kernel, rfl⟩
theorem d29_62 : Dec prog_3_method_5_code 62 (.iconst 1) 1 63 := ⟨by decide +kernel, rfl⟩
theorem d29_63 : Dec prog_3_method_5_code 63 (.isub) 1 64 := ⟨by decide +kernel, rfl⟩
theorem d29_64 : Dec prog_3_method_5_code 64 (.iand) 1 65 := ⟨by decide +kernel, rfl⟩
theorem d29_65 : Dec prog_3_method_5_code 65 (.istore_n 3) 1 66 := ⟨by decide +kernel, rfl⟩
theorem d29_66 : Dec prog_3_method_5_code 66 (.aload_n 0) 1 67 := ⟨by decide +kernel, rfl⟩
theorem d29_67 : Dec prog_3_method_5_code 67 (.getfield 20) 3 70 := ⟨by decide +kernel, rfl⟩
theorem d29_70 : Dec prog_3_method_5_code 70 (.iload_n 3) 1 71 := ⟨by decide +kernel, rfl⟩
theorem d29_71 : Dec prog_3_method_5_code 71 (.iaload) 1 72 := ⟨by decide +kernel, rfl⟩
theorem d29_72 : Dec prog_3_method_5_code 72 (.iconst 1) 1 73 := ⟨by decide +kernel, rfl⟩
theorem d29_73 : Dec prog_3_method_5_code 73 (.isub) 1 74 := ⟨by decide +kernel, rfl⟩
theorem d29_74 : Dec prog_3_method_5_code 74 (.istore 4) 2 76 := ⟨by decide +kernel, rfl⟩
theorem d29_76 : Brn prog_3_method_5_code 76 (.goto (-48)) (-48) 79 28 := ⟨by decide +kernel, rfl, by decide, by decide⟩
theorem d29_44 : Dec prog_3_method_5_code 44 (.aload_n 0) 1 45 := ⟨by decide +kernel, rfl⟩
theorem d29_45 : Dec prog_3_method_5_code 45 (.iload 4) 2 47 := ⟨by decide +kernel, rfl⟩
theorem d29_47 : Dec prog_3_method_5_code 47 (.aload_n 1) 1 48 := ⟨by decide +kernel, rfl⟩
theorem d29_48 : Dec prog_3_method_5_code 48 (.invokevirtual 57) 3 51 := ⟨by decide +kernel, rfl⟩
theorem pd21 : parseMethodDescriptor "(ILjava/lang/String;)Z" = some ⟨[.int, (.object "java/lang/String")], some .boolean⟩ := by decide +kernel
theorem d29_51 : Brn prog_3_method_5_code 51 (.ifCond .ne 28) 28 54 79 := ⟨by decide +kernel, rfl, by decide, by decide⟩
set_option maxRecDepth 65536 in
set_option maxHeartbeats 40000000 in
theorem c_find (l : Launch) (Z : State) (a0 : Array Value) (hw : ∀ d ∈ tables_1, d.before a0 Z = true) (hEL : EW Z a0 own_EL) (N ca ea ha ta : Addr) (ts : List (List Int32)) (chs es hs tb : List Int32) (sl : List Nat) (x : Addr) (cs : List Int32) (b : Addr) (S : Addr → Prop) (h0 : Heap) (hz : Z.heap.size ≤ h0.size) (I : NI ts chs es hs tb sl) (H : NH Z h0 N ca ea ha ta chs es hs tb ts.length) (F : LS Z h0 x cs b) (gx : Z.heap.size ≤ x) (sx : S x) (nx : N ≠ x) (zc : Int32) (Oc : Sta Z Z.heap "java/lang/String" "COMPACT_STRINGS" "Z" (.int zc)) (Pc : ¬ zc = 0) (sf : Value) (rsf : sf.isRef = true) (Os : Sta Z Z.heap "jdk/internal/util/Preconditions" "SIOOBE_FORMATTER" "Ljava/util/function/BiFunction;" sf) :
    Con l Z own_EL [] (⟨"com/example/vestledger/vestledger/account/Names", "find", "(Ljava/lang/String;)I"⟩ : MethodName) prog_3_method_5_code 5 (some .int) ({ frames := 5, cells := 0, slots := 0, locals := 90 } : Room) #[.ref N, .ref x] S h0 (fun S' v h' => ((∃ i, v = some (.int (Int32.ofNat i)) ∧ ts[i]? = some cs) ∨ (v = some (.int (-1 : Int32)) ∧ ∀ i : Nat, ts[i]? ≠ some cs)) ∧ Keep h0 h' [x] ∧ LS Z h' x cs b) := by
  refine con_of_go (ls := #[.val (.ref N), .val (.ref x), .unset, .unset, .unset]) (plainFor_of_name pn4) hEL (fun m => by first | rfl | (simp [entryFrame, mkF, argsToLocals, cat_int, cat_ref, cat_null, cat_long]; done)) (fun K => ?_)
  show Go _ _ _ _ _ _ _ _ _ _ _ _ _ 0 0 _ _ _
  have HH := H
  obtain ⟨HE, Hc, He, Hh, Ht, Hs, Ac, Ae, Ah, At, n1, n2, n3, gN, gc, ge, gh, gt⟩ := HH
  have I1 := I.l1
  have I2 := I.l2
  have I3 := I.l3
  have I4 := I.l4
  have I5 := I.n
  have lN := lt_nat HE.lt
  have lca := lt_nat Ac.lt
  have lea := lt_nat Ae.lt
  have lha := lt_nat Ah.lt
  have lta := lt_nat At.lt
  have ncaN : ca ≠ N := Ac.ne_exa HE (hw _ (List.mem_of_getElem? (i := 27) rfl))
  have neaN : ea ≠ N := Ae.ne_exa HE (hw _ (List.mem_of_getElem? (i := 27) rfl))
  have ncaea : ca ≠ ea := Ac.ne_ty Ae (by decide)
  have nhaN : ha ≠ N := Ah.ne_exa HE (hw _ (List.mem_of_getElem? (i := 27) rfl))
  have ncaha : ca ≠ ha := Ac.ne_ty Ah (by decide)
  have ntaN : ta ≠ N := At.ne_exa HE (hw _ (List.mem_of_getElem? (i := 27) rfl))
  have ncata : ca ≠ ta := Ac.ne_ty At (by decide)
  have ncax : ca ≠ x := Ac.ne_exa F.1.1 (hw _ (List.mem_of_getElem? (i := 5) rfl))
  have neax : ea ≠ x := Ae.ne_exa F.1.1 (hw _ (List.mem_of_getElem? (i := 5) rfl))
  have nhax : ha ≠ x := Ah.ne_exa F.1.1 (hw _ (List.mem_of_getElem? (i := 5) rfl))
  have ntax : ta ≠ x := At.ne_exa F.1.1 (hw _ (List.mem_of_getElem? (i := 5) rfl))
  have nbx : b ≠ x := F.bytes.ne_exa F.1.1 (hw _ (List.mem_of_getElem? (i := 5) rfl))
  have nbN : b ≠ N := F.bytes.ne_exa HE (hw _ (List.mem_of_getElem? (i := 27) rfl))
  have nbca : b ≠ ca := F.bytes.ne_ty Ac (by decide)
  have nbea : b ≠ ea := F.bytes.ne_ty Ae (by decide)
  have nbha : b ≠ ha := F.bytes.ne_ty Ah (by decide)
  have nbta : b ≠ ta := F.bytes.ne_ty At (by decide)
  have lx := lt_nat F.1.lx
  have lb := lt_nat F.1.lb
  have h3 := F.2.2.2
  refine go_aloadN d29_0 rfl rfl ?_
  refine go_virtual (R := ({ frames := 5, cells := 0, slots := 0, locals := 90 } : Room)) (kc := 0) (ks := 0) [] [] (c_hc l Z a0 hw hEL x _ _ S h0 F (by omega) sx zc Oc Pc) F.1.1 (hw _ (List.mem_of_getElem? (i := 47) rfl)) (hw _ (List.mem_of_getElem? (i := 48) rfl)) (hw _ (List.mem_of_getElem? (i := 50) rfl)) (hw _ (List.mem_of_getElem? (i := 49) rfl)) (nfSel (hw _ (List.mem_of_getElem? (i := 50) rfl))) (hw _ (List.mem_of_getElem? (i := 51) rfl)) (hw _ (List.mem_of_getElem? (i := 6) rfl)) (by decide) rfl rfl (lenOf pd10 rfl) d29_1 (by rfl) (by decide) (Nat.le_of_ble_eq_true rfl) (rc := 0) (rs := 0) rfl rfl (fun S1001 v1001 h1001 m1001 z1001 q1001 => ?_)
  obtain ⟨rfl, K1001, F1001⟩ := q1001
  have z1001 := K1001.1
  show Go _ _ _ _ _ _ _ _ _ _ _ _ _ _ _ _ _ (mkF K.m 4 #[.val (.ref N), .val (.ref x), .unset, .unset, .unset] [.int (hcS cs)])
  refine go_static (R := ({ frames := 5, cells := 0, slots := 0, locals := 90 } : Room)) (kc := 0) (ks := 0) [.int (hcS cs)] [] (c_spr l Z a0 hw hEL (hcS cs) S1001 h1001) (hw _ (List.mem_of_getElem? (i := 66) rfl)) (hw _ (List.mem_of_getElem? (i := 67) rfl)) (hw _ (List.mem_of_getElem? (i := 68) rfl)) (hw _ (List.mem_of_getElem? (i := 28) rfl)) (by decide) rfl rfl (lenOf pd19 rfl) d29_4 (by rfl) (by decide) (Nat.le_of_ble_eq_true rfl) (rc := 0) (rs := 0) rfl rfl (fun S1002 v1002 h1002 m1002 z1002 q1002 => ?_)
  obtain ⟨rfl, rfl⟩ := q1002
  show Go _ _ _ _ _ _ _ _ _ _ _ _ _ _ _ _ _ (mkF K.m 7 #[.val (.ref N), .val (.ref x), .unset, .unset, .unset] [.int (spr (hcS cs))])
  refine go_istoreN d29_7 (l' := #[.val (.ref N), .val (.ref x), .val (.int (spr (hcS cs))), .unset, .unset]) rfl ?_
  refine go_iloadN d29_8 rfl ?_
  refine go_aloadN d29_9 rfl rfl ?_
  have f1003 := (Ht.keep K1001 (ninS nx nin0))
  refine go_getf (hw _ (List.mem_of_getElem? (i := 40) rfl)) Via.refl f1003 d29_10 ?_
  have f1004 := (At.keep K1001 (ninS ntax nin0))
  refine go_alen f1004 d29_13 (v := (32 : Int32)) (by rw [I4]; rfl) ?_
  refine go_iconst (x := (1 : Int32)) d29_14 (by decide) ?_
  refine go_isub (v := (31 : Int32)) d29_15 (by decide) ?_
  refine go_iand (v := (Int32.ofNat ((stt cs + 0) % 32))) d29_16 (by rw [Nat.add_zero, Nat.mod_eq_of_lt (stt_lt _)]; exact stt_eq cs) ?_
  refine go_istoreN d29_17 (l' := #[.val (.ref N), .val (.ref x), .val (.int (spr (hcS cs))), .val (.int (Int32.ofNat ((stt cs + 0) % 32))), .unset]) rfl ?_
  refine go_aloadN d29_18 rfl rfl ?_
  refine go_getf (hw _ (List.mem_of_getElem? (i := 40) rfl)) Via.refl f1003 d29_19 ?_
  refine go_iloadN d29_22 rfl ?_
  obtain ⟨tv, htv⟩ : ∃ tv, tb[((stt cs + 0) % 32)]? = some tv := ⟨_, List.getElem?_eq_getElem (by rw [I4]; exact Nat.mod_lt _ (by omega))⟩
  refine go_iaload (x := tv) f1004 (i := ((stt cs + 0) % 32)) rfl htv d29_23 ?_
  refine go_iconst (x := (1 : Int32)) d29_24 (by decide) ?_
  refine go_isub d29_25 rfl ?_
  refine go_istore d29_26 (l' := #[.val (.ref N), .val (.ref x), .val (.int (spr (hcS cs))), .val (.int (Int32.ofNat ((stt cs + 0) % 32))), .val (.int (tv - (1 : Int32)))]) rfl ?_
  have loop : ∀ r d, d + r = 4 → ∀ tv : Int32, tb[((stt cs + d) % 32)]? = some tv → (∀ d', d' < d → (stt cs + d') % 32 ∈ sl ∧ ∀ i : Nat, sl[i]? = some ((stt cs + d') % 32) → ts[i]? ≠ some cs) → ∀ (S1 : Addr → Prop), Go l Z a0 own_EL ({ frames := 5, cells := 0, slots := 0, locals := 90 } : Room) "com/example/vestledger/vestledger/account/Names" prog_3_method_5_code 5 (some .int) "find" S (fun S' v h' => ((∃ i, v = some (.int (Int32.ofNat i)) ∧ ts[i]? = some cs) ∨ (v = some (.int (-1 : Int32)) ∧ ∀ i : Nat, ts[i]? ≠ some cs)) ∧ Keep h0 h' [x] ∧ LS Z h' x cs b) K 0 0 S1 h1001 (mkF K.m 28 #[.val (.ref N), .val (.ref x), .val (.int (hsh cs)), .val (.int (Int32.ofNat ((stt cs + d) % 32))), .val (.int (tv - 1))] []) := by
    intro r
    induction r with
    | zero => intro d hd tv htv hp S1; exact (pig (by rw [I.l5]; omega) (fun d' q => (hp d' (by omega)).1)).elim
    | succ r ih =>
      intro d hd tv htv hp S1
      rcases I.slot ((stt cs + d) % 32) (Nat.mod_lt _ (by omega)) with ⟨s1, s2⟩ | ⟨i, t, s1, ht, s3, s2⟩
      · obtain rfl : tv = 0 := Option.some.inj (htv.symm.trans s2)
        show Go _ _ _ _ _ _ _ _ _ _ _ _ _ _ _ _ _ (mkF K.m 28 #[.val (.ref N), .val (.ref x), .val (.int (hsh cs)), .val (.int (Int32.ofNat ((stt cs + d) % 32))), .val (.int (-1 : Int32))] [])
        refine go_iload d29_28 rfl ?_
        refine go_iflt d29_30 (fun c1005 => ?_) (fun c1005 => absurd (by decide) c1005)
        refine go_iload d29_79 rfl ?_
        exact go_ireturn (ty := .int) (v := (-1 : Int32)) d29_81 rfl (by simp) rfl ⟨Or.inr ⟨rfl, fun i ht => I.held ht s1 (fun d' q r => (hp d' q).2 i r ht)⟩, ((Keep.refl h0 [x]).trans K1001 (allS (Or.inl (by simp)) all0)), F1001⟩
      · obtain rfl : tv = Int32.ofNat (i + 1) := Option.some.inj (htv.symm.trans s2)
        have hi := (List.getElem?_eq_some_iff.mp ht).1
        rw [ofNat_dec1]
        refine go_iload d29_28 rfl ?_
        refine go_iflt d29_30 (fun c1006 => absurd c1006 (ofNat_nlt (n := 0) (by omega) (by omega))) (fun c1006 => ?_)
        refine go_aloadN d29_33 rfl rfl ?_
        have f1007 := (Hh.keep K1001 (ninS nx nin0))
        refine go_getf (hw _ (List.mem_of_getElem? (i := 38) rfl)) Via.refl f1007 d29_34 ?_
        refine go_iload d29_37 rfl ?_
        have f1008 := (Ah.keep K1001 (ninS nhax nin0))
        refine go_iaload (x := (hsh t)) f1008 (i := i) rfl (I.h i t ht) d29_39 ?_
        refine go_iloadN d29_40 rfl ?_
        refine go_icmpne d29_41 (fun c41 => ?_) (fun c41 => ?_)
        · have hno : ts[i]? ≠ some cs := fun z => (fun e : t = cs => c41 (by rw [e])) (by rw [ht] at z; exact Option.some.inj z)
          have hp2 : ∀ d', d' < d + 1 → (stt cs + d') % 32 ∈ sl ∧ ∀ i : Nat, sl[i]? = some ((stt cs + d') % 32) → ts[i]? ≠ some cs := own_next I hp s1 s3 hno
          refine go_iloadN d29_54 rfl ?_
          refine go_iconst (x := (1 : Int32)) d29_55 (by decide) ?_
          refine go_iadd d29_56 rfl ?_
          refine go_aloadN d29_57 rfl rfl ?_
          refine go_getf (hw _ (List.mem_of_getElem? (i := 40) rfl)) Via.refl f1003 d29_58 ?_
          refine go_alen f1004 d29_61 (v := (32 : Int32)) (by rw [I4]; rfl) ?_
          refine go_iconst (x := (1 : Int32)) d29_62 (by decide) ?_
          refine go_isub (v := (31 : Int32)) d29_63 (by decide) ?_
          refine go_iand (v := (Int32.ofNat ((stt cs + (d + 1)) % 32))) d29_64 (by rw [show (stt cs + (d + 1)) % 32 = ((stt cs + d) % 32 + 1) % 32 by omega]; exact nxt_eq _ (Nat.mod_lt _ (by omega))) ?_
          refine go_istoreN d29_65 (l' := #[.val (.ref N), .val (.ref x), .val (.int (hsh cs)), .val (.int (Int32.ofNat ((stt cs + (d + 1)) % 32))), .val (.int (Int32.ofNat i))]) rfl ?_
          refine go_aloadN d29_66 rfl rfl ?_
          refine go_getf (hw _ (List.mem_of_getElem? (i := 40) rfl)) Via.refl f1003 d29_67 ?_
          refine go_iloadN d29_70 rfl ?_
          obtain ⟨tv2, htv2⟩ : ∃ tv, tb[((stt cs + (d + 1)) % 32)]? = some tv := ⟨_, List.getElem?_eq_getElem (by rw [I4]; exact Nat.mod_lt _ (by omega))⟩
          refine go_iaload (x := tv2) f1004 (i := ((stt cs + (d + 1)) % 32)) rfl htv2 d29_71 ?_
          refine go_iconst (x := (1 : Int32)) d29_72 (by decide) ?_
          refine go_isub d29_73 rfl ?_
          refine go_istore d29_74 (l' := #[.val (.ref N), .val (.ref x), .val (.int (hsh cs)), .val (.int (Int32.ofNat ((stt cs + (d + 1)) % 32))), .val (.int (tv2 - (1 : Int32)))]) rfl ?_
          refine go_goto d29_76 ?_
          exact ih (d + 1) (by omega) tv2 htv2 hp2 S1
        · refine go_aloadN d29_44 rfl rfl ?_
          refine go_iload d29_45 rfl ?_
          refine go_aloadN d29_47 rfl rfl ?_
          have f1009 := (HE.keep K1001)
          have f1010 := (Hc.keep K1001 (ninS nx nin0))
          have f1011 := (He.keep K1001 (ninS nx nin0))
          have f1012 := (Hs.keep K1001 (ninS nx nin0))
          have f1013 := (Ac.keep K1001 (ninS ncax nin0))
          have f1014 := (Ae.keep K1001 (ninS neax nin0))
          refine go_private (R := ({ frames := 5, cells := 0, slots := 0, locals := 90 } : Room)) (kc := 0) (ks := 0) [.int (Int32.ofNat i), .ref x] [] (c_hold l Z a0 hw hEL N ca ea ha ta ts chs es hs tb sl x cs b S1 h1001 I ⟨f1009, f1010, f1011, f1007, f1003, f1012, f1013, f1014, f1008, f1004, n1, n2, n3, gN, gc, ge, gh, gt⟩ F1001 nx i t ht zc Oc Pc sf rsf Os) f1009 (hw _ (List.mem_of_getElem? (i := 135) rfl)) (hw _ (List.mem_of_getElem? (i := 136) rfl)) (hw _ (List.mem_of_getElem? (i := 137) rfl)) (hw _ (List.mem_of_getElem? (i := 45) rfl)) rfl (hw _ (List.mem_of_getElem? (i := 138) rfl)) (hw _ (List.mem_of_getElem? (i := 28) rfl)) (by decide) rfl rfl (lenOf pd21 rfl) d29_48 (by rfl) (by decide) (Nat.le_of_ble_eq_true rfl) (rc := 0) (rs := 0) rfl rfl (fun S1015 v1015 h1015 m1015 z1015 q1015 => ?_)
          rcases q1015 with ⟨rfl, e1015, rfl⟩ | ⟨rfl, e1015, rfl⟩
          · show Go _ _ _ _ _ _ _ _ _ _ _ _ _ _ _ _ _ (mkF K.m 51 #[.val (.ref N), .val (.ref x), .val (.int (hsh cs)), .val (.int (Int32.ofNat ((stt cs + d) % 32))), .val (.int (Int32.ofNat i))] [.int (1 : Int32)])
            refine go_ifne d29_51 (fun c1016 => ?_) (fun c1016 => absurd c1016 (by decide))
            refine go_iload d29_79 rfl ?_
            exact go_ireturn (ty := .int) (v := (Int32.ofNat i)) d29_81 rfl (by simp) rfl ⟨Or.inl ⟨i, rfl, by rw [ht, e1015]⟩, ((Keep.refl h0 [x]).trans K1001 (allS (Or.inl (by simp)) all0)), F1001⟩
          · show Go _ _ _ _ _ _ _ _ _ _ _ _ _ _ _ _ _ (mkF K.m 51 #[.val (.ref N), .val (.ref x), .val (.int (hsh cs)), .val (.int (Int32.ofNat ((stt cs + d) % 32))), .val (.int (Int32.ofNat i))] [.int (0 : Int32)])
            refine go_ifne d29_51 (fun c1017 => absurd (rfl) c1017) (fun c1017 => ?_)
            have hno : ts[i]? ≠ some cs := fun z => e1015 (by rw [ht] at z; exact Option.some.inj z)
            have hp2 : ∀ d', d' < d + 1 → (stt cs + d') % 32 ∈ sl ∧ ∀ i : Nat, sl[i]? = some ((stt cs + d') % 32) → ts[i]? ≠ some cs := own_next I hp s1 s3 hno
            refine go_iloadN d29_54 rfl ?_
            refine go_iconst (x := (1 : Int32)) d29_55 (by decide) ?_
            refine go_iadd d29_56 rfl ?_
            refine go_aloadN d29_57 rfl rfl ?_
            refine go_getf (hw _ (List.mem_of_getElem? (i := 40) rfl)) Via.refl f1003 d29_58 ?_
            refine go_alen f1004 d29_61 (v := (32 : Int32)) (by rw [I4]; rfl) ?_
            refine go_iconst (x := (1 : Int32)) d29_62 (by decide) ?_
            refine go_isub (v := (31 : Int32)) d29_63 (by decide) ?_
            refine go_iand (v := (Int32.ofNat ((stt cs + (d + 1)) % 32))) d29_64 (by rw [show (stt cs + (d + 1)) % 32 = ((stt cs + d) % 32 + 1) % 32 by omega]; exact nxt_eq _ (Nat.mod_lt _ (by omega))) ?_
            refine go_istoreN d29_65 (l' := #[.val (.ref N), .val (.ref x), .val (.int (hsh cs)), .val (.int (Int32.ofNat ((stt cs + (d + 1)) % 32))), .val (.int (Int32.ofNat i))]) rfl ?_
            refine go_aloadN d29_66 rfl rfl ?_
            refine go_getf (hw _ (List.mem_of_getElem? (i := 40) rfl)) Via.refl f1003 d29_67 ?_
            refine go_iloadN d29_70 rfl ?_
            obtain ⟨tv2, htv2⟩ : ∃ tv, tb[((stt cs + (d + 1)) % 32)]? = some tv := ⟨_, List.getElem?_eq_getElem (by rw [I4]; exact Nat.mod_lt _ (by omega))⟩
            refine go_iaload (x := tv2) f1004 (i := ((stt cs + (d + 1)) % 32)) rfl htv2 d29_71 ?_
            refine go_iconst (x := (1 : Int32)) d29_72 (by decide) ?_
            refine go_isub d29_73 rfl ?_
            refine go_istore d29_74 (l' := #[.val (.ref N), .val (.ref x), .val (.int (hsh cs)), .val (.int (Int32.ofNat ((stt cs + (d + 1)) % 32))), .val (.int (tv2 - (1 : Int32)))]) rfl ?_
            refine go_goto d29_76 ?_
            exact ih (d + 1) (by omega) tv2 htv2 hp2 S1015
  exact loop 4 0 (by omega) tv htv (fun d' q => absurd q (by omega)) S1002
theorem d30_0 : Dec prog_3_method_8_code 0 (.aload_n 0) 1 1 := ⟨by decide +kernel, rfl⟩
theorem d30_1 : Dec prog_3_method_8_code 1 (.getfield 17) 3 4 := ⟨by decide +kernel, rfl⟩
theorem d30_4 : Dec prog_3_method_8_code 4 (.iload_n 1) 1 5 := ⟨by decide +kernel, rfl⟩
theorem d30_5 : Dec prog_3_method_8_code 5 (.iaload) 1 6 := ⟨by decide +kernel, rfl⟩
theorem d30_6 : Dec prog_3_method_8_code 6 (.aload_n 0) 1 7 := ⟨by decide +kernel, rfl⟩
theorem d30_7 : Dec prog_3_method_8_code 7 (.getfield 20) 3 10 := ⟨by decide +kernel, rfl⟩
theorem d30_10 : Dec prog_3_method_8_code 10 (.arraylength) 1 11 := ⟨by decide +kernel, rfl⟩
theorem d30_11 : Dec prog_3_method_8_code 11 (.iconst 1) 1 12 := ⟨by decide +kernel, rfl⟩
theorem d30_12 : Dec prog_3_method_8_code 12 (.isub) 1 13 := ⟨by decide +kernel, rfl⟩
theorem d30_13 : Dec prog_3_method_8_code 13 (.iand) 1 14 := ⟨by decide +kernel, rfl⟩
theorem d30_14 : Dec prog_3_method_8_code 14 (.istore_n 2) 1 15 := ⟨by decide +kernel, rfl⟩
theorem d30_15 : Dec prog_3_method_8_code 15 (.aload_n 0) 1 16 := ⟨by decide +kernel, rfl⟩
theorem d30_16 : Dec prog_3_method_8_code 16 (.getfield 20) 3 19 := ⟨by decide +kernel, rfl⟩
theorem d30_19 : Dec prog_3_method_8_code 19 (.iload_n 2) 1 20 := ⟨by decide +kernel, rfl⟩
theorem d30_20 : Dec prog_3_method_8_code 20 (.iaload) 1 21 := ⟨by decide +kernel, rfl⟩
theorem d30_21 : Brn prog_3_method_8_code 21 (.ifCond .eq 18) 18 24 39 := ⟨by decide +kernel, rfl, by decide, by decide⟩
theorem d30_39 : Dec prog_3_method_8_code 39 (.aload_n 0) 1 40 := ⟨by decide +kernel, rfl⟩
theorem d30_40 : Dec prog_3_method_8_code 40 (.getfield 20) 3 43 := ⟨by decide +kernel, rfl⟩
theorem d30_43 : Dec prog_3_method_8_code 43 (.iload_n 2) 1 44 := ⟨by decide +kernel, rfl⟩
theorem d30_44 : Dec prog_3_method_8_code 44 (.iload_n 1) 1 45 := ⟨by decide +kernel, rfl⟩
theorem d30_45 : Dec prog_3_method_8_code 45 (.iconst 1) 1 46 := ⟨by decide +kernel, rfl⟩
theorem d30_46 : Dec prog_3_method_8_code 46 (.iadd) 1 47 := ⟨by decide +kernel, rfl⟩
theorem d30_47 : Dec prog_3_method_8_code 47 (.iastore) 1 48 := ⟨by decide +kernel, rfl⟩
theorem d30_48 : Dec prog_3_method_8_code 48 (.return_) 1 49 := ⟨by decide +kernel, rfl⟩
theorem d30_24 : Dec prog_3_method_8_code 24 (.iload_n 2) 1 25 := ⟨by decide +kernel, rfl⟩
theorem d30_25 : Dec prog_3_method_8_code 25 (.iconst 1) 1 26 := ⟨by decide +kernel, rfl⟩
theorem d30_26 : Dec prog_3_method_8_code 26 (.iadd) 1 27 := ⟨by decide +kernel, rfl⟩
theorem d30_27 : Dec prog_3_method_8_code 27 (.aload_n 0) 1 28 := ⟨by decide +kernel, rfl⟩
theorem d30_28 : Dec prog_3_method_8_code 28 (.getfield 20) 3 31 := ⟨by decide +kernel, rfl⟩
theorem d30_31 : Dec prog_3_method_8_code 31 (.arraylength) 1 32 := ⟨by decide +kernel, rfl⟩
theorem d30_32 : Dec prog_3_method_8_code 32 (.iconst 1) 1 33 := ⟨by decide +kernel, rfl⟩
theorem d30_33 : Dec prog_3_method_8_code 33 (.isub) 1 34 := ⟨by decide +kernel, rfl⟩
theorem d30_34 : Dec prog_3_method_8_code 34 (.iand) 1 35 := ⟨by decide +kernel, rfl⟩
theorem d30_35 : Dec prog_3_method_8_code 35 (.istore_n 2) 1 36 := ⟨by decide +kernel, rfl⟩
theorem d30_36 : Brn prog_3_method_8_code 36 (.goto (-21)) (-21) 39 15 := ⟨by decide +kernel, rfl, by decide, by decide⟩
set_option maxRecDepth 65536 in
set_option maxHeartbeats 40000000 in
theorem c_ent (l : Launch) (Z : State) (a0 : Array Value) (hw : ∀ d ∈ tables_1, d.before a0 Z = true) (hEL : EW Z a0 own_EL) (N ha ta : Addr) (ts : List (List Int32)) (chs es hs tb : List Int32) (sl : List Nat) (I : NI ts chs es hs tb sl) (n : Nat) (hv : Int32) (hs2 : List Int32) (hn : hs2[n]? = some hv) (S : Addr → Prop) (h0 : Heap) (hz : Z.heap.size ≤ h0.size) (gt : Z.heap.size ≤ ta) (Hh : Fld Z h0 N "com/example/vestledger/vestledger/account/Names" "hashes" "[I" (.ref ha)) (Ht : Fld Z h0 N "com/example/vestledger/vestledger/account/Names" "table" "[I" (.ref ta)) (Ah : AI Z h0 ha .int hs2) (At : AI Z h0 ta .int tb) :
    Con l Z own_EL [] (⟨"com/example/vestledger/vestledger/account/Names", "enter", "(I)V"⟩ : MethodName) prog_3_method_8_code 3 (none : Option FieldType) ({ frames := 0, cells := 0, slots := 0, locals := 0 } : Room) #[.ref N, .int (Int32.ofNat n)] S h0 (fun S' v h' => v = none ∧ ∃ d, (st0 hv + d) % 32 ∉ sl ∧ (∀ d', d' < d → (st0 hv + d') % 32 ∈ sl) ∧ Keep h0 h' [ta] ∧ AI Z h' ta .int (tb.set ((st0 hv + d) % 32) (Int32.ofNat (n + 1)))) := by
  refine con_of_go (ls := #[.val (.ref N), .val (.int (Int32.ofNat n)), .unset]) (plainFor_of_name pn4) hEL (fun m => by first | rfl | (simp [entryFrame, mkF, argsToLocals, cat_int, cat_ref, cat_null, cat_long]; done)) (fun K => ?_)
  show Go _ _ _ _ _ _ _ _ _ _ _ _ _ 0 0 _ _ _
  have I4 := I.l4
  have I5 := I.n
  refine go_aloadN d30_0 rfl rfl ?_
  refine go_getf (hw _ (List.mem_of_getElem? (i := 38) rfl)) Via.refl Hh d30_1 ?_
  refine go_iloadN d30_4 rfl ?_
  refine go_iaload (x := hv) Ah (i := n) rfl hn d30_5 ?_
  refine go_aloadN d30_6 rfl rfl ?_
  refine go_getf (hw _ (List.mem_of_getElem? (i := 40) rfl)) Via.refl Ht d30_7 ?_
  refine go_alen At d30_10 (v := (32 : Int32)) (by rw [I4]; rfl) ?_
  refine go_iconst (x := (1 : Int32)) d30_11 (by decide) ?_
  refine go_isub (v := (31 : Int32)) d30_12 (by decide) ?_
  refine go_iand (v := (Int32.ofNat ((st0 hv + 0) % 32))) d30_13 (by rw [Nat.add_zero, Nat.mod_eq_of_lt (st0_lt _)]; exact st0_eq hv) ?_
  refine go_istoreN d30_14 (l' := #[.val (.ref N), .val (.int (Int32.ofNat n)), .val (.int (Int32.ofNat ((st0 hv + 0) % 32)))]) rfl ?_
  have loop : ∀ r d, d + r = 4 → (∀ d', d' < d → (st0 hv + d') % 32 ∈ sl) → Go l Z a0 own_EL ({ frames := 0, cells := 0, slots := 0, locals := 0 } : Room) "com/example/vestledger/vestledger/account/Names" prog_3_method_8_code 3 (none : Option FieldType) "enter" S (fun S' v h' => v = none ∧ ∃ d, (st0 hv + d) % 32 ∉ sl ∧ (∀ d', d' < d → (st0 hv + d') % 32 ∈ sl) ∧ Keep h0 h' [ta] ∧ AI Z h' ta .int (tb.set ((st0 hv + d) % 32) (Int32.ofNat (n + 1)))) K 0 0 S h0 (mkF K.m 15 #[.val (.ref N), .val (.int (Int32.ofNat n)), .val (.int (Int32.ofNat ((st0 hv + d) % 32)))] []) := by
    intro r
    induction r with
    | zero => intro d hd hp; exact (pig (by rw [I.l5]; omega) (fun d' q => hp d' (by omega))).elim
    | succ r ih =>
      intro d hd hp
      rcases I.slot ((st0 hv + d) % 32) (Nat.mod_lt _ (by omega)) with ⟨s1, s2⟩ | ⟨i, t, s1, ht, s3, s2⟩
      · refine go_aloadN d30_15 rfl rfl ?_
        refine go_getf (hw _ (List.mem_of_getElem? (i := 40) rfl)) Via.refl Ht d30_16 ?_
        refine go_iloadN d30_19 rfl ?_
        refine go_iaload (x := (0 : Int32)) At (i := ((st0 hv + d) % 32)) rfl s2 d30_20 ?_
        refine go_ifeq d30_21 (fun c1001 => ?_) (fun c1001 => absurd (rfl) c1001)
        refine go_aloadN d30_39 rfl rfl ?_
        refine go_getf (hw _ (List.mem_of_getElem? (i := 40) rfl)) Via.refl Ht d30_40 ?_
        refine go_iloadN d30_43 rfl ?_
        refine go_iloadN d30_44 rfl ?_
        refine go_iconst (x := (1 : Int32)) d30_45 (by decide) ?_
        refine go_iadd (v := (Int32.ofNat (n + 1))) d30_46 (ofNat_inc1 n) ?_
        refine go_iastore At (by omega) (i := ((st0 hv + d) % 32)) rfl (by rw [I4]; exact Nat.mod_lt _ (by omega)) d30_47 (fun h1002 K1002 A1002 => ?_)
        have z1002 := K1002.1
        have A1002 : AI Z h1002 ta .int (tb.set ((st0 hv + d) % 32) (Int32.ofNat (n + 1))) := A1002
        exact go_return d30_48 rfl ⟨rfl, d, s1, hp, ((Keep.refl h0 [ta]).trans K1002 (allS (Or.inl (by simp)) all0)), A1002⟩
      · have hi := (List.getElem?_eq_some_iff.mp ht).1
        refine go_aloadN d30_15 rfl rfl ?_
        refine go_getf (hw _ (List.mem_of_getElem? (i := 40) rfl)) Via.refl Ht d30_16 ?_
        refine go_iloadN d30_19 rfl ?_
        refine go_iaload (x := (Int32.ofNat (i + 1))) At (i := ((st0 hv + d) % 32)) rfl s2 d30_20 ?_
        refine go_ifeq d30_21 (fun c1003 => absurd c1003 (fun q => absurd ((ofNat_inj (n := 0) (by omega) (by omega)).mp q) (by omega))) (fun c1003 => ?_)
        refine go_iloadN d30_24 rfl ?_
        refine go_iconst (x := (1 : Int32)) d30_25 (by decide) ?_
        refine go_iadd d30_26 rfl ?_
        refine go_aloadN d30_27 rfl rfl ?_
        refine go_getf (hw _ (List.mem_of_getElem? (i := 40) rfl)) Via.refl Ht d30_28 ?_
        refine go_alen At d30_31 (v := (32 : Int32)) (by rw [I4]; rfl) ?_
        refine go_iconst (x := (1 : Int32)) d30_32 (by decide) ?_
        refine go_isub (v := (31 : Int32)) d30_33 (by decide) ?_
        refine go_iand (v := (Int32.ofNat ((st0 hv + (d + 1)) % 32))) d30_34 (by rw [show (st0 hv + (d + 1)) % 32 = ((st0 hv + d) % 32 + 1) % 32 by omega]; exact nxt_eq _ (Nat.mod_lt _ (by omega))) ?_
        refine go_istoreN d30_35 (l' := #[.val (.ref N), .val (.int (Int32.ofNat n)), .val (.int (Int32.ofNat ((st0 hv + (d + 1)) % 32)))]) rfl ?_
        refine go_goto d30_36 ?_
        refine ih (d + 1) (by omega) (fun d' q => ?_)
        rcases Nat.lt_or_ge d' d with z | z
        · exact hp d' z
        · obtain rfl : d' = d := by omega
          exact s1
  exact loop 4 0 (by omega) (fun d' q => absurd q (by omega))
theorem d31_0 : Dec prog_3_method_7_code 0 (.aload_n 0) 1 1 := ⟨by decide +kernel, rfl⟩
theorem d31_1 : Dec prog_3_method_7_code 1 (.getfield 23) 3 4 := ⟨by decide +kernel, rfl⟩
theorem d31_4 : Dec prog_3_method_7_code 4 (.aload_n 0) 1 5 := ⟨by decide +kernel, rfl⟩
theorem d31_5 : Dec prog_3_method_7_code 5 (.getfield 13) 3 8 := ⟨by decide +kernel, rfl⟩
theorem d31_8 : Dec prog_3_method_7_code 8 (.arraylength) 1 9 := ⟨by decide +kernel, rfl⟩
theorem d31_9 : Brn prog_3_method_7_code 9 (.if_icmp .ne 37) 37 12 46 := ⟨by decide +kernel, rfl, by decide, by decide⟩
theorem d31_46 : Dec prog_3_method_7_code 46 (.aload_n 0) 1 47 := ⟨by decide +kernel, rfl⟩
theorem d31_47 : Dec prog_3_method_7_code 47 (.aload_n 0) 1 48 := ⟨by decide +kernel, rfl⟩
theorem d31_48 : Dec prog_3_method_7_code 48 (.getfield 23) 3 51 := ⟨by decide +kernel, rfl⟩
theorem d31_51 : Dec prog_3_method_7_code 51 (.invokevirtual 27) 3 54 := ⟨by decide +kernel, rfl⟩
theorem d31_54 : Dec prog_3_method_7_code 54 (.istore_n 2) 1 55 := ⟨by decide +kernel, rfl⟩
theorem d31_55 : Dec prog_3_method_7_code 55 (.iload_n 2) 1 56 := ⟨by decide +kernel, rfl⟩
theorem d31_56 : Dec prog_3_method_7_code 56 (.aload_n 1) 1 57 := ⟨by decide +kernel, rfl⟩
theorem d31_57 : Dec prog_3_method_7_code 57 (.invokevirtual 72) 3 60 := ⟨by decide +kernel, rfl⟩
theorem d31_60 : Dec prog_3_method_7_code 60 (.iadd) 1 61 := ⟨by decide +kernel, rfl⟩
theorem d31_61 : Dec prog_3_method_7_code 61 (.aload_n 0) 1 62 := ⟨by decide +kernel, rfl⟩
theorem d31_62 : Dec prog_3_method_7_code 62 (.getfield 7) 3 65 := ⟨by decide +kernel, rfl⟩
theorem d31_65 : Dec prog_3_method_7_code 65 (.arraylength) 1 66 := ⟨by decide +kernel, rfl⟩
theorem d31_66 : Brn prog_3_method_7_code 66 (.if_icmp .le 30) 30 69 96 := ⟨by decide +kernel, rfl, by decide, by decide⟩
theorem d31_96 : Dec prog_3_method_7_code 96 (.aload_n 1) 1 97 := ⟨by decide +kernel, rfl⟩
theorem d31_97 : Dec prog_3_method_7_code 97 (.iconst 0) 1 98 := ⟨by decide +kernel, rfl⟩
theorem d31_98 : Dec prog_3_method_7_code 98 (.aload_n 1) 1 99 := ⟨by decide +kernel, rfl⟩
theorem d31_99 : Dec prog_3_method_7_code 99 (.invokevirtual 72) 3 102 := ⟨by decide +kernel, rfl⟩
theorem d31_102 : Dec prog_3_method_7_code 102 (.aload_n 0) 1 103 := ⟨by decide +kernel, rfl⟩
theorem d31_103 : Dec prog_3_method_7_code 103 (.getfield 7) 3 106 := ⟨by decide +kernel, rfl⟩
theorem d31_106 : Dec prog_3_method_7_code 106 (.iload_n 2) 1 107 := ⟨by decide +kernel, rfl⟩
theorem d31_107 : Dec prog_3_method_7_code 107 (.invokevirtual 84) 3 110 := ⟨by decide +kernel, rfl⟩
theorem pd22 : parseMethodDescriptor "(II[CI)V" = some ⟨[.int, .int, (.array .char), .int], none⟩ := by decide +kernel
theorem d31_110 : Dec prog_3_method_7_code 110 (.aload_n 0) 1 111 := ⟨by decide +kernel, rfl⟩
theorem d31_111 : Dec prog_3_method_7_code 111 (.getfield 13) 3 114 := ⟨by decide +kernel, rfl⟩
theorem d31_114 : Dec prog_3_method_7_code 114 (.aload_n 0) 1 115 := ⟨by decide +kernel, rfl⟩
theorem d31_115 : Dec prog_3_method_7_code 115 (.getfield 23) 3 118 := ⟨by decide +kernel, rfl⟩
theorem d31_118 : Dec prog_3_method_7_code 118 (.iload_n 2) 1 119 := ⟨by decide +kernel, rfl⟩
theorem d31_119 : Dec prog_3_method_7_code 119 (.aload_n 1) 1 120 := ⟨by decide +kernel, rfl⟩
theorem d31_120 : Dec prog_3_method_7_code 120 (.invokevirtual 72) 3 123 := ⟨by decide +kernel, rfl⟩
theorem d31_123 : Dec prog_3_method_7_code 123 (.iadd) 1 124 := ⟨by decide +kernel, rfl⟩
theorem d31_124 : Dec prog_3_method_7_code 124 (.iastore) 1 125 := ⟨by decide +kernel, rfl⟩
theorem d31_125 : Dec prog_3_method_7_code 125 (.aload_n 0) 1 126 := ⟨by decide +kernel, rfl⟩
theorem d31_126 : Dec prog_3_method_7_code 126 (.getfield 17) 3 129 := ⟨by decide +kernel, rfl⟩
theorem d31_129 : Dec prog_3_method_7_code 129 (.aload_n 0) 1 130 := ⟨by decide +kernel, rfl⟩
theorem d31_130 : Dec prog_3_method_7_code 130 (.getfield 23) 3 133 := ⟨by decide +kernel, rfl⟩
theorem d31_133 : Dec prog_3_method_7_code 133 (.aload_n 1) 1 134 := ⟨by decide +kernel, rfl⟩
theorem d31_134 : Dec prog_3_method_7_code 134 (.invokevirtual 50) 3 137 := ⟨by decide +kernel, rfl⟩
theorem d31_137 : Dec prog_3_method_7_code 137 (.invokestatic 54) 3 140 := ⟨by decide +kernel, rfl⟩
theorem d31_140 : Dec prog_3_method_7_code 140 (.iastore) 1 141 := ⟨by decide +kernel, rfl⟩
theorem d31_141 : Dec prog_3_method_7_code 141 (.aload_n 0) 1 142 := ⟨by decide +kernel, rfl⟩
theorem d31_142 : Dec prog_3_method_7_code 142 (.dup) 1 143 := ⟨by decide +kernel, rfl⟩
theorem d31_143 : Dec prog_3_method_7_code 143 (.getfield 23) 3 146 := ⟨by decide +kernel, rfl⟩
theorem d31_146 : Dec prog_3_method_7_code 146 (.iconst 1) 1 147 := ⟨by decide +kernel, rfl⟩
theorem d31_147 : Dec prog_3_method_7_code 147 (.iadd) 1 148 := ⟨by decide +kernel, rfl⟩
theorem d31_148 : Dec prog_3_method_7_code 148 (.putfield 23) 3 151 := ⟨by decide +kernel, rfl⟩
theorem d31_151 : Dec prog_3_method_7_code 151 (.iconst 2) 1 152 := ⟨by decide +kernel, rfl⟩
theorem d31_152 : Dec prog_3_method_7_code 152 (.aload_n 0) 1 153 := ⟨by decide +kernel, rfl⟩
theorem d31_153 : Dec prog_3_method_7_code 153 (.getfield 23) 3 156 := ⟨by decide +kernel, rfl⟩
theorem d31_156 : Dec prog_3_method_7_code 156 (.imul) 1 157 := ⟨by decide +kernel, rfl⟩
theorem d31_157 : Dec prog_3_method_7_code 157 (.aload_n 0) 1 158 := ⟨by decide +kernel, rfl⟩
theorem d31_158 : Dec prog_3_method_7_code 158 (.getfield 20) 3 161 := ⟨by decide +kernel, rfl⟩
theorem d31_161 : Dec prog_3_method_7_code 161 (.arraylength) 1 162 := ⟨by decide +kernel, rfl⟩
theorem d31_162 : Brn prog_3_method_7_code 162 (.if_icmp .le 39) 39 165 201 := ⟨by decide +kernel, rfl, by decide, by decide⟩
theorem d31_201 : Dec prog_3_method_7_code 201 (.aload_n 0) 1 202 := ⟨by decide +kernel, rfl⟩
theorem d31_202 : Dec prog_3_method_7_code 202 (.aload_n 0) 1 203 := ⟨by decide +kernel, rfl⟩
theorem d31_203 : Dec prog_3_method_7_code 203 (.getfield 23) 3 206 := ⟨by decide +kernel, rfl⟩
theorem d31_206 : Dec prog_3_method_7_code 206 (.iconst 1) 1 207 := ⟨by decide +kernel, rfl⟩
theorem d31_207 : Dec prog_3_method_7_code 207 (.isub) 1 208 := ⟨by decide +kernel, rfl⟩
theorem d31_208 : Dec prog_3_method_7_code 208 (.invokevirtual 88) 3 211 := ⟨by decide +kernel, rfl⟩
theorem pd23 : parseMethodDescriptor "(I)V" = some ⟨[.int], none⟩ := by decide +kernel
theorem d31_211 : Dec prog_3_method_7_code 211 (.aload_n 0) 1 212 := ⟨by decide +kernel, rfl⟩
theorem d31_212 : Dec prog_3_method_7_code 212 (.getfield 23) 3 215 := ⟨by decide +kernel, rfl⟩
theorem d31_215 : Dec prog_3_method_7_code 215 (.iconst 1) 1 216 := ⟨by decide +kernel, rfl⟩
theorem d31_216 : Dec prog_3_method_7_code 216 (.isub) 1 217 := ⟨by decide +kernel, rfl⟩
theorem d31_217 : Dec prog_3_method_7_code 217 (.ireturn) 1 218 := ⟨by decide +kernel, rfl⟩
set_option maxRecDepth 65536 in
set_option maxHeartbeats 40000000 in
theorem c_add (l : Launch) (Z : State) (a0 : Array Value) (hw : ∀ d ∈ tables_1, d.before a0 Z = true) (hEL : EW Z a0 own_EL) (N ca ea ha ta : Addr) (ts : List (List Int32)) (chs es hs tb : List Int32) (sl : List Nat) (x : Addr) (cs : List Int32) (b : Addr) (S : Addr → Prop) (h0 : Heap) (hz : Z.heap.size ≤ h0.size) (I : NI ts chs es hs tb sl) (H : NH Z h0 N ca ea ha ta chs es hs tb ts.length) (F : LS Z h0 x cs b) (gx : Z.heap.size ≤ x) (sx : S x) (nx : N ≠ x) (hn2 : ts.length ≤ 2) (hnew : ∀ i : Nat, ts[i]? ≠ some cs) (zc : Int32) (Oc : Sta Z Z.heap "java/lang/String" "COMPACT_STRINGS" "Z" (.int zc)) (Pc : ¬ zc = 0) (sf : Value) (rsf : sf.isRef = true) (Os : Sta Z Z.heap "jdk/internal/util/Preconditions" "SIOOBE_FORMATTER" "Ljava/util/function/BiFunction;" sf) :
    Con l Z own_EL [] (⟨"com/example/vestledger/vestledger/account/Names", "add", "(Ljava/lang/String;)I"⟩ : MethodName) prog_3_method_7_code 4 (some .int) ({ frames := 4, cells := 0, slots := 0, locals := 75 } : Room) #[.ref N, .ref x] S h0 (fun S' v h' => v = some (.int (Int32.ofNat ts.length)) ∧ Keep h0 h' [x, N, ca, ea, ha, ta] ∧ LS Z h' x cs b ∧ ∃ chs2 es2 hs2 tb2 sl2, NI (ts ++ [cs]) chs2 es2 hs2 tb2 sl2 ∧ NH Z h' N ca ea ha ta chs2 es2 hs2 tb2 (ts ++ [cs]).length) := by
  refine con_of_go (ls := #[.val (.ref N), .val (.ref x), .unset, .unset]) (plainFor_of_name pn4) hEL (fun m => by first | rfl | (simp [entryFrame, mkF, argsToLocals, cat_int, cat_ref, cat_null, cat_long]; done)) (fun K => ?_)
  show Go _ _ _ _ _ _ _ _ _ _ _ _ _ 0 0 _ _ _
  have HH := H
  obtain ⟨HE, Hc, He, Hh, Ht, Hs, Ac, Ae, Ah, At, n1, n2, n3, gN, gc, ge, gh, gt⟩ := HH
  have I1 := I.l1
  have I2 := I.l2
  have I3 := I.l3
  have I4 := I.l4
  have I5 := I.n
  have lN := lt_nat HE.lt
  have lca := lt_nat Ac.lt
  have lea := lt_nat Ae.lt
  have lha := lt_nat Ah.lt
  have lta := lt_nat At.lt
  have ncaN : ca ≠ N := Ac.ne_exa HE (hw _ (List.mem_of_getElem? (i := 27) rfl))
  have neaN : ea ≠ N := Ae.ne_exa HE (hw _ (List.mem_of_getElem? (i := 27) rfl))
  have ncaea : ca ≠ ea := Ac.ne_ty Ae (by decide)
  have nhaN : ha ≠ N := Ah.ne_exa HE (hw _ (List.mem_of_getElem? (i := 27) rfl))
  have ncaha : ca ≠ ha := Ac.ne_ty Ah (by decide)
  have ntaN : ta ≠ N := At.ne_exa HE (hw _ (List.mem_of_getElem? (i := 27) rfl))
  have ncata : ca ≠ ta := Ac.ne_ty At (by decide)
  have ncax : ca ≠ x := Ac.ne_exa F.1.1 (hw _ (List.mem_of_getElem? (i := 5) rfl))
  have neax : ea ≠ x := Ae.ne_exa F.1.1 (hw _ (List.mem_of_getElem? (i := 5) rfl))
  have nhax : ha ≠ x := Ah.ne_exa F.1.1 (hw _ (List.mem_of_getElem? (i := 5) rfl))
  have ntax : ta ≠ x := At.ne_exa F.1.1 (hw _ (List.mem_of_getElem? (i := 5) rfl))
  have nbx : b ≠ x := F.bytes.ne_exa F.1.1 (hw _ (List.mem_of_getElem? (i := 5) rfl))
  have nbN : b ≠ N := F.bytes.ne_exa HE (hw _ (List.mem_of_getElem? (i := 27) rfl))
  have nbca : b ≠ ca := F.bytes.ne_ty Ac (by decide)
  have nbea : b ≠ ea := F.bytes.ne_ty Ae (by decide)
  have nbha : b ≠ ha := F.bytes.ne_ty Ah (by decide)
  have nbta : b ≠ ta := F.bytes.ne_ty At (by decide)
  have lx := lt_nat F.1.lx
  have lb := lt_nat F.1.lb
  have h3 := F.2.2.2
  have h6 : ts.flatten.length ≤ 6 := by have := flat_le I.t; omega
  refine go_aloadN d31_0 rfl rfl ?_
  refine go_getf (hw _ (List.mem_of_getElem? (i := 89) rfl)) Via.refl Hs d31_1 ?_
  refine go_aloadN d31_4 rfl rfl ?_
  refine go_getf (hw _ (List.mem_of_getElem? (i := 36) rfl)) Via.refl He d31_5 ?_
  refine go_alen Ae d31_8 (v := (16 : Int32)) (by rw [I2]; rfl) ?_
  refine go_icmpne d31_9 (fun c1001 => ?_) (fun c1001 => absurd c1001 (fun q => absurd ((ofNat_inj (n := 16) (by omega) (by omega)).mp q) (by omega)))
  refine go_aloadN d31_46 rfl rfl ?_
  refine go_aloadN d31_47 rfl rfl ?_
  refine go_getf (hw _ (List.mem_of_getElem? (i := 89) rfl)) Via.refl Hs d31_48 ?_
  refine go_private (R := ({ frames := 4, cells := 0, slots := 0, locals := 75 } : Room)) (kc := 0) (ks := 0) [.int (Int32.ofNat ts.length)] [] (c_so l Z a0 hw hEL N ca ea ha ta ts chs es hs tb sl S h0 I ⟨HE, Hc, He, Hh, Ht, Hs, Ac, Ae, Ah, At, n1, n2, n3, gN, gc, ge, gh, gt⟩ ts.length ts.flatten.length (Nat.le_refl _) (by rw [List.take_length])) HE (hw _ (List.mem_of_getElem? (i := 91) rfl)) (hw _ (List.mem_of_getElem? (i := 92) rfl)) (hw _ (List.mem_of_getElem? (i := 93) rfl)) (hw _ (List.mem_of_getElem? (i := 45) rfl)) rfl (hw _ (List.mem_of_getElem? (i := 94) rfl)) (hw _ (List.mem_of_getElem? (i := 28) rfl)) (by decide) rfl rfl (lenOf pd19 rfl) d31_51 (by rfl) (by decide) (Nat.le_of_ble_eq_true rfl) (rc := 0) (rs := 0) rfl rfl (fun S1002 v1002 h1002 m1002 z1002 q1002 => ?_)
  obtain ⟨rfl, rfl⟩ := q1002
  show Go _ _ _ _ _ _ _ _ _ _ _ _ _ _ _ _ _ (mkF K.m 54 #[.val (.ref N), .val (.ref x), .unset, .unset] [.int (Int32.ofNat ts.flatten.length)])
  refine go_istoreN d31_54 (l' := #[.val (.ref N), .val (.ref x), .val (.int (Int32.ofNat ts.flatten.length)), .unset]) rfl ?_
  refine go_iloadN d31_55 rfl ?_
  refine go_aloadN d31_56 rfl rfl ?_
  refine go_virtual (R := ({ frames := 4, cells := 0, slots := 0, locals := 75 } : Room)) (kc := 0) (ks := 0) [] [.int (Int32.ofNat ts.flatten.length)] (c_len l Z a0 hw hEL x _ _ _ S1002 h0 F.1 zc Oc Pc) F.1.1 (hw _ (List.mem_of_getElem? (i := 95) rfl)) (hw _ (List.mem_of_getElem? (i := 96) rfl)) (hw _ (List.mem_of_getElem? (i := 98) rfl)) (hw _ (List.mem_of_getElem? (i := 97) rfl)) (nfSel (hw _ (List.mem_of_getElem? (i := 98) rfl))) (hw _ (List.mem_of_getElem? (i := 99) rfl)) (hw _ (List.mem_of_getElem? (i := 6) rfl)) (by decide) rfl rfl (lenOf pd10 rfl) d31_57 (by rfl) (by decide) (Nat.le_of_ble_eq_true rfl) (rc := 0) (rs := 0) rfl rfl (fun S1003 v1003 h1003 m1003 z1003 q1003 => ?_)
  obtain ⟨rfl, rfl⟩ := q1003
  show Go _ _ _ _ _ _ _ _ _ _ _ _ _ _ _ _ _ (mkF K.m 60 #[.val (.ref N), .val (.ref x), .val (.int (Int32.ofNat ts.flatten.length)), .unset] [.int (Int32.ofNat cs.length), .int (Int32.ofNat ts.flatten.length)])
  refine go_iadd (v := (Int32.ofNat (ts.flatten.length + cs.length))) d31_60 (ofNat_add _ _) ?_
  refine go_aloadN d31_61 rfl rfl ?_
  refine go_getf (hw _ (List.mem_of_getElem? (i := 33) rfl)) Via.refl Hc d31_62 ?_
  refine go_alen Ac d31_65 (v := (64 : Int32)) (by rw [I1]; rfl) ?_
  refine go_icmple d31_66 (fun c1004 => ?_) (fun c1004 => absurd c1004 (ofNat_nlt (i := 64) (n := ts.flatten.length + cs.length) (by omega) (by omega)))
  refine go_aloadN d31_96 rfl rfl ?_
  refine go_iconst (x := (0 : Int32)) d31_97 (by decide) ?_
  refine go_aloadN d31_98 rfl rfl ?_
  refine go_virtual (R := ({ frames := 4, cells := 0, slots := 0, locals := 75 } : Room)) (kc := 0) (ks := 0) [] [.int (0 : Int32), .ref x] (c_len l Z a0 hw hEL x _ _ _ S1003 h0 F.1 zc Oc Pc) F.1.1 (hw _ (List.mem_of_getElem? (i := 95) rfl)) (hw _ (List.mem_of_getElem? (i := 96) rfl)) (hw _ (List.mem_of_getElem? (i := 98) rfl)) (hw _ (List.mem_of_getElem? (i := 97) rfl)) (nfSel (hw _ (List.mem_of_getElem? (i := 98) rfl))) (hw _ (List.mem_of_getElem? (i := 99) rfl)) (hw _ (List.mem_of_getElem? (i := 6) rfl)) (by decide) rfl rfl (lenOf pd10 rfl) d31_99 (by rfl) (by decide) (Nat.le_of_ble_eq_true rfl) (rc := 0) (rs := 0) rfl rfl (fun S1005 v1005 h1005 m1005 z1005 q1005 => ?_)
  obtain ⟨rfl, rfl⟩ := q1005
  show Go _ _ _ _ _ _ _ _ _ _ _ _ _ _ _ _ _ (mkF K.m 102 #[.val (.ref N), .val (.ref x), .val (.int (Int32.ofNat ts.flatten.length)), .unset] [.int (Int32.ofNat cs.length), .int (0 : Int32), .ref x])
  refine go_aloadN d31_102 rfl rfl ?_
  refine go_getf (hw _ (List.mem_of_getElem? (i := 33) rfl)) Via.refl Hc d31_103 ?_
  refine go_iloadN d31_106 rfl ?_
  refine go_virtual (R := ({ frames := 4, cells := 0, slots := 0, locals := 75 } : Room)) (kc := 0) (ks := 0) [.int (0 : Int32), .int (Int32.ofNat cs.length), .ref ca, .int (Int32.ofNat ts.flatten.length)] [] (c_gc l Z a0 hw hEL x _ _ ca _ ts.flatten.length S1005 h0 (by omega) F Ac (by omega) (by omega) zc Oc Pc sf rsf Os) F.1.1 (hw _ (List.mem_of_getElem? (i := 105) rfl)) (hw _ (List.mem_of_getElem? (i := 106) rfl)) (hw _ (List.mem_of_getElem? (i := 108) rfl)) (hw _ (List.mem_of_getElem? (i := 107) rfl)) (nfSel (hw _ (List.mem_of_getElem? (i := 108) rfl))) (hw _ (List.mem_of_getElem? (i := 109) rfl)) (hw _ (List.mem_of_getElem? (i := 6) rfl)) (by decide) rfl rfl (lenOf pd22 rfl) d31_107 (by rfl) (by decide) (Nat.le_of_ble_eq_true rfl) (rc := 0) (rs := 0) rfl rfl (fun S1006 v1006 h1006 m1006 z1006 q1006 => ?_)
  obtain ⟨rfl, K1006, A1006⟩ := q1006
  have z1006 := K1006.1
  show Go _ _ _ _ _ _ _ _ _ _ _ _ _ _ _ _ _ (mkF K.m 110 #[.val (.ref N), .val (.ref x), .val (.int (Int32.ofNat ts.flatten.length)), .unset] [])
  refine go_aloadN d31_110 rfl rfl ?_
  have f1007 := (He.keep K1006 (ninS (Ne.symm ncaN) nin0))
  refine go_getf (hw _ (List.mem_of_getElem? (i := 36) rfl)) Via.refl f1007 d31_111 ?_
  refine go_aloadN d31_114 rfl rfl ?_
  have f1008 := (Hs.keep K1006 (ninS (Ne.symm ncaN) nin0))
  refine go_getf (hw _ (List.mem_of_getElem? (i := 89) rfl)) Via.refl f1008 d31_115 ?_
  refine go_iloadN d31_118 rfl ?_
  refine go_aloadN d31_119 rfl rfl ?_
  have f1009 := (F.1.keep K1006 (ninS (Ne.symm ncax) nin0) (ninS nbca nin0))
  refine go_virtual (R := ({ frames := 4, cells := 0, slots := 0, locals := 75 } : Room)) (kc := 0) (ks := 0) [] [.int (Int32.ofNat ts.flatten.length), .int (Int32.ofNat ts.length), .ref ea] (c_len l Z a0 hw hEL x _ _ _ S1006 h1006 f1009 zc Oc Pc) f1009.1 (hw _ (List.mem_of_getElem? (i := 95) rfl)) (hw _ (List.mem_of_getElem? (i := 96) rfl)) (hw _ (List.mem_of_getElem? (i := 98) rfl)) (hw _ (List.mem_of_getElem? (i := 97) rfl)) (nfSel (hw _ (List.mem_of_getElem? (i := 98) rfl))) (hw _ (List.mem_of_getElem? (i := 99) rfl)) (hw _ (List.mem_of_getElem? (i := 6) rfl)) (by decide) rfl rfl (lenOf pd10 rfl) d31_120 (by rfl) (by decide) (Nat.le_of_ble_eq_true rfl) (rc := 0) (rs := 0) rfl rfl (fun S1010 v1010 h1010 m1010 z1010 q1010 => ?_)
  obtain ⟨rfl, rfl⟩ := q1010
  show Go _ _ _ _ _ _ _ _ _ _ _ _ _ _ _ _ _ (mkF K.m 123 #[.val (.ref N), .val (.ref x), .val (.int (Int32.ofNat ts.flatten.length)), .unset] [.int (Int32.ofNat cs.length), .int (Int32.ofNat ts.flatten.length), .int (Int32.ofNat ts.length), .ref ea])
  refine go_iadd (v := (Int32.ofNat (ts.flatten.length + cs.length))) d31_123 (ofNat_add _ _) ?_
  have f1011 := (Ae.keep K1006 (ninS (Ne.symm ncaea) nin0))
  refine go_iastore f1011 (by omega) (i := ts.length) rfl (by omega) d31_124 (fun h1012 K1012 A1012 => ?_)
  have z1012 := K1012.1
  have A1012 : AI Z h1012 ea .int (es.set ts.length (Int32.ofNat (ts.flatten.length + cs.length))) := A1012
  refine go_aloadN d31_125 rfl rfl ?_
  have f1013 := ((Hh.keep K1006 (ninS (Ne.symm ncaN) nin0)).keep K1012 (ninS (Ne.symm neaN) nin0))
  refine go_getf (hw _ (List.mem_of_getElem? (i := 38) rfl)) Via.refl f1013 d31_126 ?_
  refine go_aloadN d31_129 rfl rfl ?_
  have f1014 := (f1008.keep K1012 (ninS (Ne.symm neaN) nin0))
  refine go_getf (hw _ (List.mem_of_getElem? (i := 89) rfl)) Via.refl f1014 d31_130 ?_
  refine go_aloadN d31_133 rfl rfl ?_
  have f1015 := ((F.keep K1006 (ninS (Ne.symm ncax) nin0) (ninS nbca nin0)).keep K1012 (ninS (Ne.symm neax) nin0) (ninS nbea nin0))
  have f1017 := (f1009.keep K1012 (ninS (Ne.symm neax) nin0) (ninS nbea nin0))
  refine go_virtual (R := ({ frames := 4, cells := 0, slots := 0, locals := 75 } : Room)) (kc := 0) (ks := 0) [] [.int (Int32.ofNat ts.length), .ref ha] (c_hc l Z a0 hw hEL x _ _ S1010 h1012 f1015 (by omega) (m1010 _ (m1006 _ (m1005 _ (m1003 _ (m1002 _ sx))))) zc Oc Pc) f1017.1 (hw _ (List.mem_of_getElem? (i := 47) rfl)) (hw _ (List.mem_of_getElem? (i := 48) rfl)) (hw _ (List.mem_of_getElem? (i := 50) rfl)) (hw _ (List.mem_of_getElem? (i := 49) rfl)) (nfSel (hw _ (List.mem_of_getElem? (i := 50) rfl))) (hw _ (List.mem_of_getElem? (i := 51) rfl)) (hw _ (List.mem_of_getElem? (i := 6) rfl)) (by decide) rfl rfl (lenOf pd10 rfl) d31_134 (by rfl) (by decide) (Nat.le_of_ble_eq_true rfl) (rc := 0) (rs := 0) rfl rfl (fun S1016 v1016 h1016 m1016 z1016 q1016 => ?_)
  obtain ⟨rfl, K1016, F1016⟩ := q1016
  have z1016 := K1016.1
  show Go _ _ _ _ _ _ _ _ _ _ _ _ _ _ _ _ _ (mkF K.m 137 #[.val (.ref N), .val (.ref x), .val (.int (Int32.ofNat ts.flatten.length)), .unset] [.int (hcS cs), .int (Int32.ofNat ts.length), .ref ha])
  refine go_static (R := ({ frames := 4, cells := 0, slots := 0, locals := 75 } : Room)) (kc := 0) (ks := 0) [.int (hcS cs)] [.int (Int32.ofNat ts.length), .ref ha] (c_spr l Z a0 hw hEL (hcS cs) S1016 h1016) (hw _ (List.mem_of_getElem? (i := 66) rfl)) (hw _ (List.mem_of_getElem? (i := 67) rfl)) (hw _ (List.mem_of_getElem? (i := 68) rfl)) (hw _ (List.mem_of_getElem? (i := 28) rfl)) (by decide) rfl rfl (lenOf pd19 rfl) d31_137 (by rfl) (by decide) (Nat.le_of_ble_eq_true rfl) (rc := 0) (rs := 0) rfl rfl (fun S1018 v1018 h1018 m1018 z1018 q1018 => ?_)
  obtain ⟨rfl, rfl⟩ := q1018
  show Go _ _ _ _ _ _ _ _ _ _ _ _ _ _ _ _ _ (mkF K.m 140 #[.val (.ref N), .val (.ref x), .val (.int (Int32.ofNat ts.flatten.length)), .unset] [.int (spr (hcS cs)), .int (Int32.ofNat ts.length), .ref ha])
  have f1019 := (((Ah.keep K1006 (ninS (Ne.symm ncaha) nin0)).keep K1012 (ninS (Ne.symm n1) nin0)).keep K1016 (ninS nhax nin0))
  refine go_iastore f1019 (by omega) (i := ts.length) rfl (by omega) d31_140 (fun h1020 K1020 A1020 => ?_)
  have z1020 := K1020.1
  have A1020 : AI Z h1020 ha .int (hs.set ts.length (hsh cs)) := A1020
  refine go_aloadN d31_141 rfl rfl ?_
  refine go_dup d31_142 rfl ?_
  have f1021 := ((f1014.keep K1016 (ninS nx nin0)).keep K1020 (ninS (Ne.symm nhaN) nin0))
  refine go_getf (hw _ (List.mem_of_getElem? (i := 89) rfl)) Via.refl f1021 d31_143 ?_
  refine go_iconst (x := (1 : Int32)) d31_146 (by decide) ?_
  refine go_iadd (v := (Int32.ofNat (ts.length + 1))) d31_147 (ofNat_inc1 _) ?_
  have f1022 := ((((HE.keep K1006).keep K1012).keep K1016).keep K1020)
  refine go_putf (u' := .int (Int32.ofNat (ts.length + 1))) (hw _ (List.mem_of_getElem? (i := 89) rfl)) Via.refl f1021 f1022 (Or.inl (hw _ (List.mem_of_getElem? (i := 90) rfl))) (hw _ (List.mem_of_getElem? (i := 27) rfl)) (ty := .int) (by decide) rfl rfl (by omega) (Or.inr (by decide)) d31_148 (fun h1023 W1023 K1023 E1023 F1023 => ?_)
  have z1023 := K1023.1
  refine go_iconst (x := (2 : Int32)) d31_151 (by decide) ?_
  refine go_aloadN d31_152 rfl rfl ?_
  refine go_getf (hw _ (List.mem_of_getElem? (i := 89) rfl)) Via.refl F1023 d31_153 ?_
  refine go_imul (v := (Int32.ofNat (2 * (ts.length + 1)))) d31_156 (ofNat_two _) ?_
  refine go_aloadN d31_157 rfl rfl ?_
  have f1024 := (((((Ht.keep K1006 (ninS (Ne.symm ncaN) nin0)).keep K1012 (ninS (Ne.symm neaN) nin0)).keep K1016 (ninS nx nin0)).keep K1020 (ninS (Ne.symm nhaN) nin0)).other W1023 (Or.inr (slot_ne (C := "com/example/vestledger/vestledger/account/Names") (a0 := a0) (Or.inl (hw _ (List.mem_of_getElem? (i := 41) rfl))) (Or.inl (hw _ (List.mem_of_getElem? (i := 90) rfl))) (by decide) (t := (.array .int)) (t' := .int) (by decide) (by decide))))
  refine go_getf (hw _ (List.mem_of_getElem? (i := 40) rfl)) Via.refl f1024 d31_158 ?_
  have f1025 := (((((At.keep K1006 (ninS (Ne.symm ncata) nin0)).keep K1012 (ninS (Ne.symm n2) nin0)).keep K1016 (ninS ntax nin0)).keep K1020 (ninS (Ne.symm n3) nin0)).keep K1023 (ninS ntaN nin0))
  refine go_alen f1025 d31_161 (v := (32 : Int32)) (by rw [I4]; rfl) ?_
  refine go_icmple d31_162 (fun c1026 => ?_) (fun c1026 => absurd c1026 (ofNat_nlt (i := 32) (n := 2 * (ts.length + 1)) (by omega) (by omega)))
  refine go_aloadN d31_201 rfl rfl ?_
  refine go_aloadN d31_202 rfl rfl ?_
  refine go_getf (hw _ (List.mem_of_getElem? (i := 89) rfl)) Via.refl F1023 d31_203 ?_
  refine go_iconst (x := (1 : Int32)) d31_206 (by decide) ?_
  refine go_isub (v := (Int32.ofNat ts.length)) d31_207 (ofNat_dec1 _) ?_
  have f1027 := (((f1013.keep K1016 (ninS nx nin0)).keep K1020 (ninS (Ne.symm nhaN) nin0)).other W1023 (Or.inr (slot_ne (C := "com/example/vestledger/vestledger/account/Names") (a0 := a0) (Or.inl (hw _ (List.mem_of_getElem? (i := 39) rfl))) (Or.inl (hw _ (List.mem_of_getElem? (i := 90) rfl))) (by decide) (t := (.array .int)) (t' := .int) (by decide) (by decide))))
  have f1028 := (A1020.keep K1023 (ninS nhaN nin0))
  refine go_private (R := ({ frames := 4, cells := 0, slots := 0, locals := 75 } : Room)) (kc := 0) (ks := 0) [.int (Int32.ofNat ts.length)] [] (c_ent l Z a0 hw hEL N ha ta ts chs es hs tb sl I ts.length (hsh cs) (hs.set ts.length (hsh cs)) (List.getElem?_set_self (by omega)) S1018 h1023 (by omega) gt f1027 f1024 f1028 f1025) E1023 (hw _ (List.mem_of_getElem? (i := 131) rfl)) (hw _ (List.mem_of_getElem? (i := 132) rfl)) (hw _ (List.mem_of_getElem? (i := 133) rfl)) (hw _ (List.mem_of_getElem? (i := 45) rfl)) rfl (hw _ (List.mem_of_getElem? (i := 134) rfl)) (hw _ (List.mem_of_getElem? (i := 28) rfl)) (by decide) rfl rfl (lenOf pd23 rfl) d31_208 (by rfl) (by decide) (Nat.le_of_ble_eq_true rfl) (rc := 0) (rs := 0) rfl rfl (fun S1029 v1029 h1029 m1029 z1029 q1029 => ?_)
  obtain ⟨rfl, dd, hfree, hused, K1029, A1029⟩ := q1029
  have z1029 := K1029.1
  show Go _ _ _ _ _ _ _ _ _ _ _ _ _ _ _ _ _ (mkF K.m 211 #[.val (.ref N), .val (.ref x), .val (.int (Int32.ofNat ts.flatten.length)), .unset] [])
  refine go_aloadN d31_211 rfl rfl ?_
  have f1030 := (F1023.keep K1029 (ninS (Ne.symm ntaN) nin0))
  refine go_getf (hw _ (List.mem_of_getElem? (i := 89) rfl)) Via.refl f1030 d31_212 ?_
  refine go_iconst (x := (1 : Int32)) d31_215 (by decide) ?_
  refine go_isub (v := (Int32.ofNat ts.length)) d31_216 (ofNat_dec1 _) ?_
  have hN2 := I.add hn2 h3 (fun c hc => ⟨F.ch c hc, F.lat c hc⟩) hnew hfree hused
  have hsz : (ts ++ [cs]).length = ts.length + 1 := by simp
  have f1031 := (((F1016.keep K1020 (ninS (Ne.symm nhax) nin0) (ninS nbha nin0)).keep K1023 (ninS (Ne.symm nx) nin0) (ninS nbN nin0)).keep K1029 (ninS (Ne.symm ntax) nin0) (ninS nbta nin0))
  have f1032 := (E1023.keep K1029)
  have f1033 := ((((((Hc.keep K1006 (ninS (Ne.symm ncaN) nin0)).keep K1012 (ninS (Ne.symm neaN) nin0)).keep K1016 (ninS nx nin0)).keep K1020 (ninS (Ne.symm nhaN) nin0)).other W1023 (Or.inr (slot_ne (C := "com/example/vestledger/vestledger/account/Names") (a0 := a0) (Or.inl (hw _ (List.mem_of_getElem? (i := 34) rfl))) (Or.inl (hw _ (List.mem_of_getElem? (i := 90) rfl))) (by decide) (t := (.array .char)) (t' := .int) (by decide) (by decide)))).keep K1029 (ninS (Ne.symm ntaN) nin0))
  have f1034 := (((((f1007.keep K1012 (ninS (Ne.symm neaN) nin0)).keep K1016 (ninS nx nin0)).keep K1020 (ninS (Ne.symm nhaN) nin0)).other W1023 (Or.inr (slot_ne (C := "com/example/vestledger/vestledger/account/Names") (a0 := a0) (Or.inl (hw _ (List.mem_of_getElem? (i := 37) rfl))) (Or.inl (hw _ (List.mem_of_getElem? (i := 90) rfl))) (by decide) (t := (.array .int)) (t' := .int) (by decide) (by decide)))).keep K1029 (ninS (Ne.symm ntaN) nin0))
  have f1035 := (f1027.keep K1029 (ninS (Ne.symm ntaN) nin0))
  have f1036 := (f1024.keep K1029 (ninS (Ne.symm ntaN) nin0))
  have f1037 := (((((A1006.keep K1012 (ninS ncaea nin0)).keep K1016 (ninS ncax nin0)).keep K1020 (ninS ncaha nin0)).keep K1023 (ninS ncaN nin0)).keep K1029 (ninS ncata nin0))
  have f1038 := ((((A1012.keep K1016 (ninS neax nin0)).keep K1020 (ninS n1 nin0)).keep K1023 (ninS neaN nin0)).keep K1029 (ninS n2 nin0))
  have f1039 := (f1028.keep K1029 (ninS n3 nin0))
  exact go_ireturn (ty := .int) (v := (Int32.ofNat ts.length)) d31_217 rfl (by simp) rfl ⟨rfl, (((((((Keep.refl h0 [x, N, ca, ea, ha, ta]).trans K1006 (allS (Or.inl (by simp)) all0)).trans K1012 (allS (Or.inl (by simp)) all0)).trans K1016 (allS (Or.inl (by simp)) all0)).trans K1020 (allS (Or.inl (by simp)) all0)).wr W1023 (Or.inl (by simp))).trans K1029 (allS (Or.inl (by simp)) all0)), f1031, _, _, _, _, _, hN2, by rw [hsz]; exact ⟨f1032, f1033, f1034, f1035, f1036, f1030, f1037, f1038, f1039, A1029, n1, n2, n3, gN, gc, ge, gh, gt⟩⟩
theorem d32_0 : Dec prog_3_method_6_code 0 (.aload_n 0) 1 1 := ⟨by decide +kernel, rfl⟩
theorem d32_1 : Dec prog_3_method_6_code 1 (.aload_n 1) 1 2 := ⟨by decide +kernel, rfl⟩
theorem d32_2 : Dec prog_3_method_6_code 2 (.invokevirtual 61) 3 5 := ⟨by decide +kernel, rfl⟩
theorem pd24 : parseMethodDescriptor "(Ljava/lang/String;)I" = some ⟨[(.object "java/lang/String")], some .int⟩ := by decide +kernel
theorem d32_5 : Dec prog_3_method_6_code 5 (.istore_n 2) 1 6 := ⟨by decide +kernel, rfl⟩
theorem d32_6 : Dec prog_3_method_6_code 6 (.iload_n 2) 1 7 := ⟨by decide +kernel, rfl⟩
theorem d32_7 : Brn prog_3_method_6_code 7 (.ifCond .ge 9) 9 10 16 := ⟨by decide +kernel, rfl, by decide, by decide⟩
theorem d32_16 : Dec prog_3_method_6_code 16 (.iload_n 2) 1 17 := ⟨by decide +kernel, rfl⟩
theorem d32_17 : Dec prog_3_method_6_code 17 (.ireturn) 1 18 := ⟨by decide +kernel, rfl⟩
theorem d32_10 : Dec prog_3_method_6_code 10 (.aload_n 0) 1 11 := ⟨by decide +kernel, rfl⟩
theorem d32_11 : Dec prog_3_method_6_code 11 (.aload_n 1) 1 12 := ⟨by decide +kernel, rfl⟩
theorem d32_12 : Dec prog_3_method_6_code 12 (.invokevirtual 65) 3 15 := ⟨by decide +kernel, rfl⟩
theorem d32_15 : Dec prog_3_method_6_code 15 (.istore_n 2) 1 16 := ⟨by decide +kernel, rfl⟩
set_option maxRecDepth 65536 in
set_option maxHeartbeats 40000000 in
theorem c_place (l : Launch) (Z : State) (a0 : Array Value) (hw : ∀ d ∈ tables_1, d.before a0 Z = true) (hEL : EW Z a0 own_EL) (N ca ea ha ta : Addr) (ts : List (List Int32)) (chs es hs tb : List Int32) (sl : List Nat) (x : Addr) (cs : List Int32) (b : Addr) (S : Addr → Prop) (h0 : Heap) (hz : Z.heap.size ≤ h0.size) (I : NI ts chs es hs tb sl) (H : NH Z h0 N ca ea ha ta chs es hs tb ts.length) (F : LS Z h0 x cs b) (gx : Z.heap.size ≤ x) (sx : S x) (nx : N ≠ x) (hn2 : ts.length ≤ 2) (zc : Int32) (Oc : Sta Z Z.heap "java/lang/String" "COMPACT_STRINGS" "Z" (.int zc)) (Pc : ¬ zc = 0) (sf : Value) (rsf : sf.isRef = true) (Os : Sta Z Z.heap "jdk/internal/util/Preconditions" "SIOOBE_FORMATTER" "Ljava/util/function/BiFunction;" sf) :
    Con l Z own_EL [] (⟨"com/example/vestledger/vestledger/account/Names", "placeOf", "(Ljava/lang/String;)I"⟩ : MethodName) prog_3_method_6_code 3 (some .int) ({ frames := 6, cells := 0, slots := 0, locals := 108 } : Room) #[.ref N, .ref x] S h0 (fun S' v h' => ∃ r ts2 chs2 es2 hs2 tb2 sl2, v = some (.int (Int32.ofNat r)) ∧ ts2[r]? = some cs ∧ (ts2 = ts ∨ ((∀ i : Nat, ts[i]? ≠ some cs) ∧ ts2 = ts ++ [cs] ∧ r = ts.length)) ∧ Keep h0 h' [x, N, ca, ea, ha, ta] ∧ LS Z h' x cs b ∧ NI ts2 chs2 es2 hs2 tb2 sl2 ∧ NH Z h' N ca ea ha ta chs2 es2 hs2 tb2 ts2.length) := by
  refine con_of_go (ls := #[.val (.ref N), .val (.ref x), .unset]) (plainFor_of_name pn4) hEL (fun m => by first | rfl | (simp [entryFrame, mkF, argsToLocals, cat_int, cat_ref, cat_null, cat_long]; done)) (fun K => ?_)
  show Go _ _ _ _ _ _ _ _ _ _ _ _ _ 0 0 _ _ _
  have HH := H
  obtain ⟨HE, Hc, He, Hh, Ht, Hs, Ac, Ae, Ah, At, n1, n2, n3, gN, gc, ge, gh, gt⟩ := HH
  have I1 := I.l1
  have I2 := I.l2
  have I3 := I.l3
  have I4 := I.l4
  have I5 := I.n
  have lN := lt_nat HE.lt
  have lca := lt_nat Ac.lt
  have lea := lt_nat Ae.lt
  have lha := lt_nat Ah.lt
  have lta := lt_nat At.lt
  have ncaN : ca ≠ N := Ac.ne_exa HE (hw _ (List.mem_of_getElem? (i := 27) rfl))
  have neaN : ea ≠ N := Ae.ne_exa HE (hw _ (List.mem_of_getElem? (i := 27) rfl))
  have ncaea : ca ≠ ea := Ac.ne_ty Ae (by decide)
  have nhaN : ha ≠ N := Ah.ne_exa HE (hw _ (List.mem_of_getElem? (i := 27) rfl))
  have ncaha : ca ≠ ha := Ac.ne_ty Ah (by decide)
  have ntaN : ta ≠ N := At.ne_exa HE (hw _ (List.mem_of_getElem? (i := 27) rfl))
  have ncata : ca ≠ ta := Ac.ne_ty At (by decide)
  have ncax : ca ≠ x := Ac.ne_exa F.1.1 (hw _ (List.mem_of_getElem? (i := 5) rfl))
  have neax : ea ≠ x := Ae.ne_exa F.1.1 (hw _ (List.mem_of_getElem? (i := 5) rfl))
  have nhax : ha ≠ x := Ah.ne_exa F.1.1 (hw _ (List.mem_of_getElem? (i := 5) rfl))
  have ntax : ta ≠ x := At.ne_exa F.1.1 (hw _ (List.mem_of_getElem? (i := 5) rfl))
  have nbx : b ≠ x := F.bytes.ne_exa F.1.1 (hw _ (List.mem_of_getElem? (i := 5) rfl))
  have nbN : b ≠ N := F.bytes.ne_exa HE (hw _ (List.mem_of_getElem? (i := 27) rfl))
  have nbca : b ≠ ca := F.bytes.ne_ty Ac (by decide)
  have nbea : b ≠ ea := F.bytes.ne_ty Ae (by decide)
  have nbha : b ≠ ha := F.bytes.ne_ty Ah (by decide)
  have nbta : b ≠ ta := F.bytes.ne_ty At (by decide)
  have lx := lt_nat F.1.lx
  have lb := lt_nat F.1.lb
  have h3 := F.2.2.2
  refine go_aloadN d32_0 rfl rfl ?_
  refine go_aloadN d32_1 rfl rfl ?_
  refine go_virtual (R := ({ frames := 6, cells := 0, slots := 0, locals := 108 } : Room)) (kc := 0) (ks := 0) [.ref x] [] (c_find l Z a0 hw hEL N ca ea ha ta ts chs es hs tb sl x cs b S h0 (by omega) I ⟨HE, Hc, He, Hh, Ht, Hs, Ac, Ae, Ah, At, n1, n2, n3, gN, gc, ge, gh, gt⟩ F (by omega) sx nx zc Oc Pc sf rsf Os) HE (hw _ (List.mem_of_getElem? (i := 84) rfl)) (hw _ (List.mem_of_getElem? (i := 43) rfl)) (hw _ (List.mem_of_getElem? (i := 45) rfl)) (hw _ (List.mem_of_getElem? (i := 44) rfl)) (nfSel (hw _ (List.mem_of_getElem? (i := 45) rfl))) (hw _ (List.mem_of_getElem? (i := 46) rfl)) (hw _ (List.mem_of_getElem? (i := 28) rfl)) (by decide) rfl rfl (lenOf pd24 rfl) d32_2 (by rfl) (by decide) (Nat.le_of_ble_eq_true rfl) (rc := 0) (rs := 0) rfl rfl (fun S1001 v1001 h1001 m1001 z1001 q1001 => ?_)
  rcases q1001 with ⟨⟨i1001, rfl, e1001⟩ | ⟨rfl, e1001⟩, K1001, F1001⟩
  · have z1001 := K1001.1
    have hi := (List.getElem?_eq_some_iff.mp e1001).1
    show Go _ _ _ _ _ _ _ _ _ _ _ _ _ _ _ _ _ (mkF K.m 5 #[.val (.ref N), .val (.ref x), .unset] [.int (Int32.ofNat i1001)])
    refine go_istoreN d32_5 (l' := #[.val (.ref N), .val (.ref x), .val (.int (Int32.ofNat i1001))]) rfl ?_
    refine go_iloadN d32_6 rfl ?_
    refine go_ifge d32_7 (fun c1002 => ?_) (fun c1002 => absurd c1002 (ofNat_nlt (n := 0) (by omega) (by omega)))
    refine go_iloadN d32_16 rfl ?_
    have f1003 := (HE.keep K1001)
    have f1004 := (Hc.keep K1001 (ninS nx nin0))
    have f1005 := (He.keep K1001 (ninS nx nin0))
    have f1006 := (Hh.keep K1001 (ninS nx nin0))
    have f1007 := (Ht.keep K1001 (ninS nx nin0))
    have f1008 := (Hs.keep K1001 (ninS nx nin0))
    have f1009 := (Ac.keep K1001 (ninS ncax nin0))
    have f1010 := (Ae.keep K1001 (ninS neax nin0))
    have f1011 := (Ah.keep K1001 (ninS nhax nin0))
    have f1012 := (At.keep K1001 (ninS ntax nin0))
    exact go_ireturn (ty := .int) (v := (Int32.ofNat i1001)) d32_17 rfl (by simp) rfl ⟨_, _, _, _, _, _, _, rfl, e1001, Or.inl rfl, ((Keep.refl h0 [x, N, ca, ea, ha, ta]).trans K1001 (allS (Or.inl (by simp)) all0)), F1001, I, ⟨f1003, f1004, f1005, f1006, f1007, f1008, f1009, f1010, f1011, f1012, n1, n2, n3, gN, gc, ge, gh, gt⟩⟩
  · have z1001 := K1001.1
    show Go _ _ _ _ _ _ _ _ _ _ _ _ _ _ _ _ _ (mkF K.m 5 #[.val (.ref N), .val (.ref x), .unset] [.int (-1 : Int32)])
    refine go_istoreN d32_5 (l' := #[.val (.ref N), .val (.ref x), .val (.int (-1 : Int32))]) rfl ?_
    refine go_iloadN d32_6 rfl ?_
    refine go_ifge d32_7 (fun c1013 => absurd (by decide) c1013) (fun c1013 => ?_)
    refine go_aloadN d32_10 rfl rfl ?_
    refine go_aloadN d32_11 rfl rfl ?_
    have f1014 := (HE.keep K1001)
    have f1015 := (Hc.keep K1001 (ninS nx nin0))
    have f1016 := (He.keep K1001 (ninS nx nin0))
    have f1017 := (Hh.keep K1001 (ninS nx nin0))
    have f1018 := (Ht.keep K1001 (ninS nx nin0))
    have f1019 := (Hs.keep K1001 (ninS nx nin0))
    have f1020 := (Ac.keep K1001 (ninS ncax nin0))
    have f1021 := (Ae.keep K1001 (ninS neax nin0))
    have f1022 := (Ah.keep K1001 (ninS nhax nin0))
    have f1023 := (At.keep K1001 (ninS ntax nin0))
    refine go_private (R := ({ frames := 6, cells := 0, slots := 0, locals := 108 } : Room)) (kc := 0) (ks := 0) [.ref x] [] (c_add l Z a0 hw hEL N ca ea ha ta ts chs es hs tb sl x cs b S1001 h1001 (by omega) I ⟨f1014, f1015, f1016, f1017, f1018, f1019, f1020, f1021, f1022, f1023, n1, n2, n3, gN, gc, ge, gh, gt⟩ F1001 (by omega) (m1001 _ sx) nx hn2 e1001 zc Oc Pc sf rsf Os) f1014 (hw _ (List.mem_of_getElem? (i := 85) rfl)) (hw _ (List.mem_of_getElem? (i := 86) rfl)) (hw _ (List.mem_of_getElem? (i := 87) rfl)) (hw _ (List.mem_of_getElem? (i := 45) rfl)) rfl (hw _ (List.mem_of_getElem? (i := 88) rfl)) (hw _ (List.mem_of_getElem? (i := 28) rfl)) (by decide) rfl rfl (lenOf pd24 rfl) d32_12 (by rfl) (by decide) (Nat.le_of_ble_eq_true rfl) (rc := 0) (rs := 0) rfl rfl (fun S1024 v1024 h1024 m1024 z1024 q1024 => ?_)
    obtain ⟨rfl, K1024, F1024, chs2, es2, hs2, tb2, sl2, N1024, H1024⟩ := q1024
    have z1024 := K1024.1
    show Go _ _ _ _ _ _ _ _ _ _ _ _ _ _ _ _ _ (mkF K.m 15 #[.val (.ref N), .val (.ref x), .val (.int (-1 : Int32))] [.int (Int32.ofNat ts.length)])
    refine go_istoreN d32_15 (l' := #[.val (.ref N), .val (.ref x), .val (.int (Int32.ofNat ts.length))]) rfl ?_
    refine go_iloadN d32_16 rfl ?_
    exact go_ireturn (ty := .int) (v := (Int32.ofNat ts.length)) d32_17 rfl (by simp) rfl ⟨_, _, _, _, _, _, _, rfl, by simp, Or.inr ⟨e1001, rfl, rfl⟩, (((Keep.refl h0 [x, N, ca, ea, ha, ta]).trans K1001 (allS (Or.inl (by simp)) all0)).trans K1024 (allS (Or.inl (by simp)) (allS (Or.inl (by simp)) (allS (Or.inl (by simp)) (allS (Or.inl (by simp)) (allS (Or.inl (by simp)) (allS (Or.inl (by simp)) all0))))))), F1024, N1024, H1024⟩
theorem own_lat (y : Int32) : ∃ c, (y &&& 255) = c ∧ (isCh c ∧ ¬ (255 : Int32) < c) := by
  refine ⟨_, rfl, ?_, own_and255 y⟩
  have h : (y &&& 255).toBitVec.toNat < 256 := by
    simp only [Int32.toBitVec_and, BitVec.toNat_and]
    exact Nat.lt_succ_of_le Nat.and_le_right
  have e : (y &&& 255) = Int32.ofNat (y &&& 255).toBitVec.toNat := by
    apply Int32.toBitVec_inj.mp
    show _ = BitVec.ofNat 32 _
    rw [BitVec.ofNat_toNat]; simp
  rw [isCh_iff, e, Int32.toInt_ofNat_of_lt (by omega)]
  omega
theorem own_l1 {P : Int32 → Prop} {a : Int32} (ha : P a) : ∀ c ∈ [a], P c := List.forall_mem_cons.mpr ⟨ha, fun _ h => by cases h⟩
theorem own_l2 {P : Int32 → Prop} {a b : Int32} (ha : P a) (hb : P b) : ∀ c ∈ [a, b], P c := List.forall_mem_cons.mpr ⟨ha, own_l1 hb⟩
theorem own_l3 {P : Int32 → Prop} {a b d : Int32} (ha : P a) (hb : P b) (hd : P d) : ∀ c ∈ [a, b, d], P c := List.forall_mem_cons.mpr ⟨ha, own_l2 hb hd⟩
theorem own_off {cs : List Int32} : ∀ (i : Nat) (c : Int32), cs[i]? = some c → cs[0 + i]? = some c := fun i c h => by rw [Nat.zero_add]; exact h
theorem own_pre {ts ts2 : List (List Int32)} {r r2 : Nat} {t cs : List Int32} (h : ts[r]? = some t) (o : ts2 = ts ∨ ((∀ i : Nat, ts[i]? ≠ some cs) ∧ ts2 = ts ++ [cs] ∧ r2 = ts.length)) : ts2[r]? = some t := by
  rcases o with rfl | ⟨-, rfl, -⟩
  · exact h
  · rw [List.getElem?_append_left (List.getElem?_eq_some_iff.mp h).1]; exact h
theorem d33_0 : Dec jdk_43_method_3_code 0 (.iload_n 0) 1 1 := ⟨by decide +kernel, rfl⟩
theorem d33_1 : Dec jdk_43_method_3_code 1 (.sipush 255) 3 4 := ⟨by decide +kernel, rfl⟩
theorem d33_4 : Brn jdk_43_method_3_code 4 (.if_icmp .gt 7) 7 7 11 := ⟨by decide +kernel, rfl, by decide, by decide⟩
theorem d33_7 : Dec jdk_43_method_3_code 7 (.iconst 1) 1 8 := ⟨by decide +kernel, rfl⟩
theorem d33_8 : Brn jdk_43_method_3_code 8 (.goto 4) 4 11 12 := ⟨by decide +kernel, rfl, by decide, by decide⟩
theorem d33_12 : Dec jdk_43_method_3_code 12 (.ireturn) 1 13 := ⟨by decide +kernel, rfl⟩
set_option maxRecDepth 65536 in
set_option maxHeartbeats 40000000 in
theorem c_can (l : Launch) (Z : State) (a0 : Array Value) (hw : ∀ d ∈ tables_1, d.before a0 Z = true) (hEL : EW Z a0 own_EL) (c : Int32) (hc : isCh c ∧ ¬ (255 : Int32) < c) (S : Addr → Prop) (h0 : Heap) :
    Con l Z own_EL [] (⟨"java/lang/StringLatin1", "canEncode", "(C)Z"⟩ : MethodName) jdk_43_method_3_code 1 (some .boolean) ({ frames := 0, cells := 0, slots := 0, locals := 0 } : Room) #[.int c] S h0 (fun S' v h' => v = some (.int (1 : Int32)) ∧ h0 = h') := by
  refine con_of_go (ls := #[.val (.int c)]) (plainFor_of_name pn2) hEL (fun m => by first | rfl | (simp [entryFrame, mkF, argsToLocals, cat_int, cat_ref, cat_null, cat_long]; done)) (fun K => ?_)
  show Go _ _ _ _ _ _ _ _ _ _ _ _ _ 0 0 _ _ _
  refine go_iloadN d33_0 rfl ?_
  refine go_sipush (x := (255 : Int32)) d33_1 (by decide) ?_
  refine go_icmpgt d33_4 (fun c1001 => absurd c1001 (hc.2)) (fun c1001 => ?_)
  refine go_iconst (x := (1 : Int32)) d33_7 (by decide) ?_
  refine go_goto d33_8 ?_
  exact go_ireturn (ty := .boolean) (v := (1 : Int32)) d33_12 rfl (by simp) rfl ⟨rfl, rfl⟩
theorem d34_0 : Dec jdk_43_method_46_code 0 (.iconst 1) 1 1 := ⟨by decide +kernel, rfl⟩
theorem d34_1 : Dec jdk_43_method_46_code 1 (.newarray .byte) 2 3 := ⟨by decide +kernel, rfl⟩
theorem d34_3 : Dec jdk_43_method_46_code 3 (.dup) 1 4 := ⟨by decide +kernel, rfl⟩
theorem d34_4 : Dec jdk_43_method_46_code 4 (.iconst 0) 1 5 := ⟨by decide +kernel, rfl⟩
theorem d34_5 : Dec jdk_43_method_46_code 5 (.iload_n 0) 1 6 := ⟨by decide +kernel, rfl⟩
theorem d34_6 : Dec jdk_43_method_46_code 6 (.i2b) 1 7 := ⟨by decide +kernel, rfl⟩
theorem d34_7 : Dec jdk_43_method_46_code 7 (.bastore) 1 8 := ⟨by decide +kernel, rfl⟩
theorem d34_8 : Dec jdk_43_method_46_code 8 (.areturn) 1 9 := ⟨by decide +kernel, rfl⟩
set_option maxRecDepth 65536 in
set_option maxHeartbeats 40000000 in
theorem c_tob (l : Launch) (Z : State) (a0 : Array Value) (hw : ∀ d ∈ tables_1, d.before a0 Z = true) (hEL : EW Z a0 own_EL) (c : Int32) (S : Addr → Prop) (h0 : Heap) (hz : Z.heap.size ≤ h0.size) :
    Con l Z own_EL [] (⟨"java/lang/StringLatin1", "toBytes", "(C)[B"⟩ : MethodName) jdk_43_method_46_code 1 (some (.array .byte)) ({ frames := 0, cells := 1, slots := 1, locals := 0 } : Room) #[.int c] S h0 (fun S' v h' => ∃ b, v = some (.ref b) ∧ h0.size ≤ b ∧ S' b ∧ Keep h0 h' [] ∧ AI Z h' b .byte [lo8 c]) := by
  refine con_of_go (ls := #[.val (.int c)]) (plainFor_of_name pn2) hEL (fun m => by first | rfl | (simp [entryFrame, mkF, argsToLocals, cat_int, cat_ref, cat_null, cat_long]; done)) (fun K => ?_)
  show Go _ _ _ _ _ _ _ _ _ _ _ _ _ 1 1 _ _ _
  refine go_iconst (x := (1 : Int32)) d34_0 (by decide) ?_
  refine go_newarr (kc := 0) (ks := 0) (N := 1) (cap := 1) (hw _ (List.mem_of_getElem? (i := 19) rfl)) rfl (Nat.le_refl _) (by decide) rfl rfl d34_1 (fun S1001 h1001 a1001 e1001 m1001 s1001 x1001 l1001 A1001 => ?_)
  have z1001 := x1001.1
  have A1001 : AI Z h1001 a1001 .byte (List.replicate 1 0) := A1001
  refine go_dup d34_3 rfl ?_
  refine go_iconst (x := (0 : Int32)) d34_4 (by decide) ?_
  refine go_iloadN d34_5 rfl ?_
  refine go_i2b (v := (lo8 c)) d34_6 rfl ?_
  refine go_bastore (v := (lo8 c)) A1001 (by omega) s1001 (i := 0) rfl (by simp) (nar_lo8 c) d34_7 (fun h1002 K1002 A1002 => ?_)
  have z1002 := K1002.1
  have A1002 : AI Z h1002 a1001 .byte ([lo8 c]) := A1002
  exact go_areturn d34_8 rfl rfl rfl ⟨_, rfl, by omega, s1001, (((Keep.refl h0 []).ext x1001).trans K1002 (allS (Or.inr (by omega)) all0)), A1002⟩
theorem d35_0 : Dec jdk_42_method_151_code 0 (.aload_n 0) 1 1 := ⟨by decide +kernel, rfl⟩
theorem d35_1 : Dec jdk_42_method_151_code 1 (.invokespecial 1) 3 4 := ⟨by decide +kernel, rfl⟩
theorem d35_4 : Dec jdk_42_method_151_code 4 (.aload_n 0) 1 5 := ⟨by decide +kernel, rfl⟩
theorem d35_5 : Dec jdk_42_method_151_code 5 (.aload_n 1) 1 6 := ⟨by decide +kernel, rfl⟩
theorem d35_6 : Dec jdk_42_method_151_code 6 (.putfield 9) 3 9 := ⟨by decide +kernel, rfl⟩
theorem d35_9 : Dec jdk_42_method_151_code 9 (.aload_n 0) 1 10 := ⟨by decide +kernel, rfl⟩
theorem d35_10 : Dec jdk_42_method_151_code 10 (.iload_n 2) 1 11 := ⟨by decide +kernel, rfl⟩
theorem d35_11 : Dec jdk_42_method_151_code 11 (.putfield 15) 3 14 := ⟨by decide +kernel, rfl⟩
theorem d35_14 : Dec jdk_42_method_151_code 14 (.return_) 1 15 := ⟨by decide +kernel, rfl⟩
set_option maxRecDepth 65536 in
set_option maxHeartbeats 40000000 in
theorem c_ini2 (l : Launch) (Z : State) (a0 : Array Value) (hw : ∀ d ∈ tables_1, d.before a0 Z = true) (hEL : EW Z a0 own_EL) (bb : Addr) (c : Int32) (hc : isCh c ∧ ¬ (255 : Int32) < c) (S : Addr → Prop) (h0 : Heap) (hz : Z.heap.size ≤ h0.size) (x : Addr) (Ex : Exa Z h0 x "java/lang/String") (uv uc : Value) (Fv : Fld Z h0 x "java/lang/String" "value" "[B" uv) (Fc : Fld Z h0 x "java/lang/String" "coder" "B" uc) (Fh : Fld Z h0 x "java/lang/String" "hash" "I" (.int 0)) (Fz : Fld Z h0 x "java/lang/String" "hashIsZero" "Z" (.int 0)) (gx : Z.heap.size ≤ x) (sx : S x) (A : AI Z h0 bb .byte [lo8 c]) :
    Con l Z own_EL [] (⟨"java/lang/String", "<init>", "([BB)V"⟩ : MethodName) jdk_42_method_151_code 3 (none : Option FieldType) ({ frames := 1, cells := 0, slots := 0, locals := 13 } : Room) #[.ref x, .ref bb, .int (0 : Int32)] S h0 (fun S' v h' => v = none ∧ Keep h0 h' [x] ∧ ∃ b, LS Z h' x [c] b) := by
  refine con_of_go (ls := #[.val (.ref x), .val (.ref bb), .val (.int (0 : Int32))]) (plainFor_of_name pn0) hEL (fun m => by first | rfl | (simp [entryFrame, mkF, argsToLocals, cat_int, cat_ref, cat_null, cat_long]; done)) (fun K => ?_)
  show Go _ _ _ _ _ _ _ _ _ _ _ _ _ 0 0 _ _ _
  have lx := lt_nat Ex.lt
  have nbx : bb ≠ x := A.ne_exa Ex (hw _ (List.mem_of_getElem? (i := 5) rfl))
  refine go_aloadN d35_0 rfl rfl ?_
  refine go_initO (hw _ (List.mem_of_getElem? (i := 15) rfl)) (hw _ (List.mem_of_getElem? (i := 16) rfl)) (hw _ (List.mem_of_getElem? (i := 17) rfl)) d35_1 (by rfl) (by decide) (Nat.le_of_ble_eq_true rfl) ?_
  refine go_aloadN d35_4 rfl rfl ?_
  refine go_aloadN d35_5 rfl rfl ?_
  refine go_putf (u' := .ref bb) (hw _ (List.mem_of_getElem? (i := 24) rfl)) Via.refl Fv Ex (Or.inr ⟨(hw _ (List.mem_of_getElem? (i := 20) rfl)), rfl, rfl⟩) (hw _ (List.mem_of_getElem? (i := 5) rfl)) (ty := (.array .byte)) (by decide) rfl rfl (by omega) (Or.inl sx) d35_6 (fun h1001 W1001 K1001 E1001 F1001 => ?_)
  have z1001 := K1001.1
  refine go_aloadN d35_9 rfl rfl ?_
  refine go_iloadN d35_10 rfl ?_
  have f1002 := (Fc.other W1001 (Or.inr (slot_ne (C := "java/lang/String") (a0 := a0) (Or.inr (hw _ (List.mem_of_getElem? (i := 21) rfl))) (Or.inr (hw _ (List.mem_of_getElem? (i := 20) rfl))) (by decide) (t := .byte) (t' := (.array .byte)) (by decide) (by decide))))
  refine go_putf (u' := .int (0 : Int32)) (hw _ (List.mem_of_getElem? (i := 25) rfl)) Via.refl f1002 E1001 (Or.inr ⟨(hw _ (List.mem_of_getElem? (i := 21) rfl)), rfl, rfl⟩) (hw _ (List.mem_of_getElem? (i := 5) rfl)) (ty := .byte) (by decide) (by decide) (by decide) (by omega) (Or.inl sx) d35_11 (fun h1003 W1003 K1003 E1003 F1003 => ?_)
  have z1003 := K1003.1
  have f1004 := ((Fh.other W1001 (Or.inr (slot_ne (C := "java/lang/String") (a0 := a0) (Or.inl (hw _ (List.mem_of_getElem? (i := 53) rfl))) (Or.inr (hw _ (List.mem_of_getElem? (i := 20) rfl))) (by decide) (t := .int) (t' := (.array .byte)) (by decide) (by decide)))).other W1003 (Or.inr (slot_ne (C := "java/lang/String") (a0 := a0) (Or.inl (hw _ (List.mem_of_getElem? (i := 53) rfl))) (Or.inr (hw _ (List.mem_of_getElem? (i := 21) rfl))) (by decide) (t := .int) (t' := .byte) (by decide) (by decide))))
  have f1005 := ((Fz.other W1001 (Or.inr (slot_ne (C := "java/lang/String") (a0 := a0) (Or.inl (hw _ (List.mem_of_getElem? (i := 55) rfl))) (Or.inr (hw _ (List.mem_of_getElem? (i := 20) rfl))) (by decide) (t := .boolean) (t' := (.array .byte)) (by decide) (by decide)))).other W1003 (Or.inr (slot_ne (C := "java/lang/String") (a0 := a0) (Or.inl (hw _ (List.mem_of_getElem? (i := 55) rfl))) (Or.inr (hw _ (List.mem_of_getElem? (i := 21) rfl))) (by decide) (t := .boolean) (t' := .byte) (by decide) (by decide))))
  have f1006 := (F1001.other W1003 (Or.inr (slot_ne (C := "java/lang/String") (a0 := a0) (Or.inr (hw _ (List.mem_of_getElem? (i := 20) rfl))) (Or.inr (hw _ (List.mem_of_getElem? (i := 21) rfl))) (by decide) (t := (.array .byte)) (t' := .byte) (by decide) (by decide))))
  have f1007 := ((A.keep K1001 (ninS nbx nin0)).keep K1003 (ninS nbx nin0))
  exact go_return d35_14 rfl ⟨rfl, (((Keep.refl h0 [x]).wr W1001 (Or.inl (by simp))).wr W1003 (Or.inl (by simp))), _, ⟨E1003, F1003, f1006, f1007, Or.inl ⟨rfl, fun d q => own_l1 (P := fun c => ¬ (255 : Int32) < c) hc.2 d q⟩, fun d q => own_l1 (P := isCh) hc.1 d q, by simp⟩, ⟨_, _, f1004, f1005, Or.inl rfl, Or.inl rfl⟩, fun q => absurd q (by simp), by simp⟩
theorem d36_0 : Dec jdk_42_method_139_code 0 (.getstatic 38) 3 3 := ⟨by decide +kernel, rfl⟩
theorem d36_3 : Brn jdk_42_method_139_code 3 (.ifCond .eq 23) 23 6 26 := ⟨by decide +kernel, rfl, by decide, by decide⟩
theorem d36_6 : Dec jdk_42_method_139_code 6 (.iload_n 0) 1 7 := ⟨by decide +kernel, rfl⟩
theorem d36_7 : Dec jdk_42_method_139_code 7 (.invokestatic 1015) 3 10 := ⟨by decide +kernel, rfl⟩
theorem pd25 : parseMethodDescriptor "(C)Z" = some ⟨[.char], some .boolean⟩ := by decide +kernel
theorem d36_10 : Brn jdk_42_method_139_code 10 (.ifCond .eq 16) 16 13 26 := ⟨by decide +kernel, rfl, by decide, by decide⟩
theorem d36_13 : Dec jdk_42_method_139_code 13 (.new 10) 3 16 := ⟨by decide +kernel, rfl⟩
theorem d36_16 : Dec jdk_42_method_139_code 16 (.dup) 1 17 := ⟨by decide +kernel, rfl⟩
theorem d36_17 : Dec jdk_42_method_139_code 17 (.iload_n 0) 1 18 := ⟨by decide +kernel, rfl⟩
theorem d36_18 : Dec jdk_42_method_139_code 18 (.invokestatic 1018) 3 21 := ⟨by decide +kernel, rfl⟩
theorem pd26 : parseMethodDescriptor "(C)[B" = some ⟨[.char], some (.array .byte)⟩ := by decide +kernel
theorem d36_21 : Dec jdk_42_method_139_code 21 (.iconst 0) 1 22 := ⟨by decide +kernel, rfl⟩
theorem d36_22 : Dec jdk_42_method_139_code 22 (.invokespecial 209) 3 25 := ⟨by decide +kernel, rfl⟩
theorem pd27 : parseMethodDescriptor "([BB)V" = some ⟨[(.array .byte), .byte], none⟩ := by decide +kernel
theorem d36_25 : Dec jdk_42_method_139_code 25 (.areturn) 1 26 := ⟨by decide +kernel, rfl⟩
set_option maxRecDepth 65536 in
set_option maxHeartbeats 40000000 in
theorem c_val (l : Launch) (Z : State) (a0 : Array Value) (hw : ∀ d ∈ tables_1, d.before a0 Z = true) (hEL : EW Z a0 own_EL) (c : Int32) (hc : isCh c ∧ ¬ (255 : Int32) < c) (S : Addr → Prop) (h0 : Heap) (hz : Z.heap.size ≤ h0.size) (zc : Int32) (Oc : Sta Z Z.heap "java/lang/String" "COMPACT_STRINGS" "Z" (.int zc)) (Pc : ¬ zc = 0) :
    Con l Z own_EL [] (⟨"java/lang/String", "valueOf", "(C)Ljava/lang/String;"⟩ : MethodName) jdk_42_method_139_code 1 (some (.object "java/lang/String")) ({ frames := 2, cells := 2, slots := 5, locals := 31 } : Room) #[.int c] S h0 (fun S' v h' => ∃ y b, v = some (.ref y) ∧ h0.size ≤ y ∧ S' y ∧ Keep h0 h' [] ∧ LS Z h' y [c] b) := by
  refine con_of_go (ls := #[.val (.int c)]) (plainFor_of_name pn0) hEL (fun m => by first | rfl | (simp [entryFrame, mkF, argsToLocals, cat_int, cat_ref, cat_null, cat_long]; done)) (fun K => ?_)
  show Go _ _ _ _ _ _ _ _ _ _ _ _ _ 2 5 _ _ _
  refine go_gets (hw _ (List.mem_of_getElem? (i := 61) rfl)) Via.refl Oc d36_0 ?_
  refine go_ifeq d36_3 (fun c1001 => absurd c1001 (Pc)) (fun c1001 => ?_)
  refine go_iloadN d36_6 rfl ?_
  refine go_static (R := ({ frames := 2, cells := 2, slots := 5, locals := 31 } : Room)) (kc := 2) (ks := 5) [.int c] [] (c_can l Z a0 hw hEL c hc S h0) (hw _ (List.mem_of_getElem? (i := 152) rfl)) (hw _ (List.mem_of_getElem? (i := 153) rfl)) (hw _ (List.mem_of_getElem? (i := 154) rfl)) (hw _ (List.mem_of_getElem? (i := 64) rfl)) (by decide) rfl rfl (lenOf pd25 rfl) d36_7 (by rfl) (by decide) (Nat.le_of_ble_eq_true rfl) (rc := 0) (rs := 0) rfl rfl (fun S1002 v1002 h1002 m1002 z1002 q1002 => ?_)
  obtain ⟨rfl, rfl⟩ := q1002
  show Go _ _ _ _ _ _ _ _ _ _ _ _ _ _ _ _ _ (mkF K.m 10 #[.val (.int c)] [.int (1 : Int32)])
  refine go_ifeq d36_10 (fun c1003 => absurd c1003 (by decide)) (fun c1003 => ?_)
  refine go_new (kc := 1) (ks := 1) (hw _ (List.mem_of_getElem? (i := 75) rfl)) (hw _ (List.mem_of_getElem? (i := 5) rfl)) (hw _ (List.mem_of_getElem? (i := 6) rfl)) d36_13 (fun S1004 h1004 a1004 e1004 m1004 s1004 x1004 l1004 p1004 => ?_)
  have z1004 := x1004.1
  refine go_dup d36_16 rfl ?_
  refine go_iloadN d36_17 rfl ?_
  refine go_static (R := ({ frames := 2, cells := 2, slots := 5, locals := 31 } : Room)) (kc := 0) (ks := 0) [.int c] [.ref a1004, .ref a1004] (c_tob l Z a0 hw hEL c S1004 h1004 (by omega)) (hw _ (List.mem_of_getElem? (i := 155) rfl)) (hw _ (List.mem_of_getElem? (i := 156) rfl)) (hw _ (List.mem_of_getElem? (i := 157) rfl)) (hw _ (List.mem_of_getElem? (i := 64) rfl)) (by decide) rfl rfl (lenOf pd26 rfl) d36_18 (by rfl) (by decide) (Nat.le_of_ble_eq_true rfl) (rc := 1) (rs := 1) rfl rfl (fun S1005 v1005 h1005 m1005 z1005 q1005 => ?_)
  obtain ⟨b1005, rfl, g1005, s1005, K1005, A1005⟩ := q1005
  have z1005 := K1005.1
  have l1005 := lt_nat A1005.lt
  show Go _ _ _ _ _ _ _ _ _ _ _ _ _ _ _ _ _ (mkF K.m 21 #[.val (.int c)] [.ref b1005, .ref a1004, .ref a1004])
  refine go_iconst (x := (0 : Int32)) d36_21 (by decide) ?_
  have f1006 := (p1004.1.keep K1005)
  have f1007 := ((p1004.2 (Or.inr (hw _ (List.mem_of_getElem? (i := 20) rfl))) (ty := (.array .byte)) (by decide)).keep K1005 nin0)
  have f1008 := ((p1004.2 (Or.inr (hw _ (List.mem_of_getElem? (i := 21) rfl))) (ty := .byte) (by decide)).keep K1005 nin0)
  have f1009 := ((p1004.2 (Or.inl (hw _ (List.mem_of_getElem? (i := 53) rfl))) (ty := .int) (by decide)).keep K1005 nin0)
  have f1010 := ((p1004.2 (Or.inl (hw _ (List.mem_of_getElem? (i := 55) rfl))) (ty := .boolean) (by decide)).keep K1005 nin0)
  refine go_special (R := ({ frames := 2, cells := 2, slots := 5, locals := 31 } : Room)) (kc := 0) (ks := 0) [.ref b1005, .int (0 : Int32)] [.ref a1004] (c_ini2 l Z a0 hw hEL b1005 c hc S1005 h1005 (by omega) a1004 f1006 _ _ f1007 f1008 f1009 f1010 (by omega) (m1005 _ s1004) A1005) (hw _ (List.mem_of_getElem? (i := 158) rfl)) (hw _ (List.mem_of_getElem? (i := 159) rfl)) (hw _ (List.mem_of_getElem? (i := 160) rfl)) (hw _ (List.mem_of_getElem? (i := 6) rfl)) rfl (by decide) rfl rfl (lenOf pd27 rfl) d36_22 (by rfl) (by decide) (Nat.le_of_ble_eq_true rfl) (rc := 0) (rs := 0) rfl rfl (fun S1011 v1011 h1011 m1011 z1011 q1011 => ?_)
  obtain ⟨rfl, K1011, b1011, F1011⟩ := q1011
  have z1011 := K1011.1
  show Go _ _ _ _ _ _ _ _ _ _ _ _ _ _ _ _ _ (mkF K.m 25 #[.val (.int c)] [.ref a1004])
  exact go_areturn d36_25 rfl rfl rfl ⟨_, _, rfl, by omega, (m1011 _ (m1005 _ s1004)), ((((Keep.refl h0 []).ext x1004).trans K1005 all0).trans K1011 (allS (Or.inr (by omega)) all0)), F1011⟩
/-- the texts that n given ones leave -/
def own_ins (ts : List (List Int32)) (c : List Int32) : List (List Int32) := if c ∈ ts then ts else ts ++ [c]
def own_ts (k : Nat) (a b c : List Int32) : List (List Int32) := if k = 0 then [] else if k = 1 then [a] else if k = 2 then own_ins [a] b else own_ins (own_ins [a] b) c
def own_got (ts : List (List Int32)) (q : List Int32) (g : Int32) : Prop := (∃ i, g = Int32.ofNat i ∧ ts[i]? = some q) ∨ (g = -1 ∧ ∀ i : Nat, ts[i]? ≠ some q)
def own_e1 (a b : List Int32) : Int32 := if b = a then 0 else 1
def own_d2 (a b : List Int32) : Int32 := if b = a then 1 else 2
def own_e2 (a b c : List Int32) : Int32 := if c = a then 0 else if c = b then own_e1 a b else own_d2 a b
def own_x (k : Nat) (a b c q : List Int32) : Int32 := if 1 ≤ k ∧ q = a then 0 else if 2 ≤ k ∧ q = b then own_e1 a b else if 3 ≤ k ∧ q = c then own_e2 a b c else -1
theorem own_at {ts : List (List Int32)} {q : List Int32} {g : Int32} (h : own_got ts q g) (nd : ∀ (i j : Nat) (t : List Int32), ts[i]? = some t → ts[j]? = some t → i = j) (j : Nat) (hj : ts[j]? = some q) : g = Int32.ofNat j := by
  rcases h with ⟨i, rfl, hi⟩ | ⟨-, hn⟩
  · rw [nd i j q hi hj]
  · exact absurd hj (hn j)
theorem own_not {ts : List (List Int32)} {q : List Int32} {g : Int32} (h : own_got ts q g) (hn : q ∉ ts) : g = -1 := by
  rcases h with ⟨i, -, hi⟩ | ⟨e, -⟩
  · exact absurd (List.mem_of_getElem? hi) hn
  · exact e
theorem own_law {k : Nat} {a b c q : List Int32} {g : Int32} {ts : List (List Int32)} (hk : k ≤ 3) (nd : ∀ (i j : Nat) (t : List Int32), ts[i]? = some t → ts[j]? = some t → i = j) (hts : ts = own_ts k a b c) (h : own_got ts q g) : g = own_x k a b c q := by
  subst hts
  obtain rfl | rfl | rfl | rfl : k = 0 ∨ k = 1 ∨ k = 2 ∨ k = 3 := by omega
  · rw [own_not h (by simp [own_ts])]; simp [own_x]
  · by_cases h4 : q = a
    · subst h4; rw [own_at h nd 0 (by simp [own_ts])]; simp [own_x]
    · rw [own_not h (by simp [own_ts, h4])]; simp [own_x, h4]
  · by_cases h1 : b = a
    · subst h1
      by_cases h4 : q = b
      · subst h4; rw [own_at h nd 0 (by simp [own_ts, own_ins])]; simp [own_x]
      · rw [own_not h (by simp [own_ts, own_ins, h4])]; simp [own_x, h4]
    · by_cases h4 : q = a
      · subst h4; rw [own_at h nd 0 (by simp [own_ts, own_ins, h1])]; simp [own_x]
      · by_cases h5 : q = b
        · subst h5; rw [own_at h nd 1 (by simp [own_ts, own_ins, h1])]; simp [own_x, own_e1, h4]
        · rw [own_not h (by simp [own_ts, own_ins, h1, h4, h5])]; simp [own_x, h4, h5]
  · by_cases h1 : b = a
    · subst h1
      by_cases h2 : c = b
      · subst h2
        by_cases h4 : q = c
        · subst h4; rw [own_at h nd 0 (by simp [own_ts, own_ins])]; simp [own_x]
        · rw [own_not h (by simp [own_ts, own_ins, h4])]; simp [own_x, h4]
      · by_cases h4 : q = b
        · subst h4; rw [own_at h nd 0 (by simp [own_ts, own_ins, h2])]; simp [own_x]
        · by_cases h6 : q = c
          · subst h6; rw [own_at h nd 1 (by simp [own_ts, own_ins, h2])]; simp [own_x, own_e2, own_d2, h4]
          · rw [own_not h (by simp [own_ts, own_ins, h2, h4, h6])]; simp [own_x, h4, h6]
    · by_cases h2 : c = a
      · subst h2
        by_cases h4 : q = c
        · subst h4; rw [own_at h nd 0 (by simp [own_ts, own_ins, h1])]; simp [own_x]
        · by_cases h5 : q = b
          · subst h5; rw [own_at h nd 1 (by simp [own_ts, own_ins, h1])]; simp [own_x, own_e1, h4]
          · rw [own_not h (by simp [own_ts, own_ins, h1, h4, h5])]; simp [own_x, h4, h5]
      · by_cases h3 : c = b
        · subst h3
          by_cases h4 : q = a
          · subst h4; rw [own_at h nd 0 (by simp [own_ts, own_ins, h1])]; simp [own_x]
          · by_cases h5 : q = c
            · subst h5; rw [own_at h nd 1 (by simp [own_ts, own_ins, h1])]; simp [own_x, own_e1, h4]
            · rw [own_not h (by simp [own_ts, own_ins, h1, h4, h5])]; simp [own_x, h4, h5]
        · by_cases h4 : q = a
          · subst h4; rw [own_at h nd 0 (by simp [own_ts, own_ins, h1, h2, h3])]; simp [own_x]
          · by_cases h5 : q = b
            · subst h5; rw [own_at h nd 1 (by simp [own_ts, own_ins, h1, h2, h3])]; simp [own_x, own_e1, h4]
            · by_cases h6 : q = c
              · subst h6; rw [own_at h nd 2 (by simp [own_ts, own_ins, h1, h2, h3])]; simp [own_x, own_e2, own_d2, h1, h4, h5]
              · rw [own_not h (by simp [own_ts, own_ins, h1, h2, h3, h4, h5, h6])]; simp [own_x, h4, h5, h6]
theorem own_step {ts ts2 : List (List Int32)} {r : Nat} {cs : List Int32} (h : ts2[r]? = some cs) (o : ts2 = ts ∨ ((∀ i : Nat, ts[i]? ≠ some cs) ∧ ts2 = ts ++ [cs] ∧ r = ts.length)) : ts2 = own_ins ts cs := by
  rcases o with rfl | ⟨h1, rfl, -⟩
  · rw [own_ins, if_pos (List.mem_of_getElem? h)]
  · rw [own_ins, if_neg]
    intro q
    obtain ⟨i, hi, e⟩ := List.getElem_of_mem q
    exact h1 i (by rw [List.getElem?_eq_getElem hi, e])
theorem own_ins_le {ts : List (List Int32)} {c : List Int32} : (own_ins ts c).length ≤ ts.length + 1 := by
  rw [own_ins]; split
  · omega
  · simp
theorem own_mod4 (p : Int32) : (p &&& 3) = 0 ∨ (p &&& 3) = 1 ∨ (p &&& 3) = 2 ∨ (p &&& 3) = 3 := by
  have h : (p &&& 3).toBitVec.toNat < 4 := by
    simp only [Int32.toBitVec_and, BitVec.toNat_and]
    exact Nat.lt_succ_of_le Nat.and_le_right
  have e : (p &&& 3) = Int32.ofNat (p &&& 3).toBitVec.toNat := by
    apply Int32.toBitVec_inj.mp
    show _ = BitVec.ofNat 32 _
    rw [BitVec.ofNat_toNat]; simp
  rw [e]
  generalize (p &&& 3).toBitVec.toNat = n at h
  obtain rfl | rfl | rfl | rfl : n = 0 ∨ n = 1 ∨ n = 2 ∨ n = 3 := by omega
  · exact Or.inl rfl
  · exact Or.inr (Or.inl rfl)
  · exact Or.inr (Or.inr (Or.inl rfl))
  · exact Or.inr (Or.inr (Or.inr rfl))
theorem d37_0 : Dec method_2_code 0 (.iload_n 0) 1 1 := ⟨by decide +kernel, rfl⟩
theorem d37_1 : Dec method_2_code 1 (.bipush 24) 2 3 := ⟨by decide +kernel, rfl⟩
theorem d37_3 : Dec method_2_code 3 (.iushr) 1 4 := ⟨by decide +kernel, rfl⟩
theorem d37_4 : Dec method_2_code 4 (.iconst 3) 1 5 := ⟨by decide +kernel, rfl⟩
theorem d37_5 : Dec method_2_code 5 (.iand) 1 6 := ⟨by decide +kernel, rfl⟩
theorem d37_6 : Dec method_2_code 6 (.istore_n 1) 1 7 := ⟨by decide +kernel, rfl⟩
theorem d37_7 : Dec method_2_code 7 (.iload_n 0) 1 8 := ⟨by decide +kernel, rfl⟩
theorem d37_8 : Dec method_2_code 8 (.sipush 255) 3 11 := ⟨by decide +kernel, rfl⟩
theorem d37_11 : Dec method_2_code 11 (.iand) 1 12 := ⟨by decide +kernel, rfl⟩
theorem d37_12 : Dec method_2_code 12 (.i2c) 1 13 := ⟨by decide +kernel, rfl⟩
theorem d37_13 : Dec method_2_code 13 (.istore_n 2) 1 14 := ⟨by decide +kernel, rfl⟩
theorem d37_14 : Dec method_2_code 14 (.iload_n 0) 1 15 := ⟨by decide +kernel, rfl⟩
theorem d37_15 : Dec method_2_code 15 (.bipush 8) 2 17 := ⟨by decide +kernel, rfl⟩
theorem d37_17 : Dec method_2_code 17 (.iushr) 1 18 := ⟨by decide +kernel, rfl⟩
theorem d37_18 : Dec method_2_code 18 (.sipush 255) 3 21 := ⟨by decide +kernel, rfl⟩
theorem d37_21 : Dec method_2_code 21 (.iand) 1 22 := ⟨by decide +kernel, rfl⟩
theorem d37_22 : Dec method_2_code 22 (.i2c) 1 23 := ⟨by decide +kernel, rfl⟩
theorem d37_23 : Dec method_2_code 23 (.istore_n 3) 1 24 := ⟨by decide +kernel, rfl⟩
theorem d37_24 : Dec method_2_code 24 (.iload_n 0) 1 25 := ⟨by decide +kernel, rfl⟩
theorem d37_25 : Dec method_2_code 25 (.bipush 16) 2 27 := ⟨by decide +kernel, rfl⟩
theorem d37_27 : Dec method_2_code 27 (.iushr) 1 28 := ⟨by decide +kernel, rfl⟩
theorem d37_28 : Dec method_2_code 28 (.sipush 255) 3 31 := ⟨by decide +kernel, rfl⟩
theorem d37_31 : Dec method_2_code 31 (.iand) 1 32 := ⟨by decide +kernel, rfl⟩
theorem d37_32 : Dec method_2_code 32 (.i2c) 1 33 := ⟨by decide +kernel, rfl⟩
theorem d37_33 : Dec method_2_code 33 (.istore 4) 2 35 := ⟨by decide +kernel, rfl⟩
theorem d37_35 : Dec method_2_code 35 (.iload_n 1) 1 36 := ⟨by decide +kernel, rfl⟩
theorem d37_36 : Brn method_2_code 36 (.ifCond .ne 14) 14 39 50 := ⟨by decide +kernel, rfl, by decide, by decide⟩
theorem d37_50 : Dec method_2_code 50 (.iload_n 1) 1 51 := ⟨by decide +kernel, rfl⟩
theorem d37_51 : Dec method_2_code 51 (.iconst 1) 1 52 := ⟨by decide +kernel, rfl⟩
theorem d37_52 : Brn method_2_code 52 (.if_icmp .ne 8) 8 55 60 := ⟨by decide +kernel, rfl, by decide, by decide⟩
theorem d37_60 : Dec method_2_code 60 (.iload_n 1) 1 61 := ⟨by decide +kernel, rfl⟩
theorem d37_61 : Dec method_2_code 61 (.iconst 2) 1 62 := ⟨by decide +kernel, rfl⟩
theorem d37_62 : Brn method_2_code 62 (.if_icmp .ne 28) 28 65 90 := ⟨by decide +kernel, rfl, by decide, by decide⟩
theorem d37_90 : Dec method_2_code 90 (.iconst 3) 1 91 := ⟨by decide +kernel, rfl⟩
theorem d37_91 : Dec method_2_code 91 (.newarray .char) 2 93 := ⟨by decide +kernel, rfl⟩
theorem d37_93 : Dec method_2_code 93 (.astore 5) 2 95 := ⟨by decide +kernel, rfl⟩
theorem d37_95 : Dec method_2_code 95 (.aload 5) 2 97 := ⟨by decide +kernel, rfl⟩
theorem d37_97 : Dec method_2_code 97 (.iconst 0) 1 98 := ⟨by decide +kernel, rfl⟩
theorem d37_98 : Dec method_2_code 98 (.iload_n 2) 1 99 := ⟨by decide +kernel, rfl⟩
theorem d37_99 : Dec method_2_code 99 (.castore) 1 100 := ⟨by decide +kernel, rfl⟩
theorem d37_100 : Dec method_2_code 100 (.aload 5) 2 102 := ⟨by decide +kernel, rfl⟩
theorem d37_102 : Dec method_2_code 102 (.iconst 1) 1 103 := ⟨by decide +kernel, rfl⟩
theorem d37_103 : Dec method_2_code 103 (.iload_n 3) 1 104 := ⟨by decide +kernel, rfl⟩
theorem d37_104 : Dec method_2_code 104 (.castore) 1 105 := ⟨by decide +kernel, rfl⟩
theorem d37_105 : Dec method_2_code 105 (.aload 5) 2 107 := ⟨by decide +kernel, rfl⟩
theorem d37_107 : Dec method_2_code 107 (.iconst 2) 1 108 := ⟨by decide +kernel, rfl⟩
theorem d37_108 : Dec method_2_code 108 (.iload 4) 2 110 := ⟨by decide +kernel, rfl⟩
theorem d37_110 : Dec method_2_code 110 (.castore) 1 111 := ⟨by decide +kernel, rfl⟩
theorem d37_111 : Dec method_2_code 111 (.new 7) 3 114 := ⟨by decide +kernel, rfl⟩
theorem d37_114 : Dec method_2_code 114 (.dup) 1 115 := ⟨by decide +kernel, rfl⟩
theorem d37_115 : Dec method_2_code 115 (.aload 5) 2 117 := ⟨by decide +kernel, rfl⟩
theorem d37_117 : Dec method_2_code 117 (.invokespecial 9) 3 120 := ⟨by decide +kernel, rfl⟩
theorem pd28 : parseMethodDescriptor "([C)V" = some ⟨[(.array .char)], none⟩ := by decide +kernel
theorem d37_120 : Dec method_2_code 120 (.areturn) 1 121 := ⟨by decide +kernel, rfl⟩
theorem d37_65 : Dec method_2_code 65 (.iconst 2) 1 66 := ⟨by decide +kernel, rfl⟩
theorem d37_66 : Dec method_2_code 66 (.newarray .char) 2 68 := ⟨by decide +kernel, rfl⟩
theorem d37_68 : Dec method_2_code 68 (.astore 5) 2 70 := ⟨by decide +kernel, rfl⟩
theorem d37_70 : Dec method_2_code 70 (.aload 5) 2 72 := ⟨by decide +kernel, rfl⟩
theorem d37_72 : Dec method_2_code 72 (.iconst 0) 1 73 := ⟨by decide +kernel, rfl⟩
theorem d37_73 : Dec method_2_code 73 (.iload_n 2) 1 74 := ⟨by decide +kernel, rfl⟩
theorem d37_74 : Dec method_2_code 74 (.castore) 1 75 := ⟨by decide +kernel, rfl⟩
theorem d37_75 : Dec method_2_code 75 (.aload 5) 2 77 := ⟨by decide +kernel, rfl⟩
theorem d37_77 : Dec method_2_code 77 (.iconst 1) 1 78 := ⟨by decide +kernel, rfl⟩
theorem d37_78 : Dec method_2_code 78 (.iload_n 3) 1 79 := ⟨by decide +kernel, rfl⟩
theorem d37_79 : Dec method_2_code 79 (.castore) 1 80 := ⟨by decide +kernel, rfl⟩
theorem d37_80 : Dec method_2_code 80 (.new 7) 3 83 := ⟨by decide +kernel, rfl⟩
theorem d37_83 : Dec method_2_code 83 (.dup) 1 84 := ⟨by decide +kernel, rfl⟩
theorem d37_84 : Dec method_2_code 84 (.aload 5) 2 86 := ⟨by decide +kernel, rfl⟩
theorem d37_86 : Dec method_2_code 86 (.invokespecial 9) 3 89 := ⟨by decide +kernel, rfl⟩
theorem d37_89 : Dec method_2_code 89 (.areturn) 1 90 := ⟨by decide +kernel, rfl⟩
theorem d37_55 : Dec method_2_code 55 (.iload_n 2) 1 56 := ⟨by decide +kernel, rfl⟩
theorem d37_56 : Dec method_2_code 56 (.invokestatic 12) 3 59 := ⟨by decide +kernel, rfl⟩
theorem pd29 : parseMethodDescriptor "(C)Ljava/lang/String;" = some ⟨[.char], some (.object "java/lang/String")⟩ := by decide +kernel
theorem d37_59 : Dec method_2_code 59 (.areturn) 1 60 := ⟨by decide +kernel, rfl⟩
theorem d37_39 : Dec method_2_code 39 (.new 7) 3 42 := ⟨by decide +kernel, rfl⟩
theorem d37_42 : Dec method_2_code 42 (.dup) 1 43 := ⟨by decide +kernel, rfl⟩
theorem d37_43 : Dec method_2_code 43 (.iconst 0) 1 44 := ⟨by decide +kernel, rfl⟩
theorem d37_44 : Dec method_2_code 44 (.newarray .char) 2 46 := ⟨by decide +kernel, rfl⟩
theorem d37_46 : Dec method_2_code 46 (.invokespecial 9) 3 49 := ⟨by decide +kernel, rfl⟩
theorem d37_49 : Dec method_2_code 49 (.areturn) 1 50 := ⟨by decide +kernel, rfl⟩
theorem pn6 : plainName "com/example/vestledger/vestledger/account/NamesFindPinLaw" = true := by first | (simp [plainName, overriddenIn]; done) | decide +kernel
set_option maxRecDepth 65536 in
set_option maxHeartbeats 40000000 in
theorem c_str (l : Launch) (Z : State) (a0 : Array Value) (hw : ∀ d ∈ tables_1, d.before a0 Z = true) (hEL : EW Z a0 own_EL) (x : Int32) (S : Addr → Prop) (h0 : Heap) (hz : Z.heap.size ≤ h0.size) (zc : Int32) (Oc : Sta Z Z.heap "java/lang/String" "COMPACT_STRINGS" "Z" (.int zc)) (Pc : ¬ zc = 0) :
    Con l Z own_EL [] (⟨"com/example/vestledger/vestledger/account/NamesFindPinLaw", "str", "(I)Ljava/lang/String;"⟩ : MethodName) method_2_code 6 (some (.object "java/lang/String")) ({ frames := 4, cells := 6, slots := 15, locals := 76 } : Room) #[.int x] S h0 (fun S' v h' => ∃ y cs b, v = some (.ref y) ∧ h0.size ≤ y ∧ S' y ∧ Keep h0 h' [] ∧ LS Z h' y cs b) := by
  refine con_of_go (ls := #[.val (.int x), .unset, .unset, .unset, .unset, .unset]) (plainFor_of_name pn6) hEL (fun m => by first | rfl | (simp [entryFrame, mkF, argsToLocals, cat_int, cat_ref, cat_null, cat_long]; done)) (fun K => ?_)
  show Go _ _ _ _ _ _ _ _ _ _ _ _ _ 6 15 _ _ _
  obtain ⟨c0, e0, p0⟩ := own_lat x
  obtain ⟨c1, e1, p1⟩ := own_lat (XT.ushr x (8 : Int32))
  obtain ⟨c2, e2, p2⟩ := own_lat (XT.ushr x (16 : Int32))
  refine go_iloadN d37_0 rfl ?_
  refine go_bipush (x := (24 : Int32)) d37_1 (by decide) ?_
  refine go_iushr d37_3 rfl ?_
  refine go_iconst (x := (3 : Int32)) d37_4 (by decide) ?_
  refine go_iand d37_5 rfl ?_
  refine go_istoreN d37_6 (l' := #[.val (.int x), .val (.int ((XT.ushr x (24 : Int32)) &&& (3 : Int32))), .unset, .unset, .unset, .unset]) rfl ?_
  refine go_iloadN d37_7 rfl ?_
  refine go_sipush (x := (255 : Int32)) d37_8 (by decide) ?_
  refine go_iand (v := c0) d37_11 e0 ?_
  refine go_i2c (v := c0) d37_12 (i2c_ch p0.1) ?_
  refine go_istoreN d37_13 (l' := #[.val (.int x), .val (.int ((XT.ushr x (24 : Int32)) &&& (3 : Int32))), .val (.int c0), .unset, .unset, .unset]) rfl ?_
  refine go_iloadN d37_14 rfl ?_
  refine go_bipush (x := (8 : Int32)) d37_15 (by decide) ?_
  refine go_iushr d37_17 rfl ?_
  refine go_sipush (x := (255 : Int32)) d37_18 (by decide) ?_
  refine go_iand (v := c1) d37_21 e1 ?_
  refine go_i2c (v := c1) d37_22 (i2c_ch p1.1) ?_
  refine go_istoreN d37_23 (l' := #[.val (.int x), .val (.int ((XT.ushr x (24 : Int32)) &&& (3 : Int32))), .val (.int c0), .val (.int c1), .unset, .unset]) rfl ?_
  refine go_iloadN d37_24 rfl ?_
  refine go_bipush (x := (16 : Int32)) d37_25 (by decide) ?_
  refine go_iushr d37_27 rfl ?_
  refine go_sipush (x := (255 : Int32)) d37_28 (by decide) ?_
  refine go_iand (v := c2) d37_31 e2 ?_
  refine go_i2c (v := c2) d37_32 (i2c_ch p2.1) ?_
  refine go_istore d37_33 (l' := #[.val (.int x), .val (.int ((XT.ushr x (24 : Int32)) &&& (3 : Int32))), .val (.int c0), .val (.int c1), .val (.int c2), .unset]) rfl ?_
  refine go_iloadN d37_35 rfl ?_
  refine go_ifne d37_36 (fun c1011 => ?_) (fun c1011 => ?_)
  · refine go_iloadN d37_50 rfl ?_
    refine go_iconst (x := (1 : Int32)) d37_51 (by decide) ?_
    refine go_icmpne d37_52 (fun c1012 => ?_) (fun c1012 => ?_)
    · refine go_iloadN d37_60 rfl ?_
      refine go_iconst (x := (2 : Int32)) d37_61 (by decide) ?_
      refine go_icmpne d37_62 (fun c1013 => ?_) (fun c1013 => ?_)
      · refine go_iconst (x := (3 : Int32)) d37_90 (by decide) ?_
        refine go_newarr (kc := 5) (ks := 12) (N := 3) (cap := 3) (hw _ (List.mem_of_getElem? (i := 7) rfl)) rfl (Nat.le_refl _) (by decide) rfl rfl d37_91 (fun S1014 h1014 a1014 e1014 m1014 s1014 x1014 l1014 A1014 => ?_)
        have z1014 := x1014.1
        have A1014 : AI Z h1014 a1014 .char (List.replicate 3 0) := A1014
        refine go_astore d37_93 rfl (l' := #[.val (.int x), .val (.int ((XT.ushr x (24 : Int32)) &&& (3 : Int32))), .val (.int c0), .val (.int c1), .val (.int c2), .val (.ref a1014)]) rfl ?_
        refine go_aload d37_95 rfl rfl ?_
        refine go_iconst (x := (0 : Int32)) d37_97 (by decide) ?_
        refine go_iloadN d37_98 rfl ?_
        refine go_castore (v := c0) A1014 (by omega) (i := 0) rfl (by simp) (nar_ch p0.1) d37_99 (fun h1015 K1015 A1015 => ?_)
        have z1015 := K1015.1
        have A1015 : AI Z h1015 a1014 .char ([c0, 0, 0]) := A1015
        refine go_aload d37_100 rfl rfl ?_
        refine go_iconst (x := (1 : Int32)) d37_102 (by decide) ?_
        refine go_iloadN d37_103 rfl ?_
        refine go_castore (v := c1) A1015 (by omega) (i := 1) rfl (by simp) (nar_ch p1.1) d37_104 (fun h1016 K1016 A1016 => ?_)
        have z1016 := K1016.1
        have A1016 : AI Z h1016 a1014 .char ([c0, c1, 0]) := A1016
        refine go_aload d37_105 rfl rfl ?_
        refine go_iconst (x := (2 : Int32)) d37_107 (by decide) ?_
        refine go_iload d37_108 rfl ?_
        refine go_castore (v := c2) A1016 (by omega) (i := 2) rfl (by simp) (nar_ch p2.1) d37_110 (fun h1017 K1017 A1017 => ?_)
        have z1017 := K1017.1
        have A1017 : AI Z h1017 a1014 .char ([c0, c1, c2]) := A1017
        refine go_new (kc := 4) (ks := 8) (hw _ (List.mem_of_getElem? (i := 4) rfl)) (hw _ (List.mem_of_getElem? (i := 5) rfl)) (hw _ (List.mem_of_getElem? (i := 6) rfl)) d37_111 (fun S1018 h1018 a1018 e1018 m1018 s1018 x1018 l1018 p1018 => ?_)
        have z1018 := x1018.1
        refine go_dup d37_114 rfl ?_
        refine go_aload d37_115 rfl rfl ?_
        have f1019 := (A1017.ext x1018)
        refine go_special (R := ({ frames := 4, cells := 6, slots := 15, locals := 76 } : Room)) (kc := 3) (ks := 5) [.ref a1014] [.ref a1018] (c_ini1 l Z a0 hw hEL S1018 h1018 (by omega) a1018 p1018.1 _ _ (p1018.2 (Or.inr (hw _ (List.mem_of_getElem? (i := 20) rfl))) (ty := (.array .byte)) (by decide)) (p1018.2 (Or.inr (hw _ (List.mem_of_getElem? (i := 21) rfl))) (ty := .byte) (by decide)) (p1018.2 (Or.inl (hw _ (List.mem_of_getElem? (i := 53) rfl))) (ty := .int) (by decide)) (p1018.2 (Or.inl (hw _ (List.mem_of_getElem? (i := 55) rfl))) (ty := .boolean) (by decide)) (by omega) s1018 a1014 _ [c0, c1, c2] f1019 own_off (by simp) (by simp) (by simp) (own_l3 p0 p1 p2) rfl zc Oc Pc) (hw _ (List.mem_of_getElem? (i := 8) rfl)) (hw _ (List.mem_of_getElem? (i := 9) rfl)) (hw _ (List.mem_of_getElem? (i := 10) rfl)) (hw _ (List.mem_of_getElem? (i := 6) rfl)) rfl (by decide) rfl rfl (lenOf pd28 rfl) d37_117 (by rfl) (by decide) (Nat.le_of_ble_eq_true rfl) (rc := 1) (rs := 3) rfl rfl (fun S1020 v1020 h1020 m1020 z1020 q1020 => ?_)
        obtain ⟨rfl, K1020, b1020, F1020⟩ := q1020
        have z1020 := K1020.1
        have lb1020 := lt_nat F1020.1.lb
        show Go _ _ _ _ _ _ _ _ _ _ _ _ _ _ _ _ _ (mkF K.m 120 #[.val (.int x), .val (.int ((XT.ushr x (24 : Int32)) &&& (3 : Int32))), .val (.int c0), .val (.int c1), .val (.int c2), .val (.ref a1014)] [.ref a1018])
        exact go_areturn d37_120 rfl rfl rfl ⟨_, _, _, rfl, by omega, (m1020 _ s1018), (((((((Keep.refl h0 []).ext x1014).trans K1015 (allS (Or.inr (by omega)) all0)).trans K1016 (allS (Or.inr (by omega)) all0)).trans K1017 (allS (Or.inr (by omega)) all0)).ext x1018).trans K1020 (allS (Or.inr (by omega)) all0)), F1020⟩
      · refine go_iconst (x := (2 : Int32)) d37_65 (by decide) ?_
        refine go_newarr (kc := 5) (ks := 13) (N := 2) (cap := 2) (hw _ (List.mem_of_getElem? (i := 7) rfl)) rfl (Nat.le_refl _) (by decide) rfl rfl d37_66 (fun S1021 h1021 a1021 e1021 m1021 s1021 x1021 l1021 A1021 => ?_)
        have z1021 := x1021.1
        have A1021 : AI Z h1021 a1021 .char (List.replicate 2 0) := A1021
        refine go_astore d37_68 rfl (l' := #[.val (.int x), .val (.int ((XT.ushr x (24 : Int32)) &&& (3 : Int32))), .val (.int c0), .val (.int c1), .val (.int c2), .val (.ref a1021)]) rfl ?_
        refine go_aload d37_70 rfl rfl ?_
        refine go_iconst (x := (0 : Int32)) d37_72 (by decide) ?_
        refine go_iloadN d37_73 rfl ?_
        refine go_castore (v := c0) A1021 (by omega) (i := 0) rfl (by simp) (nar_ch p0.1) d37_74 (fun h1022 K1022 A1022 => ?_)
        have z1022 := K1022.1
        have A1022 : AI Z h1022 a1021 .char ([c0, 0]) := A1022
        refine go_aload d37_75 rfl rfl ?_
        refine go_iconst (x := (1 : Int32)) d37_77 (by decide) ?_
        refine go_iloadN d37_78 rfl ?_
        refine go_castore (v := c1) A1022 (by omega) (i := 1) rfl (by simp) (nar_ch p1.1) d37_79 (fun h1023 K1023 A1023 => ?_)
        have z1023 := K1023.1
        have A1023 : AI Z h1023 a1021 .char ([c0, c1]) := A1023
        refine go_new (kc := 4) (ks := 9) (hw _ (List.mem_of_getElem? (i := 4) rfl)) (hw _ (List.mem_of_getElem? (i := 5) rfl)) (hw _ (List.mem_of_getElem? (i := 6) rfl)) d37_80 (fun S1024 h1024 a1024 e1024 m1024 s1024 x1024 l1024 p1024 => ?_)
        have z1024 := x1024.1
        refine go_dup d37_83 rfl ?_
        refine go_aload d37_84 rfl rfl ?_
        have f1025 := (A1023.ext x1024)
        refine go_special (R := ({ frames := 4, cells := 6, slots := 15, locals := 76 } : Room)) (kc := 3) (ks := 6) [.ref a1021] [.ref a1024] (c_ini1 l Z a0 hw hEL S1024 h1024 (by omega) a1024 p1024.1 _ _ (p1024.2 (Or.inr (hw _ (List.mem_of_getElem? (i := 20) rfl))) (ty := (.array .byte)) (by decide)) (p1024.2 (Or.inr (hw _ (List.mem_of_getElem? (i := 21) rfl))) (ty := .byte) (by decide)) (p1024.2 (Or.inl (hw _ (List.mem_of_getElem? (i := 53) rfl))) (ty := .int) (by decide)) (p1024.2 (Or.inl (hw _ (List.mem_of_getElem? (i := 55) rfl))) (ty := .boolean) (by decide)) (by omega) s1024 a1021 _ [c0, c1] f1025 own_off (by simp) (by simp) (by simp) (own_l2 p0 p1) rfl zc Oc Pc) (hw _ (List.mem_of_getElem? (i := 8) rfl)) (hw _ (List.mem_of_getElem? (i := 9) rfl)) (hw _ (List.mem_of_getElem? (i := 10) rfl)) (hw _ (List.mem_of_getElem? (i := 6) rfl)) rfl (by decide) rfl rfl (lenOf pd28 rfl) d37_86 (by rfl) (by decide) (Nat.le_of_ble_eq_true rfl) (rc := 1) (rs := 3) rfl rfl (fun S1026 v1026 h1026 m1026 z1026 q1026 => ?_)
        obtain ⟨rfl, K1026, b1026, F1026⟩ := q1026
        have z1026 := K1026.1
        have lb1026 := lt_nat F1026.1.lb
        show Go _ _ _ _ _ _ _ _ _ _ _ _ _ _ _ _ _ (mkF K.m 89 #[.val (.int x), .val (.int ((XT.ushr x (24 : Int32)) &&& (3 : Int32))), .val (.int c0), .val (.int c1), .val (.int c2), .val (.ref a1021)] [.ref a1024])
        exact go_areturn d37_89 rfl rfl rfl ⟨_, _, _, rfl, by omega, (m1026 _ s1024), ((((((Keep.refl h0 []).ext x1021).trans K1022 (allS (Or.inr (by omega)) all0)).trans K1023 (allS (Or.inr (by omega)) all0)).ext x1024).trans K1026 (allS (Or.inr (by omega)) all0)), F1026⟩
    · refine go_iloadN d37_55 rfl ?_
      refine go_static (R := ({ frames := 4, cells := 6, slots := 15, locals := 76 } : Room)) (kc := 4) (ks := 10) [.int c0] [] (c_val l Z a0 hw hEL c0 p0 S h0 (by omega) zc Oc Pc) (hw _ (List.mem_of_getElem? (i := 149) rfl)) (hw _ (List.mem_of_getElem? (i := 150) rfl)) (hw _ (List.mem_of_getElem? (i := 151) rfl)) (hw _ (List.mem_of_getElem? (i := 6) rfl)) (by decide) rfl rfl (lenOf pd29 rfl) d37_56 (by rfl) (by decide) (Nat.le_of_ble_eq_true rfl) (rc := 2) (rs := 5) rfl rfl (fun S1027 v1027 h1027 m1027 z1027 q1027 => ?_)
      obtain ⟨y1027, b1027, rfl, g1027, s1027, K1027, F1027⟩ := q1027
      have z1027 := K1027.1
      show Go _ _ _ _ _ _ _ _ _ _ _ _ _ _ _ _ _ (mkF K.m 59 #[.val (.int x), .val (.int ((XT.ushr x (24 : Int32)) &&& (3 : Int32))), .val (.int c0), .val (.int c1), .val (.int c2), .unset] [.ref y1027])
      exact go_areturn d37_59 rfl rfl rfl ⟨_, _, _, rfl, by omega, s1027, ((Keep.refl h0 []).trans K1027 all0), F1027⟩
  · refine go_new (kc := 5) (ks := 11) (hw _ (List.mem_of_getElem? (i := 4) rfl)) (hw _ (List.mem_of_getElem? (i := 5) rfl)) (hw _ (List.mem_of_getElem? (i := 6) rfl)) d37_39 (fun S1028 h1028 a1028 e1028 m1028 s1028 x1028 l1028 p1028 => ?_)
    have z1028 := x1028.1
    refine go_dup d37_42 rfl ?_
    refine go_iconst (x := (0 : Int32)) d37_43 (by decide) ?_
    refine go_newarr (kc := 4) (ks := 11) (N := 0) (cap := 0) (hw _ (List.mem_of_getElem? (i := 7) rfl)) rfl (Nat.le_refl _) (by decide) rfl rfl d37_44 (fun S1029 h1029 a1029 e1029 m1029 s1029 x1029 l1029 A1029 => ?_)
    have z1029 := x1029.1
    have A1029 : AI Z h1029 a1029 .char (List.replicate 0 0) := A1029
    have f1030 := (p1028.1.ext x1029)
    have f1031 := ((p1028.2 (Or.inr (hw _ (List.mem_of_getElem? (i := 20) rfl))) (ty := (.array .byte)) (by decide)).ext x1029)
    have f1032 := ((p1028.2 (Or.inr (hw _ (List.mem_of_getElem? (i := 21) rfl))) (ty := .byte) (by decide)).ext x1029)
    have f1033 := ((p1028.2 (Or.inl (hw _ (List.mem_of_getElem? (i := 53) rfl))) (ty := .int) (by decide)).ext x1029)
    have f1034 := ((p1028.2 (Or.inl (hw _ (List.mem_of_getElem? (i := 55) rfl))) (ty := .boolean) (by decide)).ext x1029)
    refine go_special (R := ({ frames := 4, cells := 6, slots := 15, locals := 76 } : Room)) (kc := 0) (ks := 3) [.ref a1029] [.ref a1028] (c_ini1E l Z a0 hw hEL a1029 S1029 h1029 (by omega) a1028 f1030 _ _ f1031 f1032 f1033 f1034 (by omega) (m1029 _ s1028) A1029) (hw _ (List.mem_of_getElem? (i := 8) rfl)) (hw _ (List.mem_of_getElem? (i := 9) rfl)) (hw _ (List.mem_of_getElem? (i := 10) rfl)) (hw _ (List.mem_of_getElem? (i := 6) rfl)) rfl (by decide) rfl rfl (lenOf pd28 rfl) d37_46 (by rfl) (by decide) (Nat.le_of_ble_eq_true rfl) (rc := 4) (rs := 8) rfl rfl (fun S1035 v1035 h1035 m1035 z1035 q1035 => ?_)
    obtain ⟨rfl, K1035, b1035, F1035⟩ := q1035
    have z1035 := K1035.1
    have lb1035 := lt_nat F1035.1.lb
    show Go _ _ _ _ _ _ _ _ _ _ _ _ _ _ _ _ _ (mkF K.m 49 #[.val (.int x), .val (.int ((XT.ushr x (24 : Int32)) &&& (3 : Int32))), .val (.int c0), .val (.int c1), .val (.int c2), .unset] [.ref a1028])
    exact go_areturn d37_49 rfl rfl rfl ⟨_, _, _, rfl, by omega, (m1035 _ (m1029 _ s1028)), ((((Keep.refl h0 []).ext x1028).ext x1029).trans K1035 (allS (Or.inr (by omega)) all0)), F1035⟩
theorem d38_213 : Dec code 213 (.iload 8) 2 215 := ⟨by decide +kernel, rfl⟩
theorem d38_215 : Dec code 215 (.iconst 1) 1 216 := ⟨by decide +kernel, rfl⟩
theorem d38_216 : Brn code 216 (.if_icmp .lt 19) 19 219 235 := ⟨by decide +kernel, rfl, by decide, by decide⟩
theorem d38_235 : Dec code 235 (.iload 8) 2 237 := ⟨by decide +kernel, rfl⟩
theorem d38_237 : Dec code 237 (.iconst 2) 1 238 := ⟨by decide +kernel, rfl⟩
theorem d38_238 : Brn code 238 (.if_icmp .lt 20) 20 241 258 := ⟨by decide +kernel, rfl, by decide, by decide⟩
theorem d38_258 : Dec code 258 (.iload 8) 2 260 := ⟨by decide +kernel, rfl⟩
theorem d38_260 : Dec code 260 (.iconst 3) 1 261 := ⟨by decide +kernel, rfl⟩
theorem d38_261 : Brn code 261 (.if_icmp .lt 20) 20 264 281 := ⟨by decide +kernel, rfl, by decide, by decide⟩
theorem d38_281 : Dec code 281 (.iconst (-1)) 1 282 := ⟨by decide +kernel, rfl⟩
theorem d38_282 : Dec code 282 (.istore 16) 2 284 := ⟨by decide +kernel, rfl⟩
theorem d38_284 : Dec code 284 (.iload 12) 2 286 := ⟨by decide +kernel, rfl⟩
theorem d38_286 : Dec code 286 (.iload 16) 2 288 := ⟨by decide +kernel, rfl⟩
theorem d38_288 : Brn code 288 (.if_icmp .ne 7) 7 291 295 := ⟨by decide +kernel, rfl, by decide, by decide⟩
theorem d38_291 : Dec code 291 (.iconst 1) 1 292 := ⟨by decide +kernel, rfl⟩
theorem d38_292 : Brn code 292 (.goto 4) 4 295 296 := ⟨by decide +kernel, rfl, by decide, by decide⟩
theorem d38_296 : Dec code 296 (.ireturn) 1 297 := ⟨by decide +kernel, rfl⟩
theorem d38_264 : Dec code 264 (.aload 10) 2 266 := ⟨by decide +kernel, rfl⟩
theorem d38_266 : Dec code 266 (.aload 7) 2 268 := ⟨by decide +kernel, rfl⟩
theorem d38_268 : Dec code 268 (.invokevirtual 32) 3 271 := ⟨by decide +kernel, rfl⟩
theorem pd30 : parseMethodDescriptor "(Ljava/lang/Object;)Z" = some ⟨[(.object "java/lang/Object")], some .boolean⟩ := by decide +kernel
theorem d38_271 : Brn code 271 (.ifCond .eq 10) 10 274 281 := ⟨by decide +kernel, rfl, by decide, by decide⟩
theorem d38_274 : Dec code 274 (.iload 15) 2 276 := ⟨by decide +kernel, rfl⟩
theorem d38_276 : Dec code 276 (.istore 16) 2 278 := ⟨by decide +kernel, rfl⟩
theorem d38_278 : Brn code 278 (.goto 6) 6 281 284 := ⟨by decide +kernel, rfl, by decide, by decide⟩
theorem d38_241 : Dec code 241 (.aload 10) 2 243 := ⟨by decide +kernel, rfl⟩
theorem d38_243 : Dec code 243 (.aload 6) 2 245 := ⟨by decide +kernel, rfl⟩
theorem d38_245 : Dec code 245 (.invokevirtual 32) 3 248 := ⟨by decide +kernel, rfl⟩
theorem d38_248 : Brn code 248 (.ifCond .eq 10) 10 251 258 := ⟨by decide +kernel, rfl, by decide, by decide⟩
theorem d38_251 : Dec code 251 (.iload 13) 2 253 := ⟨by decide +kernel, rfl⟩
theorem d38_253 : Dec code 253 (.istore 16) 2 255 := ⟨by decide +kernel, rfl⟩
theorem d38_255 : Brn code 255 (.goto 29) 29 258 284 := ⟨by decide +kernel, rfl, by decide, by decide⟩
theorem d38_219 : Dec code 219 (.aload 10) 2 221 := ⟨by decide +kernel, rfl⟩
theorem d38_221 : Dec code 221 (.aload 5) 2 223 := ⟨by decide +kernel, rfl⟩
theorem d38_223 : Dec code 223 (.invokevirtual 32) 3 226 := ⟨by decide +kernel, rfl⟩
theorem d38_226 : Brn code 226 (.ifCond .eq 9) 9 229 235 := ⟨by decide +kernel, rfl, by decide, by decide⟩
theorem d38_229 : Dec code 229 (.iconst 0) 1 230 := ⟨by decide +kernel, rfl⟩
theorem d38_230 : Dec code 230 (.istore 16) 2 232 := ⟨by decide +kernel, rfl⟩
theorem d38_232 : Brn code 232 (.goto 52) 52 235 284 := ⟨by decide +kernel, rfl, by decide, by decide⟩
set_option maxRecDepth 65536 in
set_option maxHeartbeats 40000000 in
theorem g213 (l : Launch) (Z : State) (a0 : Array Value) (hw : ∀ d ∈ tables_1, d.before a0 Z = true) (hEL : EW Z a0 own_EL) (K : KT) (p0 p1 p2 p3 p4 : Int32) (t0 t1 t2 tq : Addr) (cs0 cs1 cs2 csq : List Int32) (b0 b1 b2 bq : Addr) (S1 : Addr → Prop) (h1 : Heap) (F0 : LS Z h1 t0 cs0 b0) (F1 : LS Z h1 t1 cs1 b1) (F2 : LS Z h1 t2 cs2 b2) (Fq : LS Z h1 tq csq bq) (n01 : t0 ≠ t1) (n02 : t0 ≠ t2) (n12 : t1 ≠ t2) (n0q : t0 ≠ tq) (n1q : t1 ≠ tq) (n2q : t2 ≠ tq) (k : Nat) (hk : k ≤ 3) (sel g e1 d2 e2 : Int32) (N : Addr) (hx : g = own_x k cs0 cs1 cs2 csq) (he1 : e1 = own_e1 cs0 cs1) (he2 : e2 = own_e2 cs0 cs1 cs2) (zc : Int32) (Oc : Sta Z Z.heap "java/lang/String" "COMPACT_STRINGS" "Z" (.int zc)) (Pc : ¬ zc = 0) :
    Go l Z a0 own_EL room_1 x.cls code maxLocals ret x.name (fun _ => False) (fun S' v h' => v = some (.int (1 : Int32))) K 19 1279 S1 h1 (mkF K.m 213 #[.val (.int p0), .val (.int p1), .val (.int p2), .val (.int p3), .val (.int p4), .val (.ref t0), .val (.ref t1), .val (.ref t2), .val (.int (Int32.ofNat k)), .val (.int sel), .val (.ref tq), .val (.ref N), .val (.int g), .val (.int e1), .val (.int d2), .val (.int e2), .unset] []) := by
  refine go_iload d38_213 rfl ?_
  refine go_iconst (x := (1 : Int32)) d38_215 (by decide) ?_
  refine go_icmplt d38_216 (fun c216 => ?_) (fun c216 => ?_)
  · have x1 : ¬ (1 ≤ k ∧ csq = cs0) := fun z => absurd ((ofNat_lt_iff (n := 1) (by omega) (by omega)).mp c216) (by omega)
    refine go_iload d38_235 rfl ?_
    refine go_iconst (x := (2 : Int32)) d38_237 (by decide) ?_
    refine go_icmplt d38_238 (fun c238 => ?_) (fun c238 => ?_)
    · have x2 : ¬ (2 ≤ k ∧ csq = cs1) := fun z => absurd ((ofNat_lt_iff (n := 2) (by omega) (by omega)).mp c238) (by omega)
      refine go_iload d38_258 rfl ?_
      refine go_iconst (x := (3 : Int32)) d38_260 (by decide) ?_
      refine go_icmplt d38_261 (fun c261 => ?_) (fun c261 => ?_)
      · have x3 : ¬ (3 ≤ k ∧ csq = cs2) := fun z => absurd ((ofNat_lt_iff (n := 3) (by omega) (by omega)).mp c261) (by omega)
        refine go_iconst (x := (-1 : Int32)) d38_281 (by decide) ?_
        refine go_istore d38_282 (l' := #[.val (.int p0), .val (.int p1), .val (.int p2), .val (.int p3), .val (.int p4), .val (.ref t0), .val (.ref t1), .val (.ref t2), .val (.int (Int32.ofNat k)), .val (.int sel), .val (.ref tq), .val (.ref N), .val (.int g), .val (.int e1), .val (.int d2), .val (.int e2), .val (.int (-1 : Int32))]) rfl ?_
        refine go_iload d38_284 rfl ?_
        refine go_iload d38_286 rfl ?_
        refine go_icmpne d38_288 (fun c1001 => absurd (hx.trans ((if_neg x1).trans ((if_neg x2).trans (if_neg x3)))) c1001) (fun c1001 => ?_)
        refine go_iconst (x := (1 : Int32)) d38_291 (by decide) ?_
        refine go_goto d38_292 ?_
        exact go_ireturn (ty := .boolean) (v := (1 : Int32)) d38_296 rfl (by simp) rfl rfl
      · have k3 : 3 ≤ k := by rcases Nat.lt_or_ge k 3 with q | q; exact absurd (ofNat_lt q (by omega)) c261; exact q
        refine go_aload d38_264 rfl rfl ?_
        refine go_aload d38_266 rfl rfl ?_
        refine go_virtual (R := ({ frames := 10, cells := 48, slots := 1472, locals := 208 } : Room)) (kc := 19) (ks := 1279) [.ref t2] [] (c_eq l Z a0 hw hEL tq t2 _ _ _ _ (Ne.symm n2q) S1 h1 Fq F2 zc Oc Pc) Fq.1.1 (hw _ (List.mem_of_getElem? (i := 70) rfl)) (hw _ (List.mem_of_getElem? (i := 71) rfl)) (hw _ (List.mem_of_getElem? (i := 73) rfl)) (hw _ (List.mem_of_getElem? (i := 72) rfl)) (nfSel (hw _ (List.mem_of_getElem? (i := 73) rfl))) (hw _ (List.mem_of_getElem? (i := 74) rfl)) (hw _ (List.mem_of_getElem? (i := 6) rfl)) (by decide) rfl rfl (lenOf pd30 rfl) d38_268 (by rfl) (by decide) (Nat.le_of_ble_eq_true rfl) (rc := 0) (rs := 0) rfl rfl (fun S1002 v1002 h1002 m1002 z1002 q1002 => ?_)
        rcases q1002 with ⟨rfl, e1002, rfl⟩ | ⟨rfl, e1002, rfl⟩
        · show Go _ _ _ _ _ _ _ _ _ _ _ _ _ _ _ _ _ (mkF K.m 271 #[.val (.int p0), .val (.int p1), .val (.int p2), .val (.int p3), .val (.int p4), .val (.ref t0), .val (.ref t1), .val (.ref t2), .val (.int (Int32.ofNat k)), .val (.int sel), .val (.ref tq), .val (.ref N), .val (.int g), .val (.int e1), .val (.int d2), .val (.int e2), .unset] [.int (1 : Int32)])
          refine go_ifeq d38_271 (fun c1003 => absurd c1003 (by decide)) (fun c1003 => ?_)
          refine go_iload d38_274 rfl ?_
          refine go_istore d38_276 (l' := #[.val (.int p0), .val (.int p1), .val (.int p2), .val (.int p3), .val (.int p4), .val (.ref t0), .val (.ref t1), .val (.ref t2), .val (.int (Int32.ofNat k)), .val (.int sel), .val (.ref tq), .val (.ref N), .val (.int g), .val (.int e1), .val (.int d2), .val (.int e2), .val (.int e2)]) rfl ?_
          refine go_goto d38_278 ?_
          refine go_iload d38_284 rfl ?_
          refine go_iload d38_286 rfl ?_
          refine go_icmpne d38_288 (fun c1004 => absurd (hx.trans ((if_neg x1).trans ((if_neg x2).trans ((if_pos ⟨k3, e1002⟩).trans he2.symm)))) c1004) (fun c1004 => ?_)
          refine go_iconst (x := (1 : Int32)) d38_291 (by decide) ?_
          refine go_goto d38_292 ?_
          exact go_ireturn (ty := .boolean) (v := (1 : Int32)) d38_296 rfl (by simp) rfl rfl
        · have x3 : ¬ (3 ≤ k ∧ csq = cs2) := fun z => e1002 z.2
          show Go _ _ _ _ _ _ _ _ _ _ _ _ _ _ _ _ _ (mkF K.m 271 #[.val (.int p0), .val (.int p1), .val (.int p2), .val (.int p3), .val (.int p4), .val (.ref t0), .val (.ref t1), .val (.ref t2), .val (.int (Int32.ofNat k)), .val (.int sel), .val (.ref tq), .val (.ref N), .val (.int g), .val (.int e1), .val (.int d2), .val (.int e2), .unset] [.int (0 : Int32)])
          refine go_ifeq d38_271 (fun c1005 => ?_) (fun c1005 => absurd (rfl) c1005)
          refine go_iconst (x := (-1 : Int32)) d38_281 (by decide) ?_
          refine go_istore d38_282 (l' := #[.val (.int p0), .val (.int p1), .val (.int p2), .val (.int p3), .val (.int p4), .val (.ref t0), .val (.ref t1), .val (.ref t2), .val (.int (Int32.ofNat k)), .val (.int sel), .val (.ref tq), .val (.ref N), .val (.int g), .val (.int e1), .val (.int d2), .val (.int e2), .val (.int (-1 : Int32))]) rfl ?_
          refine go_iload d38_284 rfl ?_
          refine go_iload d38_286 rfl ?_
          refine go_icmpne d38_288 (fun c1006 => absurd (hx.trans ((if_neg x1).trans ((if_neg x2).trans (if_neg x3)))) c1006) (fun c1006 => ?_)
          refine go_iconst (x := (1 : Int32)) d38_291 (by decide) ?_
          refine go_goto d38_292 ?_
          exact go_ireturn (ty := .boolean) (v := (1 : Int32)) d38_296 rfl (by simp) rfl rfl
    · have k2 : 2 ≤ k := by rcases Nat.lt_or_ge k 2 with q | q; exact absurd (ofNat_lt q (by omega)) c238; exact q
      refine go_aload d38_241 rfl rfl ?_
      refine go_aload d38_243 rfl rfl ?_
      refine go_virtual (R := ({ frames := 10, cells := 48, slots := 1472, locals := 208 } : Room)) (kc := 19) (ks := 1279) [.ref t1] [] (c_eq l Z a0 hw hEL tq t1 _ _ _ _ (Ne.symm n1q) S1 h1 Fq F1 zc Oc Pc) Fq.1.1 (hw _ (List.mem_of_getElem? (i := 70) rfl)) (hw _ (List.mem_of_getElem? (i := 71) rfl)) (hw _ (List.mem_of_getElem? (i := 73) rfl)) (hw _ (List.mem_of_getElem? (i := 72) rfl)) (nfSel (hw _ (List.mem_of_getElem? (i := 73) rfl))) (hw _ (List.mem_of_getElem? (i := 74) rfl)) (hw _ (List.mem_of_getElem? (i := 6) rfl)) (by decide) rfl rfl (lenOf pd30 rfl) d38_245 (by rfl) (by decide) (Nat.le_of_ble_eq_true rfl) (rc := 0) (rs := 0) rfl rfl (fun S1007 v1007 h1007 m1007 z1007 q1007 => ?_)
      rcases q1007 with ⟨rfl, e1007, rfl⟩ | ⟨rfl, e1007, rfl⟩
      · show Go _ _ _ _ _ _ _ _ _ _ _ _ _ _ _ _ _ (mkF K.m 248 #[.val (.int p0), .val (.int p1), .val (.int p2), .val (.int p3), .val (.int p4), .val (.ref t0), .val (.ref t1), .val (.ref t2), .val (.int (Int32.ofNat k)), .val (.int sel), .val (.ref tq), .val (.ref N), .val (.int g), .val (.int e1), .val (.int d2), .val (.int e2), .unset] [.int (1 : Int32)])
        refine go_ifeq d38_248 (fun c1008 => absurd c1008 (by decide)) (fun c1008 => ?_)
        refine go_iload d38_251 rfl ?_
        refine go_istore d38_253 (l' := #[.val (.int p0), .val (.int p1), .val (.int p2), .val (.int p3), .val (.int p4), .val (.ref t0), .val (.ref t1), .val (.ref t2), .val (.int (Int32.ofNat k)), .val (.int sel), .val (.ref tq), .val (.ref N), .val (.int g), .val (.int e1), .val (.int d2), .val (.int e2), .val (.int e1)]) rfl ?_
        refine go_goto d38_255 ?_
        refine go_iload d38_284 rfl ?_
        refine go_iload d38_286 rfl ?_
        refine go_icmpne d38_288 (fun c1009 => absurd (hx.trans ((if_neg x1).trans ((if_pos ⟨k2, e1007⟩).trans he1.symm))) c1009) (fun c1009 => ?_)
        refine go_iconst (x := (1 : Int32)) d38_291 (by decide) ?_
        refine go_goto d38_292 ?_
        exact go_ireturn (ty := .boolean) (v := (1 : Int32)) d38_296 rfl (by simp) rfl rfl
      · have x2 : ¬ (2 ≤ k ∧ csq = cs1) := fun z => e1007 z.2
        show Go _ _ _ _ _ _ _ _ _ _ _ _ _ _ _ _ _ (mkF K.m 248 #[.val (.int p0), .val (.int p1), .val (.int p2), .val (.int p3), .val (.int p4), .val (.ref t0), .val (.ref t1), .val (.ref t2), .val (.int (Int32.ofNat k)), .val (.int sel), .val (.ref tq), .val (.ref N), .val (.int g), .val (.int e1), .val (.int d2), .val (.int e2), .unset] [.int (0 : Int32)])
        refine go_ifeq d38_248 (fun c1010 => ?_) (fun c1010 => absurd (rfl) c1010)
        refine go_iload d38_258 rfl ?_
        refine go_iconst (x := (3 : Int32)) d38_260 (by decide) ?_
        refine go_icmplt d38_261 (fun c261 => ?_) (fun c261 => ?_)
        · have x3 : ¬ (3 ≤ k ∧ csq = cs2) := fun z => absurd ((ofNat_lt_iff (n := 3) (by omega) (by omega)).mp c261) (by omega)
          refine go_iconst (x := (-1 : Int32)) d38_281 (by decide) ?_
          refine go_istore d38_282 (l' := #[.val (.int p0), .val (.int p1), .val (.int p2), .val (.int p3), .val (.int p4), .val (.ref t0), .val (.ref t1), .val (.ref t2), .val (.int (Int32.ofNat k)), .val (.int sel), .val (.ref tq), .val (.ref N), .val (.int g), .val (.int e1), .val (.int d2), .val (.int e2), .val (.int (-1 : Int32))]) rfl ?_
          refine go_iload d38_284 rfl ?_
          refine go_iload d38_286 rfl ?_
          refine go_icmpne d38_288 (fun c1011 => absurd (hx.trans ((if_neg x1).trans ((if_neg x2).trans (if_neg x3)))) c1011) (fun c1011 => ?_)
          refine go_iconst (x := (1 : Int32)) d38_291 (by decide) ?_
          refine go_goto d38_292 ?_
          exact go_ireturn (ty := .boolean) (v := (1 : Int32)) d38_296 rfl (by simp) rfl rfl
        · have k3 : 3 ≤ k := by rcases Nat.lt_or_ge k 3 with q | q; exact absurd (ofNat_lt q (by omega)) c261; exact q
          refine go_aload d38_264 rfl rfl ?_
          refine go_aload d38_266 rfl rfl ?_
          refine go_virtual (R := ({ frames := 10, cells := 48, slots := 1472, locals := 208 } : Room)) (kc := 19) (ks := 1279) [.ref t2] [] (c_eq l Z a0 hw hEL tq t2 _ _ _ _ (Ne.symm n2q) S1007 h1 Fq F2 zc Oc Pc) Fq.1.1 (hw _ (List.mem_of_getElem? (i := 70) rfl)) (hw _ (List.mem_of_getElem? (i := 71) rfl)) (hw _ (List.mem_of_getElem? (i := 73) rfl)) (hw _ (List.mem_of_getElem? (i := 72) rfl)) (nfSel (hw _ (List.mem_of_getElem? (i := 73) rfl))) (hw _ (List.mem_of_getElem? (i := 74) rfl)) (hw _ (List.mem_of_getElem? (i := 6) rfl)) (by decide) rfl rfl (lenOf pd30 rfl) d38_268 (by rfl) (by decide) (Nat.le_of_ble_eq_true rfl) (rc := 0) (rs := 0) rfl rfl (fun S1012 v1012 h1012 m1012 z1012 q1012 => ?_)
          rcases q1012 with ⟨rfl, e1012, rfl⟩ | ⟨rfl, e1012, rfl⟩
          · show Go _ _ _ _ _ _ _ _ _ _ _ _ _ _ _ _ _ (mkF K.m 271 #[.val (.int p0), .val (.int p1), .val (.int p2), .val (.int p3), .val (.int p4), .val (.ref t0), .val (.ref t1), .val (.ref t2), .val (.int (Int32.ofNat k)), .val (.int sel), .val (.ref tq), .val (.ref N), .val (.int g), .val (.int e1), .val (.int d2), .val (.int e2), .unset] [.int (1 : Int32)])
            refine go_ifeq d38_271 (fun c1013 => absurd c1013 (by decide)) (fun c1013 => ?_)
            refine go_iload d38_274 rfl ?_
            refine go_istore d38_276 (l' := #[.val (.int p0), .val (.int p1), .val (.int p2), .val (.int p3), .val (.int p4), .val (.ref t0), .val (.ref t1), .val (.ref t2), .val (.int (Int32.ofNat k)), .val (.int sel), .val (.ref tq), .val (.ref N), .val (.int g), .val (.int e1), .val (.int d2), .val (.int e2), .val (.int e2)]) rfl ?_
            refine go_goto d38_278 ?_
            refine go_iload d38_284 rfl ?_
            refine go_iload d38_286 rfl ?_
            refine go_icmpne d38_288 (fun c1014 => absurd (hx.trans ((if_neg x1).trans ((if_neg x2).trans ((if_pos ⟨k3, e1012⟩).trans he2.symm)))) c1014) (fun c1014 => ?_)
            refine go_iconst (x := (1 : Int32)) d38_291 (by decide) ?_
            refine go_goto d38_292 ?_
            exact go_ireturn (ty := .boolean) (v := (1 : Int32)) d38_296 rfl (by simp) rfl rfl
          · have x3 : ¬ (3 ≤ k ∧ csq = cs2) := fun z => e1012 z.2
            show Go _ _ _ _ _ _ _ _ _ _ _ _ _ _ _ _ _ (mkF K.m 271 #[.val (.int p0), .val (.int p1), .val (.int p2), .val (.int p3), .val (.int p4), .val (.ref t0), .val (.ref t1), .val (.ref t2), .val (.int (Int32.ofNat k)), .val (.int sel), .val (.ref tq), .val (.ref N), .val (.int g), .val (.int e1), .val (.int d2), .val (.int e2), .unset] [.int (0 : Int32)])
            refine go_ifeq d38_271 (fun c1015 => ?_) (fun c1015 => absurd (rfl) c1015)
            refine go_iconst (x := (-1 : Int32)) d38_281 (by decide) ?_
            refine go_istore d38_282 (l' := #[.val (.int p0), .val (.int p1), .val (.int p2), .val (.int p3), .val (.int p4), .val (.ref t0), .val (.ref t1), .val (.ref t2), .val (.int (Int32.ofNat k)), .val (.int sel), .val (.ref tq), .val (.ref N), .val (.int g), .val (.int e1), .val (.int d2), .val (.int e2), .val (.int (-1 : Int32))]) rfl ?_
            refine go_iload d38_284 rfl ?_
            refine go_iload d38_286 rfl ?_
            refine go_icmpne d38_288 (fun c1016 => absurd (hx.trans ((if_neg x1).trans ((if_neg x2).trans (if_neg x3)))) c1016) (fun c1016 => ?_)
            refine go_iconst (x := (1 : Int32)) d38_291 (by decide) ?_
            refine go_goto d38_292 ?_
            exact go_ireturn (ty := .boolean) (v := (1 : Int32)) d38_296 rfl (by simp) rfl rfl
  · have k1 : 1 ≤ k := by rcases Nat.lt_or_ge k 1 with q | q; exact absurd (ofNat_lt q (by omega)) c216; exact q
    refine go_aload d38_219 rfl rfl ?_
    refine go_aload d38_221 rfl rfl ?_
    refine go_virtual (R := ({ frames := 10, cells := 48, slots := 1472, locals := 208 } : Room)) (kc := 19) (ks := 1279) [.ref t0] [] (c_eq l Z a0 hw hEL tq t0 _ _ _ _ (Ne.symm n0q) S1 h1 Fq F0 zc Oc Pc) Fq.1.1 (hw _ (List.mem_of_getElem? (i := 70) rfl)) (hw _ (List.mem_of_getElem? (i := 71) rfl)) (hw _ (List.mem_of_getElem? (i := 73) rfl)) (hw _ (List.mem_of_getElem? (i := 72) rfl)) (nfSel (hw _ (List.mem_of_getElem? (i := 73) rfl))) (hw _ (List.mem_of_getElem? (i := 74) rfl)) (hw _ (List.mem_of_getElem? (i := 6) rfl)) (by decide) rfl rfl (lenOf pd30 rfl) d38_223 (by rfl) (by decide) (Nat.le_of_ble_eq_true rfl) (rc := 0) (rs := 0) rfl rfl (fun S1017 v1017 h1017 m1017 z1017 q1017 => ?_)
    rcases q1017 with ⟨rfl, e1017, rfl⟩ | ⟨rfl, e1017, rfl⟩
    · show Go _ _ _ _ _ _ _ _ _ _ _ _ _ _ _ _ _ (mkF K.m 226 #[.val (.int p0), .val (.int p1), .val (.int p2), .val (.int p3), .val (.int p4), .val (.ref t0), .val (.ref t1), .val (.ref t2), .val (.int (Int32.ofNat k)), .val (.int sel), .val (.ref tq), .val (.ref N), .val (.int g), .val (.int e1), .val (.int d2), .val (.int e2), .unset] [.int (1 : Int32)])
      refine go_ifeq d38_226 (fun c1018 => absurd c1018 (by decide)) (fun c1018 => ?_)
      refine go_iconst (x := (0 : Int32)) d38_229 (by decide) ?_
      refine go_istore d38_230 (l' := #[.val (.int p0), .val (.int p1), .val (.int p2), .val (.int p3), .val (.int p4), .val (.ref t0), .val (.ref t1), .val (.ref t2), .val (.int (Int32.ofNat k)), .val (.int sel), .val (.ref tq), .val (.ref N), .val (.int g), .val (.int e1), .val (.int d2), .val (.int e2), .val (.int (0 : Int32))]) rfl ?_
      refine go_goto d38_232 ?_
      refine go_iload d38_284 rfl ?_
      refine go_iload d38_286 rfl ?_
      refine go_icmpne d38_288 (fun c1019 => absurd (hx.trans (if_pos ⟨k1, e1017⟩)) c1019) (fun c1019 => ?_)
      refine go_iconst (x := (1 : Int32)) d38_291 (by decide) ?_
      refine go_goto d38_292 ?_
      exact go_ireturn (ty := .boolean) (v := (1 : Int32)) d38_296 rfl (by simp) rfl rfl
    · have x1 : ¬ (1 ≤ k ∧ csq = cs0) := fun z => e1017 z.2
      show Go _ _ _ _ _ _ _ _ _ _ _ _ _ _ _ _ _ (mkF K.m 226 #[.val (.int p0), .val (.int p1), .val (.int p2), .val (.int p3), .val (.int p4), .val (.ref t0), .val (.ref t1), .val (.ref t2), .val (.int (Int32.ofNat k)), .val (.int sel), .val (.ref tq), .val (.ref N), .val (.int g), .val (.int e1), .val (.int d2), .val (.int e2), .unset] [.int (0 : Int32)])
      refine go_ifeq d38_226 (fun c1020 => ?_) (fun c1020 => absurd (rfl) c1020)
      refine go_iload d38_235 rfl ?_
      refine go_iconst (x := (2 : Int32)) d38_237 (by decide) ?_
      refine go_icmplt d38_238 (fun c238 => ?_) (fun c238 => ?_)
      · have x2 : ¬ (2 ≤ k ∧ csq = cs1) := fun z => absurd ((ofNat_lt_iff (n := 2) (by omega) (by omega)).mp c238) (by omega)
        refine go_iload d38_258 rfl ?_
        refine go_iconst (x := (3 : Int32)) d38_260 (by decide) ?_
        refine go_icmplt d38_261 (fun c261 => ?_) (fun c261 => ?_)
        · have x3 : ¬ (3 ≤ k ∧ csq = cs2) := fun z => absurd ((ofNat_lt_iff (n := 3) (by omega) (by omega)).mp c261) (by omega)
          refine go_iconst (x := (-1 : Int32)) d38_281 (by decide) ?_
          refine go_istore d38_282 (l' := #[.val (.int p0), .val (.int p1), .val (.int p2), .val (.int p3), .val (.int p4), .val (.ref t0), .val (.ref t1), .val (.ref t2), .val (.int (Int32.ofNat k)), .val (.int sel), .val (.ref tq), .val (.ref N), .val (.int g), .val (.int e1), .val (.int d2), .val (.int e2), .val (.int (-1 : Int32))]) rfl ?_
          refine go_iload d38_284 rfl ?_
          refine go_iload d38_286 rfl ?_
          refine go_icmpne d38_288 (fun c1021 => absurd (hx.trans ((if_neg x1).trans ((if_neg x2).trans (if_neg x3)))) c1021) (fun c1021 => ?_)
          refine go_iconst (x := (1 : Int32)) d38_291 (by decide) ?_
          refine go_goto d38_292 ?_
          exact go_ireturn (ty := .boolean) (v := (1 : Int32)) d38_296 rfl (by simp) rfl rfl
        · have k3 : 3 ≤ k := by rcases Nat.lt_or_ge k 3 with q | q; exact absurd (ofNat_lt q (by omega)) c261; exact q
          refine go_aload d38_264 rfl rfl ?_
          refine go_aload d38_266 rfl rfl ?_
          refine go_virtual (R := ({ frames := 10, cells := 48, slots := 1472, locals := 208 } : Room)) (kc := 19) (ks := 1279) [.ref t2] [] (c_eq l Z a0 hw hEL tq t2 _ _ _ _ (Ne.symm n2q) S1017 h1 Fq F2 zc Oc Pc) Fq.1.1 (hw _ (List.mem_of_getElem? (i := 70) rfl)) (hw _ (List.mem_of_getElem? (i := 71) rfl)) (hw _ (List.mem_of_getElem? (i := 73) rfl)) (hw _ (List.mem_of_getElem? (i := 72) rfl)) (nfSel (hw _ (List.mem_of_getElem? (i := 73) rfl))) (hw _ (List.mem_of_getElem? (i := 74) rfl)) (hw _ (List.mem_of_getElem? (i := 6) rfl)) (by decide) rfl rfl (lenOf pd30 rfl) d38_268 (by rfl) (by decide) (Nat.le_of_ble_eq_true rfl) (rc := 0) (rs := 0) rfl rfl (fun S1022 v1022 h1022 m1022 z1022 q1022 => ?_)
          rcases q1022 with ⟨rfl, e1022, rfl⟩ | ⟨rfl, e1022, rfl⟩
          · show Go _ _ _ _ _ _ _ _ _ _ _ _ _ _ _ _ _ (mkF K.m 271 #[.val (.int p0), .val (.int p1), .val (.int p2), .val (.int p3), .val (.int p4), .val (.ref t0), .val (.ref t1), .val (.ref t2), .val (.int (Int32.ofNat k)), .val (.int sel), .val (.ref tq), .val (.ref N), .val (.int g), .val (.int e1), .val (.int d2), .val (.int e2), .unset] [.int (1 : Int32)])
            refine go_ifeq d38_271 (fun c1023 => absurd c1023 (by decide)) (fun c1023 => ?_)
            refine go_iload d38_274 rfl ?_
            refine go_istore d38_276 (l' := #[.val (.int p0), .val (.int p1), .val (.int p2), .val (.int p3), .val (.int p4), .val (.ref t0), .val (.ref t1), .val (.ref t2), .val (.int (Int32.ofNat k)), .val (.int sel), .val (.ref tq), .val (.ref N), .val (.int g), .val (.int e1), .val (.int d2), .val (.int e2), .val (.int e2)]) rfl ?_
            refine go_goto d38_278 ?_
            refine go_iload d38_284 rfl ?_
            refine go_iload d38_286 rfl ?_
            refine go_icmpne d38_288 (fun c1024 => absurd (hx.trans ((if_neg x1).trans ((if_neg x2).trans ((if_pos ⟨k3, e1022⟩).trans he2.symm)))) c1024) (fun c1024 => ?_)
            refine go_iconst (x := (1 : Int32)) d38_291 (by decide) ?_
            refine go_goto d38_292 ?_
            exact go_ireturn (ty := .boolean) (v := (1 : Int32)) d38_296 rfl (by simp) rfl rfl
          · have x3 : ¬ (3 ≤ k ∧ csq = cs2) := fun z => e1022 z.2
            show Go _ _ _ _ _ _ _ _ _ _ _ _ _ _ _ _ _ (mkF K.m 271 #[.val (.int p0), .val (.int p1), .val (.int p2), .val (.int p3), .val (.int p4), .val (.ref t0), .val (.ref t1), .val (.ref t2), .val (.int (Int32.ofNat k)), .val (.int sel), .val (.ref tq), .val (.ref N), .val (.int g), .val (.int e1), .val (.int d2), .val (.int e2), .unset] [.int (0 : Int32)])
            refine go_ifeq d38_271 (fun c1025 => ?_) (fun c1025 => absurd (rfl) c1025)
            refine go_iconst (x := (-1 : Int32)) d38_281 (by decide) ?_
            refine go_istore d38_282 (l' := #[.val (.int p0), .val (.int p1), .val (.int p2), .val (.int p3), .val (.int p4), .val (.ref t0), .val (.ref t1), .val (.ref t2), .val (.int (Int32.ofNat k)), .val (.int sel), .val (.ref tq), .val (.ref N), .val (.int g), .val (.int e1), .val (.int d2), .val (.int e2), .val (.int (-1 : Int32))]) rfl ?_
            refine go_iload d38_284 rfl ?_
            refine go_iload d38_286 rfl ?_
            refine go_icmpne d38_288 (fun c1026 => absurd (hx.trans ((if_neg x1).trans ((if_neg x2).trans (if_neg x3)))) c1026) (fun c1026 => ?_)
            refine go_iconst (x := (1 : Int32)) d38_291 (by decide) ?_
            refine go_goto d38_292 ?_
            exact go_ireturn (ty := .boolean) (v := (1 : Int32)) d38_296 rfl (by simp) rfl rfl
      · have k2 : 2 ≤ k := by rcases Nat.lt_or_ge k 2 with q | q; exact absurd (ofNat_lt q (by omega)) c238; exact q
        refine go_aload d38_241 rfl rfl ?_
        refine go_aload d38_243 rfl rfl ?_
        refine go_virtual (R := ({ frames := 10, cells := 48, slots := 1472, locals := 208 } : Room)) (kc := 19) (ks := 1279) [.ref t1] [] (c_eq l Z a0 hw hEL tq t1 _ _ _ _ (Ne.symm n1q) S1017 h1 Fq F1 zc Oc Pc) Fq.1.1 (hw _ (List.mem_of_getElem? (i := 70) rfl)) (hw _ (List.mem_of_getElem? (i := 71) rfl)) (hw _ (List.mem_of_getElem? (i := 73) rfl)) (hw _ (List.mem_of_getElem? (i := 72) rfl)) (nfSel (hw _ (List.mem_of_getElem? (i := 73) rfl))) (hw _ (List.mem_of_getElem? (i := 74) rfl)) (hw _ (List.mem_of_getElem? (i := 6) rfl)) (by decide) rfl rfl (lenOf pd30 rfl) d38_245 (by rfl) (by decide) (Nat.le_of_ble_eq_true rfl) (rc := 0) (rs := 0) rfl rfl (fun S1027 v1027 h1027 m1027 z1027 q1027 => ?_)
        rcases q1027 with ⟨rfl, e1027, rfl⟩ | ⟨rfl, e1027, rfl⟩
        · show Go _ _ _ _ _ _ _ _ _ _ _ _ _ _ _ _ _ (mkF K.m 248 #[.val (.int p0), .val (.int p1), .val (.int p2), .val (.int p3), .val (.int p4), .val (.ref t0), .val (.ref t1), .val (.ref t2), .val (.int (Int32.ofNat k)), .val (.int sel), .val (.ref tq), .val (.ref N), .val (.int g), .val (.int e1), .val (.int d2), .val (.int e2), .unset] [.int (1 : Int32)])
          refine go_ifeq d38_248 (fun c1028 => absurd c1028 (by decide)) (fun c1028 => ?_)
          refine go_iload d38_251 rfl ?_
          refine go_istore d38_253 (l' := #[.val (.int p0), .val (.int p1), .val (.int p2), .val (.int p3), .val (.int p4), .val (.ref t0), .val (.ref t1), .val (.ref t2), .val (.int (Int32.ofNat k)), .val (.int sel), .val (.ref tq), .val (.ref N), .val (.int g), .val (.int e1), .val (.int d2), .val (.int e2), .val (.int e1)]) rfl ?_
          refine go_goto d38_255 ?_
          refine go_iload d38_284 rfl ?_
          refine go_iload d38_286 rfl ?_
          refine go_icmpne d38_288 (fun c1029 => absurd (hx.trans ((if_neg x1).trans ((if_pos ⟨k2, e1027⟩).trans he1.symm))) c1029) (fun c1029 => ?_)
          refine go_iconst (x := (1 : Int32)) d38_291 (by decide) ?_
          refine go_goto d38_292 ?_
          exact go_ireturn (ty := .boolean) (v := (1 : Int32)) d38_296 rfl (by simp) rfl rfl
        · have x2 : ¬ (2 ≤ k ∧ csq = cs1) := fun z => e1027 z.2
          show Go _ _ _ _ _ _ _ _ _ _ _ _ _ _ _ _ _ (mkF K.m 248 #[.val (.int p0), .val (.int p1), .val (.int p2), .val (.int p3), .val (.int p4), .val (.ref t0), .val (.ref t1), .val (.ref t2), .val (.int (Int32.ofNat k)), .val (.int sel), .val (.ref tq), .val (.ref N), .val (.int g), .val (.int e1), .val (.int d2), .val (.int e2), .unset] [.int (0 : Int32)])
          refine go_ifeq d38_248 (fun c1030 => ?_) (fun c1030 => absurd (rfl) c1030)
          refine go_iload d38_258 rfl ?_
          refine go_iconst (x := (3 : Int32)) d38_260 (by decide) ?_
          refine go_icmplt d38_261 (fun c261 => ?_) (fun c261 => ?_)
          · have x3 : ¬ (3 ≤ k ∧ csq = cs2) := fun z => absurd ((ofNat_lt_iff (n := 3) (by omega) (by omega)).mp c261) (by omega)
            refine go_iconst (x := (-1 : Int32)) d38_281 (by decide) ?_
            refine go_istore d38_282 (l' := #[.val (.int p0), .val (.int p1), .val (.int p2), .val (.int p3), .val (.int p4), .val (.ref t0), .val (.ref t1), .val (.ref t2), .val (.int (Int32.ofNat k)), .val (.int sel), .val (.ref tq), .val (.ref N), .val (.int g), .val (.int e1), .val (.int d2), .val (.int e2), .val (.int (-1 : Int32))]) rfl ?_
            refine go_iload d38_284 rfl ?_
            refine go_iload d38_286 rfl ?_
            refine go_icmpne d38_288 (fun c1031 => absurd (hx.trans ((if_neg x1).trans ((if_neg x2).trans (if_neg x3)))) c1031) (fun c1031 => ?_)
            refine go_iconst (x := (1 : Int32)) d38_291 (by decide) ?_
            refine go_goto d38_292 ?_
            exact go_ireturn (ty := .boolean) (v := (1 : Int32)) d38_296 rfl (by simp) rfl rfl
          · have k3 : 3 ≤ k := by rcases Nat.lt_or_ge k 3 with q | q; exact absurd (ofNat_lt q (by omega)) c261; exact q
            refine go_aload d38_264 rfl rfl ?_
            refine go_aload d38_266 rfl rfl ?_
            refine go_virtual (R := ({ frames := 10, cells := 48, slots := 1472, locals := 208 } : Room)) (kc := 19) (ks := 1279) [.ref t2] [] (c_eq l Z a0 hw hEL tq t2 _ _ _ _ (Ne.symm n2q) S1027 h1 Fq F2 zc Oc Pc) Fq.1.1 (hw _ (List.mem_of_getElem? (i := 70) rfl)) (hw _ (List.mem_of_getElem? (i := 71) rfl)) (hw _ (List.mem_of_getElem? (i := 73) rfl)) (hw _ (List.mem_of_getElem? (i := 72) rfl)) (nfSel (hw _ (List.mem_of_getElem? (i := 73) rfl))) (hw _ (List.mem_of_getElem? (i := 74) rfl)) (hw _ (List.mem_of_getElem? (i := 6) rfl)) (by decide) rfl rfl (lenOf pd30 rfl) d38_268 (by rfl) (by decide) (Nat.le_of_ble_eq_true rfl) (rc := 0) (rs := 0) rfl rfl (fun S1032 v1032 h1032 m1032 z1032 q1032 => ?_)
            rcases q1032 with ⟨rfl, e1032, rfl⟩ | ⟨rfl, e1032, rfl⟩
            · show Go _ _ _ _ _ _ _ _ _ _ _ _ _ _ _ _ _ (mkF K.m 271 #[.val (.int p0), .val (.int p1), .val (.int p2), .val (.int p3), .val (.int p4), .val (.ref t0), .val (.ref t1), .val (.ref t2), .val (.int (Int32.ofNat k)), .val (.int sel), .val (.ref tq), .val (.ref N), .val (.int g), .val (.int e1), .val (.int d2), .val (.int e2), .unset] [.int (1 : Int32)])
              refine go_ifeq d38_271 (fun c1033 => absurd c1033 (by decide)) (fun c1033 => ?_)
              refine go_iload d38_274 rfl ?_
              refine go_istore d38_276 (l' := #[.val (.int p0), .val (.int p1), .val (.int p2), .val (.int p3), .val (.int p4), .val (.ref t0), .val (.ref t1), .val (.ref t2), .val (.int (Int32.ofNat k)), .val (.int sel), .val (.ref tq), .val (.ref N), .val (.int g), .val (.int e1), .val (.int d2), .val (.int e2), .val (.int e2)]) rfl ?_
              refine go_goto d38_278 ?_
              refine go_iload d38_284 rfl ?_
              refine go_iload d38_286 rfl ?_
              refine go_icmpne d38_288 (fun c1034 => absurd (hx.trans ((if_neg x1).trans ((if_neg x2).trans ((if_pos ⟨k3, e1032⟩).trans he2.symm)))) c1034) (fun c1034 => ?_)
              refine go_iconst (x := (1 : Int32)) d38_291 (by decide) ?_
              refine go_goto d38_292 ?_
              exact go_ireturn (ty := .boolean) (v := (1 : Int32)) d38_296 rfl (by simp) rfl rfl
            · have x3 : ¬ (3 ≤ k ∧ csq = cs2) := fun z => e1032 z.2
              show Go _ _ _ _ _ _ _ _ _ _ _ _ _ _ _ _ _ (mkF K.m 271 #[.val (.int p0), .val (.int p1), .val (.int p2), .val (.int p3), .val (.int p4), .val (.ref t0), .val (.ref t1), .val (.ref t2), .val (.int (Int32.ofNat k)), .val (.int sel), .val (.ref tq), .val (.ref N), .val (.int g), .val (.int e1), .val (.int d2), .val (.int e2), .unset] [.int (0 : Int32)])
              refine go_ifeq d38_271 (fun c1035 => ?_) (fun c1035 => absurd (rfl) c1035)
              refine go_iconst (x := (-1 : Int32)) d38_281 (by decide) ?_
              refine go_istore d38_282 (l' := #[.val (.int p0), .val (.int p1), .val (.int p2), .val (.int p3), .val (.int p4), .val (.ref t0), .val (.ref t1), .val (.ref t2), .val (.int (Int32.ofNat k)), .val (.int sel), .val (.ref tq), .val (.ref N), .val (.int g), .val (.int e1), .val (.int d2), .val (.int e2), .val (.int (-1 : Int32))]) rfl ?_
              refine go_iload d38_284 rfl ?_
              refine go_iload d38_286 rfl ?_
              refine go_icmpne d38_288 (fun c1036 => absurd (hx.trans ((if_neg x1).trans ((if_neg x2).trans (if_neg x3)))) c1036) (fun c1036 => ?_)
              refine go_iconst (x := (1 : Int32)) d38_291 (by decide) ?_
              refine go_goto d38_292 ?_
              exact go_ireturn (ty := .boolean) (v := (1 : Int32)) d38_296 rfl (by simp) rfl rfl
theorem d38_133 : Dec code 133 (.aload 11) 2 135 := ⟨by decide +kernel, rfl⟩
theorem d38_135 : Dec code 135 (.aload 10) 2 137 := ⟨by decide +kernel, rfl⟩
theorem d38_137 : Dec code 137 (.invokevirtual 29) 3 140 := ⟨by decide +kernel, rfl⟩
theorem d38_140 : Dec code 140 (.istore 12) 2 142 := ⟨by decide +kernel, rfl⟩
theorem d38_142 : Dec code 142 (.aload 6) 2 144 := ⟨by decide +kernel, rfl⟩
theorem d38_144 : Dec code 144 (.aload 5) 2 146 := ⟨by decide +kernel, rfl⟩
theorem d38_146 : Dec code 146 (.invokevirtual 32) 3 149 := ⟨by decide +kernel, rfl⟩
theorem d38_149 : Brn code 149 (.ifCond .eq 7) 7 152 156 := ⟨by decide +kernel, rfl, by decide, by decide⟩
theorem d38_152 : Dec code 152 (.iconst 0) 1 153 := ⟨by decide +kernel, rfl⟩
theorem d38_153 : Brn code 153 (.goto 4) 4 156 157 := ⟨by decide +kernel, rfl, by decide, by decide⟩
theorem d38_157 : Dec code 157 (.istore 13) 2 159 := ⟨by decide +kernel, rfl⟩
theorem d38_159 : Dec code 159 (.aload 6) 2 161 := ⟨by decide +kernel, rfl⟩
theorem d38_161 : Dec code 161 (.aload 5) 2 163 := ⟨by decide +kernel, rfl⟩
theorem d38_163 : Dec code 163 (.invokevirtual 32) 3 166 := ⟨by decide +kernel, rfl⟩
theorem d38_166 : Brn code 166 (.ifCond .eq 7) 7 169 173 := ⟨by decide +kernel, rfl, by decide, by decide⟩
theorem d38_169 : Dec code 169 (.iconst 1) 1 170 := ⟨by decide +kernel, rfl⟩
theorem d38_170 : Brn code 170 (.goto 4) 4 173 174 := ⟨by decide +kernel, rfl, by decide, by decide⟩
theorem d38_174 : Dec code 174 (.istore 14) 2 176 := ⟨by decide +kernel, rfl⟩
theorem d38_176 : Dec code 176 (.aload 7) 2 178 := ⟨by decide +kernel, rfl⟩
theorem d38_178 : Dec code 178 (.aload 5) 2 180 := ⟨by decide +kernel, rfl⟩
theorem d38_180 : Dec code 180 (.invokevirtual 32) 3 183 := ⟨by decide +kernel, rfl⟩
theorem d38_183 : Brn code 183 (.ifCond .eq 9) 9 186 192 := ⟨by decide +kernel, rfl, by decide, by decide⟩
theorem d38_186 : Dec code 186 (.iconst 0) 1 187 := ⟨by decide +kernel, rfl⟩
theorem d38_187 : Dec code 187 (.istore 15) 2 189 := ⟨by decide +kernel, rfl⟩
theorem d38_189 : Brn code 189 (.goto 24) 24 192 213 := ⟨by decide +kernel, rfl, by decide, by decide⟩
theorem d38_192 : Dec code 192 (.aload 7) 2 194 := ⟨by decide +kernel, rfl⟩
theorem d38_194 : Dec code 194 (.aload 6) 2 196 := ⟨by decide +kernel, rfl⟩
theorem d38_196 : Dec code 196 (.invokevirtual 32) 3 199 := ⟨by decide +kernel, rfl⟩
theorem d38_199 : Brn code 199 (.ifCond .eq 10) 10 202 209 := ⟨by decide +kernel, rfl, by decide, by decide⟩
theorem d38_202 : Dec code 202 (.iload 13) 2 204 := ⟨by decide +kernel, rfl⟩
theorem d38_204 : Dec code 204 (.istore 15) 2 206 := ⟨by decide +kernel, rfl⟩
theorem d38_206 : Brn code 206 (.goto 7) 7 209 213 := ⟨by decide +kernel, rfl, by decide, by decide⟩
theorem d38_209 : Dec code 209 (.iload 14) 2 211 := ⟨by decide +kernel, rfl⟩
theorem d38_211 : Dec code 211 (.istore 15) 2 213 := ⟨by decide +kernel, rfl⟩
theorem d38_156 : Dec code 156 (.iconst 1) 1 157 := ⟨by decide +kernel, rfl⟩
theorem d38_173 : Dec code 173 (.iconst 2) 1 174 := ⟨by decide +kernel, rfl⟩
set_option maxRecDepth 65536 in
set_option maxHeartbeats 40000000 in
theorem g133 (l : Launch) (Z : State) (a0 : Array Value) (hw : ∀ d ∈ tables_1, d.before a0 Z = true) (hEL : EW Z a0 own_EL) (K : KT) (p0 p1 p2 p3 p4 : Int32) (t0 t1 t2 tq : Addr) (cs0 cs1 cs2 csq : List Int32) (b0 b1 b2 bq : Addr) (S1 : Addr → Prop) (h1 : Heap) (F0 : LS Z h1 t0 cs0 b0) (F1 : LS Z h1 t1 cs1 b1) (F2 : LS Z h1 t2 cs2 b2) (Fq : LS Z h1 tq csq bq) (n01 : t0 ≠ t1) (n02 : t0 ≠ t2) (n12 : t1 ≠ t2) (n0q : t0 ≠ tq) (n1q : t1 ≠ tq) (n2q : t2 ≠ tq) (hz : Z.heap.size ≤ h1.size) (gq : Z.heap.size ≤ tq) (sq : S1 tq) (k : Nat) (hk : k ≤ 3) (sel : Int32) (N ca ea ha ta : Addr) (ts : List (List Int32)) (chs es hs tb : List Int32) (sl : List Nat) (I : NI ts chs es hs tb sl) (H : NH Z h1 N ca ea ha ta chs es hs tb ts.length) (nNq : N ≠ tq) (hts : ts = own_ts k cs0 cs1 cs2) (zc : Int32) (Oc : Sta Z Z.heap "java/lang/String" "COMPACT_STRINGS" "Z" (.int zc)) (Pc : ¬ zc = 0) (sf : Value) (rsf : sf.isRef = true) (Os : Sta Z Z.heap "jdk/internal/util/Preconditions" "SIOOBE_FORMATTER" "Ljava/util/function/BiFunction;" sf) :
    Go l Z a0 own_EL room_1 x.cls code maxLocals ret x.name (fun _ => False) (fun S' v h' => v = some (.int (1 : Int32))) K 19 1279 S1 h1 (mkF K.m 133 #[.val (.int p0), .val (.int p1), .val (.int p2), .val (.int p3), .val (.int p4), .val (.ref t0), .val (.ref t1), .val (.ref t2), .val (.int (Int32.ofNat k)), .val (.int sel), .val (.ref tq), .val (.ref N), .unset, .unset, .unset, .unset, .unset] []) := by
  have nb0t0 : b0 ≠ t0 := F0.bytes.ne_exa F0.1.1 (hw _ (List.mem_of_getElem? (i := 5) rfl))
  have nb0t1 : b0 ≠ t1 := F0.bytes.ne_exa F1.1.1 (hw _ (List.mem_of_getElem? (i := 5) rfl))
  have nb0t2 : b0 ≠ t2 := F0.bytes.ne_exa F2.1.1 (hw _ (List.mem_of_getElem? (i := 5) rfl))
  have nb0tq : b0 ≠ tq := F0.bytes.ne_exa Fq.1.1 (hw _ (List.mem_of_getElem? (i := 5) rfl))
  have nb1t0 : b1 ≠ t0 := F1.bytes.ne_exa F0.1.1 (hw _ (List.mem_of_getElem? (i := 5) rfl))
  have nb1t1 : b1 ≠ t1 := F1.bytes.ne_exa F1.1.1 (hw _ (List.mem_of_getElem? (i := 5) rfl))
  have nb1t2 : b1 ≠ t2 := F1.bytes.ne_exa F2.1.1 (hw _ (List.mem_of_getElem? (i := 5) rfl))
  have nb1tq : b1 ≠ tq := F1.bytes.ne_exa Fq.1.1 (hw _ (List.mem_of_getElem? (i := 5) rfl))
  have nb2t0 : b2 ≠ t0 := F2.bytes.ne_exa F0.1.1 (hw _ (List.mem_of_getElem? (i := 5) rfl))
  have nb2t1 : b2 ≠ t1 := F2.bytes.ne_exa F1.1.1 (hw _ (List.mem_of_getElem? (i := 5) rfl))
  have nb2t2 : b2 ≠ t2 := F2.bytes.ne_exa F2.1.1 (hw _ (List.mem_of_getElem? (i := 5) rfl))
  have nb2tq : b2 ≠ tq := F2.bytes.ne_exa Fq.1.1 (hw _ (List.mem_of_getElem? (i := 5) rfl))
  have nbqt0 : bq ≠ t0 := Fq.bytes.ne_exa F0.1.1 (hw _ (List.mem_of_getElem? (i := 5) rfl))
  have nbqt1 : bq ≠ t1 := Fq.bytes.ne_exa F1.1.1 (hw _ (List.mem_of_getElem? (i := 5) rfl))
  have nbqt2 : bq ≠ t2 := Fq.bytes.ne_exa F2.1.1 (hw _ (List.mem_of_getElem? (i := 5) rfl))
  have nbqtq : bq ≠ tq := Fq.bytes.ne_exa Fq.1.1 (hw _ (List.mem_of_getElem? (i := 5) rfl))
  refine go_aload d38_133 rfl rfl ?_
  refine go_aload d38_135 rfl rfl ?_
  refine go_virtual (R := ({ frames := 10, cells := 48, slots := 1472, locals := 208 } : Room)) (kc := 19) (ks := 1279) [.ref tq] [] (c_find l Z a0 hw hEL N ca ea ha ta ts chs es hs tb sl tq _ _ S1 h1 (by omega) I H Fq (by omega) sq nNq zc Oc Pc sf rsf Os) H.1 (hw _ (List.mem_of_getElem? (i := 42) rfl)) (hw _ (List.mem_of_getElem? (i := 43) rfl)) (hw _ (List.mem_of_getElem? (i := 45) rfl)) (hw _ (List.mem_of_getElem? (i := 44) rfl)) (nfSel (hw _ (List.mem_of_getElem? (i := 45) rfl))) (hw _ (List.mem_of_getElem? (i := 46) rfl)) (hw _ (List.mem_of_getElem? (i := 28) rfl)) (by decide) rfl rfl (lenOf pd24 rfl) d38_137 (by rfl) (by decide) (Nat.le_of_ble_eq_true rfl) (rc := 0) (rs := 0) rfl rfl (fun S1001 v1001 h1001 m1001 z1001 q1001 => ?_)
  obtain ⟨hf, K1001, F1001⟩ := q1001
  obtain ⟨g, rfl, hg⟩ : ∃ g, v1001 = some (.int g) ∧ own_got ts csq g := by
    rcases hf with ⟨i, rfl, e⟩ | ⟨rfl, e⟩
    · exact ⟨_, rfl, Or.inl ⟨i, rfl, e⟩⟩
    · exact ⟨_, rfl, Or.inr ⟨rfl, e⟩⟩
  have hx := own_law hk I.nd hts hg
  have z1001 := K1001.1
  show Go _ _ _ _ _ _ _ _ _ _ _ _ _ _ _ _ _ (mkF K.m 140 #[.val (.int p0), .val (.int p1), .val (.int p2), .val (.int p3), .val (.int p4), .val (.ref t0), .val (.ref t1), .val (.ref t2), .val (.int (Int32.ofNat k)), .val (.int sel), .val (.ref tq), .val (.ref N), .unset, .unset, .unset, .unset, .unset] [.int g])
  refine go_istore d38_140 (l' := #[.val (.int p0), .val (.int p1), .val (.int p2), .val (.int p3), .val (.int p4), .val (.ref t0), .val (.ref t1), .val (.ref t2), .val (.int (Int32.ofNat k)), .val (.int sel), .val (.ref tq), .val (.ref N), .val (.int g), .unset, .unset, .unset, .unset]) rfl ?_
  refine go_aload d38_142 rfl rfl ?_
  refine go_aload d38_144 rfl rfl ?_
  have f1002 := (F1.keep K1001 (ninS n1q nin0) (ninS nb1tq nin0))
  have f1003 := (F0.keep K1001 (ninS n0q nin0) (ninS nb0tq nin0))
  have f1005 := (F1.1.keep K1001 (ninS n1q nin0) (ninS nb1tq nin0))
  refine go_virtual (R := ({ frames := 10, cells := 48, slots := 1472, locals := 208 } : Room)) (kc := 19) (ks := 1279) [.ref t0] [] (c_eq l Z a0 hw hEL t1 t0 _ _ _ _ (Ne.symm n01) S1001 h1001 f1002 f1003 zc Oc Pc) f1005.1 (hw _ (List.mem_of_getElem? (i := 70) rfl)) (hw _ (List.mem_of_getElem? (i := 71) rfl)) (hw _ (List.mem_of_getElem? (i := 73) rfl)) (hw _ (List.mem_of_getElem? (i := 72) rfl)) (nfSel (hw _ (List.mem_of_getElem? (i := 73) rfl))) (hw _ (List.mem_of_getElem? (i := 74) rfl)) (hw _ (List.mem_of_getElem? (i := 6) rfl)) (by decide) rfl rfl (lenOf pd30 rfl) d38_146 (by rfl) (by decide) (Nat.le_of_ble_eq_true rfl) (rc := 0) (rs := 0) rfl rfl (fun S1004 v1004 h1004 m1004 z1004 q1004 => ?_)
  rcases q1004 with ⟨rfl, e1004, rfl⟩ | ⟨rfl, e1004, rfl⟩
  · show Go _ _ _ _ _ _ _ _ _ _ _ _ _ _ _ _ _ (mkF K.m 149 #[.val (.int p0), .val (.int p1), .val (.int p2), .val (.int p3), .val (.int p4), .val (.ref t0), .val (.ref t1), .val (.ref t2), .val (.int (Int32.ofNat k)), .val (.int sel), .val (.ref tq), .val (.ref N), .val (.int g), .unset, .unset, .unset, .unset] [.int (1 : Int32)])
    refine go_ifeq d38_149 (fun c1006 => absurd c1006 (by decide)) (fun c1006 => ?_)
    refine go_iconst (x := (0 : Int32)) d38_152 (by decide) ?_
    refine go_goto d38_153 ?_
    refine go_istore d38_157 (l' := #[.val (.int p0), .val (.int p1), .val (.int p2), .val (.int p3), .val (.int p4), .val (.ref t0), .val (.ref t1), .val (.ref t2), .val (.int (Int32.ofNat k)), .val (.int sel), .val (.ref tq), .val (.ref N), .val (.int g), .val (.int (0 : Int32)), .unset, .unset, .unset]) rfl ?_
    refine go_aload d38_159 rfl rfl ?_
    refine go_aload d38_161 rfl rfl ?_
    refine go_virtual (R := ({ frames := 10, cells := 48, slots := 1472, locals := 208 } : Room)) (kc := 19) (ks := 1279) [.ref t0] [] (c_eq l Z a0 hw hEL t1 t0 _ _ _ _ (Ne.symm n01) S1004 h1001 f1002 f1003 zc Oc Pc) f1005.1 (hw _ (List.mem_of_getElem? (i := 70) rfl)) (hw _ (List.mem_of_getElem? (i := 71) rfl)) (hw _ (List.mem_of_getElem? (i := 73) rfl)) (hw _ (List.mem_of_getElem? (i := 72) rfl)) (nfSel (hw _ (List.mem_of_getElem? (i := 73) rfl))) (hw _ (List.mem_of_getElem? (i := 74) rfl)) (hw _ (List.mem_of_getElem? (i := 6) rfl)) (by decide) rfl rfl (lenOf pd30 rfl) d38_163 (by rfl) (by decide) (Nat.le_of_ble_eq_true rfl) (rc := 0) (rs := 0) rfl rfl (fun S1007 v1007 h1007 m1007 z1007 q1007 => ?_)
    have r1007 := q1007.resolve_right (fun q => q.2.1 e1004)
    obtain ⟨rfl, -, rfl⟩ := r1007
    show Go _ _ _ _ _ _ _ _ _ _ _ _ _ _ _ _ _ (mkF K.m 166 #[.val (.int p0), .val (.int p1), .val (.int p2), .val (.int p3), .val (.int p4), .val (.ref t0), .val (.ref t1), .val (.ref t2), .val (.int (Int32.ofNat k)), .val (.int sel), .val (.ref tq), .val (.ref N), .val (.int g), .val (.int (0 : Int32)), .unset, .unset, .unset] [.int (1 : Int32)])
    refine go_ifeq d38_166 (fun c1008 => absurd c1008 (by decide)) (fun c1008 => ?_)
    refine go_iconst (x := (1 : Int32)) d38_169 (by decide) ?_
    refine go_goto d38_170 ?_
    refine go_istore d38_174 (l' := #[.val (.int p0), .val (.int p1), .val (.int p2), .val (.int p3), .val (.int p4), .val (.ref t0), .val (.ref t1), .val (.ref t2), .val (.int (Int32.ofNat k)), .val (.int sel), .val (.ref tq), .val (.ref N), .val (.int g), .val (.int (0 : Int32)), .val (.int (1 : Int32)), .unset, .unset]) rfl ?_
    refine go_aload d38_176 rfl rfl ?_
    refine go_aload d38_178 rfl rfl ?_
    have f1009 := (F2.keep K1001 (ninS n2q nin0) (ninS nb2tq nin0))
    have f1011 := (F2.1.keep K1001 (ninS n2q nin0) (ninS nb2tq nin0))
    refine go_virtual (R := ({ frames := 10, cells := 48, slots := 1472, locals := 208 } : Room)) (kc := 19) (ks := 1279) [.ref t0] [] (c_eq l Z a0 hw hEL t2 t0 _ _ _ _ (Ne.symm n02) S1007 h1001 f1009 f1003 zc Oc Pc) f1011.1 (hw _ (List.mem_of_getElem? (i := 70) rfl)) (hw _ (List.mem_of_getElem? (i := 71) rfl)) (hw _ (List.mem_of_getElem? (i := 73) rfl)) (hw _ (List.mem_of_getElem? (i := 72) rfl)) (nfSel (hw _ (List.mem_of_getElem? (i := 73) rfl))) (hw _ (List.mem_of_getElem? (i := 74) rfl)) (hw _ (List.mem_of_getElem? (i := 6) rfl)) (by decide) rfl rfl (lenOf pd30 rfl) d38_180 (by rfl) (by decide) (Nat.le_of_ble_eq_true rfl) (rc := 0) (rs := 0) rfl rfl (fun S1010 v1010 h1010 m1010 z1010 q1010 => ?_)
    rcases q1010 with ⟨rfl, e1010, rfl⟩ | ⟨rfl, e1010, rfl⟩
    · show Go _ _ _ _ _ _ _ _ _ _ _ _ _ _ _ _ _ (mkF K.m 183 #[.val (.int p0), .val (.int p1), .val (.int p2), .val (.int p3), .val (.int p4), .val (.ref t0), .val (.ref t1), .val (.ref t2), .val (.int (Int32.ofNat k)), .val (.int sel), .val (.ref tq), .val (.ref N), .val (.int g), .val (.int (0 : Int32)), .val (.int (1 : Int32)), .unset, .unset] [.int (1 : Int32)])
      refine go_ifeq d38_183 (fun c1012 => absurd c1012 (by decide)) (fun c1012 => ?_)
      refine go_iconst (x := (0 : Int32)) d38_186 (by decide) ?_
      refine go_istore d38_187 (l' := #[.val (.int p0), .val (.int p1), .val (.int p2), .val (.int p3), .val (.int p4), .val (.ref t0), .val (.ref t1), .val (.ref t2), .val (.int (Int32.ofNat k)), .val (.int sel), .val (.ref tq), .val (.ref N), .val (.int g), .val (.int (0 : Int32)), .val (.int (1 : Int32)), .val (.int (0 : Int32)), .unset]) rfl ?_
      refine go_goto d38_189 ?_
      exact g213 l Z a0 hw hEL K p0 p1 p2 p3 p4 t0 t1 t2 tq cs0 cs1 cs2 csq b0 b1 b2 bq S1010 h1001 f1003 f1002 f1009 F1001 n01 n02 n12 n0q n1q n2q k hk sel g (0 : Int32) (1 : Int32) (0 : Int32) N hx (if_pos e1004).symm (if_pos e1010).symm zc Oc Pc
    · show Go _ _ _ _ _ _ _ _ _ _ _ _ _ _ _ _ _ (mkF K.m 183 #[.val (.int p0), .val (.int p1), .val (.int p2), .val (.int p3), .val (.int p4), .val (.ref t0), .val (.ref t1), .val (.ref t2), .val (.int (Int32.ofNat k)), .val (.int sel), .val (.ref tq), .val (.ref N), .val (.int g), .val (.int (0 : Int32)), .val (.int (1 : Int32)), .unset, .unset] [.int (0 : Int32)])
      refine go_ifeq d38_183 (fun c1013 => ?_) (fun c1013 => absurd (rfl) c1013)
      refine go_aload d38_192 rfl rfl ?_
      refine go_aload d38_194 rfl rfl ?_
      refine go_virtual (R := ({ frames := 10, cells := 48, slots := 1472, locals := 208 } : Room)) (kc := 19) (ks := 1279) [.ref t1] [] (c_eq l Z a0 hw hEL t2 t1 _ _ _ _ (Ne.symm n12) S1010 h1001 f1009 f1002 zc Oc Pc) f1011.1 (hw _ (List.mem_of_getElem? (i := 70) rfl)) (hw _ (List.mem_of_getElem? (i := 71) rfl)) (hw _ (List.mem_of_getElem? (i := 73) rfl)) (hw _ (List.mem_of_getElem? (i := 72) rfl)) (nfSel (hw _ (List.mem_of_getElem? (i := 73) rfl))) (hw _ (List.mem_of_getElem? (i := 74) rfl)) (hw _ (List.mem_of_getElem? (i := 6) rfl)) (by decide) rfl rfl (lenOf pd30 rfl) d38_196 (by rfl) (by decide) (Nat.le_of_ble_eq_true rfl) (rc := 0) (rs := 0) rfl rfl (fun S1014 v1014 h1014 m1014 z1014 q1014 => ?_)
      rcases q1014 with ⟨rfl, e1014, rfl⟩ | ⟨rfl, e1014, rfl⟩
      · show Go _ _ _ _ _ _ _ _ _ _ _ _ _ _ _ _ _ (mkF K.m 199 #[.val (.int p0), .val (.int p1), .val (.int p2), .val (.int p3), .val (.int p4), .val (.ref t0), .val (.ref t1), .val (.ref t2), .val (.int (Int32.ofNat k)), .val (.int sel), .val (.ref tq), .val (.ref N), .val (.int g), .val (.int (0 : Int32)), .val (.int (1 : Int32)), .unset, .unset] [.int (1 : Int32)])
        refine go_ifeq d38_199 (fun c1015 => absurd c1015 (by decide)) (fun c1015 => ?_)
        refine go_iload d38_202 rfl ?_
        refine go_istore d38_204 (l' := #[.val (.int p0), .val (.int p1), .val (.int p2), .val (.int p3), .val (.int p4), .val (.ref t0), .val (.ref t1), .val (.ref t2), .val (.int (Int32.ofNat k)), .val (.int sel), .val (.ref tq), .val (.ref N), .val (.int g), .val (.int (0 : Int32)), .val (.int (1 : Int32)), .val (.int (0 : Int32)), .unset]) rfl ?_
        refine go_goto d38_206 ?_
        exact g213 l Z a0 hw hEL K p0 p1 p2 p3 p4 t0 t1 t2 tq cs0 cs1 cs2 csq b0 b1 b2 bq S1014 h1001 f1003 f1002 f1009 F1001 n01 n02 n12 n0q n1q n2q k hk sel g (0 : Int32) (1 : Int32) (0 : Int32) N hx (if_pos e1004).symm ((if_neg e1010).trans ((if_pos e1014).trans (if_pos e1004).symm.symm)).symm zc Oc Pc
      · show Go _ _ _ _ _ _ _ _ _ _ _ _ _ _ _ _ _ (mkF K.m 199 #[.val (.int p0), .val (.int p1), .val (.int p2), .val (.int p3), .val (.int p4), .val (.ref t0), .val (.ref t1), .val (.ref t2), .val (.int (Int32.ofNat k)), .val (.int sel), .val (.ref tq), .val (.ref N), .val (.int g), .val (.int (0 : Int32)), .val (.int (1 : Int32)), .unset, .unset] [.int (0 : Int32)])
        refine go_ifeq d38_199 (fun c1016 => ?_) (fun c1016 => absurd (rfl) c1016)
        refine go_iload d38_209 rfl ?_
        refine go_istore d38_211 (l' := #[.val (.int p0), .val (.int p1), .val (.int p2), .val (.int p3), .val (.int p4), .val (.ref t0), .val (.ref t1), .val (.ref t2), .val (.int (Int32.ofNat k)), .val (.int sel), .val (.ref tq), .val (.ref N), .val (.int g), .val (.int (0 : Int32)), .val (.int (1 : Int32)), .val (.int (1 : Int32)), .unset]) rfl ?_
        exact g213 l Z a0 hw hEL K p0 p1 p2 p3 p4 t0 t1 t2 tq cs0 cs1 cs2 csq b0 b1 b2 bq S1014 h1001 f1003 f1002 f1009 F1001 n01 n02 n12 n0q n1q n2q k hk sel g (0 : Int32) (1 : Int32) (1 : Int32) N hx (if_pos e1004).symm ((if_neg e1010).trans ((if_neg e1014).trans (if_pos e1004).symm.symm)).symm zc Oc Pc
  · show Go _ _ _ _ _ _ _ _ _ _ _ _ _ _ _ _ _ (mkF K.m 149 #[.val (.int p0), .val (.int p1), .val (.int p2), .val (.int p3), .val (.int p4), .val (.ref t0), .val (.ref t1), .val (.ref t2), .val (.int (Int32.ofNat k)), .val (.int sel), .val (.ref tq), .val (.ref N), .val (.int g), .unset, .unset, .unset, .unset] [.int (0 : Int32)])
    refine go_ifeq d38_149 (fun c1017 => ?_) (fun c1017 => absurd (rfl) c1017)
    refine go_iconst (x := (1 : Int32)) d38_156 (by decide) ?_
    refine go_istore d38_157 (l' := #[.val (.int p0), .val (.int p1), .val (.int p2), .val (.int p3), .val (.int p4), .val (.ref t0), .val (.ref t1), .val (.ref t2), .val (.int (Int32.ofNat k)), .val (.int sel), .val (.ref tq), .val (.ref N), .val (.int g), .val (.int (1 : Int32)), .unset, .unset, .unset]) rfl ?_
    refine go_aload d38_159 rfl rfl ?_
    refine go_aload d38_161 rfl rfl ?_
    refine go_virtual (R := ({ frames := 10, cells := 48, slots := 1472, locals := 208 } : Room)) (kc := 19) (ks := 1279) [.ref t0] [] (c_eq l Z a0 hw hEL t1 t0 _ _ _ _ (Ne.symm n01) S1004 h1001 f1002 f1003 zc Oc Pc) f1005.1 (hw _ (List.mem_of_getElem? (i := 70) rfl)) (hw _ (List.mem_of_getElem? (i := 71) rfl)) (hw _ (List.mem_of_getElem? (i := 73) rfl)) (hw _ (List.mem_of_getElem? (i := 72) rfl)) (nfSel (hw _ (List.mem_of_getElem? (i := 73) rfl))) (hw _ (List.mem_of_getElem? (i := 74) rfl)) (hw _ (List.mem_of_getElem? (i := 6) rfl)) (by decide) rfl rfl (lenOf pd30 rfl) d38_163 (by rfl) (by decide) (Nat.le_of_ble_eq_true rfl) (rc := 0) (rs := 0) rfl rfl (fun S1018 v1018 h1018 m1018 z1018 q1018 => ?_)
    have r1018 := q1018.resolve_left (fun q => e1004 q.2.1)
    obtain ⟨rfl, -, rfl⟩ := r1018
    show Go _ _ _ _ _ _ _ _ _ _ _ _ _ _ _ _ _ (mkF K.m 166 #[.val (.int p0), .val (.int p1), .val (.int p2), .val (.int p3), .val (.int p4), .val (.ref t0), .val (.ref t1), .val (.ref t2), .val (.int (Int32.ofNat k)), .val (.int sel), .val (.ref tq), .val (.ref N), .val (.int g), .val (.int (1 : Int32)), .unset, .unset, .unset] [.int (0 : Int32)])
    refine go_ifeq d38_166 (fun c1019 => ?_) (fun c1019 => absurd (rfl) c1019)
    refine go_iconst (x := (2 : Int32)) d38_173 (by decide) ?_
    refine go_istore d38_174 (l' := #[.val (.int p0), .val (.int p1), .val (.int p2), .val (.int p3), .val (.int p4), .val (.ref t0), .val (.ref t1), .val (.ref t2), .val (.int (Int32.ofNat k)), .val (.int sel), .val (.ref tq), .val (.ref N), .val (.int g), .val (.int (1 : Int32)), .val (.int (2 : Int32)), .unset, .unset]) rfl ?_
    refine go_aload d38_176 rfl rfl ?_
    refine go_aload d38_178 rfl rfl ?_
    have f1020 := (F2.keep K1001 (ninS n2q nin0) (ninS nb2tq nin0))
    have f1022 := (F2.1.keep K1001 (ninS n2q nin0) (ninS nb2tq nin0))
    refine go_virtual (R := ({ frames := 10, cells := 48, slots := 1472, locals := 208 } : Room)) (kc := 19) (ks := 1279) [.ref t0] [] (c_eq l Z a0 hw hEL t2 t0 _ _ _ _ (Ne.symm n02) S1018 h1001 f1020 f1003 zc Oc Pc) f1022.1 (hw _ (List.mem_of_getElem? (i := 70) rfl)) (hw _ (List.mem_of_getElem? (i := 71) rfl)) (hw _ (List.mem_of_getElem? (i := 73) rfl)) (hw _ (List.mem_of_getElem? (i := 72) rfl)) (nfSel (hw _ (List.mem_of_getElem? (i := 73) rfl))) (hw _ (List.mem_of_getElem? (i := 74) rfl)) (hw _ (List.mem_of_getElem? (i := 6) rfl)) (by decide) rfl rfl (lenOf pd30 rfl) d38_180 (by rfl) (by decide) (Nat.le_of_ble_eq_true rfl) (rc := 0) (rs := 0) rfl rfl (fun S1021 v1021 h1021 m1021 z1021 q1021 => ?_)
    rcases q1021 with ⟨rfl, e1021, rfl⟩ | ⟨rfl, e1021, rfl⟩
    · show Go _ _ _ _ _ _ _ _ _ _ _ _ _ _ _ _ _ (mkF K.m 183 #[.val (.int p0), .val (.int p1), .val (.int p2), .val (.int p3), .val (.int p4), .val (.ref t0), .val (.ref t1), .val (.ref t2), .val (.int (Int32.ofNat k)), .val (.int sel), .val (.ref tq), .val (.ref N), .val (.int g), .val (.int (1 : Int32)), .val (.int (2 : Int32)), .unset, .unset] [.int (1 : Int32)])
      refine go_ifeq d38_183 (fun c1023 => absurd c1023 (by decide)) (fun c1023 => ?_)
      refine go_iconst (x := (0 : Int32)) d38_186 (by decide) ?_
      refine go_istore d38_187 (l' := #[.val (.int p0), .val (.int p1), .val (.int p2), .val (.int p3), .val (.int p4), .val (.ref t0), .val (.ref t1), .val (.ref t2), .val (.int (Int32.ofNat k)), .val (.int sel), .val (.ref tq), .val (.ref N), .val (.int g), .val (.int (1 : Int32)), .val (.int (2 : Int32)), .val (.int (0 : Int32)), .unset]) rfl ?_
      refine go_goto d38_189 ?_
      exact g213 l Z a0 hw hEL K p0 p1 p2 p3 p4 t0 t1 t2 tq cs0 cs1 cs2 csq b0 b1 b2 bq S1021 h1001 f1003 f1002 f1020 F1001 n01 n02 n12 n0q n1q n2q k hk sel g (1 : Int32) (2 : Int32) (0 : Int32) N hx (if_neg e1004).symm (if_pos e1021).symm zc Oc Pc
    · show Go _ _ _ _ _ _ _ _ _ _ _ _ _ _ _ _ _ (mkF K.m 183 #[.val (.int p0), .val (.int p1), .val (.int p2), .val (.int p3), .val (.int p4), .val (.ref t0), .val (.ref t1), .val (.ref t2), .val (.int (Int32.ofNat k)), .val (.int sel), .val (.ref tq), .val (.ref N), .val (.int g), .val (.int (1 : Int32)), .val (.int (2 : Int32)), .unset, .unset] [.int (0 : Int32)])
      refine go_ifeq d38_183 (fun c1024 => ?_) (fun c1024 => absurd (rfl) c1024)
      refine go_aload d38_192 rfl rfl ?_
      refine go_aload d38_194 rfl rfl ?_
      refine go_virtual (R := ({ frames := 10, cells := 48, slots := 1472, locals := 208 } : Room)) (kc := 19) (ks := 1279) [.ref t1] [] (c_eq l Z a0 hw hEL t2 t1 _ _ _ _ (Ne.symm n12) S1021 h1001 f1020 f1002 zc Oc Pc) f1022.1 (hw _ (List.mem_of_getElem? (i := 70) rfl)) (hw _ (List.mem_of_getElem? (i := 71) rfl)) (hw _ (List.mem_of_getElem? (i := 73) rfl)) (hw _ (List.mem_of_getElem? (i := 72) rfl)) (nfSel (hw _ (List.mem_of_getElem? (i := 73) rfl))) (hw _ (List.mem_of_getElem? (i := 74) rfl)) (hw _ (List.mem_of_getElem? (i := 6) rfl)) (by decide) rfl rfl (lenOf pd30 rfl) d38_196 (by rfl) (by decide) (Nat.le_of_ble_eq_true rfl) (rc := 0) (rs := 0) rfl rfl (fun S1025 v1025 h1025 m1025 z1025 q1025 => ?_)
      rcases q1025 with ⟨rfl, e1025, rfl⟩ | ⟨rfl, e1025, rfl⟩
      · show Go _ _ _ _ _ _ _ _ _ _ _ _ _ _ _ _ _ (mkF K.m 199 #[.val (.int p0), .val (.int p1), .val (.int p2), .val (.int p3), .val (.int p4), .val (.ref t0), .val (.ref t1), .val (.ref t2), .val (.int (Int32.ofNat k)), .val (.int sel), .val (.ref tq), .val (.ref N), .val (.int g), .val (.int (1 : Int32)), .val (.int (2 : Int32)), .unset, .unset] [.int (1 : Int32)])
        refine go_ifeq d38_199 (fun c1026 => absurd c1026 (by decide)) (fun c1026 => ?_)
        refine go_iload d38_202 rfl ?_
        refine go_istore d38_204 (l' := #[.val (.int p0), .val (.int p1), .val (.int p2), .val (.int p3), .val (.int p4), .val (.ref t0), .val (.ref t1), .val (.ref t2), .val (.int (Int32.ofNat k)), .val (.int sel), .val (.ref tq), .val (.ref N), .val (.int g), .val (.int (1 : Int32)), .val (.int (2 : Int32)), .val (.int (1 : Int32)), .unset]) rfl ?_
        refine go_goto d38_206 ?_
        exact g213 l Z a0 hw hEL K p0 p1 p2 p3 p4 t0 t1 t2 tq cs0 cs1 cs2 csq b0 b1 b2 bq S1025 h1001 f1003 f1002 f1020 F1001 n01 n02 n12 n0q n1q n2q k hk sel g (1 : Int32) (2 : Int32) (1 : Int32) N hx (if_neg e1004).symm ((if_neg e1021).trans ((if_pos e1025).trans (if_neg e1004).symm.symm)).symm zc Oc Pc
      · show Go _ _ _ _ _ _ _ _ _ _ _ _ _ _ _ _ _ (mkF K.m 199 #[.val (.int p0), .val (.int p1), .val (.int p2), .val (.int p3), .val (.int p4), .val (.ref t0), .val (.ref t1), .val (.ref t2), .val (.int (Int32.ofNat k)), .val (.int sel), .val (.ref tq), .val (.ref N), .val (.int g), .val (.int (1 : Int32)), .val (.int (2 : Int32)), .unset, .unset] [.int (0 : Int32)])
        refine go_ifeq d38_199 (fun c1027 => ?_) (fun c1027 => absurd (rfl) c1027)
        refine go_iload d38_209 rfl ?_
        refine go_istore d38_211 (l' := #[.val (.int p0), .val (.int p1), .val (.int p2), .val (.int p3), .val (.int p4), .val (.ref t0), .val (.ref t1), .val (.ref t2), .val (.int (Int32.ofNat k)), .val (.int sel), .val (.ref tq), .val (.ref N), .val (.int g), .val (.int (1 : Int32)), .val (.int (2 : Int32)), .val (.int (2 : Int32)), .unset]) rfl ?_
        exact g213 l Z a0 hw hEL K p0 p1 p2 p3 p4 t0 t1 t2 tq cs0 cs1 cs2 csq b0 b1 b2 bq S1025 h1001 f1003 f1002 f1020 F1001 n01 n02 n12 n0q n1q n2q k hk sel g (1 : Int32) (2 : Int32) (2 : Int32) N hx (if_neg e1004).symm ((if_neg e1021).trans ((if_neg e1025).trans (if_neg e1004).symm.symm)).symm zc Oc Pc
theorem d38_82 : Dec code 82 (.new 22) 3 85 := ⟨by decide +kernel, rfl⟩
theorem d38_85 : Dec code 85 (.dup) 1 86 := ⟨by decide +kernel, rfl⟩
theorem d38_86 : Dec code 86 (.invokespecial 24) 3 89 := ⟨by decide +kernel, rfl⟩
theorem pd31 : parseMethodDescriptor "()V" = some ⟨[], none⟩ := by decide +kernel
theorem d38_89 : Dec code 89 (.astore 11) 2 91 := ⟨by decide +kernel, rfl⟩
theorem d38_91 : Dec code 91 (.iload 8) 2 93 := ⟨by decide +kernel, rfl⟩
theorem d38_93 : Dec code 93 (.iconst 1) 1 94 := ⟨by decide +kernel, rfl⟩
theorem d38_94 : Brn code 94 (.if_icmp .lt 11) 11 97 105 := ⟨by decide +kernel, rfl, by decide, by decide⟩
theorem d38_105 : Dec code 105 (.iload 8) 2 107 := ⟨by decide +kernel, rfl⟩
theorem d38_107 : Dec code 107 (.iconst 2) 1 108 := ⟨by decide +kernel, rfl⟩
theorem d38_108 : Brn code 108 (.if_icmp .lt 11) 11 111 119 := ⟨by decide +kernel, rfl, by decide, by decide⟩
theorem d38_119 : Dec code 119 (.iload 8) 2 121 := ⟨by decide +kernel, rfl⟩
theorem d38_121 : Dec code 121 (.iconst 3) 1 122 := ⟨by decide +kernel, rfl⟩
theorem d38_122 : Brn code 122 (.if_icmp .lt 11) 11 125 133 := ⟨by decide +kernel, rfl, by decide, by decide⟩
theorem d38_97 : Dec code 97 (.aload 11) 2 99 := ⟨by decide +kernel, rfl⟩
theorem d38_99 : Dec code 99 (.aload 5) 2 101 := ⟨by decide +kernel, rfl⟩
theorem d38_101 : Dec code 101 (.invokevirtual 25) 3 104 := ⟨by decide +kernel, rfl⟩
theorem d38_104 : Dec code 104 (.pop) 1 105 := ⟨by decide +kernel, rfl⟩
theorem d38_111 : Dec code 111 (.aload 11) 2 113 := ⟨by decide +kernel, rfl⟩
theorem d38_113 : Dec code 113 (.aload 6) 2 115 := ⟨by decide +kernel, rfl⟩
theorem d38_115 : Dec code 115 (.invokevirtual 25) 3 118 := ⟨by decide +kernel, rfl⟩
theorem d38_118 : Dec code 118 (.pop) 1 119 := ⟨by decide +kernel, rfl⟩
theorem d38_125 : Dec code 125 (.aload 11) 2 127 := ⟨by decide +kernel, rfl⟩
theorem d38_127 : Dec code 127 (.aload 7) 2 129 := ⟨by decide +kernel, rfl⟩
theorem d38_129 : Dec code 129 (.invokevirtual 25) 3 132 := ⟨by decide +kernel, rfl⟩
theorem d38_132 : Dec code 132 (.pop) 1 133 := ⟨by decide +kernel, rfl⟩
set_option maxRecDepth 65536 in
set_option maxHeartbeats 40000000 in
theorem g82 (l : Launch) (Z : State) (a0 : Array Value) (hw : ∀ d ∈ tables_1, d.before a0 Z = true) (hEL : EW Z a0 own_EL) (K : KT) (p0 p1 p2 p3 p4 : Int32) (t0 t1 t2 tq : Addr) (cs0 cs1 cs2 csq : List Int32) (b0 b1 b2 bq : Addr) (S1 : Addr → Prop) (h1 : Heap) (F0 : LS Z h1 t0 cs0 b0) (F1 : LS Z h1 t1 cs1 b1) (F2 : LS Z h1 t2 cs2 b2) (Fq : LS Z h1 tq csq bq) (n01 : t0 ≠ t1) (n02 : t0 ≠ t2) (n12 : t1 ≠ t2) (n0q : t0 ≠ tq) (n1q : t1 ≠ tq) (n2q : t2 ≠ tq) (hz : Z.heap.size ≤ h1.size) (gt0 : Z.heap.size ≤ t0) (gt1 : Z.heap.size ≤ t1) (gt2 : Z.heap.size ≤ t2) (gtq : Z.heap.size ≤ tq) (st0 : S1 t0) (st1 : S1 t1) (st2 : S1 t2) (stq : S1 tq) (sel : Int32) (zc : Int32) (Oc : Sta Z Z.heap "java/lang/String" "COMPACT_STRINGS" "Z" (.int zc)) (Pc : ¬ zc = 0) (sf : Value) (rsf : sf.isRef = true) (Os : Sta Z Z.heap "jdk/internal/util/Preconditions" "SIOOBE_FORMATTER" "Ljava/util/function/BiFunction;" sf) :
    Go l Z a0 own_EL room_1 x.cls code maxLocals ret x.name (fun _ => False) (fun S' v h' => v = some (.int (1 : Int32))) K 24 1412 S1 h1 (mkF K.m 82 #[.val (.int p0), .val (.int p1), .val (.int p2), .val (.int p3), .val (.int p4), .val (.ref t0), .val (.ref t1), .val (.ref t2), .val (.int (p4 &&& (3 : Int32))), .val (.int sel), .val (.ref tq), .unset, .unset, .unset, .unset, .unset, .unset] []) := by
  have nb0t0 : b0 ≠ t0 := F0.bytes.ne_exa F0.1.1 (hw _ (List.mem_of_getElem? (i := 5) rfl))
  have nb0t1 : b0 ≠ t1 := F0.bytes.ne_exa F1.1.1 (hw _ (List.mem_of_getElem? (i := 5) rfl))
  have nb0t2 : b0 ≠ t2 := F0.bytes.ne_exa F2.1.1 (hw _ (List.mem_of_getElem? (i := 5) rfl))
  have nb0tq : b0 ≠ tq := F0.bytes.ne_exa Fq.1.1 (hw _ (List.mem_of_getElem? (i := 5) rfl))
  have nb1t0 : b1 ≠ t0 := F1.bytes.ne_exa F0.1.1 (hw _ (List.mem_of_getElem? (i := 5) rfl))
  have nb1t1 : b1 ≠ t1 := F1.bytes.ne_exa F1.1.1 (hw _ (List.mem_of_getElem? (i := 5) rfl))
  have nb1t2 : b1 ≠ t2 := F1.bytes.ne_exa F2.1.1 (hw _ (List.mem_of_getElem? (i := 5) rfl))
  have nb1tq : b1 ≠ tq := F1.bytes.ne_exa Fq.1.1 (hw _ (List.mem_of_getElem? (i := 5) rfl))
  have nb2t0 : b2 ≠ t0 := F2.bytes.ne_exa F0.1.1 (hw _ (List.mem_of_getElem? (i := 5) rfl))
  have nb2t1 : b2 ≠ t1 := F2.bytes.ne_exa F1.1.1 (hw _ (List.mem_of_getElem? (i := 5) rfl))
  have nb2t2 : b2 ≠ t2 := F2.bytes.ne_exa F2.1.1 (hw _ (List.mem_of_getElem? (i := 5) rfl))
  have nb2tq : b2 ≠ tq := F2.bytes.ne_exa Fq.1.1 (hw _ (List.mem_of_getElem? (i := 5) rfl))
  have nbqt0 : bq ≠ t0 := Fq.bytes.ne_exa F0.1.1 (hw _ (List.mem_of_getElem? (i := 5) rfl))
  have nbqt1 : bq ≠ t1 := Fq.bytes.ne_exa F1.1.1 (hw _ (List.mem_of_getElem? (i := 5) rfl))
  have nbqt2 : bq ≠ t2 := Fq.bytes.ne_exa F2.1.1 (hw _ (List.mem_of_getElem? (i := 5) rfl))
  have nbqtq : bq ≠ tq := Fq.bytes.ne_exa Fq.1.1 (hw _ (List.mem_of_getElem? (i := 5) rfl))
  have lt0 := lt_nat F0.1.lx
  have lb0 := lt_nat F0.1.lb
  have lt1 := lt_nat F1.1.lx
  have lb1 := lt_nat F1.1.lb
  have lt2 := lt_nat F2.1.lx
  have lb2 := lt_nat F2.1.lb
  have ltq := lt_nat Fq.1.lx
  have lbq := lt_nat Fq.1.lb
  refine go_new (kc := 23) (ks := 1407) (hw _ (List.mem_of_getElem? (i := 26) rfl)) (hw _ (List.mem_of_getElem? (i := 27) rfl)) (hw _ (List.mem_of_getElem? (i := 28) rfl)) d38_82 (fun S1001 h1001 a1001 e1001 m1001 s1001 x1001 l1001 p1001 => ?_)
  have z1001 := x1001.1
  refine go_dup d38_85 rfl ?_
  refine go_special (R := ({ frames := 10, cells := 48, slots := 1472, locals := 208 } : Room)) (kc := 19) (ks := 1279) [] [.ref a1001] (c_nini l Z a0 hw hEL a1001 S1001 h1001 (by omega) (by omega) p1001.1 (p1001.2 (Or.inl (hw _ (List.mem_of_getElem? (i := 34) rfl))) (ty := (.array .char)) (by decide)) (p1001.2 (Or.inl (hw _ (List.mem_of_getElem? (i := 37) rfl))) (ty := (.array .int)) (by decide)) (p1001.2 (Or.inl (hw _ (List.mem_of_getElem? (i := 39) rfl))) (ty := (.array .int)) (by decide)) (p1001.2 (Or.inl (hw _ (List.mem_of_getElem? (i := 41) rfl))) (ty := (.array .int)) (by decide)) (p1001.2 (Or.inl (hw _ (List.mem_of_getElem? (i := 90) rfl))) (ty := .int) (by decide))) (hw _ (List.mem_of_getElem? (i := 29) rfl)) (hw _ (List.mem_of_getElem? (i := 30) rfl)) (hw _ (List.mem_of_getElem? (i := 31) rfl)) (hw _ (List.mem_of_getElem? (i := 28) rfl)) rfl (by decide) rfl rfl (lenOf pd31 rfl) d38_86 (by rfl) (by decide) (Nat.le_of_ble_eq_true rfl) (rc := 4) (rs := 128) rfl rfl (fun S1002 v1002 h1002 m1002 z1002 q1002 => ?_)
  obtain ⟨rfl, K1002, ca, ea, ha, ta, H1002, gca, gea, gha, gta⟩ := q1002
  have z1002 := K1002.1
  show Go _ _ _ _ _ _ _ _ _ _ _ _ _ _ _ _ _ (mkF K.m 89 #[.val (.int p0), .val (.int p1), .val (.int p2), .val (.int p3), .val (.int p4), .val (.ref t0), .val (.ref t1), .val (.ref t2), .val (.int (p4 &&& (3 : Int32))), .val (.int sel), .val (.ref tq), .unset, .unset, .unset, .unset, .unset, .unset] [.ref a1001])
  refine go_astore d38_89 rfl (l' := #[.val (.int p0), .val (.int p1), .val (.int p2), .val (.int p3), .val (.int p4), .val (.ref t0), .val (.ref t1), .val (.ref t2), .val (.int (p4 &&& (3 : Int32))), .val (.int sel), .val (.ref tq), .val (.ref a1001), .unset, .unset, .unset, .unset, .unset]) rfl ?_
  rcases own_mod4 p4 with hn | hn | hn | hn
  · rw [hn]
    refine go_iload d38_91 rfl ?_
    refine go_iconst (x := (1 : Int32)) d38_93 (by decide) ?_
    refine go_icmplt d38_94 (fun c1003 => ?_) (fun c1003 => absurd (by decide) c1003)
    refine go_iload d38_105 rfl ?_
    refine go_iconst (x := (2 : Int32)) d38_107 (by decide) ?_
    refine go_icmplt d38_108 (fun c1004 => ?_) (fun c1004 => absurd (by decide) c1004)
    refine go_iload d38_119 rfl ?_
    refine go_iconst (x := (3 : Int32)) d38_121 (by decide) ?_
    refine go_icmplt d38_122 (fun c1005 => ?_) (fun c1005 => absurd (by decide) c1005)
    have f1006 := ((F0.ext x1001).keep K1002 (ninS (ne_of (a := t0) (b := a1001) (by omega)) nin0) (ninS (ne_of (a := b0) (b := a1001) (by omega)) nin0))
    have f1007 := ((F1.ext x1001).keep K1002 (ninS (ne_of (a := t1) (b := a1001) (by omega)) nin0) (ninS (ne_of (a := b1) (b := a1001) (by omega)) nin0))
    have f1008 := ((F2.ext x1001).keep K1002 (ninS (ne_of (a := t2) (b := a1001) (by omega)) nin0) (ninS (ne_of (a := b2) (b := a1001) (by omega)) nin0))
    have f1009 := ((Fq.ext x1001).keep K1002 (ninS (ne_of (a := tq) (b := a1001) (by omega)) nin0) (ninS (ne_of (a := bq) (b := a1001) (by omega)) nin0))
    exact g133 l Z a0 hw hEL K p0 p1 p2 p3 p4 t0 t1 t2 tq cs0 cs1 cs2 csq b0 b1 b2 bq S1002 h1002 f1006 f1007 f1008 f1009 n01 n02 n12 n0q n1q n2q (by omega) gtq (m1002 _ (m1001 _ stq)) 0 (by decide) sel a1001 ca ea ha ta ([]) (List.replicate 64 0) (List.replicate 16 0) (List.replicate 16 0) (List.replicate 32 0) ([]) NI.start H1002 (ne_of (a := a1001) (b := tq) (by omega)) rfl zc Oc Pc sf rsf Os
  · rw [hn]
    refine go_iload d38_91 rfl ?_
    refine go_iconst (x := (1 : Int32)) d38_93 (by decide) ?_
    refine go_icmplt d38_94 (fun c1010 => absurd c1010 (by decide)) (fun c1010 => ?_)
    refine go_aload d38_97 rfl rfl ?_
    refine go_aload d38_99 rfl rfl ?_
    have f1011 := ((F0.ext x1001).keep K1002 (ninS (ne_of (a := t0) (b := a1001) (by omega)) nin0) (ninS (ne_of (a := b0) (b := a1001) (by omega)) nin0))
    refine go_virtual (R := ({ frames := 10, cells := 48, slots := 1472, locals := 208 } : Room)) (kc := 19) (ks := 1279) [.ref t0] [] (c_place l Z a0 hw hEL a1001 ca ea ha ta ([]) (List.replicate 64 0) (List.replicate 16 0) (List.replicate 16 0) (List.replicate 32 0) ([]) t0 _ _ S1002 h1002 (by omega) NI.start H1002 f1011 (by omega) (m1002 _ (m1001 _ st0)) (ne_of (a := a1001) (b := t0) (by omega)) (by simp) zc Oc Pc sf rsf Os) H1002.1 (hw _ (List.mem_of_getElem? (i := 79) rfl)) (hw _ (List.mem_of_getElem? (i := 80) rfl)) (hw _ (List.mem_of_getElem? (i := 82) rfl)) (hw _ (List.mem_of_getElem? (i := 81) rfl)) (nfSel (hw _ (List.mem_of_getElem? (i := 82) rfl))) (hw _ (List.mem_of_getElem? (i := 83) rfl)) (hw _ (List.mem_of_getElem? (i := 28) rfl)) (by decide) rfl rfl (lenOf pd24 rfl) d38_101 (by rfl) (by decide) (Nat.le_of_ble_eq_true rfl) (rc := 0) (rs := 0) rfl rfl (fun S1012 v1012 h1012 m1012 z1012 q1012 => ?_)
    obtain ⟨r1012, ts1012, chs1012, es1012, hs1012, tb1012, sl1012, rfl, at1012, or1012, K1012, F1012, I1012, H1012⟩ := q1012
    have z1012 := K1012.1
    show Go _ _ _ _ _ _ _ _ _ _ _ _ _ _ _ _ _ (mkF K.m 104 #[.val (.int p0), .val (.int p1), .val (.int p2), .val (.int p3), .val (.int p4), .val (.ref t0), .val (.ref t1), .val (.ref t2), .val (.int (1 : Int32)), .val (.int sel), .val (.ref tq), .val (.ref a1001), .unset, .unset, .unset, .unset, .unset] [.int (Int32.ofNat r1012)])
    have w0 : ts1012 = [cs0] := by rw [own_step at1012 or1012]; simp [own_ins]
    have y_0 : ts1012.length ≤ 1 := by rw [w0]; simp
    refine go_pop d38_104 rfl ?_
    refine go_iload d38_105 rfl ?_
    refine go_iconst (x := (2 : Int32)) d38_107 (by decide) ?_
    refine go_icmplt d38_108 (fun c1013 => ?_) (fun c1013 => absurd (by decide) c1013)
    refine go_iload d38_119 rfl ?_
    refine go_iconst (x := (3 : Int32)) d38_121 (by decide) ?_
    refine go_icmplt d38_122 (fun c1014 => ?_) (fun c1014 => absurd (by decide) c1014)
    have f1015 := (((F1.ext x1001).keep K1002 (ninS (ne_of (a := t1) (b := a1001) (by omega)) nin0) (ninS (ne_of (a := b1) (b := a1001) (by omega)) nin0)).keep K1012 (ninS (Ne.symm n01) (ninS (ne_of (a := t1) (b := a1001) (by omega)) (ninS (ne_of (a := t1) (b := ca) (by omega)) (ninS (ne_of (a := t1) (b := ea) (by omega)) (ninS (ne_of (a := t1) (b := ha) (by omega)) (ninS (ne_of (a := t1) (b := ta) (by omega)) nin0)))))) (ninS nb1t0 (ninS (ne_of (a := b1) (b := a1001) (by omega)) (ninS (ne_of (a := b1) (b := ca) (by omega)) (ninS (ne_of (a := b1) (b := ea) (by omega)) (ninS (ne_of (a := b1) (b := ha) (by omega)) (ninS (ne_of (a := b1) (b := ta) (by omega)) nin0)))))))
    have f1016 := (((F2.ext x1001).keep K1002 (ninS (ne_of (a := t2) (b := a1001) (by omega)) nin0) (ninS (ne_of (a := b2) (b := a1001) (by omega)) nin0)).keep K1012 (ninS (Ne.symm n02) (ninS (ne_of (a := t2) (b := a1001) (by omega)) (ninS (ne_of (a := t2) (b := ca) (by omega)) (ninS (ne_of (a := t2) (b := ea) (by omega)) (ninS (ne_of (a := t2) (b := ha) (by omega)) (ninS (ne_of (a := t2) (b := ta) (by omega)) nin0)))))) (ninS nb2t0 (ninS (ne_of (a := b2) (b := a1001) (by omega)) (ninS (ne_of (a := b2) (b := ca) (by omega)) (ninS (ne_of (a := b2) (b := ea) (by omega)) (ninS (ne_of (a := b2) (b := ha) (by omega)) (ninS (ne_of (a := b2) (b := ta) (by omega)) nin0)))))))
    have f1017 := (((Fq.ext x1001).keep K1002 (ninS (ne_of (a := tq) (b := a1001) (by omega)) nin0) (ninS (ne_of (a := bq) (b := a1001) (by omega)) nin0)).keep K1012 (ninS (Ne.symm n0q) (ninS (ne_of (a := tq) (b := a1001) (by omega)) (ninS (ne_of (a := tq) (b := ca) (by omega)) (ninS (ne_of (a := tq) (b := ea) (by omega)) (ninS (ne_of (a := tq) (b := ha) (by omega)) (ninS (ne_of (a := tq) (b := ta) (by omega)) nin0)))))) (ninS nbqt0 (ninS (ne_of (a := bq) (b := a1001) (by omega)) (ninS (ne_of (a := bq) (b := ca) (by omega)) (ninS (ne_of (a := bq) (b := ea) (by omega)) (ninS (ne_of (a := bq) (b := ha) (by omega)) (ninS (ne_of (a := bq) (b := ta) (by omega)) nin0)))))))
    exact g133 l Z a0 hw hEL K p0 p1 p2 p3 p4 t0 t1 t2 tq cs0 cs1 cs2 csq b0 b1 b2 bq S1012 h1012 F1012 f1015 f1016 f1017 n01 n02 n12 n0q n1q n2q (by omega) gtq (m1012 _ (m1002 _ (m1001 _ stq))) 1 (by decide) sel a1001 ca ea ha ta ts1012 chs1012 es1012 hs1012 tb1012 sl1012 I1012 H1012 (ne_of (a := a1001) (b := tq) (by omega)) w0 zc Oc Pc sf rsf Os
  · rw [hn]
    refine go_iload d38_91 rfl ?_
    refine go_iconst (x := (1 : Int32)) d38_93 (by decide) ?_
    refine go_icmplt d38_94 (fun c1018 => absurd c1018 (by decide)) (fun c1018 => ?_)
    refine go_aload d38_97 rfl rfl ?_
    refine go_aload d38_99 rfl rfl ?_
    have f1019 := ((F0.ext x1001).keep K1002 (ninS (ne_of (a := t0) (b := a1001) (by omega)) nin0) (ninS (ne_of (a := b0) (b := a1001) (by omega)) nin0))
    refine go_virtual (R := ({ frames := 10, cells := 48, slots := 1472, locals := 208 } : Room)) (kc := 19) (ks := 1279) [.ref t0] [] (c_place l Z a0 hw hEL a1001 ca ea ha ta ([]) (List.replicate 64 0) (List.replicate 16 0) (List.replicate 16 0) (List.replicate 32 0) ([]) t0 _ _ S1002 h1002 (by omega) NI.start H1002 f1019 (by omega) (m1002 _ (m1001 _ st0)) (ne_of (a := a1001) (b := t0) (by omega)) (by simp) zc Oc Pc sf rsf Os) H1002.1 (hw _ (List.mem_of_getElem? (i := 79) rfl)) (hw _ (List.mem_of_getElem? (i := 80) rfl)) (hw _ (List.mem_of_getElem? (i := 82) rfl)) (hw _ (List.mem_of_getElem? (i := 81) rfl)) (nfSel (hw _ (List.mem_of_getElem? (i := 82) rfl))) (hw _ (List.mem_of_getElem? (i := 83) rfl)) (hw _ (List.mem_of_getElem? (i := 28) rfl)) (by decide) rfl rfl (lenOf pd24 rfl) d38_101 (by rfl) (by decide) (Nat.le_of_ble_eq_true rfl) (rc := 0) (rs := 0) rfl rfl (fun S1020 v1020 h1020 m1020 z1020 q1020 => ?_)
    obtain ⟨r1020, ts1020, chs1020, es1020, hs1020, tb1020, sl1020, rfl, at1020, or1020, K1020, F1020, I1020, H1020⟩ := q1020
    have z1020 := K1020.1
    show Go _ _ _ _ _ _ _ _ _ _ _ _ _ _ _ _ _ (mkF K.m 104 #[.val (.int p0), .val (.int p1), .val (.int p2), .val (.int p3), .val (.int p4), .val (.ref t0), .val (.ref t1), .val (.ref t2), .val (.int (2 : Int32)), .val (.int sel), .val (.ref tq), .val (.ref a1001), .unset, .unset, .unset, .unset, .unset] [.int (Int32.ofNat r1020)])
    have w0 : ts1020 = [cs0] := by rw [own_step at1020 or1020]; simp [own_ins]
    have y_0 : ts1020.length ≤ 1 := by rw [w0]; simp
    refine go_pop d38_104 rfl ?_
    refine go_iload d38_105 rfl ?_
    refine go_iconst (x := (2 : Int32)) d38_107 (by decide) ?_
    refine go_icmplt d38_108 (fun c1021 => absurd c1021 (by decide)) (fun c1021 => ?_)
    refine go_aload d38_111 rfl rfl ?_
    refine go_aload d38_113 rfl rfl ?_
    have f1022 := (((F1.ext x1001).keep K1002 (ninS (ne_of (a := t1) (b := a1001) (by omega)) nin0) (ninS (ne_of (a := b1) (b := a1001) (by omega)) nin0)).keep K1020 (ninS (Ne.symm n01) (ninS (ne_of (a := t1) (b := a1001) (by omega)) (ninS (ne_of (a := t1) (b := ca) (by omega)) (ninS (ne_of (a := t1) (b := ea) (by omega)) (ninS (ne_of (a := t1) (b := ha) (by omega)) (ninS (ne_of (a := t1) (b := ta) (by omega)) nin0)))))) (ninS nb1t0 (ninS (ne_of (a := b1) (b := a1001) (by omega)) (ninS (ne_of (a := b1) (b := ca) (by omega)) (ninS (ne_of (a := b1) (b := ea) (by omega)) (ninS (ne_of (a := b1) (b := ha) (by omega)) (ninS (ne_of (a := b1) (b := ta) (by omega)) nin0)))))))
    refine go_virtual (R := ({ frames := 10, cells := 48, slots := 1472, locals := 208 } : Room)) (kc := 19) (ks := 1279) [.ref t1] [] (c_place l Z a0 hw hEL a1001 ca ea ha ta ts1020 chs1020 es1020 hs1020 tb1020 sl1020 t1 _ _ S1020 h1020 (by omega) I1020 H1020 f1022 (by omega) (m1020 _ (m1002 _ (m1001 _ st1))) (ne_of (a := a1001) (b := t1) (by omega)) (by omega) zc Oc Pc sf rsf Os) H1020.1 (hw _ (List.mem_of_getElem? (i := 79) rfl)) (hw _ (List.mem_of_getElem? (i := 80) rfl)) (hw _ (List.mem_of_getElem? (i := 82) rfl)) (hw _ (List.mem_of_getElem? (i := 81) rfl)) (nfSel (hw _ (List.mem_of_getElem? (i := 82) rfl))) (hw _ (List.mem_of_getElem? (i := 83) rfl)) (hw _ (List.mem_of_getElem? (i := 28) rfl)) (by decide) rfl rfl (lenOf pd24 rfl) d38_115 (by rfl) (by decide) (Nat.le_of_ble_eq_true rfl) (rc := 0) (rs := 0) rfl rfl (fun S1023 v1023 h1023 m1023 z1023 q1023 => ?_)
    obtain ⟨r1023, ts1023, chs1023, es1023, hs1023, tb1023, sl1023, rfl, at1023, or1023, K1023, F1023, I1023, H1023⟩ := q1023
    have z1023 := K1023.1
    show Go _ _ _ _ _ _ _ _ _ _ _ _ _ _ _ _ _ (mkF K.m 118 #[.val (.int p0), .val (.int p1), .val (.int p2), .val (.int p3), .val (.int p4), .val (.ref t0), .val (.ref t1), .val (.ref t2), .val (.int (2 : Int32)), .val (.int sel), .val (.ref tq), .val (.ref a1001), .unset, .unset, .unset, .unset, .unset] [.int (Int32.ofNat r1023)])
    have w1 : ts1023 = own_ins ts1020 cs1 := own_step at1023 or1023
    have y_1 : ts1023.length ≤ 2 := by rw [w1]; exact Nat.le_trans own_ins_le (by omega)
    refine go_pop d38_118 rfl ?_
    refine go_iload d38_119 rfl ?_
    refine go_iconst (x := (3 : Int32)) d38_121 (by decide) ?_
    refine go_icmplt d38_122 (fun c1024 => ?_) (fun c1024 => absurd (by decide) c1024)
    have f1025 := (F1020.keep K1023 (ninS n01 (ninS (ne_of (a := t0) (b := a1001) (by omega)) (ninS (ne_of (a := t0) (b := ca) (by omega)) (ninS (ne_of (a := t0) (b := ea) (by omega)) (ninS (ne_of (a := t0) (b := ha) (by omega)) (ninS (ne_of (a := t0) (b := ta) (by omega)) nin0)))))) (ninS nb0t1 (ninS (ne_of (a := b0) (b := a1001) (by omega)) (ninS (ne_of (a := b0) (b := ca) (by omega)) (ninS (ne_of (a := b0) (b := ea) (by omega)) (ninS (ne_of (a := b0) (b := ha) (by omega)) (ninS (ne_of (a := b0) (b := ta) (by omega)) nin0)))))))
    have f1026 := ((((F2.ext x1001).keep K1002 (ninS (ne_of (a := t2) (b := a1001) (by omega)) nin0) (ninS (ne_of (a := b2) (b := a1001) (by omega)) nin0)).keep K1020 (ninS (Ne.symm n02) (ninS (ne_of (a := t2) (b := a1001) (by omega)) (ninS (ne_of (a := t2) (b := ca) (by omega)) (ninS (ne_of (a := t2) (b := ea) (by omega)) (ninS (ne_of (a := t2) (b := ha) (by omega)) (ninS (ne_of (a := t2) (b := ta) (by omega)) nin0)))))) (ninS nb2t0 (ninS (ne_of (a := b2) (b := a1001) (by omega)) (ninS (ne_of (a := b2) (b := ca) (by omega)) (ninS (ne_of (a := b2) (b := ea) (by omega)) (ninS (ne_of (a := b2) (b := ha) (by omega)) (ninS (ne_of (a := b2) (b := ta) (by omega)) nin0))))))).keep K1023 (ninS (Ne.symm n12) (ninS (ne_of (a := t2) (b := a1001) (by omega)) (ninS (ne_of (a := t2) (b := ca) (by omega)) (ninS (ne_of (a := t2) (b := ea) (by omega)) (ninS (ne_of (a := t2) (b := ha) (by omega)) (ninS (ne_of (a := t2) (b := ta) (by omega)) nin0)))))) (ninS nb2t1 (ninS (ne_of (a := b2) (b := a1001) (by omega)) (ninS (ne_of (a := b2) (b := ca) (by omega)) (ninS (ne_of (a := b2) (b := ea) (by omega)) (ninS (ne_of (a := b2) (b := ha) (by omega)) (ninS (ne_of (a := b2) (b := ta) (by omega)) nin0)))))))
    have f1027 := ((((Fq.ext x1001).keep K1002 (ninS (ne_of (a := tq) (b := a1001) (by omega)) nin0) (ninS (ne_of (a := bq) (b := a1001) (by omega)) nin0)).keep K1020 (ninS (Ne.symm n0q) (ninS (ne_of (a := tq) (b := a1001) (by omega)) (ninS (ne_of (a := tq) (b := ca) (by omega)) (ninS (ne_of (a := tq) (b := ea) (by omega)) (ninS (ne_of (a := tq) (b := ha) (by omega)) (ninS (ne_of (a := tq) (b := ta) (by omega)) nin0)))))) (ninS nbqt0 (ninS (ne_of (a := bq) (b := a1001) (by omega)) (ninS (ne_of (a := bq) (b := ca) (by omega)) (ninS (ne_of (a := bq) (b := ea) (by omega)) (ninS (ne_of (a := bq) (b := ha) (by omega)) (ninS (ne_of (a := bq) (b := ta) (by omega)) nin0))))))).keep K1023 (ninS (Ne.symm n1q) (ninS (ne_of (a := tq) (b := a1001) (by omega)) (ninS (ne_of (a := tq) (b := ca) (by omega)) (ninS (ne_of (a := tq) (b := ea) (by omega)) (ninS (ne_of (a := tq) (b := ha) (by omega)) (ninS (ne_of (a := tq) (b := ta) (by omega)) nin0)))))) (ninS nbqt1 (ninS (ne_of (a := bq) (b := a1001) (by omega)) (ninS (ne_of (a := bq) (b := ca) (by omega)) (ninS (ne_of (a := bq) (b := ea) (by omega)) (ninS (ne_of (a := bq) (b := ha) (by omega)) (ninS (ne_of (a := bq) (b := ta) (by omega)) nin0)))))))
    exact g133 l Z a0 hw hEL K p0 p1 p2 p3 p4 t0 t1 t2 tq cs0 cs1 cs2 csq b0 b1 b2 bq S1023 h1023 f1025 F1023 f1026 f1027 n01 n02 n12 n0q n1q n2q (by omega) gtq (m1023 _ (m1020 _ (m1002 _ (m1001 _ stq)))) 2 (by decide) sel a1001 ca ea ha ta ts1023 chs1023 es1023 hs1023 tb1023 sl1023 I1023 H1023 (ne_of (a := a1001) (b := tq) (by omega)) (w1.trans (by rw [w0]; rfl)) zc Oc Pc sf rsf Os
  · rw [hn]
    refine go_iload d38_91 rfl ?_
    refine go_iconst (x := (1 : Int32)) d38_93 (by decide) ?_
    refine go_icmplt d38_94 (fun c1028 => absurd c1028 (by decide)) (fun c1028 => ?_)
    refine go_aload d38_97 rfl rfl ?_
    refine go_aload d38_99 rfl rfl ?_
    have f1029 := ((F0.ext x1001).keep K1002 (ninS (ne_of (a := t0) (b := a1001) (by omega)) nin0) (ninS (ne_of (a := b0) (b := a1001) (by omega)) nin0))
    refine go_virtual (R := ({ frames := 10, cells := 48, slots := 1472, locals := 208 } : Room)) (kc := 19) (ks := 1279) [.ref t0] [] (c_place l Z a0 hw hEL a1001 ca ea ha ta ([]) (List.replicate 64 0) (List.replicate 16 0) (List.replicate 16 0) (List.replicate 32 0) ([]) t0 _ _ S1002 h1002 (by omega) NI.start H1002 f1029 (by omega) (m1002 _ (m1001 _ st0)) (ne_of (a := a1001) (b := t0) (by omega)) (by simp) zc Oc Pc sf rsf Os) H1002.1 (hw _ (List.mem_of_getElem? (i := 79) rfl)) (hw _ (List.mem_of_getElem? (i := 80) rfl)) (hw _ (List.mem_of_getElem? (i := 82) rfl)) (hw _ (List.mem_of_getElem? (i := 81) rfl)) (nfSel (hw _ (List.mem_of_getElem? (i := 82) rfl))) (hw _ (List.mem_of_getElem? (i := 83) rfl)) (hw _ (List.mem_of_getElem? (i := 28) rfl)) (by decide) rfl rfl (lenOf pd24 rfl) d38_101 (by rfl) (by decide) (Nat.le_of_ble_eq_true rfl) (rc := 0) (rs := 0) rfl rfl (fun S1030 v1030 h1030 m1030 z1030 q1030 => ?_)
    obtain ⟨r1030, ts1030, chs1030, es1030, hs1030, tb1030, sl1030, rfl, at1030, or1030, K1030, F1030, I1030, H1030⟩ := q1030
    have z1030 := K1030.1
    show Go _ _ _ _ _ _ _ _ _ _ _ _ _ _ _ _ _ (mkF K.m 104 #[.val (.int p0), .val (.int p1), .val (.int p2), .val (.int p3), .val (.int p4), .val (.ref t0), .val (.ref t1), .val (.ref t2), .val (.int (3 : Int32)), .val (.int sel), .val (.ref tq), .val (.ref a1001), .unset, .unset, .unset, .unset, .unset] [.int (Int32.ofNat r1030)])
    have w0 : ts1030 = [cs0] := by rw [own_step at1030 or1030]; simp [own_ins]
    have y_0 : ts1030.length ≤ 1 := by rw [w0]; simp
    refine go_pop d38_104 rfl ?_
    refine go_iload d38_105 rfl ?_
    refine go_iconst (x := (2 : Int32)) d38_107 (by decide) ?_
    refine go_icmplt d38_108 (fun c1031 => absurd c1031 (by decide)) (fun c1031 => ?_)
    refine go_aload d38_111 rfl rfl ?_
    refine go_aload d38_113 rfl rfl ?_
    have f1032 := (((F1.ext x1001).keep K1002 (ninS (ne_of (a := t1) (b := a1001) (by omega)) nin0) (ninS (ne_of (a := b1) (b := a1001) (by omega)) nin0)).keep K1030 (ninS (Ne.symm n01) (ninS (ne_of (a := t1) (b := a1001) (by omega)) (ninS (ne_of (a := t1) (b := ca) (by omega)) (ninS (ne_of (a := t1) (b := ea) (by omega)) (ninS (ne_of (a := t1) (b := ha) (by omega)) (ninS (ne_of (a := t1) (b := ta) (by omega)) nin0)))))) (ninS nb1t0 (ninS (ne_of (a := b1) (b := a1001) (by omega)) (ninS (ne_of (a := b1) (b := ca) (by omega)) (ninS (ne_of (a := b1) (b := ea) (by omega)) (ninS (ne_of (a := b1) (b := ha) (by omega)) (ninS (ne_of (a := b1) (b := ta) (by omega)) nin0)))))))
    refine go_virtual (R := ({ frames := 10, cells := 48, slots := 1472, locals := 208 } : Room)) (kc := 19) (ks := 1279) [.ref t1] [] (c_place l Z a0 hw hEL a1001 ca ea ha ta ts1030 chs1030 es1030 hs1030 tb1030 sl1030 t1 _ _ S1030 h1030 (by omega) I1030 H1030 f1032 (by omega) (m1030 _ (m1002 _ (m1001 _ st1))) (ne_of (a := a1001) (b := t1) (by omega)) (by omega) zc Oc Pc sf rsf Os) H1030.1 (hw _ (List.mem_of_getElem? (i := 79) rfl)) (hw _ (List.mem_of_getElem? (i := 80) rfl)) (hw _ (List.mem_of_getElem? (i := 82) rfl)) (hw _ (List.mem_of_getElem? (i := 81) rfl)) (nfSel (hw _ (List.mem_of_getElem? (i := 82) rfl))) (hw _ (List.mem_of_getElem? (i := 83) rfl)) (hw _ (List.mem_of_getElem? (i := 28) rfl)) (by decide) rfl rfl (lenOf pd24 rfl) d38_115 (by rfl) (by decide) (Nat.le_of_ble_eq_true rfl) (rc := 0) (rs := 0) rfl rfl (fun S1033 v1033 h1033 m1033 z1033 q1033 => ?_)
    obtain ⟨r1033, ts1033, chs1033, es1033, hs1033, tb1033, sl1033, rfl, at1033, or1033, K1033, F1033, I1033, H1033⟩ := q1033
    have z1033 := K1033.1
    show Go _ _ _ _ _ _ _ _ _ _ _ _ _ _ _ _ _ (mkF K.m 118 #[.val (.int p0), .val (.int p1), .val (.int p2), .val (.int p3), .val (.int p4), .val (.ref t0), .val (.ref t1), .val (.ref t2), .val (.int (3 : Int32)), .val (.int sel), .val (.ref tq), .val (.ref a1001), .unset, .unset, .unset, .unset, .unset] [.int (Int32.ofNat r1033)])
    have w1 : ts1033 = own_ins ts1030 cs1 := own_step at1033 or1033
    have y_1 : ts1033.length ≤ 2 := by rw [w1]; exact Nat.le_trans own_ins_le (by omega)
    refine go_pop d38_118 rfl ?_
    refine go_iload d38_119 rfl ?_
    refine go_iconst (x := (3 : Int32)) d38_121 (by decide) ?_
    refine go_icmplt d38_122 (fun c1034 => absurd c1034 (by decide)) (fun c1034 => ?_)
    refine go_aload d38_125 rfl rfl ?_
    refine go_aload d38_127 rfl rfl ?_
    have f1035 := ((((F2.ext x1001).keep K1002 (ninS (ne_of (a := t2) (b := a1001) (by omega)) nin0) (ninS (ne_of (a := b2) (b := a1001) (by omega)) nin0)).keep K1030 (ninS (Ne.symm n02) (ninS (ne_of (a := t2) (b := a1001) (by omega)) (ninS (ne_of (a := t2) (b := ca) (by omega)) (ninS (ne_of (a := t2) (b := ea) (by omega)) (ninS (ne_of (a := t2) (b := ha) (by omega)) (ninS (ne_of (a := t2) (b := ta) (by omega)) nin0)))))) (ninS nb2t0 (ninS (ne_of (a := b2) (b := a1001) (by omega)) (ninS (ne_of (a := b2) (b := ca) (by omega)) (ninS (ne_of (a := b2) (b := ea) (by omega)) (ninS (ne_of (a := b2) (b := ha) (by omega)) (ninS (ne_of (a := b2) (b := ta) (by omega)) nin0))))))).keep K1033 (ninS (Ne.symm n12) (ninS (ne_of (a := t2) (b := a1001) (by omega)) (ninS (ne_of (a := t2) (b := ca) (by omega)) (ninS (ne_of (a := t2) (b := ea) (by omega)) (ninS (ne_of (a := t2) (b := ha) (by omega)) (ninS (ne_of (a := t2) (b := ta) (by omega)) nin0)))))) (ninS nb2t1 (ninS (ne_of (a := b2) (b := a1001) (by omega)) (ninS (ne_of (a := b2) (b := ca) (by omega)) (ninS (ne_of (a := b2) (b := ea) (by omega)) (ninS (ne_of (a := b2) (b := ha) (by omega)) (ninS (ne_of (a := b2) (b := ta) (by omega)) nin0)))))))
    refine go_virtual (R := ({ frames := 10, cells := 48, slots := 1472, locals := 208 } : Room)) (kc := 19) (ks := 1279) [.ref t2] [] (c_place l Z a0 hw hEL a1001 ca ea ha ta ts1033 chs1033 es1033 hs1033 tb1033 sl1033 t2 _ _ S1033 h1033 (by omega) I1033 H1033 f1035 (by omega) (m1033 _ (m1030 _ (m1002 _ (m1001 _ st2)))) (ne_of (a := a1001) (b := t2) (by omega)) (by omega) zc Oc Pc sf rsf Os) H1033.1 (hw _ (List.mem_of_getElem? (i := 79) rfl)) (hw _ (List.mem_of_getElem? (i := 80) rfl)) (hw _ (List.mem_of_getElem? (i := 82) rfl)) (hw _ (List.mem_of_getElem? (i := 81) rfl)) (nfSel (hw _ (List.mem_of_getElem? (i := 82) rfl))) (hw _ (List.mem_of_getElem? (i := 83) rfl)) (hw _ (List.mem_of_getElem? (i := 28) rfl)) (by decide) rfl rfl (lenOf pd24 rfl) d38_129 (by rfl) (by decide) (Nat.le_of_ble_eq_true rfl) (rc := 0) (rs := 0) rfl rfl (fun S1036 v1036 h1036 m1036 z1036 q1036 => ?_)
    obtain ⟨r1036, ts1036, chs1036, es1036, hs1036, tb1036, sl1036, rfl, at1036, or1036, K1036, F1036, I1036, H1036⟩ := q1036
    have z1036 := K1036.1
    show Go _ _ _ _ _ _ _ _ _ _ _ _ _ _ _ _ _ (mkF K.m 132 #[.val (.int p0), .val (.int p1), .val (.int p2), .val (.int p3), .val (.int p4), .val (.ref t0), .val (.ref t1), .val (.ref t2), .val (.int (3 : Int32)), .val (.int sel), .val (.ref tq), .val (.ref a1001), .unset, .unset, .unset, .unset, .unset] [.int (Int32.ofNat r1036)])
    have w2 : ts1036 = own_ins ts1033 cs2 := own_step at1036 or1036
    have y_2 : ts1036.length ≤ 3 := by rw [w2]; exact Nat.le_trans own_ins_le (by omega)
    refine go_pop d38_132 rfl ?_
    have f1037 := ((F1030.keep K1033 (ninS n01 (ninS (ne_of (a := t0) (b := a1001) (by omega)) (ninS (ne_of (a := t0) (b := ca) (by omega)) (ninS (ne_of (a := t0) (b := ea) (by omega)) (ninS (ne_of (a := t0) (b := ha) (by omega)) (ninS (ne_of (a := t0) (b := ta) (by omega)) nin0)))))) (ninS nb0t1 (ninS (ne_of (a := b0) (b := a1001) (by omega)) (ninS (ne_of (a := b0) (b := ca) (by omega)) (ninS (ne_of (a := b0) (b := ea) (by omega)) (ninS (ne_of (a := b0) (b := ha) (by omega)) (ninS (ne_of (a := b0) (b := ta) (by omega)) nin0))))))).keep K1036 (ninS n02 (ninS (ne_of (a := t0) (b := a1001) (by omega)) (ninS (ne_of (a := t0) (b := ca) (by omega)) (ninS (ne_of (a := t0) (b := ea) (by omega)) (ninS (ne_of (a := t0) (b := ha) (by omega)) (ninS (ne_of (a := t0) (b := ta) (by omega)) nin0)))))) (ninS nb0t2 (ninS (ne_of (a := b0) (b := a1001) (by omega)) (ninS (ne_of (a := b0) (b := ca) (by omega)) (ninS (ne_of (a := b0) (b := ea) (by omega)) (ninS (ne_of (a := b0) (b := ha) (by omega)) (ninS (ne_of (a := b0) (b := ta) (by omega)) nin0)))))))
    have f1038 := (F1033.keep K1036 (ninS n12 (ninS (ne_of (a := t1) (b := a1001) (by omega)) (ninS (ne_of (a := t1) (b := ca) (by omega)) (ninS (ne_of (a := t1) (b := ea) (by omega)) (ninS (ne_of (a := t1) (b := ha) (by omega)) (ninS (ne_of (a := t1) (b := ta) (by omega)) nin0)))))) (ninS nb1t2 (ninS (ne_of (a := b1) (b := a1001) (by omega)) (ninS (ne_of (a := b1) (b := ca) (by omega)) (ninS (ne_of (a := b1) (b := ea) (by omega)) (ninS (ne_of (a := b1) (b := ha) (by omega)) (ninS (ne_of (a := b1) (b := ta) (by omega)) nin0)))))))
    have f1039 := (((((Fq.ext x1001).keep K1002 (ninS (ne_of (a := tq) (b := a1001) (by omega)) nin0) (ninS (ne_of (a := bq) (b := a1001) (by omega)) nin0)).keep K1030 (ninS (Ne.symm n0q) (ninS (ne_of (a := tq) (b := a1001) (by omega)) (ninS (ne_of (a := tq) (b := ca) (by omega)) (ninS (ne_of (a := tq) (b := ea) (by omega)) (ninS (ne_of (a := tq) (b := ha) (by omega)) (ninS (ne_of (a := tq) (b := ta) (by omega)) nin0)))))) (ninS nbqt0 (ninS (ne_of (a := bq) (b := a1001) (by omega)) (ninS (ne_of (a := bq) (b := ca) (by omega)) (ninS (ne_of (a := bq) (b := ea) (by omega)) (ninS (ne_of (a := bq) (b := ha) (by omega)) (ninS (ne_of (a := bq) (b := ta) (by omega)) nin0))))))).keep K1033 (ninS (Ne.symm n1q) (ninS (ne_of (a := tq) (b := a1001) (by omega)) (ninS (ne_of (a := tq) (b := ca) (by omega)) (ninS (ne_of (a := tq) (b := ea) (by omega)) (ninS (ne_of (a := tq) (b := ha) (by omega)) (ninS (ne_of (a := tq) (b := ta) (by omega)) nin0)))))) (ninS nbqt1 (ninS (ne_of (a := bq) (b := a1001) (by omega)) (ninS (ne_of (a := bq) (b := ca) (by omega)) (ninS (ne_of (a := bq) (b := ea) (by omega)) (ninS (ne_of (a := bq) (b := ha) (by omega)) (ninS (ne_of (a := bq) (b := ta) (by omega)) nin0))))))).keep K1036 (ninS (Ne.symm n2q) (ninS (ne_of (a := tq) (b := a1001) (by omega)) (ninS (ne_of (a := tq) (b := ca) (by omega)) (ninS (ne_of (a := tq) (b := ea) (by omega)) (ninS (ne_of (a := tq) (b := ha) (by omega)) (ninS (ne_of (a := tq) (b := ta) (by omega)) nin0)))))) (ninS nbqt2 (ninS (ne_of (a := bq) (b := a1001) (by omega)) (ninS (ne_of (a := bq) (b := ca) (by omega)) (ninS (ne_of (a := bq) (b := ea) (by omega)) (ninS (ne_of (a := bq) (b := ha) (by omega)) (ninS (ne_of (a := bq) (b := ta) (by omega)) nin0)))))))
    exact g133 l Z a0 hw hEL K p0 p1 p2 p3 p4 t0 t1 t2 tq cs0 cs1 cs2 csq b0 b1 b2 bq S1036 h1036 f1037 f1038 F1036 f1039 n01 n02 n12 n0q n1q n2q (by omega) gtq (m1036 _ (m1033 _ (m1030 _ (m1002 _ (m1001 _ stq))))) 3 (by decide) sel a1001 ca ea ha ta ts1036 chs1036 es1036 hs1036 tb1036 sl1036 I1036 H1036 (ne_of (a := a1001) (b := tq) (by omega)) (w2.trans (by rw [w1, w0]; rfl)) zc Oc Pc sf rsf Os
theorem d38_0 : Dec code 0 (.iload_n 0) 1 1 := ⟨by decide +kernel, rfl⟩
theorem d38_1 : Dec code 1 (.invokestatic 16) 3 4 := ⟨by decide +kernel, rfl⟩
theorem pd32 : parseMethodDescriptor "(I)Ljava/lang/String;" = some ⟨[.int], some (.object "java/lang/String")⟩ := by decide +kernel
theorem d38_4 : Dec code 4 (.astore 5) 2 6 := ⟨by decide +kernel, rfl⟩
theorem d38_6 : Dec code 6 (.iload_n 1) 1 7 := ⟨by decide +kernel, rfl⟩
theorem d38_7 : Dec code 7 (.invokestatic 16) 3 10 := ⟨by decide +kernel, rfl⟩
theorem d38_10 : Dec code 10 (.astore 6) 2 12 := ⟨by decide +kernel, rfl⟩
theorem d38_12 : Dec code 12 (.iload_n 2) 1 13 := ⟨by decide +kernel, rfl⟩
theorem d38_13 : Dec code 13 (.invokestatic 16) 3 16 := ⟨by decide +kernel, rfl⟩
theorem d38_16 : Dec code 16 (.astore 7) 2 18 := ⟨by decide +kernel, rfl⟩
theorem d38_18 : Dec code 18 (.iload 4) 2 20 := ⟨by decide +kernel, rfl⟩
theorem d38_20 : Dec code 20 (.iconst 3) 1 21 := ⟨by decide +kernel, rfl⟩
theorem d38_21 : Dec code 21 (.iand) 1 22 := ⟨by decide +kernel, rfl⟩
theorem d38_22 : Dec code 22 (.istore 8) 2 24 := ⟨by decide +kernel, rfl⟩
theorem d38_24 : Dec code 24 (.iload 4) 2 26 := ⟨by decide +kernel, rfl⟩
theorem d38_26 : Dec code 26 (.iconst 2) 1 27 := ⟨by decide +kernel, rfl⟩
theorem d38_27 : Dec code 27 (.iushr) 1 28 := ⟨by decide +kernel, rfl⟩
theorem d38_28 : Dec code 28 (.iconst 3) 1 29 := ⟨by decide +kernel, rfl⟩
theorem d38_29 : Dec code 29 (.iand) 1 30 := ⟨by decide +kernel, rfl⟩
theorem d38_30 : Dec code 30 (.istore 9) 2 32 := ⟨by decide +kernel, rfl⟩
theorem d38_32 : Dec code 32 (.iload 9) 2 34 := ⟨by decide +kernel, rfl⟩
theorem d38_34 : Brn code 34 (.ifCond .ne 12) 12 37 46 := ⟨by decide +kernel, rfl, by decide, by decide⟩
theorem d38_46 : Dec code 46 (.iload 9) 2 48 := ⟨by decide +kernel, rfl⟩
theorem d38_48 : Dec code 48 (.iconst 1) 1 49 := ⟨by decide +kernel, rfl⟩
theorem d38_49 : Brn code 49 (.if_icmp .ne 12) 12 52 61 := ⟨by decide +kernel, rfl, by decide, by decide⟩
theorem d38_61 : Dec code 61 (.iload 9) 2 63 := ⟨by decide +kernel, rfl⟩
theorem d38_63 : Dec code 63 (.iconst 2) 1 64 := ⟨by decide +kernel, rfl⟩
theorem d38_64 : Brn code 64 (.if_icmp .ne 12) 12 67 76 := ⟨by decide +kernel, rfl, by decide, by decide⟩
theorem d38_76 : Dec code 76 (.iload_n 3) 1 77 := ⟨by decide +kernel, rfl⟩
theorem d38_77 : Dec code 77 (.invokestatic 16) 3 80 := ⟨by decide +kernel, rfl⟩
theorem d38_80 : Dec code 80 (.astore 10) 2 82 := ⟨by decide +kernel, rfl⟩
theorem d38_67 : Dec code 67 (.iload_n 2) 1 68 := ⟨by decide +kernel, rfl⟩
theorem d38_68 : Dec code 68 (.invokestatic 16) 3 71 := ⟨by decide +kernel, rfl⟩
theorem d38_71 : Dec code 71 (.astore 10) 2 73 := ⟨by decide +kernel, rfl⟩
theorem d38_73 : Brn code 73 (.goto 9) 9 76 82 := ⟨by decide +kernel, rfl, by decide, by decide⟩
theorem d38_52 : Dec code 52 (.iload_n 1) 1 53 := ⟨by decide +kernel, rfl⟩
theorem d38_53 : Dec code 53 (.invokestatic 16) 3 56 := ⟨by decide +kernel, rfl⟩
theorem d38_56 : Dec code 56 (.astore 10) 2 58 := ⟨by decide +kernel, rfl⟩
theorem d38_58 : Brn code 58 (.goto 24) 24 61 82 := ⟨by decide +kernel, rfl, by decide, by decide⟩
theorem d38_37 : Dec code 37 (.iload_n 0) 1 38 := ⟨by decide +kernel, rfl⟩
theorem d38_38 : Dec code 38 (.invokestatic 16) 3 41 := ⟨by decide +kernel, rfl⟩
theorem d38_41 : Dec code 41 (.astore 10) 2 43 := ⟨by decide +kernel, rfl⟩
theorem d38_43 : Brn code 43 (.goto 39) 39 46 82 := ⟨by decide +kernel, rfl, by decide, by decide⟩
set_option maxRecDepth 65536 in
set_option maxHeartbeats 40000000 in
theorem c_law (l : Launch) (Z : State) (a0 : Array Value) (hw : ∀ d ∈ tables_1, d.before a0 Z = true) (hEL : EW Z a0 own_EL) (p0 p1 p2 p3 p4 : Int32) (zc : Int32) (Oc : Sta Z Z.heap "java/lang/String" "COMPACT_STRINGS" "Z" (.int zc)) (Pc : ¬ zc = 0) (sf : Value) (rsf : sf.isRef = true) (Os : Sta Z Z.heap "jdk/internal/util/Preconditions" "SIOOBE_FORMATTER" "Ljava/util/function/BiFunction;" sf) :
    Con l Z own_EL tables_1 x code maxLocals ret room_1 #[.int p0, .int p1, .int p2, .int p3, .int p4] (fun _ => False) Z.heap (fun S' v h' => v = some (.int (1 : Int32))) := by
  refine con_of_go (ls := #[.val (.int p0), .val (.int p1), .val (.int p2), .val (.int p3), .val (.int p4), .unset, .unset, .unset, .unset, .unset, .unset, .unset, .unset, .unset, .unset, .unset, .unset]) (plainFor_of_name pn6) hEL (fun m => by first | rfl | (simp [entryFrame, mkF, argsToLocals, cat_int, cat_ref, cat_null, cat_long, maxLocals]; done)) (fun K => ?_)
  show Go _ _ _ _ _ _ _ _ _ _ _ _ _ 48 1472 _ _ _
  refine go_iloadN d38_0 rfl ?_
  refine go_static (R := room_1) (kc := 42) (ks := 1457) [.int p0] [] (c_str l Z a0 hw hEL p0 (fun _ => False) Z.heap (by omega) zc Oc Pc) (hw _ (List.mem_of_getElem? (i := 0) rfl)) (hw _ (List.mem_of_getElem? (i := 1) rfl)) (hw _ (List.mem_of_getElem? (i := 3) rfl)) (hw _ (List.mem_of_getElem? (i := 2) rfl)) (by decide) rfl rfl (lenOf pd32 rfl) d38_1 (by rfl) (by decide) (Nat.le_of_ble_eq_true rfl) (rc := 6) (rs := 15) rfl rfl (fun S1001 v1001 h1001 m1001 z1001 q1001 => ?_)
  obtain ⟨y1001, cs1001, b1001, rfl, g1001, s1001, K1001, F1001⟩ := q1001
  have z1001 := K1001.1
  have l1001 := lt_nat F1001.1.lx
  have lb1001 := lt_nat F1001.1.lb
  have nbx1001 : b1001 ≠ y1001 := F1001.bytes.ne_exa F1001.1.1 (hw _ (List.mem_of_getElem? (i := 5) rfl))
  show Go _ _ _ _ _ _ _ _ _ _ _ _ _ _ _ _ _ (mkF K.m 4 #[.val (.int p0), .val (.int p1), .val (.int p2), .val (.int p3), .val (.int p4), .unset, .unset, .unset, .unset, .unset, .unset, .unset, .unset, .unset, .unset, .unset, .unset] [.ref y1001])
  refine go_astore d38_4 rfl (l' := #[.val (.int p0), .val (.int p1), .val (.int p2), .val (.int p3), .val (.int p4), .val (.ref y1001), .unset, .unset, .unset, .unset, .unset, .unset, .unset, .unset, .unset, .unset, .unset]) rfl ?_
  refine go_iloadN d38_6 rfl ?_
  refine go_static (R := room_1) (kc := 36) (ks := 1442) [.int p1] [] (c_str l Z a0 hw hEL p1 S1001 h1001 (by omega) zc Oc Pc) (hw _ (List.mem_of_getElem? (i := 0) rfl)) (hw _ (List.mem_of_getElem? (i := 1) rfl)) (hw _ (List.mem_of_getElem? (i := 3) rfl)) (hw _ (List.mem_of_getElem? (i := 2) rfl)) (by decide) rfl rfl (lenOf pd32 rfl) d38_7 (by rfl) (by decide) (Nat.le_of_ble_eq_true rfl) (rc := 6) (rs := 15) rfl rfl (fun S1002 v1002 h1002 m1002 z1002 q1002 => ?_)
  obtain ⟨y1002, cs1002, b1002, rfl, g1002, s1002, K1002, F1002⟩ := q1002
  have z1002 := K1002.1
  have l1002 := lt_nat F1002.1.lx
  have lb1002 := lt_nat F1002.1.lb
  have f1003 := (F1001.keep K1002 nin0 nin0)
  have nb1002y1001 : b1002 ≠ y1001 := F1002.bytes.ne_exa f1003.1.1 (hw _ (List.mem_of_getElem? (i := 5) rfl))
  have nbx1002 : b1002 ≠ y1002 := F1002.bytes.ne_exa F1002.1.1 (hw _ (List.mem_of_getElem? (i := 5) rfl))
  show Go _ _ _ _ _ _ _ _ _ _ _ _ _ _ _ _ _ (mkF K.m 10 #[.val (.int p0), .val (.int p1), .val (.int p2), .val (.int p3), .val (.int p4), .val (.ref y1001), .unset, .unset, .unset, .unset, .unset, .unset, .unset, .unset, .unset, .unset, .unset] [.ref y1002])
  refine go_astore d38_10 rfl (l' := #[.val (.int p0), .val (.int p1), .val (.int p2), .val (.int p3), .val (.int p4), .val (.ref y1001), .val (.ref y1002), .unset, .unset, .unset, .unset, .unset, .unset, .unset, .unset, .unset, .unset]) rfl ?_
  refine go_iloadN d38_12 rfl ?_
  refine go_static (R := room_1) (kc := 30) (ks := 1427) [.int p2] [] (c_str l Z a0 hw hEL p2 S1002 h1002 (by omega) zc Oc Pc) (hw _ (List.mem_of_getElem? (i := 0) rfl)) (hw _ (List.mem_of_getElem? (i := 1) rfl)) (hw _ (List.mem_of_getElem? (i := 3) rfl)) (hw _ (List.mem_of_getElem? (i := 2) rfl)) (by decide) rfl rfl (lenOf pd32 rfl) d38_13 (by rfl) (by decide) (Nat.le_of_ble_eq_true rfl) (rc := 6) (rs := 15) rfl rfl (fun S1004 v1004 h1004 m1004 z1004 q1004 => ?_)
  obtain ⟨y1004, cs1004, b1004, rfl, g1004, s1004, K1004, F1004⟩ := q1004
  have z1004 := K1004.1
  have l1004 := lt_nat F1004.1.lx
  have lb1004 := lt_nat F1004.1.lb
  have f1005 := (f1003.keep K1004 nin0 nin0)
  have nb1004y1001 : b1004 ≠ y1001 := F1004.bytes.ne_exa f1005.1.1 (hw _ (List.mem_of_getElem? (i := 5) rfl))
  have f1006 := (F1002.keep K1004 nin0 nin0)
  have nb1004y1002 : b1004 ≠ y1002 := F1004.bytes.ne_exa f1006.1.1 (hw _ (List.mem_of_getElem? (i := 5) rfl))
  have nbx1004 : b1004 ≠ y1004 := F1004.bytes.ne_exa F1004.1.1 (hw _ (List.mem_of_getElem? (i := 5) rfl))
  show Go _ _ _ _ _ _ _ _ _ _ _ _ _ _ _ _ _ (mkF K.m 16 #[.val (.int p0), .val (.int p1), .val (.int p2), .val (.int p3), .val (.int p4), .val (.ref y1001), .val (.ref y1002), .unset, .unset, .unset, .unset, .unset, .unset, .unset, .unset, .unset, .unset] [.ref y1004])
  refine go_astore d38_16 rfl (l' := #[.val (.int p0), .val (.int p1), .val (.int p2), .val (.int p3), .val (.int p4), .val (.ref y1001), .val (.ref y1002), .val (.ref y1004), .unset, .unset, .unset, .unset, .unset, .unset, .unset, .unset, .unset]) rfl ?_
  refine go_iload d38_18 rfl ?_
  refine go_iconst (x := (3 : Int32)) d38_20 (by decide) ?_
  refine go_iand d38_21 rfl ?_
  refine go_istore d38_22 (l' := #[.val (.int p0), .val (.int p1), .val (.int p2), .val (.int p3), .val (.int p4), .val (.ref y1001), .val (.ref y1002), .val (.ref y1004), .val (.int (p4 &&& (3 : Int32))), .unset, .unset, .unset, .unset, .unset, .unset, .unset, .unset]) rfl ?_
  refine go_iload d38_24 rfl ?_
  refine go_iconst (x := (2 : Int32)) d38_26 (by decide) ?_
  refine go_iushr d38_27 rfl ?_
  refine go_iconst (x := (3 : Int32)) d38_28 (by decide) ?_
  refine go_iand d38_29 rfl ?_
  refine go_istore d38_30 (l' := #[.val (.int p0), .val (.int p1), .val (.int p2), .val (.int p3), .val (.int p4), .val (.ref y1001), .val (.ref y1002), .val (.ref y1004), .val (.int (p4 &&& (3 : Int32))), .val (.int ((XT.ushr p4 (2 : Int32)) &&& (3 : Int32))), .unset, .unset, .unset, .unset, .unset, .unset, .unset]) rfl ?_
  refine go_iload d38_32 rfl ?_
  refine go_ifne d38_34 (fun c1007 => ?_) (fun c1007 => ?_)
  · refine go_iload d38_46 rfl ?_
    refine go_iconst (x := (1 : Int32)) d38_48 (by decide) ?_
    refine go_icmpne d38_49 (fun c1008 => ?_) (fun c1008 => ?_)
    · refine go_iload d38_61 rfl ?_
      refine go_iconst (x := (2 : Int32)) d38_63 (by decide) ?_
      refine go_icmpne d38_64 (fun c1009 => ?_) (fun c1009 => ?_)
      · refine go_iloadN d38_76 rfl ?_
        refine go_static (R := room_1) (kc := 24) (ks := 1412) [.int p3] [] (c_str l Z a0 hw hEL p3 S1004 h1004 (by omega) zc Oc Pc) (hw _ (List.mem_of_getElem? (i := 0) rfl)) (hw _ (List.mem_of_getElem? (i := 1) rfl)) (hw _ (List.mem_of_getElem? (i := 3) rfl)) (hw _ (List.mem_of_getElem? (i := 2) rfl)) (by decide) rfl rfl (lenOf pd32 rfl) d38_77 (by rfl) (by decide) (Nat.le_of_ble_eq_true rfl) (rc := 6) (rs := 15) rfl rfl (fun S1010 v1010 h1010 m1010 z1010 q1010 => ?_)
        obtain ⟨y1010, cs1010, b1010, rfl, g1010, s1010, K1010, F1010⟩ := q1010
        have z1010 := K1010.1
        have l1010 := lt_nat F1010.1.lx
        have lb1010 := lt_nat F1010.1.lb
        have f1011 := (f1005.keep K1010 nin0 nin0)
        have nb1010y1001 : b1010 ≠ y1001 := F1010.bytes.ne_exa f1011.1.1 (hw _ (List.mem_of_getElem? (i := 5) rfl))
        have f1012 := (f1006.keep K1010 nin0 nin0)
        have nb1010y1002 : b1010 ≠ y1002 := F1010.bytes.ne_exa f1012.1.1 (hw _ (List.mem_of_getElem? (i := 5) rfl))
        have f1013 := (F1004.keep K1010 nin0 nin0)
        have nb1010y1004 : b1010 ≠ y1004 := F1010.bytes.ne_exa f1013.1.1 (hw _ (List.mem_of_getElem? (i := 5) rfl))
        have nbx1010 : b1010 ≠ y1010 := F1010.bytes.ne_exa F1010.1.1 (hw _ (List.mem_of_getElem? (i := 5) rfl))
        show Go _ _ _ _ _ _ _ _ _ _ _ _ _ _ _ _ _ (mkF K.m 80 #[.val (.int p0), .val (.int p1), .val (.int p2), .val (.int p3), .val (.int p4), .val (.ref y1001), .val (.ref y1002), .val (.ref y1004), .val (.int (p4 &&& (3 : Int32))), .val (.int ((XT.ushr p4 (2 : Int32)) &&& (3 : Int32))), .unset, .unset, .unset, .unset, .unset, .unset, .unset] [.ref y1010])
        refine go_astore d38_80 rfl (l' := #[.val (.int p0), .val (.int p1), .val (.int p2), .val (.int p3), .val (.int p4), .val (.ref y1001), .val (.ref y1002), .val (.ref y1004), .val (.int (p4 &&& (3 : Int32))), .val (.int ((XT.ushr p4 (2 : Int32)) &&& (3 : Int32))), .val (.ref y1010), .unset, .unset, .unset, .unset, .unset, .unset]) rfl ?_
        exact g82 l Z a0 hw hEL K p0 p1 p2 p3 p4 y1001 y1002 y1004 y1010 cs1001 cs1002 cs1004 cs1010 b1001 b1002 b1004 b1010 S1010 h1010 f1011 f1012 f1013 F1010 (ne_of (a := y1001) (b := y1002) (by omega)) (ne_of (a := y1001) (b := y1004) (by omega)) (ne_of (a := y1002) (b := y1004) (by omega)) (ne_of (a := y1001) (b := y1010) (by omega)) (ne_of (a := y1002) (b := y1010) (by omega)) (ne_of (a := y1004) (b := y1010) (by omega)) (by omega) (by omega) (by omega) (by omega) (by omega) (m1010 _ (m1004 _ (m1002 _ s1001))) (m1010 _ (m1004 _ s1002)) (m1010 _ s1004) s1010 ((XT.ushr p4 (2 : Int32)) &&& (3 : Int32)) zc Oc Pc sf rsf Os
      · refine go_iloadN d38_67 rfl ?_
        refine go_static (R := room_1) (kc := 24) (ks := 1412) [.int p2] [] (c_str l Z a0 hw hEL p2 S1004 h1004 (by omega) zc Oc Pc) (hw _ (List.mem_of_getElem? (i := 0) rfl)) (hw _ (List.mem_of_getElem? (i := 1) rfl)) (hw _ (List.mem_of_getElem? (i := 3) rfl)) (hw _ (List.mem_of_getElem? (i := 2) rfl)) (by decide) rfl rfl (lenOf pd32 rfl) d38_68 (by rfl) (by decide) (Nat.le_of_ble_eq_true rfl) (rc := 6) (rs := 15) rfl rfl (fun S1014 v1014 h1014 m1014 z1014 q1014 => ?_)
        obtain ⟨y1014, cs1014, b1014, rfl, g1014, s1014, K1014, F1014⟩ := q1014
        have z1014 := K1014.1
        have l1014 := lt_nat F1014.1.lx
        have lb1014 := lt_nat F1014.1.lb
        have f1015 := (f1005.keep K1014 nin0 nin0)
        have nb1014y1001 : b1014 ≠ y1001 := F1014.bytes.ne_exa f1015.1.1 (hw _ (List.mem_of_getElem? (i := 5) rfl))
        have f1016 := (f1006.keep K1014 nin0 nin0)
        have nb1014y1002 : b1014 ≠ y1002 := F1014.bytes.ne_exa f1016.1.1 (hw _ (List.mem_of_getElem? (i := 5) rfl))
        have f1017 := (F1004.keep K1014 nin0 nin0)
        have nb1014y1004 : b1014 ≠ y1004 := F1014.bytes.ne_exa f1017.1.1 (hw _ (List.mem_of_getElem? (i := 5) rfl))
        have nbx1014 : b1014 ≠ y1014 := F1014.bytes.ne_exa F1014.1.1 (hw _ (List.mem_of_getElem? (i := 5) rfl))
        show Go _ _ _ _ _ _ _ _ _ _ _ _ _ _ _ _ _ (mkF K.m 71 #[.val (.int p0), .val (.int p1), .val (.int p2), .val (.int p3), .val (.int p4), .val (.ref y1001), .val (.ref y1002), .val (.ref y1004), .val (.int (p4 &&& (3 : Int32))), .val (.int ((XT.ushr p4 (2 : Int32)) &&& (3 : Int32))), .unset, .unset, .unset, .unset, .unset, .unset, .unset] [.ref y1014])
        refine go_astore d38_71 rfl (l' := #[.val (.int p0), .val (.int p1), .val (.int p2), .val (.int p3), .val (.int p4), .val (.ref y1001), .val (.ref y1002), .val (.ref y1004), .val (.int (p4 &&& (3 : Int32))), .val (.int ((XT.ushr p4 (2 : Int32)) &&& (3 : Int32))), .val (.ref y1014), .unset, .unset, .unset, .unset, .unset, .unset]) rfl ?_
        refine go_goto d38_73 ?_
        exact g82 l Z a0 hw hEL K p0 p1 p2 p3 p4 y1001 y1002 y1004 y1014 cs1001 cs1002 cs1004 cs1014 b1001 b1002 b1004 b1014 S1014 h1014 f1015 f1016 f1017 F1014 (ne_of (a := y1001) (b := y1002) (by omega)) (ne_of (a := y1001) (b := y1004) (by omega)) (ne_of (a := y1002) (b := y1004) (by omega)) (ne_of (a := y1001) (b := y1014) (by omega)) (ne_of (a := y1002) (b := y1014) (by omega)) (ne_of (a := y1004) (b := y1014) (by omega)) (by omega) (by omega) (by omega) (by omega) (by omega) (m1014 _ (m1004 _ (m1002 _ s1001))) (m1014 _ (m1004 _ s1002)) (m1014 _ s1004) s1014 ((XT.ushr p4 (2 : Int32)) &&& (3 : Int32)) zc Oc Pc sf rsf Os
    · refine go_iloadN d38_52 rfl ?_
      refine go_static (R := room_1) (kc := 24) (ks := 1412) [.int p1] [] (c_str l Z a0 hw hEL p1 S1004 h1004 (by omega) zc Oc Pc) (hw _ (List.mem_of_getElem? (i := 0) rfl)) (hw _ (List.mem_of_getElem? (i := 1) rfl)) (hw _ (List.mem_of_getElem? (i := 3) rfl)) (hw _ (List.mem_of_getElem? (i := 2) rfl)) (by decide) rfl rfl (lenOf pd32 rfl) d38_53 (by rfl) (by decide) (Nat.le_of_ble_eq_true rfl) (rc := 6) (rs := 15) rfl rfl (fun S1018 v1018 h1018 m1018 z1018 q1018 => ?_)
      obtain ⟨y1018, cs1018, b1018, rfl, g1018, s1018, K1018, F1018⟩ := q1018
      have z1018 := K1018.1
      have l1018 := lt_nat F1018.1.lx
      have lb1018 := lt_nat F1018.1.lb
      have f1019 := (f1005.keep K1018 nin0 nin0)
      have nb1018y1001 : b1018 ≠ y1001 := F1018.bytes.ne_exa f1019.1.1 (hw _ (List.mem_of_getElem? (i := 5) rfl))
      have f1020 := (f1006.keep K1018 nin0 nin0)
      have nb1018y1002 : b1018 ≠ y1002 := F1018.bytes.ne_exa f1020.1.1 (hw _ (List.mem_of_getElem? (i := 5) rfl))
      have f1021 := (F1004.keep K1018 nin0 nin0)
      have nb1018y1004 : b1018 ≠ y1004 := F1018.bytes.ne_exa f1021.1.1 (hw _ (List.mem_of_getElem? (i := 5) rfl))
      have nbx1018 : b1018 ≠ y1018 := F1018.bytes.ne_exa F1018.1.1 (hw _ (List.mem_of_getElem? (i := 5) rfl))
      show Go _ _ _ _ _ _ _ _ _ _ _ _ _ _ _ _ _ (mkF K.m 56 #[.val (.int p0), .val (.int p1), .val (.int p2), .val (.int p3), .val (.int p4), .val (.ref y1001), .val (.ref y1002), .val (.ref y1004), .val (.int (p4 &&& (3 : Int32))), .val (.int ((XT.ushr p4 (2 : Int32)) &&& (3 : Int32))), .unset, .unset, .unset, .unset, .unset, .unset, .unset] [.ref y1018])
      refine go_astore d38_56 rfl (l' := #[.val (.int p0), .val (.int p1), .val (.int p2), .val (.int p3), .val (.int p4), .val (.ref y1001), .val (.ref y1002), .val (.ref y1004), .val (.int (p4 &&& (3 : Int32))), .val (.int ((XT.ushr p4 (2 : Int32)) &&& (3 : Int32))), .val (.ref y1018), .unset, .unset, .unset, .unset, .unset, .unset]) rfl ?_
      refine go_goto d38_58 ?_
      exact g82 l Z a0 hw hEL K p0 p1 p2 p3 p4 y1001 y1002 y1004 y1018 cs1001 cs1002 cs1004 cs1018 b1001 b1002 b1004 b1018 S1018 h1018 f1019 f1020 f1021 F1018 (ne_of (a := y1001) (b := y1002) (by omega)) (ne_of (a := y1001) (b := y1004) (by omega)) (ne_of (a := y1002) (b := y1004) (by omega)) (ne_of (a := y1001) (b := y1018) (by omega)) (ne_of (a := y1002) (b := y1018) (by omega)) (ne_of (a := y1004) (b := y1018) (by omega)) (by omega) (by omega) (by omega) (by omega) (by omega) (m1018 _ (m1004 _ (m1002 _ s1001))) (m1018 _ (m1004 _ s1002)) (m1018 _ s1004) s1018 ((XT.ushr p4 (2 : Int32)) &&& (3 : Int32)) zc Oc Pc sf rsf Os
  · refine go_iloadN d38_37 rfl ?_
    refine go_static (R := room_1) (kc := 24) (ks := 1412) [.int p0] [] (c_str l Z a0 hw hEL p0 S1004 h1004 (by omega) zc Oc Pc) (hw _ (List.mem_of_getElem? (i := 0) rfl)) (hw _ (List.mem_of_getElem? (i := 1) rfl)) (hw _ (List.mem_of_getElem? (i := 3) rfl)) (hw _ (List.mem_of_getElem? (i := 2) rfl)) (by decide) rfl rfl (lenOf pd32 rfl) d38_38 (by rfl) (by decide) (Nat.le_of_ble_eq_true rfl) (rc := 6) (rs := 15) rfl rfl (fun S1022 v1022 h1022 m1022 z1022 q1022 => ?_)
    obtain ⟨y1022, cs1022, b1022, rfl, g1022, s1022, K1022, F1022⟩ := q1022
    have z1022 := K1022.1
    have l1022 := lt_nat F1022.1.lx
    have lb1022 := lt_nat F1022.1.lb
    have f1023 := (f1005.keep K1022 nin0 nin0)
    have nb1022y1001 : b1022 ≠ y1001 := F1022.bytes.ne_exa f1023.1.1 (hw _ (List.mem_of_getElem? (i := 5) rfl))
    have f1024 := (f1006.keep K1022 nin0 nin0)
    have nb1022y1002 : b1022 ≠ y1002 := F1022.bytes.ne_exa f1024.1.1 (hw _ (List.mem_of_getElem? (i := 5) rfl))
    have f1025 := (F1004.keep K1022 nin0 nin0)
    have nb1022y1004 : b1022 ≠ y1004 := F1022.bytes.ne_exa f1025.1.1 (hw _ (List.mem_of_getElem? (i := 5) rfl))
    have nbx1022 : b1022 ≠ y1022 := F1022.bytes.ne_exa F1022.1.1 (hw _ (List.mem_of_getElem? (i := 5) rfl))
    show Go _ _ _ _ _ _ _ _ _ _ _ _ _ _ _ _ _ (mkF K.m 41 #[.val (.int p0), .val (.int p1), .val (.int p2), .val (.int p3), .val (.int p4), .val (.ref y1001), .val (.ref y1002), .val (.ref y1004), .val (.int (p4 &&& (3 : Int32))), .val (.int ((XT.ushr p4 (2 : Int32)) &&& (3 : Int32))), .unset, .unset, .unset, .unset, .unset, .unset, .unset] [.ref y1022])
    refine go_astore d38_41 rfl (l' := #[.val (.int p0), .val (.int p1), .val (.int p2), .val (.int p3), .val (.int p4), .val (.ref y1001), .val (.ref y1002), .val (.ref y1004), .val (.int (p4 &&& (3 : Int32))), .val (.int ((XT.ushr p4 (2 : Int32)) &&& (3 : Int32))), .val (.ref y1022), .unset, .unset, .unset, .unset, .unset, .unset]) rfl ?_
    refine go_goto d38_43 ?_
    exact g82 l Z a0 hw hEL K p0 p1 p2 p3 p4 y1001 y1002 y1004 y1022 cs1001 cs1002 cs1004 cs1022 b1001 b1002 b1004 b1022 S1022 h1022 f1023 f1024 f1025 F1022 (ne_of (a := y1001) (b := y1002) (by omega)) (ne_of (a := y1001) (b := y1004) (by omega)) (ne_of (a := y1002) (b := y1004) (by omega)) (ne_of (a := y1001) (b := y1022) (by omega)) (ne_of (a := y1002) (b := y1022) (by omega)) (ne_of (a := y1004) (b := y1022) (by omega)) (by omega) (by omega) (by omega) (by omega) (by omega) (m1022 _ (m1004 _ (m1002 _ s1001))) (m1022 _ (m1004 _ s1002)) (m1022 _ s1004) s1022 ((XT.ushr p4 (2 : Int32)) &&& (3 : Int32)) zc Oc Pc sf rsf Os
set_option maxRecDepth 65536 in
set_option maxHeartbeats 40000000 in
theorem comes_1 {Post : Tables → Env → Array Value → State → Outcome → State → Prop} (hpost : ∀ tb e args s v u, (limb_1_1.after args s (.returned v) u = true ∧ limb_1_2.after args s (.returned v) u = true ∧ True) → ReturnedEndW s (.returned v) u (Jvm.fieldLocs frame_1_writes args s ++ Jvm.arrayLocs frame_1_arrays args s ++ Jvm.staticLocs frame_1_statics s) 48 1472 → Post tb e args s (.returned v) u) :
    ArmFor flags0 classFile x code maxLocals ret World_1 tables_1 room_1 Calls_1 rest_1 Pre_1 Post := by
  intro l hfl _ _ p e ha hc hk s m args below hf hA hF happ hP
  obtain ⟨hcalls, hrest, hpre⟩ := hP
  obtain ⟨-, -, -, hnamed, -, -, -, hat⟩ := (Spec.applies_iff hf).mp happ
  obtain ⟨hg, hn⟩ := and_e (Cond.before_iff.mp (show (Jvm.Cond.and given_1 narrow_1).before args s = true from hpre))
  obtain ⟨g0, r0⟩ := and_e hg
  obtain ⟨g1, r1⟩ := and_e r0
  obtain ⟨g2, r2⟩ := and_e r1
  obtain ⟨g3, r3⟩ := and_e r2
  obtain ⟨g4, r4⟩ := and_e r3
  have g5 := r4
  obtain ⟨w0, w1, w2, w3, w4, rfl⟩ : ∃ w0 w1 w2 w3 w4 : Value, args = #[w0, w1, w2, w3, w4] := by
    have hs : args.size = 5 := by simpa [Cond.value, given_1] using g0
    obtain ⟨L⟩ := args
    match L, hs with
    | [w0, w1, w2, w3, w4], _ => exact ⟨w0, w1, w2, w3, w4, rfl⟩
  have hw := fun d (hd : d ∈ tables_1) => atoms_spec (ws := Jvm.Cond.code x code maxLocals ret :: tables_1) hat d (List.mem_cons_of_mem _ hd)
  have hfit : Fit s := fun {y c} hc i hi => by
    obtain ⟨ha, rfl⟩ := Array.getElem?_eq_some_iff.mp hc
    have q := List.all_eq_true.mp ((Array.all_eq_true_iff_forall_mem.mp hF) _ (Array.getElem_mem ha)) i (List.mem_range.mpr hi)
    simpa [Array.getElem?_eq_getElem hi] using q
  obtain ⟨hsets, hown0⟩ := atoms_of _ (rest_1_c_eq ▸ (show rest_1_c.before _ s = true from hrest))
  obtain ⟨i0, ei0⟩ := is_v g1
  obtain rfl : w0 = (.int i0) := Option.some.inj ei0
  obtain ⟨i1, ei1⟩ := is_v g2
  obtain rfl : w1 = (.int i1) := Option.some.inj ei1
  obtain ⟨i2, ei2⟩ := is_v g3
  obtain rfl : w2 = (.int i2) := Option.some.inj ei2
  obtain ⟨i3, ei3⟩ := is_v g4
  obtain rfl : w3 = (.int i3) := Option.some.inj ei3
  obtain ⟨i4, ei4⟩ := is_v g5
  obtain rfl : w4 = (.int i4) := Option.some.inj ei4
  have hEL : EW s _ own_EL := (EW.cons (text := "") (hw _ (List.mem_of_getElem? (i := 18) rfl)) (by decide) EW.nil)
  have hCH : CHv s own_EL s.vm s.heap := CHv.start hEL (fun p hp => hcalls.1 p hp) (hsets _ (List.mem_of_getElem? (i := 2) rfl)) (hw _ (List.mem_of_getElem? (i := 19) rfl)) (hw _ (List.mem_of_getElem? (i := 5) rfl))
  obtain ⟨zc, ezc⟩ := is_v (Cond.before_iff.mp (hsets _ (List.mem_of_getElem? (i := 1) rfl)))
  have Oc : Sta s s.heap "java/lang/String" "COMPACT_STRINGS" "Z" (.int zc) := Sta.start ezc (Or.inl (hsets _ (List.mem_of_getElem? (i := 0) rfl)))
  have Pc : ¬ (zc = (0 : Int32)) := gotF (Cond.eq_ints ezc (Term.int_eval (0))) (not_v (Cond.before_iff.mp (hsets _ (List.mem_of_getElem? (i := 2) rfl))))
  obtain ⟨sf, esf, rsf⟩ := isR_v (Cond.before_iff.mp (hsets _ (List.mem_of_getElem? (i := 8) rfl)))
  have Os : Sta s s.heap "jdk/internal/util/Preconditions" "SIOOBE_FORMATTER" "Ljava/util/function/BiFunction;" sf := Sta.start esf (Or.inl (hsets _ (List.mem_of_getElem? (i := 7) rfl)))
  obtain ⟨n, o, h1, h2, h3, _, L, rfl, ⟨⟨S, -, -, -, rfl⟩, N⟩, -, hq⟩ := c_law l s _ hw hEL i0 i1 i2 i3 i4 zc Oc Pc sf rsf Os p e ha hc hk s m _ below hf ((Spec.applies_iff_loose hf).mp happ).1 ⟨rfl, State.Warmed39.refl s, rfl, hCH, fun _ q => q.elim, ⟨Nat.le_refl _, fun _ _ q => q⟩⟩ trivial
  refine ⟨n, _, h1, h2, h3, hpost _ _ _ _ _ _ ⟨Cond.after_iff.mpr rfl, Cond.after_iff.mpr (eq_i res_at (Term.int_eval (1)) rfl), trivial⟩ ⟨hq.1, hq.2.1, hq.2.2.1, (hq.2.2.2.sift fun y hy => Or.inr (N y hy)).mono (by decide) (by decide)⟩⟩
theorem main_1_1 : Claimed_1_1 := comes_1 fun _ _ _ _ _ _ h hF => ⟨h.1, hF⟩
theorem main_1_2 : Claimed_1_2 := comes_1 fun _ _ _ _ _ _ h hF => ⟨h.2.1, hF⟩
end Jvm.Pilot.@@N@@
namespace Jvm.Pilot.@@N@@
open Jvm Jvm.ClassFile Sem Op Lib Jvm.Free Jvm.Stand Jvm.Pilot.@@N@@.Jvm.D
/-! MADE BY PROGRAM (witnessworld.py) out of the Statement's table words and the real class files: 20 classes; the members and pool entries that the words name. The judged class is class 1, her method 2. -/
namespace start1
open Jvm.ClassFile
def u (s : String) : CpInfo := .utf8 (stringToUtf16 s)
/-- a pool by its gaps: so many unusable entries, then the entry; so many at the end -/
def gap : Nat → List CpInfo → List CpInfo
  | 0, r => r
  | n + 1, r => .unusable :: gap n r
def poolList (es : List (Nat × CpInfo)) (last : Nat) : List CpInfo := es.foldr (fun e r => gap e.1 (e.2 :: r)) (gap last [])
def pool (es : List (Nat × CpInfo)) (last : Nat) : Array CpInfo := ⟨poolList es last⟩
def fileOf (pool : Array CpInfo) (this : Nat) (attrs : Array Attribute := #[]) (ms : Array MethodInfo := #[]) (fl : Nat := 33) (sup : Nat := 0) (ifs : Array Nat := #[]) (fds : Array FieldInfo := #[]) : ClassFile where
  minorVersion := 0
  majorVersion := 65
  constantPool := pool
  accessFlags := fl
  thisClass := this
  superClass := sup
  interfaces := ifs
  fields := fds
  methods := ms
  attributes := attrs
def plain (name : String) (sup : Option ClassId) : Class where
  name := name
  kind := .ordinary
  loader := none
  accessFlags := 33
  super := sup
  interfaces := #[]
  cf := none
  fields := #[]
  methods := #[]
  instanceTypes := #[]
  staticTypes := #[]
  resolved := #[]
  callSites := []
  init := .initialized
  statics := none
  mirror := none

def pool0 : Array CpInfo := pool [(5, u "<init>"), (0, u "()V"), (1, .class_ 10), (1, u "java/lang/Object")] 113

def k0c0 : Code := { maxStack := 0, maxLocals := 1, code := object_method_1_code, exceptionTable := #[], attributes := #[] }
def k0m0 : Method := { name := "<init>", desc := "()V", sig := { parameters := [], returnType := none }, accessFlags := 1, code := some k0c0 }
/-- java/lang/Object -/
def k0 : Class := { plain "java/lang/Object" none with
  accessFlags := 33
  interfaces := #[]
  cf := some (fileOf pool0 8 #[] #[{ accessFlags := 1, nameIndex := 5, descriptorIndex := 6, attributes := #[] }] 33 0 #[] #[])
  fields := #[]
  methods := #[k0m0]
  instanceTypes := #[]
  staticTypes := #[]
  resolved := Array.replicate 124 none
  statics := none }

def pool1 : Array CpInfo := pool [(2, .class_ 4), (0, .nameAndType 5 6), (0, u "java/lang/Object"), (0, u "<init>"), (0, u "()V"), (0, .class_ 8), (0, u "java/lang/String"), (0, .methodref 7 10), (0, .nameAndType 5 11), (0, u "([C)V"), (0, .methodref 7 13), (0, .nameAndType 14 15), (0, u "valueOf"), (0, u "(C)Ljava/lang/String;"), (0, .methodref 17 18), (0, .class_ 19), (0, .nameAndType 20 21), (0, u "com/example/vestledger/vestledger/account/NamesFindPinLaw"), (0, u "str"), (0, u "(I)Ljava/lang/String;"), (0, .class_ 23), (0, u "com/example/vestledger/vestledger/account/Names"), (0, .methodref 22 3), (0, .methodref 22 26), (0, .nameAndType 27 28), (0, u "placeOf"), (0, u "(Ljava/lang/String;)I"), (0, .methodref 22 30), (0, .nameAndType 31 28), (0, u "find"), (0, .methodref 7 33), (0, .nameAndType 34 35), (0, u "equals"), (0, u "(Ljava/lang/Object;)Z"), (3, u "law"), (0, u "(IIIII)Z")] 2

def k1m0 : Method := { name := "<init>", desc := "()V", sig := { parameters := [], returnType := none }, accessFlags := 1, code := none }
def k1c1 : Code := { maxStack := 3, maxLocals := 6, code := method_2_code, exceptionTable := #[], attributes := #[] }
def k1m1 : Method := { name := "str", desc := "(I)Ljava/lang/String;", sig := { parameters := [.int], returnType := some (.object "java/lang/String") }, accessFlags := 10, code := some k1c1 }
def k1c2 : Code := { maxStack := 2, maxLocals := 17, code := code, exceptionTable := #[], attributes := #[] }
def k1m2 : Method := { name := "law", desc := "(IIIII)Z", sig := { parameters := [.int, .int, .int, .int, .int], returnType := some .boolean }, accessFlags := 9, code := some k1c2 }
/-- com/example/vestledger/vestledger/account/NamesFindPinLaw -/
def k1 : Class := { plain "com/example/vestledger/vestledger/account/NamesFindPinLaw" (some 0) with
  accessFlags := 49
  interfaces := #[]
  cf := some (fileOf pool1 17 #[] #[{ accessFlags := 1, nameIndex := 5, descriptorIndex := 6, attributes := #[] }, { accessFlags := 10, nameIndex := 20, descriptorIndex := 21, attributes := #[] }, { accessFlags := 9, nameIndex := 39, descriptorIndex := 40, attributes := #[] }] 49 2 #[] #[])
  fields := #[]
  methods := #[k1m0, k1m1, k1m2]
  instanceTypes := #[]
  staticTypes := #[]
  resolved := Array.replicate 43 none
  statics := none }

def pool2 : Array CpInfo := pool [(1, .class_ 2), (0, u "java/io/Serializable"), (0, .class_ 4), (0, u "java/lang/Object")] 2

/-- java/io/Serializable -/
def k2 : Class := { plain "java/io/Serializable" (some 0) with
  accessFlags := 1537
  interfaces := #[]
  cf := some (fileOf pool2 1 #[] #[] 1537 3 #[] #[])
  fields := #[]
  methods := #[]
  instanceTypes := #[]
  staticTypes := #[]
  resolved := Array.replicate 7 none
  statics := none }

def pool3 : Array CpInfo := pool [(1, .class_ 2), (0, u "java/lang/Comparable"), (0, .class_ 4), (0, u "java/lang/Object")] 7

/-- java/lang/Comparable -/
def k3 : Class := { plain "java/lang/Comparable" (some 0) with
  accessFlags := 1537
  interfaces := #[]
  cf := some (fileOf pool3 1 #[] #[] 1537 3 #[] #[])
  fields := #[]
  methods := #[]
  instanceTypes := #[]
  staticTypes := #[]
  resolved := Array.replicate 12 none
  statics := none }

def pool4 : Array CpInfo := pool [(2, .class_ 4), (1, u "java/lang/CharSequence"), (42, .class_ 48), (0, u "java/lang/CharSequence$1CodePointIterator"), (10, .class_ 60), (0, u "java/lang/CharSequence$1CharIterator"), (5, .class_ 67), (0, u "java/lang/Object")] 63

/-- java/lang/CharSequence -/
def k4 : Class := { plain "java/lang/CharSequence" (some 0) with
  accessFlags := 1537
  interfaces := #[]
  cf := some (fileOf pool4 2 #[.nestMembers #[47, 59]] #[] 1537 66 #[] #[])
  fields := #[]
  methods := #[]
  instanceTypes := #[]
  staticTypes := #[]
  resolved := Array.replicate 131 none
  statics := none }

def pool5 : Array CpInfo := pool [(1, .class_ 2), (0, u "java/lang/constant/Constable"), (0, .class_ 4), (0, u "java/lang/Object")] 6

/-- java/lang/constant/Constable -/
def k5 : Class := { plain "java/lang/constant/Constable" (some 0) with
  accessFlags := 1537
  interfaces := #[]
  cf := some (fileOf pool5 1 #[] #[] 1537 3 #[] #[])
  fields := #[]
  methods := #[]
  instanceTypes := #[]
  staticTypes := #[]
  resolved := Array.replicate 11 none
  statics := none }

def pool6 : Array CpInfo := pool [(1, .class_ 2), (0, u "java/lang/constant/ConstantDesc"), (0, .class_ 4), (0, u "java/lang/Object")] 32

/-- java/lang/constant/ConstantDesc -/
def k6 : Class := { plain "java/lang/constant/ConstantDesc" (some 0) with
  accessFlags := 1537
  interfaces := #[]
  cf := some (fileOf pool6 1 #[] #[] 1537 3 #[] #[])
  fields := #[]
  methods := #[]
  instanceTypes := #[]
  staticTypes := #[]
  resolved := Array.replicate 37 none
  statics := none }

def pool7 : Array CpInfo := pool [(1, .methodref 2 3), (0, .class_ 4), (0, .nameAndType 5 6), (0, u "java/lang/Object"), (0, u "<init>"), (0, u "()V"), (0, .string 8), (0, u ""), (0, .fieldref 10 11), (0, .class_ 12), (0, .nameAndType 13 14), (0, u "java/lang/String"), (0, u "value"), (0, u "[B"), (0, .fieldref 10 16), (0, .nameAndType 17 18), (0, u "coder"), (0, u "B"), (0, .fieldref 10 20), (0, .nameAndType 21 22), (0, u "hash"), (0, u "I"), (0, .fieldref 10 24), (0, .nameAndType 25 26), (0, u "hashIsZero"), (0, u "Z"), (0, .methodref 10 28), (0, .nameAndType 5 29), (0, u "([CIILjava/lang/Void;)V"), (4, .methodref 10 35), (0, .nameAndType 36 37), (0, u "checkBoundsOffCount"), (0, u "(III)I"), (0, .fieldref 10 39), (0, .nameAndType 40 26), (0, u "COMPACT_STRINGS"), (1, .class_ 44), (1, u "java/lang/StringUTF16"), (0, u "compress"), (1, .methodref 42 48), (0, .nameAndType 49 50), (0, u "coderFromArrayLen"), (0, u "([BI)B"), (2, u "toBytes"), (53, .class_ 109), (1, u "java/lang/StringLatin1"), (32, u "()Z"), (34, .methodref 42 178), (0, .nameAndType 45 179), (0, u "([CII)[B"), (29, .methodref 10 210), (0, .nameAndType 5 211), (0, u "([BB)V"), (122, u "()I"), (0, .methodref 10 336), (0, .nameAndType 17 337), (0, u "()B"), (25, u "([BI)C"), (5, u "(C)Z"), (21, u "(II)V"), (35, u "(I)C"), (64, .methodref 10 493), (0, .nameAndType 494 142), (0, u "isLatin1"), (0, .methodref 107 496), (0, .nameAndType 497 363), (0, u "charAt"), (3, u "checkIndex"), (3, .methodref 10 506), (0, .nameAndType 507 334), (0, u "length"), (5, u "checkFromToIndex"), (7, .methodref 10 522), (0, .nameAndType 523 524), (0, u "checkBoundsBeginEnd"), (0, u "(III)V"), (0, .methodref 107 526), (0, .nameAndType 527 528), (0, u "getChars"), (0, u "([BII[CI)V"), (12, .methodref 107 542), (0, .nameAndType 543 544), (0, u "equals"), (0, u "([B[B)Z"), (28, u "(Ljava/lang/Object;)Z"), (1, .class_ 576), (0, u "java/lang/CharSequence"), (22, u "CASE_INSENSITIVE_ORDER"), (0, u "Ljava/util/Comparator;"), (27, .methodref 107 629), (0, .nameAndType 630 631), (0, u "hashCode"), (0, u "([B)I"), (150, u "valueOf"), (0, u "(C)Ljava/lang/String;"), (226, u "([C)V"), (4, .methodref 107 1016), (0, .nameAndType 1017 369), (0, u "canEncode"), (0, .methodref 107 1019), (0, .nameAndType 53 1020), (0, u "(C)[B"), (32, .fieldref 1054 1055), (0, .class_ 1056), (0, .nameAndType 1057 1058), (0, u "jdk/internal/util/Preconditions"), (0, u "SIOOBE_FORMATTER"), (0, u "Ljava/util/function/BiFunction;"), (0, .methodref 1054 1060), (0, .nameAndType 501 1061), (0, u "(IILjava/util/function/BiFunction;)I"), (0, .methodref 1054 1063), (0, .nameAndType 513 1064), (0, u "(IIILjava/util/function/BiFunction;)I"), (0, .methodref 1054 1066), (0, .nameAndType 1067 1064), (0, u "checkFromIndexSize"), (33, u "serialPersistentFields"), (0, u "[Ljava/io/ObjectStreamField;"), (0, .class_ 1104), (0, u "java/lang/String$CaseInsensitiveComparator"), (1, .class_ 1107), (0, u "java/io/Serializable"), (0, .class_ 1109), (0, u "java/lang/Comparable"), (0, .class_ 1111), (0, u "java/lang/constant/Constable"), (0, .class_ 1113), (0, u "java/lang/constant/ConstantDesc"), (2, u "serialVersionUID"), (0, u "J"), (3, u "REPL"), (0, u "C"), (2, u "LATIN1"), (1, u "UTF16"), (112, u "(II[CI)V")] 210

def k7m0 : Method := { name := "<init>", desc := "()V", sig := { parameters := [], returnType := none }, accessFlags := 1, code := none }
def k7c1 : Code := { maxStack := 5, maxLocals := 2, code := jdk_42_method_3_code, exceptionTable := #[], attributes := #[] }
def k7m1 : Method := { name := "<init>", desc := "([C)V", sig := { parameters := [(.array .char)], returnType := none }, accessFlags := 1, code := some k7c1 }
def k7c2 : Code := { maxStack := 2, maxLocals := 1, code := jdk_42_method_54_code, exceptionTable := #[], attributes := #[] }
def k7m2 : Method := { name := "length", desc := "()I", sig := { parameters := [], returnType := some .int }, accessFlags := 1, code := some k7c2 }
def k7c3 : Code := { maxStack := 2, maxLocals := 2, code := jdk_42_method_56_code, exceptionTable := #[], attributes := #[] }
def k7m3 : Method := { name := "charAt", desc := "(I)C", sig := { parameters := [.int], returnType := some .char }, accessFlags := 1, code := some k7c3 }
def k7c4 : Code := { maxStack := 5, maxLocals := 5, code := jdk_42_method_61_code, exceptionTable := #[], attributes := #[] }
def k7m4 : Method := { name := "getChars", desc := "(II[CI)V", sig := { parameters := [.int, .int, (.array .char), .int], returnType := none }, accessFlags := 1, code := some k7c4 }
def k7c5 : Code := { maxStack := 2, maxLocals := 3, code := jdk_42_method_66_code, exceptionTable := #[], attributes := #[] }
def k7m5 : Method := { name := "equals", desc := "(Ljava/lang/Object;)Z", sig := { parameters := [(.object "java/lang/Object")], returnType := some .boolean }, accessFlags := 1, code := some k7c5 }
def k7c6 : Code := { maxStack := 2, maxLocals := 2, code := jdk_42_method_78_code, exceptionTable := #[], attributes := #[] }
def k7m6 : Method := { name := "hashCode", desc := "()I", sig := { parameters := [], returnType := some .int }, accessFlags := 1, code := some k7c6 }
def k7c7 : Code := { maxStack := 4, maxLocals := 1, code := jdk_42_method_139_code, exceptionTable := #[], attributes := #[] }
def k7m7 : Method := { name := "valueOf", desc := "(C)Ljava/lang/String;", sig := { parameters := [.char], returnType := some (.object "java/lang/String") }, accessFlags := 9, code := some k7c7 }
def k7c8 : Code := { maxStack := 4, maxLocals := 6, code := jdk_42_method_149_code, exceptionTable := #[], attributes := #[] }
def k7m8 : Method := { name := "<init>", desc := "([CIILjava/lang/Void;)V", sig := { parameters := [(.array .char), .int, .int, (.object "java/lang/Void")], returnType := none }, accessFlags := 2, code := some k7c8 }
def k7c9 : Code := { maxStack := 2, maxLocals := 3, code := jdk_42_method_151_code, exceptionTable := #[], attributes := #[] }
def k7m9 : Method := { name := "<init>", desc := "([BB)V", sig := { parameters := [(.array .byte), .byte], returnType := none }, accessFlags := 0, code := some k7c9 }
def k7c10 : Code := { maxStack := 1, maxLocals := 1, code := jdk_42_method_152_code, exceptionTable := #[], attributes := #[] }
def k7m10 : Method := { name := "coder", desc := "()B", sig := { parameters := [], returnType := some .byte }, accessFlags := 0, code := some k7c10 }
def k7c11 : Code := { maxStack := 1, maxLocals := 1, code := jdk_42_method_154_code, exceptionTable := #[], attributes := #[] }
def k7m11 : Method := { name := "isLatin1", desc := "()Z", sig := { parameters := [], returnType := some .boolean }, accessFlags := 0, code := some k7c11 }
def k7c12 : Code := { maxStack := 3, maxLocals := 2, code := jdk_42_method_155_code, exceptionTable := #[], attributes := #[] }
def k7m12 : Method := { name := "checkIndex", desc := "(II)V", sig := { parameters := [.int, .int], returnType := none }, accessFlags := 8, code := some k7c12 }
def k7c13 : Code := { maxStack := 4, maxLocals := 3, code := jdk_42_method_157_code, exceptionTable := #[], attributes := #[] }
def k7m13 : Method := { name := "checkBoundsOffCount", desc := "(III)I", sig := { parameters := [.int, .int, .int], returnType := some .int }, accessFlags := 8, code := some k7c13 }
def k7c14 : Code := { maxStack := 4, maxLocals := 3, code := jdk_42_method_158_code, exceptionTable := #[], attributes := #[] }
def k7m14 : Method := { name := "checkBoundsBeginEnd", desc := "(III)V", sig := { parameters := [.int, .int, .int], returnType := none }, accessFlags := 8, code := some k7c14 }
/-- java/lang/String -/
def k7 : Class := { plain "java/lang/String" (some 0) with
  accessFlags := 49
  interfaces := #[2, 3, 4, 5, 6]
  cf := some (fileOf pool7 10 #[.nestMembers #[1103]] #[{ accessFlags := 1, nameIndex := 5, descriptorIndex := 6, attributes := #[] }, { accessFlags := 1, nameIndex := 5, descriptorIndex := 1010, attributes := #[] }, { accessFlags := 1, nameIndex := 507, descriptorIndex := 334, attributes := #[] }, { accessFlags := 1, nameIndex := 497, descriptorIndex := 427, attributes := #[] }, { accessFlags := 1, nameIndex := 527, descriptorIndex := 1240, attributes := #[] }, { accessFlags := 1, nameIndex := 543, descriptorIndex := 573, attributes := #[] }, { accessFlags := 1, nameIndex := 630, descriptorIndex := 334, attributes := #[] }, { accessFlags := 9, nameIndex := 782, descriptorIndex := 783, attributes := #[] }, { accessFlags := 2, nameIndex := 5, descriptorIndex := 29, attributes := #[] }, { accessFlags := 0, nameIndex := 5, descriptorIndex := 211, attributes := #[] }, { accessFlags := 0, nameIndex := 17, descriptorIndex := 337, attributes := #[] }, { accessFlags := 0, nameIndex := 494, descriptorIndex := 142, attributes := #[] }, { accessFlags := 8, nameIndex := 501, descriptorIndex := 391, attributes := #[] }, { accessFlags := 8, nameIndex := 36, descriptorIndex := 37, attributes := #[] }, { accessFlags := 8, nameIndex := 523, descriptorIndex := 524, attributes := #[] }] 49 2 #[1106, 1108, 575, 1110, 1112] #[{ accessFlags := 18, nameIndex := 13, descriptorIndex := 14, attributes := #[] }, { accessFlags := 18, nameIndex := 17, descriptorIndex := 18, attributes := #[] }, { accessFlags := 2, nameIndex := 21, descriptorIndex := 22, attributes := #[] }, { accessFlags := 2, nameIndex := 25, descriptorIndex := 26, attributes := #[] }, { accessFlags := 26, nameIndex := 1116, descriptorIndex := 1117, attributes := #[] }, { accessFlags := 24, nameIndex := 40, descriptorIndex := 26, attributes := #[] }, { accessFlags := 26, nameIndex := 1101, descriptorIndex := 1102, attributes := #[] }, { accessFlags := 26, nameIndex := 1121, descriptorIndex := 1122, attributes := #[] }, { accessFlags := 25, nameIndex := 599, descriptorIndex := 600, attributes := #[] }, { accessFlags := 24, nameIndex := 1125, descriptorIndex := 18, attributes := #[] }, { accessFlags := 24, nameIndex := 1127, descriptorIndex := 18, attributes := #[] }])
  fields := #[{ name := "value", type := (.array .byte), accessFlags := 18, slot := 0, constantValue := 0 }, { name := "coder", type := .byte, accessFlags := 18, slot := 1, constantValue := 0 }, { name := "hash", type := .int, accessFlags := 2, slot := 2, constantValue := 0 }, { name := "hashIsZero", type := .boolean, accessFlags := 2, slot := 3, constantValue := 0 }, { name := "serialVersionUID", type := .long, accessFlags := 26, slot := 0, constantValue := 0 }, { name := "COMPACT_STRINGS", type := .boolean, accessFlags := 24, slot := 1, constantValue := 0 }, { name := "serialPersistentFields", type := (.array (.object "java/io/ObjectStreamField")), accessFlags := 26, slot := 2, constantValue := 0 }, { name := "REPL", type := .char, accessFlags := 26, slot := 3, constantValue := 0 }, { name := "CASE_INSENSITIVE_ORDER", type := (.object "java/util/Comparator"), accessFlags := 25, slot := 4, constantValue := 0 }, { name := "LATIN1", type := .byte, accessFlags := 24, slot := 5, constantValue := 0 }, { name := "UTF16", type := .byte, accessFlags := 24, slot := 6, constantValue := 0 }]
  methods := #[k7m0, k7m1, k7m2, k7m3, k7m4, k7m5, k7m6, k7m7, k7m8, k7m9, k7m10, k7m11, k7m12, k7m13, k7m14]
  instanceTypes := #[(.array .byte), .byte, .int, .boolean]
  staticTypes := #[.long, .boolean, (.array (.object "java/io/ObjectStreamField")), .char, (.object "java/util/Comparator"), .byte, .byte]
  resolved := Array.replicate 1451 none
  statics := some 0 }

def pool8 : Array CpInfo := pool [(1, .methodref 2 3), (0, .class_ 4), (0, .nameAndType 5 6), (0, u "java/lang/Object"), (0, u "<init>"), (0, u "()V"), (0, .fieldref 8 9), (0, .class_ 10), (0, .nameAndType 11 12), (0, u "com/example/vestledger/vestledger/account/Names"), (0, u "characters"), (0, u "[C"), (0, .fieldref 8 14), (0, .nameAndType 15 16), (0, u "ends"), (0, u "[I"), (0, .fieldref 8 18), (0, .nameAndType 19 16), (0, u "hashes"), (0, .fieldref 8 21), (0, .nameAndType 22 16), (0, u "table"), (0, .fieldref 8 24), (0, .nameAndType 25 26), (0, u "size"), (0, u "I"), (0, .methodref 8 28), (0, .nameAndType 29 30), (0, u "startOf"), (0, u "(I)I"), (0, .class_ 32), (0, u "java/lang/String"), (17, .methodref 31 51), (0, .nameAndType 52 53), (0, u "hashCode"), (0, u "()I"), (0, .methodref 8 55), (0, .nameAndType 56 30), (0, u "spread"), (0, .methodref 8 58), (0, .nameAndType 59 60), (0, u "holds"), (0, u "(ILjava/lang/String;)Z"), (0, .methodref 8 62), (0, .nameAndType 63 64), (0, u "find"), (0, u "(Ljava/lang/String;)I"), (0, .methodref 8 66), (0, .nameAndType 67 64), (0, u "add"), (4, .methodref 31 73), (0, .nameAndType 74 53), (0, u "length"), (9, .methodref 31 85), (0, .nameAndType 86 87), (0, u "getChars"), (0, u "(II[CI)V"), (0, .methodref 8 89), (0, .nameAndType 90 91), (0, u "enter"), (0, u "(I)V"), (0, .methodref 31 93), (0, .nameAndType 94 95), (0, u "charAt"), (0, u "(I)C"), (0, .integer 2654435769), (9, u "placeOf")] 2

def k8c0 : Code := { maxStack := 2, maxLocals := 1, code := prog_3_method_1_code, exceptionTable := #[], attributes := #[] }
def k8m0 : Method := { name := "<init>", desc := "()V", sig := { parameters := [], returnType := none }, accessFlags := 0, code := some k8c0 }
def k8c1 : Code := { maxStack := 3, maxLocals := 5, code := prog_3_method_5_code, exceptionTable := #[], attributes := #[] }
def k8m1 : Method := { name := "find", desc := "(Ljava/lang/String;)I", sig := { parameters := [(.object "java/lang/String")], returnType := some .int }, accessFlags := 0, code := some k8c1 }
def k8c2 : Code := { maxStack := 2, maxLocals := 3, code := prog_3_method_6_code, exceptionTable := #[], attributes := #[] }
def k8m2 : Method := { name := "placeOf", desc := "(Ljava/lang/String;)I", sig := { parameters := [(.object "java/lang/String")], returnType := some .int }, accessFlags := 0, code := some k8c2 }
def k8c3 : Code := { maxStack := 5, maxLocals := 4, code := prog_3_method_7_code, exceptionTable := #[], attributes := #[] }
def k8m3 : Method := { name := "add", desc := "(Ljava/lang/String;)I", sig := { parameters := [(.object "java/lang/String")], returnType := some .int }, accessFlags := 2, code := some k8c3 }
def k8c4 : Code := { maxStack := 4, maxLocals := 3, code := prog_3_method_8_code, exceptionTable := #[], attributes := #[] }
def k8m4 : Method := { name := "enter", desc := "(I)V", sig := { parameters := [.int], returnType := none }, accessFlags := 2, code := some k8c4 }
def k8c5 : Code := { maxStack := 3, maxLocals := 6, code := prog_3_method_9_code, exceptionTable := #[], attributes := #[] }
def k8m5 : Method := { name := "holds", desc := "(ILjava/lang/String;)Z", sig := { parameters := [.int, (.object "java/lang/String")], returnType := some .boolean }, accessFlags := 2, code := some k8c5 }
def k8c6 : Code := { maxStack := 3, maxLocals := 2, code := prog_3_method_10_code, exceptionTable := #[], attributes := #[] }
def k8m6 : Method := { name := "startOf", desc := "(I)I", sig := { parameters := [.int], returnType := some .int }, accessFlags := 2, code := some k8c6 }
def k8c7 : Code := { maxStack := 3, maxLocals := 2, code := prog_3_method_11_code, exceptionTable := #[], attributes := #[] }
def k8m7 : Method := { name := "spread", desc := "(I)I", sig := { parameters := [.int], returnType := some .int }, accessFlags := 10, code := some k8c7 }
/-- com/example/vestledger/vestledger/account/Names -/
def k8 : Class := { plain "com/example/vestledger/vestledger/account/Names" (some 0) with
  accessFlags := 48
  interfaces := #[]
  cf := some (fileOf pool8 8 #[] #[{ accessFlags := 0, nameIndex := 5, descriptorIndex := 6, attributes := #[] }, { accessFlags := 0, nameIndex := 63, descriptorIndex := 64, attributes := #[] }, { accessFlags := 0, nameIndex := 106, descriptorIndex := 64, attributes := #[] }, { accessFlags := 2, nameIndex := 67, descriptorIndex := 64, attributes := #[] }, { accessFlags := 2, nameIndex := 90, descriptorIndex := 91, attributes := #[] }, { accessFlags := 2, nameIndex := 59, descriptorIndex := 60, attributes := #[] }, { accessFlags := 2, nameIndex := 29, descriptorIndex := 30, attributes := #[] }, { accessFlags := 10, nameIndex := 56, descriptorIndex := 30, attributes := #[] }] 48 2 #[] #[{ accessFlags := 2, nameIndex := 11, descriptorIndex := 12, attributes := #[] }, { accessFlags := 2, nameIndex := 15, descriptorIndex := 16, attributes := #[] }, { accessFlags := 2, nameIndex := 19, descriptorIndex := 16, attributes := #[] }, { accessFlags := 2, nameIndex := 22, descriptorIndex := 16, attributes := #[] }, { accessFlags := 2, nameIndex := 25, descriptorIndex := 26, attributes := #[] }])
  fields := #[{ name := "characters", type := (.array .char), accessFlags := 2, slot := 0, constantValue := 0 }, { name := "ends", type := (.array .int), accessFlags := 2, slot := 1, constantValue := 0 }, { name := "hashes", type := (.array .int), accessFlags := 2, slot := 2, constantValue := 0 }, { name := "table", type := (.array .int), accessFlags := 2, slot := 3, constantValue := 0 }, { name := "size", type := .int, accessFlags := 2, slot := 4, constantValue := 0 }]
  methods := #[k8m0, k8m1, k8m2, k8m3, k8m4, k8m5, k8m6, k8m7]
  instanceTypes := #[(.array .char), (.array .int), (.array .int), (.array .int), .int]
  staticTypes := #[]
  resolved := Array.replicate 109 none
  statics := none }

def pool9 : Array CpInfo := pool [(1, .class_ 2), (0, u "java/lang/String"), (1, .class_ 6), (1, u "java/lang/Object"), (0, u "<init>"), (0, u "()V"), (0, .methodref 1 10), (0, .nameAndType 11 12), (0, u "checkIndex"), (0, u "(II)V"), (0, .methodref 14 15), (0, .class_ 16), (0, .nameAndType 17 18), (0, u "java/lang/StringLatin1"), (0, u "inflate"), (0, u "([BI[CII)V"), (26, .class_ 47), (1, u "jdk/internal/util/ArraysSupport"), (5, u "([BI)C"), (3, u "([B)I"), (26, .methodref 45 85), (0, .nameAndType 86 87), (0, u "vectorizedHashCode"), (0, u "(Ljava/lang/Object;IIII)I"), (2, u "canEncode"), (14, u "(C)Z"), (15, u "$assertionsDisabled"), (0, u "Z"), (98, .class_ 223), (1, u "java/lang/StringLatin1$LinesSpliterator"), (28, u "charAt"), (21, u "getChars"), (0, u "([BII[CI)V"), (5, u "equals"), (0, u "([B[B)Z"), (15, u "hashCode"), (81, u "toBytes"), (1, u "(C)[B"), (7, .class_ 391), (0, u "java/lang/StringLatin1$CharsSpliterator")] 3

def k9m0 : Method := { name := "<init>", desc := "()V", sig := { parameters := [], returnType := none }, accessFlags := 0, code := none }
def k9c1 : Code := { maxStack := 2, maxLocals := 2, code := jdk_43_method_2_code, exceptionTable := #[], attributes := #[] }
def k9m1 : Method := { name := "charAt", desc := "([BI)C", sig := { parameters := [(.array .byte), .int], returnType := some .char }, accessFlags := 9, code := some k9c1 }
def k9c2 : Code := { maxStack := 2, maxLocals := 1, code := jdk_43_method_3_code, exceptionTable := #[], attributes := #[] }
def k9m2 : Method := { name := "canEncode", desc := "(C)Z", sig := { parameters := [.char], returnType := some .boolean }, accessFlags := 9, code := some k9c2 }
def k9c3 : Code := { maxStack := 6, maxLocals := 5, code := jdk_43_method_11_code, exceptionTable := #[], attributes := #[] }
def k9m3 : Method := { name := "getChars", desc := "([BII[CI)V", sig := { parameters := [(.array .byte), .int, .int, (.array .char), .int], returnType := none }, accessFlags := 9, code := some k9c3 }
def k9c4 : Code := { maxStack := 3, maxLocals := 3, code := jdk_43_method_13_code, exceptionTable := #[], attributes := #[] }
def k9m4 : Method := { name := "equals", desc := "([B[B)Z", sig := { parameters := [(.array .byte), (.array .byte)], returnType := some .boolean }, accessFlags := 9, code := some k9c4 }
def k9c5 : Code := { maxStack := 5, maxLocals := 1, code := jdk_43_method_21_code, exceptionTable := #[], attributes := #[] }
def k9m5 : Method := { name := "hashCode", desc := "([B)I", sig := { parameters := [(.array .byte)], returnType := some .int }, accessFlags := 9, code := some k9c5 }
def k9c6 : Code := { maxStack := 4, maxLocals := 1, code := jdk_43_method_46_code, exceptionTable := #[], attributes := #[] }
def k9m6 : Method := { name := "toBytes", desc := "(C)[B", sig := { parameters := [.char], returnType := some (.array .byte) }, accessFlags := 9, code := some k9c6 }
def k9c7 : Code := { maxStack := 4, maxLocals := 6, code := jdk_43_method_49_code, exceptionTable := #[], attributes := #[] }
def k9m7 : Method := { name := "inflate", desc := "([BI[CII)V", sig := { parameters := [(.array .byte), .int, (.array .char), .int, .int], returnType := none }, accessFlags := 9, code := some k9c7 }
/-- java/lang/StringLatin1 -/
def k9 : Class := { plain "java/lang/StringLatin1" (some 0) with
  accessFlags := 48
  interfaces := #[]
  cf := some (fileOf pool9 14 #[.nestMembers #[390, 221]] #[{ accessFlags := 0, nameIndex := 7, descriptorIndex := 8, attributes := #[] }, { accessFlags := 9, nameIndex := 252, descriptorIndex := 53, attributes := #[] }, { accessFlags := 9, nameIndex := 90, descriptorIndex := 105, attributes := #[] }, { accessFlags := 9, nameIndex := 274, descriptorIndex := 275, attributes := #[] }, { accessFlags := 9, nameIndex := 281, descriptorIndex := 282, attributes := #[] }, { accessFlags := 9, nameIndex := 298, descriptorIndex := 57, attributes := #[] }, { accessFlags := 9, nameIndex := 380, descriptorIndex := 382, attributes := #[] }, { accessFlags := 9, nameIndex := 17, descriptorIndex := 18, attributes := #[] }] 48 4 #[] #[{ accessFlags := 4120, nameIndex := 121, descriptorIndex := 122, attributes := #[] }])
  fields := #[{ name := "$assertionsDisabled", type := .boolean, accessFlags := 4120, slot := 0, constantValue := 0 }]
  methods := #[k9m0, k9m1, k9m2, k9m3, k9m4, k9m5, k9m6, k9m7]
  instanceTypes := #[]
  staticTypes := #[.boolean]
  resolved := Array.replicate 395 none
  statics := none }

def pool10 : Array CpInfo := pool [(2, .class_ 4), (1, u "java/lang/Object"), (0, u "<init>"), (0, u "()V"), (17, .class_ 26), (1, u "jdk/internal/util/Preconditions"), (6, u "checkIndex"), (13, u "checkFromToIndex"), (1, u "checkFromIndexSize"), (5, .class_ 56), (0, u "jdk/internal/util/Preconditions$4"), (57, .class_ 115), (0, u "jdk/internal/util/Preconditions$1"), (7, u "SIOOBE_FORMATTER"), (0, u "Ljava/util/function/BiFunction;"), (0, .class_ 126), (0, u "jdk/internal/util/Preconditions$2"), (3, u "AIOOBE_FORMATTER"), (0, .class_ 132), (0, u "jdk/internal/util/Preconditions$3"), (3, u "IOOBE_FORMATTER"), (41, u "(IILjava/util/function/BiFunction;)I"), (4, u "(IIILjava/util/function/BiFunction;)I")] 10

def k10m0 : Method := { name := "<init>", desc := "()V", sig := { parameters := [], returnType := none }, accessFlags := 1, code := none }
def k10c1 : Code := { maxStack := 3, maxLocals := 3, code := jdk_41_method_11_code, exceptionTable := #[], attributes := #[] }
def k10m1 : Method := { name := "checkIndex", desc := "(IILjava/util/function/BiFunction;)I", sig := { parameters := [.int, .int, (.object "java/util/function/BiFunction")], returnType := some .int }, accessFlags := 9, code := some k10c1 }
def k10c2 : Code := { maxStack := 4, maxLocals := 4, code := jdk_41_method_12_code, exceptionTable := #[], attributes := #[] }
def k10m2 : Method := { name := "checkFromToIndex", desc := "(IIILjava/util/function/BiFunction;)I", sig := { parameters := [.int, .int, .int, (.object "java/util/function/BiFunction")], returnType := some .int }, accessFlags := 9, code := some k10c2 }
def k10c3 : Code := { maxStack := 4, maxLocals := 4, code := jdk_41_method_13_code, exceptionTable := #[], attributes := #[] }
def k10m3 : Method := { name := "checkFromIndexSize", desc := "(IIILjava/util/function/BiFunction;)I", sig := { parameters := [.int, .int, .int, (.object "java/util/function/BiFunction")], returnType := some .int }, accessFlags := 9, code := some k10c3 }
/-- jdk/internal/util/Preconditions -/
def k10 : Class := { plain "jdk/internal/util/Preconditions" (some 0) with
  accessFlags := 33
  interfaces := #[]
  cf := some (fileOf pool10 24 #[.nestMembers #[55, 131, 125, 114]] #[{ accessFlags := 1, nameIndex := 5, descriptorIndex := 6, attributes := #[] }, { accessFlags := 9, nameIndex := 33, descriptorIndex := 178, attributes := #[] }, { accessFlags := 9, nameIndex := 47, descriptorIndex := 183, attributes := #[] }, { accessFlags := 9, nameIndex := 49, descriptorIndex := 183, attributes := #[] }] 33 2 #[] #[{ accessFlags := 25, nameIndex := 123, descriptorIndex := 124, attributes := #[] }, { accessFlags := 25, nameIndex := 130, descriptorIndex := 124, attributes := #[] }, { accessFlags := 25, nameIndex := 136, descriptorIndex := 124, attributes := #[] }])
  fields := #[{ name := "SIOOBE_FORMATTER", type := (.object "java/util/function/BiFunction"), accessFlags := 25, slot := 0, constantValue := 0 }, { name := "AIOOBE_FORMATTER", type := (.object "java/util/function/BiFunction"), accessFlags := 25, slot := 1, constantValue := 0 }, { name := "IOOBE_FORMATTER", type := (.object "java/util/function/BiFunction"), accessFlags := 25, slot := 2, constantValue := 0 }]
  methods := #[k10m0, k10m1, k10m2, k10m3]
  instanceTypes := #[]
  staticTypes := #[(.object "java/util/function/BiFunction"), (.object "java/util/function/BiFunction"), (.object "java/util/function/BiFunction")]
  resolved := Array.replicate 194 none
  statics := some 1 }

def pool11 : Array CpInfo := pool [(6, .class_ 8), (1, u "java/lang/Object"), (0, u "<init>"), (0, u "()V"), (1, .class_ 14), (1, u "java/lang/StringUTF16"), (31, u "$assertionsDisabled"), (0, u "Z"), (13, u "HI_BYTE_SHIFT"), (0, u "I"), (2, u "LO_BYTE_SHIFT"), (49, .methodref 12 116), (0, .nameAndType 117 118), (0, u "compress"), (0, u "([CI[BII)I"), (3, u "([CII)[B"), (138, u "coderFromArrayLen"), (0, u "([BI)B"), (106, .class_ 371), (1, u "java/lang/StringUTF16$LinesSpliterator"), (58, u "MAX_LENGTH"), (196, .class_ 628), (0, u "java/lang/StringUTF16$CodePointsSpliterator"), (0, .class_ 630), (0, u "java/lang/StringUTF16$CharsSpliterator")] 4

def k11m0 : Method := { name := "<init>", desc := "()V", sig := { parameters := [], returnType := none }, accessFlags := 0, code := none }
def k11c1 : Code := { maxStack := 2, maxLocals := 2, code := jdk_52_method_15_code, exceptionTable := #[], attributes := #[] }
def k11m1 : Method := { name := "coderFromArrayLen", desc := "([BI)B", sig := { parameters := [(.array .byte), .int], returnType := some .byte }, accessFlags := 8, code := some k11c1 }
def k11c2 : Code := { maxStack := 5, maxLocals := 6, code := jdk_52_method_16_code, exceptionTable := #[], attributes := #[] }
def k11m2 : Method := { name := "compress", desc := "([CII)[B", sig := { parameters := [(.array .char), .int, .int], returnType := some (.array .byte) }, accessFlags := 9, code := some k11c2 }
def k11c3 : Code := { maxStack := 3, maxLocals := 7, code := jdk_52_method_21_code, exceptionTable := #[], attributes := #[] }
def k11m3 : Method := { name := "compress", desc := "([CI[BII)I", sig := { parameters := [(.array .char), .int, (.array .byte), .int, .int], returnType := some .int }, accessFlags := 9, code := some k11c3 }
/-- java/lang/StringUTF16 -/
def k11 : Class := { plain "java/lang/StringUTF16" (some 0) with
  accessFlags := 48
  interfaces := #[]
  cf := some (fileOf pool11 12 #[.nestMembers #[627, 629, 369]] #[{ accessFlags := 0, nameIndex := 9, descriptorIndex := 10, attributes := #[] }, { accessFlags := 8, nameIndex := 261, descriptorIndex := 262, attributes := #[] }, { accessFlags := 9, nameIndex := 117, descriptorIndex := 122, attributes := #[] }, { accessFlags := 9, nameIndex := 117, descriptorIndex := 118, attributes := #[] }] 48 6 #[] #[{ accessFlags := 26, nameIndex := 61, descriptorIndex := 62, attributes := #[] }, { accessFlags := 26, nameIndex := 65, descriptorIndex := 62, attributes := #[] }, { accessFlags := 24, nameIndex := 430, descriptorIndex := 62, attributes := #[] }, { accessFlags := 4120, nameIndex := 46, descriptorIndex := 47, attributes := #[] }])
  fields := #[{ name := "HI_BYTE_SHIFT", type := .int, accessFlags := 26, slot := 0, constantValue := 0 }, { name := "LO_BYTE_SHIFT", type := .int, accessFlags := 26, slot := 1, constantValue := 0 }, { name := "MAX_LENGTH", type := .int, accessFlags := 24, slot := 2, constantValue := 0 }, { name := "$assertionsDisabled", type := .boolean, accessFlags := 4120, slot := 3, constantValue := 0 }]
  methods := #[k11m0, k11m1, k11m2, k11m3]
  instanceTypes := #[]
  staticTypes := #[.int, .int, .int, .boolean]
  resolved := Array.replicate 635 none
  statics := none }

def pool12 : Array CpInfo := pool [(9, u "<init>"), (6, .class_ 18), (1, u "java/lang/Object"), (0, u "()V"), (1, .class_ 23), (1, u "jdk/internal/util/ArraysSupport"), (0, u "LOG2_ARRAY_LONG_INDEX_SCALE"), (0, u "I"), (2, u "U"), (0, u "Ljdk/internal/misc/Unsafe;"), (8, u "BIG_ENDIAN"), (0, u "Z"), (8, u "LOG2_BYTE_BIT_SIZE"), (4, u "LOG2_ARRAY_INT_INDEX_SCALE"), (6, .class_ 61), (0, u "[B"), (0, .methodref 21 63), (0, .nameAndType 64 65), (0, u "signedHashCode"), (0, u "(I[BII)I"), (42, u "JLA"), (0, u "Ljdk/internal/access/JavaLangAccess;"), (11, u "LOG2_ARRAY_BOOLEAN_INDEX_SCALE"), (9, u "LOG2_ARRAY_BYTE_INDEX_SCALE"), (5, u "LOG2_ARRAY_CHAR_INDEX_SCALE"), (5, u "LOG2_ARRAY_SHORT_INDEX_SCALE"), (18, u "LOG2_ARRAY_FLOAT_INDEX_SCALE"), (24, u "LOG2_ARRAY_DOUBLE_INDEX_SCALE"), (89, u "T_BOOLEAN"), (2, u "T_CHAR"), (1, u "T_FLOAT"), (1, u "T_DOUBLE"), (1, u "T_BYTE"), (1, u "T_SHORT"), (1, u "T_INT"), (1, u "T_LONG"), (1, u "SOFT_MAX_ARRAY_LENGTH"), (26, u "vectorizedHashCode"), (0, u "(Ljava/lang/Object;IIII)I")] 55

def k12m0 : Method := { name := "<init>", desc := "()V", sig := { parameters := [], returnType := none }, accessFlags := 2, code := none }
def k12c1 : Code := { maxStack := 4, maxLocals := 5, code := jdk_48_method_4_code, exceptionTable := #[], attributes := #[] }
def k12m1 : Method := { name := "vectorizedHashCode", desc := "(Ljava/lang/Object;IIII)I", sig := { parameters := [(.object "java/lang/Object"), .int, .int, .int, .int], returnType := some .int }, accessFlags := 9, code := some k12c1 }
def k12c2 : Code := { maxStack := 3, maxLocals := 6, code := jdk_48_method_5_code, exceptionTable := #[], attributes := #[] }
def k12m2 : Method := { name := "signedHashCode", desc := "(I[BII)I", sig := { parameters := [.int, (.array .byte), .int, .int], returnType := some .int }, accessFlags := 10, code := some k12c2 }
/-- jdk/internal/util/ArraysSupport -/
def k12 : Class := { plain "jdk/internal/util/ArraysSupport" (some 0) with
  accessFlags := 33
  interfaces := #[]
  cf := some (fileOf pool12 21 #[] #[{ accessFlags := 2, nameIndex := 9, descriptorIndex := 19, attributes := #[] }, { accessFlags := 9, nameIndex := 321, descriptorIndex := 322, attributes := #[] }, { accessFlags := 10, nameIndex := 64, descriptorIndex := 65, attributes := #[] }] 33 16 #[] #[{ accessFlags := 24, nameIndex := 28, descriptorIndex := 29, attributes := #[] }, { accessFlags := 26, nameIndex := 38, descriptorIndex := 39, attributes := #[] }, { accessFlags := 25, nameIndex := 121, descriptorIndex := 25, attributes := #[] }, { accessFlags := 25, nameIndex := 131, descriptorIndex := 25, attributes := #[] }, { accessFlags := 25, nameIndex := 137, descriptorIndex := 25, attributes := #[] }, { accessFlags := 25, nameIndex := 143, descriptorIndex := 25, attributes := #[] }, { accessFlags := 25, nameIndex := 53, descriptorIndex := 25, attributes := #[] }, { accessFlags := 25, nameIndex := 24, descriptorIndex := 25, attributes := #[] }, { accessFlags := 25, nameIndex := 162, descriptorIndex := 25, attributes := #[] }, { accessFlags := 25, nameIndex := 187, descriptorIndex := 25, attributes := #[] }, { accessFlags := 26, nameIndex := 48, descriptorIndex := 25, attributes := #[] }, { accessFlags := 25, nameIndex := 277, descriptorIndex := 25, attributes := #[] }, { accessFlags := 25, nameIndex := 280, descriptorIndex := 25, attributes := #[] }, { accessFlags := 25, nameIndex := 282, descriptorIndex := 25, attributes := #[] }, { accessFlags := 25, nameIndex := 284, descriptorIndex := 25, attributes := #[] }, { accessFlags := 25, nameIndex := 286, descriptorIndex := 25, attributes := #[] }, { accessFlags := 25, nameIndex := 288, descriptorIndex := 25, attributes := #[] }, { accessFlags := 25, nameIndex := 290, descriptorIndex := 25, attributes := #[] }, { accessFlags := 25, nameIndex := 292, descriptorIndex := 25, attributes := #[] }, { accessFlags := 26, nameIndex := 108, descriptorIndex := 109, attributes := #[] }, { accessFlags := 25, nameIndex := 294, descriptorIndex := 25, attributes := #[] }])
  fields := #[{ name := "U", type := (.object "jdk/internal/misc/Unsafe"), accessFlags := 24, slot := 0, constantValue := 0 }, { name := "BIG_ENDIAN", type := .boolean, accessFlags := 26, slot := 1, constantValue := 0 }, { name := "LOG2_ARRAY_BOOLEAN_INDEX_SCALE", type := .int, accessFlags := 25, slot := 2, constantValue := 0 }, { name := "LOG2_ARRAY_BYTE_INDEX_SCALE", type := .int, accessFlags := 25, slot := 3, constantValue := 0 }, { name := "LOG2_ARRAY_CHAR_INDEX_SCALE", type := .int, accessFlags := 25, slot := 4, constantValue := 0 }, { name := "LOG2_ARRAY_SHORT_INDEX_SCALE", type := .int, accessFlags := 25, slot := 5, constantValue := 0 }, { name := "LOG2_ARRAY_INT_INDEX_SCALE", type := .int, accessFlags := 25, slot := 6, constantValue := 0 }, { name := "LOG2_ARRAY_LONG_INDEX_SCALE", type := .int, accessFlags := 25, slot := 7, constantValue := 0 }, { name := "LOG2_ARRAY_FLOAT_INDEX_SCALE", type := .int, accessFlags := 25, slot := 8, constantValue := 0 }, { name := "LOG2_ARRAY_DOUBLE_INDEX_SCALE", type := .int, accessFlags := 25, slot := 9, constantValue := 0 }, { name := "LOG2_BYTE_BIT_SIZE", type := .int, accessFlags := 26, slot := 10, constantValue := 0 }, { name := "T_BOOLEAN", type := .int, accessFlags := 25, slot := 11, constantValue := 0 }, { name := "T_CHAR", type := .int, accessFlags := 25, slot := 12, constantValue := 0 }, { name := "T_FLOAT", type := .int, accessFlags := 25, slot := 13, constantValue := 0 }, { name := "T_DOUBLE", type := .int, accessFlags := 25, slot := 14, constantValue := 0 }, { name := "T_BYTE", type := .int, accessFlags := 25, slot := 15, constantValue := 0 }, { name := "T_SHORT", type := .int, accessFlags := 25, slot := 16, constantValue := 0 }, { name := "T_INT", type := .int, accessFlags := 25, slot := 17, constantValue := 0 }, { name := "T_LONG", type := .int, accessFlags := 25, slot := 18, constantValue := 0 }, { name := "JLA", type := (.object "jdk/internal/access/JavaLangAccess"), accessFlags := 26, slot := 19, constantValue := 0 }, { name := "SOFT_MAX_ARRAY_LENGTH", type := .int, accessFlags := 25, slot := 20, constantValue := 0 }]
  methods := #[k12m0, k12m1, k12m2]
  instanceTypes := #[]
  staticTypes := #[(.object "jdk/internal/misc/Unsafe"), .boolean, .int, .int, .int, .int, .int, .int, .int, .int, .int, .int, .int, .int, .int, .int, .int, .int, .int, (.object "jdk/internal/access/JavaLangAccess"), .int]
  resolved := Array.replicate 378 none
  statics := none }

def pool13 : Array CpInfo := pool [(1, u "java/lang/Cloneable"), (0, .class_ 1), (0, u "java/lang/Object"), (0, .class_ 3)] 3

/-- java/lang/Cloneable -/
def k13 : Class := { plain "java/lang/Cloneable" (some 0) with
  accessFlags := 1537
  interfaces := #[]
  cf := some (fileOf pool13 2 #[] #[] 1537 4 #[] #[])
  fields := #[]
  methods := #[]
  instanceTypes := #[]
  staticTypes := #[]
  resolved := Array.replicate 8 none
  statics := none }

/-- the primitive byte -/
def k14 : Class := { plain "byte" none with kind := .primitive 'B', accessFlags := 0x411 }
/-- [B -/
def k15 : Class := { plain "[B" (some 0) with kind := .array 14 .byte, interfaces := #[13, 2], accessFlags := 1041 }

/-- the primitive char -/
def k16 : Class := { plain "char" none with kind := .primitive 'C', accessFlags := 0x411 }
/-- [C -/
def k17 : Class := { plain "[C" (some 0) with kind := .array 16 .char, interfaces := #[13, 2], accessFlags := 1041 }

/-- the primitive int -/
def k18 : Class := { plain "int" none with kind := .primitive 'I', accessFlags := 0x411 }
/-- [I -/
def k19 : Class := { plain "[I" (some 0) with kind := .array 18 .int, interfaces := #[13, 2], accessFlags := 1041 }

def heap : Heap := #[{ cls := 7, slots := #[.long 0, .int 1, .null, .int 0, .null, .int 0, .int 0], vm := .statics 7 },
  { cls := 10, slots := #[.null, .null, .null], vm := .statics 10 }]
def classes : Array Class := #[k0, k1, k2, k3, k4, k5, k6, k7, k8, k9, k10, k11, k12, k13, k14, k15, k16, k17, k18, k19]
def interned : List (Array UInt16 × Addr) := []
def slotsUsed : Nat := 10
def theMethod : MethodId := ⟨1, 2⟩
def args0 : Array Value := #[.int 5, .int 5, .int 5, .int 5, .int 5]
def aboutOver (below : List Frame) : State where
  vm := { classes := classes, interned := interned.toArray }
  heap := heap
  slotsUsed := slotsUsed
  threads := #[{ frames := .invoking theMethod args0 :: below }]
def below0 : List Frame := [.native { method := ⟨0, 0⟩, args := #[] }]
def about1 : State := aboutOver below0
def p0 : Program := .bare "" "" ""
def e0 : Env := launch0.env 0 0 0
theorem w_frames : about1.frames = Frame.invoking theMethod args0 :: below0 := rfl
set_option maxRecDepth 65536 in
theorem w_args : argsFit about1.vm theMethod args0 = true := by decide +kernel
set_option maxRecDepth 65536 in
theorem w_heap : heapFits about1 = true := by decide +kernel
set_option maxRecDepth 65536 in
theorem w_runnable : about1.curStatus? = some .runnable := by decide +kernel
set_option maxRecDepth 65536 in
theorem w_alone : about1.alone = true := by decide +kernel
set_option maxRecDepth 65536 in
theorem w_named : about1.methodNamed? x = some theMethod := by decide +kernel
set_option maxRecDepth 65536 in
theorem w_hears : about1.hears theMethod below0 = true := by decide +kernel
set_option maxRecDepth 65536 in
theorem w_ripe : about1.ripe theMethod args0 below0 = true := by decide +kernel
theorem w_running : about1.status = .running := rfl
set_option maxRecDepth 65536 in
theorem w_room : about1.hasRoom e0.platform room_1 = true :=
  launch0.hasRoom_least _ room_1 (by decide +kernel) (by decide +kernel) (by decide +kernel) (by decide +kernel) (by decide +kernel) (by decide +kernel)
theorem allAtoms_all (ts : List Jvm.Cond) (a : Array Jvm.Value) (st : Jvm.State) : (allAtoms ts).before a st = ts.all (fun c => c.before a st) := by
  induction ts with
  | nil => rfl
  | cons c t ih =>
    show (Jvm.Cond.and c (allAtoms t)).before a st = _
    rw [Jvm.Cond.before_and, ih, List.all_cons]
def words1 : List Jvm.Cond := Jvm.Cond.code x code maxLocals ret :: tables_1
/-- a 'code' word, met by the world's own term for the bytes: nothing is compared byte by byte -/
theorem code_word {y : MethodName} {bytes : ByteArray} {mx : Nat} {rt : Option FieldType} {a : Array Value} {s : State} {m : MethodId} {meth : Method} {c : Code} (h1 : s.methodNamed? y = some m) (h2 : s.vm.method? m = some meth) (h3 : meth.code = some c) (h4 : c.code = bytes)
    (h5 : (c.maxLocals == mx && c.exceptionTable.isEmpty && decide (c.maxStack ≤ mostOperands) && decide (meth.sig.returnType = rt) && !meth.locks && decide (parseMethodDescriptor y.desc = some meth.sig)) = true) : (Jvm.Cond.code y bytes mx rt).before a s = true := by
  simp only [Bool.and_eq_true, beq_iff_eq, Bool.not_eq_true', decide_eq_true_eq] at h5
  obtain ⟨⟨⟨⟨⟨g1, g2⟩, g3⟩, g4⟩, g5⟩, g6⟩ := h5
  simp [Cond.before, Cond.holds, Cond.value, h1, h2, h3, h4, g1, g2, g3, g4, g5, g6]
def isCode : Jvm.Cond → Bool
  | .code _ _ _ _ => true
  | _ => false
theorem all_split {L : List Jvm.Cond} {P : Jvm.Cond → Bool} (h1 : L.all (fun c => isCode c || P c) = true) (h2 : ∀ c ∈ L.filter isCode, P c = true) : L.all P = true := by
  refine List.all_eq_true.mpr fun c hc => ?_
  have h := List.all_eq_true.mp h1 c hc
  rcases Bool.eq_false_or_eq_true (isCode c) with hi | hi
  · exact h2 c (List.mem_filter.mpr ⟨hc, hi⟩)
  · simpa [hi] using h
set_option maxRecDepth 65536 in
theorem w_c0 : (Jvm.Cond.code x code maxLocals ret).before args0 about1 = true := code_word (m := ⟨1, 2⟩) (meth := k1m2) (c := k1c2) (by decide +kernel) rfl rfl rfl (by decide +kernel)
set_option maxRecDepth 65536 in
theorem w_c1 : (Jvm.Cond.code ({ cls := "com/example/vestledger/vestledger/account/NamesFindPinLaw", name := "str", desc := "(I)Ljava/lang/String;" } : Jvm.MethodName) method_2_code (6 : Nat) (Option.some (Jvm.ClassFile.FieldType.object "java/lang/String"))).before args0 about1 = true := code_word (m := ⟨1, 1⟩) (meth := k1m1) (c := k1c1) (by decide +kernel) rfl rfl rfl (by decide +kernel)
set_option maxRecDepth 65536 in
theorem w_c2 : (Jvm.Cond.code ({ cls := "java/lang/String", name := "<init>", desc := "([C)V" } : Jvm.MethodName) jdk_42_method_3_code (2 : Nat) (Option.none : Option Jvm.ClassFile.FieldType)).before args0 about1 = true := code_word (m := ⟨7, 1⟩) (meth := k7m1) (c := k7c1) (by decide +kernel) rfl rfl rfl (by decide +kernel)
set_option maxRecDepth 65536 in
theorem w_c3 : (Jvm.Cond.code ({ cls := "java/lang/String", name := "<init>", desc := "([CIILjava/lang/Void;)V" } : Jvm.MethodName) jdk_42_method_149_code (6 : Nat) (Option.none : Option Jvm.ClassFile.FieldType)).before args0 about1 = true := code_word (m := ⟨7, 8⟩) (meth := k7m8) (c := k7c8) (by decide +kernel) rfl rfl rfl (by decide +kernel)
set_option maxRecDepth 65536 in
theorem w_c4 : (Jvm.Cond.code ({ cls := "java/lang/Object", name := "<init>", desc := "()V" } : Jvm.MethodName) object_method_1_code (1 : Nat) (Option.none : Option Jvm.ClassFile.FieldType)).before args0 about1 = true := code_word (m := ⟨0, 0⟩) (meth := k0m0) (c := k0c0) (by decide +kernel) rfl rfl rfl (by decide +kernel)
set_option maxRecDepth 65536 in
theorem w_c5 : (Jvm.Cond.code ({ cls := "com/example/vestledger/vestledger/account/Names", name := "<init>", desc := "()V" } : Jvm.MethodName) prog_3_method_1_code (1 : Nat) (Option.none : Option Jvm.ClassFile.FieldType)).before args0 about1 = true := code_word (m := ⟨8, 0⟩) (meth := k8m0) (c := k8c0) (by decide +kernel) rfl rfl rfl (by decide +kernel)
set_option maxRecDepth 65536 in
theorem w_c6 : (Jvm.Cond.code ({ cls := "com/example/vestledger/vestledger/account/Names", name := "find", desc := "(Ljava/lang/String;)I" } : Jvm.MethodName) prog_3_method_5_code (5 : Nat) (Option.some Jvm.ClassFile.FieldType.int)).before args0 about1 = true := code_word (m := ⟨8, 1⟩) (meth := k8m1) (c := k8c1) (by decide +kernel) rfl rfl rfl (by decide +kernel)
set_option maxRecDepth 65536 in
theorem w_c7 : (Jvm.Cond.code ({ cls := "java/lang/String", name := "hashCode", desc := "()I" } : Jvm.MethodName) jdk_42_method_78_code (2 : Nat) (Option.some Jvm.ClassFile.FieldType.int)).before args0 about1 = true := code_word (m := ⟨7, 6⟩) (meth := k7m6) (c := k7c6) (by decide +kernel) rfl rfl rfl (by decide +kernel)
set_option maxRecDepth 65536 in
theorem w_c8 : (Jvm.Cond.code ({ cls := "java/lang/String", name := "isLatin1", desc := "()Z" } : Jvm.MethodName) jdk_42_method_154_code (1 : Nat) (Option.some Jvm.ClassFile.FieldType.boolean)).before args0 about1 = true := code_word (m := ⟨7, 11⟩) (meth := k7m11) (c := k7c11) (by decide +kernel) rfl rfl rfl (by decide +kernel)
set_option maxRecDepth 65536 in
theorem w_c9 : (Jvm.Cond.code ({ cls := "java/lang/StringLatin1", name := "hashCode", desc := "([B)I" } : Jvm.MethodName) jdk_43_method_21_code (1 : Nat) (Option.some Jvm.ClassFile.FieldType.int)).before args0 about1 = true := code_word (m := ⟨9, 5⟩) (meth := k9m5) (c := k9c5) (by decide +kernel) rfl rfl rfl (by decide +kernel)
set_option maxRecDepth 65536 in
theorem w_c10 : (Jvm.Cond.code ({ cls := "com/example/vestledger/vestledger/account/Names", name := "spread", desc := "(I)I" } : Jvm.MethodName) prog_3_method_11_code (2 : Nat) (Option.some Jvm.ClassFile.FieldType.int)).before args0 about1 = true := code_word (m := ⟨8, 7⟩) (meth := k8m7) (c := k8c7) (by decide +kernel) rfl rfl rfl (by decide +kernel)
set_option maxRecDepth 65536 in
theorem w_c11 : (Jvm.Cond.code ({ cls := "java/lang/String", name := "equals", desc := "(Ljava/lang/Object;)Z" } : Jvm.MethodName) jdk_42_method_66_code (3 : Nat) (Option.some Jvm.ClassFile.FieldType.boolean)).before args0 about1 = true := code_word (m := ⟨7, 5⟩) (meth := k7m5) (c := k7c5) (by decide +kernel) rfl rfl rfl (by decide +kernel)
set_option maxRecDepth 65536 in
theorem w_c12 : (Jvm.Cond.code ({ cls := "java/lang/StringLatin1", name := "equals", desc := "([B[B)Z" } : Jvm.MethodName) jdk_43_method_13_code (3 : Nat) (Option.some Jvm.ClassFile.FieldType.boolean)).before args0 about1 = true := code_word (m := ⟨9, 4⟩) (meth := k9m4) (c := k9c4) (by decide +kernel) rfl rfl rfl (by decide +kernel)
set_option maxRecDepth 65536 in
theorem w_c13 : (Jvm.Cond.code ({ cls := "com/example/vestledger/vestledger/account/Names", name := "placeOf", desc := "(Ljava/lang/String;)I" } : Jvm.MethodName) prog_3_method_6_code (3 : Nat) (Option.some Jvm.ClassFile.FieldType.int)).before args0 about1 = true := code_word (m := ⟨8, 2⟩) (meth := k8m2) (c := k8c2) (by decide +kernel) rfl rfl rfl (by decide +kernel)
set_option maxRecDepth 65536 in
theorem w_c14 : (Jvm.Cond.code ({ cls := "com/example/vestledger/vestledger/account/Names", name := "add", desc := "(Ljava/lang/String;)I" } : Jvm.MethodName) prog_3_method_7_code (4 : Nat) (Option.some Jvm.ClassFile.FieldType.int)).before args0 about1 = true := code_word (m := ⟨8, 3⟩) (meth := k8m3) (c := k8c3) (by decide +kernel) rfl rfl rfl (by decide +kernel)
set_option maxRecDepth 65536 in
theorem w_c15 : (Jvm.Cond.code ({ cls := "com/example/vestledger/vestledger/account/Names", name := "startOf", desc := "(I)I" } : Jvm.MethodName) prog_3_method_10_code (2 : Nat) (Option.some Jvm.ClassFile.FieldType.int)).before args0 about1 = true := code_word (m := ⟨8, 6⟩) (meth := k8m6) (c := k8c6) (by decide +kernel) rfl rfl rfl (by decide +kernel)
set_option maxRecDepth 65536 in
theorem w_c16 : (Jvm.Cond.code ({ cls := "java/lang/String", name := "length", desc := "()I" } : Jvm.MethodName) jdk_42_method_54_code (1 : Nat) (Option.some Jvm.ClassFile.FieldType.int)).before args0 about1 = true := code_word (m := ⟨7, 2⟩) (meth := k7m2) (c := k7c2) (by decide +kernel) rfl rfl rfl (by decide +kernel)
set_option maxRecDepth 65536 in
theorem w_c17 : (Jvm.Cond.code ({ cls := "java/lang/String", name := "coder", desc := "()B" } : Jvm.MethodName) jdk_42_method_152_code (1 : Nat) (Option.some Jvm.ClassFile.FieldType.byte)).before args0 about1 = true := code_word (m := ⟨7, 10⟩) (meth := k7m10) (c := k7c10) (by decide +kernel) rfl rfl rfl (by decide +kernel)
set_option maxRecDepth 65536 in
theorem w_c18 : (Jvm.Cond.code ({ cls := "java/lang/String", name := "getChars", desc := "(II[CI)V" } : Jvm.MethodName) jdk_42_method_61_code (5 : Nat) (Option.none : Option Jvm.ClassFile.FieldType)).before args0 about1 = true := code_word (m := ⟨7, 4⟩) (meth := k7m4) (c := k7c4) (by decide +kernel) rfl rfl rfl (by decide +kernel)
set_option maxRecDepth 65536 in
theorem w_c19 : (Jvm.Cond.code ({ cls := "java/lang/String", name := "checkBoundsBeginEnd", desc := "(III)V" } : Jvm.MethodName) jdk_42_method_158_code (3 : Nat) (Option.none : Option Jvm.ClassFile.FieldType)).before args0 about1 = true := code_word (m := ⟨7, 14⟩) (meth := k7m14) (c := k7c14) (by decide +kernel) rfl rfl rfl (by decide +kernel)
set_option maxRecDepth 65536 in
theorem w_c20 : (Jvm.Cond.code ({ cls := "jdk/internal/util/Preconditions", name := "checkFromToIndex", desc := "(IIILjava/util/function/BiFunction;)I" } : Jvm.MethodName) jdk_41_method_12_code (4 : Nat) (Option.some Jvm.ClassFile.FieldType.int)).before args0 about1 = true := code_word (m := ⟨10, 2⟩) (meth := k10m2) (c := k10c2) (by decide +kernel) rfl rfl rfl (by decide +kernel)
set_option maxRecDepth 65536 in
theorem w_c21 : (Jvm.Cond.code ({ cls := "java/lang/String", name := "checkBoundsOffCount", desc := "(III)I" } : Jvm.MethodName) jdk_42_method_157_code (3 : Nat) (Option.some Jvm.ClassFile.FieldType.int)).before args0 about1 = true := code_word (m := ⟨7, 13⟩) (meth := k7m13) (c := k7c13) (by decide +kernel) rfl rfl rfl (by decide +kernel)
set_option maxRecDepth 65536 in
theorem w_c22 : (Jvm.Cond.code ({ cls := "jdk/internal/util/Preconditions", name := "checkFromIndexSize", desc := "(IIILjava/util/function/BiFunction;)I" } : Jvm.MethodName) jdk_41_method_13_code (4 : Nat) (Option.some Jvm.ClassFile.FieldType.int)).before args0 about1 = true := code_word (m := ⟨10, 3⟩) (meth := k10m3) (c := k10c3) (by decide +kernel) rfl rfl rfl (by decide +kernel)
set_option maxRecDepth 65536 in
theorem w_c23 : (Jvm.Cond.code ({ cls := "java/lang/StringLatin1", name := "getChars", desc := "([BII[CI)V" } : Jvm.MethodName) jdk_43_method_11_code (5 : Nat) (Option.none : Option Jvm.ClassFile.FieldType)).before args0 about1 = true := code_word (m := ⟨9, 3⟩) (meth := k9m3) (c := k9c3) (by decide +kernel) rfl rfl rfl (by decide +kernel)
set_option maxRecDepth 65536 in
theorem w_c24 : (Jvm.Cond.code ({ cls := "java/lang/StringLatin1", name := "inflate", desc := "([BI[CII)V" } : Jvm.MethodName) jdk_43_method_49_code (6 : Nat) (Option.none : Option Jvm.ClassFile.FieldType)).before args0 about1 = true := code_word (m := ⟨9, 7⟩) (meth := k9m7) (c := k9c7) (by decide +kernel) rfl rfl rfl (by decide +kernel)
set_option maxRecDepth 65536 in
theorem w_c25 : (Jvm.Cond.code ({ cls := "com/example/vestledger/vestledger/account/Names", name := "enter", desc := "(I)V" } : Jvm.MethodName) prog_3_method_8_code (3 : Nat) (Option.none : Option Jvm.ClassFile.FieldType)).before args0 about1 = true := code_word (m := ⟨8, 4⟩) (meth := k8m4) (c := k8c4) (by decide +kernel) rfl rfl rfl (by decide +kernel)
set_option maxRecDepth 65536 in
theorem w_c26 : (Jvm.Cond.code ({ cls := "com/example/vestledger/vestledger/account/Names", name := "holds", desc := "(ILjava/lang/String;)Z" } : Jvm.MethodName) prog_3_method_9_code (6 : Nat) (Option.some Jvm.ClassFile.FieldType.boolean)).before args0 about1 = true := code_word (m := ⟨8, 5⟩) (meth := k8m5) (c := k8c5) (by decide +kernel) rfl rfl rfl (by decide +kernel)
set_option maxRecDepth 65536 in
theorem w_c27 : (Jvm.Cond.code ({ cls := "java/lang/StringUTF16", name := "compress", desc := "([CII)[B" } : Jvm.MethodName) jdk_52_method_16_code (6 : Nat) (Option.some (Jvm.ClassFile.FieldType.array Jvm.ClassFile.FieldType.byte))).before args0 about1 = true := code_word (m := ⟨11, 2⟩) (meth := k11m2) (c := k11c2) (by decide +kernel) rfl rfl rfl (by decide +kernel)
set_option maxRecDepth 65536 in
theorem w_c28 : (Jvm.Cond.code ({ cls := "java/lang/StringUTF16", name := "compress", desc := "([CI[BII)I" } : Jvm.MethodName) jdk_52_method_21_code (7 : Nat) (Option.some Jvm.ClassFile.FieldType.int)).before args0 about1 = true := code_word (m := ⟨11, 3⟩) (meth := k11m3) (c := k11c3) (by decide +kernel) rfl rfl rfl (by decide +kernel)
set_option maxRecDepth 65536 in
theorem w_c29 : (Jvm.Cond.code ({ cls := "java/lang/StringUTF16", name := "coderFromArrayLen", desc := "([BI)B" } : Jvm.MethodName) jdk_52_method_15_code (2 : Nat) (Option.some Jvm.ClassFile.FieldType.byte)).before args0 about1 = true := code_word (m := ⟨11, 1⟩) (meth := k11m1) (c := k11c1) (by decide +kernel) rfl rfl rfl (by decide +kernel)
set_option maxRecDepth 65536 in
theorem w_c30 : (Jvm.Cond.code ({ cls := "java/lang/String", name := "valueOf", desc := "(C)Ljava/lang/String;" } : Jvm.MethodName) jdk_42_method_139_code (1 : Nat) (Option.some (Jvm.ClassFile.FieldType.object "java/lang/String"))).before args0 about1 = true := code_word (m := ⟨7, 7⟩) (meth := k7m7) (c := k7c7) (by decide +kernel) rfl rfl rfl (by decide +kernel)
set_option maxRecDepth 65536 in
theorem w_c31 : (Jvm.Cond.code ({ cls := "java/lang/StringLatin1", name := "canEncode", desc := "(C)Z" } : Jvm.MethodName) jdk_43_method_3_code (1 : Nat) (Option.some Jvm.ClassFile.FieldType.boolean)).before args0 about1 = true := code_word (m := ⟨9, 2⟩) (meth := k9m2) (c := k9c2) (by decide +kernel) rfl rfl rfl (by decide +kernel)
set_option maxRecDepth 65536 in
theorem w_c32 : (Jvm.Cond.code ({ cls := "java/lang/StringLatin1", name := "toBytes", desc := "(C)[B" } : Jvm.MethodName) jdk_43_method_46_code (1 : Nat) (Option.some (Jvm.ClassFile.FieldType.array Jvm.ClassFile.FieldType.byte))).before args0 about1 = true := code_word (m := ⟨9, 6⟩) (meth := k9m6) (c := k9c6) (by decide +kernel) rfl rfl rfl (by decide +kernel)
set_option maxRecDepth 65536 in
theorem w_c33 : (Jvm.Cond.code ({ cls := "java/lang/String", name := "<init>", desc := "([BB)V" } : Jvm.MethodName) jdk_42_method_151_code (3 : Nat) (Option.none : Option Jvm.ClassFile.FieldType)).before args0 about1 = true := code_word (m := ⟨7, 9⟩) (meth := k7m9) (c := k7c9) (by decide +kernel) rfl rfl rfl (by decide +kernel)
set_option maxRecDepth 65536 in
theorem w_c34 : (Jvm.Cond.code ({ cls := "jdk/internal/util/ArraysSupport", name := "vectorizedHashCode", desc := "(Ljava/lang/Object;IIII)I" } : Jvm.MethodName) jdk_48_method_4_code (5 : Nat) (Option.some Jvm.ClassFile.FieldType.int)).before args0 about1 = true := code_word (m := ⟨12, 1⟩) (meth := k12m1) (c := k12c1) (by decide +kernel) rfl rfl rfl (by decide +kernel)
set_option maxRecDepth 65536 in
theorem w_c35 : (Jvm.Cond.code ({ cls := "jdk/internal/util/ArraysSupport", name := "signedHashCode", desc := "(I[BII)I" } : Jvm.MethodName) jdk_48_method_5_code (6 : Nat) (Option.some Jvm.ClassFile.FieldType.int)).before args0 about1 = true := code_word (m := ⟨12, 2⟩) (meth := k12m2) (c := k12c2) (by decide +kernel) rfl rfl rfl (by decide +kernel)
set_option maxRecDepth 65536 in
theorem w_c36 : (Jvm.Cond.code ({ cls := "java/lang/String", name := "charAt", desc := "(I)C" } : Jvm.MethodName) jdk_42_method_56_code (2 : Nat) (Option.some Jvm.ClassFile.FieldType.char)).before args0 about1 = true := code_word (m := ⟨7, 3⟩) (meth := k7m3) (c := k7c3) (by decide +kernel) rfl rfl rfl (by decide +kernel)
set_option maxRecDepth 65536 in
theorem w_c37 : (Jvm.Cond.code ({ cls := "java/lang/StringLatin1", name := "charAt", desc := "([BI)C" } : Jvm.MethodName) jdk_43_method_2_code (2 : Nat) (Option.some Jvm.ClassFile.FieldType.char)).before args0 about1 = true := code_word (m := ⟨9, 1⟩) (meth := k9m1) (c := k9c1) (by decide +kernel) rfl rfl rfl (by decide +kernel)
set_option maxRecDepth 65536 in
theorem w_c38 : (Jvm.Cond.code ({ cls := "java/lang/String", name := "checkIndex", desc := "(II)V" } : Jvm.MethodName) jdk_42_method_155_code (2 : Nat) (Option.none : Option Jvm.ClassFile.FieldType)).before args0 about1 = true := code_word (m := ⟨7, 12⟩) (meth := k7m12) (c := k7c12) (by decide +kernel) rfl rfl rfl (by decide +kernel)
set_option maxRecDepth 65536 in
theorem w_c39 : (Jvm.Cond.code ({ cls := "jdk/internal/util/Preconditions", name := "checkIndex", desc := "(IILjava/util/function/BiFunction;)I" } : Jvm.MethodName) jdk_41_method_11_code (3 : Nat) (Option.some Jvm.ClassFile.FieldType.int)).before args0 about1 = true := code_word (m := ⟨10, 1⟩) (meth := k10m1) (c := k10c1) (by decide +kernel) rfl rfl rfl (by decide +kernel)
def codes1 : List Jvm.Cond := [Jvm.Cond.code x code maxLocals ret, Jvm.Cond.code ({ cls := "com/example/vestledger/vestledger/account/NamesFindPinLaw", name := "str", desc := "(I)Ljava/lang/String;" } : Jvm.MethodName) method_2_code (6 : Nat) (Option.some (Jvm.ClassFile.FieldType.object "java/lang/String")), Jvm.Cond.code ({ cls := "java/lang/String", name := "<init>", desc := "([C)V" } : Jvm.MethodName) jdk_42_method_3_code (2 : Nat) (Option.none : Option Jvm.ClassFile.FieldType), Jvm.Cond.code ({ cls := "java/lang/String", name := "<init>", desc := "([CIILjava/lang/Void;)V" } : Jvm.MethodName) jdk_42_method_149_code (6 : Nat) (Option.none : Option Jvm.ClassFile.FieldType), Jvm.Cond.code ({ cls := "java/lang/Object", name := "<init>", desc := "()V" } : Jvm.MethodName) object_method_1_code (1 : Nat) (Option.none : Option Jvm.ClassFile.FieldType), Jvm.Cond.code ({ cls := "com/example/vestledger/vestledger/account/Names", name := "<init>", desc := "()V" } : Jvm.MethodName) prog_3_method_1_code (1 : Nat) (Option.none : Option Jvm.ClassFile.FieldType), Jvm.Cond.code ({ cls := "com/example/vestledger/vestledger/account/Names", name := "find", desc := "(Ljava/lang/String;)I" } : Jvm.MethodName) prog_3_method_5_code (5 : Nat) (Option.some Jvm.ClassFile.FieldType.int), Jvm.Cond.code ({ cls := "java/lang/String", name := "hashCode", desc := "()I" } : Jvm.MethodName) jdk_42_method_78_code (2 : Nat) (Option.some Jvm.ClassFile.FieldType.int), Jvm.Cond.code ({ cls := "java/lang/String", name := "isLatin1", desc := "()Z" } : Jvm.MethodName) jdk_42_method_154_code (1 : Nat) (Option.some Jvm.ClassFile.FieldType.boolean), Jvm.Cond.code ({ cls := "java/lang/StringLatin1", name := "hashCode", desc := "([B)I" } : Jvm.MethodName) jdk_43_method_21_code (1 : Nat) (Option.some Jvm.ClassFile.FieldType.int), Jvm.Cond.code ({ cls := "com/example/vestledger/vestledger/account/Names", name := "spread", desc := "(I)I" } : Jvm.MethodName) prog_3_method_11_code (2 : Nat) (Option.some Jvm.ClassFile.FieldType.int), Jvm.Cond.code ({ cls := "java/lang/String", name := "equals", desc := "(Ljava/lang/Object;)Z" } : Jvm.MethodName) jdk_42_method_66_code (3 : Nat) (Option.some Jvm.ClassFile.FieldType.boolean), Jvm.Cond.code ({ cls := "java/lang/StringLatin1", name := "equals", desc := "([B[B)Z" } : Jvm.MethodName) jdk_43_method_13_code (3 : Nat) (Option.some Jvm.ClassFile.FieldType.boolean), Jvm.Cond.code ({ cls := "com/example/vestledger/vestledger/account/Names", name := "placeOf", desc := "(Ljava/lang/String;)I" } : Jvm.MethodName) prog_3_method_6_code (3 : Nat) (Option.some Jvm.ClassFile.FieldType.int), Jvm.Cond.code ({ cls := "com/example/vestledger/vestledger/account/Names", name := "add", desc := "(Ljava/lang/String;)I" } : Jvm.MethodName) prog_3_method_7_code (4 : Nat) (Option.some Jvm.ClassFile.FieldType.int), Jvm.Cond.code ({ cls := "com/example/vestledger/vestledger/account/Names", name := "startOf", desc := "(I)I" } : Jvm.MethodName) prog_3_method_10_code (2 : Nat) (Option.some Jvm.ClassFile.FieldType.int), Jvm.Cond.code ({ cls := "java/lang/String", name := "length", desc := "()I" } : Jvm.MethodName) jdk_42_method_54_code (1 : Nat) (Option.some Jvm.ClassFile.FieldType.int), Jvm.Cond.code ({ cls := "java/lang/String", name := "coder", desc := "()B" } : Jvm.MethodName) jdk_42_method_152_code (1 : Nat) (Option.some Jvm.ClassFile.FieldType.byte), Jvm.Cond.code ({ cls := "java/lang/String", name := "getChars", desc := "(II[CI)V" } : Jvm.MethodName) jdk_42_method_61_code (5 : Nat) (Option.none : Option Jvm.ClassFile.FieldType), Jvm.Cond.code ({ cls := "java/lang/String", name := "checkBoundsBeginEnd", desc := "(III)V" } : Jvm.MethodName) jdk_42_method_158_code (3 : Nat) (Option.none : Option Jvm.ClassFile.FieldType), Jvm.Cond.code ({ cls := "jdk/internal/util/Preconditions", name := "checkFromToIndex", desc := "(IIILjava/util/function/BiFunction;)I" } : Jvm.MethodName) jdk_41_method_12_code (4 : Nat) (Option.some Jvm.ClassFile.FieldType.int), Jvm.Cond.code ({ cls := "java/lang/String", name := "checkBoundsOffCount", desc := "(III)I" } : Jvm.MethodName) jdk_42_method_157_code (3 : Nat) (Option.some Jvm.ClassFile.FieldType.int), Jvm.Cond.code ({ cls := "jdk/internal/util/Preconditions", name := "checkFromIndexSize", desc := "(IIILjava/util/function/BiFunction;)I" } : Jvm.MethodName) jdk_41_method_13_code (4 : Nat) (Option.some Jvm.ClassFile.FieldType.int), Jvm.Cond.code ({ cls := "java/lang/StringLatin1", name := "getChars", desc := "([BII[CI)V" } : Jvm.MethodName) jdk_43_method_11_code (5 : Nat) (Option.none : Option Jvm.ClassFile.FieldType), Jvm.Cond.code ({ cls := "java/lang/StringLatin1", name := "inflate", desc := "([BI[CII)V" } : Jvm.MethodName) jdk_43_method_49_code (6 : Nat) (Option.none : Option Jvm.ClassFile.FieldType), Jvm.Cond.code ({ cls := "com/example/vestledger/vestledger/account/Names", name := "enter", desc := "(I)V" } : Jvm.MethodName) prog_3_method_8_code (3 : Nat) (Option.none : Option Jvm.ClassFile.FieldType), Jvm.Cond.code ({ cls := "com/example/vestledger/vestledger/account/Names", name := "holds", desc := "(ILjava/lang/String;)Z" } : Jvm.MethodName) prog_3_method_9_code (6 : Nat) (Option.some Jvm.ClassFile.FieldType.boolean), Jvm.Cond.code ({ cls := "java/lang/StringUTF16", name := "compress", desc := "([CII)[B" } : Jvm.MethodName) jdk_52_method_16_code (6 : Nat) (Option.some (Jvm.ClassFile.FieldType.array Jvm.ClassFile.FieldType.byte)), Jvm.Cond.code ({ cls := "java/lang/StringUTF16", name := "compress", desc := "([CI[BII)I" } : Jvm.MethodName) jdk_52_method_21_code (7 : Nat) (Option.some Jvm.ClassFile.FieldType.int), Jvm.Cond.code ({ cls := "java/lang/StringUTF16", name := "coderFromArrayLen", desc := "([BI)B" } : Jvm.MethodName) jdk_52_method_15_code (2 : Nat) (Option.some Jvm.ClassFile.FieldType.byte), Jvm.Cond.code ({ cls := "java/lang/String", name := "valueOf", desc := "(C)Ljava/lang/String;" } : Jvm.MethodName) jdk_42_method_139_code (1 : Nat) (Option.some (Jvm.ClassFile.FieldType.object "java/lang/String")), Jvm.Cond.code ({ cls := "java/lang/StringLatin1", name := "canEncode", desc := "(C)Z" } : Jvm.MethodName) jdk_43_method_3_code (1 : Nat) (Option.some Jvm.ClassFile.FieldType.boolean), Jvm.Cond.code ({ cls := "java/lang/StringLatin1", name := "toBytes", desc := "(C)[B" } : Jvm.MethodName) jdk_43_method_46_code (1 : Nat) (Option.some (Jvm.ClassFile.FieldType.array Jvm.ClassFile.FieldType.byte)), Jvm.Cond.code ({ cls := "java/lang/String", name := "<init>", desc := "([BB)V" } : Jvm.MethodName) jdk_42_method_151_code (3 : Nat) (Option.none : Option Jvm.ClassFile.FieldType), Jvm.Cond.code ({ cls := "jdk/internal/util/ArraysSupport", name := "vectorizedHashCode", desc := "(Ljava/lang/Object;IIII)I" } : Jvm.MethodName) jdk_48_method_4_code (5 : Nat) (Option.some Jvm.ClassFile.FieldType.int), Jvm.Cond.code ({ cls := "jdk/internal/util/ArraysSupport", name := "signedHashCode", desc := "(I[BII)I" } : Jvm.MethodName) jdk_48_method_5_code (6 : Nat) (Option.some Jvm.ClassFile.FieldType.int), Jvm.Cond.code ({ cls := "java/lang/String", name := "charAt", desc := "(I)C" } : Jvm.MethodName) jdk_42_method_56_code (2 : Nat) (Option.some Jvm.ClassFile.FieldType.char), Jvm.Cond.code ({ cls := "java/lang/StringLatin1", name := "charAt", desc := "([BI)C" } : Jvm.MethodName) jdk_43_method_2_code (2 : Nat) (Option.some Jvm.ClassFile.FieldType.char), Jvm.Cond.code ({ cls := "java/lang/String", name := "checkIndex", desc := "(II)V" } : Jvm.MethodName) jdk_42_method_155_code (2 : Nat) (Option.none : Option Jvm.ClassFile.FieldType), Jvm.Cond.code ({ cls := "jdk/internal/util/Preconditions", name := "checkIndex", desc := "(IILjava/util/function/BiFunction;)I" } : Jvm.MethodName) jdk_41_method_11_code (3 : Nat) (Option.some Jvm.ClassFile.FieldType.int)]
set_option maxRecDepth 65536 in
theorem codes_eq : words1.filter isCode = codes1 := rfl
theorem w_codes : ∀ c ∈ words1.filter isCode, c.before args0 about1 = true := by
  rw [codes_eq]
  intro c hc
  simp only [codes1, List.mem_cons, List.not_mem_nil, or_false] at hc
  rcases hc with rfl | rfl | rfl | rfl | rfl | rfl | rfl | rfl | rfl | rfl | rfl | rfl | rfl | rfl | rfl | rfl | rfl | rfl | rfl | rfl | rfl | rfl | rfl | rfl | rfl | rfl | rfl | rfl | rfl | rfl | rfl | rfl | rfl | rfl | rfl | rfl | rfl | rfl | rfl | rfl
  · exact w_c0
  · exact w_c1
  · exact w_c2
  · exact w_c3
  · exact w_c4
  · exact w_c5
  · exact w_c6
  · exact w_c7
  · exact w_c8
  · exact w_c9
  · exact w_c10
  · exact w_c11
  · exact w_c12
  · exact w_c13
  · exact w_c14
  · exact w_c15
  · exact w_c16
  · exact w_c17
  · exact w_c18
  · exact w_c19
  · exact w_c20
  · exact w_c21
  · exact w_c22
  · exact w_c23
  · exact w_c24
  · exact w_c25
  · exact w_c26
  · exact w_c27
  · exact w_c28
  · exact w_c29
  · exact w_c30
  · exact w_c31
  · exact w_c32
  · exact w_c33
  · exact w_c34
  · exact w_c35
  · exact w_c36
  · exact w_c37
  · exact w_c38
  · exact w_c39
set_option maxRecDepth 65536 in
theorem w_t1 : (words1.take 24).all (fun c => isCode c || c.before args0 about1) = true := by decide +kernel
set_option maxRecDepth 65536 in
theorem w_t2 : ((words1.drop 24).take 24).all (fun c => isCode c || c.before args0 about1) = true := by decide +kernel
set_option maxRecDepth 65536 in
theorem w_t3 : (((words1.drop 24).drop 24).take 24).all (fun c => isCode c || c.before args0 about1) = true := by decide +kernel
set_option maxRecDepth 65536 in
theorem w_t4 : ((((words1.drop 24).drop 24).drop 24).take 24).all (fun c => isCode c || c.before args0 about1) = true := by decide +kernel
set_option maxRecDepth 65536 in
theorem w_t5 : (((((words1.drop 24).drop 24).drop 24).drop 24).take 24).all (fun c => isCode c || c.before args0 about1) = true := by decide +kernel
set_option maxRecDepth 65536 in
theorem w_t6 : ((((((words1.drop 24).drop 24).drop 24).drop 24).drop 24).take 24).all (fun c => isCode c || c.before args0 about1) = true := by decide +kernel
set_option maxRecDepth 65536 in
theorem w_t7 : (((((((words1.drop 24).drop 24).drop 24).drop 24).drop 24).drop 24).take 24).all (fun c => isCode c || c.before args0 about1) = true := by decide +kernel
set_option maxRecDepth 65536 in
theorem w_t8 : (((((((words1.drop 24).drop 24).drop 24).drop 24).drop 24).drop 24).drop 24).all (fun c => isCode c || c.before args0 about1) = true := by decide +kernel
theorem w_tables : (allAtoms (Jvm.Cond.code x code maxLocals ret :: tables_1)).before args0 about1 = true := by
  rw [allAtoms_all]
  show words1.all (fun c => c.before args0 about1) = true
  refine all_split ?_ w_codes
  rw [← List.take_append_drop 24 words1, List.all_append, w_t1, ← List.take_append_drop 24 (words1.drop 24), List.all_append, w_t2, ← List.take_append_drop 24 ((words1.drop 24).drop 24), List.all_append, w_t3, ← List.take_append_drop 24 (((words1.drop 24).drop 24).drop 24), List.all_append, w_t4, ← List.take_append_drop 24 ((((words1.drop 24).drop 24).drop 24).drop 24), List.all_append, w_t5, ← List.take_append_drop 24 (((((words1.drop 24).drop 24).drop 24).drop 24).drop 24), List.all_append, w_t6, ← List.take_append_drop 24 ((((((words1.drop 24).drop 24).drop 24).drop 24).drop 24).drop 24), List.all_append, w_t7, w_t8]
  rfl
set_option maxRecDepth 65536 in
theorem w_rest : rest_1_c.before args0 about1 = true := by decide +kernel
set_option maxRecDepth 65536 in
theorem w_case : (Jvm.Cond.and given_1 narrow_1).before args0 about1 = true := by decide +kernel
set_option maxRecDepth 65536 in
theorem w_consts : constsHeld consts_1 about1 := Jvm.Lit.constsHeldB_iff.mp (by decide +kernel)
theorem w_applies : (headSpec (Jvm.Cond.code x code maxLocals ret :: tables_1) room_1).applies x e0.platform about1 = true :=
  (Spec.applies_iff w_frames).mpr ⟨w_running, w_runnable, w_alone, w_named, w_hears, w_ripe, w_room, w_tables⟩
theorem atStart : AtStart classFile x code maxLocals ret World_1 tables_1 room_1 Calls_1 rest_1 Pre_1 launch0 p0 e0 about1 theMethod args0 below0 :=
  ⟨lists_1, trivial, launch0.admits_env _ _ _, launch0.least_env, fairChoices_fair.cas, fairChoices_fair.clock, w_frames, w_args, w_heap, w_applies, ⟨w_consts, trivial⟩, w_rest, w_case⟩
end start1
theorem witness_1 : WitnessClaimed_1 := ⟨start1.p0, start1.e0, start1.about1, start1.theMethod, start1.args0, start1.below0, start1.atStart⟩
end Jvm.Pilot.@@N@@
