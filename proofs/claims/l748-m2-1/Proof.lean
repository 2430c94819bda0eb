import JvmDerived
import JvmDerived.Pilot.@@N@@Statement
import JvmDerived.Pilot.@@N@@Code
set_option linter.unusedVariables false
set_option linter.unusedSimpArgs false
namespace Jvm.GoK
open Jvm Jvm.ClassFile Sem Op Lib Jvm.Free Jvm.Stand Jvm.LawKit Jvm.RoadKit Bundle
/-- what an invocation is: program, environment, start, method, arguments, frames below, method record, code -/
abbrev KT : Type := Program × Env × State × MethodId × Array Value × List Frame × Method × Code
abbrev KT.p (K : KT) : Program := K.1
abbrev KT.e (K : KT) : Env := K.2.1
abbrev KT.s (K : KT) : State := K.2.2.1
abbrev KT.m (K : KT) : MethodId := K.2.2.2.1
abbrev KT.args (K : KT) : Array Value := K.2.2.2.2.1
abbrev KT.below (K : KT) : List Frame := K.2.2.2.2.2.1
abbrev KT.meth (K : KT) : Method := K.2.2.2.2.2.2.1
abbrev KT.c (K : KT) : Code := K.2.2.2.2.2.2.2
def Kok (Z : State) (a0 : Array Value) (EL : List (String × Nat)) (bytes : ByteArray) (ml : Nat) (ret : Option FieldType) (nm : String) (K : KT) : Prop :=
  K.p.tables.exec = Jvm.exec ∧ K.c.code = bytes ∧ K.c.maxLocals = ml ∧ K.meth.sig.returnType = ret ∧ K.meth.name = nm ∧ K.meth.locks = false ∧ EW Z a0 EL
/-- the places of S are no booked constant's -/
def Sf (Z : State) (EL : List (String × Nat)) (vm : Vm) (h : Heap) (S : Addr → Prop) : Prop := ∀ x, S x → Safe Z EL vm h x ∧ x < h.size
theorem Sf.step {Z : State} {EL : List (String × Nat)} {vm vm1 : Vm} {h h' : Heap} {S : Addr → Prop} (F : Sf Z EL vm h S) (C : CHr Z EL vm h vm1 h') : Sf Z EL vm1 h' S := fun x hx =>
  ⟨C.safe (F x hx).2 (F x hx).1, Nat.lt_of_lt_of_le (F x hx).2 C.2.1⟩
/-- the walk stands at T with heap h, kc cells and ks slots still to be had -/
def St (l : Launch) (Z : State) (EL : List (String × Nat)) (R : Room) (own : String) (S0 : Addr → Prop) (K : KT) (T : State) (kc ks : Nat) (S : Addr → Prop) (h : Heap) : Prop :=
  ∃ (vm0 : Vm) (k0 : Nat) (locs : List Loc) (cells slots : Nat), Stand K.p l K.e R (K.s.setVm vm0) K.m K.args K.below K.meth K.c T locs cells slots ∧ T.heap = h ∧ K.s.Since vm0 k0 ∧ k0 ≤ h.size ∧ Z.Warmed39 vm0 ∧ vm0.findClass own = some K.m.cls ∧ CHr Z EL K.s.vm K.s.heap vm0 h ∧ Fr Z.heap.size locs ∧ cells + kc ≤ R.cells ∧ slots + ks ≤ R.slots ∧ Sf Z EL vm0 h S ∧ Ext Z.heap h ∧ ∀ x, S0 x → S x
def FinG (Z : State) (EL : List (String × Nat)) (R : Room) (S0 : Addr → Prop) (Q : (Addr → Prop) → Option Value → Heap → Prop) (s t : State) (o : Outcome) : Prop :=
  ∃ v L, o = .returned v ∧ ((∃ S, (∀ x, S0 x → S x) ∧ Sf Z EL t.vm t.heap S ∧ Ext Z.heap t.heap ∧ Q S v t.heap) ∧ Fr Z.heap.size L) ∧ CHr Z EL s.vm s.heap t.vm t.heap ∧ ReturnedEndW s o t L R.cells R.slots
/-- from every such point with the frame f on top the method ends, and Q -/
def Go (l : Launch) (Z : State) (a0 : Array Value) (EL : List (String × Nat)) (R : Room) (own : String) (bytes : ByteArray) (ml : Nat) (ret : Option FieldType) (nm : String) (S0 : Addr → Prop) (Q : (Addr → Prop) → Option Value → Heap → Prop) (K : KT) (kc ks : Nat) (S : Addr → Prop) (h : Heap) (f : JFrame) : Prop :=
  Kok Z a0 EL bytes ml ret nm K → ∀ T, St l Z EL R own S0 K T kc ks S h → ∃ t o, Steps K.p.tables K.e K.below (T.setTop f) t ∧ t.status = .running ∧ Ended t K.below o ∧ FinG Z EL R S0 Q K.s t o
/-- a method's contract -/
def Con (l : Launch) (Z : State) (EL : List (String × Nat)) (ws : List Jvm.Cond) (y : MethodName) (bytes : ByteArray) (ml : Nat) (ret : Option FieldType) (R : Room) (as : Array Value) (S : Addr → Prop) (h : Heap) (Q : (Addr → Prop) → Option Value → Heap → Prop) : Prop :=
  MetFree l y (head1 (Jvm.Cond.code y bytes ml ret :: ws) R) (fun a U => a = as ∧ Z.Warmed39 U.vm ∧ U.heap = h ∧ CHv Z EL U.vm h ∧ Sf Z EL U.vm h S ∧ Ext Z.heap h) (fun _ _ _ _ _ => True) (fun _ U o U' => FinG Z EL R S Q U U' o)
theorem con_of_go {l : Launch} {Z : State} {a0 : Array Value} {EL : List (String × Nat)} {ws : List Jvm.Cond} {y : MethodName} {bytes : ByteArray} {ml : Nat} {ret : Option FieldType} {R : Room} {as : Array Value} {S : Addr → Prop} {h : Heap} {Q : (Addr → Prop) → Option Value → Heap → Prop} {ls : Array Slot}
    (hy : plainFor y = true) (hEL : EW Z a0 EL) (hent : ∀ m, entryFrame m as ml = mkF m 0 ls []) (H : ∀ K : KT, Go l Z a0 EL R y.cls bytes ml ret y.name S Q K R.cells R.slots S h (mkF K.m 0 ls [])) : Con l Z EL ws y bytes ml ret R as S h Q := by
  refine MetFree.of_bodySF hy hisR ?_
  intro p e s m args below meth c s₁ Bd hml0 hP hK
  obtain ⟨rfl, hZ, hh, hC, hSf, hE⟩ := hP
  have X0 : Stand p l e R s m args below meth c s₁ [] 0 0 := Stand.of_body Bd
  have e0 : s₁.heap = h := by rw [← hh, Bd.state]; rfl
  have hown : s.vm.findClass y.cls = some m.cls := findClass_of_methodNamed Bd.named
  have hnm := (name_of_methodNamed Bd.named Bd.method).1
  have hCr : CHr Z EL s.vm s.heap s.vm h := by rw [hh]; exact CHr.refl hC
  obtain ⟨t, o, h1, h2, h3, h4⟩ := H (p, e, s, m, args, below, meth, c) ⟨Bd.exec, Bd.bytes, hml0, Bd.returns, hnm, Bd.notSynchronized, hEL⟩ s₁
    ⟨s.vm, 0, [], 0, 0, X0, e0, (State.WarmedH.refl s).since 0, Nat.zero_le _, hZ, hown, hCr, Fr.nil _, by simp, by simp, hSf, hE, fun _ q => q⟩
  exact ⟨t, o, castTop (hent m) h1, h2, h3, h4⟩
section
variable {l : Launch} {R : Room} {p : Program} {e : Env} {s : State} {args : Array Value} {below : List Frame} {Z : State} {a0 : Array Value} {EL : List (String × Nat)} {h : Heap} {vm0 : Vm}
/-- a callee's contract pays a call -/
theorem backG {y : MethodName} {bytes : ByteArray} {maxL : Nat} {ret : Option FieldType} {rm : Room} {len W : Nat} {as' : Array Value} {S : Addr → Prop} {Q : (Addr → Prop) → Option Value → Heap → Prop}
    (hM : Con l Z EL [] y bytes maxL ret rm as' S h Q)
    (hZ : Z.Warmed39 vm0) (wc : (Cond.code y bytes maxL ret).before a0 Z = true) (wz : (Cond.initialized y.cls).before a0 Z = true) (hf : rm.frames + 1 ≤ R.frames) (hl : W + (maxL + 11) + rm.locals ≤ R.locals) (hEL : EW Z a0 EL) (H : CHv Z EL vm0 h) (hSf : Sf Z EL vm0 h S) (hE : Ext Z.heap h) :
    BackS l R p e below (s.setVm vm0) args y len W (fun A a => a = as' ∧ A.U.heap = h ∧ A.cells + rm.cells ≤ R.cells ∧ A.slots + rm.slots ≤ R.slots)
      (fun A _ v B => ∃ L, ((∃ S', (∀ x, S x → S' x) ∧ Sf Z EL B.U.vm B.U.heap S' ∧ Ext Z.heap B.U.heap ∧ Q S' v B.U.heap) ∧ Fr Z.heap.size L) ∧ B.locs = A.locs ++ L ∧ B.cells = A.cells + rm.cells ∧ B.slots = A.slots + rm.slots ∧ CHr Z EL vm0 h B.U.vm B.U.heap) :=
  BackS.of_freeW (bytes := bytes) (maxL := maxL) (ret := ret) (E := fun _ first o t L k n => k = rm.cells ∧ n = rm.slots ∧ (∃ v, o = .returned v ∧ ((∃ S', (∀ x, S x → S' x) ∧ Sf Z EL t.vm t.heap S' ∧ Ext Z.heap t.heap ∧ Q S' v t.heap) ∧ Fr Z.heap.size L)) ∧ CHr Z EL first.vm first.heap t.vm t.heap) hM hf hl
    (fun m meth c A a Y hp => have hU : Z.Warmed39 A.U.vm := wtrans (s := s.setVm vm0) hZ Y.warmed
      ⟨by show (Cond.and _ .tt).before a A.U = true; rw [Cond.before_and, mv hU wc]; rfl, mv hU wc, mv hU wz, hp.2.2.1, hp.2.2.2⟩)
    (fun m meth c A a g mk Y hp => ⟨hp.1, wtrans (s := s.setVm vm0) hZ Y.warmed, hp.2.1, (CHv.at (T := A.U) Y hZ hEL H).1, hSf.step (CHv.at (T := A.U) Y hZ hEL H), hE⟩) (fun _ _ _ _ _ _ _ _ _ => trivial)
    (fun _ _ _ _ ⟨v, L, h1, h2, h3, h4⟩ => ⟨L, _, _, h4, rfl, rfl, ⟨v, h1, h2⟩, h3⟩)
    (fun m meth c A a g mk v t L k n Y hp _ _ ⟨e1, e2, ⟨v', e3, e4⟩, e5⟩ => by
      cases e3; subst e1 e2
      refine ⟨L, e4, rfl, rfl, rfl, (CHv.at Y hZ hEL H).trans ?_⟩
      rw [← hp.2.1]; exact e5)
end
/-- an instruction, and the place behind it -/
def Dec (bytes : ByteArray) (pc : Nat) (i : Instr) (len n : Nat) : Prop := decode bytes pc = .ok (i, len) ∧ pc + len = n
/-- a branch's instruction, offset, the place behind it and its goal -/
def Brn (bytes : ByteArray) (pc : Nat) (i : Instr) (o : Int) (n t : Nat) : Prop := decode bytes pc = .ok (i, 3) ∧ pc + 3 = n ∧ 0 ≤ (pc : Int) + o ∧ ((pc : Int) + o).toNat = t
section Rules
variable {l : Launch} {Z : State} {a0 : Array Value} {EL : List (String × Nat)} {R : Room} {own : String} {bytes : ByteArray} {ml : Nat} {ret : Option FieldType} {nm : String} {S0 : Addr → Prop} {Q : (Addr → Prop) → Option Value → Heap → Prop} {K : KT} {kc ks : Nat} {S : Addr → Prop} {h : Heap} {f f' : JFrame} {pc n t : Nat} {ls l' : Array Slot} {st : List Value} {x y v : Int32} {u w : Value}
theorem Go.pure (k : Go l Z a0 EL R own bytes ml ret nm S0 Q K kc ks S h f') (H : ∀ T, At T K.m K.c K.below → K.p.tables.exec = Jvm.exec → K.c.code = bytes → ∀ t, Steps K.p.tables K.e K.below (T.setTop f') t → Steps K.p.tables K.e K.below (T.setTop f) t) : Go l Z a0 EL R own bytes ml ret nm S0 Q K kc ks S h f := by
  intro hK T hT
  obtain ⟨t, o, hs, r⟩ := k hK T hT
  obtain ⟨vm0, k0, locs, cells, slots, X, -⟩ := hT
  exact ⟨t, o, H T X.here hK.1 hK.2.1 t hs, r⟩
/-- a step that moves the state alone, the heap as it was -/
theorem Go.calm (k : Go l Z a0 EL R own bytes ml ret nm S0 Q K kc ks S h f')
    (H : ∀ vm0 T locs cells slots, Kok Z a0 EL bytes ml ret nm K → Stand K.p l K.e R (K.s.setVm vm0) K.m K.args K.below K.meth K.c T locs cells slots → Z.Warmed39 (K.s.setVm vm0).vm → (K.s.setVm vm0).vm.findClass own = some K.m.cls → T.heap = h → Ext Z.heap h →
      ∃ T', Stand K.p l K.e R (K.s.setVm vm0) K.m K.args K.below K.meth K.c T' locs cells slots ∧ T'.heap = h ∧ ∀ target, Steps K.p.tables K.e K.below (T'.setTop f') target → Steps K.p.tables K.e K.below (T.setTop f) target) : Go l Z a0 EL R own bytes ml ret nm S0 Q K kc ks S h f := by
  intro hK T hT
  obtain ⟨vm0, k0, locs, cells, slots, X, e1, e2, e3, e4, e5, e6, e7, e8, e9, e10, e11, e12⟩ := hT
  obtain ⟨T', X', e', st'⟩ := H vm0 T locs cells slots hK X e4 e5 e1 e11
  obtain ⟨t, o, hs, r⟩ := k hK T' ⟨vm0, k0, locs, cells, slots, X', e', e2, e3, e4, e5, e6, e7, e8, e9, e10, e11, e12⟩
  exact ⟨t, o, st' _ hs, r⟩
theorem ext_trans {h1 h2 h3 : Heap} (E : Ext h1 h2) (F : Ext h2 h3) : Ext h1 h3 := ⟨Nat.le_trans E.1 F.1, fun a c q => F.2 a c (E.2 a c q)⟩
/-- a step that makes one cell at the heap's end -/
theorem Go.make {na : Nat} {f' : Addr → JFrame} (P : Addr → Heap → Prop) (k : ∀ S' h' a, a = h.size → (∀ x, S x → S' x) → S' a → Ext h h' → a < h'.size → P a h' → Go l Z a0 EL R own bytes ml ret nm S0 Q K kc ks S' h' (f' a) )
    (H : ∀ vm0 T locs cells slots, Kok Z a0 EL bytes ml ret nm K → Stand K.p l K.e R (K.s.setVm vm0) K.m K.args K.below K.meth K.c T locs cells slots → Z.Warmed39 (K.s.setVm vm0).vm → (K.s.setVm vm0).vm.findClass own = some K.m.cls → T.heap = h → cells + 1 ≤ R.cells → slots + na ≤ R.slots →
      ∃ T' h', Stand K.p l K.e R (K.s.setVm vm0) K.m K.args K.below K.meth K.c T' locs (cells + 1) (slots + na) ∧ T'.heap = h' ∧ Ext h h' ∧ h.size < h'.size ∧ P h.size h' ∧ ∀ target, Steps K.p.tables K.e K.below (T'.setTop (f' h.size)) target → Steps K.p.tables K.e K.below (T.setTop f) target) : Go l Z a0 EL R own bytes ml ret nm S0 Q K (kc + 1) (ks + na) S h f := by
  intro hK T hT
  obtain ⟨vm0, k0, locs, cells, slots, X, e1, e2, e3, e4, e5, e6, e7, e8, e9, e10, e11, e12⟩ := hT
  obtain ⟨T', h', X', e', E, hlt, p, st'⟩ := H vm0 T locs cells slots hK X e4 e5 e1 (by omega) (by omega)
  have hCr := e6.trans (CHr.ext E e6.1)
  have hSf : Sf Z EL vm0 h' (fun x => S x ∨ x = h.size) := fun x hx => by
    rcases hx with hx | rfl
    · exact (e10.step (CHr.ext E e6.1)) x hx
    · exact ⟨Safe.ext E e6.1 (Safe.new (Nat.le_refl _)), hlt⟩
  obtain ⟨t, o, hs, r⟩ := k (fun x => S x ∨ x = h.size) h' h.size rfl (fun _ q => Or.inl q) (Or.inr rfl) E hlt p hK T' ⟨vm0, k0, locs, cells + 1, slots + na, X', e', e2, Nat.le_trans e3 E.1, e4, e5, hCr, e7, by omega, by omega, hSf, ext_trans e11 E, fun x q => Or.inl (e12 x q)⟩
  exact ⟨t, o, st' _ hs, r⟩
theorem ext_wr {h' : Heap} {a : Addr} {sl : Nat} {v : Value} (E : Ext Z.heap h) (W : Wr h h' a sl v) (q : Z.heap.size ≤ a) : Ext Z.heap h' := (Old.wr (Z := Z) (n0 := Z.heap.size) ⟨rfl, E⟩ W q).2
/-- a step that writes one place of a cell made since the law began -/
theorem Go.write {a : Addr} {sl : Nat} (ha : Z.heap.size ≤ a) (hsafe : S a ∨ ∀ vm0 : Vm, Z.vm.Alike vm0 → Safe Z EL vm0 h a) (k : ∀ h', Wr h h' a sl w → Keep h h' [a] → Go l Z a0 EL R own bytes ml ret nm S0 Q K kc ks S h' f')
    (H : ∀ vm0 T locs cells slots, Kok Z a0 EL bytes ml ret nm K → Stand K.p l K.e R (K.s.setVm vm0) K.m K.args K.below K.meth K.c T locs cells slots → Z.Warmed39 (K.s.setVm vm0).vm → (K.s.setVm vm0).vm.findClass own = some K.m.cls → T.heap = h →
      ∃ T' h', Stand K.p l K.e R (K.s.setVm vm0) K.m K.args K.below K.meth K.c T' (locs ++ [⟨a, sl⟩]) cells slots ∧ T'.heap = h' ∧ Wr h h' a sl w ∧ ∀ target, Steps K.p.tables K.e K.below (T'.setTop f') target → Steps K.p.tables K.e K.below (T.setTop f) target) : Go l Z a0 EL R own bytes ml ret nm S0 Q K kc ks S h f := by
  intro hK T hT
  obtain ⟨vm0, k0, locs, cells, slots, X, e1, e2, e3, e4, e5, e6, e7, e8, e9, e10, e11, e12⟩ := hT
  obtain ⟨T', h', X', e', W, st'⟩ := H vm0 T locs cells slots hK X e4 e5 e1
  have hsf : Safe Z EL vm0 h a := by
    rcases hsafe with q | q
    · exact (e10 a q).1
    · exact q vm0 e4.alike
  have KW := Keep.of_wr W
  have hC := CHr.keep KW (allS hsf all0) e6.1
  obtain ⟨t, o, hs, r⟩ := k h' W KW hK T' ⟨vm0, k0, _, cells, slots, X', e', e2, Nat.le_trans e3 KW.1, e4, e5, e6.trans hC, Fr.snoc X' e7 ha, e8, e9, e10.step hC, ext_wr e11 W ha, e12⟩
  exact ⟨t, o, st' _ hs, r⟩
theorem go_aloadN {k : Fin 4} (hd : Dec bytes pc (.aload_n k) 1 n) (hl : ls[k.val]? = some (.val u)) (hv : u.isRef = true) (kk : Go l Z a0 EL R own bytes ml ret nm S0 Q K kc ks S h (mkF K.m n ls (u :: st))) : Go l Z a0 EL R own bytes ml ret nm S0 Q K kc ks S h (mkF K.m pc ls (st)) := by
  obtain ⟨hd, rfl⟩ := hd
  exact Go.pure kk fun T hT hx hb0 tgt hr => XS.aloadN hT hx rfl (hb hb0 hd) hl hv hr
theorem go_aload {k : Nat} (hd : Dec bytes pc (.aload k) 2 n) (hl : ls[k]? = some (.val u)) (hv : u.isRef = true) (kk : Go l Z a0 EL R own bytes ml ret nm S0 Q K kc ks S h (mkF K.m n ls (u :: st))) : Go l Z a0 EL R own bytes ml ret nm S0 Q K kc ks S h (mkF K.m pc ls (st)) := by
  obtain ⟨hd, rfl⟩ := hd
  exact Go.pure kk fun T hT hx hb0 tgt hr => XS.aload hT hx rfl (hb hb0 hd) hl hv hr
theorem go_iloadN {k : Fin 4} (hd : Dec bytes pc (.iload_n k) 1 n) (hl : ls[k.val]? = some (.val (.int x))) (kk : Go l Z a0 EL R own bytes ml ret nm S0 Q K kc ks S h (mkF K.m n ls (.int x :: st))) : Go l Z a0 EL R own bytes ml ret nm S0 Q K kc ks S h (mkF K.m pc ls (st)) := by
  obtain ⟨hd, rfl⟩ := hd
  exact Go.pure kk fun T hT hx hb0 tgt hr => XS.iloadN hT hx rfl (hb hb0 hd) hl hr
theorem go_iload {k : Nat} (hd : Dec bytes pc (.iload k) 2 n) (hl : ls[k]? = some (.val (.int x))) (kk : Go l Z a0 EL R own bytes ml ret nm S0 Q K kc ks S h (mkF K.m n ls (.int x :: st))) : Go l Z a0 EL R own bytes ml ret nm S0 Q K kc ks S h (mkF K.m pc ls (st)) := by
  obtain ⟨hd, rfl⟩ := hd
  exact Go.pure kk fun T hT hx hb0 tgt hr => XS.iload hT hx rfl (hb hb0 hd) hl hr
theorem go_lloadN {k : Fin 4} {z : Int64} (hd : Dec bytes pc (.lload_n k) 1 n) (hl : ls[k.val]? = some (.val (.long z))) (kk : Go l Z a0 EL R own bytes ml ret nm S0 Q K kc ks S h (mkF K.m n ls (.long z :: st))) : Go l Z a0 EL R own bytes ml ret nm S0 Q K kc ks S h (mkF K.m pc ls (st)) := by
  obtain ⟨hd, rfl⟩ := hd
  exact Go.pure kk fun T hT hx hb0 tgt hr => XT.lloadN hT hx rfl (hb hb0 hd) hl hr
theorem go_lload {k : Nat} {z : Int64} (hd : Dec bytes pc (.lload k) 2 n) (hl : ls[k]? = some (.val (.long z))) (kk : Go l Z a0 EL R own bytes ml ret nm S0 Q K kc ks S h (mkF K.m n ls (.long z :: st))) : Go l Z a0 EL R own bytes ml ret nm S0 Q K kc ks S h (mkF K.m pc ls (st)) := by
  obtain ⟨hd, rfl⟩ := hd
  exact Go.pure kk fun T hT hx hb0 tgt hr => XT.lload hT hx rfl (hb hb0 hd) hl hr
theorem go_iconst {i : Int} (hd : Dec bytes pc (.iconst i) 1 n) (hv : Int32.ofInt i = x) (kk : Go l Z a0 EL R own bytes ml ret nm S0 Q K kc ks S h (mkF K.m n ls (.int x :: st))) : Go l Z a0 EL R own bytes ml ret nm S0 Q K kc ks S h (mkF K.m pc ls (st)) := by
  obtain ⟨hd, rfl⟩ := hd
  exact Go.pure kk fun T hT hx hb0 tgt hr => XT.iconstV hT hx rfl x (hb hb0 hd) hv hr
theorem go_bipush {i : Int} (hd : Dec bytes pc (.bipush i) 2 n) (hv : (Int8.ofInt i).toInt32 = x) (kk : Go l Z a0 EL R own bytes ml ret nm S0 Q K kc ks S h (mkF K.m n ls (.int x :: st))) : Go l Z a0 EL R own bytes ml ret nm S0 Q K kc ks S h (mkF K.m pc ls (st)) := by
  obtain ⟨hd, rfl⟩ := hd
  exact Go.pure kk fun T hT hx hb0 tgt hr => XT.bipushV hT hx rfl x (hb hb0 hd) hv hr
theorem go_sipush {i : Int} (hd : Dec bytes pc (.sipush i) 3 n) (hv : (Int16.ofInt i).toInt32 = x) (kk : Go l Z a0 EL R own bytes ml ret nm S0 Q K kc ks S h (mkF K.m n ls (.int x :: st))) : Go l Z a0 EL R own bytes ml ret nm S0 Q K kc ks S h (mkF K.m pc ls (st)) := by
  obtain ⟨hd, rfl⟩ := hd
  exact Go.pure kk fun T hT hx hb0 tgt hr => XT.sipushV hT hx rfl x (hb hb0 hd) hv hr
theorem go_lconst {i : Fin 2} {z : Int64} (hd : Dec bytes pc (.lconst i) 1 n) (hv : Int64.ofNat i = z) (kk : Go l Z a0 EL R own bytes ml ret nm S0 Q K kc ks S h (mkF K.m n ls (.long z :: st))) : Go l Z a0 EL R own bytes ml ret nm S0 Q K kc ks S h (mkF K.m pc ls (st)) := by
  obtain ⟨hd, rfl⟩ := hd
  exact Go.pure kk fun T hT hx hb0 tgt hr => XT.lconstV hT hx rfl z (hb hb0 hd) hv hr
theorem go_null (hd : Dec bytes pc (.aconst_null) 1 n) (kk : Go l Z a0 EL R own bytes ml ret nm S0 Q K kc ks S h (mkF K.m n ls (.null :: st))) : Go l Z a0 EL R own bytes ml ret nm S0 Q K kc ks S h (mkF K.m pc ls (st)) := by
  obtain ⟨hd, rfl⟩ := hd
  exact Go.pure kk fun T hT hx hb0 tgt hr => XS.aconstNull hT hx rfl (hb hb0 hd) hr
theorem go_iadd (hd : Dec bytes pc (.iadd) 1 n) (hv : x + y = v) (kk : Go l Z a0 EL R own bytes ml ret nm S0 Q K kc ks S h (mkF K.m n ls (.int v :: st))) : Go l Z a0 EL R own bytes ml ret nm S0 Q K kc ks S h (mkF K.m pc ls (.int y :: .int x :: st)) := by
  obtain ⟨hd, rfl⟩ := hd
  exact Go.pure kk fun T hT hx hb0 tgt hr => XS.iadd hT hx rfl (hb hb0 hd) rfl (by rw [hv]; exact hr)
theorem go_isub (hd : Dec bytes pc (.isub) 1 n) (hv : x - y = v) (kk : Go l Z a0 EL R own bytes ml ret nm S0 Q K kc ks S h (mkF K.m n ls (.int v :: st))) : Go l Z a0 EL R own bytes ml ret nm S0 Q K kc ks S h (mkF K.m pc ls (.int y :: .int x :: st)) := by
  obtain ⟨hd, rfl⟩ := hd
  exact Go.pure kk fun T hT hx hb0 tgt hr => XS.isub hT hx rfl (hb hb0 hd) rfl (by rw [hv]; exact hr)
theorem go_imul (hd : Dec bytes pc (.imul) 1 n) (hv : x * y = v) (kk : Go l Z a0 EL R own bytes ml ret nm S0 Q K kc ks S h (mkF K.m n ls (.int v :: st))) : Go l Z a0 EL R own bytes ml ret nm S0 Q K kc ks S h (mkF K.m pc ls (.int y :: .int x :: st)) := by
  obtain ⟨hd, rfl⟩ := hd
  exact Go.pure kk fun T hT hx hb0 tgt hr => XS.imul hT hx rfl (hb hb0 hd) rfl (by rw [hv]; exact hr)
theorem go_iand (hd : Dec bytes pc (.iand) 1 n) (hv : x &&& y = v) (kk : Go l Z a0 EL R own bytes ml ret nm S0 Q K kc ks S h (mkF K.m n ls (.int v :: st))) : Go l Z a0 EL R own bytes ml ret nm S0 Q K kc ks S h (mkF K.m pc ls (.int y :: .int x :: st)) := by
  obtain ⟨hd, rfl⟩ := hd
  exact Go.pure kk fun T hT hx hb0 tgt hr => XS.iand hT hx rfl (hb hb0 hd) rfl (by rw [hv]; exact hr)
theorem go_ior (hd : Dec bytes pc (.ior) 1 n) (hv : x ||| y = v) (kk : Go l Z a0 EL R own bytes ml ret nm S0 Q K kc ks S h (mkF K.m n ls (.int v :: st))) : Go l Z a0 EL R own bytes ml ret nm S0 Q K kc ks S h (mkF K.m pc ls (.int y :: .int x :: st)) := by
  obtain ⟨hd, rfl⟩ := hd
  exact Go.pure kk fun T hT hx hb0 tgt hr => XT.ior hT hx rfl (hb hb0 hd) rfl (by rw [hv]; exact hr)
theorem go_ixor (hd : Dec bytes pc (.ixor) 1 n) (hv : x ^^^ y = v) (kk : Go l Z a0 EL R own bytes ml ret nm S0 Q K kc ks S h (mkF K.m n ls (.int v :: st))) : Go l Z a0 EL R own bytes ml ret nm S0 Q K kc ks S h (mkF K.m pc ls (.int y :: .int x :: st)) := by
  obtain ⟨hd, rfl⟩ := hd
  exact Go.pure kk fun T hT hx hb0 tgt hr => XT.ixor hT hx rfl (hb hb0 hd) rfl (by rw [hv]; exact hr)
theorem go_ishl (hd : Dec bytes pc (.ishl) 1 n) (hv : x <<< (y &&& 31) = v) (kk : Go l Z a0 EL R own bytes ml ret nm S0 Q K kc ks S h (mkF K.m n ls (.int v :: st))) : Go l Z a0 EL R own bytes ml ret nm S0 Q K kc ks S h (mkF K.m pc ls (.int y :: .int x :: st)) := by
  obtain ⟨hd, rfl⟩ := hd
  exact Go.pure kk fun T hT hx hb0 tgt hr => XT.ishl hT hx rfl (hb hb0 hd) rfl (by rw [hv]; exact hr)
theorem go_ishr (hd : Dec bytes pc (.ishr) 1 n) (hv : x >>> (y &&& 31) = v) (kk : Go l Z a0 EL R own bytes ml ret nm S0 Q K kc ks S h (mkF K.m n ls (.int v :: st))) : Go l Z a0 EL R own bytes ml ret nm S0 Q K kc ks S h (mkF K.m pc ls (.int y :: .int x :: st)) := by
  obtain ⟨hd, rfl⟩ := hd
  exact Go.pure kk fun T hT hx hb0 tgt hr => XT.ishr hT hx rfl (hb hb0 hd) rfl (by rw [hv]; exact hr)
theorem go_iushr (hd : Dec bytes pc (.iushr) 1 n) (hv : XT.ushr x y = v) (kk : Go l Z a0 EL R own bytes ml ret nm S0 Q K kc ks S h (mkF K.m n ls (.int v :: st))) : Go l Z a0 EL R own bytes ml ret nm S0 Q K kc ks S h (mkF K.m pc ls (.int y :: .int x :: st)) := by
  obtain ⟨hd, rfl⟩ := hd
  exact Go.pure kk fun T hT hx hb0 tgt hr => XT.iushr hT hx rfl (hb hb0 hd) rfl (by rw [hv]; exact hr)
theorem go_irem (hd : Dec bytes pc (.irem) 1 n) (hy : y ≠ 0) (hv : x % y = v) (kk : Go l Z a0 EL R own bytes ml ret nm S0 Q K kc ks S h (mkF K.m n ls (.int v :: st))) : Go l Z a0 EL R own bytes ml ret nm S0 Q K kc ks S h (mkF K.m pc ls (.int y :: .int x :: st)) := by
  obtain ⟨hd, rfl⟩ := hd
  exact Go.pure kk fun T hT hx hb0 tgt hr => XS.irem hT hx rfl (hb hb0 hd) rfl hy (by rw [irem_eq_mod, hv]; exact hr)
theorem go_idiv (hd : Dec bytes pc (.idiv) 1 n) (hy : y ≠ 0) (hv : x / y = v) (kk : Go l Z a0 EL R own bytes ml ret nm S0 Q K kc ks S h (mkF K.m n ls (.int v :: st))) : Go l Z a0 EL R own bytes ml ret nm S0 Q K kc ks S h (mkF K.m pc ls (.int y :: .int x :: st)) := by
  obtain ⟨hd, rfl⟩ := hd
  exact Go.pure kk fun T hT hx hb0 tgt hr => XS.idiv hT hx rfl (hb hb0 hd) rfl hy (by rw [hv]; exact hr)
theorem go_ineg (hd : Dec bytes pc (.ineg) 1 n) (hv : -x = v) (kk : Go l Z a0 EL R own bytes ml ret nm S0 Q K kc ks S h (mkF K.m n ls (.int v :: st))) : Go l Z a0 EL R own bytes ml ret nm S0 Q K kc ks S h (mkF K.m pc ls (.int x :: st)) := by
  obtain ⟨hd, rfl⟩ := hd
  exact Go.pure kk fun T hT hx hb0 tgt hr => XS.ineg hT hx rfl (hb hb0 hd) rfl (by rw [hv]; exact hr)
theorem go_i2c (hd : Dec bytes pc (.i2c) 1 n) (hv : x.toUInt32.toUInt16.toUInt32.toInt32 = v) (kk : Go l Z a0 EL R own bytes ml ret nm S0 Q K kc ks S h (mkF K.m n ls (.int v :: st))) : Go l Z a0 EL R own bytes ml ret nm S0 Q K kc ks S h (mkF K.m pc ls (.int x :: st)) := by
  obtain ⟨hd, rfl⟩ := hd
  exact Go.pure kk fun T hT hx hb0 tgt hr => XT.i2c hT hx rfl (hb hb0 hd) rfl (by rw [hv]; exact hr)
theorem go_i2b (hd : Dec bytes pc (.i2b) 1 n) (hv : x.toInt8.toInt32 = v) (kk : Go l Z a0 EL R own bytes ml ret nm S0 Q K kc ks S h (mkF K.m n ls (.int v :: st))) : Go l Z a0 EL R own bytes ml ret nm S0 Q K kc ks S h (mkF K.m pc ls (.int x :: st)) := by
  obtain ⟨hd, rfl⟩ := hd
  exact Go.pure kk fun T hT hx hb0 tgt hr => XT.i2b hT hx rfl (hb hb0 hd) rfl (by rw [hv]; exact hr)
theorem go_i2s (hd : Dec bytes pc (.i2s) 1 n) (hv : x.toInt16.toInt32 = v) (kk : Go l Z a0 EL R own bytes ml ret nm S0 Q K kc ks S h (mkF K.m n ls (.int v :: st))) : Go l Z a0 EL R own bytes ml ret nm S0 Q K kc ks S h (mkF K.m pc ls (.int x :: st)) := by
  obtain ⟨hd, rfl⟩ := hd
  exact Go.pure kk fun T hT hx hb0 tgt hr => XT.i2s hT hx rfl (hb hb0 hd) rfl (by rw [hv]; exact hr)
theorem go_i2l {z : Int64} (hd : Dec bytes pc (.i2l) 1 n) (hv : x.toInt64 = z) (kk : Go l Z a0 EL R own bytes ml ret nm S0 Q K kc ks S h (mkF K.m n ls (.long z :: st))) : Go l Z a0 EL R own bytes ml ret nm S0 Q K kc ks S h (mkF K.m pc ls (.int x :: st)) := by
  obtain ⟨hd, rfl⟩ := hd
  exact Go.pure kk fun T hT hx hb0 tgt hr => XT.i2l hT hx rfl (hb hb0 hd) rfl (by rw [hv]; exact hr)
theorem go_l2i {z : Int64} (hd : Dec bytes pc (.l2i) 1 n) (hv : z.toInt32 = v) (kk : Go l Z a0 EL R own bytes ml ret nm S0 Q K kc ks S h (mkF K.m n ls (.int v :: st))) : Go l Z a0 EL R own bytes ml ret nm S0 Q K kc ks S h (mkF K.m pc ls (.long z :: st)) := by
  obtain ⟨hd, rfl⟩ := hd
  exact Go.pure kk fun T hT hx hb0 tgt hr => XT.l2i hT hx rfl (hb hb0 hd) rfl (by rw [hv]; exact hr)
theorem go_ladd {z1 z2 z : Int64} (hd : Dec bytes pc (.ladd) 1 n) (hv : z1 + z2 = z) (kk : Go l Z a0 EL R own bytes ml ret nm S0 Q K kc ks S h (mkF K.m n ls (.long z :: st))) : Go l Z a0 EL R own bytes ml ret nm S0 Q K kc ks S h (mkF K.m pc ls (.long z2 :: .long z1 :: st)) := by
  obtain ⟨hd, rfl⟩ := hd
  exact Go.pure kk fun T hT hx hb0 tgt hr => XT.ladd hT hx rfl (hb hb0 hd) rfl (by rw [hv]; exact hr)
theorem go_lcmp {z1 z2 : Int64} (hd : Dec bytes pc (.lcmp) 1 n) (hv : XT.cmpL z1 z2 = v) (kk : Go l Z a0 EL R own bytes ml ret nm S0 Q K kc ks S h (mkF K.m n ls (.int v :: st))) : Go l Z a0 EL R own bytes ml ret nm S0 Q K kc ks S h (mkF K.m pc ls (.long z2 :: .long z1 :: st)) := by
  obtain ⟨hd, rfl⟩ := hd
  exact Go.pure kk fun T hT hx hb0 tgt hr => XT.lcmp hT hx rfl (hb hb0 hd) rfl (by rw [hv]; exact hr)
theorem go_dup (hd : Dec bytes pc (.dup) 1 n) (hc : u.category = 1) (kk : Go l Z a0 EL R own bytes ml ret nm S0 Q K kc ks S h (mkF K.m n ls (u :: u :: st))) : Go l Z a0 EL R own bytes ml ret nm S0 Q K kc ks S h (mkF K.m pc ls (u :: st)) := by
  obtain ⟨hd, rfl⟩ := hd
  exact Go.pure kk fun T hT hx hb0 tgt hr => XS.dup hT hx rfl (hb hb0 hd) rfl hc hr
theorem go_pop (hd : Dec bytes pc (.pop) 1 n) (hc : u.category = 1) (kk : Go l Z a0 EL R own bytes ml ret nm S0 Q K kc ks S h (mkF K.m n ls (st))) : Go l Z a0 EL R own bytes ml ret nm S0 Q K kc ks S h (mkF K.m pc ls (u :: st)) := by
  obtain ⟨hd, rfl⟩ := hd
  exact Go.pure kk fun T hT hx hb0 tgt hr => XT.pop hT hx rfl (hb hb0 hd) rfl hc hr
theorem go_dupX1 (hd : Dec bytes pc (.dup_x1) 1 n) (hc : u.category = 1) (hc' : w.category = 1) (kk : Go l Z a0 EL R own bytes ml ret nm S0 Q K kc ks S h (mkF K.m n ls (u :: w :: u :: st))) : Go l Z a0 EL R own bytes ml ret nm S0 Q K kc ks S h (mkF K.m pc ls (u :: w :: st)) := by
  obtain ⟨hd, rfl⟩ := hd
  exact Go.pure kk fun T hT hx hb0 tgt hr => XT.dupX1 hT hx rfl (hb hb0 hd) rfl hc hc' hr
theorem go_dup2 (hd : Dec bytes pc (.dup2) 1 n) (hc : u.category = 1) (hc' : w.category = 1) (kk : Go l Z a0 EL R own bytes ml ret nm S0 Q K kc ks S h (mkF K.m n ls (u :: w :: u :: w :: st))) : Go l Z a0 EL R own bytes ml ret nm S0 Q K kc ks S h (mkF K.m pc ls (u :: w :: st)) := by
  obtain ⟨hd, rfl⟩ := hd
  exact Go.pure kk fun T hT hx hb0 tgt hr => XT.dup2 hT hx rfl (hb hb0 hd) rfl hc hc' hr
theorem go_istoreN {k : Fin 4} (hd : Dec bytes pc (.istore_n k) 1 n) (hl : storeLocals ls k.val (.int x) = some l') (kk : Go l Z a0 EL R own bytes ml ret nm S0 Q K kc ks S h (mkF K.m n l' (st))) : Go l Z a0 EL R own bytes ml ret nm S0 Q K kc ks S h (mkF K.m pc ls (.int x :: st)) := by
  obtain ⟨hd, rfl⟩ := hd
  exact Go.pure kk fun T hT hx hb0 tgt hr => XS.istoreN hT hx rfl (hb hb0 hd) rfl hl hr
theorem go_istore {k : Nat} (hd : Dec bytes pc (.istore k) 2 n) (hl : storeLocals ls k (.int x) = some l') (kk : Go l Z a0 EL R own bytes ml ret nm S0 Q K kc ks S h (mkF K.m n l' (st))) : Go l Z a0 EL R own bytes ml ret nm S0 Q K kc ks S h (mkF K.m pc ls (.int x :: st)) := by
  obtain ⟨hd, rfl⟩ := hd
  exact Go.pure kk fun T hT hx hb0 tgt hr => XS.istore hT hx rfl (hb hb0 hd) rfl hl hr
theorem go_astoreN {k : Fin 4} (hd : Dec bytes pc (.astore_n k) 1 n) (hv : u.isRef = true) (hl : storeLocals ls k.val u = some l') (kk : Go l Z a0 EL R own bytes ml ret nm S0 Q K kc ks S h (mkF K.m n l' (st))) : Go l Z a0 EL R own bytes ml ret nm S0 Q K kc ks S h (mkF K.m pc ls (u :: st)) := by
  obtain ⟨hd, rfl⟩ := hd
  exact Go.pure kk fun T hT hx hb0 tgt hr => XS.astoreN hT hx rfl (hb hb0 hd) rfl hv hl hr
theorem go_astore {k : Nat} (hd : Dec bytes pc (.astore k) 2 n) (hv : u.isRef = true) (hl : storeLocals ls k u = some l') (kk : Go l Z a0 EL R own bytes ml ret nm S0 Q K kc ks S h (mkF K.m n l' (st))) : Go l Z a0 EL R own bytes ml ret nm S0 Q K kc ks S h (mkF K.m pc ls (u :: st)) := by
  obtain ⟨hd, rfl⟩ := hd
  exact Go.pure kk fun T hT hx hb0 tgt hr => XS.astore hT hx rfl (hb hb0 hd) rfl hv hl hr
theorem go_lstoreN {k : Fin 4} {z : Int64} (hd : Dec bytes pc (.lstore_n k) 1 n) (hl : storeLocals ls k.val (.long z) = some l') (kk : Go l Z a0 EL R own bytes ml ret nm S0 Q K kc ks S h (mkF K.m n l' (st))) : Go l Z a0 EL R own bytes ml ret nm S0 Q K kc ks S h (mkF K.m pc ls (.long z :: st)) := by
  obtain ⟨hd, rfl⟩ := hd
  exact Go.pure kk fun T hT hx hb0 tgt hr => XT.lstoreN hT hx rfl (hb hb0 hd) rfl hl hr
theorem go_lstore {k : Nat} {z : Int64} (hd : Dec bytes pc (.lstore k) 2 n) (hl : storeLocals ls k (.long z) = some l') (kk : Go l Z a0 EL R own bytes ml ret nm S0 Q K kc ks S h (mkF K.m n l' (st))) : Go l Z a0 EL R own bytes ml ret nm S0 Q K kc ks S h (mkF K.m pc ls (.long z :: st)) := by
  obtain ⟨hd, rfl⟩ := hd
  exact Go.pure kk fun T hT hx hb0 tgt hr => XT.lstore hT hx rfl (hb hb0 hd) rfl hl hr
theorem go_iinc {k : Nat} {i : Int} (hd : Dec bytes pc (.iinc k i) 3 n) (hl : ls[k]? = some (.val (.int x))) (hv : x + Int32.ofInt i = v) (hl' : storeLocals ls k (.int v) = some l') (kk : Go l Z a0 EL R own bytes ml ret nm S0 Q K kc ks S h (mkF K.m n l' (st))) : Go l Z a0 EL R own bytes ml ret nm S0 Q K kc ks S h (mkF K.m pc ls (st)) := by
  obtain ⟨hd, rfl⟩ := hd
  exact Go.pure kk fun T hT hx hb0 tgt hr => XT.iincV hT hx rfl _ (hb hb0 hd) rfl hl (by rw [hv]; exact hl') hr
theorem go_ifeq {o : Int} (hd : Brn bytes pc (.ifCond .eq o) o n t) (yes : x = 0 → Go l Z a0 EL R own bytes ml ret nm S0 Q K kc ks S h (mkF K.m t ls st)) (no : ¬ (x = 0) → Go l Z a0 EL R own bytes ml ret nm S0 Q K kc ks S h (mkF K.m n ls st)) : Go l Z a0 EL R own bytes ml ret nm S0 Q K kc ks S h (mkF K.m pc ls (.int x :: st)) := by
  obtain ⟨hd, rfl, ho, hp⟩ := hd
  by_cases c : x = 0
  · exact Go.pure (yes c) fun T hT hx hb0 tgt hr => XS.ifYes hT hx rfl (pc0 := pc) (pc' := t) rfl (hb hb0 hd) rfl (XT.i0_eq_t c) ho hp hr
  · exact Go.pure (no (c)) fun T hT hx hb0 tgt hr => XS.ifNo hT hx rfl (hb hb0 hd) rfl (XT.i0_eq_f c) hr
theorem go_ifne {o : Int} (hd : Brn bytes pc (.ifCond .ne o) o n t) (yes : ¬ (x = 0) → Go l Z a0 EL R own bytes ml ret nm S0 Q K kc ks S h (mkF K.m t ls st)) (no : x = 0 → Go l Z a0 EL R own bytes ml ret nm S0 Q K kc ks S h (mkF K.m n ls st)) : Go l Z a0 EL R own bytes ml ret nm S0 Q K kc ks S h (mkF K.m pc ls (.int x :: st)) := by
  obtain ⟨hd, rfl, ho, hp⟩ := hd
  by_cases c : ¬ (x = 0)
  · exact Go.pure (yes c) fun T hT hx hb0 tgt hr => XS.ifYes hT hx rfl (pc0 := pc) (pc' := t) rfl (hb hb0 hd) rfl (XT.i0_ne_t c) ho hp hr
  · exact Go.pure (no (Decidable.not_not.mp c)) fun T hT hx hb0 tgt hr => XS.ifNo hT hx rfl (hb hb0 hd) rfl (XT.i0_ne_f (Decidable.not_not.mp c)) hr
theorem go_iflt {o : Int} (hd : Brn bytes pc (.ifCond .lt o) o n t) (yes : x < 0 → Go l Z a0 EL R own bytes ml ret nm S0 Q K kc ks S h (mkF K.m t ls st)) (no : ¬ (x < 0) → Go l Z a0 EL R own bytes ml ret nm S0 Q K kc ks S h (mkF K.m n ls st)) : Go l Z a0 EL R own bytes ml ret nm S0 Q K kc ks S h (mkF K.m pc ls (.int x :: st)) := by
  obtain ⟨hd, rfl, ho, hp⟩ := hd
  by_cases c : x < 0
  · exact Go.pure (yes c) fun T hT hx hb0 tgt hr => XS.ifYes hT hx rfl (pc0 := pc) (pc' := t) rfl (hb hb0 hd) rfl (XT.i0_lt_t c) ho hp hr
  · exact Go.pure (no (c)) fun T hT hx hb0 tgt hr => XS.ifNo hT hx rfl (hb hb0 hd) rfl (XT.i0_lt_f c) hr
theorem go_ifge {o : Int} (hd : Brn bytes pc (.ifCond .ge o) o n t) (yes : ¬ (x < 0) → Go l Z a0 EL R own bytes ml ret nm S0 Q K kc ks S h (mkF K.m t ls st)) (no : x < 0 → Go l Z a0 EL R own bytes ml ret nm S0 Q K kc ks S h (mkF K.m n ls st)) : Go l Z a0 EL R own bytes ml ret nm S0 Q K kc ks S h (mkF K.m pc ls (.int x :: st)) := by
  obtain ⟨hd, rfl, ho, hp⟩ := hd
  by_cases c : ¬ (x < 0)
  · exact Go.pure (yes c) fun T hT hx hb0 tgt hr => XS.ifYes hT hx rfl (pc0 := pc) (pc' := t) rfl (hb hb0 hd) rfl (XT.i0_ge_t c) ho hp hr
  · exact Go.pure (no (Decidable.not_not.mp c)) fun T hT hx hb0 tgt hr => XS.ifNo hT hx rfl (hb hb0 hd) rfl (XT.i0_ge_f (Decidable.not_not.mp c)) hr
theorem go_ifgt {o : Int} (hd : Brn bytes pc (.ifCond .gt o) o n t) (yes : 0 < x → Go l Z a0 EL R own bytes ml ret nm S0 Q K kc ks S h (mkF K.m t ls st)) (no : ¬ (0 < x) → Go l Z a0 EL R own bytes ml ret nm S0 Q K kc ks S h (mkF K.m n ls st)) : Go l Z a0 EL R own bytes ml ret nm S0 Q K kc ks S h (mkF K.m pc ls (.int x :: st)) := by
  obtain ⟨hd, rfl, ho, hp⟩ := hd
  by_cases c : 0 < x
  · exact Go.pure (yes c) fun T hT hx hb0 tgt hr => XS.ifYes hT hx rfl (pc0 := pc) (pc' := t) rfl (hb hb0 hd) rfl (XT.i0_gt_t c) ho hp hr
  · exact Go.pure (no (c)) fun T hT hx hb0 tgt hr => XS.ifNo hT hx rfl (hb hb0 hd) rfl (XT.i0_gt_f c) hr
theorem go_ifle {o : Int} (hd : Brn bytes pc (.ifCond .le o) o n t) (yes : ¬ (0 < x) → Go l Z a0 EL R own bytes ml ret nm S0 Q K kc ks S h (mkF K.m t ls st)) (no : 0 < x → Go l Z a0 EL R own bytes ml ret nm S0 Q K kc ks S h (mkF K.m n ls st)) : Go l Z a0 EL R own bytes ml ret nm S0 Q K kc ks S h (mkF K.m pc ls (.int x :: st)) := by
  obtain ⟨hd, rfl, ho, hp⟩ := hd
  by_cases c : ¬ (0 < x)
  · exact Go.pure (yes c) fun T hT hx hb0 tgt hr => XS.ifYes hT hx rfl (pc0 := pc) (pc' := t) rfl (hb hb0 hd) rfl (XT.i0_le_t c) ho hp hr
  · exact Go.pure (no (Decidable.not_not.mp c)) fun T hT hx hb0 tgt hr => XS.ifNo hT hx rfl (hb hb0 hd) rfl (XT.i0_le_f (Decidable.not_not.mp c)) hr
theorem go_icmpeq {o : Int} (hd : Brn bytes pc (.if_icmp .eq o) o n t) (yes : x = y → Go l Z a0 EL R own bytes ml ret nm S0 Q K kc ks S h (mkF K.m t ls st)) (no : ¬ (x = y) → Go l Z a0 EL R own bytes ml ret nm S0 Q K kc ks S h (mkF K.m n ls st)) : Go l Z a0 EL R own bytes ml ret nm S0 Q K kc ks S h (mkF K.m pc ls (.int y :: .int x :: st)) := by
  obtain ⟨hd, rfl, ho, hp⟩ := hd
  by_cases c : x = y
  · exact Go.pure (yes c) fun T hT hx hb0 tgt hr => XS.icmpYes hT hx rfl (pc0 := pc) (pc' := t) rfl (hb hb0 hd) rfl (XT.ii_eq_t c) ho hp hr
  · exact Go.pure (no (c)) fun T hT hx hb0 tgt hr => XS.icmpNo hT hx rfl (hb hb0 hd) rfl (XT.ii_eq_f c) hr
theorem go_icmpne {o : Int} (hd : Brn bytes pc (.if_icmp .ne o) o n t) (yes : ¬ (x = y) → Go l Z a0 EL R own bytes ml ret nm S0 Q K kc ks S h (mkF K.m t ls st)) (no : x = y → Go l Z a0 EL R own bytes ml ret nm S0 Q K kc ks S h (mkF K.m n ls st)) : Go l Z a0 EL R own bytes ml ret nm S0 Q K kc ks S h (mkF K.m pc ls (.int y :: .int x :: st)) := by
  obtain ⟨hd, rfl, ho, hp⟩ := hd
  by_cases c : ¬ (x = y)
  · exact Go.pure (yes c) fun T hT hx hb0 tgt hr => XS.icmpYes hT hx rfl (pc0 := pc) (pc' := t) rfl (hb hb0 hd) rfl (XT.ii_ne_t c) ho hp hr
  · exact Go.pure (no (Decidable.not_not.mp c)) fun T hT hx hb0 tgt hr => XS.icmpNo hT hx rfl (hb hb0 hd) rfl (XT.ii_ne_f (Decidable.not_not.mp c)) hr
theorem go_icmplt {o : Int} (hd : Brn bytes pc (.if_icmp .lt o) o n t) (yes : x < y → Go l Z a0 EL R own bytes ml ret nm S0 Q K kc ks S h (mkF K.m t ls st)) (no : ¬ (x < y) → Go l Z a0 EL R own bytes ml ret nm S0 Q K kc ks S h (mkF K.m n ls st)) : Go l Z a0 EL R own bytes ml ret nm S0 Q K kc ks S h (mkF K.m pc ls (.int y :: .int x :: st)) := by
  obtain ⟨hd, rfl, ho, hp⟩ := hd
  by_cases c : x < y
  · exact Go.pure (yes c) fun T hT hx hb0 tgt hr => XS.icmpYes hT hx rfl (pc0 := pc) (pc' := t) rfl (hb hb0 hd) rfl (XT.ii_lt_t c) ho hp hr
  · exact Go.pure (no (c)) fun T hT hx hb0 tgt hr => XS.icmpNo hT hx rfl (hb hb0 hd) rfl (XT.ii_lt_f c) hr
theorem go_icmpge {o : Int} (hd : Brn bytes pc (.if_icmp .ge o) o n t) (yes : ¬ (x < y) → Go l Z a0 EL R own bytes ml ret nm S0 Q K kc ks S h (mkF K.m t ls st)) (no : x < y → Go l Z a0 EL R own bytes ml ret nm S0 Q K kc ks S h (mkF K.m n ls st)) : Go l Z a0 EL R own bytes ml ret nm S0 Q K kc ks S h (mkF K.m pc ls (.int y :: .int x :: st)) := by
  obtain ⟨hd, rfl, ho, hp⟩ := hd
  by_cases c : ¬ (x < y)
  · exact Go.pure (yes c) fun T hT hx hb0 tgt hr => XS.icmpYes hT hx rfl (pc0 := pc) (pc' := t) rfl (hb hb0 hd) rfl (XT.ii_ge_t c) ho hp hr
  · exact Go.pure (no (Decidable.not_not.mp c)) fun T hT hx hb0 tgt hr => XS.icmpNo hT hx rfl (hb hb0 hd) rfl (XT.ii_ge_f (Decidable.not_not.mp c)) hr
theorem go_icmpgt {o : Int} (hd : Brn bytes pc (.if_icmp .gt o) o n t) (yes : y < x → Go l Z a0 EL R own bytes ml ret nm S0 Q K kc ks S h (mkF K.m t ls st)) (no : ¬ (y < x) → Go l Z a0 EL R own bytes ml ret nm S0 Q K kc ks S h (mkF K.m n ls st)) : Go l Z a0 EL R own bytes ml ret nm S0 Q K kc ks S h (mkF K.m pc ls (.int y :: .int x :: st)) := by
  obtain ⟨hd, rfl, ho, hp⟩ := hd
  by_cases c : y < x
  · exact Go.pure (yes c) fun T hT hx hb0 tgt hr => XS.icmpYes hT hx rfl (pc0 := pc) (pc' := t) rfl (hb hb0 hd) rfl (XT.ii_gt_t c) ho hp hr
  · exact Go.pure (no (c)) fun T hT hx hb0 tgt hr => XS.icmpNo hT hx rfl (hb hb0 hd) rfl (XT.ii_gt_f c) hr
theorem go_icmple {o : Int} (hd : Brn bytes pc (.if_icmp .le o) o n t) (yes : ¬ (y < x) → Go l Z a0 EL R own bytes ml ret nm S0 Q K kc ks S h (mkF K.m t ls st)) (no : y < x → Go l Z a0 EL R own bytes ml ret nm S0 Q K kc ks S h (mkF K.m n ls st)) : Go l Z a0 EL R own bytes ml ret nm S0 Q K kc ks S h (mkF K.m pc ls (.int y :: .int x :: st)) := by
  obtain ⟨hd, rfl, ho, hp⟩ := hd
  by_cases c : ¬ (y < x)
  · exact Go.pure (yes c) fun T hT hx hb0 tgt hr => XS.icmpYes hT hx rfl (pc0 := pc) (pc' := t) rfl (hb hb0 hd) rfl (XT.ii_le_t c) ho hp hr
  · exact Go.pure (no (Decidable.not_not.mp c)) fun T hT hx hb0 tgt hr => XS.icmpNo hT hx rfl (hb hb0 hd) rfl (XT.ii_le_f (Decidable.not_not.mp c)) hr
theorem go_goto {o : Int} (hd : Brn bytes pc (.goto o) o n t) (kk : Go l Z a0 EL R own bytes ml ret nm S0 Q K kc ks S h (mkF K.m t ls st)) : Go l Z a0 EL R own bytes ml ret nm S0 Q K kc ks S h (mkF K.m pc ls st) := by
  obtain ⟨hd, rfl, ho, hp⟩ := hd
  exact Go.pure kk fun T hT hx hb0 tgt hr => XS.goto hT hx rfl (pc0 := pc) (pc' := t) rfl (hb hb0 hd) ho hp hr
theorem go_ifnullY {o : Int} (hd : Brn bytes pc (.ifnull o) o n t) (kk : Go l Z a0 EL R own bytes ml ret nm S0 Q K kc ks S h (mkF K.m t ls st)) : Go l Z a0 EL R own bytes ml ret nm S0 Q K kc ks S h (mkF K.m pc ls (.null :: st)) := by
  obtain ⟨hd, rfl, ho, hp⟩ := hd
  exact Go.pure kk fun T hT hx hb0 tgt hr => XS.ifnullYes hT hx rfl (pc0 := pc) (pc' := t) rfl (hb hb0 hd) rfl ho hp hr
theorem go_ifnullN {o : Int} {b : Addr} (hd : Brn bytes pc (.ifnull o) o n t) (kk : Go l Z a0 EL R own bytes ml ret nm S0 Q K kc ks S h (mkF K.m n ls st)) : Go l Z a0 EL R own bytes ml ret nm S0 Q K kc ks S h (mkF K.m pc ls (.ref b :: st)) := by
  obtain ⟨hd, rfl, ho, hp⟩ := hd
  exact Go.pure kk fun T hT hx hb0 tgt hr => XS.ifnullNo hT hx rfl (hb hb0 hd) rfl hr
theorem go_ifnonnullY {o : Int} {b : Addr} (hd : Brn bytes pc (.ifnonnull o) o n t) (kk : Go l Z a0 EL R own bytes ml ret nm S0 Q K kc ks S h (mkF K.m t ls st)) : Go l Z a0 EL R own bytes ml ret nm S0 Q K kc ks S h (mkF K.m pc ls (.ref b :: st)) := by
  obtain ⟨hd, rfl, ho, hp⟩ := hd
  exact Go.pure kk fun T hT hx hb0 tgt hr => XT.ifnonnullYes hT hx rfl (pc0 := pc) (pc' := t) rfl (hb hb0 hd) rfl ho hp hr
theorem go_ifnonnullN {o : Int} (hd : Brn bytes pc (.ifnonnull o) o n t) (kk : Go l Z a0 EL R own bytes ml ret nm S0 Q K kc ks S h (mkF K.m n ls st)) : Go l Z a0 EL R own bytes ml ret nm S0 Q K kc ks S h (mkF K.m pc ls (.null :: st)) := by
  obtain ⟨hd, rfl, ho, hp⟩ := hd
  exact Go.pure kk fun T hT hx hb0 tgt hr => XT.ifnonnullNo hT hx rfl (hb hb0 hd) rfl hr
theorem go_acmpeq {o : Int} (hd : Brn bytes pc (.if_acmp .eq o) o n t) (h1 : u.isRef = true) (h2 : w.isRef = true) (yes : u = w → Go l Z a0 EL R own bytes ml ret nm S0 Q K kc ks S h (mkF K.m t ls st)) (no : ¬ u = w → Go l Z a0 EL R own bytes ml ret nm S0 Q K kc ks S h (mkF K.m n ls st)) : Go l Z a0 EL R own bytes ml ret nm S0 Q K kc ks S h (mkF K.m pc ls (w :: u :: st)) := by
  obtain ⟨hd, rfl, ho, hp⟩ := hd
  by_cases c : u = w
  · exact Go.pure (yes c) fun T hT hx hb0 tgt hr => XT.acmpYes hT hx rfl (pc0 := pc) (pc' := t) rfl (hb hb0 hd) rfl h1 h2 (XT.aa_eq_t c) ho hp hr
  · exact Go.pure (no c) fun T hT hx hb0 tgt hr => XT.acmpNo hT hx rfl (hb hb0 hd) rfl h1 h2 (XT.aa_eq_f c) hr
theorem go_acmpne {o : Int} (hd : Brn bytes pc (.if_acmp .ne o) o n t) (h1 : u.isRef = true) (h2 : w.isRef = true) (yes : ¬ u = w → Go l Z a0 EL R own bytes ml ret nm S0 Q K kc ks S h (mkF K.m t ls st)) (no : u = w → Go l Z a0 EL R own bytes ml ret nm S0 Q K kc ks S h (mkF K.m n ls st)) : Go l Z a0 EL R own bytes ml ret nm S0 Q K kc ks S h (mkF K.m pc ls (w :: u :: st)) := by
  obtain ⟨hd, rfl, ho, hp⟩ := hd
  by_cases c : u = w
  · exact Go.pure (no c) fun T hT hx hb0 tgt hr => XT.acmpNo hT hx rfl (hb hb0 hd) rfl h1 h2 (XT.aa_ne_f c) hr
  · exact Go.pure (yes c) fun T hT hx hb0 tgt hr => XT.acmpYes hT hx rfl (pc0 := pc) (pc' := t) rfl (hb hb0 hd) rfl h1 h2 (XT.aa_ne_t c) ho hp hr
theorem cat_int (x : Int32) : (Value.int x).category = 1 := rfl
theorem cat_ref (x : Addr) : (Value.ref x).category = 1 := rfl
theorem cat_null : Value.null.category = 1 := rfl
theorem cat_long (x : Int64) : (Value.long x).category = 2 := rfl
theorem go_istoreS {k : Nat} {o : Slot} (hd : Dec bytes pc (.istore k) 2 n) (hold : ls[k]? = some o) (ho : o = .unset ∨ ∃ w, o = .val w ∧ w.category = 1) (hl : ls.setIfInBounds k (.val (.int x)) = l') (kk : Go l Z a0 EL R own bytes ml ret nm S0 Q K kc ks S h (mkF K.m n l' st)) : Go l Z a0 EL R own bytes ml ret nm S0 Q K kc ks S h (mkF K.m pc ls (.int x :: st)) :=
  go_istore hd ((XS.store1 hold ho rfl).trans (congrArg some hl)) kk
theorem go_istoreNS {k : Fin 4} {o : Slot} (hd : Dec bytes pc (.istore_n k) 1 n) (hold : ls[k.val]? = some o) (ho : o = .unset ∨ ∃ w, o = .val w ∧ w.category = 1) (hl : ls.setIfInBounds k.val (.val (.int x)) = l') (kk : Go l Z a0 EL R own bytes ml ret nm S0 Q K kc ks S h (mkF K.m n l' st)) : Go l Z a0 EL R own bytes ml ret nm S0 Q K kc ks S h (mkF K.m pc ls (.int x :: st)) :=
  go_istoreN hd ((XS.store1 hold ho rfl).trans (congrArg some hl)) kk
theorem go_astoreS {k : Nat} {o : Slot} (hd : Dec bytes pc (.astore k) 2 n) (hold : ls[k]? = some o) (hv : u.isRef = true) (ho : o = .unset ∨ ∃ w, o = .val w ∧ w.category = 1) (hl : ls.setIfInBounds k (.val u) = l') (kk : Go l Z a0 EL R own bytes ml ret nm S0 Q K kc ks S h (mkF K.m n l' st)) : Go l Z a0 EL R own bytes ml ret nm S0 Q K kc ks S h (mkF K.m pc ls (u :: st)) :=
  go_astore hd hv ((XS.store1 hold ho (XT.cat1 hv)).trans (congrArg some hl)) kk
theorem go_astoreNS {k : Fin 4} {o : Slot} (hd : Dec bytes pc (.astore_n k) 1 n) (hold : ls[k.val]? = some o) (hv : u.isRef = true) (ho : o = .unset ∨ ∃ w, o = .val w ∧ w.category = 1) (hl : ls.setIfInBounds k.val (.val u) = l') (kk : Go l Z a0 EL R own bytes ml ret nm S0 Q K kc ks S h (mkF K.m n l' st)) : Go l Z a0 EL R own bytes ml ret nm S0 Q K kc ks S h (mkF K.m pc ls (u :: st)) :=
  go_astoreN hd hv ((XS.store1 hold ho (XT.cat1 hv)).trans (congrArg some hl)) kk
theorem fin_of {vm0 : Vm} {locs : List Loc} {cells slots : Nat} {T : State} {fs : List Frame} {v : Option Value} (hEL : EW Z a0 EL)
    (X : Stand K.p l K.e R (K.s.setVm vm0) K.m K.args K.below K.meth K.c T locs cells slots) (e4 : Z.Warmed39 vm0) (e6 : CHr Z EL K.s.vm K.s.heap vm0 T.heap) (e7 : Fr Z.heap.size locs) (e8 : cells + kc ≤ R.cells) (e9 : slots + ks ≤ R.slots) (e10 : Sf Z EL vm0 T.heap S) (e11 : Ext Z.heap T.heap) (e12 : ∀ x, S0 x → S x)
    (hW : ReturnedEndW K.s (.returned v) (T.setFrames fs) locs cells slots) (q : Q S v T.heap) : FinG Z EL R S0 Q K.s (T.setFrames fs) (.returned v) :=
  have hC : CHr Z EL vm0 T.heap T.vm T.heap := CHv.at X e4 hEL e6.1
  ⟨v, locs, rfl, ⟨⟨S, e12, e10.step hC, e11, q⟩, e7⟩, e6.trans hC, hW.1, hW.2.1, hW.2.2.1, hW.2.2.2.mono (by omega) (by omega)⟩
theorem go_return (hd : Dec bytes pc .return_ 1 n) (hret : ret = none) (q : Q S none h) : Go l Z a0 EL R own bytes ml ret nm S0 Q K kc ks S h (mkF K.m pc ls []) := by
  intro hK T hT
  obtain ⟨hd, -⟩ := hd
  obtain ⟨vm0, k0, locs, cells, slots, X, e1, e2, e3, e4, e5, e6, e7, e8, e9, e10, e11, e12⟩ := hT
  subst e1
  have hr' : K.meth.sig.returnType = none := hK.2.2.2.1.trans hret
  obtain ⟨fs, hr, hrun, hended, hW⟩ := X.leaveW (v := none) e2 e3 (fun _ => rfl) hK.2.2.2.2.2.1
  exact ⟨_, _, X.returnOut hK.1 hr' (hb hK.2.1 hd) hr, hrun, hended, fin_of hK.2.2.2.2.2.2 X e4 e6 e7 e8 e9 e10 e11 e12 hW q⟩
theorem go_ireturn {ty : FieldType} (hd : Dec bytes pc .ireturn 1 n) (hret : ret = some ty) (ht : ty = .int ∨ ty = .boolean ∨ ty = .byte ∨ ty = .char ∨ ty = .short) (hv : narrow ty (.int x) = .int v) (q : Q S (some (.int v)) h) : Go l Z a0 EL R own bytes ml ret nm S0 Q K kc ks S h (mkF K.m pc ls (.int x :: st)) := by
  intro hK T hT
  obtain ⟨hd, -⟩ := hd
  obtain ⟨vm0, k0, locs, cells, slots, X, e1, e2, e3, e4, e5, e6, e7, e8, e9, e10, e11, e12⟩ := hT
  subst e1
  have hr' : K.meth.sig.returnType = some ty := hK.2.2.2.1.trans hret
  obtain ⟨fs, hr, hrun, hended, hW⟩ := X.leaveW (v := some (.int v)) e2 e3 (fun q => by rw [hr'] at q; cases q) hK.2.2.2.2.2.1
  refine ⟨_, _, ?_, hrun, hended, fin_of hK.2.2.2.2.2.2 X e4 e6 e7 e8 e9 e10 e11 e12 hW q⟩
  have hm' := X.method'
  have hx := hK.1
  have hd' := hb hK.2.1 hd
  show Steps K.p.tables K.e K.below (T.setTop { method := K.m, pc := pc, locals := ls, stack := _ :: st, locked := none }) _
  rcases ht with rfl | rfl | rfl | rfl | rfl
  all_goals
    jvm_step X.here [X.here.top, hx, hd', hm', hr', hv]
    first | (intro acts; rw [hr _ acts rfl rfl rfl]) | rw [hr _ _ rfl rfl rfl]
    exact Steps.refl _
theorem go_areturn {ty : FieldType} (hd : Dec bytes pc .areturn 1 n) (hret : ret = some ty) (ht : ty.isReference = true) (hu : u.isRef = true) (q : Q S (some u) h) : Go l Z a0 EL R own bytes ml ret nm S0 Q K kc ks S h (mkF K.m pc ls (u :: st)) := by
  intro hK T hT
  obtain ⟨hd, -⟩ := hd
  obtain ⟨vm0, k0, locs, cells, slots, X, e1, e2, e3, e4, e5, e6, e7, e8, e9, e10, e11, e12⟩ := hT
  subst e1
  have hr' : K.meth.sig.returnType = some ty := hK.2.2.2.1.trans hret
  obtain ⟨fs, hr, hrun, hended, hW⟩ := X.leaveW (v := some u) e2 e3 (fun q => by rw [hr'] at q; cases q) hK.2.2.2.2.2.1
  refine ⟨_, _, ?_, hrun, hended, fin_of hK.2.2.2.2.2.2 X e4 e6 e7 e8 e9 e10 e11 e12 hW q⟩
  have hm' := X.method'
  have hx := hK.1
  have hd' := hb hK.2.1 hd
  show Steps K.p.tables K.e K.below (T.setTop { method := K.m, pc := pc, locals := ls, stack := _ :: st, locked := none }) _
  rcases ref_cases hu with rfl | ⟨a, rfl⟩
  all_goals
    jvm_step X.here [X.here.top, hx, hd', hm', hr', Value.isRef, ht]
    first | (intro acts; rw [hr _ acts rfl rfl rfl]) | rw [hr _ _ rfl rfl rfl]
    exact Steps.refl _
theorem go_lreturn {z : Int64} (hd : Dec bytes pc .lreturn 1 n) (hret : ret = some .long) (q : Q S (some (.long z)) h) : Go l Z a0 EL R own bytes ml ret nm S0 Q K kc ks S h (mkF K.m pc ls (.long z :: st)) := by
  intro hK T hT
  obtain ⟨hd, -⟩ := hd
  obtain ⟨vm0, k0, locs, cells, slots, X, e1, e2, e3, e4, e5, e6, e7, e8, e9, e10, e11, e12⟩ := hT
  subst e1
  have hr' : K.meth.sig.returnType = some .long := hK.2.2.2.1.trans hret
  obtain ⟨fs, hr, hrun, hended, hW⟩ := X.leaveW (v := some (.long z)) e2 e3 (fun q => by rw [hr'] at q; cases q) hK.2.2.2.2.2.1
  refine ⟨_, _, ?_, hrun, hended, fin_of hK.2.2.2.2.2.2 X e4 e6 e7 e8 e9 e10 e11 e12 hW q⟩
  have hm' := X.method'
  have hx := hK.1
  have hd' := hb hK.2.1 hd
  have hv : narrow .long (.long z) = .long z := rfl
  show Steps K.p.tables K.e K.below (T.setTop { method := K.m, pc := pc, locals := ls, stack := _ :: st, locked := none }) _
  jvm_step X.here [X.here.top, hx, hd', hm', hr', hv]
  first | (intro acts; rw [hr _ acts rfl rfl rfl]) | rw [hr _ _ rfl rfl rfl]
  exact Steps.refl _
theorem go_getf {R0 O fn d : String} {idx : Nat} {a : Addr} (w1 : (Cond.fieldLink own idx R0 fn d).before a0 Z = true) (via : Via Z R0 O fn d) (F : Fld Z h a O fn d u) (hd : Dec bytes pc (.getfield idx) 3 n) (kk : Go l Z a0 EL R own bytes ml ret nm S0 Q K kc ks S h (mkF K.m n ls (u :: st))) : Go l Z a0 EL R own bytes ml ret nm S0 Q K kc ks S h (mkF K.m pc ls (.ref a :: st)) := by
  obtain ⟨hd, rfl⟩ := hd
  refine Go.calm kk fun vm0 T locs cells slots hK X hZ hown eT hE => ?_
  exact getF X hK.1 hZ hown (host := "") (Or.inl w1) via eT F (g := mkF K.m pc ls (.ref a :: st)) rfl rfl (hb hK.2.1 hd)
theorem go_getfN {R0 O fn d host : String} {idx : Nat} {a : Addr} (w1 : (Cond.fieldLinkNest own idx R0 fn d host).before a0 Z = true) (via : Via Z R0 O fn d) (F : Fld Z h a O fn d u) (hd : Dec bytes pc (.getfield idx) 3 n) (kk : Go l Z a0 EL R own bytes ml ret nm S0 Q K kc ks S h (mkF K.m n ls (u :: st))) : Go l Z a0 EL R own bytes ml ret nm S0 Q K kc ks S h (mkF K.m pc ls (.ref a :: st)) := by
  obtain ⟨hd, rfl⟩ := hd
  refine Go.calm kk fun vm0 T locs cells slots hK X hZ hown eT hE => ?_
  exact getF X hK.1 hZ hown (Or.inr w1) via eT F (g := mkF K.m pc ls (.ref a :: st)) rfl rfl (hb hK.2.1 hd)
theorem go_gets {R0 O fn d : String} {idx : Nat} (w1 : (Cond.fieldLink own idx R0 fn d).before a0 Z = true) (via : Via Z R0 O fn d) (F : Sta Z Z.heap O fn d u) (hd : Dec bytes pc (.getstatic idx) 3 n) (kk : Go l Z a0 EL R own bytes ml ret nm S0 Q K kc ks S h (mkF K.m n ls (u :: st))) : Go l Z a0 EL R own bytes ml ret nm S0 Q K kc ks S h (mkF K.m pc ls st) := by
  obtain ⟨hd, rfl⟩ := hd
  refine Go.calm kk fun vm0 T locs cells slots hK X hZ hown eT hE => ?_
  exact getS2 X hK.1 hZ hown (host := "") (Or.inl w1) via eT (F.ext hE) (g := mkF K.m pc ls st) rfl (hb hK.2.1 hd)
theorem go_cast {C : String} {idx : Nat} {a : Addr} (w1 : (Cond.classLink own idx C).before a0 Z = true) (I : Ins Z h a C true) (hd : Dec bytes pc (.checkcast idx) 3 n) (kk : Go l Z a0 EL R own bytes ml ret nm S0 Q K kc ks S h (mkF K.m n ls (.ref a :: st))) : Go l Z a0 EL R own bytes ml ret nm S0 Q K kc ks S h (mkF K.m pc ls (.ref a :: st)) := by
  obtain ⟨hd, rfl⟩ := hd
  refine Go.calm kk fun vm0 T locs cells slots hK X hZ hown eT hE => ?_
  exact castY X hK.1 hZ hown w1 eT I (g := mkF K.m pc ls (.ref a :: st)) rfl rfl (hb hK.2.1 hd)
theorem go_instY {C : String} {idx : Nat} {a : Addr} (w1 : (Cond.classLink own idx C).before a0 Z = true) (I : Ins Z h a C true) (hd : Dec bytes pc (.instanceof idx) 3 n) (kk : Go l Z a0 EL R own bytes ml ret nm S0 Q K kc ks S h (mkF K.m n ls (.int 1 :: st))) : Go l Z a0 EL R own bytes ml ret nm S0 Q K kc ks S h (mkF K.m pc ls (.ref a :: st)) := by
  obtain ⟨hd, rfl⟩ := hd
  refine Go.calm kk fun vm0 T locs cells slots hK X hZ hown eT hE => ?_
  exact instY X hK.1 hZ hown w1 eT I (g := mkF K.m pc ls (.ref a :: st)) rfl rfl (hb hK.2.1 hd)
theorem go_initO {idx : Nat} {a : Addr} (w1 : (Cond.methodLink own idx Lib.objectInit).before a0 Z = true) (w2 : (Cond.instanceMethod Lib.objectInit).before a0 Z = true) (w3 : (Cond.code Lib.objectInit ⟨#[0xb1]⟩ 1 none).before a0 Z = true) (hd : Dec bytes pc (.invokespecial idx) 3 n) (hsz : ls.size = ml) (hf : 1 ≤ R.frames) (hW : (st.map fun v => v.category).sum + 12 ≤ R.locals)
    (kk : Go l Z a0 EL R own bytes ml ret nm S0 Q K kc ks S h (mkF K.m n ls st)) : Go l Z a0 EL R own bytes ml ret nm S0 Q K kc ks S h (mkF K.m pc ls (.ref a :: st)) := by
  obtain ⟨hd, rfl⟩ := hd
  refine Go.calm kk fun vm0 T locs cells slots hK X hZ hown eT hE => ?_
  exact initO X hK.1 hZ hown w1 w2 w3 eT (g := mkF K.m pc ls (.ref a :: st)) rfl (hsz.trans hK.2.2.1.symm) rfl (hb hK.2.1 hd) hf (W := (st.map fun v => v.category).sum) (by show 2 * 0 + _ ≤ _; simp) hW
theorem go_new {C : String} {idx na : Nat} (w1 : (Cond.classLink own idx C).before a0 Z = true) (wi : (Cond.instantiable C na).before a0 Z = true) (wz : (Cond.initialized C).before a0 Z = true) (hd : Dec bytes pc (.new idx) 3 n)
    (kk : ∀ S' h' a, a = h.size → (∀ x, S x → S' x) → S' a → Ext h h' → a < h'.size → (Exa Z h' a C ∧ ∀ {O nm d : String} {ty : FieldType}, Laid Z a0 C O nm d → parseFieldDescriptor d = some ty → Fld Z h' a O nm d (defaultValue ty)) → Go l Z a0 EL R own bytes ml ret nm S0 Q K kc ks S' h' (mkF K.m n ls (.ref a :: st))) : Go l Z a0 EL R own bytes ml ret nm S0 Q K (kc + 1) (ks + na) S h (mkF K.m pc ls st) := by
  obtain ⟨hd, rfl⟩ := hd
  refine Go.make (f' := fun a => mkF K.m (pc + 3) ls (.ref a :: st)) _ kk fun vm0 T locs cells slots hK X hZ hown eT hc hl => ?_
  obtain ⟨T', h', X', e', E, A, D, -, st'⟩ := newO X hK.1 hZ hown w1 wi wz eT (g := mkF K.m pc ls st) rfl (hb hK.2.1 hd) hc hl
  exact ⟨T', h', X', e', E, A.lt, ⟨A, D⟩, st'⟩
/-- an array of ints, bytes, chars ..: its components as a list -/
def AI (Z : State) (h : Heap) (a : Addr) (ty : FieldType) (xs : List Int32) : Prop := ∃ c : Cell, Arr Z h a c ty ∧ c.slots.toList = xs.map Value.int ∧ xs.length < 2 ^ 31 ∧ ∀ x ∈ xs, fits ty (.int x) = true
theorem AI.lt {a : Addr} {ty : FieldType} {xs : List Int32} (A : AI Z h a ty xs) : a < h.size := by obtain ⟨c, A, -⟩ := A; exact A.lt
theorem AI.keep {a : Addr} {ty : FieldType} {xs : List Int32} {h' : Heap} {ws : List Addr} (A : AI Z h a ty xs) (K : Keep h h' ws) (q : a ∉ ws) : AI Z h' a ty xs := by obtain ⟨c, A, r⟩ := A; exact ⟨c, ⟨K.2.1 a c A.1 q, A.2⟩, r⟩
theorem AI.ext {a : Addr} {ty : FieldType} {xs : List Int32} {h' : Heap} (A : AI Z h a ty xs) (E : Ext h h') : AI Z h' a ty xs := by obtain ⟨c, A, r⟩ := A; exact ⟨c, A.ext E, r⟩
theorem AI.size {a : Addr} {ty : FieldType} {xs : List Int32} {c : Cell} (A : Arr Z h a c ty) (q : c.slots.toList = xs.map Value.int) : c.slots.size = xs.length := by
  have := congrArg List.length q
  simpa using this
theorem AI.at {xs : List Int32} {c : Cell} {i : Nat} (q : c.slots.toList = xs.map Value.int) (hx : xs[i]? = some x) : c.slots[i]? = some (.int x) := by
  have h1 : c.slots.toList[i]? = some (.int x) := by rw [q, List.getElem?_map, hx]; rfl
  simpa using h1
theorem AI.new {a : Addr} {ty : FieldType} {cA : ClassId} {j : Int32} {N : Nat} (A : Arr Z h a (newA cA ty j) ty) (hj : j = Int32.ofNat N) (hN : N < 2 ^ 31) (hd : defaultValue ty = .int 0) (hf : fits ty (.int 0) = true) : AI Z h a ty (List.replicate N 0) := by
  refine ⟨_, A, ?_, by simpa using hN, fun x hx => ?_⟩
  · simp [newA, clamp_of hj hN, hd]
  · rw [(List.mem_replicate.mp hx).2]; exact hf
theorem AI.set {a : Addr} {ty : FieldType} {xs : List Int32} {h' : Heap} {i : Nat} {sl : Nat} (A : AI Z h a ty xs) (W : Wr h h' a sl (.int x)) (hs : sl = i) (hf : fits ty (.int x) = true) : AI Z h' a ty (xs.set i x) := by
  subst hs
  obtain ⟨c, A, q1, q2, q3⟩ := A
  refine ⟨_, A.same W, ?_, by simpa using q2, fun y hy => ?_⟩
  · simp [Cell.setSlot, q1, List.map_set]
  · rcases List.mem_or_eq_of_mem_set hy with hy | rfl
    · exact q3 y hy
    · exact hf
theorem AI.ne_exa {a b : Addr} {ty : FieldType} {xs : List Int32} {C : String} {kn : Nat} (A : AI Z h a ty xs) (E : Exa Z h b C) (wi : (Cond.instantiable C kn).before a0 Z = true) : a ≠ b := by
  obtain ⟨c, A, -⟩ := A
  exact (ne_arr E wi A).symm
theorem Arr.ne_ty {a b : Addr} {ty ty' : FieldType} {c c' : Cell} (A : Arr Z h a c ty) (B : Arr Z h b c' ty') (hn : ty ≠ ty') : a ≠ b := fun e => by
  subst e
  cases A.1.symm.trans B.1
  obtain ⟨-, k1, i1, comp1, j1⟩ := A.2.1
  obtain ⟨-, k2, i2, comp2, j2⟩ := B.2.1
  cases i1.symm.trans i2
  have := j1.symm.trans j2
  injection this with _ e
  exact hn e
theorem AI.ne_ty {a b : Addr} {ty ty' : FieldType} {xs ys : List Int32} (A : AI Z h a ty xs) (B : AI Z h b ty' ys) (hn : ty ≠ ty') : a ≠ b := by
  obtain ⟨c, A, -⟩ := A
  obtain ⟨c', B, -⟩ := B
  exact Arr.ne_ty A B hn
theorem AI.safe {a : Addr} {ty : FieldType} {xs : List Int32} (A : AI Z h a ty xs) (hn : ty ≠ .byte) : ∀ vm0 : Vm, Z.vm.Alike vm0 → Safe Z EL vm0 h a := fun vm0 hal => by
  obtain ⟨c, A, -⟩ := A
  exact Safe.arr hal A hn
theorem toInt32_ofNat (i : Nat) : i.toInt32 = Int32.ofNat i := rfl
theorem go_newarr {aty : ArrayType} {j : Int32} {N cap : Nat} (w1 : (Cond.arrayClass (newarray.typeOf aty)).before a0 Z = true) (hj : j = Int32.ofNat N) (hN : N ≤ cap) (hcap : cap * 8 ≤ 536870912) (hdv : defaultValue (newarray.typeOf aty) = .int 0) (hft : fits (newarray.typeOf aty) (.int 0) = true) (hd : Dec bytes pc (.newarray aty) 2 n)
    (kk : ∀ S' h' a, a = h.size → (∀ x, S x → S' x) → S' a → Ext h h' → a < h'.size → AI Z h' a (newarray.typeOf aty) (List.replicate N 0) → Go l Z a0 EL R own bytes ml ret nm S0 Q K kc ks S' h' (mkF K.m n ls (.ref a :: st))) : Go l Z a0 EL R own bytes ml ret nm S0 Q K (kc + 1) (ks + cap) S h (mkF K.m pc ls (.int j :: st)) := by
  obtain ⟨hd, rfl⟩ := hd
  refine Go.make (f' := fun a => mkF K.m (pc + 2) ls (.ref a :: st)) _ kk fun vm0 T locs cells slots hK X hZ hown eT hc hl => ?_
  have hN' : N < 2 ^ 31 := by omega
  obtain ⟨T', h', cA, X', e', E, A, st'⟩ := newP X hK.1 hZ w1 eT (g := mkF K.m pc ls (.int j :: st)) rfl (hb hK.2.1 hd) (n := j) rfl (by rw [Int32.lt_iff_toInt_lt, toInt_of hj hN']; simp) (cap := cap) (by rw [clamp_of hj hN']; exact hN) hcap hc hl
  exact ⟨T', h', X', e', E, A.lt, AI.new A hj hN' hdv hft, st'⟩
theorem go_alen {a : Addr} {ty : FieldType} {xs : List Int32} (A : AI Z h a ty xs) (hd : Dec bytes pc .arraylength 1 n) (hv : Int32.ofNat xs.length = v) (kk : Go l Z a0 EL R own bytes ml ret nm S0 Q K kc ks S h (mkF K.m n ls (.int v :: st))) : Go l Z a0 EL R own bytes ml ret nm S0 Q K kc ks S h (mkF K.m pc ls (.ref a :: st)) := by
  obtain ⟨hd, rfl⟩ := hd
  obtain ⟨c, A, q1, q2, q3⟩ := A
  refine Go.calm kk fun vm0 T locs cells slots hK X hZ hown eT hE => ⟨T, X, eT, fun tgt hr => ?_⟩
  refine X.arraylength hK.1 (by rw [eT]; exact A.1) (State.isArrayOf_alike hZ.alike A.2.1) (g := mkF K.m pc ls (.ref a :: st)) rfl rfl (hb hK.2.1 hd) _ ?_
  rw [AI.size A q1, toInt32_ofNat, hv]; exact hr
theorem go_caload {a : Addr} {xs : List Int32} {j : Int32} {i : Nat} (A : AI Z h a .char xs) (hj : j = Int32.ofNat i) (hx : xs[i]? = some x) (hd : Dec bytes pc .caload 1 n) (kk : Go l Z a0 EL R own bytes ml ret nm S0 Q K kc ks S h (mkF K.m n ls (.int x :: st))) : Go l Z a0 EL R own bytes ml ret nm S0 Q K kc ks S h (mkF K.m pc ls (.int j :: .ref a :: st)) := by
  obtain ⟨hd, rfl⟩ := hd
  obtain ⟨c, A, q1, q2, q3⟩ := A
  have hi := (List.getElem?_eq_some_iff.mp hx).1
  refine Go.calm kk fun vm0 T locs cells slots hK X hZ hown eT hE => ⟨T, X, eT, fun tgt hr => ?_⟩
  exact X.caload hK.1 (j := j) (v := .int x) (by rw [eT]; exact A.1) (State.isArrayOf_alike hZ.alike A.2.1) A.2.2 (by rw [AI.size A q1]; exact within hj hi q2) (by rw [clamp_of hj (by omega)]; exact AI.at q1 hx) (g := mkF K.m pc ls (.int j :: .ref a :: st)) rfl rfl (hb hK.2.1 hd) _ hr
theorem go_baload {a : Addr} {xs : List Int32} {j : Int32} {i : Nat} (A : AI Z h a .byte xs) (hj : j = Int32.ofNat i) (hx : xs[i]? = some x) (hd : Dec bytes pc .baload 1 n) (kk : Go l Z a0 EL R own bytes ml ret nm S0 Q K kc ks S h (mkF K.m n ls (.int x :: st))) : Go l Z a0 EL R own bytes ml ret nm S0 Q K kc ks S h (mkF K.m pc ls (.int j :: .ref a :: st)) := by
  obtain ⟨hd, rfl⟩ := hd
  obtain ⟨c, A, q1, q2, q3⟩ := A
  have hi := (List.getElem?_eq_some_iff.mp hx).1
  refine Go.calm kk fun vm0 T locs cells slots hK X hZ hown eT hE => ⟨T, X, eT, fun tgt hr => ?_⟩
  exact X.baloadBytes hK.1 (j := j) (v := .int x) (by rw [eT]; exact A.1) (State.isArrayOf_alike hZ.alike A.2.1) A.2.2 (by rw [AI.size A q1]; exact within hj hi q2) (by rw [clamp_of hj (by omega)]; exact AI.at q1 hx) (g := mkF K.m pc ls (.int j :: .ref a :: st)) rfl rfl (hb hK.2.1 hd) _ hr
theorem go_iaload {a : Addr} {xs : List Int32} {j : Int32} {i : Nat} (A : AI Z h a .int xs) (hj : j = Int32.ofNat i) (hx : xs[i]? = some x) (hd : Dec bytes pc .iaload 1 n) (kk : Go l Z a0 EL R own bytes ml ret nm S0 Q K kc ks S h (mkF K.m n ls (.int x :: st))) : Go l Z a0 EL R own bytes ml ret nm S0 Q K kc ks S h (mkF K.m pc ls (.int j :: .ref a :: st)) := by
  obtain ⟨hd, rfl⟩ := hd
  obtain ⟨c, A, q1, q2, q3⟩ := A
  have hi := (List.getElem?_eq_some_iff.mp hx).1
  refine Go.calm kk fun vm0 T locs cells slots hK X hZ hown eT hE => ⟨T, X, eT, fun tgt hr => ?_⟩
  exact X.iaload hK.1 (j := j) (v := .int x) (by rw [eT]; exact A.1) (State.isArrayOf_alike hZ.alike A.2.1) A.2.2 (by rw [AI.size A q1]; exact within hj hi q2) (by rw [clamp_of hj (by omega)]; exact AI.at q1 hx) (g := mkF K.m pc ls (.int j :: .ref a :: st)) rfl rfl (hb hK.2.1 hd) _ hr
theorem go_castore {a : Addr} {xs : List Int32} {j : Int32} {i : Nat} (A : AI Z h a .char xs) (ha : Z.heap.size ≤ a) (hj : j = Int32.ofNat i) (hi : i < xs.length) (hv : nar .char x = v) (hd : Dec bytes pc .castore 1 n)
    (kk : ∀ h', Keep h h' [a] → AI Z h' a .char (xs.set i v) → Go l Z a0 EL R own bytes ml ret nm S0 Q K kc ks S h' (mkF K.m n ls st)) : Go l Z a0 EL R own bytes ml ret nm S0 Q K kc ks S h (mkF K.m pc ls (.int x :: .int j :: .ref a :: st)) := by
  obtain ⟨hd, rfl⟩ := hd
  subst hv
  have A' := A
  obtain ⟨c, A, q1, q2, q3⟩ := A
  refine Go.write (sl := j.toNatClampNeg) (w := .int (nar .char x)) ha (Or.inr (AI.safe A' (by decide))) (fun h' W KW => kk h' KW (A'.set W (clamp_of hj (by omega)) (fits_nar_char x))) fun vm0 T locs cells slots hK X hZ hown eT => ?_
  exact stC X hK.1 hZ eT A (by rw [AI.size A q1]; exact within hj hi q2) (g := mkF K.m pc ls (.int x :: .int j :: .ref a :: st)) rfl rfl (hb hK.2.1 hd)
theorem fits_nar_b (x : Int32) : fits .byte (.int (nar .byte x)) = true := fits_nar_byte x
theorem go_bastore {a : Addr} {xs : List Int32} {j : Int32} {i : Nat} (A : AI Z h a .byte xs) (ha : Z.heap.size ≤ a) (hsa : S a) (hj : j = Int32.ofNat i) (hi : i < xs.length) (hv : nar .byte x = v) (hd : Dec bytes pc .bastore 1 n)
    (kk : ∀ h', Keep h h' [a] → AI Z h' a .byte (xs.set i v) → Go l Z a0 EL R own bytes ml ret nm S0 Q K kc ks S h' (mkF K.m n ls st)) : Go l Z a0 EL R own bytes ml ret nm S0 Q K kc ks S h (mkF K.m pc ls (.int x :: .int j :: .ref a :: st)) := by
  obtain ⟨hd, rfl⟩ := hd
  subst hv
  have A' := A
  obtain ⟨c, A, q1, q2, q3⟩ := A
  refine Go.write (sl := j.toNatClampNeg) (w := .int (nar .byte x)) ha (Or.inl hsa) (fun h' W KW => kk h' KW (A'.set W (clamp_of hj (by omega)) (fits_nar_b x))) fun vm0 T locs cells slots hK X hZ hown eT => ?_
  exact stB X hK.1 hZ eT A (by rw [AI.size A q1]; exact within hj hi q2) (g := mkF K.m pc ls (.int x :: .int j :: .ref a :: st)) rfl rfl (hb hK.2.1 hd)
theorem go_iastore {a : Addr} {xs : List Int32} {j : Int32} {i : Nat} (A : AI Z h a .int xs) (ha : Z.heap.size ≤ a) (hj : j = Int32.ofNat i) (hi : i < xs.length) (hd : Dec bytes pc .iastore 1 n)
    (kk : ∀ h', Keep h h' [a] → AI Z h' a .int (xs.set i x) → Go l Z a0 EL R own bytes ml ret nm S0 Q K kc ks S h' (mkF K.m n ls st)) : Go l Z a0 EL R own bytes ml ret nm S0 Q K kc ks S h (mkF K.m pc ls (.int x :: .int j :: .ref a :: st)) := by
  obtain ⟨hd, rfl⟩ := hd
  have A' := A
  obtain ⟨c, A, q1, q2, q3⟩ := A
  refine Go.write (sl := j.toNatClampNeg) (w := .int x) ha (Or.inr (AI.safe A' (by decide))) (fun h' W KW => kk h' KW (A'.set W (clamp_of hj (by omega)) rfl)) fun vm0 T locs cells slots hK X hZ hown eT => ?_
  exact stI X hK.1 hZ eT A (by rw [AI.size A q1]; exact within hj hi q2) (g := mkF K.m pc ls (.int x :: .int j :: .ref a :: st)) rfl rfl (hb hK.2.1 hd)
theorem go_putf {R0 O fn d C : String} {idx kn : Nat} {ty : FieldType} {a : Addr} {old u' : Value} (w1 : (Cond.fieldLink own idx R0 fn d).before a0 Z = true) (via : Via Z R0 O fn d) (F : Fld Z h a O fn d old) (E : Exa Z h a C) (L : (Cond.lays C O fn d).before a0 Z = true ∨ ((Cond.laysFinal C O fn d).before a0 Z = true ∧ own = O ∧ nm = "<init>")) (wi : (Cond.instantiable C kn).before a0 Z = true)
    (hty : parseFieldDescriptor d = some ty) (hn : narrow ty u = u') (hf : fits ty u' = true) (ha : Z.heap.size ≤ a) (hsafe : S a ∨ (C ≠ "java/lang/String" ∧ C ≠ "[B")) (hd : Dec bytes pc (.putfield idx) 3 n)
    (kk : ∀ h', Wr h h' a (RoadKit.slotOf Z O fn d) u' → Keep h h' [a] → Exa Z h' a C → Fld Z h' a O fn d u' → Go l Z a0 EL R own bytes ml ret nm S0 Q K kc ks S h' (mkF K.m n ls st)) : Go l Z a0 EL R own bytes ml ret nm S0 Q K kc ks S h (mkF K.m pc ls (u :: .ref a :: st)) := by
  obtain ⟨hd, rfl⟩ := hd
  refine Go.write (sl := RoadKit.slotOf Z O fn d) (w := u') ha (hsafe.imp id fun q vm0 hal => Safe.exa hal E q.1 q.2) (fun h' W KW => kk h' W KW (E.wr W) (F.same W)) fun vm0 T locs cells slots hK X hZ hown eT => ?_
  exact putFN X hK.1 hZ hown w1 via eT F E (L.imp id fun q => ⟨q.1, q.2.1, hK.2.2.2.2.1.trans q.2.2⟩) wi hty hn hf (g := mkF K.m pc ls (u :: .ref a :: st)) rfl rfl (hb hK.2.1 hd)
theorem go_ldcI {idx : Nat} (w1 : (Cond.constant own idx v).before a0 Z = true) (hd : Dec bytes pc (.ldc idx) 2 n) (kk : Go l Z a0 EL R own bytes ml ret nm S0 Q K kc ks S h (mkF K.m n ls (.int v :: st))) : Go l Z a0 EL R own bytes ml ret nm S0 Q K kc ks S h (mkF K.m pc ls st) := by
  obtain ⟨hd, rfl⟩ := hd
  refine Go.calm kk fun vm0 T locs cells slots hK X hZ hown eT hE => ⟨T, X, eT, fun tgt hr => ?_⟩
  exact X.ldcInt hK.1 hown (mvT hZ w1) (g := mkF K.m pc ls st) rfl (hb hK.2.1 hd) _ hr
/-- a call: whatever brings the invocation back to a point at which it stands again -/
theorem Go.call {rc rs : Nat} {f1 : Option Value → JFrame} {QY : (Addr → Prop) → Option Value → Heap → Prop}
    (kk : ∀ S' v h', (∀ x, S x → S' x) → h.size ≤ h'.size → QY S' v h' → Go l Z a0 EL R own bytes ml ret nm S0 Q K kc ks S' h' (f1 v))
    (H : ∀ vm0 T locs cells slots, Kok Z a0 EL bytes ml ret nm K → Stand K.p l K.e R (K.s.setVm vm0) K.m K.args K.below K.meth K.c T locs cells slots → Z.Warmed39 (K.s.setVm vm0).vm → (K.s.setVm vm0).vm.findClass own = some K.m.cls → T.heap = h → CHv Z EL vm0 h → Sf Z EL vm0 h S → Ext Z.heap h → cells + rc ≤ R.cells → slots + rs ≤ R.slots →
      ∃ (v : Option Value) (B : Pt), Stand K.p l K.e R ((K.s.setVm vm0).setVm B.U.vm) K.m K.args K.below K.meth K.c B.U B.locs B.cells B.slots ∧ (K.s.setVm vm0).Since B.U.vm B.U.heap.size ∧ h.size ≤ B.U.heap.size ∧
        (∃ L, ((∃ S', (∀ x, S x → S' x) ∧ Sf Z EL B.U.vm B.U.heap S' ∧ Ext Z.heap B.U.heap ∧ QY S' v B.U.heap) ∧ Fr Z.heap.size L) ∧ B.locs = locs ++ L ∧ B.cells = cells + rc ∧ B.slots = slots + rs ∧ CHr Z EL vm0 h B.U.vm B.U.heap) ∧
        Steps K.p.tables K.e K.below (T.setTop f) (B.U.setTop (f1 v))) : Go l Z a0 EL R own bytes ml ret nm S0 Q K (kc + rc) (ks + rs) S h f := by
  intro hK T hT
  obtain ⟨vm0, k0, locs, cells, slots, X, e1, e2, e3, e4, e5, e6, e7, e8, e9, e10, e11, e12⟩ := hT
  obtain ⟨v, ⟨T2, L2, k2, n2⟩, X2, hSi, hgr, ⟨Lc, ⟨⟨S', m', sf', ex', q⟩, fr⟩, l2, y2, z2, ch⟩, st2⟩ := H vm0 T locs cells slots hK X e4 e5 e1 e6.1 e10 e11 (by omega) (by omega)
  dsimp only [Pt.U, Pt.locs, Pt.cells, Pt.slots] at *
  subst l2 y2 z2
  obtain ⟨t, o, hs, r⟩ := kk S' v T2.heap m' hgr q hK T2 ⟨T2.vm, T2.heap.size, _, _, _, X2, rfl, e2.trans hSi (Nat.le_trans e3 hgr), Nat.le_refl _, State.Warmed39.trans (t := K.s.setVm vm0) e4 hSi.1, (hSi.1.alike.findClass _ _).trans e5, e6.trans ch, Fr.app e7 fr, by omega, by omega, sf', ex', fun x q => m' x (e12 x q)⟩
  exact ⟨t, o, st2.trans hs, r⟩
theorem go_special {y : MethodName} {bY : ByteArray} {mY : Nat} {rm : Room} {as' : Array Value} {QY : (Addr → Prop) → Option Value → Heap → Prop} {idx : Nat} {a : Addr} (argsL rest : List Value) (C : Con l Z EL [] y bY mY none rm as' S h QY)
    (w1 : (Cond.methodLink own idx y).before a0 Z = true) (w2 : (Cond.instanceMethod y).before a0 Z = true) (w3 : (Cond.code y bY mY none).before a0 Z = true) (w4 : (Cond.initialized y.cls).before a0 Z = true) (hy : y.name = "<init>") (hy2 : y.cls ≠ "java/lang/invoke/MethodHandle" ∧ y.cls ≠ "java/lang/invoke/VarHandle")
    (has : as' = (.ref a :: argsL).toArray) (hs : st = argsL.reverse ++ .ref a :: rest) (hlen : ∀ sig, parseMethodDescriptor y.desc = some sig → argsL.length = sig.parameters.length) (hd : Dec bytes pc (.invokespecial idx) 3 n) (hsz : ls.size = ml) (hf : rm.frames + 1 ≤ R.frames) (hW : (rest.map fun v => v.category).sum + (mY + 11) + rm.locals ≤ R.locals)
    {rc rs : Nat} (hrc : rm.cells = rc) (hrs : rm.slots = rs) (kk : ∀ S' v h', (∀ x, S x → S' x) → h.size ≤ h'.size → QY S' v h' → Go l Z a0 EL R own bytes ml ret nm S0 Q K kc ks S' h' (mkF K.m n ls (v.toList ++ rest))) : Go l Z a0 EL R own bytes ml ret nm S0 Q K (kc + rc) (ks + rs) S h (mkF K.m pc ls st) := by
  subst hrc hrs
  obtain ⟨hd, rfl⟩ := hd
  refine Go.call (f1 := fun v => mkF K.m (pc + 3) ls (v.toList ++ rest)) kk fun vm0 T locs cells slots hK X hZ hown eT hC hSf hE hc hl => ?_
  obtain ⟨v, vm₁, B, hwm, X', hSi, hgr, ⟨L, hp⟩, st'⟩ := X.specialBackS hK.1 (y := y) hy hown (mvT hZ w1) (mvT hZ w2) (mvT hZ w3) hy2 (backG (W := (rest.map fun v => v.category).sum) C hZ w3 w4 hf hW hK.2.2.2.2.2.2 hC hSf hE) (g := mkF K.m pc ls st) rfl (hsz.trans hK.2.2.1.symm) (Steps.refl _) (a := a) (argsL := argsL) (rest := rest) hlen hs (by show 2 * 0 + _ ≤ _; simp) (hb hK.2.1 hd) (fun _ _ => ⟨has.symm, eT, hc, hl⟩)
  exact ⟨v, B, X', hSi, by rw [← eT]; exact hgr, ⟨L, hp⟩, st'⟩
theorem go_static {y : MethodName} {bY : ByteArray} {mY : Nat} {rY : Option FieldType} {rm : Room} {as' : Array Value} {QY : (Addr → Prop) → Option Value → Heap → Prop} {idx : Nat} (argsL rest : List Value) (C : Con l Z EL [] y bY mY rY rm as' S h QY)
    (w1 : (Cond.methodLink own idx y).before a0 Z = true) (w2 : (Cond.static y).before a0 Z = true) (w3 : (Cond.code y bY mY rY).before a0 Z = true) (w4 : (Cond.initialized y.cls).before a0 Z = true) (hy2 : y.cls ≠ "java/lang/invoke/MethodHandle" ∧ y.cls ≠ "java/lang/invoke/VarHandle")
    (has : as' = argsL.toArray) (hs : st = argsL.reverse ++ rest) (hlen : ∀ sig, parseMethodDescriptor y.desc = some sig → argsL.length = sig.parameters.length) (hd : Dec bytes pc (.invokestatic idx) 3 n) (hsz : ls.size = ml) (hf : rm.frames + 1 ≤ R.frames) (hW : (rest.map fun v => v.category).sum + (mY + 11) + rm.locals ≤ R.locals)
    {rc rs : Nat} (hrc : rm.cells = rc) (hrs : rm.slots = rs) (kk : ∀ S' v h', (∀ x, S x → S' x) → h.size ≤ h'.size → QY S' v h' → Go l Z a0 EL R own bytes ml ret nm S0 Q K kc ks S' h' (mkF K.m n ls (v.toList ++ rest))) : Go l Z a0 EL R own bytes ml ret nm S0 Q K (kc + rc) (ks + rs) S h (mkF K.m pc ls st) := by
  subst hrc hrs
  obtain ⟨hd, rfl⟩ := hd
  refine Go.call (f1 := fun v => mkF K.m (pc + 3) ls (v.toList ++ rest)) kk fun vm0 T locs cells slots hK X hZ hown eT hC hSf hE hc hl => ?_
  obtain ⟨v, vm₁, B, hwm, X', hSi, hgr, ⟨L, hp⟩, st'⟩ := callSS X hK.1 (y := y) hown (mvT hZ w1) (mvT hZ w2) (mvT hZ w4) (mvT hZ w3) hy2 (backG (W := (rest.map fun v => v.category).sum) C hZ w3 w4 hf hW hK.2.2.2.2.2.2 hC hSf hE) (g := mkF K.m pc ls st) rfl (hsz.trans hK.2.2.1.symm) (argsL := argsL) (rest := rest) hlen hs (by show 2 * 0 + _ ≤ _; simp) (hb hK.2.1 hd) (fun _ _ => ⟨has.symm, eT, hc, hl⟩)
  exact ⟨v, B, X', hSi, by rw [← eT]; exact hgr, ⟨L, hp⟩, st'⟩
theorem go_virtual {y z : MethodName} {D : String} {bY : ByteArray} {mY : Nat} {rY : Option FieldType} {rm : Room} {as' : Array Value} {QY : (Addr → Prop) → Option Value → Heap → Prop} {idx : Nat} {a : Addr} (argsL rest : List Value) (C : Con l Z EL [] z bY mY rY rm as' S h QY) (E : Exa Z h a D)
    (w1 : (Cond.methodLink own idx y).before a0 Z = true) (w2 : (Cond.declares y).before a0 Z = true) (w5 : (Cond.selects D y z).before a0 Z = true) (w6 : (Cond.instanceMethod z).before a0 Z = true) (wnf : ∀ s : State, Z.Warmed39 s.vm → NotFace s y) (w3 : (Cond.code z bY mY rY).before a0 Z = true) (w4 : (Cond.initialized z.cls).before a0 Z = true) (hy2 : y.cls ≠ "java/lang/invoke/MethodHandle" ∧ y.cls ≠ "java/lang/invoke/VarHandle")
    (has : as' = (.ref a :: argsL).toArray) (hs : st = argsL.reverse ++ .ref a :: rest) (hlen : ∀ sig, parseMethodDescriptor y.desc = some sig → argsL.length = sig.parameters.length) (hd : Dec bytes pc (.invokevirtual idx) 3 n) (hsz : ls.size = ml) (hf : rm.frames + 1 ≤ R.frames) (hW : (rest.map fun v => v.category).sum + (mY + 11) + rm.locals ≤ R.locals)
    {rc rs : Nat} (hrc : rm.cells = rc) (hrs : rm.slots = rs) (kk : ∀ S' v h', (∀ x, S x → S' x) → h.size ≤ h'.size → QY S' v h' → Go l Z a0 EL R own bytes ml ret nm S0 Q K kc ks S' h' (mkF K.m n ls (v.toList ++ rest))) : Go l Z a0 EL R own bytes ml ret nm S0 Q K (kc + rc) (ks + rs) S h (mkF K.m pc ls st) := by
  subst hrc hrs
  obtain ⟨hd, rfl⟩ := hd
  refine Go.call (f1 := fun v => mkF K.m (pc + 3) ls (v.toList ++ rest)) kk fun vm0 T locs cells slots hK X hZ hown eT hC hSf hE hc hl => ?_
  obtain ⟨cq, kq, qa, qb, qc⟩ := isOf hZ eT E
  obtain ⟨v, vm₁, B, hwm, X', hSi, hgr, ⟨L, hp⟩, st'⟩ := X.virtualBackS hK.1 (y := y) (z := z) hown (mvT hZ w1) (mvT hZ w2) (wnf _ hZ) (mvT hZ w5) (mvT hZ w6) hy2 (backG (W := (rest.map fun v => v.category).sum) C hZ w3 w4 hf hW hK.2.2.2.2.2.2 hC hSf hE) qa qc (g := mkF K.m pc ls st) rfl (hsz.trans hK.2.2.1.symm) (Steps.refl _) (argsL := argsL) (rest := rest) hlen hs (by show 2 * 0 + _ ≤ _; simp) (hb hK.2.1 hd) (fun _ _ => ⟨has.symm, eT, hc, hl⟩)
  exact ⟨v, B, X', hSi, by rw [← eT]; exact hgr, ⟨L, hp⟩, st'⟩
theorem nfSel {D : String} {y : MethodName} (w : (Cond.selects D y y).before a0 Z = true) : ∀ s : State, Z.Warmed39 s.vm → NotFace s y := fun s hZ => notFace_of_selects (args := #[]) (mvT hZ w)
theorem go_iface {xi z : MethodName} {D : String} {bY : ByteArray} {mY count : Nat} {rY : Option FieldType} {rm : Room} {as' : Array Value} {QY : (Addr → Prop) → Option Value → Heap → Prop} {idx : Nat} {a : Addr} (argsL rest : List Value) (C : Con l Z EL [] z bY mY rY rm as' S h QY) (E : Exa Z h a D)
    (w1 : (Cond.methodLink own idx xi).before a0 Z = true) (w2 : (Cond.declares xi).before a0 Z = true) (w7 : (Cond.interfaceMethod xi.cls xi.cls xi.name xi.desc).before a0 Z = true) (w5 : (Cond.selects D xi z).before a0 Z = true) (w6 : (Cond.instanceMethod z).before a0 Z = true) (w8 : (Cond.publicMethod z).before a0 Z = true) (w9 : (Cond.unhidden D xi.name xi.desc).before a0 Z = true) (w10 : (Cond.castable D xi.cls).before a0 Z = true)
    (hmv : ∀ s : State, ∀ args : Array Value, Z.Warmed39 s.vm → (Cond.interfaceMethod xi.cls xi.cls xi.name xi.desc).before args s = true ∧ (Cond.publicMethod z).before args s = true ∧ (Cond.unhidden D xi.name xi.desc).before args s = true ∧ (Cond.castable D xi.cls).before args s = true)
    (w3 : (Cond.code z bY mY rY).before a0 Z = true) (w4 : (Cond.initialized z.cls).before a0 Z = true) (hy2 : xi.cls ≠ "java/lang/invoke/MethodHandle" ∧ xi.cls ≠ "java/lang/invoke/VarHandle")
    (has : as' = (.ref a :: argsL).toArray) (hs : st = argsL.reverse ++ .ref a :: rest) (hlen : ∀ sig, parseMethodDescriptor xi.desc = some sig → argsL.length = sig.parameters.length) (hd : Dec bytes pc (.invokeinterface idx count) 5 n) (hsz : ls.size = ml) (hf : rm.frames + 1 ≤ R.frames) (hW : (rest.map fun v => v.category).sum + (mY + 11) + rm.locals ≤ R.locals)
    {rc rs : Nat} (hrc : rm.cells = rc) (hrs : rm.slots = rs) (kk : ∀ S' v h', (∀ x, S x → S' x) → h.size ≤ h'.size → QY S' v h' → Go l Z a0 EL R own bytes ml ret nm S0 Q K kc ks S' h' (mkF K.m n ls (v.toList ++ rest))) : Go l Z a0 EL R own bytes ml ret nm S0 Q K (kc + rc) (ks + rs) S h (mkF K.m pc ls st) := by
  subst hrc hrs
  obtain ⟨hd, rfl⟩ := hd
  refine Go.call (f1 := fun v => mkF K.m (pc + 5) ls (v.toList ++ rest)) kk fun vm0 T locs cells slots hK X hZ hown eT hC hSf hE hc hl => ?_
  obtain ⟨cq, kq, qa, qb, qc⟩ := isOf hZ eT E
  obtain ⟨m1, m2, m3, m4⟩ := hmv (K.s.setVm vm0) K.args hZ
  obtain ⟨v, vm₁, B, hwm, X', hSi, hgr, ⟨L, hp⟩, st'⟩ := X.interfaceBackS hK.1 (xi := xi) (y := z) hown (mvT hZ w1) (mvT hZ w2) m1 (mvT hZ w5) (mvT hZ w6) m2 m3 m4 hy2 (backG (W := (rest.map fun v => v.category).sum) C hZ w3 w4 hf hW hK.2.2.2.2.2.2 hC hSf hE) qa qb qc (g := mkF K.m pc ls st) rfl (hsz.trans hK.2.2.1.symm) (Steps.refl _) (argsL := argsL) (rest := rest) hlen hs (by show 2 * 0 + _ ≤ _; simp) (hb hK.2.1 hd) (fun _ _ => ⟨has.symm, eT, hc, hl⟩)
  exact ⟨v, B, X', hSi, by rw [← eT]; exact hgr, ⟨L, hp⟩, st'⟩
/-- ldc of a String constant of EL: a String of these bytes; two cells and 4 slots (and four a sign) may be made -/
theorem go_ldcS {text : String} {idx na nb : Nat} {xs : List Int32} (hnb : na + 4 = nb) (w1 : (Cond.stringLink own idx text).before a0 Z = true) (wS : ∀ a ∈ Bundle.stringAtoms, a.before a0 Z = true) (hmem : (own, idx) ∈ EL) (ht : (∀ c ∈ text.toList, c.toNat < 256) ∧ text.toList.map (fun c => Jvm.Lit.byteI c.toNat.toUInt16) = xs) (hna : 4 * text.toList.length ≤ na) (hbig : na ≤ 536870912) (hd : Dec bytes pc (.ldc idx) 2 n)
    (kk : ∀ S' h' a b, (∀ x, S x → S' x ∧ x ≠ a ∧ x ≠ b) → Ext h h' → a < h'.size → b < h'.size → Exa Z h' a "java/lang/String" → Fld Z h' a "java/lang/String" "coder" "B" (.int 0) → Fld Z h' a "java/lang/String" "value" "[B" (.ref b) → AI Z h' b .byte xs → Go l Z a0 EL R own bytes ml ret nm S0 Q K kc ks S' h' (mkF K.m n ls (.ref a :: st))) : Go l Z a0 EL R own bytes ml ret nm S0 Q K (kc + 2) (ks + nb) S h (mkF K.m pc ls st) := by
  subst hnb
  obtain ⟨hd, rfl⟩ := hd
  intro hK T hT
  obtain ⟨vm0, k0, locs, cells, slots, X, e1, e2, e3, e4, e5, e6, e7, e8, e9, e10, e11, e12⟩ := hT
  have hlen : xs.length = text.toList.length := by rw [← ht.2]; simp
  have hlt : xs.length < 2 ^ 31 := by omega
  obtain ⟨a, T', h', k1, b, k, X', e', E, hS', hk', hW', hown', Ea, Fc, Fv, Av, la, lb, ch, -, ne, st'⟩ := ldcCH X hK.1 e4 e5 w1 wS e1 e2 e3 hK.2.2.2.2.2.2 hmem e6.1 (vs := xs.map Value.int) (z := Int32.ofNat xs.length) ⟨ht.1, by rw [← ht.2]; simp⟩ (by rw [Int32.lt_iff_toInt_lt, toInt_of rfl hlt]; simp) (by rw [clamp_of rfl hlt]; simp) (g := mkF K.m pc ls st) rfl (hb hK.2.1 hd) hna hbig (by omega) (by omega)
  have hC := e6.trans ch
  have sf := e10.step ch
  have hAI : AI Z h' b .byte xs := by
    obtain ⟨c, A, -, r2, -, H, G⟩ := Av
    rw [clamp_of rfl hlt] at r2
    have hsz : c.slots.toList.length = xs.length := by simpa using r2
    refine ⟨c, A, ?_, hlt, fun x hx => ?_⟩
    · apply List.ext_getElem?
      intro i
      by_cases hi : i < xs.length
      · have q := H i (by omega)
        rw [List.getD_eq_getElem?_getD, List.getElem?_map, List.getElem?_eq_getElem hi] at q
        rw [List.getElem?_map, List.getElem?_eq_getElem hi]
        simpa using q
      · rw [List.getElem?_eq_none (by omega), List.getElem?_eq_none (by simp; omega)]
    · obtain ⟨i, hi, rfl⟩ := List.getElem_of_mem hx
      have q := G i (by omega)
      rw [List.getD_eq_getElem?_getD, List.getElem?_map, List.getElem?_eq_getElem hi] at q
      simpa using q
  obtain ⟨t, o, hs, r⟩ := kk S h' a b (fun x q => ⟨q, (ne x (sf x q).1).1, (ne x (sf x q).1).2⟩) E la lb Ea Fc Fv hAI hK T' ⟨T'.vm, k1, locs, _, _, X', e', hS', hk', hW', hown', hC, e7, by omega, by omega, sf, ext_trans e11 E, e12⟩
  exact ⟨t, o, st' _ hs, r⟩
/-- ldc of any String constant: some String -/
theorem go_ldcO {text : String} {idx na nb : Nat} (hnb : na + 4 = nb) (w1 : (Cond.stringLink own idx text).before a0 Z = true) (wS : ∀ a ∈ Bundle.stringAtoms, a.before a0 Z = true) (hna : 4 * text.toList.length ≤ na) (hbig : na ≤ 536870912) (hd : Dec bytes pc (.ldc idx) 2 n)
    (kk : ∀ h' a, Ext h h' → Go l Z a0 EL R own bytes ml ret nm S0 Q K kc ks S h' (mkF K.m n ls (.ref a :: st))) : Go l Z a0 EL R own bytes ml ret nm S0 Q K (kc + 2) (ks + nb) S h (mkF K.m pc ls st) := by
  subst hnb
  obtain ⟨hd, rfl⟩ := hd
  intro hK T hT
  obtain ⟨vm0, k0, locs, cells, slots, X, e1, e2, e3, e4, e5, e6, e7, e8, e9, e10, e11, e12⟩ := hT
  obtain ⟨a, T', h', k1, X', e', E, hS', hk', hW', hown', ch, -, st'⟩ := ldcOH X hK.1 e4 e5 w1 wS e1 e2 e3 hK.2.2.2.2.2.2 e6.1 (g := mkF K.m pc ls st) rfl (hb hK.2.1 hd) hna hbig (by omega) (by omega)
  obtain ⟨t, o, hs, r⟩ := kk h' a E hK T' ⟨T'.vm, k1, locs, _, _, X', e', hS', hk', hW', hown', e6.trans ch, e7, by omega, by omega, e10.step ch, ext_trans e11 E, e12⟩
  exact ⟨t, o, st' _ hs, r⟩
theorem Go.weak {kc' ks' : Nat} (k : Go l Z a0 EL R own bytes ml ret nm S0 Q K kc ks S h f) (h1 : kc ≤ kc') (h2 : ks ≤ ks') : Go l Z a0 EL R own bytes ml ret nm S0 Q K kc' ks' S h f := by
  intro hK T hT
  obtain ⟨vm0, k0, locs, cells, slots, X, e1, e2, e3, e4, e5, e6, e7, e8, e9, e10, e11, e12⟩ := hT
  exact k hK T ⟨vm0, k0, locs, cells, slots, X, e1, e2, e3, e4, e5, e6, e7, by omega, by omega, e10, e11, e12⟩
theorem AI.arv {a : Addr} {ty : FieldType} {xs : List Int32} (A : AI Z h a ty xs) : ∃ k, Arv Z h a k ty (Int32.ofNat xs.length) (xs.map Value.int) (.int 0) := by
  obtain ⟨c, A, q1, q2, q3⟩ := A
  have hs := AI.size A q1
  have ge : ∀ i, i < c.slots.size → ∃ x, xs[i]? = some x ∧ (xs.map Value.int).getD i (.int 0) = .int x := fun i hi => by
    refine ⟨_, List.getElem?_eq_getElem (by omega), ?_⟩
    rw [List.getD_eq_getElem?_getD, List.getElem?_map, List.getElem?_eq_getElem (by omega)]; rfl
  refine ⟨c.cls, c, A, rfl, by rw [clamp_of rfl q2]; exact hs, by rw [Int32.lt_iff_toInt_lt, toInt_of rfl q2]; simp, fun i hi => ?_, fun i hi => ?_⟩
  · obtain ⟨x, e1, e2⟩ := ge i hi
    rw [e2]; exact AI.at q1 e1
  · obtain ⟨x, e1, e2⟩ := ge i hi
    rw [e2]; exact q3 x (List.mem_of_getElem? e1)
theorem AI.of_arv {a : Addr} {ty : FieldType} {xs : List Int32} {k : ClassId} {dv : Value} {N : Nat} (V : Arv Z h a k ty (Int32.ofNat N) (xs.map Value.int) dv) (hN : xs.length = N) (hlt : N < 2 ^ 31) : AI Z h a ty xs := by
  subst hN
  obtain ⟨c, A, -, r2, -, H, G⟩ := V
  rw [clamp_of rfl hlt] at r2
  have hsz : c.slots.toList.length = xs.length := by simpa using r2
  refine ⟨c, A, ?_, hlt, fun x hx => ?_⟩
  · apply List.ext_getElem?
    intro i
    by_cases hi : i < xs.length
    · have q := H i (by omega)
      rw [List.getD_eq_getElem?_getD, List.getElem?_map, List.getElem?_eq_getElem hi] at q
      rw [List.getElem?_map, List.getElem?_eq_getElem hi]
      simpa using q
    · rw [List.getElem?_eq_none (by omega), List.getElem?_eq_none (by simp; omega)]
  · obtain ⟨i, hi, rfl⟩ := List.getElem_of_mem hx
    have q := G i (by omega)
    rw [List.getD_eq_getElem?_getD, List.getElem?_map, List.getElem?_eq_getElem hi] at q
    simpa using q
theorem range_take {xs : List Int32} {sp m : Nat} (hm : sp + m ≤ xs.length) : ((List.range m).map fun i => (xs.map Value.int).getD (sp + i) (.int 0)) = ((xs.drop sp).take m).map Value.int := by
  apply List.ext_getElem?
  intro i
  by_cases hi : i < m
  · rw [List.getElem?_map, List.getElem?_range hi, List.getElem?_map, List.getElem?_take_of_lt hi, List.getElem?_drop, List.getElem?_eq_getElem (by omega)]
    simp [List.getD_eq_getElem?_getD, List.getElem?_eq_getElem (show sp + i < xs.length by omega)]
  · rw [List.getElem?_eq_none (by simp; omega), List.getElem?_eq_none (by simp; omega)]
theorem nfw : nativeFrameWords "java/lang/System" "arraycopy" 5 + 11 = 18 := by decide +kernel
/-- System.arraycopy of ints, bytes, chars, the two arrays of one kind -/
theorem go_acopy {a b : Addr} {ty : FieldType} {xs ys : List Int32} {i1 i2 i3 : Int32} {sp dp m idx : Nat} (A : AI Z h a ty xs) (B : AI Z h b ty ys) (hty : refKind ty = false) (e1 : i1 = Int32.ofNat sp) (e2 : i2 = Int32.ofNat dp) (e3 : i3 = Int32.ofNat m) (h4 : sp + m ≤ xs.length) (h5 : dp + m ≤ ys.length) (hb : Z.heap.size ≤ b) (hsafe : S b ∨ ty ≠ .byte)
    (w1 : (Cond.methodLink own idx Jvm.Stand.acN).before a0 Z = true) (w2 : (Cond.native Jvm.Stand.acN).before a0 Z = true) (w3 : (Cond.static Jvm.Stand.acN).before a0 Z = true) (w4 : (Cond.initialized "java/lang/System").before a0 Z = true) (hd : Dec bytes pc (.invokestatic idx) 3 n) (hsz : ls.size = ml) (hf : 1 ≤ R.frames) (hW : (st.map fun v => v.category).sum + 18 ≤ R.locals)
    (kk : ∀ h', Keep h h' [b] → AI Z h' b ty (ys.take dp ++ (xs.drop sp).take m ++ ys.drop (dp + m)) → Go l Z a0 EL R own bytes ml ret nm S0 Q K kc ks S h' (mkF K.m n ls st)) : Go l Z a0 EL R own bytes ml ret nm S0 Q K kc ks S h (mkF K.m pc ls (.int i3 :: .int i2 :: .ref b :: .int i1 :: .ref a :: st)) := by
  obtain ⟨hd, rfl⟩ := hd
  intro hK T hT
  obtain ⟨vm0, k0, locs, cells, slots, X, q1, q2, q3, q4, q5, q6, q7, q8, q9, q10, q11, q12⟩ := hT
  have lx : xs.length < 2 ^ 31 := by obtain ⟨c, -, -, q, -⟩ := A; exact q
  have ly : ys.length < 2 ^ 31 := by obtain ⟨c, -, -, q, -⟩ := B; exact q
  have hsf : Safe Z EL vm0 h b := by
    rcases hsafe with q | q
    · exact (q10 b q).1
    · exact AI.safe B q vm0 q4.alike
  obtain ⟨kA, VA⟩ := A.arv
  obtain ⟨kB, VB⟩ := B.arv
  have c1 := clamp_of e1 (by omega)
  have c2 := clamp_of e2 (by omega)
  have c3 := clamp_of e3 (by omega)
  have cx := clamp_of (n := Int32.ofNat xs.length) rfl lx
  have cy := clamp_of (n := Int32.ofNat ys.length) rfl ly
  obtain ⟨T', h', L, X', e', fr, KW, V', st'⟩ := cpA X hK.1 q4 q5 w1 w2 w3 w4 q1 VA VB (Or.inl ⟨rfl, hty⟩) (by rw [Int32.lt_iff_toInt_lt, toInt_of e1 (by omega)]; simp) (by rw [Int32.lt_iff_toInt_lt, toInt_of e2 (by omega)]; simp) (by rw [Int32.lt_iff_toInt_lt, toInt_of e3 (by omega)]; simp) (by rw [c1, c3, cx]; exact h4) (by rw [c2, c3, cy]; exact h5) (us := ((xs.drop sp).take m).map Value.int) (by rw [c1, c3]; exact (range_take h4).symm) (by rw [c2, c3]; simpa using h5) q7 hb (g := mkF K.m pc ls (.int i3 :: .int i2 :: .ref b :: .int i1 :: .ref a :: st)) rfl (hsz.trans hK.2.2.1.symm) rfl (Jvm.hb hK.2.1 hd) hf (W := (st.map fun v => v.category).sum) (by show 2 * 0 + _ ≤ _; simp) (by rw [nfw]; exact hW)
  rw [c2, c3] at V'
  have hl : (ys.take dp ++ (xs.drop sp).take m ++ ys.drop (dp + m)).length = ys.length := by simp; omega
  have V2 : Arv Z h' b kB ty (Int32.ofNat ys.length) ((ys.take dp ++ (xs.drop sp).take m ++ ys.drop (dp + m)).map Value.int) (.int 0) := by simpa [List.map_append, List.map_take, List.map_drop] using V'
  have hC := CHr.keep KW (allS hsf all0) q6.1
  have hE : Ext Z.heap h' := (Old.keep (Z := Z) (n0 := Z.heap.size) ⟨rfl, q11⟩ KW (allS hb all0)).2
  obtain ⟨t, o, hs, r⟩ := kk h' KW (AI.of_arv V2 hl ly) hK T' ⟨vm0, k0, L, cells, slots, X', e', q2, Nat.le_trans q3 KW.1, q4, q5, q6.trans hC, fr, q8, q9, q10.step hC, hE, q12⟩
  exact ⟨t, o, st' _ hs, r⟩
theorem go_newarrE {aty : ArrayType} {j : Int32} {N cap : Nat} {ad : String} (w1 : (Cond.arrayClass (newarray.typeOf aty)).before a0 Z = true) (had : "[" ++ (newarray.typeOf aty).toString = ad) (hj : j = Int32.ofNat N) (hN : N ≤ cap) (hcap : cap * 8 ≤ 536870912) (hdv : defaultValue (newarray.typeOf aty) = .int 0) (hft : fits (newarray.typeOf aty) (.int 0) = true) (hd : Dec bytes pc (.newarray aty) 2 n)
    (kk : ∀ S' h' a, a = h.size → (∀ x, S x → S' x) → S' a → Ext h h' → a < h'.size → (AI Z h' a (newarray.typeOf aty) (List.replicate N 0) ∧ Exa Z h' a ad) → Go l Z a0 EL R own bytes ml ret nm S0 Q K kc ks S' h' (mkF K.m n ls (.ref a :: st))) : Go l Z a0 EL R own bytes ml ret nm S0 Q K (kc + 1) (ks + cap) S h (mkF K.m pc ls (.int j :: st)) := by
  obtain ⟨hd, rfl⟩ := hd
  refine Go.make (f' := fun a => mkF K.m (pc + 2) ls (.ref a :: st)) _ kk fun vm0 T locs cells slots hK X hZ hown eT hc hl => ?_
  have hN' : N < 2 ^ 31 := by omega
  obtain ⟨T', h', cA, X', e', E, A, E2, st'⟩ := newPE X hK.1 hZ w1 eT (g := mkF K.m pc ls (.int j :: st)) rfl (hb hK.2.1 hd) (n := j) rfl (by rw [Int32.lt_iff_toInt_lt, toInt_of hj hN']; simp) (cap := cap) (by rw [clamp_of hj hN']; exact hN) hcap hc hl had
  exact ⟨T', h', X', e', E, A.lt, ⟨AI.new A hj hN' hdv hft, E2⟩, st'⟩
theorem go_lswHit {df : Int} {ps : Array (Int × Int)} {a off : Int} {len : Nat} (hd : decode bytes pc = .ok (.lookupswitch df ps, len)) (hs : (ps.toList.zip (ps.toList.drop 1)).all (fun (a, next) => a.1 < next.1) = true) (hf : ps.find? (·.1 == x.toInt) = some (a, off)) (ho : 0 ≤ (pc : Int) + off) (ht : ((pc : Int) + off).toNat = t) (kk : Go l Z a0 EL R own bytes ml ret nm S0 Q K kc ks S h (mkF K.m t ls st)) : Go l Z a0 EL R own bytes ml ret nm S0 Q K kc ks S h (mkF K.m pc ls (.int x :: st)) := by
  subst ht
  refine Go.calm kk fun vm0 T locs cells slots hK X hZ hown eT hE => ⟨T, X, eT, fun tgt hr => ?_⟩
  exact X.lookupswitchHit hK.1 (g := mkF K.m pc ls (.int x :: st)) rfl rfl (hb hK.2.1 hd) hs hf ho _ hr
theorem go_lswMiss {df : Int} {ps : Array (Int × Int)} {len : Nat} (hd : decode bytes pc = .ok (.lookupswitch df ps, len)) (hs : (ps.toList.zip (ps.toList.drop 1)).all (fun (a, next) => a.1 < next.1) = true) (hf : ps.find? (·.1 == x.toInt) = none) (ho : 0 ≤ (pc : Int) + df) (ht : ((pc : Int) + df).toNat = t) (kk : Go l Z a0 EL R own bytes ml ret nm S0 Q K kc ks S h (mkF K.m t ls st)) : Go l Z a0 EL R own bytes ml ret nm S0 Q K kc ks S h (mkF K.m pc ls (.int x :: st)) := by
  subst ht
  refine Go.calm kk fun vm0 T locs cells slots hK X hZ hown eT hE => ⟨T, X, eT, fun tgt hr => ?_⟩
  exact X.lookupswitchMiss hK.1 (g := mkF K.m pc ls (.int x :: st)) rfl rfl (hb hK.2.1 hd) hs hf ho _ hr
theorem go_tswIn {df lo hi off : Int} {os : Array Int} {len : Nat} (hd : decode bytes pc = .ok (.tableswitch df lo hi os, len)) (hin : ¬ (x.toInt < lo ∨ x.toInt > hi)) (hf : os[(x.toInt - lo).toNat]? = some off) (ho : 0 ≤ (pc : Int) + off) (ht : ((pc : Int) + off).toNat = t) (kk : Go l Z a0 EL R own bytes ml ret nm S0 Q K kc ks S h (mkF K.m t ls st)) : Go l Z a0 EL R own bytes ml ret nm S0 Q K kc ks S h (mkF K.m pc ls (.int x :: st)) := by
  subst ht
  refine Go.calm kk fun vm0 T locs cells slots hK X hZ hown eT hE => ⟨T, X, eT, fun tgt hr => ?_⟩
  exact X.tableswitchIn hK.1 (g := mkF K.m pc ls (.int x :: st)) rfl rfl (hb hK.2.1 hd) hin hf ho _ hr
theorem go_private {y y2 x2 : MethodName} {D C2 : String} {bY : ByteArray} {mY : Nat} {rY : Option FieldType} {rm : Room} {as' : Array Value} {QY : (Addr → Prop) → Option Value → Heap → Prop} {idx : Nat} {a : Addr} (argsL rest : List Value) (C : Con l Z EL [] y bY mY rY rm as' S h QY) (E : Exa Z h a D)
    (w1 : (Cond.methodLink own idx y).before a0 Z = true) (w2 : (Cond.instanceMethod y).before a0 Z = true) (wp : (Cond.privateMethod y).before a0 Z = true) (w5 : (Cond.selects C2 x2 y2).before a0 Z = true) (hc2 : y2.cls = y.cls) (w3 : (Cond.code y bY mY rY).before a0 Z = true) (w4 : (Cond.initialized y.cls).before a0 Z = true) (hy2 : y.cls ≠ "java/lang/invoke/MethodHandle" ∧ y.cls ≠ "java/lang/invoke/VarHandle")
    (has : as' = (.ref a :: argsL).toArray) (hs : st = argsL.reverse ++ .ref a :: rest) (hlen : ∀ sig, parseMethodDescriptor y.desc = some sig → argsL.length = sig.parameters.length) (hd : Dec bytes pc (.invokevirtual idx) 3 n) (hsz : ls.size = ml) (hf : rm.frames + 1 ≤ R.frames) (hW : (rest.map fun v => v.category).sum + (mY + 11) + rm.locals ≤ R.locals)
    {rc rs : Nat} (hrc : rm.cells = rc) (hrs : rm.slots = rs) (kk : ∀ S' v h', (∀ x, S x → S' x) → h.size ≤ h'.size → QY S' v h' → Go l Z a0 EL R own bytes ml ret nm S0 Q K kc ks S' h' (mkF K.m n ls (v.toList ++ rest))) : Go l Z a0 EL R own bytes ml ret nm S0 Q K (kc + rc) (ks + rs) S h (mkF K.m pc ls st) := by
  subst hrc hrs
  obtain ⟨hd, rfl⟩ := hd
  refine Go.call (f1 := fun v => mkF K.m (pc + 3) ls (v.toList ++ rest)) kk fun vm0 T locs cells slots hK X hZ hown eT hC hSf hE hc hl => ?_
  obtain ⟨c2, r2, m2, -, -, q3, -, kP, hkP, hkPi⟩ := Cond.selects_spec (mvT (args := K.args) hZ w5)
  have hcf := findClass_of_methodNamed q3
  rw [hc2] at hcf
  have hpr : (K.s.setVm vm0).PrivateAt y := Cond.privateMethod_at (mvP hZ wp (args := #[]))
  have hsel : (Cond.selects y.cls y y).before K.args (K.s.setVm vm0) = true := selects_self_of_private hcf hkP hkPi hpr (mvT hZ w2) hy2
  obtain ⟨cq, qa, qb⟩ := E.cell
  obtain ⟨v, vm₁, B, hwm, X', hSi, hgr, ⟨L, hp⟩, st'⟩ := X.privateBackS hK.1 (y := y) hown (mvT hZ w1) (mvT hZ w2) hsel hpr (mvT hZ w3) hy2 (backG (W := (rest.map fun v => v.category).sum) C hZ w3 w4 hf hW hK.2.2.2.2.2.2 hC hSf hE) (g := mkF K.m pc ls st) rfl (hsz.trans hK.2.2.1.symm) (Steps.refl _) (a := a) (cell := cq) (by rw [eT]; exact qa) qb (argsL := argsL) (rest := rest) hlen hs (by show 2 * 0 + _ ≤ _; simp) (hb hK.2.1 hd) (fun _ _ => ⟨has.symm, eT, hc, hl⟩)
  exact ⟨v, B, X', hSi, by rw [← eT]; exact hgr, ⟨L, hp⟩, st'⟩
end Rules
end Jvm.GoK
namespace Jvm.GoK
open Jvm Jvm.ClassFile Sem Op Lib Jvm.Free Jvm.Stand Jvm.LawKit Jvm.RoadKit Bundle
/-- the byte that is left of a char, as an int -/
def lo8 (x : Int32) : Int32 := x.toInt8.toInt32
theorem nar_lo8 (x : Int32) : nar .byte (lo8 x) = lo8 x := by
  show (x.toInt8.toInt32).toInt8.toInt32 = x.toInt8.toInt32
  simp
theorem fits_lo8 (x : Int32) : fits .byte (.int (lo8 x)) = true := fits_nar_byte x
theorem ofNat_lt {i n : Nat} (h : i < n) (hn : n < 2 ^ 31) : Int32.ofNat i < Int32.ofNat n := by
  rw [Int32.lt_iff_toInt_lt, Int32.toInt_ofNat_of_lt (by omega), Int32.toInt_ofNat_of_lt (by omega)]
  omega
theorem ofNat_nlt {i n : Nat} (h : n ≤ i) (hn : i < 2 ^ 31) : ¬ Int32.ofNat i < Int32.ofNat n := by
  rw [Int32.lt_iff_toInt_lt, Int32.toInt_ofNat_of_lt (by omega), Int32.toInt_ofNat_of_lt (by omega)]
  omega
theorem ofNat_lt_iff {i n : Nat} (hi : i < 2 ^ 31) (hn : n < 2 ^ 31) : Int32.ofNat i < Int32.ofNat n ↔ i < n := by
  rw [Int32.lt_iff_toInt_lt, Int32.toInt_ofNat_of_lt (by omega), Int32.toInt_ofNat_of_lt (by omega)]
  omega
theorem ofNat_inj {i n : Nat} (hi : i < 2 ^ 31) (hn : n < 2 ^ 31) : Int32.ofNat i = Int32.ofNat n ↔ i = n := by
  rw [← Int32.toInt_inj, Int32.toInt_ofNat_of_lt (by omega), Int32.toInt_ofNat_of_lt (by omega)]
  omega
theorem ofNat_add (i n : Nat) : Int32.ofNat i + Int32.ofNat n = Int32.ofNat (i + n) := (Int32.ofNat_add i n).symm
theorem ofNat_inc (i : Nat) : Int32.ofNat i + Int32.ofInt 1 = Int32.ofNat (i + 1) := (Int32.ofNat_add i 1).symm
theorem ofNat_sub {i n : Nat} (h : n ≤ i) : Int32.ofNat i - Int32.ofNat n = Int32.ofNat (i - n) := by
  have e : Int32.ofNat i = Int32.ofNat (i - n) + Int32.ofNat n := by rw [ofNat_add]; congr 1; omega
  rw [e, Int32.add_sub_cancel]
theorem set_fill {cs : List Int32} {i n : Nat} {c : Int32} (f : Int32 → Int32) (hn : cs.length = n) (hc : cs[i]? = some c) :
    (((cs.take i).map f ++ List.replicate (n - i) 0).set i (f c)) = (cs.take (i + 1)).map f ++ List.replicate (n - (i + 1)) 0 := by
  have hi := (List.getElem?_eq_some_iff.mp hc).1
  have hl : ((cs.take i).map f).length = i := by simp; omega
  rw [List.set_append_right _ _ (by omega), hl, Nat.sub_self]
  obtain ⟨m, hm⟩ : ∃ m, n - i = m + 1 := ⟨n - i - 1, by omega⟩
  rw [hm, List.replicate_succ, List.set_cons_zero, List.take_add_one, hc]
  have : n - (i + 1) = m := by omega
  rw [this]
  simp
theorem fill_len {cs : List Int32} {i n : Nat} (f : Int32 → Int32) (hn : cs.length = n) (hi : i ≤ n) : ((cs.take i).map f ++ List.replicate (n - i) (0 : Int32)).length = n := by
  simp; omega
theorem own_nar_ref {u : Value} {ty : FieldType} (h : u.isRef = true) : narrow ty u = u := by
  rcases ref_cases h with rfl | ⟨a, rfl⟩ <;> cases ty <;> rfl
theorem own_and255 (x : Int32) : ¬ (255 : Int32) < (x &&& 255) := by
  have t : ∀ k : Fin 256, ¬ (255 : Int32) < Int32.ofNat k.val := by decide +kernel
  have h : (x &&& 255).toBitVec.toNat < 256 := by
    simp only [Int32.toBitVec_and, BitVec.toNat_and]
    exact Nat.lt_succ_of_le Nat.and_le_right
  have e : (x &&& 255) = Int32.ofNat (x &&& 255).toBitVec.toNat := by
    apply Int32.toBitVec_inj.mp
    show _ = BitVec.ofNat 32 _
    rw [BitVec.ofNat_toNat]; simp
  rw [e]
  exact t ⟨_, h⟩
theorem own_eqint {args : Array Value} {first s : State} {o : Option Outcome} {idx : List Nat} {t : Term} {n : Int32} (h : (Jvm.Cond.eq t (.int n)).value args first o s idx = some true) : t.eval args first o idx s = some (.int n) := by
  obtain ⟨x, y, e1, e2, -, -⟩ := cmp_v (Or.inl h)
  have e3 : y = .int n := Option.some.inj (e2.symm.trans (Term.int_eval n))
  subst e3
  cases x <;> simp [Cond.value, e1, e2] at h
  subst h; exact e1
theorem fa1 {P : Int32 → Prop} {a : Int32} (ha : P a) : ∀ c ∈ [a], P c := List.forall_mem_cons.mpr ⟨ha, fun _ h => by cases h⟩
theorem fa2 {P : Int32 → Prop} {a b : Int32} (ha : P a) (hb : P b) : ∀ c ∈ [a, b], P c := List.forall_mem_cons.mpr ⟨ha, fa1 hb⟩
theorem lt_nat {a b : Nat} (h : a < b) : a < b := h
theorem ne_of {a b : Nat} (h : a < b ∨ b < a) : a ≠ b := by omega
end Jvm.GoK
namespace Jvm.GoK
open Jvm Jvm.ClassFile Sem Op Lib Jvm.Free Jvm.Stand Jvm.LawKit Jvm.RoadKit Bundle
/-- a char's two bytes, the low one first -/
def two (c : Int32) : List Int32 := [lo8 c, lo8 (c >>> 8)]
/-- a String's bytes, by its coder -/
def sbytes (k : Int32) (cs : List Int32) : List Int32 := if k = 0 then cs.map lo8 else cs.flatMap two
theorem sbytes0 (cs : List Int32) : sbytes 0 cs = cs.map lo8 := rfl
theorem sbytes1 (cs : List Int32) : sbytes 1 cs = cs.flatMap two := rfl
def isCh (c : Int32) : Prop := fits .char (.int c) = true
/-- the String at x: its chars cs, its byte[] b, its coder k -/
def Str (Z : State) (h : Heap) (x : Addr) (cs : List Int32) (b : Addr) (k : Int32) : Prop :=
  Exa Z h x "java/lang/String" ∧ Fld Z h x "java/lang/String" "coder" "B" (.int k) ∧ Fld Z h x "java/lang/String" "value" "[B" (.ref b) ∧ AI Z h b .byte (sbytes k cs) ∧
  ((k = 0 ∧ ∀ c ∈ cs, ¬ (255 : Int32) < c) ∨ (k = 1 ∧ ∃ c ∈ cs, (255 : Int32) < c)) ∧ (∀ c ∈ cs, isCh c) ∧ cs.length < 2 ^ 29
section
variable {Z : State} {h h' : Heap} {x b : Addr} {cs : List Int32} {k : Int32} {ws : List Addr}
theorem Str.keep (F : Str Z h x cs b k) (K : Keep h h' ws) (hx : x ∉ ws) (hb : b ∉ ws) : Str Z h' x cs b k :=
  ⟨F.1.keep K, F.2.1.keep K hx, F.2.2.1.keep K hx, F.2.2.2.1.keep K hb, F.2.2.2.2⟩
theorem Str.ext (F : Str Z h x cs b k) (E : Ext h h') : Str Z h' x cs b k := ⟨F.1.ext E, F.2.1.ext E, F.2.2.1.ext E, F.2.2.2.1.ext E, F.2.2.2.2⟩
theorem Str.lx (F : Str Z h x cs b k) : x < h.size := F.1.lt
theorem Str.lb (F : Str Z h x cs b k) : b < h.size := F.2.2.2.1.lt
end
theorem AI.len {Z : State} {h : Heap} {a : Addr} {ty : FieldType} {xs : List Int32} (A : AI Z h a ty xs) : xs.length < 2 ^ 31 := by obtain ⟨c, -, -, q, -⟩ := A; exact q
theorem nar_cod {k : Int32} {cs : List Int32} (h : (k = 0 ∧ ∀ c ∈ cs, ¬ (255 : Int32) < c) ∨ (k = 1 ∧ ∃ c ∈ cs, (255 : Int32) < c)) : narrow .byte (.int k) = .int k := by
  rcases h with ⟨rfl, -⟩ | ⟨rfl, -⟩ <;> rfl
theorem fits_cod {k : Int32} {cs : List Int32} (h : (k = 0 ∧ ∀ c ∈ cs, ¬ (255 : Int32) < c) ∨ (k = 1 ∧ ∃ c ∈ cs, (255 : Int32) < c)) : fits .byte (.int k) = true := by
  rcases h with ⟨rfl, -⟩ | ⟨rfl, -⟩ <;> decide
theorem isCh_iff {c : Int32} : isCh c ↔ 0 ≤ c.toInt ∧ c.toInt ≤ 65535 := by
  have e1 : (65535 : Int32).toInt = 65535 := rfl
  simp only [isCh, fits, Bool.and_eq_true, decide_eq_true_eq, Int32.le_iff_toInt_le, Int32.toInt_zero, e1]
theorem lt255 {c : Int32} : (255 : Int32) < c ↔ 255 < c.toInt := by
  have e1 : (255 : Int32).toInt = 255 := rfl
  rw [Int32.lt_iff_toInt_lt, e1]
theorem isCh_ofNat {c : Int32} (h : isCh c) : ∃ n : Nat, n < 65536 ∧ c = Int32.ofNat n := by
  obtain ⟨h1, h2⟩ := isCh_iff.mp h
  refine ⟨c.toInt.toNat, by omega, ?_⟩
  apply Int32.toInt_inj.mp
  rw [Int32.toInt_ofNat_of_lt (by omega)]
  omega
theorem flat_len (cs : List Int32) : (cs.flatMap two).length = 2 * cs.length := by
  induction cs with
  | nil => rfl
  | cons c cs ih => simp [List.flatMap_cons, two, ih]; omega
theorem flat_lo {cs : List Int32} {i : Nat} {c : Int32} (hc : cs[i]? = some c) : (cs.flatMap two)[2 * i]? = some (lo8 c) := by
  induction cs generalizing i with
  | nil => simp at hc
  | cons d cs ih =>
    cases i with
    | zero => simp at hc; subst hc; rfl
    | succ i =>
      rw [List.flatMap_cons, show 2 * (i + 1) = 2 * i + 2 by omega]
      have := ih (i := i) (by simpa using hc)
      simpa [two] using this
theorem flat_hi {cs : List Int32} {i : Nat} {c : Int32} (hc : cs[i]? = some c) : (cs.flatMap two)[2 * i + 1]? = some (lo8 (c >>> 8)) := by
  induction cs generalizing i with
  | nil => simp at hc
  | cons d cs ih =>
    cases i with
    | zero => simp at hc; subst hc; rfl
    | succ i =>
      rw [List.flatMap_cons, show 2 * (i + 1) + 1 = 2 * i + 1 + 2 by omega]
      have := ih (i := i) (by simpa using hc)
      simpa [two] using this
theorem flat_take {cs : List Int32} {i : Nat} {c : Int32} (hc : cs[i]? = some c) : (cs.take (i + 1)).flatMap two = (cs.take i).flatMap two ++ two c := by
  rw [List.take_add_one, hc, List.flatMap_append]
  simp
theorem set_two {cs : List Int32} {i n : Nat} {c : Int32} (hn : cs.length = n) (hc : cs[i]? = some c) :
    ((((cs.take i).flatMap two ++ List.replicate (2 * n - 2 * i) 0).set (2 * i) (lo8 c)).set (2 * i + 1) (lo8 (c >>> 8))) = (cs.take (i + 1)).flatMap two ++ List.replicate (2 * n - 2 * (i + 1)) 0 := by
  have hi := (List.getElem?_eq_some_iff.mp hc).1
  have hl : ((cs.take i).flatMap two).length = 2 * i := by rw [flat_len]; simp; omega
  rw [flat_take hc, List.set_append_right _ _ (by omega), hl, Nat.sub_self]
  obtain ⟨m, hm⟩ : ∃ m, 2 * n - 2 * i = m + 2 := ⟨2 * n - 2 * i - 2, by omega⟩
  rw [hm, List.replicate_succ, List.replicate_succ, List.set_cons_zero, List.set_append_right _ _ (by omega), hl]
  have e : 2 * i + 1 - 2 * i = 1 := by omega
  have e2 : 2 * n - 2 * (i + 1) = m := by omega
  rw [e, e2]
  simp [two]
theorem fill2_len {cs : List Int32} {i n : Nat} (hn : cs.length = n) (hi : i ≤ n) : ((cs.take i).flatMap two ++ List.replicate (2 * n - 2 * i) (0 : Int32)).length = 2 * n := by
  rw [List.length_append, flat_len]; simp; omega
theorem lat_or (cs : List Int32) : (∀ c ∈ cs, ¬ (255 : Int32) < c) ∨ ∃ (k : Nat) (c : Int32), cs[k]? = some c ∧ (255 : Int32) < c ∧ ∀ (i : Nat) (d : Int32), i < k → cs[i]? = some d → ¬ (255 : Int32) < d := by
  induction cs with
  | nil => left; simp
  | cons d cs ih =>
    by_cases hd : (255 : Int32) < d
    · right; exact ⟨0, d, rfl, hd, fun i e hi => absurd hi (by omega)⟩
    · rcases ih with ih | ⟨k, c, h1, h2, h3⟩
      · left; intro c hc
        rcases List.mem_cons.mp hc with rfl | hc
        · exact hd
        · exact ih c hc
      · right
        refine ⟨k + 1, c, by simpa using h1, h2, fun i e hi he => ?_⟩
        cases i with
        | zero => simp at he; subst he; exact hd
        | succ i => exact h3 i e (by omega) (by simpa using he)
theorem sh0 (c : Int32) : c >>> ((0 : Int32) &&& 31) = c := by
  apply Int32.toBitVec_inj.mp
  simp
theorem shl0 (c : Int32) : c <<< ((0 : Int32) &&& 31) = c := by
  apply Int32.toBitVec_inj.mp
  simp
theorem sh8 (c : Int32) : c >>> ((8 : Int32) &&& 31) = c >>> 8 := rfl
theorem shl8 (c : Int32) : c <<< ((8 : Int32) &&& 31) = c <<< 8 := rfl
theorem ofNat_shl1 {i : Nat} : Int32.ofNat i <<< ((1 : Int32) &&& 31) = Int32.ofNat (2 * i) := by
  have e : Int32.ofNat i <<< ((1 : Int32) &&& 31) = Int32.ofNat i <<< (1 : Int32) := rfl
  rw [e]
  apply Int32.toBitVec_inj.mp
  show BitVec.ofNat 32 i <<< _ = BitVec.ofNat 32 (2 * i)
  apply BitVec.eq_of_toNat_eq
  have e2 : (Int32.toBitVec 1).smod 32 = 1#32 := by decide
  simp [Nat.shiftLeft_eq, Nat.mul_comm]
theorem toInt_bv {i : Nat} (h : i < 2 ^ 31) : (BitVec.ofNat 32 i).toInt = i := by
  show (Int32.ofNat i).toInt = i
  exact Int32.toInt_ofNat_of_lt (by omega)
theorem shrK {i k : Nat} (h : i < 2 ^ 31) : (⟨⟨(BitVec.ofNat 32 i).sshiftRight k⟩⟩ : Int32) = Int32.ofNat (i / 2 ^ k) := by
  have hle : i / 2 ^ k ≤ i := Nat.div_le_self _ _
  apply Int32.toInt_inj.mp
  show BitVec.toInt ((BitVec.ofNat 32 i).sshiftRight k) = _
  rw [BitVec.toInt_sshiftRight, Int32.toInt_ofNat_of_lt (by omega), toInt_bv h, Int.shiftRight_eq_div_pow]
  norm_cast
theorem shr1 {i : Nat} (h : i < 2 ^ 31) : Int32.ofNat i >>> ((1 : Int32) &&& 31) = Int32.ofNat (i / 2) := shrK (k := 1) h
theorem shr0 {i : Nat} : Int32.ofNat i >>> ((0 : Int32) &&& 31) = Int32.ofNat i := sh0 _
theorem mask8 {n : Nat} (h : n < 256) : lo8 (Int32.ofNat n) &&& 255 = Int32.ofNat n := by
  have t : ∀ k : Fin 256, lo8 (Int32.ofNat k.val) &&& 255 = Int32.ofNat k.val := by decide +kernel
  exact t ⟨n, h⟩
theorem lat_mask {c : Int32} (h1 : isCh c) (h2 : ¬ (255 : Int32) < c) : lo8 c &&& 255 = c := by
  obtain ⟨n, hn, rfl⟩ := isCh_ofNat h1
  rw [lt255, Int32.toInt_ofNat_of_lt (by omega)] at h2
  exact mask8 (by omega)
theorem i2c_ch {c : Int32} (h : isCh c) : c.toUInt32.toUInt16.toUInt32.toInt32 = c := by
  obtain ⟨n, hn, rfl⟩ := isCh_ofNat h
  apply Int32.toBitVec_inj.mp
  apply BitVec.eq_of_toNat_eq
  simp
  omega
theorem nar_ch {c : Int32} (h : isCh c) : nar .char c = c := i2c_ch h
theorem shr8 {i : Nat} (h : i < 2 ^ 31) : Int32.ofNat i >>> (8 : Int32) = Int32.ofNat (i / 256) := shrK (k := 8) h
theorem lo8_mod (n : Nat) : lo8 (Int32.ofNat n) = lo8 (Int32.ofNat (n % 256)) := by
  show (Int32.ofNat n).toInt8.toInt32 = (Int32.ofNat (n % 256)).toInt8.toInt32
  congr 1
  apply Int8.toBitVec_inj.mp
  apply BitVec.eq_of_toNat_eq
  simp
theorem ofNat_shl8 {i : Nat} : Int32.ofNat i <<< (8 : Int32) = Int32.ofNat (i * 256) := by
  apply Int32.toBitVec_inj.mp
  show BitVec.ofNat 32 i <<< _ = BitVec.ofNat 32 (i * 256)
  apply BitVec.eq_of_toNat_eq
  simp [Nat.shiftLeft_eq]
theorem ofNat_or {a b : Nat} : (Int32.ofNat a ||| Int32.ofNat b) = Int32.ofNat (a ||| b) := by
  apply Int32.toBitVec_inj.mp
  show BitVec.ofNat 32 a ||| BitVec.ofNat 32 b = BitVec.ofNat 32 (a ||| b)
  apply BitVec.eq_of_toNat_eq
  simp
theorem join16 {c : Int32} (h : isCh c) : ((lo8 c &&& (255 : Int32)) ||| ((lo8 (c >>> (8 : Int32)) &&& (255 : Int32)) <<< (8 : Int32))) = c := by
  obtain ⟨n, hn, rfl⟩ := isCh_ofNat h
  rw [lo8_mod, mask8 (Nat.mod_lt _ (by omega)), shr8 (by omega), mask8 (by omega), ofNat_shl8, ofNat_or]
  congr 1
  have h1 := Nat.shiftLeft_add_eq_or_of_lt (show n % 256 < 2 ^ 8 by omega) (n / 256)
  rw [Nat.shiftLeft_eq] at h1
  rw [Nat.or_comm, ← h1]
  omega
theorem cod1 {n : Nat} (h1 : 0 < n) (h2 : n < 2 ^ 29) : XT.ushr (Int32.ofNat n - Int32.ofNat (2 * n)) 31 = 1 := by
  have e : Int32.ofNat n - Int32.ofNat (2 * n) = Int32.ofNat (2 ^ 32 - n) := by
    apply Int32.toBitVec_inj.mp
    apply BitVec.eq_of_toNat_eq
    simp
    omega
  rw [e]
  apply Int32.toBitVec_inj.mp
  apply BitVec.eq_of_toNat_eq
  show (BitVec.ofNat 32 (2 ^ 32 - n) >>> 31).toNat = 1
  simp [Nat.shiftRight_eq_div_pow]
  omega
end Jvm.GoK
namespace Jvm.GoK
open Jvm Jvm.ClassFile Sem Op Lib Jvm.Free Jvm.Stand Jvm.LawKit Jvm.RoadKit Bundle
theorem flat_takes (cs : List Int32) (e : Nat) : (cs.flatMap two).take (2 * e) = (cs.take e).flatMap two := by
  induction cs generalizing e with
  | nil => simp
  | cons c cs ih =>
    cases e with
    | zero => simp
    | succ e =>
      rw [List.flatMap_cons, List.take_succ_cons, List.flatMap_cons, show 2 * (e + 1) = 2 * e + 2 by omega]
      simp [two, ih]
theorem or_nneg {a b : Nat} (ha : a < 2 ^ 31) (hb : b < 2 ^ 31) : ¬ (Int32.ofNat a ||| Int32.ofNat b) < 0 := by
  rw [ofNat_or]
  exact ofNat_nlt (n := 0) (Nat.zero_le _) (Nat.or_lt_two_pow ha hb)
theorem or_lt31 {a b : Nat} (ha : a < 2 ^ 31) (hb : b < 2 ^ 31) : a ||| b < 2 ^ 31 := Nat.or_lt_two_pow ha hb
end Jvm.GoK
namespace Jvm.Pilot.@@N@@
open Jvm Jvm.ClassFile Sem Op Lib Jvm.Free Jvm.Stand Jvm.LawKit Jvm.RoadKit Bundle Jvm.GoK Jvm.Pilot.@@N@@.Jvm.D
def own_EL : List (String × Nat) := [("java/lang/String", 7), ("java/lang/StringLatin1", 151)]
theorem own_atoms {Z : State} {a0 : Array Value} (hw : ∀ d ∈ tables_1, d.before a0 Z = true) : ∀ a ∈ Bundle.stringAtoms, a.before a0 Z = true := fun d hd => hw d ((by decide +kernel : ∀ d ∈ Bundle.stringAtoms, d ∈ tables_1) d hd)
theorem d0_3 : Dec jdk_52_method_21_code 3 (.iload 5) 2 5 := ⟨by decide +kernel, rfl⟩
theorem d0_5 : Dec jdk_52_method_21_code 5 (.iload 4) 2 7 := ⟨by decide +kernel, rfl⟩
theorem d0_7 : Brn jdk_52_method_21_code 7 (.if_icmp .ge 37) 37 10 44 := ⟨by decide +kernel, rfl, by decide, by decide⟩
theorem d0_44 : Dec jdk_52_method_21_code 44 (.iload 4) 2 46 := ⟨by decide +kernel, rfl⟩
theorem d0_46 : Dec jdk_52_method_21_code 46 (.ireturn) 1 47 := ⟨by decide +kernel, rfl⟩
theorem d0_10 : Dec jdk_52_method_21_code 10 (.aload_n 0) 1 11 := ⟨by decide +kernel, rfl⟩
theorem d0_11 : Dec jdk_52_method_21_code 11 (.iload_n 1) 1 12 := ⟨by decide +kernel, rfl⟩
theorem d0_12 : Dec jdk_52_method_21_code 12 (.caload) 1 13 := ⟨by decide +kernel, rfl⟩
theorem d0_13 : Dec jdk_52_method_21_code 13 (.istore 6) 2 15 := ⟨by decide +kernel, rfl⟩
theorem d0_15 : Dec jdk_52_method_21_code 15 (.iload 6) 2 17 := ⟨by decide +kernel, rfl⟩
theorem d0_17 : Dec jdk_52_method_21_code 17 (.sipush 255) 3 20 := ⟨by decide +kernel, rfl⟩
theorem d0_20 : Brn jdk_52_method_21_code 20 (.if_icmp .le 6) 6 23 26 := ⟨by decide +kernel, rfl, by decide, by decide⟩
theorem d0_26 : Dec jdk_52_method_21_code 26 (.aload_n 2) 1 27 := ⟨by decide +kernel, rfl⟩
theorem d0_27 : Dec jdk_52_method_21_code 27 (.iload_n 3) 1 28 := ⟨by decide +kernel, rfl⟩
theorem d0_28 : Dec jdk_52_method_21_code 28 (.iload 6) 2 30 := ⟨by decide +kernel, rfl⟩
theorem d0_30 : Dec jdk_52_method_21_code 30 (.i2b) 1 31 := ⟨by decide +kernel, rfl⟩
theorem d0_31 : Dec jdk_52_method_21_code 31 (.bastore) 1 32 := ⟨by decide +kernel, rfl⟩
theorem d0_32 : Dec jdk_52_method_21_code 32 (.iinc 1 1) 3 35 := ⟨by decide +kernel, rfl⟩
theorem d0_35 : Dec jdk_52_method_21_code 35 (.iinc 3 1) 3 38 := ⟨by decide +kernel, rfl⟩
theorem d0_38 : Dec jdk_52_method_21_code 38 (.iinc 5 1) 3 41 := ⟨by decide +kernel, rfl⟩
theorem d0_41 : Brn jdk_52_method_21_code 41 (.goto (-38)) (-38) 44 3 := ⟨by decide +kernel, rfl, by decide, by decide⟩
theorem d0_23 : Dec jdk_52_method_21_code 23 (.iload 5) 2 25 := ⟨by decide +kernel, rfl⟩
theorem d0_25 : Dec jdk_52_method_21_code 25 (.ireturn) 1 26 := ⟨by decide +kernel, rfl⟩
theorem d0_0 : Dec jdk_52_method_21_code 0 (.iconst 0) 1 1 := ⟨by decide +kernel, rfl⟩
theorem d0_1 : Dec jdk_52_method_21_code 1 (.istore 5) 2 3 := ⟨by decide +kernel, rfl⟩
theorem pn0 : plainName "java/lang/StringUTF16" = true := by first | (simp [plainName, overriddenIn]; done) | decide +kernel
set_option maxRecDepth 65536 in
set_option maxHeartbeats 40000000 in
theorem c_cmp1 (l : Launch) (Z : State) (a0 : Array Value) (hw : ∀ d ∈ tables_1, d.before a0 Z = true) (hEL : EW Z a0 own_EL) (src dst : Addr) (cs : List Int32) (k : Nat) (S : Addr → Prop) (h0 : Heap) (hz : Z.heap.size ≤ h0.size) (A1 : AI Z h0 src .char cs) (A2 : AI Z h0 dst .byte (List.replicate cs.length 0)) (gd : Z.heap.size ≤ dst) (sd : S dst) (hk : k ≤ cs.length) (hpre : ∀ i c, i < k → cs[i]? = some c → ¬ (255 : Int32) < c) (hat : ∀ c, cs[k]? = some c → (255 : Int32) < c) :
    Con l Z own_EL [] (⟨"java/lang/StringUTF16", "compress", "([CI[BII)I"⟩ : MethodName) jdk_52_method_21_code 7 (some .int) ({ frames := 0, cells := 0, slots := 0, locals := 0 } : Room) #[.ref src, .int (0 : Int32), .ref dst, .int (0 : Int32), .int (Int32.ofNat cs.length)] S h0 (fun S' v h' => v = some (.int (Int32.ofNat k)) ∧ Keep h0 h' [dst] ∧ AI Z h' dst .byte ((cs.take k).map lo8 ++ List.replicate (cs.length - k) 0) ∧ ∀ x, S x → S' x) := by
  have hlen : cs.length < 2 ^ 31 := by obtain ⟨c, -, -, q, -⟩ := A1; exact q
  have hne : src ≠ dst := A1.ne_ty A2 (by decide)
  refine con_of_go (ls := #[.val (.ref src), .val (.int (0 : Int32)), .val (.ref dst), .val (.int (0 : Int32)), .val (.int (Int32.ofNat cs.length)), .unset, .unset]) (plainFor_of_name pn0) hEL (fun m => by first | rfl | (simp [entryFrame, mkF, argsToLocals, cat_int, cat_ref, cat_null, cat_long]; done)) (fun K => ?_)
  show Go _ _ _ _ _ _ _ _ _ _ _ _ _ 0 0 _ _ _
  have loop : ∀ r i, i + r = cs.length → i ≤ k → ∀ (s6 : Slot) (hs6 : s6 = .unset ∨ ∃ w, s6 = .val w ∧ w.category = 1) (h1 : Heap), Keep h0 h1 [dst] → AI Z h1 src .char cs → AI Z h1 dst .byte ((cs.take i).map lo8 ++ List.replicate (cs.length - i) 0) → Go l Z a0 own_EL ({ frames := 0, cells := 0, slots := 0, locals := 0 } : Room) "java/lang/StringUTF16" jdk_52_method_21_code 7 (some .int) "compress" S (fun S' v h' => v = some (.int (Int32.ofNat k)) ∧ Keep h0 h' [dst] ∧ AI Z h' dst .byte ((cs.take k).map lo8 ++ List.replicate (cs.length - k) 0) ∧ ∀ x, S x → S' x) K 0 0 S h1 (mkF K.m 3 #[.val (.ref src), .val (.int (Int32.ofNat i)), .val (.ref dst), .val (.int (Int32.ofNat i)), .val (.int (Int32.ofNat cs.length)), .val (.int (Int32.ofNat i)), s6] []) := by
    intro r
    induction r with
    | zero =>
      intro i hi hik0 s6 hs6 h1 Kp B1 B2
      refine go_iload d0_3 rfl ?_
      refine go_iload d0_5 rfl ?_
      refine go_icmpge d0_7 (fun c1011 => ?_) (fun c1011 => absurd c1011 (ofNat_nlt (by omega) (by omega)))
      refine go_iload d0_44 rfl ?_
      exact go_ireturn (ty := .int) (v := (Int32.ofNat cs.length)) d0_46 rfl (by simp) rfl ⟨by congr 3; omega, Kp, by rw [show k = i by omega]; exact B2, fun _ q => q⟩
    | succ r ih =>
      intro i hi hik0 s6 hs6 h1 Kp B1 B2
      have zK := Kp.1
      obtain ⟨c, hc⟩ : ∃ c, cs[i]? = some c := ⟨_, List.getElem?_eq_getElem (by omega)⟩
      refine go_iload d0_3 rfl ?_
      refine go_iload d0_5 rfl ?_
      refine go_icmpge d0_7 (fun c1011 => absurd (ofNat_lt (by omega) (by omega)) c1011) (fun c1011 => ?_)
      refine go_aloadN d0_10 rfl rfl ?_
      refine go_iloadN d0_11 rfl ?_
      refine go_caload (x := c) B1 (i := i) rfl hc d0_12 ?_
      refine go_istoreS d0_13 rfl hs6 (l' := #[.val (.ref src), .val (.int (Int32.ofNat i)), .val (.ref dst), .val (.int (Int32.ofNat i)), .val (.int (Int32.ofNat cs.length)), .val (.int (Int32.ofNat i)), .val (.int c)]) rfl ?_
      refine go_iload d0_15 rfl ?_
      refine go_sipush (x := (255 : Int32)) d0_17 (by decide) ?_
      refine go_icmple d0_20 (fun c20 => ?_) (fun c20 => ?_)
      · have hik : i < k := by
          rcases Nat.lt_or_ge i k with q | q
          · exact q
          · exact absurd (hat c (by rw [show k = i by omega]; exact hc)) c20
        refine go_aloadN d0_26 rfl rfl ?_
        refine go_iloadN d0_27 rfl ?_
        refine go_iload d0_28 rfl ?_
        refine go_i2b (v := (lo8 c)) d0_30 rfl ?_
        refine go_bastore (v := (lo8 c)) B2 (by omega) sd (i := i) rfl (by rw [fill_len lo8 rfl (by omega)]; omega) (nar_lo8 c) d0_31 (fun h1012 K1012 A1012 => ?_)
        have z1012 := K1012.1
        have A1012 : AI Z h1012 dst .byte ((cs.take (i + 1)).map lo8 ++ List.replicate (cs.length - (i + 1)) 0) := set_fill lo8 rfl hc ▸ A1012
        refine go_iinc d0_32 rfl (v := (Int32.ofNat (i + 1))) (ofNat_inc i) (l' := #[.val (.ref src), .val (.int (Int32.ofNat (i + 1))), .val (.ref dst), .val (.int (Int32.ofNat i)), .val (.int (Int32.ofNat cs.length)), .val (.int (Int32.ofNat i)), .val (.int c)]) rfl ?_
        refine go_iinc d0_35 rfl (v := (Int32.ofNat (i + 1))) (ofNat_inc i) (l' := #[.val (.ref src), .val (.int (Int32.ofNat (i + 1))), .val (.ref dst), .val (.int (Int32.ofNat (i + 1))), .val (.int (Int32.ofNat cs.length)), .val (.int (Int32.ofNat i)), .val (.int c)]) rfl ?_
        refine go_iinc d0_38 rfl (v := (Int32.ofNat (i + 1))) (ofNat_inc i) (l' := #[.val (.ref src), .val (.int (Int32.ofNat (i + 1))), .val (.ref dst), .val (.int (Int32.ofNat (i + 1))), .val (.int (Int32.ofNat cs.length)), .val (.int (Int32.ofNat (i + 1))), .val (.int c)]) rfl ?_
        refine go_goto d0_41 ?_
        have f1013 := (B1.keep K1012 (ninS hne nin0))
        exact ih (i + 1) (by omega) (by omega) _ (Or.inr ⟨_, rfl, rfl⟩) h1012 (Kp.trans K1012 (allS (Or.inl (by simp)) all0)) f1013 A1012
      · have hik : i = k := by
          rcases Nat.lt_or_ge i k with q | q
          · exact absurd c20 (hpre i c q hc)
          · omega
        refine go_iload d0_23 rfl ?_
        exact go_ireturn (ty := .int) (v := (Int32.ofNat i)) d0_25 rfl (by simp) rfl ⟨by rw [hik], Kp, by rw [← hik]; exact B2, fun _ q => q⟩
  refine go_iconst (x := (0 : Int32)) d0_0 (by decide) ?_
  refine go_istore d0_1 (l' := #[.val (.ref src), .val (.int (0 : Int32)), .val (.ref dst), .val (.int (0 : Int32)), .val (.int (Int32.ofNat cs.length)), .val (.int (0 : Int32)), .unset]) rfl ?_
  exact loop cs.length 0 (by omega) (by omega) _ (Or.inl rfl) h0 (Keep.refl _ _) A1 (by simpa using A2)
theorem d1_0 : Dec jdk_42_method_152_code 0 (.getstatic 38) 3 3 := ⟨by decide +kernel, rfl⟩
theorem d1_3 : Brn jdk_42_method_152_code 3 (.ifCond .eq 10) 10 6 13 := ⟨by decide +kernel, rfl, by decide, by decide⟩
theorem d1_6 : Dec jdk_42_method_152_code 6 (.aload_n 0) 1 7 := ⟨by decide +kernel, rfl⟩
theorem d1_7 : Dec jdk_42_method_152_code 7 (.getfield 15) 3 10 := ⟨by decide +kernel, rfl⟩
theorem d1_10 : Brn jdk_42_method_152_code 10 (.goto 4) 4 13 14 := ⟨by decide +kernel, rfl, by decide, by decide⟩
theorem d1_14 : Dec jdk_42_method_152_code 14 (.ireturn) 1 15 := ⟨by decide +kernel, rfl⟩
theorem pn1 : plainName "java/lang/String" = true := by first | (simp [plainName, overriddenIn]; done) | decide +kernel
set_option maxRecDepth 65536 in
set_option maxHeartbeats 40000000 in
theorem c_coder (l : Launch) (Z : State) (a0 : Array Value) (hw : ∀ d ∈ tables_1, d.before a0 Z = true) (hEL : EW Z a0 own_EL) (x : Addr) (cs : List Int32) (b : Addr) (k : Int32) (S : Addr → Prop) (h0 : Heap) (F : Str Z h0 x cs b k) (zc : Int32) (Oc : Sta Z Z.heap "java/lang/String" "COMPACT_STRINGS" "Z" (.int zc)) (Pc : ¬ zc = 0) :
    Con l Z own_EL [] (⟨"java/lang/String", "coder", "()B"⟩ : MethodName) jdk_42_method_152_code 1 (some .byte) ({ frames := 0, cells := 0, slots := 0, locals := 0 } : Room) #[.ref x] S h0 (fun S' v h' => v = some (.int k) ∧ h0 = h') := by
  refine con_of_go (ls := #[.val (.ref x)]) (plainFor_of_name pn1) hEL (fun m => by first | rfl | (simp [entryFrame, mkF, argsToLocals, cat_int, cat_ref, cat_null, cat_long]; done)) (fun K => ?_)
  show Go _ _ _ _ _ _ _ _ _ _ _ _ _ 0 0 _ _ _
  refine go_gets (hw _ (List.mem_of_getElem? (i := 37) rfl)) Via.refl Oc d1_0 ?_
  refine go_ifeq d1_3 (fun c1001 => absurd c1001 (Pc)) (fun c1001 => ?_)
  refine go_aloadN d1_6 rfl rfl ?_
  refine go_getf (hw _ (List.mem_of_getElem? (i := 22) rfl)) Via.refl F.2.1 d1_7 ?_
  refine go_goto d1_10 ?_
  exact go_ireturn (ty := .byte) (v := k) d1_14 rfl (by simp) (nar_cod F.2.2.2.2.1) ⟨rfl, rfl⟩
theorem d2_0 : Dec jdk_42_method_154_code 0 (.getstatic 38) 3 3 := ⟨by decide +kernel, rfl⟩
theorem d2_3 : Brn jdk_42_method_154_code 3 (.ifCond .eq 14) 14 6 17 := ⟨by decide +kernel, rfl, by decide, by decide⟩
theorem d2_6 : Dec jdk_42_method_154_code 6 (.aload_n 0) 1 7 := ⟨by decide +kernel, rfl⟩
theorem d2_7 : Dec jdk_42_method_154_code 7 (.getfield 15) 3 10 := ⟨by decide +kernel, rfl⟩
theorem d2_10 : Brn jdk_42_method_154_code 10 (.ifCond .ne 7) 7 13 17 := ⟨by decide +kernel, rfl, by decide, by decide⟩
theorem d2_13 : Dec jdk_42_method_154_code 13 (.iconst 1) 1 14 := ⟨by decide +kernel, rfl⟩
theorem d2_14 : Brn jdk_42_method_154_code 14 (.goto 4) 4 17 18 := ⟨by decide +kernel, rfl, by decide, by decide⟩
theorem d2_18 : Dec jdk_42_method_154_code 18 (.ireturn) 1 19 := ⟨by decide +kernel, rfl⟩
theorem d2_17 : Dec jdk_42_method_154_code 17 (.iconst 0) 1 18 := ⟨by decide +kernel, rfl⟩
set_option maxRecDepth 65536 in
set_option maxHeartbeats 40000000 in
theorem c_lat (l : Launch) (Z : State) (a0 : Array Value) (hw : ∀ d ∈ tables_1, d.before a0 Z = true) (hEL : EW Z a0 own_EL) (x : Addr) (cs : List Int32) (b : Addr) (k : Int32) (S : Addr → Prop) (h0 : Heap) (F : Str Z h0 x cs b k) (zc : Int32) (Oc : Sta Z Z.heap "java/lang/String" "COMPACT_STRINGS" "Z" (.int zc)) (Pc : ¬ zc = 0) :
    Con l Z own_EL [] (⟨"java/lang/String", "isLatin1", "()Z"⟩ : MethodName) jdk_42_method_154_code 1 (some .boolean) ({ frames := 0, cells := 0, slots := 0, locals := 0 } : Room) #[.ref x] S h0 (fun S' v h' => v = some (.int ((1 : Int32) - k)) ∧ h0 = h') := by
  have F0 := F
  obtain ⟨-, -, -, -, hk, -⟩ := F0
  rcases hk with ⟨rfl, hk⟩ | ⟨rfl, hk⟩
  · refine con_of_go (ls := #[.val (.ref x)]) (plainFor_of_name pn1) hEL (fun m => by first | rfl | (simp [entryFrame, mkF, argsToLocals, cat_int, cat_ref, cat_null, cat_long]; done)) (fun K => ?_)
    show Go _ _ _ _ _ _ _ _ _ _ _ _ _ 0 0 _ _ _
    refine go_gets (hw _ (List.mem_of_getElem? (i := 37) rfl)) Via.refl Oc d2_0 ?_
    refine go_ifeq d2_3 (fun c1001 => absurd c1001 (Pc)) (fun c1001 => ?_)
    refine go_aloadN d2_6 rfl rfl ?_
    refine go_getf (hw _ (List.mem_of_getElem? (i := 22) rfl)) Via.refl F.2.1 d2_7 ?_
    refine go_ifne d2_10 (fun c1002 => absurd (rfl) c1002) (fun c1002 => ?_)
    refine go_iconst (x := (1 : Int32)) d2_13 (by decide) ?_
    refine go_goto d2_14 ?_
    exact go_ireturn (ty := .boolean) (v := (1 : Int32)) d2_18 rfl (by simp) rfl ⟨rfl, rfl⟩
  · refine con_of_go (ls := #[.val (.ref x)]) (plainFor_of_name pn1) hEL (fun m => by first | rfl | (simp [entryFrame, mkF, argsToLocals, cat_int, cat_ref, cat_null, cat_long]; done)) (fun K => ?_)
    show Go _ _ _ _ _ _ _ _ _ _ _ _ _ 0 0 _ _ _
    refine go_gets (hw _ (List.mem_of_getElem? (i := 37) rfl)) Via.refl Oc d2_0 ?_
    refine go_ifeq d2_3 (fun c1001 => absurd c1001 (Pc)) (fun c1001 => ?_)
    refine go_aloadN d2_6 rfl rfl ?_
    refine go_getf (hw _ (List.mem_of_getElem? (i := 22) rfl)) Via.refl F.2.1 d2_7 ?_
    refine go_ifne d2_10 (fun c1002 => ?_) (fun c1002 => absurd c1002 (by decide))
    refine go_iconst (x := (0 : Int32)) d2_17 (by decide) ?_
    exact go_ireturn (ty := .boolean) (v := (0 : Int32)) d2_18 rfl (by simp) rfl ⟨rfl, rfl⟩
theorem d3_0 : Dec jdk_42_method_54_code 0 (.aload_n 0) 1 1 := ⟨by decide +kernel, rfl⟩
theorem d3_1 : Dec jdk_42_method_54_code 1 (.getfield 9) 3 4 := ⟨by decide +kernel, rfl⟩
theorem d3_4 : Dec jdk_42_method_54_code 4 (.arraylength) 1 5 := ⟨by decide +kernel, rfl⟩
theorem d3_5 : Dec jdk_42_method_54_code 5 (.aload_n 0) 1 6 := ⟨by decide +kernel, rfl⟩
theorem d3_6 : Dec jdk_42_method_54_code 6 (.invokevirtual 335) 3 9 := ⟨by decide +kernel, rfl⟩
theorem pd0 : parseMethodDescriptor "()B" = some ⟨[], some .byte⟩ := by decide +kernel
theorem d3_9 : Dec jdk_42_method_54_code 9 (.ishr) 1 10 := ⟨by decide +kernel, rfl⟩
theorem d3_10 : Dec jdk_42_method_54_code 10 (.ireturn) 1 11 := ⟨by decide +kernel, rfl⟩
set_option maxRecDepth 65536 in
set_option maxHeartbeats 40000000 in
theorem c_len (l : Launch) (Z : State) (a0 : Array Value) (hw : ∀ d ∈ tables_1, d.before a0 Z = true) (hEL : EW Z a0 own_EL) (x : Addr) (cs : List Int32) (b : Addr) (k : Int32) (S : Addr → Prop) (h0 : Heap) (F : Str Z h0 x cs b k) (zc : Int32) (Oc : Sta Z Z.heap "java/lang/String" "COMPACT_STRINGS" "Z" (.int zc)) (Pc : ¬ zc = 0) :
    Con l Z own_EL [] (⟨"java/lang/String", "length", "()I"⟩ : MethodName) jdk_42_method_54_code 1 (some .int) ({ frames := 1, cells := 0, slots := 0, locals := 13 } : Room) #[.ref x] S h0 (fun S' v h' => v = some (.int (Int32.ofNat cs.length)) ∧ h0 = h') := by
  have F0 := F
  obtain ⟨-, -, -, -, hk, hch, hlen⟩ := F0
  rcases hk with ⟨rfl, hk⟩ | ⟨rfl, hk⟩
  · refine con_of_go (ls := #[.val (.ref x)]) (plainFor_of_name pn1) hEL (fun m => by first | rfl | (simp [entryFrame, mkF, argsToLocals, cat_int, cat_ref, cat_null, cat_long]; done)) (fun K => ?_)
    show Go _ _ _ _ _ _ _ _ _ _ _ _ _ 0 0 _ _ _
    refine go_aloadN d3_0 rfl rfl ?_
    refine go_getf (hw _ (List.mem_of_getElem? (i := 21) rfl)) Via.refl F.2.2.1 d3_1 ?_
    refine go_alen F.2.2.2.1 d3_4 (v := (Int32.ofNat cs.length)) (by rw [sbytes0]; simp) ?_
    refine go_aloadN d3_5 rfl rfl ?_
    refine go_virtual (R := ({ frames := 1, cells := 0, slots := 0, locals := 13 } : Room)) (kc := 0) (ks := 0) [] [.int (Int32.ofNat cs.length)] (c_coder l Z a0 hw hEL x _ _ _ S h0 F zc Oc Pc) F.1 (hw _ (List.mem_of_getElem? (i := 32) rfl)) (hw _ (List.mem_of_getElem? (i := 33) rfl)) (hw _ (List.mem_of_getElem? (i := 35) rfl)) (hw _ (List.mem_of_getElem? (i := 34) rfl)) (nfSel (hw _ (List.mem_of_getElem? (i := 35) rfl))) (hw _ (List.mem_of_getElem? (i := 36) rfl)) (hw _ (List.mem_of_getElem? (i := 4) rfl)) (by decide) rfl rfl (lenOf pd0 rfl) d3_6 (by rfl) (by decide) (Nat.le_of_ble_eq_true rfl) (rc := 0) (rs := 0) rfl rfl (fun S1001 v1001 h1001 m1001 z1001 q1001 => ?_)
    obtain ⟨rfl, rfl⟩ := q1001
    show Go _ _ _ _ _ _ _ _ _ _ _ _ _ _ _ _ _ (mkF K.m 9 #[.val (.ref x)] [.int (0 : Int32), .int (Int32.ofNat cs.length)])
    refine go_ishr (v := (Int32.ofNat cs.length)) d3_9 shr0 ?_
    exact go_ireturn (ty := .int) (v := (Int32.ofNat cs.length)) d3_10 rfl (by simp) rfl ⟨rfl, rfl⟩
  · refine con_of_go (ls := #[.val (.ref x)]) (plainFor_of_name pn1) hEL (fun m => by first | rfl | (simp [entryFrame, mkF, argsToLocals, cat_int, cat_ref, cat_null, cat_long]; done)) (fun K => ?_)
    show Go _ _ _ _ _ _ _ _ _ _ _ _ _ 0 0 _ _ _
    refine go_aloadN d3_0 rfl rfl ?_
    refine go_getf (hw _ (List.mem_of_getElem? (i := 21) rfl)) Via.refl F.2.2.1 d3_1 ?_
    refine go_alen F.2.2.2.1 d3_4 (v := (Int32.ofNat (2 * cs.length))) (by rw [sbytes1, flat_len]) ?_
    refine go_aloadN d3_5 rfl rfl ?_
    refine go_virtual (R := ({ frames := 1, cells := 0, slots := 0, locals := 13 } : Room)) (kc := 0) (ks := 0) [] [.int (Int32.ofNat (2 * cs.length))] (c_coder l Z a0 hw hEL x _ _ _ S h0 F zc Oc Pc) F.1 (hw _ (List.mem_of_getElem? (i := 32) rfl)) (hw _ (List.mem_of_getElem? (i := 33) rfl)) (hw _ (List.mem_of_getElem? (i := 35) rfl)) (hw _ (List.mem_of_getElem? (i := 34) rfl)) (nfSel (hw _ (List.mem_of_getElem? (i := 35) rfl))) (hw _ (List.mem_of_getElem? (i := 36) rfl)) (hw _ (List.mem_of_getElem? (i := 4) rfl)) (by decide) rfl rfl (lenOf pd0 rfl) d3_6 (by rfl) (by decide) (Nat.le_of_ble_eq_true rfl) (rc := 0) (rs := 0) rfl rfl (fun S1001 v1001 h1001 m1001 z1001 q1001 => ?_)
    obtain ⟨rfl, rfl⟩ := q1001
    show Go _ _ _ _ _ _ _ _ _ _ _ _ _ _ _ _ _ (mkF K.m 9 #[.val (.ref x)] [.int (1 : Int32), .int (Int32.ofNat (2 * cs.length))])
    refine go_ishr (v := (Int32.ofNat cs.length)) d3_9 (by rw [shr1 (by omega)]; congr 1; omega) ?_
    exact go_ireturn (ty := .int) (v := (Int32.ofNat cs.length)) d3_10 rfl (by simp) rfl ⟨rfl, rfl⟩
theorem d4_0 : Dec jdk_41_method_11_code 0 (.iload_n 0) 1 1 := ⟨by decide +kernel, rfl⟩
theorem d4_1 : Brn jdk_41_method_11_code 1 (.ifCond .lt 8) 8 4 9 := ⟨by decide +kernel, rfl, by decide, by decide⟩
theorem d4_4 : Dec jdk_41_method_11_code 4 (.iload_n 0) 1 5 := ⟨by decide +kernel, rfl⟩
theorem d4_5 : Dec jdk_41_method_11_code 5 (.iload_n 1) 1 6 := ⟨by decide +kernel, rfl⟩
theorem d4_6 : Brn jdk_41_method_11_code 6 (.if_icmp .lt 10) 10 9 16 := ⟨by decide +kernel, rfl, by decide, by decide⟩
theorem d4_16 : Dec jdk_41_method_11_code 16 (.iload_n 0) 1 17 := ⟨by decide +kernel, rfl⟩
theorem d4_17 : Dec jdk_41_method_11_code 17 (.ireturn) 1 18 := ⟨by decide +kernel, rfl⟩
theorem pn2 : plainName "jdk/internal/util/Preconditions" = true := by first | (simp [plainName, overriddenIn]; done) | decide +kernel
set_option maxRecDepth 65536 in
set_option maxHeartbeats 40000000 in
theorem c_pci (l : Launch) (Z : State) (a0 : Array Value) (hw : ∀ d ∈ tables_1, d.before a0 Z = true) (hEL : EW Z a0 own_EL) (i n : Nat) (hi : i < n) (hn : n < 2 ^ 31) (sf : Value) (rsf : sf.isRef = true) (S : Addr → Prop) (h0 : Heap) :
    Con l Z own_EL [] (⟨"jdk/internal/util/Preconditions", "checkIndex", "(IILjava/util/function/BiFunction;)I"⟩ : MethodName) jdk_41_method_11_code 3 (some .int) ({ frames := 0, cells := 0, slots := 0, locals := 0 } : Room) #[.int (Int32.ofNat i), .int (Int32.ofNat n), sf] S h0 (fun S' v h' => v = some (.int (Int32.ofNat i)) ∧ h0 = h') := by
  refine con_of_go (ls := #[.val (.int (Int32.ofNat i)), .val (.int (Int32.ofNat n)), .val (sf)]) (plainFor_of_name pn2) hEL (fun m => by first | rfl | (simp [entryFrame, mkF, argsToLocals, cat_int, cat_ref, cat_null, cat_long, XT.cat1 rsf]; done)) (fun K => ?_)
  show Go _ _ _ _ _ _ _ _ _ _ _ _ _ 0 0 _ _ _
  refine go_iloadN d4_0 rfl ?_
  refine go_iflt d4_1 (fun c1001 => absurd c1001 (ofNat_nlt (n := 0) (by omega) (by omega))) (fun c1001 => ?_)
  refine go_iloadN d4_4 rfl ?_
  refine go_iloadN d4_5 rfl ?_
  refine go_icmplt d4_6 (fun c1002 => ?_) (fun c1002 => absurd (ofNat_lt hi hn) c1002)
  refine go_iloadN d4_16 rfl ?_
  exact go_ireturn (ty := .int) (v := (Int32.ofNat i)) d4_17 rfl (by simp) rfl ⟨rfl, rfl⟩
theorem d5_0 : Dec jdk_42_method_155_code 0 (.iload_n 0) 1 1 := ⟨by decide +kernel, rfl⟩
theorem d5_1 : Dec jdk_42_method_155_code 1 (.iload_n 1) 1 2 := ⟨by decide +kernel, rfl⟩
theorem d5_2 : Dec jdk_42_method_155_code 2 (.getstatic 1053) 3 5 := ⟨by decide +kernel, rfl⟩
theorem d5_5 : Dec jdk_42_method_155_code 5 (.invokestatic 1059) 3 8 := ⟨by decide +kernel, rfl⟩
theorem pd1 : parseMethodDescriptor "(IILjava/util/function/BiFunction;)I" = some ⟨[.int, .int, (.object "java/util/function/BiFunction")], some .int⟩ := by decide +kernel
theorem d5_8 : Dec jdk_42_method_155_code 8 (.pop) 1 9 := ⟨by decide +kernel, rfl⟩
theorem d5_9 : Dec jdk_42_method_155_code 9 (.return_) 1 10 := ⟨by decide +kernel, rfl⟩
set_option maxRecDepth 65536 in
set_option maxHeartbeats 40000000 in
theorem c_sci (l : Launch) (Z : State) (a0 : Array Value) (hw : ∀ d ∈ tables_1, d.before a0 Z = true) (hEL : EW Z a0 own_EL) (i n : Nat) (hi : i < n) (hn : n < 2 ^ 31) (sf : Value) (rsf : sf.isRef = true) (Os : Sta Z Z.heap "jdk/internal/util/Preconditions" "SIOOBE_FORMATTER" "Ljava/util/function/BiFunction;" sf) (S : Addr → Prop) (h0 : Heap) :
    Con l Z own_EL [] (⟨"java/lang/String", "checkIndex", "(II)V"⟩ : MethodName) jdk_42_method_155_code 2 (none : Option FieldType) ({ frames := 1, cells := 0, slots := 0, locals := 14 } : Room) #[.int (Int32.ofNat i), .int (Int32.ofNat n)] S h0 (fun S' v h' => v = none ∧ h0 = h') := by
  refine con_of_go (ls := #[.val (.int (Int32.ofNat i)), .val (.int (Int32.ofNat n))]) (plainFor_of_name pn1) hEL (fun m => by first | rfl | (simp [entryFrame, mkF, argsToLocals, cat_int, cat_ref, cat_null, cat_long]; done)) (fun K => ?_)
  show Go _ _ _ _ _ _ _ _ _ _ _ _ _ 0 0 _ _ _
  refine go_iloadN d5_0 rfl ?_
  refine go_iloadN d5_1 rfl ?_
  refine go_gets (hw _ (List.mem_of_getElem? (i := 47) rfl)) Via.refl Os d5_2 ?_
  refine go_static (R := ({ frames := 1, cells := 0, slots := 0, locals := 14 } : Room)) (kc := 0) (ks := 0) [.int (Int32.ofNat i), .int (Int32.ofNat n), sf] [] (c_pci l Z a0 hw hEL i n hi hn sf rsf S h0) (hw _ (List.mem_of_getElem? (i := 87) rfl)) (hw _ (List.mem_of_getElem? (i := 88) rfl)) (hw _ (List.mem_of_getElem? (i := 89) rfl)) (hw _ (List.mem_of_getElem? (i := 48) rfl)) (by decide) rfl rfl (lenOf pd1 rfl) d5_5 (by rfl) (by decide) (Nat.le_of_ble_eq_true rfl) (rc := 0) (rs := 0) rfl rfl (fun S1001 v1001 h1001 m1001 z1001 q1001 => ?_)
  obtain ⟨rfl, rfl⟩ := q1001
  show Go _ _ _ _ _ _ _ _ _ _ _ _ _ _ _ _ _ (mkF K.m 8 #[.val (.int (Int32.ofNat i)), .val (.int (Int32.ofNat n))] [.int (Int32.ofNat i)])
  refine go_pop d5_8 rfl ?_
  exact go_return d5_9 rfl ⟨rfl, rfl⟩
theorem d6_0 : Dec jdk_43_method_2_code 0 (.iload_n 1) 1 1 := ⟨by decide +kernel, rfl⟩
theorem d6_1 : Dec jdk_43_method_2_code 1 (.aload_n 0) 1 2 := ⟨by decide +kernel, rfl⟩
theorem d6_2 : Dec jdk_43_method_2_code 2 (.arraylength) 1 3 := ⟨by decide +kernel, rfl⟩
theorem d6_3 : Dec jdk_43_method_2_code 3 (.invokestatic 9) 3 6 := ⟨by decide +kernel, rfl⟩
theorem pd2 : parseMethodDescriptor "(II)V" = some ⟨[.int, .int], none⟩ := by decide +kernel
theorem d6_6 : Dec jdk_43_method_2_code 6 (.aload_n 0) 1 7 := ⟨by decide +kernel, rfl⟩
theorem d6_7 : Dec jdk_43_method_2_code 7 (.iload_n 1) 1 8 := ⟨by decide +kernel, rfl⟩
theorem d6_8 : Dec jdk_43_method_2_code 8 (.baload) 1 9 := ⟨by decide +kernel, rfl⟩
theorem d6_9 : Dec jdk_43_method_2_code 9 (.sipush 255) 3 12 := ⟨by decide +kernel, rfl⟩
theorem d6_12 : Dec jdk_43_method_2_code 12 (.iand) 1 13 := ⟨by decide +kernel, rfl⟩
theorem d6_13 : Dec jdk_43_method_2_code 13 (.i2c) 1 14 := ⟨by decide +kernel, rfl⟩
theorem d6_14 : Dec jdk_43_method_2_code 14 (.ireturn) 1 15 := ⟨by decide +kernel, rfl⟩
theorem pn3 : plainName "java/lang/StringLatin1" = true := by first | (simp [plainName, overriddenIn]; done) | decide +kernel
set_option maxRecDepth 65536 in
set_option maxHeartbeats 40000000 in
theorem c_l1ch (l : Launch) (Z : State) (a0 : Array Value) (hw : ∀ d ∈ tables_1, d.before a0 Z = true) (hEL : EW Z a0 own_EL) (b : Addr) (cs : List Int32) (i : Nat) (c : Int32) (hc : cs[i]? = some c) (hc1 : isCh c) (hc2 : ¬ (255 : Int32) < c) (S : Addr → Prop) (h0 : Heap) (A : AI Z h0 b .byte (cs.map lo8)) (sf : Value) (rsf : sf.isRef = true) (Os : Sta Z Z.heap "jdk/internal/util/Preconditions" "SIOOBE_FORMATTER" "Ljava/util/function/BiFunction;" sf) :
    Con l Z own_EL [] (⟨"java/lang/StringLatin1", "charAt", "([BI)C"⟩ : MethodName) jdk_43_method_2_code 2 (some .char) ({ frames := 2, cells := 0, slots := 0, locals := 27 } : Room) #[.ref b, .int (Int32.ofNat i)] S h0 (fun S' v h' => v = some (.int c) ∧ h0 = h') := by
  refine con_of_go (ls := #[.val (.ref b), .val (.int (Int32.ofNat i))]) (plainFor_of_name pn3) hEL (fun m => by first | rfl | (simp [entryFrame, mkF, argsToLocals, cat_int, cat_ref, cat_null, cat_long]; done)) (fun K => ?_)
  show Go _ _ _ _ _ _ _ _ _ _ _ _ _ 0 0 _ _ _
  refine go_iloadN d6_0 rfl ?_
  refine go_aloadN d6_1 rfl rfl ?_
  refine go_alen A d6_2 (v := (Int32.ofNat cs.length)) (by simp) ?_
  refine go_static (R := ({ frames := 2, cells := 0, slots := 0, locals := 27 } : Room)) (kc := 0) (ks := 0) [.int (Int32.ofNat i), .int (Int32.ofNat cs.length)] [] (c_sci l Z a0 hw hEL i cs.length (List.getElem?_eq_some_iff.mp hc).1 (by have := A.len; simpa using this) sf rsf Os S h0) (hw _ (List.mem_of_getElem? (i := 84) rfl)) (hw _ (List.mem_of_getElem? (i := 85) rfl)) (hw _ (List.mem_of_getElem? (i := 86) rfl)) (hw _ (List.mem_of_getElem? (i := 4) rfl)) (by decide) rfl rfl (lenOf pd2 rfl) d6_3 (by rfl) (by decide) (Nat.le_of_ble_eq_true rfl) (rc := 0) (rs := 0) rfl rfl (fun S1001 v1001 h1001 m1001 z1001 q1001 => ?_)
  obtain ⟨rfl, rfl⟩ := q1001
  show Go _ _ _ _ _ _ _ _ _ _ _ _ _ _ _ _ _ (mkF K.m 6 #[.val (.ref b), .val (.int (Int32.ofNat i))] [])
  refine go_aloadN d6_6 rfl rfl ?_
  refine go_iloadN d6_7 rfl ?_
  refine go_baload (x := (lo8 c)) A (i := i) rfl (by rw [List.getElem?_map, hc]; rfl) d6_8 ?_
  refine go_sipush (x := (255 : Int32)) d6_9 (by decide) ?_
  refine go_iand (v := c) d6_12 (lat_mask hc1 hc2) ?_
  refine go_i2c (v := c) d6_13 (i2c_ch hc1) ?_
  exact go_ireturn (ty := .char) (v := c) d6_14 rfl (by simp) (congrArg Value.int (i2c_ch hc1)) ⟨rfl, rfl⟩
theorem d7_0 : Dec jdk_52_method_6_code 0 (.aload_n 0) 1 1 := ⟨by decide +kernel, rfl⟩
theorem d7_1 : Dec jdk_52_method_6_code 1 (.arraylength) 1 2 := ⟨by decide +kernel, rfl⟩
theorem d7_2 : Dec jdk_52_method_6_code 2 (.iconst 1) 1 3 := ⟨by decide +kernel, rfl⟩
theorem d7_3 : Dec jdk_52_method_6_code 3 (.ishr) 1 4 := ⟨by decide +kernel, rfl⟩
theorem d7_4 : Dec jdk_52_method_6_code 4 (.ireturn) 1 5 := ⟨by decide +kernel, rfl⟩
set_option maxRecDepth 65536 in
set_option maxHeartbeats 40000000 in
theorem c_u16len (l : Launch) (Z : State) (a0 : Array Value) (hw : ∀ d ∈ tables_1, d.before a0 Z = true) (hEL : EW Z a0 own_EL) (b : Addr) (xs : List Int32) (n : Nat) (hl : xs.length = 2 * n) (hn : n < 2 ^ 29) (S : Addr → Prop) (h0 : Heap) (A : AI Z h0 b .byte xs) :
    Con l Z own_EL [] (⟨"java/lang/StringUTF16", "length", "([B)I"⟩ : MethodName) jdk_52_method_6_code 1 (some .int) ({ frames := 0, cells := 0, slots := 0, locals := 0 } : Room) #[.ref b] S h0 (fun S' v h' => v = some (.int (Int32.ofNat n)) ∧ h0 = h') := by
  refine con_of_go (ls := #[.val (.ref b)]) (plainFor_of_name pn0) hEL (fun m => by first | rfl | (simp [entryFrame, mkF, argsToLocals, cat_int, cat_ref, cat_null, cat_long]; done)) (fun K => ?_)
  show Go _ _ _ _ _ _ _ _ _ _ _ _ _ 0 0 _ _ _
  refine go_aloadN d7_0 rfl rfl ?_
  refine go_alen A d7_1 (v := (Int32.ofNat (2 * n))) (by rw [hl]) ?_
  refine go_iconst (x := (1 : Int32)) d7_2 (by decide) ?_
  refine go_ishr (v := (Int32.ofNat n)) d7_3 (by rw [shr1 (by omega)]; congr 1; omega) ?_
  exact go_ireturn (ty := .int) (v := (Int32.ofNat n)) d7_4 rfl (by simp) rfl ⟨rfl, rfl⟩
theorem d8_0 : Dec jdk_52_method_91_code 0 (.iload_n 0) 1 1 := ⟨by decide +kernel, rfl⟩
theorem d8_1 : Dec jdk_52_method_91_code 1 (.aload_n 1) 1 2 := ⟨by decide +kernel, rfl⟩
theorem d8_2 : Dec jdk_52_method_91_code 2 (.invokestatic 48) 3 5 := ⟨by decide +kernel, rfl⟩
theorem pd3 : parseMethodDescriptor "([B)I" = some ⟨[(.array .byte)], some .int⟩ := by decide +kernel
theorem d8_5 : Dec jdk_52_method_91_code 5 (.invokestatic 414) 3 8 := ⟨by decide +kernel, rfl⟩
theorem d8_8 : Dec jdk_52_method_91_code 8 (.return_) 1 9 := ⟨by decide +kernel, rfl⟩
set_option maxRecDepth 65536 in
set_option maxHeartbeats 40000000 in
theorem c_u16ci (l : Launch) (Z : State) (a0 : Array Value) (hw : ∀ d ∈ tables_1, d.before a0 Z = true) (hEL : EW Z a0 own_EL) (b : Addr) (xs : List Int32) (n i : Nat) (hi : i < n) (hl : xs.length = 2 * n) (hn : n < 2 ^ 29) (S : Addr → Prop) (h0 : Heap) (A : AI Z h0 b .byte xs) (sf : Value) (rsf : sf.isRef = true) (Os : Sta Z Z.heap "jdk/internal/util/Preconditions" "SIOOBE_FORMATTER" "Ljava/util/function/BiFunction;" sf) :
    Con l Z own_EL [] (⟨"java/lang/StringUTF16", "checkIndex", "(I[B)V"⟩ : MethodName) jdk_52_method_91_code 2 (none : Option FieldType) ({ frames := 2, cells := 0, slots := 0, locals := 27 } : Room) #[.int (Int32.ofNat i), .ref b] S h0 (fun S' v h' => v = none ∧ h0 = h') := by
  refine con_of_go (ls := #[.val (.int (Int32.ofNat i)), .val (.ref b)]) (plainFor_of_name pn0) hEL (fun m => by first | rfl | (simp [entryFrame, mkF, argsToLocals, cat_int, cat_ref, cat_null, cat_long]; done)) (fun K => ?_)
  show Go _ _ _ _ _ _ _ _ _ _ _ _ _ 0 0 _ _ _
  refine go_iloadN d8_0 rfl ?_
  refine go_aloadN d8_1 rfl rfl ?_
  refine go_static (R := ({ frames := 2, cells := 0, slots := 0, locals := 27 } : Room)) (kc := 0) (ks := 0) [.ref b] [.int (Int32.ofNat i)] (c_u16len l Z a0 hw hEL b _ n hl hn S h0 A) (hw _ (List.mem_of_getElem? (i := 116) rfl)) (hw _ (List.mem_of_getElem? (i := 117) rfl)) (hw _ (List.mem_of_getElem? (i := 118) rfl)) (hw _ (List.mem_of_getElem? (i := 62) rfl)) (by decide) rfl rfl (lenOf pd3 rfl) d8_2 (by rfl) (by decide) (Nat.le_of_ble_eq_true rfl) (rc := 0) (rs := 0) rfl rfl (fun S1001 v1001 h1001 m1001 z1001 q1001 => ?_)
  obtain ⟨rfl, rfl⟩ := q1001
  show Go _ _ _ _ _ _ _ _ _ _ _ _ _ _ _ _ _ (mkF K.m 5 #[.val (.int (Int32.ofNat i)), .val (.ref b)] [.int (Int32.ofNat n), .int (Int32.ofNat i)])
  refine go_static (R := ({ frames := 2, cells := 0, slots := 0, locals := 27 } : Room)) (kc := 0) (ks := 0) [.int (Int32.ofNat i), .int (Int32.ofNat n)] [] (c_sci l Z a0 hw hEL i n hi (by omega) sf rsf Os S1001 h0) (hw _ (List.mem_of_getElem? (i := 119) rfl)) (hw _ (List.mem_of_getElem? (i := 85) rfl)) (hw _ (List.mem_of_getElem? (i := 86) rfl)) (hw _ (List.mem_of_getElem? (i := 4) rfl)) (by decide) rfl rfl (lenOf pd2 rfl) d8_5 (by rfl) (by decide) (Nat.le_of_ble_eq_true rfl) (rc := 0) (rs := 0) rfl rfl (fun S1002 v1002 h1002 m1002 z1002 q1002 => ?_)
  obtain ⟨rfl, rfl⟩ := q1002
  show Go _ _ _ _ _ _ _ _ _ _ _ _ _ _ _ _ _ (mkF K.m 8 #[.val (.int (Int32.ofNat i)), .val (.ref b)] [])
  exact go_return d8_8 rfl ⟨rfl, rfl⟩
theorem d9_0 : Dec jdk_52_method_5_code 0 (.getstatic 44) 3 3 := ⟨by decide +kernel, rfl⟩
theorem d9_3 : Brn jdk_52_method_5_code 3 (.ifCond .ne 25) 25 6 28 := ⟨by decide +kernel, rfl, by decide, by decide⟩
theorem d9_28 : Dec jdk_52_method_5_code 28 (.iload_n 1) 1 29 := ⟨by decide +kernel, rfl⟩
theorem d9_29 : Dec jdk_52_method_5_code 29 (.iconst 1) 1 30 := ⟨by decide +kernel, rfl⟩
theorem d9_30 : Dec jdk_52_method_5_code 30 (.ishl) 1 31 := ⟨by decide +kernel, rfl⟩
theorem d9_31 : Dec jdk_52_method_5_code 31 (.istore_n 1) 1 32 := ⟨by decide +kernel, rfl⟩
theorem d9_32 : Dec jdk_52_method_5_code 32 (.aload_n 0) 1 33 := ⟨by decide +kernel, rfl⟩
theorem d9_33 : Dec jdk_52_method_5_code 33 (.iload_n 1) 1 34 := ⟨by decide +kernel, rfl⟩
theorem d9_34 : Dec jdk_52_method_5_code 34 (.iinc 1 1) 3 37 := ⟨by decide +kernel, rfl⟩
theorem d9_37 : Dec jdk_52_method_5_code 37 (.baload) 1 38 := ⟨by decide +kernel, rfl⟩
theorem d9_38 : Dec jdk_52_method_5_code 38 (.sipush 255) 3 41 := ⟨by decide +kernel, rfl⟩
theorem d9_41 : Dec jdk_52_method_5_code 41 (.iand) 1 42 := ⟨by decide +kernel, rfl⟩
theorem d9_42 : Dec jdk_52_method_5_code 42 (.getstatic 59) 3 45 := ⟨by decide +kernel, rfl⟩
theorem d9_45 : Dec jdk_52_method_5_code 45 (.ishl) 1 46 := ⟨by decide +kernel, rfl⟩
theorem d9_46 : Dec jdk_52_method_5_code 46 (.aload_n 0) 1 47 := ⟨by decide +kernel, rfl⟩
theorem d9_47 : Dec jdk_52_method_5_code 47 (.iload_n 1) 1 48 := ⟨by decide +kernel, rfl⟩
theorem d9_48 : Dec jdk_52_method_5_code 48 (.baload) 1 49 := ⟨by decide +kernel, rfl⟩
theorem d9_49 : Dec jdk_52_method_5_code 49 (.sipush 255) 3 52 := ⟨by decide +kernel, rfl⟩
theorem d9_52 : Dec jdk_52_method_5_code 52 (.iand) 1 53 := ⟨by decide +kernel, rfl⟩
theorem d9_53 : Dec jdk_52_method_5_code 53 (.getstatic 63) 3 56 := ⟨by decide +kernel, rfl⟩
theorem d9_56 : Dec jdk_52_method_5_code 56 (.ishl) 1 57 := ⟨by decide +kernel, rfl⟩
theorem d9_57 : Dec jdk_52_method_5_code 57 (.ior) 1 58 := ⟨by decide +kernel, rfl⟩
theorem d9_58 : Dec jdk_52_method_5_code 58 (.i2c) 1 59 := ⟨by decide +kernel, rfl⟩
theorem d9_59 : Dec jdk_52_method_5_code 59 (.ireturn) 1 60 := ⟨by decide +kernel, rfl⟩
set_option maxRecDepth 65536 in
set_option maxHeartbeats 40000000 in
theorem c_getc (l : Launch) (Z : State) (a0 : Array Value) (hw : ∀ d ∈ tables_1, d.before a0 Z = true) (hEL : EW Z a0 own_EL) (b : Addr) (cs : List Int32) (i : Nat) (c : Int32) (hc : cs[i]? = some c) (hc1 : isCh c) (S : Addr → Prop) (h0 : Heap) (A : AI Z h0 b .byte (cs.flatMap two)) (Oa : Sta Z Z.heap "java/lang/StringUTF16" "$assertionsDisabled" "Z" (.int (1 : Int32))) (Oh : Sta Z Z.heap "java/lang/StringUTF16" "HI_BYTE_SHIFT" "I" (.int (0 : Int32))) (Ol : Sta Z Z.heap "java/lang/StringUTF16" "LO_BYTE_SHIFT" "I" (.int (8 : Int32))) :
    Con l Z own_EL [] (⟨"java/lang/StringUTF16", "getChar", "([BI)C"⟩ : MethodName) jdk_52_method_5_code 2 (some .char) ({ frames := 0, cells := 0, slots := 0, locals := 0 } : Room) #[.ref b, .int (Int32.ofNat i)] S h0 (fun S' v h' => v = some (.int c) ∧ h0 = h') := by
  refine con_of_go (ls := #[.val (.ref b), .val (.int (Int32.ofNat i))]) (plainFor_of_name pn0) hEL (fun m => by first | rfl | (simp [entryFrame, mkF, argsToLocals, cat_int, cat_ref, cat_null, cat_long]; done)) (fun K => ?_)
  show Go _ _ _ _ _ _ _ _ _ _ _ _ _ 0 0 _ _ _
  refine go_gets (hw _ (List.mem_of_getElem? (i := 104) rfl)) Via.refl Oa d9_0 ?_
  refine go_ifne d9_3 (fun c1001 => ?_) (fun c1001 => absurd c1001 (by decide))
  refine go_iloadN d9_28 rfl ?_
  refine go_iconst (x := (1 : Int32)) d9_29 (by decide) ?_
  refine go_ishl (v := (Int32.ofNat (2 * i))) d9_30 ofNat_shl1 ?_
  refine go_istoreN d9_31 (l' := #[.val (.ref b), .val (.int (Int32.ofNat (2 * i)))]) rfl ?_
  refine go_aloadN d9_32 rfl rfl ?_
  refine go_iloadN d9_33 rfl ?_
  refine go_iinc d9_34 rfl (v := (Int32.ofNat (2 * i + 1))) (ofNat_inc _) (l' := #[.val (.ref b), .val (.int (Int32.ofNat (2 * i + 1)))]) rfl ?_
  refine go_baload (x := (lo8 c)) A (i := (2 * i)) rfl (flat_lo hc) d9_37 ?_
  refine go_sipush (x := (255 : Int32)) d9_38 (by decide) ?_
  refine go_iand d9_41 rfl ?_
  refine go_gets (hw _ (List.mem_of_getElem? (i := 105) rfl)) Via.refl Oh d9_42 ?_
  refine go_ishl (v := (lo8 c &&& (255 : Int32))) d9_45 (shl0 _) ?_
  refine go_aloadN d9_46 rfl rfl ?_
  refine go_iloadN d9_47 rfl ?_
  refine go_baload (x := (lo8 (c >>> 8))) A (i := (2 * i + 1)) rfl (flat_hi hc) d9_48 ?_
  refine go_sipush (x := (255 : Int32)) d9_49 (by decide) ?_
  refine go_iand d9_52 rfl ?_
  refine go_gets (hw _ (List.mem_of_getElem? (i := 106) rfl)) Via.refl Ol d9_53 ?_
  refine go_ishl (v := ((lo8 (c >>> 8) &&& (255 : Int32)) <<< 8)) d9_56 (shl8 _) ?_
  refine go_ior (v := c) d9_57 (join16 hc1) ?_
  refine go_i2c (v := c) d9_58 (i2c_ch hc1) ?_
  exact go_ireturn (ty := .char) (v := c) d9_59 rfl (by simp) (congrArg Value.int (i2c_ch hc1)) ⟨rfl, rfl⟩
theorem d10_0 : Dec jdk_52_method_83_code 0 (.iload_n 1) 1 1 := ⟨by decide +kernel, rfl⟩
theorem d10_1 : Dec jdk_52_method_83_code 1 (.aload_n 0) 1 2 := ⟨by decide +kernel, rfl⟩
theorem d10_2 : Dec jdk_52_method_83_code 2 (.invokestatic 67) 3 5 := ⟨by decide +kernel, rfl⟩
theorem pd4 : parseMethodDescriptor "(I[B)V" = some ⟨[.int, (.array .byte)], none⟩ := by decide +kernel
theorem d10_5 : Dec jdk_52_method_83_code 5 (.aload_n 0) 1 6 := ⟨by decide +kernel, rfl⟩
theorem d10_6 : Dec jdk_52_method_83_code 6 (.iload_n 1) 1 7 := ⟨by decide +kernel, rfl⟩
theorem d10_7 : Dec jdk_52_method_83_code 7 (.invokestatic 71) 3 10 := ⟨by decide +kernel, rfl⟩
theorem pd5 : parseMethodDescriptor "([BI)C" = some ⟨[(.array .byte), .int], some .char⟩ := by decide +kernel
theorem d10_10 : Dec jdk_52_method_83_code 10 (.ireturn) 1 11 := ⟨by decide +kernel, rfl⟩
set_option maxRecDepth 65536 in
set_option maxHeartbeats 40000000 in
theorem c_u16ch (l : Launch) (Z : State) (a0 : Array Value) (hw : ∀ d ∈ tables_1, d.before a0 Z = true) (hEL : EW Z a0 own_EL) (b : Addr) (cs : List Int32) (i : Nat) (c : Int32) (hc : cs[i]? = some c) (hc1 : isCh c) (hlen : cs.length < 2 ^ 29) (S : Addr → Prop) (h0 : Heap) (A : AI Z h0 b .byte (cs.flatMap two)) (sf : Value) (rsf : sf.isRef = true) (Os : Sta Z Z.heap "jdk/internal/util/Preconditions" "SIOOBE_FORMATTER" "Ljava/util/function/BiFunction;" sf) (Oa : Sta Z Z.heap "java/lang/StringUTF16" "$assertionsDisabled" "Z" (.int (1 : Int32))) (Oh : Sta Z Z.heap "java/lang/StringUTF16" "HI_BYTE_SHIFT" "I" (.int (0 : Int32))) (Ol : Sta Z Z.heap "java/lang/StringUTF16" "LO_BYTE_SHIFT" "I" (.int (8 : Int32))) :
    Con l Z own_EL [] (⟨"java/lang/StringUTF16", "charAt", "([BI)C"⟩ : MethodName) jdk_52_method_83_code 2 (some .char) ({ frames := 3, cells := 0, slots := 0, locals := 40 } : Room) #[.ref b, .int (Int32.ofNat i)] S h0 (fun S' v h' => v = some (.int c) ∧ h0 = h') := by
  refine con_of_go (ls := #[.val (.ref b), .val (.int (Int32.ofNat i))]) (plainFor_of_name pn0) hEL (fun m => by first | rfl | (simp [entryFrame, mkF, argsToLocals, cat_int, cat_ref, cat_null, cat_long]; done)) (fun K => ?_)
  show Go _ _ _ _ _ _ _ _ _ _ _ _ _ 0 0 _ _ _
  refine go_iloadN d10_0 rfl ?_
  refine go_aloadN d10_1 rfl rfl ?_
  refine go_static (R := ({ frames := 3, cells := 0, slots := 0, locals := 40 } : Room)) (kc := 0) (ks := 0) [.int (Int32.ofNat i), .ref b] [] (c_u16ci l Z a0 hw hEL b _ cs.length i (List.getElem?_eq_some_iff.mp hc).1 (flat_len cs) hlen S h0 A sf rsf Os) (hw _ (List.mem_of_getElem? (i := 113) rfl)) (hw _ (List.mem_of_getElem? (i := 114) rfl)) (hw _ (List.mem_of_getElem? (i := 115) rfl)) (hw _ (List.mem_of_getElem? (i := 62) rfl)) (by decide) rfl rfl (lenOf pd4 rfl) d10_2 (by rfl) (by decide) (Nat.le_of_ble_eq_true rfl) (rc := 0) (rs := 0) rfl rfl (fun S1001 v1001 h1001 m1001 z1001 q1001 => ?_)
  obtain ⟨rfl, rfl⟩ := q1001
  show Go _ _ _ _ _ _ _ _ _ _ _ _ _ _ _ _ _ (mkF K.m 5 #[.val (.ref b), .val (.int (Int32.ofNat i))] [])
  refine go_aloadN d10_5 rfl rfl ?_
  refine go_iloadN d10_6 rfl ?_
  refine go_static (R := ({ frames := 3, cells := 0, slots := 0, locals := 40 } : Room)) (kc := 0) (ks := 0) [.ref b, .int (Int32.ofNat i)] [] (c_getc l Z a0 hw hEL b cs i c hc hc1 S1001 h0 A Oa Oh Ol) (hw _ (List.mem_of_getElem? (i := 107) rfl)) (hw _ (List.mem_of_getElem? (i := 108) rfl)) (hw _ (List.mem_of_getElem? (i := 109) rfl)) (hw _ (List.mem_of_getElem? (i := 62) rfl)) (by decide) rfl rfl (lenOf pd5 rfl) d10_7 (by rfl) (by decide) (Nat.le_of_ble_eq_true rfl) (rc := 0) (rs := 0) rfl rfl (fun S1002 v1002 h1002 m1002 z1002 q1002 => ?_)
  obtain ⟨rfl, rfl⟩ := q1002
  show Go _ _ _ _ _ _ _ _ _ _ _ _ _ _ _ _ _ (mkF K.m 10 #[.val (.ref b), .val (.int (Int32.ofNat i))] [.int c])
  exact go_ireturn (ty := .char) (v := c) d10_10 rfl (by simp) (congrArg Value.int (i2c_ch hc1)) ⟨rfl, rfl⟩
theorem d11_0 : Dec jdk_42_method_56_code 0 (.aload_n 0) 1 1 := ⟨by decide +kernel, rfl⟩
theorem d11_1 : Dec jdk_42_method_56_code 1 (.invokevirtual 492) 3 4 := ⟨by decide +kernel, rfl⟩
theorem pd6 : parseMethodDescriptor "()Z" = some ⟨[], some .boolean⟩ := by decide +kernel
theorem d11_4 : Brn jdk_42_method_56_code 4 (.ifCond .eq 12) 12 7 16 := ⟨by decide +kernel, rfl, by decide, by decide⟩
theorem d11_7 : Dec jdk_42_method_56_code 7 (.aload_n 0) 1 8 := ⟨by decide +kernel, rfl⟩
theorem d11_8 : Dec jdk_42_method_56_code 8 (.getfield 9) 3 11 := ⟨by decide +kernel, rfl⟩
theorem d11_11 : Dec jdk_42_method_56_code 11 (.iload_n 1) 1 12 := ⟨by decide +kernel, rfl⟩
theorem d11_12 : Dec jdk_42_method_56_code 12 (.invokestatic 495) 3 15 := ⟨by decide +kernel, rfl⟩
theorem d11_15 : Dec jdk_42_method_56_code 15 (.ireturn) 1 16 := ⟨by decide +kernel, rfl⟩
theorem d11_16 : Dec jdk_42_method_56_code 16 (.aload_n 0) 1 17 := ⟨by decide +kernel, rfl⟩
theorem d11_17 : Dec jdk_42_method_56_code 17 (.getfield 9) 3 20 := ⟨by decide +kernel, rfl⟩
theorem d11_20 : Dec jdk_42_method_56_code 20 (.iload_n 1) 1 21 := ⟨by decide +kernel, rfl⟩
theorem d11_21 : Dec jdk_42_method_56_code 21 (.invokestatic 498) 3 24 := ⟨by decide +kernel, rfl⟩
theorem d11_24 : Dec jdk_42_method_56_code 24 (.ireturn) 1 25 := ⟨by decide +kernel, rfl⟩
set_option maxRecDepth 65536 in
set_option maxHeartbeats 40000000 in
theorem c_chat (l : Launch) (Z : State) (a0 : Array Value) (hw : ∀ d ∈ tables_1, d.before a0 Z = true) (hEL : EW Z a0 own_EL) (x : Addr) (cs : List Int32) (b : Addr) (k : Int32) (S : Addr → Prop) (h0 : Heap) (F : Str Z h0 x cs b k) (i : Nat) (c : Int32) (hc : cs[i]? = some c) (zc : Int32) (Oc : Sta Z Z.heap "java/lang/String" "COMPACT_STRINGS" "Z" (.int zc)) (Pc : ¬ zc = 0) (sf : Value) (rsf : sf.isRef = true) (Os : Sta Z Z.heap "jdk/internal/util/Preconditions" "SIOOBE_FORMATTER" "Ljava/util/function/BiFunction;" sf) (Oa : Sta Z Z.heap "java/lang/StringUTF16" "$assertionsDisabled" "Z" (.int (1 : Int32))) (Oh : Sta Z Z.heap "java/lang/StringUTF16" "HI_BYTE_SHIFT" "I" (.int (0 : Int32))) (Ol : Sta Z Z.heap "java/lang/StringUTF16" "LO_BYTE_SHIFT" "I" (.int (8 : Int32))) :
    Con l Z own_EL [] (⟨"java/lang/String", "charAt", "(I)C"⟩ : MethodName) jdk_42_method_56_code 2 (some .char) ({ frames := 4, cells := 0, slots := 0, locals := 53 } : Room) #[.ref x, .int (Int32.ofNat i)] S h0 (fun S' v h' => v = some (.int c) ∧ h0 = h') := by
  have F0 := F
  obtain ⟨-, -, -, -, hk, hch, hlen⟩ := F0
  rcases hk with ⟨rfl, hk⟩ | ⟨rfl, hk⟩
  · refine con_of_go (ls := #[.val (.ref x), .val (.int (Int32.ofNat i))]) (plainFor_of_name pn1) hEL (fun m => by first | rfl | (simp [entryFrame, mkF, argsToLocals, cat_int, cat_ref, cat_null, cat_long]; done)) (fun K => ?_)
    show Go _ _ _ _ _ _ _ _ _ _ _ _ _ 0 0 _ _ _
    have hc2 : ¬ (255 : Int32) < c := hk c (List.mem_of_getElem? hc)
    have hc1 : isCh c := hch c (List.mem_of_getElem? hc)
    refine go_aloadN d11_0 rfl rfl ?_
    refine go_virtual (R := ({ frames := 4, cells := 0, slots := 0, locals := 53 } : Room)) (kc := 0) (ks := 0) [] [] (c_lat l Z a0 hw hEL x _ _ _ S h0 F zc Oc Pc) F.1 (hw _ (List.mem_of_getElem? (i := 75) rfl)) (hw _ (List.mem_of_getElem? (i := 76) rfl)) (hw _ (List.mem_of_getElem? (i := 78) rfl)) (hw _ (List.mem_of_getElem? (i := 77) rfl)) (nfSel (hw _ (List.mem_of_getElem? (i := 78) rfl))) (hw _ (List.mem_of_getElem? (i := 79) rfl)) (hw _ (List.mem_of_getElem? (i := 4) rfl)) (by decide) rfl rfl (lenOf pd6 rfl) d11_1 (by rfl) (by decide) (Nat.le_of_ble_eq_true rfl) (rc := 0) (rs := 0) rfl rfl (fun S1001 v1001 h1001 m1001 z1001 q1001 => ?_)
    obtain ⟨rfl, rfl⟩ := q1001
    show Go _ _ _ _ _ _ _ _ _ _ _ _ _ _ _ _ _ (mkF K.m 4 #[.val (.ref x), .val (.int (Int32.ofNat i))] [.int ((1 : Int32) - (0 : Int32))])
    refine go_ifeq d11_4 (fun c1002 => absurd c1002 (by decide)) (fun c1002 => ?_)
    refine go_aloadN d11_7 rfl rfl ?_
    refine go_getf (hw _ (List.mem_of_getElem? (i := 21) rfl)) Via.refl F.2.2.1 d11_8 ?_
    refine go_iloadN d11_11 rfl ?_
    refine go_static (R := ({ frames := 4, cells := 0, slots := 0, locals := 53 } : Room)) (kc := 0) (ks := 0) [.ref b, .int (Int32.ofNat i)] [] (c_l1ch l Z a0 hw hEL b cs i c hc hc1 hc2 S1001 h0 F.2.2.2.1 sf rsf Os) (hw _ (List.mem_of_getElem? (i := 80) rfl)) (hw _ (List.mem_of_getElem? (i := 81) rfl)) (hw _ (List.mem_of_getElem? (i := 83) rfl)) (hw _ (List.mem_of_getElem? (i := 82) rfl)) (by decide) rfl rfl (lenOf pd5 rfl) d11_12 (by rfl) (by decide) (Nat.le_of_ble_eq_true rfl) (rc := 0) (rs := 0) rfl rfl (fun S1003 v1003 h1003 m1003 z1003 q1003 => ?_)
    obtain ⟨rfl, rfl⟩ := q1003
    show Go _ _ _ _ _ _ _ _ _ _ _ _ _ _ _ _ _ (mkF K.m 15 #[.val (.ref x), .val (.int (Int32.ofNat i))] [.int c])
    exact go_ireturn (ty := .char) (v := c) d11_15 rfl (by simp) (congrArg Value.int (i2c_ch hc1)) ⟨rfl, rfl⟩
  · refine con_of_go (ls := #[.val (.ref x), .val (.int (Int32.ofNat i))]) (plainFor_of_name pn1) hEL (fun m => by first | rfl | (simp [entryFrame, mkF, argsToLocals, cat_int, cat_ref, cat_null, cat_long]; done)) (fun K => ?_)
    show Go _ _ _ _ _ _ _ _ _ _ _ _ _ 0 0 _ _ _
    have hc1 : isCh c := hch c (List.mem_of_getElem? hc)
    refine go_aloadN d11_0 rfl rfl ?_
    refine go_virtual (R := ({ frames := 4, cells := 0, slots := 0, locals := 53 } : Room)) (kc := 0) (ks := 0) [] [] (c_lat l Z a0 hw hEL x _ _ _ S h0 F zc Oc Pc) F.1 (hw _ (List.mem_of_getElem? (i := 75) rfl)) (hw _ (List.mem_of_getElem? (i := 76) rfl)) (hw _ (List.mem_of_getElem? (i := 78) rfl)) (hw _ (List.mem_of_getElem? (i := 77) rfl)) (nfSel (hw _ (List.mem_of_getElem? (i := 78) rfl))) (hw _ (List.mem_of_getElem? (i := 79) rfl)) (hw _ (List.mem_of_getElem? (i := 4) rfl)) (by decide) rfl rfl (lenOf pd6 rfl) d11_1 (by rfl) (by decide) (Nat.le_of_ble_eq_true rfl) (rc := 0) (rs := 0) rfl rfl (fun S1001 v1001 h1001 m1001 z1001 q1001 => ?_)
    obtain ⟨rfl, rfl⟩ := q1001
    show Go _ _ _ _ _ _ _ _ _ _ _ _ _ _ _ _ _ (mkF K.m 4 #[.val (.ref x), .val (.int (Int32.ofNat i))] [.int ((1 : Int32) - (1 : Int32))])
    refine go_ifeq d11_4 (fun c1002 => ?_) (fun c1002 => absurd (by decide) c1002)
    refine go_aloadN d11_16 rfl rfl ?_
    refine go_getf (hw _ (List.mem_of_getElem? (i := 21) rfl)) Via.refl F.2.2.1 d11_17 ?_
    refine go_iloadN d11_20 rfl ?_
    refine go_static (R := ({ frames := 4, cells := 0, slots := 0, locals := 53 } : Room)) (kc := 0) (ks := 0) [.ref b, .int (Int32.ofNat i)] [] (c_u16ch l Z a0 hw hEL b cs i c hc hc1 hlen S1001 h0 F.2.2.2.1 sf rsf Os Oa Oh Ol) (hw _ (List.mem_of_getElem? (i := 110) rfl)) (hw _ (List.mem_of_getElem? (i := 111) rfl)) (hw _ (List.mem_of_getElem? (i := 112) rfl)) (hw _ (List.mem_of_getElem? (i := 62) rfl)) (by decide) rfl rfl (lenOf pd5 rfl) d11_21 (by rfl) (by decide) (Nat.le_of_ble_eq_true rfl) (rc := 0) (rs := 0) rfl rfl (fun S1003 v1003 h1003 m1003 z1003 q1003 => ?_)
    obtain ⟨rfl, rfl⟩ := q1003
    show Go _ _ _ _ _ _ _ _ _ _ _ _ _ _ _ _ _ (mkF K.m 24 #[.val (.ref x), .val (.int (Int32.ofNat i))] [.int c])
    exact go_ireturn (ty := .char) (v := c) d11_24 rfl (by simp) (congrArg Value.int (i2c_ch hc1)) ⟨rfl, rfl⟩
theorem d12_0 : Dec jdk_52_method_3_code 0 (.iload_n 0) 1 1 := ⟨by decide +kernel, rfl⟩
theorem d12_1 : Brn jdk_52_method_3_code 1 (.ifCond .ge 11) 11 4 12 := ⟨by decide +kernel, rfl, by decide, by decide⟩
theorem d12_12 : Dec jdk_52_method_3_code 12 (.iload_n 0) 1 13 := ⟨by decide +kernel, rfl⟩
theorem d12_13 : Dec jdk_52_method_3_code 13 (.ldc 20) 2 15 := ⟨by decide +kernel, rfl⟩
theorem d12_15 : Brn jdk_52_method_3_code 15 (.if_icmp .lt 40) 40 18 55 := ⟨by decide +kernel, rfl, by decide, by decide⟩
theorem d12_55 : Dec jdk_52_method_3_code 55 (.iload_n 0) 1 56 := ⟨by decide +kernel, rfl⟩
theorem d12_56 : Dec jdk_52_method_3_code 56 (.iconst 1) 1 57 := ⟨by decide +kernel, rfl⟩
theorem d12_57 : Dec jdk_52_method_3_code 57 (.ishl) 1 58 := ⟨by decide +kernel, rfl⟩
theorem d12_58 : Dec jdk_52_method_3_code 58 (.ireturn) 1 59 := ⟨by decide +kernel, rfl⟩
set_option maxRecDepth 65536 in
set_option maxHeartbeats 40000000 in
theorem c_nbl (l : Launch) (Z : State) (a0 : Array Value) (hw : ∀ d ∈ tables_1, d.before a0 Z = true) (hEL : EW Z a0 own_EL) (n : Nat) (hn : n < 2 ^ 29) (S : Addr → Prop) (h0 : Heap) :
    Con l Z own_EL [] (⟨"java/lang/StringUTF16", "newBytesLength", "(I)I"⟩ : MethodName) jdk_52_method_3_code 1 (some .int) ({ frames := 0, cells := 0, slots := 0, locals := 0 } : Room) #[.int (Int32.ofNat n)] S h0 (fun S' v h' => v = some (.int (Int32.ofNat (2 * n))) ∧ h0 = h') := by
  refine con_of_go (ls := #[.val (.int (Int32.ofNat n))]) (plainFor_of_name pn0) hEL (fun m => by first | rfl | (simp [entryFrame, mkF, argsToLocals, cat_int, cat_ref, cat_null, cat_long]; done)) (fun K => ?_)
  show Go _ _ _ _ _ _ _ _ _ _ _ _ _ 0 0 _ _ _
  refine go_iloadN d12_0 rfl ?_
  refine go_ifge d12_1 (fun c1001 => ?_) (fun c1001 => absurd c1001 (ofNat_nlt (n := 0) (by omega) (by omega)))
  refine go_iloadN d12_12 rfl ?_
  refine go_ldcI (v := (1073741823 : Int32)) (hw _ (List.mem_of_getElem? (i := 100) rfl)) d12_13 ?_
  refine go_icmplt d12_15 (fun c1002 => ?_) (fun c1002 => absurd (ofNat_lt (n := 1073741823) (by omega) (by omega)) c1002)
  refine go_iloadN d12_55 rfl ?_
  refine go_iconst (x := (1 : Int32)) d12_56 (by decide) ?_
  refine go_ishl (v := (Int32.ofNat (2 * n))) d12_57 ofNat_shl1 ?_
  exact go_ireturn (ty := .int) (v := (Int32.ofNat (2 * n))) d12_58 rfl (by simp) rfl ⟨rfl, rfl⟩
theorem d13_0 : Dec jdk_52_method_2_code 0 (.iload_n 0) 1 1 := ⟨by decide +kernel, rfl⟩
theorem d13_1 : Dec jdk_52_method_2_code 1 (.invokestatic 11) 3 4 := ⟨by decide +kernel, rfl⟩
theorem pd7 : parseMethodDescriptor "(I)I" = some ⟨[.int], some .int⟩ := by decide +kernel
theorem d13_4 : Dec jdk_52_method_2_code 4 (.newarray .byte) 2 6 := ⟨by decide +kernel, rfl⟩
theorem d13_6 : Dec jdk_52_method_2_code 6 (.areturn) 1 7 := ⟨by decide +kernel, rfl⟩
set_option maxRecDepth 65536 in
set_option maxHeartbeats 40000000 in
theorem c_nbf (l : Launch) (Z : State) (a0 : Array Value) (hw : ∀ d ∈ tables_1, d.before a0 Z = true) (hEL : EW Z a0 own_EL) (n : Nat) (hn : n ≤ 4) (S : Addr → Prop) (h0 : Heap) (hz : Z.heap.size ≤ h0.size) :
    Con l Z own_EL [] (⟨"java/lang/StringUTF16", "newBytesFor", "(I)[B"⟩ : MethodName) jdk_52_method_2_code 1 (some (.array .byte)) ({ frames := 1, cells := 1, slots := 8, locals := 12 } : Room) #[.int (Int32.ofNat n)] S h0 (fun S' v h' => ∃ b, v = some (.ref b) ∧ h0.size ≤ b ∧ b < h'.size ∧ S' b ∧ Keep h0 h' [] ∧ AI Z h' b .byte (List.replicate (2 * n) 0)) := by
  refine con_of_go (ls := #[.val (.int (Int32.ofNat n))]) (plainFor_of_name pn0) hEL (fun m => by first | rfl | (simp [entryFrame, mkF, argsToLocals, cat_int, cat_ref, cat_null, cat_long]; done)) (fun K => ?_)
  show Go _ _ _ _ _ _ _ _ _ _ _ _ _ 1 8 _ _ _
  refine go_iloadN d13_0 rfl ?_
  refine go_static (R := ({ frames := 1, cells := 1, slots := 8, locals := 12 } : Room)) (kc := 1) (ks := 8) [.int (Int32.ofNat n)] [] (c_nbl l Z a0 hw hEL n (by omega) S h0) (hw _ (List.mem_of_getElem? (i := 97) rfl)) (hw _ (List.mem_of_getElem? (i := 98) rfl)) (hw _ (List.mem_of_getElem? (i := 99) rfl)) (hw _ (List.mem_of_getElem? (i := 62) rfl)) (by decide) rfl rfl (lenOf pd7 rfl) d13_1 (by rfl) (by decide) (Nat.le_of_ble_eq_true rfl) (rc := 0) (rs := 0) rfl rfl (fun S1001 v1001 h1001 m1001 z1001 q1001 => ?_)
  obtain ⟨rfl, rfl⟩ := q1001
  show Go _ _ _ _ _ _ _ _ _ _ _ _ _ _ _ _ _ (mkF K.m 4 #[.val (.int (Int32.ofNat n))] [.int (Int32.ofNat (2 * n))])
  refine go_newarr (kc := 0) (ks := 0) (N := (2 * n)) (cap := 8) (hw _ (List.mem_of_getElem? (i := 16) rfl)) rfl (by omega) (by decide) rfl rfl d13_4 (fun S1002 h1002 a1002 e1002 m1002 s1002 x1002 l1002 A1002 => ?_)
  have z1002 := x1002.1
  have A1002 : AI Z h1002 a1002 .byte (List.replicate (2 * n) 0) := A1002
  have L1003 := lt_nat A1002.lt
  exact go_areturn d13_6 rfl rfl rfl ⟨_, rfl, by omega, L1003, s1002, ((Keep.refl h0 []).ext x1002), A1002⟩
theorem d14_0 : Dec jdk_52_method_4_code 0 (.getstatic 44) 3 3 := ⟨by decide +kernel, rfl⟩
theorem d14_3 : Brn jdk_52_method_4_code 3 (.ifCond .ne 25) 25 6 28 := ⟨by decide +kernel, rfl, by decide, by decide⟩
theorem d14_28 : Dec jdk_52_method_4_code 28 (.iload_n 1) 1 29 := ⟨by decide +kernel, rfl⟩
theorem d14_29 : Dec jdk_52_method_4_code 29 (.iconst 1) 1 30 := ⟨by decide +kernel, rfl⟩
theorem d14_30 : Dec jdk_52_method_4_code 30 (.ishl) 1 31 := ⟨by decide +kernel, rfl⟩
theorem d14_31 : Dec jdk_52_method_4_code 31 (.istore_n 1) 1 32 := ⟨by decide +kernel, rfl⟩
theorem d14_32 : Dec jdk_52_method_4_code 32 (.aload_n 0) 1 33 := ⟨by decide +kernel, rfl⟩
theorem d14_33 : Dec jdk_52_method_4_code 33 (.iload_n 1) 1 34 := ⟨by decide +kernel, rfl⟩
theorem d14_34 : Dec jdk_52_method_4_code 34 (.iinc 1 1) 3 37 := ⟨by decide +kernel, rfl⟩
theorem d14_37 : Dec jdk_52_method_4_code 37 (.iload_n 2) 1 38 := ⟨by decide +kernel, rfl⟩
theorem d14_38 : Dec jdk_52_method_4_code 38 (.getstatic 59) 3 41 := ⟨by decide +kernel, rfl⟩
theorem d14_41 : Dec jdk_52_method_4_code 41 (.ishr) 1 42 := ⟨by decide +kernel, rfl⟩
theorem d14_42 : Dec jdk_52_method_4_code 42 (.i2b) 1 43 := ⟨by decide +kernel, rfl⟩
theorem d14_43 : Dec jdk_52_method_4_code 43 (.bastore) 1 44 := ⟨by decide +kernel, rfl⟩
theorem d14_44 : Dec jdk_52_method_4_code 44 (.aload_n 0) 1 45 := ⟨by decide +kernel, rfl⟩
theorem d14_45 : Dec jdk_52_method_4_code 45 (.iload_n 1) 1 46 := ⟨by decide +kernel, rfl⟩
theorem d14_46 : Dec jdk_52_method_4_code 46 (.iload_n 2) 1 47 := ⟨by decide +kernel, rfl⟩
theorem d14_47 : Dec jdk_52_method_4_code 47 (.getstatic 63) 3 50 := ⟨by decide +kernel, rfl⟩
theorem d14_50 : Dec jdk_52_method_4_code 50 (.ishr) 1 51 := ⟨by decide +kernel, rfl⟩
theorem d14_51 : Dec jdk_52_method_4_code 51 (.i2b) 1 52 := ⟨by decide +kernel, rfl⟩
theorem d14_52 : Dec jdk_52_method_4_code 52 (.bastore) 1 53 := ⟨by decide +kernel, rfl⟩
theorem d14_53 : Dec jdk_52_method_4_code 53 (.return_) 1 54 := ⟨by decide +kernel, rfl⟩
set_option maxRecDepth 65536 in
set_option maxHeartbeats 40000000 in
theorem c_putc (l : Launch) (Z : State) (a0 : Array Value) (hw : ∀ d ∈ tables_1, d.before a0 Z = true) (hEL : EW Z a0 own_EL) (b : Addr) (xs : List Int32) (i : Nat) (c : Int32) (hi : 2 * i + 1 < xs.length) (S : Addr → Prop) (h0 : Heap) (hz : Z.heap.size ≤ h0.size) (A : AI Z h0 b .byte xs) (gb : Z.heap.size ≤ b) (sb : S b) (Oa : Sta Z Z.heap "java/lang/StringUTF16" "$assertionsDisabled" "Z" (.int (1 : Int32))) (Oh : Sta Z Z.heap "java/lang/StringUTF16" "HI_BYTE_SHIFT" "I" (.int (0 : Int32))) (Ol : Sta Z Z.heap "java/lang/StringUTF16" "LO_BYTE_SHIFT" "I" (.int (8 : Int32))) :
    Con l Z own_EL [] (⟨"java/lang/StringUTF16", "putChar", "([BII)V"⟩ : MethodName) jdk_52_method_4_code 3 (none : Option FieldType) ({ frames := 0, cells := 0, slots := 0, locals := 0 } : Room) #[.ref b, .int (Int32.ofNat i), .int c] S h0 (fun S' v h' => v = none ∧ Keep h0 h' [b] ∧ AI Z h' b .byte ((xs.set (2 * i) (lo8 c)).set (2 * i + 1) (lo8 (c >>> 8)))) := by
  refine con_of_go (ls := #[.val (.ref b), .val (.int (Int32.ofNat i)), .val (.int c)]) (plainFor_of_name pn0) hEL (fun m => by first | rfl | (simp [entryFrame, mkF, argsToLocals, cat_int, cat_ref, cat_null, cat_long]; done)) (fun K => ?_)
  show Go _ _ _ _ _ _ _ _ _ _ _ _ _ 0 0 _ _ _
  have lb := lt_nat A.lt
  refine go_gets (hw _ (List.mem_of_getElem? (i := 104) rfl)) Via.refl Oa d14_0 ?_
  refine go_ifne d14_3 (fun c1001 => ?_) (fun c1001 => absurd c1001 (by decide))
  refine go_iloadN d14_28 rfl ?_
  refine go_iconst (x := (1 : Int32)) d14_29 (by decide) ?_
  refine go_ishl (v := (Int32.ofNat (2 * i))) d14_30 ofNat_shl1 ?_
  refine go_istoreN d14_31 (l' := #[.val (.ref b), .val (.int (Int32.ofNat (2 * i))), .val (.int c)]) rfl ?_
  refine go_aloadN d14_32 rfl rfl ?_
  refine go_iloadN d14_33 rfl ?_
  refine go_iinc d14_34 rfl (v := (Int32.ofNat (2 * i + 1))) (ofNat_inc _) (l' := #[.val (.ref b), .val (.int (Int32.ofNat (2 * i + 1))), .val (.int c)]) rfl ?_
  refine go_iloadN d14_37 rfl ?_
  refine go_gets (hw _ (List.mem_of_getElem? (i := 105) rfl)) Via.refl Oh d14_38 ?_
  refine go_ishr (v := c) d14_41 (sh0 c) ?_
  refine go_i2b (v := (lo8 c)) d14_42 rfl ?_
  refine go_bastore (v := (lo8 c)) A (by omega) sb (i := (2 * i)) rfl (by omega) (nar_lo8 _) d14_43 (fun h1002 K1002 A1002 => ?_)
  have z1002 := K1002.1
  have A1002 : AI Z h1002 b .byte (xs.set (2 * i) (lo8 c)) := A1002
  refine go_aloadN d14_44 rfl rfl ?_
  refine go_iloadN d14_45 rfl ?_
  refine go_iloadN d14_46 rfl ?_
  refine go_gets (hw _ (List.mem_of_getElem? (i := 106) rfl)) Via.refl Ol d14_47 ?_
  refine go_ishr (v := (c >>> 8)) d14_50 (sh8 c) ?_
  refine go_i2b (v := (lo8 (c >>> 8))) d14_51 rfl ?_
  refine go_bastore (v := (lo8 (c >>> 8))) A1002 (by omega) sb (i := (2 * i + 1)) rfl (by rw [List.length_set]; omega) (nar_lo8 _) d14_52 (fun h1003 K1003 A1003 => ?_)
  have z1003 := K1003.1
  have A1003 : AI Z h1003 b .byte ((xs.set (2 * i) (lo8 c)).set (2 * i + 1) (lo8 (c >>> 8))) := A1003
  exact go_return d14_53 rfl ⟨rfl, (((Keep.refl h0 [b]).trans K1002 (allS (Or.inl (by simp)) all0)).trans K1003 (allS (Or.inl (by simp)) all0)), A1003⟩
theorem d15_0 : Dec jdk_52_method_14_code 0 (.iload_n 2) 1 1 := ⟨by decide +kernel, rfl⟩
theorem d15_1 : Dec jdk_52_method_14_code 1 (.invokestatic 107) 3 4 := ⟨by decide +kernel, rfl⟩
theorem pd8 : parseMethodDescriptor "(I)[B" = some ⟨[.int], some (.array .byte)⟩ := by decide +kernel
theorem d15_4 : Dec jdk_52_method_14_code 4 (.astore_n 3) 1 5 := ⟨by decide +kernel, rfl⟩
theorem d15_5 : Dec jdk_52_method_14_code 5 (.iconst 0) 1 6 := ⟨by decide +kernel, rfl⟩
theorem d15_6 : Dec jdk_52_method_14_code 6 (.istore 4) 2 8 := ⟨by decide +kernel, rfl⟩
theorem d15_8 : Dec jdk_52_method_14_code 8 (.iload 4) 2 10 := ⟨by decide +kernel, rfl⟩
theorem d15_10 : Dec jdk_52_method_14_code 10 (.iload_n 2) 1 11 := ⟨by decide +kernel, rfl⟩
theorem d15_11 : Brn jdk_52_method_14_code 11 (.if_icmp .ge 21) 21 14 32 := ⟨by decide +kernel, rfl, by decide, by decide⟩
theorem d15_32 : Dec jdk_52_method_14_code 32 (.aload_n 3) 1 33 := ⟨by decide +kernel, rfl⟩
theorem d15_33 : Dec jdk_52_method_14_code 33 (.areturn) 1 34 := ⟨by decide +kernel, rfl⟩
theorem d15_14 : Dec jdk_52_method_14_code 14 (.aload_n 3) 1 15 := ⟨by decide +kernel, rfl⟩
theorem d15_15 : Dec jdk_52_method_14_code 15 (.iload 4) 2 17 := ⟨by decide +kernel, rfl⟩
theorem d15_17 : Dec jdk_52_method_14_code 17 (.aload_n 0) 1 18 := ⟨by decide +kernel, rfl⟩
theorem d15_18 : Dec jdk_52_method_14_code 18 (.iload_n 1) 1 19 := ⟨by decide +kernel, rfl⟩
theorem d15_19 : Dec jdk_52_method_14_code 19 (.caload) 1 20 := ⟨by decide +kernel, rfl⟩
theorem d15_20 : Dec jdk_52_method_14_code 20 (.invokestatic 111) 3 23 := ⟨by decide +kernel, rfl⟩
theorem pd9 : parseMethodDescriptor "([BII)V" = some ⟨[(.array .byte), .int, .int], none⟩ := by decide +kernel
theorem d15_23 : Dec jdk_52_method_14_code 23 (.iinc 1 1) 3 26 := ⟨by decide +kernel, rfl⟩
theorem d15_26 : Dec jdk_52_method_14_code 26 (.iinc 4 1) 3 29 := ⟨by decide +kernel, rfl⟩
theorem d15_29 : Brn jdk_52_method_14_code 29 (.goto (-21)) (-21) 32 8 := ⟨by decide +kernel, rfl, by decide, by decide⟩
set_option maxRecDepth 65536 in
set_option maxHeartbeats 40000000 in
theorem c_tob2 (l : Launch) (Z : State) (a0 : Array Value) (hw : ∀ d ∈ tables_1, d.before a0 Z = true) (hEL : EW Z a0 own_EL) (src : Addr) (cs : List Int32) (S : Addr → Prop) (h0 : Heap) (hz : Z.heap.size ≤ h0.size) (A1 : AI Z h0 src .char cs) (hl : cs.length ≤ 4) (Oa : Sta Z Z.heap "java/lang/StringUTF16" "$assertionsDisabled" "Z" (.int (1 : Int32))) (Oh : Sta Z Z.heap "java/lang/StringUTF16" "HI_BYTE_SHIFT" "I" (.int (0 : Int32))) (Ol : Sta Z Z.heap "java/lang/StringUTF16" "LO_BYTE_SHIFT" "I" (.int (8 : Int32))) :
    Con l Z own_EL [] (⟨"java/lang/StringUTF16", "toBytes", "([CII)[B"⟩ : MethodName) jdk_52_method_14_code 5 (some (.array .byte)) ({ frames := 2, cells := 1, slots := 8, locals := 24 } : Room) #[.ref src, .int (0 : Int32), .int (Int32.ofNat cs.length)] S h0 (fun S' v h' => ∃ b, v = some (.ref b) ∧ h0.size ≤ b ∧ b < h'.size ∧ S' b ∧ Keep h0 h' [] ∧ AI Z h' b .byte (cs.flatMap two)) := by
  refine con_of_go (ls := #[.val (.ref src), .val (.int (0 : Int32)), .val (.int (Int32.ofNat cs.length)), .unset, .unset]) (plainFor_of_name pn0) hEL (fun m => by first | rfl | (simp [entryFrame, mkF, argsToLocals, cat_int, cat_ref, cat_null, cat_long]; done)) (fun K => ?_)
  show Go _ _ _ _ _ _ _ _ _ _ _ _ _ 1 8 _ _ _
  have ls := lt_nat A1.lt
  have hlen : cs.length < 2 ^ 31 := by omega
  refine go_iloadN d15_0 rfl ?_
  refine go_static (R := ({ frames := 2, cells := 1, slots := 8, locals := 24 } : Room)) (kc := 0) (ks := 0) [.int (Int32.ofNat cs.length)] [] (c_nbf l Z a0 hw hEL cs.length hl S h0 (by omega)) (hw _ (List.mem_of_getElem? (i := 94) rfl)) (hw _ (List.mem_of_getElem? (i := 95) rfl)) (hw _ (List.mem_of_getElem? (i := 96) rfl)) (hw _ (List.mem_of_getElem? (i := 62) rfl)) (by decide) rfl rfl (lenOf pd8 rfl) d15_1 (by rfl) (by decide) (Nat.le_of_ble_eq_true rfl) (rc := 1) (rs := 8) rfl rfl (fun S1001 v1001 h1001 m1001 z1001 q1001 => ?_)
  obtain ⟨b1001, rfl, g1001, l1001, s1001, K1001, A1001⟩ := q1001
  have l1001 := lt_nat l1001
  show Go _ _ _ _ _ _ _ _ _ _ _ _ _ _ _ _ _ (mkF K.m 4 #[.val (.ref src), .val (.int (0 : Int32)), .val (.int (Int32.ofNat cs.length)), .unset, .unset] [.ref b1001])
  refine go_astoreN d15_4 rfl (l' := #[.val (.ref src), .val (.int (0 : Int32)), .val (.int (Int32.ofNat cs.length)), .val (.ref b1001), .unset]) rfl ?_
  refine go_iconst (x := (0 : Int32)) d15_5 (by decide) ?_
  refine go_istore d15_6 (l' := #[.val (.ref src), .val (.int (0 : Int32)), .val (.int (Int32.ofNat cs.length)), .val (.ref b1001), .val (.int (0 : Int32))]) rfl ?_
  have loop : ∀ r i, i + r = cs.length → ∀ (S1 : Addr → Prop) (h1 : Heap), S1 b1001 → Keep h1001 h1 [b1001] → AI Z h1 src .char cs → AI Z h1 b1001 .byte ((cs.take i).flatMap two ++ List.replicate (2 * cs.length - 2 * i) 0) → Go l Z a0 own_EL ({ frames := 2, cells := 1, slots := 8, locals := 24 } : Room) "java/lang/StringUTF16" jdk_52_method_14_code 5 (some (.array .byte)) "toBytes" S (fun S' v h' => ∃ b, v = some (.ref b) ∧ h0.size ≤ b ∧ b < h'.size ∧ S' b ∧ Keep h0 h' [] ∧ AI Z h' b .byte (cs.flatMap two)) K 0 0 S1 h1 (mkF K.m 8 #[.val (.ref src), .val (.int (Int32.ofNat i)), .val (.int (Int32.ofNat cs.length)), .val (.ref b1001), .val (.int (Int32.ofNat i))] []) := by
    intro r
    induction r with
    | zero =>
      intro i hi S1 h1 sd Kp B1 B2
      have zK := Kp.1
      refine go_iload d15_8 rfl ?_
      refine go_iloadN d15_10 rfl ?_
      refine go_icmpge d15_11 (fun c1002 => ?_) (fun c1002 => absurd c1002 (ofNat_nlt (by omega) (by omega)))
      refine go_aloadN d15_32 rfl rfl ?_
      have hi0 : i = cs.length := by omega
      have B1003 : AI Z h1 b1001 .byte (cs.flatMap two) := by rw [hi0] at B2; simpa using B2
      have L1003 := lt_nat B1003.lt
      exact go_areturn d15_33 rfl rfl rfl ⟨_, rfl, by omega, L1003, sd, (((Keep.refl h0 []).trans K1001 all0).trans Kp (allS (Or.inr (by omega)) all0)), B1003⟩
    | succ r ih =>
      intro i hi S1 h1 sd Kp B1 B2
      have zK := Kp.1
      obtain ⟨c, hc⟩ : ∃ c, cs[i]? = some c := ⟨_, List.getElem?_eq_getElem (by omega)⟩
      refine go_iload d15_8 rfl ?_
      refine go_iloadN d15_10 rfl ?_
      refine go_icmpge d15_11 (fun c1004 => absurd (ofNat_lt (by omega) (by omega)) c1004) (fun c1004 => ?_)
      refine go_aloadN d15_14 rfl rfl ?_
      refine go_iload d15_15 rfl ?_
      refine go_aloadN d15_17 rfl rfl ?_
      refine go_iloadN d15_18 rfl ?_
      refine go_caload (x := c) B1 (i := i) rfl hc d15_19 ?_
      refine go_static (R := ({ frames := 2, cells := 1, slots := 8, locals := 24 } : Room)) (kc := 0) (ks := 0) [.ref b1001, .int (Int32.ofNat i), .int c] [] (c_putc l Z a0 hw hEL b1001 _ i c (by rw [fill2_len rfl (by omega)]; omega) S1 h1 (by omega) B2 (by omega) sd Oa Oh Ol) (hw _ (List.mem_of_getElem? (i := 101) rfl)) (hw _ (List.mem_of_getElem? (i := 102) rfl)) (hw _ (List.mem_of_getElem? (i := 103) rfl)) (hw _ (List.mem_of_getElem? (i := 62) rfl)) (by decide) rfl rfl (lenOf pd9 rfl) d15_20 (by rfl) (by decide) (Nat.le_of_ble_eq_true rfl) (rc := 0) (rs := 0) rfl rfl (fun S1005 v1005 h1005 m1005 z1005 q1005 => ?_)
      obtain ⟨rfl, K1005, A1005⟩ := q1005
      have zz1005 := K1005.1
      have A1005 : AI Z h1005 b1001 .byte ((cs.take (i + 1)).flatMap two ++ List.replicate (2 * cs.length - 2 * (i + 1)) 0) := set_two rfl hc ▸ A1005
      show Go _ _ _ _ _ _ _ _ _ _ _ _ _ _ _ _ _ (mkF K.m 23 #[.val (.ref src), .val (.int (Int32.ofNat i)), .val (.int (Int32.ofNat cs.length)), .val (.ref b1001), .val (.int (Int32.ofNat i))] [])
      refine go_iinc d15_23 rfl (v := (Int32.ofNat (i + 1))) (ofNat_inc i) (l' := #[.val (.ref src), .val (.int (Int32.ofNat (i + 1))), .val (.int (Int32.ofNat cs.length)), .val (.ref b1001), .val (.int (Int32.ofNat i))]) rfl ?_
      refine go_iinc d15_26 rfl (v := (Int32.ofNat (i + 1))) (ofNat_inc i) (l' := #[.val (.ref src), .val (.int (Int32.ofNat (i + 1))), .val (.int (Int32.ofNat cs.length)), .val (.ref b1001), .val (.int (Int32.ofNat (i + 1)))]) rfl ?_
      refine go_goto d15_29 ?_
      have f1006 := (B1.keep K1005 (ninS (ne_of (a := src) (b := b1001) (by omega)) nin0))
      exact ih (i + 1) (by omega) S1005 h1005 (m1005 _ sd) (Kp.trans K1005 (allS (Or.inl (by simp)) all0)) f1006 A1005
  have f1007 := (A1.keep K1001 nin0)
  exact loop cs.length 0 (by omega) S1001 h1001 s1001 (Keep.refl _ _) f1007 (by simpa using A1001)
theorem d16_0 : Dec jdk_52_method_16_code 0 (.iload_n 2) 1 1 := ⟨by decide +kernel, rfl⟩
theorem d16_1 : Dec jdk_52_method_16_code 1 (.newarray .byte) 2 3 := ⟨by decide +kernel, rfl⟩
theorem d16_3 : Dec jdk_52_method_16_code 3 (.astore_n 3) 1 4 := ⟨by decide +kernel, rfl⟩
theorem d16_4 : Dec jdk_52_method_16_code 4 (.aload_n 0) 1 5 := ⟨by decide +kernel, rfl⟩
theorem d16_5 : Dec jdk_52_method_16_code 5 (.iload_n 1) 1 6 := ⟨by decide +kernel, rfl⟩
theorem d16_6 : Dec jdk_52_method_16_code 6 (.aload_n 3) 1 7 := ⟨by decide +kernel, rfl⟩
theorem d16_7 : Dec jdk_52_method_16_code 7 (.iconst 0) 1 8 := ⟨by decide +kernel, rfl⟩
theorem d16_8 : Dec jdk_52_method_16_code 8 (.iload_n 2) 1 9 := ⟨by decide +kernel, rfl⟩
theorem d16_9 : Dec jdk_52_method_16_code 9 (.invokestatic 115) 3 12 := ⟨by decide +kernel, rfl⟩
theorem pd10 : parseMethodDescriptor "([CI[BII)I" = some ⟨[(.array .char), .int, (.array .byte), .int, .int], some .int⟩ := by decide +kernel
theorem d16_12 : Dec jdk_52_method_16_code 12 (.istore 4) 2 14 := ⟨by decide +kernel, rfl⟩
theorem d16_14 : Dec jdk_52_method_16_code 14 (.iload 4) 2 16 := ⟨by decide +kernel, rfl⟩
theorem d16_16 : Dec jdk_52_method_16_code 16 (.iload_n 2) 1 17 := ⟨by decide +kernel, rfl⟩
theorem d16_17 : Brn jdk_52_method_16_code 17 (.if_icmp .eq 40) 40 20 57 := ⟨by decide +kernel, rfl, by decide, by decide⟩
theorem d16_57 : Dec jdk_52_method_16_code 57 (.aload_n 3) 1 58 := ⟨by decide +kernel, rfl⟩
theorem d16_58 : Dec jdk_52_method_16_code 58 (.areturn) 1 59 := ⟨by decide +kernel, rfl⟩
theorem d16_20 : Dec jdk_52_method_16_code 20 (.aload_n 0) 1 21 := ⟨by decide +kernel, rfl⟩
theorem d16_21 : Dec jdk_52_method_16_code 21 (.iload_n 1) 1 22 := ⟨by decide +kernel, rfl⟩
theorem d16_22 : Dec jdk_52_method_16_code 22 (.iload_n 2) 1 23 := ⟨by decide +kernel, rfl⟩
theorem d16_23 : Dec jdk_52_method_16_code 23 (.invokestatic 119) 3 26 := ⟨by decide +kernel, rfl⟩
theorem pd11 : parseMethodDescriptor "([CII)[B" = some ⟨[(.array .char), .int, .int], some (.array .byte)⟩ := by decide +kernel
theorem d16_26 : Dec jdk_52_method_16_code 26 (.astore 5) 2 28 := ⟨by decide +kernel, rfl⟩
theorem d16_28 : Dec jdk_52_method_16_code 28 (.aload 5) 2 30 := ⟨by decide +kernel, rfl⟩
theorem d16_30 : Dec jdk_52_method_16_code 30 (.iload 4) 2 32 := ⟨by decide +kernel, rfl⟩
theorem d16_32 : Dec jdk_52_method_16_code 32 (.invokestatic 71) 3 35 := ⟨by decide +kernel, rfl⟩
theorem d16_35 : Dec jdk_52_method_16_code 35 (.sipush 255) 3 38 := ⟨by decide +kernel, rfl⟩
theorem d16_38 : Brn jdk_52_method_16_code 38 (.if_icmp .gt 16) 16 41 54 := ⟨by decide +kernel, rfl, by decide, by decide⟩
theorem d16_54 : Dec jdk_52_method_16_code 54 (.aload 5) 2 56 := ⟨by decide +kernel, rfl⟩
theorem d16_56 : Dec jdk_52_method_16_code 56 (.areturn) 1 57 := ⟨by decide +kernel, rfl⟩
set_option maxRecDepth 65536 in
set_option maxHeartbeats 40000000 in
theorem c_cmpU (l : Launch) (Z : State) (a0 : Array Value) (hw : ∀ d ∈ tables_1, d.before a0 Z = true) (hEL : EW Z a0 own_EL) (src : Addr) (cs : List Int32) (S : Addr → Prop) (h0 : Heap) (hz : Z.heap.size ≤ h0.size) (A1 : AI Z h0 src .char cs) (hl : cs.length ≤ 4) (Oa : Sta Z Z.heap "java/lang/StringUTF16" "$assertionsDisabled" "Z" (.int (1 : Int32))) (Oh : Sta Z Z.heap "java/lang/StringUTF16" "HI_BYTE_SHIFT" "I" (.int (0 : Int32))) (Ol : Sta Z Z.heap "java/lang/StringUTF16" "LO_BYTE_SHIFT" "I" (.int (8 : Int32))) :
    Con l Z own_EL [] (⟨"java/lang/StringUTF16", "compress", "([CII)[B"⟩ : MethodName) jdk_52_method_16_code 6 (some (.array .byte)) ({ frames := 3, cells := 2, slots := 12, locals := 40 } : Room) #[.ref src, .int (0 : Int32), .int (Int32.ofNat cs.length)] S h0 (fun S' v h' => ∃ b k, v = some (.ref b) ∧ h0.size ≤ b ∧ b < h'.size ∧ S' b ∧ Keep h0 h' [] ∧ AI Z h' b .byte (sbytes k cs) ∧ ((k = 0 ∧ ∀ c ∈ cs, ¬ (255 : Int32) < c) ∨ (k = 1 ∧ ∃ c ∈ cs, (255 : Int32) < c))) := by
  have hch : ∀ c ∈ cs, isCh c := by obtain ⟨c, -, -, -, q⟩ := A1; exact q
  rcases lat_or cs with hcs | ⟨k, c, h1, h2, h3⟩
  · refine con_of_go (ls := #[.val (.ref src), .val (.int (0 : Int32)), .val (.int (Int32.ofNat cs.length)), .unset, .unset, .unset]) (plainFor_of_name pn0) hEL (fun m => by first | rfl | (simp [entryFrame, mkF, argsToLocals, cat_int, cat_ref, cat_null, cat_long]; done)) (fun K => ?_)
    show Go _ _ _ _ _ _ _ _ _ _ _ _ _ 2 12 _ _ _
    have ls := lt_nat A1.lt
    refine go_iloadN d16_0 rfl ?_
    refine go_newarr (kc := 1) (ks := 8) (N := cs.length) (cap := 4) (hw _ (List.mem_of_getElem? (i := 16) rfl)) rfl hl (by decide) rfl rfl d16_1 (fun S1001 h1001 a1001 e1001 m1001 s1001 x1001 l1001 A1001 => ?_)
    have z1001 := x1001.1
    have A1001 : AI Z h1001 a1001 .byte (List.replicate cs.length 0) := A1001
    refine go_astoreN d16_3 rfl (l' := #[.val (.ref src), .val (.int (0 : Int32)), .val (.int (Int32.ofNat cs.length)), .val (.ref a1001), .unset, .unset]) rfl ?_
    refine go_aloadN d16_4 rfl rfl ?_
    refine go_iloadN d16_5 rfl ?_
    refine go_aloadN d16_6 rfl rfl ?_
    refine go_iconst (x := (0 : Int32)) d16_7 (by decide) ?_
    refine go_iloadN d16_8 rfl ?_
    have f1002 := (A1.ext x1001)
    refine go_static (R := ({ frames := 3, cells := 2, slots := 12, locals := 40 } : Room)) (kc := 1) (ks := 8) [.ref src, .int (0 : Int32), .ref a1001, .int (0 : Int32), .int (Int32.ofNat cs.length)] [] (c_cmp1 l Z a0 hw hEL src a1001 cs cs.length S1001 h1001 (by omega) f1002 A1001 (by omega) s1001 (by omega) (fun i c hi hc => hcs c (List.mem_of_getElem? hc)) (fun c hc => absurd (List.getElem?_eq_some_iff.mp hc).1 (by omega))) (hw _ (List.mem_of_getElem? (i := 64) rfl)) (hw _ (List.mem_of_getElem? (i := 65) rfl)) (hw _ (List.mem_of_getElem? (i := 66) rfl)) (hw _ (List.mem_of_getElem? (i := 62) rfl)) (by decide) rfl rfl (lenOf pd10 rfl) d16_9 (by rfl) (by decide) (Nat.le_of_ble_eq_true rfl) (rc := 0) (rs := 0) rfl rfl (fun S1003 v1003 h1003 m1003 z1003 q1003 => ?_)
    obtain ⟨rfl, K1003, A1003, -⟩ := q1003
    show Go _ _ _ _ _ _ _ _ _ _ _ _ _ _ _ _ _ (mkF K.m 12 #[.val (.ref src), .val (.int (0 : Int32)), .val (.int (Int32.ofNat cs.length)), .val (.ref a1001), .unset, .unset] [.int (Int32.ofNat cs.length)])
    refine go_istore d16_12 (l' := #[.val (.ref src), .val (.int (0 : Int32)), .val (.int (Int32.ofNat cs.length)), .val (.ref a1001), .val (.int (Int32.ofNat cs.length)), .unset]) rfl ?_
    refine go_iload d16_14 rfl ?_
    refine go_iloadN d16_16 rfl ?_
    refine go_icmpeq d16_17 (fun c1004 => ?_) (fun c1004 => absurd (rfl) c1004)
    refine go_aloadN d16_57 rfl rfl ?_
    have B1005 : AI Z h1003 a1001 .byte (sbytes 0 cs) := by rw [sbytes0]; simpa using A1003
    have L1005 := lt_nat B1005.lt
    exact go_areturn d16_58 rfl rfl rfl ⟨_, (0 : Int32), rfl, by omega, L1005, (m1003 _ s1001), (((Keep.refl h0 []).ext x1001).trans K1003 (allS (Or.inr (by omega)) all0)), B1005, Or.inl ⟨rfl, hcs⟩⟩
  · refine con_of_go (ls := #[.val (.ref src), .val (.int (0 : Int32)), .val (.int (Int32.ofNat cs.length)), .unset, .unset, .unset]) (plainFor_of_name pn0) hEL (fun m => by first | rfl | (simp [entryFrame, mkF, argsToLocals, cat_int, cat_ref, cat_null, cat_long]; done)) (fun K => ?_)
    show Go _ _ _ _ _ _ _ _ _ _ _ _ _ 2 12 _ _ _
    have ls := lt_nat A1.lt
    have hkl := (List.getElem?_eq_some_iff.mp h1).1
    refine go_iloadN d16_0 rfl ?_
    refine go_newarr (kc := 1) (ks := 8) (N := cs.length) (cap := 4) (hw _ (List.mem_of_getElem? (i := 16) rfl)) rfl hl (by decide) rfl rfl d16_1 (fun S1001 h1001 a1001 e1001 m1001 s1001 x1001 l1001 A1001 => ?_)
    have z1001 := x1001.1
    have A1001 : AI Z h1001 a1001 .byte (List.replicate cs.length 0) := A1001
    refine go_astoreN d16_3 rfl (l' := #[.val (.ref src), .val (.int (0 : Int32)), .val (.int (Int32.ofNat cs.length)), .val (.ref a1001), .unset, .unset]) rfl ?_
    refine go_aloadN d16_4 rfl rfl ?_
    refine go_iloadN d16_5 rfl ?_
    refine go_aloadN d16_6 rfl rfl ?_
    refine go_iconst (x := (0 : Int32)) d16_7 (by decide) ?_
    refine go_iloadN d16_8 rfl ?_
    have f1002 := (A1.ext x1001)
    refine go_static (R := ({ frames := 3, cells := 2, slots := 12, locals := 40 } : Room)) (kc := 1) (ks := 8) [.ref src, .int (0 : Int32), .ref a1001, .int (0 : Int32), .int (Int32.ofNat cs.length)] [] (c_cmp1 l Z a0 hw hEL src a1001 cs k S1001 h1001 (by omega) f1002 A1001 (by omega) s1001 (by omega) h3 (fun d hd => by rw [h1] at hd; cases hd; exact h2)) (hw _ (List.mem_of_getElem? (i := 64) rfl)) (hw _ (List.mem_of_getElem? (i := 65) rfl)) (hw _ (List.mem_of_getElem? (i := 66) rfl)) (hw _ (List.mem_of_getElem? (i := 62) rfl)) (by decide) rfl rfl (lenOf pd10 rfl) d16_9 (by rfl) (by decide) (Nat.le_of_ble_eq_true rfl) (rc := 0) (rs := 0) rfl rfl (fun S1003 v1003 h1003 m1003 z1003 q1003 => ?_)
    obtain ⟨rfl, K1003, A1003, -⟩ := q1003
    show Go _ _ _ _ _ _ _ _ _ _ _ _ _ _ _ _ _ (mkF K.m 12 #[.val (.ref src), .val (.int (0 : Int32)), .val (.int (Int32.ofNat cs.length)), .val (.ref a1001), .unset, .unset] [.int (Int32.ofNat k)])
    refine go_istore d16_12 (l' := #[.val (.ref src), .val (.int (0 : Int32)), .val (.int (Int32.ofNat cs.length)), .val (.ref a1001), .val (.int (Int32.ofNat k)), .unset]) rfl ?_
    refine go_iload d16_14 rfl ?_
    refine go_iloadN d16_16 rfl ?_
    refine go_icmpeq d16_17 (fun c1004 => absurd c1004 (fun q => absurd ((ofNat_inj (by omega) (by omega)).mp q) (by omega))) (fun c1004 => ?_)
    refine go_aloadN d16_20 rfl rfl ?_
    refine go_iloadN d16_21 rfl ?_
    refine go_iloadN d16_22 rfl ?_
    have f1005 := (f1002.keep K1003 (ninS (ne_of (a := src) (b := a1001) (by omega)) nin0))
    refine go_static (R := ({ frames := 3, cells := 2, slots := 12, locals := 40 } : Room)) (kc := 0) (ks := 0) [.ref src, .int (0 : Int32), .int (Int32.ofNat cs.length)] [] (c_tob2 l Z a0 hw hEL src cs S1003 h1003 (by omega) f1005 (by omega) Oa Oh Ol) (hw _ (List.mem_of_getElem? (i := 91) rfl)) (hw _ (List.mem_of_getElem? (i := 92) rfl)) (hw _ (List.mem_of_getElem? (i := 93) rfl)) (hw _ (List.mem_of_getElem? (i := 62) rfl)) (by decide) rfl rfl (lenOf pd11 rfl) d16_23 (by rfl) (by decide) (Nat.le_of_ble_eq_true rfl) (rc := 1) (rs := 8) rfl rfl (fun S1006 v1006 h1006 m1006 z1006 q1006 => ?_)
    obtain ⟨b1006, rfl, g1006, l1006, s1006, K1006, A1006⟩ := q1006
    have l1006 := lt_nat l1006
    show Go _ _ _ _ _ _ _ _ _ _ _ _ _ _ _ _ _ (mkF K.m 26 #[.val (.ref src), .val (.int (0 : Int32)), .val (.int (Int32.ofNat cs.length)), .val (.ref a1001), .val (.int (Int32.ofNat k)), .unset] [.ref b1006])
    refine go_astore d16_26 rfl (l' := #[.val (.ref src), .val (.int (0 : Int32)), .val (.int (Int32.ofNat cs.length)), .val (.ref a1001), .val (.int (Int32.ofNat k)), .val (.ref b1006)]) rfl ?_
    refine go_aload d16_28 rfl rfl ?_
    refine go_iload d16_30 rfl ?_
    refine go_static (R := ({ frames := 3, cells := 2, slots := 12, locals := 40 } : Room)) (kc := 0) (ks := 0) [.ref b1006, .int (Int32.ofNat k)] [] (c_getc l Z a0 hw hEL b1006 cs k c h1 (hch c (List.mem_of_getElem? h1)) S1006 h1006 A1006 Oa Oh Ol) (hw _ (List.mem_of_getElem? (i := 107) rfl)) (hw _ (List.mem_of_getElem? (i := 108) rfl)) (hw _ (List.mem_of_getElem? (i := 109) rfl)) (hw _ (List.mem_of_getElem? (i := 62) rfl)) (by decide) rfl rfl (lenOf pd5 rfl) d16_32 (by rfl) (by decide) (Nat.le_of_ble_eq_true rfl) (rc := 0) (rs := 0) rfl rfl (fun S1007 v1007 h1007 m1007 z1007 q1007 => ?_)
    obtain ⟨rfl, rfl⟩ := q1007
    show Go _ _ _ _ _ _ _ _ _ _ _ _ _ _ _ _ _ (mkF K.m 35 #[.val (.ref src), .val (.int (0 : Int32)), .val (.int (Int32.ofNat cs.length)), .val (.ref a1001), .val (.int (Int32.ofNat k)), .val (.ref b1006)] [.int c])
    refine go_sipush (x := (255 : Int32)) d16_35 (by decide) ?_
    refine go_icmpgt d16_38 (fun c1008 => ?_) (fun c1008 => absurd (h2) c1008)
    refine go_aload d16_54 rfl rfl ?_
    have B1009 : AI Z h1006 b1006 .byte (sbytes 1 cs) := A1006
    have L1009 := lt_nat B1009.lt
    exact go_areturn d16_56 rfl rfl rfl ⟨_, (1 : Int32), rfl, by omega, L1009, (m1007 _ s1006), ((((Keep.refl h0 []).ext x1001).trans K1003 (allS (Or.inr (by omega)) all0)).trans K1006 all0), B1009, Or.inr ⟨rfl, c, List.mem_of_getElem? h1, h2⟩⟩
theorem d17_0 : Dec jdk_52_method_15_code 0 (.iload_n 1) 1 1 := ⟨by decide +kernel, rfl⟩
theorem d17_1 : Dec jdk_52_method_15_code 1 (.aload_n 0) 1 2 := ⟨by decide +kernel, rfl⟩
theorem d17_2 : Dec jdk_52_method_15_code 2 (.arraylength) 1 3 := ⟨by decide +kernel, rfl⟩
theorem d17_3 : Dec jdk_52_method_15_code 3 (.isub) 1 4 := ⟨by decide +kernel, rfl⟩
theorem d17_4 : Dec jdk_52_method_15_code 4 (.bipush 31) 2 6 := ⟨by decide +kernel, rfl⟩
theorem d17_6 : Dec jdk_52_method_15_code 6 (.iushr) 1 7 := ⟨by decide +kernel, rfl⟩
theorem d17_7 : Dec jdk_52_method_15_code 7 (.i2b) 1 8 := ⟨by decide +kernel, rfl⟩
theorem d17_8 : Dec jdk_52_method_15_code 8 (.ireturn) 1 9 := ⟨by decide +kernel, rfl⟩
set_option maxRecDepth 65536 in
set_option maxHeartbeats 40000000 in
theorem c_codU (l : Launch) (Z : State) (a0 : Array Value) (hw : ∀ d ∈ tables_1, d.before a0 Z = true) (hEL : EW Z a0 own_EL) (b : Addr) (cs : List Int32) (k : Int32) (hk : k = 0 ∨ k = 1) (hpos : 0 < cs.length) (hlen : cs.length < 2 ^ 29) (S : Addr → Prop) (h0 : Heap) (A : AI Z h0 b .byte (sbytes k cs)) :
    Con l Z own_EL [] (⟨"java/lang/StringUTF16", "coderFromArrayLen", "([BI)B"⟩ : MethodName) jdk_52_method_15_code 2 (some .byte) ({ frames := 0, cells := 0, slots := 0, locals := 0 } : Room) #[.ref b, .int (Int32.ofNat cs.length)] S h0 (fun S' v h' => v = some (.int k) ∧ h0 = h') := by
  rcases hk with rfl | rfl
  · refine con_of_go (ls := #[.val (.ref b), .val (.int (Int32.ofNat cs.length))]) (plainFor_of_name pn0) hEL (fun m => by first | rfl | (simp [entryFrame, mkF, argsToLocals, cat_int, cat_ref, cat_null, cat_long]; done)) (fun K => ?_)
    show Go _ _ _ _ _ _ _ _ _ _ _ _ _ 0 0 _ _ _
    refine go_iloadN d17_0 rfl ?_
    refine go_aloadN d17_1 rfl rfl ?_
    refine go_alen A d17_2 (v := (Int32.ofNat cs.length)) (by rw [sbytes0]; simp) ?_
    refine go_isub (v := (0 : Int32)) d17_3 (Int32.sub_self _) ?_
    refine go_bipush (x := (31 : Int32)) d17_4 (by decide) ?_
    refine go_iushr (v := (0 : Int32)) d17_6 (by decide) ?_
    refine go_i2b (v := (0 : Int32)) d17_7 (by decide) ?_
    exact go_ireturn (ty := .byte) (v := (0 : Int32)) d17_8 rfl (by simp) (by decide) ⟨rfl, rfl⟩
  · refine con_of_go (ls := #[.val (.ref b), .val (.int (Int32.ofNat cs.length))]) (plainFor_of_name pn0) hEL (fun m => by first | rfl | (simp [entryFrame, mkF, argsToLocals, cat_int, cat_ref, cat_null, cat_long]; done)) (fun K => ?_)
    show Go _ _ _ _ _ _ _ _ _ _ _ _ _ 0 0 _ _ _
    refine go_iloadN d17_0 rfl ?_
    refine go_aloadN d17_1 rfl rfl ?_
    refine go_alen A d17_2 (v := (Int32.ofNat (2 * cs.length))) (by rw [sbytes1, flat_len]) ?_
    refine go_isub d17_3 rfl ?_
    refine go_bipush (x := (31 : Int32)) d17_4 (by decide) ?_
    refine go_iushr (v := (1 : Int32)) d17_6 (cod1 hpos hlen) ?_
    refine go_i2b (v := (1 : Int32)) d17_7 (by decide) ?_
    exact go_ireturn (ty := .byte) (v := (1 : Int32)) d17_8 rfl (by simp) (by decide) ⟨rfl, rfl⟩
theorem d18_0 : Dec jdk_42_method_149_code 0 (.aload_n 0) 1 1 := ⟨by decide +kernel, rfl⟩
theorem d18_1 : Dec jdk_42_method_149_code 1 (.invokespecial 1) 3 4 := ⟨by decide +kernel, rfl⟩
theorem d18_4 : Dec jdk_42_method_149_code 4 (.iload_n 3) 1 5 := ⟨by decide +kernel, rfl⟩
theorem d18_5 : Brn jdk_42_method_149_code 5 (.ifCond .ne 22) 22 8 27 := ⟨by decide +kernel, rfl, by decide, by decide⟩
theorem d18_8 : Dec jdk_42_method_149_code 8 (.aload_n 0) 1 9 := ⟨by decide +kernel, rfl⟩
theorem d18_9 : Dec jdk_42_method_149_code 9 (.ldc 7) 2 11 := ⟨by decide +kernel, rfl⟩
theorem d18_11 : Dec jdk_42_method_149_code 11 (.getfield 9) 3 14 := ⟨by decide +kernel, rfl⟩
theorem d18_14 : Dec jdk_42_method_149_code 14 (.putfield 9) 3 17 := ⟨by decide +kernel, rfl⟩
theorem d18_17 : Dec jdk_42_method_149_code 17 (.aload_n 0) 1 18 := ⟨by decide +kernel, rfl⟩
theorem d18_18 : Dec jdk_42_method_149_code 18 (.ldc 7) 2 20 := ⟨by decide +kernel, rfl⟩
theorem d18_20 : Dec jdk_42_method_149_code 20 (.getfield 15) 3 23 := ⟨by decide +kernel, rfl⟩
theorem d18_23 : Dec jdk_42_method_149_code 23 (.putfield 15) 3 26 := ⟨by decide +kernel, rfl⟩
theorem d18_26 : Dec jdk_42_method_149_code 26 (.return_) 1 27 := ⟨by decide +kernel, rfl⟩
theorem d18_27 : Dec jdk_42_method_149_code 27 (.getstatic 38) 3 30 := ⟨by decide +kernel, rfl⟩
theorem d18_30 : Brn jdk_42_method_149_code 30 (.ifCond .eq 28) 28 33 58 := ⟨by decide +kernel, rfl, by decide, by decide⟩
theorem d18_33 : Dec jdk_42_method_149_code 33 (.aload_n 1) 1 34 := ⟨by decide +kernel, rfl⟩
theorem d18_34 : Dec jdk_42_method_149_code 34 (.iload_n 2) 1 35 := ⟨by decide +kernel, rfl⟩
theorem d18_35 : Dec jdk_42_method_149_code 35 (.iload_n 3) 1 36 := ⟨by decide +kernel, rfl⟩
theorem d18_36 : Dec jdk_42_method_149_code 36 (.invokestatic 177) 3 39 := ⟨by decide +kernel, rfl⟩
theorem d18_39 : Dec jdk_42_method_149_code 39 (.astore 5) 2 41 := ⟨by decide +kernel, rfl⟩
theorem d18_41 : Dec jdk_42_method_149_code 41 (.aload_n 0) 1 42 := ⟨by decide +kernel, rfl⟩
theorem d18_42 : Dec jdk_42_method_149_code 42 (.aload 5) 2 44 := ⟨by decide +kernel, rfl⟩
theorem d18_44 : Dec jdk_42_method_149_code 44 (.iload_n 3) 1 45 := ⟨by decide +kernel, rfl⟩
theorem d18_45 : Dec jdk_42_method_149_code 45 (.invokestatic 47) 3 48 := ⟨by decide +kernel, rfl⟩
theorem pd12 : parseMethodDescriptor "([BI)B" = some ⟨[(.array .byte), .int], some .byte⟩ := by decide +kernel
theorem d18_48 : Dec jdk_42_method_149_code 48 (.putfield 15) 3 51 := ⟨by decide +kernel, rfl⟩
theorem d18_51 : Dec jdk_42_method_149_code 51 (.aload_n 0) 1 52 := ⟨by decide +kernel, rfl⟩
theorem d18_52 : Dec jdk_42_method_149_code 52 (.aload 5) 2 54 := ⟨by decide +kernel, rfl⟩
theorem d18_54 : Dec jdk_42_method_149_code 54 (.putfield 9) 3 57 := ⟨by decide +kernel, rfl⟩
theorem d18_57 : Dec jdk_42_method_149_code 57 (.return_) 1 58 := ⟨by decide +kernel, rfl⟩
set_option maxRecDepth 65536 in
set_option maxHeartbeats 40000000 in
theorem c_ini4U (l : Launch) (Z : State) (a0 : Array Value) (hw : ∀ d ∈ tables_1, d.before a0 Z = true) (hEL : EW Z a0 own_EL) (src : Addr) (cs : List Int32) (S : Addr → Prop) (h0 : Heap) (hz : Z.heap.size ≤ h0.size) (x : Addr) (Ex : Exa Z h0 x "java/lang/String") (uv uc : Value) (Fv : Fld Z h0 x "java/lang/String" "value" "[B" uv) (Fc : Fld Z h0 x "java/lang/String" "coder" "B" uc) (gx : Z.heap.size ≤ x) (sx : S x) (A1 : AI Z h0 src .char cs) (hl : cs.length ≤ 4) (zc : Int32) (Oc : Sta Z Z.heap "java/lang/String" "COMPACT_STRINGS" "Z" (.int zc)) (Pc : ¬ zc = 0) (Oa : Sta Z Z.heap "java/lang/StringUTF16" "$assertionsDisabled" "Z" (.int (1 : Int32))) (Oh : Sta Z Z.heap "java/lang/StringUTF16" "HI_BYTE_SHIFT" "I" (.int (0 : Int32))) (Ol : Sta Z Z.heap "java/lang/StringUTF16" "LO_BYTE_SHIFT" "I" (.int (8 : Int32))) :
    Con l Z own_EL [] (⟨"java/lang/String", "<init>", "([CIILjava/lang/Void;)V"⟩ : MethodName) jdk_42_method_149_code 6 (none : Option FieldType) ({ frames := 4, cells := 4, slots := 12, locals := 57 } : Room) #[.ref x, .ref src, .int (0 : Int32), .int (Int32.ofNat cs.length), .null] S h0 (fun S' v h' => v = none ∧ Keep h0 h' [x] ∧ ∃ b k, Str Z h' x cs b k ∧ (cs ≠ [] → h0.size ≤ b ∧ S' b) ∧ b ≠ x) := by
  have hch : ∀ c ∈ cs, isCh c := by obtain ⟨c, -, -, -, q⟩ := A1; exact q
  rcases Nat.eq_zero_or_pos cs.length with hemp0 | hpos
  · refine con_of_go (ls := #[.val (.ref x), .val (.ref src), .val (.int (0 : Int32)), .val (.int (Int32.ofNat cs.length)), .val (.null), .unset]) (plainFor_of_name pn1) hEL (fun m => by first | rfl | (simp [entryFrame, mkF, argsToLocals, cat_int, cat_ref, cat_null, cat_long]; done)) (fun K => ?_)
    show Go _ _ _ _ _ _ _ _ _ _ _ _ _ 4 12 _ _ _
    have lx := lt_nat Ex.lt
    have ls := lt_nat A1.lt
    have hemp : cs = [] := List.length_eq_zero_iff.mp hemp0
    refine go_aloadN d18_0 rfl rfl ?_
    refine go_initO (hw _ (List.mem_of_getElem? (i := 12) rfl)) (hw _ (List.mem_of_getElem? (i := 13) rfl)) (hw _ (List.mem_of_getElem? (i := 14) rfl)) d18_1 (by rfl) (by decide) (Nat.le_of_ble_eq_true rfl) ?_
    refine go_iloadN d18_4 rfl ?_
    refine go_ifne d18_5 (fun c1001 => absurd (by rw [hemp]; rfl) c1001) (fun c1001 => ?_)
    refine go_aloadN d18_8 rfl rfl ?_
    refine go_ldcS (kc := 2) (ks := 8) (na := 0) (nb := 4) (xs := []) rfl (hw _ (List.mem_of_getElem? (i := 15) rfl)) (own_atoms hw) (by simp [own_EL]) ⟨by simp, by simp⟩ (by simp) (by simp) d18_9 (fun S1002 h1002 a1002 b1002 m1002 x1002 l1002 k1002 E1002 C1002 V1002 A1002 => ?_)
    have z1002 := x1002.1
    have t1002 := m1002 _ sx
    refine go_getf (hw _ (List.mem_of_getElem? (i := 21) rfl)) Via.refl V1002 d18_11 ?_
    have f1003 := (Fv.ext x1002)
    have f1004 := (Ex.ext x1002)
    refine go_putf (u' := .ref b1002) (hw _ (List.mem_of_getElem? (i := 21) rfl)) Via.refl f1003 f1004 (Or.inr ⟨(hw _ (List.mem_of_getElem? (i := 17) rfl)), rfl, rfl⟩) (hw _ (List.mem_of_getElem? (i := 3) rfl)) (ty := (.array .byte)) (by decide) rfl rfl (by omega) (Or.inl ((fun y q => (m1002 y q).1) _ sx)) d18_14 (fun h1005 W1005 K1005 E1005 F1005 => ?_)
    have z1005 := K1005.1
    refine go_aloadN d18_17 rfl rfl ?_
    refine go_ldcS (kc := 0) (ks := 4) (na := 0) (nb := 4) (xs := []) rfl (hw _ (List.mem_of_getElem? (i := 15) rfl)) (own_atoms hw) (by simp [own_EL]) ⟨by simp, by simp⟩ (by simp) (by simp) d18_18 (fun S1006 h1006 a1006 b1006 m1006 x1006 l1006 k1006 E1006 C1006 V1006 A1006 => ?_)
    have z1006 := x1006.1
    have t1006 := m1006 _ ((fun y q => (m1002 y q).1) _ sx)
    refine go_getf (hw _ (List.mem_of_getElem? (i := 22) rfl)) Via.refl C1006 d18_20 ?_
    have f1007 := (((Fc.ext x1002).other W1005 (Or.inr (slot_ne (C := "java/lang/String") (a0 := a0) (Or.inr (hw _ (List.mem_of_getElem? (i := 18) rfl))) (Or.inr (hw _ (List.mem_of_getElem? (i := 17) rfl))) (by decide) (t := .byte) (t' := (.array .byte)) (by decide) (by decide)))).ext x1006)
    have f1008 := (E1005.ext x1006)
    refine go_putf (u' := .int (0 : Int32)) (hw _ (List.mem_of_getElem? (i := 22) rfl)) Via.refl f1007 f1008 (Or.inr ⟨(hw _ (List.mem_of_getElem? (i := 18) rfl)), rfl, rfl⟩) (hw _ (List.mem_of_getElem? (i := 3) rfl)) (ty := .byte) (by decide) (by decide) (by decide) (by omega) (Or.inl ((fun y q => (m1006 y q).1) _ ((fun y q => (m1002 y q).1) _ sx))) d18_23 (fun h1009 W1009 K1009 E1009 F1009 => ?_)
    have z1009 := K1009.1
    have f1010 := ((F1005.ext x1006).other W1009 (Or.inr (slot_ne (C := "java/lang/String") (a0 := a0) (Or.inr (hw _ (List.mem_of_getElem? (i := 17) rfl))) (Or.inr (hw _ (List.mem_of_getElem? (i := 18) rfl))) (by decide) (t := (.array .byte)) (t' := .byte) (by decide) (by decide))))
    have f1011 := (((A1002.keep K1005 (ninS (Ne.symm t1002.2.2) nin0)).ext x1006).keep K1009 (ninS (Ne.symm t1002.2.2) nin0))
    exact go_return d18_26 rfl ⟨rfl, (((((Keep.refl h0 [x]).ext x1002).wr W1005 (Or.inl (by simp))).ext x1006).wr W1009 (Or.inl (by simp))), _, (0 : Int32), ⟨E1009, F1009, f1010, by subst hemp; exact f1011, Or.inl ⟨rfl, by subst hemp; simp⟩, hch, by omega⟩, fun q => absurd hemp q, (Ne.symm t1002.2.2)⟩
  · refine con_of_go (ls := #[.val (.ref x), .val (.ref src), .val (.int (0 : Int32)), .val (.int (Int32.ofNat cs.length)), .val (.null), .unset]) (plainFor_of_name pn1) hEL (fun m => by first | rfl | (simp [entryFrame, mkF, argsToLocals, cat_int, cat_ref, cat_null, cat_long]; done)) (fun K => ?_)
    show Go _ _ _ _ _ _ _ _ _ _ _ _ _ 4 12 _ _ _
    have lx := lt_nat Ex.lt
    have ls := lt_nat A1.lt
    refine go_aloadN d18_0 rfl rfl ?_
    refine go_initO (hw _ (List.mem_of_getElem? (i := 12) rfl)) (hw _ (List.mem_of_getElem? (i := 13) rfl)) (hw _ (List.mem_of_getElem? (i := 14) rfl)) d18_1 (by rfl) (by decide) (Nat.le_of_ble_eq_true rfl) ?_
    refine go_iloadN d18_4 rfl ?_
    refine go_ifne d18_5 (fun c1001 => ?_) (fun c1001 => absurd c1001 (fun q => absurd ((ofNat_inj (n := 0) (by omega) (by omega)).mp q) (by omega)))
    refine go_gets (hw _ (List.mem_of_getElem? (i := 37) rfl)) Via.refl Oc d18_27 ?_
    refine go_ifeq d18_30 (fun c1002 => absurd c1002 (Pc)) (fun c1002 => ?_)
    refine go_aloadN d18_33 rfl rfl ?_
    refine go_iloadN d18_34 rfl ?_
    refine go_iloadN d18_35 rfl ?_
    refine go_static (R := ({ frames := 4, cells := 4, slots := 12, locals := 57 } : Room)) (kc := 2) (ks := 0) [.ref src, .int (0 : Int32), .int (Int32.ofNat cs.length)] [] (c_cmpU l Z a0 hw hEL src cs S h0 (by omega) A1 hl Oa Oh Ol) (hw _ (List.mem_of_getElem? (i := 60) rfl)) (hw _ (List.mem_of_getElem? (i := 61) rfl)) (hw _ (List.mem_of_getElem? (i := 63) rfl)) (hw _ (List.mem_of_getElem? (i := 62) rfl)) (by decide) rfl rfl (lenOf pd11 rfl) d18_36 (by rfl) (by decide) (Nat.le_of_ble_eq_true rfl) (rc := 2) (rs := 12) rfl rfl (fun S1003 v1003 h1003 m1003 z1003 q1003 => ?_)
    obtain ⟨b1003, k1003, rfl, g1003, l1003, s1003, K1003, A1003, o1003⟩ := q1003
    have l1003 := lt_nat l1003
    show Go _ _ _ _ _ _ _ _ _ _ _ _ _ _ _ _ _ (mkF K.m 39 #[.val (.ref x), .val (.ref src), .val (.int (0 : Int32)), .val (.int (Int32.ofNat cs.length)), .val (.null), .unset] [.ref b1003])
    refine go_astore d18_39 rfl (l' := #[.val (.ref x), .val (.ref src), .val (.int (0 : Int32)), .val (.int (Int32.ofNat cs.length)), .val (.null), .val (.ref b1003)]) rfl ?_
    refine go_aloadN d18_41 rfl rfl ?_
    refine go_aload d18_42 rfl rfl ?_
    refine go_iloadN d18_44 rfl ?_
    refine go_static (R := ({ frames := 4, cells := 4, slots := 12, locals := 57 } : Room)) (kc := 2) (ks := 0) [.ref b1003, .int (Int32.ofNat cs.length)] [.ref x] (c_codU l Z a0 hw hEL b1003 cs k1003 (o1003.imp And.left And.left) hpos (by omega) S1003 h1003 A1003) (hw _ (List.mem_of_getElem? (i := 67) rfl)) (hw _ (List.mem_of_getElem? (i := 68) rfl)) (hw _ (List.mem_of_getElem? (i := 69) rfl)) (hw _ (List.mem_of_getElem? (i := 62) rfl)) (by decide) rfl rfl (lenOf pd12 rfl) d18_45 (by rfl) (by decide) (Nat.le_of_ble_eq_true rfl) (rc := 0) (rs := 0) rfl rfl (fun S1004 v1004 h1004 m1004 z1004 q1004 => ?_)
    obtain ⟨rfl, rfl⟩ := q1004
    show Go _ _ _ _ _ _ _ _ _ _ _ _ _ _ _ _ _ (mkF K.m 48 #[.val (.ref x), .val (.ref src), .val (.int (0 : Int32)), .val (.int (Int32.ofNat cs.length)), .val (.null), .val (.ref b1003)] [.int k1003, .ref x])
    have f1005 := (Fc.keep K1003 nin0)
    have f1006 := (Ex.keep K1003)
    refine go_putf (u' := .int k1003) (hw _ (List.mem_of_getElem? (i := 22) rfl)) Via.refl f1005 f1006 (Or.inr ⟨(hw _ (List.mem_of_getElem? (i := 18) rfl)), rfl, rfl⟩) (hw _ (List.mem_of_getElem? (i := 3) rfl)) (ty := .byte) (by decide) (nar_cod (cs := cs) o1003) (fits_cod (cs := cs) o1003) (by omega) (Or.inl (m1004 _ (m1003 _ sx))) d18_48 (fun h1007 W1007 K1007 E1007 F1007 => ?_)
    have z1007 := K1007.1
    refine go_aloadN d18_51 rfl rfl ?_
    refine go_aload d18_52 rfl rfl ?_
    have f1008 := ((Fv.keep K1003 nin0).other W1007 (Or.inr (slot_ne (C := "java/lang/String") (a0 := a0) (Or.inr (hw _ (List.mem_of_getElem? (i := 17) rfl))) (Or.inr (hw _ (List.mem_of_getElem? (i := 18) rfl))) (by decide) (t := (.array .byte)) (t' := .byte) (by decide) (by decide))))
    refine go_putf (u' := .ref b1003) (hw _ (List.mem_of_getElem? (i := 21) rfl)) Via.refl f1008 E1007 (Or.inr ⟨(hw _ (List.mem_of_getElem? (i := 17) rfl)), rfl, rfl⟩) (hw _ (List.mem_of_getElem? (i := 3) rfl)) (ty := (.array .byte)) (by decide) rfl rfl (by omega) (Or.inl (m1004 _ (m1003 _ sx))) d18_54 (fun h1009 W1009 K1009 E1009 F1009 => ?_)
    have z1009 := K1009.1
    have f1010 := (F1007.other W1009 (Or.inr (slot_ne (C := "java/lang/String") (a0 := a0) (Or.inr (hw _ (List.mem_of_getElem? (i := 18) rfl))) (Or.inr (hw _ (List.mem_of_getElem? (i := 17) rfl))) (by decide) (t := .byte) (t' := (.array .byte)) (by decide) (by decide))))
    have f1011 := ((A1003.keep K1007 (ninS (ne_of (a := b1003) (b := x) (by omega)) nin0)).keep K1009 (ninS (ne_of (a := b1003) (b := x) (by omega)) nin0))
    exact go_return d18_57 rfl ⟨rfl, ((((Keep.refl h0 [x]).trans K1003 all0).wr W1007 (Or.inl (by simp))).wr W1009 (Or.inl (by simp))), _, k1003, ⟨E1009, f1010, F1009, f1011, o1003, hch, by omega⟩, fun _ => ⟨by omega, (m1004 _ s1003)⟩, (ne_of (a := b1003) (b := x) (by omega))⟩
theorem d19_0 : Dec jdk_42_method_3_code 0 (.aload_n 0) 1 1 := ⟨by decide +kernel, rfl⟩
theorem d19_1 : Dec jdk_42_method_3_code 1 (.aload_n 1) 1 2 := ⟨by decide +kernel, rfl⟩
theorem d19_2 : Dec jdk_42_method_3_code 2 (.iconst 0) 1 3 := ⟨by decide +kernel, rfl⟩
theorem d19_3 : Dec jdk_42_method_3_code 3 (.aload_n 1) 1 4 := ⟨by decide +kernel, rfl⟩
theorem d19_4 : Dec jdk_42_method_3_code 4 (.arraylength) 1 5 := ⟨by decide +kernel, rfl⟩
theorem d19_5 : Dec jdk_42_method_3_code 5 (.aconst_null) 1 6 := ⟨by decide +kernel, rfl⟩
theorem d19_6 : Dec jdk_42_method_3_code 6 (.invokespecial 27) 3 9 := ⟨by decide +kernel, rfl⟩
theorem pd13 : parseMethodDescriptor "([CIILjava/lang/Void;)V" = some ⟨[(.array .char), .int, .int, (.object "java/lang/Void")], none⟩ := by decide +kernel
theorem d19_9 : Dec jdk_42_method_3_code 9 (.return_) 1 10 := ⟨by decide +kernel, rfl⟩
set_option maxRecDepth 65536 in
set_option maxHeartbeats 40000000 in
theorem c_ini1U (l : Launch) (Z : State) (a0 : Array Value) (hw : ∀ d ∈ tables_1, d.before a0 Z = true) (hEL : EW Z a0 own_EL) (src : Addr) (cs : List Int32) (S : Addr → Prop) (h0 : Heap) (hz : Z.heap.size ≤ h0.size) (x : Addr) (Ex : Exa Z h0 x "java/lang/String") (uv uc : Value) (Fv : Fld Z h0 x "java/lang/String" "value" "[B" uv) (Fc : Fld Z h0 x "java/lang/String" "coder" "B" uc) (gx : Z.heap.size ≤ x) (sx : S x) (A1 : AI Z h0 src .char cs) (hl : cs.length ≤ 4) (zc : Int32) (Oc : Sta Z Z.heap "java/lang/String" "COMPACT_STRINGS" "Z" (.int zc)) (Pc : ¬ zc = 0) (Oa : Sta Z Z.heap "java/lang/StringUTF16" "$assertionsDisabled" "Z" (.int (1 : Int32))) (Oh : Sta Z Z.heap "java/lang/StringUTF16" "HI_BYTE_SHIFT" "I" (.int (0 : Int32))) (Ol : Sta Z Z.heap "java/lang/StringUTF16" "LO_BYTE_SHIFT" "I" (.int (8 : Int32))) :
    Con l Z own_EL [] (⟨"java/lang/String", "<init>", "([C)V"⟩ : MethodName) jdk_42_method_3_code 2 (none : Option FieldType) ({ frames := 5, cells := 4, slots := 12, locals := 74 } : Room) #[.ref x, .ref src] S h0 (fun S' v h' => v = none ∧ Keep h0 h' [x] ∧ ∃ b k, Str Z h' x cs b k ∧ (cs ≠ [] → h0.size ≤ b ∧ S' b) ∧ b ≠ x) := by
  refine con_of_go (ls := #[.val (.ref x), .val (.ref src)]) (plainFor_of_name pn1) hEL (fun m => by first | rfl | (simp [entryFrame, mkF, argsToLocals, cat_int, cat_ref, cat_null, cat_long]; done)) (fun K => ?_)
  show Go _ _ _ _ _ _ _ _ _ _ _ _ _ 4 12 _ _ _
  have lx := lt_nat Ex.lt
  have ls := lt_nat A1.lt
  refine go_aloadN d19_0 rfl rfl ?_
  refine go_aloadN d19_1 rfl rfl ?_
  refine go_iconst (x := (0 : Int32)) d19_2 (by decide) ?_
  refine go_aloadN d19_3 rfl rfl ?_
  refine go_alen A1 d19_4 (v := (Int32.ofNat cs.length)) rfl ?_
  refine go_null d19_5 ?_
  refine go_special (R := ({ frames := 5, cells := 4, slots := 12, locals := 74 } : Room)) (kc := 0) (ks := 0) [.ref src, .int (0 : Int32), .int (Int32.ofNat cs.length), .null] [] (c_ini4U l Z a0 hw hEL src cs S h0 (by omega) x Ex _ _ Fv Fc (by omega) sx A1 hl zc Oc Pc Oa Oh Ol) (hw _ (List.mem_of_getElem? (i := 8) rfl)) (hw _ (List.mem_of_getElem? (i := 9) rfl)) (hw _ (List.mem_of_getElem? (i := 11) rfl)) (hw _ (List.mem_of_getElem? (i := 4) rfl)) rfl (by decide) rfl rfl (lenOf pd13 rfl) d19_6 (by rfl) (by decide) (Nat.le_of_ble_eq_true rfl) (rc := 4) (rs := 12) rfl rfl (fun S1001 v1001 h1001 m1001 z1001 q1001 => ?_)
  obtain ⟨rfl, K1001, b1001, k1001, T1001, g1001, n1001⟩ := q1001
  have lb1001 := lt_nat T1001.lb
  have lx1001 := lt_nat T1001.lx
  show Go _ _ _ _ _ _ _ _ _ _ _ _ _ _ _ _ _ (mkF K.m 9 #[.val (.ref x), .val (.ref src)] [])
  exact go_return d19_9 rfl ⟨rfl, ((Keep.refl h0 [x]).trans K1001 (allS (Or.inl (by simp)) all0)), _, _, T1001, g1001, n1001⟩
theorem d20_0 : Dec jdk_42_method_151_code 0 (.aload_n 0) 1 1 := ⟨by decide +kernel, rfl⟩
theorem d20_1 : Dec jdk_42_method_151_code 1 (.invokespecial 1) 3 4 := ⟨by decide +kernel, rfl⟩
theorem d20_4 : Dec jdk_42_method_151_code 4 (.aload_n 0) 1 5 := ⟨by decide +kernel, rfl⟩
theorem d20_5 : Dec jdk_42_method_151_code 5 (.aload_n 1) 1 6 := ⟨by decide +kernel, rfl⟩
theorem d20_6 : Dec jdk_42_method_151_code 6 (.putfield 9) 3 9 := ⟨by decide +kernel, rfl⟩
theorem d20_9 : Dec jdk_42_method_151_code 9 (.aload_n 0) 1 10 := ⟨by decide +kernel, rfl⟩
theorem d20_10 : Dec jdk_42_method_151_code 10 (.iload_n 2) 1 11 := ⟨by decide +kernel, rfl⟩
theorem d20_11 : Dec jdk_42_method_151_code 11 (.putfield 15) 3 14 := ⟨by decide +kernel, rfl⟩
theorem d20_14 : Dec jdk_42_method_151_code 14 (.return_) 1 15 := ⟨by decide +kernel, rfl⟩
set_option maxRecDepth 65536 in
set_option maxHeartbeats 40000000 in
theorem c_ini2 (l : Launch) (Z : State) (a0 : Array Value) (hw : ∀ d ∈ tables_1, d.before a0 Z = true) (hEL : EW Z a0 own_EL) (bb : Addr) (k : Int32) (hk1 : narrow .byte (.int k) = .int k) (hk2 : fits .byte (.int k) = true) (S : Addr → Prop) (h0 : Heap) (hz : Z.heap.size ≤ h0.size) (x : Addr) (Ex : Exa Z h0 x "java/lang/String") (uv uc : Value) (Fv : Fld Z h0 x "java/lang/String" "value" "[B" uv) (Fc : Fld Z h0 x "java/lang/String" "coder" "B" uc) (gx : Z.heap.size ≤ x) (sx : S x) :
    Con l Z own_EL [] (⟨"java/lang/String", "<init>", "([BB)V"⟩ : MethodName) jdk_42_method_151_code 3 (none : Option FieldType) ({ frames := 1, cells := 0, slots := 0, locals := 12 } : Room) #[.ref x, .ref bb, .int k] S h0 (fun S' v h' => v = none ∧ Keep h0 h' [x] ∧ Exa Z h' x "java/lang/String" ∧ Fld Z h' x "java/lang/String" "coder" "B" (.int k) ∧ Fld Z h' x "java/lang/String" "value" "[B" (.ref bb)) := by
  refine con_of_go (ls := #[.val (.ref x), .val (.ref bb), .val (.int k)]) (plainFor_of_name pn1) hEL (fun m => by first | rfl | (simp [entryFrame, mkF, argsToLocals, cat_int, cat_ref, cat_null, cat_long]; done)) (fun K => ?_)
  show Go _ _ _ _ _ _ _ _ _ _ _ _ _ 0 0 _ _ _
  have lx := lt_nat Ex.lt
  refine go_aloadN d20_0 rfl rfl ?_
  refine go_initO (hw _ (List.mem_of_getElem? (i := 12) rfl)) (hw _ (List.mem_of_getElem? (i := 13) rfl)) (hw _ (List.mem_of_getElem? (i := 14) rfl)) d20_1 (by rfl) (by decide) (Nat.le_of_ble_eq_true rfl) ?_
  refine go_aloadN d20_4 rfl rfl ?_
  refine go_aloadN d20_5 rfl rfl ?_
  refine go_putf (u' := .ref bb) (hw _ (List.mem_of_getElem? (i := 21) rfl)) Via.refl Fv Ex (Or.inr ⟨(hw _ (List.mem_of_getElem? (i := 17) rfl)), rfl, rfl⟩) (hw _ (List.mem_of_getElem? (i := 3) rfl)) (ty := (.array .byte)) (by decide) rfl rfl (by omega) (Or.inl sx) d20_6 (fun h1001 W1001 K1001 E1001 F1001 => ?_)
  have z1001 := K1001.1
  refine go_aloadN d20_9 rfl rfl ?_
  refine go_iloadN d20_10 rfl ?_
  have f1002 := (Fc.other W1001 (Or.inr (slot_ne (C := "java/lang/String") (a0 := a0) (Or.inr (hw _ (List.mem_of_getElem? (i := 18) rfl))) (Or.inr (hw _ (List.mem_of_getElem? (i := 17) rfl))) (by decide) (t := .byte) (t' := (.array .byte)) (by decide) (by decide))))
  refine go_putf (u' := .int k) (hw _ (List.mem_of_getElem? (i := 22) rfl)) Via.refl f1002 E1001 (Or.inr ⟨(hw _ (List.mem_of_getElem? (i := 18) rfl)), rfl, rfl⟩) (hw _ (List.mem_of_getElem? (i := 3) rfl)) (ty := .byte) (by decide) hk1 hk2 (by omega) (Or.inl sx) d20_11 (fun h1003 W1003 K1003 E1003 F1003 => ?_)
  have z1003 := K1003.1
  have f1004 := (F1001.other W1003 (Or.inr (slot_ne (C := "java/lang/String") (a0 := a0) (Or.inr (hw _ (List.mem_of_getElem? (i := 17) rfl))) (Or.inr (hw _ (List.mem_of_getElem? (i := 18) rfl))) (by decide) (t := (.array .byte)) (t' := .byte) (by decide) (by decide))))
  exact go_return d20_14 rfl ⟨rfl, (((Keep.refl h0 [x]).wr W1001 (Or.inl (by simp))).wr W1003 (Or.inl (by simp))), E1003, F1003, f1004⟩
theorem d21_0 : Dec jdk_65_method_131_code 0 (.iload_n 1) 1 1 := ⟨by decide +kernel, rfl⟩
theorem d21_1 : Dec jdk_65_method_131_code 1 (.iload_n 0) 1 2 := ⟨by decide +kernel, rfl⟩
theorem d21_2 : Brn jdk_65_method_131_code 2 (.if_icmp .ge 35) 35 5 37 := ⟨by decide +kernel, rfl, by decide, by decide⟩
theorem d21_37 : Dec jdk_65_method_131_code 37 (.return_) 1 38 := ⟨by decide +kernel, rfl⟩
theorem pn4 : plainName "java/util/Arrays" = true := by first | (simp [plainName, overriddenIn]; done) | decide +kernel
set_option maxRecDepth 65536 in
set_option maxHeartbeats 40000000 in
theorem c_ckl (l : Launch) (Z : State) (a0 : Array Value) (hw : ∀ d ∈ tables_1, d.before a0 Z = true) (hEL : EW Z a0 own_EL) (e : Nat) (he : e < 2 ^ 31) (S : Addr → Prop) (h0 : Heap) :
    Con l Z own_EL [] (⟨"java/util/Arrays", "checkLength", "(II)V"⟩ : MethodName) jdk_65_method_131_code 2 (none : Option FieldType) ({ frames := 0, cells := 0, slots := 0, locals := 0 } : Room) #[.int (0 : Int32), .int (Int32.ofNat e)] S h0 (fun S' v h' => v = none ∧ h0 = h') := by
  refine con_of_go (ls := #[.val (.int (0 : Int32)), .val (.int (Int32.ofNat e))]) (plainFor_of_name pn4) hEL (fun m => by first | rfl | (simp [entryFrame, mkF, argsToLocals, cat_int, cat_ref, cat_null, cat_long]; done)) (fun K => ?_)
  show Go _ _ _ _ _ _ _ _ _ _ _ _ _ 0 0 _ _ _
  refine go_iloadN d21_0 rfl ?_
  refine go_iloadN d21_1 rfl ?_
  refine go_icmpge d21_2 (fun c1001 => ?_) (fun c1001 => absurd c1001 (ofNat_nlt (n := 0) (by omega) (by omega)))
  exact go_return d21_37 rfl ⟨rfl, rfl⟩
theorem d22_0 : Dec jdk_29_method_69_code 0 (.iload_n 0) 1 1 := ⟨by decide +kernel, rfl⟩
theorem d22_1 : Dec jdk_29_method_69_code 1 (.iload_n 1) 1 2 := ⟨by decide +kernel, rfl⟩
theorem d22_2 : Brn jdk_29_method_69_code 2 (.if_icmp .gt 7) 7 5 9 := ⟨by decide +kernel, rfl, by decide, by decide⟩
theorem d22_9 : Dec jdk_29_method_69_code 9 (.iload_n 1) 1 10 := ⟨by decide +kernel, rfl⟩
theorem d22_10 : Dec jdk_29_method_69_code 10 (.ireturn) 1 11 := ⟨by decide +kernel, rfl⟩
theorem pf_22 : plainFor (⟨"java/lang/Math", "min", "(II)I"⟩ : MethodName) = true := by decide +kernel
set_option maxRecDepth 65536 in
set_option maxHeartbeats 40000000 in
theorem c_min (l : Launch) (Z : State) (a0 : Array Value) (hw : ∀ d ∈ tables_1, d.before a0 Z = true) (hEL : EW Z a0 own_EL) (x y : Int32) (hxy : y < x) (S : Addr → Prop) (h0 : Heap) :
    Con l Z own_EL [] (⟨"java/lang/Math", "min", "(II)I"⟩ : MethodName) jdk_29_method_69_code 2 (some .int) ({ frames := 0, cells := 0, slots := 0, locals := 0 } : Room) #[.int x, .int y] S h0 (fun S' v h' => v = some (.int y) ∧ h0 = h') := by
  refine con_of_go (ls := #[.val (.int x), .val (.int y)]) pf_22 hEL (fun m => by first | rfl | (simp [entryFrame, mkF, argsToLocals, cat_int, cat_ref, cat_null, cat_long]; done)) (fun K => ?_)
  show Go _ _ _ _ _ _ _ _ _ _ _ _ _ 0 0 _ _ _
  refine go_iloadN d22_0 rfl ?_
  refine go_iloadN d22_1 rfl ?_
  refine go_icmpgt d22_2 (fun c1001 => ?_) (fun c1001 => absurd (hxy) c1001)
  refine go_iloadN d22_9 rfl ?_
  exact go_ireturn (ty := .int) (v := y) d22_10 rfl (by simp) rfl ⟨rfl, rfl⟩
theorem d23_0 : Dec jdk_65_method_133_code 0 (.iload_n 1) 1 1 := ⟨by decide +kernel, rfl⟩
theorem d23_1 : Dec jdk_65_method_133_code 1 (.iload_n 2) 1 2 := ⟨by decide +kernel, rfl⟩
theorem d23_2 : Dec jdk_65_method_133_code 2 (.invokestatic 343) 3 5 := ⟨by decide +kernel, rfl⟩
theorem d23_5 : Dec jdk_65_method_133_code 5 (.iload_n 2) 1 6 := ⟨by decide +kernel, rfl⟩
theorem d23_6 : Dec jdk_65_method_133_code 6 (.iload_n 1) 1 7 := ⟨by decide +kernel, rfl⟩
theorem d23_7 : Dec jdk_65_method_133_code 7 (.isub) 1 8 := ⟨by decide +kernel, rfl⟩
theorem d23_8 : Dec jdk_65_method_133_code 8 (.istore_n 3) 1 9 := ⟨by decide +kernel, rfl⟩
theorem d23_9 : Dec jdk_65_method_133_code 9 (.iload_n 3) 1 10 := ⟨by decide +kernel, rfl⟩
theorem d23_10 : Dec jdk_65_method_133_code 10 (.newarray .byte) 2 12 := ⟨by decide +kernel, rfl⟩
theorem d23_12 : Dec jdk_65_method_133_code 12 (.astore 4) 2 14 := ⟨by decide +kernel, rfl⟩
theorem d23_14 : Dec jdk_65_method_133_code 14 (.aload_n 0) 1 15 := ⟨by decide +kernel, rfl⟩
theorem d23_15 : Dec jdk_65_method_133_code 15 (.iload_n 1) 1 16 := ⟨by decide +kernel, rfl⟩
theorem d23_16 : Dec jdk_65_method_133_code 16 (.aload 4) 2 18 := ⟨by decide +kernel, rfl⟩
theorem d23_18 : Dec jdk_65_method_133_code 18 (.iconst 0) 1 19 := ⟨by decide +kernel, rfl⟩
theorem d23_19 : Dec jdk_65_method_133_code 19 (.aload_n 0) 1 20 := ⟨by decide +kernel, rfl⟩
theorem d23_20 : Dec jdk_65_method_133_code 20 (.arraylength) 1 21 := ⟨by decide +kernel, rfl⟩
theorem d23_21 : Dec jdk_65_method_133_code 21 (.iload_n 1) 1 22 := ⟨by decide +kernel, rfl⟩
theorem d23_22 : Dec jdk_65_method_133_code 22 (.isub) 1 23 := ⟨by decide +kernel, rfl⟩
theorem d23_23 : Dec jdk_65_method_133_code 23 (.iload_n 3) 1 24 := ⟨by decide +kernel, rfl⟩
theorem d23_24 : Dec jdk_65_method_133_code 24 (.invokestatic 304) 3 27 := ⟨by decide +kernel, rfl⟩
theorem pd14 : parseMethodDescriptor "(II)I" = some ⟨[.int, .int], some .int⟩ := by decide +kernel
theorem d23_27 : Dec jdk_65_method_133_code 27 (.invokestatic 150) 3 30 := ⟨by decide +kernel, rfl⟩
theorem d23_30 : Dec jdk_65_method_133_code 30 (.aload 4) 2 32 := ⟨by decide +kernel, rfl⟩
theorem d23_32 : Dec jdk_65_method_133_code 32 (.areturn) 1 33 := ⟨by decide +kernel, rfl⟩
set_option maxRecDepth 65536 in
set_option maxHeartbeats 40000000 in
theorem c_corb (l : Launch) (Z : State) (a0 : Array Value) (hw : ∀ d ∈ tables_1, d.before a0 Z = true) (hEL : EW Z a0 own_EL) (b : Addr) (xs : List Int32) (e : Nat) (he : e < xs.length) (hec : e ≤ 8) (S : Addr → Prop) (h0 : Heap) (hz : Z.heap.size ≤ h0.size) (A : AI Z h0 b .byte xs) :
    Con l Z own_EL [] (⟨"java/util/Arrays", "copyOfRangeByte", "([BII)[B"⟩ : MethodName) jdk_65_method_133_code 5 (some (.array .byte)) ({ frames := 1, cells := 1, slots := 8, locals := 18 } : Room) #[.ref b, .int (0 : Int32), .int (Int32.ofNat e)] S h0 (fun S' v h' => ∃ nb, v = some (.ref nb) ∧ h0.size ≤ nb ∧ nb < h'.size ∧ S' nb ∧ Keep h0 h' [] ∧ AI Z h' nb .byte (xs.take e)) := by
  refine con_of_go (ls := #[.val (.ref b), .val (.int (0 : Int32)), .val (.int (Int32.ofNat e)), .unset, .unset]) (plainFor_of_name pn4) hEL (fun m => by first | rfl | (simp [entryFrame, mkF, argsToLocals, cat_int, cat_ref, cat_null, cat_long]; done)) (fun K => ?_)
  show Go _ _ _ _ _ _ _ _ _ _ _ _ _ 1 8 _ _ _
  have lb := lt_nat A.lt
  have hx := A.len
  refine go_iloadN d23_0 rfl ?_
  refine go_iloadN d23_1 rfl ?_
  refine go_static (R := ({ frames := 1, cells := 1, slots := 8, locals := 18 } : Room)) (kc := 1) (ks := 8) [.int (0 : Int32), .int (Int32.ofNat e)] [] (c_ckl l Z a0 hw hEL e (by omega) S h0) (hw _ (List.mem_of_getElem? (i := 146) rfl)) (hw _ (List.mem_of_getElem? (i := 147) rfl)) (hw _ (List.mem_of_getElem? (i := 148) rfl)) (hw _ (List.mem_of_getElem? (i := 141) rfl)) (by decide) rfl rfl (lenOf pd2 rfl) d23_2 (by rfl) (by decide) (Nat.le_of_ble_eq_true rfl) (rc := 0) (rs := 0) rfl rfl (fun S1001 v1001 h1001 m1001 z1001 q1001 => ?_)
  obtain ⟨rfl, rfl⟩ := q1001
  show Go _ _ _ _ _ _ _ _ _ _ _ _ _ _ _ _ _ (mkF K.m 5 #[.val (.ref b), .val (.int (0 : Int32)), .val (.int (Int32.ofNat e)), .unset, .unset] [])
  refine go_iloadN d23_5 rfl ?_
  refine go_iloadN d23_6 rfl ?_
  refine go_isub (v := (Int32.ofNat e)) d23_7 (Int32.sub_zero _) ?_
  refine go_istoreN d23_8 (l' := #[.val (.ref b), .val (.int (0 : Int32)), .val (.int (Int32.ofNat e)), .val (.int (Int32.ofNat e)), .unset]) rfl ?_
  refine go_iloadN d23_9 rfl ?_
  refine go_newarr (kc := 0) (ks := 0) (N := e) (cap := 8) (hw _ (List.mem_of_getElem? (i := 16) rfl)) rfl hec (by decide) rfl rfl d23_10 (fun S1002 h1002 a1002 e1002 m1002 s1002 x1002 l1002 A1002 => ?_)
  have z1002 := x1002.1
  have A1002 : AI Z h1002 a1002 .byte (List.replicate e 0) := A1002
  refine go_astore d23_12 rfl (l' := #[.val (.ref b), .val (.int (0 : Int32)), .val (.int (Int32.ofNat e)), .val (.int (Int32.ofNat e)), .val (.ref a1002)]) rfl ?_
  refine go_aloadN d23_14 rfl rfl ?_
  refine go_iloadN d23_15 rfl ?_
  refine go_aload d23_16 rfl rfl ?_
  refine go_iconst (x := (0 : Int32)) d23_18 (by decide) ?_
  refine go_aloadN d23_19 rfl rfl ?_
  have f1003 := (A.ext x1002)
  refine go_alen f1003 d23_20 (v := (Int32.ofNat xs.length)) rfl ?_
  refine go_iloadN d23_21 rfl ?_
  refine go_isub (v := (Int32.ofNat xs.length)) d23_22 (Int32.sub_zero _) ?_
  refine go_iloadN d23_23 rfl ?_
  refine go_static (R := ({ frames := 1, cells := 1, slots := 8, locals := 18 } : Room)) (kc := 0) (ks := 0) [.int (Int32.ofNat xs.length), .int (Int32.ofNat e)] [.int (0 : Int32), .ref a1002, .int (0 : Int32), .ref b] (c_min l Z a0 hw hEL (Int32.ofNat xs.length) (Int32.ofNat e) (ofNat_lt he (by omega)) S1002 h1002) (hw _ (List.mem_of_getElem? (i := 149) rfl)) (hw _ (List.mem_of_getElem? (i := 150) rfl)) (hw _ (List.mem_of_getElem? (i := 152) rfl)) (hw _ (List.mem_of_getElem? (i := 151) rfl)) (by decide) rfl rfl (lenOf pd14 rfl) d23_24 (by rfl) (by decide) (Nat.le_of_ble_eq_true rfl) (rc := 0) (rs := 0) rfl rfl (fun S1004 v1004 h1004 m1004 z1004 q1004 => ?_)
  obtain ⟨rfl, rfl⟩ := q1004
  show Go _ _ _ _ _ _ _ _ _ _ _ _ _ _ _ _ _ (mkF K.m 27 #[.val (.ref b), .val (.int (0 : Int32)), .val (.int (Int32.ofNat e)), .val (.int (Int32.ofNat e)), .val (.ref a1002)] [.int (Int32.ofNat e), .int (0 : Int32), .ref a1002, .int (0 : Int32), .ref b])
  refine go_acopy (sp := 0) (dp := 0) (m := e) f1003 A1002 rfl rfl rfl rfl (by omega) (by simp) (by omega) (Or.inl (m1004 _ s1002)) (hw _ (List.mem_of_getElem? (i := 153) rfl)) (hw _ (List.mem_of_getElem? (i := 156) rfl)) (hw _ (List.mem_of_getElem? (i := 154) rfl)) (hw _ (List.mem_of_getElem? (i := 155) rfl)) d23_27 (by rfl) (by decide) (Nat.le_of_ble_eq_true rfl) (fun h1005 K1005 A1005 => ?_)
  have z1005 := K1005.1
  have A1005 : AI Z h1005 a1002 .byte (xs.take e) := (by simpa using A1005)
  refine go_aload d23_30 rfl rfl ?_
  have L1006 := lt_nat A1005.lt
  exact go_areturn d23_32 rfl rfl rfl ⟨_, rfl, by omega, L1006, (m1004 _ s1002), (((Keep.refl h0 []).ext x1002).trans K1005 (allS (Or.inr (by omega)) all0)), A1005⟩
theorem d24_0 : Dec jdk_65_method_132_code 0 (.iload_n 1) 1 1 := ⟨by decide +kernel, rfl⟩
theorem d24_1 : Brn jdk_65_method_132_code 1 (.ifCond .ne 9) 9 4 10 := ⟨by decide +kernel, rfl, by decide, by decide⟩
theorem d24_4 : Dec jdk_65_method_132_code 4 (.iload_n 2) 1 5 := ⟨by decide +kernel, rfl⟩
theorem d24_5 : Dec jdk_65_method_132_code 5 (.aload_n 0) 1 6 := ⟨by decide +kernel, rfl⟩
theorem d24_6 : Dec jdk_65_method_132_code 6 (.arraylength) 1 7 := ⟨by decide +kernel, rfl⟩
theorem d24_7 : Brn jdk_65_method_132_code 7 (.if_icmp .eq 10) 10 10 17 := ⟨by decide +kernel, rfl, by decide, by decide⟩
theorem d24_10 : Dec jdk_65_method_132_code 10 (.aload_n 0) 1 11 := ⟨by decide +kernel, rfl⟩
theorem d24_11 : Dec jdk_65_method_132_code 11 (.iload_n 1) 1 12 := ⟨by decide +kernel, rfl⟩
theorem d24_12 : Dec jdk_65_method_132_code 12 (.iload_n 2) 1 13 := ⟨by decide +kernel, rfl⟩
theorem d24_13 : Dec jdk_65_method_132_code 13 (.invokestatic 339) 3 16 := ⟨by decide +kernel, rfl⟩
theorem pd15 : parseMethodDescriptor "([BII)[B" = some ⟨[(.array .byte), .int, .int], some (.array .byte)⟩ := by decide +kernel
theorem d24_16 : Dec jdk_65_method_132_code 16 (.areturn) 1 17 := ⟨by decide +kernel, rfl⟩
set_option maxRecDepth 65536 in
set_option maxHeartbeats 40000000 in
theorem c_cor (l : Launch) (Z : State) (a0 : Array Value) (hw : ∀ d ∈ tables_1, d.before a0 Z = true) (hEL : EW Z a0 own_EL) (b : Addr) (xs : List Int32) (e : Nat) (he : e < xs.length) (hec : e ≤ 8) (S : Addr → Prop) (h0 : Heap) (hz : Z.heap.size ≤ h0.size) (A : AI Z h0 b .byte xs) :
    Con l Z own_EL [] (⟨"java/util/Arrays", "copyOfRange", "([BII)[B"⟩ : MethodName) jdk_65_method_132_code 3 (some (.array .byte)) ({ frames := 2, cells := 1, slots := 8, locals := 34 } : Room) #[.ref b, .int (0 : Int32), .int (Int32.ofNat e)] S h0 (fun S' v h' => ∃ nb, v = some (.ref nb) ∧ h0.size ≤ nb ∧ nb < h'.size ∧ S' nb ∧ Keep h0 h' [] ∧ AI Z h' nb .byte (xs.take e)) := by
  refine con_of_go (ls := #[.val (.ref b), .val (.int (0 : Int32)), .val (.int (Int32.ofNat e))]) (plainFor_of_name pn4) hEL (fun m => by first | rfl | (simp [entryFrame, mkF, argsToLocals, cat_int, cat_ref, cat_null, cat_long]; done)) (fun K => ?_)
  show Go _ _ _ _ _ _ _ _ _ _ _ _ _ 1 8 _ _ _
  have lb := lt_nat A.lt
  have hx := A.len
  refine go_iloadN d24_0 rfl ?_
  refine go_ifne d24_1 (fun c1001 => absurd (rfl) c1001) (fun c1001 => ?_)
  refine go_iloadN d24_4 rfl ?_
  refine go_aloadN d24_5 rfl rfl ?_
  refine go_alen A d24_6 (v := (Int32.ofNat xs.length)) rfl ?_
  refine go_icmpeq d24_7 (fun c1002 => absurd c1002 (fun q => absurd ((ofNat_inj (by omega) (by omega)).mp q) (by omega))) (fun c1002 => ?_)
  refine go_aloadN d24_10 rfl rfl ?_
  refine go_iloadN d24_11 rfl ?_
  refine go_iloadN d24_12 rfl ?_
  refine go_static (R := ({ frames := 2, cells := 1, slots := 8, locals := 34 } : Room)) (kc := 0) (ks := 0) [.ref b, .int (0 : Int32), .int (Int32.ofNat e)] [] (c_corb l Z a0 hw hEL b _ e he hec S h0 (by omega) A) (hw _ (List.mem_of_getElem? (i := 143) rfl)) (hw _ (List.mem_of_getElem? (i := 144) rfl)) (hw _ (List.mem_of_getElem? (i := 145) rfl)) (hw _ (List.mem_of_getElem? (i := 141) rfl)) (by decide) rfl rfl (lenOf pd15 rfl) d24_13 (by rfl) (by decide) (Nat.le_of_ble_eq_true rfl) (rc := 1) (rs := 8) rfl rfl (fun S1003 v1003 h1003 m1003 z1003 q1003 => ?_)
  obtain ⟨b1003, rfl, g1003, l1003, s1003, K1003, A1003⟩ := q1003
  have l1003 := lt_nat l1003
  show Go _ _ _ _ _ _ _ _ _ _ _ _ _ _ _ _ _ (mkF K.m 16 #[.val (.ref b), .val (.int (0 : Int32)), .val (.int (Int32.ofNat e))] [.ref b1003])
  have L1004 := lt_nat A1003.lt
  exact go_areturn d24_16 rfl rfl rfl ⟨_, rfl, by omega, L1004, s1003, ((Keep.refl h0 []).trans K1003 all0), A1003⟩
theorem d25_0 : Dec jdk_41_method_12_code 0 (.iload_n 0) 1 1 := ⟨by decide +kernel, rfl⟩
theorem d25_1 : Brn jdk_41_method_12_code 1 (.ifCond .lt 13) 13 4 14 := ⟨by decide +kernel, rfl, by decide, by decide⟩
theorem d25_4 : Dec jdk_41_method_12_code 4 (.iload_n 0) 1 5 := ⟨by decide +kernel, rfl⟩
theorem d25_5 : Dec jdk_41_method_12_code 5 (.iload_n 1) 1 6 := ⟨by decide +kernel, rfl⟩
theorem d25_6 : Brn jdk_41_method_12_code 6 (.if_icmp .gt 8) 8 9 14 := ⟨by decide +kernel, rfl, by decide, by decide⟩
theorem d25_9 : Dec jdk_41_method_12_code 9 (.iload_n 1) 1 10 := ⟨by decide +kernel, rfl⟩
theorem d25_10 : Dec jdk_41_method_12_code 10 (.iload_n 2) 1 11 := ⟨by decide +kernel, rfl⟩
theorem d25_11 : Brn jdk_41_method_12_code 11 (.if_icmp .le 11) 11 14 22 := ⟨by decide +kernel, rfl, by decide, by decide⟩
theorem d25_22 : Dec jdk_41_method_12_code 22 (.iload_n 0) 1 23 := ⟨by decide +kernel, rfl⟩
theorem d25_23 : Dec jdk_41_method_12_code 23 (.ireturn) 1 24 := ⟨by decide +kernel, rfl⟩
set_option maxRecDepth 65536 in
set_option maxHeartbeats 40000000 in
theorem c_cft (l : Launch) (Z : State) (a0 : Array Value) (hw : ∀ d ∈ tables_1, d.before a0 Z = true) (hEL : EW Z a0 own_EL) (e n : Nat) (he : e ≤ n) (hn : n < 2 ^ 31) (sf : Value) (rsf : sf.isRef = true) (S : Addr → Prop) (h0 : Heap) :
    Con l Z own_EL [] (⟨"jdk/internal/util/Preconditions", "checkFromToIndex", "(IIILjava/util/function/BiFunction;)I"⟩ : MethodName) jdk_41_method_12_code 4 (some .int) ({ frames := 0, cells := 0, slots := 0, locals := 0 } : Room) #[.int (0 : Int32), .int (Int32.ofNat e), .int (Int32.ofNat n), sf] S h0 (fun S' v h' => v = some (.int (0 : Int32)) ∧ h0 = h') := by
  refine con_of_go (ls := #[.val (.int (0 : Int32)), .val (.int (Int32.ofNat e)), .val (.int (Int32.ofNat n)), .val (sf)]) (plainFor_of_name pn2) hEL (fun m => by first | rfl | (simp [entryFrame, mkF, argsToLocals, cat_int, cat_ref, cat_null, cat_long, XT.cat1 rsf]; done)) (fun K => ?_)
  show Go _ _ _ _ _ _ _ _ _ _ _ _ _ 0 0 _ _ _
  refine go_iloadN d25_0 rfl ?_
  refine go_iflt d25_1 (fun c1001 => absurd c1001 (by decide)) (fun c1001 => ?_)
  refine go_iloadN d25_4 rfl ?_
  refine go_iloadN d25_5 rfl ?_
  refine go_icmpgt d25_6 (fun c1002 => absurd c1002 (ofNat_nlt (n := 0) (by omega) (by omega))) (fun c1002 => ?_)
  refine go_iloadN d25_9 rfl ?_
  refine go_iloadN d25_10 rfl ?_
  refine go_icmple d25_11 (fun c1003 => ?_) (fun c1003 => absurd c1003 (ofNat_nlt he (by omega)))
  refine go_iloadN d25_22 rfl ?_
  exact go_ireturn (ty := .int) (v := (0 : Int32)) d25_23 rfl (by simp) rfl ⟨rfl, rfl⟩
theorem d26_0 : Dec jdk_42_method_158_code 0 (.iload_n 0) 1 1 := ⟨by decide +kernel, rfl⟩
theorem d26_1 : Dec jdk_42_method_158_code 1 (.iload_n 1) 1 2 := ⟨by decide +kernel, rfl⟩
theorem d26_2 : Dec jdk_42_method_158_code 2 (.iload_n 2) 1 3 := ⟨by decide +kernel, rfl⟩
theorem d26_3 : Dec jdk_42_method_158_code 3 (.getstatic 1053) 3 6 := ⟨by decide +kernel, rfl⟩
theorem d26_6 : Dec jdk_42_method_158_code 6 (.invokestatic 1062) 3 9 := ⟨by decide +kernel, rfl⟩
theorem pd16 : parseMethodDescriptor "(IIILjava/util/function/BiFunction;)I" = some ⟨[.int, .int, .int, (.object "java/util/function/BiFunction")], some .int⟩ := by decide +kernel
theorem d26_9 : Dec jdk_42_method_158_code 9 (.pop) 1 10 := ⟨by decide +kernel, rfl⟩
theorem d26_10 : Dec jdk_42_method_158_code 10 (.return_) 1 11 := ⟨by decide +kernel, rfl⟩
set_option maxRecDepth 65536 in
set_option maxHeartbeats 40000000 in
theorem c_cbe (l : Launch) (Z : State) (a0 : Array Value) (hw : ∀ d ∈ tables_1, d.before a0 Z = true) (hEL : EW Z a0 own_EL) (e n : Nat) (he : e ≤ n) (hn : n < 2 ^ 31) (sf : Value) (rsf : sf.isRef = true) (Os : Sta Z Z.heap "jdk/internal/util/Preconditions" "SIOOBE_FORMATTER" "Ljava/util/function/BiFunction;" sf) (S : Addr → Prop) (h0 : Heap) :
    Con l Z own_EL [] (⟨"java/lang/String", "checkBoundsBeginEnd", "(III)V"⟩ : MethodName) jdk_42_method_158_code 3 (none : Option FieldType) ({ frames := 1, cells := 0, slots := 0, locals := 15 } : Room) #[.int (0 : Int32), .int (Int32.ofNat e), .int (Int32.ofNat n)] S h0 (fun S' v h' => v = none ∧ h0 = h') := by
  refine con_of_go (ls := #[.val (.int (0 : Int32)), .val (.int (Int32.ofNat e)), .val (.int (Int32.ofNat n))]) (plainFor_of_name pn1) hEL (fun m => by first | rfl | (simp [entryFrame, mkF, argsToLocals, cat_int, cat_ref, cat_null, cat_long]; done)) (fun K => ?_)
  show Go _ _ _ _ _ _ _ _ _ _ _ _ _ 0 0 _ _ _
  refine go_iloadN d26_0 rfl ?_
  refine go_iloadN d26_1 rfl ?_
  refine go_iloadN d26_2 rfl ?_
  refine go_gets (hw _ (List.mem_of_getElem? (i := 47) rfl)) Via.refl Os d26_3 ?_
  refine go_static (R := ({ frames := 1, cells := 0, slots := 0, locals := 15 } : Room)) (kc := 0) (ks := 0) [.int (0 : Int32), .int (Int32.ofNat e), .int (Int32.ofNat n), sf] [] (c_cft l Z a0 hw hEL e n he hn sf rsf S h0) (hw _ (List.mem_of_getElem? (i := 49) rfl)) (hw _ (List.mem_of_getElem? (i := 50) rfl)) (hw _ (List.mem_of_getElem? (i := 51) rfl)) (hw _ (List.mem_of_getElem? (i := 48) rfl)) (by decide) rfl rfl (lenOf pd16 rfl) d26_6 (by rfl) (by decide) (Nat.le_of_ble_eq_true rfl) (rc := 0) (rs := 0) rfl rfl (fun S1001 v1001 h1001 m1001 z1001 q1001 => ?_)
  obtain ⟨rfl, rfl⟩ := q1001
  show Go _ _ _ _ _ _ _ _ _ _ _ _ _ _ _ _ _ (mkF K.m 9 #[.val (.int (0 : Int32)), .val (.int (Int32.ofNat e)), .val (.int (Int32.ofNat n))] [.int (0 : Int32)])
  refine go_pop d26_9 rfl ?_
  exact go_return d26_10 rfl ⟨rfl, rfl⟩
theorem d27_0 : Dec jdk_41_method_13_code 0 (.iload_n 2) 1 1 := ⟨by decide +kernel, rfl⟩
theorem d27_1 : Dec jdk_41_method_13_code 1 (.iload_n 0) 1 2 := ⟨by decide +kernel, rfl⟩
theorem d27_2 : Dec jdk_41_method_13_code 2 (.ior) 1 3 := ⟨by decide +kernel, rfl⟩
theorem d27_3 : Dec jdk_41_method_13_code 3 (.iload_n 1) 1 4 := ⟨by decide +kernel, rfl⟩
theorem d27_4 : Dec jdk_41_method_13_code 4 (.ior) 1 5 := ⟨by decide +kernel, rfl⟩
theorem d27_5 : Brn jdk_41_method_13_code 5 (.ifCond .lt 10) 10 8 15 := ⟨by decide +kernel, rfl, by decide, by decide⟩
theorem d27_8 : Dec jdk_41_method_13_code 8 (.iload_n 1) 1 9 := ⟨by decide +kernel, rfl⟩
theorem d27_9 : Dec jdk_41_method_13_code 9 (.iload_n 2) 1 10 := ⟨by decide +kernel, rfl⟩
theorem d27_10 : Dec jdk_41_method_13_code 10 (.iload_n 0) 1 11 := ⟨by decide +kernel, rfl⟩
theorem d27_11 : Dec jdk_41_method_13_code 11 (.isub) 1 12 := ⟨by decide +kernel, rfl⟩
theorem d27_12 : Brn jdk_41_method_13_code 12 (.if_icmp .le 11) 11 15 23 := ⟨by decide +kernel, rfl, by decide, by decide⟩
theorem d27_23 : Dec jdk_41_method_13_code 23 (.iload_n 0) 1 24 := ⟨by decide +kernel, rfl⟩
theorem d27_24 : Dec jdk_41_method_13_code 24 (.ireturn) 1 25 := ⟨by decide +kernel, rfl⟩
set_option maxRecDepth 65536 in
set_option maxHeartbeats 40000000 in
theorem c_cfs (l : Launch) (Z : State) (a0 : Array Value) (hw : ∀ d ∈ tables_1, d.before a0 Z = true) (hEL : EW Z a0 own_EL) (e n : Nat) (he : e ≤ n) (hn : n < 2 ^ 31) (sf : Value) (rsf : sf.isRef = true) (S : Addr → Prop) (h0 : Heap) :
    Con l Z own_EL [] (⟨"jdk/internal/util/Preconditions", "checkFromIndexSize", "(IIILjava/util/function/BiFunction;)I"⟩ : MethodName) jdk_41_method_13_code 4 (some .int) ({ frames := 0, cells := 0, slots := 0, locals := 0 } : Room) #[.int (0 : Int32), .int (Int32.ofNat e), .int (Int32.ofNat n), sf] S h0 (fun S' v h' => v = some (.int (0 : Int32)) ∧ h0 = h') := by
  refine con_of_go (ls := #[.val (.int (0 : Int32)), .val (.int (Int32.ofNat e)), .val (.int (Int32.ofNat n)), .val (sf)]) (plainFor_of_name pn2) hEL (fun m => by first | rfl | (simp [entryFrame, mkF, argsToLocals, cat_int, cat_ref, cat_null, cat_long, XT.cat1 rsf]; done)) (fun K => ?_)
  show Go _ _ _ _ _ _ _ _ _ _ _ _ _ 0 0 _ _ _
  refine go_iloadN d27_0 rfl ?_
  refine go_iloadN d27_1 rfl ?_
  refine go_ior (v := (Int32.ofNat n)) d27_2 (Int32.or_zero) ?_
  refine go_iloadN d27_3 rfl ?_
  refine go_ior d27_4 rfl ?_
  refine go_iflt d27_5 (fun c1001 => absurd c1001 (or_nneg (by omega) (by omega))) (fun c1001 => ?_)
  refine go_iloadN d27_8 rfl ?_
  refine go_iloadN d27_9 rfl ?_
  refine go_iloadN d27_10 rfl ?_
  refine go_isub (v := (Int32.ofNat n)) d27_11 (Int32.sub_zero _) ?_
  refine go_icmple d27_12 (fun c1002 => ?_) (fun c1002 => absurd c1002 (ofNat_nlt he (by omega)))
  refine go_iloadN d27_23 rfl ?_
  exact go_ireturn (ty := .int) (v := (0 : Int32)) d27_24 rfl (by simp) rfl ⟨rfl, rfl⟩
theorem d28_0 : Dec jdk_42_method_157_code 0 (.iload_n 0) 1 1 := ⟨by decide +kernel, rfl⟩
theorem d28_1 : Dec jdk_42_method_157_code 1 (.iload_n 1) 1 2 := ⟨by decide +kernel, rfl⟩
theorem d28_2 : Dec jdk_42_method_157_code 2 (.iload_n 2) 1 3 := ⟨by decide +kernel, rfl⟩
theorem d28_3 : Dec jdk_42_method_157_code 3 (.getstatic 1053) 3 6 := ⟨by decide +kernel, rfl⟩
theorem d28_6 : Dec jdk_42_method_157_code 6 (.invokestatic 1065) 3 9 := ⟨by decide +kernel, rfl⟩
theorem d28_9 : Dec jdk_42_method_157_code 9 (.ireturn) 1 10 := ⟨by decide +kernel, rfl⟩
set_option maxRecDepth 65536 in
set_option maxHeartbeats 40000000 in
theorem c_coc (l : Launch) (Z : State) (a0 : Array Value) (hw : ∀ d ∈ tables_1, d.before a0 Z = true) (hEL : EW Z a0 own_EL) (e n : Nat) (he : e ≤ n) (hn : n < 2 ^ 31) (sf : Value) (rsf : sf.isRef = true) (Os : Sta Z Z.heap "jdk/internal/util/Preconditions" "SIOOBE_FORMATTER" "Ljava/util/function/BiFunction;" sf) (S : Addr → Prop) (h0 : Heap) :
    Con l Z own_EL [] (⟨"java/lang/String", "checkBoundsOffCount", "(III)I"⟩ : MethodName) jdk_42_method_157_code 3 (some .int) ({ frames := 1, cells := 0, slots := 0, locals := 15 } : Room) #[.int (0 : Int32), .int (Int32.ofNat e), .int (Int32.ofNat n)] S h0 (fun S' v h' => v = some (.int (0 : Int32)) ∧ h0 = h') := by
  refine con_of_go (ls := #[.val (.int (0 : Int32)), .val (.int (Int32.ofNat e)), .val (.int (Int32.ofNat n))]) (plainFor_of_name pn1) hEL (fun m => by first | rfl | (simp [entryFrame, mkF, argsToLocals, cat_int, cat_ref, cat_null, cat_long]; done)) (fun K => ?_)
  show Go _ _ _ _ _ _ _ _ _ _ _ _ _ 0 0 _ _ _
  refine go_iloadN d28_0 rfl ?_
  refine go_iloadN d28_1 rfl ?_
  refine go_iloadN d28_2 rfl ?_
  refine go_gets (hw _ (List.mem_of_getElem? (i := 47) rfl)) Via.refl Os d28_3 ?_
  refine go_static (R := ({ frames := 1, cells := 0, slots := 0, locals := 15 } : Room)) (kc := 0) (ks := 0) [.int (0 : Int32), .int (Int32.ofNat e), .int (Int32.ofNat n), sf] [] (c_cfs l Z a0 hw hEL e n he hn sf rsf S h0) (hw _ (List.mem_of_getElem? (i := 136) rfl)) (hw _ (List.mem_of_getElem? (i := 137) rfl)) (hw _ (List.mem_of_getElem? (i := 138) rfl)) (hw _ (List.mem_of_getElem? (i := 48) rfl)) (by decide) rfl rfl (lenOf pd16 rfl) d28_6 (by rfl) (by decide) (Nat.le_of_ble_eq_true rfl) (rc := 0) (rs := 0) rfl rfl (fun S1001 v1001 h1001 m1001 z1001 q1001 => ?_)
  obtain ⟨rfl, rfl⟩ := q1001
  show Go _ _ _ _ _ _ _ _ _ _ _ _ _ _ _ _ _ (mkF K.m 9 #[.val (.int (0 : Int32)), .val (.int (Int32.ofNat e)), .val (.int (Int32.ofNat n))] [.int (0 : Int32)])
  exact go_ireturn (ty := .int) (v := (0 : Int32)) d28_9 rfl (by simp) rfl ⟨rfl, rfl⟩
theorem d29_0 : Dec jdk_52_method_94_code 0 (.iload_n 0) 1 1 := ⟨by decide +kernel, rfl⟩
theorem d29_1 : Dec jdk_52_method_94_code 1 (.iload_n 1) 1 2 := ⟨by decide +kernel, rfl⟩
theorem d29_2 : Dec jdk_52_method_94_code 2 (.aload_n 2) 1 3 := ⟨by decide +kernel, rfl⟩
theorem d29_3 : Dec jdk_52_method_94_code 3 (.invokestatic 48) 3 6 := ⟨by decide +kernel, rfl⟩
theorem d29_6 : Dec jdk_52_method_94_code 6 (.invokestatic 419) 3 9 := ⟨by decide +kernel, rfl⟩
theorem pd17 : parseMethodDescriptor "(III)I" = some ⟨[.int, .int, .int], some .int⟩ := by decide +kernel
theorem d29_9 : Dec jdk_52_method_94_code 9 (.pop) 1 10 := ⟨by decide +kernel, rfl⟩
theorem d29_10 : Dec jdk_52_method_94_code 10 (.return_) 1 11 := ⟨by decide +kernel, rfl⟩
set_option maxRecDepth 65536 in
set_option maxHeartbeats 40000000 in
theorem c_ucoc (l : Launch) (Z : State) (a0 : Array Value) (hw : ∀ d ∈ tables_1, d.before a0 Z = true) (hEL : EW Z a0 own_EL) (b : Addr) (xs : List Int32) (e n : Nat) (he : e ≤ n) (hl : xs.length = 2 * n) (hn : n < 2 ^ 29) (S : Addr → Prop) (h0 : Heap) (A : AI Z h0 b .byte xs) (sf : Value) (rsf : sf.isRef = true) (Os : Sta Z Z.heap "jdk/internal/util/Preconditions" "SIOOBE_FORMATTER" "Ljava/util/function/BiFunction;" sf) :
    Con l Z own_EL [] (⟨"java/lang/StringUTF16", "checkBoundsOffCount", "(II[B)V"⟩ : MethodName) jdk_52_method_94_code 3 (none : Option FieldType) ({ frames := 2, cells := 0, slots := 0, locals := 29 } : Room) #[.int (0 : Int32), .int (Int32.ofNat e), .ref b] S h0 (fun S' v h' => v = none ∧ h0 = h') := by
  refine con_of_go (ls := #[.val (.int (0 : Int32)), .val (.int (Int32.ofNat e)), .val (.ref b)]) (plainFor_of_name pn0) hEL (fun m => by first | rfl | (simp [entryFrame, mkF, argsToLocals, cat_int, cat_ref, cat_null, cat_long]; done)) (fun K => ?_)
  show Go _ _ _ _ _ _ _ _ _ _ _ _ _ 0 0 _ _ _
  refine go_iloadN d29_0 rfl ?_
  refine go_iloadN d29_1 rfl ?_
  refine go_aloadN d29_2 rfl rfl ?_
  refine go_static (R := ({ frames := 2, cells := 0, slots := 0, locals := 29 } : Room)) (kc := 0) (ks := 0) [.ref b] [.int (Int32.ofNat e), .int (0 : Int32)] (c_u16len l Z a0 hw hEL b _ n hl hn S h0 A) (hw _ (List.mem_of_getElem? (i := 116) rfl)) (hw _ (List.mem_of_getElem? (i := 117) rfl)) (hw _ (List.mem_of_getElem? (i := 118) rfl)) (hw _ (List.mem_of_getElem? (i := 62) rfl)) (by decide) rfl rfl (lenOf pd3 rfl) d29_3 (by rfl) (by decide) (Nat.le_of_ble_eq_true rfl) (rc := 0) (rs := 0) rfl rfl (fun S1001 v1001 h1001 m1001 z1001 q1001 => ?_)
  obtain ⟨rfl, rfl⟩ := q1001
  show Go _ _ _ _ _ _ _ _ _ _ _ _ _ _ _ _ _ (mkF K.m 6 #[.val (.int (0 : Int32)), .val (.int (Int32.ofNat e)), .val (.ref b)] [.int (Int32.ofNat n), .int (Int32.ofNat e), .int (0 : Int32)])
  refine go_static (R := ({ frames := 2, cells := 0, slots := 0, locals := 29 } : Room)) (kc := 0) (ks := 0) [.int (0 : Int32), .int (Int32.ofNat e), .int (Int32.ofNat n)] [] (c_coc l Z a0 hw hEL e n he (by omega) sf rsf Os S1001 h0) (hw _ (List.mem_of_getElem? (i := 133) rfl)) (hw _ (List.mem_of_getElem? (i := 134) rfl)) (hw _ (List.mem_of_getElem? (i := 135) rfl)) (hw _ (List.mem_of_getElem? (i := 4) rfl)) (by decide) rfl rfl (lenOf pd17 rfl) d29_6 (by rfl) (by decide) (Nat.le_of_ble_eq_true rfl) (rc := 0) (rs := 0) rfl rfl (fun S1002 v1002 h1002 m1002 z1002 q1002 => ?_)
  obtain ⟨rfl, rfl⟩ := q1002
  show Go _ _ _ _ _ _ _ _ _ _ _ _ _ _ _ _ _ (mkF K.m 9 #[.val (.int (0 : Int32)), .val (.int (Int32.ofNat e)), .val (.ref b)] [.int (0 : Int32)])
  refine go_pop d29_9 rfl ?_
  exact go_return d29_10 rfl ⟨rfl, rfl⟩
theorem d30_0 : Dec jdk_52_method_22_code 0 (.iload_n 1) 1 1 := ⟨by decide +kernel, rfl⟩
theorem d30_1 : Dec jdk_52_method_22_code 1 (.iload 4) 2 3 := ⟨by decide +kernel, rfl⟩
theorem d30_3 : Dec jdk_52_method_22_code 3 (.aload_n 0) 1 4 := ⟨by decide +kernel, rfl⟩
theorem d30_4 : Dec jdk_52_method_22_code 4 (.invokestatic 173) 3 7 := ⟨by decide +kernel, rfl⟩
theorem pd18 : parseMethodDescriptor "(II[B)V" = some ⟨[.int, .int, (.array .byte)], none⟩ := by decide +kernel
theorem d30_7 : Dec jdk_52_method_22_code 7 (.iconst 0) 1 8 := ⟨by decide +kernel, rfl⟩
theorem d30_8 : Dec jdk_52_method_22_code 8 (.istore 5) 2 10 := ⟨by decide +kernel, rfl⟩
theorem d30_10 : Dec jdk_52_method_22_code 10 (.iload 5) 2 12 := ⟨by decide +kernel, rfl⟩
theorem d30_12 : Dec jdk_52_method_22_code 12 (.iload 4) 2 14 := ⟨by decide +kernel, rfl⟩
theorem d30_14 : Brn jdk_52_method_22_code 14 (.if_icmp .ge 39) 39 17 53 := ⟨by decide +kernel, rfl, by decide, by decide⟩
theorem d30_53 : Dec jdk_52_method_22_code 53 (.iload 4) 2 55 := ⟨by decide +kernel, rfl⟩
theorem d30_55 : Dec jdk_52_method_22_code 55 (.ireturn) 1 56 := ⟨by decide +kernel, rfl⟩
theorem d30_17 : Dec jdk_52_method_22_code 17 (.aload_n 0) 1 18 := ⟨by decide +kernel, rfl⟩
theorem d30_18 : Dec jdk_52_method_22_code 18 (.iload_n 1) 1 19 := ⟨by decide +kernel, rfl⟩
theorem d30_19 : Dec jdk_52_method_22_code 19 (.invokestatic 71) 3 22 := ⟨by decide +kernel, rfl⟩
theorem d30_22 : Dec jdk_52_method_22_code 22 (.istore 6) 2 24 := ⟨by decide +kernel, rfl⟩
theorem d30_24 : Dec jdk_52_method_22_code 24 (.iload 6) 2 26 := ⟨by decide +kernel, rfl⟩
theorem d30_26 : Dec jdk_52_method_22_code 26 (.sipush 255) 3 29 := ⟨by decide +kernel, rfl⟩
theorem d30_29 : Brn jdk_52_method_22_code 29 (.if_icmp .le 6) 6 32 35 := ⟨by decide +kernel, rfl, by decide, by decide⟩
theorem d30_35 : Dec jdk_52_method_22_code 35 (.aload_n 2) 1 36 := ⟨by decide +kernel, rfl⟩
theorem d30_36 : Dec jdk_52_method_22_code 36 (.iload_n 3) 1 37 := ⟨by decide +kernel, rfl⟩
theorem d30_37 : Dec jdk_52_method_22_code 37 (.iload 6) 2 39 := ⟨by decide +kernel, rfl⟩
theorem d30_39 : Dec jdk_52_method_22_code 39 (.i2b) 1 40 := ⟨by decide +kernel, rfl⟩
theorem d30_40 : Dec jdk_52_method_22_code 40 (.bastore) 1 41 := ⟨by decide +kernel, rfl⟩
theorem d30_41 : Dec jdk_52_method_22_code 41 (.iinc 1 1) 3 44 := ⟨by decide +kernel, rfl⟩
theorem d30_44 : Dec jdk_52_method_22_code 44 (.iinc 3 1) 3 47 := ⟨by decide +kernel, rfl⟩
theorem d30_47 : Dec jdk_52_method_22_code 47 (.iinc 5 1) 3 50 := ⟨by decide +kernel, rfl⟩
theorem d30_50 : Brn jdk_52_method_22_code 50 (.goto (-40)) (-40) 53 10 := ⟨by decide +kernel, rfl, by decide, by decide⟩
theorem d30_32 : Dec jdk_52_method_22_code 32 (.iload 5) 2 34 := ⟨by decide +kernel, rfl⟩
theorem d30_34 : Dec jdk_52_method_22_code 34 (.ireturn) 1 35 := ⟨by decide +kernel, rfl⟩
set_option maxRecDepth 65536 in
set_option maxHeartbeats 40000000 in
theorem c_cmpB (l : Launch) (Z : State) (a0 : Array Value) (hw : ∀ d ∈ tables_1, d.before a0 Z = true) (hEL : EW Z a0 own_EL) (src dst : Addr) (cs : List Int32) (e k : Nat) (S : Addr → Prop) (h0 : Heap) (hz : Z.heap.size ≤ h0.size) (A1 : AI Z h0 src .byte (cs.flatMap two)) (A2 : AI Z h0 dst .byte (List.replicate e 0)) (gd : Z.heap.size ≤ dst) (sd : S dst) (hsd : src ≠ dst) (he : e ≤ cs.length) (hlen : cs.length < 2 ^ 29) (hch : ∀ c ∈ cs, isCh c) (hk : k ≤ e) (hpre : ∀ i c, i < k → (cs.take e)[i]? = some c → ¬ (255 : Int32) < c) (hat : ∀ c, (cs.take e)[k]? = some c → (255 : Int32) < c) (sf : Value) (rsf : sf.isRef = true) (Os : Sta Z Z.heap "jdk/internal/util/Preconditions" "SIOOBE_FORMATTER" "Ljava/util/function/BiFunction;" sf) (Oa : Sta Z Z.heap "java/lang/StringUTF16" "$assertionsDisabled" "Z" (.int (1 : Int32))) (Oh : Sta Z Z.heap "java/lang/StringUTF16" "HI_BYTE_SHIFT" "I" (.int (0 : Int32))) (Ol : Sta Z Z.heap "java/lang/StringUTF16" "LO_BYTE_SHIFT" "I" (.int (8 : Int32))) :
    Con l Z own_EL [] (⟨"java/lang/StringUTF16", "compress", "([BI[BII)I"⟩ : MethodName) jdk_52_method_22_code 7 (some .int) ({ frames := 3, cells := 0, slots := 0, locals := 43 } : Room) #[.ref src, .int (0 : Int32), .ref dst, .int (0 : Int32), .int (Int32.ofNat e)] S h0 (fun S' v h' => v = some (.int (Int32.ofNat k)) ∧ Keep h0 h' [dst] ∧ AI Z h' dst .byte (((cs.take e).take k).map lo8 ++ List.replicate (e - k) 0)) := by
  refine con_of_go (ls := #[.val (.ref src), .val (.int (0 : Int32)), .val (.ref dst), .val (.int (0 : Int32)), .val (.int (Int32.ofNat e)), .unset, .unset]) (plainFor_of_name pn0) hEL (fun m => by first | rfl | (simp [entryFrame, mkF, argsToLocals, cat_int, cat_ref, cat_null, cat_long]; done)) (fun K => ?_)
  show Go _ _ _ _ _ _ _ _ _ _ _ _ _ 0 0 _ _ _
  have hne : src ≠ dst := hsd
  have hel : (cs.take e).length = e := by simp; omega
  refine go_iloadN d30_0 rfl ?_
  refine go_iload d30_1 rfl ?_
  refine go_aloadN d30_3 rfl rfl ?_
  refine go_static (R := ({ frames := 3, cells := 0, slots := 0, locals := 43 } : Room)) (kc := 0) (ks := 0) [.int (0 : Int32), .int (Int32.ofNat e), .ref src] [] (c_ucoc l Z a0 hw hEL src _ e cs.length he (flat_len cs) hlen S h0 A1 sf rsf Os) (hw _ (List.mem_of_getElem? (i := 130) rfl)) (hw _ (List.mem_of_getElem? (i := 131) rfl)) (hw _ (List.mem_of_getElem? (i := 132) rfl)) (hw _ (List.mem_of_getElem? (i := 62) rfl)) (by decide) rfl rfl (lenOf pd18 rfl) d30_4 (by rfl) (by decide) (Nat.le_of_ble_eq_true rfl) (rc := 0) (rs := 0) rfl rfl (fun S1001 v1001 h1001 m1001 z1001 q1001 => ?_)
  obtain ⟨rfl, rfl⟩ := q1001
  show Go _ _ _ _ _ _ _ _ _ _ _ _ _ _ _ _ _ (mkF K.m 7 #[.val (.ref src), .val (.int (0 : Int32)), .val (.ref dst), .val (.int (0 : Int32)), .val (.int (Int32.ofNat e)), .unset, .unset] [])
  refine go_iconst (x := (0 : Int32)) d30_7 (by decide) ?_
  refine go_istore d30_8 (l' := #[.val (.ref src), .val (.int (0 : Int32)), .val (.ref dst), .val (.int (0 : Int32)), .val (.int (Int32.ofNat e)), .val (.int (0 : Int32)), .unset]) rfl ?_
  have loop : ∀ r i, i + r = e → i ≤ k → ∀ (S1 : Addr → Prop) (s6 : Slot) (hs6 : s6 = .unset ∨ ∃ w, s6 = .val w ∧ w.category = 1) (h1 : Heap), S1 dst → Keep h0 h1 [dst] → AI Z h1 src .byte (cs.flatMap two) → AI Z h1 dst .byte (((cs.take e).take i).map lo8 ++ List.replicate (e - i) 0) → Go l Z a0 own_EL ({ frames := 3, cells := 0, slots := 0, locals := 43 } : Room) "java/lang/StringUTF16" jdk_52_method_22_code 7 (some .int) "compress" S (fun S' v h' => v = some (.int (Int32.ofNat k)) ∧ Keep h0 h' [dst] ∧ AI Z h' dst .byte (((cs.take e).take k).map lo8 ++ List.replicate (e - k) 0)) K 0 0 S1 h1 (mkF K.m 10 #[.val (.ref src), .val (.int (Int32.ofNat i)), .val (.ref dst), .val (.int (Int32.ofNat i)), .val (.int (Int32.ofNat e)), .val (.int (Int32.ofNat i)), s6] []) := by
    intro r
    induction r with
    | zero =>
      intro i hi hik0 S1 s6 hs6 h1 sd1 Kp B1 B2
      have zK := Kp.1
      refine go_iload d30_10 rfl ?_
      refine go_iload d30_12 rfl ?_
      refine go_icmpge d30_14 (fun c1002 => ?_) (fun c1002 => absurd c1002 (ofNat_nlt (by omega) (by omega)))
      refine go_iload d30_53 rfl ?_
      exact go_ireturn (ty := .int) (v := (Int32.ofNat e)) d30_55 rfl (by simp) rfl ⟨by congr 3; omega, Kp, by rw [show k = i by omega]; exact B2⟩
    | succ r ih =>
      intro i hi hik0 S1 s6 hs6 h1 sd1 Kp B1 B2
      have zK := Kp.1
      obtain ⟨c, hc⟩ : ∃ c, cs[i]? = some c := ⟨_, List.getElem?_eq_getElem (by omega)⟩
      have hce : (cs.take e)[i]? = some c := by rw [List.getElem?_take_of_lt (by omega)]; exact hc
      refine go_iload d30_10 rfl ?_
      refine go_iload d30_12 rfl ?_
      refine go_icmpge d30_14 (fun c1003 => absurd (ofNat_lt (by omega) (by omega)) c1003) (fun c1003 => ?_)
      refine go_aloadN d30_17 rfl rfl ?_
      refine go_iloadN d30_18 rfl ?_
      refine go_static (R := ({ frames := 3, cells := 0, slots := 0, locals := 43 } : Room)) (kc := 0) (ks := 0) [.ref src, .int (Int32.ofNat i)] [] (c_getc l Z a0 hw hEL src cs i c hc (hch c (List.mem_of_getElem? hc)) S1 h1 B1 Oa Oh Ol) (hw _ (List.mem_of_getElem? (i := 107) rfl)) (hw _ (List.mem_of_getElem? (i := 108) rfl)) (hw _ (List.mem_of_getElem? (i := 109) rfl)) (hw _ (List.mem_of_getElem? (i := 62) rfl)) (by decide) rfl rfl (lenOf pd5 rfl) d30_19 (by rfl) (by decide) (Nat.le_of_ble_eq_true rfl) (rc := 0) (rs := 0) rfl rfl (fun S1004 v1004 h1004 m1004 z1004 q1004 => ?_)
      obtain ⟨rfl, rfl⟩ := q1004
      show Go _ _ _ _ _ _ _ _ _ _ _ _ _ _ _ _ _ (mkF K.m 22 #[.val (.ref src), .val (.int (Int32.ofNat i)), .val (.ref dst), .val (.int (Int32.ofNat i)), .val (.int (Int32.ofNat e)), .val (.int (Int32.ofNat i)), s6] [.int c])
      refine go_istoreS d30_22 rfl hs6 (l' := #[.val (.ref src), .val (.int (Int32.ofNat i)), .val (.ref dst), .val (.int (Int32.ofNat i)), .val (.int (Int32.ofNat e)), .val (.int (Int32.ofNat i)), .val (.int c)]) rfl ?_
      refine go_iload d30_24 rfl ?_
      refine go_sipush (x := (255 : Int32)) d30_26 (by decide) ?_
      refine go_icmple d30_29 (fun c29 => ?_) (fun c29 => ?_)
      · have hik : i < k := by
          rcases Nat.lt_or_ge i k with q | q
          · exact q
          · exact absurd (hat c (by rw [show k = i by omega]; exact hce)) c29
        refine go_aloadN d30_35 rfl rfl ?_
        refine go_iloadN d30_36 rfl ?_
        refine go_iload d30_37 rfl ?_
        refine go_i2b (v := (lo8 c)) d30_39 rfl ?_
        refine go_bastore (v := (lo8 c)) B2 (by omega) (m1004 _ sd1) (i := i) rfl (by rw [fill_len lo8 hel (by omega)]; omega) (nar_lo8 c) d30_40 (fun h1005 K1005 A1005 => ?_)
        have z1005 := K1005.1
        have A1005 : AI Z h1005 dst .byte (((cs.take e).take (i + 1)).map lo8 ++ List.replicate (e - (i + 1)) 0) := set_fill lo8 hel hce ▸ A1005
        refine go_iinc d30_41 rfl (v := (Int32.ofNat (i + 1))) (ofNat_inc i) (l' := #[.val (.ref src), .val (.int (Int32.ofNat (i + 1))), .val (.ref dst), .val (.int (Int32.ofNat i)), .val (.int (Int32.ofNat e)), .val (.int (Int32.ofNat i)), .val (.int c)]) rfl ?_
        refine go_iinc d30_44 rfl (v := (Int32.ofNat (i + 1))) (ofNat_inc i) (l' := #[.val (.ref src), .val (.int (Int32.ofNat (i + 1))), .val (.ref dst), .val (.int (Int32.ofNat (i + 1))), .val (.int (Int32.ofNat e)), .val (.int (Int32.ofNat i)), .val (.int c)]) rfl ?_
        refine go_iinc d30_47 rfl (v := (Int32.ofNat (i + 1))) (ofNat_inc i) (l' := #[.val (.ref src), .val (.int (Int32.ofNat (i + 1))), .val (.ref dst), .val (.int (Int32.ofNat (i + 1))), .val (.int (Int32.ofNat e)), .val (.int (Int32.ofNat (i + 1))), .val (.int c)]) rfl ?_
        refine go_goto d30_50 ?_
        have f1006 := (B1.keep K1005 (ninS hne nin0))
        exact ih (i + 1) (by omega) (by omega) S1004 _ (Or.inr ⟨_, rfl, rfl⟩) h1005 (m1004 _ sd1) (Kp.trans K1005 (allS (Or.inl (by simp)) all0)) f1006 A1005
      · have hik : i = k := by
          rcases Nat.lt_or_ge i k with q | q
          · exact absurd c29 (hpre i c q hce)
          · omega
        refine go_iload d30_32 rfl ?_
        exact go_ireturn (ty := .int) (v := (Int32.ofNat i)) d30_34 rfl (by simp) rfl ⟨by rw [hik], Kp, by rw [← hik]; exact B2⟩
  exact loop e 0 (by omega) (by omega) S1001 _ (Or.inl rfl) h0 (m1001 _ sd) (Keep.refl _ _) A1 (by simpa using A2)
theorem d31_0 : Dec jdk_52_method_17_code 0 (.iload_n 2) 1 1 := ⟨by decide +kernel, rfl⟩
theorem d31_1 : Dec jdk_52_method_17_code 1 (.newarray .byte) 2 3 := ⟨by decide +kernel, rfl⟩
theorem d31_3 : Dec jdk_52_method_17_code 3 (.astore_n 3) 1 4 := ⟨by decide +kernel, rfl⟩
theorem d31_4 : Dec jdk_52_method_17_code 4 (.aload_n 0) 1 5 := ⟨by decide +kernel, rfl⟩
theorem d31_5 : Dec jdk_52_method_17_code 5 (.iload_n 1) 1 6 := ⟨by decide +kernel, rfl⟩
theorem d31_6 : Dec jdk_52_method_17_code 6 (.aload_n 3) 1 7 := ⟨by decide +kernel, rfl⟩
theorem d31_7 : Dec jdk_52_method_17_code 7 (.iconst 0) 1 8 := ⟨by decide +kernel, rfl⟩
theorem d31_8 : Dec jdk_52_method_17_code 8 (.iload_n 2) 1 9 := ⟨by decide +kernel, rfl⟩
theorem d31_9 : Dec jdk_52_method_17_code 9 (.invokestatic 123) 3 12 := ⟨by decide +kernel, rfl⟩
theorem pd19 : parseMethodDescriptor "([BI[BII)I" = some ⟨[(.array .byte), .int, (.array .byte), .int, .int], some .int⟩ := by decide +kernel
theorem d31_12 : Dec jdk_52_method_17_code 12 (.istore 4) 2 14 := ⟨by decide +kernel, rfl⟩
theorem d31_14 : Dec jdk_52_method_17_code 14 (.iload 4) 2 16 := ⟨by decide +kernel, rfl⟩
theorem d31_16 : Dec jdk_52_method_17_code 16 (.iload_n 2) 1 17 := ⟨by decide +kernel, rfl⟩
theorem d31_17 : Brn jdk_52_method_17_code 17 (.if_icmp .eq 47) 47 20 64 := ⟨by decide +kernel, rfl, by decide, by decide⟩
theorem d31_64 : Dec jdk_52_method_17_code 64 (.aload_n 3) 1 65 := ⟨by decide +kernel, rfl⟩
theorem d31_65 : Dec jdk_52_method_17_code 65 (.areturn) 1 66 := ⟨by decide +kernel, rfl⟩
theorem d31_20 : Dec jdk_52_method_17_code 20 (.aload_n 0) 1 21 := ⟨by decide +kernel, rfl⟩
theorem d31_21 : Dec jdk_52_method_17_code 21 (.iload_n 1) 1 22 := ⟨by decide +kernel, rfl⟩
theorem d31_22 : Dec jdk_52_method_17_code 22 (.iconst 1) 1 23 := ⟨by decide +kernel, rfl⟩
theorem d31_23 : Dec jdk_52_method_17_code 23 (.ishl) 1 24 := ⟨by decide +kernel, rfl⟩
theorem d31_24 : Dec jdk_52_method_17_code 24 (.iload_n 1) 1 25 := ⟨by decide +kernel, rfl⟩
theorem d31_25 : Dec jdk_52_method_17_code 25 (.iload_n 2) 1 26 := ⟨by decide +kernel, rfl⟩
theorem d31_26 : Dec jdk_52_method_17_code 26 (.iadd) 1 27 := ⟨by decide +kernel, rfl⟩
theorem d31_27 : Dec jdk_52_method_17_code 27 (.invokestatic 11) 3 30 := ⟨by decide +kernel, rfl⟩
theorem d31_30 : Dec jdk_52_method_17_code 30 (.invokestatic 126) 3 33 := ⟨by decide +kernel, rfl⟩
theorem d31_33 : Dec jdk_52_method_17_code 33 (.astore 5) 2 35 := ⟨by decide +kernel, rfl⟩
theorem d31_35 : Dec jdk_52_method_17_code 35 (.aload 5) 2 37 := ⟨by decide +kernel, rfl⟩
theorem d31_37 : Dec jdk_52_method_17_code 37 (.iload 4) 2 39 := ⟨by decide +kernel, rfl⟩
theorem d31_39 : Dec jdk_52_method_17_code 39 (.invokestatic 71) 3 42 := ⟨by decide +kernel, rfl⟩
theorem d31_42 : Dec jdk_52_method_17_code 42 (.sipush 255) 3 45 := ⟨by decide +kernel, rfl⟩
theorem d31_45 : Brn jdk_52_method_17_code 45 (.if_icmp .gt 16) 16 48 61 := ⟨by decide +kernel, rfl, by decide, by decide⟩
theorem d31_61 : Dec jdk_52_method_17_code 61 (.aload 5) 2 63 := ⟨by decide +kernel, rfl⟩
theorem d31_63 : Dec jdk_52_method_17_code 63 (.areturn) 1 64 := ⟨by decide +kernel, rfl⟩
set_option maxRecDepth 65536 in
set_option maxHeartbeats 40000000 in
theorem c_cmpUB (l : Launch) (Z : State) (a0 : Array Value) (hw : ∀ d ∈ tables_1, d.before a0 Z = true) (hEL : EW Z a0 own_EL) (src : Addr) (cs : List Int32) (e : Nat) (S : Addr → Prop) (h0 : Heap) (hz : Z.heap.size ≤ h0.size) (A1 : AI Z h0 src .byte (cs.flatMap two)) (he : e < cs.length) (hec : e ≤ 4) (hlen : cs.length < 2 ^ 29) (hch : ∀ c ∈ cs, isCh c) (sf : Value) (rsf : sf.isRef = true) (Os : Sta Z Z.heap "jdk/internal/util/Preconditions" "SIOOBE_FORMATTER" "Ljava/util/function/BiFunction;" sf) (Oa : Sta Z Z.heap "java/lang/StringUTF16" "$assertionsDisabled" "Z" (.int (1 : Int32))) (Oh : Sta Z Z.heap "java/lang/StringUTF16" "HI_BYTE_SHIFT" "I" (.int (0 : Int32))) (Ol : Sta Z Z.heap "java/lang/StringUTF16" "LO_BYTE_SHIFT" "I" (.int (8 : Int32))) :
    Con l Z own_EL [] (⟨"java/lang/StringUTF16", "compress", "([BII)[B"⟩ : MethodName) jdk_52_method_17_code 6 (some (.array .byte)) ({ frames := 4, cells := 2, slots := 12, locals := 62 } : Room) #[.ref src, .int (0 : Int32), .int (Int32.ofNat e)] S h0 (fun S' v h' => ∃ b k, v = some (.ref b) ∧ h0.size ≤ b ∧ b < h'.size ∧ S' b ∧ Keep h0 h' [] ∧ AI Z h' b .byte (sbytes k (cs.take e)) ∧ ((k = 0 ∧ ∀ c ∈ (cs.take e), ¬ (255 : Int32) < c) ∨ (k = 1 ∧ ∃ c ∈ (cs.take e), (255 : Int32) < c))) := by
  rcases lat_or (cs.take e) with hcs | ⟨k, c, h1, h2, h3⟩
  · refine con_of_go (ls := #[.val (.ref src), .val (.int (0 : Int32)), .val (.int (Int32.ofNat e)), .unset, .unset, .unset]) (plainFor_of_name pn0) hEL (fun m => by first | rfl | (simp [entryFrame, mkF, argsToLocals, cat_int, cat_ref, cat_null, cat_long]; done)) (fun K => ?_)
    show Go _ _ _ _ _ _ _ _ _ _ _ _ _ 2 12 _ _ _
    have ls := lt_nat A1.lt
    have hel : (cs.take e).length = e := by simp; omega
    refine go_iloadN d31_0 rfl ?_
    refine go_newarr (kc := 1) (ks := 8) (N := e) (cap := 4) (hw _ (List.mem_of_getElem? (i := 16) rfl)) rfl hec (by decide) rfl rfl d31_1 (fun S1001 h1001 a1001 e1001 m1001 s1001 x1001 l1001 A1001 => ?_)
    have z1001 := x1001.1
    have A1001 : AI Z h1001 a1001 .byte (List.replicate e 0) := A1001
    refine go_astoreN d31_3 rfl (l' := #[.val (.ref src), .val (.int (0 : Int32)), .val (.int (Int32.ofNat e)), .val (.ref a1001), .unset, .unset]) rfl ?_
    refine go_aloadN d31_4 rfl rfl ?_
    refine go_iloadN d31_5 rfl ?_
    refine go_aloadN d31_6 rfl rfl ?_
    refine go_iconst (x := (0 : Int32)) d31_7 (by decide) ?_
    refine go_iloadN d31_8 rfl ?_
    have f1002 := (A1.ext x1001)
    refine go_static (R := ({ frames := 4, cells := 2, slots := 12, locals := 62 } : Room)) (kc := 1) (ks := 8) [.ref src, .int (0 : Int32), .ref a1001, .int (0 : Int32), .int (Int32.ofNat e)] [] (c_cmpB l Z a0 hw hEL src a1001 cs e e S1001 h1001 (by omega) f1002 A1001 (by omega) s1001 (ne_of (a := src) (b := a1001) (by omega)) (by omega) hlen hch (by omega) (fun i c hi hc => hcs c (List.mem_of_getElem? hc)) (fun c hc => absurd (List.getElem?_eq_some_iff.mp hc).1 (by omega)) sf rsf Os Oa Oh Ol) (hw _ (List.mem_of_getElem? (i := 127) rfl)) (hw _ (List.mem_of_getElem? (i := 128) rfl)) (hw _ (List.mem_of_getElem? (i := 129) rfl)) (hw _ (List.mem_of_getElem? (i := 62) rfl)) (by decide) rfl rfl (lenOf pd19 rfl) d31_9 (by rfl) (by decide) (Nat.le_of_ble_eq_true rfl) (rc := 0) (rs := 0) rfl rfl (fun S1003 v1003 h1003 m1003 z1003 q1003 => ?_)
    obtain ⟨rfl, K1003, A1003⟩ := q1003
    show Go _ _ _ _ _ _ _ _ _ _ _ _ _ _ _ _ _ (mkF K.m 12 #[.val (.ref src), .val (.int (0 : Int32)), .val (.int (Int32.ofNat e)), .val (.ref a1001), .unset, .unset] [.int (Int32.ofNat e)])
    refine go_istore d31_12 (l' := #[.val (.ref src), .val (.int (0 : Int32)), .val (.int (Int32.ofNat e)), .val (.ref a1001), .val (.int (Int32.ofNat e)), .unset]) rfl ?_
    refine go_iload d31_14 rfl ?_
    refine go_iloadN d31_16 rfl ?_
    refine go_icmpeq d31_17 (fun c1004 => ?_) (fun c1004 => absurd (rfl) c1004)
    refine go_aloadN d31_64 rfl rfl ?_
    have B1005 : AI Z h1003 a1001 .byte (sbytes 0 (cs.take e)) := by rw [sbytes0]; simpa [hel, List.take_take] using A1003
    have L1005 := lt_nat B1005.lt
    exact go_areturn d31_65 rfl rfl rfl ⟨_, (0 : Int32), rfl, by omega, L1005, (m1003 _ s1001), (((Keep.refl h0 []).ext x1001).trans K1003 (allS (Or.inr (by omega)) all0)), B1005, Or.inl ⟨rfl, hcs⟩⟩
  · refine con_of_go (ls := #[.val (.ref src), .val (.int (0 : Int32)), .val (.int (Int32.ofNat e)), .unset, .unset, .unset]) (plainFor_of_name pn0) hEL (fun m => by first | rfl | (simp [entryFrame, mkF, argsToLocals, cat_int, cat_ref, cat_null, cat_long]; done)) (fun K => ?_)
    show Go _ _ _ _ _ _ _ _ _ _ _ _ _ 2 12 _ _ _
    have ls := lt_nat A1.lt
    have hel : (cs.take e).length = e := by simp; omega
    have hkl := (List.getElem?_eq_some_iff.mp h1).1
    have h1c : cs[k]? = some c := by rw [List.getElem?_take_of_lt (by omega)] at h1; exact h1
    refine go_iloadN d31_0 rfl ?_
    refine go_newarr (kc := 1) (ks := 8) (N := e) (cap := 4) (hw _ (List.mem_of_getElem? (i := 16) rfl)) rfl hec (by decide) rfl rfl d31_1 (fun S1001 h1001 a1001 e1001 m1001 s1001 x1001 l1001 A1001 => ?_)
    have z1001 := x1001.1
    have A1001 : AI Z h1001 a1001 .byte (List.replicate e 0) := A1001
    refine go_astoreN d31_3 rfl (l' := #[.val (.ref src), .val (.int (0 : Int32)), .val (.int (Int32.ofNat e)), .val (.ref a1001), .unset, .unset]) rfl ?_
    refine go_aloadN d31_4 rfl rfl ?_
    refine go_iloadN d31_5 rfl ?_
    refine go_aloadN d31_6 rfl rfl ?_
    refine go_iconst (x := (0 : Int32)) d31_7 (by decide) ?_
    refine go_iloadN d31_8 rfl ?_
    have f1002 := (A1.ext x1001)
    refine go_static (R := ({ frames := 4, cells := 2, slots := 12, locals := 62 } : Room)) (kc := 1) (ks := 8) [.ref src, .int (0 : Int32), .ref a1001, .int (0 : Int32), .int (Int32.ofNat e)] [] (c_cmpB l Z a0 hw hEL src a1001 cs e k S1001 h1001 (by omega) f1002 A1001 (by omega) s1001 (ne_of (a := src) (b := a1001) (by omega)) (by omega) hlen hch (by omega) h3 (fun d hd => by rw [h1] at hd; cases hd; exact h2) sf rsf Os Oa Oh Ol) (hw _ (List.mem_of_getElem? (i := 127) rfl)) (hw _ (List.mem_of_getElem? (i := 128) rfl)) (hw _ (List.mem_of_getElem? (i := 129) rfl)) (hw _ (List.mem_of_getElem? (i := 62) rfl)) (by decide) rfl rfl (lenOf pd19 rfl) d31_9 (by rfl) (by decide) (Nat.le_of_ble_eq_true rfl) (rc := 0) (rs := 0) rfl rfl (fun S1003 v1003 h1003 m1003 z1003 q1003 => ?_)
    obtain ⟨rfl, K1003, A1003⟩ := q1003
    show Go _ _ _ _ _ _ _ _ _ _ _ _ _ _ _ _ _ (mkF K.m 12 #[.val (.ref src), .val (.int (0 : Int32)), .val (.int (Int32.ofNat e)), .val (.ref a1001), .unset, .unset] [.int (Int32.ofNat k)])
    refine go_istore d31_12 (l' := #[.val (.ref src), .val (.int (0 : Int32)), .val (.int (Int32.ofNat e)), .val (.ref a1001), .val (.int (Int32.ofNat k)), .unset]) rfl ?_
    refine go_iload d31_14 rfl ?_
    refine go_iloadN d31_16 rfl ?_
    refine go_icmpeq d31_17 (fun c1004 => absurd c1004 (fun q => absurd ((ofNat_inj (by omega) (by omega)).mp q) (by omega))) (fun c1004 => ?_)
    refine go_aloadN d31_20 rfl rfl ?_
    refine go_iloadN d31_21 rfl ?_
    refine go_iconst (x := (1 : Int32)) d31_22 (by decide) ?_
    refine go_ishl (v := (0 : Int32)) d31_23 (by decide) ?_
    refine go_iloadN d31_24 rfl ?_
    refine go_iloadN d31_25 rfl ?_
    refine go_iadd (v := (Int32.ofNat e)) d31_26 (Int32.zero_add _) ?_
    refine go_static (R := ({ frames := 4, cells := 2, slots := 12, locals := 62 } : Room)) (kc := 1) (ks := 8) [.int (Int32.ofNat e)] [.int (0 : Int32), .ref src] (c_nbl l Z a0 hw hEL e (by omega) S1003 h1003) (hw _ (List.mem_of_getElem? (i := 97) rfl)) (hw _ (List.mem_of_getElem? (i := 98) rfl)) (hw _ (List.mem_of_getElem? (i := 99) rfl)) (hw _ (List.mem_of_getElem? (i := 62) rfl)) (by decide) rfl rfl (lenOf pd7 rfl) d31_27 (by rfl) (by decide) (Nat.le_of_ble_eq_true rfl) (rc := 0) (rs := 0) rfl rfl (fun S1005 v1005 h1005 m1005 z1005 q1005 => ?_)
    obtain ⟨rfl, rfl⟩ := q1005
    show Go _ _ _ _ _ _ _ _ _ _ _ _ _ _ _ _ _ (mkF K.m 30 #[.val (.ref src), .val (.int (0 : Int32)), .val (.int (Int32.ofNat e)), .val (.ref a1001), .val (.int (Int32.ofNat k)), .unset] [.int (Int32.ofNat (2 * e)), .int (0 : Int32), .ref src])
    have f1006 := (f1002.keep K1003 (ninS (ne_of (a := src) (b := a1001) (by omega)) nin0))
    refine go_static (R := ({ frames := 4, cells := 2, slots := 12, locals := 62 } : Room)) (kc := 0) (ks := 0) [.ref src, .int (0 : Int32), .int (Int32.ofNat (2 * e))] [] (c_cor l Z a0 hw hEL src _ (2 * e) (by rw [flat_len]; omega) (by omega) S1005 h1003 (by omega) f1006) (hw _ (List.mem_of_getElem? (i := 139) rfl)) (hw _ (List.mem_of_getElem? (i := 140) rfl)) (hw _ (List.mem_of_getElem? (i := 142) rfl)) (hw _ (List.mem_of_getElem? (i := 141) rfl)) (by decide) rfl rfl (lenOf pd15 rfl) d31_30 (by rfl) (by decide) (Nat.le_of_ble_eq_true rfl) (rc := 1) (rs := 8) rfl rfl (fun S1007 v1007 h1007 m1007 z1007 q1007 => ?_)
    obtain ⟨b1007, rfl, g1007, l1007, s1007, K1007, A1007⟩ := q1007
    have l1007 := lt_nat l1007
    show Go _ _ _ _ _ _ _ _ _ _ _ _ _ _ _ _ _ (mkF K.m 33 #[.val (.ref src), .val (.int (0 : Int32)), .val (.int (Int32.ofNat e)), .val (.ref a1001), .val (.int (Int32.ofNat k)), .unset] [.ref b1007])
    have A1008 : AI Z h1007 b1007 .byte ((cs.take e).flatMap two) := by rw [← flat_takes]; exact A1007
    refine go_astore d31_33 rfl (l' := #[.val (.ref src), .val (.int (0 : Int32)), .val (.int (Int32.ofNat e)), .val (.ref a1001), .val (.int (Int32.ofNat k)), .val (.ref b1007)]) rfl ?_
    refine go_aload d31_35 rfl rfl ?_
    refine go_iload d31_37 rfl ?_
    refine go_static (R := ({ frames := 4, cells := 2, slots := 12, locals := 62 } : Room)) (kc := 0) (ks := 0) [.ref b1007, .int (Int32.ofNat k)] [] (c_getc l Z a0 hw hEL b1007 (cs.take e) k c h1 (hch c (List.mem_of_getElem? h1c)) S1007 h1007 A1008 Oa Oh Ol) (hw _ (List.mem_of_getElem? (i := 107) rfl)) (hw _ (List.mem_of_getElem? (i := 108) rfl)) (hw _ (List.mem_of_getElem? (i := 109) rfl)) (hw _ (List.mem_of_getElem? (i := 62) rfl)) (by decide) rfl rfl (lenOf pd5 rfl) d31_39 (by rfl) (by decide) (Nat.le_of_ble_eq_true rfl) (rc := 0) (rs := 0) rfl rfl (fun S1009 v1009 h1009 m1009 z1009 q1009 => ?_)
    obtain ⟨rfl, rfl⟩ := q1009
    show Go _ _ _ _ _ _ _ _ _ _ _ _ _ _ _ _ _ (mkF K.m 42 #[.val (.ref src), .val (.int (0 : Int32)), .val (.int (Int32.ofNat e)), .val (.ref a1001), .val (.int (Int32.ofNat k)), .val (.ref b1007)] [.int c])
    refine go_sipush (x := (255 : Int32)) d31_42 (by decide) ?_
    refine go_icmpgt d31_45 (fun c1010 => ?_) (fun c1010 => absurd (h2) c1010)
    refine go_aload d31_61 rfl rfl ?_
    have B1011 : AI Z h1007 b1007 .byte (sbytes 1 (cs.take e)) := A1008
    have L1011 := lt_nat B1011.lt
    exact go_areturn d31_63 rfl rfl rfl ⟨_, (1 : Int32), rfl, by omega, L1011, (m1009 _ s1007), ((((Keep.refl h0 []).ext x1001).trans K1003 (allS (Or.inr (by omega)) all0)).trans K1007 all0), B1011, Or.inr ⟨rfl, c, List.mem_of_getElem? h1, h2⟩⟩
theorem d32_0 : Dec jdk_52_method_69_code 0 (.iload_n 2) 1 1 := ⟨by decide +kernel, rfl⟩
theorem d32_1 : Brn jdk_52_method_69_code 1 (.ifCond .ne 7) 7 4 8 := ⟨by decide +kernel, rfl, by decide, by decide⟩
theorem d32_8 : Dec jdk_52_method_69_code 8 (.getstatic 251) 3 11 := ⟨by decide +kernel, rfl⟩
theorem d32_11 : Brn jdk_52_method_69_code 11 (.ifCond .eq 28) 28 14 39 := ⟨by decide +kernel, rfl, by decide, by decide⟩
theorem d32_14 : Dec jdk_52_method_69_code 14 (.aload_n 0) 1 15 := ⟨by decide +kernel, rfl⟩
theorem d32_15 : Dec jdk_52_method_69_code 15 (.iload_n 1) 1 16 := ⟨by decide +kernel, rfl⟩
theorem d32_16 : Dec jdk_52_method_69_code 16 (.iload_n 2) 1 17 := ⟨by decide +kernel, rfl⟩
theorem d32_17 : Dec jdk_52_method_69_code 17 (.invokestatic 257) 3 20 := ⟨by decide +kernel, rfl⟩
theorem d32_20 : Dec jdk_52_method_69_code 20 (.astore_n 3) 1 21 := ⟨by decide +kernel, rfl⟩
theorem d32_21 : Dec jdk_52_method_69_code 21 (.aload_n 3) 1 22 := ⟨by decide +kernel, rfl⟩
theorem d32_22 : Dec jdk_52_method_69_code 22 (.iload_n 2) 1 23 := ⟨by decide +kernel, rfl⟩
theorem d32_23 : Dec jdk_52_method_69_code 23 (.invokestatic 259) 3 26 := ⟨by decide +kernel, rfl⟩
theorem d32_26 : Dec jdk_52_method_69_code 26 (.istore 4) 2 28 := ⟨by decide +kernel, rfl⟩
theorem d32_28 : Dec jdk_52_method_69_code 28 (.new 3) 3 31 := ⟨by decide +kernel, rfl⟩
theorem d32_31 : Dec jdk_52_method_69_code 31 (.dup) 1 32 := ⟨by decide +kernel, rfl⟩
theorem d32_32 : Dec jdk_52_method_69_code 32 (.aload_n 3) 1 33 := ⟨by decide +kernel, rfl⟩
theorem d32_33 : Dec jdk_52_method_69_code 33 (.iload 4) 2 35 := ⟨by decide +kernel, rfl⟩
theorem d32_35 : Dec jdk_52_method_69_code 35 (.invokespecial 263) 3 38 := ⟨by decide +kernel, rfl⟩
theorem pd20 : parseMethodDescriptor "([BB)V" = some ⟨[(.array .byte), .byte], none⟩ := by decide +kernel
theorem d32_38 : Dec jdk_52_method_69_code 38 (.areturn) 1 39 := ⟨by decide +kernel, rfl⟩
set_option maxRecDepth 65536 in
set_option maxHeartbeats 40000000 in
theorem c_nsU (l : Launch) (Z : State) (a0 : Array Value) (hw : ∀ d ∈ tables_1, d.before a0 Z = true) (hEL : EW Z a0 own_EL) (src : Addr) (cs : List Int32) (e : Nat) (S : Addr → Prop) (h0 : Heap) (hz : Z.heap.size ≤ h0.size) (A1 : AI Z h0 src .byte (cs.flatMap two)) (he : e < cs.length) (hec : e ≤ 4) (hlen : cs.length < 2 ^ 29) (hch : ∀ c ∈ cs, isCh c) (sf : Value) (rsf : sf.isRef = true) (Os : Sta Z Z.heap "jdk/internal/util/Preconditions" "SIOOBE_FORMATTER" "Ljava/util/function/BiFunction;" sf) (Oa : Sta Z Z.heap "java/lang/StringUTF16" "$assertionsDisabled" "Z" (.int (1 : Int32))) (Oh : Sta Z Z.heap "java/lang/StringUTF16" "HI_BYTE_SHIFT" "I" (.int (0 : Int32))) (Ol : Sta Z Z.heap "java/lang/StringUTF16" "LO_BYTE_SHIFT" "I" (.int (8 : Int32))) (hpos : 0 < e) (zc : Int32) (Oc : Sta Z Z.heap "java/lang/String" "COMPACT_STRINGS" "Z" (.int zc)) (Pc : ¬ zc = 0) :
    Con l Z own_EL [] (⟨"java/lang/StringUTF16", "newString", "([BII)Ljava/lang/String;"⟩ : MethodName) jdk_52_method_69_code 5 (some (.object "java/lang/String")) ({ frames := 5, cells := 3, slots := 16, locals := 80 } : Room) #[.ref src, .int (0 : Int32), .int (Int32.ofNat e)] S h0 (fun S' v h' => ∃ y bb k, v = some (.ref y) ∧ Keep h0 h' [] ∧ Str Z h' y (cs.take e) bb k) := by
  refine con_of_go (ls := #[.val (.ref src), .val (.int (0 : Int32)), .val (.int (Int32.ofNat e)), .unset, .unset]) (plainFor_of_name pn0) hEL (fun m => by first | rfl | (simp [entryFrame, mkF, argsToLocals, cat_int, cat_ref, cat_null, cat_long]; done)) (fun K => ?_)
  show Go _ _ _ _ _ _ _ _ _ _ _ _ _ 3 16 _ _ _
  have ls := lt_nat A1.lt
  have hel : (cs.take e).length = e := by simp; omega
  refine go_iloadN d32_0 rfl ?_
  refine go_ifne d32_1 (fun c1001 => ?_) (fun c1001 => absurd c1001 (fun q => absurd ((ofNat_inj (n := 0) (by omega) (by omega)).mp q) (by omega)))
  refine go_gets (hw _ (List.mem_of_getElem? (i := 123) rfl)) Via.refl Oc d32_8 ?_
  refine go_ifeq d32_11 (fun c1002 => absurd c1002 (Pc)) (fun c1002 => ?_)
  refine go_aloadN d32_14 rfl rfl ?_
  refine go_iloadN d32_15 rfl ?_
  refine go_iloadN d32_16 rfl ?_
  refine go_static (R := ({ frames := 5, cells := 3, slots := 16, locals := 80 } : Room)) (kc := 1) (ks := 4) [.ref src, .int (0 : Int32), .int (Int32.ofNat e)] [] (c_cmpUB l Z a0 hw hEL src cs e S h0 (by omega) A1 he hec hlen hch sf rsf Os Oa Oh Ol) (hw _ (List.mem_of_getElem? (i := 124) rfl)) (hw _ (List.mem_of_getElem? (i := 125) rfl)) (hw _ (List.mem_of_getElem? (i := 126) rfl)) (hw _ (List.mem_of_getElem? (i := 62) rfl)) (by decide) rfl rfl (lenOf pd15 rfl) d32_17 (by rfl) (by decide) (Nat.le_of_ble_eq_true rfl) (rc := 2) (rs := 12) rfl rfl (fun S1003 v1003 h1003 m1003 z1003 q1003 => ?_)
  obtain ⟨b1003, k1003, rfl, g1003, l1003, s1003, K1003, A1003, o1003⟩ := q1003
  have l1003 := lt_nat l1003
  show Go _ _ _ _ _ _ _ _ _ _ _ _ _ _ _ _ _ (mkF K.m 20 #[.val (.ref src), .val (.int (0 : Int32)), .val (.int (Int32.ofNat e)), .unset, .unset] [.ref b1003])
  refine go_astoreN d32_20 rfl (l' := #[.val (.ref src), .val (.int (0 : Int32)), .val (.int (Int32.ofNat e)), .val (.ref b1003), .unset]) rfl ?_
  refine go_aloadN d32_21 rfl rfl ?_
  refine go_iloadN d32_22 rfl ?_
  refine go_static (R := ({ frames := 5, cells := 3, slots := 16, locals := 80 } : Room)) (kc := 1) (ks := 4) [.ref b1003, .int (Int32.ofNat e)] [] (hel ▸ c_codU l Z a0 hw hEL b1003 (cs.take e) k1003 (o1003.imp And.left And.left) (by omega) (by omega) S1003 h1003 A1003) (hw _ (List.mem_of_getElem? (i := 157) rfl)) (hw _ (List.mem_of_getElem? (i := 68) rfl)) (hw _ (List.mem_of_getElem? (i := 69) rfl)) (hw _ (List.mem_of_getElem? (i := 62) rfl)) (by decide) rfl rfl (lenOf pd12 rfl) d32_23 (by rfl) (by decide) (Nat.le_of_ble_eq_true rfl) (rc := 0) (rs := 0) rfl rfl (fun S1004 v1004 h1004 m1004 z1004 q1004 => ?_)
  obtain ⟨rfl, rfl⟩ := q1004
  show Go _ _ _ _ _ _ _ _ _ _ _ _ _ _ _ _ _ (mkF K.m 26 #[.val (.ref src), .val (.int (0 : Int32)), .val (.int (Int32.ofNat e)), .val (.ref b1003), .unset] [.int k1003])
  refine go_istore d32_26 (l' := #[.val (.ref src), .val (.int (0 : Int32)), .val (.int (Int32.ofNat e)), .val (.ref b1003), .val (.int k1003)]) rfl ?_
  refine go_new (kc := 0) (ks := 0) (hw _ (List.mem_of_getElem? (i := 158) rfl)) (hw _ (List.mem_of_getElem? (i := 3) rfl)) (hw _ (List.mem_of_getElem? (i := 4) rfl)) d32_28 (fun S1005 h1005 a1005 e1005 m1005 s1005 x1005 l1005 p1005 => ?_)
  have z1005 := x1005.1
  refine go_dup d32_31 rfl ?_
  refine go_aloadN d32_32 rfl rfl ?_
  refine go_iload d32_33 rfl ?_
  refine go_special (R := ({ frames := 5, cells := 3, slots := 16, locals := 80 } : Room)) (kc := 0) (ks := 0) [.ref b1003, .int k1003] [.ref a1005] (c_ini2 l Z a0 hw hEL b1003 k1003 (nar_cod (cs := cs.take e) o1003) (fits_cod (cs := cs.take e) o1003) S1005 h1005 (by omega) a1005 p1005.1 _ _ (p1005.2 (Or.inr (hw _ (List.mem_of_getElem? (i := 17) rfl))) (ty := (.array .byte)) (by decide)) (p1005.2 (Or.inr (hw _ (List.mem_of_getElem? (i := 18) rfl))) (ty := .byte) (by decide)) (by omega) s1005) (hw _ (List.mem_of_getElem? (i := 159) rfl)) (hw _ (List.mem_of_getElem? (i := 160) rfl)) (hw _ (List.mem_of_getElem? (i := 161) rfl)) (hw _ (List.mem_of_getElem? (i := 4) rfl)) rfl (by decide) rfl rfl (lenOf pd20 rfl) d32_35 (by rfl) (by decide) (Nat.le_of_ble_eq_true rfl) (rc := 0) (rs := 0) rfl rfl (fun S1006 v1006 h1006 m1006 z1006 q1006 => ?_)
  obtain ⟨rfl, K1006, E1006, C1006, V1006⟩ := q1006
  show Go _ _ _ _ _ _ _ _ _ _ _ _ _ _ _ _ _ (mkF K.m 38 #[.val (.ref src), .val (.int (0 : Int32)), .val (.int (Int32.ofNat e)), .val (.ref b1003), .val (.int k1003)] [.ref a1005])
  have f1007 := ((A1003.ext x1005).keep K1006 (ninS (ne_of (a := b1003) (b := a1005) (by omega)) nin0))
  exact go_areturn d32_38 rfl rfl rfl ⟨_, _, k1003, rfl, ((((Keep.refl h0 []).trans K1003 all0).ext x1005).trans K1006 (allS (Or.inr (by omega)) all0)), E1006, C1006, V1006, f1007, o1003, fun c hc => hch c (List.mem_of_mem_take hc), by omega⟩
theorem d33_0 : Dec jdk_43_method_47_code 0 (.iload_n 2) 1 1 := ⟨by decide +kernel, rfl⟩
theorem d33_1 : Brn jdk_43_method_47_code 1 (.ifCond .ne 6) 6 4 7 := ⟨by decide +kernel, rfl, by decide, by decide⟩
theorem d33_4 : Dec jdk_43_method_47_code 4 (.ldc 151) 2 6 := ⟨by decide +kernel, rfl⟩
theorem d33_6 : Dec jdk_43_method_47_code 6 (.areturn) 1 7 := ⟨by decide +kernel, rfl⟩
theorem d33_7 : Dec jdk_43_method_47_code 7 (.new 1) 3 10 := ⟨by decide +kernel, rfl⟩
theorem d33_10 : Dec jdk_43_method_47_code 10 (.dup) 1 11 := ⟨by decide +kernel, rfl⟩
theorem d33_11 : Dec jdk_43_method_47_code 11 (.aload_n 0) 1 12 := ⟨by decide +kernel, rfl⟩
theorem d33_12 : Dec jdk_43_method_47_code 12 (.iload_n 1) 1 13 := ⟨by decide +kernel, rfl⟩
theorem d33_13 : Dec jdk_43_method_47_code 13 (.iload_n 1) 1 14 := ⟨by decide +kernel, rfl⟩
theorem d33_14 : Dec jdk_43_method_47_code 14 (.iload_n 2) 1 15 := ⟨by decide +kernel, rfl⟩
theorem d33_15 : Dec jdk_43_method_47_code 15 (.iadd) 1 16 := ⟨by decide +kernel, rfl⟩
theorem d33_16 : Dec jdk_43_method_47_code 16 (.invokestatic 232) 3 19 := ⟨by decide +kernel, rfl⟩
theorem d33_19 : Dec jdk_43_method_47_code 19 (.iconst 0) 1 20 := ⟨by decide +kernel, rfl⟩
theorem d33_20 : Dec jdk_43_method_47_code 20 (.invokespecial 112) 3 23 := ⟨by decide +kernel, rfl⟩
theorem d33_23 : Dec jdk_43_method_47_code 23 (.areturn) 1 24 := ⟨by decide +kernel, rfl⟩
set_option maxRecDepth 65536 in
set_option maxHeartbeats 40000000 in
theorem c_nsL (l : Launch) (Z : State) (a0 : Array Value) (hw : ∀ d ∈ tables_1, d.before a0 Z = true) (hEL : EW Z a0 own_EL) (src : Addr) (cs : List Int32) (e : Nat) (S : Addr → Prop) (h0 : Heap) (hz : Z.heap.size ≤ h0.size) (A1 : AI Z h0 src .byte (cs.map lo8)) (he : e < cs.length) (hec : e ≤ 4) (hlen : cs.length < 2 ^ 29) (hch : ∀ c ∈ cs, isCh c) (hcs : ∀ c ∈ cs, ¬ (255 : Int32) < c) :
    Con l Z own_EL [] (⟨"java/lang/StringLatin1", "newString", "([BII)Ljava/lang/String;"⟩ : MethodName) jdk_43_method_47_code 3 (some (.object "java/lang/String")) ({ frames := 3, cells := 2, slots := 12, locals := 50 } : Room) #[.ref src, .int (0 : Int32), .int (Int32.ofNat e)] S h0 (fun S' v h' => ∃ y bb k, v = some (.ref y) ∧ Keep h0 h' [] ∧ Str Z h' y (cs.take e) bb k) := by
  rcases Nat.eq_zero_or_pos e with he0 | hpos
  · refine con_of_go (ls := #[.val (.ref src), .val (.int (0 : Int32)), .val (.int (Int32.ofNat e))]) (plainFor_of_name pn3) hEL (fun m => by first | rfl | (simp [entryFrame, mkF, argsToLocals, cat_int, cat_ref, cat_null, cat_long]; done)) (fun K => ?_)
    show Go _ _ _ _ _ _ _ _ _ _ _ _ _ 2 12 _ _ _
    have ls := lt_nat A1.lt
    refine go_iloadN d33_0 rfl ?_
    refine go_ifne d33_1 (fun c1001 => absurd (by rw [he0]; rfl) c1001) (fun c1001 => ?_)
    refine go_ldcS (kc := 0) (ks := 8) (na := 0) (nb := 4) (xs := []) rfl (hw _ (List.mem_of_getElem? (i := 168) rfl)) (own_atoms hw) (by simp [own_EL]) ⟨by simp, by simp⟩ (by simp) (by simp) d33_4 (fun S1002 h1002 a1002 b1002 m1002 x1002 l1002 k1002 E1002 C1002 V1002 A1002 => ?_)
    have z1002 := x1002.1
    exact go_areturn d33_6 rfl rfl rfl ⟨_, _, (0 : Int32), rfl, ((Keep.refl h0 []).ext x1002), E1002, C1002, V1002, by rw [he0]; exact A1002, Or.inl ⟨rfl, fun c hc => hcs c (List.mem_of_mem_take hc)⟩, fun c hc => hch c (List.mem_of_mem_take hc), by simp; omega⟩
  · refine con_of_go (ls := #[.val (.ref src), .val (.int (0 : Int32)), .val (.int (Int32.ofNat e))]) (plainFor_of_name pn3) hEL (fun m => by first | rfl | (simp [entryFrame, mkF, argsToLocals, cat_int, cat_ref, cat_null, cat_long]; done)) (fun K => ?_)
    show Go _ _ _ _ _ _ _ _ _ _ _ _ _ 2 12 _ _ _
    have ls := lt_nat A1.lt
    refine go_iloadN d33_0 rfl ?_
    refine go_ifne d33_1 (fun c1001 => ?_) (fun c1001 => absurd c1001 (fun q => absurd ((ofNat_inj (n := 0) (by omega) (by omega)).mp q) (by omega)))
    refine go_new (kc := 1) (ks := 8) (hw _ (List.mem_of_getElem? (i := 165) rfl)) (hw _ (List.mem_of_getElem? (i := 3) rfl)) (hw _ (List.mem_of_getElem? (i := 4) rfl)) d33_7 (fun S1002 h1002 a1002 e1002 m1002 s1002 x1002 l1002 p1002 => ?_)
    have z1002 := x1002.1
    refine go_dup d33_10 rfl ?_
    refine go_aloadN d33_11 rfl rfl ?_
    refine go_iloadN d33_12 rfl ?_
    refine go_iloadN d33_13 rfl ?_
    refine go_iloadN d33_14 rfl ?_
    refine go_iadd (v := (Int32.ofNat e)) d33_15 (Int32.zero_add _) ?_
    have f1003 := (A1.ext x1002)
    refine go_static (R := ({ frames := 3, cells := 2, slots := 12, locals := 50 } : Room)) (kc := 0) (ks := 0) [.ref src, .int (0 : Int32), .int (Int32.ofNat e)] [.ref a1002, .ref a1002] (c_cor l Z a0 hw hEL src _ e (by simpa using he) (by omega) S1002 h1002 (by omega) f1003) (hw _ (List.mem_of_getElem? (i := 166) rfl)) (hw _ (List.mem_of_getElem? (i := 140) rfl)) (hw _ (List.mem_of_getElem? (i := 142) rfl)) (hw _ (List.mem_of_getElem? (i := 141) rfl)) (by decide) rfl rfl (lenOf pd15 rfl) d33_16 (by rfl) (by decide) (Nat.le_of_ble_eq_true rfl) (rc := 1) (rs := 8) rfl rfl (fun S1004 v1004 h1004 m1004 z1004 q1004 => ?_)
    obtain ⟨b1004, rfl, g1004, l1004, s1004, K1004, A1004⟩ := q1004
    have l1004 := lt_nat l1004
    show Go _ _ _ _ _ _ _ _ _ _ _ _ _ _ _ _ _ (mkF K.m 19 #[.val (.ref src), .val (.int (0 : Int32)), .val (.int (Int32.ofNat e))] [.ref b1004, .ref a1002, .ref a1002])
    refine go_iconst (x := (0 : Int32)) d33_19 (by decide) ?_
    have f1005 := (p1002.1.keep K1004)
    have f1006 := ((p1002.2 (Or.inr (hw _ (List.mem_of_getElem? (i := 17) rfl))) (ty := (.array .byte)) (by decide)).keep K1004 nin0)
    have f1007 := ((p1002.2 (Or.inr (hw _ (List.mem_of_getElem? (i := 18) rfl))) (ty := .byte) (by decide)).keep K1004 nin0)
    refine go_special (R := ({ frames := 3, cells := 2, slots := 12, locals := 50 } : Room)) (kc := 0) (ks := 0) [.ref b1004, .int (0 : Int32)] [.ref a1002] (c_ini2 l Z a0 hw hEL b1004 (0 : Int32) (by decide) (by decide) S1004 h1004 (by omega) a1002 f1005 _ _ f1006 f1007 (by omega) (m1004 _ s1002)) (hw _ (List.mem_of_getElem? (i := 167) rfl)) (hw _ (List.mem_of_getElem? (i := 160) rfl)) (hw _ (List.mem_of_getElem? (i := 161) rfl)) (hw _ (List.mem_of_getElem? (i := 4) rfl)) rfl (by decide) rfl rfl (lenOf pd20 rfl) d33_20 (by rfl) (by decide) (Nat.le_of_ble_eq_true rfl) (rc := 0) (rs := 0) rfl rfl (fun S1008 v1008 h1008 m1008 z1008 q1008 => ?_)
    obtain ⟨rfl, K1008, E1008, C1008, V1008⟩ := q1008
    show Go _ _ _ _ _ _ _ _ _ _ _ _ _ _ _ _ _ (mkF K.m 23 #[.val (.ref src), .val (.int (0 : Int32)), .val (.int (Int32.ofNat e))] [.ref a1002])
    have f1009 := (A1004.keep K1008 (ninS (ne_of (a := b1004) (b := a1002) (by omega)) nin0))
    exact go_areturn d33_23 rfl rfl rfl ⟨_, _, (0 : Int32), rfl, ((((Keep.refl h0 []).ext x1002).trans K1004 all0).trans K1008 (allS (Or.inr (by omega)) all0)), E1008, C1008, V1008, by rw [sbytes0, List.map_take]; exact f1009, Or.inl ⟨rfl, fun c hc => hcs c (List.mem_of_mem_take hc)⟩, fun c hc => hch c (List.mem_of_mem_take hc), by simp; omega⟩
theorem d34_0 : Dec jdk_42_method_92_code 0 (.aload_n 0) 1 1 := ⟨by decide +kernel, rfl⟩
theorem d34_1 : Dec jdk_42_method_92_code 1 (.invokevirtual 505) 3 4 := ⟨by decide +kernel, rfl⟩
theorem pd21 : parseMethodDescriptor "()I" = some ⟨[], some .int⟩ := by decide +kernel
theorem d34_4 : Dec jdk_42_method_92_code 4 (.istore_n 3) 1 5 := ⟨by decide +kernel, rfl⟩
theorem d34_5 : Dec jdk_42_method_92_code 5 (.iload_n 1) 1 6 := ⟨by decide +kernel, rfl⟩
theorem d34_6 : Dec jdk_42_method_92_code 6 (.iload_n 2) 1 7 := ⟨by decide +kernel, rfl⟩
theorem d34_7 : Dec jdk_42_method_92_code 7 (.iload_n 3) 1 8 := ⟨by decide +kernel, rfl⟩
theorem d34_8 : Dec jdk_42_method_92_code 8 (.invokestatic 521) 3 11 := ⟨by decide +kernel, rfl⟩
theorem pd22 : parseMethodDescriptor "(III)V" = some ⟨[.int, .int, .int], none⟩ := by decide +kernel
theorem d34_11 : Dec jdk_42_method_92_code 11 (.iload_n 1) 1 12 := ⟨by decide +kernel, rfl⟩
theorem d34_12 : Brn jdk_42_method_92_code 12 (.ifCond .ne 10) 10 15 22 := ⟨by decide +kernel, rfl, by decide, by decide⟩
theorem d34_15 : Dec jdk_42_method_92_code 15 (.iload_n 2) 1 16 := ⟨by decide +kernel, rfl⟩
theorem d34_16 : Dec jdk_42_method_92_code 16 (.iload_n 3) 1 17 := ⟨by decide +kernel, rfl⟩
theorem d34_17 : Brn jdk_42_method_92_code 17 (.if_icmp .ne 5) 5 20 22 := ⟨by decide +kernel, rfl, by decide, by decide⟩
theorem d34_22 : Dec jdk_42_method_92_code 22 (.iload_n 2) 1 23 := ⟨by decide +kernel, rfl⟩
theorem d34_23 : Dec jdk_42_method_92_code 23 (.iload_n 1) 1 24 := ⟨by decide +kernel, rfl⟩
theorem d34_24 : Dec jdk_42_method_92_code 24 (.isub) 1 25 := ⟨by decide +kernel, rfl⟩
theorem d34_25 : Dec jdk_42_method_92_code 25 (.istore 4) 2 27 := ⟨by decide +kernel, rfl⟩
theorem d34_27 : Dec jdk_42_method_92_code 27 (.aload_n 0) 1 28 := ⟨by decide +kernel, rfl⟩
theorem d34_28 : Dec jdk_42_method_92_code 28 (.invokevirtual 492) 3 31 := ⟨by decide +kernel, rfl⟩
theorem d34_31 : Brn jdk_42_method_92_code 31 (.ifCond .eq 16) 16 34 47 := ⟨by decide +kernel, rfl, by decide, by decide⟩
theorem d34_34 : Dec jdk_42_method_92_code 34 (.aload_n 0) 1 35 := ⟨by decide +kernel, rfl⟩
theorem d34_35 : Dec jdk_42_method_92_code 35 (.getfield 9) 3 38 := ⟨by decide +kernel, rfl⟩
theorem d34_38 : Dec jdk_42_method_92_code 38 (.iload_n 1) 1 39 := ⟨by decide +kernel, rfl⟩
theorem d34_39 : Dec jdk_42_method_92_code 39 (.iload 4) 2 41 := ⟨by decide +kernel, rfl⟩
theorem d34_41 : Dec jdk_42_method_92_code 41 (.invokestatic 685) 3 44 := ⟨by decide +kernel, rfl⟩
theorem pd23 : parseMethodDescriptor "([BII)Ljava/lang/String;" = some ⟨[(.array .byte), .int, .int], some (.object "java/lang/String")⟩ := by decide +kernel
theorem d34_44 : Brn jdk_42_method_92_code 44 (.goto 13) 13 47 57 := ⟨by decide +kernel, rfl, by decide, by decide⟩
theorem d34_57 : Dec jdk_42_method_92_code 57 (.areturn) 1 58 := ⟨by decide +kernel, rfl⟩
theorem d34_20 : Dec jdk_42_method_92_code 20 (.aload_n 0) 1 21 := ⟨by decide +kernel, rfl⟩
theorem d34_21 : Dec jdk_42_method_92_code 21 (.areturn) 1 22 := ⟨by decide +kernel, rfl⟩
theorem d34_47 : Dec jdk_42_method_92_code 47 (.aload_n 0) 1 48 := ⟨by decide +kernel, rfl⟩
theorem d34_48 : Dec jdk_42_method_92_code 48 (.getfield 9) 3 51 := ⟨by decide +kernel, rfl⟩
theorem d34_51 : Dec jdk_42_method_92_code 51 (.iload_n 1) 1 52 := ⟨by decide +kernel, rfl⟩
theorem d34_52 : Dec jdk_42_method_92_code 52 (.iload 4) 2 54 := ⟨by decide +kernel, rfl⟩
theorem d34_54 : Dec jdk_42_method_92_code 54 (.invokestatic 689) 3 57 := ⟨by decide +kernel, rfl⟩
set_option maxRecDepth 65536 in
set_option maxHeartbeats 40000000 in
theorem c_sub (l : Launch) (Z : State) (a0 : Array Value) (hw : ∀ d ∈ tables_1, d.before a0 Z = true) (hEL : EW Z a0 own_EL) (x : Addr) (cs : List Int32) (b : Addr) (k : Int32) (S : Addr → Prop) (h0 : Heap) (hz : Z.heap.size ≤ h0.size) (F : Str Z h0 x cs b k) (e : Nat) (he : e ≤ cs.length) (hec : cs.length ≤ 4) (hpe : (∃ c ∈ cs, (255 : Int32) < c) → 0 < e) (zc : Int32) (Oc : Sta Z Z.heap "java/lang/String" "COMPACT_STRINGS" "Z" (.int zc)) (Pc : ¬ zc = 0) (sf : Value) (rsf : sf.isRef = true) (Os : Sta Z Z.heap "jdk/internal/util/Preconditions" "SIOOBE_FORMATTER" "Ljava/util/function/BiFunction;" sf) (Oa : Sta Z Z.heap "java/lang/StringUTF16" "$assertionsDisabled" "Z" (.int (1 : Int32))) (Oh : Sta Z Z.heap "java/lang/StringUTF16" "HI_BYTE_SHIFT" "I" (.int (0 : Int32))) (Ol : Sta Z Z.heap "java/lang/StringUTF16" "LO_BYTE_SHIFT" "I" (.int (8 : Int32))) :
    Con l Z own_EL [] (⟨"java/lang/String", "substring", "(II)Ljava/lang/String;"⟩ : MethodName) jdk_42_method_92_code 5 (some (.object "java/lang/String")) ({ frames := 6, cells := 3, slots := 16, locals := 96 } : Room) #[.ref x, .int (0 : Int32), .int (Int32.ofNat e)] S h0 (fun S' v h' => ∃ y bb k, v = some (.ref y) ∧ Keep h0 h' [] ∧ Str Z h' y (cs.take e) bb k) := by
  have F0 := F
  obtain ⟨-, -, -, -, hk, hch, hlen⟩ := F0
  rcases hk with ⟨rfl, hk⟩ | ⟨rfl, hk⟩
  · refine con_of_go (ls := #[.val (.ref x), .val (.int (0 : Int32)), .val (.int (Int32.ofNat e)), .unset, .unset]) (plainFor_of_name pn1) hEL (fun m => by first | rfl | (simp [entryFrame, mkF, argsToLocals, cat_int, cat_ref, cat_null, cat_long]; done)) (fun K => ?_)
    show Go _ _ _ _ _ _ _ _ _ _ _ _ _ 3 16 _ _ _
    have lx := lt_nat F.lx
    have lb := lt_nat F.lb
    refine go_aloadN d34_0 rfl rfl ?_
    refine go_virtual (R := ({ frames := 6, cells := 3, slots := 16, locals := 96 } : Room)) (kc := 3) (ks := 16) [] [] (c_len l Z a0 hw hEL x _ _ _ S h0 F zc Oc Pc) F.1 (hw _ (List.mem_of_getElem? (i := 43) rfl)) (hw _ (List.mem_of_getElem? (i := 28) rfl)) (hw _ (List.mem_of_getElem? (i := 30) rfl)) (hw _ (List.mem_of_getElem? (i := 29) rfl)) (nfSel (hw _ (List.mem_of_getElem? (i := 30) rfl))) (hw _ (List.mem_of_getElem? (i := 31) rfl)) (hw _ (List.mem_of_getElem? (i := 4) rfl)) (by decide) rfl rfl (lenOf pd21 rfl) d34_1 (by rfl) (by decide) (Nat.le_of_ble_eq_true rfl) (rc := 0) (rs := 0) rfl rfl (fun S1001 v1001 h1001 m1001 z1001 q1001 => ?_)
    obtain ⟨rfl, rfl⟩ := q1001
    show Go _ _ _ _ _ _ _ _ _ _ _ _ _ _ _ _ _ (mkF K.m 4 #[.val (.ref x), .val (.int (0 : Int32)), .val (.int (Int32.ofNat e)), .unset, .unset] [.int (Int32.ofNat cs.length)])
    refine go_istoreN d34_4 (l' := #[.val (.ref x), .val (.int (0 : Int32)), .val (.int (Int32.ofNat e)), .val (.int (Int32.ofNat cs.length)), .unset]) rfl ?_
    refine go_iloadN d34_5 rfl ?_
    refine go_iloadN d34_6 rfl ?_
    refine go_iloadN d34_7 rfl ?_
    refine go_static (R := ({ frames := 6, cells := 3, slots := 16, locals := 96 } : Room)) (kc := 3) (ks := 16) [.int (0 : Int32), .int (Int32.ofNat e), .int (Int32.ofNat cs.length)] [] (c_cbe l Z a0 hw hEL e cs.length he (by omega) sf rsf Os S1001 h0) (hw _ (List.mem_of_getElem? (i := 44) rfl)) (hw _ (List.mem_of_getElem? (i := 45) rfl)) (hw _ (List.mem_of_getElem? (i := 46) rfl)) (hw _ (List.mem_of_getElem? (i := 4) rfl)) (by decide) rfl rfl (lenOf pd22 rfl) d34_8 (by rfl) (by decide) (Nat.le_of_ble_eq_true rfl) (rc := 0) (rs := 0) rfl rfl (fun S1002 v1002 h1002 m1002 z1002 q1002 => ?_)
    obtain ⟨rfl, rfl⟩ := q1002
    show Go _ _ _ _ _ _ _ _ _ _ _ _ _ _ _ _ _ (mkF K.m 11 #[.val (.ref x), .val (.int (0 : Int32)), .val (.int (Int32.ofNat e)), .val (.int (Int32.ofNat cs.length)), .unset] [])
    refine go_iloadN d34_11 rfl ?_
    refine go_ifne d34_12 (fun c1003 => absurd (rfl) c1003) (fun c1003 => ?_)
    refine go_iloadN d34_15 rfl ?_
    refine go_iloadN d34_16 rfl ?_
    refine go_icmpne d34_17 (fun c17 => ?_) (fun c17 => ?_)
    · have hlt : e < cs.length := by
        rcases Nat.lt_or_ge e cs.length with q | q
        · exact q
        · exact absurd (congrArg Int32.ofNat (show e = cs.length by omega)) c17
      refine go_iloadN d34_22 rfl ?_
      refine go_iloadN d34_23 rfl ?_
      refine go_isub (v := (Int32.ofNat e)) d34_24 (Int32.sub_zero _) ?_
      refine go_istore d34_25 (l' := #[.val (.ref x), .val (.int (0 : Int32)), .val (.int (Int32.ofNat e)), .val (.int (Int32.ofNat cs.length)), .val (.int (Int32.ofNat e))]) rfl ?_
      refine go_aloadN d34_27 rfl rfl ?_
      refine go_virtual (R := ({ frames := 6, cells := 3, slots := 16, locals := 96 } : Room)) (kc := 3) (ks := 16) [] [] (c_lat l Z a0 hw hEL x _ _ _ S1002 h0 F zc Oc Pc) F.1 (hw _ (List.mem_of_getElem? (i := 75) rfl)) (hw _ (List.mem_of_getElem? (i := 76) rfl)) (hw _ (List.mem_of_getElem? (i := 78) rfl)) (hw _ (List.mem_of_getElem? (i := 77) rfl)) (nfSel (hw _ (List.mem_of_getElem? (i := 78) rfl))) (hw _ (List.mem_of_getElem? (i := 79) rfl)) (hw _ (List.mem_of_getElem? (i := 4) rfl)) (by decide) rfl rfl (lenOf pd6 rfl) d34_28 (by rfl) (by decide) (Nat.le_of_ble_eq_true rfl) (rc := 0) (rs := 0) rfl rfl (fun S1004 v1004 h1004 m1004 z1004 q1004 => ?_)
      obtain ⟨rfl, rfl⟩ := q1004
      show Go _ _ _ _ _ _ _ _ _ _ _ _ _ _ _ _ _ (mkF K.m 31 #[.val (.ref x), .val (.int (0 : Int32)), .val (.int (Int32.ofNat e)), .val (.int (Int32.ofNat cs.length)), .val (.int (Int32.ofNat e))] [.int ((1 : Int32) - (0 : Int32))])
      refine go_ifeq d34_31 (fun c1005 => absurd c1005 (by decide)) (fun c1005 => ?_)
      refine go_aloadN d34_34 rfl rfl ?_
      refine go_getf (hw _ (List.mem_of_getElem? (i := 21) rfl)) Via.refl F.2.2.1 d34_35 ?_
      refine go_iloadN d34_38 rfl ?_
      refine go_iload d34_39 rfl ?_
      refine go_static (R := ({ frames := 6, cells := 3, slots := 16, locals := 96 } : Room)) (kc := 1) (ks := 4) [.ref b, .int (0 : Int32), .int (Int32.ofNat e)] [] (c_nsL l Z a0 hw hEL b cs e S1004 h0 (by omega) F.2.2.2.1 hlt (by omega) hlen hch hk) (hw _ (List.mem_of_getElem? (i := 162) rfl)) (hw _ (List.mem_of_getElem? (i := 163) rfl)) (hw _ (List.mem_of_getElem? (i := 164) rfl)) (hw _ (List.mem_of_getElem? (i := 82) rfl)) (by decide) rfl rfl (lenOf pd23 rfl) d34_41 (by rfl) (by decide) (Nat.le_of_ble_eq_true rfl) (rc := 2) (rs := 12) rfl rfl (fun S1006 v1006 h1006 m1006 z1006 q1006 => ?_)
      obtain ⟨y1006, b1006, k1006, rfl, K1006, T1006⟩ := q1006
      have lx1006 := lt_nat T1006.lx
      have lb1006 := lt_nat T1006.lb
      show Go _ _ _ _ _ _ _ _ _ _ _ _ _ _ _ _ _ (mkF K.m 44 #[.val (.ref x), .val (.int (0 : Int32)), .val (.int (Int32.ofNat e)), .val (.int (Int32.ofNat cs.length)), .val (.int (Int32.ofNat e))] [.ref y1006])
      refine go_goto d34_44 ?_
      exact go_areturn d34_57 rfl rfl rfl ⟨_, _, _, rfl, ((Keep.refl h0 []).trans K1006 all0), T1006⟩
    · have hee : e = cs.length := (ofNat_inj (by omega) (by omega)).mp c17
      refine go_aloadN d34_20 rfl rfl ?_
      exact go_areturn d34_21 rfl rfl rfl ⟨_, _, (0 : Int32), rfl, Keep.refl _ _, by rw [hee, List.take_length]; exact F⟩
  · refine con_of_go (ls := #[.val (.ref x), .val (.int (0 : Int32)), .val (.int (Int32.ofNat e)), .unset, .unset]) (plainFor_of_name pn1) hEL (fun m => by first | rfl | (simp [entryFrame, mkF, argsToLocals, cat_int, cat_ref, cat_null, cat_long]; done)) (fun K => ?_)
    show Go _ _ _ _ _ _ _ _ _ _ _ _ _ 3 16 _ _ _
    have lx := lt_nat F.lx
    have lb := lt_nat F.lb
    refine go_aloadN d34_0 rfl rfl ?_
    refine go_virtual (R := ({ frames := 6, cells := 3, slots := 16, locals := 96 } : Room)) (kc := 3) (ks := 16) [] [] (c_len l Z a0 hw hEL x _ _ _ S h0 F zc Oc Pc) F.1 (hw _ (List.mem_of_getElem? (i := 43) rfl)) (hw _ (List.mem_of_getElem? (i := 28) rfl)) (hw _ (List.mem_of_getElem? (i := 30) rfl)) (hw _ (List.mem_of_getElem? (i := 29) rfl)) (nfSel (hw _ (List.mem_of_getElem? (i := 30) rfl))) (hw _ (List.mem_of_getElem? (i := 31) rfl)) (hw _ (List.mem_of_getElem? (i := 4) rfl)) (by decide) rfl rfl (lenOf pd21 rfl) d34_1 (by rfl) (by decide) (Nat.le_of_ble_eq_true rfl) (rc := 0) (rs := 0) rfl rfl (fun S1001 v1001 h1001 m1001 z1001 q1001 => ?_)
    obtain ⟨rfl, rfl⟩ := q1001
    show Go _ _ _ _ _ _ _ _ _ _ _ _ _ _ _ _ _ (mkF K.m 4 #[.val (.ref x), .val (.int (0 : Int32)), .val (.int (Int32.ofNat e)), .unset, .unset] [.int (Int32.ofNat cs.length)])
    refine go_istoreN d34_4 (l' := #[.val (.ref x), .val (.int (0 : Int32)), .val (.int (Int32.ofNat e)), .val (.int (Int32.ofNat cs.length)), .unset]) rfl ?_
    refine go_iloadN d34_5 rfl ?_
    refine go_iloadN d34_6 rfl ?_
    refine go_iloadN d34_7 rfl ?_
    refine go_static (R := ({ frames := 6, cells := 3, slots := 16, locals := 96 } : Room)) (kc := 3) (ks := 16) [.int (0 : Int32), .int (Int32.ofNat e), .int (Int32.ofNat cs.length)] [] (c_cbe l Z a0 hw hEL e cs.length he (by omega) sf rsf Os S1001 h0) (hw _ (List.mem_of_getElem? (i := 44) rfl)) (hw _ (List.mem_of_getElem? (i := 45) rfl)) (hw _ (List.mem_of_getElem? (i := 46) rfl)) (hw _ (List.mem_of_getElem? (i := 4) rfl)) (by decide) rfl rfl (lenOf pd22 rfl) d34_8 (by rfl) (by decide) (Nat.le_of_ble_eq_true rfl) (rc := 0) (rs := 0) rfl rfl (fun S1002 v1002 h1002 m1002 z1002 q1002 => ?_)
    obtain ⟨rfl, rfl⟩ := q1002
    show Go _ _ _ _ _ _ _ _ _ _ _ _ _ _ _ _ _ (mkF K.m 11 #[.val (.ref x), .val (.int (0 : Int32)), .val (.int (Int32.ofNat e)), .val (.int (Int32.ofNat cs.length)), .unset] [])
    refine go_iloadN d34_11 rfl ?_
    refine go_ifne d34_12 (fun c1003 => absurd (rfl) c1003) (fun c1003 => ?_)
    refine go_iloadN d34_15 rfl ?_
    refine go_iloadN d34_16 rfl ?_
    refine go_icmpne d34_17 (fun c17 => ?_) (fun c17 => ?_)
    · have hlt : e < cs.length := by
        rcases Nat.lt_or_ge e cs.length with q | q
        · exact q
        · exact absurd (congrArg Int32.ofNat (show e = cs.length by omega)) c17
      have hepos : 0 < e := hpe hk
      refine go_iloadN d34_22 rfl ?_
      refine go_iloadN d34_23 rfl ?_
      refine go_isub (v := (Int32.ofNat e)) d34_24 (Int32.sub_zero _) ?_
      refine go_istore d34_25 (l' := #[.val (.ref x), .val (.int (0 : Int32)), .val (.int (Int32.ofNat e)), .val (.int (Int32.ofNat cs.length)), .val (.int (Int32.ofNat e))]) rfl ?_
      refine go_aloadN d34_27 rfl rfl ?_
      refine go_virtual (R := ({ frames := 6, cells := 3, slots := 16, locals := 96 } : Room)) (kc := 3) (ks := 16) [] [] (c_lat l Z a0 hw hEL x _ _ _ S1002 h0 F zc Oc Pc) F.1 (hw _ (List.mem_of_getElem? (i := 75) rfl)) (hw _ (List.mem_of_getElem? (i := 76) rfl)) (hw _ (List.mem_of_getElem? (i := 78) rfl)) (hw _ (List.mem_of_getElem? (i := 77) rfl)) (nfSel (hw _ (List.mem_of_getElem? (i := 78) rfl))) (hw _ (List.mem_of_getElem? (i := 79) rfl)) (hw _ (List.mem_of_getElem? (i := 4) rfl)) (by decide) rfl rfl (lenOf pd6 rfl) d34_28 (by rfl) (by decide) (Nat.le_of_ble_eq_true rfl) (rc := 0) (rs := 0) rfl rfl (fun S1004 v1004 h1004 m1004 z1004 q1004 => ?_)
      obtain ⟨rfl, rfl⟩ := q1004
      show Go _ _ _ _ _ _ _ _ _ _ _ _ _ _ _ _ _ (mkF K.m 31 #[.val (.ref x), .val (.int (0 : Int32)), .val (.int (Int32.ofNat e)), .val (.int (Int32.ofNat cs.length)), .val (.int (Int32.ofNat e))] [.int ((1 : Int32) - (1 : Int32))])
      refine go_ifeq d34_31 (fun c1005 => ?_) (fun c1005 => absurd (by decide) c1005)
      refine go_aloadN d34_47 rfl rfl ?_
      refine go_getf (hw _ (List.mem_of_getElem? (i := 21) rfl)) Via.refl F.2.2.1 d34_48 ?_
      refine go_iloadN d34_51 rfl ?_
      refine go_iload d34_52 rfl ?_
      refine go_static (R := ({ frames := 6, cells := 3, slots := 16, locals := 96 } : Room)) (kc := 0) (ks := 0) [.ref b, .int (0 : Int32), .int (Int32.ofNat e)] [] (c_nsU l Z a0 hw hEL b cs e S1004 h0 (by omega) F.2.2.2.1 hlt (by omega) hlen hch sf rsf Os Oa Oh Ol hepos zc Oc Pc) (hw _ (List.mem_of_getElem? (i := 120) rfl)) (hw _ (List.mem_of_getElem? (i := 121) rfl)) (hw _ (List.mem_of_getElem? (i := 122) rfl)) (hw _ (List.mem_of_getElem? (i := 62) rfl)) (by decide) rfl rfl (lenOf pd23 rfl) d34_54 (by rfl) (by decide) (Nat.le_of_ble_eq_true rfl) (rc := 3) (rs := 16) rfl rfl (fun S1006 v1006 h1006 m1006 z1006 q1006 => ?_)
      obtain ⟨y1006, b1006, k1006, rfl, K1006, T1006⟩ := q1006
      have lx1006 := lt_nat T1006.lx
      have lb1006 := lt_nat T1006.lb
      show Go _ _ _ _ _ _ _ _ _ _ _ _ _ _ _ _ _ (mkF K.m 57 #[.val (.ref x), .val (.int (0 : Int32)), .val (.int (Int32.ofNat e)), .val (.int (Int32.ofNat cs.length)), .val (.int (Int32.ofNat e))] [.ref y1006])
      exact go_areturn d34_57 rfl rfl rfl ⟨_, _, _, rfl, ((Keep.refl h0 []).trans K1006 all0), T1006⟩
    · have hee : e = cs.length := (ofNat_inj (by omega) (by omega)).mp c17
      refine go_aloadN d34_20 rfl rfl ?_
      exact go_areturn d34_21 rfl rfl rfl ⟨_, _, (1 : Int32), rfl, Keep.refl _ _, by rw [hee, List.take_length]; exact F⟩
/-- e is where the trailing blanks begin -/
def own_cut (cs : List Int32) (e : Nat) : Prop := e ≤ cs.length ∧ (∀ j c, e ≤ j → cs[j]? = some c → c = 32) ∧ (∀ c, 0 < e → cs[e - 1]? = some c → ¬ c = 32)
theorem own_ch (x : Int32) : ∃ a, x.toUInt32.toUInt16.toUInt32.toInt32 = a ∧ isCh a := ⟨_, rfl, fits_nar_char x⟩
theorem own_dec {i : Nat} : Int32.ofNat (i + 1) - 1 = Int32.ofNat i := by rw [← ofNat_inc]; exact Int32.add_sub_cancel _ _
theorem own_dec2 {i : Nat} : Int32.ofNat (i + 1) + Int32.ofInt (-1) = Int32.ofNat i := by
  rw [← ofNat_inc, Int32.add_assoc]; exact Int32.add_zero _
theorem own_mod5 (p : Int32) : (p &&& 2147483647) % 5 = 0 ∨ (p &&& 2147483647) % 5 = 1 ∨ (p &&& 2147483647) % 5 = 2 ∨ (p &&& 2147483647) % 5 = 3 ∨ (p &&& 2147483647) % 5 = 4 := by
  have h : (p &&& 2147483647).toBitVec.toNat < 2 ^ 31 := by
    simp only [Int32.toBitVec_and, BitVec.toNat_and]
    exact Nat.lt_succ_of_le Nat.and_le_right
  have e : (p &&& 2147483647) = Int32.ofNat (p &&& 2147483647).toBitVec.toNat := by
    apply Int32.toBitVec_inj.mp
    show _ = BitVec.ofNat 32 _
    rw [BitVec.ofNat_toNat]; simp
  rw [e]
  generalize (p &&& 2147483647).toBitVec.toNat = m at h
  have e2 : Int32.ofNat m % 5 = Int32.ofNat (m % 5) := by
    apply Int32.toInt_inj.mp
    rw [Int32.toInt_mod, Int32.toInt_ofNat_of_lt (by omega), Int32.toInt_ofNat_of_lt (by omega)]
    show (m : Int).tmod 5 = _
    rw [Int.tmod_eq_emod_of_nonneg (by omega)]
    omega
  rw [e2]
  obtain q | q | q | q | q : m % 5 = 0 ∨ m % 5 = 1 ∨ m % 5 = 2 ∨ m % 5 = 3 ∨ m % 5 = 4 := by omega
  all_goals rw [q]
  · exact Or.inl rfl
  · exact Or.inr (Or.inl rfl)
  · exact Or.inr (Or.inr (Or.inl rfl))
  · exact Or.inr (Or.inr (Or.inr (Or.inl rfl)))
  · exact Or.inr (Or.inr (Or.inr (Or.inr rfl)))
theorem d35_0 : Dec method_2_code 0 (.iload_n 0) 1 1 := ⟨by decide +kernel, rfl⟩
theorem d35_1 : Dec method_2_code 1 (.iconst 3) 1 2 := ⟨by decide +kernel, rfl⟩
theorem d35_2 : Dec method_2_code 2 (.iand) 1 3 := ⟨by decide +kernel, rfl⟩
theorem d35_3 : Brn method_2_code 3 (.ifCond .ne 8) 8 6 11 := ⟨by decide +kernel, rfl, by decide, by decide⟩
theorem d35_11 : Dec method_2_code 11 (.iload_n 0) 1 12 := ⟨by decide +kernel, rfl⟩
theorem d35_12 : Dec method_2_code 12 (.iconst 2) 1 13 := ⟨by decide +kernel, rfl⟩
theorem d35_13 : Dec method_2_code 13 (.iushr) 1 14 := ⟨by decide +kernel, rfl⟩
theorem d35_14 : Dec method_2_code 14 (.i2c) 1 15 := ⟨by decide +kernel, rfl⟩
theorem d35_15 : Dec method_2_code 15 (.ireturn) 1 16 := ⟨by decide +kernel, rfl⟩
theorem d35_6 : Dec method_2_code 6 (.bipush 32) 2 8 := ⟨by decide +kernel, rfl⟩
theorem d35_8 : Brn method_2_code 8 (.goto 7) 7 11 15 := ⟨by decide +kernel, rfl, by decide, by decide⟩
theorem pn6 : plainName "com/example/rackwire/rackwire/idoc/LayoutWithoutTrailingBlanksPinLaw" = true := by first | (simp [plainName, overriddenIn]; done) | decide +kernel
set_option maxRecDepth 65536 in
set_option maxHeartbeats 40000000 in
theorem c_ch (l : Launch) (Z : State) (a0 : Array Value) (hw : ∀ d ∈ tables_1, d.before a0 Z = true) (hEL : EW Z a0 own_EL) (x : Int32) (S : Addr → Prop) (h0 : Heap) :
    Con l Z own_EL [] (⟨"com/example/rackwire/rackwire/idoc/LayoutWithoutTrailingBlanksPinLaw", "ch", "(I)C"⟩ : MethodName) method_2_code 1 (some .char) ({ frames := 0, cells := 0, slots := 0, locals := 0 } : Room) #[.int x] S h0 (fun S' v h' => ∃ c, v = some (.int c) ∧ isCh c ∧ h0 = h') := by
  refine con_of_go (ls := #[.val (.int x)]) (plainFor_of_name pn6) hEL (fun m => by first | rfl | (simp [entryFrame, mkF, argsToLocals, cat_int, cat_ref, cat_null, cat_long]; done)) (fun K => ?_)
  show Go _ _ _ _ _ _ _ _ _ _ _ _ _ 0 0 _ _ _
  obtain ⟨c, ec, hc⟩ := own_ch (XT.ushr x (2 : Int32))
  refine go_iloadN d35_0 rfl ?_
  refine go_iconst (x := (3 : Int32)) d35_1 (by decide) ?_
  refine go_iand d35_2 rfl ?_
  refine go_ifne d35_3 (fun c1001 => ?_) (fun c1001 => ?_)
  · refine go_iloadN d35_11 rfl ?_
    refine go_iconst (x := (2 : Int32)) d35_12 (by decide) ?_
    refine go_iushr d35_13 rfl ?_
    refine go_i2c (v := c) d35_14 ec ?_
    exact go_ireturn (ty := .char) (v := c) d35_15 rfl (by simp) (congrArg Value.int (i2c_ch hc)) ⟨_, rfl, hc, rfl⟩
  · refine go_bipush (x := (32 : Int32)) d35_6 (by decide) ?_
    refine go_goto d35_8 ?_
    exact go_ireturn (ty := .char) (v := (32 : Int32)) d35_15 rfl (by simp) rfl ⟨_, rfl, rfl, rfl⟩
theorem d36_0 : Dec prog_20_method_13_code 0 (.aload_n 0) 1 1 := ⟨by decide +kernel, rfl⟩
theorem d36_1 : Dec prog_20_method_13_code 1 (.invokevirtual 123) 3 4 := ⟨by decide +kernel, rfl⟩
theorem d36_4 : Dec prog_20_method_13_code 4 (.istore_n 1) 1 5 := ⟨by decide +kernel, rfl⟩
theorem d36_5 : Dec prog_20_method_13_code 5 (.iload_n 1) 1 6 := ⟨by decide +kernel, rfl⟩
theorem d36_6 : Brn prog_20_method_13_code 6 (.ifCond .le 21) 21 9 27 := ⟨by decide +kernel, rfl, by decide, by decide⟩
theorem d36_27 : Dec prog_20_method_13_code 27 (.aload_n 0) 1 28 := ⟨by decide +kernel, rfl⟩
theorem d36_28 : Dec prog_20_method_13_code 28 (.iconst 0) 1 29 := ⟨by decide +kernel, rfl⟩
theorem d36_29 : Dec prog_20_method_13_code 29 (.iload_n 1) 1 30 := ⟨by decide +kernel, rfl⟩
theorem d36_30 : Dec prog_20_method_13_code 30 (.invokevirtual 154) 3 33 := ⟨by decide +kernel, rfl⟩
theorem pd24 : parseMethodDescriptor "(II)Ljava/lang/String;" = some ⟨[.int, .int], some (.object "java/lang/String")⟩ := by decide +kernel
theorem d36_33 : Dec prog_20_method_13_code 33 (.areturn) 1 34 := ⟨by decide +kernel, rfl⟩
theorem d36_9 : Dec prog_20_method_13_code 9 (.aload_n 0) 1 10 := ⟨by decide +kernel, rfl⟩
theorem d36_10 : Dec prog_20_method_13_code 10 (.iload_n 1) 1 11 := ⟨by decide +kernel, rfl⟩
theorem d36_11 : Dec prog_20_method_13_code 11 (.iconst 1) 1 12 := ⟨by decide +kernel, rfl⟩
theorem d36_12 : Dec prog_20_method_13_code 12 (.isub) 1 13 := ⟨by decide +kernel, rfl⟩
theorem d36_13 : Dec prog_20_method_13_code 13 (.invokevirtual 150) 3 16 := ⟨by decide +kernel, rfl⟩
theorem pd25 : parseMethodDescriptor "(I)C" = some ⟨[.int], some .char⟩ := by decide +kernel
theorem d36_16 : Dec prog_20_method_13_code 16 (.bipush 32) 2 18 := ⟨by decide +kernel, rfl⟩
theorem d36_18 : Brn prog_20_method_13_code 18 (.if_icmp .ne 9) 9 21 27 := ⟨by decide +kernel, rfl, by decide, by decide⟩
theorem d36_21 : Dec prog_20_method_13_code 21 (.iinc 1 (-1)) 3 24 := ⟨by decide +kernel, rfl⟩
theorem d36_24 : Brn prog_20_method_13_code 24 (.goto (-19)) (-19) 27 5 := ⟨by decide +kernel, rfl, by decide, by decide⟩
theorem pn7 : plainName "com/example/rackwire/rackwire/idoc/Layout" = true := by first | (simp [plainName, overriddenIn]; done) | decide +kernel
set_option maxRecDepth 65536 in
set_option maxHeartbeats 40000000 in
theorem c_wtb (l : Launch) (Z : State) (a0 : Array Value) (hw : ∀ d ∈ tables_1, d.before a0 Z = true) (hEL : EW Z a0 own_EL) (x : Addr) (cs : List Int32) (b : Addr) (k : Int32) (S : Addr → Prop) (h0 : Heap) (hz : Z.heap.size ≤ h0.size) (F : Str Z h0 x cs b k) (hec : cs.length ≤ 4) (zc : Int32) (Oc : Sta Z Z.heap "java/lang/String" "COMPACT_STRINGS" "Z" (.int zc)) (Pc : ¬ zc = 0) (sf : Value) (rsf : sf.isRef = true) (Os : Sta Z Z.heap "jdk/internal/util/Preconditions" "SIOOBE_FORMATTER" "Ljava/util/function/BiFunction;" sf) (Oa : Sta Z Z.heap "java/lang/StringUTF16" "$assertionsDisabled" "Z" (.int (1 : Int32))) (Oh : Sta Z Z.heap "java/lang/StringUTF16" "HI_BYTE_SHIFT" "I" (.int (0 : Int32))) (Ol : Sta Z Z.heap "java/lang/StringUTF16" "LO_BYTE_SHIFT" "I" (.int (8 : Int32))) :
    Con l Z own_EL [] (⟨"com/example/rackwire/rackwire/idoc/Layout", "withoutTrailingBlanks", "(Ljava/lang/String;)Ljava/lang/String;"⟩ : MethodName) prog_20_method_13_code 2 (some (.object "java/lang/String")) ({ frames := 7, cells := 3, slots := 16, locals := 113 } : Room) #[.ref x] S h0 (fun S' v h' => ∃ e y bb k, v = some (.ref y) ∧ own_cut cs e ∧ Keep h0 h' [] ∧ Str Z h' y (cs.take e) bb k) := by
  refine con_of_go (ls := #[.val (.ref x), .unset]) (plainFor_of_name pn7) hEL (fun m => by first | rfl | (simp [entryFrame, mkF, argsToLocals, cat_int, cat_ref, cat_null, cat_long]; done)) (fun K => ?_)
  show Go _ _ _ _ _ _ _ _ _ _ _ _ _ 3 16 _ _ _
  have lx := lt_nat F.lx
  have lb := lt_nat F.lb
  have hlen : cs.length < 2 ^ 29 := F.2.2.2.2.2.2
  refine go_aloadN d36_0 rfl rfl ?_
  refine go_virtual (R := ({ frames := 7, cells := 3, slots := 16, locals := 113 } : Room)) (kc := 3) (ks := 16) [] [] (c_len l Z a0 hw hEL x _ _ _ S h0 F zc Oc Pc) F.1 (hw _ (List.mem_of_getElem? (i := 27) rfl)) (hw _ (List.mem_of_getElem? (i := 28) rfl)) (hw _ (List.mem_of_getElem? (i := 30) rfl)) (hw _ (List.mem_of_getElem? (i := 29) rfl)) (nfSel (hw _ (List.mem_of_getElem? (i := 30) rfl))) (hw _ (List.mem_of_getElem? (i := 31) rfl)) (hw _ (List.mem_of_getElem? (i := 4) rfl)) (by decide) rfl rfl (lenOf pd21 rfl) d36_1 (by rfl) (by decide) (Nat.le_of_ble_eq_true rfl) (rc := 0) (rs := 0) rfl rfl (fun S1001 v1001 h1001 m1001 z1001 q1001 => ?_)
  obtain ⟨rfl, rfl⟩ := q1001
  show Go _ _ _ _ _ _ _ _ _ _ _ _ _ _ _ _ _ (mkF K.m 4 #[.val (.ref x), .unset] [.int (Int32.ofNat cs.length)])
  refine go_istoreN d36_4 (l' := #[.val (.ref x), .val (.int (Int32.ofNat cs.length))]) rfl ?_
  have loop : ∀ i, i ≤ cs.length → (∀ j c, i ≤ j → cs[j]? = some c → c = 32) → ∀ (S1 : Addr → Prop), Go l Z a0 own_EL ({ frames := 7, cells := 3, slots := 16, locals := 113 } : Room) "com/example/rackwire/rackwire/idoc/Layout" prog_20_method_13_code 2 (some (.object "java/lang/String")) "withoutTrailingBlanks" S (fun S' v h' => ∃ e y bb k, v = some (.ref y) ∧ own_cut cs e ∧ Keep h0 h' [] ∧ Str Z h' y (cs.take e) bb k) K 3 16 S1 h0 (mkF K.m 5 #[.val (.ref x), .val (.int (Int32.ofNat i))] []) := by
    intro i
    induction i with
    | zero =>
      intro hi hb S1
      refine go_iloadN d36_5 rfl ?_
      refine go_ifle d36_6 (fun c1002 => ?_) (fun c1002 => absurd c1002 (by decide))
      have hcut : own_cut cs 0 := ⟨by omega, hb, fun c q => absurd q (by omega)⟩
      have hpe : (∃ c ∈ cs, (255 : Int32) < c) → 0 < 0 := by
        rintro ⟨c, hc, hc2⟩
        rcases Nat.eq_zero_or_pos 0 with q | q
        · obtain ⟨j, hj, rfl⟩ := List.getElem_of_mem hc
          rw [hcut.2.1 j _ (by omega) (List.getElem?_eq_getElem hj)] at hc2
          exact absurd hc2 (by decide)
        · exact q
      refine go_aloadN d36_27 rfl rfl ?_
      refine go_iconst (x := (0 : Int32)) d36_28 (by decide) ?_
      refine go_iloadN d36_29 rfl ?_
      refine go_virtual (R := ({ frames := 7, cells := 3, slots := 16, locals := 113 } : Room)) (kc := 0) (ks := 0) [.int (0 : Int32), .int (Int32.ofNat 0)] [] (c_sub l Z a0 hw hEL x _ _ _ S1 h0 (by omega) F 0 hcut.1 hec hpe zc Oc Pc sf rsf Os Oa Oh Ol) F.1 (hw _ (List.mem_of_getElem? (i := 38) rfl)) (hw _ (List.mem_of_getElem? (i := 39) rfl)) (hw _ (List.mem_of_getElem? (i := 41) rfl)) (hw _ (List.mem_of_getElem? (i := 40) rfl)) (nfSel (hw _ (List.mem_of_getElem? (i := 41) rfl))) (hw _ (List.mem_of_getElem? (i := 42) rfl)) (hw _ (List.mem_of_getElem? (i := 4) rfl)) (by decide) rfl rfl (lenOf pd24 rfl) d36_30 (by rfl) (by decide) (Nat.le_of_ble_eq_true rfl) (rc := 3) (rs := 16) rfl rfl (fun S1003 v1003 h1003 m1003 z1003 q1003 => ?_)
      obtain ⟨y1003, b1003, k1003, rfl, K1003, T1003⟩ := q1003
      have lx1003 := lt_nat T1003.lx
      have lb1003 := lt_nat T1003.lb
      show Go _ _ _ _ _ _ _ _ _ _ _ _ _ _ _ _ _ (mkF K.m 33 #[.val (.ref x), .val (.int (Int32.ofNat 0))] [.ref y1003])
      exact go_areturn d36_33 rfl rfl rfl ⟨_, _, _, _, rfl, hcut, ((Keep.refl h0 []).trans K1003 all0), T1003⟩
    | succ i ih =>
      intro hi hb S1
      obtain ⟨c, hc⟩ : ∃ c, cs[i]? = some c := ⟨_, List.getElem?_eq_getElem (by omega)⟩
      refine go_iloadN d36_5 rfl ?_
      refine go_ifle d36_6 (fun c1004 => absurd (ofNat_lt (i := 0) (by omega) (by omega)) c1004) (fun c1004 => ?_)
      refine go_aloadN d36_9 rfl rfl ?_
      refine go_iloadN d36_10 rfl ?_
      refine go_iconst (x := (1 : Int32)) d36_11 (by decide) ?_
      refine go_isub (v := (Int32.ofNat i)) d36_12 own_dec ?_
      refine go_virtual (R := ({ frames := 7, cells := 3, slots := 16, locals := 113 } : Room)) (kc := 3) (ks := 16) [.int (Int32.ofNat i)] [] (c_chat l Z a0 hw hEL x _ _ _ S1 h0 F i c hc zc Oc Pc sf rsf Os Oa Oh Ol) F.1 (hw _ (List.mem_of_getElem? (i := 70) rfl)) (hw _ (List.mem_of_getElem? (i := 71) rfl)) (hw _ (List.mem_of_getElem? (i := 73) rfl)) (hw _ (List.mem_of_getElem? (i := 72) rfl)) (nfSel (hw _ (List.mem_of_getElem? (i := 73) rfl))) (hw _ (List.mem_of_getElem? (i := 74) rfl)) (hw _ (List.mem_of_getElem? (i := 4) rfl)) (by decide) rfl rfl (lenOf pd25 rfl) d36_13 (by rfl) (by decide) (Nat.le_of_ble_eq_true rfl) (rc := 0) (rs := 0) rfl rfl (fun S1005 v1005 h1005 m1005 z1005 q1005 => ?_)
      obtain ⟨rfl, rfl⟩ := q1005
      show Go _ _ _ _ _ _ _ _ _ _ _ _ _ _ _ _ _ (mkF K.m 16 #[.val (.ref x), .val (.int (Int32.ofNat (i + 1)))] [.int c])
      refine go_bipush (x := (32 : Int32)) d36_16 (by decide) ?_
      refine go_icmpne d36_18 (fun c18 => ?_) (fun c18 => ?_)
      · have hcut : own_cut cs (i + 1) := ⟨hi, hb, fun d _ hd => by rw [show i + 1 - 1 = i by omega, hc] at hd; cases hd; exact c18⟩
        have hpe : (∃ c ∈ cs, (255 : Int32) < c) → 0 < (i + 1) := by
          rintro ⟨c, hc, hc2⟩
          rcases Nat.eq_zero_or_pos (i + 1) with q | q
          · obtain ⟨j, hj, rfl⟩ := List.getElem_of_mem hc
            rw [hcut.2.1 j _ (by omega) (List.getElem?_eq_getElem hj)] at hc2
            exact absurd hc2 (by decide)
          · exact q
        refine go_aloadN d36_27 rfl rfl ?_
        refine go_iconst (x := (0 : Int32)) d36_28 (by decide) ?_
        refine go_iloadN d36_29 rfl ?_
        refine go_virtual (R := ({ frames := 7, cells := 3, slots := 16, locals := 113 } : Room)) (kc := 0) (ks := 0) [.int (0 : Int32), .int (Int32.ofNat (i + 1))] [] (c_sub l Z a0 hw hEL x _ _ _ S1005 h0 (by omega) F (i + 1) hcut.1 hec hpe zc Oc Pc sf rsf Os Oa Oh Ol) F.1 (hw _ (List.mem_of_getElem? (i := 38) rfl)) (hw _ (List.mem_of_getElem? (i := 39) rfl)) (hw _ (List.mem_of_getElem? (i := 41) rfl)) (hw _ (List.mem_of_getElem? (i := 40) rfl)) (nfSel (hw _ (List.mem_of_getElem? (i := 41) rfl))) (hw _ (List.mem_of_getElem? (i := 42) rfl)) (hw _ (List.mem_of_getElem? (i := 4) rfl)) (by decide) rfl rfl (lenOf pd24 rfl) d36_30 (by rfl) (by decide) (Nat.le_of_ble_eq_true rfl) (rc := 3) (rs := 16) rfl rfl (fun S1006 v1006 h1006 m1006 z1006 q1006 => ?_)
        obtain ⟨y1006, b1006, k1006, rfl, K1006, T1006⟩ := q1006
        have lx1006 := lt_nat T1006.lx
        have lb1006 := lt_nat T1006.lb
        show Go _ _ _ _ _ _ _ _ _ _ _ _ _ _ _ _ _ (mkF K.m 33 #[.val (.ref x), .val (.int (Int32.ofNat (i + 1)))] [.ref y1006])
        exact go_areturn d36_33 rfl rfl rfl ⟨_, _, _, _, rfl, hcut, ((Keep.refl h0 []).trans K1006 all0), T1006⟩
      · refine go_iinc d36_21 rfl (v := (Int32.ofNat i)) own_dec2 (l' := #[.val (.ref x), .val (.int (Int32.ofNat i))]) rfl ?_
        refine go_goto d36_24 ?_
        refine ih (by omega) (fun j d hj hd => ?_) S1005
        rcases Nat.eq_or_lt_of_le hj with q | q
        · subst q; rw [hc] at hd; cases hd; exact c18
        · exact hb j d (by omega) hd
  exact loop cs.length (by omega) (fun j c hj hc => absurd (List.getElem?_eq_some_iff.mp hc).1 (by omega)) S1001
theorem d37_0 : Dec method_3_code 0 (.iload_n 3) 1 1 := ⟨by decide +kernel, rfl⟩
theorem d37_1 : Dec method_3_code 1 (.iload_n 2) 1 2 := ⟨by decide +kernel, rfl⟩
theorem d37_2 : Brn method_3_code 2 (.if_icmp .lt 5) 5 5 7 := ⟨by decide +kernel, rfl, by decide, by decide⟩
theorem d37_7 : Dec method_3_code 7 (.iload_n 3) 1 8 := ⟨by decide +kernel, rfl⟩
theorem d37_8 : Dec method_3_code 8 (.aload_n 0) 1 9 := ⟨by decide +kernel, rfl⟩
theorem d37_9 : Dec method_3_code 9 (.invokevirtual 7) 3 12 := ⟨by decide +kernel, rfl⟩
theorem d37_12 : Brn method_3_code 12 (.if_icmp .ge 20) 20 15 32 := ⟨by decide +kernel, rfl, by decide, by decide⟩
theorem d37_32 : Dec method_3_code 32 (.aload_n 1) 1 33 := ⟨by decide +kernel, rfl⟩
theorem d37_33 : Dec method_3_code 33 (.iload_n 3) 1 34 := ⟨by decide +kernel, rfl⟩
theorem d37_34 : Dec method_3_code 34 (.caload) 1 35 := ⟨by decide +kernel, rfl⟩
theorem d37_35 : Dec method_3_code 35 (.bipush 32) 2 37 := ⟨by decide +kernel, rfl⟩
theorem d37_37 : Brn method_3_code 37 (.if_icmp .ne 7) 7 40 44 := ⟨by decide +kernel, rfl, by decide, by decide⟩
theorem d37_40 : Dec method_3_code 40 (.iconst 1) 1 41 := ⟨by decide +kernel, rfl⟩
theorem d37_41 : Brn method_3_code 41 (.goto 4) 4 44 45 := ⟨by decide +kernel, rfl, by decide, by decide⟩
theorem d37_45 : Dec method_3_code 45 (.ireturn) 1 46 := ⟨by decide +kernel, rfl⟩
theorem d37_15 : Dec method_3_code 15 (.aload_n 0) 1 16 := ⟨by decide +kernel, rfl⟩
theorem d37_16 : Dec method_3_code 16 (.iload_n 3) 1 17 := ⟨by decide +kernel, rfl⟩
theorem d37_17 : Dec method_3_code 17 (.invokevirtual 13) 3 20 := ⟨by decide +kernel, rfl⟩
theorem d37_20 : Dec method_3_code 20 (.aload_n 1) 1 21 := ⟨by decide +kernel, rfl⟩
theorem d37_21 : Dec method_3_code 21 (.iload_n 3) 1 22 := ⟨by decide +kernel, rfl⟩
theorem d37_22 : Dec method_3_code 22 (.caload) 1 23 := ⟨by decide +kernel, rfl⟩
theorem d37_23 : Brn method_3_code 23 (.if_icmp .ne 7) 7 26 30 := ⟨by decide +kernel, rfl, by decide, by decide⟩
theorem d37_26 : Dec method_3_code 26 (.iconst 1) 1 27 := ⟨by decide +kernel, rfl⟩
theorem d37_27 : Brn method_3_code 27 (.goto 4) 4 30 31 := ⟨by decide +kernel, rfl, by decide, by decide⟩
theorem d37_31 : Dec method_3_code 31 (.ireturn) 1 32 := ⟨by decide +kernel, rfl⟩
theorem d37_5 : Dec method_3_code 5 (.iconst 1) 1 6 := ⟨by decide +kernel, rfl⟩
theorem d37_6 : Dec method_3_code 6 (.ireturn) 1 7 := ⟨by decide +kernel, rfl⟩
set_option maxRecDepth 65536 in
set_option maxHeartbeats 40000000 in
theorem c_at (l : Launch) (Z : State) (a0 : Array Value) (hw : ∀ d ∈ tables_1, d.before a0 Z = true) (hEL : EW Z a0 own_EL) (r s : Addr) (cs : List Int32) (e i : Nat) (hi : i < 2 ^ 31) (b : Addr) (k : Int32) (S : Addr → Prop) (h0 : Heap) (F : Str Z h0 r (cs.take e) b k) (A : AI Z h0 s .char cs) (hu : own_cut cs e) (zc : Int32) (Oc : Sta Z Z.heap "java/lang/String" "COMPACT_STRINGS" "Z" (.int zc)) (Pc : ¬ zc = 0) (sf : Value) (rsf : sf.isRef = true) (Os : Sta Z Z.heap "jdk/internal/util/Preconditions" "SIOOBE_FORMATTER" "Ljava/util/function/BiFunction;" sf) (Oa : Sta Z Z.heap "java/lang/StringUTF16" "$assertionsDisabled" "Z" (.int (1 : Int32))) (Oh : Sta Z Z.heap "java/lang/StringUTF16" "HI_BYTE_SHIFT" "I" (.int (0 : Int32))) (Ol : Sta Z Z.heap "java/lang/StringUTF16" "LO_BYTE_SHIFT" "I" (.int (8 : Int32))) :
    Con l Z own_EL [] (⟨"com/example/rackwire/rackwire/idoc/LayoutWithoutTrailingBlanksPinLaw", "at", "(Ljava/lang/String;[CII)Z"⟩ : MethodName) method_3_code 4 (some .boolean) ({ frames := 5, cells := 0, slots := 0, locals := 66 } : Room) #[.ref r, .ref s, .int (Int32.ofNat cs.length), .int (Int32.ofNat i)] S h0 (fun S' v h' => v = some (.int (1 : Int32)) ∧ h0 = h') := by
  refine con_of_go (ls := #[.val (.ref r), .val (.ref s), .val (.int (Int32.ofNat cs.length)), .val (.int (Int32.ofNat i))]) (plainFor_of_name pn6) hEL (fun m => by first | rfl | (simp [entryFrame, mkF, argsToLocals, cat_int, cat_ref, cat_null, cat_long]; done)) (fun K => ?_)
  show Go _ _ _ _ _ _ _ _ _ _ _ _ _ 0 0 _ _ _
  have hl : cs.length < 2 ^ 31 := A.len
  have hu1 := hu.1
  have hel : (cs.take e).length = e := by simp; have := hu.1; omega
  refine go_iloadN d37_0 rfl ?_
  refine go_iloadN d37_1 rfl ?_
  refine go_icmplt d37_2 (fun c2 => ?_) (fun c2 => ?_)
  · have hin : i < cs.length := (ofNat_lt_iff (by omega) (by omega)).mp c2
    obtain ⟨c, hc⟩ : ∃ c, cs[i]? = some c := ⟨_, List.getElem?_eq_getElem hin⟩
    refine go_iloadN d37_7 rfl ?_
    refine go_aloadN d37_8 rfl rfl ?_
    refine go_virtual (R := ({ frames := 5, cells := 0, slots := 0, locals := 66 } : Room)) (kc := 0) (ks := 0) [] [.int (Int32.ofNat i)] (c_len l Z a0 hw hEL r _ _ _ S h0 F zc Oc Pc) F.1 (hw _ (List.mem_of_getElem? (i := 52) rfl)) (hw _ (List.mem_of_getElem? (i := 28) rfl)) (hw _ (List.mem_of_getElem? (i := 30) rfl)) (hw _ (List.mem_of_getElem? (i := 29) rfl)) (nfSel (hw _ (List.mem_of_getElem? (i := 30) rfl))) (hw _ (List.mem_of_getElem? (i := 31) rfl)) (hw _ (List.mem_of_getElem? (i := 4) rfl)) (by decide) rfl rfl (lenOf pd21 rfl) d37_9 (by rfl) (by decide) (Nat.le_of_ble_eq_true rfl) (rc := 0) (rs := 0) rfl rfl (fun S1001 v1001 h1001 m1001 z1001 q1001 => ?_)
    obtain ⟨rfl, rfl⟩ := q1001
    show Go _ _ _ _ _ _ _ _ _ _ _ _ _ _ _ _ _ (mkF K.m 12 #[.val (.ref r), .val (.ref s), .val (.int (Int32.ofNat cs.length)), .val (.int (Int32.ofNat i))] [.int (Int32.ofNat (cs.take e).length), .int (Int32.ofNat i)])
    refine go_icmpge d37_12 (fun c12 => ?_) (fun c12 => ?_)
    · have hie : e ≤ i := by rcases Nat.lt_or_ge i e with q | q; exact absurd (by rw [hel]; exact ofNat_lt q (by omega)) c12; exact q
      refine go_aloadN d37_32 rfl rfl ?_
      refine go_iloadN d37_33 rfl ?_
      refine go_caload (x := c) A (i := i) rfl hc d37_34 ?_
      refine go_bipush (x := (32 : Int32)) d37_35 (by decide) ?_
      refine go_icmpne d37_37 (fun c1002 => absurd (hu.2.1 i c hie hc) c1002) (fun c1002 => ?_)
      refine go_iconst (x := (1 : Int32)) d37_40 (by decide) ?_
      refine go_goto d37_41 ?_
      exact go_ireturn (ty := .boolean) (v := (1 : Int32)) d37_45 rfl (by simp) rfl ⟨rfl, rfl⟩
    · have hie : i < e := by rcases Nat.lt_or_ge i e with q | q; exact q; exact absurd c12 (by rw [hel]; exact ofNat_nlt q (by omega))
      have hce : (cs.take e)[i]? = some c := by rw [List.getElem?_take_of_lt hie]; exact hc
      refine go_aloadN d37_15 rfl rfl ?_
      refine go_iloadN d37_16 rfl ?_
      refine go_virtual (R := ({ frames := 5, cells := 0, slots := 0, locals := 66 } : Room)) (kc := 0) (ks := 0) [.int (Int32.ofNat i)] [] (c_chat l Z a0 hw hEL r _ _ _ S1001 h0 F i c hce zc Oc Pc sf rsf Os Oa Oh Ol) F.1 (hw _ (List.mem_of_getElem? (i := 90) rfl)) (hw _ (List.mem_of_getElem? (i := 71) rfl)) (hw _ (List.mem_of_getElem? (i := 73) rfl)) (hw _ (List.mem_of_getElem? (i := 72) rfl)) (nfSel (hw _ (List.mem_of_getElem? (i := 73) rfl))) (hw _ (List.mem_of_getElem? (i := 74) rfl)) (hw _ (List.mem_of_getElem? (i := 4) rfl)) (by decide) rfl rfl (lenOf pd25 rfl) d37_17 (by rfl) (by decide) (Nat.le_of_ble_eq_true rfl) (rc := 0) (rs := 0) rfl rfl (fun S1003 v1003 h1003 m1003 z1003 q1003 => ?_)
      obtain ⟨rfl, rfl⟩ := q1003
      show Go _ _ _ _ _ _ _ _ _ _ _ _ _ _ _ _ _ (mkF K.m 20 #[.val (.ref r), .val (.ref s), .val (.int (Int32.ofNat cs.length)), .val (.int (Int32.ofNat i))] [.int c])
      refine go_aloadN d37_20 rfl rfl ?_
      refine go_iloadN d37_21 rfl ?_
      refine go_caload (x := c) A (i := i) rfl hc d37_22 ?_
      refine go_icmpne d37_23 (fun c1004 => absurd (rfl) c1004) (fun c1004 => ?_)
      refine go_iconst (x := (1 : Int32)) d37_26 (by decide) ?_
      refine go_goto d37_27 ?_
      exact go_ireturn (ty := .boolean) (v := (1 : Int32)) d37_31 rfl (by simp) rfl ⟨rfl, rfl⟩
  · refine go_iconst (x := (1 : Int32)) d37_5 (by decide) ?_
    exact go_ireturn (ty := .boolean) (v := (1 : Int32)) d37_6 rfl (by simp) rfl ⟨rfl, rfl⟩
theorem own_len {cs : List Int32} {e : Nat} (h : own_cut cs e) (hl : cs.length < 2 ^ 31 := by simp) : ¬ Int32.ofNat cs.length < Int32.ofNat (cs.take e).length := by
  have := h.1
  exact ofNat_nlt (by simp; omega) hl
theorem own_pos {cs : List Int32} {e : Nat} (h : 0 < Int32.ofNat (cs.take e).length) : 0 < e := by
  rcases Nat.eq_zero_or_pos e with q | q
  · subst q; exact absurd h (by simp)
  · exact q
theorem own_last {cs : List Int32} {e : Nat} (h : own_cut cs e) (he : 0 < e) : ∃ d, (cs.take e)[e - 1]? = some d ∧ ¬ d = 32 := by
  have h1 := h.1
  obtain ⟨d, hd⟩ : ∃ d, cs[e - 1]? = some d := ⟨_, List.getElem?_eq_getElem (by omega)⟩
  exact ⟨d, by rw [List.getElem?_take_of_lt (by omega)]; exact hd, h.2.2 d he hd⟩
theorem own_lenm {cs : List Int32} {e : Nat} (h : own_cut cs e) (he : 0 < e) : Int32.ofNat (cs.take e).length - 1 = Int32.ofNat (e - 1) := by
  have h1 := h.1
  obtain ⟨i, rfl⟩ : ∃ i, e = i + 1 := ⟨e - 1, by omega⟩
  have : (cs.take (i + 1)).length = i + 1 := by simp; omega
  rw [this]; exact own_dec
theorem d38_0 : Dec code 0 (.iload_n 0) 1 1 := ⟨by decide +kernel, rfl⟩
theorem d38_1 : Dec code 1 (.ldc 17) 2 3 := ⟨by decide +kernel, rfl⟩
theorem d38_3 : Dec code 3 (.iand) 1 4 := ⟨by decide +kernel, rfl⟩
theorem d38_4 : Dec code 4 (.iconst 5) 1 5 := ⟨by decide +kernel, rfl⟩
theorem d38_5 : Dec code 5 (.irem) 1 6 := ⟨by decide +kernel, rfl⟩
theorem d38_6 : Dec code 6 (.istore 5) 2 8 := ⟨by decide +kernel, rfl⟩
theorem d38_8 : Dec code 8 (.iload 5) 2 10 := ⟨by decide +kernel, rfl⟩
theorem d38_10 : Dec code 10 (.newarray .char) 2 12 := ⟨by decide +kernel, rfl⟩
theorem d38_12 : Dec code 12 (.astore 6) 2 14 := ⟨by decide +kernel, rfl⟩
theorem d38_14 : Dec code 14 (.iload 5) 2 16 := ⟨by decide +kernel, rfl⟩
theorem d38_16 : Brn code 16 (.ifCond .le 11) 11 19 27 := ⟨by decide +kernel, rfl, by decide, by decide⟩
theorem d38_27 : Dec code 27 (.iload 5) 2 29 := ⟨by decide +kernel, rfl⟩
theorem d38_29 : Dec code 29 (.iconst 1) 1 30 := ⟨by decide +kernel, rfl⟩
theorem d38_30 : Brn code 30 (.if_icmp .le 11) 11 33 41 := ⟨by decide +kernel, rfl, by decide, by decide⟩
theorem d38_41 : Dec code 41 (.iload 5) 2 43 := ⟨by decide +kernel, rfl⟩
theorem d38_43 : Dec code 43 (.iconst 2) 1 44 := ⟨by decide +kernel, rfl⟩
theorem d38_44 : Brn code 44 (.if_icmp .le 11) 11 47 55 := ⟨by decide +kernel, rfl, by decide, by decide⟩
theorem d38_55 : Dec code 55 (.iload 5) 2 57 := ⟨by decide +kernel, rfl⟩
theorem d38_57 : Dec code 57 (.iconst 3) 1 58 := ⟨by decide +kernel, rfl⟩
theorem d38_58 : Brn code 58 (.if_icmp .le 12) 12 61 70 := ⟨by decide +kernel, rfl, by decide, by decide⟩
theorem d38_70 : Dec code 70 (.new 8) 3 73 := ⟨by decide +kernel, rfl⟩
theorem d38_73 : Dec code 73 (.dup) 1 74 := ⟨by decide +kernel, rfl⟩
theorem d38_74 : Dec code 74 (.aload 6) 2 76 := ⟨by decide +kernel, rfl⟩
theorem d38_76 : Dec code 76 (.invokespecial 23) 3 79 := ⟨by decide +kernel, rfl⟩
theorem pd26 : parseMethodDescriptor "([C)V" = some ⟨[(.array .char)], none⟩ := by decide +kernel
theorem d38_79 : Dec code 79 (.astore 7) 2 81 := ⟨by decide +kernel, rfl⟩
theorem d38_81 : Dec code 81 (.aload 7) 2 83 := ⟨by decide +kernel, rfl⟩
theorem d38_83 : Dec code 83 (.invokestatic 26) 3 86 := ⟨by decide +kernel, rfl⟩
theorem pd27 : parseMethodDescriptor "(Ljava/lang/String;)Ljava/lang/String;" = some ⟨[(.object "java/lang/String")], some (.object "java/lang/String")⟩ := by decide +kernel
theorem d38_86 : Dec code 86 (.astore 8) 2 88 := ⟨by decide +kernel, rfl⟩
theorem d38_88 : Dec code 88 (.aload 8) 2 90 := ⟨by decide +kernel, rfl⟩
theorem d38_90 : Brn code 90 (.ifnonnull 5) 5 93 95 := ⟨by decide +kernel, rfl, by decide, by decide⟩
theorem d38_95 : Dec code 95 (.aload 8) 2 97 := ⟨by decide +kernel, rfl⟩
theorem d38_97 : Dec code 97 (.invokevirtual 7) 3 100 := ⟨by decide +kernel, rfl⟩
theorem d38_100 : Dec code 100 (.istore 9) 2 102 := ⟨by decide +kernel, rfl⟩
theorem d38_102 : Dec code 102 (.iload 9) 2 104 := ⟨by decide +kernel, rfl⟩
theorem d38_104 : Dec code 104 (.iload 5) 2 106 := ⟨by decide +kernel, rfl⟩
theorem d38_106 : Brn code 106 (.if_icmp .le 5) 5 109 111 := ⟨by decide +kernel, rfl, by decide, by decide⟩
theorem d38_111 : Dec code 111 (.iload 9) 2 113 := ⟨by decide +kernel, rfl⟩
theorem d38_113 : Brn code 113 (.ifCond .le 19) 19 116 132 := ⟨by decide +kernel, rfl, by decide, by decide⟩
theorem d38_132 : Dec code 132 (.aload 8) 2 134 := ⟨by decide +kernel, rfl⟩
theorem d38_134 : Dec code 134 (.aload 6) 2 136 := ⟨by decide +kernel, rfl⟩
theorem d38_136 : Dec code 136 (.iload 5) 2 138 := ⟨by decide +kernel, rfl⟩
theorem d38_138 : Dec code 138 (.iconst 0) 1 139 := ⟨by decide +kernel, rfl⟩
theorem d38_139 : Dec code 139 (.invokestatic 32) 3 142 := ⟨by decide +kernel, rfl⟩
theorem pd28 : parseMethodDescriptor "(Ljava/lang/String;[CII)Z" = some ⟨[(.object "java/lang/String"), (.array .char), .int, .int], some .boolean⟩ := by decide +kernel
theorem d38_142 : Brn code 142 (.ifCond .eq 46) 46 145 188 := ⟨by decide +kernel, rfl, by decide, by decide⟩
theorem d38_145 : Dec code 145 (.aload 8) 2 147 := ⟨by decide +kernel, rfl⟩
theorem d38_147 : Dec code 147 (.aload 6) 2 149 := ⟨by decide +kernel, rfl⟩
theorem d38_149 : Dec code 149 (.iload 5) 2 151 := ⟨by decide +kernel, rfl⟩
theorem d38_151 : Dec code 151 (.iconst 1) 1 152 := ⟨by decide +kernel, rfl⟩
theorem d38_152 : Dec code 152 (.invokestatic 32) 3 155 := ⟨by decide +kernel, rfl⟩
theorem d38_155 : Brn code 155 (.ifCond .eq 33) 33 158 188 := ⟨by decide +kernel, rfl, by decide, by decide⟩
theorem d38_158 : Dec code 158 (.aload 8) 2 160 := ⟨by decide +kernel, rfl⟩
theorem d38_160 : Dec code 160 (.aload 6) 2 162 := ⟨by decide +kernel, rfl⟩
theorem d38_162 : Dec code 162 (.iload 5) 2 164 := ⟨by decide +kernel, rfl⟩
theorem d38_164 : Dec code 164 (.iconst 2) 1 165 := ⟨by decide +kernel, rfl⟩
theorem d38_165 : Dec code 165 (.invokestatic 32) 3 168 := ⟨by decide +kernel, rfl⟩
theorem d38_168 : Brn code 168 (.ifCond .eq 20) 20 171 188 := ⟨by decide +kernel, rfl, by decide, by decide⟩
theorem d38_171 : Dec code 171 (.aload 8) 2 173 := ⟨by decide +kernel, rfl⟩
theorem d38_173 : Dec code 173 (.aload 6) 2 175 := ⟨by decide +kernel, rfl⟩
theorem d38_175 : Dec code 175 (.iload 5) 2 177 := ⟨by decide +kernel, rfl⟩
theorem d38_177 : Dec code 177 (.iconst 3) 1 178 := ⟨by decide +kernel, rfl⟩
theorem d38_178 : Dec code 178 (.invokestatic 32) 3 181 := ⟨by decide +kernel, rfl⟩
theorem d38_181 : Brn code 181 (.ifCond .eq 7) 7 184 188 := ⟨by decide +kernel, rfl, by decide, by decide⟩
theorem d38_184 : Dec code 184 (.iconst 1) 1 185 := ⟨by decide +kernel, rfl⟩
theorem d38_185 : Brn code 185 (.goto 4) 4 188 189 := ⟨by decide +kernel, rfl, by decide, by decide⟩
theorem d38_189 : Dec code 189 (.ireturn) 1 190 := ⟨by decide +kernel, rfl⟩
theorem d38_116 : Dec code 116 (.aload 8) 2 118 := ⟨by decide +kernel, rfl⟩
theorem d38_118 : Dec code 118 (.iload 9) 2 120 := ⟨by decide +kernel, rfl⟩
theorem d38_120 : Dec code 120 (.iconst 1) 1 121 := ⟨by decide +kernel, rfl⟩
theorem d38_121 : Dec code 121 (.isub) 1 122 := ⟨by decide +kernel, rfl⟩
theorem d38_122 : Dec code 122 (.invokevirtual 13) 3 125 := ⟨by decide +kernel, rfl⟩
theorem d38_125 : Dec code 125 (.bipush 32) 2 127 := ⟨by decide +kernel, rfl⟩
theorem d38_127 : Brn code 127 (.if_icmp .ne 5) 5 130 132 := ⟨by decide +kernel, rfl, by decide, by decide⟩
theorem d38_19 : Dec code 19 (.aload 6) 2 21 := ⟨by decide +kernel, rfl⟩
theorem d38_21 : Dec code 21 (.iconst 0) 1 22 := ⟨by decide +kernel, rfl⟩
theorem d38_22 : Dec code 22 (.iload_n 1) 1 23 := ⟨by decide +kernel, rfl⟩
theorem d38_23 : Dec code 23 (.invokestatic 18) 3 26 := ⟨by decide +kernel, rfl⟩
theorem d38_26 : Dec code 26 (.castore) 1 27 := ⟨by decide +kernel, rfl⟩
theorem d38_33 : Dec code 33 (.aload 6) 2 35 := ⟨by decide +kernel, rfl⟩
theorem d38_35 : Dec code 35 (.iconst 1) 1 36 := ⟨by decide +kernel, rfl⟩
theorem d38_36 : Dec code 36 (.iload_n 2) 1 37 := ⟨by decide +kernel, rfl⟩
theorem d38_37 : Dec code 37 (.invokestatic 18) 3 40 := ⟨by decide +kernel, rfl⟩
theorem d38_40 : Dec code 40 (.castore) 1 41 := ⟨by decide +kernel, rfl⟩
theorem d38_47 : Dec code 47 (.aload 6) 2 49 := ⟨by decide +kernel, rfl⟩
theorem d38_49 : Dec code 49 (.iconst 2) 1 50 := ⟨by decide +kernel, rfl⟩
theorem d38_50 : Dec code 50 (.iload_n 3) 1 51 := ⟨by decide +kernel, rfl⟩
theorem d38_51 : Dec code 51 (.invokestatic 18) 3 54 := ⟨by decide +kernel, rfl⟩
theorem d38_54 : Dec code 54 (.castore) 1 55 := ⟨by decide +kernel, rfl⟩
theorem d38_61 : Dec code 61 (.aload 6) 2 63 := ⟨by decide +kernel, rfl⟩
theorem d38_63 : Dec code 63 (.iconst 3) 1 64 := ⟨by decide +kernel, rfl⟩
theorem d38_64 : Dec code 64 (.iload 4) 2 66 := ⟨by decide +kernel, rfl⟩
theorem d38_66 : Dec code 66 (.invokestatic 18) 3 69 := ⟨by decide +kernel, rfl⟩
theorem d38_69 : Dec code 69 (.castore) 1 70 := ⟨by decide +kernel, rfl⟩
set_option maxRecDepth 65536 in
set_option maxHeartbeats 40000000 in
theorem c_law (l : Launch) (Z : State) (a0 : Array Value) (hw : ∀ d ∈ tables_1, d.before a0 Z = true) (hEL : EW Z a0 own_EL) (p0 p1 p2 p3 p4 : Int32) (zc : Int32) (Oc : Sta Z Z.heap "java/lang/String" "COMPACT_STRINGS" "Z" (.int zc)) (Pc : ¬ zc = 0) (sf : Value) (rsf : sf.isRef = true) (Os : Sta Z Z.heap "jdk/internal/util/Preconditions" "SIOOBE_FORMATTER" "Ljava/util/function/BiFunction;" sf) (Oa : Sta Z Z.heap "java/lang/StringUTF16" "$assertionsDisabled" "Z" (.int (1 : Int32))) (Oh : Sta Z Z.heap "java/lang/StringUTF16" "HI_BYTE_SHIFT" "I" (.int (0 : Int32))) (Ol : Sta Z Z.heap "java/lang/StringUTF16" "LO_BYTE_SHIFT" "I" (.int (8 : Int32))) :
    Con l Z own_EL tables_1 x code maxLocals ret room_1 #[.int p0, .int p1, .int p2, .int p3, .int p4] (fun _ => False) Z.heap (fun S' v h' => v = some (.int (1 : Int32))) := by
  refine con_of_go (ls := #[.val (.int p0), .val (.int p1), .val (.int p2), .val (.int p3), .val (.int p4), .unset, .unset, .unset, .unset, .unset]) (plainFor_of_name pn6) hEL (fun m => by first | rfl | (simp [entryFrame, mkF, argsToLocals, cat_int, cat_ref, cat_null, cat_long, maxLocals]; done)) (fun K => ?_)
  show Go _ _ _ _ _ _ _ _ _ _ _ _ _ 32 2240 _ _ _
  refine go_iloadN d38_0 rfl ?_
  refine go_ldcI (v := (2147483647 : Int32)) (hw _ (List.mem_of_getElem? (i := 0) rfl)) d38_1 ?_
  refine go_iand d38_3 rfl ?_
  refine go_iconst (x := (5 : Int32)) d38_4 (by decide) ?_
  rcases own_mod5 p0 with hn | hn | hn | hn | hn
  · refine go_irem (v := (0 : Int32)) d38_5 (by decide) hn ?_
    refine go_istore d38_6 (l' := #[.val (.int p0), .val (.int p1), .val (.int p2), .val (.int p3), .val (.int p4), .val (.int (0 : Int32)), .unset, .unset, .unset, .unset]) rfl ?_
    refine go_iload d38_8 rfl ?_
    refine go_newarr (kc := 31) (ks := 2240) (N := 0) (cap := 0) (hw _ (List.mem_of_getElem? (i := 1) rfl)) rfl (Nat.le_refl _) (by decide) rfl rfl d38_10 (fun S1001 h1001 a1001 e1001 m1001 s1001 x1001 l1001 A1001 => ?_)
    have z1001 := x1001.1
    have A1001 : AI Z h1001 a1001 .char (List.replicate 0 0) := A1001
    refine go_astore d38_12 rfl (l' := #[.val (.int p0), .val (.int p1), .val (.int p2), .val (.int p3), .val (.int p4), .val (.int (0 : Int32)), .val (.ref a1001), .unset, .unset, .unset]) rfl ?_
    refine go_iload d38_14 rfl ?_
    refine go_ifle d38_16 (fun c1002 => ?_) (fun c1002 => absurd c1002 (by decide))
    refine go_iload d38_27 rfl ?_
    refine go_iconst (x := (1 : Int32)) d38_29 (by decide) ?_
    refine go_icmple d38_30 (fun c1003 => ?_) (fun c1003 => absurd c1003 (by decide))
    refine go_iload d38_41 rfl ?_
    refine go_iconst (x := (2 : Int32)) d38_43 (by decide) ?_
    refine go_icmple d38_44 (fun c1004 => ?_) (fun c1004 => absurd c1004 (by decide))
    refine go_iload d38_55 rfl ?_
    refine go_iconst (x := (3 : Int32)) d38_57 (by decide) ?_
    refine go_icmple d38_58 (fun c1005 => ?_) (fun c1005 => absurd c1005 (by decide))
    refine go_new (kc := 30) (ks := 2236) (hw _ (List.mem_of_getElem? (i := 2) rfl)) (hw _ (List.mem_of_getElem? (i := 3) rfl)) (hw _ (List.mem_of_getElem? (i := 4) rfl)) d38_70 (fun S1006 h1006 a1006 e1006 m1006 s1006 x1006 l1006 p1006 => ?_)
    have z1006 := x1006.1
    refine go_dup d38_73 rfl ?_
    refine go_aload d38_74 rfl rfl ?_
    have f1007 := (A1001.ext x1006)
    refine go_special (R := room_1) (kc := 26) (ks := 2224) [.ref a1001] [.ref a1006] (c_ini1U l Z a0 hw hEL a1001 [] S1006 h1006 (by omega) a1006 p1006.1 _ _ (p1006.2 (Or.inr (hw _ (List.mem_of_getElem? (i := 17) rfl))) (ty := (.array .byte)) (by decide)) (p1006.2 (Or.inr (hw _ (List.mem_of_getElem? (i := 18) rfl))) (ty := .byte) (by decide)) (by omega) s1006 f1007 (by simp) zc Oc Pc Oa Oh Ol) (hw _ (List.mem_of_getElem? (i := 5) rfl)) (hw _ (List.mem_of_getElem? (i := 6) rfl)) (hw _ (List.mem_of_getElem? (i := 7) rfl)) (hw _ (List.mem_of_getElem? (i := 4) rfl)) rfl (by decide) rfl rfl (lenOf pd26 rfl) d38_76 (by rfl) (by decide) (Nat.le_of_ble_eq_true rfl) (rc := 4) (rs := 12) rfl rfl (fun S1008 v1008 h1008 m1008 z1008 q1008 => ?_)
    obtain ⟨rfl, K1008, b1008, k1008, T1008, g1008, n1008⟩ := q1008
    have lb1008 := lt_nat T1008.lb
    have lx1008 := lt_nat T1008.lx
    show Go _ _ _ _ _ _ _ _ _ _ _ _ _ _ _ _ _ (mkF K.m 79 #[.val (.int p0), .val (.int p1), .val (.int p2), .val (.int p3), .val (.int p4), .val (.int (0 : Int32)), .val (.ref a1001), .unset, .unset, .unset] [.ref a1006])
    refine go_astore d38_79 rfl (l' := #[.val (.int p0), .val (.int p1), .val (.int p2), .val (.int p3), .val (.int p4), .val (.int (0 : Int32)), .val (.ref a1001), .val (.ref a1006), .unset, .unset]) rfl ?_
    refine go_aload d38_81 rfl rfl ?_
    refine go_static (R := room_1) (kc := 23) (ks := 2208) [.ref a1006] [] (c_wtb l Z a0 hw hEL a1006 _ _ _ S1008 h1008 (by omega) T1008 (by simp) zc Oc Pc sf rsf Os Oa Oh Ol) (hw _ (List.mem_of_getElem? (i := 23) rfl)) (hw _ (List.mem_of_getElem? (i := 24) rfl)) (hw _ (List.mem_of_getElem? (i := 26) rfl)) (hw _ (List.mem_of_getElem? (i := 25) rfl)) (by decide) rfl rfl (lenOf pd27 rfl) d38_83 (by rfl) (by decide) (Nat.le_of_ble_eq_true rfl) (rc := 3) (rs := 16) rfl rfl (fun S1009 v1009 h1009 m1009 z1009 q1009 => ?_)
    obtain ⟨e1009, y1009, b1009, k1009, rfl, u1009, K1009, T1009⟩ := q1009
    have lx1009 := lt_nat T1009.lx
    have lb1009 := lt_nat T1009.lb
    show Go _ _ _ _ _ _ _ _ _ _ _ _ _ _ _ _ _ (mkF K.m 86 #[.val (.int p0), .val (.int p1), .val (.int p2), .val (.int p3), .val (.int p4), .val (.int (0 : Int32)), .val (.ref a1001), .val (.ref a1006), .unset, .unset] [.ref y1009])
    refine go_astore d38_86 rfl (l' := #[.val (.int p0), .val (.int p1), .val (.int p2), .val (.int p3), .val (.int p4), .val (.int (0 : Int32)), .val (.ref a1001), .val (.ref a1006), .val (.ref y1009), .unset]) rfl ?_
    refine go_aload d38_88 rfl rfl ?_
    refine go_ifnonnullY d38_90 ?_
    refine go_aload d38_95 rfl rfl ?_
    refine go_virtual (R := room_1) (kc := 23) (ks := 2208) [] [] (c_len l Z a0 hw hEL y1009 _ _ _ S1009 h1009 T1009 zc Oc Pc) T1009.1 (hw _ (List.mem_of_getElem? (i := 52) rfl)) (hw _ (List.mem_of_getElem? (i := 28) rfl)) (hw _ (List.mem_of_getElem? (i := 30) rfl)) (hw _ (List.mem_of_getElem? (i := 29) rfl)) (nfSel (hw _ (List.mem_of_getElem? (i := 30) rfl))) (hw _ (List.mem_of_getElem? (i := 31) rfl)) (hw _ (List.mem_of_getElem? (i := 4) rfl)) (by decide) rfl rfl (lenOf pd21 rfl) d38_97 (by rfl) (by decide) (Nat.le_of_ble_eq_true rfl) (rc := 0) (rs := 0) rfl rfl (fun S1010 v1010 h1010 m1010 z1010 q1010 => ?_)
    obtain ⟨rfl, rfl⟩ := q1010
    show Go _ _ _ _ _ _ _ _ _ _ _ _ _ _ _ _ _ (mkF K.m 100 #[.val (.int p0), .val (.int p1), .val (.int p2), .val (.int p3), .val (.int p4), .val (.int (0 : Int32)), .val (.ref a1001), .val (.ref a1006), .val (.ref y1009), .unset] [.int (Int32.ofNat (([]).take e1009).length)])
    refine go_istore d38_100 (l' := #[.val (.int p0), .val (.int p1), .val (.int p2), .val (.int p3), .val (.int p4), .val (.int (0 : Int32)), .val (.ref a1001), .val (.ref a1006), .val (.ref y1009), .val (.int (Int32.ofNat (([]).take e1009).length))]) rfl ?_
    refine go_iload d38_102 rfl ?_
    refine go_iload d38_104 rfl ?_
    have hcl := u1009.1
    simp only [List.length_cons, List.length_nil] at hcl
    refine go_icmple d38_106 (fun c1011 => ?_) (fun c1011 => absurd c1011 (own_len u1009))
    refine go_iload d38_111 rfl ?_
    refine go_ifle d38_113 (fun c113 => ?_) (fun c113 => ?_)
    · refine go_aload d38_132 rfl rfl ?_
      refine go_aload d38_134 rfl rfl ?_
      refine go_iload d38_136 rfl ?_
      refine go_iconst (x := (0 : Int32)) d38_138 (by decide) ?_
      have f1012 := ((f1007.keep K1008 (ninS (ne_of (a := a1001) (b := a1006) (by omega)) nin0)).keep K1009 nin0)
      refine go_static (R := room_1) (kc := 23) (ks := 2208) [.ref y1009, .ref a1001, .int (0 : Int32), .int (0 : Int32)] [] (c_at l Z a0 hw hEL y1009 a1001 _ e1009 0 (by decide) _ _ S1010 h1009 T1009 f1012 u1009 zc Oc Pc sf rsf Os Oa Oh Ol) (hw _ (List.mem_of_getElem? (i := 53) rfl)) (hw _ (List.mem_of_getElem? (i := 54) rfl)) (hw _ (List.mem_of_getElem? (i := 56) rfl)) (hw _ (List.mem_of_getElem? (i := 55) rfl)) (by decide) rfl rfl (lenOf pd28 rfl) d38_139 (by rfl) (by decide) (Nat.le_of_ble_eq_true rfl) (rc := 0) (rs := 0) rfl rfl (fun S1013 v1013 h1013 m1013 z1013 q1013 => ?_)
      obtain ⟨rfl, rfl⟩ := q1013
      show Go _ _ _ _ _ _ _ _ _ _ _ _ _ _ _ _ _ (mkF K.m 142 #[.val (.int p0), .val (.int p1), .val (.int p2), .val (.int p3), .val (.int p4), .val (.int (0 : Int32)), .val (.ref a1001), .val (.ref a1006), .val (.ref y1009), .val (.int (Int32.ofNat (([]).take e1009).length))] [.int (1 : Int32)])
      refine go_ifeq d38_142 (fun c1014 => absurd c1014 (by decide)) (fun c1014 => ?_)
      refine go_aload d38_145 rfl rfl ?_
      refine go_aload d38_147 rfl rfl ?_
      refine go_iload d38_149 rfl ?_
      refine go_iconst (x := (1 : Int32)) d38_151 (by decide) ?_
      refine go_static (R := room_1) (kc := 23) (ks := 2208) [.ref y1009, .ref a1001, .int (0 : Int32), .int (1 : Int32)] [] (c_at l Z a0 hw hEL y1009 a1001 _ e1009 1 (by decide) _ _ S1013 h1009 T1009 f1012 u1009 zc Oc Pc sf rsf Os Oa Oh Ol) (hw _ (List.mem_of_getElem? (i := 53) rfl)) (hw _ (List.mem_of_getElem? (i := 54) rfl)) (hw _ (List.mem_of_getElem? (i := 56) rfl)) (hw _ (List.mem_of_getElem? (i := 55) rfl)) (by decide) rfl rfl (lenOf pd28 rfl) d38_152 (by rfl) (by decide) (Nat.le_of_ble_eq_true rfl) (rc := 0) (rs := 0) rfl rfl (fun S1015 v1015 h1015 m1015 z1015 q1015 => ?_)
      obtain ⟨rfl, rfl⟩ := q1015
      show Go _ _ _ _ _ _ _ _ _ _ _ _ _ _ _ _ _ (mkF K.m 155 #[.val (.int p0), .val (.int p1), .val (.int p2), .val (.int p3), .val (.int p4), .val (.int (0 : Int32)), .val (.ref a1001), .val (.ref a1006), .val (.ref y1009), .val (.int (Int32.ofNat (([]).take e1009).length))] [.int (1 : Int32)])
      refine go_ifeq d38_155 (fun c1016 => absurd c1016 (by decide)) (fun c1016 => ?_)
      refine go_aload d38_158 rfl rfl ?_
      refine go_aload d38_160 rfl rfl ?_
      refine go_iload d38_162 rfl ?_
      refine go_iconst (x := (2 : Int32)) d38_164 (by decide) ?_
      refine go_static (R := room_1) (kc := 23) (ks := 2208) [.ref y1009, .ref a1001, .int (0 : Int32), .int (2 : Int32)] [] (c_at l Z a0 hw hEL y1009 a1001 _ e1009 2 (by decide) _ _ S1015 h1009 T1009 f1012 u1009 zc Oc Pc sf rsf Os Oa Oh Ol) (hw _ (List.mem_of_getElem? (i := 53) rfl)) (hw _ (List.mem_of_getElem? (i := 54) rfl)) (hw _ (List.mem_of_getElem? (i := 56) rfl)) (hw _ (List.mem_of_getElem? (i := 55) rfl)) (by decide) rfl rfl (lenOf pd28 rfl) d38_165 (by rfl) (by decide) (Nat.le_of_ble_eq_true rfl) (rc := 0) (rs := 0) rfl rfl (fun S1017 v1017 h1017 m1017 z1017 q1017 => ?_)
      obtain ⟨rfl, rfl⟩ := q1017
      show Go _ _ _ _ _ _ _ _ _ _ _ _ _ _ _ _ _ (mkF K.m 168 #[.val (.int p0), .val (.int p1), .val (.int p2), .val (.int p3), .val (.int p4), .val (.int (0 : Int32)), .val (.ref a1001), .val (.ref a1006), .val (.ref y1009), .val (.int (Int32.ofNat (([]).take e1009).length))] [.int (1 : Int32)])
      refine go_ifeq d38_168 (fun c1018 => absurd c1018 (by decide)) (fun c1018 => ?_)
      refine go_aload d38_171 rfl rfl ?_
      refine go_aload d38_173 rfl rfl ?_
      refine go_iload d38_175 rfl ?_
      refine go_iconst (x := (3 : Int32)) d38_177 (by decide) ?_
      refine go_static (R := room_1) (kc := 23) (ks := 2208) [.ref y1009, .ref a1001, .int (0 : Int32), .int (3 : Int32)] [] (c_at l Z a0 hw hEL y1009 a1001 _ e1009 3 (by decide) _ _ S1017 h1009 T1009 f1012 u1009 zc Oc Pc sf rsf Os Oa Oh Ol) (hw _ (List.mem_of_getElem? (i := 53) rfl)) (hw _ (List.mem_of_getElem? (i := 54) rfl)) (hw _ (List.mem_of_getElem? (i := 56) rfl)) (hw _ (List.mem_of_getElem? (i := 55) rfl)) (by decide) rfl rfl (lenOf pd28 rfl) d38_178 (by rfl) (by decide) (Nat.le_of_ble_eq_true rfl) (rc := 0) (rs := 0) rfl rfl (fun S1019 v1019 h1019 m1019 z1019 q1019 => ?_)
      obtain ⟨rfl, rfl⟩ := q1019
      show Go _ _ _ _ _ _ _ _ _ _ _ _ _ _ _ _ _ (mkF K.m 181 #[.val (.int p0), .val (.int p1), .val (.int p2), .val (.int p3), .val (.int p4), .val (.int (0 : Int32)), .val (.ref a1001), .val (.ref a1006), .val (.ref y1009), .val (.int (Int32.ofNat (([]).take e1009).length))] [.int (1 : Int32)])
      refine go_ifeq d38_181 (fun c1020 => absurd c1020 (by decide)) (fun c1020 => ?_)
      refine go_iconst (x := (1 : Int32)) d38_184 (by decide) ?_
      refine go_goto d38_185 ?_
      exact go_ireturn (ty := .boolean) (v := (1 : Int32)) d38_189 rfl (by simp) rfl rfl
    · have hep : 0 < e1009 := own_pos c113
      obtain ⟨i0, hi0⟩ : ∃ i0, e1009 = i0 + 1 := ⟨e1009 - 1, by omega⟩
      obtain ⟨d0, hd0, hd1⟩ := own_last u1009 hep
      refine go_aload d38_116 rfl rfl ?_
      refine go_iload d38_118 rfl ?_
      refine go_iconst (x := (1 : Int32)) d38_120 (by decide) ?_
      refine go_isub (v := (Int32.ofNat (e1009 - 1))) d38_121 (own_lenm u1009 hep) ?_
      refine go_virtual (R := room_1) (kc := 23) (ks := 2208) [.int (Int32.ofNat (e1009 - 1))] [] (c_chat l Z a0 hw hEL y1009 _ _ _ S1010 h1009 T1009 (e1009 - 1) d0 hd0 zc Oc Pc sf rsf Os Oa Oh Ol) T1009.1 (hw _ (List.mem_of_getElem? (i := 90) rfl)) (hw _ (List.mem_of_getElem? (i := 71) rfl)) (hw _ (List.mem_of_getElem? (i := 73) rfl)) (hw _ (List.mem_of_getElem? (i := 72) rfl)) (nfSel (hw _ (List.mem_of_getElem? (i := 73) rfl))) (hw _ (List.mem_of_getElem? (i := 74) rfl)) (hw _ (List.mem_of_getElem? (i := 4) rfl)) (by decide) rfl rfl (lenOf pd25 rfl) d38_122 (by rfl) (by decide) (Nat.le_of_ble_eq_true rfl) (rc := 0) (rs := 0) rfl rfl (fun S1021 v1021 h1021 m1021 z1021 q1021 => ?_)
      obtain ⟨rfl, rfl⟩ := q1021
      show Go _ _ _ _ _ _ _ _ _ _ _ _ _ _ _ _ _ (mkF K.m 125 #[.val (.int p0), .val (.int p1), .val (.int p2), .val (.int p3), .val (.int p4), .val (.int (0 : Int32)), .val (.ref a1001), .val (.ref a1006), .val (.ref y1009), .val (.int (Int32.ofNat (([]).take e1009).length))] [.int d0])
      refine go_bipush (x := (32 : Int32)) d38_125 (by decide) ?_
      refine go_icmpne d38_127 (fun c1022 => ?_) (fun c1022 => absurd c1022 (hd1))
      refine go_aload d38_132 rfl rfl ?_
      refine go_aload d38_134 rfl rfl ?_
      refine go_iload d38_136 rfl ?_
      refine go_iconst (x := (0 : Int32)) d38_138 (by decide) ?_
      have f1023 := ((f1007.keep K1008 (ninS (ne_of (a := a1001) (b := a1006) (by omega)) nin0)).keep K1009 nin0)
      refine go_static (R := room_1) (kc := 23) (ks := 2208) [.ref y1009, .ref a1001, .int (0 : Int32), .int (0 : Int32)] [] (c_at l Z a0 hw hEL y1009 a1001 _ e1009 0 (by decide) _ _ S1021 h1009 T1009 f1023 u1009 zc Oc Pc sf rsf Os Oa Oh Ol) (hw _ (List.mem_of_getElem? (i := 53) rfl)) (hw _ (List.mem_of_getElem? (i := 54) rfl)) (hw _ (List.mem_of_getElem? (i := 56) rfl)) (hw _ (List.mem_of_getElem? (i := 55) rfl)) (by decide) rfl rfl (lenOf pd28 rfl) d38_139 (by rfl) (by decide) (Nat.le_of_ble_eq_true rfl) (rc := 0) (rs := 0) rfl rfl (fun S1024 v1024 h1024 m1024 z1024 q1024 => ?_)
      obtain ⟨rfl, rfl⟩ := q1024
      show Go _ _ _ _ _ _ _ _ _ _ _ _ _ _ _ _ _ (mkF K.m 142 #[.val (.int p0), .val (.int p1), .val (.int p2), .val (.int p3), .val (.int p4), .val (.int (0 : Int32)), .val (.ref a1001), .val (.ref a1006), .val (.ref y1009), .val (.int (Int32.ofNat (([]).take e1009).length))] [.int (1 : Int32)])
      refine go_ifeq d38_142 (fun c1025 => absurd c1025 (by decide)) (fun c1025 => ?_)
      refine go_aload d38_145 rfl rfl ?_
      refine go_aload d38_147 rfl rfl ?_
      refine go_iload d38_149 rfl ?_
      refine go_iconst (x := (1 : Int32)) d38_151 (by decide) ?_
      refine go_static (R := room_1) (kc := 23) (ks := 2208) [.ref y1009, .ref a1001, .int (0 : Int32), .int (1 : Int32)] [] (c_at l Z a0 hw hEL y1009 a1001 _ e1009 1 (by decide) _ _ S1024 h1009 T1009 f1023 u1009 zc Oc Pc sf rsf Os Oa Oh Ol) (hw _ (List.mem_of_getElem? (i := 53) rfl)) (hw _ (List.mem_of_getElem? (i := 54) rfl)) (hw _ (List.mem_of_getElem? (i := 56) rfl)) (hw _ (List.mem_of_getElem? (i := 55) rfl)) (by decide) rfl rfl (lenOf pd28 rfl) d38_152 (by rfl) (by decide) (Nat.le_of_ble_eq_true rfl) (rc := 0) (rs := 0) rfl rfl (fun S1026 v1026 h1026 m1026 z1026 q1026 => ?_)
      obtain ⟨rfl, rfl⟩ := q1026
      show Go _ _ _ _ _ _ _ _ _ _ _ _ _ _ _ _ _ (mkF K.m 155 #[.val (.int p0), .val (.int p1), .val (.int p2), .val (.int p3), .val (.int p4), .val (.int (0 : Int32)), .val (.ref a1001), .val (.ref a1006), .val (.ref y1009), .val (.int (Int32.ofNat (([]).take e1009).length))] [.int (1 : Int32)])
      refine go_ifeq d38_155 (fun c1027 => absurd c1027 (by decide)) (fun c1027 => ?_)
      refine go_aload d38_158 rfl rfl ?_
      refine go_aload d38_160 rfl rfl ?_
      refine go_iload d38_162 rfl ?_
      refine go_iconst (x := (2 : Int32)) d38_164 (by decide) ?_
      refine go_static (R := room_1) (kc := 23) (ks := 2208) [.ref y1009, .ref a1001, .int (0 : Int32), .int (2 : Int32)] [] (c_at l Z a0 hw hEL y1009 a1001 _ e1009 2 (by decide) _ _ S1026 h1009 T1009 f1023 u1009 zc Oc Pc sf rsf Os Oa Oh Ol) (hw _ (List.mem_of_getElem? (i := 53) rfl)) (hw _ (List.mem_of_getElem? (i := 54) rfl)) (hw _ (List.mem_of_getElem? (i := 56) rfl)) (hw _ (List.mem_of_getElem? (i := 55) rfl)) (by decide) rfl rfl (lenOf pd28 rfl) d38_165 (by rfl) (by decide) (Nat.le_of_ble_eq_true rfl) (rc := 0) (rs := 0) rfl rfl (fun S1028 v1028 h1028 m1028 z1028 q1028 => ?_)
      obtain ⟨rfl, rfl⟩ := q1028
      show Go _ _ _ _ _ _ _ _ _ _ _ _ _ _ _ _ _ (mkF K.m 168 #[.val (.int p0), .val (.int p1), .val (.int p2), .val (.int p3), .val (.int p4), .val (.int (0 : Int32)), .val (.ref a1001), .val (.ref a1006), .val (.ref y1009), .val (.int (Int32.ofNat (([]).take e1009).length))] [.int (1 : Int32)])
      refine go_ifeq d38_168 (fun c1029 => absurd c1029 (by decide)) (fun c1029 => ?_)
      refine go_aload d38_171 rfl rfl ?_
      refine go_aload d38_173 rfl rfl ?_
      refine go_iload d38_175 rfl ?_
      refine go_iconst (x := (3 : Int32)) d38_177 (by decide) ?_
      refine go_static (R := room_1) (kc := 23) (ks := 2208) [.ref y1009, .ref a1001, .int (0 : Int32), .int (3 : Int32)] [] (c_at l Z a0 hw hEL y1009 a1001 _ e1009 3 (by decide) _ _ S1028 h1009 T1009 f1023 u1009 zc Oc Pc sf rsf Os Oa Oh Ol) (hw _ (List.mem_of_getElem? (i := 53) rfl)) (hw _ (List.mem_of_getElem? (i := 54) rfl)) (hw _ (List.mem_of_getElem? (i := 56) rfl)) (hw _ (List.mem_of_getElem? (i := 55) rfl)) (by decide) rfl rfl (lenOf pd28 rfl) d38_178 (by rfl) (by decide) (Nat.le_of_ble_eq_true rfl) (rc := 0) (rs := 0) rfl rfl (fun S1030 v1030 h1030 m1030 z1030 q1030 => ?_)
      obtain ⟨rfl, rfl⟩ := q1030
      show Go _ _ _ _ _ _ _ _ _ _ _ _ _ _ _ _ _ (mkF K.m 181 #[.val (.int p0), .val (.int p1), .val (.int p2), .val (.int p3), .val (.int p4), .val (.int (0 : Int32)), .val (.ref a1001), .val (.ref a1006), .val (.ref y1009), .val (.int (Int32.ofNat (([]).take e1009).length))] [.int (1 : Int32)])
      refine go_ifeq d38_181 (fun c1031 => absurd c1031 (by decide)) (fun c1031 => ?_)
      refine go_iconst (x := (1 : Int32)) d38_184 (by decide) ?_
      refine go_goto d38_185 ?_
      exact go_ireturn (ty := .boolean) (v := (1 : Int32)) d38_189 rfl (by simp) rfl rfl
  · refine go_irem (v := (1 : Int32)) d38_5 (by decide) hn ?_
    refine go_istore d38_6 (l' := #[.val (.int p0), .val (.int p1), .val (.int p2), .val (.int p3), .val (.int p4), .val (.int (1 : Int32)), .unset, .unset, .unset, .unset]) rfl ?_
    refine go_iload d38_8 rfl ?_
    refine go_newarr (kc := 31) (ks := 2239) (N := 1) (cap := 1) (hw _ (List.mem_of_getElem? (i := 1) rfl)) rfl (Nat.le_refl _) (by decide) rfl rfl d38_10 (fun S1032 h1032 a1032 e1032 m1032 s1032 x1032 l1032 A1032 => ?_)
    have z1032 := x1032.1
    have A1032 : AI Z h1032 a1032 .char (List.replicate 1 0) := A1032
    refine go_astore d38_12 rfl (l' := #[.val (.int p0), .val (.int p1), .val (.int p2), .val (.int p3), .val (.int p4), .val (.int (1 : Int32)), .val (.ref a1032), .unset, .unset, .unset]) rfl ?_
    refine go_iload d38_14 rfl ?_
    refine go_ifle d38_16 (fun c1033 => absurd (by decide) c1033) (fun c1033 => ?_)
    refine go_aload d38_19 rfl rfl ?_
    refine go_iconst (x := (0 : Int32)) d38_21 (by decide) ?_
    refine go_iloadN d38_22 rfl ?_
    refine go_static (R := room_1) (kc := 31) (ks := 2239) [.int p1] [.int (0 : Int32), .ref a1032] (c_ch l Z a0 hw hEL p1 S1032 h1032) (hw _ (List.mem_of_getElem? (i := 57) rfl)) (hw _ (List.mem_of_getElem? (i := 58) rfl)) (hw _ (List.mem_of_getElem? (i := 59) rfl)) (hw _ (List.mem_of_getElem? (i := 55) rfl)) (by decide) rfl rfl (lenOf pd25 rfl) d38_23 (by rfl) (by decide) (Nat.le_of_ble_eq_true rfl) (rc := 0) (rs := 0) rfl rfl (fun S1034 v1034 h1034 m1034 z1034 q1034 => ?_)
    obtain ⟨c1034, rfl, hc1034, rfl⟩ := q1034
    show Go _ _ _ _ _ _ _ _ _ _ _ _ _ _ _ _ _ (mkF K.m 26 #[.val (.int p0), .val (.int p1), .val (.int p2), .val (.int p3), .val (.int p4), .val (.int (1 : Int32)), .val (.ref a1032), .unset, .unset, .unset] [.int c1034, .int (0 : Int32), .ref a1032])
    refine go_castore (v := c1034) A1032 (by omega) (i := 0) rfl (by simp) (nar_ch hc1034) d38_26 (fun h1035 K1035 A1035 => ?_)
    have z1035 := K1035.1
    have A1035 : AI Z h1035 a1032 .char ([c1034]) := A1035
    refine go_iload d38_27 rfl ?_
    refine go_iconst (x := (1 : Int32)) d38_29 (by decide) ?_
    refine go_icmple d38_30 (fun c1036 => ?_) (fun c1036 => absurd c1036 (by decide))
    refine go_iload d38_41 rfl ?_
    refine go_iconst (x := (2 : Int32)) d38_43 (by decide) ?_
    refine go_icmple d38_44 (fun c1037 => ?_) (fun c1037 => absurd c1037 (by decide))
    refine go_iload d38_55 rfl ?_
    refine go_iconst (x := (3 : Int32)) d38_57 (by decide) ?_
    refine go_icmple d38_58 (fun c1038 => ?_) (fun c1038 => absurd c1038 (by decide))
    refine go_new (kc := 30) (ks := 2235) (hw _ (List.mem_of_getElem? (i := 2) rfl)) (hw _ (List.mem_of_getElem? (i := 3) rfl)) (hw _ (List.mem_of_getElem? (i := 4) rfl)) d38_70 (fun S1039 h1039 a1039 e1039 m1039 s1039 x1039 l1039 p1039 => ?_)
    have z1039 := x1039.1
    refine go_dup d38_73 rfl ?_
    refine go_aload d38_74 rfl rfl ?_
    have f1040 := (A1035.ext x1039)
    refine go_special (R := room_1) (kc := 26) (ks := 2223) [.ref a1032] [.ref a1039] (c_ini1U l Z a0 hw hEL a1032 [c1034] S1039 h1039 (by omega) a1039 p1039.1 _ _ (p1039.2 (Or.inr (hw _ (List.mem_of_getElem? (i := 17) rfl))) (ty := (.array .byte)) (by decide)) (p1039.2 (Or.inr (hw _ (List.mem_of_getElem? (i := 18) rfl))) (ty := .byte) (by decide)) (by omega) s1039 f1040 (by simp) zc Oc Pc Oa Oh Ol) (hw _ (List.mem_of_getElem? (i := 5) rfl)) (hw _ (List.mem_of_getElem? (i := 6) rfl)) (hw _ (List.mem_of_getElem? (i := 7) rfl)) (hw _ (List.mem_of_getElem? (i := 4) rfl)) rfl (by decide) rfl rfl (lenOf pd26 rfl) d38_76 (by rfl) (by decide) (Nat.le_of_ble_eq_true rfl) (rc := 4) (rs := 12) rfl rfl (fun S1041 v1041 h1041 m1041 z1041 q1041 => ?_)
    obtain ⟨rfl, K1041, b1041, k1041, T1041, g1041, n1041⟩ := q1041
    have lb1041 := lt_nat T1041.lb
    have lx1041 := lt_nat T1041.lx
    show Go _ _ _ _ _ _ _ _ _ _ _ _ _ _ _ _ _ (mkF K.m 79 #[.val (.int p0), .val (.int p1), .val (.int p2), .val (.int p3), .val (.int p4), .val (.int (1 : Int32)), .val (.ref a1032), .unset, .unset, .unset] [.ref a1039])
    refine go_astore d38_79 rfl (l' := #[.val (.int p0), .val (.int p1), .val (.int p2), .val (.int p3), .val (.int p4), .val (.int (1 : Int32)), .val (.ref a1032), .val (.ref a1039), .unset, .unset]) rfl ?_
    refine go_aload d38_81 rfl rfl ?_
    refine go_static (R := room_1) (kc := 23) (ks := 2207) [.ref a1039] [] (c_wtb l Z a0 hw hEL a1039 _ _ _ S1041 h1041 (by omega) T1041 (by simp) zc Oc Pc sf rsf Os Oa Oh Ol) (hw _ (List.mem_of_getElem? (i := 23) rfl)) (hw _ (List.mem_of_getElem? (i := 24) rfl)) (hw _ (List.mem_of_getElem? (i := 26) rfl)) (hw _ (List.mem_of_getElem? (i := 25) rfl)) (by decide) rfl rfl (lenOf pd27 rfl) d38_83 (by rfl) (by decide) (Nat.le_of_ble_eq_true rfl) (rc := 3) (rs := 16) rfl rfl (fun S1042 v1042 h1042 m1042 z1042 q1042 => ?_)
    obtain ⟨e1042, y1042, b1042, k1042, rfl, u1042, K1042, T1042⟩ := q1042
    have lx1042 := lt_nat T1042.lx
    have lb1042 := lt_nat T1042.lb
    show Go _ _ _ _ _ _ _ _ _ _ _ _ _ _ _ _ _ (mkF K.m 86 #[.val (.int p0), .val (.int p1), .val (.int p2), .val (.int p3), .val (.int p4), .val (.int (1 : Int32)), .val (.ref a1032), .val (.ref a1039), .unset, .unset] [.ref y1042])
    refine go_astore d38_86 rfl (l' := #[.val (.int p0), .val (.int p1), .val (.int p2), .val (.int p3), .val (.int p4), .val (.int (1 : Int32)), .val (.ref a1032), .val (.ref a1039), .val (.ref y1042), .unset]) rfl ?_
    refine go_aload d38_88 rfl rfl ?_
    refine go_ifnonnullY d38_90 ?_
    refine go_aload d38_95 rfl rfl ?_
    refine go_virtual (R := room_1) (kc := 23) (ks := 2207) [] [] (c_len l Z a0 hw hEL y1042 _ _ _ S1042 h1042 T1042 zc Oc Pc) T1042.1 (hw _ (List.mem_of_getElem? (i := 52) rfl)) (hw _ (List.mem_of_getElem? (i := 28) rfl)) (hw _ (List.mem_of_getElem? (i := 30) rfl)) (hw _ (List.mem_of_getElem? (i := 29) rfl)) (nfSel (hw _ (List.mem_of_getElem? (i := 30) rfl))) (hw _ (List.mem_of_getElem? (i := 31) rfl)) (hw _ (List.mem_of_getElem? (i := 4) rfl)) (by decide) rfl rfl (lenOf pd21 rfl) d38_97 (by rfl) (by decide) (Nat.le_of_ble_eq_true rfl) (rc := 0) (rs := 0) rfl rfl (fun S1043 v1043 h1043 m1043 z1043 q1043 => ?_)
    obtain ⟨rfl, rfl⟩ := q1043
    show Go _ _ _ _ _ _ _ _ _ _ _ _ _ _ _ _ _ (mkF K.m 100 #[.val (.int p0), .val (.int p1), .val (.int p2), .val (.int p3), .val (.int p4), .val (.int (1 : Int32)), .val (.ref a1032), .val (.ref a1039), .val (.ref y1042), .unset] [.int (Int32.ofNat (([c1034]).take e1042).length)])
    refine go_istore d38_100 (l' := #[.val (.int p0), .val (.int p1), .val (.int p2), .val (.int p3), .val (.int p4), .val (.int (1 : Int32)), .val (.ref a1032), .val (.ref a1039), .val (.ref y1042), .val (.int (Int32.ofNat (([c1034]).take e1042).length))]) rfl ?_
    refine go_iload d38_102 rfl ?_
    refine go_iload d38_104 rfl ?_
    have hcl := u1042.1
    simp only [List.length_cons, List.length_nil] at hcl
    refine go_icmple d38_106 (fun c1044 => ?_) (fun c1044 => absurd c1044 (own_len u1042))
    refine go_iload d38_111 rfl ?_
    refine go_ifle d38_113 (fun c113 => ?_) (fun c113 => ?_)
    · refine go_aload d38_132 rfl rfl ?_
      refine go_aload d38_134 rfl rfl ?_
      refine go_iload d38_136 rfl ?_
      refine go_iconst (x := (0 : Int32)) d38_138 (by decide) ?_
      have f1045 := ((f1040.keep K1041 (ninS (ne_of (a := a1032) (b := a1039) (by omega)) nin0)).keep K1042 nin0)
      refine go_static (R := room_1) (kc := 23) (ks := 2207) [.ref y1042, .ref a1032, .int (1 : Int32), .int (0 : Int32)] [] (c_at l Z a0 hw hEL y1042 a1032 _ e1042 0 (by decide) _ _ S1043 h1042 T1042 f1045 u1042 zc Oc Pc sf rsf Os Oa Oh Ol) (hw _ (List.mem_of_getElem? (i := 53) rfl)) (hw _ (List.mem_of_getElem? (i := 54) rfl)) (hw _ (List.mem_of_getElem? (i := 56) rfl)) (hw _ (List.mem_of_getElem? (i := 55) rfl)) (by decide) rfl rfl (lenOf pd28 rfl) d38_139 (by rfl) (by decide) (Nat.le_of_ble_eq_true rfl) (rc := 0) (rs := 0) rfl rfl (fun S1046 v1046 h1046 m1046 z1046 q1046 => ?_)
      obtain ⟨rfl, rfl⟩ := q1046
      show Go _ _ _ _ _ _ _ _ _ _ _ _ _ _ _ _ _ (mkF K.m 142 #[.val (.int p0), .val (.int p1), .val (.int p2), .val (.int p3), .val (.int p4), .val (.int (1 : Int32)), .val (.ref a1032), .val (.ref a1039), .val (.ref y1042), .val (.int (Int32.ofNat (([c1034]).take e1042).length))] [.int (1 : Int32)])
      refine go_ifeq d38_142 (fun c1047 => absurd c1047 (by decide)) (fun c1047 => ?_)
      refine go_aload d38_145 rfl rfl ?_
      refine go_aload d38_147 rfl rfl ?_
      refine go_iload d38_149 rfl ?_
      refine go_iconst (x := (1 : Int32)) d38_151 (by decide) ?_
      refine go_static (R := room_1) (kc := 23) (ks := 2207) [.ref y1042, .ref a1032, .int (1 : Int32), .int (1 : Int32)] [] (c_at l Z a0 hw hEL y1042 a1032 _ e1042 1 (by decide) _ _ S1046 h1042 T1042 f1045 u1042 zc Oc Pc sf rsf Os Oa Oh Ol) (hw _ (List.mem_of_getElem? (i := 53) rfl)) (hw _ (List.mem_of_getElem? (i := 54) rfl)) (hw _ (List.mem_of_getElem? (i := 56) rfl)) (hw _ (List.mem_of_getElem? (i := 55) rfl)) (by decide) rfl rfl (lenOf pd28 rfl) d38_152 (by rfl) (by decide) (Nat.le_of_ble_eq_true rfl) (rc := 0) (rs := 0) rfl rfl (fun S1048 v1048 h1048 m1048 z1048 q1048 => ?_)
      obtain ⟨rfl, rfl⟩ := q1048
      show Go _ _ _ _ _ _ _ _ _ _ _ _ _ _ _ _ _ (mkF K.m 155 #[.val (.int p0), .val (.int p1), .val (.int p2), .val (.int p3), .val (.int p4), .val (.int (1 : Int32)), .val (.ref a1032), .val (.ref a1039), .val (.ref y1042), .val (.int (Int32.ofNat (([c1034]).take e1042).length))] [.int (1 : Int32)])
      refine go_ifeq d38_155 (fun c1049 => absurd c1049 (by decide)) (fun c1049 => ?_)
      refine go_aload d38_158 rfl rfl ?_
      refine go_aload d38_160 rfl rfl ?_
      refine go_iload d38_162 rfl ?_
      refine go_iconst (x := (2 : Int32)) d38_164 (by decide) ?_
      refine go_static (R := room_1) (kc := 23) (ks := 2207) [.ref y1042, .ref a1032, .int (1 : Int32), .int (2 : Int32)] [] (c_at l Z a0 hw hEL y1042 a1032 _ e1042 2 (by decide) _ _ S1048 h1042 T1042 f1045 u1042 zc Oc Pc sf rsf Os Oa Oh Ol) (hw _ (List.mem_of_getElem? (i := 53) rfl)) (hw _ (List.mem_of_getElem? (i := 54) rfl)) (hw _ (List.mem_of_getElem? (i := 56) rfl)) (hw _ (List.mem_of_getElem? (i := 55) rfl)) (by decide) rfl rfl (lenOf pd28 rfl) d38_165 (by rfl) (by decide) (Nat.le_of_ble_eq_true rfl) (rc := 0) (rs := 0) rfl rfl (fun S1050 v1050 h1050 m1050 z1050 q1050 => ?_)
      obtain ⟨rfl, rfl⟩ := q1050
      show Go _ _ _ _ _ _ _ _ _ _ _ _ _ _ _ _ _ (mkF K.m 168 #[.val (.int p0), .val (.int p1), .val (.int p2), .val (.int p3), .val (.int p4), .val (.int (1 : Int32)), .val (.ref a1032), .val (.ref a1039), .val (.ref y1042), .val (.int (Int32.ofNat (([c1034]).take e1042).length))] [.int (1 : Int32)])
      refine go_ifeq d38_168 (fun c1051 => absurd c1051 (by decide)) (fun c1051 => ?_)
      refine go_aload d38_171 rfl rfl ?_
      refine go_aload d38_173 rfl rfl ?_
      refine go_iload d38_175 rfl ?_
      refine go_iconst (x := (3 : Int32)) d38_177 (by decide) ?_
      refine go_static (R := room_1) (kc := 23) (ks := 2207) [.ref y1042, .ref a1032, .int (1 : Int32), .int (3 : Int32)] [] (c_at l Z a0 hw hEL y1042 a1032 _ e1042 3 (by decide) _ _ S1050 h1042 T1042 f1045 u1042 zc Oc Pc sf rsf Os Oa Oh Ol) (hw _ (List.mem_of_getElem? (i := 53) rfl)) (hw _ (List.mem_of_getElem? (i := 54) rfl)) (hw _ (List.mem_of_getElem? (i := 56) rfl)) (hw _ (List.mem_of_getElem? (i := 55) rfl)) (by decide) rfl rfl (lenOf pd28 rfl) d38_178 (by rfl) (by decide) (Nat.le_of_ble_eq_true rfl) (rc := 0) (rs := 0) rfl rfl (fun S1052 v1052 h1052 m1052 z1052 q1052 => ?_)
      obtain ⟨rfl, rfl⟩ := q1052
      show Go _ _ _ _ _ _ _ _ _ _ _ _ _ _ _ _ _ (mkF K.m 181 #[.val (.int p0), .val (.int p1), .val (.int p2), .val (.int p3), .val (.int p4), .val (.int (1 : Int32)), .val (.ref a1032), .val (.ref a1039), .val (.ref y1042), .val (.int (Int32.ofNat (([c1034]).take e1042).length))] [.int (1 : Int32)])
      refine go_ifeq d38_181 (fun c1053 => absurd c1053 (by decide)) (fun c1053 => ?_)
      refine go_iconst (x := (1 : Int32)) d38_184 (by decide) ?_
      refine go_goto d38_185 ?_
      exact go_ireturn (ty := .boolean) (v := (1 : Int32)) d38_189 rfl (by simp) rfl rfl
    · have hep : 0 < e1042 := own_pos c113
      obtain ⟨i0, hi0⟩ : ∃ i0, e1042 = i0 + 1 := ⟨e1042 - 1, by omega⟩
      obtain ⟨d0, hd0, hd1⟩ := own_last u1042 hep
      refine go_aload d38_116 rfl rfl ?_
      refine go_iload d38_118 rfl ?_
      refine go_iconst (x := (1 : Int32)) d38_120 (by decide) ?_
      refine go_isub (v := (Int32.ofNat (e1042 - 1))) d38_121 (own_lenm u1042 hep) ?_
      refine go_virtual (R := room_1) (kc := 23) (ks := 2207) [.int (Int32.ofNat (e1042 - 1))] [] (c_chat l Z a0 hw hEL y1042 _ _ _ S1043 h1042 T1042 (e1042 - 1) d0 hd0 zc Oc Pc sf rsf Os Oa Oh Ol) T1042.1 (hw _ (List.mem_of_getElem? (i := 90) rfl)) (hw _ (List.mem_of_getElem? (i := 71) rfl)) (hw _ (List.mem_of_getElem? (i := 73) rfl)) (hw _ (List.mem_of_getElem? (i := 72) rfl)) (nfSel (hw _ (List.mem_of_getElem? (i := 73) rfl))) (hw _ (List.mem_of_getElem? (i := 74) rfl)) (hw _ (List.mem_of_getElem? (i := 4) rfl)) (by decide) rfl rfl (lenOf pd25 rfl) d38_122 (by rfl) (by decide) (Nat.le_of_ble_eq_true rfl) (rc := 0) (rs := 0) rfl rfl (fun S1054 v1054 h1054 m1054 z1054 q1054 => ?_)
      obtain ⟨rfl, rfl⟩ := q1054
      show Go _ _ _ _ _ _ _ _ _ _ _ _ _ _ _ _ _ (mkF K.m 125 #[.val (.int p0), .val (.int p1), .val (.int p2), .val (.int p3), .val (.int p4), .val (.int (1 : Int32)), .val (.ref a1032), .val (.ref a1039), .val (.ref y1042), .val (.int (Int32.ofNat (([c1034]).take e1042).length))] [.int d0])
      refine go_bipush (x := (32 : Int32)) d38_125 (by decide) ?_
      refine go_icmpne d38_127 (fun c1055 => ?_) (fun c1055 => absurd c1055 (hd1))
      refine go_aload d38_132 rfl rfl ?_
      refine go_aload d38_134 rfl rfl ?_
      refine go_iload d38_136 rfl ?_
      refine go_iconst (x := (0 : Int32)) d38_138 (by decide) ?_
      have f1056 := ((f1040.keep K1041 (ninS (ne_of (a := a1032) (b := a1039) (by omega)) nin0)).keep K1042 nin0)
      refine go_static (R := room_1) (kc := 23) (ks := 2207) [.ref y1042, .ref a1032, .int (1 : Int32), .int (0 : Int32)] [] (c_at l Z a0 hw hEL y1042 a1032 _ e1042 0 (by decide) _ _ S1054 h1042 T1042 f1056 u1042 zc Oc Pc sf rsf Os Oa Oh Ol) (hw _ (List.mem_of_getElem? (i := 53) rfl)) (hw _ (List.mem_of_getElem? (i := 54) rfl)) (hw _ (List.mem_of_getElem? (i := 56) rfl)) (hw _ (List.mem_of_getElem? (i := 55) rfl)) (by decide) rfl rfl (lenOf pd28 rfl) d38_139 (by rfl) (by decide) (Nat.le_of_ble_eq_true rfl) (rc := 0) (rs := 0) rfl rfl (fun S1057 v1057 h1057 m1057 z1057 q1057 => ?_)
      obtain ⟨rfl, rfl⟩ := q1057
      show Go _ _ _ _ _ _ _ _ _ _ _ _ _ _ _ _ _ (mkF K.m 142 #[.val (.int p0), .val (.int p1), .val (.int p2), .val (.int p3), .val (.int p4), .val (.int (1 : Int32)), .val (.ref a1032), .val (.ref a1039), .val (.ref y1042), .val (.int (Int32.ofNat (([c1034]).take e1042).length))] [.int (1 : Int32)])
      refine go_ifeq d38_142 (fun c1058 => absurd c1058 (by decide)) (fun c1058 => ?_)
      refine go_aload d38_145 rfl rfl ?_
      refine go_aload d38_147 rfl rfl ?_
      refine go_iload d38_149 rfl ?_
      refine go_iconst (x := (1 : Int32)) d38_151 (by decide) ?_
      refine go_static (R := room_1) (kc := 23) (ks := 2207) [.ref y1042, .ref a1032, .int (1 : Int32), .int (1 : Int32)] [] (c_at l Z a0 hw hEL y1042 a1032 _ e1042 1 (by decide) _ _ S1057 h1042 T1042 f1056 u1042 zc Oc Pc sf rsf Os Oa Oh Ol) (hw _ (List.mem_of_getElem? (i := 53) rfl)) (hw _ (List.mem_of_getElem? (i := 54) rfl)) (hw _ (List.mem_of_getElem? (i := 56) rfl)) (hw _ (List.mem_of_getElem? (i := 55) rfl)) (by decide) rfl rfl (lenOf pd28 rfl) d38_152 (by rfl) (by decide) (Nat.le_of_ble_eq_true rfl) (rc := 0) (rs := 0) rfl rfl (fun S1059 v1059 h1059 m1059 z1059 q1059 => ?_)
      obtain ⟨rfl, rfl⟩ := q1059
      show Go _ _ _ _ _ _ _ _ _ _ _ _ _ _ _ _ _ (mkF K.m 155 #[.val (.int p0), .val (.int p1), .val (.int p2), .val (.int p3), .val (.int p4), .val (.int (1 : Int32)), .val (.ref a1032), .val (.ref a1039), .val (.ref y1042), .val (.int (Int32.ofNat (([c1034]).take e1042).length))] [.int (1 : Int32)])
      refine go_ifeq d38_155 (fun c1060 => absurd c1060 (by decide)) (fun c1060 => ?_)
      refine go_aload d38_158 rfl rfl ?_
      refine go_aload d38_160 rfl rfl ?_
      refine go_iload d38_162 rfl ?_
      refine go_iconst (x := (2 : Int32)) d38_164 (by decide) ?_
      refine go_static (R := room_1) (kc := 23) (ks := 2207) [.ref y1042, .ref a1032, .int (1 : Int32), .int (2 : Int32)] [] (c_at l Z a0 hw hEL y1042 a1032 _ e1042 2 (by decide) _ _ S1059 h1042 T1042 f1056 u1042 zc Oc Pc sf rsf Os Oa Oh Ol) (hw _ (List.mem_of_getElem? (i := 53) rfl)) (hw _ (List.mem_of_getElem? (i := 54) rfl)) (hw _ (List.mem_of_getElem? (i := 56) rfl)) (hw _ (List.mem_of_getElem? (i := 55) rfl)) (by decide) rfl rfl (lenOf pd28 rfl) d38_165 (by rfl) (by decide) (Nat.le_of_ble_eq_true rfl) (rc := 0) (rs := 0) rfl rfl (fun S1061 v1061 h1061 m1061 z1061 q1061 => ?_)
      obtain ⟨rfl, rfl⟩ := q1061
      show Go _ _ _ _ _ _ _ _ _ _ _ _ _ _ _ _ _ (mkF K.m 168 #[.val (.int p0), .val (.int p1), .val (.int p2), .val (.int p3), .val (.int p4), .val (.int (1 : Int32)), .val (.ref a1032), .val (.ref a1039), .val (.ref y1042), .val (.int (Int32.ofNat (([c1034]).take e1042).length))] [.int (1 : Int32)])
      refine go_ifeq d38_168 (fun c1062 => absurd c1062 (by decide)) (fun c1062 => ?_)
      refine go_aload d38_171 rfl rfl ?_
      refine go_aload d38_173 rfl rfl ?_
      refine go_iload d38_175 rfl ?_
      refine go_iconst (x := (3 : Int32)) d38_177 (by decide) ?_
      refine go_static (R := room_1) (kc := 23) (ks := 2207) [.ref y1042, .ref a1032, .int (1 : Int32), .int (3 : Int32)] [] (c_at l Z a0 hw hEL y1042 a1032 _ e1042 3 (by decide) _ _ S1061 h1042 T1042 f1056 u1042 zc Oc Pc sf rsf Os Oa Oh Ol) (hw _ (List.mem_of_getElem? (i := 53) rfl)) (hw _ (List.mem_of_getElem? (i := 54) rfl)) (hw _ (List.mem_of_getElem? (i := 56) rfl)) (hw _ (List.mem_of_getElem? (i := 55) rfl)) (by decide) rfl rfl (lenOf pd28 rfl) d38_178 (by rfl) (by decide) (Nat.le_of_ble_eq_true rfl) (rc := 0) (rs := 0) rfl rfl (fun S1063 v1063 h1063 m1063 z1063 q1063 => ?_)
      obtain ⟨rfl, rfl⟩ := q1063
      show Go _ _ _ _ _ _ _ _ _ _ _ _ _ _ _ _ _ (mkF K.m 181 #[.val (.int p0), .val (.int p1), .val (.int p2), .val (.int p3), .val (.int p4), .val (.int (1 : Int32)), .val (.ref a1032), .val (.ref a1039), .val (.ref y1042), .val (.int (Int32.ofNat (([c1034]).take e1042).length))] [.int (1 : Int32)])
      refine go_ifeq d38_181 (fun c1064 => absurd c1064 (by decide)) (fun c1064 => ?_)
      refine go_iconst (x := (1 : Int32)) d38_184 (by decide) ?_
      refine go_goto d38_185 ?_
      exact go_ireturn (ty := .boolean) (v := (1 : Int32)) d38_189 rfl (by simp) rfl rfl
  · refine go_irem (v := (2 : Int32)) d38_5 (by decide) hn ?_
    refine go_istore d38_6 (l' := #[.val (.int p0), .val (.int p1), .val (.int p2), .val (.int p3), .val (.int p4), .val (.int (2 : Int32)), .unset, .unset, .unset, .unset]) rfl ?_
    refine go_iload d38_8 rfl ?_
    refine go_newarr (kc := 31) (ks := 2238) (N := 2) (cap := 2) (hw _ (List.mem_of_getElem? (i := 1) rfl)) rfl (Nat.le_refl _) (by decide) rfl rfl d38_10 (fun S1065 h1065 a1065 e1065 m1065 s1065 x1065 l1065 A1065 => ?_)
    have z1065 := x1065.1
    have A1065 : AI Z h1065 a1065 .char (List.replicate 2 0) := A1065
    refine go_astore d38_12 rfl (l' := #[.val (.int p0), .val (.int p1), .val (.int p2), .val (.int p3), .val (.int p4), .val (.int (2 : Int32)), .val (.ref a1065), .unset, .unset, .unset]) rfl ?_
    refine go_iload d38_14 rfl ?_
    refine go_ifle d38_16 (fun c1066 => absurd (by decide) c1066) (fun c1066 => ?_)
    refine go_aload d38_19 rfl rfl ?_
    refine go_iconst (x := (0 : Int32)) d38_21 (by decide) ?_
    refine go_iloadN d38_22 rfl ?_
    refine go_static (R := room_1) (kc := 31) (ks := 2238) [.int p1] [.int (0 : Int32), .ref a1065] (c_ch l Z a0 hw hEL p1 S1065 h1065) (hw _ (List.mem_of_getElem? (i := 57) rfl)) (hw _ (List.mem_of_getElem? (i := 58) rfl)) (hw _ (List.mem_of_getElem? (i := 59) rfl)) (hw _ (List.mem_of_getElem? (i := 55) rfl)) (by decide) rfl rfl (lenOf pd25 rfl) d38_23 (by rfl) (by decide) (Nat.le_of_ble_eq_true rfl) (rc := 0) (rs := 0) rfl rfl (fun S1067 v1067 h1067 m1067 z1067 q1067 => ?_)
    obtain ⟨c1067, rfl, hc1067, rfl⟩ := q1067
    show Go _ _ _ _ _ _ _ _ _ _ _ _ _ _ _ _ _ (mkF K.m 26 #[.val (.int p0), .val (.int p1), .val (.int p2), .val (.int p3), .val (.int p4), .val (.int (2 : Int32)), .val (.ref a1065), .unset, .unset, .unset] [.int c1067, .int (0 : Int32), .ref a1065])
    refine go_castore (v := c1067) A1065 (by omega) (i := 0) rfl (by simp) (nar_ch hc1067) d38_26 (fun h1068 K1068 A1068 => ?_)
    have z1068 := K1068.1
    have A1068 : AI Z h1068 a1065 .char ([c1067, 0]) := A1068
    refine go_iload d38_27 rfl ?_
    refine go_iconst (x := (1 : Int32)) d38_29 (by decide) ?_
    refine go_icmple d38_30 (fun c1069 => absurd (by decide) c1069) (fun c1069 => ?_)
    refine go_aload d38_33 rfl rfl ?_
    refine go_iconst (x := (1 : Int32)) d38_35 (by decide) ?_
    refine go_iloadN d38_36 rfl ?_
    refine go_static (R := room_1) (kc := 31) (ks := 2238) [.int p2] [.int (1 : Int32), .ref a1065] (c_ch l Z a0 hw hEL p2 S1067 h1068) (hw _ (List.mem_of_getElem? (i := 57) rfl)) (hw _ (List.mem_of_getElem? (i := 58) rfl)) (hw _ (List.mem_of_getElem? (i := 59) rfl)) (hw _ (List.mem_of_getElem? (i := 55) rfl)) (by decide) rfl rfl (lenOf pd25 rfl) d38_37 (by rfl) (by decide) (Nat.le_of_ble_eq_true rfl) (rc := 0) (rs := 0) rfl rfl (fun S1070 v1070 h1070 m1070 z1070 q1070 => ?_)
    obtain ⟨c1070, rfl, hc1070, rfl⟩ := q1070
    show Go _ _ _ _ _ _ _ _ _ _ _ _ _ _ _ _ _ (mkF K.m 40 #[.val (.int p0), .val (.int p1), .val (.int p2), .val (.int p3), .val (.int p4), .val (.int (2 : Int32)), .val (.ref a1065), .unset, .unset, .unset] [.int c1070, .int (1 : Int32), .ref a1065])
    refine go_castore (v := c1070) A1068 (by omega) (i := 1) rfl (by simp) (nar_ch hc1070) d38_40 (fun h1071 K1071 A1071 => ?_)
    have z1071 := K1071.1
    have A1071 : AI Z h1071 a1065 .char ([c1067, c1070]) := A1071
    refine go_iload d38_41 rfl ?_
    refine go_iconst (x := (2 : Int32)) d38_43 (by decide) ?_
    refine go_icmple d38_44 (fun c1072 => ?_) (fun c1072 => absurd c1072 (by decide))
    refine go_iload d38_55 rfl ?_
    refine go_iconst (x := (3 : Int32)) d38_57 (by decide) ?_
    refine go_icmple d38_58 (fun c1073 => ?_) (fun c1073 => absurd c1073 (by decide))
    refine go_new (kc := 30) (ks := 2234) (hw _ (List.mem_of_getElem? (i := 2) rfl)) (hw _ (List.mem_of_getElem? (i := 3) rfl)) (hw _ (List.mem_of_getElem? (i := 4) rfl)) d38_70 (fun S1074 h1074 a1074 e1074 m1074 s1074 x1074 l1074 p1074 => ?_)
    have z1074 := x1074.1
    refine go_dup d38_73 rfl ?_
    refine go_aload d38_74 rfl rfl ?_
    have f1075 := (A1071.ext x1074)
    refine go_special (R := room_1) (kc := 26) (ks := 2222) [.ref a1065] [.ref a1074] (c_ini1U l Z a0 hw hEL a1065 [c1067, c1070] S1074 h1074 (by omega) a1074 p1074.1 _ _ (p1074.2 (Or.inr (hw _ (List.mem_of_getElem? (i := 17) rfl))) (ty := (.array .byte)) (by decide)) (p1074.2 (Or.inr (hw _ (List.mem_of_getElem? (i := 18) rfl))) (ty := .byte) (by decide)) (by omega) s1074 f1075 (by simp) zc Oc Pc Oa Oh Ol) (hw _ (List.mem_of_getElem? (i := 5) rfl)) (hw _ (List.mem_of_getElem? (i := 6) rfl)) (hw _ (List.mem_of_getElem? (i := 7) rfl)) (hw _ (List.mem_of_getElem? (i := 4) rfl)) rfl (by decide) rfl rfl (lenOf pd26 rfl) d38_76 (by rfl) (by decide) (Nat.le_of_ble_eq_true rfl) (rc := 4) (rs := 12) rfl rfl (fun S1076 v1076 h1076 m1076 z1076 q1076 => ?_)
    obtain ⟨rfl, K1076, b1076, k1076, T1076, g1076, n1076⟩ := q1076
    have lb1076 := lt_nat T1076.lb
    have lx1076 := lt_nat T1076.lx
    show Go _ _ _ _ _ _ _ _ _ _ _ _ _ _ _ _ _ (mkF K.m 79 #[.val (.int p0), .val (.int p1), .val (.int p2), .val (.int p3), .val (.int p4), .val (.int (2 : Int32)), .val (.ref a1065), .unset, .unset, .unset] [.ref a1074])
    refine go_astore d38_79 rfl (l' := #[.val (.int p0), .val (.int p1), .val (.int p2), .val (.int p3), .val (.int p4), .val (.int (2 : Int32)), .val (.ref a1065), .val (.ref a1074), .unset, .unset]) rfl ?_
    refine go_aload d38_81 rfl rfl ?_
    refine go_static (R := room_1) (kc := 23) (ks := 2206) [.ref a1074] [] (c_wtb l Z a0 hw hEL a1074 _ _ _ S1076 h1076 (by omega) T1076 (by simp) zc Oc Pc sf rsf Os Oa Oh Ol) (hw _ (List.mem_of_getElem? (i := 23) rfl)) (hw _ (List.mem_of_getElem? (i := 24) rfl)) (hw _ (List.mem_of_getElem? (i := 26) rfl)) (hw _ (List.mem_of_getElem? (i := 25) rfl)) (by decide) rfl rfl (lenOf pd27 rfl) d38_83 (by rfl) (by decide) (Nat.le_of_ble_eq_true rfl) (rc := 3) (rs := 16) rfl rfl (fun S1077 v1077 h1077 m1077 z1077 q1077 => ?_)
    obtain ⟨e1077, y1077, b1077, k1077, rfl, u1077, K1077, T1077⟩ := q1077
    have lx1077 := lt_nat T1077.lx
    have lb1077 := lt_nat T1077.lb
    show Go _ _ _ _ _ _ _ _ _ _ _ _ _ _ _ _ _ (mkF K.m 86 #[.val (.int p0), .val (.int p1), .val (.int p2), .val (.int p3), .val (.int p4), .val (.int (2 : Int32)), .val (.ref a1065), .val (.ref a1074), .unset, .unset] [.ref y1077])
    refine go_astore d38_86 rfl (l' := #[.val (.int p0), .val (.int p1), .val (.int p2), .val (.int p3), .val (.int p4), .val (.int (2 : Int32)), .val (.ref a1065), .val (.ref a1074), .val (.ref y1077), .unset]) rfl ?_
    refine go_aload d38_88 rfl rfl ?_
    refine go_ifnonnullY d38_90 ?_
    refine go_aload d38_95 rfl rfl ?_
    refine go_virtual (R := room_1) (kc := 23) (ks := 2206) [] [] (c_len l Z a0 hw hEL y1077 _ _ _ S1077 h1077 T1077 zc Oc Pc) T1077.1 (hw _ (List.mem_of_getElem? (i := 52) rfl)) (hw _ (List.mem_of_getElem? (i := 28) rfl)) (hw _ (List.mem_of_getElem? (i := 30) rfl)) (hw _ (List.mem_of_getElem? (i := 29) rfl)) (nfSel (hw _ (List.mem_of_getElem? (i := 30) rfl))) (hw _ (List.mem_of_getElem? (i := 31) rfl)) (hw _ (List.mem_of_getElem? (i := 4) rfl)) (by decide) rfl rfl (lenOf pd21 rfl) d38_97 (by rfl) (by decide) (Nat.le_of_ble_eq_true rfl) (rc := 0) (rs := 0) rfl rfl (fun S1078 v1078 h1078 m1078 z1078 q1078 => ?_)
    obtain ⟨rfl, rfl⟩ := q1078
    show Go _ _ _ _ _ _ _ _ _ _ _ _ _ _ _ _ _ (mkF K.m 100 #[.val (.int p0), .val (.int p1), .val (.int p2), .val (.int p3), .val (.int p4), .val (.int (2 : Int32)), .val (.ref a1065), .val (.ref a1074), .val (.ref y1077), .unset] [.int (Int32.ofNat (([c1067, c1070]).take e1077).length)])
    refine go_istore d38_100 (l' := #[.val (.int p0), .val (.int p1), .val (.int p2), .val (.int p3), .val (.int p4), .val (.int (2 : Int32)), .val (.ref a1065), .val (.ref a1074), .val (.ref y1077), .val (.int (Int32.ofNat (([c1067, c1070]).take e1077).length))]) rfl ?_
    refine go_iload d38_102 rfl ?_
    refine go_iload d38_104 rfl ?_
    have hcl := u1077.1
    simp only [List.length_cons, List.length_nil] at hcl
    refine go_icmple d38_106 (fun c1079 => ?_) (fun c1079 => absurd c1079 (own_len u1077))
    refine go_iload d38_111 rfl ?_
    refine go_ifle d38_113 (fun c113 => ?_) (fun c113 => ?_)
    · refine go_aload d38_132 rfl rfl ?_
      refine go_aload d38_134 rfl rfl ?_
      refine go_iload d38_136 rfl ?_
      refine go_iconst (x := (0 : Int32)) d38_138 (by decide) ?_
      have f1080 := ((f1075.keep K1076 (ninS (ne_of (a := a1065) (b := a1074) (by omega)) nin0)).keep K1077 nin0)
      refine go_static (R := room_1) (kc := 23) (ks := 2206) [.ref y1077, .ref a1065, .int (2 : Int32), .int (0 : Int32)] [] (c_at l Z a0 hw hEL y1077 a1065 _ e1077 0 (by decide) _ _ S1078 h1077 T1077 f1080 u1077 zc Oc Pc sf rsf Os Oa Oh Ol) (hw _ (List.mem_of_getElem? (i := 53) rfl)) (hw _ (List.mem_of_getElem? (i := 54) rfl)) (hw _ (List.mem_of_getElem? (i := 56) rfl)) (hw _ (List.mem_of_getElem? (i := 55) rfl)) (by decide) rfl rfl (lenOf pd28 rfl) d38_139 (by rfl) (by decide) (Nat.le_of_ble_eq_true rfl) (rc := 0) (rs := 0) rfl rfl (fun S1081 v1081 h1081 m1081 z1081 q1081 => ?_)
      obtain ⟨rfl, rfl⟩ := q1081
      show Go _ _ _ _ _ _ _ _ _ _ _ _ _ _ _ _ _ (mkF K.m 142 #[.val (.int p0), .val (.int p1), .val (.int p2), .val (.int p3), .val (.int p4), .val (.int (2 : Int32)), .val (.ref a1065), .val (.ref a1074), .val (.ref y1077), .val (.int (Int32.ofNat (([c1067, c1070]).take e1077).length))] [.int (1 : Int32)])
      refine go_ifeq d38_142 (fun c1082 => absurd c1082 (by decide)) (fun c1082 => ?_)
      refine go_aload d38_145 rfl rfl ?_
      refine go_aload d38_147 rfl rfl ?_
      refine go_iload d38_149 rfl ?_
      refine go_iconst (x := (1 : Int32)) d38_151 (by decide) ?_
      refine go_static (R := room_1) (kc := 23) (ks := 2206) [.ref y1077, .ref a1065, .int (2 : Int32), .int (1 : Int32)] [] (c_at l Z a0 hw hEL y1077 a1065 _ e1077 1 (by decide) _ _ S1081 h1077 T1077 f1080 u1077 zc Oc Pc sf rsf Os Oa Oh Ol) (hw _ (List.mem_of_getElem? (i := 53) rfl)) (hw _ (List.mem_of_getElem? (i := 54) rfl)) (hw _ (List.mem_of_getElem? (i := 56) rfl)) (hw _ (List.mem_of_getElem? (i := 55) rfl)) (by decide) rfl rfl (lenOf pd28 rfl) d38_152 (by rfl) (by decide) (Nat.le_of_ble_eq_true rfl) (rc := 0) (rs := 0) rfl rfl (fun S1083 v1083 h1083 m1083 z1083 q1083 => ?_)
      obtain ⟨rfl, rfl⟩ := q1083
      show Go _ _ _ _ _ _ _ _ _ _ _ _ _ _ _ _ _ (mkF K.m 155 #[.val (.int p0), .val (.int p1), .val (.int p2), .val (.int p3), .val (.int p4), .val (.int (2 : Int32)), .val (.ref a1065), .val (.ref a1074), .val (.ref y1077), .val (.int (Int32.ofNat (([c1067, c1070]).take e1077).length))] [.int (1 : Int32)])
      refine go_ifeq d38_155 (fun c1084 => absurd c1084 (by decide)) (fun c1084 => ?_)
      refine go_aload d38_158 rfl rfl ?_
      refine go_aload d38_160 rfl rfl ?_
      refine go_iload d38_162 rfl ?_
      refine go_iconst (x := (2 : Int32)) d38_164 (by decide) ?_
      refine go_static (R := room_1) (kc := 23) (ks := 2206) [.ref y1077, .ref a1065, .int (2 : Int32), .int (2 : Int32)] [] (c_at l Z a0 hw hEL y1077 a1065 _ e1077 2 (by decide) _ _ S1083 h1077 T1077 f1080 u1077 zc Oc Pc sf rsf Os Oa Oh Ol) (hw _ (List.mem_of_getElem? (i := 53) rfl)) (hw _ (List.mem_of_getElem? (i := 54) rfl)) (hw _ (List.mem_of_getElem? (i := 56) rfl)) (hw _ (List.mem_of_getElem? (i := 55) rfl)) (by decide) rfl rfl (lenOf pd28 rfl) d38_165 (by rfl) (by decide) (Nat.le_of_ble_eq_true rfl) (rc := 0) (rs := 0) rfl rfl (fun S1085 v1085 h1085 m1085 z1085 q1085 => ?_)
      obtain ⟨rfl, rfl⟩ := q1085
      show Go _ _ _ _ _ _ _ _ _ _ _ _ _ _ _ _ _ (mkF K.m 168 #[.val (.int p0), .val (.int p1), .val (.int p2), .val (.int p3), .val (.int p4), .val (.int (2 : Int32)), .val (.ref a1065), .val (.ref a1074), .val (.ref y1077), .val (.int (Int32.ofNat (([c1067, c1070]).take e1077).length))] [.int (1 : Int32)])
      refine go_ifeq d38_168 (fun c1086 => absurd c1086 (by decide)) (fun c1086 => ?_)
      refine go_aload d38_171 rfl rfl ?_
      refine go_aload d38_173 rfl rfl ?_
      refine go_iload d38_175 rfl ?_
      refine go_iconst (x := (3 : Int32)) d38_177 (by decide) ?_
      refine go_static (R := room_1) (kc := 23) (ks := 2206) [.ref y1077, .ref a1065, .int (2 : Int32), .int (3 : Int32)] [] (c_at l Z a0 hw hEL y1077 a1065 _ e1077 3 (by decide) _ _ S1085 h1077 T1077 f1080 u1077 zc Oc Pc sf rsf Os Oa Oh Ol) (hw _ (List.mem_of_getElem? (i := 53) rfl)) (hw _ (List.mem_of_getElem? (i := 54) rfl)) (hw _ (List.mem_of_getElem? (i := 56) rfl)) (hw _ (List.mem_of_getElem? (i := 55) rfl)) (by decide) rfl rfl (lenOf pd28 rfl) d38_178 (by rfl) (by decide) (Nat.le_of_ble_eq_true rfl) (rc := 0) (rs := 0) rfl rfl (fun S1087 v1087 h1087 m1087 z1087 q1087 => ?_)
      obtain ⟨rfl, rfl⟩ := q1087
      show Go _ _ _ _ _ _ _ _ _ _ _ _ _ _ _ _ _ (mkF K.m 181 #[.val (.int p0), .val (.int p1), .val (.int p2), .val (.int p3), .val (.int p4), .val (.int (2 : Int32)), .val (.ref a1065), .val (.ref a1074), .val (.ref y1077), .val (.int (Int32.ofNat (([c1067, c1070]).take e1077).length))] [.int (1 : Int32)])
      refine go_ifeq d38_181 (fun c1088 => absurd c1088 (by decide)) (fun c1088 => ?_)
      refine go_iconst (x := (1 : Int32)) d38_184 (by decide) ?_
      refine go_goto d38_185 ?_
      exact go_ireturn (ty := .boolean) (v := (1 : Int32)) d38_189 rfl (by simp) rfl rfl
    · have hep : 0 < e1077 := own_pos c113
      obtain ⟨i0, hi0⟩ : ∃ i0, e1077 = i0 + 1 := ⟨e1077 - 1, by omega⟩
      obtain ⟨d0, hd0, hd1⟩ := own_last u1077 hep
      refine go_aload d38_116 rfl rfl ?_
      refine go_iload d38_118 rfl ?_
      refine go_iconst (x := (1 : Int32)) d38_120 (by decide) ?_
      refine go_isub (v := (Int32.ofNat (e1077 - 1))) d38_121 (own_lenm u1077 hep) ?_
      refine go_virtual (R := room_1) (kc := 23) (ks := 2206) [.int (Int32.ofNat (e1077 - 1))] [] (c_chat l Z a0 hw hEL y1077 _ _ _ S1078 h1077 T1077 (e1077 - 1) d0 hd0 zc Oc Pc sf rsf Os Oa Oh Ol) T1077.1 (hw _ (List.mem_of_getElem? (i := 90) rfl)) (hw _ (List.mem_of_getElem? (i := 71) rfl)) (hw _ (List.mem_of_getElem? (i := 73) rfl)) (hw _ (List.mem_of_getElem? (i := 72) rfl)) (nfSel (hw _ (List.mem_of_getElem? (i := 73) rfl))) (hw _ (List.mem_of_getElem? (i := 74) rfl)) (hw _ (List.mem_of_getElem? (i := 4) rfl)) (by decide) rfl rfl (lenOf pd25 rfl) d38_122 (by rfl) (by decide) (Nat.le_of_ble_eq_true rfl) (rc := 0) (rs := 0) rfl rfl (fun S1089 v1089 h1089 m1089 z1089 q1089 => ?_)
      obtain ⟨rfl, rfl⟩ := q1089
      show Go _ _ _ _ _ _ _ _ _ _ _ _ _ _ _ _ _ (mkF K.m 125 #[.val (.int p0), .val (.int p1), .val (.int p2), .val (.int p3), .val (.int p4), .val (.int (2 : Int32)), .val (.ref a1065), .val (.ref a1074), .val (.ref y1077), .val (.int (Int32.ofNat (([c1067, c1070]).take e1077).length))] [.int d0])
      refine go_bipush (x := (32 : Int32)) d38_125 (by decide) ?_
      refine go_icmpne d38_127 (fun c1090 => ?_) (fun c1090 => absurd c1090 (hd1))
      refine go_aload d38_132 rfl rfl ?_
      refine go_aload d38_134 rfl rfl ?_
      refine go_iload d38_136 rfl ?_
      refine go_iconst (x := (0 : Int32)) d38_138 (by decide) ?_
      have f1091 := ((f1075.keep K1076 (ninS (ne_of (a := a1065) (b := a1074) (by omega)) nin0)).keep K1077 nin0)
      refine go_static (R := room_1) (kc := 23) (ks := 2206) [.ref y1077, .ref a1065, .int (2 : Int32), .int (0 : Int32)] [] (c_at l Z a0 hw hEL y1077 a1065 _ e1077 0 (by decide) _ _ S1089 h1077 T1077 f1091 u1077 zc Oc Pc sf rsf Os Oa Oh Ol) (hw _ (List.mem_of_getElem? (i := 53) rfl)) (hw _ (List.mem_of_getElem? (i := 54) rfl)) (hw _ (List.mem_of_getElem? (i := 56) rfl)) (hw _ (List.mem_of_getElem? (i := 55) rfl)) (by decide) rfl rfl (lenOf pd28 rfl) d38_139 (by rfl) (by decide) (Nat.le_of_ble_eq_true rfl) (rc := 0) (rs := 0) rfl rfl (fun S1092 v1092 h1092 m1092 z1092 q1092 => ?_)
      obtain ⟨rfl, rfl⟩ := q1092
      show Go _ _ _ _ _ _ _ _ _ _ _ _ _ _ _ _ _ (mkF K.m 142 #[.val (.int p0), .val (.int p1), .val (.int p2), .val (.int p3), .val (.int p4), .val (.int (2 : Int32)), .val (.ref a1065), .val (.ref a1074), .val (.ref y1077), .val (.int (Int32.ofNat (([c1067, c1070]).take e1077).length))] [.int (1 : Int32)])
      refine go_ifeq d38_142 (fun c1093 => absurd c1093 (by decide)) (fun c1093 => ?_)
      refine go_aload d38_145 rfl rfl ?_
      refine go_aload d38_147 rfl rfl ?_
      refine go_iload d38_149 rfl ?_
      refine go_iconst (x := (1 : Int32)) d38_151 (by decide) ?_
      refine go_static (R := room_1) (kc := 23) (ks := 2206) [.ref y1077, .ref a1065, .int (2 : Int32), .int (1 : Int32)] [] (c_at l Z a0 hw hEL y1077 a1065 _ e1077 1 (by decide) _ _ S1092 h1077 T1077 f1091 u1077 zc Oc Pc sf rsf Os Oa Oh Ol) (hw _ (List.mem_of_getElem? (i := 53) rfl)) (hw _ (List.mem_of_getElem? (i := 54) rfl)) (hw _ (List.mem_of_getElem? (i := 56) rfl)) (hw _ (List.mem_of_getElem? (i := 55) rfl)) (by decide) rfl rfl (lenOf pd28 rfl) d38_152 (by rfl) (by decide) (Nat.le_of_ble_eq_true rfl) (rc := 0) (rs := 0) rfl rfl (fun S1094 v1094 h1094 m1094 z1094 q1094 => ?_)
      obtain ⟨rfl, rfl⟩ := q1094
      show Go _ _ _ _ _ _ _ _ _ _ _ _ _ _ _ _ _ (mkF K.m 155 #[.val (.int p0), .val (.int p1), .val (.int p2), .val (.int p3), .val (.int p4), .val (.int (2 : Int32)), .val (.ref a1065), .val (.ref a1074), .val (.ref y1077), .val (.int (Int32.ofNat (([c1067, c1070]).take e1077).length))] [.int (1 : Int32)])
      refine go_ifeq d38_155 (fun c1095 => absurd c1095 (by decide)) (fun c1095 => ?_)
      refine go_aload d38_158 rfl rfl ?_
      refine go_aload d38_160 rfl rfl ?_
      refine go_iload d38_162 rfl ?_
      refine go_iconst (x := (2 : Int32)) d38_164 (by decide) ?_
      refine go_static (R := room_1) (kc := 23) (ks := 2206) [.ref y1077, .ref a1065, .int (2 : Int32), .int (2 : Int32)] [] (c_at l Z a0 hw hEL y1077 a1065 _ e1077 2 (by decide) _ _ S1094 h1077 T1077 f1091 u1077 zc Oc Pc sf rsf Os Oa Oh Ol) (hw _ (List.mem_of_getElem? (i := 53) rfl)) (hw _ (List.mem_of_getElem? (i := 54) rfl)) (hw _ (List.mem_of_getElem? (i := 56) rfl)) (hw _ (List.mem_of_getElem? (i := 55) rfl)) (by decide) rfl rfl (lenOf pd28 rfl) d38_165 (by rfl) (by decide) (Nat.le_of_ble_eq_true rfl) (rc := 0) (rs := 0) rfl rfl (fun S1096 v1096 h1096 m1096 z1096 q1096 => ?_)
      obtain ⟨rfl, rfl⟩ := q1096
      show Go _ _ _ _ _ _ _ _ _ _ _ _ _ _ _ _ _ (mkF K.m 168 #[.val (.int p0), .val (.int p1), .val (.int p2), .val (.int p3), .val (.int p4), .val (.int (2 : Int32)), .val (.ref a1065), .val (.ref a1074), .val (.ref y1077), .val (.int (Int32.ofNat (([c1067, c1070]).take e1077).length))] [.int (1 : Int32)])
      refine go_ifeq d38_168 (fun c1097 => absurd c1097 (by decide)) (fun c1097 => ?_)
      refine go_aload d38_171 rfl rfl ?_
      refine go_aload d38_173 rfl rfl ?_
      refine go_iload d38_175 rfl ?_
      refine go_iconst (x := (3 : Int32)) d38_177 (by decide) ?_
      refine go_static (R := room_1) (kc := 23) (ks := 2206) [.ref y1077, .ref a1065, .int (2 : Int32), .int (3 : Int32)] [] (c_at l Z a0 hw hEL y1077 a1065 _ e1077 3 (by decide) _ _ S1096 h1077 T1077 f1091 u1077 zc Oc Pc sf rsf Os Oa Oh Ol) (hw _ (List.mem_of_getElem? (i := 53) rfl)) (hw _ (List.mem_of_getElem? (i := 54) rfl)) (hw _ (List.mem_of_getElem? (i := 56) rfl)) (hw _ (List.mem_of_getElem? (i := 55) rfl)) (by decide) rfl rfl (lenOf pd28 rfl) d38_178 (by rfl) (by decide) (Nat.le_of_ble_eq_true rfl) (rc := 0) (rs := 0) rfl rfl (fun S1098 v1098 h1098 m1098 z1098 q1098 => ?_)
      obtain ⟨rfl, rfl⟩ := q1098
      show Go _ _ _ _ _ _ _ _ _ _ _ _ _ _ _ _ _ (mkF K.m 181 #[.val (.int p0), .val (.int p1), .val (.int p2), .val (.int p3), .val (.int p4), .val (.int (2 : Int32)), .val (.ref a1065), .val (.ref a1074), .val (.ref y1077), .val (.int (Int32.ofNat (([c1067, c1070]).take e1077).length))] [.int (1 : Int32)])
      refine go_ifeq d38_181 (fun c1099 => absurd c1099 (by decide)) (fun c1099 => ?_)
      refine go_iconst (x := (1 : Int32)) d38_184 (by decide) ?_
      refine go_goto d38_185 ?_
      exact go_ireturn (ty := .boolean) (v := (1 : Int32)) d38_189 rfl (by simp) rfl rfl
  · refine go_irem (v := (3 : Int32)) d38_5 (by decide) hn ?_
    refine go_istore d38_6 (l' := #[.val (.int p0), .val (.int p1), .val (.int p2), .val (.int p3), .val (.int p4), .val (.int (3 : Int32)), .unset, .unset, .unset, .unset]) rfl ?_
    refine go_iload d38_8 rfl ?_
    refine go_newarr (kc := 31) (ks := 2237) (N := 3) (cap := 3) (hw _ (List.mem_of_getElem? (i := 1) rfl)) rfl (Nat.le_refl _) (by decide) rfl rfl d38_10 (fun S1100 h1100 a1100 e1100 m1100 s1100 x1100 l1100 A1100 => ?_)
    have z1100 := x1100.1
    have A1100 : AI Z h1100 a1100 .char (List.replicate 3 0) := A1100
    refine go_astore d38_12 rfl (l' := #[.val (.int p0), .val (.int p1), .val (.int p2), .val (.int p3), .val (.int p4), .val (.int (3 : Int32)), .val (.ref a1100), .unset, .unset, .unset]) rfl ?_
    refine go_iload d38_14 rfl ?_
    refine go_ifle d38_16 (fun c1101 => absurd (by decide) c1101) (fun c1101 => ?_)
    refine go_aload d38_19 rfl rfl ?_
    refine go_iconst (x := (0 : Int32)) d38_21 (by decide) ?_
    refine go_iloadN d38_22 rfl ?_
    refine go_static (R := room_1) (kc := 31) (ks := 2237) [.int p1] [.int (0 : Int32), .ref a1100] (c_ch l Z a0 hw hEL p1 S1100 h1100) (hw _ (List.mem_of_getElem? (i := 57) rfl)) (hw _ (List.mem_of_getElem? (i := 58) rfl)) (hw _ (List.mem_of_getElem? (i := 59) rfl)) (hw _ (List.mem_of_getElem? (i := 55) rfl)) (by decide) rfl rfl (lenOf pd25 rfl) d38_23 (by rfl) (by decide) (Nat.le_of_ble_eq_true rfl) (rc := 0) (rs := 0) rfl rfl (fun S1102 v1102 h1102 m1102 z1102 q1102 => ?_)
    obtain ⟨c1102, rfl, hc1102, rfl⟩ := q1102
    show Go _ _ _ _ _ _ _ _ _ _ _ _ _ _ _ _ _ (mkF K.m 26 #[.val (.int p0), .val (.int p1), .val (.int p2), .val (.int p3), .val (.int p4), .val (.int (3 : Int32)), .val (.ref a1100), .unset, .unset, .unset] [.int c1102, .int (0 : Int32), .ref a1100])
    refine go_castore (v := c1102) A1100 (by omega) (i := 0) rfl (by simp) (nar_ch hc1102) d38_26 (fun h1103 K1103 A1103 => ?_)
    have z1103 := K1103.1
    have A1103 : AI Z h1103 a1100 .char ([c1102, 0, 0]) := A1103
    refine go_iload d38_27 rfl ?_
    refine go_iconst (x := (1 : Int32)) d38_29 (by decide) ?_
    refine go_icmple d38_30 (fun c1104 => absurd (by decide) c1104) (fun c1104 => ?_)
    refine go_aload d38_33 rfl rfl ?_
    refine go_iconst (x := (1 : Int32)) d38_35 (by decide) ?_
    refine go_iloadN d38_36 rfl ?_
    refine go_static (R := room_1) (kc := 31) (ks := 2237) [.int p2] [.int (1 : Int32), .ref a1100] (c_ch l Z a0 hw hEL p2 S1102 h1103) (hw _ (List.mem_of_getElem? (i := 57) rfl)) (hw _ (List.mem_of_getElem? (i := 58) rfl)) (hw _ (List.mem_of_getElem? (i := 59) rfl)) (hw _ (List.mem_of_getElem? (i := 55) rfl)) (by decide) rfl rfl (lenOf pd25 rfl) d38_37 (by rfl) (by decide) (Nat.le_of_ble_eq_true rfl) (rc := 0) (rs := 0) rfl rfl (fun S1105 v1105 h1105 m1105 z1105 q1105 => ?_)
    obtain ⟨c1105, rfl, hc1105, rfl⟩ := q1105
    show Go _ _ _ _ _ _ _ _ _ _ _ _ _ _ _ _ _ (mkF K.m 40 #[.val (.int p0), .val (.int p1), .val (.int p2), .val (.int p3), .val (.int p4), .val (.int (3 : Int32)), .val (.ref a1100), .unset, .unset, .unset] [.int c1105, .int (1 : Int32), .ref a1100])
    refine go_castore (v := c1105) A1103 (by omega) (i := 1) rfl (by simp) (nar_ch hc1105) d38_40 (fun h1106 K1106 A1106 => ?_)
    have z1106 := K1106.1
    have A1106 : AI Z h1106 a1100 .char ([c1102, c1105, 0]) := A1106
    refine go_iload d38_41 rfl ?_
    refine go_iconst (x := (2 : Int32)) d38_43 (by decide) ?_
    refine go_icmple d38_44 (fun c1107 => absurd (by decide) c1107) (fun c1107 => ?_)
    refine go_aload d38_47 rfl rfl ?_
    refine go_iconst (x := (2 : Int32)) d38_49 (by decide) ?_
    refine go_iloadN d38_50 rfl ?_
    refine go_static (R := room_1) (kc := 31) (ks := 2237) [.int p3] [.int (2 : Int32), .ref a1100] (c_ch l Z a0 hw hEL p3 S1105 h1106) (hw _ (List.mem_of_getElem? (i := 57) rfl)) (hw _ (List.mem_of_getElem? (i := 58) rfl)) (hw _ (List.mem_of_getElem? (i := 59) rfl)) (hw _ (List.mem_of_getElem? (i := 55) rfl)) (by decide) rfl rfl (lenOf pd25 rfl) d38_51 (by rfl) (by decide) (Nat.le_of_ble_eq_true rfl) (rc := 0) (rs := 0) rfl rfl (fun S1108 v1108 h1108 m1108 z1108 q1108 => ?_)
    obtain ⟨c1108, rfl, hc1108, rfl⟩ := q1108
    show Go _ _ _ _ _ _ _ _ _ _ _ _ _ _ _ _ _ (mkF K.m 54 #[.val (.int p0), .val (.int p1), .val (.int p2), .val (.int p3), .val (.int p4), .val (.int (3 : Int32)), .val (.ref a1100), .unset, .unset, .unset] [.int c1108, .int (2 : Int32), .ref a1100])
    refine go_castore (v := c1108) A1106 (by omega) (i := 2) rfl (by simp) (nar_ch hc1108) d38_54 (fun h1109 K1109 A1109 => ?_)
    have z1109 := K1109.1
    have A1109 : AI Z h1109 a1100 .char ([c1102, c1105, c1108]) := A1109
    refine go_iload d38_55 rfl ?_
    refine go_iconst (x := (3 : Int32)) d38_57 (by decide) ?_
    refine go_icmple d38_58 (fun c1110 => ?_) (fun c1110 => absurd c1110 (by decide))
    refine go_new (kc := 30) (ks := 2233) (hw _ (List.mem_of_getElem? (i := 2) rfl)) (hw _ (List.mem_of_getElem? (i := 3) rfl)) (hw _ (List.mem_of_getElem? (i := 4) rfl)) d38_70 (fun S1111 h1111 a1111 e1111 m1111 s1111 x1111 l1111 p1111 => ?_)
    have z1111 := x1111.1
    refine go_dup d38_73 rfl ?_
    refine go_aload d38_74 rfl rfl ?_
    have f1112 := (A1109.ext x1111)
    refine go_special (R := room_1) (kc := 26) (ks := 2221) [.ref a1100] [.ref a1111] (c_ini1U l Z a0 hw hEL a1100 [c1102, c1105, c1108] S1111 h1111 (by omega) a1111 p1111.1 _ _ (p1111.2 (Or.inr (hw _ (List.mem_of_getElem? (i := 17) rfl))) (ty := (.array .byte)) (by decide)) (p1111.2 (Or.inr (hw _ (List.mem_of_getElem? (i := 18) rfl))) (ty := .byte) (by decide)) (by omega) s1111 f1112 (by simp) zc Oc Pc Oa Oh Ol) (hw _ (List.mem_of_getElem? (i := 5) rfl)) (hw _ (List.mem_of_getElem? (i := 6) rfl)) (hw _ (List.mem_of_getElem? (i := 7) rfl)) (hw _ (List.mem_of_getElem? (i := 4) rfl)) rfl (by decide) rfl rfl (lenOf pd26 rfl) d38_76 (by rfl) (by decide) (Nat.le_of_ble_eq_true rfl) (rc := 4) (rs := 12) rfl rfl (fun S1113 v1113 h1113 m1113 z1113 q1113 => ?_)
    obtain ⟨rfl, K1113, b1113, k1113, T1113, g1113, n1113⟩ := q1113
    have lb1113 := lt_nat T1113.lb
    have lx1113 := lt_nat T1113.lx
    show Go _ _ _ _ _ _ _ _ _ _ _ _ _ _ _ _ _ (mkF K.m 79 #[.val (.int p0), .val (.int p1), .val (.int p2), .val (.int p3), .val (.int p4), .val (.int (3 : Int32)), .val (.ref a1100), .unset, .unset, .unset] [.ref a1111])
    refine go_astore d38_79 rfl (l' := #[.val (.int p0), .val (.int p1), .val (.int p2), .val (.int p3), .val (.int p4), .val (.int (3 : Int32)), .val (.ref a1100), .val (.ref a1111), .unset, .unset]) rfl ?_
    refine go_aload d38_81 rfl rfl ?_
    refine go_static (R := room_1) (kc := 23) (ks := 2205) [.ref a1111] [] (c_wtb l Z a0 hw hEL a1111 _ _ _ S1113 h1113 (by omega) T1113 (by simp) zc Oc Pc sf rsf Os Oa Oh Ol) (hw _ (List.mem_of_getElem? (i := 23) rfl)) (hw _ (List.mem_of_getElem? (i := 24) rfl)) (hw _ (List.mem_of_getElem? (i := 26) rfl)) (hw _ (List.mem_of_getElem? (i := 25) rfl)) (by decide) rfl rfl (lenOf pd27 rfl) d38_83 (by rfl) (by decide) (Nat.le_of_ble_eq_true rfl) (rc := 3) (rs := 16) rfl rfl (fun S1114 v1114 h1114 m1114 z1114 q1114 => ?_)
    obtain ⟨e1114, y1114, b1114, k1114, rfl, u1114, K1114, T1114⟩ := q1114
    have lx1114 := lt_nat T1114.lx
    have lb1114 := lt_nat T1114.lb
    show Go _ _ _ _ _ _ _ _ _ _ _ _ _ _ _ _ _ (mkF K.m 86 #[.val (.int p0), .val (.int p1), .val (.int p2), .val (.int p3), .val (.int p4), .val (.int (3 : Int32)), .val (.ref a1100), .val (.ref a1111), .unset, .unset] [.ref y1114])
    refine go_astore d38_86 rfl (l' := #[.val (.int p0), .val (.int p1), .val (.int p2), .val (.int p3), .val (.int p4), .val (.int (3 : Int32)), .val (.ref a1100), .val (.ref a1111), .val (.ref y1114), .unset]) rfl ?_
    refine go_aload d38_88 rfl rfl ?_
    refine go_ifnonnullY d38_90 ?_
    refine go_aload d38_95 rfl rfl ?_
    refine go_virtual (R := room_1) (kc := 23) (ks := 2205) [] [] (c_len l Z a0 hw hEL y1114 _ _ _ S1114 h1114 T1114 zc Oc Pc) T1114.1 (hw _ (List.mem_of_getElem? (i := 52) rfl)) (hw _ (List.mem_of_getElem? (i := 28) rfl)) (hw _ (List.mem_of_getElem? (i := 30) rfl)) (hw _ (List.mem_of_getElem? (i := 29) rfl)) (nfSel (hw _ (List.mem_of_getElem? (i := 30) rfl))) (hw _ (List.mem_of_getElem? (i := 31) rfl)) (hw _ (List.mem_of_getElem? (i := 4) rfl)) (by decide) rfl rfl (lenOf pd21 rfl) d38_97 (by rfl) (by decide) (Nat.le_of_ble_eq_true rfl) (rc := 0) (rs := 0) rfl rfl (fun S1115 v1115 h1115 m1115 z1115 q1115 => ?_)
    obtain ⟨rfl, rfl⟩ := q1115
    show Go _ _ _ _ _ _ _ _ _ _ _ _ _ _ _ _ _ (mkF K.m 100 #[.val (.int p0), .val (.int p1), .val (.int p2), .val (.int p3), .val (.int p4), .val (.int (3 : Int32)), .val (.ref a1100), .val (.ref a1111), .val (.ref y1114), .unset] [.int (Int32.ofNat (([c1102, c1105, c1108]).take e1114).length)])
    refine go_istore d38_100 (l' := #[.val (.int p0), .val (.int p1), .val (.int p2), .val (.int p3), .val (.int p4), .val (.int (3 : Int32)), .val (.ref a1100), .val (.ref a1111), .val (.ref y1114), .val (.int (Int32.ofNat (([c1102, c1105, c1108]).take e1114).length))]) rfl ?_
    refine go_iload d38_102 rfl ?_
    refine go_iload d38_104 rfl ?_
    have hcl := u1114.1
    simp only [List.length_cons, List.length_nil] at hcl
    refine go_icmple d38_106 (fun c1116 => ?_) (fun c1116 => absurd c1116 (own_len u1114))
    refine go_iload d38_111 rfl ?_
    refine go_ifle d38_113 (fun c113 => ?_) (fun c113 => ?_)
    · refine go_aload d38_132 rfl rfl ?_
      refine go_aload d38_134 rfl rfl ?_
      refine go_iload d38_136 rfl ?_
      refine go_iconst (x := (0 : Int32)) d38_138 (by decide) ?_
      have f1117 := ((f1112.keep K1113 (ninS (ne_of (a := a1100) (b := a1111) (by omega)) nin0)).keep K1114 nin0)
      refine go_static (R := room_1) (kc := 23) (ks := 2205) [.ref y1114, .ref a1100, .int (3 : Int32), .int (0 : Int32)] [] (c_at l Z a0 hw hEL y1114 a1100 _ e1114 0 (by decide) _ _ S1115 h1114 T1114 f1117 u1114 zc Oc Pc sf rsf Os Oa Oh Ol) (hw _ (List.mem_of_getElem? (i := 53) rfl)) (hw _ (List.mem_of_getElem? (i := 54) rfl)) (hw _ (List.mem_of_getElem? (i := 56) rfl)) (hw _ (List.mem_of_getElem? (i := 55) rfl)) (by decide) rfl rfl (lenOf pd28 rfl) d38_139 (by rfl) (by decide) (Nat.le_of_ble_eq_true rfl) (rc := 0) (rs := 0) rfl rfl (fun S1118 v1118 h1118 m1118 z1118 q1118 => ?_)
      obtain ⟨rfl, rfl⟩ := q1118
      show Go _ _ _ _ _ _ _ _ _ _ _ _ _ _ _ _ _ (mkF K.m 142 #[.val (.int p0), .val (.int p1), .val (.int p2), .val (.int p3), .val (.int p4), .val (.int (3 : Int32)), .val (.ref a1100), .val (.ref a1111), .val (.ref y1114), .val (.int (Int32.ofNat (([c1102, c1105, c1108]).take e1114).length))] [.int (1 : Int32)])
      refine go_ifeq d38_142 (fun c1119 => absurd c1119 (by decide)) (fun c1119 => ?_)
      refine go_aload d38_145 rfl rfl ?_
      refine go_aload d38_147 rfl rfl ?_
      refine go_iload d38_149 rfl ?_
      refine go_iconst (x := (1 : Int32)) d38_151 (by decide) ?_
      refine go_static (R := room_1) (kc := 23) (ks := 2205) [.ref y1114, .ref a1100, .int (3 : Int32), .int (1 : Int32)] [] (c_at l Z a0 hw hEL y1114 a1100 _ e1114 1 (by decide) _ _ S1118 h1114 T1114 f1117 u1114 zc Oc Pc sf rsf Os Oa Oh Ol) (hw _ (List.mem_of_getElem? (i := 53) rfl)) (hw _ (List.mem_of_getElem? (i := 54) rfl)) (hw _ (List.mem_of_getElem? (i := 56) rfl)) (hw _ (List.mem_of_getElem? (i := 55) rfl)) (by decide) rfl rfl (lenOf pd28 rfl) d38_152 (by rfl) (by decide) (Nat.le_of_ble_eq_true rfl) (rc := 0) (rs := 0) rfl rfl (fun S1120 v1120 h1120 m1120 z1120 q1120 => ?_)
      obtain ⟨rfl, rfl⟩ := q1120
      show Go _ _ _ _ _ _ _ _ _ _ _ _ _ _ _ _ _ (mkF K.m 155 #[.val (.int p0), .val (.int p1), .val (.int p2), .val (.int p3), .val (.int p4), .val (.int (3 : Int32)), .val (.ref a1100), .val (.ref a1111), .val (.ref y1114), .val (.int (Int32.ofNat (([c1102, c1105, c1108]).take e1114).length))] [.int (1 : Int32)])
      refine go_ifeq d38_155 (fun c1121 => absurd c1121 (by decide)) (fun c1121 => ?_)
      refine go_aload d38_158 rfl rfl ?_
      refine go_aload d38_160 rfl rfl ?_
      refine go_iload d38_162 rfl ?_
      refine go_iconst (x := (2 : Int32)) d38_164 (by decide) ?_
      refine go_static (R := room_1) (kc := 23) (ks := 2205) [.ref y1114, .ref a1100, .int (3 : Int32), .int (2 : Int32)] [] (c_at l Z a0 hw hEL y1114 a1100 _ e1114 2 (by decide) _ _ S1120 h1114 T1114 f1117 u1114 zc Oc Pc sf rsf Os Oa Oh Ol) (hw _ (List.mem_of_getElem? (i := 53) rfl)) (hw _ (List.mem_of_getElem? (i := 54) rfl)) (hw _ (List.mem_of_getElem? (i := 56) rfl)) (hw _ (List.mem_of_getElem? (i := 55) rfl)) (by decide) rfl rfl (lenOf pd28 rfl) d38_165 (by rfl) (by decide) (Nat.le_of_ble_eq_true rfl) (rc := 0) (rs := 0) rfl rfl (fun S1122 v1122 h1122 m1122 z1122 q1122 => ?_)
      obtain ⟨rfl, rfl⟩ := q1122
      show Go _ _ _ _ _ _ _ _ _ _ _ _ _ _ _ _ _ (mkF K.m 168 #[.val (.int p0), .val (.int p1), .val (.int p2), .val (.int p3), .val (.int p4), .val (.int (3 : Int32)), .val (.ref a1100), .val (.ref a1111), .val (.ref y1114), .val (.int (Int32.ofNat (([c1102, c1105, c1108]).take e1114).length))] [.int (1 : Int32)])
      refine go_ifeq d38_168 (fun c1123 => absurd c1123 (by decide)) (fun c1123 => ?_)
      refine go_aload d38_171 rfl rfl ?_
      refine go_aload d38_173 rfl rfl ?_
      refine go_iload d38_175 rfl ?_
      refine go_iconst (x := (3 : Int32)) d38_177 (by decide) ?_
      refine go_static (R := room_1) (kc := 23) (ks := 2205) [.ref y1114, .ref a1100, .int (3 : Int32), .int (3 : Int32)] [] (c_at l Z a0 hw hEL y1114 a1100 _ e1114 3 (by decide) _ _ S1122 h1114 T1114 f1117 u1114 zc Oc Pc sf rsf Os Oa Oh Ol) (hw _ (List.mem_of_getElem? (i := 53) rfl)) (hw _ (List.mem_of_getElem? (i := 54) rfl)) (hw _ (List.mem_of_getElem? (i := 56) rfl)) (hw _ (List.mem_of_getElem? (i := 55) rfl)) (by decide) rfl rfl (lenOf pd28 rfl) d38_178 (by rfl) (by decide) (Nat.le_of_ble_eq_true rfl) (rc := 0) (rs := 0) rfl rfl (fun S1124 v1124 h1124 m1124 z1124 q1124 => ?_)
      obtain ⟨rfl, rfl⟩ := q1124
      show Go _ _ _ _ _ _ _ _ _ _ _ _ _ _ _ _ _ (mkF K.m 181 #[.val (.int p0), .val (.int p1), .val (.int p2), .val (.int p3), .val (.int p4), .val (.int (3 : Int32)), .val (.ref a1100), .val (.ref a1111), .val (.ref y1114), .val (.int (Int32.ofNat (([c1102, c1105, c1108]).take e1114).length))] [.int (1 : Int32)])
      refine go_ifeq d38_181 (fun c1125 => absurd c1125 (by decide)) (fun c1125 => ?_)
      refine go_iconst (x := (1 : Int32)) d38_184 (by decide) ?_
      refine go_goto d38_185 ?_
      exact go_ireturn (ty := .boolean) (v := (1 : Int32)) d38_189 rfl (by simp) rfl rfl
    · have hep : 0 < e1114 := own_pos c113
      obtain ⟨i0, hi0⟩ : ∃ i0, e1114 = i0 + 1 := ⟨e1114 - 1, by omega⟩
      obtain ⟨d0, hd0, hd1⟩ := own_last u1114 hep
      refine go_aload d38_116 rfl rfl ?_
      refine go_iload d38_118 rfl ?_
      refine go_iconst (x := (1 : Int32)) d38_120 (by decide) ?_
      refine go_isub (v := (Int32.ofNat (e1114 - 1))) d38_121 (own_lenm u1114 hep) ?_
      refine go_virtual (R := room_1) (kc := 23) (ks := 2205) [.int (Int32.ofNat (e1114 - 1))] [] (c_chat l Z a0 hw hEL y1114 _ _ _ S1115 h1114 T1114 (e1114 - 1) d0 hd0 zc Oc Pc sf rsf Os Oa Oh Ol) T1114.1 (hw _ (List.mem_of_getElem? (i := 90) rfl)) (hw _ (List.mem_of_getElem? (i := 71) rfl)) (hw _ (List.mem_of_getElem? (i := 73) rfl)) (hw _ (List.mem_of_getElem? (i := 72) rfl)) (nfSel (hw _ (List.mem_of_getElem? (i := 73) rfl))) (hw _ (List.mem_of_getElem? (i := 74) rfl)) (hw _ (List.mem_of_getElem? (i := 4) rfl)) (by decide) rfl rfl (lenOf pd25 rfl) d38_122 (by rfl) (by decide) (Nat.le_of_ble_eq_true rfl) (rc := 0) (rs := 0) rfl rfl (fun S1126 v1126 h1126 m1126 z1126 q1126 => ?_)
      obtain ⟨rfl, rfl⟩ := q1126
      show Go _ _ _ _ _ _ _ _ _ _ _ _ _ _ _ _ _ (mkF K.m 125 #[.val (.int p0), .val (.int p1), .val (.int p2), .val (.int p3), .val (.int p4), .val (.int (3 : Int32)), .val (.ref a1100), .val (.ref a1111), .val (.ref y1114), .val (.int (Int32.ofNat (([c1102, c1105, c1108]).take e1114).length))] [.int d0])
      refine go_bipush (x := (32 : Int32)) d38_125 (by decide) ?_
      refine go_icmpne d38_127 (fun c1127 => ?_) (fun c1127 => absurd c1127 (hd1))
      refine go_aload d38_132 rfl rfl ?_
      refine go_aload d38_134 rfl rfl ?_
      refine go_iload d38_136 rfl ?_
      refine go_iconst (x := (0 : Int32)) d38_138 (by decide) ?_
      have f1128 := ((f1112.keep K1113 (ninS (ne_of (a := a1100) (b := a1111) (by omega)) nin0)).keep K1114 nin0)
      refine go_static (R := room_1) (kc := 23) (ks := 2205) [.ref y1114, .ref a1100, .int (3 : Int32), .int (0 : Int32)] [] (c_at l Z a0 hw hEL y1114 a1100 _ e1114 0 (by decide) _ _ S1126 h1114 T1114 f1128 u1114 zc Oc Pc sf rsf Os Oa Oh Ol) (hw _ (List.mem_of_getElem? (i := 53) rfl)) (hw _ (List.mem_of_getElem? (i := 54) rfl)) (hw _ (List.mem_of_getElem? (i := 56) rfl)) (hw _ (List.mem_of_getElem? (i := 55) rfl)) (by decide) rfl rfl (lenOf pd28 rfl) d38_139 (by rfl) (by decide) (Nat.le_of_ble_eq_true rfl) (rc := 0) (rs := 0) rfl rfl (fun S1129 v1129 h1129 m1129 z1129 q1129 => ?_)
      obtain ⟨rfl, rfl⟩ := q1129
      show Go _ _ _ _ _ _ _ _ _ _ _ _ _ _ _ _ _ (mkF K.m 142 #[.val (.int p0), .val (.int p1), .val (.int p2), .val (.int p3), .val (.int p4), .val (.int (3 : Int32)), .val (.ref a1100), .val (.ref a1111), .val (.ref y1114), .val (.int (Int32.ofNat (([c1102, c1105, c1108]).take e1114).length))] [.int (1 : Int32)])
      refine go_ifeq d38_142 (fun c1130 => absurd c1130 (by decide)) (fun c1130 => ?_)
      refine go_aload d38_145 rfl rfl ?_
      refine go_aload d38_147 rfl rfl ?_
      refine go_iload d38_149 rfl ?_
      refine go_iconst (x := (1 : Int32)) d38_151 (by decide) ?_
      refine go_static (R := room_1) (kc := 23) (ks := 2205) [.ref y1114, .ref a1100, .int (3 : Int32), .int (1 : Int32)] [] (c_at l Z a0 hw hEL y1114 a1100 _ e1114 1 (by decide) _ _ S1129 h1114 T1114 f1128 u1114 zc Oc Pc sf rsf Os Oa Oh Ol) (hw _ (List.mem_of_getElem? (i := 53) rfl)) (hw _ (List.mem_of_getElem? (i := 54) rfl)) (hw _ (List.mem_of_getElem? (i := 56) rfl)) (hw _ (List.mem_of_getElem? (i := 55) rfl)) (by decide) rfl rfl (lenOf pd28 rfl) d38_152 (by rfl) (by decide) (Nat.le_of_ble_eq_true rfl) (rc := 0) (rs := 0) rfl rfl (fun S1131 v1131 h1131 m1131 z1131 q1131 => ?_)
      obtain ⟨rfl, rfl⟩ := q1131
      show Go _ _ _ _ _ _ _ _ _ _ _ _ _ _ _ _ _ (mkF K.m 155 #[.val (.int p0), .val (.int p1), .val (.int p2), .val (.int p3), .val (.int p4), .val (.int (3 : Int32)), .val (.ref a1100), .val (.ref a1111), .val (.ref y1114), .val (.int (Int32.ofNat (([c1102, c1105, c1108]).take e1114).length))] [.int (1 : Int32)])
      refine go_ifeq d38_155 (fun c1132 => absurd c1132 (by decide)) (fun c1132 => ?_)
      refine go_aload d38_158 rfl rfl ?_
      refine go_aload d38_160 rfl rfl ?_
      refine go_iload d38_162 rfl ?_
      refine go_iconst (x := (2 : Int32)) d38_164 (by decide) ?_
      refine go_static (R := room_1) (kc := 23) (ks := 2205) [.ref y1114, .ref a1100, .int (3 : Int32), .int (2 : Int32)] [] (c_at l Z a0 hw hEL y1114 a1100 _ e1114 2 (by decide) _ _ S1131 h1114 T1114 f1128 u1114 zc Oc Pc sf rsf Os Oa Oh Ol) (hw _ (List.mem_of_getElem? (i := 53) rfl)) (hw _ (List.mem_of_getElem? (i := 54) rfl)) (hw _ (List.mem_of_getElem? (i := 56) rfl)) (hw _ (List.mem_of_getElem? (i := 55) rfl)) (by decide) rfl rfl (lenOf pd28 rfl) d38_165 (by rfl) (by decide) (Nat.le_of_ble_eq_true rfl) (rc := 0) (rs := 0) rfl rfl (fun S1133 v1133 h1133 m1133 z1133 q1133 => ?_)
      obtain ⟨rfl, rfl⟩ := q1133
      show Go _ _ _ _ _ _ _ _ _ _ _ _ _ _ _ _ _ (mkF K.m 168 #[.val (.int p0), .val (.int p1), .val (.int p2), .val (.int p3), .val (.int p4), .val (.int (3 : Int32)), .val (.ref a1100), .val (.ref a1111), .val (.ref y1114), .val (.int (Int32.ofNat (([c1102, c1105, c1108]).take e1114).length))] [.int (1 : Int32)])
      refine go_ifeq d38_168 (fun c1134 => absurd c1134 (by decide)) (fun c1134 => ?_)
      refine go_aload d38_171 rfl rfl ?_
      refine go_aload d38_173 rfl rfl ?_
      refine go_iload d38_175 rfl ?_
      refine go_iconst (x := (3 : Int32)) d38_177 (by decide) ?_
      refine go_static (R := room_1) (kc := 23) (ks := 2205) [.ref y1114, .ref a1100, .int (3 : Int32), .int (3 : Int32)] [] (c_at l Z a0 hw hEL y1114 a1100 _ e1114 3 (by decide) _ _ S1133 h1114 T1114 f1128 u1114 zc Oc Pc sf rsf Os Oa Oh Ol) (hw _ (List.mem_of_getElem? (i := 53) rfl)) (hw _ (List.mem_of_getElem? (i := 54) rfl)) (hw _ (List.mem_of_getElem? (i := 56) rfl)) (hw _ (List.mem_of_getElem? (i := 55) rfl)) (by decide) rfl rfl (lenOf pd28 rfl) d38_178 (by rfl) (by decide) (Nat.le_of_ble_eq_true rfl) (rc := 0) (rs := 0) rfl rfl (fun S1135 v1135 h1135 m1135 z1135 q1135 => ?_)
      obtain ⟨rfl, rfl⟩ := q1135
      show Go _ _ _ _ _ _ _ _ _ _ _ _ _ _ _ _ _ (mkF K.m 181 #[.val (.int p0), .val (.int p1), .val (.int p2), .val (.int p3), .val (.int p4), .val (.int (3 : Int32)), .val (.ref a1100), .val (.ref a1111), .val (.ref y1114), .val (.int (Int32.ofNat (([c1102, c1105, c1108]).take e1114).length))] [.int (1 : Int32)])
      refine go_ifeq d38_181 (fun c1136 => absurd c1136 (by decide)) (fun c1136 => ?_)
      refine go_iconst (x := (1 : Int32)) d38_184 (by decide) ?_
      refine go_goto d38_185 ?_
      exact go_ireturn (ty := .boolean) (v := (1 : Int32)) d38_189 rfl (by simp) rfl rfl
  · refine go_irem (v := (4 : Int32)) d38_5 (by decide) hn ?_
    refine go_istore d38_6 (l' := #[.val (.int p0), .val (.int p1), .val (.int p2), .val (.int p3), .val (.int p4), .val (.int (4 : Int32)), .unset, .unset, .unset, .unset]) rfl ?_
    refine go_iload d38_8 rfl ?_
    refine go_newarr (kc := 31) (ks := 2236) (N := 4) (cap := 4) (hw _ (List.mem_of_getElem? (i := 1) rfl)) rfl (Nat.le_refl _) (by decide) rfl rfl d38_10 (fun S1137 h1137 a1137 e1137 m1137 s1137 x1137 l1137 A1137 => ?_)
    have z1137 := x1137.1
    have A1137 : AI Z h1137 a1137 .char (List.replicate 4 0) := A1137
    refine go_astore d38_12 rfl (l' := #[.val (.int p0), .val (.int p1), .val (.int p2), .val (.int p3), .val (.int p4), .val (.int (4 : Int32)), .val (.ref a1137), .unset, .unset, .unset]) rfl ?_
    refine go_iload d38_14 rfl ?_
    refine go_ifle d38_16 (fun c1138 => absurd (by decide) c1138) (fun c1138 => ?_)
    refine go_aload d38_19 rfl rfl ?_
    refine go_iconst (x := (0 : Int32)) d38_21 (by decide) ?_
    refine go_iloadN d38_22 rfl ?_
    refine go_static (R := room_1) (kc := 31) (ks := 2236) [.int p1] [.int (0 : Int32), .ref a1137] (c_ch l Z a0 hw hEL p1 S1137 h1137) (hw _ (List.mem_of_getElem? (i := 57) rfl)) (hw _ (List.mem_of_getElem? (i := 58) rfl)) (hw _ (List.mem_of_getElem? (i := 59) rfl)) (hw _ (List.mem_of_getElem? (i := 55) rfl)) (by decide) rfl rfl (lenOf pd25 rfl) d38_23 (by rfl) (by decide) (Nat.le_of_ble_eq_true rfl) (rc := 0) (rs := 0) rfl rfl (fun S1139 v1139 h1139 m1139 z1139 q1139 => ?_)
    obtain ⟨c1139, rfl, hc1139, rfl⟩ := q1139
    show Go _ _ _ _ _ _ _ _ _ _ _ _ _ _ _ _ _ (mkF K.m 26 #[.val (.int p0), .val (.int p1), .val (.int p2), .val (.int p3), .val (.int p4), .val (.int (4 : Int32)), .val (.ref a1137), .unset, .unset, .unset] [.int c1139, .int (0 : Int32), .ref a1137])
    refine go_castore (v := c1139) A1137 (by omega) (i := 0) rfl (by simp) (nar_ch hc1139) d38_26 (fun h1140 K1140 A1140 => ?_)
    have z1140 := K1140.1
    have A1140 : AI Z h1140 a1137 .char ([c1139, 0, 0, 0]) := A1140
    refine go_iload d38_27 rfl ?_
    refine go_iconst (x := (1 : Int32)) d38_29 (by decide) ?_
    refine go_icmple d38_30 (fun c1141 => absurd (by decide) c1141) (fun c1141 => ?_)
    refine go_aload d38_33 rfl rfl ?_
    refine go_iconst (x := (1 : Int32)) d38_35 (by decide) ?_
    refine go_iloadN d38_36 rfl ?_
    refine go_static (R := room_1) (kc := 31) (ks := 2236) [.int p2] [.int (1 : Int32), .ref a1137] (c_ch l Z a0 hw hEL p2 S1139 h1140) (hw _ (List.mem_of_getElem? (i := 57) rfl)) (hw _ (List.mem_of_getElem? (i := 58) rfl)) (hw _ (List.mem_of_getElem? (i := 59) rfl)) (hw _ (List.mem_of_getElem? (i := 55) rfl)) (by decide) rfl rfl (lenOf pd25 rfl) d38_37 (by rfl) (by decide) (Nat.le_of_ble_eq_true rfl) (rc := 0) (rs := 0) rfl rfl (fun S1142 v1142 h1142 m1142 z1142 q1142 => ?_)
    obtain ⟨c1142, rfl, hc1142, rfl⟩ := q1142
    show Go _ _ _ _ _ _ _ _ _ _ _ _ _ _ _ _ _ (mkF K.m 40 #[.val (.int p0), .val (.int p1), .val (.int p2), .val (.int p3), .val (.int p4), .val (.int (4 : Int32)), .val (.ref a1137), .unset, .unset, .unset] [.int c1142, .int (1 : Int32), .ref a1137])
    refine go_castore (v := c1142) A1140 (by omega) (i := 1) rfl (by simp) (nar_ch hc1142) d38_40 (fun h1143 K1143 A1143 => ?_)
    have z1143 := K1143.1
    have A1143 : AI Z h1143 a1137 .char ([c1139, c1142, 0, 0]) := A1143
    refine go_iload d38_41 rfl ?_
    refine go_iconst (x := (2 : Int32)) d38_43 (by decide) ?_
    refine go_icmple d38_44 (fun c1144 => absurd (by decide) c1144) (fun c1144 => ?_)
    refine go_aload d38_47 rfl rfl ?_
    refine go_iconst (x := (2 : Int32)) d38_49 (by decide) ?_
    refine go_iloadN d38_50 rfl ?_
    refine go_static (R := room_1) (kc := 31) (ks := 2236) [.int p3] [.int (2 : Int32), .ref a1137] (c_ch l Z a0 hw hEL p3 S1142 h1143) (hw _ (List.mem_of_getElem? (i := 57) rfl)) (hw _ (List.mem_of_getElem? (i := 58) rfl)) (hw _ (List.mem_of_getElem? (i := 59) rfl)) (hw _ (List.mem_of_getElem? (i := 55) rfl)) (by decide) rfl rfl (lenOf pd25 rfl) d38_51 (by rfl) (by decide) (Nat.le_of_ble_eq_true rfl) (rc := 0) (rs := 0) rfl rfl (fun S1145 v1145 h1145 m1145 z1145 q1145 => ?_)
    obtain ⟨c1145, rfl, hc1145, rfl⟩ := q1145
    show Go _ _ _ _ _ _ _ _ _ _ _ _ _ _ _ _ _ (mkF K.m 54 #[.val (.int p0), .val (.int p1), .val (.int p2), .val (.int p3), .val (.int p4), .val (.int (4 : Int32)), .val (.ref a1137), .unset, .unset, .unset] [.int c1145, .int (2 : Int32), .ref a1137])
    refine go_castore (v := c1145) A1143 (by omega) (i := 2) rfl (by simp) (nar_ch hc1145) d38_54 (fun h1146 K1146 A1146 => ?_)
    have z1146 := K1146.1
    have A1146 : AI Z h1146 a1137 .char ([c1139, c1142, c1145, 0]) := A1146
    refine go_iload d38_55 rfl ?_
    refine go_iconst (x := (3 : Int32)) d38_57 (by decide) ?_
    refine go_icmple d38_58 (fun c1147 => absurd (by decide) c1147) (fun c1147 => ?_)
    refine go_aload d38_61 rfl rfl ?_
    refine go_iconst (x := (3 : Int32)) d38_63 (by decide) ?_
    refine go_iload d38_64 rfl ?_
    refine go_static (R := room_1) (kc := 31) (ks := 2236) [.int p4] [.int (3 : Int32), .ref a1137] (c_ch l Z a0 hw hEL p4 S1145 h1146) (hw _ (List.mem_of_getElem? (i := 57) rfl)) (hw _ (List.mem_of_getElem? (i := 58) rfl)) (hw _ (List.mem_of_getElem? (i := 59) rfl)) (hw _ (List.mem_of_getElem? (i := 55) rfl)) (by decide) rfl rfl (lenOf pd25 rfl) d38_66 (by rfl) (by decide) (Nat.le_of_ble_eq_true rfl) (rc := 0) (rs := 0) rfl rfl (fun S1148 v1148 h1148 m1148 z1148 q1148 => ?_)
    obtain ⟨c1148, rfl, hc1148, rfl⟩ := q1148
    show Go _ _ _ _ _ _ _ _ _ _ _ _ _ _ _ _ _ (mkF K.m 69 #[.val (.int p0), .val (.int p1), .val (.int p2), .val (.int p3), .val (.int p4), .val (.int (4 : Int32)), .val (.ref a1137), .unset, .unset, .unset] [.int c1148, .int (3 : Int32), .ref a1137])
    refine go_castore (v := c1148) A1146 (by omega) (i := 3) rfl (by simp) (nar_ch hc1148) d38_69 (fun h1149 K1149 A1149 => ?_)
    have z1149 := K1149.1
    have A1149 : AI Z h1149 a1137 .char ([c1139, c1142, c1145, c1148]) := A1149
    refine go_new (kc := 30) (ks := 2232) (hw _ (List.mem_of_getElem? (i := 2) rfl)) (hw _ (List.mem_of_getElem? (i := 3) rfl)) (hw _ (List.mem_of_getElem? (i := 4) rfl)) d38_70 (fun S1150 h1150 a1150 e1150 m1150 s1150 x1150 l1150 p1150 => ?_)
    have z1150 := x1150.1
    refine go_dup d38_73 rfl ?_
    refine go_aload d38_74 rfl rfl ?_
    have f1151 := (A1149.ext x1150)
    refine go_special (R := room_1) (kc := 26) (ks := 2220) [.ref a1137] [.ref a1150] (c_ini1U l Z a0 hw hEL a1137 [c1139, c1142, c1145, c1148] S1150 h1150 (by omega) a1150 p1150.1 _ _ (p1150.2 (Or.inr (hw _ (List.mem_of_getElem? (i := 17) rfl))) (ty := (.array .byte)) (by decide)) (p1150.2 (Or.inr (hw _ (List.mem_of_getElem? (i := 18) rfl))) (ty := .byte) (by decide)) (by omega) s1150 f1151 (by simp) zc Oc Pc Oa Oh Ol) (hw _ (List.mem_of_getElem? (i := 5) rfl)) (hw _ (List.mem_of_getElem? (i := 6) rfl)) (hw _ (List.mem_of_getElem? (i := 7) rfl)) (hw _ (List.mem_of_getElem? (i := 4) rfl)) rfl (by decide) rfl rfl (lenOf pd26 rfl) d38_76 (by rfl) (by decide) (Nat.le_of_ble_eq_true rfl) (rc := 4) (rs := 12) rfl rfl (fun S1152 v1152 h1152 m1152 z1152 q1152 => ?_)
    obtain ⟨rfl, K1152, b1152, k1152, T1152, g1152, n1152⟩ := q1152
    have lb1152 := lt_nat T1152.lb
    have lx1152 := lt_nat T1152.lx
    show Go _ _ _ _ _ _ _ _ _ _ _ _ _ _ _ _ _ (mkF K.m 79 #[.val (.int p0), .val (.int p1), .val (.int p2), .val (.int p3), .val (.int p4), .val (.int (4 : Int32)), .val (.ref a1137), .unset, .unset, .unset] [.ref a1150])
    refine go_astore d38_79 rfl (l' := #[.val (.int p0), .val (.int p1), .val (.int p2), .val (.int p3), .val (.int p4), .val (.int (4 : Int32)), .val (.ref a1137), .val (.ref a1150), .unset, .unset]) rfl ?_
    refine go_aload d38_81 rfl rfl ?_
    refine go_static (R := room_1) (kc := 23) (ks := 2204) [.ref a1150] [] (c_wtb l Z a0 hw hEL a1150 _ _ _ S1152 h1152 (by omega) T1152 (by simp) zc Oc Pc sf rsf Os Oa Oh Ol) (hw _ (List.mem_of_getElem? (i := 23) rfl)) (hw _ (List.mem_of_getElem? (i := 24) rfl)) (hw _ (List.mem_of_getElem? (i := 26) rfl)) (hw _ (List.mem_of_getElem? (i := 25) rfl)) (by decide) rfl rfl (lenOf pd27 rfl) d38_83 (by rfl) (by decide) (Nat.le_of_ble_eq_true rfl) (rc := 3) (rs := 16) rfl rfl (fun S1153 v1153 h1153 m1153 z1153 q1153 => ?_)
    obtain ⟨e1153, y1153, b1153, k1153, rfl, u1153, K1153, T1153⟩ := q1153
    have lx1153 := lt_nat T1153.lx
    have lb1153 := lt_nat T1153.lb
    show Go _ _ _ _ _ _ _ _ _ _ _ _ _ _ _ _ _ (mkF K.m 86 #[.val (.int p0), .val (.int p1), .val (.int p2), .val (.int p3), .val (.int p4), .val (.int (4 : Int32)), .val (.ref a1137), .val (.ref a1150), .unset, .unset] [.ref y1153])
    refine go_astore d38_86 rfl (l' := #[.val (.int p0), .val (.int p1), .val (.int p2), .val (.int p3), .val (.int p4), .val (.int (4 : Int32)), .val (.ref a1137), .val (.ref a1150), .val (.ref y1153), .unset]) rfl ?_
    refine go_aload d38_88 rfl rfl ?_
    refine go_ifnonnullY d38_90 ?_
    refine go_aload d38_95 rfl rfl ?_
    refine go_virtual (R := room_1) (kc := 23) (ks := 2204) [] [] (c_len l Z a0 hw hEL y1153 _ _ _ S1153 h1153 T1153 zc Oc Pc) T1153.1 (hw _ (List.mem_of_getElem? (i := 52) rfl)) (hw _ (List.mem_of_getElem? (i := 28) rfl)) (hw _ (List.mem_of_getElem? (i := 30) rfl)) (hw _ (List.mem_of_getElem? (i := 29) rfl)) (nfSel (hw _ (List.mem_of_getElem? (i := 30) rfl))) (hw _ (List.mem_of_getElem? (i := 31) rfl)) (hw _ (List.mem_of_getElem? (i := 4) rfl)) (by decide) rfl rfl (lenOf pd21 rfl) d38_97 (by rfl) (by decide) (Nat.le_of_ble_eq_true rfl) (rc := 0) (rs := 0) rfl rfl (fun S1154 v1154 h1154 m1154 z1154 q1154 => ?_)
    obtain ⟨rfl, rfl⟩ := q1154
    show Go _ _ _ _ _ _ _ _ _ _ _ _ _ _ _ _ _ (mkF K.m 100 #[.val (.int p0), .val (.int p1), .val (.int p2), .val (.int p3), .val (.int p4), .val (.int (4 : Int32)), .val (.ref a1137), .val (.ref a1150), .val (.ref y1153), .unset] [.int (Int32.ofNat (([c1139, c1142, c1145, c1148]).take e1153).length)])
    refine go_istore d38_100 (l' := #[.val (.int p0), .val (.int p1), .val (.int p2), .val (.int p3), .val (.int p4), .val (.int (4 : Int32)), .val (.ref a1137), .val (.ref a1150), .val (.ref y1153), .val (.int (Int32.ofNat (([c1139, c1142, c1145, c1148]).take e1153).length))]) rfl ?_
    refine go_iload d38_102 rfl ?_
    refine go_iload d38_104 rfl ?_
    have hcl := u1153.1
    simp only [List.length_cons, List.length_nil] at hcl
    refine go_icmple d38_106 (fun c1155 => ?_) (fun c1155 => absurd c1155 (own_len u1153))
    refine go_iload d38_111 rfl ?_
    refine go_ifle d38_113 (fun c113 => ?_) (fun c113 => ?_)
    · refine go_aload d38_132 rfl rfl ?_
      refine go_aload d38_134 rfl rfl ?_
      refine go_iload d38_136 rfl ?_
      refine go_iconst (x := (0 : Int32)) d38_138 (by decide) ?_
      have f1156 := ((f1151.keep K1152 (ninS (ne_of (a := a1137) (b := a1150) (by omega)) nin0)).keep K1153 nin0)
      refine go_static (R := room_1) (kc := 23) (ks := 2204) [.ref y1153, .ref a1137, .int (4 : Int32), .int (0 : Int32)] [] (c_at l Z a0 hw hEL y1153 a1137 _ e1153 0 (by decide) _ _ S1154 h1153 T1153 f1156 u1153 zc Oc Pc sf rsf Os Oa Oh Ol) (hw _ (List.mem_of_getElem? (i := 53) rfl)) (hw _ (List.mem_of_getElem? (i := 54) rfl)) (hw _ (List.mem_of_getElem? (i := 56) rfl)) (hw _ (List.mem_of_getElem? (i := 55) rfl)) (by decide) rfl rfl (lenOf pd28 rfl) d38_139 (by rfl) (by decide) (Nat.le_of_ble_eq_true rfl) (rc := 0) (rs := 0) rfl rfl (fun S1157 v1157 h1157 m1157 z1157 q1157 => ?_)
      obtain ⟨rfl, rfl⟩ := q1157
      show Go _ _ _ _ _ _ _ _ _ _ _ _ _ _ _ _ _ (mkF K.m 142 #[.val (.int p0), .val (.int p1), .val (.int p2), .val (.int p3), .val (.int p4), .val (.int (4 : Int32)), .val (.ref a1137), .val (.ref a1150), .val (.ref y1153), .val (.int (Int32.ofNat (([c1139, c1142, c1145, c1148]).take e1153).length))] [.int (1 : Int32)])
      refine go_ifeq d38_142 (fun c1158 => absurd c1158 (by decide)) (fun c1158 => ?_)
      refine go_aload d38_145 rfl rfl ?_
      refine go_aload d38_147 rfl rfl ?_
      refine go_iload d38_149 rfl ?_
      refine go_iconst (x := (1 : Int32)) d38_151 (by decide) ?_
      refine go_static (R := room_1) (kc := 23) (ks := 2204) [.ref y1153, .ref a1137, .int (4 : Int32), .int (1 : Int32)] [] (c_at l Z a0 hw hEL y1153 a1137 _ e1153 1 (by decide) _ _ S1157 h1153 T1153 f1156 u1153 zc Oc Pc sf rsf Os Oa Oh Ol) (hw _ (List.mem_of_getElem? (i := 53) rfl)) (hw _ (List.mem_of_getElem? (i := 54) rfl)) (hw _ (List.mem_of_getElem? (i := 56) rfl)) (hw _ (List.mem_of_getElem? (i := 55) rfl)) (by decide) rfl rfl (lenOf pd28 rfl) d38_152 (by rfl) (by decide) (Nat.le_of_ble_eq_true rfl) (rc := 0) (rs := 0) rfl rfl (fun S1159 v1159 h1159 m1159 z1159 q1159 => ?_)
      obtain ⟨rfl, rfl⟩ := q1159
      show Go _ _ _ _ _ _ _ _ _ _ _ _ _ _ _ _ _ (mkF K.m 155 #[.val (.int p0), .val (.int p1), .val (.int p2), .val (.int p3), .val (.int p4), .val (.int (4 : Int32)), .val (.ref a1137), .val (.ref a1150), .val (.ref y1153), .val (.int (Int32.ofNat (([c1139, c1142, c1145, c1148]).take e1153).length))] [.int (1 : Int32)])
      refine go_ifeq d38_155 (fun c1160 => absurd c1160 (by decide)) (fun c1160 => ?_)
      refine go_aload d38_158 rfl rfl ?_
      refine go_aload d38_160 rfl rfl ?_
      refine go_iload d38_162 rfl ?_
      refine go_iconst (x := (2 : Int32)) d38_164 (by decide) ?_
      refine go_static (R := room_1) (kc := 23) (ks := 2204) [.ref y1153, .ref a1137, .int (4 : Int32), .int (2 : Int32)] [] (c_at l Z a0 hw hEL y1153 a1137 _ e1153 2 (by decide) _ _ S1159 h1153 T1153 f1156 u1153 zc Oc Pc sf rsf Os Oa Oh Ol) (hw _ (List.mem_of_getElem? (i := 53) rfl)) (hw _ (List.mem_of_getElem? (i := 54) rfl)) (hw _ (List.mem_of_getElem? (i := 56) rfl)) (hw _ (List.mem_of_getElem? (i := 55) rfl)) (by decide) rfl rfl (lenOf pd28 rfl) d38_165 (by rfl) (by decide) (Nat.le_of_ble_eq_true rfl) (rc := 0) (rs := 0) rfl rfl (fun S1161 v1161 h1161 m1161 z1161 q1161 => ?_)
      obtain ⟨rfl, rfl⟩ := q1161
      show Go _ _ _ _ _ _ _ _ _ _ _ _ _ _ _ _ _ (mkF K.m 168 #[.val (.int p0), .val (.int p1), .val (.int p2), .val (.int p3), .val (.int p4), .val (.int (4 : Int32)), .val (.ref a1137), .val (.ref a1150), .val (.ref y1153), .val (.int (Int32.ofNat (([c1139, c1142, c1145, c1148]).take e1153).length))] [.int (1 : Int32)])
      refine go_ifeq d38_168 (fun c1162 => absurd c1162 (by decide)) (fun c1162 => ?_)
      refine go_aload d38_171 rfl rfl ?_
      refine go_aload d38_173 rfl rfl ?_
      refine go_iload d38_175 rfl ?_
      refine go_iconst (x := (3 : Int32)) d38_177 (by decide) ?_
      refine go_static (R := room_1) (kc := 23) (ks := 2204) [.ref y1153, .ref a1137, .int (4 : Int32), .int (3 : Int32)] [] (c_at l Z a0 hw hEL y1153 a1137 _ e1153 3 (by decide) _ _ S1161 h1153 T1153 f1156 u1153 zc Oc Pc sf rsf Os Oa Oh Ol) (hw _ (List.mem_of_getElem? (i := 53) rfl)) (hw _ (List.mem_of_getElem? (i := 54) rfl)) (hw _ (List.mem_of_getElem? (i := 56) rfl)) (hw _ (List.mem_of_getElem? (i := 55) rfl)) (by decide) rfl rfl (lenOf pd28 rfl) d38_178 (by rfl) (by decide) (Nat.le_of_ble_eq_true rfl) (rc := 0) (rs := 0) rfl rfl (fun S1163 v1163 h1163 m1163 z1163 q1163 => ?_)
      obtain ⟨rfl, rfl⟩ := q1163
      show Go _ _ _ _ _ _ _ _ _ _ _ _ _ _ _ _ _ (mkF K.m 181 #[.val (.int p0), .val (.int p1), .val (.int p2), .val (.int p3), .val (.int p4), .val (.int (4 : Int32)), .val (.ref a1137), .val (.ref a1150), .val (.ref y1153), .val (.int (Int32.ofNat (([c1139, c1142, c1145, c1148]).take e1153).length))] [.int (1 : Int32)])
      refine go_ifeq d38_181 (fun c1164 => absurd c1164 (by decide)) (fun c1164 => ?_)
      refine go_iconst (x := (1 : Int32)) d38_184 (by decide) ?_
      refine go_goto d38_185 ?_
      exact go_ireturn (ty := .boolean) (v := (1 : Int32)) d38_189 rfl (by simp) rfl rfl
    · have hep : 0 < e1153 := own_pos c113
      obtain ⟨i0, hi0⟩ : ∃ i0, e1153 = i0 + 1 := ⟨e1153 - 1, by omega⟩
      obtain ⟨d0, hd0, hd1⟩ := own_last u1153 hep
      refine go_aload d38_116 rfl rfl ?_
      refine go_iload d38_118 rfl ?_
      refine go_iconst (x := (1 : Int32)) d38_120 (by decide) ?_
      refine go_isub (v := (Int32.ofNat (e1153 - 1))) d38_121 (own_lenm u1153 hep) ?_
      refine go_virtual (R := room_1) (kc := 23) (ks := 2204) [.int (Int32.ofNat (e1153 - 1))] [] (c_chat l Z a0 hw hEL y1153 _ _ _ S1154 h1153 T1153 (e1153 - 1) d0 hd0 zc Oc Pc sf rsf Os Oa Oh Ol) T1153.1 (hw _ (List.mem_of_getElem? (i := 90) rfl)) (hw _ (List.mem_of_getElem? (i := 71) rfl)) (hw _ (List.mem_of_getElem? (i := 73) rfl)) (hw _ (List.mem_of_getElem? (i := 72) rfl)) (nfSel (hw _ (List.mem_of_getElem? (i := 73) rfl))) (hw _ (List.mem_of_getElem? (i := 74) rfl)) (hw _ (List.mem_of_getElem? (i := 4) rfl)) (by decide) rfl rfl (lenOf pd25 rfl) d38_122 (by rfl) (by decide) (Nat.le_of_ble_eq_true rfl) (rc := 0) (rs := 0) rfl rfl (fun S1165 v1165 h1165 m1165 z1165 q1165 => ?_)
      obtain ⟨rfl, rfl⟩ := q1165
      show Go _ _ _ _ _ _ _ _ _ _ _ _ _ _ _ _ _ (mkF K.m 125 #[.val (.int p0), .val (.int p1), .val (.int p2), .val (.int p3), .val (.int p4), .val (.int (4 : Int32)), .val (.ref a1137), .val (.ref a1150), .val (.ref y1153), .val (.int (Int32.ofNat (([c1139, c1142, c1145, c1148]).take e1153).length))] [.int d0])
      refine go_bipush (x := (32 : Int32)) d38_125 (by decide) ?_
      refine go_icmpne d38_127 (fun c1166 => ?_) (fun c1166 => absurd c1166 (hd1))
      refine go_aload d38_132 rfl rfl ?_
      refine go_aload d38_134 rfl rfl ?_
      refine go_iload d38_136 rfl ?_
      refine go_iconst (x := (0 : Int32)) d38_138 (by decide) ?_
      have f1167 := ((f1151.keep K1152 (ninS (ne_of (a := a1137) (b := a1150) (by omega)) nin0)).keep K1153 nin0)
      refine go_static (R := room_1) (kc := 23) (ks := 2204) [.ref y1153, .ref a1137, .int (4 : Int32), .int (0 : Int32)] [] (c_at l Z a0 hw hEL y1153 a1137 _ e1153 0 (by decide) _ _ S1165 h1153 T1153 f1167 u1153 zc Oc Pc sf rsf Os Oa Oh Ol) (hw _ (List.mem_of_getElem? (i := 53) rfl)) (hw _ (List.mem_of_getElem? (i := 54) rfl)) (hw _ (List.mem_of_getElem? (i := 56) rfl)) (hw _ (List.mem_of_getElem? (i := 55) rfl)) (by decide) rfl rfl (lenOf pd28 rfl) d38_139 (by rfl) (by decide) (Nat.le_of_ble_eq_true rfl) (rc := 0) (rs := 0) rfl rfl (fun S1168 v1168 h1168 m1168 z1168 q1168 => ?_)
      obtain ⟨rfl, rfl⟩ := q1168
      show Go _ _ _ _ _ _ _ _ _ _ _ _ _ _ _ _ _ (mkF K.m 142 #[.val (.int p0), .val (.int p1), .val (.int p2), .val (.int p3), .val (.int p4), .val (.int (4 : Int32)), .val (.ref a1137), .val (.ref a1150), .val (.ref y1153), .val (.int (Int32.ofNat (([c1139, c1142, c1145, c1148]).take e1153).length))] [.int (1 : Int32)])
      refine go_ifeq d38_142 (fun c1169 => absurd c1169 (by decide)) (fun c1169 => ?_)
      refine go_aload d38_145 rfl rfl ?_
      refine go_aload d38_147 rfl rfl ?_
      refine go_iload d38_149 rfl ?_
      refine go_iconst (x := (1 : Int32)) d38_151 (by decide) ?_
      refine go_static (R := room_1) (kc := 23) (ks := 2204) [.ref y1153, .ref a1137, .int (4 : Int32), .int (1 : Int32)] [] (c_at l Z a0 hw hEL y1153 a1137 _ e1153 1 (by decide) _ _ S1168 h1153 T1153 f1167 u1153 zc Oc Pc sf rsf Os Oa Oh Ol) (hw _ (List.mem_of_getElem? (i := 53) rfl)) (hw _ (List.mem_of_getElem? (i := 54) rfl)) (hw _ (List.mem_of_getElem? (i := 56) rfl)) (hw _ (List.mem_of_getElem? (i := 55) rfl)) (by decide) rfl rfl (lenOf pd28 rfl) d38_152 (by rfl) (by decide) (Nat.le_of_ble_eq_true rfl) (rc := 0) (rs := 0) rfl rfl (fun S1170 v1170 h1170 m1170 z1170 q1170 => ?_)
      obtain ⟨rfl, rfl⟩ := q1170
      show Go _ _ _ _ _ _ _ _ _ _ _ _ _ _ _ _ _ (mkF K.m 155 #[.val (.int p0), .val (.int p1), .val (.int p2), .val (.int p3), .val (.int p4), .val (.int (4 : Int32)), .val (.ref a1137), .val (.ref a1150), .val (.ref y1153), .val (.int (Int32.ofNat (([c1139, c1142, c1145, c1148]).take e1153).length))] [.int (1 : Int32)])
      refine go_ifeq d38_155 (fun c1171 => absurd c1171 (by decide)) (fun c1171 => ?_)
      refine go_aload d38_158 rfl rfl ?_
      refine go_aload d38_160 rfl rfl ?_
      refine go_iload d38_162 rfl ?_
      refine go_iconst (x := (2 : Int32)) d38_164 (by decide) ?_
      refine go_static (R := room_1) (kc := 23) (ks := 2204) [.ref y1153, .ref a1137, .int (4 : Int32), .int (2 : Int32)] [] (c_at l Z a0 hw hEL y1153 a1137 _ e1153 2 (by decide) _ _ S1170 h1153 T1153 f1167 u1153 zc Oc Pc sf rsf Os Oa Oh Ol) (hw _ (List.mem_of_getElem? (i := 53) rfl)) (hw _ (List.mem_of_getElem? (i := 54) rfl)) (hw _ (List.mem_of_getElem? (i := 56) rfl)) (hw _ (List.mem_of_getElem? (i := 55) rfl)) (by decide) rfl rfl (lenOf pd28 rfl) d38_165 (by rfl) (by decide) (Nat.le_of_ble_eq_true rfl) (rc := 0) (rs := 0) rfl rfl (fun S1172 v1172 h1172 m1172 z1172 q1172 => ?_)
      obtain ⟨rfl, rfl⟩ := q1172
      show Go _ _ _ _ _ _ _ _ _ _ _ _ _ _ _ _ _ (mkF K.m 168 #[.val (.int p0), .val (.int p1), .val (.int p2), .val (.int p3), .val (.int p4), .val (.int (4 : Int32)), .val (.ref a1137), .val (.ref a1150), .val (.ref y1153), .val (.int (Int32.ofNat (([c1139, c1142, c1145, c1148]).take e1153).length))] [.int (1 : Int32)])
      refine go_ifeq d38_168 (fun c1173 => absurd c1173 (by decide)) (fun c1173 => ?_)
      refine go_aload d38_171 rfl rfl ?_
      refine go_aload d38_173 rfl rfl ?_
      refine go_iload d38_175 rfl ?_
      refine go_iconst (x := (3 : Int32)) d38_177 (by decide) ?_
      refine go_static (R := room_1) (kc := 23) (ks := 2204) [.ref y1153, .ref a1137, .int (4 : Int32), .int (3 : Int32)] [] (c_at l Z a0 hw hEL y1153 a1137 _ e1153 3 (by decide) _ _ S1172 h1153 T1153 f1167 u1153 zc Oc Pc sf rsf Os Oa Oh Ol) (hw _ (List.mem_of_getElem? (i := 53) rfl)) (hw _ (List.mem_of_getElem? (i := 54) rfl)) (hw _ (List.mem_of_getElem? (i := 56) rfl)) (hw _ (List.mem_of_getElem? (i := 55) rfl)) (by decide) rfl rfl (lenOf pd28 rfl) d38_178 (by rfl) (by decide) (Nat.le_of_ble_eq_true rfl) (rc := 0) (rs := 0) rfl rfl (fun S1174 v1174 h1174 m1174 z1174 q1174 => ?_)
      obtain ⟨rfl, rfl⟩ := q1174
      show Go _ _ _ _ _ _ _ _ _ _ _ _ _ _ _ _ _ (mkF K.m 181 #[.val (.int p0), .val (.int p1), .val (.int p2), .val (.int p3), .val (.int p4), .val (.int (4 : Int32)), .val (.ref a1137), .val (.ref a1150), .val (.ref y1153), .val (.int (Int32.ofNat (([c1139, c1142, c1145, c1148]).take e1153).length))] [.int (1 : Int32)])
      refine go_ifeq d38_181 (fun c1175 => absurd c1175 (by decide)) (fun c1175 => ?_)
      refine go_iconst (x := (1 : Int32)) d38_184 (by decide) ?_
      refine go_goto d38_185 ?_
      exact go_ireturn (ty := .boolean) (v := (1 : Int32)) d38_189 rfl (by simp) rfl rfl
set_option maxRecDepth 65536 in
set_option maxHeartbeats 40000000 in
theorem comes_1 {Post : Tables → Env → Array Value → State → Outcome → State → Prop} (hpost : ∀ tb e args s v u, (limb_1_1.after args s (.returned v) u = true ∧ limb_1_2.after args s (.returned v) u = true ∧ True) → ReturnedEndW s (.returned v) u (Jvm.fieldLocs frame_1_writes args s ++ Jvm.arrayLocs frame_1_arrays args s ++ Jvm.staticLocs frame_1_statics s) 32 2240 → Post tb e args s (.returned v) u) :
    ArmFor flags0 classFile x code maxLocals ret World_1 tables_1 room_1 Calls_1 rest_1 Pre_1 Post := by
  intro l hfl _ _ p e ha hc hk s m args below hf hA hF happ hP
  obtain ⟨hcalls, hrest, hpre⟩ := hP
  obtain ⟨-, -, -, hnamed, -, -, -, hat⟩ := (Spec.applies_iff hf).mp happ
  obtain ⟨hg, hn⟩ := and_e (Cond.before_iff.mp (show (Jvm.Cond.and given_1 narrow_1).before args s = true from hpre))
  obtain ⟨g0, r0⟩ := and_e hg
  obtain ⟨g1, r1⟩ := and_e r0
  obtain ⟨g2, r2⟩ := and_e r1
  obtain ⟨g3, r3⟩ := and_e r2
  obtain ⟨g4, r4⟩ := and_e r3
  have g5 := r4
  obtain ⟨w0, w1, w2, w3, w4, rfl⟩ : ∃ w0 w1 w2 w3 w4 : Value, args = #[w0, w1, w2, w3, w4] := by
    have hs : args.size = 5 := by simpa [Cond.value, given_1] using g0
    obtain ⟨L⟩ := args
    match L, hs with
    | [w0, w1, w2, w3, w4], _ => exact ⟨w0, w1, w2, w3, w4, rfl⟩
  have hw := fun d (hd : d ∈ tables_1) => atoms_spec (ws := Jvm.Cond.code x code maxLocals ret :: tables_1) hat d (List.mem_cons_of_mem _ hd)
  have hfit : Fit s := fun {y c} hc i hi => by
    obtain ⟨ha, rfl⟩ := Array.getElem?_eq_some_iff.mp hc
    have q := List.all_eq_true.mp ((Array.all_eq_true_iff_forall_mem.mp hF) _ (Array.getElem_mem ha)) i (List.mem_range.mpr hi)
    simpa [Array.getElem?_eq_getElem hi] using q
  obtain ⟨hsets, hown0⟩ := atoms_of _ (rest_1_c_eq ▸ (show rest_1_c.before _ s = true from hrest))
  obtain ⟨i0, ei0⟩ := is_v g1
  obtain rfl : w0 = (.int i0) := Option.some.inj ei0
  obtain ⟨i1, ei1⟩ := is_v g2
  obtain rfl : w1 = (.int i1) := Option.some.inj ei1
  obtain ⟨i2, ei2⟩ := is_v g3
  obtain rfl : w2 = (.int i2) := Option.some.inj ei2
  obtain ⟨i3, ei3⟩ := is_v g4
  obtain rfl : w3 = (.int i3) := Option.some.inj ei3
  obtain ⟨i4, ei4⟩ := is_v g5
  obtain rfl : w4 = (.int i4) := Option.some.inj ei4
  have hEL : EW s _ own_EL := (EW.cons (text := "") (hw _ (List.mem_of_getElem? (i := 15) rfl)) (by decide) (EW.cons (text := "") (hw _ (List.mem_of_getElem? (i := 168) rfl)) (by decide) EW.nil))
  have hCH : CHv s own_EL s.vm s.heap := CHv.start hEL (fun p hp => hcalls.1 p hp) (hsets _ (List.mem_of_getElem? (i := 2) rfl)) (hw _ (List.mem_of_getElem? (i := 16) rfl)) (hw _ (List.mem_of_getElem? (i := 3) rfl))
  obtain ⟨zc, ezc⟩ := is_v (Cond.before_iff.mp (hsets _ (List.mem_of_getElem? (i := 1) rfl)))
  have Oc : Sta s s.heap "java/lang/String" "COMPACT_STRINGS" "Z" (.int zc) := Sta.start ezc (Or.inl (hsets _ (List.mem_of_getElem? (i := 0) rfl)))
  have Pc : ¬ (zc = (0 : Int32)) := gotF (Cond.eq_ints ezc (Term.int_eval (0))) (not_v (Cond.before_iff.mp (hsets _ (List.mem_of_getElem? (i := 2) rfl))))
  have Oa : Sta s s.heap "java/lang/StringUTF16" "$assertionsDisabled" "Z" (.int (1 : Int32)) := Sta.start (own_eqint (Cond.before_iff.mp (hsets _ (List.mem_of_getElem? (i := 12) rfl)))) (Or.inl (hsets _ (List.mem_of_getElem? (i := 11) rfl)))
  have Oh : Sta s s.heap "java/lang/StringUTF16" "HI_BYTE_SHIFT" "I" (.int (0 : Int32)) := Sta.start (own_eqint (Cond.before_iff.mp (hsets _ (List.mem_of_getElem? (i := 15) rfl)))) (Or.inl (hsets _ (List.mem_of_getElem? (i := 14) rfl)))
  have Ol : Sta s s.heap "java/lang/StringUTF16" "LO_BYTE_SHIFT" "I" (.int (8 : Int32)) := Sta.start (own_eqint (Cond.before_iff.mp (hsets _ (List.mem_of_getElem? (i := 18) rfl)))) (Or.inl (hsets _ (List.mem_of_getElem? (i := 17) rfl)))
  obtain ⟨sf, esf, rsf⟩ := isR_v (Cond.before_iff.mp (hsets _ (List.mem_of_getElem? (i := 8) rfl)))
  have Os : Sta s s.heap "jdk/internal/util/Preconditions" "SIOOBE_FORMATTER" "Ljava/util/function/BiFunction;" sf := Sta.start esf (Or.inl (hsets _ (List.mem_of_getElem? (i := 7) rfl)))
  obtain ⟨n, o, h1, h2, h3, _, L, rfl, ⟨⟨S, -, -, -, rfl⟩, N⟩, -, hq⟩ := c_law l s _ hw hEL i0 i1 i2 i3 i4 zc Oc Pc sf rsf Os Oa Oh Ol p e ha hc hk s m _ below hf ((Spec.applies_iff_loose hf).mp happ).1 ⟨rfl, State.Warmed39.refl s, rfl, hCH, fun _ q => q.elim, ⟨Nat.le_refl _, fun _ _ q => q⟩⟩ trivial
  refine ⟨n, _, h1, h2, h3, hpost _ _ _ _ _ _ ⟨Cond.after_iff.mpr rfl, Cond.after_iff.mpr (eq_i res_at (Term.int_eval (1)) rfl), trivial⟩ ⟨hq.1, hq.2.1, hq.2.2.1, (hq.2.2.2.sift fun y hy => Or.inr (N y hy)).mono (by decide) (by decide)⟩⟩
theorem main_1_1 : Claimed_1_1 := comes_1 fun _ _ _ _ _ _ h hF => ⟨h.1, hF⟩
theorem main_1_2 : Claimed_1_2 := comes_1 fun _ _ _ _ _ _ h hF => ⟨h.2.1, hF⟩
end Jvm.Pilot.@@N@@
namespace Jvm.Pilot.@@N@@
open Jvm Jvm.ClassFile Sem Op Lib Jvm.Free Jvm.Stand Jvm.Pilot.@@N@@.Jvm.D
/-! MADE BY PROGRAM (witnessworld.py) out of the Statement's table words and the real class files: 23 classes; the members and pool entries that the words name. The judged class is class 1, her method 3. -/
namespace start1
open Jvm.ClassFile
def u (s : String) : CpInfo := .utf8 (stringToUtf16 s)
/-- a pool by its gaps: so many unusable entries, then the entry; so many at the end -/
def gap : Nat → List CpInfo → List CpInfo
  | 0, r => r
  | n + 1, r => .unusable :: gap n r
def poolList (es : List (Nat × CpInfo)) (last : Nat) : List CpInfo := es.foldr (fun e r => gap e.1 (e.2 :: r)) (gap last [])
def pool (es : List (Nat × CpInfo)) (last : Nat) : Array CpInfo := ⟨poolList es last⟩
def fileOf (pool : Array CpInfo) (this : Nat) (attrs : Array Attribute := #[]) (ms : Array MethodInfo := #[]) (fl : Nat := 33) (sup : Nat := 0) (ifs : Array Nat := #[]) (fds : Array FieldInfo := #[]) : ClassFile where
  minorVersion := 0
  majorVersion := 65
  constantPool := pool
  accessFlags := fl
  thisClass := this
  superClass := sup
  interfaces := ifs
  fields := fds
  methods := ms
  attributes := attrs
def plain (name : String) (sup : Option ClassId) : Class where
  name := name
  kind := .ordinary
  loader := none
  accessFlags := 33
  super := sup
  interfaces := #[]
  cf := none
  fields := #[]
  methods := #[]
  instanceTypes := #[]
  staticTypes := #[]
  resolved := #[]
  callSites := []
  init := .initialized
  statics := none
  mirror := none

def pool0 : Array CpInfo := pool [(5, u "<init>"), (0, u "()V"), (1, .class_ 10), (1, u "java/lang/Object")] 113

def k0c0 : Code := { maxStack := 0, maxLocals := 1, code := object_method_1_code, exceptionTable := #[], attributes := #[] }
def k0m0 : Method := { name := "<init>", desc := "()V", sig := { parameters := [], returnType := none }, accessFlags := 1, code := some k0c0 }
/-- java/lang/Object -/
def k0 : Class := { plain "java/lang/Object" none with
  accessFlags := 33
  interfaces := #[]
  cf := some (fileOf pool0 8 #[] #[{ accessFlags := 1, nameIndex := 5, descriptorIndex := 6, attributes := #[] }] 33 0 #[] #[])
  fields := #[]
  methods := #[k0m0]
  instanceTypes := #[]
  staticTypes := #[]
  resolved := Array.replicate 124 none
  statics := none }

def pool1 : Array CpInfo := pool [(2, .class_ 4), (1, u "java/lang/Object"), (0, u "<init>"), (0, u "()V"), (0, .methodref 8 9), (0, .class_ 10), (0, .nameAndType 11 12), (0, u "java/lang/String"), (0, u "length"), (0, u "()I"), (0, .methodref 8 14), (0, .nameAndType 15 16), (0, u "charAt"), (0, u "(I)C"), (0, .integer 2147483647), (0, .methodref 19 20), (0, .class_ 21), (0, .nameAndType 22 16), (0, u "com/example/rackwire/rackwire/idoc/LayoutWithoutTrailingBlanksPinLaw"), (0, u "ch"), (0, .methodref 8 24), (0, .nameAndType 5 25), (0, u "([C)V"), (0, .methodref 27 28), (0, .class_ 29), (0, .nameAndType 30 31), (0, u "com/example/rackwire/rackwire/idoc/Layout"), (0, u "withoutTrailingBlanks"), (0, u "(Ljava/lang/String;)Ljava/lang/String;"), (0, .methodref 19 33), (0, .nameAndType 34 35), (0, u "at"), (0, u "(Ljava/lang/String;[CII)Z"), (3, u "law"), (0, u "(IIIII)Z")] 4

def k1m0 : Method := { name := "<init>", desc := "()V", sig := { parameters := [], returnType := none }, accessFlags := 2, code := none }
def k1c1 : Code := { maxStack := 2, maxLocals := 1, code := method_2_code, exceptionTable := #[], attributes := #[] }
def k1m1 : Method := { name := "ch", desc := "(I)C", sig := { parameters := [.int], returnType := some .char }, accessFlags := 10, code := some k1c1 }
def k1c2 : Code := { maxStack := 3, maxLocals := 4, code := method_3_code, exceptionTable := #[], attributes := #[] }
def k1m2 : Method := { name := "at", desc := "(Ljava/lang/String;[CII)Z", sig := { parameters := [(.object "java/lang/String"), (.array .char), .int, .int], returnType := some .boolean }, accessFlags := 10, code := some k1c2 }
def k1c3 : Code := { maxStack := 4, maxLocals := 10, code := code, exceptionTable := #[], attributes := #[] }
def k1m3 : Method := { name := "law", desc := "(IIIII)Z", sig := { parameters := [.int, .int, .int, .int, .int], returnType := some .boolean }, accessFlags := 9, code := some k1c3 }
/-- com/example/rackwire/rackwire/idoc/LayoutWithoutTrailingBlanksPinLaw -/
def k1 : Class := { plain "com/example/rackwire/rackwire/idoc/LayoutWithoutTrailingBlanksPinLaw" (some 0) with
  accessFlags := 49
  interfaces := #[]
  cf := some (fileOf pool1 19 #[] #[{ accessFlags := 2, nameIndex := 5, descriptorIndex := 6, attributes := #[] }, { accessFlags := 10, nameIndex := 22, descriptorIndex := 16, attributes := #[] }, { accessFlags := 10, nameIndex := 34, descriptorIndex := 35, attributes := #[] }, { accessFlags := 9, nameIndex := 39, descriptorIndex := 40, attributes := #[] }] 49 2 #[] #[])
  fields := #[]
  methods := #[k1m0, k1m1, k1m2, k1m3]
  instanceTypes := #[]
  staticTypes := #[]
  resolved := Array.replicate 45 none
  statics := none }

def pool2 : Array CpInfo := pool [(1, .class_ 2), (0, u "java/io/Serializable"), (0, .class_ 4), (0, u "java/lang/Object")] 2

/-- java/io/Serializable -/
def k2 : Class := { plain "java/io/Serializable" (some 0) with
  accessFlags := 1537
  interfaces := #[]
  cf := some (fileOf pool2 1 #[] #[] 1537 3 #[] #[])
  fields := #[]
  methods := #[]
  instanceTypes := #[]
  staticTypes := #[]
  resolved := Array.replicate 7 none
  statics := none }

def pool3 : Array CpInfo := pool [(1, .class_ 2), (0, u "java/lang/Comparable"), (0, .class_ 4), (0, u "java/lang/Object")] 7

/-- java/lang/Comparable -/
def k3 : Class := { plain "java/lang/Comparable" (some 0) with
  accessFlags := 1537
  interfaces := #[]
  cf := some (fileOf pool3 1 #[] #[] 1537 3 #[] #[])
  fields := #[]
  methods := #[]
  instanceTypes := #[]
  staticTypes := #[]
  resolved := Array.replicate 12 none
  statics := none }

def pool4 : Array CpInfo := pool [(2, .class_ 4), (1, u "java/lang/CharSequence"), (42, .class_ 48), (0, u "java/lang/CharSequence$1CodePointIterator"), (10, .class_ 60), (0, u "java/lang/CharSequence$1CharIterator"), (5, .class_ 67), (0, u "java/lang/Object")] 63

/-- java/lang/CharSequence -/
def k4 : Class := { plain "java/lang/CharSequence" (some 0) with
  accessFlags := 1537
  interfaces := #[]
  cf := some (fileOf pool4 2 #[.nestMembers #[47, 59]] #[] 1537 66 #[] #[])
  fields := #[]
  methods := #[]
  instanceTypes := #[]
  staticTypes := #[]
  resolved := Array.replicate 131 none
  statics := none }

def pool5 : Array CpInfo := pool [(1, .class_ 2), (0, u "java/lang/constant/Constable"), (0, .class_ 4), (0, u "java/lang/Object")] 6

/-- java/lang/constant/Constable -/
def k5 : Class := { plain "java/lang/constant/Constable" (some 0) with
  accessFlags := 1537
  interfaces := #[]
  cf := some (fileOf pool5 1 #[] #[] 1537 3 #[] #[])
  fields := #[]
  methods := #[]
  instanceTypes := #[]
  staticTypes := #[]
  resolved := Array.replicate 11 none
  statics := none }

def pool6 : Array CpInfo := pool [(1, .class_ 2), (0, u "java/lang/constant/ConstantDesc"), (0, .class_ 4), (0, u "java/lang/Object")] 32

/-- java/lang/constant/ConstantDesc -/
def k6 : Class := { plain "java/lang/constant/ConstantDesc" (some 0) with
  accessFlags := 1537
  interfaces := #[]
  cf := some (fileOf pool6 1 #[] #[] 1537 3 #[] #[])
  fields := #[]
  methods := #[]
  instanceTypes := #[]
  staticTypes := #[]
  resolved := Array.replicate 37 none
  statics := none }

def pool7 : Array CpInfo := pool [(1, .methodref 2 3), (0, .class_ 4), (0, .nameAndType 5 6), (0, u "java/lang/Object"), (0, u "<init>"), (0, u "()V"), (0, .string 8), (0, u ""), (0, .fieldref 10 11), (0, .class_ 12), (0, .nameAndType 13 14), (0, u "java/lang/String"), (0, u "value"), (0, u "[B"), (0, .fieldref 10 16), (0, .nameAndType 17 18), (0, u "coder"), (0, u "B"), (2, u "hash"), (0, u "I"), (2, u "hashIsZero"), (0, u "Z"), (0, .methodref 10 28), (0, .nameAndType 5 29), (0, u "([CIILjava/lang/Void;)V"), (6, u "checkBoundsOffCount"), (0, u "(III)I"), (0, .fieldref 10 39), (0, .nameAndType 40 26), (0, u "COMPACT_STRINGS"), (1, .class_ 44), (1, u "java/lang/StringUTF16"), (0, u "compress"), (1, .methodref 42 48), (0, .nameAndType 49 50), (0, u "coderFromArrayLen"), (0, u "([BI)B"), (56, .class_ 109), (1, u "java/lang/StringLatin1"), (32, u "()Z"), (34, .methodref 42 178), (0, .nameAndType 45 179), (0, u "([CII)[B"), (31, u "([BB)V"), (122, u "()I"), (0, .methodref 10 336), (0, .nameAndType 17 337), (0, u "()B"), (25, u "([BI)C"), (27, u "(II)V"), (35, u "(I)C"), (64, .methodref 10 493), (0, .nameAndType 494 142), (0, u "isLatin1"), (0, .methodref 107 496), (0, .nameAndType 497 363), (0, u "charAt"), (0, .methodref 42 496), (2, u "checkIndex"), (3, .methodref 10 506), (0, .nameAndType 507 334), (0, u "length"), (5, u "checkFromToIndex"), (7, .methodref 10 522), (0, .nameAndType 523 524), (0, u "checkBoundsBeginEnd"), (0, u "(III)V"), (50, .class_ 576), (0, u "java/lang/CharSequence"), (22, u "CASE_INSENSITIVE_ORDER"), (0, u "Ljava/util/Comparator;"), (82, u "substring"), (0, u "(II)Ljava/lang/String;"), (0, .methodref 107 686), (0, .nameAndType 687 688), (0, u "newString"), (0, u "([BII)Ljava/lang/String;"), (0, .methodref 42 686), (320, u "([C)V"), (42, .fieldref 1054 1055), (0, .class_ 1056), (0, .nameAndType 1057 1058), (0, u "jdk/internal/util/Preconditions"), (0, u "SIOOBE_FORMATTER"), (0, u "Ljava/util/function/BiFunction;"), (0, .methodref 1054 1060), (0, .nameAndType 501 1061), (0, u "(IILjava/util/function/BiFunction;)I"), (0, .methodref 1054 1063), (0, .nameAndType 513 1064), (0, u "(IIILjava/util/function/BiFunction;)I"), (0, .methodref 1054 1066), (0, .nameAndType 1067 1064), (0, u "checkFromIndexSize"), (33, u "serialPersistentFields"), (0, u "[Ljava/io/ObjectStreamField;"), (0, .class_ 1104), (0, u "java/lang/String$CaseInsensitiveComparator"), (1, .class_ 1107), (0, u "java/io/Serializable"), (0, .class_ 1109), (0, u "java/lang/Comparable"), (0, .class_ 1111), (0, u "java/lang/constant/Constable"), (0, .class_ 1113), (0, u "java/lang/constant/ConstantDesc"), (2, u "serialVersionUID"), (0, u "J"), (3, u "REPL"), (0, u "C"), (2, u "LATIN1"), (1, u "UTF16")] 323

def k7m0 : Method := { name := "<init>", desc := "()V", sig := { parameters := [], returnType := none }, accessFlags := 1, code := none }
def k7c1 : Code := { maxStack := 5, maxLocals := 2, code := jdk_42_method_3_code, exceptionTable := #[], attributes := #[] }
def k7m1 : Method := { name := "<init>", desc := "([C)V", sig := { parameters := [(.array .char)], returnType := none }, accessFlags := 1, code := some k7c1 }
def k7c2 : Code := { maxStack := 2, maxLocals := 1, code := jdk_42_method_54_code, exceptionTable := #[], attributes := #[] }
def k7m2 : Method := { name := "length", desc := "()I", sig := { parameters := [], returnType := some .int }, accessFlags := 1, code := some k7c2 }
def k7c3 : Code := { maxStack := 2, maxLocals := 2, code := jdk_42_method_56_code, exceptionTable := #[], attributes := #[] }
def k7m3 : Method := { name := "charAt", desc := "(I)C", sig := { parameters := [.int], returnType := some .char }, accessFlags := 1, code := some k7c3 }
def k7c4 : Code := { maxStack := 3, maxLocals := 5, code := jdk_42_method_92_code, exceptionTable := #[], attributes := #[] }
def k7m4 : Method := { name := "substring", desc := "(II)Ljava/lang/String;", sig := { parameters := [.int, .int], returnType := some (.object "java/lang/String") }, accessFlags := 1, code := some k7c4 }
def k7c5 : Code := { maxStack := 4, maxLocals := 6, code := jdk_42_method_149_code, exceptionTable := #[], attributes := #[] }
def k7m5 : Method := { name := "<init>", desc := "([CIILjava/lang/Void;)V", sig := { parameters := [(.array .char), .int, .int, (.object "java/lang/Void")], returnType := none }, accessFlags := 2, code := some k7c5 }
def k7c6 : Code := { maxStack := 2, maxLocals := 3, code := jdk_42_method_151_code, exceptionTable := #[], attributes := #[] }
def k7m6 : Method := { name := "<init>", desc := "([BB)V", sig := { parameters := [(.array .byte), .byte], returnType := none }, accessFlags := 0, code := some k7c6 }
def k7c7 : Code := { maxStack := 1, maxLocals := 1, code := jdk_42_method_152_code, exceptionTable := #[], attributes := #[] }
def k7m7 : Method := { name := "coder", desc := "()B", sig := { parameters := [], returnType := some .byte }, accessFlags := 0, code := some k7c7 }
def k7c8 : Code := { maxStack := 1, maxLocals := 1, code := jdk_42_method_154_code, exceptionTable := #[], attributes := #[] }
def k7m8 : Method := { name := "isLatin1", desc := "()Z", sig := { parameters := [], returnType := some .boolean }, accessFlags := 0, code := some k7c8 }
def k7c9 : Code := { maxStack := 3, maxLocals := 2, code := jdk_42_method_155_code, exceptionTable := #[], attributes := #[] }
def k7m9 : Method := { name := "checkIndex", desc := "(II)V", sig := { parameters := [.int, .int], returnType := none }, accessFlags := 8, code := some k7c9 }
def k7c10 : Code := { maxStack := 4, maxLocals := 3, code := jdk_42_method_157_code, exceptionTable := #[], attributes := #[] }
def k7m10 : Method := { name := "checkBoundsOffCount", desc := "(III)I", sig := { parameters := [.int, .int, .int], returnType := some .int }, accessFlags := 8, code := some k7c10 }
def k7c11 : Code := { maxStack := 4, maxLocals := 3, code := jdk_42_method_158_code, exceptionTable := #[], attributes := #[] }
def k7m11 : Method := { name := "checkBoundsBeginEnd", desc := "(III)V", sig := { parameters := [.int, .int, .int], returnType := none }, accessFlags := 8, code := some k7c11 }
/-- java/lang/String -/
def k7 : Class := { plain "java/lang/String" (some 0) with
  accessFlags := 49
  interfaces := #[2, 3, 4, 5, 6]
  cf := some (fileOf pool7 10 #[.nestMembers #[1103]] #[{ accessFlags := 1, nameIndex := 5, descriptorIndex := 6, attributes := #[] }, { accessFlags := 1, nameIndex := 5, descriptorIndex := 1010, attributes := #[] }, { accessFlags := 1, nameIndex := 507, descriptorIndex := 334, attributes := #[] }, { accessFlags := 1, nameIndex := 497, descriptorIndex := 427, attributes := #[] }, { accessFlags := 1, nameIndex := 683, descriptorIndex := 684, attributes := #[] }, { accessFlags := 2, nameIndex := 5, descriptorIndex := 29, attributes := #[] }, { accessFlags := 0, nameIndex := 5, descriptorIndex := 211, attributes := #[] }, { accessFlags := 0, nameIndex := 17, descriptorIndex := 337, attributes := #[] }, { accessFlags := 0, nameIndex := 494, descriptorIndex := 142, attributes := #[] }, { accessFlags := 8, nameIndex := 501, descriptorIndex := 391, attributes := #[] }, { accessFlags := 8, nameIndex := 36, descriptorIndex := 37, attributes := #[] }, { accessFlags := 8, nameIndex := 523, descriptorIndex := 524, attributes := #[] }] 49 2 #[1106, 1108, 575, 1110, 1112] #[{ accessFlags := 18, nameIndex := 13, descriptorIndex := 14, attributes := #[] }, { accessFlags := 18, nameIndex := 17, descriptorIndex := 18, attributes := #[] }, { accessFlags := 2, nameIndex := 21, descriptorIndex := 22, attributes := #[] }, { accessFlags := 2, nameIndex := 25, descriptorIndex := 26, attributes := #[] }, { accessFlags := 26, nameIndex := 1116, descriptorIndex := 1117, attributes := #[] }, { accessFlags := 24, nameIndex := 40, descriptorIndex := 26, attributes := #[] }, { accessFlags := 26, nameIndex := 1101, descriptorIndex := 1102, attributes := #[] }, { accessFlags := 26, nameIndex := 1121, descriptorIndex := 1122, attributes := #[] }, { accessFlags := 25, nameIndex := 599, descriptorIndex := 600, attributes := #[] }, { accessFlags := 24, nameIndex := 1125, descriptorIndex := 18, attributes := #[] }, { accessFlags := 24, nameIndex := 1127, descriptorIndex := 18, attributes := #[] }])
  fields := #[{ name := "value", type := (.array .byte), accessFlags := 18, slot := 0, constantValue := 0 }, { name := "coder", type := .byte, accessFlags := 18, slot := 1, constantValue := 0 }, { name := "hash", type := .int, accessFlags := 2, slot := 2, constantValue := 0 }, { name := "hashIsZero", type := .boolean, accessFlags := 2, slot := 3, constantValue := 0 }, { name := "serialVersionUID", type := .long, accessFlags := 26, slot := 0, constantValue := 0 }, { name := "COMPACT_STRINGS", type := .boolean, accessFlags := 24, slot := 1, constantValue := 0 }, { name := "serialPersistentFields", type := (.array (.object "java/io/ObjectStreamField")), accessFlags := 26, slot := 2, constantValue := 0 }, { name := "REPL", type := .char, accessFlags := 26, slot := 3, constantValue := 0 }, { name := "CASE_INSENSITIVE_ORDER", type := (.object "java/util/Comparator"), accessFlags := 25, slot := 4, constantValue := 0 }, { name := "LATIN1", type := .byte, accessFlags := 24, slot := 5, constantValue := 0 }, { name := "UTF16", type := .byte, accessFlags := 24, slot := 6, constantValue := 0 }]
  methods := #[k7m0, k7m1, k7m2, k7m3, k7m4, k7m5, k7m6, k7m7, k7m8, k7m9, k7m10, k7m11]
  instanceTypes := #[(.array .byte), .byte, .int, .boolean]
  staticTypes := #[.long, .boolean, (.array (.object "java/io/ObjectStreamField")), .char, (.object "java/util/Comparator"), .byte, .byte]
  resolved := Array.replicate 1451 none
  statics := some 0 }

def pool8 : Array CpInfo := pool [(2, .class_ 4), (1, u "java/lang/Object"), (6, .class_ 13), (1, u "com/example/rackwire/rackwire/idoc/Layout"), (0, u "named"), (0, u "Ljava/util/Map;"), (2, u "name"), (0, u "Ljava/lang/String;"), (8, u "fields"), (0, u "Ljava/util/List;"), (28, u "()I"), (9, u "length"), (0, u "I"), (4, .class_ 76), (1, u "java/lang/String"), (46, .methodref 74 124), (0, .nameAndType 68 58), (25, .methodref 74 151), (0, .nameAndType 152 153), (0, u "charAt"), (0, u "(I)C"), (0, .methodref 74 155), (0, .nameAndType 156 157), (0, u "substring"), (0, u "(II)Ljava/lang/String;"), (26, u "withoutTrailingBlanks"), (0, u "(Ljava/lang/String;)Ljava/lang/String;")] 76

def k8c0 : Code := { maxStack := 3, maxLocals := 2, code := prog_20_method_13_code, exceptionTable := #[], attributes := #[] }
def k8m0 : Method := { name := "withoutTrailingBlanks", desc := "(Ljava/lang/String;)Ljava/lang/String;", sig := { parameters := [(.object "java/lang/String")], returnType := some (.object "java/lang/String") }, accessFlags := 8, code := some k8c0 }
/-- com/example/rackwire/rackwire/idoc/Layout -/
def k8 : Class := { plain "com/example/rackwire/rackwire/idoc/Layout" (some 0) with
  accessFlags := 49
  interfaces := #[]
  cf := some (fileOf pool8 11 #[] #[{ accessFlags := 8, nameIndex := 184, descriptorIndex := 185, attributes := #[] }] 49 2 #[] #[{ accessFlags := 18, nameIndex := 18, descriptorIndex := 19, attributes := #[] }, { accessFlags := 18, nameIndex := 28, descriptorIndex := 29, attributes := #[] }, { accessFlags := 18, nameIndex := 14, descriptorIndex := 15, attributes := #[] }, { accessFlags := 18, nameIndex := 68, descriptorIndex := 69, attributes := #[] }])
  fields := #[{ name := "name", type := (.object "java/lang/String"), accessFlags := 18, slot := 0, constantValue := 0 }, { name := "fields", type := (.object "java/util/List"), accessFlags := 18, slot := 1, constantValue := 0 }, { name := "named", type := (.object "java/util/Map"), accessFlags := 18, slot := 2, constantValue := 0 }, { name := "length", type := .int, accessFlags := 18, slot := 3, constantValue := 0 }]
  methods := #[k8m0]
  instanceTypes := #[(.object "java/lang/String"), (.object "java/util/List"), (.object "java/util/Map"), .int]
  staticTypes := #[]
  resolved := Array.replicate 262 none
  statics := none }

def pool9 : Array CpInfo := pool [(2, .class_ 4), (1, u "java/lang/Object"), (0, u "<init>"), (0, u "()V"), (17, .class_ 26), (1, u "jdk/internal/util/Preconditions"), (6, u "checkIndex"), (13, u "checkFromToIndex"), (1, u "checkFromIndexSize"), (5, .class_ 56), (0, u "jdk/internal/util/Preconditions$4"), (57, .class_ 115), (0, u "jdk/internal/util/Preconditions$1"), (7, u "SIOOBE_FORMATTER"), (0, u "Ljava/util/function/BiFunction;"), (0, .class_ 126), (0, u "jdk/internal/util/Preconditions$2"), (3, u "AIOOBE_FORMATTER"), (0, .class_ 132), (0, u "jdk/internal/util/Preconditions$3"), (3, u "IOOBE_FORMATTER"), (41, u "(IILjava/util/function/BiFunction;)I"), (4, u "(IIILjava/util/function/BiFunction;)I")] 10

def k9m0 : Method := { name := "<init>", desc := "()V", sig := { parameters := [], returnType := none }, accessFlags := 1, code := none }
def k9c1 : Code := { maxStack := 3, maxLocals := 3, code := jdk_41_method_11_code, exceptionTable := #[], attributes := #[] }
def k9m1 : Method := { name := "checkIndex", desc := "(IILjava/util/function/BiFunction;)I", sig := { parameters := [.int, .int, (.object "java/util/function/BiFunction")], returnType := some .int }, accessFlags := 9, code := some k9c1 }
def k9c2 : Code := { maxStack := 4, maxLocals := 4, code := jdk_41_method_12_code, exceptionTable := #[], attributes := #[] }
def k9m2 : Method := { name := "checkFromToIndex", desc := "(IIILjava/util/function/BiFunction;)I", sig := { parameters := [.int, .int, .int, (.object "java/util/function/BiFunction")], returnType := some .int }, accessFlags := 9, code := some k9c2 }
def k9c3 : Code := { maxStack := 4, maxLocals := 4, code := jdk_41_method_13_code, exceptionTable := #[], attributes := #[] }
def k9m3 : Method := { name := "checkFromIndexSize", desc := "(IIILjava/util/function/BiFunction;)I", sig := { parameters := [.int, .int, .int, (.object "java/util/function/BiFunction")], returnType := some .int }, accessFlags := 9, code := some k9c3 }
/-- jdk/internal/util/Preconditions -/
def k9 : Class := { plain "jdk/internal/util/Preconditions" (some 0) with
  accessFlags := 33
  interfaces := #[]
  cf := some (fileOf pool9 24 #[.nestMembers #[55, 131, 125, 114]] #[{ accessFlags := 1, nameIndex := 5, descriptorIndex := 6, attributes := #[] }, { accessFlags := 9, nameIndex := 33, descriptorIndex := 178, attributes := #[] }, { accessFlags := 9, nameIndex := 47, descriptorIndex := 183, attributes := #[] }, { accessFlags := 9, nameIndex := 49, descriptorIndex := 183, attributes := #[] }] 33 2 #[] #[{ accessFlags := 25, nameIndex := 123, descriptorIndex := 124, attributes := #[] }, { accessFlags := 25, nameIndex := 130, descriptorIndex := 124, attributes := #[] }, { accessFlags := 25, nameIndex := 136, descriptorIndex := 124, attributes := #[] }])
  fields := #[{ name := "SIOOBE_FORMATTER", type := (.object "java/util/function/BiFunction"), accessFlags := 25, slot := 0, constantValue := 0 }, { name := "AIOOBE_FORMATTER", type := (.object "java/util/function/BiFunction"), accessFlags := 25, slot := 1, constantValue := 0 }, { name := "IOOBE_FORMATTER", type := (.object "java/util/function/BiFunction"), accessFlags := 25, slot := 2, constantValue := 0 }]
  methods := #[k9m0, k9m1, k9m2, k9m3]
  instanceTypes := #[]
  staticTypes := #[(.object "java/util/function/BiFunction"), (.object "java/util/function/BiFunction"), (.object "java/util/function/BiFunction")]
  resolved := Array.replicate 194 none
  statics := some 1 }

def pool10 : Array CpInfo := pool [(3, .class_ 4), (0, u "java/lang/String"), (1, .class_ 8), (1, u "java/lang/Object"), (0, u "<init>"), (0, u "()V"), (0, .methodref 12 13), (0, .class_ 14), (0, .nameAndType 15 16), (0, u "java/lang/StringUTF16"), (0, u "newBytesLength"), (0, u "(I)I"), (3, .integer 1073741823), (23, .fieldref 12 45), (0, .nameAndType 46 47), (0, u "$assertionsDisabled"), (0, u "Z"), (0, .methodref 12 49), (0, .nameAndType 50 51), (0, u "length"), (0, u "([B)I"), (7, .fieldref 12 60), (0, .nameAndType 61 62), (0, u "HI_BYTE_SHIFT"), (0, u "I"), (0, .fieldref 12 64), (0, .nameAndType 65 62), (0, u "LO_BYTE_SHIFT"), (1, .methodref 12 68), (0, .nameAndType 69 70), (0, u "checkIndex"), (0, u "(I[B)V"), (0, .methodref 12 72), (0, .nameAndType 73 74), (0, u "getChar"), (0, u "([BI)C"), (24, u "(II[B)V"), (7, .methodref 12 108), (0, .nameAndType 109 110), (0, u "newBytesFor"), (0, u "(I)[B"), (0, .methodref 12 112), (0, .nameAndType 113 114), (0, u "putChar"), (0, u "([BII)V"), (0, .methodref 12 116), (0, .nameAndType 117 118), (0, u "compress"), (0, u "([CI[BII)I"), (0, .methodref 12 120), (0, .nameAndType 121 122), (0, u "toBytes"), (0, u "([CII)[B"), (0, .methodref 12 124), (0, .nameAndType 117 125), (0, u "([BI[BII)I"), (0, .methodref 127 128), (0, .class_ 129), (0, .nameAndType 130 131), (0, u "java/util/Arrays"), (0, u "copyOfRange"), (0, u "([BII)[B"), (41, .methodref 12 174), (0, .nameAndType 175 99), (0, u "checkBoundsOffCount"), (75, .fieldref 3 252), (0, .nameAndType 253 47), (0, u "COMPACT_STRINGS"), (3, .methodref 12 258), (0, .nameAndType 117 131), (0, .methodref 12 260), (0, .nameAndType 261 262), (0, u "coderFromArrayLen"), (0, u "([BI)B"), (0, .methodref 3 264), (0, .nameAndType 9 265), (0, u "([BB)V"), (15, u "(III)I"), (45, u "newString"), (0, u "([BII)Ljava/lang/String;"), (40, .class_ 371), (1, u "java/lang/StringUTF16$LinesSpliterator"), (20, u "charAt"), (21, .methodref 3 415), (0, .nameAndType 69 416), (0, u "(II)V"), (2, .methodref 3 420), (0, .nameAndType 175 281), (9, u "MAX_LENGTH"), (196, .class_ 628), (0, u "java/lang/StringUTF16$CodePointsSpliterator"), (0, .class_ 630), (0, u "java/lang/StringUTF16$CharsSpliterator")] 4

def k10m0 : Method := { name := "<init>", desc := "()V", sig := { parameters := [], returnType := none }, accessFlags := 0, code := none }
def k10c1 : Code := { maxStack := 1, maxLocals := 1, code := jdk_52_method_2_code, exceptionTable := #[], attributes := #[] }
def k10m1 : Method := { name := "newBytesFor", desc := "(I)[B", sig := { parameters := [.int], returnType := some (.array .byte) }, accessFlags := 9, code := some k10c1 }
def k10c2 : Code := { maxStack := 4, maxLocals := 1, code := jdk_52_method_3_code, exceptionTable := #[], attributes := #[] }
def k10m2 : Method := { name := "newBytesLength", desc := "(I)I", sig := { parameters := [.int], returnType := some .int }, accessFlags := 9, code := some k10c2 }
def k10c3 : Code := { maxStack := 4, maxLocals := 3, code := jdk_52_method_4_code, exceptionTable := #[], attributes := #[] }
def k10m3 : Method := { name := "putChar", desc := "([BII)V", sig := { parameters := [(.array .byte), .int, .int], returnType := none }, accessFlags := 8, code := some k10c3 }
def k10c4 : Code := { maxStack := 3, maxLocals := 2, code := jdk_52_method_5_code, exceptionTable := #[], attributes := #[] }
def k10m4 : Method := { name := "getChar", desc := "([BI)C", sig := { parameters := [(.array .byte), .int], returnType := some .char }, accessFlags := 8, code := some k10c4 }
def k10c5 : Code := { maxStack := 2, maxLocals := 1, code := jdk_52_method_6_code, exceptionTable := #[], attributes := #[] }
def k10m5 : Method := { name := "length", desc := "([B)I", sig := { parameters := [(.array .byte)], returnType := some .int }, accessFlags := 9, code := some k10c5 }
def k10c6 : Code := { maxStack := 4, maxLocals := 5, code := jdk_52_method_14_code, exceptionTable := #[], attributes := #[] }
def k10m6 : Method := { name := "toBytes", desc := "([CII)[B", sig := { parameters := [(.array .char), .int, .int], returnType := some (.array .byte) }, accessFlags := 9, code := some k10c6 }
def k10c7 : Code := { maxStack := 2, maxLocals := 2, code := jdk_52_method_15_code, exceptionTable := #[], attributes := #[] }
def k10m7 : Method := { name := "coderFromArrayLen", desc := "([BI)B", sig := { parameters := [(.array .byte), .int], returnType := some .byte }, accessFlags := 8, code := some k10c7 }
def k10c8 : Code := { maxStack := 5, maxLocals := 6, code := jdk_52_method_16_code, exceptionTable := #[], attributes := #[] }
def k10m8 : Method := { name := "compress", desc := "([CII)[B", sig := { parameters := [(.array .char), .int, .int], returnType := some (.array .byte) }, accessFlags := 9, code := some k10c8 }
def k10c9 : Code := { maxStack := 5, maxLocals := 6, code := jdk_52_method_17_code, exceptionTable := #[], attributes := #[] }
def k10m9 : Method := { name := "compress", desc := "([BII)[B", sig := { parameters := [(.array .byte), .int, .int], returnType := some (.array .byte) }, accessFlags := 9, code := some k10c9 }
def k10c10 : Code := { maxStack := 3, maxLocals := 7, code := jdk_52_method_21_code, exceptionTable := #[], attributes := #[] }
def k10m10 : Method := { name := "compress", desc := "([CI[BII)I", sig := { parameters := [(.array .char), .int, (.array .byte), .int, .int], returnType := some .int }, accessFlags := 9, code := some k10c10 }
def k10c11 : Code := { maxStack := 3, maxLocals := 7, code := jdk_52_method_22_code, exceptionTable := #[], attributes := #[] }
def k10m11 : Method := { name := "compress", desc := "([BI[BII)I", sig := { parameters := [(.array .byte), .int, (.array .byte), .int, .int], returnType := some .int }, accessFlags := 9, code := some k10c11 }
def k10c12 : Code := { maxStack := 6, maxLocals := 5, code := jdk_52_method_69_code, exceptionTable := #[], attributes := #[] }
def k10m12 : Method := { name := "newString", desc := "([BII)Ljava/lang/String;", sig := { parameters := [(.array .byte), .int, .int], returnType := some (.object "java/lang/String") }, accessFlags := 9, code := some k10c12 }
def k10c13 : Code := { maxStack := 2, maxLocals := 2, code := jdk_52_method_83_code, exceptionTable := #[], attributes := #[] }
def k10m13 : Method := { name := "charAt", desc := "([BI)C", sig := { parameters := [(.array .byte), .int], returnType := some .char }, accessFlags := 9, code := some k10c13 }
def k10c14 : Code := { maxStack := 2, maxLocals := 2, code := jdk_52_method_91_code, exceptionTable := #[], attributes := #[] }
def k10m14 : Method := { name := "checkIndex", desc := "(I[B)V", sig := { parameters := [.int, (.array .byte)], returnType := none }, accessFlags := 9, code := some k10c14 }
def k10c15 : Code := { maxStack := 3, maxLocals := 3, code := jdk_52_method_94_code, exceptionTable := #[], attributes := #[] }
def k10m15 : Method := { name := "checkBoundsOffCount", desc := "(II[B)V", sig := { parameters := [.int, .int, (.array .byte)], returnType := none }, accessFlags := 9, code := some k10c15 }
/-- java/lang/StringUTF16 -/
def k10 : Class := { plain "java/lang/StringUTF16" (some 0) with
  accessFlags := 48
  interfaces := #[]
  cf := some (fileOf pool10 12 #[.nestMembers #[627, 629, 369]] #[{ accessFlags := 0, nameIndex := 9, descriptorIndex := 10, attributes := #[] }, { accessFlags := 9, nameIndex := 109, descriptorIndex := 110, attributes := #[] }, { accessFlags := 9, nameIndex := 15, descriptorIndex := 16, attributes := #[] }, { accessFlags := 8, nameIndex := 113, descriptorIndex := 114, attributes := #[] }, { accessFlags := 8, nameIndex := 73, descriptorIndex := 74, attributes := #[] }, { accessFlags := 9, nameIndex := 50, descriptorIndex := 51, attributes := #[] }, { accessFlags := 9, nameIndex := 121, descriptorIndex := 122, attributes := #[] }, { accessFlags := 8, nameIndex := 261, descriptorIndex := 262, attributes := #[] }, { accessFlags := 9, nameIndex := 117, descriptorIndex := 122, attributes := #[] }, { accessFlags := 9, nameIndex := 117, descriptorIndex := 131, attributes := #[] }, { accessFlags := 9, nameIndex := 117, descriptorIndex := 118, attributes := #[] }, { accessFlags := 9, nameIndex := 117, descriptorIndex := 125, attributes := #[] }, { accessFlags := 9, nameIndex := 327, descriptorIndex := 328, attributes := #[] }, { accessFlags := 9, nameIndex := 392, descriptorIndex := 74, attributes := #[] }, { accessFlags := 9, nameIndex := 69, descriptorIndex := 70, attributes := #[] }, { accessFlags := 9, nameIndex := 175, descriptorIndex := 99, attributes := #[] }] 48 6 #[] #[{ accessFlags := 26, nameIndex := 61, descriptorIndex := 62, attributes := #[] }, { accessFlags := 26, nameIndex := 65, descriptorIndex := 62, attributes := #[] }, { accessFlags := 24, nameIndex := 430, descriptorIndex := 62, attributes := #[] }, { accessFlags := 4120, nameIndex := 46, descriptorIndex := 47, attributes := #[] }])
  fields := #[{ name := "HI_BYTE_SHIFT", type := .int, accessFlags := 26, slot := 0, constantValue := 0 }, { name := "LO_BYTE_SHIFT", type := .int, accessFlags := 26, slot := 1, constantValue := 0 }, { name := "MAX_LENGTH", type := .int, accessFlags := 24, slot := 2, constantValue := 0 }, { name := "$assertionsDisabled", type := .boolean, accessFlags := 4120, slot := 3, constantValue := 0 }]
  methods := #[k10m0, k10m1, k10m2, k10m3, k10m4, k10m5, k10m6, k10m7, k10m8, k10m9, k10m10, k10m11, k10m12, k10m13, k10m14, k10m15]
  instanceTypes := #[]
  staticTypes := #[.int, .int, .int, .boolean]
  resolved := Array.replicate 635 none
  statics := some 2 }

def pool11 : Array CpInfo := pool [(1, .class_ 2), (0, u "java/lang/String"), (1, .class_ 6), (1, u "java/lang/Object"), (0, u "<init>"), (0, u "()V"), (0, .methodref 1 10), (0, .nameAndType 11 12), (0, u "checkIndex"), (0, u "(II)V"), (1, .class_ 16), (1, u "java/lang/StringLatin1"), (36, u "([BI)C"), (58, .methodref 1 113), (0, .nameAndType 7 114), (0, u "([BB)V"), (6, u "$assertionsDisabled"), (0, u "Z"), (8, .class_ 133), (1, u "java/util/Arrays"), (17, .string 152), (0, u ""), (43, u "newString"), (0, u "([BII)Ljava/lang/String;"), (23, .class_ 223), (1, u "java/lang/StringLatin1$LinesSpliterator"), (8, .methodref 131 233), (0, .nameAndType 234 235), (0, u "copyOfRange"), (0, u "([BII)[B"), (16, u "charAt"), (137, .class_ 391), (0, u "java/lang/StringLatin1$CharsSpliterator")] 3

def k11m0 : Method := { name := "<init>", desc := "()V", sig := { parameters := [], returnType := none }, accessFlags := 0, code := none }
def k11c1 : Code := { maxStack := 2, maxLocals := 2, code := jdk_43_method_2_code, exceptionTable := #[], attributes := #[] }
def k11m1 : Method := { name := "charAt", desc := "([BI)C", sig := { parameters := [(.array .byte), .int], returnType := some .char }, accessFlags := 9, code := some k11c1 }
def k11c2 : Code := { maxStack := 6, maxLocals := 3, code := jdk_43_method_47_code, exceptionTable := #[], attributes := #[] }
def k11m2 : Method := { name := "newString", desc := "([BII)Ljava/lang/String;", sig := { parameters := [(.array .byte), .int, .int], returnType := some (.object "java/lang/String") }, accessFlags := 9, code := some k11c2 }
/-- java/lang/StringLatin1 -/
def k11 : Class := { plain "java/lang/StringLatin1" (some 0) with
  accessFlags := 48
  interfaces := #[]
  cf := some (fileOf pool11 14 #[.nestMembers #[390, 221]] #[{ accessFlags := 0, nameIndex := 7, descriptorIndex := 8, attributes := #[] }, { accessFlags := 9, nameIndex := 252, descriptorIndex := 53, attributes := #[] }, { accessFlags := 9, nameIndex := 196, descriptorIndex := 197, attributes := #[] }] 48 4 #[] #[{ accessFlags := 4120, nameIndex := 121, descriptorIndex := 122, attributes := #[] }])
  fields := #[{ name := "$assertionsDisabled", type := .boolean, accessFlags := 4120, slot := 0, constantValue := 0 }]
  methods := #[k11m0, k11m1, k11m2]
  instanceTypes := #[]
  staticTypes := #[.boolean]
  resolved := Array.replicate 395 none
  statics := none }

def pool12 : Array CpInfo := pool [(2, .class_ 4), (1, u "java/lang/Object"), (0, u "<init>"), (0, u "()V"), (7, .class_ 16), (1, u "java/util/Arrays"), (57, .class_ 76), (1, u "java/util/Arrays$NaturalOrder"), (36, .class_ 115), (1, u "java/util/Arrays$LegacyMergeSort"), (1, u "Z"), (21, u "copyOfRange"), (10, .methodref 151 152), (0, .class_ 153), (0, .nameAndType 154 155), (0, u "java/lang/System"), (0, u "arraycopy"), (0, u "(Ljava/lang/Object;ILjava/lang/Object;II)V"), (148, .methodref 305 306), (0, .class_ 307), (0, .nameAndType 308 309), (0, u "java/lang/Math"), (0, u "min"), (0, u "(II)I"), (29, .methodref 14 340), (0, .nameAndType 341 342), (0, u "copyOfRangeByte"), (0, u "([BII)[B"), (0, .methodref 14 344), (0, .nameAndType 345 346), (0, u "checkLength"), (0, u "(II)V"), (28, .class_ 376), (0, u "java/util/Arrays$ArrayList"), (68, u "$assertionsDisabled"), (269, u "MIN_ARRAY_SORT_GRAN"), (0, u "I"), (2, u "INSERTIONSORT_THRESHOLD"), (255, .class_ 976), (0, u "java/util/Arrays$ArrayItr")] 52

def k12m0 : Method := { name := "<init>", desc := "()V", sig := { parameters := [], returnType := none }, accessFlags := 2, code := none }
def k12c1 : Code := { maxStack := 4, maxLocals := 2, code := jdk_65_method_131_code, exceptionTable := #[], attributes := #[] }
def k12m1 : Method := { name := "checkLength", desc := "(II)V", sig := { parameters := [.int, .int], returnType := none }, accessFlags := 10, code := some k12c1 }
def k12c2 : Code := { maxStack := 3, maxLocals := 3, code := jdk_65_method_132_code, exceptionTable := #[], attributes := #[] }
def k12m2 : Method := { name := "copyOfRange", desc := "([BII)[B", sig := { parameters := [(.array .byte), .int, .int], returnType := some (.array .byte) }, accessFlags := 9, code := some k12c2 }
def k12c3 : Code := { maxStack := 6, maxLocals := 5, code := jdk_65_method_133_code, exceptionTable := #[], attributes := #[] }
def k12m3 : Method := { name := "copyOfRangeByte", desc := "([BII)[B", sig := { parameters := [(.array .byte), .int, .int], returnType := some (.array .byte) }, accessFlags := 10, code := some k12c3 }
/-- java/util/Arrays -/
def k12 : Class := { plain "java/util/Arrays" (some 0) with
  accessFlags := 49
  interfaces := #[]
  cf := some (fileOf pool12 14 #[.nestMembers #[975, 375, 113, 74]] #[{ accessFlags := 2, nameIndex := 5, descriptorIndex := 6, attributes := #[] }, { accessFlags := 10, nameIndex := 345, descriptorIndex := 346, attributes := #[] }, { accessFlags := 9, nameIndex := 139, descriptorIndex := 342, attributes := #[] }, { accessFlags := 10, nameIndex := 341, descriptorIndex := 342, attributes := #[] }] 49 2 #[] #[{ accessFlags := 26, nameIndex := 715, descriptorIndex := 716, attributes := #[] }, { accessFlags := 26, nameIndex := 719, descriptorIndex := 716, attributes := #[] }, { accessFlags := 4120, nameIndex := 445, descriptorIndex := 117, attributes := #[] }])
  fields := #[{ name := "MIN_ARRAY_SORT_GRAN", type := .int, accessFlags := 26, slot := 0, constantValue := 0 }, { name := "INSERTIONSORT_THRESHOLD", type := .int, accessFlags := 26, slot := 1, constantValue := 0 }, { name := "$assertionsDisabled", type := .boolean, accessFlags := 4120, slot := 2, constantValue := 0 }]
  methods := #[k12m0, k12m1, k12m2, k12m3]
  instanceTypes := #[]
  staticTypes := #[.int, .int, .boolean]
  resolved := Array.replicate 1029 none
  statics := none }

def pool13 : Array CpInfo := pool [(1, .class_ 2), (0, u "java/lang/Math"), (1, .class_ 6), (1, u "java/lang/Object"), (0, u "<init>"), (0, u "()V"), (89, .class_ 100), (1, u "java/lang/Math$RandomNumberGeneratorHolder"), (71, u "negativeZeroFloatBits"), (0, u "J"), (2, u "negativeZeroDoubleBits"), (24, u "min"), (43, u "$assertionsDisabled"), (0, u "Z"), (88, u "(II)I"), (2, u "twoToTheDoubleScaleDown"), (0, u "D"), (4, u "twoToTheDoubleScaleUp"), (9, u "E"), (3, u "PI"), (2, u "TAU"), (2, u "DEGREES_TO_RADIANS"), (0, u "RADIANS_TO_DEGREES")] 94

def k13m0 : Method := { name := "<init>", desc := "()V", sig := { parameters := [], returnType := none }, accessFlags := 2, code := none }
def k13c1 : Code := { maxStack := 2, maxLocals := 2, code := jdk_29_method_69_code, exceptionTable := #[], attributes := #[] }
def k13m1 : Method := { name := "min", desc := "(II)I", sig := { parameters := [.int, .int], returnType := some .int }, accessFlags := 9, code := some k13c1 }
/-- java/lang/Math -/
def k13 : Class := { plain "java/lang/Math" (some 0) with
  accessFlags := 49
  interfaces := #[]
  cf := some (fileOf pool13 1 #[.nestMembers #[98]] #[{ accessFlags := 2, nameIndex := 7, descriptorIndex := 8, attributes := #[] }, { accessFlags := 9, nameIndex := 201, descriptorIndex := 335, attributes := #[] }] 49 4 #[] #[{ accessFlags := 25, nameIndex := 354, descriptorIndex := 339, attributes := #[] }, { accessFlags := 25, nameIndex := 358, descriptorIndex := 339, attributes := #[] }, { accessFlags := 25, nameIndex := 361, descriptorIndex := 339, attributes := #[] }, { accessFlags := 26, nameIndex := 364, descriptorIndex := 339, attributes := #[] }, { accessFlags := 26, nameIndex := 365, descriptorIndex := 339, attributes := #[] }, { accessFlags := 26, nameIndex := 172, descriptorIndex := 173, attributes := #[] }, { accessFlags := 26, nameIndex := 176, descriptorIndex := 173, attributes := #[] }, { accessFlags := 8, nameIndex := 344, descriptorIndex := 339, attributes := #[] }, { accessFlags := 8, nameIndex := 338, descriptorIndex := 339, attributes := #[] }, { accessFlags := 4120, nameIndex := 245, descriptorIndex := 246, attributes := #[] }])
  fields := #[{ name := "E", type := .double, accessFlags := 25, slot := 0, constantValue := 0 }, { name := "PI", type := .double, accessFlags := 25, slot := 1, constantValue := 0 }, { name := "TAU", type := .double, accessFlags := 25, slot := 2, constantValue := 0 }, { name := "DEGREES_TO_RADIANS", type := .double, accessFlags := 26, slot := 3, constantValue := 0 }, { name := "RADIANS_TO_DEGREES", type := .double, accessFlags := 26, slot := 4, constantValue := 0 }, { name := "negativeZeroFloatBits", type := .long, accessFlags := 26, slot := 5, constantValue := 0 }, { name := "negativeZeroDoubleBits", type := .long, accessFlags := 26, slot := 6, constantValue := 0 }, { name := "twoToTheDoubleScaleUp", type := .double, accessFlags := 8, slot := 7, constantValue := 0 }, { name := "twoToTheDoubleScaleDown", type := .double, accessFlags := 8, slot := 8, constantValue := 0 }, { name := "$assertionsDisabled", type := .boolean, accessFlags := 4120, slot := 9, constantValue := 0 }]
  methods := #[k13m0, k13m1]
  instanceTypes := #[]
  staticTypes := #[.double, .double, .double, .double, .double, .long, .long, .double, .double, .boolean]
  resolved := Array.replicate 460 none
  statics := none }

def pool14 : Array CpInfo := pool [(2, .class_ 4), (1, u "java/lang/Object"), (0, u "<init>"), (0, u "()V"), (1, .class_ 10), (1, u "java/lang/System"), (0, u "allowSecurityManager"), (0, u "I"), (16, u "cons"), (0, u "Ljava/io/Console;"), (77, .class_ 110), (1, u "java/lang/System$CallersHolder"), (43, u "initialErrStream"), (0, u "Ljava/io/PrintStream;"), (19, u "security"), (0, u "Ljava/lang/SecurityManager;"), (31, .class_ 209), (0, u "java/lang/System$1"), (7, u "props"), (0, u "Ljava/util/Properties;"), (2, u "lineSeparator"), (0, u "Ljava/lang/String;"), (96, .class_ 321), (1, u "java/lang/System$LoggerFinder"), (5, .class_ 328), (0, u "java/lang/System$Logger"), (67, u "err"), (2, u "out"), (91, u "notSupportedJnuEncoding"), (15, u "in"), (17, u "initialIn"), (0, u "Ljava/io/InputStream;"), (35, u "bootLayer"), (0, u "Ljava/lang/ModuleLayer;"), (99, .class_ 664), (0, u "java/lang/System$2"), (9, u "NEVER"), (2, u "MAYBE"), (49, u "arraycopy"), (0, u "(Ljava/lang/Object;ILjava/lang/Object;II)V"), (72, .class_ 802), (0, u "java/lang/System$Logger$Level")] 31

def k14m0 : Method := { name := "<init>", desc := "()V", sig := { parameters := [], returnType := none }, accessFlags := 2, code := none }
def k14m1 : Method := { name := "arraycopy", desc := "(Ljava/lang/Object;ILjava/lang/Object;II)V", sig := { parameters := [(.object "java/lang/Object"), .int, (.object "java/lang/Object"), .int, .int], returnType := none }, accessFlags := 265, code := none }
/-- java/lang/System -/
def k14 : Class := { plain "java/lang/System" (some 0) with
  accessFlags := 49
  interfaces := #[]
  cf := some (fileOf pool14 8 #[.nestMembers #[319, 327, 801, 108, 663, 208]] #[{ accessFlags := 2, nameIndex := 5, descriptorIndex := 6, attributes := #[] }, { accessFlags := 265, nameIndex := 727, descriptorIndex := 728, attributes := #[] }] 49 2 #[] #[{ accessFlags := 25, nameIndex := 507, descriptorIndex := 526, attributes := #[] }, { accessFlags := 25, nameIndex := 399, descriptorIndex := 155, attributes := #[] }, { accessFlags := 25, nameIndex := 396, descriptorIndex := 155, attributes := #[] }, { accessFlags := 10, nameIndex := 525, descriptorIndex := 526, attributes := #[] }, { accessFlags := 26, nameIndex := 674, descriptorIndex := 12, attributes := #[] }, { accessFlags := 26, nameIndex := 677, descriptorIndex := 12, attributes := #[] }, { accessFlags := 10, nameIndex := 11, descriptorIndex := 12, attributes := #[] }, { accessFlags := 74, nameIndex := 175, descriptorIndex := 176, attributes := #[] }, { accessFlags := 10, nameIndex := 491, descriptorIndex := 222, attributes := #[] }, { accessFlags := 74, nameIndex := 29, descriptorIndex := 30, attributes := #[] }, { accessFlags := 74, nameIndex := 154, descriptorIndex := 155, attributes := #[] }, { accessFlags := 10, nameIndex := 217, descriptorIndex := 218, attributes := #[] }, { accessFlags := 10, nameIndex := 221, descriptorIndex := 222, attributes := #[] }, { accessFlags := 8, nameIndex := 562, descriptorIndex := 563, attributes := #[] }])
  fields := #[{ name := "in", type := (.object "java/io/InputStream"), accessFlags := 25, slot := 0, constantValue := 0 }, { name := "out", type := (.object "java/io/PrintStream"), accessFlags := 25, slot := 1, constantValue := 0 }, { name := "err", type := (.object "java/io/PrintStream"), accessFlags := 25, slot := 2, constantValue := 0 }, { name := "initialIn", type := (.object "java/io/InputStream"), accessFlags := 10, slot := 3, constantValue := 0 }, { name := "NEVER", type := .int, accessFlags := 26, slot := 4, constantValue := 0 }, { name := "MAYBE", type := .int, accessFlags := 26, slot := 5, constantValue := 0 }, { name := "allowSecurityManager", type := .int, accessFlags := 10, slot := 6, constantValue := 0 }, { name := "security", type := (.object "java/lang/SecurityManager"), accessFlags := 74, slot := 7, constantValue := 0 }, { name := "notSupportedJnuEncoding", type := (.object "java/lang/String"), accessFlags := 10, slot := 8, constantValue := 0 }, { name := "cons", type := (.object "java/io/Console"), accessFlags := 74, slot := 9, constantValue := 0 }, { name := "initialErrStream", type := (.object "java/io/PrintStream"), accessFlags := 74, slot := 10, constantValue := 0 }, { name := "props", type := (.object "java/util/Properties"), accessFlags := 10, slot := 11, constantValue := 0 }, { name := "lineSeparator", type := (.object "java/lang/String"), accessFlags := 10, slot := 12, constantValue := 0 }, { name := "bootLayer", type := (.object "java/lang/ModuleLayer"), accessFlags := 8, slot := 13, constantValue := 0 }]
  methods := #[k14m0, k14m1]
  instanceTypes := #[]
  staticTypes := #[(.object "java/io/InputStream"), (.object "java/io/PrintStream"), (.object "java/io/PrintStream"), (.object "java/io/InputStream"), .int, .int, .int, (.object "java/lang/SecurityManager"), (.object "java/lang/String"), (.object "java/io/Console"), (.object "java/io/PrintStream"), (.object "java/util/Properties"), (.object "java/lang/String"), (.object "java/lang/ModuleLayer")]
  resolved := Array.replicate 834 none
  statics := none }

def pool15 : Array CpInfo := pool [(9, u "<init>"), (6, .class_ 18), (1, u "java/lang/Object"), (0, u "()V"), (1, .class_ 23), (1, u "jdk/internal/util/ArraysSupport"), (0, u "LOG2_ARRAY_LONG_INDEX_SCALE"), (0, u "I"), (2, u "U"), (0, u "Ljdk/internal/misc/Unsafe;"), (8, u "BIG_ENDIAN"), (0, u "Z"), (8, u "LOG2_BYTE_BIT_SIZE"), (4, u "LOG2_ARRAY_INT_INDEX_SCALE"), (54, u "JLA"), (0, u "Ljdk/internal/access/JavaLangAccess;"), (11, u "LOG2_ARRAY_BOOLEAN_INDEX_SCALE"), (9, u "LOG2_ARRAY_BYTE_INDEX_SCALE"), (5, u "LOG2_ARRAY_CHAR_INDEX_SCALE"), (5, u "LOG2_ARRAY_SHORT_INDEX_SCALE"), (18, u "LOG2_ARRAY_FLOAT_INDEX_SCALE"), (24, u "LOG2_ARRAY_DOUBLE_INDEX_SCALE"), (89, u "T_BOOLEAN"), (2, u "T_CHAR"), (1, u "T_FLOAT"), (1, u "T_DOUBLE"), (1, u "T_BYTE"), (1, u "T_SHORT"), (1, u "T_INT"), (1, u "T_LONG"), (1, u "SOFT_MAX_ARRAY_LENGTH")] 83

def k15m0 : Method := { name := "<init>", desc := "()V", sig := { parameters := [], returnType := none }, accessFlags := 2, code := none }
/-- jdk/internal/util/ArraysSupport -/
def k15 : Class := { plain "jdk/internal/util/ArraysSupport" (some 0) with
  accessFlags := 33
  interfaces := #[]
  cf := some (fileOf pool15 21 #[] #[{ accessFlags := 2, nameIndex := 9, descriptorIndex := 19, attributes := #[] }] 33 16 #[] #[{ accessFlags := 24, nameIndex := 28, descriptorIndex := 29, attributes := #[] }, { accessFlags := 26, nameIndex := 38, descriptorIndex := 39, attributes := #[] }, { accessFlags := 25, nameIndex := 121, descriptorIndex := 25, attributes := #[] }, { accessFlags := 25, nameIndex := 131, descriptorIndex := 25, attributes := #[] }, { accessFlags := 25, nameIndex := 137, descriptorIndex := 25, attributes := #[] }, { accessFlags := 25, nameIndex := 143, descriptorIndex := 25, attributes := #[] }, { accessFlags := 25, nameIndex := 53, descriptorIndex := 25, attributes := #[] }, { accessFlags := 25, nameIndex := 24, descriptorIndex := 25, attributes := #[] }, { accessFlags := 25, nameIndex := 162, descriptorIndex := 25, attributes := #[] }, { accessFlags := 25, nameIndex := 187, descriptorIndex := 25, attributes := #[] }, { accessFlags := 26, nameIndex := 48, descriptorIndex := 25, attributes := #[] }, { accessFlags := 25, nameIndex := 277, descriptorIndex := 25, attributes := #[] }, { accessFlags := 25, nameIndex := 280, descriptorIndex := 25, attributes := #[] }, { accessFlags := 25, nameIndex := 282, descriptorIndex := 25, attributes := #[] }, { accessFlags := 25, nameIndex := 284, descriptorIndex := 25, attributes := #[] }, { accessFlags := 25, nameIndex := 286, descriptorIndex := 25, attributes := #[] }, { accessFlags := 25, nameIndex := 288, descriptorIndex := 25, attributes := #[] }, { accessFlags := 25, nameIndex := 290, descriptorIndex := 25, attributes := #[] }, { accessFlags := 25, nameIndex := 292, descriptorIndex := 25, attributes := #[] }, { accessFlags := 26, nameIndex := 108, descriptorIndex := 109, attributes := #[] }, { accessFlags := 25, nameIndex := 294, descriptorIndex := 25, attributes := #[] }])
  fields := #[{ name := "U", type := (.object "jdk/internal/misc/Unsafe"), accessFlags := 24, slot := 0, constantValue := 0 }, { name := "BIG_ENDIAN", type := .boolean, accessFlags := 26, slot := 1, constantValue := 0 }, { name := "LOG2_ARRAY_BOOLEAN_INDEX_SCALE", type := .int, accessFlags := 25, slot := 2, constantValue := 0 }, { name := "LOG2_ARRAY_BYTE_INDEX_SCALE", type := .int, accessFlags := 25, slot := 3, constantValue := 0 }, { name := "LOG2_ARRAY_CHAR_INDEX_SCALE", type := .int, accessFlags := 25, slot := 4, constantValue := 0 }, { name := "LOG2_ARRAY_SHORT_INDEX_SCALE", type := .int, accessFlags := 25, slot := 5, constantValue := 0 }, { name := "LOG2_ARRAY_INT_INDEX_SCALE", type := .int, accessFlags := 25, slot := 6, constantValue := 0 }, { name := "LOG2_ARRAY_LONG_INDEX_SCALE", type := .int, accessFlags := 25, slot := 7, constantValue := 0 }, { name := "LOG2_ARRAY_FLOAT_INDEX_SCALE", type := .int, accessFlags := 25, slot := 8, constantValue := 0 }, { name := "LOG2_ARRAY_DOUBLE_INDEX_SCALE", type := .int, accessFlags := 25, slot := 9, constantValue := 0 }, { name := "LOG2_BYTE_BIT_SIZE", type := .int, accessFlags := 26, slot := 10, constantValue := 0 }, { name := "T_BOOLEAN", type := .int, accessFlags := 25, slot := 11, constantValue := 0 }, { name := "T_CHAR", type := .int, accessFlags := 25, slot := 12, constantValue := 0 }, { name := "T_FLOAT", type := .int, accessFlags := 25, slot := 13, constantValue := 0 }, { name := "T_DOUBLE", type := .int, accessFlags := 25, slot := 14, constantValue := 0 }, { name := "T_BYTE", type := .int, accessFlags := 25, slot := 15, constantValue := 0 }, { name := "T_SHORT", type := .int, accessFlags := 25, slot := 16, constantValue := 0 }, { name := "T_INT", type := .int, accessFlags := 25, slot := 17, constantValue := 0 }, { name := "T_LONG", type := .int, accessFlags := 25, slot := 18, constantValue := 0 }, { name := "JLA", type := (.object "jdk/internal/access/JavaLangAccess"), accessFlags := 26, slot := 19, constantValue := 0 }, { name := "SOFT_MAX_ARRAY_LENGTH", type := .int, accessFlags := 25, slot := 20, constantValue := 0 }]
  methods := #[k15m0]
  instanceTypes := #[]
  staticTypes := #[(.object "jdk/internal/misc/Unsafe"), .boolean, .int, .int, .int, .int, .int, .int, .int, .int, .int, .int, .int, .int, .int, .int, .int, .int, .int, (.object "jdk/internal/access/JavaLangAccess"), .int]
  resolved := Array.replicate 378 none
  statics := none }

def pool16 : Array CpInfo := pool [(1, u "java/lang/Cloneable"), (0, .class_ 1), (0, u "java/lang/Object"), (0, .class_ 3)] 3

/-- java/lang/Cloneable -/
def k16 : Class := { plain "java/lang/Cloneable" (some 0) with
  accessFlags := 1537
  interfaces := #[]
  cf := some (fileOf pool16 2 #[] #[] 1537 4 #[] #[])
  fields := #[]
  methods := #[]
  instanceTypes := #[]
  staticTypes := #[]
  resolved := Array.replicate 8 none
  statics := none }

/-- the primitive byte -/
def k17 : Class := { plain "byte" none with kind := .primitive 'B', accessFlags := 0x411 }
/-- [B -/
def k18 : Class := { plain "[B" (some 0) with kind := .array 17 .byte, interfaces := #[16, 2], accessFlags := 1041 }

/-- the primitive char -/
def k19 : Class := { plain "char" none with kind := .primitive 'C', accessFlags := 0x411 }
/-- [C -/
def k20 : Class := { plain "[C" (some 0) with kind := .array 19 .char, interfaces := #[16, 2], accessFlags := 1041 }

/-- the primitive int -/
def k21 : Class := { plain "int" none with kind := .primitive 'I', accessFlags := 0x411 }
/-- [I -/
def k22 : Class := { plain "[I" (some 0) with kind := .array 21 .int, interfaces := #[16, 2], accessFlags := 1041 }

def heap : Heap := #[{ cls := 7, slots := #[.long 0, .int 1, .null, .int 0, .null, .int 0, .int 0], vm := .statics 7 },
  { cls := 9, slots := #[.null, .null, .null], vm := .statics 9 },
  { cls := 10, slots := #[.int 0, .int 8, .int 0, .int 1], vm := .statics 10 }]
def classes : Array Class := #[k0, k1, k2, k3, k4, k5, k6, k7, k8, k9, k10, k11, k12, k13, k14, k15, k16, k17, k18, k19, k20, k21, k22]
def interned : List (Array UInt16 × Addr) := []
def slotsUsed : Nat := 14
def theMethod : MethodId := ⟨1, 3⟩
def args0 : Array Value := #[.int 5, .int 5, .int 5, .int 5, .int 5]
def aboutOver (below : List Frame) : State where
  vm := { classes := classes, interned := interned.toArray }
  heap := heap
  slotsUsed := slotsUsed
  threads := #[{ frames := .invoking theMethod args0 :: below }]
def below0 : List Frame := [.native { method := ⟨0, 0⟩, args := #[] }]
def about1 : State := aboutOver below0
def p0 : Program := .bare "" "" ""
def e0 : Env := launch0.env 0 0 0
theorem w_frames : about1.frames = Frame.invoking theMethod args0 :: below0 := rfl
set_option maxRecDepth 65536 in
theorem w_args : argsFit about1.vm theMethod args0 = true := by decide +kernel
set_option maxRecDepth 65536 in
theorem w_heap : heapFits about1 = true := by decide +kernel
set_option maxRecDepth 65536 in
theorem w_runnable : about1.curStatus? = some .runnable := by decide +kernel
set_option maxRecDepth 65536 in
theorem w_alone : about1.alone = true := by decide +kernel
set_option maxRecDepth 65536 in
theorem w_named : about1.methodNamed? x = some theMethod := by decide +kernel
set_option maxRecDepth 65536 in
theorem w_hears : about1.hears theMethod below0 = true := by decide +kernel
set_option maxRecDepth 65536 in
theorem w_ripe : about1.ripe theMethod args0 below0 = true := by decide +kernel
theorem w_running : about1.status = .running := rfl
set_option maxRecDepth 65536 in
theorem w_room : about1.hasRoom e0.platform room_1 = true :=
  launch0.hasRoom_least _ room_1 (by decide +kernel) (by decide +kernel) (by decide +kernel) (by decide +kernel) (by decide +kernel) (by decide +kernel)
theorem allAtoms_all (ts : List Jvm.Cond) (a : Array Jvm.Value) (st : Jvm.State) : (allAtoms ts).before a st = ts.all (fun c => c.before a st) := by
  induction ts with
  | nil => rfl
  | cons c t ih =>
    show (Jvm.Cond.and c (allAtoms t)).before a st = _
    rw [Jvm.Cond.before_and, ih, List.all_cons]
def words1 : List Jvm.Cond := Jvm.Cond.code x code maxLocals ret :: tables_1
/-- a 'code' word, met by the world's own term for the bytes: nothing is compared byte by byte -/
theorem code_word {y : MethodName} {bytes : ByteArray} {mx : Nat} {rt : Option FieldType} {a : Array Value} {s : State} {m : MethodId} {meth : Method} {c : Code} (h1 : s.methodNamed? y = some m) (h2 : s.vm.method? m = some meth) (h3 : meth.code = some c) (h4 : c.code = bytes)
    (h5 : (c.maxLocals == mx && c.exceptionTable.isEmpty && decide (c.maxStack ≤ mostOperands) && decide (meth.sig.returnType = rt) && !meth.locks && decide (parseMethodDescriptor y.desc = some meth.sig)) = true) : (Jvm.Cond.code y bytes mx rt).before a s = true := by
  simp only [Bool.and_eq_true, beq_iff_eq, Bool.not_eq_true', decide_eq_true_eq] at h5
  obtain ⟨⟨⟨⟨⟨g1, g2⟩, g3⟩, g4⟩, g5⟩, g6⟩ := h5
  simp [Cond.before, Cond.holds, Cond.value, h1, h2, h3, h4, g1, g2, g3, g4, g5, g6]
def isCode : Jvm.Cond → Bool
  | .code _ _ _ _ => true
  | _ => false
theorem all_split {L : List Jvm.Cond} {P : Jvm.Cond → Bool} (h1 : L.all (fun c => isCode c || P c) = true) (h2 : ∀ c ∈ L.filter isCode, P c = true) : L.all P = true := by
  refine List.all_eq_true.mpr fun c hc => ?_
  have h := List.all_eq_true.mp h1 c hc
  rcases Bool.eq_false_or_eq_true (isCode c) with hi | hi
  · exact h2 c (List.mem_filter.mpr ⟨hc, hi⟩)
  · simpa [hi] using h
set_option maxRecDepth 65536 in
theorem w_c0 : (Jvm.Cond.code x code maxLocals ret).before args0 about1 = true := code_word (m := ⟨1, 3⟩) (meth := k1m3) (c := k1c3) (by decide +kernel) rfl rfl rfl (by decide +kernel)
set_option maxRecDepth 65536 in
theorem w_c1 : (Jvm.Cond.code ({ cls := "java/lang/String", name := "<init>", desc := "([C)V" } : Jvm.MethodName) jdk_42_method_3_code (2 : Nat) (Option.none : Option Jvm.ClassFile.FieldType)).before args0 about1 = true := code_word (m := ⟨7, 1⟩) (meth := k7m1) (c := k7c1) (by decide +kernel) rfl rfl rfl (by decide +kernel)
set_option maxRecDepth 65536 in
theorem w_c2 : (Jvm.Cond.code ({ cls := "java/lang/String", name := "<init>", desc := "([CIILjava/lang/Void;)V" } : Jvm.MethodName) jdk_42_method_149_code (6 : Nat) (Option.none : Option Jvm.ClassFile.FieldType)).before args0 about1 = true := code_word (m := ⟨7, 5⟩) (meth := k7m5) (c := k7c5) (by decide +kernel) rfl rfl rfl (by decide +kernel)
set_option maxRecDepth 65536 in
theorem w_c3 : (Jvm.Cond.code ({ cls := "java/lang/Object", name := "<init>", desc := "()V" } : Jvm.MethodName) object_method_1_code (1 : Nat) (Option.none : Option Jvm.ClassFile.FieldType)).before args0 about1 = true := code_word (m := ⟨0, 0⟩) (meth := k0m0) (c := k0c0) (by decide +kernel) rfl rfl rfl (by decide +kernel)
set_option maxRecDepth 65536 in
theorem w_c4 : (Jvm.Cond.code ({ cls := "com/example/rackwire/rackwire/idoc/Layout", name := "withoutTrailingBlanks", desc := "(Ljava/lang/String;)Ljava/lang/String;" } : Jvm.MethodName) prog_20_method_13_code (2 : Nat) (Option.some (Jvm.ClassFile.FieldType.object "java/lang/String"))).before args0 about1 = true := code_word (m := ⟨8, 0⟩) (meth := k8m0) (c := k8c0) (by decide +kernel) rfl rfl rfl (by decide +kernel)
set_option maxRecDepth 65536 in
theorem w_c5 : (Jvm.Cond.code ({ cls := "java/lang/String", name := "length", desc := "()I" } : Jvm.MethodName) jdk_42_method_54_code (1 : Nat) (Option.some Jvm.ClassFile.FieldType.int)).before args0 about1 = true := code_word (m := ⟨7, 2⟩) (meth := k7m2) (c := k7c2) (by decide +kernel) rfl rfl rfl (by decide +kernel)
set_option maxRecDepth 65536 in
theorem w_c6 : (Jvm.Cond.code ({ cls := "java/lang/String", name := "coder", desc := "()B" } : Jvm.MethodName) jdk_42_method_152_code (1 : Nat) (Option.some Jvm.ClassFile.FieldType.byte)).before args0 about1 = true := code_word (m := ⟨7, 7⟩) (meth := k7m7) (c := k7c7) (by decide +kernel) rfl rfl rfl (by decide +kernel)
set_option maxRecDepth 65536 in
theorem w_c7 : (Jvm.Cond.code ({ cls := "java/lang/String", name := "substring", desc := "(II)Ljava/lang/String;" } : Jvm.MethodName) jdk_42_method_92_code (5 : Nat) (Option.some (Jvm.ClassFile.FieldType.object "java/lang/String"))).before args0 about1 = true := code_word (m := ⟨7, 4⟩) (meth := k7m4) (c := k7c4) (by decide +kernel) rfl rfl rfl (by decide +kernel)
set_option maxRecDepth 65536 in
theorem w_c8 : (Jvm.Cond.code ({ cls := "java/lang/String", name := "checkBoundsBeginEnd", desc := "(III)V" } : Jvm.MethodName) jdk_42_method_158_code (3 : Nat) (Option.none : Option Jvm.ClassFile.FieldType)).before args0 about1 = true := code_word (m := ⟨7, 11⟩) (meth := k7m11) (c := k7c11) (by decide +kernel) rfl rfl rfl (by decide +kernel)
set_option maxRecDepth 65536 in
theorem w_c9 : (Jvm.Cond.code ({ cls := "jdk/internal/util/Preconditions", name := "checkFromToIndex", desc := "(IIILjava/util/function/BiFunction;)I" } : Jvm.MethodName) jdk_41_method_12_code (4 : Nat) (Option.some Jvm.ClassFile.FieldType.int)).before args0 about1 = true := code_word (m := ⟨9, 2⟩) (meth := k9m2) (c := k9c2) (by decide +kernel) rfl rfl rfl (by decide +kernel)
set_option maxRecDepth 65536 in
theorem w_c10 : (Jvm.Cond.code ({ cls := "com/example/rackwire/rackwire/idoc/LayoutWithoutTrailingBlanksPinLaw", name := "at", desc := "(Ljava/lang/String;[CII)Z" } : Jvm.MethodName) method_3_code (4 : Nat) (Option.some Jvm.ClassFile.FieldType.boolean)).before args0 about1 = true := code_word (m := ⟨1, 2⟩) (meth := k1m2) (c := k1c2) (by decide +kernel) rfl rfl rfl (by decide +kernel)
set_option maxRecDepth 65536 in
theorem w_c11 : (Jvm.Cond.code ({ cls := "com/example/rackwire/rackwire/idoc/LayoutWithoutTrailingBlanksPinLaw", name := "ch", desc := "(I)C" } : Jvm.MethodName) method_2_code (1 : Nat) (Option.some Jvm.ClassFile.FieldType.char)).before args0 about1 = true := code_word (m := ⟨1, 1⟩) (meth := k1m1) (c := k1c1) (by decide +kernel) rfl rfl rfl (by decide +kernel)
set_option maxRecDepth 65536 in
theorem w_c12 : (Jvm.Cond.code ({ cls := "java/lang/StringUTF16", name := "compress", desc := "([CII)[B" } : Jvm.MethodName) jdk_52_method_16_code (6 : Nat) (Option.some (Jvm.ClassFile.FieldType.array Jvm.ClassFile.FieldType.byte))).before args0 about1 = true := code_word (m := ⟨10, 8⟩) (meth := k10m8) (c := k10c8) (by decide +kernel) rfl rfl rfl (by decide +kernel)
set_option maxRecDepth 65536 in
theorem w_c13 : (Jvm.Cond.code ({ cls := "java/lang/StringUTF16", name := "compress", desc := "([CI[BII)I" } : Jvm.MethodName) jdk_52_method_21_code (7 : Nat) (Option.some Jvm.ClassFile.FieldType.int)).before args0 about1 = true := code_word (m := ⟨10, 10⟩) (meth := k10m10) (c := k10c10) (by decide +kernel) rfl rfl rfl (by decide +kernel)
set_option maxRecDepth 65536 in
theorem w_c14 : (Jvm.Cond.code ({ cls := "java/lang/StringUTF16", name := "coderFromArrayLen", desc := "([BI)B" } : Jvm.MethodName) jdk_52_method_15_code (2 : Nat) (Option.some Jvm.ClassFile.FieldType.byte)).before args0 about1 = true := code_word (m := ⟨10, 7⟩) (meth := k10m7) (c := k10c7) (by decide +kernel) rfl rfl rfl (by decide +kernel)
set_option maxRecDepth 65536 in
theorem w_c15 : (Jvm.Cond.code ({ cls := "java/lang/String", name := "charAt", desc := "(I)C" } : Jvm.MethodName) jdk_42_method_56_code (2 : Nat) (Option.some Jvm.ClassFile.FieldType.char)).before args0 about1 = true := code_word (m := ⟨7, 3⟩) (meth := k7m3) (c := k7c3) (by decide +kernel) rfl rfl rfl (by decide +kernel)
set_option maxRecDepth 65536 in
theorem w_c16 : (Jvm.Cond.code ({ cls := "java/lang/String", name := "isLatin1", desc := "()Z" } : Jvm.MethodName) jdk_42_method_154_code (1 : Nat) (Option.some Jvm.ClassFile.FieldType.boolean)).before args0 about1 = true := code_word (m := ⟨7, 8⟩) (meth := k7m8) (c := k7c8) (by decide +kernel) rfl rfl rfl (by decide +kernel)
set_option maxRecDepth 65536 in
theorem w_c17 : (Jvm.Cond.code ({ cls := "java/lang/StringLatin1", name := "charAt", desc := "([BI)C" } : Jvm.MethodName) jdk_43_method_2_code (2 : Nat) (Option.some Jvm.ClassFile.FieldType.char)).before args0 about1 = true := code_word (m := ⟨11, 1⟩) (meth := k11m1) (c := k11c1) (by decide +kernel) rfl rfl rfl (by decide +kernel)
set_option maxRecDepth 65536 in
theorem w_c18 : (Jvm.Cond.code ({ cls := "java/lang/String", name := "checkIndex", desc := "(II)V" } : Jvm.MethodName) jdk_42_method_155_code (2 : Nat) (Option.none : Option Jvm.ClassFile.FieldType)).before args0 about1 = true := code_word (m := ⟨7, 9⟩) (meth := k7m9) (c := k7c9) (by decide +kernel) rfl rfl rfl (by decide +kernel)
set_option maxRecDepth 65536 in
theorem w_c19 : (Jvm.Cond.code ({ cls := "jdk/internal/util/Preconditions", name := "checkIndex", desc := "(IILjava/util/function/BiFunction;)I" } : Jvm.MethodName) jdk_41_method_11_code (3 : Nat) (Option.some Jvm.ClassFile.FieldType.int)).before args0 about1 = true := code_word (m := ⟨9, 1⟩) (meth := k9m1) (c := k9c1) (by decide +kernel) rfl rfl rfl (by decide +kernel)
set_option maxRecDepth 65536 in
theorem w_c20 : (Jvm.Cond.code ({ cls := "java/lang/StringUTF16", name := "toBytes", desc := "([CII)[B" } : Jvm.MethodName) jdk_52_method_14_code (5 : Nat) (Option.some (Jvm.ClassFile.FieldType.array Jvm.ClassFile.FieldType.byte))).before args0 about1 = true := code_word (m := ⟨10, 6⟩) (meth := k10m6) (c := k10c6) (by decide +kernel) rfl rfl rfl (by decide +kernel)
set_option maxRecDepth 65536 in
theorem w_c21 : (Jvm.Cond.code ({ cls := "java/lang/StringUTF16", name := "newBytesFor", desc := "(I)[B" } : Jvm.MethodName) jdk_52_method_2_code (1 : Nat) (Option.some (Jvm.ClassFile.FieldType.array Jvm.ClassFile.FieldType.byte))).before args0 about1 = true := code_word (m := ⟨10, 1⟩) (meth := k10m1) (c := k10c1) (by decide +kernel) rfl rfl rfl (by decide +kernel)
set_option maxRecDepth 65536 in
theorem w_c22 : (Jvm.Cond.code ({ cls := "java/lang/StringUTF16", name := "newBytesLength", desc := "(I)I" } : Jvm.MethodName) jdk_52_method_3_code (1 : Nat) (Option.some Jvm.ClassFile.FieldType.int)).before args0 about1 = true := code_word (m := ⟨10, 2⟩) (meth := k10m2) (c := k10c2) (by decide +kernel) rfl rfl rfl (by decide +kernel)
set_option maxRecDepth 65536 in
theorem w_c23 : (Jvm.Cond.code ({ cls := "java/lang/StringUTF16", name := "putChar", desc := "([BII)V" } : Jvm.MethodName) jdk_52_method_4_code (3 : Nat) (Option.none : Option Jvm.ClassFile.FieldType)).before args0 about1 = true := code_word (m := ⟨10, 3⟩) (meth := k10m3) (c := k10c3) (by decide +kernel) rfl rfl rfl (by decide +kernel)
set_option maxRecDepth 65536 in
theorem w_c24 : (Jvm.Cond.code ({ cls := "java/lang/StringUTF16", name := "getChar", desc := "([BI)C" } : Jvm.MethodName) jdk_52_method_5_code (2 : Nat) (Option.some Jvm.ClassFile.FieldType.char)).before args0 about1 = true := code_word (m := ⟨10, 4⟩) (meth := k10m4) (c := k10c4) (by decide +kernel) rfl rfl rfl (by decide +kernel)
set_option maxRecDepth 65536 in
theorem w_c25 : (Jvm.Cond.code ({ cls := "java/lang/StringUTF16", name := "charAt", desc := "([BI)C" } : Jvm.MethodName) jdk_52_method_83_code (2 : Nat) (Option.some Jvm.ClassFile.FieldType.char)).before args0 about1 = true := code_word (m := ⟨10, 13⟩) (meth := k10m13) (c := k10c13) (by decide +kernel) rfl rfl rfl (by decide +kernel)
set_option maxRecDepth 65536 in
theorem w_c26 : (Jvm.Cond.code ({ cls := "java/lang/StringUTF16", name := "checkIndex", desc := "(I[B)V" } : Jvm.MethodName) jdk_52_method_91_code (2 : Nat) (Option.none : Option Jvm.ClassFile.FieldType)).before args0 about1 = true := code_word (m := ⟨10, 14⟩) (meth := k10m14) (c := k10c14) (by decide +kernel) rfl rfl rfl (by decide +kernel)
set_option maxRecDepth 65536 in
theorem w_c27 : (Jvm.Cond.code ({ cls := "java/lang/StringUTF16", name := "length", desc := "([B)I" } : Jvm.MethodName) jdk_52_method_6_code (1 : Nat) (Option.some Jvm.ClassFile.FieldType.int)).before args0 about1 = true := code_word (m := ⟨10, 5⟩) (meth := k10m5) (c := k10c5) (by decide +kernel) rfl rfl rfl (by decide +kernel)
set_option maxRecDepth 65536 in
theorem w_c28 : (Jvm.Cond.code ({ cls := "java/lang/StringUTF16", name := "newString", desc := "([BII)Ljava/lang/String;" } : Jvm.MethodName) jdk_52_method_69_code (5 : Nat) (Option.some (Jvm.ClassFile.FieldType.object "java/lang/String"))).before args0 about1 = true := code_word (m := ⟨10, 12⟩) (meth := k10m12) (c := k10c12) (by decide +kernel) rfl rfl rfl (by decide +kernel)
set_option maxRecDepth 65536 in
theorem w_c29 : (Jvm.Cond.code ({ cls := "java/lang/StringUTF16", name := "compress", desc := "([BII)[B" } : Jvm.MethodName) jdk_52_method_17_code (6 : Nat) (Option.some (Jvm.ClassFile.FieldType.array Jvm.ClassFile.FieldType.byte))).before args0 about1 = true := code_word (m := ⟨10, 9⟩) (meth := k10m9) (c := k10c9) (by decide +kernel) rfl rfl rfl (by decide +kernel)
set_option maxRecDepth 65536 in
theorem w_c30 : (Jvm.Cond.code ({ cls := "java/lang/StringUTF16", name := "compress", desc := "([BI[BII)I" } : Jvm.MethodName) jdk_52_method_22_code (7 : Nat) (Option.some Jvm.ClassFile.FieldType.int)).before args0 about1 = true := code_word (m := ⟨10, 11⟩) (meth := k10m11) (c := k10c11) (by decide +kernel) rfl rfl rfl (by decide +kernel)
set_option maxRecDepth 65536 in
theorem w_c31 : (Jvm.Cond.code ({ cls := "java/lang/StringUTF16", name := "checkBoundsOffCount", desc := "(II[B)V" } : Jvm.MethodName) jdk_52_method_94_code (3 : Nat) (Option.none : Option Jvm.ClassFile.FieldType)).before args0 about1 = true := code_word (m := ⟨10, 15⟩) (meth := k10m15) (c := k10c15) (by decide +kernel) rfl rfl rfl (by decide +kernel)
set_option maxRecDepth 65536 in
theorem w_c32 : (Jvm.Cond.code ({ cls := "java/lang/String", name := "checkBoundsOffCount", desc := "(III)I" } : Jvm.MethodName) jdk_42_method_157_code (3 : Nat) (Option.some Jvm.ClassFile.FieldType.int)).before args0 about1 = true := code_word (m := ⟨7, 10⟩) (meth := k7m10) (c := k7c10) (by decide +kernel) rfl rfl rfl (by decide +kernel)
set_option maxRecDepth 65536 in
theorem w_c33 : (Jvm.Cond.code ({ cls := "jdk/internal/util/Preconditions", name := "checkFromIndexSize", desc := "(IIILjava/util/function/BiFunction;)I" } : Jvm.MethodName) jdk_41_method_13_code (4 : Nat) (Option.some Jvm.ClassFile.FieldType.int)).before args0 about1 = true := code_word (m := ⟨9, 3⟩) (meth := k9m3) (c := k9c3) (by decide +kernel) rfl rfl rfl (by decide +kernel)
set_option maxRecDepth 65536 in
theorem w_c34 : (Jvm.Cond.code ({ cls := "java/util/Arrays", name := "copyOfRange", desc := "([BII)[B" } : Jvm.MethodName) jdk_65_method_132_code (3 : Nat) (Option.some (Jvm.ClassFile.FieldType.array Jvm.ClassFile.FieldType.byte))).before args0 about1 = true := code_word (m := ⟨12, 2⟩) (meth := k12m2) (c := k12c2) (by decide +kernel) rfl rfl rfl (by decide +kernel)
set_option maxRecDepth 65536 in
theorem w_c35 : (Jvm.Cond.code ({ cls := "java/util/Arrays", name := "copyOfRangeByte", desc := "([BII)[B" } : Jvm.MethodName) jdk_65_method_133_code (5 : Nat) (Option.some (Jvm.ClassFile.FieldType.array Jvm.ClassFile.FieldType.byte))).before args0 about1 = true := code_word (m := ⟨12, 3⟩) (meth := k12m3) (c := k12c3) (by decide +kernel) rfl rfl rfl (by decide +kernel)
set_option maxRecDepth 65536 in
theorem w_c36 : (Jvm.Cond.code ({ cls := "java/util/Arrays", name := "checkLength", desc := "(II)V" } : Jvm.MethodName) jdk_65_method_131_code (2 : Nat) (Option.none : Option Jvm.ClassFile.FieldType)).before args0 about1 = true := code_word (m := ⟨12, 1⟩) (meth := k12m1) (c := k12c1) (by decide +kernel) rfl rfl rfl (by decide +kernel)
set_option maxRecDepth 65536 in
theorem w_c37 : (Jvm.Cond.code ({ cls := "java/lang/Math", name := "min", desc := "(II)I" } : Jvm.MethodName) jdk_29_method_69_code (2 : Nat) (Option.some Jvm.ClassFile.FieldType.int)).before args0 about1 = true := code_word (m := ⟨13, 1⟩) (meth := k13m1) (c := k13c1) (by decide +kernel) rfl rfl rfl (by decide +kernel)
set_option maxRecDepth 65536 in
theorem w_c38 : (Jvm.Cond.code ({ cls := "java/lang/String", name := "<init>", desc := "([BB)V" } : Jvm.MethodName) jdk_42_method_151_code (3 : Nat) (Option.none : Option Jvm.ClassFile.FieldType)).before args0 about1 = true := code_word (m := ⟨7, 6⟩) (meth := k7m6) (c := k7c6) (by decide +kernel) rfl rfl rfl (by decide +kernel)
set_option maxRecDepth 65536 in
theorem w_c39 : (Jvm.Cond.code ({ cls := "java/lang/StringLatin1", name := "newString", desc := "([BII)Ljava/lang/String;" } : Jvm.MethodName) jdk_43_method_47_code (3 : Nat) (Option.some (Jvm.ClassFile.FieldType.object "java/lang/String"))).before args0 about1 = true := code_word (m := ⟨11, 2⟩) (meth := k11m2) (c := k11c2) (by decide +kernel) rfl rfl rfl (by decide +kernel)
def codes1 : List Jvm.Cond := [Jvm.Cond.code x code maxLocals ret, Jvm.Cond.code ({ cls := "java/lang/String", name := "<init>", desc := "([C)V" } : Jvm.MethodName) jdk_42_method_3_code (2 : Nat) (Option.none : Option Jvm.ClassFile.FieldType), Jvm.Cond.code ({ cls := "java/lang/String", name := "<init>", desc := "([CIILjava/lang/Void;)V" } : Jvm.MethodName) jdk_42_method_149_code (6 : Nat) (Option.none : Option Jvm.ClassFile.FieldType), Jvm.Cond.code ({ cls := "java/lang/Object", name := "<init>", desc := "()V" } : Jvm.MethodName) object_method_1_code (1 : Nat) (Option.none : Option Jvm.ClassFile.FieldType), Jvm.Cond.code ({ cls := "com/example/rackwire/rackwire/idoc/Layout", name := "withoutTrailingBlanks", desc := "(Ljava/lang/String;)Ljava/lang/String;" } : Jvm.MethodName) prog_20_method_13_code (2 : Nat) (Option.some (Jvm.ClassFile.FieldType.object "java/lang/String")), Jvm.Cond.code ({ cls := "java/lang/String", name := "length", desc := "()I" } : Jvm.MethodName) jdk_42_method_54_code (1 : Nat) (Option.some Jvm.ClassFile.FieldType.int), Jvm.Cond.code ({ cls := "java/lang/String", name := "coder", desc := "()B" } : Jvm.MethodName) jdk_42_method_152_code (1 : Nat) (Option.some Jvm.ClassFile.FieldType.byte), Jvm.Cond.code ({ cls := "java/lang/String", name := "substring", desc := "(II)Ljava/lang/String;" } : Jvm.MethodName) jdk_42_method_92_code (5 : Nat) (Option.some (Jvm.ClassFile.FieldType.object "java/lang/String")), Jvm.Cond.code ({ cls := "java/lang/String", name := "checkBoundsBeginEnd", desc := "(III)V" } : Jvm.MethodName) jdk_42_method_158_code (3 : Nat) (Option.none : Option Jvm.ClassFile.FieldType), Jvm.Cond.code ({ cls := "jdk/internal/util/Preconditions", name := "checkFromToIndex", desc := "(IIILjava/util/function/BiFunction;)I" } : Jvm.MethodName) jdk_41_method_12_code (4 : Nat) (Option.some Jvm.ClassFile.FieldType.int), Jvm.Cond.code ({ cls := "com/example/rackwire/rackwire/idoc/LayoutWithoutTrailingBlanksPinLaw", name := "at", desc := "(Ljava/lang/String;[CII)Z" } : Jvm.MethodName) method_3_code (4 : Nat) (Option.some Jvm.ClassFile.FieldType.boolean), Jvm.Cond.code ({ cls := "com/example/rackwire/rackwire/idoc/LayoutWithoutTrailingBlanksPinLaw", name := "ch", desc := "(I)C" } : Jvm.MethodName) method_2_code (1 : Nat) (Option.some Jvm.ClassFile.FieldType.char), Jvm.Cond.code ({ cls := "java/lang/StringUTF16", name := "compress", desc := "([CII)[B" } : Jvm.MethodName) jdk_52_method_16_code (6 : Nat) (Option.some (Jvm.ClassFile.FieldType.array Jvm.ClassFile.FieldType.byte)), Jvm.Cond.code ({ cls := "java/lang/StringUTF16", name := "compress", desc := "([CI[BII)I" } : Jvm.MethodName) jdk_52_method_21_code (7 : Nat) (Option.some Jvm.ClassFile.FieldType.int), Jvm.Cond.code ({ cls := "java/lang/StringUTF16", name := "coderFromArrayLen", desc := "([BI)B" } : Jvm.MethodName) jdk_52_method_15_code (2 : Nat) (Option.some Jvm.ClassFile.FieldType.byte), Jvm.Cond.code ({ cls := "java/lang/String", name := "charAt", desc := "(I)C" } : Jvm.MethodName) jdk_42_method_56_code (2 : Nat) (Option.some Jvm.ClassFile.FieldType.char), Jvm.Cond.code ({ cls := "java/lang/String", name := "isLatin1", desc := "()Z" } : Jvm.MethodName) jdk_42_method_154_code (1 : Nat) (Option.some Jvm.ClassFile.FieldType.boolean), Jvm.Cond.code ({ cls := "java/lang/StringLatin1", name := "charAt", desc := "([BI)C" } : Jvm.MethodName) jdk_43_method_2_code (2 : Nat) (Option.some Jvm.ClassFile.FieldType.char), Jvm.Cond.code ({ cls := "java/lang/String", name := "checkIndex", desc := "(II)V" } : Jvm.MethodName) jdk_42_method_155_code (2 : Nat) (Option.none : Option Jvm.ClassFile.FieldType), Jvm.Cond.code ({ cls := "jdk/internal/util/Preconditions", name := "checkIndex", desc := "(IILjava/util/function/BiFunction;)I" } : Jvm.MethodName) jdk_41_method_11_code (3 : Nat) (Option.some Jvm.ClassFile.FieldType.int), Jvm.Cond.code ({ cls := "java/lang/StringUTF16", name := "toBytes", desc := "([CII)[B" } : Jvm.MethodName) jdk_52_method_14_code (5 : Nat) (Option.some (Jvm.ClassFile.FieldType.array Jvm.ClassFile.FieldType.byte)), Jvm.Cond.code ({ cls := "java/lang/StringUTF16", name := "newBytesFor", desc := "(I)[B" } : Jvm.MethodName) jdk_52_method_2_code (1 : Nat) (Option.some (Jvm.ClassFile.FieldType.array Jvm.ClassFile.FieldType.byte)), Jvm.Cond.code ({ cls := "java/lang/StringUTF16", name := "newBytesLength", desc := "(I)I" } : Jvm.MethodName) jdk_52_method_3_code (1 : Nat) (Option.some Jvm.ClassFile.FieldType.int), Jvm.Cond.code ({ cls := "java/lang/StringUTF16", name := "putChar", desc := "([BII)V" } : Jvm.MethodName) jdk_52_method_4_code (3 : Nat) (Option.none : Option Jvm.ClassFile.FieldType), Jvm.Cond.code ({ cls := "java/lang/StringUTF16", name := "getChar", desc := "([BI)C" } : Jvm.MethodName) jdk_52_method_5_code (2 : Nat) (Option.some Jvm.ClassFile.FieldType.char), Jvm.Cond.code ({ cls := "java/lang/StringUTF16", name := "charAt", desc := "([BI)C" } : Jvm.MethodName) jdk_52_method_83_code (2 : Nat) (Option.some Jvm.ClassFile.FieldType.char), Jvm.Cond.code ({ cls := "java/lang/StringUTF16", name := "checkIndex", desc := "(I[B)V" } : Jvm.MethodName) jdk_52_method_91_code (2 : Nat) (Option.none : Option Jvm.ClassFile.FieldType), Jvm.Cond.code ({ cls := "java/lang/StringUTF16", name := "length", desc := "([B)I" } : Jvm.MethodName) jdk_52_method_6_code (1 : Nat) (Option.some Jvm.ClassFile.FieldType.int), Jvm.Cond.code ({ cls := "java/lang/StringUTF16", name := "newString", desc := "([BII)Ljava/lang/String;" } : Jvm.MethodName) jdk_52_method_69_code (5 : Nat) (Option.some (Jvm.ClassFile.FieldType.object "java/lang/String")), Jvm.Cond.code ({ cls := "java/lang/StringUTF16", name := "compress", desc := "([BII)[B" } : Jvm.MethodName) jdk_52_method_17_code (6 : Nat) (Option.some (Jvm.ClassFile.FieldType.array Jvm.ClassFile.FieldType.byte)), Jvm.Cond.code ({ cls := "java/lang/StringUTF16", name := "compress", desc := "([BI[BII)I" } : Jvm.MethodName) jdk_52_method_22_code (7 : Nat) (Option.some Jvm.ClassFile.FieldType.int), Jvm.Cond.code ({ cls := "java/lang/StringUTF16", name := "checkBoundsOffCount", desc := "(II[B)V" } : Jvm.MethodName) jdk_52_method_94_code (3 : Nat) (Option.none : Option Jvm.ClassFile.FieldType), Jvm.Cond.code ({ cls := "java/lang/String", name := "checkBoundsOffCount", desc := "(III)I" } : Jvm.MethodName) jdk_42_method_157_code (3 : Nat) (Option.some Jvm.ClassFile.FieldType.int), Jvm.Cond.code ({ cls := "jdk/internal/util/Preconditions", name := "checkFromIndexSize", desc := "(IIILjava/util/function/BiFunction;)I" } : Jvm.MethodName) jdk_41_method_13_code (4 : Nat) (Option.some Jvm.ClassFile.FieldType.int), Jvm.Cond.code ({ cls := "java/util/Arrays", name := "copyOfRange", desc := "([BII)[B" } : Jvm.MethodName) jdk_65_method_132_code (3 : Nat) (Option.some (Jvm.ClassFile.FieldType.array Jvm.ClassFile.FieldType.byte)), Jvm.Cond.code ({ cls := "java/util/Arrays", name := "copyOfRangeByte", desc := "([BII)[B" } : Jvm.MethodName) jdk_65_method_133_code (5 : Nat) (Option.some (Jvm.ClassFile.FieldType.array Jvm.ClassFile.FieldType.byte)), Jvm.Cond.code ({ cls := "java/util/Arrays", name := "checkLength", desc := "(II)V" } : Jvm.MethodName) jdk_65_method_131_code (2 : Nat) (Option.none : Option Jvm.ClassFile.FieldType), Jvm.Cond.code ({ cls := "java/lang/Math", name := "min", desc := "(II)I" } : Jvm.MethodName) jdk_29_method_69_code (2 : Nat) (Option.some Jvm.ClassFile.FieldType.int), Jvm.Cond.code ({ cls := "java/lang/String", name := "<init>", desc := "([BB)V" } : Jvm.MethodName) jdk_42_method_151_code (3 : Nat) (Option.none : Option Jvm.ClassFile.FieldType), Jvm.Cond.code ({ cls := "java/lang/StringLatin1", name := "newString", desc := "([BII)Ljava/lang/String;" } : Jvm.MethodName) jdk_43_method_47_code (3 : Nat) (Option.some (Jvm.ClassFile.FieldType.object "java/lang/String"))]
set_option maxRecDepth 65536 in
theorem codes_eq : words1.filter isCode = codes1 := rfl
theorem w_codes : ∀ c ∈ words1.filter isCode, c.before args0 about1 = true := by
  rw [codes_eq]
  intro c hc
  simp only [codes1, List.mem_cons, List.not_mem_nil, or_false] at hc
  rcases hc with rfl | rfl | rfl | rfl | rfl | rfl | rfl | rfl | rfl | rfl | rfl | rfl | rfl | rfl | rfl | rfl | rfl | rfl | rfl | rfl | rfl | rfl | rfl | rfl | rfl | rfl | rfl | rfl | rfl | rfl | rfl | rfl | rfl | rfl | rfl | rfl | rfl | rfl | rfl | rfl
  · exact w_c0
  · exact w_c1
  · exact w_c2
  · exact w_c3
  · exact w_c4
  · exact w_c5
  · exact w_c6
  · exact w_c7
  · exact w_c8
  · exact w_c9
  · exact w_c10
  · exact w_c11
  · exact w_c12
  · exact w_c13
  · exact w_c14
  · exact w_c15
  · exact w_c16
  · exact w_c17
  · exact w_c18
  · exact w_c19
  · exact w_c20
  · exact w_c21
  · exact w_c22
  · exact w_c23
  · exact w_c24
  · exact w_c25
  · exact w_c26
  · exact w_c27
  · exact w_c28
  · exact w_c29
  · exact w_c30
  · exact w_c31
  · exact w_c32
  · exact w_c33
  · exact w_c34
  · exact w_c35
  · exact w_c36
  · exact w_c37
  · exact w_c38
  · exact w_c39
set_option maxRecDepth 65536 in
theorem w_t1 : (words1.take 24).all (fun c => isCode c || c.before args0 about1) = true := by decide +kernel
set_option maxRecDepth 65536 in
theorem w_t2 : ((words1.drop 24).take 24).all (fun c => isCode c || c.before args0 about1) = true := by decide +kernel
set_option maxRecDepth 65536 in
theorem w_t3 : (((words1.drop 24).drop 24).take 24).all (fun c => isCode c || c.before args0 about1) = true := by decide +kernel
set_option maxRecDepth 65536 in
theorem w_t4 : ((((words1.drop 24).drop 24).drop 24).take 24).all (fun c => isCode c || c.before args0 about1) = true := by decide +kernel
set_option maxRecDepth 65536 in
theorem w_t5 : (((((words1.drop 24).drop 24).drop 24).drop 24).take 24).all (fun c => isCode c || c.before args0 about1) = true := by decide +kernel
set_option maxRecDepth 65536 in
theorem w_t6 : ((((((words1.drop 24).drop 24).drop 24).drop 24).drop 24).take 24).all (fun c => isCode c || c.before args0 about1) = true := by decide +kernel
set_option maxRecDepth 65536 in
theorem w_t7 : (((((((words1.drop 24).drop 24).drop 24).drop 24).drop 24).drop 24).take 24).all (fun c => isCode c || c.before args0 about1) = true := by decide +kernel
set_option maxRecDepth 65536 in
theorem w_t8 : (((((((words1.drop 24).drop 24).drop 24).drop 24).drop 24).drop 24).drop 24).all (fun c => isCode c || c.before args0 about1) = true := by decide +kernel
theorem w_tables : (allAtoms (Jvm.Cond.code x code maxLocals ret :: tables_1)).before args0 about1 = true := by
  rw [allAtoms_all]
  show words1.all (fun c => c.before args0 about1) = true
  refine all_split ?_ w_codes
  rw [← List.take_append_drop 24 words1, List.all_append, w_t1, ← List.take_append_drop 24 (words1.drop 24), List.all_append, w_t2, ← List.take_append_drop 24 ((words1.drop 24).drop 24), List.all_append, w_t3, ← List.take_append_drop 24 (((words1.drop 24).drop 24).drop 24), List.all_append, w_t4, ← List.take_append_drop 24 ((((words1.drop 24).drop 24).drop 24).drop 24), List.all_append, w_t5, ← List.take_append_drop 24 (((((words1.drop 24).drop 24).drop 24).drop 24).drop 24), List.all_append, w_t6, ← List.take_append_drop 24 ((((((words1.drop 24).drop 24).drop 24).drop 24).drop 24).drop 24), List.all_append, w_t7, w_t8]
  rfl
set_option maxRecDepth 65536 in
theorem w_rest : rest_1_c.before args0 about1 = true := by decide +kernel
set_option maxRecDepth 65536 in
theorem w_case : (Jvm.Cond.and given_1 narrow_1).before args0 about1 = true := by decide +kernel
set_option maxRecDepth 65536 in
theorem w_consts : constsHeld consts_1 about1 := Jvm.Lit.constsHeldB_iff.mp (by decide +kernel)
theorem w_applies : (headSpec (Jvm.Cond.code x code maxLocals ret :: tables_1) room_1).applies x e0.platform about1 = true :=
  (Spec.applies_iff w_frames).mpr ⟨w_running, w_runnable, w_alone, w_named, w_hears, w_ripe, w_room, w_tables⟩
theorem atStart : AtStart classFile x code maxLocals ret World_1 tables_1 room_1 Calls_1 rest_1 Pre_1 launch0 p0 e0 about1 theMethod args0 below0 :=
  ⟨lists_1, trivial, launch0.admits_env _ _ _, launch0.least_env, fairChoices_fair.cas, fairChoices_fair.clock, w_frames, w_args, w_heap, w_applies, ⟨w_consts, trivial⟩, w_rest, w_case⟩
end start1
theorem witness_1 : WitnessClaimed_1 := ⟨start1.p0, start1.e0, start1.about1, start1.theMethod, start1.args0, start1.below0, start1.atStart⟩
end Jvm.Pilot.@@N@@
