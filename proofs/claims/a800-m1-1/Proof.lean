import JvmDerived
import JvmDerived.Pilot.@@N@@Statement
import JvmDerived.Pilot.@@N@@Code
set_option linter.unusedVariables false
set_option linter.unusedSimpArgs false
namespace Jvm.Ow
open Sem ClassFile Op Lib Bundle Jvm.Stand Jvm.Free Jvm.LawKit Jvm.RoadKit
abbrev Po : Type := Option Value → Heap → List Addr → Prop
section Defs
variable (p : Program) (l : Launch) (e : Env) (R : Room) (s : State) (m : MethodId) (args : Array Value) (below : List Frame) (meth : Method) (c : Code) (Z : State) (EL : List (String × Nat)) (n0 : Nat) (own : String)
def SafeL (vm : Vm) (h : Heap) (S : List Addr) : Prop := ∀ x ∈ S, x < h.size ∧ Safe Z EL vm h x
def Don (Q : Po) (U : State) (o : Outcome) (U' : State) (rm : Room) : Prop :=
  ∃ v L S', o = .returned v ∧ (Q v U'.heap S' ∧ Fr n0 L ∧ Old Z n0 U'.heap ∧ SafeL Z EL U'.vm U'.heap S') ∧ CHr Z EL U.vm U.heap U'.vm U'.heap ∧ ReturnedEndW U o U' L rm.cells rm.slots
def Con (y : MethodName) (bytes : ByteArray) (maxL : Nat) (ret : Option FieldType) (ws : List Jvm.Cond) (rm : Room) (as' : Array Value) (S : List Addr) (h : Heap) (Q : Po) : Prop :=
  MetFree l y (head1 (Jvm.Cond.code y bytes maxL ret :: ws) rm) (fun a U => a = as' ∧ Z.Warmed39 U.vm ∧ U.heap = h ∧ CHv Z EL U.vm h ∧ SafeL Z EL U.vm h S) (fun _ _ _ _ _ => True) (fun _ U o U' => Don Z EL n0 Q U o U' rm)
def Sit (S : List Addr) (h : Heap) (k n : Nat) (T : State) : Prop :=
  ∃ locs vm0 k0 k' n', k' ≤ k ∧ n' ≤ n ∧ Stand p l e R (s.setVm vm0) m args below meth c T locs k' n' ∧ T.heap = h ∧ s.Since vm0 k0 ∧ k0 ≤ h.size ∧ Z.Warmed39 vm0 ∧ vm0.findClass own = some m.cls ∧ Fr n0 locs ∧ Old Z n0 h ∧ CHr Z EL s.vm s.heap vm0 h ∧ SafeL Z EL vm0 h S
def Fnl (Q : Po) (t : State) : Prop := ∃ s₂ o, Steps p.tables e below t s₂ ∧ s₂.status = .running ∧ Ended s₂ below o ∧ Don Z EL n0 Q s o s₂ R
def Go (Q : Po) (S : List Addr) (h : Heap) (k n : Nat) (pc : Nat) (Ls : Array Slot) (st : List Value) : Prop :=
  ∀ T, Sit p l e R s m args below meth c Z EL n0 own S h k n T → Fnl p e R s below Z EL n0 Q (T.setTop (mkF m pc Ls st))
def Bdy (a0 : Array Value) (bytes : ByteArray) (maxL : Nat) (ret : Option FieldType) (nm : String) : Prop :=
  p.tables.exec = Jvm.exec ∧ c.code = bytes ∧ c.maxLocals = maxL ∧ meth.sig.returnType = ret ∧ meth.name = nm ∧ meth.locks = false ∧ EW Z a0 EL ∧ (∀ w ∈ Bundle.stringAtoms, w.before a0 Z = true)
end Defs
section Rules
variable {p : Program} {l : Launch} {e : Env} {R : Room} {s : State} {m : MethodId} {args : Array Value} {below : List Frame} {meth : Method} {c : Code} {Z : State} {EL : List (String × Nat)} {n0 : Nat} {own : String} {a0 : Array Value} {bytes : ByteArray} {maxL : Nat} {ret : Option FieldType} {nm : String} {Q : Po} {S S' : List Addr} {h h' : Heap} {k n k' n' pc pc' : Nat} {Ls Ls' : Array Slot} {st st' rest : List Value}
theorem SafeL.nil {vm : Vm} : SafeL Z EL vm h [] := fun _ q => nomatch q
theorem SafeL.chr {vm vm1 : Vm} (A : CHr Z EL vm h vm1 h') (q : SafeL Z EL vm h S) : SafeL Z EL vm1 h' S := fun x hx => ⟨Nat.lt_of_lt_of_le (q x hx).1 A.2.1, A.safe (q x hx).1 (q x hx).2⟩
theorem SafeL.sub {vm : Vm} (q : SafeL Z EL vm h S) (hs : ∀ x ∈ S', x ∈ S) : SafeL Z EL vm h S' := fun x hx => q x (hs x hx)
theorem SafeL.app {vm : Vm} (q : SafeL Z EL vm h S) (q' : SafeL Z EL vm h S') : SafeL Z EL vm h (S ++ S') := fun x hx => (List.mem_append.mp hx).elim (q x) (q' x)
theorem SafeL.cons {vm : Vm} {a : Addr} (ha : a < h.size ∧ Safe Z EL vm h a) (q : SafeL Z EL vm h S) : SafeL Z EL vm h (a :: S) := fun x hx => (List.mem_cons.mp hx).elim (fun z => z ▸ ha) (q x)
theorem keepE (E : Ext h h') : Keep h h' [] := (Keep.refl h []).ext E
theorem nin0 {x : Nat} : x ∉ ([] : List Nat) := fun q => nomatch q
theorem ninS {x y : Nat} {L : List Nat} (q : x ≠ y) (r : x ∉ L) : x ∉ y :: L := by simp [q, r]
theorem allI0 {P : Int32 → Prop} : ∀ x ∈ ([] : List Int32), P x := fun _ q => nomatch q
theorem allI {P : Int32 → Prop} {y : Int32} {L : List Int32} (q : P y) (r : ∀ x ∈ L, P x) : ∀ x ∈ y :: L, P x := List.forall_mem_cons.mpr ⟨q, r⟩
theorem old_le (O : Old Z n0 h) : n0 ≤ h.size := O.1 ▸ O.2.1
theorem Con.weak {y : MethodName} {ws : List Jvm.Cond} {rm : Room} {as' : Array Value} {Q' : Po} (H : Con l Z EL n0 y bytes maxL ret ws rm as' S h Q) (hq : ∀ v h' S', Q v h' S' → Q' v h' S') : Con l Z EL n0 y bytes maxL ret ws rm as' S h Q' := by
  intro p e ha hc hk s m args below hf happ hP hK
  obtain ⟨n, o, h1, h2, h3, v, L, S', e1, ⟨q1, q2⟩, q3⟩ := H p e ha hc hk s m args below hf happ hP hK
  exact ⟨n, o, h1, h2, h3, v, L, S', e1, ⟨hq _ _ _ q1, q2⟩, q3⟩
theorem Go.mono (hk : k ≤ k') (hn : n ≤ n') (hs : ∀ x ∈ S', x ∈ S) (hr : Go p l e R s m args below meth c Z EL n0 own Q S' h k' n' pc Ls st) : Go p l e R s m args below meth c Z EL n0 own Q S h k n pc Ls st := by
  intro T ⟨locs, vm0, k0, k1, n1, q1, q2, X, eT, hS, hk0, hZ, hown, N, O, C, SL⟩
  exact hr T ⟨locs, vm0, k0, k1, n1, Nat.le_trans q1 hk, Nat.le_trans q2 hn, X, eT, hS, hk0, hZ, hown, N, O, C, SL.sub hs⟩
theorem Go.norm (hs : ∀ x ∈ S', x ∈ S) (hst : st = st') (hr : Go p l e R s m args below meth c Z EL n0 own Q S' h k n pc Ls st') : Go p l e R s m args below meth c Z EL n0 own Q S h k n pc Ls st := by
  subst hst
  exact Go.mono (Nat.le_refl _) (Nat.le_refl _) hs hr
/-- in a walk the old heap is there -/
theorem Go.old (hr : Old Z n0 h → Go p l e R s m args below meth c Z EL n0 own Q S h k n pc Ls st) : Go p l e R s m args below meth c Z EL n0 own Q S h k n pc Ls st := by
  intro T A
  have A' := A
  obtain ⟨locs, vm0, k0, k1, n1, q1, q2, X, eT, hS, hk0, hZ, hown, N, O, C, SL⟩ := A'
  exact hr O T A
/-- what is safe is there -/
theorem Go.lts (hr : (∀ x ∈ S, x < h.size) → Go p l e R s m args below meth c Z EL n0 own Q S h k n pc Ls st) : Go p l e R s m args below meth c Z EL n0 own Q S h k n pc Ls st := by
  intro T A
  have A' := A
  obtain ⟨locs, vm0, k0, k1, n1, q1, q2, X, eT, hS, hk0, hZ, hown, N, O, C, SL⟩ := A'
  exact hr (fun x hx => (SL x hx).1) T A
/-- a join: the rest from pc1 is walked once -/
theorem Go.join {α : Type} {pc1 : Nat} (F : α → Array Slot) (D : α → List Value) (hJ : ∀ b, Go p l e R s m args below meth c Z EL n0 own Q S h k n pc1 (F b) (D b)) (hr : (∀ b, Go p l e R s m args below meth c Z EL n0 own Q S h k n pc1 (F b) (D b)) → Go p l e R s m args below meth c Z EL n0 own Q S h k n pc Ls st) : Go p l e R s m args below meth c Z EL n0 own Q S h k n pc Ls st := hr hJ
theorem Con.enter {y : MethodName} {ws : List Jvm.Cond} {rm : Room} {as' : Array Value} (hpl : plainFor y = true) (hO : Old Z n0 h) (hEW : EW Z a0 EL) (hwS : ∀ w ∈ Bundle.stringAtoms, w.before a0 Z = true)
    (body : ∀ (p : Program) (e : Env) (s : State) (m : MethodId) (below : List Frame) (meth : Method) (c : Code), Bdy p meth c Z EL a0 bytes maxL ret y.name → Go p l e rm s m as' below meth c Z EL n0 y.cls Q S h 0 0 0 Ls [])
    (hef : ∀ m : MethodId, entryFrame m as' maxL = mkF m 0 Ls [] := by intro m; first | rfl | (simp [entryFrame, mkF, argsToLocals, Value.category]; done)) :
    Con l Z EL n0 y bytes maxL ret ws rm as' S h Q := by
  refine MetFree.of_bodySF hpl hisR ?_
  intro p e s m args below meth c s₁ Bd hml0 hP hK
  obtain ⟨rfl, hZ, rfl, hC, hS⟩ := hP
  have X0 : Stand p l e rm s m args below meth c s₁ [] 0 0 := Stand.of_body Bd
  have hown : s.vm.findClass y.cls = some m.cls := findClass_of_methodNamed Bd.named
  have hnm := (name_of_methodNamed Bd.named Bd.method).1
  have e0 : s₁.heap = s.heap := by rw [Bd.state]; rfl
  rw [hef m]
  exact body p e s m below meth c ⟨Bd.exec, Bd.bytes, hml0, Bd.returns, hnm, Bd.notSynchronized, hEW, hwS⟩ s₁ ⟨[], s.vm, s.heap.size, 0, 0, Nat.le_refl _, Nat.le_refl _, X0, e0, (State.WarmedH.refl s).since _, Nat.le_refl _, hZ, hown, Fr.nil _, hO, CHr.refl hC, hS⟩
theorem plain (hr : Go p l e R s m args below meth c Z EL n0 own Q S h k n pc' Ls' st')
    (stp : ∀ T, At T m c below → ∀ t, Steps p.tables e below (T.setTop (mkF m pc' Ls' st')) t → Steps p.tables e below (T.setTop (mkF m pc Ls st)) t) : Go p l e R s m args below meth c Z EL n0 own Q S h k n pc Ls st := by
  intro T A
  have A' := A
  obtain ⟨locs, vm0, k0, k1, n1, q1, q2, X, r⟩ := A'
  obtain ⟨s2, o, q, r2⟩ := hr T A
  exact ⟨s2, o, stp T X.here _ q, r2⟩
/-- a step that may warm the tables, the heap as it was -/
theorem warm (hr : Go p l e R s m args below meth c Z EL n0 own Q S h k n pc' Ls' st')
    (stp : ∀ T vm0 locs k1 n1, Stand p l e R (s.setVm vm0) m args below meth c T locs k1 n1 → T.heap = h → Z.Warmed39 (s.setVm vm0).vm → (s.setVm vm0).vm.findClass own = some m.cls → Old Z n0 h →
      ∃ T', Stand p l e R (s.setVm vm0) m args below meth c T' locs k1 n1 ∧ T'.heap = h ∧ ∀ t, Steps p.tables e below (T'.setTop (mkF m pc' Ls' st')) t → Steps p.tables e below (T.setTop (mkF m pc Ls st)) t) : Go p l e R s m args below meth c Z EL n0 own Q S h k n pc Ls st := by
  intro T ⟨locs, vm0, k0, k1, n1, q1, q2, X, eT, hS, hk0, hZ, hown, N, O, C, SL⟩
  obtain ⟨T', X', e', sp⟩ := stp T vm0 locs k1 n1 X eT hZ hown O
  obtain ⟨s2, o, q, r2⟩ := hr T' ⟨locs, vm0, k0, k1, n1, q1, q2, X', e', hS, hk0, hZ, hown, N, O, C, SL⟩
  exact ⟨s2, o, sp _ q, r2⟩
/-- a step that makes one cell -/
theorem made {dc dn : Nat} {nn : Nat} {P : Heap → Prop} (hk : k + 1 ≤ k') (hn : n + nn ≤ n')
    (stp : ∀ T vm0 locs k1 n1, k1 ≤ k → n1 ≤ n → Stand p l e R (s.setVm vm0) m args below meth c T locs k1 n1 → T.heap = h → Z.Warmed39 (s.setVm vm0).vm → (s.setVm vm0).vm.findClass own = some m.cls →
      ∃ T' h', Stand p l e R (s.setVm vm0) m args below meth c T' locs (k1 + 1) (n1 + nn) ∧ T'.heap = h' ∧ Ext h h' ∧ h.size < h'.size ∧ P h' ∧ ∀ t, Steps p.tables e below (T'.setTop (mkF m pc' Ls' st')) t → Steps p.tables e below (T.setTop (mkF m pc Ls st)) t)
    (hr : ∀ h', Ext h h' → P h' → n0 ≤ h.size → Go p l e R s m args below meth c Z EL n0 own Q (h.size :: S) h' k' n' pc' Ls' st') : Go p l e R s m args below meth c Z EL n0 own Q S h k n pc Ls st := by
  intro T ⟨locs, vm0, k0, k1, n1, q1, q2, X, eT, hS, hk0, hZ, hown, N, O, C, SL⟩
  obtain ⟨T', h', X', e', E, lt, hP, sp⟩ := stp T vm0 locs k1 n1 q1 q2 X eT hZ hown
  have A := CHr.ext (EL := EL) (vm := vm0) E C.1
  have sf : Safe Z EL vm0 h h.size := Safe.new (Nat.le_refl _)
  obtain ⟨s2, o, q, r2⟩ := hr h' E hP (old_le O) T' ⟨locs, vm0, k0, k1 + 1, n1 + nn, by omega, by omega, X', e', hS, Nat.le_trans hk0 E.1, hZ, hown, N, O.ext E, C.trans A, (SL.chr A).cons ⟨lt, sf.ext E C.1⟩⟩
  exact ⟨s2, o, sp _ q, r2⟩
/-- a step that writes one place of one cell -/
theorem wrote {a : Addr} {sl : Nat} {v : Value} (ha : n0 ≤ a) (hsafe : ∀ vm0, Z.Warmed39 vm0 → SafeL Z EL vm0 h S → Safe Z EL vm0 h a)
    (stp : ∀ T vm0 locs k1 n1, Stand p l e R (s.setVm vm0) m args below meth c T locs k1 n1 → T.heap = h → Z.Warmed39 (s.setVm vm0).vm → (s.setVm vm0).vm.findClass own = some m.cls →
      ∃ T' h', Stand p l e R (s.setVm vm0) m args below meth c T' (locs ++ [⟨a, sl⟩]) k1 n1 ∧ T'.heap = h' ∧ Wr h h' a sl v ∧ ∀ t, Steps p.tables e below (T'.setTop (mkF m pc' Ls' st')) t → Steps p.tables e below (T.setTop (mkF m pc Ls st)) t)
    (hr : ∀ h', Wr h h' a sl v → Go p l e R s m args below meth c Z EL n0 own Q S h' k n pc' Ls' st') : Go p l e R s m args below meth c Z EL n0 own Q S h k n pc Ls st := by
  intro T ⟨locs, vm0, k0, k1, n1, q1, q2, X, eT, hS, hk0, hZ, hown, N, O, C, SL⟩
  obtain ⟨T', h', X', e', W, sp⟩ := stp T vm0 locs k1 n1 X eT hZ hown
  have A := CHr.wr (EL := EL) (vm := vm0) W (hsafe vm0 hZ SL) C.1
  obtain ⟨s2, o, q, r2⟩ := hr h' W T' ⟨_, vm0, k0, k1, n1, q1, q2, X', e', hS, by rw [W.size]; exact hk0, hZ, hown, Fr.snoc X' N ha, O.wr W ha, C.trans A, SL.chr A⟩
  exact ⟨s2, o, sp _ q, r2⟩
/-- a callee by its contract -/
theorem Con.back {y : MethodName} {bytes' : ByteArray} {maxL' : Nat} {ret' : Option FieldType} {rm : Room} {as' : Array Value} {Q' : Po} {len W : Nat} {vm0 : Vm} (hM : Con l Z EL n0 y bytes' maxL' ret' [] rm as' S h Q')
    (hZ : Z.Warmed39 vm0) (wc : (Jvm.Cond.code y bytes' maxL' ret').before a0 Z = true) (wz : (Jvm.Cond.initialized y.cls).before a0 Z = true) (hf : rm.frames + 1 ≤ R.frames) (hl : W + (maxL' + 11) + rm.locals ≤ R.locals) (hEL : EW Z a0 EL) (H : CHv Z EL vm0 h) (hSL : SafeL Z EL vm0 h S) :
    BackS l R p e below (s.setVm vm0) args y len W (fun A a => a = as' ∧ A.U.heap = h ∧ A.cells + rm.cells ≤ R.cells ∧ A.slots + rm.slots ≤ R.slots)
      (fun A _ v B => ∃ L S', (Q' v B.U.heap S' ∧ Fr n0 L ∧ Old Z n0 B.U.heap ∧ SafeL Z EL B.U.vm B.U.heap S') ∧ B.locs = A.locs ++ L ∧ B.cells = A.cells + rm.cells ∧ B.slots = A.slots + rm.slots ∧ CHr Z EL vm0 h B.U.vm B.U.heap) := by
  have loc : ∀ {m : MethodId} {meth : Method} {c : Code} {A : Pt}, Stand p l e R (s.setVm vm0) m args below meth c A.U A.locs A.cells A.slots → Z.Warmed39 A.U.vm ∧ CHr Z EL vm0 h A.U.vm h := fun Y => ⟨wtrans (s := s.setVm vm0) hZ Y.warmed, CHv.at Y hZ hEL H⟩
  apply BackS.of_freeW (bytes := bytes') (maxL := maxL') (ret := ret') (E := fun _ U o U' L k n => ∃ v S', (o, k, n) = (.returned v, rm.cells, rm.slots) ∧ CHr Z EL U.vm U.heap U'.vm U'.heap ∧ Q' v U'.heap S' ∧ Fr n0 L ∧ Old Z n0 U'.heap ∧ SafeL Z EL U'.vm U'.heap S') hM hf hl
  · rintro m meth c A a Y ⟨-, -, g1, g2⟩
    have cd : (Jvm.Cond.code y bytes' maxL' ret').before a A.U = true := mv (loc Y).1 wc
    have ct : (Jvm.Cond.and (Jvm.Cond.code y bytes' maxL' ret') .tt).before a A.U = true := by rw [Cond.before_and, cd]; rfl
    exact ⟨ct, cd, mv (loc Y).1 wz, g1, g2⟩
  · rintro m meth c A a g mk Y ⟨g1, g2, -⟩
    exact ⟨g1, (loc Y).1, g2, (loc Y).2.1, hSL.chr (loc Y).2⟩
  · intros; trivial
  · rintro _ _ _ _ ⟨v, L, S', rfl, d, hC, hE⟩
    exact ⟨L, _, _, hE, v, S', rfl, hC, d⟩
  · rintro m meth c A a g mk v t L k n Y ⟨-, rfl, -⟩ - - ⟨v', S', o1, hC, d⟩
    cases o1
    exact ⟨L, S', d, rfl, rfl, rfl, (loc Y).2.trans hC⟩
theorem mvFace {Z s : State} {a0 args : Array Value} {a c d : String} (hZ : Z.Warmed39 s.vm) (hy : a ≠ "java/lang/invoke/MethodHandle" ∧ a ≠ "java/lang/invoke/VarHandle") (w : (Jvm.Cond.interfaceMethod a a c d).before a0 Z = true) : (Jvm.Cond.interfaceMethod a a c d).before args s = true := by
  have h1 : (Jvm.Cond.interfaceMethod a a c d).before a0 (Z.setVm s.vm) = true := Cond.faceAtom_setVm hZ.alike _ (by simp [Cond.faceAtom, hy.1, hy.2]) w
  exact h1
theorem mvPub {Z s : State} {a0 args : Array Value} {y : MethodName} (hZ : Z.Warmed39 s.vm) (w : (Jvm.Cond.publicMethod y).before a0 Z = true) : (Jvm.Cond.publicMethod y).before args s = true := by
  have h1 : (Jvm.Cond.publicMethod y).before a0 (Z.setVm s.vm) = true := Cond.rides hZ rfl w
  exact h1
theorem mvUnh {Z s : State} {a0 args : Array Value} {a b c : String} (hZ : Z.Warmed39 s.vm) (w : (Jvm.Cond.unhidden a b c).before a0 Z = true) : (Jvm.Cond.unhidden a b c).before args s = true := by
  have h1 : (Jvm.Cond.unhidden a b c).before a0 (Z.setVm s.vm) = true := Cond.rides hZ rfl w
  exact h1
abbrev NoH (y : MethodName) : Prop := y.cls ≠ "java/lang/invoke/MethodHandle" ∧ y.cls ≠ "java/lang/invoke/VarHandle"
/-- behind a call -/
theorem after {T : State} {vm0 : Vm} {k0 k1 n1 : Nat} {rm : Room} {Q' : Po} {v : Option Value} {P : Pt} {locs : List Loc} {t0 : State} (hS : s.Since vm0 k0) (hk0 : k0 ≤ h.size) (eT : T.heap = h) (q1 : k1 ≤ k) (q2 : n1 ≤ n) (hk : k + rm.cells ≤ k') (hn : n + rm.slots ≤ n')
    (hZ : Z.Warmed39 vm0) (hown : vm0.findClass own = some m.cls) (N : Fr n0 locs) (C : CHr Z EL s.vm s.heap vm0 h) (SL : SafeL Z EL vm0 h S)
    (X' : Stand p l e R ((s.setVm vm0).setVm P.U.vm) m args below meth c P.U P.locs P.cells P.slots) (h2 : (s.setVm vm0).Since P.U.vm P.U.heap.size) (hg : T.heap.size ≤ P.U.heap.size)
    (hpost : ∃ L S', (Q' v P.U.heap S' ∧ Fr n0 L ∧ Old Z n0 P.U.heap ∧ SafeL Z EL P.U.vm P.U.heap S') ∧ P.locs = locs ++ L ∧ P.cells = k1 + rm.cells ∧ P.slots = n1 + rm.slots ∧ CHr Z EL vm0 h P.U.vm P.U.heap)
    (hst : Steps p.tables e below t0 (P.U.setTop (mkF m pc' Ls (v.toList ++ rest))))
    (hr : ∀ v h' S', Q' v h' S' → h.size ≤ h'.size → Go p l e R s m args below meth c Z EL n0 own Q (S' ++ S) h' k' n' pc' Ls (v.toList ++ rest)) : Fnl p e R s below Z EL n0 Q t0 := by
  obtain ⟨L, S', ⟨hQ, N', O', SL'⟩, e1, e2, e3, C'⟩ := hpost
  obtain ⟨Y, hS2, hZ2, hown2⟩ := rebS hS (by rw [eT]; exact hk0) X' h2 hg hZ hown
  obtain ⟨s2, o, q, r2⟩ := hr v P.U.heap S' hQ C'.2.1 P.U ⟨P.locs, P.U.vm, P.U.heap.size, P.cells, P.slots, by omega, by omega, Y, rfl, hS2, Nat.le_refl _, hZ2, hown2, e1 ▸ N.app N', O', C.trans C', SL'.app (SL.chr C')⟩
  exact ⟨s2, o, hst.trans q, r2⟩
theorem iload (B : Bdy p meth c Z EL a0 bytes maxL ret nm) {j : Nat} {x : Int32} (hd : decode bytes pc = .ok (.iload j, 2)) (hr : Go p l e R s m args below meth c Z EL n0 own Q S h k n pc' Ls (.int x :: st)) (hp : pc' = pc + 2 := by rfl) (hl : Ls[j]? = some (.val (.int x)) := by rfl) : Go p l e R s m args below meth c Z EL n0 own Q S h k n pc Ls st := by
  subst hp
  exact plain hr fun T A t q => XS.iload A B.1 rfl (hb B.2.1 hd) hl q
theorem iloadN (B : Bdy p meth c Z EL a0 bytes maxL ret nm) {j : Fin 4} {x : Int32} (hd : decode bytes pc = .ok (.iload_n j, 1)) (hr : Go p l e R s m args below meth c Z EL n0 own Q S h k n pc' Ls (.int x :: st)) (hp : pc' = pc + 1 := by rfl) (hl : Ls[j.val]? = some (.val (.int x)) := by rfl) : Go p l e R s m args below meth c Z EL n0 own Q S h k n pc Ls st := by
  subst hp
  exact plain hr fun T A t q => XS.iloadN A B.1 rfl (hb B.2.1 hd) hl q
theorem lload (B : Bdy p meth c Z EL a0 bytes maxL ret nm) {j : Nat} {x : Int64} (hd : decode bytes pc = .ok (.lload j, 2)) (hr : Go p l e R s m args below meth c Z EL n0 own Q S h k n pc' Ls (.long x :: st)) (hp : pc' = pc + 2 := by rfl) (hl : Ls[j]? = some (.val (.long x)) := by rfl) : Go p l e R s m args below meth c Z EL n0 own Q S h k n pc Ls st := by
  subst hp
  exact plain hr fun T A t q => XT.lload A B.1 rfl (hb B.2.1 hd) hl q
theorem lloadN (B : Bdy p meth c Z EL a0 bytes maxL ret nm) {j : Fin 4} {x : Int64} (hd : decode bytes pc = .ok (.lload_n j, 1)) (hr : Go p l e R s m args below meth c Z EL n0 own Q S h k n pc' Ls (.long x :: st)) (hp : pc' = pc + 1 := by rfl) (hl : Ls[j.val]? = some (.val (.long x)) := by rfl) : Go p l e R s m args below meth c Z EL n0 own Q S h k n pc Ls st := by
  subst hp
  exact plain hr fun T A t q => XT.lloadN A B.1 rfl (hb B.2.1 hd) hl q
theorem aload (B : Bdy p meth c Z EL a0 bytes maxL ret nm) {j : Nat} {v : Value} (hd : decode bytes pc = .ok (.aload j, 2)) (hr : Go p l e R s m args below meth c Z EL n0 own Q S h k n pc' Ls (v :: st)) (hp : pc' = pc + 2 := by rfl) (hl : Ls[j]? = some (.val v) := by rfl) (hv : v.isRef = true := by rfl) : Go p l e R s m args below meth c Z EL n0 own Q S h k n pc Ls st := by
  subst hp
  exact plain hr fun T A t q => XS.aload A B.1 rfl (hb B.2.1 hd) hl hv q
theorem aloadN (B : Bdy p meth c Z EL a0 bytes maxL ret nm) {j : Fin 4} {v : Value} (hd : decode bytes pc = .ok (.aload_n j, 1)) (hr : Go p l e R s m args below meth c Z EL n0 own Q S h k n pc' Ls (v :: st)) (hp : pc' = pc + 1 := by rfl) (hl : Ls[j.val]? = some (.val v) := by rfl) (hv : v.isRef = true := by rfl) : Go p l e R s m args below meth c Z EL n0 own Q S h k n pc Ls st := by
  subst hp
  exact plain hr fun T A t q => XS.aloadN A B.1 rfl (hb B.2.1 hd) hl hv q
theorem istore (B : Bdy p meth c Z EL a0 bytes maxL ret nm) {j : Nat} {x : Int32} (hd : decode bytes pc = .ok (.istore j, 2)) (hr : Go p l e R s m args below meth c Z EL n0 own Q S h k n pc' Ls' st) (hp : pc' = pc + 2 := by rfl) (hl : storeLocals Ls j (.int x) = some Ls' := by rfl) : Go p l e R s m args below meth c Z EL n0 own Q S h k n pc Ls (.int x :: st) := by
  subst hp
  exact plain hr fun T A t q => XS.istore A B.1 rfl (hb B.2.1 hd) rfl hl q
theorem istoreN (B : Bdy p meth c Z EL a0 bytes maxL ret nm) {j : Fin 4} {x : Int32} (hd : decode bytes pc = .ok (.istore_n j, 1)) (hr : Go p l e R s m args below meth c Z EL n0 own Q S h k n pc' Ls' st) (hp : pc' = pc + 1 := by rfl) (hl : storeLocals Ls j.val (.int x) = some Ls' := by rfl) : Go p l e R s m args below meth c Z EL n0 own Q S h k n pc Ls (.int x :: st) := by
  subst hp
  exact plain hr fun T A t q => XS.istoreN A B.1 rfl (hb B.2.1 hd) rfl hl q
theorem lstore (B : Bdy p meth c Z EL a0 bytes maxL ret nm) {j : Nat} {x : Int64} (hd : decode bytes pc = .ok (.lstore j, 2)) (hr : Go p l e R s m args below meth c Z EL n0 own Q S h k n pc' Ls' st) (hp : pc' = pc + 2 := by rfl) (hl : storeLocals Ls j (.long x) = some Ls' := by rfl) : Go p l e R s m args below meth c Z EL n0 own Q S h k n pc Ls (.long x :: st) := by
  subst hp
  exact plain hr fun T A t q => XT.lstore A B.1 rfl (hb B.2.1 hd) rfl hl q
theorem lstoreN (B : Bdy p meth c Z EL a0 bytes maxL ret nm) {j : Fin 4} {x : Int64} (hd : decode bytes pc = .ok (.lstore_n j, 1)) (hr : Go p l e R s m args below meth c Z EL n0 own Q S h k n pc' Ls' st) (hp : pc' = pc + 1 := by rfl) (hl : storeLocals Ls j.val (.long x) = some Ls' := by rfl) : Go p l e R s m args below meth c Z EL n0 own Q S h k n pc Ls (.long x :: st) := by
  subst hp
  exact plain hr fun T A t q => XT.lstoreN A B.1 rfl (hb B.2.1 hd) rfl hl q
theorem astore (B : Bdy p meth c Z EL a0 bytes maxL ret nm) {j : Nat} {v : Value} (hd : decode bytes pc = .ok (.astore j, 2)) (hr : Go p l e R s m args below meth c Z EL n0 own Q S h k n pc' Ls' st) (hp : pc' = pc + 2 := by rfl) (hv : v.isRef = true := by rfl) (hl : storeLocals Ls j v = some Ls' := by rfl) : Go p l e R s m args below meth c Z EL n0 own Q S h k n pc Ls (v :: st) := by
  subst hp
  exact plain hr fun T A t q => XS.astore A B.1 rfl (hb B.2.1 hd) rfl hv hl q
theorem astoreN (B : Bdy p meth c Z EL a0 bytes maxL ret nm) {j : Fin 4} {v : Value} (hd : decode bytes pc = .ok (.astore_n j, 1)) (hr : Go p l e R s m args below meth c Z EL n0 own Q S h k n pc' Ls' st) (hp : pc' = pc + 1 := by rfl) (hv : v.isRef = true := by rfl) (hl : storeLocals Ls j.val v = some Ls' := by rfl) : Go p l e R s m args below meth c Z EL n0 own Q S h k n pc Ls (v :: st) := by
  subst hp
  exact plain hr fun T A t q => XS.astoreN A B.1 rfl (hb B.2.1 hd) rfl hv hl q
theorem iinc (B : Bdy p meth c Z EL a0 bytes maxL ret nm) {j : Nat} {cst : Int} {x y : Int32} (hd : decode bytes pc = .ok (.iinc j cst, 3)) (hr : Go p l e R s m args below meth c Z EL n0 own Q S h k n pc' Ls' st) (hp : pc' = pc + 3 := by rfl) (hl : Ls[j]? = some (.val (.int x)) := by rfl) (hy : y = x + Int32.ofInt cst := by first | rfl | decide) (hl' : storeLocals Ls j (.int y) = some Ls' := by rfl) : Go p l e R s m args below meth c Z EL n0 own Q S h k n pc Ls st := by
  subst hp
  exact plain hr fun T A t q => XS.iinc A B.1 rfl (hb B.2.1 hd) hl (hy ▸ hl') q
theorem iconst (B : Bdy p meth c Z EL a0 bytes maxL ret nm) {i : Int} {x : Int32} (hd : decode bytes pc = .ok (.iconst i, 1)) (hr : Go p l e R s m args below meth c Z EL n0 own Q S h k n pc' Ls (.int x :: st)) (hp : pc' = pc + 1 := by rfl) (hi : Int32.ofInt i = x := by first | rfl | decide) : Go p l e R s m args below meth c Z EL n0 own Q S h k n pc Ls st := by
  subst hp
  exact plain hr fun T A t q => XS.iconst A B.1 rfl (hb B.2.1 hd) (hi ▸ q)
theorem bipush (B : Bdy p meth c Z EL a0 bytes maxL ret nm) {i : Int} {x : Int32} (hd : decode bytes pc = .ok (.bipush i, 2)) (hr : Go p l e R s m args below meth c Z EL n0 own Q S h k n pc' Ls (.int x :: st)) (hp : pc' = pc + 2 := by rfl) (hi : (Int8.ofInt i).toInt32 = x := by first | rfl | decide) : Go p l e R s m args below meth c Z EL n0 own Q S h k n pc Ls st := by
  subst hp
  exact plain hr fun T A t q => XS.bipush A B.1 rfl (hb B.2.1 hd) (hi ▸ q)
theorem sipush (B : Bdy p meth c Z EL a0 bytes maxL ret nm) {i : Int} {x : Int32} (hd : decode bytes pc = .ok (.sipush i, 3)) (hr : Go p l e R s m args below meth c Z EL n0 own Q S h k n pc' Ls (.int x :: st)) (hp : pc' = pc + 3 := by rfl) (hi : (Int16.ofInt i).toInt32 = x := by first | rfl | decide) : Go p l e R s m args below meth c Z EL n0 own Q S h k n pc Ls st := by
  subst hp
  exact plain hr fun T A t q => XS.sipush A B.1 rfl (hb B.2.1 hd) (hi ▸ q)
theorem aconstNull (B : Bdy p meth c Z EL a0 bytes maxL ret nm)  (hd : decode bytes pc = .ok (.aconst_null, 1)) (hr : Go p l e R s m args below meth c Z EL n0 own Q S h k n pc' Ls (.null :: st)) (hp : pc' = pc + 1 := by rfl)  : Go p l e R s m args below meth c Z EL n0 own Q S h k n pc Ls st := by
  subst hp
  exact plain hr fun T A t q => XS.aconstNull A B.1 rfl (hb B.2.1 hd) q
theorem iadd (B : Bdy p meth c Z EL a0 bytes maxL ret nm) {x y z : Int32} (hd : decode bytes pc = .ok (.iadd, 1)) (hr : Go p l e R s m args below meth c Z EL n0 own Q S h k n pc' Ls (.int z :: st)) (hp : pc' = pc + 1 := by rfl) (hz : x + y = z := by first | rfl | decide) : Go p l e R s m args below meth c Z EL n0 own Q S h k n pc Ls (.int y :: .int x :: st) := by
  subst hp
  exact plain hr fun T A t q => XS.iadd A B.1 rfl (hb B.2.1 hd) rfl (hz ▸ q)
theorem isub (B : Bdy p meth c Z EL a0 bytes maxL ret nm) {x y z : Int32} (hd : decode bytes pc = .ok (.isub, 1)) (hr : Go p l e R s m args below meth c Z EL n0 own Q S h k n pc' Ls (.int z :: st)) (hp : pc' = pc + 1 := by rfl) (hz : x - y = z := by first | rfl | decide) : Go p l e R s m args below meth c Z EL n0 own Q S h k n pc Ls (.int y :: .int x :: st) := by
  subst hp
  exact plain hr fun T A t q => XS.isub A B.1 rfl (hb B.2.1 hd) rfl (hz ▸ q)
theorem imul (B : Bdy p meth c Z EL a0 bytes maxL ret nm) {x y z : Int32} (hd : decode bytes pc = .ok (.imul, 1)) (hr : Go p l e R s m args below meth c Z EL n0 own Q S h k n pc' Ls (.int z :: st)) (hp : pc' = pc + 1 := by rfl) (hz : x * y = z := by first | rfl | decide) : Go p l e R s m args below meth c Z EL n0 own Q S h k n pc Ls (.int y :: .int x :: st) := by
  subst hp
  exact plain hr fun T A t q => XS.imul A B.1 rfl (hb B.2.1 hd) rfl (hz ▸ q)
theorem iand (B : Bdy p meth c Z EL a0 bytes maxL ret nm) {x y z : Int32} (hd : decode bytes pc = .ok (.iand, 1)) (hr : Go p l e R s m args below meth c Z EL n0 own Q S h k n pc' Ls (.int z :: st)) (hp : pc' = pc + 1 := by rfl) (hz : x &&& y = z := by first | rfl | decide) : Go p l e R s m args below meth c Z EL n0 own Q S h k n pc Ls (.int y :: .int x :: st) := by
  subst hp
  exact plain hr fun T A t q => XS.iand A B.1 rfl (hb B.2.1 hd) rfl (hz ▸ q)
theorem ior (B : Bdy p meth c Z EL a0 bytes maxL ret nm) {x y z : Int32} (hd : decode bytes pc = .ok (.ior, 1)) (hr : Go p l e R s m args below meth c Z EL n0 own Q S h k n pc' Ls (.int z :: st)) (hp : pc' = pc + 1 := by rfl) (hz : x ||| y = z := by first | rfl | decide) : Go p l e R s m args below meth c Z EL n0 own Q S h k n pc Ls (.int y :: .int x :: st) := by
  subst hp
  exact plain hr fun T A t q => XT.ior A B.1 rfl (hb B.2.1 hd) rfl (hz ▸ q)
theorem ixor (B : Bdy p meth c Z EL a0 bytes maxL ret nm) {x y z : Int32} (hd : decode bytes pc = .ok (.ixor, 1)) (hr : Go p l e R s m args below meth c Z EL n0 own Q S h k n pc' Ls (.int z :: st)) (hp : pc' = pc + 1 := by rfl) (hz : x ^^^ y = z := by first | rfl | decide) : Go p l e R s m args below meth c Z EL n0 own Q S h k n pc Ls (.int y :: .int x :: st) := by
  subst hp
  exact plain hr fun T A t q => XT.ixor A B.1 rfl (hb B.2.1 hd) rfl (hz ▸ q)
theorem ishl (B : Bdy p meth c Z EL a0 bytes maxL ret nm) {x y z : Int32} (hd : decode bytes pc = .ok (.ishl, 1)) (hr : Go p l e R s m args below meth c Z EL n0 own Q S h k n pc' Ls (.int z :: st)) (hp : pc' = pc + 1 := by rfl) (hz : x <<< (y &&& 31) = z := by first | rfl | decide) : Go p l e R s m args below meth c Z EL n0 own Q S h k n pc Ls (.int y :: .int x :: st) := by
  subst hp
  exact plain hr fun T A t q => XT.ishl A B.1 rfl (hb B.2.1 hd) rfl (hz ▸ q)
theorem ishr (B : Bdy p meth c Z EL a0 bytes maxL ret nm) {x y z : Int32} (hd : decode bytes pc = .ok (.ishr, 1)) (hr : Go p l e R s m args below meth c Z EL n0 own Q S h k n pc' Ls (.int z :: st)) (hp : pc' = pc + 1 := by rfl) (hz : x >>> (y &&& 31) = z := by first | rfl | decide) : Go p l e R s m args below meth c Z EL n0 own Q S h k n pc Ls (.int y :: .int x :: st) := by
  subst hp
  exact plain hr fun T A t q => XT.ishr A B.1 rfl (hb B.2.1 hd) rfl (hz ▸ q)
theorem iushr (B : Bdy p meth c Z EL a0 bytes maxL ret nm) {x y z : Int32} (hd : decode bytes pc = .ok (.iushr, 1)) (hr : Go p l e R s m args below meth c Z EL n0 own Q S h k n pc' Ls (.int z :: st)) (hp : pc' = pc + 1 := by rfl) (hz : Jvm.Free.XT.ushr x y = z := by first | rfl | decide) : Go p l e R s m args below meth c Z EL n0 own Q S h k n pc Ls (.int y :: .int x :: st) := by
  subst hp
  exact plain hr fun T A t q => XT.iushr A B.1 rfl (hb B.2.1 hd) rfl (hz ▸ q)
theorem irem (B : Bdy p meth c Z EL a0 bytes maxL ret nm) {x y z : Int32} (hd : decode bytes pc = .ok (.irem, 1)) (hr : Go p l e R s m args below meth c Z EL n0 own Q S h k n pc' Ls (.int z :: st)) (hp : pc' = pc + 1 := by rfl) (hy : y ≠ 0 := by first | rfl | decide) (hz : x % y = z := by first | rfl | decide) : Go p l e R s m args below meth c Z EL n0 own Q S h k n pc Ls (.int y :: .int x :: st) := by
  subst hp
  exact plain hr fun T A t q => XS.irem A B.1 rfl (hb B.2.1 hd) rfl hy (by rw [irem_eq_mod x y, hz]; exact q)
theorem idiv (B : Bdy p meth c Z EL a0 bytes maxL ret nm) {x y z : Int32} (hd : decode bytes pc = .ok (.idiv, 1)) (hr : Go p l e R s m args below meth c Z EL n0 own Q S h k n pc' Ls (.int z :: st)) (hp : pc' = pc + 1 := by rfl) (hy : y ≠ 0 := by first | rfl | decide) (hz : x / y = z := by first | rfl | decide) : Go p l e R s m args below meth c Z EL n0 own Q S h k n pc Ls (.int y :: .int x :: st) := by
  subst hp
  exact plain hr fun T A t q => XS.idiv A B.1 rfl (hb B.2.1 hd) rfl hy (hz ▸ q)
theorem ineg (B : Bdy p meth c Z EL a0 bytes maxL ret nm) {x z : Int32} (hd : decode bytes pc = .ok (.ineg, 1)) (hr : Go p l e R s m args below meth c Z EL n0 own Q S h k n pc' Ls (.int z :: st)) (hp : pc' = pc + 1 := by rfl) (hz : -x = z := by first | rfl | decide) : Go p l e R s m args below meth c Z EL n0 own Q S h k n pc Ls (.int x :: st) := by
  subst hp
  exact plain hr fun T A t q => XS.ineg A B.1 rfl (hb B.2.1 hd) rfl (hz ▸ q)
theorem i2b (B : Bdy p meth c Z EL a0 bytes maxL ret nm) {x z : Int32} (hd : decode bytes pc = .ok (.i2b, 1)) (hr : Go p l e R s m args below meth c Z EL n0 own Q S h k n pc' Ls (.int z :: st)) (hp : pc' = pc + 1 := by rfl) (hz : x.toInt8.toInt32 = z := by first | rfl | decide) : Go p l e R s m args below meth c Z EL n0 own Q S h k n pc Ls (.int x :: st) := by
  subst hp
  exact plain hr fun T A t q => XT.i2b A B.1 rfl (hb B.2.1 hd) rfl (hz ▸ q)
theorem i2c (B : Bdy p meth c Z EL a0 bytes maxL ret nm) {x z : Int32} (hd : decode bytes pc = .ok (.i2c, 1)) (hr : Go p l e R s m args below meth c Z EL n0 own Q S h k n pc' Ls (.int z :: st)) (hp : pc' = pc + 1 := by rfl) (hz : x.toUInt32.toUInt16.toUInt32.toInt32 = z := by first | rfl | decide) : Go p l e R s m args below meth c Z EL n0 own Q S h k n pc Ls (.int x :: st) := by
  subst hp
  exact plain hr fun T A t q => XT.i2c A B.1 rfl (hb B.2.1 hd) rfl (hz ▸ q)
theorem l2i (B : Bdy p meth c Z EL a0 bytes maxL ret nm) {x : Int64} {z : Int32} (hd : decode bytes pc = .ok (.l2i, 1)) (hr : Go p l e R s m args below meth c Z EL n0 own Q S h k n pc' Ls (.int z :: st)) (hp : pc' = pc + 1 := by rfl) (hz : x.toInt32 = z := by first | rfl | decide) : Go p l e R s m args below meth c Z EL n0 own Q S h k n pc Ls (.long x :: st) := by
  subst hp
  exact plain hr fun T A t q => XT.l2i A B.1 rfl (hb B.2.1 hd) rfl (hz ▸ q)
theorem i2l (B : Bdy p meth c Z EL a0 bytes maxL ret nm) {x : Int32} {z : Int64} (hd : decode bytes pc = .ok (.i2l, 1)) (hr : Go p l e R s m args below meth c Z EL n0 own Q S h k n pc' Ls (.long z :: st)) (hp : pc' = pc + 1 := by rfl) (hz : x.toInt64 = z := by first | rfl | decide) : Go p l e R s m args below meth c Z EL n0 own Q S h k n pc Ls (.int x :: st) := by
  subst hp
  exact plain hr fun T A t q => XT.i2l A B.1 rfl (hb B.2.1 hd) rfl (hz ▸ q)
theorem lushr (B : Bdy p meth c Z EL a0 bytes maxL ret nm) {x z : Int64} {y : Int32} (hd : decode bytes pc = .ok (.lushr, 1)) (hr : Go p l e R s m args below meth c Z EL n0 own Q S h k n pc' Ls (.long z :: st)) (hp : pc' = pc + 1 := by rfl) (hz : Jvm.Free.XT.ushrL x y = z := by first | rfl | decide) : Go p l e R s m args below meth c Z EL n0 own Q S h k n pc Ls (.int y :: .long x :: st) := by
  subst hp
  exact plain hr fun T A t q => XT.lushr A B.1 rfl (hb B.2.1 hd) rfl (hz ▸ q)
theorem dup (B : Bdy p meth c Z EL a0 bytes maxL ret nm) {v : Value} (hd : decode bytes pc = .ok (.dup, 1)) (hr : Go p l e R s m args below meth c Z EL n0 own Q S h k n pc' Ls (v :: v :: st)) (hp : pc' = pc + 1 := by rfl) (hc : v.category = 1 := by rfl) : Go p l e R s m args below meth c Z EL n0 own Q S h k n pc Ls (v :: st) := by
  subst hp
  exact plain hr fun T A t q => XS.dup A B.1 rfl (hb B.2.1 hd) rfl hc q
theorem pop (B : Bdy p meth c Z EL a0 bytes maxL ret nm) {v : Value} (hd : decode bytes pc = .ok (.pop, 1)) (hr : Go p l e R s m args below meth c Z EL n0 own Q S h k n pc' Ls st) (hp : pc' = pc + 1 := by rfl) (hc : v.category = 1 := by rfl) : Go p l e R s m args below meth c Z EL n0 own Q S h k n pc Ls (v :: st) := by
  subst hp
  exact plain hr fun T A t q => XT.pop A B.1 rfl (hb B.2.1 hd) rfl hc q
theorem dupX1 (B : Bdy p meth c Z EL a0 bytes maxL ret nm) {v w : Value} (hd : decode bytes pc = .ok (.dup_x1, 1)) (hr : Go p l e R s m args below meth c Z EL n0 own Q S h k n pc' Ls (v :: w :: v :: st)) (hp : pc' = pc + 1 := by rfl) (hc : v.category = 1 := by rfl) (hc' : w.category = 1 := by rfl) : Go p l e R s m args below meth c Z EL n0 own Q S h k n pc Ls (v :: w :: st) := by
  subst hp
  exact plain hr fun T A t q => XT.dupX1 A B.1 rfl (hb B.2.1 hd) rfl hc hc' q
theorem goto (B : Bdy p meth c Z EL a0 bytes maxL ret nm) {o : Int} (hd : decode bytes pc = .ok (.goto o, 3)) (hr : Go p l e R s m args below meth c Z EL n0 own Q S h k n pc' Ls st) (ho : 0 ≤ (pc : Int) + o := by decide) (hp : ((pc : Int) + o).toNat = pc' := by decide) : Go p l e R s m args below meth c Z EL n0 own Q S h k n pc Ls st := plain hr fun T A t q => XS.goto A B.1 rfl (pc0 := pc) rfl (hb B.2.1 hd) ho hp q
theorem ifT (B : Bdy p meth c Z EL a0 bytes maxL ret nm) {cd : ClassFile.Cond} {x : Int32} {o : Int} (hd : decode bytes pc = .ok (.ifCond cd o, 3)) (hc : if_icmp.holds cd x 0 = true) (hr : Go p l e R s m args below meth c Z EL n0 own Q S h k n pc' Ls st) (ho : 0 ≤ (pc : Int) + o := by decide) (hp : ((pc : Int) + o).toNat = pc' := by decide) : Go p l e R s m args below meth c Z EL n0 own Q S h k n pc Ls (.int x :: st) := plain hr fun T A t q => XS.ifYes A B.1 rfl (pc0 := pc) rfl (hb B.2.1 hd) rfl ((if0 cd x).trans hc) ho hp q
theorem ifF (B : Bdy p meth c Z EL a0 bytes maxL ret nm) {cd : ClassFile.Cond} {x : Int32} {o : Int} (hd : decode bytes pc = .ok (.ifCond cd o, 3)) (hc : if_icmp.holds cd x 0 = false) (hr : Go p l e R s m args below meth c Z EL n0 own Q S h k n pc' Ls st) (hp : pc' = pc + 3 := by rfl) : Go p l e R s m args below meth c Z EL n0 own Q S h k n pc Ls (.int x :: st) := by
  subst hp
  exact plain hr fun T A t q => XS.ifNo A B.1 rfl (hb B.2.1 hd) rfl ((if0 cd x).trans hc) q
theorem icmpT (B : Bdy p meth c Z EL a0 bytes maxL ret nm) {cd : ClassFile.Cond} {x y : Int32} {o : Int} (hd : decode bytes pc = .ok (.if_icmp cd o, 3)) (hc : if_icmp.holds cd x y = true) (hr : Go p l e R s m args below meth c Z EL n0 own Q S h k n pc' Ls st) (ho : 0 ≤ (pc : Int) + o := by decide) (hp : ((pc : Int) + o).toNat = pc' := by decide) : Go p l e R s m args below meth c Z EL n0 own Q S h k n pc Ls (.int y :: .int x :: st) := plain hr fun T A t q => XS.icmpYes A B.1 rfl (pc0 := pc) rfl (hb B.2.1 hd) rfl hc ho hp q
theorem icmpF (B : Bdy p meth c Z EL a0 bytes maxL ret nm) {cd : ClassFile.Cond} {x y : Int32} {o : Int} (hd : decode bytes pc = .ok (.if_icmp cd o, 3)) (hc : if_icmp.holds cd x y = false) (hr : Go p l e R s m args below meth c Z EL n0 own Q S h k n pc' Ls st) (hp : pc' = pc + 3 := by rfl) : Go p l e R s m args below meth c Z EL n0 own Q S h k n pc Ls (.int y :: .int x :: st) := by
  subst hp
  exact plain hr fun T A t q => XS.icmpNo A B.1 rfl (hb B.2.1 hd) rfl hc q
theorem ifnullT (B : Bdy p meth c Z EL a0 bytes maxL ret nm) {o : Int} (hd : decode bytes pc = .ok (.ifnull o, 3)) (hr : Go p l e R s m args below meth c Z EL n0 own Q S h k n pc' Ls st) (ho : 0 ≤ (pc : Int) + o := by decide) (hp : ((pc : Int) + o).toNat = pc' := by decide) : Go p l e R s m args below meth c Z EL n0 own Q S h k n pc Ls (.null :: st) := plain hr fun T A t q => XS.ifnullYes A B.1 rfl (pc0 := pc) rfl (hb B.2.1 hd) rfl ho hp q
theorem ifnullF (B : Bdy p meth c Z EL a0 bytes maxL ret nm) {o : Int} {a : Addr} (hd : decode bytes pc = .ok (.ifnull o, 3)) (hr : Go p l e R s m args below meth c Z EL n0 own Q S h k n pc' Ls st) (hp : pc' = pc + 3 := by rfl) : Go p l e R s m args below meth c Z EL n0 own Q S h k n pc Ls (.ref a :: st) := by
  subst hp
  exact plain hr fun T A t q => XS.ifnullNo A B.1 rfl (hb B.2.1 hd) rfl q
theorem ifnonnullT (B : Bdy p meth c Z EL a0 bytes maxL ret nm) {o : Int} {a : Addr} (hd : decode bytes pc = .ok (.ifnonnull o, 3)) (hr : Go p l e R s m args below meth c Z EL n0 own Q S h k n pc' Ls st) (ho : 0 ≤ (pc : Int) + o := by decide) (hp : ((pc : Int) + o).toNat = pc' := by decide) : Go p l e R s m args below meth c Z EL n0 own Q S h k n pc Ls (.ref a :: st) := plain hr fun T A t q => XT.ifnonnullYes A B.1 rfl (pc0 := pc) rfl (hb B.2.1 hd) rfl ho hp q
theorem ifnonnullF (B : Bdy p meth c Z EL a0 bytes maxL ret nm) {o : Int} (hd : decode bytes pc = .ok (.ifnonnull o, 3)) (hr : Go p l e R s m args below meth c Z EL n0 own Q S h k n pc' Ls st) (hp : pc' = pc + 3 := by rfl) : Go p l e R s m args below meth c Z EL n0 own Q S h k n pc Ls (.null :: st) := by
  subst hp
  exact plain hr fun T A t q => XT.ifnonnullNo A B.1 rfl (hb B.2.1 hd) rfl q

theorem callStatic (B : Bdy p meth c Z EL a0 bytes maxL ret nm) {index : Nat} {y : MethodName} {bytes' : ByteArray} {maxL' : Nat} {ret' : Option FieldType} {rm : Room} {S1 : List Addr} {Q' : Po} {argsL : List Value} {ps : List FieldType} {rt : Option FieldType} {W : Nat} (hd : decode bytes pc = .ok (.invokestatic index, 3)) (w1 : (Jvm.Cond.methodLink own index y).before a0 Z = true) (w2 : (Jvm.Cond.static y).before a0 Z = true) (w3 : (Jvm.Cond.initialized y.cls).before a0 Z = true) (w4 : (Jvm.Cond.code y bytes' maxL' ret').before a0 Z = true) 
    (hM : Con l Z EL n0 y bytes' maxL' ret' [] rm argsL.toArray S1 h Q') (hpd : parseMethodDescriptor y.desc = some ⟨ps, rt⟩)
    (hr : ∀ v h' S', Q' v h' S' → h.size ≤ h'.size → Go p l e R s m args below meth c Z EL n0 own Q (S' ++ S) h' k' n' pc' Ls (v.toList ++ rest)) (hp : pc' = pc + 3 := by rfl) (hln : argsL.length = ps.length := by rfl) (hW : (rest.map fun v => v.category).sum ≤ W := by exact Nat.le_of_eq rfl) (hf : rm.frames + 1 ≤ R.frames := by decide) (hl : W + (maxL' + 11) + rm.locals ≤ R.locals := by decide) (hk : k + rm.cells ≤ k' := by decide) (hn : n + rm.slots ≤ n' := by decide) (hkR : k' ≤ R.cells := by decide) (hnR : n' ≤ R.slots := by decide) (hsub : ∀ x ∈ S1, x ∈ S := by simp) (hsz : Ls.size = maxL := by rfl) (hst : st = argsL.reverse ++ rest := by rfl) (hy : NoH y := by decide) : Go p l e R s m args below meth c Z EL n0 own Q S h k n pc Ls st := by
  subst hp hst
  intro T ⟨locs, vm0, k0, k1, n1, q1, q2, X, eT, hS, hk0, hZ, hown, N, O, C, SL⟩
  obtain ⟨v, vm1, P, hW1, X', h2, hg, hpost, hst⟩ := callSS X B.1 (y := y) hown (mvT (s := s.setVm vm0) hZ w1) (mvT (s := s.setVm vm0) hZ w2) (mvT (s := s.setVm vm0) hZ w3) (mvT (s := s.setVm vm0) hZ w4) hy (Con.back (W := W) hM hZ w4 w3 hf hl B.2.2.2.2.2.2.1 C.1 (SL.sub hsub)) (g := mkF m pc Ls (argsL.reverse ++ rest)) rfl (by rw [B.2.2.1]; exact hsz) (argsL := argsL) (rest := rest) (lenOf hpd hln) rfl (by show 2 * 0 + _ ≤ _; omega) (hb B.2.1 hd) (fun _ _ => ⟨rfl, eT, by show k1 + _ ≤ _; omega, by show n1 + _ ≤ _; omega⟩)
  exact after hS hk0 eT q1 q2 hk hn hZ hown N C SL X' h2 hg hpost hst hr
theorem callInit (B : Bdy p meth c Z EL a0 bytes maxL ret nm) {index : Nat} {y : MethodName} {bytes' : ByteArray} {maxL' : Nat} {rm : Room} {S1 : List Addr} {Q' : Po} {argsL : List Value} {ps : List FieldType} {rt : Option FieldType} {W : Nat} {a : Addr} (hd : decode bytes pc = .ok (.invokespecial index, 3)) (w1 : (Jvm.Cond.methodLink own index y).before a0 Z = true) (w2 : (Jvm.Cond.instanceMethod y).before a0 Z = true) (w3 : (Jvm.Cond.initialized y.cls).before a0 Z = true) (w4 : (Jvm.Cond.code y bytes' maxL' none).before a0 Z = true) 
    (hM : Con l Z EL n0 y bytes' maxL' none [] rm (.ref a :: argsL).toArray S1 h Q') (hpd : parseMethodDescriptor y.desc = some ⟨ps, rt⟩)
    (hr : ∀ v h' S', Q' v h' S' → h.size ≤ h'.size → Go p l e R s m args below meth c Z EL n0 own Q (S' ++ S) h' k' n' pc' Ls (v.toList ++ rest)) (hp : pc' = pc + 3 := by rfl) (hln : argsL.length = ps.length := by rfl) (hW : (rest.map fun v => v.category).sum ≤ W := by exact Nat.le_of_eq rfl) (hf : rm.frames + 1 ≤ R.frames := by decide) (hl : W + (maxL' + 11) + rm.locals ≤ R.locals := by decide) (hk : k + rm.cells ≤ k' := by decide) (hn : n + rm.slots ≤ n' := by decide) (hkR : k' ≤ R.cells := by decide) (hnR : n' ≤ R.slots := by decide) (hsub : ∀ x ∈ S1, x ∈ S := by simp) (hsz : Ls.size = maxL := by rfl) (hst : st = argsL.reverse ++ .ref a :: rest := by rfl) (hy : NoH y := by decide) (hy1 : y.name = "<init>" := by rfl) : Go p l e R s m args below meth c Z EL n0 own Q S h k n pc Ls st := by
  subst hp hst
  intro T ⟨locs, vm0, k0, k1, n1, q1, q2, X, eT, hS, hk0, hZ, hown, N, O, C, SL⟩
  obtain ⟨v, vm1, P, hW1, X', h2, hg, hpost, hst⟩ := X.specialBackS B.1 (y := y) hy1 hown (mvT (s := s.setVm vm0) hZ w1) (mvT (s := s.setVm vm0) hZ w2) (mvT (s := s.setVm vm0) hZ w4) hy (Con.back (W := W) hM hZ w4 w3 hf hl B.2.2.2.2.2.2.1 C.1 (SL.sub hsub)) (g := mkF m pc Ls (argsL.reverse ++ .ref a :: rest)) rfl (by rw [B.2.2.1]; exact hsz) (Steps.refl _) (a := a) (argsL := argsL) (rest := rest) (lenOf hpd hln) rfl (by show 2 * 0 + _ ≤ _; omega) (hb B.2.1 hd) (fun _ _ => ⟨rfl, eT, by show k1 + _ ≤ _; omega, by show n1 + _ ≤ _; omega⟩)
  exact after hS hk0 eT q1 q2 hk hn hZ hown N C SL X' h2 hg hpost hst hr
theorem callVirtual (B : Bdy p meth c Z EL a0 bytes maxL ret nm) {index : Nat} {y : MethodName} {bytes' : ByteArray} {maxL' : Nat} {ret' : Option FieldType} {rm : Room} {S1 : List Addr} {Q' : Po} {argsL : List Value} {ps : List FieldType} {rt : Option FieldType} {W : Nat} {a : Addr} {K K' : String} {z : MethodName} (hd : decode bytes pc = .ok (.invokevirtual index, 3)) (w1 : (Jvm.Cond.methodLink own index y).before a0 Z = true) (w2 : (Jvm.Cond.declares y).before a0 Z = true) (w0 : (Jvm.Cond.selects K' y y).before a0 Z = true) (w5 : (Jvm.Cond.selects K y z).before a0 Z = true) (w6 : (Jvm.Cond.instanceMethod z).before a0 Z = true) (w3 : (Jvm.Cond.initialized z.cls).before a0 Z = true) (w4 : (Jvm.Cond.code z bytes' maxL' ret').before a0 Z = true) (E : Exa Z h a K)
    (hM : Con l Z EL n0 z bytes' maxL' ret' [] rm (.ref a :: argsL).toArray S1 h Q') (hpd : parseMethodDescriptor y.desc = some ⟨ps, rt⟩)
    (hr : ∀ v h' S', Q' v h' S' → h.size ≤ h'.size → Go p l e R s m args below meth c Z EL n0 own Q (S' ++ S) h' k' n' pc' Ls (v.toList ++ rest)) (hp : pc' = pc + 3 := by rfl) (hln : argsL.length = ps.length := by rfl) (hW : (rest.map fun v => v.category).sum ≤ W := by exact Nat.le_of_eq rfl) (hf : rm.frames + 1 ≤ R.frames := by decide) (hl : W + (maxL' + 11) + rm.locals ≤ R.locals := by decide) (hk : k + rm.cells ≤ k' := by decide) (hn : n + rm.slots ≤ n' := by decide) (hkR : k' ≤ R.cells := by decide) (hnR : n' ≤ R.slots := by decide) (hsub : ∀ x ∈ S1, x ∈ S := by simp) (hsz : Ls.size = maxL := by rfl) (hst : st = argsL.reverse ++ .ref a :: rest := by rfl) (hy : NoH y := by decide) : Go p l e R s m args below meth c Z EL n0 own Q S h k n pc Ls st := by
  subst hp hst
  intro T ⟨locs, vm0, k0, k1, n1, q1, q2, X, eT, hS, hk0, hZ, hown, N, O, C, SL⟩
  obtain ⟨cq, kq, qa, qb, qc⟩ := isOf (s := s.setVm vm0) hZ eT E
  obtain ⟨v, vm1, P, hW1, X', h2, hg, hpost, hst⟩ := X.virtualBackS B.1 (y := y) (z := z) hown (mvT (s := s.setVm vm0) hZ w1) (mvT (s := s.setVm vm0) hZ w2) (notFace_of_selects (args := #[]) (mvT (s := s.setVm vm0) hZ w0)) (mvT (s := s.setVm vm0) hZ w5) (mvT (s := s.setVm vm0) hZ w6) hy (Con.back (W := W) hM hZ w4 w3 hf hl B.2.2.2.2.2.2.1 C.1 (SL.sub hsub)) qa qc (g := mkF m pc Ls (argsL.reverse ++ .ref a :: rest)) rfl (by rw [B.2.2.1]; exact hsz) (Steps.refl _) (argsL := argsL) (rest := rest) (lenOf hpd hln) rfl (by show 2 * 0 + _ ≤ _; omega) (hb B.2.1 hd) (fun _ _ => ⟨rfl, eT, by show k1 + _ ≤ _; omega, by show n1 + _ ≤ _; omega⟩)
  exact after hS hk0 eT q1 q2 hk hn hZ hown N C SL X' h2 hg hpost hst hr
theorem callFace (B : Bdy p meth c Z EL a0 bytes maxL ret nm) {index : Nat} {y : MethodName} {bytes' : ByteArray} {maxL' : Nat} {ret' : Option FieldType} {rm : Room} {S1 : List Addr} {Q' : Po} {argsL : List Value} {ps : List FieldType} {rt : Option FieldType} {W : Nat} {a : Addr} {K : String} {z : MethodName} {count : Nat} (hd : decode bytes pc = .ok (.invokeinterface index count, 5)) (w1 : (Jvm.Cond.methodLink own index y).before a0 Z = true) (w2 : (Jvm.Cond.declares y).before a0 Z = true) (w7 : (Jvm.Cond.interfaceMethod y.cls y.cls y.name y.desc).before a0 Z = true) (w5 : (Jvm.Cond.selects K y z).before a0 Z = true) (w6 : (Jvm.Cond.instanceMethod z).before a0 Z = true) (w8 : (Jvm.Cond.publicMethod z).before a0 Z = true) (w9 : (Jvm.Cond.unhidden K y.name y.desc).before a0 Z = true) (w10 : (Jvm.Cond.castable K y.cls).before a0 Z = true) (w3 : (Jvm.Cond.initialized z.cls).before a0 Z = true) (w4 : (Jvm.Cond.code z bytes' maxL' ret').before a0 Z = true) (E : Exa Z h a K)
    (hM : Con l Z EL n0 z bytes' maxL' ret' [] rm (.ref a :: argsL).toArray S1 h Q') (hpd : parseMethodDescriptor y.desc = some ⟨ps, rt⟩)
    (hr : ∀ v h' S', Q' v h' S' → h.size ≤ h'.size → Go p l e R s m args below meth c Z EL n0 own Q (S' ++ S) h' k' n' pc' Ls (v.toList ++ rest)) (hp : pc' = pc + 5 := by rfl) (hln : argsL.length = ps.length := by rfl) (hW : (rest.map fun v => v.category).sum ≤ W := by exact Nat.le_of_eq rfl) (hf : rm.frames + 1 ≤ R.frames := by decide) (hl : W + (maxL' + 11) + rm.locals ≤ R.locals := by decide) (hk : k + rm.cells ≤ k' := by decide) (hn : n + rm.slots ≤ n' := by decide) (hkR : k' ≤ R.cells := by decide) (hnR : n' ≤ R.slots := by decide) (hsub : ∀ x ∈ S1, x ∈ S := by simp) (hsz : Ls.size = maxL := by rfl) (hst : st = argsL.reverse ++ .ref a :: rest := by rfl) (hy : NoH y := by decide) : Go p l e R s m args below meth c Z EL n0 own Q S h k n pc Ls st := by
  subst hp hst
  intro T ⟨locs, vm0, k0, k1, n1, q1, q2, X, eT, hS, hk0, hZ, hown, N, O, C, SL⟩
  obtain ⟨cq, kq, qa, qb, qc⟩ := isOf (s := s.setVm vm0) hZ eT E
  obtain ⟨v, vm1, P, hW1, X', h2, hg, hpost, hst⟩ := X.interfaceBackS B.1 (xi := y) (y := z) hown (mvT (s := s.setVm vm0) hZ w1) (mvT (s := s.setVm vm0) hZ w2) (mvFace (s := s.setVm vm0) hZ hy w7) (mvT (s := s.setVm vm0) hZ w5) (mvT (s := s.setVm vm0) hZ w6) (mvPub (s := s.setVm vm0) hZ w8) (mvUnh (s := s.setVm vm0) hZ w9) (mvT (s := s.setVm vm0) hZ w10) hy (Con.back (W := W) hM hZ w4 w3 hf hl B.2.2.2.2.2.2.1 C.1 (SL.sub hsub)) qa qb qc (g := mkF m pc Ls (argsL.reverse ++ .ref a :: rest)) rfl (by rw [B.2.2.1]; exact hsz) (Steps.refl _) (argsL := argsL) (rest := rest) (lenOf hpd hln) rfl (by show 2 * 0 + _ ≤ _; omega) (hb B.2.1 hd) (fun _ _ => ⟨rfl, eT, by show k1 + _ ≤ _; omega, by show n1 + _ ≤ _; omega⟩)
  exact after hS hk0 eT q1 q2 hk hn hZ hown N C SL X' h2 hg hpost hst hr

theorem newObj (B : Bdy p meth c Z EL a0 bytes maxL ret nm) {index nn : Nat} {K : String} (hd : decode bytes pc = .ok (.new index, 3)) (w : (Jvm.Cond.classLink own index K).before a0 Z = true) (wi : (Jvm.Cond.instantiable K nn).before a0 Z = true) (wz : (Jvm.Cond.initialized K).before a0 Z = true) 
    (hr : ∀ (h' : Heap) (a : Nat), a = h.size → n0 ≤ a → Keep h h' [] → Exa Z h' a K → (∀ {O f d : String} {ty : FieldType}, Laid Z a0 K O f d → parseFieldDescriptor d = some ty → Fld Z h' a O f d (defaultValue ty)) → Go p l e R s m args below meth c Z EL n0 own Q (a :: S) h' k' n' pc' Ls (.ref a :: st)) (hp : pc' = pc + 3 := by rfl) (hk : k + 1 ≤ k' := by decide) (hn : n + nn ≤ n' := by decide) (hkR : k' ≤ R.cells := by decide) (hnR : n' ≤ R.slots := by decide) : Go p l e R s m args below meth c Z EL n0 own Q S h k n pc Ls st := by
  subst hp
  refine made (dc := 0) (dn := 0) (nn := nn) (P := fun h' => Exa Z h' h.size K ∧ ∀ (O f d : String) (ty : FieldType), Laid Z a0 K O f d → parseFieldDescriptor d = some ty → Fld Z h' h.size O f d (defaultValue ty)) hk hn ?_ (fun h' E P q => hr h' h.size rfl q (keepE E) P.1 (fun {O f d ty} a b => P.2 O f d ty a b))
  intro T vm0 locs k1 n1 q1 q2 X eT hZ hown
  obtain ⟨T', h', X', e', E, A, D, -, st⟩ := newO X B.1 hZ hown w wi wz eT (g := mkF m pc Ls st) rfl (hb B.2.1 hd) (by omega) (by omega)
  exact ⟨T', h', X', e', E, A.lt, ⟨A, fun O f d ty a b => D a b⟩, st⟩
theorem newArr (B : Bdy p meth c Z EL a0 bytes maxL ret nm) {aty : ArrayType} {z : Int32} {cap : Nat} (hd : decode bytes pc = .ok (.newarray aty, 2)) (w : (Jvm.Cond.arrayClass (newarray.typeOf aty)).before a0 Z = true) (hz : ¬ z < 0) (hcap : z.toNatClampNeg ≤ cap) 
    (hr : ∀ (h' : Heap) (a : Nat) (cA : ClassId), a = h.size → n0 ≤ a → Keep h h' [] → Arv Z h' a cA (newarray.typeOf aty) z [] (defaultValue (newarray.typeOf aty)) → Go p l e R s m args below meth c Z EL n0 own Q (a :: S) h' k' n' pc' Ls (.ref a :: rest)) (hp : pc' = pc + 2 := by rfl) (hk : k + 1 ≤ k' := by decide) (hn : n + cap ≤ n' := by decide) (hkR : k' ≤ R.cells := by decide) (hnR : n' ≤ R.slots := by decide) (hcb : cap * 8 ≤ 536870912 := by decide) : Go p l e R s m args below meth c Z EL n0 own Q S h k n pc Ls (.int z :: rest) := by
  subst hp
  refine made (dc := 0) (dn := 0) (nn := cap) (P := fun h' => ∃ cA, Arr Z h' h.size (newA cA (newarray.typeOf aty) z) (newarray.typeOf aty)) hk hn ?_ (fun h' E P q => P.elim fun cA A => hr h' h.size cA rfl q (keepE E) (Arv.new A hz))
  intro T vm0 locs k1 n1 q1 q2 X eT hZ hown
  obtain ⟨T', h', cA, X', e', E, A, st⟩ := newP X B.1 hZ w eT (g := mkF m pc Ls (.int z :: rest)) rfl (hb B.2.1 hd) (n := z) rfl hz hcap hcb (by omega) (by omega)
  exact ⟨T', h', X', e', E, A.lt, ⟨cA, A⟩, st⟩
theorem getfield (B : Bdy p meth c Z EL a0 bytes maxL ret nm) {index : Nat} {R0 O f d : String} {a : Addr} {v : Value} (hd : decode bytes pc = .ok (.getfield index, 3)) (w : (Jvm.Cond.fieldLink own index R0 f d).before a0 Z = true) (via : Via Z R0 O f d) (F : Fld Z h a O f d v) (hr : Go p l e R s m args below meth c Z EL n0 own Q S h k n pc' Ls (v :: rest)) (hp : pc' = pc + 3 := by rfl) : Go p l e R s m args below meth c Z EL n0 own Q S h k n pc Ls (.ref a :: rest) := by
  subst hp
  exact warm hr fun T vm0 locs k1 n1 X eT hZ hown _ => getF X B.1 hZ hown (host := "") (Or.inl w) via eT F (g := mkF m pc Ls (.ref a :: rest)) rfl rfl (hb B.2.1 hd)
theorem getfieldN (B : Bdy p meth c Z EL a0 bytes maxL ret nm) {index : Nat} {R0 O f d host : String} {a : Addr} {v : Value} (hd : decode bytes pc = .ok (.getfield index, 3)) (w : (Jvm.Cond.fieldLinkNest own index R0 f d host).before a0 Z = true) (via : Via Z R0 O f d) (F : Fld Z h a O f d v) (hr : Go p l e R s m args below meth c Z EL n0 own Q S h k n pc' Ls (v :: rest)) (hp : pc' = pc + 3 := by rfl) : Go p l e R s m args below meth c Z EL n0 own Q S h k n pc Ls (.ref a :: rest) := by
  subst hp
  exact warm hr fun T vm0 locs k1 n1 X eT hZ hown _ => getF X B.1 hZ hown (host := host) (Or.inr w) via eT F (g := mkF m pc Ls (.ref a :: rest)) rfl rfl (hb B.2.1 hd)
theorem getstatic (B : Bdy p meth c Z EL a0 bytes maxL ret nm) {index : Nat} {R0 O f d : String} {v : Value} (hd : decode bytes pc = .ok (.getstatic index, 3)) (w : (Jvm.Cond.fieldLink own index R0 f d).before a0 Z = true) (via : Via Z R0 O f d) (F : Sta Z Z.heap O f d v) (hr : Go p l e R s m args below meth c Z EL n0 own Q S h k n pc' Ls (v :: st)) (hp : pc' = pc + 3 := by rfl) : Go p l e R s m args below meth c Z EL n0 own Q S h k n pc Ls st := by
  subst hp
  exact warm hr fun T vm0 locs k1 n1 X eT hZ hown O => getS X B.1 hZ hown (host := "") w via eT (F.ext O.2) (g := mkF m pc Ls st) rfl (hb B.2.1 hd)
theorem getstaticN (B : Bdy p meth c Z EL a0 bytes maxL ret nm) {index : Nat} {R0 O f d host : String} {v : Value} (hd : decode bytes pc = .ok (.getstatic index, 3)) (w : (Jvm.Cond.fieldLinkNest own index R0 f d host).before a0 Z = true) (via : Via Z R0 O f d) (F : Sta Z Z.heap O f d v) (hr : Go p l e R s m args below meth c Z EL n0 own Q S h k n pc' Ls (v :: st)) (hp : pc' = pc + 3 := by rfl) : Go p l e R s m args below meth c Z EL n0 own Q S h k n pc Ls st := by
  subst hp
  exact warm hr fun T vm0 locs k1 n1 X eT hZ hown O => getS2 X B.1 hZ hown (host := host) (Or.inr w) via eT (F.ext O.2) (g := mkF m pc Ls st) rfl (hb B.2.1 hd)
theorem putfield (B : Bdy p meth c Z EL a0 bytes maxL ret nm) {index kk : Nat} {R0 O f d K : String} {ty : FieldType} {a : Addr} {v old : Value} (hd : decode bytes pc = .ok (.putfield index, 3)) (w : (Jvm.Cond.fieldLink own index R0 f d).before a0 Z = true) (via : Via Z R0 O f d) (F : Fld Z h a O f d old) (E : Exa Z h a K) (L : (Jvm.Cond.lays K O f d).before a0 Z = true ∨ ((Jvm.Cond.laysFinal K O f d).before a0 Z = true ∧ own = O ∧ nm = "<init>")) (wi : (Jvm.Cond.instantiable K kk).before a0 Z = true)
    (hsafe : a ∈ S ∨ (K ≠ "java/lang/String" ∧ K ≠ "[B")) (hr : ∀ h', Wr h h' a (RoadKit.slotOf Z O f d) v → Go p l e R s m args below meth c Z EL n0 own Q S h' k n pc' Ls rest) (hp : pc' = pc + 3 := by rfl) (hty : parseFieldDescriptor d = some ty := by decide) (hnn : narrow ty v = v := by rfl) (hfit : fits ty v = true := by first | rfl | decide) (ha : n0 ≤ a := by omega) : Go p l e R s m args below meth c Z EL n0 own Q S h k n pc Ls (v :: .ref a :: rest) := by
  subst hp
  exact wrote ha (fun vm0 hZ SL => hsafe.elim (fun q => (SL a q).2) (fun q => Safe.exa hZ.alike E q.1 q.2)) (fun T vm0 locs k1 n1 X eT hZ hown => putF X B.1 hZ hown (host := "") (Or.inl w) via eT F E (L.imp id fun ⟨u, v, w⟩ => ⟨u, v, B.2.2.2.2.1.trans w⟩) wi hty hnn hfit (g := mkF m pc Ls (v :: .ref a :: rest)) rfl rfl (hb B.2.1 hd)) hr
theorem castore (B : Bdy p meth c Z EL a0 bytes maxL ret nm) {a : Addr} {kc : ClassId} {z j x : Int32} {vs : List Value} {dv : Value} {i : Nat} (hd : decode bytes pc = .ok (.castore, 1)) (A : Arv Z h a kc .char z vs dv) (hj : ¬ j < 0 ∧ j < z) 
    (hr : ∀ h', Keep h h' [a] → Arv Z h' a kc .char z (vs.set i (.int (nar .char x))) dv → Go p l e R s m args below meth c Z EL n0 own Q S h' k n pc' Ls rest) (hp : pc' = pc + 1 := by rfl) (ha : n0 ≤ a := by omega) (hlt : i < vs.length := by simp) (hi : j.toNatClampNeg = i := by decide) : Go p l e R s m args below meth c Z EL n0 own Q S h k n pc Ls (.int x :: .int j :: .ref a :: rest) := by
  subst hp
  obtain ⟨cl, A1, A2, A3, A4, A5, A6⟩ := A
  exact wrote ha (fun vm0 hZ SL => Safe.arr hZ.alike A1 (by decide)) (fun T vm0 locs k1 n1 X eT hZ hown => stC X B.1 hZ eT A1 (inb_of A3 hj) (g := mkF m pc Ls (.int x :: .int j :: .ref a :: rest)) rfl rfl (hb B.2.1 hd)) (fun h' W => hr h' (Keep.of_wr W) (Arv.set A1 A2 A3 A4 A5 A6 (fits_nar_char x) W i hi hlt))
theorem bastore (B : Bdy p meth c Z EL a0 bytes maxL ret nm) {a : Addr} {kc : ClassId} {z j x : Int32} {vs : List Value} {dv : Value} {i : Nat} (hd : decode bytes pc = .ok (.bastore, 1)) (A : Arv Z h a kc .byte z vs dv) (hj : ¬ j < 0 ∧ j < z) (hsafe : a ∈ S)
    (hr : ∀ h', Keep h h' [a] → Arv Z h' a kc .byte z (vs.set i (.int (nar .byte x))) dv → Go p l e R s m args below meth c Z EL n0 own Q S h' k n pc' Ls rest) (hp : pc' = pc + 1 := by rfl) (ha : n0 ≤ a := by omega) (hlt : i < vs.length := by simp) (hi : j.toNatClampNeg = i := by decide) : Go p l e R s m args below meth c Z EL n0 own Q S h k n pc Ls (.int x :: .int j :: .ref a :: rest) := by
  subst hp
  obtain ⟨cl, A1, A2, A3, A4, A5, A6⟩ := A
  exact wrote ha (fun vm0 hZ SL => (SL a hsafe).2) (fun T vm0 locs k1 n1 X eT hZ hown => stB X B.1 hZ eT A1 (inb_of A3 hj) (g := mkF m pc Ls (.int x :: .int j :: .ref a :: rest)) rfl rfl (hb B.2.1 hd)) (fun h' W => hr h' (Keep.of_wr W) (Arv.set A1 A2 A3 A4 A5 A6 (fits_nar_byte x) W i hi hlt))
theorem arrlen (B : Bdy p meth c Z EL a0 bytes maxL ret nm) {a : Addr} {kc : ClassId} {ty : FieldType} {z : Int32} {vs : List Value} {dv : Value} (hd : decode bytes pc = .ok (.arraylength, 1)) (A : Arv Z h a kc ty z vs dv) (hr : Go p l e R s m args below meth c Z EL n0 own Q S h k n pc' Ls (.int z :: rest)) (hp : pc' = pc + 1 := by rfl) : Go p l e R s m args below meth c Z EL n0 own Q S h k n pc Ls (.ref a :: rest) := by
  subst hp
  obtain ⟨cl, A1, A2, A3, A4, A5, A6⟩ := A
  exact warm hr fun T vm0 locs k1 n1 X eT hZ hown _ => ⟨T, X, eT, fun t q => X.arraylength B.1 (by rw [eT]; exact A1.1) (State.isArrayOf_alike hZ.alike A1.2.1) (g := mkF m pc Ls (.ref a :: rest)) rfl rfl (hb B.2.1 hd) t (by rw [len_of A3 A4]; exact q)⟩
theorem caload (B : Bdy p meth c Z EL a0 bytes maxL ret nm) {a : Addr} {kc : ClassId} {z j : Int32} {vs : List Value} {dv v : Value} (hd : decode bytes pc = .ok (.caload, 1)) (A : Arv Z h a kc .char z vs dv) (hj : ¬ j < 0 ∧ j < z) (hv : vs.getD j.toNatClampNeg dv = v) (hr : Go p l e R s m args below meth c Z EL n0 own Q S h k n pc' Ls (v :: rest)) (hp : pc' = pc + 1 := by rfl) : Go p l e R s m args below meth c Z EL n0 own Q S h k n pc Ls (.int j :: .ref a :: rest) := by
  subst hp
  obtain ⟨cl, A1, A2, A3, A4, A5, A6⟩ := A
  exact warm hr fun T vm0 locs k1 n1 X eT hZ hown _ => ⟨T, X, eT, fun t q => X.caload B.1 (by rw [eT]; exact A1.1) (State.isArrayOf_alike hZ.alike A1.2.1) A1.2.2 (inb_of A3 hj) (Has.at A5 (inb_of A3 hj) hv) (g := mkF m pc Ls (.int j :: .ref a :: rest)) rfl rfl (hb B.2.1 hd) t q⟩
theorem baload (B : Bdy p meth c Z EL a0 bytes maxL ret nm) {a : Addr} {kc : ClassId} {z j : Int32} {vs : List Value} {dv v : Value} (hd : decode bytes pc = .ok (.baload, 1)) (A : Arv Z h a kc .byte z vs dv) (hj : ¬ j < 0 ∧ j < z) (hv : vs.getD j.toNatClampNeg dv = v) (hr : Go p l e R s m args below meth c Z EL n0 own Q S h k n pc' Ls (v :: rest)) (hp : pc' = pc + 1 := by rfl) : Go p l e R s m args below meth c Z EL n0 own Q S h k n pc Ls (.int j :: .ref a :: rest) := by
  subst hp
  obtain ⟨cl, A1, A2, A3, A4, A5, A6⟩ := A
  exact warm hr fun T vm0 locs k1 n1 X eT hZ hown _ => ⟨T, X, eT, fun t q => X.baloadBytes B.1 (by rw [eT]; exact A1.1) (State.isArrayOf_alike hZ.alike A1.2.1) A1.2.2 (inb_of A3 hj) (Has.at A5 (inb_of A3 hj) hv) (g := mkF m pc Ls (.int j :: .ref a :: rest)) rfl rfl (hb B.2.1 hd) t q⟩
theorem aaload (B : Bdy p meth c Z EL a0 bytes maxL ret nm) {a : Addr} {kc : ClassId} {ty : FieldType} {z j : Int32} {vs : List Value} {dv v : Value} (hd : decode bytes pc = .ok (.aaload, 1)) (hty : ty.isReference = true) (A : Arv Z h a kc ty z vs dv) (hj : ¬ j < 0 ∧ j < z) (hv : vs.getD j.toNatClampNeg dv = v) (hr : Go p l e R s m args below meth c Z EL n0 own Q S h k n pc' Ls (v :: rest)) (hp : pc' = pc + 1 := by rfl) : Go p l e R s m args below meth c Z EL n0 own Q S h k n pc Ls (.int j :: .ref a :: rest) := by
  subst hp
  obtain ⟨cl, A1, A2, A3, A4, A5, A6⟩ := A
  exact warm hr fun T vm0 locs k1 n1 X eT hZ hown _ => ⟨T, X, eT, fun t q => X.aaload B.1 (by rw [eT]; exact A1.1) (State.isArrayOf_alike hZ.alike A1.2.1) hty A1.2.2 (inb_of A3 hj) (Has.at A5 (inb_of A3 hj) hv) (g := mkF m pc Ls (.int j :: .ref a :: rest)) rfl rfl (hb B.2.1 hd) t q⟩
theorem checkcast (B : Bdy p meth c Z EL a0 bytes maxL ret nm) {index : Nat} {K : String} {a : Addr} (hd : decode bytes pc = .ok (.checkcast index, 3)) (w : (Jvm.Cond.classLink own index K).before a0 Z = true) (F : Ins Z h a K true) (hr : Go p l e R s m args below meth c Z EL n0 own Q S h k n pc' Ls (.ref a :: rest)) (hp : pc' = pc + 3 := by rfl) : Go p l e R s m args below meth c Z EL n0 own Q S h k n pc Ls (.ref a :: rest) := by
  subst hp
  exact warm hr fun T vm0 locs k1 n1 X eT hZ hown _ => castY X B.1 hZ hown w eT F (g := mkF m pc Ls (.ref a :: rest)) rfl rfl (hb B.2.1 hd)
theorem instYes (B : Bdy p meth c Z EL a0 bytes maxL ret nm) {index : Nat} {K : String} {a : Addr} (hd : decode bytes pc = .ok (.instanceof index, 3)) (w : (Jvm.Cond.classLink own index K).before a0 Z = true) (F : Ins Z h a K true) (hr : Go p l e R s m args below meth c Z EL n0 own Q S h k n pc' Ls (.int 1 :: rest)) (hp : pc' = pc + 3 := by rfl) : Go p l e R s m args below meth c Z EL n0 own Q S h k n pc Ls (.ref a :: rest) := by
  subst hp
  exact warm hr fun T vm0 locs k1 n1 X eT hZ hown _ => instY X B.1 hZ hown w eT F (g := mkF m pc Ls (.ref a :: rest)) rfl rfl (hb B.2.1 hd)
theorem objInit (B : Bdy p meth c Z EL a0 bytes maxL ret nm) {index W : Nat} {a : Addr} (hd : decode bytes pc = .ok (.invokespecial index, 3)) (w1 : (Jvm.Cond.methodLink own index Lib.objectInit).before a0 Z = true) (w2 : (Jvm.Cond.instanceMethod Lib.objectInit).before a0 Z = true) (w3 : (Jvm.Cond.code Lib.objectInit ⟨#[0xb1]⟩ 1 none).before a0 Z = true) (hr : Go p l e R s m args below meth c Z EL n0 own Q S h k n pc' Ls rest) (hp : pc' = pc + 3 := by rfl) (hsz : Ls.size = maxL := by rfl) (hW : (rest.map fun v => v.category).sum ≤ W := by exact Nat.le_of_eq rfl) (hf : 1 ≤ R.frames := by decide) (hl : W + 12 ≤ R.locals := by decide) : Go p l e R s m args below meth c Z EL n0 own Q S h k n pc Ls (.ref a :: rest) := by
  subst hp
  exact warm hr fun T vm0 locs k1 n1 X eT hZ hown _ => initO X B.1 hZ hown w1 w2 w3 eT (g := mkF m pc Ls (.ref a :: rest)) rfl (by rw [B.2.2.1]; exact hsz) rfl (hb B.2.1 hd) hf (W := W) (by show 2 * 0 + _ ≤ _; omega) hl
theorem ldcInt (B : Bdy p meth c Z EL a0 bytes maxL ret nm) {index : Nat} {x : Int32} (hd : decode bytes pc = .ok (.ldc index, 2)) (w : (Jvm.Cond.constant own index x).before a0 Z = true) (hr : Go p l e R s m args below meth c Z EL n0 own Q S h k n pc' Ls (.int x :: st)) (hp : pc' = pc + 2 := by rfl) : Go p l e R s m args below meth c Z EL n0 own Q S h k n pc Ls st := by
  subst hp
  exact warm hr fun T vm0 locs k1 n1 X eT hZ hown _ => ⟨T, X, eT, fun t q => X.ldcInt B.1 hown (mvT (s := s.setVm vm0) hZ w) (g := mkF m pc Ls st) rfl (hb B.2.1 hd) t q⟩
theorem ldcAny (B : Bdy p meth c Z EL a0 bytes maxL ret nm) {index nn : Nat} {text : String} (hd : decode bytes pc = .ok (.ldc index, 2)) (w : (Jvm.Cond.stringLink own index text).before a0 Z = true) 
    (hr : ∀ (h' : Heap) (a : Nat), Keep h h' [] → Go p l e R s m args below meth c Z EL n0 own Q S h' k' n' pc' Ls (.ref a :: st)) (hp : pc' = pc + 2 := by rfl) (hk : k + 2 ≤ k' := by decide) (hn : n + (nn + 4) ≤ n' := by decide) (hkR : k' ≤ R.cells := by decide) (hnR : n' ≤ R.slots := by decide) (hnn : 4 * text.toList.length ≤ nn := by decide) (hbig : nn ≤ 536870912 := by decide) : Go p l e R s m args below meth c Z EL n0 own Q S h k n pc Ls st := by
  subst hp
  intro T ⟨locs, vm0, k0, k1, n1, q1, q2, X, eT, hS, hk0, hZ, hown, N, O, C, SL⟩
  obtain ⟨a, T', h', k2, X', e', E, hS', hk', hZ', hown', C', -, sp⟩ := ldcOH (EL := EL) X B.1 hZ hown w B.2.2.2.2.2.2.2 eT hS hk0 B.2.2.2.2.2.2.1 C.1 (g := mkF m pc Ls st) rfl (hb B.2.1 hd) hnn hbig (by omega) (by omega)
  obtain ⟨s2, o, q, r2⟩ := hr h' a (keepE E) T' ⟨locs, T'.vm, k2, k1 + 2, n1 + (nn + 4), by omega, by omega, X', e', hS', hk', hZ', hown', N, O.ext E, C.trans C', SL.chr C'⟩
  exact ⟨s2, o, sp _ q, r2⟩
theorem ldcText (B : Bdy p meth c Z EL a0 bytes maxL ret nm) {index nn : Nat} {text : String} (hd : decode bytes pc = .ok (.ldc index, 2)) (w : (Jvm.Cond.stringLink own index text).before a0 Z = true) (hmem : (own, index) ∈ EL) {vs : List Value} {z : Int32} (ht : (∀ c ∈ text.toList, c.toNat < 256) ∧ text.toList.map (fun c => Value.int (Jvm.Lit.byteI c.toNat.toUInt16)) = vs) (hz : ¬ z < 0) (hlz : z.toNatClampNeg = vs.length) 
    (hr : ∀ (h' : Heap) (a b : Nat) (kb : ClassId), Keep h h' [] → Exa Z h' a "java/lang/String" → Fld Z h' a "java/lang/String" "coder" "B" (.int 0) → Fld Z h' a "java/lang/String" "value" "[B" (.ref b) → Arv Z h' b kb .byte z vs (.int 0) → (∀ x ∈ S, x ≠ a ∧ x ≠ b) → Go p l e R s m args below meth c Z EL n0 own Q S h' k' n' pc' Ls (.ref a :: st)) (hp : pc' = pc + 2 := by rfl) (hk : k + 2 ≤ k' := by decide) (hn : n + (nn + 4) ≤ n' := by decide) (hkR : k' ≤ R.cells := by decide) (hnR : n' ≤ R.slots := by decide) (hnn : 4 * text.toList.length ≤ nn := by decide) (hbig : nn ≤ 536870912 := by decide) : Go p l e R s m args below meth c Z EL n0 own Q S h k n pc Ls st := by
  subst hp
  intro T ⟨locs, vm0, k0, k1, n1, q1, q2, X, eT, hS, hk0, hZ, hown, N, O, C, SL⟩
  obtain ⟨a, T', h', k2, b, kb, X', e', E, hS', hk', hZ', hown', f1, f2, f3, f4, -, -, C', -, ne, sp⟩ := ldcCH (EL := EL) X B.1 hZ hown w B.2.2.2.2.2.2.2 eT hS hk0 B.2.2.2.2.2.2.1 hmem C.1 ht hz hlz (g := mkF m pc Ls st) rfl (hb B.2.1 hd) hnn hbig (by omega) (by omega)
  have SL' := SL.chr C'
  obtain ⟨s2, o, q, r2⟩ := hr h' a b kb (keepE E) f1 f2 f3 f4 (fun x hx => ne x (SL' x hx).2) T' ⟨locs, T'.vm, k2, k1 + 2, n1 + (nn + 4), by omega, by omega, X', e', hS', hk', hZ', hown', N, O.ext E, C.trans C', SL'⟩
  exact ⟨s2, o, sp _ q, r2⟩
theorem finish (B : Bdy p meth c Z EL a0 bytes maxL ret nm) {v : Option Value} (hv : ret = none → v = none) (hQ : Q v h S') 
    (sp : ∀ (s' T : State) (locs : List Loc) (k1 n1 : Nat) (fs : List Frame), Stand p l e R s' m args below meth c T locs k1 n1 → (∀ (f : JFrame) (acts : List Action), f.method = m → f.locked = none → f.entered = [] → (doReturn e (T.setTop f) acts v).1 = T.setFrames fs) → Steps p.tables e below (T.setTop (mkF m pc Ls st)) (T.setFrames fs)) (hkR : k ≤ R.cells := by decide) (hnR : n ≤ R.slots := by decide) (hsub : ∀ x ∈ S', x ∈ S := by simp) : Go p l e R s m args below meth c Z EL n0 own Q S h k n pc Ls st := by
  intro T ⟨locs, vm0, k0, k1, n1, q1, q2, X, eT, hS, hk0, hZ, hown, N, O, C, SL⟩
  obtain ⟨fs, hr, hrun, hended, hE⟩ := X.leaveW (v := v) hS (by rw [eT]; exact hk0) (fun z => hv (B.2.2.2.1.symm.trans z)) B.2.2.2.2.2.1
  have A := CHv.at X hZ B.2.2.2.2.2.2.1 C.1
  subst eT
  exact ⟨_, _, sp _ T locs k1 n1 fs X hr, hrun, hended, v, locs, S', rfl, ⟨hQ, N, O, (SL.chr A).sub hsub⟩, C.trans A, hE.1, hE.2.1, hE.2.2.1, hE.2.2.2.mono (by omega) (by omega)⟩
theorem retV (B : Bdy p meth c Z EL a0 bytes maxL ret nm) (hd : decode bytes pc = .ok (.return_, 1)) (hQ : Q none h S') (hkR : k ≤ R.cells := by decide) (hnR : n ≤ R.slots := by decide) (hret : ret = none := by rfl) (hsub : ∀ x ∈ S', x ∈ S := by simp) : Go p l e R s m args below meth c Z EL n0 own Q S h k n pc Ls [] :=
  finish B (fun _ => rfl) hQ (fun s' T locs k1 n1 fs X hr => X.returnOut B.1 (B.2.2.2.1.trans hret) (hb B.2.1 hd) hr) hkR hnR hsub
theorem retA (B : Bdy p meth c Z EL a0 bytes maxL ret nm) {t : FieldType} {w : Value} (hd : decode bytes pc = .ok (.areturn, 1)) (hQ : Q (some w) h S') (hkR : k ≤ R.cells := by decide) (hnR : n ≤ R.slots := by decide) (hret : ret = some t := by rfl) (hsub : ∀ x ∈ S', x ∈ S := by simp) (hw : w.isRef = true := by rfl) (hnn : narrow t w = w := by rfl) (ht : t.isReference = true := by rfl) : Go p l e R s m args below meth c Z EL n0 own Q S h k n pc Ls (w :: rest) :=
  finish B (fun z => by rw [hret] at z; cases z) hQ (fun s' T locs k1 n1 fs X hr => retOut X B.1 (B.2.2.2.1.trans hret) hnn (Or.inr (Or.inr (Or.inr (Or.inr ⟨rfl, ht, hw⟩)))) (hb B.2.1 hd) hr) hkR hnR hsub
theorem retI (B : Bdy p meth c Z EL a0 bytes maxL ret nm) {t : FieldType} {w : Int32} (hd : decode bytes pc = .ok (.ireturn, 1)) (hQ : Q (some (.int w)) h S') (hkR : k ≤ R.cells := by decide) (hnR : n ≤ R.slots := by decide) (hret : ret = some t := by rfl) (hsub : ∀ x ∈ S', x ∈ S := by simp) (hnn : narrow t (.int w) = .int w := by rfl) (ht : t = .int ∨ t = .boolean ∨ t = .byte ∨ t = .char ∨ t = .short := by simp) : Go p l e R s m args below meth c Z EL n0 own Q S h k n pc Ls (.int w :: rest) :=
  finish B (fun z => by rw [hret] at z; cases z) hQ (fun s' T locs k1 n1 fs X hr => retOut X B.1 (B.2.2.2.1.trans hret) hnn (Or.inl ⟨rfl, ht, _, rfl⟩) (hb B.2.1 hd) hr) hkR hnR hsub
theorem acmpR (B : Bdy p meth c Z EL a0 bytes maxL ret nm) {cd : ACond} {x y : Value} {o : Int} {same : Bool} (hd : decode bytes pc = .ok (.if_acmp cd o, 3)) (hq : decide (x = y) = same) (hr : Go p l e R s m args below meth c Z EL n0 own Q S h k n pc' Ls rest) (ho : 0 ≤ (pc : Int) + o := by decide) (hp : pc' = if acV cd same = true then ((pc : Int) + o).toNat else pc + 3 := by decide) (h1 : x.isRef = true := by rfl) (h2 : y.isRef = true := by rfl) : Go p l e R s m args below meth c Z EL n0 own Q S h k n pc Ls (y :: x :: rest) :=
  warm hr fun T vm0 locs k1 n1 X eT hZ hown _ => ⟨T, X, eT, fun t q => acmp X B.1 rfl h1 h2 (g := mkF m pc Ls (y :: x :: rest)) (pc0 := pc) rfl (hb B.2.1 hd) rfl hq ho hp q⟩
def Str (Z : State) (h : Heap) (a t : Addr) (kb : ClassId) (cod z : Int32) (vs : List Value) : Prop := Exa Z h a "java/lang/String" ∧ Fld Z h a "java/lang/String" "coder" "B" (.int cod) ∧ Fld Z h a "java/lang/String" "value" "[B" (.ref t) ∧ Arv Z h t kb .byte z vs (.int 0)
def Rng (cs : List Int32) : Prop := ∀ x ∈ cs, ¬ x < (0 : Int32) ∧ ¬ (65535 : Int32) < x
def Lat (cs : List Int32) : Prop := ∀ x ∈ cs, ¬ (255 : Int32) < x
def Chs (Z : State) (h : Heap) (a t : Addr) (kb : ClassId) (cs : List Int32) : Prop := Exa Z h a "java/lang/String" ∧ Fld Z h a "java/lang/String" "value" "[B" (.ref t) ∧ Rng cs ∧
  ((Fld Z h a "java/lang/String" "coder" "B" (.int 0) ∧ Arv Z h t kb .byte (Int32.ofNat cs.length) (cs.map fun x => .int x.toInt8.toInt32) (.int 0) ∧ Lat cs) ∨
   (Fld Z h a "java/lang/String" "coder" "B" (.int 1) ∧ Arv Z h t kb .byte (Int32.ofNat (2 * cs.length)) (cs.flatMap fun x => [.int x.toInt8.toInt32, .int (x >>> ((8 : Int32) &&& 31)).toInt8.toInt32]) (.int 0)))
theorem Chs.keep {a t : Addr} {kb : ClassId} {cs : List Int32} {ws : List Addr} (F : Chs Z h a t kb cs) (K : Keep h h' ws) (qa : a ∉ ws) (qt : t ∉ ws) : Chs Z h' a t kb cs := by
  obtain ⟨E, V, r, ⟨C, A, L⟩ | ⟨C, A⟩⟩ := F
  · exact ⟨E.keep K, V.keep K qa, r, Or.inl ⟨C.keep K qa, A.keep K qt, L⟩⟩
  · exact ⟨E.keep K, V.keep K qa, r, Or.inr ⟨C.keep K qa, A.keep K qt⟩⟩
theorem Chs.lt {a t : Addr} {kb : ClassId} {cs : List Int32} (F : Chs Z h a t kb cs) : a < h.size := F.1.lt
theorem Chs.ltt {a t : Addr} {kb : ClassId} {cs : List Int32} (F : Chs Z h a t kb cs) : t < h.size := by
  obtain ⟨E, V, r, ⟨C, A, L⟩ | ⟨C, A⟩⟩ := F
  · exact A.lt
  · exact A.lt
theorem eq_int_v {args : Array Value} {first s' : State} {o : Option Outcome} {idx : List Nat} {t : Term} {c : Int32} (hq : (Jvm.Cond.eq t (.int c)).value args first o s' idx = some true) : t.eval args first o idx s' = some (.int c) := by
  simp only [Cond.value, Term.int_eval] at hq
  cases ht : t.eval args first o idx s' with
  | none => rw [ht] at hq; simp at hq
  | some v => rw [ht] at hq; cases v <;> simp_all
def Glo (Z : State) (cz : Int32) (sf : Value) : Prop := Sta Z Z.heap "java/lang/String" "COMPACT_STRINGS" "Z" (.int cz) ∧ cz ≠ 0 ∧ Sta Z Z.heap "jdk/internal/util/Preconditions" "SIOOBE_FORMATTER" "Ljava/util/function/BiFunction;" sf ∧ sf.isRef = true
theorem nnAnd (x y : Int32) : (x &&& y).toBitVec.toNat ≤ y.toBitVec.toNat := by
  have : (x &&& y).toBitVec.toNat = x.toBitVec.toNat &&& y.toBitVec.toNat := by simp
  rw [this]; exact Nat.and_le_right
theorem toInt_small {x : Int32} {n : Nat} (h : x.toBitVec.toNat ≤ n) (hn : n < 2147483648) : x.toInt = x.toBitVec.toNat := by
  show x.toBitVec.toInt = _
  rw [BitVec.toInt_eq_toNat_of_lt (by omega)]
/-- x &&& y for y from 0: from 0 to y -/
theorem and_rng (x : Int32) {y : Int32} {n : Nat} (hy : y.toBitVec.toNat = n) (hn : n < 2147483648) : 0 ≤ (x &&& y).toInt ∧ (x &&& y).toInt ≤ n := by
  have h := nnAnd x y
  rw [hy] at h
  have := toInt_small h hn
  omega
theorem and255 (x : Int32) : 0 ≤ (x &&& 255).toInt ∧ (x &&& 255).toInt ≤ 255 := and_rng x (n := 255) (by decide) (by decide)
theorem and1 (x : Int32) : x &&& 1 = 0 ∨ x &&& 1 = 1 := by
  have k := and_rng x (y := 1) (n := 1) (by decide) (by decide)
  have k : (x &&& 1).toInt = 0 ∨ (x &&& 1).toInt = 1 := by omega
  exact k.imp Int32.toInt_inj.mp Int32.toInt_inj.mp
theorem and3 (x : Int32) : x &&& 3 = 0 ∨ x &&& 3 = 1 ∨ x &&& 3 = 2 ∨ x &&& 3 = 3 := by
  have k := and_rng x (y := 3) (n := 3) (by decide) (by decide)
  have k : (x &&& 3).toInt = 0 ∨ (x &&& 3).toInt = 1 ∨ (x &&& 3).toInt = 2 ∨ (x &&& 3).toInt = 3 := by omega
  exact k.imp Int32.toInt_inj.mp (Or.imp Int32.toInt_inj.mp (Or.imp Int32.toInt_inj.mp Int32.toInt_inj.mp))
theorem rem_rng {x y : Int32} {n : Nat} (hx : 0 ≤ x.toInt) (hy : y.toInt = n) (hn : 0 < n) : 0 ≤ (x % y).toInt ∧ (x % y).toInt < n := by
  rw [Int32.toInt_mod, hy]
  have h1 := Int.tmod_nonneg (n : Int) hx
  have h2 := Int.tmod_lt_of_pos x.toInt (show (0 : Int) < n by omega)
  omega
theorem maxrem3 (x : Int32) : (x &&& 2147483647) % 3 = 0 ∨ (x &&& 2147483647) % 3 = 1 ∨ (x &&& 2147483647) % 3 = 2 := by
  have k := rem_rng (and_rng x (y := 2147483647) (n := 2147483647) (by decide) (by decide)).1 (y := 3) (n := 3) (by decide) (by decide)
  generalize (x &&& 2147483647) % 3 = z at *
  have k : z.toInt = 0 ∨ z.toInt = 1 ∨ z.toInt = 2 := by omega
  exact k.imp Int32.toInt_inj.mp (Or.imp Int32.toInt_inj.mp Int32.toInt_inj.mp)
theorem maxrem5 (x : Int32) : (x &&& 2147483647) % 5 = 0 ∨ (x &&& 2147483647) % 5 = 1 ∨ (x &&& 2147483647) % 5 = 2 ∨ (x &&& 2147483647) % 5 = 3 ∨ (x &&& 2147483647) % 5 = 4 := by
  have k := rem_rng (and_rng x (y := 2147483647) (n := 2147483647) (by decide) (by decide)).1 (y := 5) (n := 5) (by decide) (by decide)
  generalize (x &&& 2147483647) % 5 = z at *
  have k : z.toInt = 0 ∨ z.toInt = 1 ∨ z.toInt = 2 ∨ z.toInt = 3 ∨ z.toInt = 4 := by omega
  exact k.imp Int32.toInt_inj.mp (Or.imp Int32.toInt_inj.mp (Or.imp Int32.toInt_inj.mp (Or.imp Int32.toInt_inj.mp Int32.toInt_inj.mp)))
theorem sevenrem5 (x : Int32) : (x &&& 7) % 5 = 0 ∨ (x &&& 7) % 5 = 1 ∨ (x &&& 7) % 5 = 2 ∨ (x &&& 7) % 5 = 3 ∨ (x &&& 7) % 5 = 4 := by
  have k := rem_rng (and_rng x (y := 7) (n := 7) (by decide) (by decide)).1 (y := 5) (n := 5) (by decide) (by decide)
  generalize (x &&& 7) % 5 = z at *
  have k : z.toInt = 0 ∨ z.toInt = 1 ∨ z.toInt = 2 ∨ z.toInt = 3 ∨ z.toInt = 4 := by omega
  exact k.imp Int32.toInt_inj.mp (Or.imp Int32.toInt_inj.mp (Or.imp Int32.toInt_inj.mp (Or.imp Int32.toInt_inj.mp Int32.toInt_inj.mp)))
theorem i2c_idem (x : Int32) : (x.toUInt32.toUInt16.toUInt32.toInt32).toUInt32.toUInt16.toUInt32.toInt32 = x.toUInt32.toUInt16.toUInt32.toInt32 := by
  have h : ∀ u : UInt16, u.toUInt32.toInt32.toUInt32.toUInt16 = u := fun u => by simp
  rw [h]
theorem i2c_rng {x c : Int32} (hc : x.toUInt32.toUInt16.toUInt32.toInt32 = c) : 0 ≤ c.toInt ∧ c.toInt ≤ 65535 := by
  subst hc
  have := x.toUInt32.toUInt16.toNat_lt
  have h : (x.toUInt32.toUInt16.toUInt32.toInt32).toBitVec.toNat ≤ 65535 := by
    show (x.toUInt32.toUInt16.toUInt32).toNat ≤ _
    simp only [UInt16.toNat_toUInt32]
    omega
  have := toInt_small h (by decide)
  omega
theorem c255 {x c : Int32} (hc : (x &&& 255).toUInt32.toUInt16.toUInt32.toInt32 = c) : ¬ (255 : Int32) < c := by
  rw [i2c_mask] at hc; subst hc
  have := and255 x
  rw [Int32.lt_iff_toInt_lt, show (255 : Int32).toInt = 255 from by decide]; omega
theorem cge0 {x c : Int32} (hc : x.toUInt32.toUInt16.toUInt32.toInt32 = c) : ¬ c < (0 : Int32) := by
  have := i2c_rng hc
  rw [Int32.lt_iff_toInt_lt, show (0 : Int32).toInt = 0 from by decide]; omega
theorem cnar {x c : Int32} (hc : x.toUInt32.toUInt16.toUInt32.toInt32 = c) : nar .char c = c := by subst hc; exact i2c_idem x
theorem cnarrow {c : Int32} (hc : nar .char c = c) : narrow .char (.int c) = .int c := congrArg Value.int hc
theorem rng255 {x : Int32} (h0 : ¬ x < (0 : Int32)) (h1 : ¬ (255 : Int32) < x) : 0 ≤ x.toInt ∧ x.toInt ≤ 255 := by
  rw [Int32.lt_iff_toInt_lt, show (0 : Int32).toInt = 0 from by decide] at h0
  rw [Int32.lt_iff_toInt_lt, show (255 : Int32).toInt = 255 from by decide] at h1
  omega
theorem ofRng {x : Int32} {n : Nat} (hn : n < 2147483648) (h : 0 ≤ x.toInt ∧ x.toInt ≤ n) : ∃ k : Nat, k ≤ n ∧ x = Int32.ofNat k := by
  refine ⟨x.toInt.toNat, by omega, Int32.toInt_inj.mp ?_⟩
  rw [Int32.toInt_ofNat_of_lt (by omega)]; omega
theorem all256 (P : Int32 → Bool) (h : (List.range 256).all (fun k => P (Int32.ofNat k)) = true) {x : Int32} (h0 : ¬ x < (0 : Int32)) (h1 : ¬ (255 : Int32) < x) : P x = true := by
  obtain ⟨k, hk, rfl⟩ := ofRng (n := 255) (by decide) (by have := rng255 h0 h1; omega)
  exact List.all_eq_true.mp h k (List.mem_range.mpr (by omega))
theorem b255 {x : Int32} (h0 : ¬ x < (0 : Int32)) (h1 : ¬ (255 : Int32) < x) : x.toInt8.toInt32 &&& 255 = x := by
  have := all256 (fun x => x.toInt8.toInt32 &&& 255 == x) (by decide +kernel) h0 h1
  exact eq_of_beq this
theorem c_id {x : Int32} (h0 : ¬ x < (0 : Int32)) (h1 : ¬ (255 : Int32) < x) : x.toUInt32.toUInt16.toUInt32.toInt32 = x := by
  have := all256 (fun x => x.toUInt32.toUInt16.toUInt32.toInt32 == x) (by decide +kernel) h0 h1
  exact eq_of_beq this
theorem nar_id {x : Int32} (h0 : ¬ x < (0 : Int32)) (h1 : ¬ (255 : Int32) < x) : nar .char x = x := c_id h0 h1
theorem low8 (b : BitVec 8) : (b.signExtend 32 &&& 255#32).toNat = b.toNat := by
  have : ∀ b : BitVec 8, (b.signExtend 32 &&& 255#32).toNat = b.toNat := by decide
  exact this b
theorem lo_nat (x : Int32) : (x.toInt8.toInt32 &&& 255).toBitVec.toNat = x.toBitVec.toNat % 256 := by
  have h := low8 x.toInt8.toBitVec
  have e : (x.toInt8.toInt32 &&& 255).toBitVec = (x.toInt8.toBitVec.signExtend 32 &&& 255#32) := by
    simp
  rw [e, h, Int32.toBitVec_toInt8]
  rw [BitVec.toNat_signExtend]
  simp [BitVec.toNat_setWidth]
theorem shr8 (x : Int32) (h : x.toBitVec.toNat < 65536) : (x >>> ((8 : Int32) &&& 31)).toBitVec.toNat = x.toBitVec.toNat / 256 := by
  have e : (x >>> ((8 : Int32) &&& 31)).toBitVec = x.toBitVec.sshiftRight 8 := by
    have : ((8 : Int32) &&& 31) = 8 := by decide
    rw [this, Int32.toBitVec_shiftRight]
    rfl
  rw [e, BitVec.sshiftRight_eq_of_msb_false (by rw [BitVec.msb_eq_false_iff_two_mul_lt]; omega)]
  rw [BitVec.toNat_ushiftRight]
  rw [Nat.shiftRight_eq_div_pow]
theorem shl8 (x : Int32) : (x <<< ((8 : Int32) &&& 31)).toBitVec.toNat = (x.toBitVec.toNat * 256) % 4294967296 := by
  have e : (x <<< ((8 : Int32) &&& 31)).toBitVec = x.toBitVec <<< 8 := by
    have : ((8 : Int32) &&& 31) = 8 := by decide
    rw [this, Int32.toBitVec_shiftLeft]
    rfl
  rw [e, BitVec.toNat_shiftLeft, Nat.shiftLeft_eq]
theorem shl0 (x : Int32) : x <<< ((0 : Int32) &&& 31) = x := by
  apply Int32.toBitVec_inj.mp
  simp
theorem toNat_rng {x : Int32} {n : Nat} (h0 : 0 ≤ x.toInt) (h1 : x.toInt ≤ n) (hn : n < 2147483648) : x.toBitVec.toNat ≤ n := by
  have e : x.toInt = x.toBitVec.toInt := rfl
  rw [e] at h0 h1
  have hlt := x.toBitVec.isLt
  rw [BitVec.toInt_eq_toNat_cond] at h0 h1
  split at h0 <;> omega
theorem rng65535 {x : Int32} (h0 : ¬ x < (0 : Int32)) (h1 : ¬ (65535 : Int32) < x) : x.toBitVec.toNat ≤ 65535 := by
  rw [Int32.lt_iff_toInt_lt, show (0 : Int32).toInt = 0 from by decide] at h0
  rw [Int32.lt_iff_toInt_lt, show (65535 : Int32).toInt = 65535 from by decide] at h1
  exact toNat_rng (by omega) (by omega) (by decide)
theorem c_id16 {x : Int32} (h0 : ¬ x < (0 : Int32)) (h1 : ¬ (65535 : Int32) < x) : x.toUInt32.toUInt16.toUInt32.toInt32 = x := by
  have h := rng65535 h0 h1
  apply Int32.toBitVec_inj.mp
  apply BitVec.eq_of_toNat_eq
  show (x.toUInt32.toUInt16.toUInt32).toNat = x.toUInt32.toNat
  rw [UInt16.toNat_toUInt32, UInt32.toNat_toUInt16]
  have : x.toUInt32.toNat = x.toBitVec.toNat := rfl
  omega
theorem u16 {x : Int32} (h0 : ¬ x < (0 : Int32)) (h1 : ¬ (65535 : Int32) < x) : ((x.toInt8.toInt32 &&& 255) <<< ((0 : Int32) &&& 31)) ||| (((x >>> ((8 : Int32) &&& 31)).toInt8.toInt32 &&& 255) <<< ((8 : Int32) &&& 31)) = x := by
  have h := rng65535 h0 h1
  rw [shl0]
  apply Int32.toBitVec_inj.mp
  apply BitVec.eq_of_toNat_eq
  rw [Int32.toBitVec_or, BitVec.toNat_or, lo_nat, shl8, lo_nat, shr8 x (by omega)]
  generalize x.toBitVec.toNat = n at *
  have e1 : n / 256 % 256 * 256 % 4294967296 = (n / 256) <<< 8 := by rw [Nat.shiftLeft_eq]; omega
  rw [e1, Nat.or_comm, ← Nat.shiftLeft_add_eq_or_of_lt (by omega : n % 256 < 2 ^ 8), Nat.shiftLeft_eq]
  omega
theorem shr0 (x : Int32) : x >>> ((0 : Int32) &&& 31) = x := by
  apply Int32.toBitVec_inj.mp
  simp
theorem nar_id16 {x : Int32} (h0 : ¬ x < (0 : Int32)) (h1 : ¬ (65535 : Int32) < x) : nar .char x = x := c_id16 h0 h1
theorem cle16 {x c : Int32} (hc : x.toUInt32.toUInt16.toUInt32.toInt32 = c) : ¬ (65535 : Int32) < c := by
  have := i2c_rng hc
  rw [Int32.lt_iff_toInt_lt, show (65535 : Int32).toInt = 65535 from by decide]; omega
theorem nar_b (x : Int32) : nar .byte x.toInt8.toInt32 = x.toInt8.toInt32 := by simp [nar]
theorem narrow_b (x : Int32) : narrow .byte (.int x.toInt8.toInt32) = .int x.toInt8.toInt32 := congrArg Value.int (nar_b x)
/-- Object.equals on another object than the argument, walked in place: its class needs no word -/
theorem objEq (B : Bdy p meth c Z EL a0 bytes maxL ret nm) {index : Nat} {y : MethodName} {bytes' : ByteArray} {a b : Nat} {K K' : String} {ps : List FieldType} {rt : Option FieldType} {W : Nat} (hd : decode bytes pc = .ok (.invokevirtual index, 3))
    (w1 : (Jvm.Cond.methodLink own index y).before a0 Z = true) (w2 : (Jvm.Cond.declares y).before a0 Z = true) (w0 : (Jvm.Cond.selects K' y y).before a0 Z = true) (w5 : (Jvm.Cond.selects K y y).before a0 Z = true) (w6 : (Jvm.Cond.instanceMethod y).before a0 Z = true) (w4 : (Jvm.Cond.code y bytes' 2 (some .boolean)).before a0 Z = true)
    (hpl : plainFor y = true) (E : Exa Z h a K) (hpd : parseMethodDescriptor y.desc = some ⟨ps, rt⟩)
    (d0 : decode bytes' 0 = .ok (.aload_n 0, 1)) (d1 : decode bytes' 1 = .ok (.aload_n 1, 1)) (d2 : decode bytes' 2 = .ok (.if_acmp .ne 7, 3)) (d9 : decode bytes' 9 = .ok (.iconst 0, 1)) (d10 : decode bytes' 10 = .ok (.ireturn, 1)) (hne : a ≠ b)
    (hr : Go p l e R s m args below meth c Z EL n0 own Q S h k n pc' Ls (.int 0 :: rest)) (hp : pc' = pc + 3 := by rfl) (hln : [Value.ref b].length = ps.length := by rfl) (hW : (rest.map fun v => v.category).sum ≤ W := by exact Nat.le_of_eq rfl) (hf : 1 ≤ R.frames := by decide) (hl : W + 13 ≤ R.locals := by decide) (hsz : Ls.size = maxL := by rfl) (hy : NoH y := by decide) :
    Go p l e R s m args below meth c Z EL n0 own Q S h k n pc Ls (.ref b :: .ref a :: rest) := by
  subst hp
  intro T ⟨locs, vm0, k0, k1, n1, q1, q2, X, eT, hS, hk0, hZ, hown, N, O, C, SL⟩
  obtain ⟨cq, kq, hcB, qb, cellB, hcellT, hclsB, hstatB⟩ := isOf (s := s.setVm vm0) hZ eT E
  obtain ⟨r0, r, hn, hrm, hstR, hsigR⟩ := Cond.declares_spec (mvT (args := args) (s := s.setVm vm0) hZ w2)
  obtain ⟨mk, methM, hnamed, hmethM, -, habM⟩ := Cond.instanceMethod_spec (mvT (args := args) (s := s.setVm vm0) hZ w6)
  obtain ⟨c2, r2, m2, e1, e2, e3, e4, kP, hkP, hkPi⟩ := Cond.selects_spec (mvT (args := args) (s := s.setVm vm0) hZ w5)
  cases hcB.symm.trans e1
  cases (State.methodFound?_of_named hn hy).symm.trans e2
  cases hnamed.symm.trans e3
  have hselP : selectMethod e.platform (s.setVm vm0).vm cellB.cls r0 = .method mk := by rw [Launch.admits_selectMethod X.admits, hclsB]; exact e4
  obtain ⟨kr, hkr, hni⟩ := notFace_of_selects (args := #[]) (mvT (s := s.setVm vm0) hZ w0) r0 hn
  obtain ⟨vm₁, X₁, hstep₁⟩ := X.invokevirtual B.1 hown (mvT (s := s.setVm vm0) hZ w1) hn hrm hstR hkr hni hy (a := a) (cell := cellB) hcellT (fun z h => by rw [h] at hstatB; cases hstatB) hselP hmethM habM hkP hkPi (g := mkF m pc Ls (.ref b :: .ref a :: rest)) rfl (argsL := [.ref b]) (rest := rest) (lenOf hpd hln _ hsigR) rfl (hb B.2.1 hd)
  obtain ⟨methM', cM, hm', hc', hbytes, hmaxL, hret, hlock, -⟩ := Cond.code_spec hnamed (mvT (args := args) (s := s.setVm vm0) hZ w4)
  cases hmethM.symm.trans hm'
  have hmV : (T.setVm vm₁).vm.method? mk = some methM := by
    rw [X₁.warmed.alike.method?]; exact hmethM
  have hplV : (T.setVm vm₁).plainMethod mk := State.plainMethod.of_named (s := T.setVm vm₁) hpl (X₁.named hnamed) hmV
  have hroom := X₁.notFull (g := mkF m pc Ls rest) (vars := cM.maxLocals) (by rw [B.2.2.1]; exact hsz) hf (by rw [hmaxL]; show 2 * 0 + (rest.map fun v => v.category).sum + (2 + 11) ≤ _; omega)
  have hU := At.enter (g := mkF m pc Ls rest) X₁.here #[.ref a, .ref b] hmV hc' hplV
  have hfU := frames_entered (s := T.setVm vm₁) (g := mkF m pc Ls rest) X₁.here.top (.java (entryFrame mk #[.ref a, .ref b] cM.maxLocals))
  have hcode : (((T.setVm vm₁).setTop (mkF m pc Ls rest)).pushFrame (.java (entryFrame mk #[.ref a, .ref b] cM.maxLocals))).code? m = some c := by
    have := X₁.here.code
    rw [State.code?_eq] at this ⊢
    simpa [State.pushFrame, State.setFrames] using this
  have hmU : (((T.setVm vm₁).setTop (mkF m pc Ls rest)).pushFrame (.java (entryFrame mk #[.ref a, .ref b] cM.maxLocals))).vm.method? mk = some methM := by simpa [State.pushFrame, State.setFrames] using hmV
  have hent : (((T.setVm vm₁).setTop (mkF m pc Ls rest)).pushFrame (.java (entryFrame mk #[.ref a, .ref b] cM.maxLocals))).setFrames (.java (mkF m pc Ls rest) :: (T.setVm vm₁).frames.tail) = (T.setVm vm₁).setTop (mkF m pc Ls rest) := setFrames_entered X₁.here.top _
  have step : Steps p.tables e below (T.setTop (mkF m pc Ls (.ref b :: .ref a :: rest))) ((T.setVm vm₁).setTop (mkF m (pc + 3) Ls (.int 0 :: rest))) := by
    refine hstep₁ _ fun acts => ?_
    show Steps p.tables e below (doInvoke e ((T.setVm vm₁).setTop (mkF m pc Ls rest)) acts mk #[.ref a, .ref b]).1 _
    rw [doInvoke_enter (g := mkF m pc Ls rest) X₁.here.top acts hmV hc' hlock hroom]
    generalize ((T.setVm vm₁).setTop (mkF m pc Ls rest)).pushFrame (.java (entryFrame mk #[.ref a, .ref b] cM.maxLocals)) = U at *
    refine castTop (show entryFrame mk #[.ref a, .ref b] cM.maxLocals = mkF mk 0 #[.val (.ref a), .val (.ref b)] [] by rw [hmaxL]; rfl) ?_
    refine XS.aloadN hU B.1 rfl (hb hbytes d0) rfl rfl ?_
    refine XS.aloadN hU B.1 rfl (hb hbytes d1) rfl rfl ?_
    refine XT.acmpYes hU B.1 rfl (pc0 := 2) (pc' := 9) rfl (hb hbytes d2) (x := .ref a) (y := .ref b) rfl rfl rfl (by simp [XT.acmp, hne]) (by decide) (by decide) ?_
    refine XS.iconst hU B.1 rfl (hb hbytes d9) ?_
    have hn0 : narrow .boolean (.int (Int32.ofInt 0)) = .int 0 := rfl
    have d10' := hb hbytes d10
    show Steps p.tables e below (U.setTop { method := mk, pc := 10, locals := #[.val (.ref a), .val (.ref b)], stack := [.int (Int32.ofInt 0)], locked := none }) _
    jvm_step hU [hU.top, B.1, d10', hmU, hret, hn0]
    first | intro acts' | skip
    rw [doReturn_leave (g := mkF m pc Ls rest) (meth := methM) (cg := c) (ig := .invokevirtual index) (len := 3) _ hfU (by simpa using hmU) hlock rfl rfl hcode (hb B.2.1 hd), hent, State.setTop_setTop]
    exact Steps.refl _
  obtain ⟨s2, o, q, r2'⟩ := hr (T.setVm vm₁) ⟨locs, vm0, k0, k1, n1, q1, q2, X₁, eT, hS, hk0, hZ, hown, N, O, C, SL⟩
  exact ⟨s2, o, step.trans q, r2'⟩
end Rules
end Jvm.Ow
namespace Jvm.Pilot.@@N@@
open Jvm Jvm.ClassFile Sem Op Lib Jvm.Free Jvm.Stand Jvm.LawKit Jvm.RoadKit Bundle Jvm.Pilot.@@N@@.Jvm.D
abbrev EL1 : List (String × Nat) := [("java/lang/String", 7)]
abbrev Hw (a0 : Array Value) (Z : State) : Prop := ∀ d ∈ tables_1, d.before a0 Z = true
abbrev my0 : MethodName := { cls := "java/lang/String", name := "<init>", desc := "([CIILjava/lang/Void;)V" }
abbrev my1 : MethodName := { cls := "java/lang/String", name := "<init>", desc := "([C)V" }
abbrev my2 : MethodName := { cls := "java/lang/String", name := "coder", desc := "()B" }
abbrev my3 : MethodName := { cls := "java/lang/String", name := "length", desc := "()I" }
abbrev my4 : MethodName := { cls := "com/example/elsewhere/elsewhere/Field", name := "isTag", desc := "(Ljava/lang/String;)Z" }
abbrev my5 : MethodName := { cls := "com/example/elsewhere/elsewhere/FieldIsTagPinLaw", name := "draw", desc := "(I)C" }
abbrev my6 : MethodName := { cls := "java/lang/StringUTF16", name := "compress", desc := "([CI[BII)I" }
abbrev my7 : MethodName := { cls := "java/lang/StringUTF16", name := "newBytesLength", desc := "(I)I" }
abbrev my8 : MethodName := { cls := "java/lang/StringUTF16", name := "newBytesFor", desc := "(I)[B" }
abbrev my9 : MethodName := { cls := "java/lang/StringUTF16", name := "putChar", desc := "([BII)V" }
abbrev my10 : MethodName := { cls := "java/lang/StringUTF16", name := "toBytes", desc := "([CII)[B" }
abbrev my11 : MethodName := { cls := "java/lang/StringUTF16", name := "getChar", desc := "([BI)C" }
abbrev my12 : MethodName := { cls := "java/lang/StringUTF16", name := "compress", desc := "([CII)[B" }
abbrev my13 : MethodName := { cls := "java/lang/StringUTF16", name := "coderFromArrayLen", desc := "([BI)B" }
abbrev my14 : MethodName := { cls := "com/example/elsewhere/elsewhere/FieldIsTagPinLaw", name := "ok", desc := "(C)Z" }
abbrev my15 : MethodName := { cls := "java/lang/String", name := "isLatin1", desc := "()Z" }
abbrev my16 : MethodName := { cls := "jdk/internal/util/Preconditions", name := "checkIndex", desc := "(IILjava/util/function/BiFunction;)I" }
abbrev my17 : MethodName := { cls := "java/lang/String", name := "checkIndex", desc := "(II)V" }
abbrev my18 : MethodName := { cls := "java/lang/StringLatin1", name := "charAt", desc := "([BI)C" }
abbrev my19 : MethodName := { cls := "java/lang/StringUTF16", name := "length", desc := "([B)I" }
abbrev my20 : MethodName := { cls := "java/lang/StringUTF16", name := "checkIndex", desc := "(I[B)V" }
abbrev my21 : MethodName := { cls := "java/lang/StringUTF16", name := "charAt", desc := "([BI)C" }
abbrev my22 : MethodName := { cls := "java/lang/String", name := "charAt", desc := "(I)C" }
theorem w0 {a0 : Array Value} {Z : State} (hw : Hw a0 Z) : (Jvm.Cond.arrayClass Jvm.ClassFile.FieldType.char).before a0 Z = true := hw _ (List.mem_of_getElem? (i := 0) rfl)
theorem w1 {a0 : Array Value} {Z : State} (hw : Hw a0 Z) : (Jvm.Cond.classLink "com/example/elsewhere/elsewhere/FieldIsTagPinLaw" (13 : Nat) "java/lang/String").before a0 Z = true := hw _ (List.mem_of_getElem? (i := 1) rfl)
theorem w2 {a0 : Array Value} {Z : State} (hw : Hw a0 Z) : (Jvm.Cond.instantiable "java/lang/String" (4 : Nat)).before a0 Z = true := hw _ (List.mem_of_getElem? (i := 2) rfl)
theorem w3 {a0 : Array Value} {Z : State} (hw : Hw a0 Z) : (Jvm.Cond.initialized "java/lang/String").before a0 Z = true := hw _ (List.mem_of_getElem? (i := 3) rfl)
theorem w4 {a0 : Array Value} {Z : State} (hw : Hw a0 Z) : (Jvm.Cond.methodLink "com/example/elsewhere/elsewhere/FieldIsTagPinLaw" (15 : Nat) ({ cls := "java/lang/String", name := "<init>", desc := "([C)V" } : Jvm.MethodName)).before a0 Z = true := hw _ (List.mem_of_getElem? (i := 4) rfl)
theorem w5 {a0 : Array Value} {Z : State} (hw : Hw a0 Z) : (Jvm.Cond.instanceMethod ({ cls := "java/lang/String", name := "<init>", desc := "([C)V" } : Jvm.MethodName)).before a0 Z = true := hw _ (List.mem_of_getElem? (i := 5) rfl)
theorem w6 {a0 : Array Value} {Z : State} (hw : Hw a0 Z) : (Jvm.Cond.code ({ cls := "java/lang/String", name := "<init>", desc := "([C)V" } : Jvm.MethodName) jdk_42_method_3_code (2 : Nat) (Option.none : Option Jvm.ClassFile.FieldType)).before a0 Z = true := hw _ (List.mem_of_getElem? (i := 6) rfl)
theorem w7 {a0 : Array Value} {Z : State} (hw : Hw a0 Z) : (Jvm.Cond.methodLink "java/lang/String" (27 : Nat) ({ cls := "java/lang/String", name := "<init>", desc := "([CIILjava/lang/Void;)V" } : Jvm.MethodName)).before a0 Z = true := hw _ (List.mem_of_getElem? (i := 7) rfl)
theorem w8 {a0 : Array Value} {Z : State} (hw : Hw a0 Z) : (Jvm.Cond.instanceMethod ({ cls := "java/lang/String", name := "<init>", desc := "([CIILjava/lang/Void;)V" } : Jvm.MethodName)).before a0 Z = true := hw _ (List.mem_of_getElem? (i := 8) rfl)
theorem w10 {a0 : Array Value} {Z : State} (hw : Hw a0 Z) : (Jvm.Cond.code ({ cls := "java/lang/String", name := "<init>", desc := "([CIILjava/lang/Void;)V" } : Jvm.MethodName) jdk_42_method_149_code (6 : Nat) (Option.none : Option Jvm.ClassFile.FieldType)).before a0 Z = true := hw _ (List.mem_of_getElem? (i := 10) rfl)
theorem w11 {a0 : Array Value} {Z : State} (hw : Hw a0 Z) : (Jvm.Cond.methodLink "java/lang/String" (1 : Nat) ({ cls := "java/lang/Object", name := "<init>", desc := "()V" } : Jvm.MethodName)).before a0 Z = true := hw _ (List.mem_of_getElem? (i := 11) rfl)
theorem w12 {a0 : Array Value} {Z : State} (hw : Hw a0 Z) : (Jvm.Cond.instanceMethod ({ cls := "java/lang/Object", name := "<init>", desc := "()V" } : Jvm.MethodName)).before a0 Z = true := hw _ (List.mem_of_getElem? (i := 12) rfl)
theorem w13 {a0 : Array Value} {Z : State} (hw : Hw a0 Z) : (Jvm.Cond.code ({ cls := "java/lang/Object", name := "<init>", desc := "()V" } : Jvm.MethodName) object_method_1_code (1 : Nat) (Option.none : Option Jvm.ClassFile.FieldType)).before a0 Z = true := hw _ (List.mem_of_getElem? (i := 13) rfl)
theorem w14 {a0 : Array Value} {Z : State} (hw : Hw a0 Z) : (Jvm.Cond.stringLink "java/lang/String" (7 : Nat) "").before a0 Z = true := hw _ (List.mem_of_getElem? (i := 14) rfl)
theorem w15 {a0 : Array Value} {Z : State} (hw : Hw a0 Z) : (Jvm.Cond.arrayClass Jvm.ClassFile.FieldType.byte).before a0 Z = true := hw _ (List.mem_of_getElem? (i := 15) rfl)
theorem w16 {a0 : Array Value} {Z : State} (hw : Hw a0 Z) : (Jvm.Cond.laysFinal "java/lang/String" "java/lang/String" "value" "[B").before a0 Z = true := hw _ (List.mem_of_getElem? (i := 16) rfl)
theorem w17 {a0 : Array Value} {Z : State} (hw : Hw a0 Z) : (Jvm.Cond.laysFinal "java/lang/String" "java/lang/String" "coder" "B").before a0 Z = true := hw _ (List.mem_of_getElem? (i := 17) rfl)
theorem w18 {a0 : Array Value} {Z : State} (hw : Hw a0 Z) : (Jvm.Cond.soleField "java/lang/String" "value").before a0 Z = true := hw _ (List.mem_of_getElem? (i := 18) rfl)
theorem w19 {a0 : Array Value} {Z : State} (hw : Hw a0 Z) : (Jvm.Cond.soleField "java/lang/String" "coder").before a0 Z = true := hw _ (List.mem_of_getElem? (i := 19) rfl)
theorem w20 {a0 : Array Value} {Z : State} (hw : Hw a0 Z) : (Jvm.Cond.fieldLink "java/lang/String" (9 : Nat) "java/lang/String" "value" "[B").before a0 Z = true := hw _ (List.mem_of_getElem? (i := 20) rfl)
theorem w21 {a0 : Array Value} {Z : State} (hw : Hw a0 Z) : (Jvm.Cond.fieldLink "java/lang/String" (15 : Nat) "java/lang/String" "coder" "B").before a0 Z = true := hw _ (List.mem_of_getElem? (i := 21) rfl)
theorem w22 {a0 : Array Value} {Z : State} (hw : Hw a0 Z) : (Jvm.Cond.methodLink "com/example/elsewhere/elsewhere/FieldIsTagPinLaw" (22 : Nat) ({ cls := "com/example/elsewhere/elsewhere/Field", name := "isTag", desc := "(Ljava/lang/String;)Z" } : Jvm.MethodName)).before a0 Z = true := hw _ (List.mem_of_getElem? (i := 22) rfl)
theorem w23 {a0 : Array Value} {Z : State} (hw : Hw a0 Z) : (Jvm.Cond.static ({ cls := "com/example/elsewhere/elsewhere/Field", name := "isTag", desc := "(Ljava/lang/String;)Z" } : Jvm.MethodName)).before a0 Z = true := hw _ (List.mem_of_getElem? (i := 23) rfl)
theorem w24 {a0 : Array Value} {Z : State} (hw : Hw a0 Z) : (Jvm.Cond.initialized "com/example/elsewhere/elsewhere/Field").before a0 Z = true := hw _ (List.mem_of_getElem? (i := 24) rfl)
theorem w25 {a0 : Array Value} {Z : State} (hw : Hw a0 Z) : (Jvm.Cond.code ({ cls := "com/example/elsewhere/elsewhere/Field", name := "isTag", desc := "(Ljava/lang/String;)Z" } : Jvm.MethodName) prog_8_method_2_code (3 : Nat) (Option.some Jvm.ClassFile.FieldType.boolean)).before a0 Z = true := hw _ (List.mem_of_getElem? (i := 25) rfl)
theorem w26 {a0 : Array Value} {Z : State} (hw : Hw a0 Z) : (Jvm.Cond.methodLink "com/example/elsewhere/elsewhere/Field" (1 : Nat) ({ cls := "java/lang/String", name := "length", desc := "()I" } : Jvm.MethodName)).before a0 Z = true := hw _ (List.mem_of_getElem? (i := 26) rfl)
theorem w27 {a0 : Array Value} {Z : State} (hw : Hw a0 Z) : (Jvm.Cond.declares ({ cls := "java/lang/String", name := "length", desc := "()I" } : Jvm.MethodName)).before a0 Z = true := hw _ (List.mem_of_getElem? (i := 27) rfl)
theorem w28 {a0 : Array Value} {Z : State} (hw : Hw a0 Z) : (Jvm.Cond.instanceMethod ({ cls := "java/lang/String", name := "length", desc := "()I" } : Jvm.MethodName)).before a0 Z = true := hw _ (List.mem_of_getElem? (i := 28) rfl)
theorem w29 {a0 : Array Value} {Z : State} (hw : Hw a0 Z) : (Jvm.Cond.selects "java/lang/String" ({ cls := "java/lang/String", name := "length", desc := "()I" } : Jvm.MethodName) ({ cls := "java/lang/String", name := "length", desc := "()I" } : Jvm.MethodName)).before a0 Z = true := hw _ (List.mem_of_getElem? (i := 29) rfl)
theorem w30 {a0 : Array Value} {Z : State} (hw : Hw a0 Z) : (Jvm.Cond.code ({ cls := "java/lang/String", name := "length", desc := "()I" } : Jvm.MethodName) jdk_42_method_54_code (1 : Nat) (Option.some Jvm.ClassFile.FieldType.int)).before a0 Z = true := hw _ (List.mem_of_getElem? (i := 30) rfl)
theorem w31 {a0 : Array Value} {Z : State} (hw : Hw a0 Z) : (Jvm.Cond.methodLink "java/lang/String" (335 : Nat) ({ cls := "java/lang/String", name := "coder", desc := "()B" } : Jvm.MethodName)).before a0 Z = true := hw _ (List.mem_of_getElem? (i := 31) rfl)
theorem w32 {a0 : Array Value} {Z : State} (hw : Hw a0 Z) : (Jvm.Cond.declares ({ cls := "java/lang/String", name := "coder", desc := "()B" } : Jvm.MethodName)).before a0 Z = true := hw _ (List.mem_of_getElem? (i := 32) rfl)
theorem w33 {a0 : Array Value} {Z : State} (hw : Hw a0 Z) : (Jvm.Cond.instanceMethod ({ cls := "java/lang/String", name := "coder", desc := "()B" } : Jvm.MethodName)).before a0 Z = true := hw _ (List.mem_of_getElem? (i := 33) rfl)
theorem w34 {a0 : Array Value} {Z : State} (hw : Hw a0 Z) : (Jvm.Cond.selects "java/lang/String" ({ cls := "java/lang/String", name := "coder", desc := "()B" } : Jvm.MethodName) ({ cls := "java/lang/String", name := "coder", desc := "()B" } : Jvm.MethodName)).before a0 Z = true := hw _ (List.mem_of_getElem? (i := 34) rfl)
theorem w35 {a0 : Array Value} {Z : State} (hw : Hw a0 Z) : (Jvm.Cond.code ({ cls := "java/lang/String", name := "coder", desc := "()B" } : Jvm.MethodName) jdk_42_method_152_code (1 : Nat) (Option.some Jvm.ClassFile.FieldType.byte)).before a0 Z = true := hw _ (List.mem_of_getElem? (i := 35) rfl)
theorem w36 {a0 : Array Value} {Z : State} (hw : Hw a0 Z) : (Jvm.Cond.fieldLink "java/lang/String" (38 : Nat) "java/lang/String" "COMPACT_STRINGS" "Z").before a0 Z = true := hw _ (List.mem_of_getElem? (i := 36) rfl)
theorem w37 {a0 : Array Value} {Z : State} (hw : Hw a0 Z) : (Jvm.Cond.methodLink "com/example/elsewhere/elsewhere/FieldIsTagPinLaw" (7 : Nat) ({ cls := "com/example/elsewhere/elsewhere/FieldIsTagPinLaw", name := "draw", desc := "(I)C" } : Jvm.MethodName)).before a0 Z = true := hw _ (List.mem_of_getElem? (i := 37) rfl)
theorem w38 {a0 : Array Value} {Z : State} (hw : Hw a0 Z) : (Jvm.Cond.static ({ cls := "com/example/elsewhere/elsewhere/FieldIsTagPinLaw", name := "draw", desc := "(I)C" } : Jvm.MethodName)).before a0 Z = true := hw _ (List.mem_of_getElem? (i := 38) rfl)
theorem w39 {a0 : Array Value} {Z : State} (hw : Hw a0 Z) : (Jvm.Cond.initialized "com/example/elsewhere/elsewhere/FieldIsTagPinLaw").before a0 Z = true := hw _ (List.mem_of_getElem? (i := 39) rfl)
theorem w40 {a0 : Array Value} {Z : State} (hw : Hw a0 Z) : (Jvm.Cond.code ({ cls := "com/example/elsewhere/elsewhere/FieldIsTagPinLaw", name := "draw", desc := "(I)C" } : Jvm.MethodName) method_3_code (2 : Nat) (Option.some Jvm.ClassFile.FieldType.char)).before a0 Z = true := hw _ (List.mem_of_getElem? (i := 40) rfl)
theorem w41 {a0 : Array Value} {Z : State} (hw : Hw a0 Z) : (Jvm.Cond.constant "com/example/elsewhere/elsewhere/FieldIsTagPinLaw" (28 : Nat) (65535 : Int32)).before a0 Z = true := hw _ (List.mem_of_getElem? (i := 41) rfl)
theorem w42 {a0 : Array Value} {Z : State} (hw : Hw a0 Z) : (Jvm.Cond.methodLink "java/lang/String" (177 : Nat) ({ cls := "java/lang/StringUTF16", name := "compress", desc := "([CII)[B" } : Jvm.MethodName)).before a0 Z = true := hw _ (List.mem_of_getElem? (i := 42) rfl)
theorem w43 {a0 : Array Value} {Z : State} (hw : Hw a0 Z) : (Jvm.Cond.static ({ cls := "java/lang/StringUTF16", name := "compress", desc := "([CII)[B" } : Jvm.MethodName)).before a0 Z = true := hw _ (List.mem_of_getElem? (i := 43) rfl)
theorem w44 {a0 : Array Value} {Z : State} (hw : Hw a0 Z) : (Jvm.Cond.initialized "java/lang/StringUTF16").before a0 Z = true := hw _ (List.mem_of_getElem? (i := 44) rfl)
theorem w45 {a0 : Array Value} {Z : State} (hw : Hw a0 Z) : (Jvm.Cond.code ({ cls := "java/lang/StringUTF16", name := "compress", desc := "([CII)[B" } : Jvm.MethodName) jdk_52_method_16_code (6 : Nat) (Option.some (Jvm.ClassFile.FieldType.array Jvm.ClassFile.FieldType.byte))).before a0 Z = true := hw _ (List.mem_of_getElem? (i := 45) rfl)
theorem w46 {a0 : Array Value} {Z : State} (hw : Hw a0 Z) : (Jvm.Cond.methodLink "java/lang/StringUTF16" (115 : Nat) ({ cls := "java/lang/StringUTF16", name := "compress", desc := "([CI[BII)I" } : Jvm.MethodName)).before a0 Z = true := hw _ (List.mem_of_getElem? (i := 46) rfl)
theorem w47 {a0 : Array Value} {Z : State} (hw : Hw a0 Z) : (Jvm.Cond.static ({ cls := "java/lang/StringUTF16", name := "compress", desc := "([CI[BII)I" } : Jvm.MethodName)).before a0 Z = true := hw _ (List.mem_of_getElem? (i := 47) rfl)
theorem w48 {a0 : Array Value} {Z : State} (hw : Hw a0 Z) : (Jvm.Cond.code ({ cls := "java/lang/StringUTF16", name := "compress", desc := "([CI[BII)I" } : Jvm.MethodName) jdk_52_method_21_code (7 : Nat) (Option.some Jvm.ClassFile.FieldType.int)).before a0 Z = true := hw _ (List.mem_of_getElem? (i := 48) rfl)
theorem w49 {a0 : Array Value} {Z : State} (hw : Hw a0 Z) : (Jvm.Cond.methodLink "java/lang/String" (47 : Nat) ({ cls := "java/lang/StringUTF16", name := "coderFromArrayLen", desc := "([BI)B" } : Jvm.MethodName)).before a0 Z = true := hw _ (List.mem_of_getElem? (i := 49) rfl)
theorem w50 {a0 : Array Value} {Z : State} (hw : Hw a0 Z) : (Jvm.Cond.static ({ cls := "java/lang/StringUTF16", name := "coderFromArrayLen", desc := "([BI)B" } : Jvm.MethodName)).before a0 Z = true := hw _ (List.mem_of_getElem? (i := 50) rfl)
theorem w51 {a0 : Array Value} {Z : State} (hw : Hw a0 Z) : (Jvm.Cond.code ({ cls := "java/lang/StringUTF16", name := "coderFromArrayLen", desc := "([BI)B" } : Jvm.MethodName) jdk_52_method_15_code (2 : Nat) (Option.some Jvm.ClassFile.FieldType.byte)).before a0 Z = true := hw _ (List.mem_of_getElem? (i := 51) rfl)
theorem w52 {a0 : Array Value} {Z : State} (hw : Hw a0 Z) : (Jvm.Cond.methodLink "com/example/elsewhere/elsewhere/FieldIsTagPinLaw" (18 : Nat) ({ cls := "com/example/elsewhere/elsewhere/FieldIsTagPinLaw", name := "ok", desc := "(C)Z" } : Jvm.MethodName)).before a0 Z = true := hw _ (List.mem_of_getElem? (i := 52) rfl)
theorem w53 {a0 : Array Value} {Z : State} (hw : Hw a0 Z) : (Jvm.Cond.static ({ cls := "com/example/elsewhere/elsewhere/FieldIsTagPinLaw", name := "ok", desc := "(C)Z" } : Jvm.MethodName)).before a0 Z = true := hw _ (List.mem_of_getElem? (i := 53) rfl)
theorem w54 {a0 : Array Value} {Z : State} (hw : Hw a0 Z) : (Jvm.Cond.code ({ cls := "com/example/elsewhere/elsewhere/FieldIsTagPinLaw", name := "ok", desc := "(C)Z" } : Jvm.MethodName) method_4_code (4 : Nat) (Option.some Jvm.ClassFile.FieldType.boolean)).before a0 Z = true := hw _ (List.mem_of_getElem? (i := 54) rfl)
theorem w55 {a0 : Array Value} {Z : State} (hw : Hw a0 Z) : (Jvm.Cond.methodLink "com/example/elsewhere/elsewhere/Field" (7 : Nat) ({ cls := "java/lang/String", name := "charAt", desc := "(I)C" } : Jvm.MethodName)).before a0 Z = true := hw _ (List.mem_of_getElem? (i := 55) rfl)
theorem w56 {a0 : Array Value} {Z : State} (hw : Hw a0 Z) : (Jvm.Cond.declares ({ cls := "java/lang/String", name := "charAt", desc := "(I)C" } : Jvm.MethodName)).before a0 Z = true := hw _ (List.mem_of_getElem? (i := 56) rfl)
theorem w57 {a0 : Array Value} {Z : State} (hw : Hw a0 Z) : (Jvm.Cond.instanceMethod ({ cls := "java/lang/String", name := "charAt", desc := "(I)C" } : Jvm.MethodName)).before a0 Z = true := hw _ (List.mem_of_getElem? (i := 57) rfl)
theorem w58 {a0 : Array Value} {Z : State} (hw : Hw a0 Z) : (Jvm.Cond.selects "java/lang/String" ({ cls := "java/lang/String", name := "charAt", desc := "(I)C" } : Jvm.MethodName) ({ cls := "java/lang/String", name := "charAt", desc := "(I)C" } : Jvm.MethodName)).before a0 Z = true := hw _ (List.mem_of_getElem? (i := 58) rfl)
theorem w59 {a0 : Array Value} {Z : State} (hw : Hw a0 Z) : (Jvm.Cond.code ({ cls := "java/lang/String", name := "charAt", desc := "(I)C" } : Jvm.MethodName) jdk_42_method_56_code (2 : Nat) (Option.some Jvm.ClassFile.FieldType.char)).before a0 Z = true := hw _ (List.mem_of_getElem? (i := 59) rfl)
theorem w60 {a0 : Array Value} {Z : State} (hw : Hw a0 Z) : (Jvm.Cond.methodLink "java/lang/String" (492 : Nat) ({ cls := "java/lang/String", name := "isLatin1", desc := "()Z" } : Jvm.MethodName)).before a0 Z = true := hw _ (List.mem_of_getElem? (i := 60) rfl)
theorem w61 {a0 : Array Value} {Z : State} (hw : Hw a0 Z) : (Jvm.Cond.declares ({ cls := "java/lang/String", name := "isLatin1", desc := "()Z" } : Jvm.MethodName)).before a0 Z = true := hw _ (List.mem_of_getElem? (i := 61) rfl)
theorem w62 {a0 : Array Value} {Z : State} (hw : Hw a0 Z) : (Jvm.Cond.instanceMethod ({ cls := "java/lang/String", name := "isLatin1", desc := "()Z" } : Jvm.MethodName)).before a0 Z = true := hw _ (List.mem_of_getElem? (i := 62) rfl)
theorem w63 {a0 : Array Value} {Z : State} (hw : Hw a0 Z) : (Jvm.Cond.selects "java/lang/String" ({ cls := "java/lang/String", name := "isLatin1", desc := "()Z" } : Jvm.MethodName) ({ cls := "java/lang/String", name := "isLatin1", desc := "()Z" } : Jvm.MethodName)).before a0 Z = true := hw _ (List.mem_of_getElem? (i := 63) rfl)
theorem w64 {a0 : Array Value} {Z : State} (hw : Hw a0 Z) : (Jvm.Cond.code ({ cls := "java/lang/String", name := "isLatin1", desc := "()Z" } : Jvm.MethodName) jdk_42_method_154_code (1 : Nat) (Option.some Jvm.ClassFile.FieldType.boolean)).before a0 Z = true := hw _ (List.mem_of_getElem? (i := 64) rfl)
theorem w65 {a0 : Array Value} {Z : State} (hw : Hw a0 Z) : (Jvm.Cond.methodLink "java/lang/String" (495 : Nat) ({ cls := "java/lang/StringLatin1", name := "charAt", desc := "([BI)C" } : Jvm.MethodName)).before a0 Z = true := hw _ (List.mem_of_getElem? (i := 65) rfl)
theorem w66 {a0 : Array Value} {Z : State} (hw : Hw a0 Z) : (Jvm.Cond.static ({ cls := "java/lang/StringLatin1", name := "charAt", desc := "([BI)C" } : Jvm.MethodName)).before a0 Z = true := hw _ (List.mem_of_getElem? (i := 66) rfl)
theorem w67 {a0 : Array Value} {Z : State} (hw : Hw a0 Z) : (Jvm.Cond.initialized "java/lang/StringLatin1").before a0 Z = true := hw _ (List.mem_of_getElem? (i := 67) rfl)
theorem w68 {a0 : Array Value} {Z : State} (hw : Hw a0 Z) : (Jvm.Cond.code ({ cls := "java/lang/StringLatin1", name := "charAt", desc := "([BI)C" } : Jvm.MethodName) jdk_43_method_2_code (2 : Nat) (Option.some Jvm.ClassFile.FieldType.char)).before a0 Z = true := hw _ (List.mem_of_getElem? (i := 68) rfl)
theorem w69 {a0 : Array Value} {Z : State} (hw : Hw a0 Z) : (Jvm.Cond.methodLink "java/lang/StringLatin1" (9 : Nat) ({ cls := "java/lang/String", name := "checkIndex", desc := "(II)V" } : Jvm.MethodName)).before a0 Z = true := hw _ (List.mem_of_getElem? (i := 69) rfl)
theorem w70 {a0 : Array Value} {Z : State} (hw : Hw a0 Z) : (Jvm.Cond.static ({ cls := "java/lang/String", name := "checkIndex", desc := "(II)V" } : Jvm.MethodName)).before a0 Z = true := hw _ (List.mem_of_getElem? (i := 70) rfl)
theorem w71 {a0 : Array Value} {Z : State} (hw : Hw a0 Z) : (Jvm.Cond.code ({ cls := "java/lang/String", name := "checkIndex", desc := "(II)V" } : Jvm.MethodName) jdk_42_method_155_code (2 : Nat) (Option.none : Option Jvm.ClassFile.FieldType)).before a0 Z = true := hw _ (List.mem_of_getElem? (i := 71) rfl)
theorem w72 {a0 : Array Value} {Z : State} (hw : Hw a0 Z) : (Jvm.Cond.fieldLink "java/lang/String" (1053 : Nat) "jdk/internal/util/Preconditions" "SIOOBE_FORMATTER" "Ljava/util/function/BiFunction;").before a0 Z = true := hw _ (List.mem_of_getElem? (i := 72) rfl)
theorem w73 {a0 : Array Value} {Z : State} (hw : Hw a0 Z) : (Jvm.Cond.initialized "jdk/internal/util/Preconditions").before a0 Z = true := hw _ (List.mem_of_getElem? (i := 73) rfl)
theorem w74 {a0 : Array Value} {Z : State} (hw : Hw a0 Z) : (Jvm.Cond.methodLink "java/lang/String" (1059 : Nat) ({ cls := "jdk/internal/util/Preconditions", name := "checkIndex", desc := "(IILjava/util/function/BiFunction;)I" } : Jvm.MethodName)).before a0 Z = true := hw _ (List.mem_of_getElem? (i := 74) rfl)
theorem w75 {a0 : Array Value} {Z : State} (hw : Hw a0 Z) : (Jvm.Cond.static ({ cls := "jdk/internal/util/Preconditions", name := "checkIndex", desc := "(IILjava/util/function/BiFunction;)I" } : Jvm.MethodName)).before a0 Z = true := hw _ (List.mem_of_getElem? (i := 75) rfl)
theorem w76 {a0 : Array Value} {Z : State} (hw : Hw a0 Z) : (Jvm.Cond.code ({ cls := "jdk/internal/util/Preconditions", name := "checkIndex", desc := "(IILjava/util/function/BiFunction;)I" } : Jvm.MethodName) jdk_41_method_11_code (3 : Nat) (Option.some Jvm.ClassFile.FieldType.int)).before a0 Z = true := hw _ (List.mem_of_getElem? (i := 76) rfl)
theorem w77 {a0 : Array Value} {Z : State} (hw : Hw a0 Z) : (Jvm.Cond.methodLink "java/lang/StringUTF16" (119 : Nat) ({ cls := "java/lang/StringUTF16", name := "toBytes", desc := "([CII)[B" } : Jvm.MethodName)).before a0 Z = true := hw _ (List.mem_of_getElem? (i := 77) rfl)
theorem w78 {a0 : Array Value} {Z : State} (hw : Hw a0 Z) : (Jvm.Cond.static ({ cls := "java/lang/StringUTF16", name := "toBytes", desc := "([CII)[B" } : Jvm.MethodName)).before a0 Z = true := hw _ (List.mem_of_getElem? (i := 78) rfl)
theorem w79 {a0 : Array Value} {Z : State} (hw : Hw a0 Z) : (Jvm.Cond.code ({ cls := "java/lang/StringUTF16", name := "toBytes", desc := "([CII)[B" } : Jvm.MethodName) jdk_52_method_14_code (5 : Nat) (Option.some (Jvm.ClassFile.FieldType.array Jvm.ClassFile.FieldType.byte))).before a0 Z = true := hw _ (List.mem_of_getElem? (i := 79) rfl)
theorem w80 {a0 : Array Value} {Z : State} (hw : Hw a0 Z) : (Jvm.Cond.methodLink "java/lang/StringUTF16" (107 : Nat) ({ cls := "java/lang/StringUTF16", name := "newBytesFor", desc := "(I)[B" } : Jvm.MethodName)).before a0 Z = true := hw _ (List.mem_of_getElem? (i := 80) rfl)
theorem w81 {a0 : Array Value} {Z : State} (hw : Hw a0 Z) : (Jvm.Cond.static ({ cls := "java/lang/StringUTF16", name := "newBytesFor", desc := "(I)[B" } : Jvm.MethodName)).before a0 Z = true := hw _ (List.mem_of_getElem? (i := 81) rfl)
theorem w82 {a0 : Array Value} {Z : State} (hw : Hw a0 Z) : (Jvm.Cond.code ({ cls := "java/lang/StringUTF16", name := "newBytesFor", desc := "(I)[B" } : Jvm.MethodName) jdk_52_method_2_code (1 : Nat) (Option.some (Jvm.ClassFile.FieldType.array Jvm.ClassFile.FieldType.byte))).before a0 Z = true := hw _ (List.mem_of_getElem? (i := 82) rfl)
theorem w83 {a0 : Array Value} {Z : State} (hw : Hw a0 Z) : (Jvm.Cond.methodLink "java/lang/StringUTF16" (11 : Nat) ({ cls := "java/lang/StringUTF16", name := "newBytesLength", desc := "(I)I" } : Jvm.MethodName)).before a0 Z = true := hw _ (List.mem_of_getElem? (i := 83) rfl)
theorem w84 {a0 : Array Value} {Z : State} (hw : Hw a0 Z) : (Jvm.Cond.static ({ cls := "java/lang/StringUTF16", name := "newBytesLength", desc := "(I)I" } : Jvm.MethodName)).before a0 Z = true := hw _ (List.mem_of_getElem? (i := 84) rfl)
theorem w85 {a0 : Array Value} {Z : State} (hw : Hw a0 Z) : (Jvm.Cond.code ({ cls := "java/lang/StringUTF16", name := "newBytesLength", desc := "(I)I" } : Jvm.MethodName) jdk_52_method_3_code (1 : Nat) (Option.some Jvm.ClassFile.FieldType.int)).before a0 Z = true := hw _ (List.mem_of_getElem? (i := 85) rfl)
theorem w86 {a0 : Array Value} {Z : State} (hw : Hw a0 Z) : (Jvm.Cond.constant "java/lang/StringUTF16" (20 : Nat) (1073741823 : Int32)).before a0 Z = true := hw _ (List.mem_of_getElem? (i := 86) rfl)
theorem w87 {a0 : Array Value} {Z : State} (hw : Hw a0 Z) : (Jvm.Cond.methodLink "java/lang/StringUTF16" (111 : Nat) ({ cls := "java/lang/StringUTF16", name := "putChar", desc := "([BII)V" } : Jvm.MethodName)).before a0 Z = true := hw _ (List.mem_of_getElem? (i := 87) rfl)
theorem w88 {a0 : Array Value} {Z : State} (hw : Hw a0 Z) : (Jvm.Cond.static ({ cls := "java/lang/StringUTF16", name := "putChar", desc := "([BII)V" } : Jvm.MethodName)).before a0 Z = true := hw _ (List.mem_of_getElem? (i := 88) rfl)
theorem w89 {a0 : Array Value} {Z : State} (hw : Hw a0 Z) : (Jvm.Cond.code ({ cls := "java/lang/StringUTF16", name := "putChar", desc := "([BII)V" } : Jvm.MethodName) jdk_52_method_4_code (3 : Nat) (Option.none : Option Jvm.ClassFile.FieldType)).before a0 Z = true := hw _ (List.mem_of_getElem? (i := 89) rfl)
theorem w90 {a0 : Array Value} {Z : State} (hw : Hw a0 Z) : (Jvm.Cond.fieldLink "java/lang/StringUTF16" (44 : Nat) "java/lang/StringUTF16" "$assertionsDisabled" "Z").before a0 Z = true := hw _ (List.mem_of_getElem? (i := 90) rfl)
theorem w91 {a0 : Array Value} {Z : State} (hw : Hw a0 Z) : (Jvm.Cond.fieldLink "java/lang/StringUTF16" (59 : Nat) "java/lang/StringUTF16" "HI_BYTE_SHIFT" "I").before a0 Z = true := hw _ (List.mem_of_getElem? (i := 91) rfl)
theorem w92 {a0 : Array Value} {Z : State} (hw : Hw a0 Z) : (Jvm.Cond.fieldLink "java/lang/StringUTF16" (63 : Nat) "java/lang/StringUTF16" "LO_BYTE_SHIFT" "I").before a0 Z = true := hw _ (List.mem_of_getElem? (i := 92) rfl)
theorem w93 {a0 : Array Value} {Z : State} (hw : Hw a0 Z) : (Jvm.Cond.methodLink "java/lang/StringUTF16" (71 : Nat) ({ cls := "java/lang/StringUTF16", name := "getChar", desc := "([BI)C" } : Jvm.MethodName)).before a0 Z = true := hw _ (List.mem_of_getElem? (i := 93) rfl)
theorem w94 {a0 : Array Value} {Z : State} (hw : Hw a0 Z) : (Jvm.Cond.static ({ cls := "java/lang/StringUTF16", name := "getChar", desc := "([BI)C" } : Jvm.MethodName)).before a0 Z = true := hw _ (List.mem_of_getElem? (i := 94) rfl)
theorem w95 {a0 : Array Value} {Z : State} (hw : Hw a0 Z) : (Jvm.Cond.code ({ cls := "java/lang/StringUTF16", name := "getChar", desc := "([BI)C" } : Jvm.MethodName) jdk_52_method_5_code (2 : Nat) (Option.some Jvm.ClassFile.FieldType.char)).before a0 Z = true := hw _ (List.mem_of_getElem? (i := 95) rfl)
theorem w96 {a0 : Array Value} {Z : State} (hw : Hw a0 Z) : (Jvm.Cond.methodLink "java/lang/String" (498 : Nat) ({ cls := "java/lang/StringUTF16", name := "charAt", desc := "([BI)C" } : Jvm.MethodName)).before a0 Z = true := hw _ (List.mem_of_getElem? (i := 96) rfl)
theorem w97 {a0 : Array Value} {Z : State} (hw : Hw a0 Z) : (Jvm.Cond.static ({ cls := "java/lang/StringUTF16", name := "charAt", desc := "([BI)C" } : Jvm.MethodName)).before a0 Z = true := hw _ (List.mem_of_getElem? (i := 97) rfl)
theorem w98 {a0 : Array Value} {Z : State} (hw : Hw a0 Z) : (Jvm.Cond.code ({ cls := "java/lang/StringUTF16", name := "charAt", desc := "([BI)C" } : Jvm.MethodName) jdk_52_method_83_code (2 : Nat) (Option.some Jvm.ClassFile.FieldType.char)).before a0 Z = true := hw _ (List.mem_of_getElem? (i := 98) rfl)
theorem w99 {a0 : Array Value} {Z : State} (hw : Hw a0 Z) : (Jvm.Cond.methodLink "java/lang/StringUTF16" (67 : Nat) ({ cls := "java/lang/StringUTF16", name := "checkIndex", desc := "(I[B)V" } : Jvm.MethodName)).before a0 Z = true := hw _ (List.mem_of_getElem? (i := 99) rfl)
theorem w100 {a0 : Array Value} {Z : State} (hw : Hw a0 Z) : (Jvm.Cond.static ({ cls := "java/lang/StringUTF16", name := "checkIndex", desc := "(I[B)V" } : Jvm.MethodName)).before a0 Z = true := hw _ (List.mem_of_getElem? (i := 100) rfl)
theorem w101 {a0 : Array Value} {Z : State} (hw : Hw a0 Z) : (Jvm.Cond.code ({ cls := "java/lang/StringUTF16", name := "checkIndex", desc := "(I[B)V" } : Jvm.MethodName) jdk_52_method_91_code (2 : Nat) (Option.none : Option Jvm.ClassFile.FieldType)).before a0 Z = true := hw _ (List.mem_of_getElem? (i := 101) rfl)
theorem w102 {a0 : Array Value} {Z : State} (hw : Hw a0 Z) : (Jvm.Cond.methodLink "java/lang/StringUTF16" (48 : Nat) ({ cls := "java/lang/StringUTF16", name := "length", desc := "([B)I" } : Jvm.MethodName)).before a0 Z = true := hw _ (List.mem_of_getElem? (i := 102) rfl)
theorem w103 {a0 : Array Value} {Z : State} (hw : Hw a0 Z) : (Jvm.Cond.static ({ cls := "java/lang/StringUTF16", name := "length", desc := "([B)I" } : Jvm.MethodName)).before a0 Z = true := hw _ (List.mem_of_getElem? (i := 103) rfl)
theorem w104 {a0 : Array Value} {Z : State} (hw : Hw a0 Z) : (Jvm.Cond.code ({ cls := "java/lang/StringUTF16", name := "length", desc := "([B)I" } : Jvm.MethodName) jdk_52_method_6_code (1 : Nat) (Option.some Jvm.ClassFile.FieldType.int)).before a0 Z = true := hw _ (List.mem_of_getElem? (i := 104) rfl)
theorem w105 {a0 : Array Value} {Z : State} (hw : Hw a0 Z) : (Jvm.Cond.methodLink "java/lang/StringUTF16" (414 : Nat) ({ cls := "java/lang/String", name := "checkIndex", desc := "(II)V" } : Jvm.MethodName)).before a0 Z = true := hw _ (List.mem_of_getElem? (i := 105) rfl)
theorem e0_26 : decode prog_8_method_2_code 26 = .ok (.iload_n 2, 1) := by decide +kernel
theorem e0_27 : decode prog_8_method_2_code 27 = .ok (.bipush 48, 2) := by decide +kernel
theorem e0_29 : decode prog_8_method_2_code 29 = .ok (.if_icmp .lt 9, 3) := by decide +kernel
theorem e0_32 : decode prog_8_method_2_code 32 = .ok (.iload_n 2, 1) := by decide +kernel
theorem e0_33 : decode prog_8_method_2_code 33 = .ok (.bipush 57, 2) := by decide +kernel
theorem e0_35 : decode prog_8_method_2_code 35 = .ok (.if_icmp .le 29, 3) := by decide +kernel
theorem e0_38 : decode prog_8_method_2_code 38 = .ok (.iload_n 2, 1) := by decide +kernel
theorem e0_39 : decode prog_8_method_2_code 39 = .ok (.bipush 65, 2) := by decide +kernel
theorem e0_41 : decode prog_8_method_2_code 41 = .ok (.if_icmp .lt 9, 3) := by decide +kernel
theorem e0_44 : decode prog_8_method_2_code 44 = .ok (.iload_n 2, 1) := by decide +kernel
theorem e0_45 : decode prog_8_method_2_code 45 = .ok (.bipush 90, 2) := by decide +kernel
theorem e0_47 : decode prog_8_method_2_code 47 = .ok (.if_icmp .le 17, 3) := by decide +kernel
theorem e0_50 : decode prog_8_method_2_code 50 = .ok (.iload_n 2, 1) := by decide +kernel
theorem e0_51 : decode prog_8_method_2_code 51 = .ok (.bipush 97, 2) := by decide +kernel
theorem e0_53 : decode prog_8_method_2_code 53 = .ok (.if_icmp .lt 9, 3) := by decide +kernel
theorem e0_56 : decode prog_8_method_2_code 56 = .ok (.iload_n 2, 1) := by decide +kernel
theorem e0_57 : decode prog_8_method_2_code 57 = .ok (.bipush 122, 2) := by decide +kernel
theorem e0_59 : decode prog_8_method_2_code 59 = .ok (.if_icmp .le 5, 3) := by decide +kernel
theorem e1_0 : decode jdk_42_method_3_code 0 = .ok (.aload_n 0, 1) := by decide +kernel
theorem e1_1 : decode jdk_42_method_3_code 1 = .ok (.aload_n 1, 1) := by decide +kernel
theorem e1_2 : decode jdk_42_method_3_code 2 = .ok (.iconst 0, 1) := by decide +kernel
theorem e1_3 : decode jdk_42_method_3_code 3 = .ok (.aload_n 1, 1) := by decide +kernel
theorem e1_4 : decode jdk_42_method_3_code 4 = .ok (.arraylength, 1) := by decide +kernel
theorem e1_5 : decode jdk_42_method_3_code 5 = .ok (.aconst_null, 1) := by decide +kernel
theorem e1_6 : decode jdk_42_method_3_code 6 = .ok (.invokespecial 27, 3) := by decide +kernel
theorem e2_0 : decode jdk_42_method_149_code 0 = .ok (.aload_n 0, 1) := by decide +kernel
theorem e2_1 : decode jdk_42_method_149_code 1 = .ok (.invokespecial 1, 3) := by decide +kernel
theorem e2_4 : decode jdk_42_method_149_code 4 = .ok (.iload_n 3, 1) := by decide +kernel
theorem e2_5 : decode jdk_42_method_149_code 5 = .ok (.ifCond .ne 22, 3) := by decide +kernel
theorem e2_8 : decode jdk_42_method_149_code 8 = .ok (.aload_n 0, 1) := by decide +kernel
theorem e2_9 : decode jdk_42_method_149_code 9 = .ok (.ldc 7, 2) := by decide +kernel
theorem e2_11 : decode jdk_42_method_149_code 11 = .ok (.getfield 9, 3) := by decide +kernel
theorem e2_14 : decode jdk_42_method_149_code 14 = .ok (.putfield 9, 3) := by decide +kernel
theorem e2_17 : decode jdk_42_method_149_code 17 = .ok (.aload_n 0, 1) := by decide +kernel
theorem e2_18 : decode jdk_42_method_149_code 18 = .ok (.ldc 7, 2) := by decide +kernel
theorem e2_20 : decode jdk_42_method_149_code 20 = .ok (.getfield 15, 3) := by decide +kernel
theorem e2_23 : decode jdk_42_method_149_code 23 = .ok (.putfield 15, 3) := by decide +kernel
theorem e2_26 : decode jdk_42_method_149_code 26 = .ok (.return_, 1) := by decide +kernel
theorem e1_9 : decode jdk_42_method_3_code 9 = .ok (.return_, 1) := by decide +kernel
theorem e0_0 : decode prog_8_method_2_code 0 = .ok (.aload_n 0, 1) := by decide +kernel
theorem e0_1 : decode prog_8_method_2_code 1 = .ok (.invokevirtual 1, 3) := by decide +kernel
theorem e3_0 : decode jdk_42_method_54_code 0 = .ok (.aload_n 0, 1) := by decide +kernel
theorem e3_1 : decode jdk_42_method_54_code 1 = .ok (.getfield 9, 3) := by decide +kernel
theorem e3_4 : decode jdk_42_method_54_code 4 = .ok (.arraylength, 1) := by decide +kernel
theorem e3_5 : decode jdk_42_method_54_code 5 = .ok (.aload_n 0, 1) := by decide +kernel
theorem e3_6 : decode jdk_42_method_54_code 6 = .ok (.invokevirtual 335, 3) := by decide +kernel
theorem e4_0 : decode jdk_42_method_152_code 0 = .ok (.getstatic 38, 3) := by decide +kernel
theorem e4_3 : decode jdk_42_method_152_code 3 = .ok (.ifCond .eq 10, 3) := by decide +kernel
theorem e4_6 : decode jdk_42_method_152_code 6 = .ok (.aload_n 0, 1) := by decide +kernel
theorem e4_7 : decode jdk_42_method_152_code 7 = .ok (.getfield 15, 3) := by decide +kernel
theorem e4_10 : decode jdk_42_method_152_code 10 = .ok (.goto 4, 3) := by decide +kernel
theorem e4_14 : decode jdk_42_method_152_code 14 = .ok (.ireturn, 1) := by decide +kernel
theorem e3_9 : decode jdk_42_method_54_code 9 = .ok (.ishr, 1) := by decide +kernel
theorem e3_10 : decode jdk_42_method_54_code 10 = .ok (.ireturn, 1) := by decide +kernel
theorem e0_4 : decode prog_8_method_2_code 4 = .ok (.iconst 3, 1) := by decide +kernel
theorem e0_5 : decode prog_8_method_2_code 5 = .ok (.if_icmp .eq 5, 3) := by decide +kernel
theorem e0_8 : decode prog_8_method_2_code 8 = .ok (.iconst 0, 1) := by decide +kernel
theorem e0_9 : decode prog_8_method_2_code 9 = .ok (.ireturn, 1) := by decide +kernel
theorem e5_0 : decode method_3_code 0 = .ok (.iload_n 0, 1) := by decide +kernel
theorem e5_1 : decode method_3_code 1 = .ok (.iconst 1, 1) := by decide +kernel
theorem e5_2 : decode method_3_code 2 = .ok (.iand, 1) := by decide +kernel
theorem e5_3 : decode method_3_code 3 = .ok (.ifCond .eq 46, 3) := by decide +kernel
theorem e5_49 : decode method_3_code 49 = .ok (.iload_n 0, 1) := by decide +kernel
theorem e5_50 : decode method_3_code 50 = .ok (.iconst 1, 1) := by decide +kernel
theorem e5_51 : decode method_3_code 51 = .ok (.iushr, 1) := by decide +kernel
theorem e5_52 : decode method_3_code 52 = .ok (.ldc 28, 2) := by decide +kernel
theorem e5_54 : decode method_3_code 54 = .ok (.iand, 1) := by decide +kernel
theorem e5_55 : decode method_3_code 55 = .ok (.i2c, 1) := by decide +kernel
theorem e5_56 : decode method_3_code 56 = .ok (.ireturn, 1) := by decide +kernel
theorem e5_6 : decode method_3_code 6 = .ok (.iload_n 0, 1) := by decide +kernel
theorem e5_7 : decode method_3_code 7 = .ok (.iconst 1, 1) := by decide +kernel
theorem e5_8 : decode method_3_code 8 = .ok (.iushr, 1) := by decide +kernel
theorem e5_9 : decode method_3_code 9 = .ok (.bipush 62, 2) := by decide +kernel
theorem e5_11 : decode method_3_code 11 = .ok (.irem, 1) := by decide +kernel
theorem e5_12 : decode method_3_code 12 = .ok (.istore_n 1, 1) := by decide +kernel
theorem e5_13 : decode method_3_code 13 = .ok (.iload_n 1, 1) := by decide +kernel
theorem e5_14 : decode method_3_code 14 = .ok (.bipush 10, 2) := by decide +kernel
theorem e5_16 : decode method_3_code 16 = .ok (.if_icmp .ge 9, 3) := by decide +kernel
theorem e5_19 : decode method_3_code 19 = .ok (.bipush 48, 2) := by decide +kernel
theorem e5_21 : decode method_3_code 21 = .ok (.iload_n 1, 1) := by decide +kernel
theorem e5_22 : decode method_3_code 22 = .ok (.iadd, 1) := by decide +kernel
theorem e5_23 : decode method_3_code 23 = .ok (.i2c, 1) := by decide +kernel
theorem e5_24 : decode method_3_code 24 = .ok (.ireturn, 1) := by decide +kernel
theorem e5_25 : decode method_3_code 25 = .ok (.iload_n 1, 1) := by decide +kernel
theorem e5_26 : decode method_3_code 26 = .ok (.bipush 36, 2) := by decide +kernel
theorem e5_28 : decode method_3_code 28 = .ok (.if_icmp .ge 12, 3) := by decide +kernel
theorem e5_31 : decode method_3_code 31 = .ok (.bipush 65, 2) := by decide +kernel
theorem e5_33 : decode method_3_code 33 = .ok (.iload_n 1, 1) := by decide +kernel
theorem e5_34 : decode method_3_code 34 = .ok (.bipush 10, 2) := by decide +kernel
theorem e5_36 : decode method_3_code 36 = .ok (.isub, 1) := by decide +kernel
theorem e5_37 : decode method_3_code 37 = .ok (.iadd, 1) := by decide +kernel
theorem e5_38 : decode method_3_code 38 = .ok (.i2c, 1) := by decide +kernel
theorem e5_39 : decode method_3_code 39 = .ok (.ireturn, 1) := by decide +kernel
theorem e5_40 : decode method_3_code 40 = .ok (.bipush 97, 2) := by decide +kernel
theorem e5_42 : decode method_3_code 42 = .ok (.iload_n 1, 1) := by decide +kernel
theorem e5_43 : decode method_3_code 43 = .ok (.bipush 36, 2) := by decide +kernel
theorem e5_45 : decode method_3_code 45 = .ok (.isub, 1) := by decide +kernel
theorem e5_46 : decode method_3_code 46 = .ok (.iadd, 1) := by decide +kernel
theorem e5_47 : decode method_3_code 47 = .ok (.i2c, 1) := by decide +kernel
theorem e5_48 : decode method_3_code 48 = .ok (.ireturn, 1) := by decide +kernel
theorem e2_27 : decode jdk_42_method_149_code 27 = .ok (.getstatic 38, 3) := by decide +kernel
theorem e2_30 : decode jdk_42_method_149_code 30 = .ok (.ifCond .eq 28, 3) := by decide +kernel
theorem e2_33 : decode jdk_42_method_149_code 33 = .ok (.aload_n 1, 1) := by decide +kernel
theorem e2_34 : decode jdk_42_method_149_code 34 = .ok (.iload_n 2, 1) := by decide +kernel
theorem e2_35 : decode jdk_42_method_149_code 35 = .ok (.iload_n 3, 1) := by decide +kernel
theorem e2_36 : decode jdk_42_method_149_code 36 = .ok (.invokestatic 177, 3) := by decide +kernel
theorem e6_0 : decode jdk_52_method_16_code 0 = .ok (.iload_n 2, 1) := by decide +kernel
theorem e6_1 : decode jdk_52_method_16_code 1 = .ok (.newarray .byte, 2) := by decide +kernel
theorem e6_3 : decode jdk_52_method_16_code 3 = .ok (.astore_n 3, 1) := by decide +kernel
theorem e6_4 : decode jdk_52_method_16_code 4 = .ok (.aload_n 0, 1) := by decide +kernel
theorem e6_5 : decode jdk_52_method_16_code 5 = .ok (.iload_n 1, 1) := by decide +kernel
theorem e6_6 : decode jdk_52_method_16_code 6 = .ok (.aload_n 3, 1) := by decide +kernel
theorem e6_7 : decode jdk_52_method_16_code 7 = .ok (.iconst 0, 1) := by decide +kernel
theorem e6_8 : decode jdk_52_method_16_code 8 = .ok (.iload_n 2, 1) := by decide +kernel
theorem e6_9 : decode jdk_52_method_16_code 9 = .ok (.invokestatic 115, 3) := by decide +kernel
theorem e7_0 : decode jdk_52_method_21_code 0 = .ok (.iconst 0, 1) := by decide +kernel
theorem e7_1 : decode jdk_52_method_21_code 1 = .ok (.istore 5, 2) := by decide +kernel
theorem e7_3 : decode jdk_52_method_21_code 3 = .ok (.iload 5, 2) := by decide +kernel
theorem e7_5 : decode jdk_52_method_21_code 5 = .ok (.iload 4, 2) := by decide +kernel
theorem e7_7 : decode jdk_52_method_21_code 7 = .ok (.if_icmp .ge 37, 3) := by decide +kernel
theorem e7_10 : decode jdk_52_method_21_code 10 = .ok (.aload_n 0, 1) := by decide +kernel
theorem e7_11 : decode jdk_52_method_21_code 11 = .ok (.iload_n 1, 1) := by decide +kernel
theorem e7_12 : decode jdk_52_method_21_code 12 = .ok (.caload, 1) := by decide +kernel
theorem e7_13 : decode jdk_52_method_21_code 13 = .ok (.istore 6, 2) := by decide +kernel
theorem e7_15 : decode jdk_52_method_21_code 15 = .ok (.iload 6, 2) := by decide +kernel
theorem e7_17 : decode jdk_52_method_21_code 17 = .ok (.sipush 255, 3) := by decide +kernel
theorem e7_20 : decode jdk_52_method_21_code 20 = .ok (.if_icmp .le 6, 3) := by decide +kernel
theorem e7_23 : decode jdk_52_method_21_code 23 = .ok (.iload 5, 2) := by decide +kernel
theorem e7_25 : decode jdk_52_method_21_code 25 = .ok (.ireturn, 1) := by decide +kernel
theorem e7_26 : decode jdk_52_method_21_code 26 = .ok (.aload_n 2, 1) := by decide +kernel
theorem e7_27 : decode jdk_52_method_21_code 27 = .ok (.iload_n 3, 1) := by decide +kernel
theorem e7_28 : decode jdk_52_method_21_code 28 = .ok (.iload 6, 2) := by decide +kernel
theorem e7_30 : decode jdk_52_method_21_code 30 = .ok (.i2b, 1) := by decide +kernel
theorem e7_31 : decode jdk_52_method_21_code 31 = .ok (.bastore, 1) := by decide +kernel
theorem e7_32 : decode jdk_52_method_21_code 32 = .ok (.iinc 1 1, 3) := by decide +kernel
theorem e7_35 : decode jdk_52_method_21_code 35 = .ok (.iinc 3 1, 3) := by decide +kernel
theorem e7_38 : decode jdk_52_method_21_code 38 = .ok (.iinc 5 1, 3) := by decide +kernel
theorem e7_41 : decode jdk_52_method_21_code 41 = .ok (.goto (-38), 3) := by decide +kernel
theorem e7_44 : decode jdk_52_method_21_code 44 = .ok (.iload 4, 2) := by decide +kernel
theorem e7_46 : decode jdk_52_method_21_code 46 = .ok (.ireturn, 1) := by decide +kernel
theorem e6_12 : decode jdk_52_method_16_code 12 = .ok (.istore 4, 2) := by decide +kernel
theorem e6_14 : decode jdk_52_method_16_code 14 = .ok (.iload 4, 2) := by decide +kernel
theorem e6_16 : decode jdk_52_method_16_code 16 = .ok (.iload_n 2, 1) := by decide +kernel
theorem e6_17 : decode jdk_52_method_16_code 17 = .ok (.if_icmp .eq 40, 3) := by decide +kernel
theorem e6_20 : decode jdk_52_method_16_code 20 = .ok (.aload_n 0, 1) := by decide +kernel
theorem e6_21 : decode jdk_52_method_16_code 21 = .ok (.iload_n 1, 1) := by decide +kernel
theorem e6_22 : decode jdk_52_method_16_code 22 = .ok (.iload_n 2, 1) := by decide +kernel
theorem e6_23 : decode jdk_52_method_16_code 23 = .ok (.invokestatic 119, 3) := by decide +kernel
theorem e8_0 : decode jdk_52_method_14_code 0 = .ok (.iload_n 2, 1) := by decide +kernel
theorem e8_1 : decode jdk_52_method_14_code 1 = .ok (.invokestatic 107, 3) := by decide +kernel
theorem e9_0 : decode jdk_52_method_2_code 0 = .ok (.iload_n 0, 1) := by decide +kernel
theorem e9_1 : decode jdk_52_method_2_code 1 = .ok (.invokestatic 11, 3) := by decide +kernel
theorem e10_0 : decode jdk_52_method_3_code 0 = .ok (.iload_n 0, 1) := by decide +kernel
theorem e10_1 : decode jdk_52_method_3_code 1 = .ok (.ifCond .ge 11, 3) := by decide +kernel
theorem e10_12 : decode jdk_52_method_3_code 12 = .ok (.iload_n 0, 1) := by decide +kernel
theorem e10_13 : decode jdk_52_method_3_code 13 = .ok (.ldc 20, 2) := by decide +kernel
theorem e10_15 : decode jdk_52_method_3_code 15 = .ok (.if_icmp .lt 40, 3) := by decide +kernel
theorem e10_55 : decode jdk_52_method_3_code 55 = .ok (.iload_n 0, 1) := by decide +kernel
theorem e10_56 : decode jdk_52_method_3_code 56 = .ok (.iconst 1, 1) := by decide +kernel
theorem e10_57 : decode jdk_52_method_3_code 57 = .ok (.ishl, 1) := by decide +kernel
theorem e10_58 : decode jdk_52_method_3_code 58 = .ok (.ireturn, 1) := by decide +kernel
theorem e9_4 : decode jdk_52_method_2_code 4 = .ok (.newarray .byte, 2) := by decide +kernel
theorem e9_6 : decode jdk_52_method_2_code 6 = .ok (.areturn, 1) := by decide +kernel
theorem e8_4 : decode jdk_52_method_14_code 4 = .ok (.astore_n 3, 1) := by decide +kernel
theorem e8_5 : decode jdk_52_method_14_code 5 = .ok (.iconst 0, 1) := by decide +kernel
theorem e8_6 : decode jdk_52_method_14_code 6 = .ok (.istore 4, 2) := by decide +kernel
theorem e8_8 : decode jdk_52_method_14_code 8 = .ok (.iload 4, 2) := by decide +kernel
theorem e8_10 : decode jdk_52_method_14_code 10 = .ok (.iload_n 2, 1) := by decide +kernel
theorem e8_11 : decode jdk_52_method_14_code 11 = .ok (.if_icmp .ge 21, 3) := by decide +kernel
theorem e8_14 : decode jdk_52_method_14_code 14 = .ok (.aload_n 3, 1) := by decide +kernel
theorem e8_15 : decode jdk_52_method_14_code 15 = .ok (.iload 4, 2) := by decide +kernel
theorem e8_17 : decode jdk_52_method_14_code 17 = .ok (.aload_n 0, 1) := by decide +kernel
theorem e8_18 : decode jdk_52_method_14_code 18 = .ok (.iload_n 1, 1) := by decide +kernel
theorem e8_19 : decode jdk_52_method_14_code 19 = .ok (.caload, 1) := by decide +kernel
theorem e8_20 : decode jdk_52_method_14_code 20 = .ok (.invokestatic 111, 3) := by decide +kernel
theorem e11_0 : decode jdk_52_method_4_code 0 = .ok (.getstatic 44, 3) := by decide +kernel
theorem e11_3 : decode jdk_52_method_4_code 3 = .ok (.ifCond .ne 25, 3) := by decide +kernel
theorem e11_28 : decode jdk_52_method_4_code 28 = .ok (.iload_n 1, 1) := by decide +kernel
theorem e11_29 : decode jdk_52_method_4_code 29 = .ok (.iconst 1, 1) := by decide +kernel
theorem e11_30 : decode jdk_52_method_4_code 30 = .ok (.ishl, 1) := by decide +kernel
theorem e11_31 : decode jdk_52_method_4_code 31 = .ok (.istore_n 1, 1) := by decide +kernel
theorem e11_32 : decode jdk_52_method_4_code 32 = .ok (.aload_n 0, 1) := by decide +kernel
theorem e11_33 : decode jdk_52_method_4_code 33 = .ok (.iload_n 1, 1) := by decide +kernel
theorem e11_34 : decode jdk_52_method_4_code 34 = .ok (.iinc 1 1, 3) := by decide +kernel
theorem e11_37 : decode jdk_52_method_4_code 37 = .ok (.iload_n 2, 1) := by decide +kernel
theorem e11_38 : decode jdk_52_method_4_code 38 = .ok (.getstatic 59, 3) := by decide +kernel
theorem e11_41 : decode jdk_52_method_4_code 41 = .ok (.ishr, 1) := by decide +kernel
theorem e11_42 : decode jdk_52_method_4_code 42 = .ok (.i2b, 1) := by decide +kernel
theorem e11_43 : decode jdk_52_method_4_code 43 = .ok (.bastore, 1) := by decide +kernel
theorem e11_44 : decode jdk_52_method_4_code 44 = .ok (.aload_n 0, 1) := by decide +kernel
theorem e11_45 : decode jdk_52_method_4_code 45 = .ok (.iload_n 1, 1) := by decide +kernel
theorem e11_46 : decode jdk_52_method_4_code 46 = .ok (.iload_n 2, 1) := by decide +kernel
theorem e11_47 : decode jdk_52_method_4_code 47 = .ok (.getstatic 63, 3) := by decide +kernel
theorem e11_50 : decode jdk_52_method_4_code 50 = .ok (.ishr, 1) := by decide +kernel
theorem e11_51 : decode jdk_52_method_4_code 51 = .ok (.i2b, 1) := by decide +kernel
theorem e11_52 : decode jdk_52_method_4_code 52 = .ok (.bastore, 1) := by decide +kernel
theorem e11_53 : decode jdk_52_method_4_code 53 = .ok (.return_, 1) := by decide +kernel
theorem e8_23 : decode jdk_52_method_14_code 23 = .ok (.iinc 1 1, 3) := by decide +kernel
theorem e8_26 : decode jdk_52_method_14_code 26 = .ok (.iinc 4 1, 3) := by decide +kernel
theorem e8_29 : decode jdk_52_method_14_code 29 = .ok (.goto (-21), 3) := by decide +kernel
theorem e8_32 : decode jdk_52_method_14_code 32 = .ok (.aload_n 3, 1) := by decide +kernel
theorem e8_33 : decode jdk_52_method_14_code 33 = .ok (.areturn, 1) := by decide +kernel
theorem e6_26 : decode jdk_52_method_16_code 26 = .ok (.astore 5, 2) := by decide +kernel
theorem e6_28 : decode jdk_52_method_16_code 28 = .ok (.aload 5, 2) := by decide +kernel
theorem e6_30 : decode jdk_52_method_16_code 30 = .ok (.iload 4, 2) := by decide +kernel
theorem e6_32 : decode jdk_52_method_16_code 32 = .ok (.invokestatic 71, 3) := by decide +kernel
theorem e12_0 : decode jdk_52_method_5_code 0 = .ok (.getstatic 44, 3) := by decide +kernel
theorem e12_3 : decode jdk_52_method_5_code 3 = .ok (.ifCond .ne 25, 3) := by decide +kernel
theorem e12_28 : decode jdk_52_method_5_code 28 = .ok (.iload_n 1, 1) := by decide +kernel
theorem e12_29 : decode jdk_52_method_5_code 29 = .ok (.iconst 1, 1) := by decide +kernel
theorem e12_30 : decode jdk_52_method_5_code 30 = .ok (.ishl, 1) := by decide +kernel
theorem e12_31 : decode jdk_52_method_5_code 31 = .ok (.istore_n 1, 1) := by decide +kernel
theorem e12_32 : decode jdk_52_method_5_code 32 = .ok (.aload_n 0, 1) := by decide +kernel
theorem e12_33 : decode jdk_52_method_5_code 33 = .ok (.iload_n 1, 1) := by decide +kernel
theorem e12_34 : decode jdk_52_method_5_code 34 = .ok (.iinc 1 1, 3) := by decide +kernel
theorem e12_37 : decode jdk_52_method_5_code 37 = .ok (.baload, 1) := by decide +kernel
theorem e12_38 : decode jdk_52_method_5_code 38 = .ok (.sipush 255, 3) := by decide +kernel
theorem e12_41 : decode jdk_52_method_5_code 41 = .ok (.iand, 1) := by decide +kernel
theorem e12_42 : decode jdk_52_method_5_code 42 = .ok (.getstatic 59, 3) := by decide +kernel
theorem e12_45 : decode jdk_52_method_5_code 45 = .ok (.ishl, 1) := by decide +kernel
theorem e12_46 : decode jdk_52_method_5_code 46 = .ok (.aload_n 0, 1) := by decide +kernel
theorem e12_47 : decode jdk_52_method_5_code 47 = .ok (.iload_n 1, 1) := by decide +kernel
theorem e12_48 : decode jdk_52_method_5_code 48 = .ok (.baload, 1) := by decide +kernel
theorem e12_49 : decode jdk_52_method_5_code 49 = .ok (.sipush 255, 3) := by decide +kernel
theorem e12_52 : decode jdk_52_method_5_code 52 = .ok (.iand, 1) := by decide +kernel
theorem e12_53 : decode jdk_52_method_5_code 53 = .ok (.getstatic 63, 3) := by decide +kernel
theorem e12_56 : decode jdk_52_method_5_code 56 = .ok (.ishl, 1) := by decide +kernel
theorem e12_57 : decode jdk_52_method_5_code 57 = .ok (.ior, 1) := by decide +kernel
theorem e12_58 : decode jdk_52_method_5_code 58 = .ok (.i2c, 1) := by decide +kernel
theorem e12_59 : decode jdk_52_method_5_code 59 = .ok (.ireturn, 1) := by decide +kernel
theorem e6_35 : decode jdk_52_method_16_code 35 = .ok (.sipush 255, 3) := by decide +kernel
theorem e6_38 : decode jdk_52_method_16_code 38 = .ok (.if_icmp .gt 16, 3) := by decide +kernel
theorem e6_54 : decode jdk_52_method_16_code 54 = .ok (.aload 5, 2) := by decide +kernel
theorem e6_56 : decode jdk_52_method_16_code 56 = .ok (.areturn, 1) := by decide +kernel
theorem e6_57 : decode jdk_52_method_16_code 57 = .ok (.aload_n 3, 1) := by decide +kernel
theorem e6_58 : decode jdk_52_method_16_code 58 = .ok (.areturn, 1) := by decide +kernel
theorem e2_39 : decode jdk_42_method_149_code 39 = .ok (.astore 5, 2) := by decide +kernel
theorem e2_41 : decode jdk_42_method_149_code 41 = .ok (.aload_n 0, 1) := by decide +kernel
theorem e2_42 : decode jdk_42_method_149_code 42 = .ok (.aload 5, 2) := by decide +kernel
theorem e2_44 : decode jdk_42_method_149_code 44 = .ok (.iload_n 3, 1) := by decide +kernel
theorem e2_45 : decode jdk_42_method_149_code 45 = .ok (.invokestatic 47, 3) := by decide +kernel
theorem e13_0 : decode jdk_52_method_15_code 0 = .ok (.iload_n 1, 1) := by decide +kernel
theorem e13_1 : decode jdk_52_method_15_code 1 = .ok (.aload_n 0, 1) := by decide +kernel
theorem e13_2 : decode jdk_52_method_15_code 2 = .ok (.arraylength, 1) := by decide +kernel
theorem e13_3 : decode jdk_52_method_15_code 3 = .ok (.isub, 1) := by decide +kernel
theorem e13_4 : decode jdk_52_method_15_code 4 = .ok (.bipush 31, 2) := by decide +kernel
theorem e13_6 : decode jdk_52_method_15_code 6 = .ok (.iushr, 1) := by decide +kernel
theorem e13_7 : decode jdk_52_method_15_code 7 = .ok (.i2b, 1) := by decide +kernel
theorem e13_8 : decode jdk_52_method_15_code 8 = .ok (.ireturn, 1) := by decide +kernel
theorem e2_48 : decode jdk_42_method_149_code 48 = .ok (.putfield 15, 3) := by decide +kernel
theorem e2_51 : decode jdk_42_method_149_code 51 = .ok (.aload_n 0, 1) := by decide +kernel
theorem e2_52 : decode jdk_42_method_149_code 52 = .ok (.aload 5, 2) := by decide +kernel
theorem e2_54 : decode jdk_42_method_149_code 54 = .ok (.putfield 9, 3) := by decide +kernel
theorem e2_57 : decode jdk_42_method_149_code 57 = .ok (.return_, 1) := by decide +kernel
theorem e14_0 : decode method_4_code 0 = .ok (.iload_n 0, 1) := by decide +kernel
theorem e14_1 : decode method_4_code 1 = .ok (.istore_n 1, 1) := by decide +kernel
theorem e14_2 : decode method_4_code 2 = .ok (.iload_n 1, 1) := by decide +kernel
theorem e14_3 : decode method_4_code 3 = .ok (.bipush 48, 2) := by decide +kernel
theorem e14_5 : decode method_4_code 5 = .ok (.isub, 1) := by decide +kernel
theorem e14_6 : decode method_4_code 6 = .ok (.istore_n 2, 1) := by decide +kernel
theorem e14_7 : decode method_4_code 7 = .ok (.iload_n 2, 1) := by decide +kernel
theorem e14_8 : decode method_4_code 8 = .ok (.ifCond .lt 11, 3) := by decide +kernel
theorem e14_19 : decode method_4_code 19 = .ok (.iload_n 1, 1) := by decide +kernel
theorem e14_20 : decode method_4_code 20 = .ok (.bipush 32, 2) := by decide +kernel
theorem e14_22 : decode method_4_code 22 = .ok (.ior, 1) := by decide +kernel
theorem e14_23 : decode method_4_code 23 = .ok (.bipush 97, 2) := by decide +kernel
theorem e14_25 : decode method_4_code 25 = .ok (.isub, 1) := by decide +kernel
theorem e14_26 : decode method_4_code 26 = .ok (.istore_n 3, 1) := by decide +kernel
theorem e14_27 : decode method_4_code 27 = .ok (.iload_n 3, 1) := by decide +kernel
theorem e14_28 : decode method_4_code 28 = .ok (.ifCond .lt 13, 3) := by decide +kernel
theorem e14_41 : decode method_4_code 41 = .ok (.iconst 0, 1) := by decide +kernel
theorem e14_42 : decode method_4_code 42 = .ok (.ireturn, 1) := by decide +kernel
theorem e14_11 : decode method_4_code 11 = .ok (.iload_n 2, 1) := by decide +kernel
theorem e14_12 : decode method_4_code 12 = .ok (.bipush 10, 2) := by decide +kernel
theorem e14_14 : decode method_4_code 14 = .ok (.if_icmp .ge 5, 3) := by decide +kernel
theorem e14_17 : decode method_4_code 17 = .ok (.iconst 1, 1) := by decide +kernel
theorem e14_18 : decode method_4_code 18 = .ok (.ireturn, 1) := by decide +kernel
theorem e14_31 : decode method_4_code 31 = .ok (.iload_n 3, 1) := by decide +kernel
theorem e14_32 : decode method_4_code 32 = .ok (.bipush 26, 2) := by decide +kernel
theorem e14_34 : decode method_4_code 34 = .ok (.if_icmp .ge 7, 3) := by decide +kernel
theorem e14_37 : decode method_4_code 37 = .ok (.iconst 1, 1) := by decide +kernel
theorem e14_38 : decode method_4_code 38 = .ok (.goto 4, 3) := by decide +kernel
theorem e0_10 : decode prog_8_method_2_code 10 = .ok (.iconst 0, 1) := by decide +kernel
theorem e0_11 : decode prog_8_method_2_code 11 = .ok (.istore_n 1, 1) := by decide +kernel
theorem e0_12 : decode prog_8_method_2_code 12 = .ok (.iload_n 1, 1) := by decide +kernel
theorem e0_13 : decode prog_8_method_2_code 13 = .ok (.aload_n 0, 1) := by decide +kernel
theorem e0_14 : decode prog_8_method_2_code 14 = .ok (.invokevirtual 1, 3) := by decide +kernel
theorem e0_17 : decode prog_8_method_2_code 17 = .ok (.if_icmp .ge 53, 3) := by decide +kernel
theorem e0_20 : decode prog_8_method_2_code 20 = .ok (.aload_n 0, 1) := by decide +kernel
theorem e0_21 : decode prog_8_method_2_code 21 = .ok (.iload_n 1, 1) := by decide +kernel
theorem e0_22 : decode prog_8_method_2_code 22 = .ok (.invokevirtual 7, 3) := by decide +kernel
theorem e15_0 : decode jdk_42_method_56_code 0 = .ok (.aload_n 0, 1) := by decide +kernel
theorem e15_1 : decode jdk_42_method_56_code 1 = .ok (.invokevirtual 492, 3) := by decide +kernel
theorem e16_0 : decode jdk_42_method_154_code 0 = .ok (.getstatic 38, 3) := by decide +kernel
theorem e16_3 : decode jdk_42_method_154_code 3 = .ok (.ifCond .eq 14, 3) := by decide +kernel
theorem e16_6 : decode jdk_42_method_154_code 6 = .ok (.aload_n 0, 1) := by decide +kernel
theorem e16_7 : decode jdk_42_method_154_code 7 = .ok (.getfield 15, 3) := by decide +kernel
theorem e16_10 : decode jdk_42_method_154_code 10 = .ok (.ifCond .ne 7, 3) := by decide +kernel
theorem e16_13 : decode jdk_42_method_154_code 13 = .ok (.iconst 1, 1) := by decide +kernel
theorem e16_14 : decode jdk_42_method_154_code 14 = .ok (.goto 4, 3) := by decide +kernel
theorem e16_18 : decode jdk_42_method_154_code 18 = .ok (.ireturn, 1) := by decide +kernel
theorem e15_4 : decode jdk_42_method_56_code 4 = .ok (.ifCond .eq 12, 3) := by decide +kernel
theorem e15_7 : decode jdk_42_method_56_code 7 = .ok (.aload_n 0, 1) := by decide +kernel
theorem e15_8 : decode jdk_42_method_56_code 8 = .ok (.getfield 9, 3) := by decide +kernel
theorem e15_11 : decode jdk_42_method_56_code 11 = .ok (.iload_n 1, 1) := by decide +kernel
theorem e15_12 : decode jdk_42_method_56_code 12 = .ok (.invokestatic 495, 3) := by decide +kernel
theorem e17_0 : decode jdk_43_method_2_code 0 = .ok (.iload_n 1, 1) := by decide +kernel
theorem e17_1 : decode jdk_43_method_2_code 1 = .ok (.aload_n 0, 1) := by decide +kernel
theorem e17_2 : decode jdk_43_method_2_code 2 = .ok (.arraylength, 1) := by decide +kernel
theorem e17_3 : decode jdk_43_method_2_code 3 = .ok (.invokestatic 9, 3) := by decide +kernel
theorem e18_0 : decode jdk_42_method_155_code 0 = .ok (.iload_n 0, 1) := by decide +kernel
theorem e18_1 : decode jdk_42_method_155_code 1 = .ok (.iload_n 1, 1) := by decide +kernel
theorem e18_2 : decode jdk_42_method_155_code 2 = .ok (.getstatic 1053, 3) := by decide +kernel
theorem e18_5 : decode jdk_42_method_155_code 5 = .ok (.invokestatic 1059, 3) := by decide +kernel
theorem e19_0 : decode jdk_41_method_11_code 0 = .ok (.iload_n 0, 1) := by decide +kernel
theorem e19_1 : decode jdk_41_method_11_code 1 = .ok (.ifCond .lt 8, 3) := by decide +kernel
theorem e19_4 : decode jdk_41_method_11_code 4 = .ok (.iload_n 0, 1) := by decide +kernel
theorem e19_5 : decode jdk_41_method_11_code 5 = .ok (.iload_n 1, 1) := by decide +kernel
theorem e19_6 : decode jdk_41_method_11_code 6 = .ok (.if_icmp .lt 10, 3) := by decide +kernel
theorem e19_16 : decode jdk_41_method_11_code 16 = .ok (.iload_n 0, 1) := by decide +kernel
theorem e19_17 : decode jdk_41_method_11_code 17 = .ok (.ireturn, 1) := by decide +kernel
theorem e18_8 : decode jdk_42_method_155_code 8 = .ok (.pop, 1) := by decide +kernel
theorem e18_9 : decode jdk_42_method_155_code 9 = .ok (.return_, 1) := by decide +kernel
theorem e17_6 : decode jdk_43_method_2_code 6 = .ok (.aload_n 0, 1) := by decide +kernel
theorem e17_7 : decode jdk_43_method_2_code 7 = .ok (.iload_n 1, 1) := by decide +kernel
theorem e17_8 : decode jdk_43_method_2_code 8 = .ok (.baload, 1) := by decide +kernel
theorem e17_9 : decode jdk_43_method_2_code 9 = .ok (.sipush 255, 3) := by decide +kernel
theorem e17_12 : decode jdk_43_method_2_code 12 = .ok (.iand, 1) := by decide +kernel
theorem e17_13 : decode jdk_43_method_2_code 13 = .ok (.i2c, 1) := by decide +kernel
theorem e17_14 : decode jdk_43_method_2_code 14 = .ok (.ireturn, 1) := by decide +kernel
theorem e15_15 : decode jdk_42_method_56_code 15 = .ok (.ireturn, 1) := by decide +kernel
theorem e16_17 : decode jdk_42_method_154_code 17 = .ok (.iconst 0, 1) := by decide +kernel
theorem e15_16 : decode jdk_42_method_56_code 16 = .ok (.aload_n 0, 1) := by decide +kernel
theorem e15_17 : decode jdk_42_method_56_code 17 = .ok (.getfield 9, 3) := by decide +kernel
theorem e15_20 : decode jdk_42_method_56_code 20 = .ok (.iload_n 1, 1) := by decide +kernel
theorem e15_21 : decode jdk_42_method_56_code 21 = .ok (.invokestatic 498, 3) := by decide +kernel
theorem e20_0 : decode jdk_52_method_83_code 0 = .ok (.iload_n 1, 1) := by decide +kernel
theorem e20_1 : decode jdk_52_method_83_code 1 = .ok (.aload_n 0, 1) := by decide +kernel
theorem e20_2 : decode jdk_52_method_83_code 2 = .ok (.invokestatic 67, 3) := by decide +kernel
theorem e21_0 : decode jdk_52_method_91_code 0 = .ok (.iload_n 0, 1) := by decide +kernel
theorem e21_1 : decode jdk_52_method_91_code 1 = .ok (.aload_n 1, 1) := by decide +kernel
theorem e21_2 : decode jdk_52_method_91_code 2 = .ok (.invokestatic 48, 3) := by decide +kernel
theorem e22_0 : decode jdk_52_method_6_code 0 = .ok (.aload_n 0, 1) := by decide +kernel
theorem e22_1 : decode jdk_52_method_6_code 1 = .ok (.arraylength, 1) := by decide +kernel
theorem e22_2 : decode jdk_52_method_6_code 2 = .ok (.iconst 1, 1) := by decide +kernel
theorem e22_3 : decode jdk_52_method_6_code 3 = .ok (.ishr, 1) := by decide +kernel
theorem e22_4 : decode jdk_52_method_6_code 4 = .ok (.ireturn, 1) := by decide +kernel
theorem e21_5 : decode jdk_52_method_91_code 5 = .ok (.invokestatic 414, 3) := by decide +kernel
theorem e21_8 : decode jdk_52_method_91_code 8 = .ok (.return_, 1) := by decide +kernel
theorem e20_5 : decode jdk_52_method_83_code 5 = .ok (.aload_n 0, 1) := by decide +kernel
theorem e20_6 : decode jdk_52_method_83_code 6 = .ok (.iload_n 1, 1) := by decide +kernel
theorem e20_7 : decode jdk_52_method_83_code 7 = .ok (.invokestatic 71, 3) := by decide +kernel
theorem e20_10 : decode jdk_52_method_83_code 10 = .ok (.ireturn, 1) := by decide +kernel
theorem e15_24 : decode jdk_42_method_56_code 24 = .ok (.ireturn, 1) := by decide +kernel
theorem e0_25 : decode prog_8_method_2_code 25 = .ok (.istore_n 2, 1) := by decide +kernel
theorem e0_62 : decode prog_8_method_2_code 62 = .ok (.iconst 0, 1) := by decide +kernel
theorem e0_63 : decode prog_8_method_2_code 63 = .ok (.ireturn, 1) := by decide +kernel
theorem e0_64 : decode prog_8_method_2_code 64 = .ok (.iinc 1 1, 3) := by decide +kernel
theorem e0_67 : decode prog_8_method_2_code 67 = .ok (.goto (-55), 3) := by decide +kernel
theorem e0_70 : decode prog_8_method_2_code 70 = .ok (.iconst 1, 1) := by decide +kernel
theorem e0_71 : decode prog_8_method_2_code 71 = .ok (.ireturn, 1) := by decide +kernel
theorem pd0 : parseMethodDescriptor "([CIILjava/lang/Void;)V" = some ⟨[(.array .char), .int, .int, (.object "java/lang/Void")], none⟩ := by decide +kernel
theorem pd1 : parseMethodDescriptor "([C)V" = some ⟨[(.array .char)], none⟩ := by decide +kernel
theorem pd2 : parseMethodDescriptor "()B" = some ⟨[], (some .byte)⟩ := by decide +kernel
theorem pd3 : parseMethodDescriptor "()I" = some ⟨[], (some .int)⟩ := by decide +kernel
theorem pd4 : parseMethodDescriptor "(Ljava/lang/String;)Z" = some ⟨[(.object "java/lang/String")], (some .boolean)⟩ := by decide +kernel
theorem pd5 : parseMethodDescriptor "(I)C" = some ⟨[.int], (some .char)⟩ := by decide +kernel
theorem pd6 : parseMethodDescriptor "([CI[BII)I" = some ⟨[(.array .char), .int, (.array .byte), .int, .int], (some .int)⟩ := by decide +kernel
theorem pd7 : parseMethodDescriptor "(I)I" = some ⟨[.int], (some .int)⟩ := by decide +kernel
theorem pd8 : parseMethodDescriptor "(I)[B" = some ⟨[.int], (some (.array .byte))⟩ := by decide +kernel
theorem pd9 : parseMethodDescriptor "([BII)V" = some ⟨[(.array .byte), .int, .int], none⟩ := by decide +kernel
theorem pd10 : parseMethodDescriptor "([CII)[B" = some ⟨[(.array .char), .int, .int], (some (.array .byte))⟩ := by decide +kernel
theorem pd11 : parseMethodDescriptor "([BI)C" = some ⟨[(.array .byte), .int], (some .char)⟩ := by decide +kernel
theorem pd12 : parseMethodDescriptor "([BI)B" = some ⟨[(.array .byte), .int], (some .byte)⟩ := by decide +kernel
theorem pd13 : parseMethodDescriptor "(C)Z" = some ⟨[.char], (some .boolean)⟩ := by decide +kernel
theorem pd14 : parseMethodDescriptor "()Z" = some ⟨[], (some .boolean)⟩ := by decide +kernel
theorem pd15 : parseMethodDescriptor "(IILjava/util/function/BiFunction;)I" = some ⟨[.int, .int, (.object "java/util/function/BiFunction")], (some .int)⟩ := by decide +kernel
theorem pd16 : parseMethodDescriptor "(II)V" = some ⟨[.int, .int], none⟩ := by decide +kernel
theorem pd17 : parseMethodDescriptor "([B)I" = some ⟨[(.array .byte)], (some .int)⟩ := by decide +kernel
theorem pd18 : parseMethodDescriptor "(I[B)V" = some ⟨[.int, (.array .byte)], none⟩ := by decide +kernel
theorem pn0 : plainName "java/lang/String" = true := by first | (simp [plainName, overriddenIn]; done) | decide +kernel
theorem pn1 : plainName "com/example/elsewhere/elsewhere/Field" = true := by first | (simp [plainName, overriddenIn]; done) | decide +kernel
theorem pn2 : plainName "com/example/elsewhere/elsewhere/FieldIsTagPinLaw" = true := by first | (simp [plainName, overriddenIn]; done) | decide +kernel
theorem pn3 : plainName "java/lang/StringUTF16" = true := by first | (simp [plainName, overriddenIn]; done) | decide +kernel
theorem pn4 : plainName "java/lang/StringLatin1" = true := by first | (simp [plainName, overriddenIn]; done) | decide +kernel
theorem pn5 : plainName "jdk/internal/util/Preconditions" = true := by first | (simp [plainName, overriddenIn]; done) | decide +kernel
def GlS (Z : State) : Prop := Sta Z Z.heap "java/lang/StringUTF16" "$assertionsDisabled" "Z" (.int 1) ∧ Sta Z Z.heap "java/lang/StringUTF16" "HI_BYTE_SHIFT" "I" (.int 0) ∧ Sta Z Z.heap "java/lang/StringUTF16" "LO_BYTE_SHIFT" "I" (.int 8)
theorem hEW {a0 : Array Value} {Z : State} (hw : Hw a0 Z) : EW Z a0 EL1 := EW.cons (w14 hw) (by decide) (EW.nil)
theorem hSA {a0 : Array Value} {Z : State} (hw : Hw a0 Z) : ∀ w ∈ Bundle.stringAtoms, w.before a0 Z = true := by
  intro w hq
  simp only [Bundle.stringAtoms, List.mem_cons, List.not_mem_nil, or_false] at hq
  rcases hq with rfl | rfl | rfl | rfl | rfl | rfl | rfl
  · exact (w3 hw)
  · exact (w2 hw)
  · exact (w15 hw)
  · exact (w16 hw)
  · exact (w17 hw)
  · exact (w18 hw)
  · exact (w19 hw)
def okP (x : Int32) : Prop := (48 ≤ x.toInt ∧ x.toInt ≤ 57) ∨ (65 ≤ x.toInt ∧ x.toInt ≤ 90) ∨ (97 ≤ x.toInt ∧ x.toInt ≤ 122)
theorem own_i0 {x : Int32} (h : ¬ x < (0 : Int32)) : 0 ≤ x.toInt := by
  simp only [Int32.lt_iff_toInt_lt, Int32.reduceToInt] at h; omega
theorem own_i1 {x : Int32} (h : ¬ (65535 : Int32) < x) : x.toInt ≤ 65535 := by
  simp only [Int32.lt_iff_toInt_lt, Int32.reduceToInt] at h; omega
theorem own_sub {x y d : Int32} (hd : x - y = d) (hx : 0 ≤ x.toInt ∧ x.toInt ≤ 65535) (hy : 0 ≤ y.toInt ∧ y.toInt ≤ 65535) : d.toInt = x.toInt - y.toInt := by
  have h1 := c_isub x y
  have h2 := rng32 (x - y)
  rw [hd] at h1 h2
  omega
theorem own_or32n (n : Nat) : n ||| 32 = if n / 32 % 2 = 1 then n else n + 32 := by
  have q : n = (n / 32) <<< 5 + n % 32 := by rw [Nat.shiftLeft_eq]; omega
  have q2 : n = (n / 32) <<< 5 ||| n % 32 := by rw [← Nat.shiftLeft_add_eq_or_of_lt (by omega : n % 32 < 2 ^ 5)]; exact q
  have q3 : (n / 32) ||| 1 = if n / 32 % 2 = 1 then n / 32 else n / 32 + 1 := by
    generalize n / 32 = k
    have h1 : k = (k / 2) <<< 1 ||| k % 2 := by rw [← Nat.shiftLeft_add_eq_or_of_lt (by omega : k % 2 < 2 ^ 1), Nat.shiftLeft_eq]; omega
    have h2 : k ||| 1 = (k / 2) <<< 1 ||| 1 := by
      conv => lhs; rw [h1]
      rw [Nat.or_assoc]
      have : k % 2 = 0 ∨ k % 2 = 1 := by omega
      rcases this with t | t <;> rw [t] <;> rfl
    rw [h2, ← Nat.shiftLeft_add_eq_or_of_lt (by omega : 1 < 2 ^ 1), Nat.shiftLeft_eq]
    split <;> omega
  have q4 : n ||| 32 = ((n / 32) ||| 1) <<< 5 ||| n % 32 := by
    conv => lhs; rw [q2]
    rw [Nat.or_assoc, Nat.or_comm (n % 32) 32, ← Nat.or_assoc, show (32 : Nat) = 1 <<< 5 from rfl, ← Nat.shiftLeft_or_distrib]
  rw [q4, q3, ← Nat.shiftLeft_add_eq_or_of_lt (by omega : n % 32 < 2 ^ 5), Nat.shiftLeft_eq]
  split <;> omega
theorem own_or32 {x z : Int32} (hz : x ||| 32 = z) (h0 : 0 ≤ x.toInt) (h1 : x.toInt ≤ 65535) : (x.toInt / 32 % 2 = 1 ∧ z.toInt = x.toInt) ∨ (x.toInt / 32 % 2 = 0 ∧ z.toInt = x.toInt + 32) := by
  subst hz
  have hn := Ow.toNat_rng (n := 65535) h0 h1 (by decide)
  have e1 : (x ||| 32).toBitVec.toNat = x.toBitVec.toNat ||| 32 := by simp
  have e2 := Ow.toInt_small (x := x) hn (by decide)
  have e3 := own_or32n x.toBitVec.toNat
  have hle : (x ||| 32).toBitVec.toNat ≤ 131071 := by rw [e1, e3]; split <;> omega
  rw [Ow.toInt_small hle (by decide), e1, e3, e2]
  split <;> omega

set_option maxRecDepth 65536 in
set_option maxHeartbeats 40000000 in
theorem blk_t {l : Launch} {Z : State} {n0 : Nat} {a0 : Array Value} {p : Program} {e : Env} {R : Room} {s : State} {m : MethodId} {args : Array Value} {below : List Frame} {meth : Method} {c : ClassFile.Code} {Q : Ow.Po} {S : List Addr} {h : Heap} {k n : Nat} {ret' : Option FieldType} {nm' : String} (hw : Hw a0 Z) (B : Ow.Bdy p meth c Z EL1 a0 prog_8_method_2_code 3 ret' nm') {pa0 : Nat} {pi px : Int32} (hr : ¬ px < (0 : Int32) ∧ ¬ (65535 : Int32) < px) (hk : okP px) (J : Ow.Go p l e R s m args below meth c Z EL1 n0 "com/example/elsewhere/elsewhere/Field" Q S h k n 64 #[.val (.ref pa0), .val (.int pi), .val (.int px)] []) :
    Ow.Go p l e R s m args below meth c Z EL1 n0 "com/example/elsewhere/elsewhere/Field" Q S h k n 26 #[.val (.ref pa0), .val (.int pi), .val (.int px)] [] := by
  have i0 := own_i0 hr.1
  have i1 := own_i1 hr.2
  unfold okP at hk
  refine Ow.iloadN (pc' := 27) B e0_26 ?_
  refine Ow.bipush (pc' := 29) (x := (48 : Int32)) B e0_27 ?_
  refine Ow.icmpF (pc' := 32) B e0_29 (flt ((by simp only [Int32.lt_iff_toInt_lt, ← Int32.toInt_inj, Int32.reduceToInt]; omega))).1 ?_
  refine Ow.iloadN (pc' := 33) B e0_32 ?_
  refine Ow.bipush (pc' := 35) (x := (57 : Int32)) B e0_33 ?_
  by_cases c1 : (57 : Int32) < px
  · have c1i := c1
    simp only [Int32.lt_iff_toInt_lt, ← Int32.toInt_inj, Int32.reduceToInt] at c1i
    refine Ow.icmpF (pc' := 38) B e0_35 (tlt c1).2.2.2 ?_
    refine Ow.iloadN (pc' := 39) B e0_38 ?_
    refine Ow.bipush (pc' := 41) (x := (65 : Int32)) B e0_39 ?_
    refine Ow.icmpF (pc' := 44) B e0_41 (flt ((by simp only [Int32.lt_iff_toInt_lt, ← Int32.toInt_inj, Int32.reduceToInt]; omega))).1 ?_
    refine Ow.iloadN (pc' := 45) B e0_44 ?_
    refine Ow.bipush (pc' := 47) (x := (90 : Int32)) B e0_45 ?_
    by_cases c2 : (90 : Int32) < px
    · have c2i := c2
      simp only [Int32.lt_iff_toInt_lt, ← Int32.toInt_inj, Int32.reduceToInt] at c2i
      refine Ow.icmpF (pc' := 50) B e0_47 (tlt c2).2.2.2 ?_
      refine Ow.iloadN (pc' := 51) B e0_50 ?_
      refine Ow.bipush (pc' := 53) (x := (97 : Int32)) B e0_51 ?_
      refine Ow.icmpF (pc' := 56) B e0_53 (flt ((by simp only [Int32.lt_iff_toInt_lt, ← Int32.toInt_inj, Int32.reduceToInt]; omega))).1 ?_
      refine Ow.iloadN (pc' := 57) B e0_56 ?_
      refine Ow.bipush (pc' := 59) (x := (122 : Int32)) B e0_57 ?_
      refine Ow.icmpT (pc' := 64) B e0_59 (flt ((by simp only [Int32.lt_iff_toInt_lt, ← Int32.toInt_inj, Int32.reduceToInt]; omega))).2.2.2 ?_
      exact J 
    · have c2i := c2
      simp only [Int32.lt_iff_toInt_lt, ← Int32.toInt_inj, Int32.reduceToInt] at c2i
      refine Ow.icmpT (pc' := 64) B e0_47 (flt c2).2.2.2 ?_
      exact J 
  · have c1i := c1
    simp only [Int32.lt_iff_toInt_lt, ← Int32.toInt_inj, Int32.reduceToInt] at c1i
    refine Ow.icmpT (pc' := 64) B e0_35 (flt c1).2.2.2 ?_
    exact J 
set_option maxRecDepth 65536 in
set_option maxHeartbeats 40000000 in
theorem blk_f {l : Launch} {Z : State} {n0 : Nat} {a0 : Array Value} {p : Program} {e : Env} {R : Room} {s : State} {m : MethodId} {args : Array Value} {below : List Frame} {meth : Method} {c : ClassFile.Code} {Q : Ow.Po} {S : List Addr} {h : Heap} {k n : Nat} {ret' : Option FieldType} {nm' : String} (hw : Hw a0 Z) (B : Ow.Bdy p meth c Z EL1 a0 prog_8_method_2_code 3 ret' nm') {pa0 : Nat} {pi px : Int32} (hr : ¬ px < (0 : Int32) ∧ ¬ (65535 : Int32) < px) (hk : ¬ okP px) (J : Ow.Go p l e R s m args below meth c Z EL1 n0 "com/example/elsewhere/elsewhere/Field" Q S h k n 62 #[.val (.ref pa0), .val (.int pi), .val (.int px)] []) :
    Ow.Go p l e R s m args below meth c Z EL1 n0 "com/example/elsewhere/elsewhere/Field" Q S h k n 26 #[.val (.ref pa0), .val (.int pi), .val (.int px)] [] := by
  have i0 := own_i0 hr.1
  have i1 := own_i1 hr.2
  unfold okP at hk
  refine Ow.iloadN (pc' := 27) B e0_26 ?_
  refine Ow.bipush (pc' := 29) (x := (48 : Int32)) B e0_27 ?_
  by_cases c1 : px < (48 : Int32)
  · have c1i := c1
    simp only [Int32.lt_iff_toInt_lt, ← Int32.toInt_inj, Int32.reduceToInt] at c1i
    refine Ow.icmpT (pc' := 38) B e0_29 (tlt c1).1 ?_
    refine Ow.iloadN (pc' := 39) B e0_38 ?_
    refine Ow.bipush (pc' := 41) (x := (65 : Int32)) B e0_39 ?_
    refine Ow.icmpT (pc' := 50) B e0_41 (tlt ((by simp only [Int32.lt_iff_toInt_lt, ← Int32.toInt_inj, Int32.reduceToInt]; omega))).1 ?_
    refine Ow.iloadN (pc' := 51) B e0_50 ?_
    refine Ow.bipush (pc' := 53) (x := (97 : Int32)) B e0_51 ?_
    refine Ow.icmpT (pc' := 62) B e0_53 (tlt ((by simp only [Int32.lt_iff_toInt_lt, ← Int32.toInt_inj, Int32.reduceToInt]; omega))).1 ?_
    exact J 
  · have c1i := c1
    simp only [Int32.lt_iff_toInt_lt, ← Int32.toInt_inj, Int32.reduceToInt] at c1i
    refine Ow.icmpF (pc' := 32) B e0_29 (flt c1).1 ?_
    refine Ow.iloadN (pc' := 33) B e0_32 ?_
    refine Ow.bipush (pc' := 35) (x := (57 : Int32)) B e0_33 ?_
    refine Ow.icmpF (pc' := 38) B e0_35 (tlt ((by simp only [Int32.lt_iff_toInt_lt, ← Int32.toInt_inj, Int32.reduceToInt]; omega))).2.2.2 ?_
    refine Ow.iloadN (pc' := 39) B e0_38 ?_
    refine Ow.bipush (pc' := 41) (x := (65 : Int32)) B e0_39 ?_
    by_cases c2 : px < (65 : Int32)
    · have c2i := c2
      simp only [Int32.lt_iff_toInt_lt, ← Int32.toInt_inj, Int32.reduceToInt] at c2i
      refine Ow.icmpT (pc' := 50) B e0_41 (tlt c2).1 ?_
      refine Ow.iloadN (pc' := 51) B e0_50 ?_
      refine Ow.bipush (pc' := 53) (x := (97 : Int32)) B e0_51 ?_
      refine Ow.icmpT (pc' := 62) B e0_53 (tlt ((by simp only [Int32.lt_iff_toInt_lt, ← Int32.toInt_inj, Int32.reduceToInt]; omega))).1 ?_
      exact J 
    · have c2i := c2
      simp only [Int32.lt_iff_toInt_lt, ← Int32.toInt_inj, Int32.reduceToInt] at c2i
      refine Ow.icmpF (pc' := 44) B e0_41 (flt c2).1 ?_
      refine Ow.iloadN (pc' := 45) B e0_44 ?_
      refine Ow.bipush (pc' := 47) (x := (90 : Int32)) B e0_45 ?_
      refine Ow.icmpF (pc' := 50) B e0_47 (tlt ((by simp only [Int32.lt_iff_toInt_lt, ← Int32.toInt_inj, Int32.reduceToInt]; omega))).2.2.2 ?_
      refine Ow.iloadN (pc' := 51) B e0_50 ?_
      refine Ow.bipush (pc' := 53) (x := (97 : Int32)) B e0_51 ?_
      by_cases c3 : px < (97 : Int32)
      · have c3i := c3
        simp only [Int32.lt_iff_toInt_lt, ← Int32.toInt_inj, Int32.reduceToInt] at c3i
        refine Ow.icmpT (pc' := 62) B e0_53 (tlt c3).1 ?_
        exact J 
      · have c3i := c3
        simp only [Int32.lt_iff_toInt_lt, ← Int32.toInt_inj, Int32.reduceToInt] at c3i
        refine Ow.icmpF (pc' := 56) B e0_53 (flt c3).1 ?_
        refine Ow.iloadN (pc' := 57) B e0_56 ?_
        refine Ow.bipush (pc' := 59) (x := (122 : Int32)) B e0_57 ?_
        refine Ow.icmpF (pc' := 62) B e0_59 (tlt ((by simp only [Int32.lt_iff_toInt_lt, ← Int32.toInt_inj, Int32.reduceToInt]; omega))).2.2.2 ?_
        exact J 
set_option maxRecDepth 65536 in
set_option maxHeartbeats 40000000 in
theorem con_init_1 {l : Launch} {Z : State} {n0 : Nat} {a0 : Array Value} {cz : Int32} {sf : Value} (hw : Hw a0 Z) (G : Ow.Glo Z cz sf) (GS : GlS Z) {pa0 : Nat} {pa1 : Nat} {h0 : Heap} (O0 : Old Z n0 h0) (hf0 : Exa Z h0 pa0 "java/lang/String") (hf1 : Fld Z h0 pa0 "java/lang/String" "coder" "B" (.int (0 : Int32))) (hf2 : Fld Z h0 pa0 "java/lang/String" "value" "[B" .null) (hn0 : n0 ≤ pa0) :
    Ow.Con l Z EL1 n0 my0 jdk_42_method_149_code 6 (Option.none : Option Jvm.ClassFile.FieldType) [] ({ frames := 1, cells := 4, slots := 8, locals := 12 } : Room) #[(.ref pa0), (.ref pa1), (.int (0 : Int32)), (.int (0 : Int32)), .null] [pa0] h0 (fun v h S' => (∃ r0 : Nat, ∃ k0 : ClassId, v = none ∧ Keep h0 h [pa0] ∧ Ow.Chs Z h pa0 r0 k0 [] ∧ S' = [])) := by
  refine Ow.Con.enter (Ls := #[.val (.ref pa0), .val (.ref pa1), .val (.int (0 : Int32)), .val (.int (0 : Int32)), .val .null, .unset]) (plainFor_of_name pn0) O0 (hEW hw) (hSA hw) ?_
  intro p e s m below meth c B
  have z0 := Ow.old_le O0
  have lpa0 : (pa0 : Nat) < h0.size := hf0.lt
  refine Ow.aloadN (pc' := 1) B e2_0 ?_
  refine Ow.objInit (pc' := 4) (W := 0) B e2_1 (w11 hw) (w12 hw) (w13 hw) ?_
  refine Ow.iloadN (pc' := 5) B e2_4 ?_
  refine Ow.ifF (pc' := 8) B e2_5 (by decide) ?_
  refine Ow.aloadN (pc' := 9) B e2_8 ?_
  refine Ow.ldcText (pc' := 11) (k' := 2) (n' := 4) (nn := 0) (vs := []) (z := (0 : Int32)) B e2_9 (w14 hw) (by decide) ⟨by decide, by decide⟩ (by decide) (by decide) ?_
  intro h2 a1 t3 kt3 Kh2 Ea1 Ca1 Va1 At3 Na1
  have zh2 := Kh2.1
  have la1 : (a1 : Nat) < h2.size := Ea1.lt
  have lt3 : (t3 : Nat) < h2.size := At3.lt
  have n4 : (pa0 : Nat) ≠ a1 ∧ (pa0 : Nat) ≠ t3 := Na1 pa0 (by simp)
  refine Ow.getfield (pc' := 14) B e2_11 (w20 hw) Via.refl Va1 ?_
  have f5 := hf2.keep Kh2 Ow.nin0
  have f6 := hf0.keep Kh2
  refine Ow.putfield (pc' := 17) (ty := (.array .byte)) B e2_14 (w20 hw) Via.refl f5 f6 (Or.inr ⟨(w16 hw), rfl, rfl⟩) (w2 hw) (Or.inl (by simp)) ?_
  intro h7 Wh7
  have f8 := hf1.keep Kh2 Ow.nin0
  have Kh7 := Keep.of_wr Wh7
  have zh7 := Kh7.1
  have f9 : Fld Z h7 pa0 "java/lang/String" "value" "[B" (.ref t3) := f5.same Wh7
  have f10 : Fld Z h7 pa0 "java/lang/String" "coder" "B" (.int (0 : Int32)) := f8.other Wh7 (Or.inr (slot_ne (a0 := a0) (C := "java/lang/String") (t := .byte) (t' := (.array .byte)) (Or.inr (w17 hw)) (Or.inr (w16 hw)) (by decide) (by decide) (by decide)))
  refine Ow.aloadN (pc' := 18) B e2_17 ?_
  refine Ow.ldcText (pc' := 20) (k' := 4) (n' := 8) (nn := 0) (vs := []) (z := (0 : Int32)) B e2_18 (w14 hw) (by decide) ⟨by decide, by decide⟩ (by decide) (by decide) ?_
  intro h12 a11 t13 kt13 Kh12 Ea11 Ca11 Va11 At13 Na11
  have zh12 := Kh12.1
  have la11 : (a11 : Nat) < h12.size := Ea11.lt
  have lt13 : (t13 : Nat) < h12.size := At13.lt
  have n14 : (pa0 : Nat) ≠ a11 ∧ (pa0 : Nat) ≠ t13 := Na11 pa0 (by simp)
  refine Ow.getfield (pc' := 23) B e2_20 (w21 hw) Via.refl Ca11 ?_
  have f15 := f10.keep Kh12 Ow.nin0
  have f16 := f6.keep Kh7
  have f17 := f16.keep Kh12
  refine Ow.putfield (pc' := 26) (ty := .byte) B e2_23 (w21 hw) Via.refl f15 f17 (Or.inr ⟨(w17 hw), rfl, rfl⟩) (w2 hw) (Or.inl (by simp)) ?_
  intro h18 Wh18
  have f19 := f9.keep Kh12 Ow.nin0
  have Kh18 := Keep.of_wr Wh18
  have zh18 := Kh18.1
  have f20 : Fld Z h18 pa0 "java/lang/String" "coder" "B" (.int (0 : Int32)) := f15.same Wh18
  have f21 : Fld Z h18 pa0 "java/lang/String" "value" "[B" (.ref t3) := f19.other Wh18 (Or.inr (slot_ne (a0 := a0) (C := "java/lang/String") (t := (.array .byte)) (t' := .byte) (Or.inr (w16 hw)) (Or.inr (w17 hw)) (by decide) (by decide) (by decide)))
  have f22 := f17.keep Kh18
  have f23 := At3.keep Kh7 (Ow.ninS (by omega) Ow.nin0)
  have f24 := f23.keep Kh12 Ow.nin0
  have f25 := f24.keep Kh18 (Ow.ninS (by omega) Ow.nin0)
  have s26 : Ow.Chs Z h18 pa0 t3 kt3 [] := ⟨f22, f21, (fun _ q => nomatch q), Or.inl ⟨f20, f25, (fun _ q => nomatch q)⟩⟩
  exact Ow.retV (S' := []) B e2_26 (⟨t3, kt3, rfl, (((((Keep.refl _ [pa0]).trans Kh2 (fun _ q => nomatch q)).trans Kh7 (allS (Or.inl (by simp)) all0)).trans Kh12 (fun _ q => nomatch q)).trans Kh18 (allS (Or.inl (by simp)) all0)), s26, rfl⟩)
set_option maxRecDepth 65536 in
set_option maxHeartbeats 40000000 in
theorem con_init_2 {l : Launch} {Z : State} {n0 : Nat} {a0 : Array Value} {cz : Int32} {sf : Value} (hw : Hw a0 Z) (G : Ow.Glo Z cz sf) (GS : GlS Z) {pa0 : Nat} {pa1 : Nat} {pk0 : ClassId} {h0 : Heap} (O0 : Old Z n0 h0) (hf0 : Exa Z h0 pa0 "java/lang/String") (hf1 : Fld Z h0 pa0 "java/lang/String" "coder" "B" (.int (0 : Int32))) (hf2 : Fld Z h0 pa0 "java/lang/String" "value" "[B" .null) (hf3 : Arv Z h0 pa1 pk0 .char (0 : Int32) [] (.int 0)) (hn0 : n0 ≤ pa0) (hn1 : n0 ≤ pa1) :
    Ow.Con l Z EL1 n0 my1 jdk_42_method_3_code 2 (Option.none : Option Jvm.ClassFile.FieldType) [] ({ frames := 2, cells := 4, slots := 8, locals := 29 } : Room) #[(.ref pa0), (.ref pa1)] [pa0] h0 (fun v h S' => (∃ r0 : Nat, ∃ k0 : ClassId, v = none ∧ Keep h0 h [pa0] ∧ Ow.Chs Z h pa0 r0 k0 [] ∧ S' = [])) := by
  refine Ow.Con.enter (Ls := #[.val (.ref pa0), .val (.ref pa1)]) (plainFor_of_name pn0) O0 (hEW hw) (hSA hw) ?_
  intro p e s m below meth c B
  have z0 := Ow.old_le O0
  have lpa0 : (pa0 : Nat) < h0.size := hf0.lt
  have lpa1 : (pa1 : Nat) < h0.size := hf3.lt
  refine Ow.aloadN (pc' := 1) B e1_0 ?_
  refine Ow.aloadN (pc' := 2) B e1_1 ?_
  refine Ow.iconst (pc' := 3) (x := (0 : Int32)) B e1_2 ?_
  refine Ow.aloadN (pc' := 4) B e1_3 ?_
  refine Ow.arrlen (pc' := 5) B e1_4 hf3 ?_
  refine Ow.aconstNull (pc' := 6) B e1_5 ?_
  refine Ow.Go.old (fun o1 => ?_)
  refine Ow.callInit (pc' := 9) (W := 0) (k' := 4) (n' := 8) (argsL := [(.ref pa1), (.int (0 : Int32)), (.int (0 : Int32)), .null]) (rest := []) B e1_6 (w7 hw) (w8 hw) (w3 hw) (w10 hw) (con_init_1 hw G GS (pa0 := pa0) (pa1 := pa1) o1 hf0 hf1 hf2 (by omega)) pd0 ?_
  intro vq2 h3 S4 q2 zh3
  obtain ⟨r5, k6, rfl, Kh3, f7, rfl⟩ := q2
  have lr5 : (r5 : Nat) < h3.size := f7.ltt
  refine Ow.Go.norm (S' := [pa0]) (st' := []) (fun _ q => List.mem_append_right _ q) rfl ?_
  exact Ow.retV (S' := []) B e1_9 (⟨r5, k6, rfl, ((Keep.refl _ [pa0]).trans Kh3 (allS (Or.inl (by simp)) all0)), f7, rfl⟩)
set_option maxRecDepth 65536 in
set_option maxHeartbeats 40000000 in
theorem con_coder_3 {l : Launch} {Z : State} {n0 : Nat} {a0 : Array Value} {cz : Int32} {sf : Value} (hw : Hw a0 Z) (G : Ow.Glo Z cz sf) (GS : GlS Z) {pa0 : Nat} {h0 : Heap} (O0 : Old Z n0 h0) (hf0 : Fld Z h0 pa0 "java/lang/String" "coder" "B" (.int (0 : Int32))) (hn0 : n0 ≤ pa0) :
    Ow.Con l Z EL1 n0 my2 jdk_42_method_152_code 1 (Option.some Jvm.ClassFile.FieldType.byte) [] ({ frames := 0, cells := 0, slots := 0, locals := 0 } : Room) #[(.ref pa0)] [] h0 (fun v h S' => (v = some (.int (0 : Int32)) ∧ h = h0 ∧ S' = [])) := by
  refine Ow.Con.enter (Ls := #[.val (.ref pa0)]) (plainFor_of_name pn0) O0 (hEW hw) (hSA hw) ?_
  intro p e s m below meth c B
  have z0 := Ow.old_le O0
  have lpa0 : (pa0 : Nat) < h0.size := hf0.lt
  refine Ow.getstatic (pc' := 3) B e4_0 (w36 hw) Via.refl G.1 ?_
  refine Ow.ifF (pc' := 6) B e4_3 (feq (G.2.1)).1 ?_
  refine Ow.aloadN (pc' := 7) B e4_6 ?_
  refine Ow.getfield (pc' := 10) B e4_7 (w21 hw) Via.refl hf0 ?_
  refine Ow.goto (pc' := 14) B e4_10 ?_
  exact Ow.retI (S' := []) (t := .byte) B e4_14 (⟨rfl, rfl, rfl⟩)
set_option maxRecDepth 65536 in
set_option maxHeartbeats 40000000 in
theorem con_coder_4 {l : Launch} {Z : State} {n0 : Nat} {a0 : Array Value} {cz : Int32} {sf : Value} (hw : Hw a0 Z) (G : Ow.Glo Z cz sf) (GS : GlS Z) {pa0 : Nat} {h0 : Heap} (O0 : Old Z n0 h0) (hf0 : Fld Z h0 pa0 "java/lang/String" "coder" "B" (.int (1 : Int32))) (hn0 : n0 ≤ pa0) :
    Ow.Con l Z EL1 n0 my2 jdk_42_method_152_code 1 (Option.some Jvm.ClassFile.FieldType.byte) [] ({ frames := 0, cells := 0, slots := 0, locals := 0 } : Room) #[(.ref pa0)] [] h0 (fun v h S' => (v = some (.int (1 : Int32)) ∧ h = h0 ∧ S' = [])) := by
  refine Ow.Con.enter (Ls := #[.val (.ref pa0)]) (plainFor_of_name pn0) O0 (hEW hw) (hSA hw) ?_
  intro p e s m below meth c B
  have z0 := Ow.old_le O0
  have lpa0 : (pa0 : Nat) < h0.size := hf0.lt
  refine Ow.getstatic (pc' := 3) B e4_0 (w36 hw) Via.refl G.1 ?_
  refine Ow.ifF (pc' := 6) B e4_3 (feq (G.2.1)).1 ?_
  refine Ow.aloadN (pc' := 7) B e4_6 ?_
  refine Ow.getfield (pc' := 10) B e4_7 (w21 hw) Via.refl hf0 ?_
  refine Ow.goto (pc' := 14) B e4_10 ?_
  exact Ow.retI (S' := []) (t := .byte) B e4_14 (⟨rfl, rfl, rfl⟩)
set_option maxRecDepth 65536 in
set_option maxHeartbeats 40000000 in
theorem con_length_5 {l : Launch} {Z : State} {n0 : Nat} {a0 : Array Value} {cz : Int32} {sf : Value} (hw : Hw a0 Z) (G : Ow.Glo Z cz sf) (GS : GlS Z) {pa0 : Nat} {pa1 : Nat} {pk0 : ClassId} {h0 : Heap} (O0 : Old Z n0 h0) (hf0 : Ow.Chs Z h0 pa0 pa1 pk0 []) (hn0 : n0 ≤ pa0) :
    Ow.Con l Z EL1 n0 my3 jdk_42_method_54_code 1 (Option.some Jvm.ClassFile.FieldType.int) [] ({ frames := 1, cells := 0, slots := 0, locals := 13 } : Room) #[(.ref pa0)] [] h0 (fun v h S' => (v = some (.int (0 : Int32)) ∧ h = h0 ∧ S' = [])) := by
  rcases hf0.2.2.2 with ⟨oc_hf0, oa_hf0, ol_hf0⟩ | ⟨oc_hf0, oa_hf0⟩
  · refine Ow.Con.enter (Ls := #[.val (.ref pa0)]) (plainFor_of_name pn0) O0 (hEW hw) (hSA hw) ?_
    intro p e s m below meth c B
    have z0 := Ow.old_le O0
    have oE_hf0 := hf0.1
    have oV_hf0 := hf0.2.1
    have oR_hf0 := hf0.2.2.1
    have oA_hf0 : Arv Z h0 pa1 pk0 .byte (0 : Int32) [] (.int 0) := oa_hf0
    have lpa0 : (pa0 : Nat) < h0.size := hf0.lt
    have lpa1 : (pa1 : Nat) < h0.size := oA_hf0.lt
    have lpa1 : (pa1 : Nat) < h0.size := hf0.ltt
    refine Ow.aloadN (pc' := 1) B e3_0 ?_
    refine Ow.getfield (pc' := 4) B e3_1 (w20 hw) Via.refl oV_hf0 ?_
    refine Ow.arrlen (pc' := 5) B e3_4 oA_hf0 ?_
    refine Ow.aloadN (pc' := 6) B e3_5 ?_
    refine Ow.Go.old (fun o1 => ?_)
    refine Ow.callVirtual (pc' := 9) (W := 1) (k' := 0) (n' := 0) (argsL := []) (rest := [(.int (0 : Int32))]) (K := "java/lang/String") B e3_6 (w31 hw) (w32 hw) (w34 hw) (w34 hw) (w33 hw) (w3 hw) (w35 hw) oE_hf0 (con_coder_3 hw G GS (pa0 := pa0) o1 oc_hf0 (by omega)) pd2 ?_
    intro vq2 h3 S4 q2 zh3
    obtain ⟨rfl, rfl, rfl⟩ := q2
    refine Ow.Go.norm (S' := []) (st' := [(.int (0 : Int32)), (.int (0 : Int32))]) (fun _ q => List.mem_append_right _ q) rfl ?_
    refine Ow.ishr (pc' := 10) (z := (0 : Int32)) B e3_9 ?_
    exact Ow.retI (S' := []) (t := .int) B e3_10 (⟨rfl, rfl, rfl⟩)
  · refine Ow.Con.enter (Ls := #[.val (.ref pa0)]) (plainFor_of_name pn0) O0 (hEW hw) (hSA hw) ?_
    intro p e s m below meth c B
    have z0 := Ow.old_le O0
    have oE_hf0 := hf0.1
    have oV_hf0 := hf0.2.1
    have oR_hf0 := hf0.2.2.1
    have oA_hf0 : Arv Z h0 pa1 pk0 .byte (0 : Int32) [] (.int 0) := oa_hf0
    have lpa0 : (pa0 : Nat) < h0.size := hf0.lt
    have lpa1 : (pa1 : Nat) < h0.size := oA_hf0.lt
    have lpa1 : (pa1 : Nat) < h0.size := hf0.ltt
    refine Ow.aloadN (pc' := 1) B e3_0 ?_
    refine Ow.getfield (pc' := 4) B e3_1 (w20 hw) Via.refl oV_hf0 ?_
    refine Ow.arrlen (pc' := 5) B e3_4 oA_hf0 ?_
    refine Ow.aloadN (pc' := 6) B e3_5 ?_
    refine Ow.Go.old (fun o1 => ?_)
    refine Ow.callVirtual (pc' := 9) (W := 1) (k' := 0) (n' := 0) (argsL := []) (rest := [(.int (0 : Int32))]) (K := "java/lang/String") B e3_6 (w31 hw) (w32 hw) (w34 hw) (w34 hw) (w33 hw) (w3 hw) (w35 hw) oE_hf0 (con_coder_4 hw G GS (pa0 := pa0) o1 oc_hf0 (by omega)) pd2 ?_
    intro vq2 h3 S4 q2 zh3
    obtain ⟨rfl, rfl, rfl⟩ := q2
    refine Ow.Go.norm (S' := []) (st' := [(.int (1 : Int32)), (.int (0 : Int32))]) (fun _ q => List.mem_append_right _ q) rfl ?_
    refine Ow.ishr (pc' := 10) (z := (0 : Int32)) B e3_9 ?_
    exact Ow.retI (S' := []) (t := .int) B e3_10 (⟨rfl, rfl, rfl⟩)
set_option maxRecDepth 65536 in
set_option maxHeartbeats 40000000 in
theorem con_isTag_6 {l : Launch} {Z : State} {n0 : Nat} {a0 : Array Value} {cz : Int32} {sf : Value} (hw : Hw a0 Z) (G : Ow.Glo Z cz sf) (GS : GlS Z) {pa0 : Nat} {pa1 : Nat} {pk0 : ClassId} {h0 : Heap} (O0 : Old Z n0 h0) (hf0 : Ow.Chs Z h0 pa0 pa1 pk0 []) (hn0 : n0 ≤ pa0) :
    Ow.Con l Z EL1 n0 my4 prog_8_method_2_code 3 (Option.some Jvm.ClassFile.FieldType.boolean) [] ({ frames := 2, cells := 0, slots := 0, locals := 25 } : Room) #[(.ref pa0)] [] h0 (fun v h S' => (v = some (.int (0 : Int32)) ∧ h = h0 ∧ S' = [])) := by
  refine Ow.Con.enter (Ls := #[.val (.ref pa0), .unset, .unset]) (plainFor_of_name pn1) O0 (hEW hw) (hSA hw) ?_
  intro p e s m below meth c B
  have z0 := Ow.old_le O0
  have lpa0 : (pa0 : Nat) < h0.size := hf0.lt
  have lpa1 : (pa1 : Nat) < h0.size := hf0.ltt
  refine Ow.aloadN (pc' := 1) B e0_0 ?_
  refine Ow.Go.old (fun o1 => ?_)
  refine Ow.callVirtual (pc' := 4) (W := 0) (k' := 0) (n' := 0) (argsL := []) (rest := []) (K := "java/lang/String") B e0_1 (w26 hw) (w27 hw) (w29 hw) (w29 hw) (w28 hw) (w3 hw) (w30 hw) (hf0).1 (con_length_5 hw G GS (pa0 := pa0) (pa1 := pa1) (pk0 := pk0) o1 hf0 (by omega)) pd3 ?_
  intro vq2 h3 S4 q2 zh3
  obtain ⟨rfl, rfl, rfl⟩ := q2
  refine Ow.Go.norm (S' := []) (st' := [(.int (0 : Int32))]) (fun _ q => List.mem_append_right _ q) rfl ?_
  refine Ow.iconst (pc' := 5) (x := (3 : Int32)) B e0_4 ?_
  refine Ow.icmpF (pc' := 8) B e0_5 (by decide) ?_
  refine Ow.iconst (pc' := 9) (x := (0 : Int32)) B e0_8 ?_
  exact Ow.retI (S' := []) (t := .boolean) B e0_9 (⟨rfl, rfl, rfl⟩)
set_option maxRecDepth 65536 in
set_option maxHeartbeats 40000000 in
theorem con_draw_7 {l : Launch} {Z : State} {n0 : Nat} {a0 : Array Value} {cz : Int32} {sf : Value} (hw : Hw a0 Z) (G : Ow.Glo Z cz sf) (GS : GlS Z) {px0 : Int32} {h0 : Heap} (O0 : Old Z n0 h0) :
    Ow.Con l Z EL1 n0 my5 method_3_code 2 (Option.some Jvm.ClassFile.FieldType.char) [] ({ frames := 0, cells := 0, slots := 0, locals := 0 } : Room) #[(.int px0)] [] h0 (fun v h S' => (∃ i0 : Int32, v = some (.int i0) ∧ h = h0 ∧ ¬ ((65535 : Int32) < i0) ∧ ¬ (i0 < (0 : Int32)) ∧ nar .char i0 = i0 ∧ S' = [])) := by
  refine Ow.Con.enter (Ls := #[.val (.int px0), .unset]) (plainFor_of_name pn2) O0 (hEW hw) (hSA hw) ?_
  intro p e s m below meth c B
  have z0 := Ow.old_le O0
  refine Ow.iloadN (pc' := 1) B e5_0 ?_
  refine Ow.iconst (pc' := 2) (x := (1 : Int32)) B e5_1 ?_
  refine Ow.iand (pc' := 3) (z := (px0 &&& (1 : Int32))) B e5_2 ?_
  by_cases c1 : (px0 &&& (1 : Int32)) = (0 : Int32)
  · refine Ow.ifT (pc' := 49) B e5_3 (teq c1).1 ?_
    refine Ow.iloadN (pc' := 50) B e5_49 ?_
    refine Ow.iconst (pc' := 51) (x := (1 : Int32)) B e5_50 ?_
    refine Ow.iushr (pc' := 52) (z := (Jvm.Free.XT.ushr px0 (1 : Int32))) B e5_51 ?_
    refine Ow.ldcInt (pc' := 54) B e5_52 (w41 hw) ?_
    refine Ow.iand (pc' := 55) (z := ((Jvm.Free.XT.ushr px0 (1 : Int32)) &&& (65535 : Int32))) B e5_54 ?_
    obtain ⟨c2, hc2⟩ : ∃ z : Int32, ((Jvm.Free.XT.ushr px0 (1 : Int32)) &&& (65535 : Int32)).toUInt32.toUInt16.toUInt32.toInt32 = z := ⟨_, rfl⟩
    refine Ow.i2c (pc' := 56) (z := c2) (hz := hc2) B e5_55 ?_
    exact Ow.retI (S' := []) (t := .char) (hnn := (Ow.cnarrow (Ow.cnar hc2))) B e5_56 (⟨c2, rfl, rfl, (Ow.cle16 hc2), (Ow.cge0 hc2), (Ow.cnar hc2), rfl⟩)
  · refine Ow.ifF (pc' := 6) B e5_3 (feq c1).1 ?_
    refine Ow.iloadN (pc' := 7) B e5_6 ?_
    refine Ow.iconst (pc' := 8) (x := (1 : Int32)) B e5_7 ?_
    refine Ow.iushr (pc' := 9) (z := (Jvm.Free.XT.ushr px0 (1 : Int32))) B e5_8 ?_
    refine Ow.bipush (pc' := 11) (x := (62 : Int32)) B e5_9 ?_
    refine Ow.irem (pc' := 12) (z := ((Jvm.Free.XT.ushr px0 (1 : Int32)) % (62 : Int32))) B e5_11 ?_
    refine Ow.istoreN (pc' := 13) (Ls' := #[.val (.int px0), .val (.int ((Jvm.Free.XT.ushr px0 (1 : Int32)) % (62 : Int32)))]) B e5_12 ?_
    refine Ow.iloadN (pc' := 14) B e5_13 ?_
    refine Ow.bipush (pc' := 16) (x := (10 : Int32)) B e5_14 ?_
    by_cases c3 : ((Jvm.Free.XT.ushr px0 (1 : Int32)) % (62 : Int32)) < (10 : Int32)
    · refine Ow.icmpF (pc' := 19) B e5_16 (tlt c3).2.1 ?_
      refine Ow.bipush (pc' := 21) (x := (48 : Int32)) B e5_19 ?_
      refine Ow.iloadN (pc' := 22) B e5_21 ?_
      refine Ow.iadd (pc' := 23) (z := ((48 : Int32) + ((Jvm.Free.XT.ushr px0 (1 : Int32)) % (62 : Int32)))) B e5_22 ?_
      obtain ⟨c4, hc4⟩ : ∃ z : Int32, ((48 : Int32) + ((Jvm.Free.XT.ushr px0 (1 : Int32)) % (62 : Int32))).toUInt32.toUInt16.toUInt32.toInt32 = z := ⟨_, rfl⟩
      refine Ow.i2c (pc' := 24) (z := c4) (hz := hc4) B e5_23 ?_
      exact Ow.retI (S' := []) (t := .char) (hnn := (Ow.cnarrow (Ow.cnar hc4))) B e5_24 (⟨c4, rfl, rfl, (Ow.cle16 hc4), (Ow.cge0 hc4), (Ow.cnar hc4), rfl⟩)
    · refine Ow.icmpT (pc' := 25) B e5_16 (flt c3).2.1 ?_
      refine Ow.iloadN (pc' := 26) B e5_25 ?_
      refine Ow.bipush (pc' := 28) (x := (36 : Int32)) B e5_26 ?_
      by_cases c5 : ((Jvm.Free.XT.ushr px0 (1 : Int32)) % (62 : Int32)) < (36 : Int32)
      · refine Ow.icmpF (pc' := 31) B e5_28 (tlt c5).2.1 ?_
        refine Ow.bipush (pc' := 33) (x := (65 : Int32)) B e5_31 ?_
        refine Ow.iloadN (pc' := 34) B e5_33 ?_
        refine Ow.bipush (pc' := 36) (x := (10 : Int32)) B e5_34 ?_
        refine Ow.isub (pc' := 37) (z := (((Jvm.Free.XT.ushr px0 (1 : Int32)) % (62 : Int32)) - (10 : Int32))) B e5_36 ?_
        refine Ow.iadd (pc' := 38) (z := ((65 : Int32) + (((Jvm.Free.XT.ushr px0 (1 : Int32)) % (62 : Int32)) - (10 : Int32)))) B e5_37 ?_
        obtain ⟨c6, hc6⟩ : ∃ z : Int32, ((65 : Int32) + (((Jvm.Free.XT.ushr px0 (1 : Int32)) % (62 : Int32)) - (10 : Int32))).toUInt32.toUInt16.toUInt32.toInt32 = z := ⟨_, rfl⟩
        refine Ow.i2c (pc' := 39) (z := c6) (hz := hc6) B e5_38 ?_
        exact Ow.retI (S' := []) (t := .char) (hnn := (Ow.cnarrow (Ow.cnar hc6))) B e5_39 (⟨c6, rfl, rfl, (Ow.cle16 hc6), (Ow.cge0 hc6), (Ow.cnar hc6), rfl⟩)
      · refine Ow.icmpT (pc' := 40) B e5_28 (flt c5).2.1 ?_
        refine Ow.bipush (pc' := 42) (x := (97 : Int32)) B e5_40 ?_
        refine Ow.iloadN (pc' := 43) B e5_42 ?_
        refine Ow.bipush (pc' := 45) (x := (36 : Int32)) B e5_43 ?_
        refine Ow.isub (pc' := 46) (z := (((Jvm.Free.XT.ushr px0 (1 : Int32)) % (62 : Int32)) - (36 : Int32))) B e5_45 ?_
        refine Ow.iadd (pc' := 47) (z := ((97 : Int32) + (((Jvm.Free.XT.ushr px0 (1 : Int32)) % (62 : Int32)) - (36 : Int32)))) B e5_46 ?_
        obtain ⟨c7, hc7⟩ : ∃ z : Int32, ((97 : Int32) + (((Jvm.Free.XT.ushr px0 (1 : Int32)) % (62 : Int32)) - (36 : Int32))).toUInt32.toUInt16.toUInt32.toInt32 = z := ⟨_, rfl⟩
        refine Ow.i2c (pc' := 48) (z := c7) (hz := hc7) B e5_47 ?_
        exact Ow.retI (S' := []) (t := .char) (hnn := (Ow.cnarrow (Ow.cnar hc7))) B e5_48 (⟨c7, rfl, rfl, (Ow.cle16 hc7), (Ow.cge0 hc7), (Ow.cnar hc7), rfl⟩)
set_option maxRecDepth 65536 in
set_option maxHeartbeats 40000000 in
theorem con_compress_8 {l : Launch} {Z : State} {n0 : Nat} {a0 : Array Value} {cz : Int32} {sf : Value} (hw : Hw a0 Z) (G : Ow.Glo Z cz sf) (GS : GlS Z) {pa0 : Nat} {pa1 : Nat} {px0 : Int32} {pk0 : ClassId} {pk1 : ClassId} {h0 : Heap} (O0 : Old Z n0 h0) (hf0 : Arv Z h0 pa0 pk0 .char (1 : Int32) [(.int px0)] (.int 0)) (hf1 : Arv Z h0 pa1 pk1 .byte (1 : Int32) [(.int (0 : Int32))] (.int 0)) (hn0 : n0 ≤ pa0) (hn1 : n0 ≤ pa1) (hc_px0 : nar .char px0 = px0) :
    Ow.Con l Z EL1 n0 my6 jdk_52_method_21_code 7 (Option.some Jvm.ClassFile.FieldType.int) [] ({ frames := 0, cells := 0, slots := 0, locals := 0 } : Room) #[(.ref pa0), (.int (0 : Int32)), (.ref pa1), (.int (0 : Int32)), (.int (1 : Int32))] [pa1] h0 (fun v h S' => (v = some (.int (0 : Int32)) ∧ h = h0 ∧ (255 : Int32) < px0 ∧ S' = []) ∨ (v = some (.int (1 : Int32)) ∧ Keep h0 h [pa1] ∧ ¬ ((255 : Int32) < px0) ∧ Arv Z h pa1 pk1 .byte (1 : Int32) [(.int px0.toInt8.toInt32)] (.int 0) ∧ S' = [])) := by
  refine Ow.Con.enter (Ls := #[.val (.ref pa0), .val (.int (0 : Int32)), .val (.ref pa1), .val (.int (0 : Int32)), .val (.int (1 : Int32)), .unset, .unset]) (plainFor_of_name pn3) O0 (hEW hw) (hSA hw) ?_
  intro p e s m below meth c B
  have z0 := Ow.old_le O0
  have lpa0 : (pa0 : Nat) < h0.size := hf0.lt
  have lpa1 : (pa1 : Nat) < h0.size := hf1.lt
  refine Ow.iconst (pc' := 1) (x := (0 : Int32)) B e7_0 ?_
  refine Ow.istore (pc' := 3) (Ls' := #[.val (.ref pa0), .val (.int (0 : Int32)), .val (.ref pa1), .val (.int (0 : Int32)), .val (.int (1 : Int32)), .val (.int (0 : Int32)), .unset]) B e7_1 ?_
  refine Ow.iload (pc' := 5) B e7_3 ?_
  refine Ow.iload (pc' := 7) B e7_5 ?_
  refine Ow.icmpF (pc' := 10) B e7_7 (by decide) ?_
  refine Ow.aloadN (pc' := 11) B e7_10 ?_
  refine Ow.iloadN (pc' := 12) B e7_11 ?_
  refine Ow.caload (pc' := 13) B e7_12 hf0 ⟨by decide, by decide⟩ rfl ?_
  refine Ow.istore (pc' := 15) (Ls' := #[.val (.ref pa0), .val (.int (0 : Int32)), .val (.ref pa1), .val (.int (0 : Int32)), .val (.int (1 : Int32)), .val (.int (0 : Int32)), .val (.int px0)]) B e7_13 ?_
  refine Ow.iload (pc' := 17) B e7_15 ?_
  refine Ow.sipush (pc' := 20) (x := (255 : Int32)) B e7_17 ?_
  by_cases c1 : (255 : Int32) < px0
  · refine Ow.icmpF (pc' := 23) B e7_20 (tlt c1).2.2.2 ?_
    refine Ow.iload (pc' := 25) B e7_23 ?_
    exact Ow.retI (S' := []) (t := .int) B e7_25 (Or.inl (⟨rfl, rfl, c1, rfl⟩))
  · refine Ow.icmpT (pc' := 26) B e7_20 (flt c1).2.2.2 ?_
    refine Ow.aloadN (pc' := 27) B e7_26 ?_
    refine Ow.iloadN (pc' := 28) B e7_27 ?_
    refine Ow.iload (pc' := 30) B e7_28 ?_
    refine Ow.i2b (pc' := 31) (z := px0.toInt8.toInt32) B e7_30 ?_
    refine Ow.bastore (pc' := 32) (i := 0) B e7_31 hf1 ⟨by decide, by decide⟩ (by simp) ?_
    intro h2 Kh2 V0h2
    have zh2 := Kh2.1
    have V3 : Arv Z h2 pa1 pk1 .byte (1 : Int32) [(.int px0.toInt8.toInt32)] (.int 0) := (by have e0 := V0h2; rw [show nar .byte px0.toInt8.toInt32 = px0.toInt8.toInt32 from Ow.nar_b _] at e0; exact e0)
    refine Ow.iinc (pc' := 35) (y := (1 : Int32)) (Ls' := #[.val (.ref pa0), .val (.int (1 : Int32)), .val (.ref pa1), .val (.int (0 : Int32)), .val (.int (1 : Int32)), .val (.int (0 : Int32)), .val (.int px0)]) B e7_32 ?_
    refine Ow.iinc (pc' := 38) (y := (1 : Int32)) (Ls' := #[.val (.ref pa0), .val (.int (1 : Int32)), .val (.ref pa1), .val (.int (1 : Int32)), .val (.int (1 : Int32)), .val (.int (0 : Int32)), .val (.int px0)]) B e7_35 ?_
    refine Ow.iinc (pc' := 41) (y := (1 : Int32)) (Ls' := #[.val (.ref pa0), .val (.int (1 : Int32)), .val (.ref pa1), .val (.int (1 : Int32)), .val (.int (1 : Int32)), .val (.int (1 : Int32)), .val (.int px0)]) B e7_38 ?_
    refine Ow.goto (pc' := 3) B e7_41 ?_
    refine Ow.iload (pc' := 5) B e7_3 ?_
    refine Ow.iload (pc' := 7) B e7_5 ?_
    refine Ow.icmpT (pc' := 44) B e7_7 (by decide) ?_
    refine Ow.iload (pc' := 46) B e7_44 ?_
    exact Ow.retI (S' := []) (t := .int) B e7_46 (Or.inr (⟨rfl, ((Keep.refl _ [pa1]).trans Kh2 (allS (Or.inl (by simp)) all0)), c1, V3, rfl⟩))
set_option maxRecDepth 65536 in
set_option maxHeartbeats 40000000 in
theorem con_newBytesLength_9 {l : Launch} {Z : State} {n0 : Nat} {a0 : Array Value} {cz : Int32} {sf : Value} (hw : Hw a0 Z) (G : Ow.Glo Z cz sf) (GS : GlS Z) {h0 : Heap} (O0 : Old Z n0 h0) :
    Ow.Con l Z EL1 n0 my7 jdk_52_method_3_code 1 (Option.some Jvm.ClassFile.FieldType.int) [] ({ frames := 0, cells := 0, slots := 0, locals := 0 } : Room) #[(.int (1 : Int32))] [] h0 (fun v h S' => (v = some (.int (2 : Int32)) ∧ h = h0 ∧ S' = [])) := by
  refine Ow.Con.enter (Ls := #[.val (.int (1 : Int32))]) (plainFor_of_name pn3) O0 (hEW hw) (hSA hw) ?_
  intro p e s m below meth c B
  have z0 := Ow.old_le O0
  refine Ow.iloadN (pc' := 1) B e10_0 ?_
  refine Ow.ifT (pc' := 12) B e10_1 (by decide) ?_
  refine Ow.iloadN (pc' := 13) B e10_12 ?_
  refine Ow.ldcInt (pc' := 15) B e10_13 (w86 hw) ?_
  refine Ow.icmpT (pc' := 55) B e10_15 (by decide) ?_
  refine Ow.iloadN (pc' := 56) B e10_55 ?_
  refine Ow.iconst (pc' := 57) (x := (1 : Int32)) B e10_56 ?_
  refine Ow.ishl (pc' := 58) (z := (2 : Int32)) B e10_57 ?_
  exact Ow.retI (S' := []) (t := .int) B e10_58 (⟨rfl, rfl, rfl⟩)
set_option maxRecDepth 65536 in
set_option maxHeartbeats 40000000 in
theorem con_newBytesFor_10 {l : Launch} {Z : State} {n0 : Nat} {a0 : Array Value} {cz : Int32} {sf : Value} (hw : Hw a0 Z) (G : Ow.Glo Z cz sf) (GS : GlS Z) {h0 : Heap} (O0 : Old Z n0 h0) :
    Ow.Con l Z EL1 n0 my8 jdk_52_method_2_code 1 (Option.some (Jvm.ClassFile.FieldType.array Jvm.ClassFile.FieldType.byte)) [] ({ frames := 1, cells := 1, slots := 2, locals := 12 } : Room) #[(.int (1 : Int32))] [] h0 (fun v h S' => (∃ r0 : Nat, ∃ k0 : ClassId, v = some (.ref r0) ∧ Keep h0 h [] ∧ h0.size ≤ r0 ∧ Arv Z h r0 k0 .byte (2 : Int32) [(.int (0 : Int32)), (.int (0 : Int32))] (.int 0) ∧ S' = [r0])) := by
  refine Ow.Con.enter (Ls := #[.val (.int (1 : Int32))]) (plainFor_of_name pn3) O0 (hEW hw) (hSA hw) ?_
  intro p e s m below meth c B
  have z0 := Ow.old_le O0
  refine Ow.iloadN (pc' := 1) B e9_0 ?_
  refine Ow.Go.old (fun o1 => ?_)
  refine Ow.callStatic (pc' := 4) (W := 0) (k' := 0) (n' := 0) (argsL := [(.int (1 : Int32))]) (rest := []) B e9_1 (w83 hw) (w84 hw) (w44 hw) (w85 hw) (con_newBytesLength_9 hw G GS o1) pd7 ?_
  intro vq2 h3 S4 q2 zh3
  obtain ⟨rfl, rfl, rfl⟩ := q2
  refine Ow.Go.norm (S' := []) (st' := [(.int (2 : Int32))]) (fun _ q => List.mem_append_right _ q) rfl ?_
  refine Ow.newArr (pc' := 6) (k' := 1) (n' := 2) (cap := 2) B e9_4 (w15 hw) (by decide) (by decide) ?_
  intro h6 a5 ka5 ga5 ba5 Kh6 V0a5
  have zh6 := Kh6.1
  have la5 : (a5 : Nat) < h6.size := V0a5.lt
  have Va5 : Arv Z h6 a5 ka5 .byte (2 : Int32) [(.int 0), (.int 0)] (.int 0) := V0a5.pad (pad_rep [] (.int 0) 2)
  exact Ow.retA (S' := [a5]) (t := (.array .byte)) B e9_6 (⟨a5, ka5, rfl, ((Keep.refl _ []).trans Kh6 (fun _ q => nomatch q)), (by omega), Va5, rfl⟩)
set_option maxRecDepth 65536 in
set_option maxHeartbeats 40000000 in
theorem con_putChar_11 {l : Launch} {Z : State} {n0 : Nat} {a0 : Array Value} {cz : Int32} {sf : Value} (hw : Hw a0 Z) (G : Ow.Glo Z cz sf) (GS : GlS Z) {pa0 : Nat} {px0 : Int32} {pk0 : ClassId} {h0 : Heap} (O0 : Old Z n0 h0) (hf0 : Arv Z h0 pa0 pk0 .byte (2 : Int32) [(.int (0 : Int32)), (.int (0 : Int32))] (.int 0)) (hn0 : n0 ≤ pa0) (hc_px0 : nar .char px0 = px0) :
    Ow.Con l Z EL1 n0 my9 jdk_52_method_4_code 3 (Option.none : Option Jvm.ClassFile.FieldType) [] ({ frames := 0, cells := 0, slots := 0, locals := 0 } : Room) #[(.ref pa0), (.int (0 : Int32)), (.int px0)] [pa0] h0 (fun v h S' => (v = none ∧ Keep h0 h [pa0] ∧ Arv Z h pa0 pk0 .byte (2 : Int32) [(.int px0.toInt8.toInt32), (.int (px0 >>> ((8 : Int32) &&& 31)).toInt8.toInt32)] (.int 0) ∧ S' = [])) := by
  refine Ow.Con.enter (Ls := #[.val (.ref pa0), .val (.int (0 : Int32)), .val (.int px0)]) (plainFor_of_name pn3) O0 (hEW hw) (hSA hw) ?_
  intro p e s m below meth c B
  have z0 := Ow.old_le O0
  have lpa0 : (pa0 : Nat) < h0.size := hf0.lt
  refine Ow.getstatic (pc' := 3) B e11_0 (w90 hw) Via.refl GS.1 ?_
  refine Ow.ifT (pc' := 28) B e11_3 (by decide) ?_
  refine Ow.iloadN (pc' := 29) B e11_28 ?_
  refine Ow.iconst (pc' := 30) (x := (1 : Int32)) B e11_29 ?_
  refine Ow.ishl (pc' := 31) (z := (0 : Int32)) B e11_30 ?_
  refine Ow.istoreN (pc' := 32) (Ls' := #[.val (.ref pa0), .val (.int (0 : Int32)), .val (.int px0)]) B e11_31 ?_
  refine Ow.aloadN (pc' := 33) B e11_32 ?_
  refine Ow.iloadN (pc' := 34) B e11_33 ?_
  refine Ow.iinc (pc' := 37) (y := (1 : Int32)) (Ls' := #[.val (.ref pa0), .val (.int (1 : Int32)), .val (.int px0)]) B e11_34 ?_
  refine Ow.iloadN (pc' := 38) B e11_37 ?_
  refine Ow.getstatic (pc' := 41) B e11_38 (w91 hw) Via.refl GS.2.1 ?_
  refine Ow.ishr (pc' := 42) (z := px0) (hz := (Ow.shr0 _)) B e11_41 ?_
  refine Ow.i2b (pc' := 43) (z := px0.toInt8.toInt32) B e11_42 ?_
  refine Ow.bastore (pc' := 44) (i := 0) B e11_43 hf0 ⟨by decide, by decide⟩ (by simp) ?_
  intro h1 Kh1 V0h1
  have zh1 := Kh1.1
  have V2 : Arv Z h1 pa0 pk0 .byte (2 : Int32) [(.int px0.toInt8.toInt32), (.int (0 : Int32))] (.int 0) := (by have e0 := V0h1; rw [show nar .byte px0.toInt8.toInt32 = px0.toInt8.toInt32 from Ow.nar_b _] at e0; exact e0)
  refine Ow.aloadN (pc' := 45) B e11_44 ?_
  refine Ow.iloadN (pc' := 46) B e11_45 ?_
  refine Ow.iloadN (pc' := 47) B e11_46 ?_
  refine Ow.getstatic (pc' := 50) B e11_47 (w92 hw) Via.refl GS.2.2 ?_
  refine Ow.ishr (pc' := 51) (z := (px0 >>> ((8 : Int32) &&& 31))) B e11_50 ?_
  refine Ow.i2b (pc' := 52) (z := (px0 >>> ((8 : Int32) &&& 31)).toInt8.toInt32) B e11_51 ?_
  refine Ow.bastore (pc' := 53) (i := 1) B e11_52 V2 ⟨by decide, by decide⟩ (by simp) ?_
  intro h3 Kh3 V0h3
  have zh3 := Kh3.1
  have V4 : Arv Z h3 pa0 pk0 .byte (2 : Int32) [(.int px0.toInt8.toInt32), (.int (px0 >>> ((8 : Int32) &&& 31)).toInt8.toInt32)] (.int 0) := (by have e0 := V0h3; rw [show nar .byte (px0 >>> ((8 : Int32) &&& 31)).toInt8.toInt32 = (px0 >>> ((8 : Int32) &&& 31)).toInt8.toInt32 from Ow.nar_b _] at e0; exact e0)
  exact Ow.retV (S' := []) B e11_53 (⟨rfl, (((Keep.refl _ [pa0]).trans Kh1 (allS (Or.inl (by simp)) all0)).trans Kh3 (allS (Or.inl (by simp)) all0)), V4, rfl⟩)
set_option maxRecDepth 65536 in
set_option maxHeartbeats 40000000 in
theorem con_toBytes_12 {l : Launch} {Z : State} {n0 : Nat} {a0 : Array Value} {cz : Int32} {sf : Value} (hw : Hw a0 Z) (G : Ow.Glo Z cz sf) (GS : GlS Z) {pa0 : Nat} {px0 : Int32} {pk0 : ClassId} {h0 : Heap} (O0 : Old Z n0 h0) (hf0 : Arv Z h0 pa0 pk0 .char (1 : Int32) [(.int px0)] (.int 0)) (hn0 : n0 ≤ pa0) (hc_px0 : nar .char px0 = px0) :
    Ow.Con l Z EL1 n0 my10 jdk_52_method_14_code 5 (Option.some (Jvm.ClassFile.FieldType.array Jvm.ClassFile.FieldType.byte)) [] ({ frames := 2, cells := 1, slots := 2, locals := 24 } : Room) #[(.ref pa0), (.int (0 : Int32)), (.int (1 : Int32))] [] h0 (fun v h S' => (∃ r0 : Nat, ∃ k0 : ClassId, v = some (.ref r0) ∧ Keep h0 h [] ∧ h0.size ≤ r0 ∧ Arv Z h r0 k0 .byte (2 : Int32) [(.int px0.toInt8.toInt32), (.int (px0 >>> ((8 : Int32) &&& 31)).toInt8.toInt32)] (.int 0) ∧ S' = [r0])) := by
  refine Ow.Con.enter (Ls := #[.val (.ref pa0), .val (.int (0 : Int32)), .val (.int (1 : Int32)), .unset, .unset]) (plainFor_of_name pn3) O0 (hEW hw) (hSA hw) ?_
  intro p e s m below meth c B
  have z0 := Ow.old_le O0
  have lpa0 : (pa0 : Nat) < h0.size := hf0.lt
  refine Ow.iloadN (pc' := 1) B e8_0 ?_
  refine Ow.Go.old (fun o1 => ?_)
  refine Ow.callStatic (pc' := 4) (W := 0) (k' := 1) (n' := 2) (argsL := [(.int (1 : Int32))]) (rest := []) B e8_1 (w80 hw) (w81 hw) (w44 hw) (w82 hw) (con_newBytesFor_10 hw G GS o1) pd8 ?_
  intro vq2 h3 S4 q2 zh3
  obtain ⟨r5, k6, rfl, Kh3, br5, f7, rfl⟩ := q2
  have lr5 : (r5 : Nat) < h3.size := f7.lt
  refine Ow.Go.norm (S' := [r5]) (st' := [(.ref r5)]) (fun _ q => q) rfl ?_
  refine Ow.astoreN (pc' := 5) (Ls' := #[.val (.ref pa0), .val (.int (0 : Int32)), .val (.int (1 : Int32)), .val (.ref r5), .unset]) B e8_4 ?_
  refine Ow.iconst (pc' := 6) (x := (0 : Int32)) B e8_5 ?_
  refine Ow.istore (pc' := 8) (Ls' := #[.val (.ref pa0), .val (.int (0 : Int32)), .val (.int (1 : Int32)), .val (.ref r5), .val (.int (0 : Int32))]) B e8_6 ?_
  refine Ow.iload (pc' := 10) B e8_8 ?_
  refine Ow.iloadN (pc' := 11) B e8_10 ?_
  refine Ow.icmpF (pc' := 14) B e8_11 (by decide) ?_
  refine Ow.aloadN (pc' := 15) B e8_14 ?_
  refine Ow.iload (pc' := 17) B e8_15 ?_
  refine Ow.aloadN (pc' := 18) B e8_17 ?_
  refine Ow.iloadN (pc' := 19) B e8_18 ?_
  have f8 := hf0.keep Kh3 Ow.nin0
  refine Ow.caload (pc' := 20) B e8_19 f8 ⟨by decide, by decide⟩ rfl ?_
  refine Ow.Go.old (fun o9 => ?_)
  refine Ow.callStatic (pc' := 23) (W := 0) (k' := 1) (n' := 2) (argsL := [(.ref r5), (.int (0 : Int32)), (.int px0)]) (rest := []) B e8_20 (w87 hw) (w88 hw) (w44 hw) (w89 hw) (con_putChar_11 hw G GS (pa0 := r5) (px0 := px0) (pk0 := k6) o9 f7 (by omega) hc_px0) pd9 ?_
  intro vq10 h11 S12 q10 zh11
  obtain ⟨rfl, Kh11, f13, rfl⟩ := q10
  refine Ow.Go.norm (S' := [r5]) (st' := []) (fun _ q => List.mem_append_right _ q) rfl ?_
  refine Ow.iinc (pc' := 26) (y := (1 : Int32)) (Ls' := #[.val (.ref pa0), .val (.int (1 : Int32)), .val (.int (1 : Int32)), .val (.ref r5), .val (.int (0 : Int32))]) B e8_23 ?_
  refine Ow.iinc (pc' := 29) (y := (1 : Int32)) (Ls' := #[.val (.ref pa0), .val (.int (1 : Int32)), .val (.int (1 : Int32)), .val (.ref r5), .val (.int (1 : Int32))]) B e8_26 ?_
  refine Ow.goto (pc' := 8) B e8_29 ?_
  refine Ow.iload (pc' := 10) B e8_8 ?_
  refine Ow.iloadN (pc' := 11) B e8_10 ?_
  refine Ow.icmpT (pc' := 32) B e8_11 (by decide) ?_
  refine Ow.aloadN (pc' := 33) B e8_32 ?_
  exact Ow.retA (S' := [r5]) (t := (.array .byte)) B e8_33 (⟨r5, k6, rfl, (((Keep.refl _ []).trans Kh3 (fun _ q => nomatch q)).trans Kh11 (allS (Or.inr (by omega)) all0)), (by omega), f13, rfl⟩)
set_option maxRecDepth 65536 in
set_option maxHeartbeats 40000000 in
theorem con_getChar_13 {l : Launch} {Z : State} {n0 : Nat} {a0 : Array Value} {cz : Int32} {sf : Value} (hw : Hw a0 Z) (G : Ow.Glo Z cz sf) (GS : GlS Z) {pa0 : Nat} {px0 : Int32} {pk0 : ClassId} {h0 : Heap} (O0 : Old Z n0 h0) (hf0 : Arv Z h0 pa0 pk0 .byte (2 : Int32) [(.int px0.toInt8.toInt32), (.int (px0 >>> ((8 : Int32) &&& 31)).toInt8.toInt32)] (.int 0)) (hn0 : n0 ≤ pa0) (hk0 : ¬ ((65535 : Int32) < px0)) (hk1 : ¬ (px0 < (0 : Int32))) (hc_px0 : nar .char px0 = px0) :
    Ow.Con l Z EL1 n0 my11 jdk_52_method_5_code 2 (Option.some Jvm.ClassFile.FieldType.char) [] ({ frames := 0, cells := 0, slots := 0, locals := 0 } : Room) #[(.ref pa0), (.int (0 : Int32))] [pa0] h0 (fun v h S' => (v = some (.int px0) ∧ h = h0 ∧ S' = [])) := by
  refine Ow.Con.enter (Ls := #[.val (.ref pa0), .val (.int (0 : Int32))]) (plainFor_of_name pn3) O0 (hEW hw) (hSA hw) ?_
  intro p e s m below meth c B
  have z0 := Ow.old_le O0
  have lpa0 : (pa0 : Nat) < h0.size := hf0.lt
  refine Ow.getstatic (pc' := 3) B e12_0 (w90 hw) Via.refl GS.1 ?_
  refine Ow.ifT (pc' := 28) B e12_3 (by decide) ?_
  refine Ow.iloadN (pc' := 29) B e12_28 ?_
  refine Ow.iconst (pc' := 30) (x := (1 : Int32)) B e12_29 ?_
  refine Ow.ishl (pc' := 31) (z := (0 : Int32)) B e12_30 ?_
  refine Ow.istoreN (pc' := 32) (Ls' := #[.val (.ref pa0), .val (.int (0 : Int32))]) B e12_31 ?_
  refine Ow.aloadN (pc' := 33) B e12_32 ?_
  refine Ow.iloadN (pc' := 34) B e12_33 ?_
  refine Ow.iinc (pc' := 37) (y := (1 : Int32)) (Ls' := #[.val (.ref pa0), .val (.int (1 : Int32))]) B e12_34 ?_
  refine Ow.baload (pc' := 38) B e12_37 hf0 ⟨by decide, by decide⟩ rfl ?_
  refine Ow.sipush (pc' := 41) (x := (255 : Int32)) B e12_38 ?_
  refine Ow.iand (pc' := 42) (z := (px0.toInt8.toInt32 &&& (255 : Int32))) B e12_41 ?_
  refine Ow.getstatic (pc' := 45) B e12_42 (w91 hw) Via.refl GS.2.1 ?_
  refine Ow.ishl (pc' := 46) (z := ((px0.toInt8.toInt32 &&& (255 : Int32)) <<< ((0 : Int32) &&& 31))) B e12_45 ?_
  refine Ow.aloadN (pc' := 47) B e12_46 ?_
  refine Ow.iloadN (pc' := 48) B e12_47 ?_
  refine Ow.baload (pc' := 49) B e12_48 hf0 ⟨by decide, by decide⟩ rfl ?_
  refine Ow.sipush (pc' := 52) (x := (255 : Int32)) B e12_49 ?_
  refine Ow.iand (pc' := 53) (z := ((px0 >>> ((8 : Int32) &&& 31)).toInt8.toInt32 &&& (255 : Int32))) B e12_52 ?_
  refine Ow.getstatic (pc' := 56) B e12_53 (w92 hw) Via.refl GS.2.2 ?_
  refine Ow.ishl (pc' := 57) (z := (((px0 >>> ((8 : Int32) &&& 31)).toInt8.toInt32 &&& (255 : Int32)) <<< ((8 : Int32) &&& 31))) B e12_56 ?_
  refine Ow.ior (pc' := 58) (z := px0) (hz := (Ow.u16 (hk1) (hk0))) B e12_57 ?_
  refine Ow.i2c (pc' := 59) (z := px0) (hz := hc_px0) B e12_58 ?_
  exact Ow.retI (S' := []) (t := .char) (hnn := (Ow.cnarrow hc_px0)) B e12_59 (⟨rfl, rfl, rfl⟩)
set_option maxRecDepth 65536 in
set_option maxHeartbeats 40000000 in
theorem con_compress_14 {l : Launch} {Z : State} {n0 : Nat} {a0 : Array Value} {cz : Int32} {sf : Value} (hw : Hw a0 Z) (G : Ow.Glo Z cz sf) (GS : GlS Z) {pa0 : Nat} {px0 : Int32} {pk0 : ClassId} {h0 : Heap} (O0 : Old Z n0 h0) (hf0 : Arv Z h0 pa0 pk0 .char (1 : Int32) [(.int px0)] (.int 0)) (hn0 : n0 ≤ pa0) (hk0 : ¬ ((65535 : Int32) < px0)) (hk1 : ¬ (px0 < (0 : Int32))) (hc_px0 : nar .char px0 = px0) :
    Ow.Con l Z EL1 n0 my12 jdk_52_method_16_code 6 (Option.some (Jvm.ClassFile.FieldType.array Jvm.ClassFile.FieldType.byte)) [] ({ frames := 3, cells := 2, slots := 3, locals := 40 } : Room) #[(.ref pa0), (.int (0 : Int32)), (.int (1 : Int32))] [] h0 (fun v h S' => (∃ r0 : Nat, ∃ k0 : ClassId, v = some (.ref r0) ∧ Keep h0 h [] ∧ (255 : Int32) < px0 ∧ h0.size ≤ r0 ∧ Arv Z h r0 k0 .byte (2 : Int32) [(.int px0.toInt8.toInt32), (.int (px0 >>> ((8 : Int32) &&& 31)).toInt8.toInt32)] (.int 0) ∧ S' = [r0]) ∨ (∃ r0 : Nat, ∃ k0 : ClassId, v = some (.ref r0) ∧ Keep h0 h [] ∧ ¬ ((255 : Int32) < px0) ∧ h0.size ≤ r0 ∧ Arv Z h r0 k0 .byte (1 : Int32) [(.int px0.toInt8.toInt32)] (.int 0) ∧ S' = [r0])) := by
  refine Ow.Con.enter (Ls := #[.val (.ref pa0), .val (.int (0 : Int32)), .val (.int (1 : Int32)), .unset, .unset, .unset]) (plainFor_of_name pn3) O0 (hEW hw) (hSA hw) ?_
  intro p e s m below meth c B
  have z0 := Ow.old_le O0
  have lpa0 : (pa0 : Nat) < h0.size := hf0.lt
  refine Ow.iloadN (pc' := 1) B e6_0 ?_
  refine Ow.newArr (pc' := 3) (k' := 1) (n' := 1) (cap := 1) B e6_1 (w15 hw) (by decide) (by decide) ?_
  intro h2 a1 ka1 ga1 ba1 Kh2 V0a1
  have zh2 := Kh2.1
  have la1 : (a1 : Nat) < h2.size := V0a1.lt
  have Va1 : Arv Z h2 a1 ka1 .byte (1 : Int32) [(.int 0)] (.int 0) := V0a1.pad (pad_rep [] (.int 0) 1)
  refine Ow.astoreN (pc' := 4) (Ls' := #[.val (.ref pa0), .val (.int (0 : Int32)), .val (.int (1 : Int32)), .val (.ref a1), .unset, .unset]) B e6_3 ?_
  refine Ow.aloadN (pc' := 5) B e6_4 ?_
  refine Ow.iloadN (pc' := 6) B e6_5 ?_
  refine Ow.aloadN (pc' := 7) B e6_6 ?_
  refine Ow.iconst (pc' := 8) (x := (0 : Int32)) B e6_7 ?_
  refine Ow.iloadN (pc' := 9) B e6_8 ?_
  refine Ow.Go.old (fun o3 => ?_)
  have f4 := hf0.keep Kh2 Ow.nin0
  refine Ow.callStatic (pc' := 12) (W := 0) (k' := 1) (n' := 1) (argsL := [(.ref pa0), (.int (0 : Int32)), (.ref a1), (.int (0 : Int32)), (.int (1 : Int32))]) (rest := []) B e6_9 (w46 hw) (w47 hw) (w44 hw) (w48 hw) (con_compress_8 hw G GS (pa0 := pa0) (pa1 := a1) (px0 := px0) (pk0 := pk0) (pk1 := ka1) o3 f4 Va1 (by omega) (by omega) hc_px0) pd6 ?_
  intro vq5 h6 S7 q5 zh6
  rcases q5 with q5 | q5
  · obtain ⟨rfl, rfl, c8, rfl⟩ := q5
    refine Ow.Go.norm (S' := [a1]) (st' := [(.int (0 : Int32))]) (fun _ q => List.mem_append_right _ q) rfl ?_
    refine Ow.istore (pc' := 14) (Ls' := #[.val (.ref pa0), .val (.int (0 : Int32)), .val (.int (1 : Int32)), .val (.ref a1), .val (.int (0 : Int32)), .unset]) B e6_12 ?_
    refine Ow.iload (pc' := 16) B e6_14 ?_
    refine Ow.iloadN (pc' := 17) B e6_16 ?_
    refine Ow.icmpF (pc' := 20) B e6_17 (by decide) ?_
    refine Ow.aloadN (pc' := 21) B e6_20 ?_
    refine Ow.iloadN (pc' := 22) B e6_21 ?_
    refine Ow.iloadN (pc' := 23) B e6_22 ?_
    refine Ow.Go.old (fun o9 => ?_)
    refine Ow.callStatic (pc' := 26) (W := 0) (k' := 2) (n' := 3) (argsL := [(.ref pa0), (.int (0 : Int32)), (.int (1 : Int32))]) (rest := []) B e6_23 (w77 hw) (w78 hw) (w44 hw) (w79 hw) (con_toBytes_12 hw G GS (pa0 := pa0) (px0 := px0) (pk0 := pk0) o9 f4 (by omega) hc_px0) pd10 ?_
    intro vq10 h11 S12 q10 zh11
    obtain ⟨r13, k14, rfl, Kh11, br13, f15, rfl⟩ := q10
    have lr13 : (r13 : Nat) < h11.size := f15.lt
    refine Ow.Go.norm (S' := [r13, a1]) (st' := [(.ref r13)]) (fun _ q => q) rfl ?_
    refine Ow.astore (pc' := 28) (Ls' := #[.val (.ref pa0), .val (.int (0 : Int32)), .val (.int (1 : Int32)), .val (.ref a1), .val (.int (0 : Int32)), .val (.ref r13)]) B e6_26 ?_
    refine Ow.aload (pc' := 30) B e6_28 ?_
    refine Ow.iload (pc' := 32) B e6_30 ?_
    refine Ow.Go.old (fun o16 => ?_)
    refine Ow.callStatic (pc' := 35) (W := 0) (k' := 2) (n' := 3) (argsL := [(.ref r13), (.int (0 : Int32))]) (rest := []) B e6_32 (w93 hw) (w94 hw) (w44 hw) (w95 hw) (con_getChar_13 hw G GS (pa0 := r13) (px0 := px0) (pk0 := k14) o16 f15 (by omega) (hk0) (hk1) hc_px0) pd11 ?_
    intro vq17 h18 S19 q17 zh18
    obtain ⟨rfl, rfl, rfl⟩ := q17
    refine Ow.Go.norm (S' := [r13, a1]) (st' := [(.int px0)]) (fun _ q => List.mem_append_right _ q) rfl ?_
    refine Ow.sipush (pc' := 38) (x := (255 : Int32)) B e6_35 ?_
    refine Ow.icmpT (pc' := 54) B e6_38 (tlt (c8)).2.2.1 ?_
    refine Ow.aload (pc' := 56) B e6_54 ?_
    exact Ow.retA (S' := [r13]) (t := (.array .byte)) B e6_56 (Or.inl (⟨r13, k14, rfl, (((Keep.refl _ []).trans Kh2 (fun _ q => nomatch q)).trans Kh11 (fun _ q => nomatch q)), c8, (by omega), f15, rfl⟩))
  · obtain ⟨rfl, Kh6, c20, f21, rfl⟩ := q5
    refine Ow.Go.norm (S' := [a1]) (st' := [(.int (1 : Int32))]) (fun _ q => List.mem_append_right _ q) rfl ?_
    refine Ow.istore (pc' := 14) (Ls' := #[.val (.ref pa0), .val (.int (0 : Int32)), .val (.int (1 : Int32)), .val (.ref a1), .val (.int (1 : Int32)), .unset]) B e6_12 ?_
    refine Ow.iload (pc' := 16) B e6_14 ?_
    refine Ow.iloadN (pc' := 17) B e6_16 ?_
    refine Ow.icmpT (pc' := 57) B e6_17 (by decide) ?_
    refine Ow.aloadN (pc' := 58) B e6_57 ?_
    exact Ow.retA (S' := [a1]) (t := (.array .byte)) B e6_58 (Or.inr (⟨a1, ka1, rfl, (((Keep.refl _ []).trans Kh2 (fun _ q => nomatch q)).trans Kh6 (allS (Or.inr (by omega)) all0)), c20, (by omega), f21, rfl⟩))
set_option maxRecDepth 65536 in
set_option maxHeartbeats 40000000 in
theorem con_coderFromArrayLen_15 {l : Launch} {Z : State} {n0 : Nat} {a0 : Array Value} {cz : Int32} {sf : Value} (hw : Hw a0 Z) (G : Ow.Glo Z cz sf) (GS : GlS Z) {pa0 : Nat} {px0 : Int32} {pk0 : ClassId} {h0 : Heap} (O0 : Old Z n0 h0) (hf0 : Arv Z h0 pa0 pk0 .byte (2 : Int32) [(.int px0.toInt8.toInt32), (.int (px0 >>> ((8 : Int32) &&& 31)).toInt8.toInt32)] (.int 0)) (hn0 : n0 ≤ pa0) (hc_px0 : nar .char px0 = px0) :
    Ow.Con l Z EL1 n0 my13 jdk_52_method_15_code 2 (Option.some Jvm.ClassFile.FieldType.byte) [] ({ frames := 0, cells := 0, slots := 0, locals := 0 } : Room) #[(.ref pa0), (.int (1 : Int32))] [pa0] h0 (fun v h S' => (v = some (.int (1 : Int32)) ∧ h = h0 ∧ S' = [])) := by
  refine Ow.Con.enter (Ls := #[.val (.ref pa0), .val (.int (1 : Int32))]) (plainFor_of_name pn3) O0 (hEW hw) (hSA hw) ?_
  intro p e s m below meth c B
  have z0 := Ow.old_le O0
  have lpa0 : (pa0 : Nat) < h0.size := hf0.lt
  refine Ow.iloadN (pc' := 1) B e13_0 ?_
  refine Ow.aloadN (pc' := 2) B e13_1 ?_
  refine Ow.arrlen (pc' := 3) B e13_2 hf0 ?_
  refine Ow.isub (pc' := 4) (z := (-1 : Int32)) B e13_3 ?_
  refine Ow.bipush (pc' := 6) (x := (31 : Int32)) B e13_4 ?_
  refine Ow.iushr (pc' := 7) (z := (1 : Int32)) B e13_6 ?_
  refine Ow.i2b (pc' := 8) (z := (1 : Int32)) B e13_7 ?_
  exact Ow.retI (S' := []) (t := .byte) B e13_8 (⟨rfl, rfl, rfl⟩)
set_option maxRecDepth 65536 in
set_option maxHeartbeats 40000000 in
theorem con_coderFromArrayLen_16 {l : Launch} {Z : State} {n0 : Nat} {a0 : Array Value} {cz : Int32} {sf : Value} (hw : Hw a0 Z) (G : Ow.Glo Z cz sf) (GS : GlS Z) {pa0 : Nat} {px0 : Int32} {pk0 : ClassId} {h0 : Heap} (O0 : Old Z n0 h0) (hf0 : Arv Z h0 pa0 pk0 .byte (1 : Int32) [(.int px0.toInt8.toInt32)] (.int 0)) (hn0 : n0 ≤ pa0) (hc_px0 : nar .char px0 = px0) :
    Ow.Con l Z EL1 n0 my13 jdk_52_method_15_code 2 (Option.some Jvm.ClassFile.FieldType.byte) [] ({ frames := 0, cells := 0, slots := 0, locals := 0 } : Room) #[(.ref pa0), (.int (1 : Int32))] [pa0] h0 (fun v h S' => (v = some (.int (0 : Int32)) ∧ h = h0 ∧ S' = [])) := by
  refine Ow.Con.enter (Ls := #[.val (.ref pa0), .val (.int (1 : Int32))]) (plainFor_of_name pn3) O0 (hEW hw) (hSA hw) ?_
  intro p e s m below meth c B
  have z0 := Ow.old_le O0
  have lpa0 : (pa0 : Nat) < h0.size := hf0.lt
  refine Ow.iloadN (pc' := 1) B e13_0 ?_
  refine Ow.aloadN (pc' := 2) B e13_1 ?_
  refine Ow.arrlen (pc' := 3) B e13_2 hf0 ?_
  refine Ow.isub (pc' := 4) (z := (0 : Int32)) B e13_3 ?_
  refine Ow.bipush (pc' := 6) (x := (31 : Int32)) B e13_4 ?_
  refine Ow.iushr (pc' := 7) (z := (0 : Int32)) B e13_6 ?_
  refine Ow.i2b (pc' := 8) (z := (0 : Int32)) B e13_7 ?_
  exact Ow.retI (S' := []) (t := .byte) B e13_8 (⟨rfl, rfl, rfl⟩)
set_option maxRecDepth 65536 in
set_option maxHeartbeats 40000000 in
theorem con_init_17 {l : Launch} {Z : State} {n0 : Nat} {a0 : Array Value} {cz : Int32} {sf : Value} (hw : Hw a0 Z) (G : Ow.Glo Z cz sf) (GS : GlS Z) {pa0 : Nat} {pa1 : Nat} {px0 : Int32} {pk0 : ClassId} {h0 : Heap} (O0 : Old Z n0 h0) (hf0 : Exa Z h0 pa0 "java/lang/String") (hf1 : Fld Z h0 pa0 "java/lang/String" "coder" "B" (.int (0 : Int32))) (hf2 : Fld Z h0 pa0 "java/lang/String" "value" "[B" .null) (hf3 : Arv Z h0 pa1 pk0 .char (1 : Int32) [(.int px0)] (.int 0)) (hn0 : n0 ≤ pa0) (hn1 : n0 ≤ pa1) (hk0 : ¬ ((65535 : Int32) < px0)) (hk1 : ¬ (px0 < (0 : Int32))) (hc_px0 : nar .char px0 = px0) :
    Ow.Con l Z EL1 n0 my0 jdk_42_method_149_code 6 (Option.none : Option Jvm.ClassFile.FieldType) [] ({ frames := 4, cells := 2, slots := 3, locals := 57 } : Room) #[(.ref pa0), (.ref pa1), (.int (0 : Int32)), (.int (1 : Int32)), .null] [pa0] h0 (fun v h S' => (∃ r0 : Nat, ∃ k0 : ClassId, v = none ∧ Keep h0 h [pa0] ∧ h0.size ≤ r0 ∧ Ow.Chs Z h pa0 r0 k0 [px0] ∧ S' = [])) := by
  refine Ow.Con.enter (Ls := #[.val (.ref pa0), .val (.ref pa1), .val (.int (0 : Int32)), .val (.int (1 : Int32)), .val .null, .unset]) (plainFor_of_name pn0) O0 (hEW hw) (hSA hw) ?_
  intro p e s m below meth c B
  have z0 := Ow.old_le O0
  have lpa0 : (pa0 : Nat) < h0.size := hf0.lt
  have lpa1 : (pa1 : Nat) < h0.size := hf3.lt
  refine Ow.aloadN (pc' := 1) B e2_0 ?_
  refine Ow.objInit (pc' := 4) (W := 0) B e2_1 (w11 hw) (w12 hw) (w13 hw) ?_
  refine Ow.iloadN (pc' := 5) B e2_4 ?_
  refine Ow.ifT (pc' := 27) B e2_5 (by decide) ?_
  refine Ow.getstatic (pc' := 30) B e2_27 (w36 hw) Via.refl G.1 ?_
  refine Ow.ifF (pc' := 33) B e2_30 (feq (G.2.1)).1 ?_
  refine Ow.aloadN (pc' := 34) B e2_33 ?_
  refine Ow.iloadN (pc' := 35) B e2_34 ?_
  refine Ow.iloadN (pc' := 36) B e2_35 ?_
  refine Ow.Go.old (fun o1 => ?_)
  refine Ow.callStatic (pc' := 39) (W := 0) (k' := 2) (n' := 3) (argsL := [(.ref pa1), (.int (0 : Int32)), (.int (1 : Int32))]) (rest := []) B e2_36 (w42 hw) (w43 hw) (w44 hw) (w45 hw) (con_compress_14 hw G GS (pa0 := pa1) (px0 := px0) (pk0 := pk0) o1 hf3 (by omega) (hk0) (hk1) hc_px0) pd10 ?_
  intro vq2 h3 S4 q2 zh3
  rcases q2 with q2 | q2
  · obtain ⟨r5, k6, rfl, Kh3, c7, br5, f8, rfl⟩ := q2
    have lr5 : (r5 : Nat) < h3.size := f8.lt
    refine Ow.Go.norm (S' := [r5, pa0]) (st' := [(.ref r5)]) (fun _ q => q) rfl ?_
    refine Ow.astore (pc' := 41) (Ls' := #[.val (.ref pa0), .val (.ref pa1), .val (.int (0 : Int32)), .val (.int (1 : Int32)), .val .null, .val (.ref r5)]) B e2_39 ?_
    refine Ow.aloadN (pc' := 42) B e2_41 ?_
    refine Ow.aload (pc' := 44) B e2_42 ?_
    refine Ow.iloadN (pc' := 45) B e2_44 ?_
    refine Ow.Go.old (fun o9 => ?_)
    refine Ow.callStatic (pc' := 48) (W := 1) (k' := 2) (n' := 3) (argsL := [(.ref r5), (.int (1 : Int32))]) (rest := [(.ref pa0)]) B e2_45 (w49 hw) (w50 hw) (w44 hw) (w51 hw) (con_coderFromArrayLen_15 hw G GS (pa0 := r5) (px0 := px0) (pk0 := k6) o9 f8 (by omega) hc_px0) pd12 ?_
    intro vq10 h11 S12 q10 zh11
    obtain ⟨rfl, rfl, rfl⟩ := q10
    refine Ow.Go.norm (S' := [r5, pa0]) (st' := [(.int (1 : Int32)), (.ref pa0)]) (fun _ q => List.mem_append_right _ q) rfl ?_
    have f13 := hf1.keep Kh3 Ow.nin0
    have f14 := hf0.keep Kh3
    refine Ow.putfield (pc' := 51) (ty := .byte) B e2_48 (w21 hw) Via.refl f13 f14 (Or.inr ⟨(w17 hw), rfl, rfl⟩) (w2 hw) (Or.inl (by simp)) ?_
    intro h15 Wh15
    have f16 := hf2.keep Kh3 Ow.nin0
    have Kh15 := Keep.of_wr Wh15
    have zh15 := Kh15.1
    have f17 : Fld Z h15 pa0 "java/lang/String" "coder" "B" (.int (1 : Int32)) := f13.same Wh15
    have f18 : Fld Z h15 pa0 "java/lang/String" "value" "[B" .null := f16.other Wh15 (Or.inr (slot_ne (a0 := a0) (C := "java/lang/String") (t := (.array .byte)) (t' := .byte) (Or.inr (w16 hw)) (Or.inr (w17 hw)) (by decide) (by decide) (by decide)))
    refine Ow.aloadN (pc' := 52) B e2_51 ?_
    refine Ow.aload (pc' := 54) B e2_52 ?_
    have f19 := f14.keep Kh15
    refine Ow.putfield (pc' := 57) (ty := (.array .byte)) B e2_54 (w20 hw) Via.refl f18 f19 (Or.inr ⟨(w16 hw), rfl, rfl⟩) (w2 hw) (Or.inl (by simp)) ?_
    intro h20 Wh20
    have Kh20 := Keep.of_wr Wh20
    have zh20 := Kh20.1
    have f21 : Fld Z h20 pa0 "java/lang/String" "value" "[B" (.ref r5) := f18.same Wh20
    have f22 : Fld Z h20 pa0 "java/lang/String" "coder" "B" (.int (1 : Int32)) := f17.other Wh20 (Or.inr (slot_ne (a0 := a0) (C := "java/lang/String") (t := .byte) (t' := (.array .byte)) (Or.inr (w17 hw)) (Or.inr (w16 hw)) (by decide) (by decide) (by decide)))
    have f23 := f19.keep Kh20
    have f24 := f8.keep Kh15 (Ow.ninS (by omega) Ow.nin0)
    have f25 := f24.keep Kh20 (Ow.ninS (by omega) Ow.nin0)
    have s26 : Ow.Chs Z h20 pa0 r5 k6 [px0] := ⟨f23, f21, (Ow.allI ⟨(hk1), (hk0)⟩ Ow.allI0), Or.inr ⟨f22, f25⟩⟩
    exact Ow.retV (S' := []) B e2_57 (⟨r5, k6, rfl, ((((Keep.refl _ [pa0]).trans Kh3 (fun _ q => nomatch q)).trans Kh15 (allS (Or.inl (by simp)) all0)).trans Kh20 (allS (Or.inl (by simp)) all0)), (by omega), s26, rfl⟩)
  · obtain ⟨r27, k28, rfl, Kh3, c29, br27, f30, rfl⟩ := q2
    have lr27 : (r27 : Nat) < h3.size := f30.lt
    refine Ow.Go.norm (S' := [r27, pa0]) (st' := [(.ref r27)]) (fun _ q => q) rfl ?_
    refine Ow.astore (pc' := 41) (Ls' := #[.val (.ref pa0), .val (.ref pa1), .val (.int (0 : Int32)), .val (.int (1 : Int32)), .val .null, .val (.ref r27)]) B e2_39 ?_
    refine Ow.aloadN (pc' := 42) B e2_41 ?_
    refine Ow.aload (pc' := 44) B e2_42 ?_
    refine Ow.iloadN (pc' := 45) B e2_44 ?_
    refine Ow.Go.old (fun o31 => ?_)
    refine Ow.callStatic (pc' := 48) (W := 1) (k' := 2) (n' := 3) (argsL := [(.ref r27), (.int (1 : Int32))]) (rest := [(.ref pa0)]) B e2_45 (w49 hw) (w50 hw) (w44 hw) (w51 hw) (con_coderFromArrayLen_16 hw G GS (pa0 := r27) (px0 := px0) (pk0 := k28) o31 f30 (by omega) hc_px0) pd12 ?_
    intro vq32 h33 S34 q32 zh33
    obtain ⟨rfl, rfl, rfl⟩ := q32
    refine Ow.Go.norm (S' := [r27, pa0]) (st' := [(.int (0 : Int32)), (.ref pa0)]) (fun _ q => List.mem_append_right _ q) rfl ?_
    have f35 := hf1.keep Kh3 Ow.nin0
    have f36 := hf0.keep Kh3
    refine Ow.putfield (pc' := 51) (ty := .byte) B e2_48 (w21 hw) Via.refl f35 f36 (Or.inr ⟨(w17 hw), rfl, rfl⟩) (w2 hw) (Or.inl (by simp)) ?_
    intro h37 Wh37
    have f38 := hf2.keep Kh3 Ow.nin0
    have Kh37 := Keep.of_wr Wh37
    have zh37 := Kh37.1
    have f39 : Fld Z h37 pa0 "java/lang/String" "coder" "B" (.int (0 : Int32)) := f35.same Wh37
    have f40 : Fld Z h37 pa0 "java/lang/String" "value" "[B" .null := f38.other Wh37 (Or.inr (slot_ne (a0 := a0) (C := "java/lang/String") (t := (.array .byte)) (t' := .byte) (Or.inr (w16 hw)) (Or.inr (w17 hw)) (by decide) (by decide) (by decide)))
    refine Ow.aloadN (pc' := 52) B e2_51 ?_
    refine Ow.aload (pc' := 54) B e2_52 ?_
    have f41 := f36.keep Kh37
    refine Ow.putfield (pc' := 57) (ty := (.array .byte)) B e2_54 (w20 hw) Via.refl f40 f41 (Or.inr ⟨(w16 hw), rfl, rfl⟩) (w2 hw) (Or.inl (by simp)) ?_
    intro h42 Wh42
    have Kh42 := Keep.of_wr Wh42
    have zh42 := Kh42.1
    have f43 : Fld Z h42 pa0 "java/lang/String" "value" "[B" (.ref r27) := f40.same Wh42
    have f44 : Fld Z h42 pa0 "java/lang/String" "coder" "B" (.int (0 : Int32)) := f39.other Wh42 (Or.inr (slot_ne (a0 := a0) (C := "java/lang/String") (t := .byte) (t' := (.array .byte)) (Or.inr (w17 hw)) (Or.inr (w16 hw)) (by decide) (by decide) (by decide)))
    have f45 := f41.keep Kh42
    have f46 := f30.keep Kh37 (Ow.ninS (by omega) Ow.nin0)
    have f47 := f46.keep Kh42 (Ow.ninS (by omega) Ow.nin0)
    have s48 : Ow.Chs Z h42 pa0 r27 k28 [px0] := ⟨f45, f43, (Ow.allI ⟨(hk1), (hk0)⟩ Ow.allI0), Or.inl ⟨f44, f47, (Ow.allI (c29) Ow.allI0)⟩⟩
    exact Ow.retV (S' := []) B e2_57 (⟨r27, k28, rfl, ((((Keep.refl _ [pa0]).trans Kh3 (fun _ q => nomatch q)).trans Kh37 (allS (Or.inl (by simp)) all0)).trans Kh42 (allS (Or.inl (by simp)) all0)), (by omega), s48, rfl⟩)
set_option maxRecDepth 65536 in
set_option maxHeartbeats 40000000 in
theorem con_init_18 {l : Launch} {Z : State} {n0 : Nat} {a0 : Array Value} {cz : Int32} {sf : Value} (hw : Hw a0 Z) (G : Ow.Glo Z cz sf) (GS : GlS Z) {pa0 : Nat} {pa1 : Nat} {px0 : Int32} {pk0 : ClassId} {h0 : Heap} (O0 : Old Z n0 h0) (hf0 : Exa Z h0 pa0 "java/lang/String") (hf1 : Fld Z h0 pa0 "java/lang/String" "coder" "B" (.int (0 : Int32))) (hf2 : Fld Z h0 pa0 "java/lang/String" "value" "[B" .null) (hf3 : Arv Z h0 pa1 pk0 .char (1 : Int32) [(.int px0)] (.int 0)) (hn0 : n0 ≤ pa0) (hn1 : n0 ≤ pa1) (hk0 : ¬ ((65535 : Int32) < px0)) (hk1 : ¬ (px0 < (0 : Int32))) (hc_px0 : nar .char px0 = px0) :
    Ow.Con l Z EL1 n0 my1 jdk_42_method_3_code 2 (Option.none : Option Jvm.ClassFile.FieldType) [] ({ frames := 5, cells := 2, slots := 3, locals := 74 } : Room) #[(.ref pa0), (.ref pa1)] [pa0] h0 (fun v h S' => (∃ r0 : Nat, ∃ k0 : ClassId, v = none ∧ Keep h0 h [pa0] ∧ h0.size ≤ r0 ∧ Ow.Chs Z h pa0 r0 k0 [px0] ∧ S' = [])) := by
  refine Ow.Con.enter (Ls := #[.val (.ref pa0), .val (.ref pa1)]) (plainFor_of_name pn0) O0 (hEW hw) (hSA hw) ?_
  intro p e s m below meth c B
  have z0 := Ow.old_le O0
  have lpa0 : (pa0 : Nat) < h0.size := hf0.lt
  have lpa1 : (pa1 : Nat) < h0.size := hf3.lt
  refine Ow.aloadN (pc' := 1) B e1_0 ?_
  refine Ow.aloadN (pc' := 2) B e1_1 ?_
  refine Ow.iconst (pc' := 3) (x := (0 : Int32)) B e1_2 ?_
  refine Ow.aloadN (pc' := 4) B e1_3 ?_
  refine Ow.arrlen (pc' := 5) B e1_4 hf3 ?_
  refine Ow.aconstNull (pc' := 6) B e1_5 ?_
  refine Ow.Go.old (fun o1 => ?_)
  refine Ow.callInit (pc' := 9) (W := 0) (k' := 2) (n' := 3) (argsL := [(.ref pa1), (.int (0 : Int32)), (.int (1 : Int32)), .null]) (rest := []) B e1_6 (w7 hw) (w8 hw) (w3 hw) (w10 hw) (con_init_17 hw G GS (pa0 := pa0) (pa1 := pa1) (px0 := px0) (pk0 := pk0) o1 hf0 hf1 hf2 hf3 (by omega) (by omega) (hk0) (hk1) hc_px0) pd0 ?_
  intro vq2 h3 S4 q2 zh3
  obtain ⟨r5, k6, rfl, Kh3, br5, f7, rfl⟩ := q2
  have lr5 : (r5 : Nat) < h3.size := f7.ltt
  refine Ow.Go.norm (S' := [pa0]) (st' := []) (fun _ q => List.mem_append_right _ q) rfl ?_
  exact Ow.retV (S' := []) B e1_9 (⟨r5, k6, rfl, ((Keep.refl _ [pa0]).trans Kh3 (allS (Or.inl (by simp)) all0)), (by omega), f7, rfl⟩)
set_option maxRecDepth 65536 in
set_option maxHeartbeats 40000000 in
theorem con_length_19 {l : Launch} {Z : State} {n0 : Nat} {a0 : Array Value} {cz : Int32} {sf : Value} (hw : Hw a0 Z) (G : Ow.Glo Z cz sf) (GS : GlS Z) {pa0 : Nat} {pa1 : Nat} {px0 : Int32} {pk0 : ClassId} {h0 : Heap} (O0 : Old Z n0 h0) (hf0 : Ow.Chs Z h0 pa0 pa1 pk0 [px0]) (hn0 : n0 ≤ pa0) (hn1 : n0 ≤ pa1) (hc_px0 : nar .char px0 = px0) :
    Ow.Con l Z EL1 n0 my3 jdk_42_method_54_code 1 (Option.some Jvm.ClassFile.FieldType.int) [] ({ frames := 1, cells := 0, slots := 0, locals := 13 } : Room) #[(.ref pa0)] [] h0 (fun v h S' => (v = some (.int (1 : Int32)) ∧ h = h0 ∧ S' = [])) := by
  rcases hf0.2.2.2 with ⟨oc_hf0, oa_hf0, ol_hf0⟩ | ⟨oc_hf0, oa_hf0⟩
  · refine Ow.Con.enter (Ls := #[.val (.ref pa0)]) (plainFor_of_name pn0) O0 (hEW hw) (hSA hw) ?_
    intro p e s m below meth c B
    have z0 := Ow.old_le O0
    have oE_hf0 := hf0.1
    have oV_hf0 := hf0.2.1
    have oR_hf0 := hf0.2.2.1
    have oA_hf0 : Arv Z h0 pa1 pk0 .byte (1 : Int32) [(.int px0.toInt8.toInt32)] (.int 0) := oa_hf0
    have lpa0 : (pa0 : Nat) < h0.size := hf0.lt
    have lpa1 : (pa1 : Nat) < h0.size := oA_hf0.lt
    have lpa1 : (pa1 : Nat) < h0.size := hf0.ltt
    refine Ow.aloadN (pc' := 1) B e3_0 ?_
    refine Ow.getfield (pc' := 4) B e3_1 (w20 hw) Via.refl oV_hf0 ?_
    refine Ow.arrlen (pc' := 5) B e3_4 oA_hf0 ?_
    refine Ow.aloadN (pc' := 6) B e3_5 ?_
    refine Ow.Go.old (fun o1 => ?_)
    refine Ow.callVirtual (pc' := 9) (W := 1) (k' := 0) (n' := 0) (argsL := []) (rest := [(.int (1 : Int32))]) (K := "java/lang/String") B e3_6 (w31 hw) (w32 hw) (w34 hw) (w34 hw) (w33 hw) (w3 hw) (w35 hw) oE_hf0 (con_coder_3 hw G GS (pa0 := pa0) o1 oc_hf0 (by omega)) pd2 ?_
    intro vq2 h3 S4 q2 zh3
    obtain ⟨rfl, rfl, rfl⟩ := q2
    refine Ow.Go.norm (S' := []) (st' := [(.int (0 : Int32)), (.int (1 : Int32))]) (fun _ q => List.mem_append_right _ q) rfl ?_
    refine Ow.ishr (pc' := 10) (z := (1 : Int32)) B e3_9 ?_
    exact Ow.retI (S' := []) (t := .int) B e3_10 (⟨rfl, rfl, rfl⟩)
  · refine Ow.Con.enter (Ls := #[.val (.ref pa0)]) (plainFor_of_name pn0) O0 (hEW hw) (hSA hw) ?_
    intro p e s m below meth c B
    have z0 := Ow.old_le O0
    have oE_hf0 := hf0.1
    have oV_hf0 := hf0.2.1
    have oR_hf0 := hf0.2.2.1
    have oA_hf0 : Arv Z h0 pa1 pk0 .byte (2 : Int32) [(.int px0.toInt8.toInt32), (.int (px0 >>> ((8 : Int32) &&& 31)).toInt8.toInt32)] (.int 0) := oa_hf0
    have lpa0 : (pa0 : Nat) < h0.size := hf0.lt
    have lpa1 : (pa1 : Nat) < h0.size := oA_hf0.lt
    have lpa1 : (pa1 : Nat) < h0.size := hf0.ltt
    refine Ow.aloadN (pc' := 1) B e3_0 ?_
    refine Ow.getfield (pc' := 4) B e3_1 (w20 hw) Via.refl oV_hf0 ?_
    refine Ow.arrlen (pc' := 5) B e3_4 oA_hf0 ?_
    refine Ow.aloadN (pc' := 6) B e3_5 ?_
    refine Ow.Go.old (fun o1 => ?_)
    refine Ow.callVirtual (pc' := 9) (W := 1) (k' := 0) (n' := 0) (argsL := []) (rest := [(.int (2 : Int32))]) (K := "java/lang/String") B e3_6 (w31 hw) (w32 hw) (w34 hw) (w34 hw) (w33 hw) (w3 hw) (w35 hw) oE_hf0 (con_coder_4 hw G GS (pa0 := pa0) o1 oc_hf0 (by omega)) pd2 ?_
    intro vq2 h3 S4 q2 zh3
    obtain ⟨rfl, rfl, rfl⟩ := q2
    refine Ow.Go.norm (S' := []) (st' := [(.int (1 : Int32)), (.int (2 : Int32))]) (fun _ q => List.mem_append_right _ q) rfl ?_
    refine Ow.ishr (pc' := 10) (z := (1 : Int32)) B e3_9 ?_
    exact Ow.retI (S' := []) (t := .int) B e3_10 (⟨rfl, rfl, rfl⟩)
set_option maxRecDepth 65536 in
set_option maxHeartbeats 40000000 in
theorem con_isTag_20 {l : Launch} {Z : State} {n0 : Nat} {a0 : Array Value} {cz : Int32} {sf : Value} (hw : Hw a0 Z) (G : Ow.Glo Z cz sf) (GS : GlS Z) {pa0 : Nat} {pa1 : Nat} {px0 : Int32} {pk0 : ClassId} {h0 : Heap} (O0 : Old Z n0 h0) (hf0 : Ow.Chs Z h0 pa0 pa1 pk0 [px0]) (hn0 : n0 ≤ pa0) (hn1 : n0 ≤ pa1) (hc_px0 : nar .char px0 = px0) :
    Ow.Con l Z EL1 n0 my4 prog_8_method_2_code 3 (Option.some Jvm.ClassFile.FieldType.boolean) [] ({ frames := 2, cells := 0, slots := 0, locals := 25 } : Room) #[(.ref pa0)] [] h0 (fun v h S' => (v = some (.int (0 : Int32)) ∧ h = h0 ∧ S' = [])) := by
  refine Ow.Con.enter (Ls := #[.val (.ref pa0), .unset, .unset]) (plainFor_of_name pn1) O0 (hEW hw) (hSA hw) ?_
  intro p e s m below meth c B
  have z0 := Ow.old_le O0
  have lpa0 : (pa0 : Nat) < h0.size := hf0.lt
  have lpa1 : (pa1 : Nat) < h0.size := hf0.ltt
  refine Ow.aloadN (pc' := 1) B e0_0 ?_
  refine Ow.Go.old (fun o1 => ?_)
  refine Ow.callVirtual (pc' := 4) (W := 0) (k' := 0) (n' := 0) (argsL := []) (rest := []) (K := "java/lang/String") B e0_1 (w26 hw) (w27 hw) (w29 hw) (w29 hw) (w28 hw) (w3 hw) (w30 hw) (hf0).1 (con_length_19 hw G GS (pa0 := pa0) (pa1 := pa1) (px0 := px0) (pk0 := pk0) o1 hf0 (by omega) (by omega) hc_px0) pd3 ?_
  intro vq2 h3 S4 q2 zh3
  obtain ⟨rfl, rfl, rfl⟩ := q2
  refine Ow.Go.norm (S' := []) (st' := [(.int (1 : Int32))]) (fun _ q => List.mem_append_right _ q) rfl ?_
  refine Ow.iconst (pc' := 5) (x := (3 : Int32)) B e0_4 ?_
  refine Ow.icmpF (pc' := 8) B e0_5 (by decide) ?_
  refine Ow.iconst (pc' := 9) (x := (0 : Int32)) B e0_8 ?_
  exact Ow.retI (S' := []) (t := .boolean) B e0_9 (⟨rfl, rfl, rfl⟩)
set_option maxRecDepth 65536 in
set_option maxHeartbeats 40000000 in
theorem con_compress_21 {l : Launch} {Z : State} {n0 : Nat} {a0 : Array Value} {cz : Int32} {sf : Value} (hw : Hw a0 Z) (G : Ow.Glo Z cz sf) (GS : GlS Z) {pa0 : Nat} {pa1 : Nat} {px0 : Int32} {px1 : Int32} {pk0 : ClassId} {pk1 : ClassId} {h0 : Heap} (O0 : Old Z n0 h0) (hf0 : Arv Z h0 pa0 pk0 .char (2 : Int32) [(.int px0), (.int px1)] (.int 0)) (hf1 : Arv Z h0 pa1 pk1 .byte (2 : Int32) [(.int (0 : Int32)), (.int (0 : Int32))] (.int 0)) (hn0 : n0 ≤ pa0) (hn1 : n0 ≤ pa1) (hd0 : pa0 ≠ pa1) (hc_px0 : nar .char px0 = px0) (hc_px1 : nar .char px1 = px1) :
    Ow.Con l Z EL1 n0 my6 jdk_52_method_21_code 7 (Option.some Jvm.ClassFile.FieldType.int) [] ({ frames := 0, cells := 0, slots := 0, locals := 0 } : Room) #[(.ref pa0), (.int (0 : Int32)), (.ref pa1), (.int (0 : Int32)), (.int (2 : Int32))] [pa1] h0 (fun v h S' => (v = some (.int (0 : Int32)) ∧ h = h0 ∧ (255 : Int32) < px0 ∧ S' = []) ∨ (v = some (.int (1 : Int32)) ∧ Keep h0 h [pa1] ∧ ¬ ((255 : Int32) < px0) ∧ (255 : Int32) < px1 ∧ Arv Z h pa1 pk1 .byte (2 : Int32) [(.int px0.toInt8.toInt32), (.int (0 : Int32))] (.int 0) ∧ S' = []) ∨ (v = some (.int (2 : Int32)) ∧ Keep h0 h [pa1] ∧ ¬ ((255 : Int32) < px0) ∧ ¬ ((255 : Int32) < px1) ∧ Arv Z h pa1 pk1 .byte (2 : Int32) [(.int px0.toInt8.toInt32), (.int px1.toInt8.toInt32)] (.int 0) ∧ S' = [])) := by
  refine Ow.Con.enter (Ls := #[.val (.ref pa0), .val (.int (0 : Int32)), .val (.ref pa1), .val (.int (0 : Int32)), .val (.int (2 : Int32)), .unset, .unset]) (plainFor_of_name pn3) O0 (hEW hw) (hSA hw) ?_
  intro p e s m below meth c B
  have z0 := Ow.old_le O0
  have lpa0 : (pa0 : Nat) < h0.size := hf0.lt
  have lpa1 : (pa1 : Nat) < h0.size := hf1.lt
  refine Ow.iconst (pc' := 1) (x := (0 : Int32)) B e7_0 ?_
  refine Ow.istore (pc' := 3) (Ls' := #[.val (.ref pa0), .val (.int (0 : Int32)), .val (.ref pa1), .val (.int (0 : Int32)), .val (.int (2 : Int32)), .val (.int (0 : Int32)), .unset]) B e7_1 ?_
  refine Ow.iload (pc' := 5) B e7_3 ?_
  refine Ow.iload (pc' := 7) B e7_5 ?_
  refine Ow.icmpF (pc' := 10) B e7_7 (by decide) ?_
  refine Ow.aloadN (pc' := 11) B e7_10 ?_
  refine Ow.iloadN (pc' := 12) B e7_11 ?_
  refine Ow.caload (pc' := 13) B e7_12 hf0 ⟨by decide, by decide⟩ rfl ?_
  refine Ow.istore (pc' := 15) (Ls' := #[.val (.ref pa0), .val (.int (0 : Int32)), .val (.ref pa1), .val (.int (0 : Int32)), .val (.int (2 : Int32)), .val (.int (0 : Int32)), .val (.int px0)]) B e7_13 ?_
  refine Ow.iload (pc' := 17) B e7_15 ?_
  refine Ow.sipush (pc' := 20) (x := (255 : Int32)) B e7_17 ?_
  by_cases c1 : (255 : Int32) < px0
  · refine Ow.icmpF (pc' := 23) B e7_20 (tlt c1).2.2.2 ?_
    refine Ow.iload (pc' := 25) B e7_23 ?_
    exact Ow.retI (S' := []) (t := .int) B e7_25 (Or.inl (⟨rfl, rfl, c1, rfl⟩))
  · refine Ow.icmpT (pc' := 26) B e7_20 (flt c1).2.2.2 ?_
    refine Ow.aloadN (pc' := 27) B e7_26 ?_
    refine Ow.iloadN (pc' := 28) B e7_27 ?_
    refine Ow.iload (pc' := 30) B e7_28 ?_
    refine Ow.i2b (pc' := 31) (z := px0.toInt8.toInt32) B e7_30 ?_
    refine Ow.bastore (pc' := 32) (i := 0) B e7_31 hf1 ⟨by decide, by decide⟩ (by simp) ?_
    intro h2 Kh2 V0h2
    have zh2 := Kh2.1
    have V3 : Arv Z h2 pa1 pk1 .byte (2 : Int32) [(.int px0.toInt8.toInt32), (.int (0 : Int32))] (.int 0) := (by have e0 := V0h2; rw [show nar .byte px0.toInt8.toInt32 = px0.toInt8.toInt32 from Ow.nar_b _] at e0; exact e0)
    refine Ow.iinc (pc' := 35) (y := (1 : Int32)) (Ls' := #[.val (.ref pa0), .val (.int (1 : Int32)), .val (.ref pa1), .val (.int (0 : Int32)), .val (.int (2 : Int32)), .val (.int (0 : Int32)), .val (.int px0)]) B e7_32 ?_
    refine Ow.iinc (pc' := 38) (y := (1 : Int32)) (Ls' := #[.val (.ref pa0), .val (.int (1 : Int32)), .val (.ref pa1), .val (.int (1 : Int32)), .val (.int (2 : Int32)), .val (.int (0 : Int32)), .val (.int px0)]) B e7_35 ?_
    refine Ow.iinc (pc' := 41) (y := (1 : Int32)) (Ls' := #[.val (.ref pa0), .val (.int (1 : Int32)), .val (.ref pa1), .val (.int (1 : Int32)), .val (.int (2 : Int32)), .val (.int (1 : Int32)), .val (.int px0)]) B e7_38 ?_
    refine Ow.goto (pc' := 3) B e7_41 ?_
    refine Ow.iload (pc' := 5) B e7_3 ?_
    refine Ow.iload (pc' := 7) B e7_5 ?_
    refine Ow.icmpF (pc' := 10) B e7_7 (by decide) ?_
    refine Ow.aloadN (pc' := 11) B e7_10 ?_
    refine Ow.iloadN (pc' := 12) B e7_11 ?_
    have f4 := hf0.keep Kh2 (Ow.ninS (by omega) Ow.nin0)
    refine Ow.caload (pc' := 13) B e7_12 f4 ⟨by decide, by decide⟩ rfl ?_
    refine Ow.istore (pc' := 15) (Ls' := #[.val (.ref pa0), .val (.int (1 : Int32)), .val (.ref pa1), .val (.int (1 : Int32)), .val (.int (2 : Int32)), .val (.int (1 : Int32)), .val (.int px1)]) B e7_13 ?_
    refine Ow.iload (pc' := 17) B e7_15 ?_
    refine Ow.sipush (pc' := 20) (x := (255 : Int32)) B e7_17 ?_
    by_cases c5 : (255 : Int32) < px1
    · refine Ow.icmpF (pc' := 23) B e7_20 (tlt c5).2.2.2 ?_
      refine Ow.iload (pc' := 25) B e7_23 ?_
      exact Ow.retI (S' := []) (t := .int) B e7_25 (Or.inr (Or.inl (⟨rfl, ((Keep.refl _ [pa1]).trans Kh2 (allS (Or.inl (by simp)) all0)), c1, c5, V3, rfl⟩)))
    · refine Ow.icmpT (pc' := 26) B e7_20 (flt c5).2.2.2 ?_
      refine Ow.aloadN (pc' := 27) B e7_26 ?_
      refine Ow.iloadN (pc' := 28) B e7_27 ?_
      refine Ow.iload (pc' := 30) B e7_28 ?_
      refine Ow.i2b (pc' := 31) (z := px1.toInt8.toInt32) B e7_30 ?_
      refine Ow.bastore (pc' := 32) (i := 1) B e7_31 V3 ⟨by decide, by decide⟩ (by simp) ?_
      intro h6 Kh6 V0h6
      have zh6 := Kh6.1
      have V7 : Arv Z h6 pa1 pk1 .byte (2 : Int32) [(.int px0.toInt8.toInt32), (.int px1.toInt8.toInt32)] (.int 0) := (by have e0 := V0h6; rw [show nar .byte px1.toInt8.toInt32 = px1.toInt8.toInt32 from Ow.nar_b _] at e0; exact e0)
      refine Ow.iinc (pc' := 35) (y := (2 : Int32)) (Ls' := #[.val (.ref pa0), .val (.int (2 : Int32)), .val (.ref pa1), .val (.int (1 : Int32)), .val (.int (2 : Int32)), .val (.int (1 : Int32)), .val (.int px1)]) B e7_32 ?_
      refine Ow.iinc (pc' := 38) (y := (2 : Int32)) (Ls' := #[.val (.ref pa0), .val (.int (2 : Int32)), .val (.ref pa1), .val (.int (2 : Int32)), .val (.int (2 : Int32)), .val (.int (1 : Int32)), .val (.int px1)]) B e7_35 ?_
      refine Ow.iinc (pc' := 41) (y := (2 : Int32)) (Ls' := #[.val (.ref pa0), .val (.int (2 : Int32)), .val (.ref pa1), .val (.int (2 : Int32)), .val (.int (2 : Int32)), .val (.int (2 : Int32)), .val (.int px1)]) B e7_38 ?_
      refine Ow.goto (pc' := 3) B e7_41 ?_
      refine Ow.iload (pc' := 5) B e7_3 ?_
      refine Ow.iload (pc' := 7) B e7_5 ?_
      refine Ow.icmpT (pc' := 44) B e7_7 (by decide) ?_
      refine Ow.iload (pc' := 46) B e7_44 ?_
      exact Ow.retI (S' := []) (t := .int) B e7_46 (Or.inr (Or.inr (⟨rfl, (((Keep.refl _ [pa1]).trans Kh2 (allS (Or.inl (by simp)) all0)).trans Kh6 (allS (Or.inl (by simp)) all0)), c1, c5, V7, rfl⟩)))
set_option maxRecDepth 65536 in
set_option maxHeartbeats 40000000 in
theorem con_newBytesLength_22 {l : Launch} {Z : State} {n0 : Nat} {a0 : Array Value} {cz : Int32} {sf : Value} (hw : Hw a0 Z) (G : Ow.Glo Z cz sf) (GS : GlS Z) {h0 : Heap} (O0 : Old Z n0 h0) :
    Ow.Con l Z EL1 n0 my7 jdk_52_method_3_code 1 (Option.some Jvm.ClassFile.FieldType.int) [] ({ frames := 0, cells := 0, slots := 0, locals := 0 } : Room) #[(.int (2 : Int32))] [] h0 (fun v h S' => (v = some (.int (4 : Int32)) ∧ h = h0 ∧ S' = [])) := by
  refine Ow.Con.enter (Ls := #[.val (.int (2 : Int32))]) (plainFor_of_name pn3) O0 (hEW hw) (hSA hw) ?_
  intro p e s m below meth c B
  have z0 := Ow.old_le O0
  refine Ow.iloadN (pc' := 1) B e10_0 ?_
  refine Ow.ifT (pc' := 12) B e10_1 (by decide) ?_
  refine Ow.iloadN (pc' := 13) B e10_12 ?_
  refine Ow.ldcInt (pc' := 15) B e10_13 (w86 hw) ?_
  refine Ow.icmpT (pc' := 55) B e10_15 (by decide) ?_
  refine Ow.iloadN (pc' := 56) B e10_55 ?_
  refine Ow.iconst (pc' := 57) (x := (1 : Int32)) B e10_56 ?_
  refine Ow.ishl (pc' := 58) (z := (4 : Int32)) B e10_57 ?_
  exact Ow.retI (S' := []) (t := .int) B e10_58 (⟨rfl, rfl, rfl⟩)
set_option maxRecDepth 65536 in
set_option maxHeartbeats 40000000 in
theorem con_newBytesFor_23 {l : Launch} {Z : State} {n0 : Nat} {a0 : Array Value} {cz : Int32} {sf : Value} (hw : Hw a0 Z) (G : Ow.Glo Z cz sf) (GS : GlS Z) {h0 : Heap} (O0 : Old Z n0 h0) :
    Ow.Con l Z EL1 n0 my8 jdk_52_method_2_code 1 (Option.some (Jvm.ClassFile.FieldType.array Jvm.ClassFile.FieldType.byte)) [] ({ frames := 1, cells := 1, slots := 4, locals := 12 } : Room) #[(.int (2 : Int32))] [] h0 (fun v h S' => (∃ r0 : Nat, ∃ k0 : ClassId, v = some (.ref r0) ∧ Keep h0 h [] ∧ h0.size ≤ r0 ∧ Arv Z h r0 k0 .byte (4 : Int32) [(.int (0 : Int32)), (.int (0 : Int32)), (.int (0 : Int32)), (.int (0 : Int32))] (.int 0) ∧ S' = [r0])) := by
  refine Ow.Con.enter (Ls := #[.val (.int (2 : Int32))]) (plainFor_of_name pn3) O0 (hEW hw) (hSA hw) ?_
  intro p e s m below meth c B
  have z0 := Ow.old_le O0
  refine Ow.iloadN (pc' := 1) B e9_0 ?_
  refine Ow.Go.old (fun o1 => ?_)
  refine Ow.callStatic (pc' := 4) (W := 0) (k' := 0) (n' := 0) (argsL := [(.int (2 : Int32))]) (rest := []) B e9_1 (w83 hw) (w84 hw) (w44 hw) (w85 hw) (con_newBytesLength_22 hw G GS o1) pd7 ?_
  intro vq2 h3 S4 q2 zh3
  obtain ⟨rfl, rfl, rfl⟩ := q2
  refine Ow.Go.norm (S' := []) (st' := [(.int (4 : Int32))]) (fun _ q => List.mem_append_right _ q) rfl ?_
  refine Ow.newArr (pc' := 6) (k' := 1) (n' := 4) (cap := 4) B e9_4 (w15 hw) (by decide) (by decide) ?_
  intro h6 a5 ka5 ga5 ba5 Kh6 V0a5
  have zh6 := Kh6.1
  have la5 : (a5 : Nat) < h6.size := V0a5.lt
  have Va5 : Arv Z h6 a5 ka5 .byte (4 : Int32) [(.int 0), (.int 0), (.int 0), (.int 0)] (.int 0) := V0a5.pad (pad_rep [] (.int 0) 4)
  exact Ow.retA (S' := [a5]) (t := (.array .byte)) B e9_6 (⟨a5, ka5, rfl, ((Keep.refl _ []).trans Kh6 (fun _ q => nomatch q)), (by omega), Va5, rfl⟩)
set_option maxRecDepth 65536 in
set_option maxHeartbeats 40000000 in
theorem con_putChar_24 {l : Launch} {Z : State} {n0 : Nat} {a0 : Array Value} {cz : Int32} {sf : Value} (hw : Hw a0 Z) (G : Ow.Glo Z cz sf) (GS : GlS Z) {pa0 : Nat} {px0 : Int32} {pk0 : ClassId} {h0 : Heap} (O0 : Old Z n0 h0) (hf0 : Arv Z h0 pa0 pk0 .byte (4 : Int32) [(.int (0 : Int32)), (.int (0 : Int32)), (.int (0 : Int32)), (.int (0 : Int32))] (.int 0)) (hn0 : n0 ≤ pa0) (hc_px0 : nar .char px0 = px0) :
    Ow.Con l Z EL1 n0 my9 jdk_52_method_4_code 3 (Option.none : Option Jvm.ClassFile.FieldType) [] ({ frames := 0, cells := 0, slots := 0, locals := 0 } : Room) #[(.ref pa0), (.int (0 : Int32)), (.int px0)] [pa0] h0 (fun v h S' => (v = none ∧ Keep h0 h [pa0] ∧ Arv Z h pa0 pk0 .byte (4 : Int32) [(.int px0.toInt8.toInt32), (.int (px0 >>> ((8 : Int32) &&& 31)).toInt8.toInt32), (.int (0 : Int32)), (.int (0 : Int32))] (.int 0) ∧ S' = [])) := by
  refine Ow.Con.enter (Ls := #[.val (.ref pa0), .val (.int (0 : Int32)), .val (.int px0)]) (plainFor_of_name pn3) O0 (hEW hw) (hSA hw) ?_
  intro p e s m below meth c B
  have z0 := Ow.old_le O0
  have lpa0 : (pa0 : Nat) < h0.size := hf0.lt
  refine Ow.getstatic (pc' := 3) B e11_0 (w90 hw) Via.refl GS.1 ?_
  refine Ow.ifT (pc' := 28) B e11_3 (by decide) ?_
  refine Ow.iloadN (pc' := 29) B e11_28 ?_
  refine Ow.iconst (pc' := 30) (x := (1 : Int32)) B e11_29 ?_
  refine Ow.ishl (pc' := 31) (z := (0 : Int32)) B e11_30 ?_
  refine Ow.istoreN (pc' := 32) (Ls' := #[.val (.ref pa0), .val (.int (0 : Int32)), .val (.int px0)]) B e11_31 ?_
  refine Ow.aloadN (pc' := 33) B e11_32 ?_
  refine Ow.iloadN (pc' := 34) B e11_33 ?_
  refine Ow.iinc (pc' := 37) (y := (1 : Int32)) (Ls' := #[.val (.ref pa0), .val (.int (1 : Int32)), .val (.int px0)]) B e11_34 ?_
  refine Ow.iloadN (pc' := 38) B e11_37 ?_
  refine Ow.getstatic (pc' := 41) B e11_38 (w91 hw) Via.refl GS.2.1 ?_
  refine Ow.ishr (pc' := 42) (z := px0) (hz := (Ow.shr0 _)) B e11_41 ?_
  refine Ow.i2b (pc' := 43) (z := px0.toInt8.toInt32) B e11_42 ?_
  refine Ow.bastore (pc' := 44) (i := 0) B e11_43 hf0 ⟨by decide, by decide⟩ (by simp) ?_
  intro h1 Kh1 V0h1
  have zh1 := Kh1.1
  have V2 : Arv Z h1 pa0 pk0 .byte (4 : Int32) [(.int px0.toInt8.toInt32), (.int (0 : Int32)), (.int (0 : Int32)), (.int (0 : Int32))] (.int 0) := (by have e0 := V0h1; rw [show nar .byte px0.toInt8.toInt32 = px0.toInt8.toInt32 from Ow.nar_b _] at e0; exact e0)
  refine Ow.aloadN (pc' := 45) B e11_44 ?_
  refine Ow.iloadN (pc' := 46) B e11_45 ?_
  refine Ow.iloadN (pc' := 47) B e11_46 ?_
  refine Ow.getstatic (pc' := 50) B e11_47 (w92 hw) Via.refl GS.2.2 ?_
  refine Ow.ishr (pc' := 51) (z := (px0 >>> ((8 : Int32) &&& 31))) B e11_50 ?_
  refine Ow.i2b (pc' := 52) (z := (px0 >>> ((8 : Int32) &&& 31)).toInt8.toInt32) B e11_51 ?_
  refine Ow.bastore (pc' := 53) (i := 1) B e11_52 V2 ⟨by decide, by decide⟩ (by simp) ?_
  intro h3 Kh3 V0h3
  have zh3 := Kh3.1
  have V4 : Arv Z h3 pa0 pk0 .byte (4 : Int32) [(.int px0.toInt8.toInt32), (.int (px0 >>> ((8 : Int32) &&& 31)).toInt8.toInt32), (.int (0 : Int32)), (.int (0 : Int32))] (.int 0) := (by have e0 := V0h3; rw [show nar .byte (px0 >>> ((8 : Int32) &&& 31)).toInt8.toInt32 = (px0 >>> ((8 : Int32) &&& 31)).toInt8.toInt32 from Ow.nar_b _] at e0; exact e0)
  exact Ow.retV (S' := []) B e11_53 (⟨rfl, (((Keep.refl _ [pa0]).trans Kh1 (allS (Or.inl (by simp)) all0)).trans Kh3 (allS (Or.inl (by simp)) all0)), V4, rfl⟩)
set_option maxRecDepth 65536 in
set_option maxHeartbeats 40000000 in
theorem con_putChar_25 {l : Launch} {Z : State} {n0 : Nat} {a0 : Array Value} {cz : Int32} {sf : Value} (hw : Hw a0 Z) (G : Ow.Glo Z cz sf) (GS : GlS Z) {pa0 : Nat} {px0 : Int32} {px1 : Int32} {pk0 : ClassId} {h0 : Heap} (O0 : Old Z n0 h0) (hf0 : Arv Z h0 pa0 pk0 .byte (4 : Int32) [(.int px1.toInt8.toInt32), (.int (px1 >>> ((8 : Int32) &&& 31)).toInt8.toInt32), (.int (0 : Int32)), (.int (0 : Int32))] (.int 0)) (hn0 : n0 ≤ pa0) (hc_px0 : nar .char px0 = px0) (hc_px1 : nar .char px1 = px1) :
    Ow.Con l Z EL1 n0 my9 jdk_52_method_4_code 3 (Option.none : Option Jvm.ClassFile.FieldType) [] ({ frames := 0, cells := 0, slots := 0, locals := 0 } : Room) #[(.ref pa0), (.int (1 : Int32)), (.int px0)] [pa0] h0 (fun v h S' => (v = none ∧ Keep h0 h [pa0] ∧ Arv Z h pa0 pk0 .byte (4 : Int32) [(.int px1.toInt8.toInt32), (.int (px1 >>> ((8 : Int32) &&& 31)).toInt8.toInt32), (.int px0.toInt8.toInt32), (.int (px0 >>> ((8 : Int32) &&& 31)).toInt8.toInt32)] (.int 0) ∧ S' = [])) := by
  refine Ow.Con.enter (Ls := #[.val (.ref pa0), .val (.int (1 : Int32)), .val (.int px0)]) (plainFor_of_name pn3) O0 (hEW hw) (hSA hw) ?_
  intro p e s m below meth c B
  have z0 := Ow.old_le O0
  have lpa0 : (pa0 : Nat) < h0.size := hf0.lt
  refine Ow.getstatic (pc' := 3) B e11_0 (w90 hw) Via.refl GS.1 ?_
  refine Ow.ifT (pc' := 28) B e11_3 (by decide) ?_
  refine Ow.iloadN (pc' := 29) B e11_28 ?_
  refine Ow.iconst (pc' := 30) (x := (1 : Int32)) B e11_29 ?_
  refine Ow.ishl (pc' := 31) (z := (2 : Int32)) B e11_30 ?_
  refine Ow.istoreN (pc' := 32) (Ls' := #[.val (.ref pa0), .val (.int (2 : Int32)), .val (.int px0)]) B e11_31 ?_
  refine Ow.aloadN (pc' := 33) B e11_32 ?_
  refine Ow.iloadN (pc' := 34) B e11_33 ?_
  refine Ow.iinc (pc' := 37) (y := (3 : Int32)) (Ls' := #[.val (.ref pa0), .val (.int (3 : Int32)), .val (.int px0)]) B e11_34 ?_
  refine Ow.iloadN (pc' := 38) B e11_37 ?_
  refine Ow.getstatic (pc' := 41) B e11_38 (w91 hw) Via.refl GS.2.1 ?_
  refine Ow.ishr (pc' := 42) (z := px0) (hz := (Ow.shr0 _)) B e11_41 ?_
  refine Ow.i2b (pc' := 43) (z := px0.toInt8.toInt32) B e11_42 ?_
  refine Ow.bastore (pc' := 44) (i := 2) B e11_43 hf0 ⟨by decide, by decide⟩ (by simp) ?_
  intro h1 Kh1 V0h1
  have zh1 := Kh1.1
  have V2 : Arv Z h1 pa0 pk0 .byte (4 : Int32) [(.int px1.toInt8.toInt32), (.int (px1 >>> ((8 : Int32) &&& 31)).toInt8.toInt32), (.int px0.toInt8.toInt32), (.int (0 : Int32))] (.int 0) := (by have e0 := V0h1; rw [show nar .byte px0.toInt8.toInt32 = px0.toInt8.toInt32 from Ow.nar_b _] at e0; exact e0)
  refine Ow.aloadN (pc' := 45) B e11_44 ?_
  refine Ow.iloadN (pc' := 46) B e11_45 ?_
  refine Ow.iloadN (pc' := 47) B e11_46 ?_
  refine Ow.getstatic (pc' := 50) B e11_47 (w92 hw) Via.refl GS.2.2 ?_
  refine Ow.ishr (pc' := 51) (z := (px0 >>> ((8 : Int32) &&& 31))) B e11_50 ?_
  refine Ow.i2b (pc' := 52) (z := (px0 >>> ((8 : Int32) &&& 31)).toInt8.toInt32) B e11_51 ?_
  refine Ow.bastore (pc' := 53) (i := 3) B e11_52 V2 ⟨by decide, by decide⟩ (by simp) ?_
  intro h3 Kh3 V0h3
  have zh3 := Kh3.1
  have V4 : Arv Z h3 pa0 pk0 .byte (4 : Int32) [(.int px1.toInt8.toInt32), (.int (px1 >>> ((8 : Int32) &&& 31)).toInt8.toInt32), (.int px0.toInt8.toInt32), (.int (px0 >>> ((8 : Int32) &&& 31)).toInt8.toInt32)] (.int 0) := (by have e0 := V0h3; rw [show nar .byte (px0 >>> ((8 : Int32) &&& 31)).toInt8.toInt32 = (px0 >>> ((8 : Int32) &&& 31)).toInt8.toInt32 from Ow.nar_b _] at e0; exact e0)
  exact Ow.retV (S' := []) B e11_53 (⟨rfl, (((Keep.refl _ [pa0]).trans Kh1 (allS (Or.inl (by simp)) all0)).trans Kh3 (allS (Or.inl (by simp)) all0)), V4, rfl⟩)
set_option maxRecDepth 65536 in
set_option maxHeartbeats 40000000 in
theorem con_toBytes_26 {l : Launch} {Z : State} {n0 : Nat} {a0 : Array Value} {cz : Int32} {sf : Value} (hw : Hw a0 Z) (G : Ow.Glo Z cz sf) (GS : GlS Z) {pa0 : Nat} {px0 : Int32} {px1 : Int32} {pk0 : ClassId} {h0 : Heap} (O0 : Old Z n0 h0) (hf0 : Arv Z h0 pa0 pk0 .char (2 : Int32) [(.int px0), (.int px1)] (.int 0)) (hn0 : n0 ≤ pa0) (hc_px0 : nar .char px0 = px0) (hc_px1 : nar .char px1 = px1) :
    Ow.Con l Z EL1 n0 my10 jdk_52_method_14_code 5 (Option.some (Jvm.ClassFile.FieldType.array Jvm.ClassFile.FieldType.byte)) [] ({ frames := 2, cells := 1, slots := 4, locals := 24 } : Room) #[(.ref pa0), (.int (0 : Int32)), (.int (2 : Int32))] [] h0 (fun v h S' => (∃ r0 : Nat, ∃ k0 : ClassId, v = some (.ref r0) ∧ Keep h0 h [] ∧ h0.size ≤ r0 ∧ Arv Z h r0 k0 .byte (4 : Int32) [(.int px0.toInt8.toInt32), (.int (px0 >>> ((8 : Int32) &&& 31)).toInt8.toInt32), (.int px1.toInt8.toInt32), (.int (px1 >>> ((8 : Int32) &&& 31)).toInt8.toInt32)] (.int 0) ∧ S' = [r0])) := by
  refine Ow.Con.enter (Ls := #[.val (.ref pa0), .val (.int (0 : Int32)), .val (.int (2 : Int32)), .unset, .unset]) (plainFor_of_name pn3) O0 (hEW hw) (hSA hw) ?_
  intro p e s m below meth c B
  have z0 := Ow.old_le O0
  have lpa0 : (pa0 : Nat) < h0.size := hf0.lt
  refine Ow.iloadN (pc' := 1) B e8_0 ?_
  refine Ow.Go.old (fun o1 => ?_)
  refine Ow.callStatic (pc' := 4) (W := 0) (k' := 1) (n' := 4) (argsL := [(.int (2 : Int32))]) (rest := []) B e8_1 (w80 hw) (w81 hw) (w44 hw) (w82 hw) (con_newBytesFor_23 hw G GS o1) pd8 ?_
  intro vq2 h3 S4 q2 zh3
  obtain ⟨r5, k6, rfl, Kh3, br5, f7, rfl⟩ := q2
  have lr5 : (r5 : Nat) < h3.size := f7.lt
  refine Ow.Go.norm (S' := [r5]) (st' := [(.ref r5)]) (fun _ q => q) rfl ?_
  refine Ow.astoreN (pc' := 5) (Ls' := #[.val (.ref pa0), .val (.int (0 : Int32)), .val (.int (2 : Int32)), .val (.ref r5), .unset]) B e8_4 ?_
  refine Ow.iconst (pc' := 6) (x := (0 : Int32)) B e8_5 ?_
  refine Ow.istore (pc' := 8) (Ls' := #[.val (.ref pa0), .val (.int (0 : Int32)), .val (.int (2 : Int32)), .val (.ref r5), .val (.int (0 : Int32))]) B e8_6 ?_
  refine Ow.iload (pc' := 10) B e8_8 ?_
  refine Ow.iloadN (pc' := 11) B e8_10 ?_
  refine Ow.icmpF (pc' := 14) B e8_11 (by decide) ?_
  refine Ow.aloadN (pc' := 15) B e8_14 ?_
  refine Ow.iload (pc' := 17) B e8_15 ?_
  refine Ow.aloadN (pc' := 18) B e8_17 ?_
  refine Ow.iloadN (pc' := 19) B e8_18 ?_
  have f8 := hf0.keep Kh3 Ow.nin0
  refine Ow.caload (pc' := 20) B e8_19 f8 ⟨by decide, by decide⟩ rfl ?_
  refine Ow.Go.old (fun o9 => ?_)
  refine Ow.callStatic (pc' := 23) (W := 0) (k' := 1) (n' := 4) (argsL := [(.ref r5), (.int (0 : Int32)), (.int px0)]) (rest := []) B e8_20 (w87 hw) (w88 hw) (w44 hw) (w89 hw) (con_putChar_24 hw G GS (pa0 := r5) (px0 := px0) (pk0 := k6) o9 f7 (by omega) hc_px0) pd9 ?_
  intro vq10 h11 S12 q10 zh11
  obtain ⟨rfl, Kh11, f13, rfl⟩ := q10
  refine Ow.Go.norm (S' := [r5]) (st' := []) (fun _ q => List.mem_append_right _ q) rfl ?_
  refine Ow.iinc (pc' := 26) (y := (1 : Int32)) (Ls' := #[.val (.ref pa0), .val (.int (1 : Int32)), .val (.int (2 : Int32)), .val (.ref r5), .val (.int (0 : Int32))]) B e8_23 ?_
  refine Ow.iinc (pc' := 29) (y := (1 : Int32)) (Ls' := #[.val (.ref pa0), .val (.int (1 : Int32)), .val (.int (2 : Int32)), .val (.ref r5), .val (.int (1 : Int32))]) B e8_26 ?_
  refine Ow.goto (pc' := 8) B e8_29 ?_
  refine Ow.iload (pc' := 10) B e8_8 ?_
  refine Ow.iloadN (pc' := 11) B e8_10 ?_
  refine Ow.icmpF (pc' := 14) B e8_11 (by decide) ?_
  refine Ow.aloadN (pc' := 15) B e8_14 ?_
  refine Ow.iload (pc' := 17) B e8_15 ?_
  refine Ow.aloadN (pc' := 18) B e8_17 ?_
  refine Ow.iloadN (pc' := 19) B e8_18 ?_
  have f14 := f8.keep Kh11 (Ow.ninS (by omega) Ow.nin0)
  refine Ow.caload (pc' := 20) B e8_19 f14 ⟨by decide, by decide⟩ rfl ?_
  refine Ow.Go.old (fun o15 => ?_)
  refine Ow.callStatic (pc' := 23) (W := 0) (k' := 1) (n' := 4) (argsL := [(.ref r5), (.int (1 : Int32)), (.int px1)]) (rest := []) B e8_20 (w87 hw) (w88 hw) (w44 hw) (w89 hw) (con_putChar_25 hw G GS (pa0 := r5) (px0 := px1) (px1 := px0) (pk0 := k6) o15 f13 (by omega) hc_px1 hc_px0) pd9 ?_
  intro vq16 h17 S18 q16 zh17
  obtain ⟨rfl, Kh17, f19, rfl⟩ := q16
  refine Ow.Go.norm (S' := [r5]) (st' := []) (fun _ q => List.mem_append_right _ q) rfl ?_
  refine Ow.iinc (pc' := 26) (y := (2 : Int32)) (Ls' := #[.val (.ref pa0), .val (.int (2 : Int32)), .val (.int (2 : Int32)), .val (.ref r5), .val (.int (1 : Int32))]) B e8_23 ?_
  refine Ow.iinc (pc' := 29) (y := (2 : Int32)) (Ls' := #[.val (.ref pa0), .val (.int (2 : Int32)), .val (.int (2 : Int32)), .val (.ref r5), .val (.int (2 : Int32))]) B e8_26 ?_
  refine Ow.goto (pc' := 8) B e8_29 ?_
  refine Ow.iload (pc' := 10) B e8_8 ?_
  refine Ow.iloadN (pc' := 11) B e8_10 ?_
  refine Ow.icmpT (pc' := 32) B e8_11 (by decide) ?_
  refine Ow.aloadN (pc' := 33) B e8_32 ?_
  exact Ow.retA (S' := [r5]) (t := (.array .byte)) B e8_33 (⟨r5, k6, rfl, ((((Keep.refl _ []).trans Kh3 (fun _ q => nomatch q)).trans Kh11 (allS (Or.inr (by omega)) all0)).trans Kh17 (allS (Or.inr (by omega)) all0)), (by omega), f19, rfl⟩)
set_option maxRecDepth 65536 in
set_option maxHeartbeats 40000000 in
theorem con_getChar_27 {l : Launch} {Z : State} {n0 : Nat} {a0 : Array Value} {cz : Int32} {sf : Value} (hw : Hw a0 Z) (G : Ow.Glo Z cz sf) (GS : GlS Z) {pa0 : Nat} {px0 : Int32} {px1 : Int32} {pk0 : ClassId} {h0 : Heap} (O0 : Old Z n0 h0) (hf0 : Arv Z h0 pa0 pk0 .byte (4 : Int32) [(.int px0.toInt8.toInt32), (.int (px0 >>> ((8 : Int32) &&& 31)).toInt8.toInt32), (.int px1.toInt8.toInt32), (.int (px1 >>> ((8 : Int32) &&& 31)).toInt8.toInt32)] (.int 0)) (hn0 : n0 ≤ pa0) (hk0 : ¬ ((65535 : Int32) < px0)) (hk1 : ¬ (px0 < (0 : Int32))) (hc_px0 : nar .char px0 = px0) (hc_px1 : nar .char px1 = px1) :
    Ow.Con l Z EL1 n0 my11 jdk_52_method_5_code 2 (Option.some Jvm.ClassFile.FieldType.char) [] ({ frames := 0, cells := 0, slots := 0, locals := 0 } : Room) #[(.ref pa0), (.int (0 : Int32))] [pa0] h0 (fun v h S' => (v = some (.int px0) ∧ h = h0 ∧ S' = [])) := by
  refine Ow.Con.enter (Ls := #[.val (.ref pa0), .val (.int (0 : Int32))]) (plainFor_of_name pn3) O0 (hEW hw) (hSA hw) ?_
  intro p e s m below meth c B
  have z0 := Ow.old_le O0
  have lpa0 : (pa0 : Nat) < h0.size := hf0.lt
  refine Ow.getstatic (pc' := 3) B e12_0 (w90 hw) Via.refl GS.1 ?_
  refine Ow.ifT (pc' := 28) B e12_3 (by decide) ?_
  refine Ow.iloadN (pc' := 29) B e12_28 ?_
  refine Ow.iconst (pc' := 30) (x := (1 : Int32)) B e12_29 ?_
  refine Ow.ishl (pc' := 31) (z := (0 : Int32)) B e12_30 ?_
  refine Ow.istoreN (pc' := 32) (Ls' := #[.val (.ref pa0), .val (.int (0 : Int32))]) B e12_31 ?_
  refine Ow.aloadN (pc' := 33) B e12_32 ?_
  refine Ow.iloadN (pc' := 34) B e12_33 ?_
  refine Ow.iinc (pc' := 37) (y := (1 : Int32)) (Ls' := #[.val (.ref pa0), .val (.int (1 : Int32))]) B e12_34 ?_
  refine Ow.baload (pc' := 38) B e12_37 hf0 ⟨by decide, by decide⟩ rfl ?_
  refine Ow.sipush (pc' := 41) (x := (255 : Int32)) B e12_38 ?_
  refine Ow.iand (pc' := 42) (z := (px0.toInt8.toInt32 &&& (255 : Int32))) B e12_41 ?_
  refine Ow.getstatic (pc' := 45) B e12_42 (w91 hw) Via.refl GS.2.1 ?_
  refine Ow.ishl (pc' := 46) (z := ((px0.toInt8.toInt32 &&& (255 : Int32)) <<< ((0 : Int32) &&& 31))) B e12_45 ?_
  refine Ow.aloadN (pc' := 47) B e12_46 ?_
  refine Ow.iloadN (pc' := 48) B e12_47 ?_
  refine Ow.baload (pc' := 49) B e12_48 hf0 ⟨by decide, by decide⟩ rfl ?_
  refine Ow.sipush (pc' := 52) (x := (255 : Int32)) B e12_49 ?_
  refine Ow.iand (pc' := 53) (z := ((px0 >>> ((8 : Int32) &&& 31)).toInt8.toInt32 &&& (255 : Int32))) B e12_52 ?_
  refine Ow.getstatic (pc' := 56) B e12_53 (w92 hw) Via.refl GS.2.2 ?_
  refine Ow.ishl (pc' := 57) (z := (((px0 >>> ((8 : Int32) &&& 31)).toInt8.toInt32 &&& (255 : Int32)) <<< ((8 : Int32) &&& 31))) B e12_56 ?_
  refine Ow.ior (pc' := 58) (z := px0) (hz := (Ow.u16 (hk1) (hk0))) B e12_57 ?_
  refine Ow.i2c (pc' := 59) (z := px0) (hz := hc_px0) B e12_58 ?_
  exact Ow.retI (S' := []) (t := .char) (hnn := (Ow.cnarrow hc_px0)) B e12_59 (⟨rfl, rfl, rfl⟩)
set_option maxRecDepth 65536 in
set_option maxHeartbeats 40000000 in
theorem con_getChar_28 {l : Launch} {Z : State} {n0 : Nat} {a0 : Array Value} {cz : Int32} {sf : Value} (hw : Hw a0 Z) (G : Ow.Glo Z cz sf) (GS : GlS Z) {pa0 : Nat} {px0 : Int32} {px1 : Int32} {pk0 : ClassId} {h0 : Heap} (O0 : Old Z n0 h0) (hf0 : Arv Z h0 pa0 pk0 .byte (4 : Int32) [(.int px0.toInt8.toInt32), (.int (px0 >>> ((8 : Int32) &&& 31)).toInt8.toInt32), (.int px1.toInt8.toInt32), (.int (px1 >>> ((8 : Int32) &&& 31)).toInt8.toInt32)] (.int 0)) (hn0 : n0 ≤ pa0) (hk0 : ¬ ((65535 : Int32) < px1)) (hk1 : ¬ (px1 < (0 : Int32))) (hc_px0 : nar .char px0 = px0) (hc_px1 : nar .char px1 = px1) :
    Ow.Con l Z EL1 n0 my11 jdk_52_method_5_code 2 (Option.some Jvm.ClassFile.FieldType.char) [] ({ frames := 0, cells := 0, slots := 0, locals := 0 } : Room) #[(.ref pa0), (.int (1 : Int32))] [pa0] h0 (fun v h S' => (v = some (.int px1) ∧ h = h0 ∧ S' = [])) := by
  refine Ow.Con.enter (Ls := #[.val (.ref pa0), .val (.int (1 : Int32))]) (plainFor_of_name pn3) O0 (hEW hw) (hSA hw) ?_
  intro p e s m below meth c B
  have z0 := Ow.old_le O0
  have lpa0 : (pa0 : Nat) < h0.size := hf0.lt
  refine Ow.getstatic (pc' := 3) B e12_0 (w90 hw) Via.refl GS.1 ?_
  refine Ow.ifT (pc' := 28) B e12_3 (by decide) ?_
  refine Ow.iloadN (pc' := 29) B e12_28 ?_
  refine Ow.iconst (pc' := 30) (x := (1 : Int32)) B e12_29 ?_
  refine Ow.ishl (pc' := 31) (z := (2 : Int32)) B e12_30 ?_
  refine Ow.istoreN (pc' := 32) (Ls' := #[.val (.ref pa0), .val (.int (2 : Int32))]) B e12_31 ?_
  refine Ow.aloadN (pc' := 33) B e12_32 ?_
  refine Ow.iloadN (pc' := 34) B e12_33 ?_
  refine Ow.iinc (pc' := 37) (y := (3 : Int32)) (Ls' := #[.val (.ref pa0), .val (.int (3 : Int32))]) B e12_34 ?_
  refine Ow.baload (pc' := 38) B e12_37 hf0 ⟨by decide, by decide⟩ rfl ?_
  refine Ow.sipush (pc' := 41) (x := (255 : Int32)) B e12_38 ?_
  refine Ow.iand (pc' := 42) (z := (px1.toInt8.toInt32 &&& (255 : Int32))) B e12_41 ?_
  refine Ow.getstatic (pc' := 45) B e12_42 (w91 hw) Via.refl GS.2.1 ?_
  refine Ow.ishl (pc' := 46) (z := ((px1.toInt8.toInt32 &&& (255 : Int32)) <<< ((0 : Int32) &&& 31))) B e12_45 ?_
  refine Ow.aloadN (pc' := 47) B e12_46 ?_
  refine Ow.iloadN (pc' := 48) B e12_47 ?_
  refine Ow.baload (pc' := 49) B e12_48 hf0 ⟨by decide, by decide⟩ rfl ?_
  refine Ow.sipush (pc' := 52) (x := (255 : Int32)) B e12_49 ?_
  refine Ow.iand (pc' := 53) (z := ((px1 >>> ((8 : Int32) &&& 31)).toInt8.toInt32 &&& (255 : Int32))) B e12_52 ?_
  refine Ow.getstatic (pc' := 56) B e12_53 (w92 hw) Via.refl GS.2.2 ?_
  refine Ow.ishl (pc' := 57) (z := (((px1 >>> ((8 : Int32) &&& 31)).toInt8.toInt32 &&& (255 : Int32)) <<< ((8 : Int32) &&& 31))) B e12_56 ?_
  refine Ow.ior (pc' := 58) (z := px1) (hz := (Ow.u16 (hk1) (hk0))) B e12_57 ?_
  refine Ow.i2c (pc' := 59) (z := px1) (hz := hc_px1) B e12_58 ?_
  exact Ow.retI (S' := []) (t := .char) (hnn := (Ow.cnarrow hc_px1)) B e12_59 (⟨rfl, rfl, rfl⟩)
set_option maxRecDepth 65536 in
set_option maxHeartbeats 40000000 in
theorem con_compress_29 {l : Launch} {Z : State} {n0 : Nat} {a0 : Array Value} {cz : Int32} {sf : Value} (hw : Hw a0 Z) (G : Ow.Glo Z cz sf) (GS : GlS Z) {pa0 : Nat} {px0 : Int32} {px1 : Int32} {pk0 : ClassId} {h0 : Heap} (O0 : Old Z n0 h0) (hf0 : Arv Z h0 pa0 pk0 .char (2 : Int32) [(.int px0), (.int px1)] (.int 0)) (hn0 : n0 ≤ pa0) (hk0 : ¬ ((65535 : Int32) < px0)) (hk1 : ¬ (px0 < (0 : Int32))) (hk2 : ¬ ((65535 : Int32) < px1)) (hk3 : ¬ (px1 < (0 : Int32))) (hc_px0 : nar .char px0 = px0) (hc_px1 : nar .char px1 = px1) :
    Ow.Con l Z EL1 n0 my12 jdk_52_method_16_code 6 (Option.some (Jvm.ClassFile.FieldType.array Jvm.ClassFile.FieldType.byte)) [] ({ frames := 3, cells := 2, slots := 6, locals := 40 } : Room) #[(.ref pa0), (.int (0 : Int32)), (.int (2 : Int32))] [] h0 (fun v h S' => (∃ r0 : Nat, ∃ k0 : ClassId, v = some (.ref r0) ∧ Keep h0 h [] ∧ (255 : Int32) < px0 ∧ h0.size ≤ r0 ∧ Arv Z h r0 k0 .byte (4 : Int32) [(.int px0.toInt8.toInt32), (.int (px0 >>> ((8 : Int32) &&& 31)).toInt8.toInt32), (.int px1.toInt8.toInt32), (.int (px1 >>> ((8 : Int32) &&& 31)).toInt8.toInt32)] (.int 0) ∧ S' = [r0]) ∨ (∃ r0 : Nat, ∃ k0 : ClassId, v = some (.ref r0) ∧ Keep h0 h [] ∧ ¬ ((255 : Int32) < px0) ∧ (255 : Int32) < px1 ∧ h0.size ≤ r0 ∧ Arv Z h r0 k0 .byte (4 : Int32) [(.int px0.toInt8.toInt32), (.int (px0 >>> ((8 : Int32) &&& 31)).toInt8.toInt32), (.int px1.toInt8.toInt32), (.int (px1 >>> ((8 : Int32) &&& 31)).toInt8.toInt32)] (.int 0) ∧ S' = [r0]) ∨ (∃ r0 : Nat, ∃ k0 : ClassId, v = some (.ref r0) ∧ Keep h0 h [] ∧ ¬ ((255 : Int32) < px0) ∧ ¬ ((255 : Int32) < px1) ∧ h0.size ≤ r0 ∧ Arv Z h r0 k0 .byte (2 : Int32) [(.int px0.toInt8.toInt32), (.int px1.toInt8.toInt32)] (.int 0) ∧ S' = [r0])) := by
  refine Ow.Con.enter (Ls := #[.val (.ref pa0), .val (.int (0 : Int32)), .val (.int (2 : Int32)), .unset, .unset, .unset]) (plainFor_of_name pn3) O0 (hEW hw) (hSA hw) ?_
  intro p e s m below meth c B
  have z0 := Ow.old_le O0
  have lpa0 : (pa0 : Nat) < h0.size := hf0.lt
  refine Ow.iloadN (pc' := 1) B e6_0 ?_
  refine Ow.newArr (pc' := 3) (k' := 1) (n' := 2) (cap := 2) B e6_1 (w15 hw) (by decide) (by decide) ?_
  intro h2 a1 ka1 ga1 ba1 Kh2 V0a1
  have zh2 := Kh2.1
  have la1 : (a1 : Nat) < h2.size := V0a1.lt
  have Va1 : Arv Z h2 a1 ka1 .byte (2 : Int32) [(.int 0), (.int 0)] (.int 0) := V0a1.pad (pad_rep [] (.int 0) 2)
  refine Ow.astoreN (pc' := 4) (Ls' := #[.val (.ref pa0), .val (.int (0 : Int32)), .val (.int (2 : Int32)), .val (.ref a1), .unset, .unset]) B e6_3 ?_
  refine Ow.aloadN (pc' := 5) B e6_4 ?_
  refine Ow.iloadN (pc' := 6) B e6_5 ?_
  refine Ow.aloadN (pc' := 7) B e6_6 ?_
  refine Ow.iconst (pc' := 8) (x := (0 : Int32)) B e6_7 ?_
  refine Ow.iloadN (pc' := 9) B e6_8 ?_
  refine Ow.Go.old (fun o3 => ?_)
  have f4 := hf0.keep Kh2 Ow.nin0
  refine Ow.callStatic (pc' := 12) (W := 0) (k' := 1) (n' := 2) (argsL := [(.ref pa0), (.int (0 : Int32)), (.ref a1), (.int (0 : Int32)), (.int (2 : Int32))]) (rest := []) B e6_9 (w46 hw) (w47 hw) (w44 hw) (w48 hw) (con_compress_21 hw G GS (pa0 := pa0) (pa1 := a1) (px0 := px0) (px1 := px1) (pk0 := pk0) (pk1 := ka1) o3 f4 Va1 (by omega) (by omega) (by omega) hc_px0 hc_px1) pd6 ?_
  intro vq5 h6 S7 q5 zh6
  rcases q5 with q5 | q5 | q5
  · obtain ⟨rfl, rfl, c8, rfl⟩ := q5
    refine Ow.Go.norm (S' := [a1]) (st' := [(.int (0 : Int32))]) (fun _ q => List.mem_append_right _ q) rfl ?_
    refine Ow.istore (pc' := 14) (Ls' := #[.val (.ref pa0), .val (.int (0 : Int32)), .val (.int (2 : Int32)), .val (.ref a1), .val (.int (0 : Int32)), .unset]) B e6_12 ?_
    refine Ow.iload (pc' := 16) B e6_14 ?_
    refine Ow.iloadN (pc' := 17) B e6_16 ?_
    refine Ow.icmpF (pc' := 20) B e6_17 (by decide) ?_
    refine Ow.aloadN (pc' := 21) B e6_20 ?_
    refine Ow.iloadN (pc' := 22) B e6_21 ?_
    refine Ow.iloadN (pc' := 23) B e6_22 ?_
    refine Ow.Go.old (fun o9 => ?_)
    refine Ow.callStatic (pc' := 26) (W := 0) (k' := 2) (n' := 6) (argsL := [(.ref pa0), (.int (0 : Int32)), (.int (2 : Int32))]) (rest := []) B e6_23 (w77 hw) (w78 hw) (w44 hw) (w79 hw) (con_toBytes_26 hw G GS (pa0 := pa0) (px0 := px0) (px1 := px1) (pk0 := pk0) o9 f4 (by omega) hc_px0 hc_px1) pd10 ?_
    intro vq10 h11 S12 q10 zh11
    obtain ⟨r13, k14, rfl, Kh11, br13, f15, rfl⟩ := q10
    have lr13 : (r13 : Nat) < h11.size := f15.lt
    refine Ow.Go.norm (S' := [r13, a1]) (st' := [(.ref r13)]) (fun _ q => q) rfl ?_
    refine Ow.astore (pc' := 28) (Ls' := #[.val (.ref pa0), .val (.int (0 : Int32)), .val (.int (2 : Int32)), .val (.ref a1), .val (.int (0 : Int32)), .val (.ref r13)]) B e6_26 ?_
    refine Ow.aload (pc' := 30) B e6_28 ?_
    refine Ow.iload (pc' := 32) B e6_30 ?_
    refine Ow.Go.old (fun o16 => ?_)
    refine Ow.callStatic (pc' := 35) (W := 0) (k' := 2) (n' := 6) (argsL := [(.ref r13), (.int (0 : Int32))]) (rest := []) B e6_32 (w93 hw) (w94 hw) (w44 hw) (w95 hw) (con_getChar_27 hw G GS (pa0 := r13) (px0 := px0) (px1 := px1) (pk0 := k14) o16 f15 (by omega) (hk0) (hk1) hc_px0 hc_px1) pd11 ?_
    intro vq17 h18 S19 q17 zh18
    obtain ⟨rfl, rfl, rfl⟩ := q17
    refine Ow.Go.norm (S' := [r13, a1]) (st' := [(.int px0)]) (fun _ q => List.mem_append_right _ q) rfl ?_
    refine Ow.sipush (pc' := 38) (x := (255 : Int32)) B e6_35 ?_
    refine Ow.icmpT (pc' := 54) B e6_38 (tlt (c8)).2.2.1 ?_
    refine Ow.aload (pc' := 56) B e6_54 ?_
    exact Ow.retA (S' := [r13]) (t := (.array .byte)) B e6_56 (Or.inl (⟨r13, k14, rfl, (((Keep.refl _ []).trans Kh2 (fun _ q => nomatch q)).trans Kh11 (fun _ q => nomatch q)), c8, (by omega), f15, rfl⟩))
  · obtain ⟨rfl, Kh6, c20, c21, f22, rfl⟩ := q5
    refine Ow.Go.norm (S' := [a1]) (st' := [(.int (1 : Int32))]) (fun _ q => List.mem_append_right _ q) rfl ?_
    refine Ow.istore (pc' := 14) (Ls' := #[.val (.ref pa0), .val (.int (0 : Int32)), .val (.int (2 : Int32)), .val (.ref a1), .val (.int (1 : Int32)), .unset]) B e6_12 ?_
    refine Ow.iload (pc' := 16) B e6_14 ?_
    refine Ow.iloadN (pc' := 17) B e6_16 ?_
    refine Ow.icmpF (pc' := 20) B e6_17 (by decide) ?_
    refine Ow.aloadN (pc' := 21) B e6_20 ?_
    refine Ow.iloadN (pc' := 22) B e6_21 ?_
    refine Ow.iloadN (pc' := 23) B e6_22 ?_
    refine Ow.Go.old (fun o23 => ?_)
    have f24 := f4.keep Kh6 (Ow.ninS (by omega) Ow.nin0)
    refine Ow.callStatic (pc' := 26) (W := 0) (k' := 2) (n' := 6) (argsL := [(.ref pa0), (.int (0 : Int32)), (.int (2 : Int32))]) (rest := []) B e6_23 (w77 hw) (w78 hw) (w44 hw) (w79 hw) (con_toBytes_26 hw G GS (pa0 := pa0) (px0 := px0) (px1 := px1) (pk0 := pk0) o23 f24 (by omega) hc_px0 hc_px1) pd10 ?_
    intro vq25 h26 S27 q25 zh26
    obtain ⟨r28, k29, rfl, Kh26, br28, f30, rfl⟩ := q25
    have lr28 : (r28 : Nat) < h26.size := f30.lt
    refine Ow.Go.norm (S' := [r28, a1]) (st' := [(.ref r28)]) (fun _ q => q) rfl ?_
    refine Ow.astore (pc' := 28) (Ls' := #[.val (.ref pa0), .val (.int (0 : Int32)), .val (.int (2 : Int32)), .val (.ref a1), .val (.int (1 : Int32)), .val (.ref r28)]) B e6_26 ?_
    refine Ow.aload (pc' := 30) B e6_28 ?_
    refine Ow.iload (pc' := 32) B e6_30 ?_
    refine Ow.Go.old (fun o31 => ?_)
    refine Ow.callStatic (pc' := 35) (W := 0) (k' := 2) (n' := 6) (argsL := [(.ref r28), (.int (1 : Int32))]) (rest := []) B e6_32 (w93 hw) (w94 hw) (w44 hw) (w95 hw) (con_getChar_28 hw G GS (pa0 := r28) (px0 := px0) (px1 := px1) (pk0 := k29) o31 f30 (by omega) (hk2) (hk3) hc_px0 hc_px1) pd11 ?_
    intro vq32 h33 S34 q32 zh33
    obtain ⟨rfl, rfl, rfl⟩ := q32
    refine Ow.Go.norm (S' := [r28, a1]) (st' := [(.int px1)]) (fun _ q => List.mem_append_right _ q) rfl ?_
    refine Ow.sipush (pc' := 38) (x := (255 : Int32)) B e6_35 ?_
    refine Ow.icmpT (pc' := 54) B e6_38 (tlt (c21)).2.2.1 ?_
    refine Ow.aload (pc' := 56) B e6_54 ?_
    exact Ow.retA (S' := [r28]) (t := (.array .byte)) B e6_56 (Or.inr (Or.inl (⟨r28, k29, rfl, ((((Keep.refl _ []).trans Kh2 (fun _ q => nomatch q)).trans Kh6 (allS (Or.inr (by omega)) all0)).trans Kh26 (fun _ q => nomatch q)), c20, c21, (by omega), f30, rfl⟩)))
  · obtain ⟨rfl, Kh6, c35, c36, f37, rfl⟩ := q5
    refine Ow.Go.norm (S' := [a1]) (st' := [(.int (2 : Int32))]) (fun _ q => List.mem_append_right _ q) rfl ?_
    refine Ow.istore (pc' := 14) (Ls' := #[.val (.ref pa0), .val (.int (0 : Int32)), .val (.int (2 : Int32)), .val (.ref a1), .val (.int (2 : Int32)), .unset]) B e6_12 ?_
    refine Ow.iload (pc' := 16) B e6_14 ?_
    refine Ow.iloadN (pc' := 17) B e6_16 ?_
    refine Ow.icmpT (pc' := 57) B e6_17 (by decide) ?_
    refine Ow.aloadN (pc' := 58) B e6_57 ?_
    exact Ow.retA (S' := [a1]) (t := (.array .byte)) B e6_58 (Or.inr (Or.inr (⟨a1, ka1, rfl, (((Keep.refl _ []).trans Kh2 (fun _ q => nomatch q)).trans Kh6 (allS (Or.inr (by omega)) all0)), c35, c36, (by omega), f37, rfl⟩)))
set_option maxRecDepth 65536 in
set_option maxHeartbeats 40000000 in
theorem con_coderFromArrayLen_30 {l : Launch} {Z : State} {n0 : Nat} {a0 : Array Value} {cz : Int32} {sf : Value} (hw : Hw a0 Z) (G : Ow.Glo Z cz sf) (GS : GlS Z) {pa0 : Nat} {px0 : Int32} {px1 : Int32} {pk0 : ClassId} {h0 : Heap} (O0 : Old Z n0 h0) (hf0 : Arv Z h0 pa0 pk0 .byte (4 : Int32) [(.int px0.toInt8.toInt32), (.int (px0 >>> ((8 : Int32) &&& 31)).toInt8.toInt32), (.int px1.toInt8.toInt32), (.int (px1 >>> ((8 : Int32) &&& 31)).toInt8.toInt32)] (.int 0)) (hn0 : n0 ≤ pa0) (hc_px0 : nar .char px0 = px0) (hc_px1 : nar .char px1 = px1) :
    Ow.Con l Z EL1 n0 my13 jdk_52_method_15_code 2 (Option.some Jvm.ClassFile.FieldType.byte) [] ({ frames := 0, cells := 0, slots := 0, locals := 0 } : Room) #[(.ref pa0), (.int (2 : Int32))] [pa0] h0 (fun v h S' => (v = some (.int (1 : Int32)) ∧ h = h0 ∧ S' = [])) := by
  refine Ow.Con.enter (Ls := #[.val (.ref pa0), .val (.int (2 : Int32))]) (plainFor_of_name pn3) O0 (hEW hw) (hSA hw) ?_
  intro p e s m below meth c B
  have z0 := Ow.old_le O0
  have lpa0 : (pa0 : Nat) < h0.size := hf0.lt
  refine Ow.iloadN (pc' := 1) B e13_0 ?_
  refine Ow.aloadN (pc' := 2) B e13_1 ?_
  refine Ow.arrlen (pc' := 3) B e13_2 hf0 ?_
  refine Ow.isub (pc' := 4) (z := (-2 : Int32)) B e13_3 ?_
  refine Ow.bipush (pc' := 6) (x := (31 : Int32)) B e13_4 ?_
  refine Ow.iushr (pc' := 7) (z := (1 : Int32)) B e13_6 ?_
  refine Ow.i2b (pc' := 8) (z := (1 : Int32)) B e13_7 ?_
  exact Ow.retI (S' := []) (t := .byte) B e13_8 (⟨rfl, rfl, rfl⟩)
set_option maxRecDepth 65536 in
set_option maxHeartbeats 40000000 in
theorem con_coderFromArrayLen_31 {l : Launch} {Z : State} {n0 : Nat} {a0 : Array Value} {cz : Int32} {sf : Value} (hw : Hw a0 Z) (G : Ow.Glo Z cz sf) (GS : GlS Z) {pa0 : Nat} {px0 : Int32} {px1 : Int32} {pk0 : ClassId} {h0 : Heap} (O0 : Old Z n0 h0) (hf0 : Arv Z h0 pa0 pk0 .byte (2 : Int32) [(.int px0.toInt8.toInt32), (.int px1.toInt8.toInt32)] (.int 0)) (hn0 : n0 ≤ pa0) (hc_px0 : nar .char px0 = px0) (hc_px1 : nar .char px1 = px1) :
    Ow.Con l Z EL1 n0 my13 jdk_52_method_15_code 2 (Option.some Jvm.ClassFile.FieldType.byte) [] ({ frames := 0, cells := 0, slots := 0, locals := 0 } : Room) #[(.ref pa0), (.int (2 : Int32))] [pa0] h0 (fun v h S' => (v = some (.int (0 : Int32)) ∧ h = h0 ∧ S' = [])) := by
  refine Ow.Con.enter (Ls := #[.val (.ref pa0), .val (.int (2 : Int32))]) (plainFor_of_name pn3) O0 (hEW hw) (hSA hw) ?_
  intro p e s m below meth c B
  have z0 := Ow.old_le O0
  have lpa0 : (pa0 : Nat) < h0.size := hf0.lt
  refine Ow.iloadN (pc' := 1) B e13_0 ?_
  refine Ow.aloadN (pc' := 2) B e13_1 ?_
  refine Ow.arrlen (pc' := 3) B e13_2 hf0 ?_
  refine Ow.isub (pc' := 4) (z := (0 : Int32)) B e13_3 ?_
  refine Ow.bipush (pc' := 6) (x := (31 : Int32)) B e13_4 ?_
  refine Ow.iushr (pc' := 7) (z := (0 : Int32)) B e13_6 ?_
  refine Ow.i2b (pc' := 8) (z := (0 : Int32)) B e13_7 ?_
  exact Ow.retI (S' := []) (t := .byte) B e13_8 (⟨rfl, rfl, rfl⟩)
set_option maxRecDepth 65536 in
set_option maxHeartbeats 40000000 in
theorem con_init_32 {l : Launch} {Z : State} {n0 : Nat} {a0 : Array Value} {cz : Int32} {sf : Value} (hw : Hw a0 Z) (G : Ow.Glo Z cz sf) (GS : GlS Z) {pa0 : Nat} {pa1 : Nat} {px0 : Int32} {px1 : Int32} {pk0 : ClassId} {h0 : Heap} (O0 : Old Z n0 h0) (hf0 : Exa Z h0 pa0 "java/lang/String") (hf1 : Fld Z h0 pa0 "java/lang/String" "coder" "B" (.int (0 : Int32))) (hf2 : Fld Z h0 pa0 "java/lang/String" "value" "[B" .null) (hf3 : Arv Z h0 pa1 pk0 .char (2 : Int32) [(.int px0), (.int px1)] (.int 0)) (hn0 : n0 ≤ pa0) (hn1 : n0 ≤ pa1) (hk0 : ¬ ((65535 : Int32) < px0)) (hk1 : ¬ (px0 < (0 : Int32))) (hk2 : ¬ ((65535 : Int32) < px1)) (hk3 : ¬ (px1 < (0 : Int32))) (hc_px0 : nar .char px0 = px0) (hc_px1 : nar .char px1 = px1) :
    Ow.Con l Z EL1 n0 my0 jdk_42_method_149_code 6 (Option.none : Option Jvm.ClassFile.FieldType) [] ({ frames := 4, cells := 2, slots := 6, locals := 57 } : Room) #[(.ref pa0), (.ref pa1), (.int (0 : Int32)), (.int (2 : Int32)), .null] [pa0] h0 (fun v h S' => (∃ r0 : Nat, ∃ k0 : ClassId, v = none ∧ Keep h0 h [pa0] ∧ h0.size ≤ r0 ∧ Ow.Chs Z h pa0 r0 k0 [px0, px1] ∧ S' = [])) := by
  refine Ow.Con.enter (Ls := #[.val (.ref pa0), .val (.ref pa1), .val (.int (0 : Int32)), .val (.int (2 : Int32)), .val .null, .unset]) (plainFor_of_name pn0) O0 (hEW hw) (hSA hw) ?_
  intro p e s m below meth c B
  have z0 := Ow.old_le O0
  have lpa0 : (pa0 : Nat) < h0.size := hf0.lt
  have lpa1 : (pa1 : Nat) < h0.size := hf3.lt
  refine Ow.aloadN (pc' := 1) B e2_0 ?_
  refine Ow.objInit (pc' := 4) (W := 0) B e2_1 (w11 hw) (w12 hw) (w13 hw) ?_
  refine Ow.iloadN (pc' := 5) B e2_4 ?_
  refine Ow.ifT (pc' := 27) B e2_5 (by decide) ?_
  refine Ow.getstatic (pc' := 30) B e2_27 (w36 hw) Via.refl G.1 ?_
  refine Ow.ifF (pc' := 33) B e2_30 (feq (G.2.1)).1 ?_
  refine Ow.aloadN (pc' := 34) B e2_33 ?_
  refine Ow.iloadN (pc' := 35) B e2_34 ?_
  refine Ow.iloadN (pc' := 36) B e2_35 ?_
  refine Ow.Go.old (fun o1 => ?_)
  refine Ow.callStatic (pc' := 39) (W := 0) (k' := 2) (n' := 6) (argsL := [(.ref pa1), (.int (0 : Int32)), (.int (2 : Int32))]) (rest := []) B e2_36 (w42 hw) (w43 hw) (w44 hw) (w45 hw) (con_compress_29 hw G GS (pa0 := pa1) (px0 := px0) (px1 := px1) (pk0 := pk0) o1 hf3 (by omega) (hk0) (hk1) (hk2) (hk3) hc_px0 hc_px1) pd10 ?_
  intro vq2 h3 S4 q2 zh3
  rcases q2 with q2 | q2 | q2
  · obtain ⟨r5, k6, rfl, Kh3, c7, br5, f8, rfl⟩ := q2
    have lr5 : (r5 : Nat) < h3.size := f8.lt
    refine Ow.Go.norm (S' := [r5, pa0]) (st' := [(.ref r5)]) (fun _ q => q) rfl ?_
    refine Ow.astore (pc' := 41) (Ls' := #[.val (.ref pa0), .val (.ref pa1), .val (.int (0 : Int32)), .val (.int (2 : Int32)), .val .null, .val (.ref r5)]) B e2_39 ?_
    refine Ow.aloadN (pc' := 42) B e2_41 ?_
    refine Ow.aload (pc' := 44) B e2_42 ?_
    refine Ow.iloadN (pc' := 45) B e2_44 ?_
    refine Ow.Go.old (fun o9 => ?_)
    refine Ow.callStatic (pc' := 48) (W := 1) (k' := 2) (n' := 6) (argsL := [(.ref r5), (.int (2 : Int32))]) (rest := [(.ref pa0)]) B e2_45 (w49 hw) (w50 hw) (w44 hw) (w51 hw) (con_coderFromArrayLen_30 hw G GS (pa0 := r5) (px0 := px0) (px1 := px1) (pk0 := k6) o9 f8 (by omega) hc_px0 hc_px1) pd12 ?_
    intro vq10 h11 S12 q10 zh11
    obtain ⟨rfl, rfl, rfl⟩ := q10
    refine Ow.Go.norm (S' := [r5, pa0]) (st' := [(.int (1 : Int32)), (.ref pa0)]) (fun _ q => List.mem_append_right _ q) rfl ?_
    have f13 := hf1.keep Kh3 Ow.nin0
    have f14 := hf0.keep Kh3
    refine Ow.putfield (pc' := 51) (ty := .byte) B e2_48 (w21 hw) Via.refl f13 f14 (Or.inr ⟨(w17 hw), rfl, rfl⟩) (w2 hw) (Or.inl (by simp)) ?_
    intro h15 Wh15
    have f16 := hf2.keep Kh3 Ow.nin0
    have Kh15 := Keep.of_wr Wh15
    have zh15 := Kh15.1
    have f17 : Fld Z h15 pa0 "java/lang/String" "coder" "B" (.int (1 : Int32)) := f13.same Wh15
    have f18 : Fld Z h15 pa0 "java/lang/String" "value" "[B" .null := f16.other Wh15 (Or.inr (slot_ne (a0 := a0) (C := "java/lang/String") (t := (.array .byte)) (t' := .byte) (Or.inr (w16 hw)) (Or.inr (w17 hw)) (by decide) (by decide) (by decide)))
    refine Ow.aloadN (pc' := 52) B e2_51 ?_
    refine Ow.aload (pc' := 54) B e2_52 ?_
    have f19 := f14.keep Kh15
    refine Ow.putfield (pc' := 57) (ty := (.array .byte)) B e2_54 (w20 hw) Via.refl f18 f19 (Or.inr ⟨(w16 hw), rfl, rfl⟩) (w2 hw) (Or.inl (by simp)) ?_
    intro h20 Wh20
    have Kh20 := Keep.of_wr Wh20
    have zh20 := Kh20.1
    have f21 : Fld Z h20 pa0 "java/lang/String" "value" "[B" (.ref r5) := f18.same Wh20
    have f22 : Fld Z h20 pa0 "java/lang/String" "coder" "B" (.int (1 : Int32)) := f17.other Wh20 (Or.inr (slot_ne (a0 := a0) (C := "java/lang/String") (t := .byte) (t' := (.array .byte)) (Or.inr (w17 hw)) (Or.inr (w16 hw)) (by decide) (by decide) (by decide)))
    have f23 := f19.keep Kh20
    have f24 := f8.keep Kh15 (Ow.ninS (by omega) Ow.nin0)
    have f25 := f24.keep Kh20 (Ow.ninS (by omega) Ow.nin0)
    have s26 : Ow.Chs Z h20 pa0 r5 k6 [px0, px1] := ⟨f23, f21, (Ow.allI ⟨(hk1), (hk0)⟩ (Ow.allI ⟨(hk3), (hk2)⟩ Ow.allI0)), Or.inr ⟨f22, f25⟩⟩
    exact Ow.retV (S' := []) B e2_57 (⟨r5, k6, rfl, ((((Keep.refl _ [pa0]).trans Kh3 (fun _ q => nomatch q)).trans Kh15 (allS (Or.inl (by simp)) all0)).trans Kh20 (allS (Or.inl (by simp)) all0)), (by omega), s26, rfl⟩)
  · obtain ⟨r27, k28, rfl, Kh3, c29, c30, br27, f31, rfl⟩ := q2
    have lr27 : (r27 : Nat) < h3.size := f31.lt
    refine Ow.Go.norm (S' := [r27, pa0]) (st' := [(.ref r27)]) (fun _ q => q) rfl ?_
    refine Ow.astore (pc' := 41) (Ls' := #[.val (.ref pa0), .val (.ref pa1), .val (.int (0 : Int32)), .val (.int (2 : Int32)), .val .null, .val (.ref r27)]) B e2_39 ?_
    refine Ow.aloadN (pc' := 42) B e2_41 ?_
    refine Ow.aload (pc' := 44) B e2_42 ?_
    refine Ow.iloadN (pc' := 45) B e2_44 ?_
    refine Ow.Go.old (fun o32 => ?_)
    refine Ow.callStatic (pc' := 48) (W := 1) (k' := 2) (n' := 6) (argsL := [(.ref r27), (.int (2 : Int32))]) (rest := [(.ref pa0)]) B e2_45 (w49 hw) (w50 hw) (w44 hw) (w51 hw) (con_coderFromArrayLen_30 hw G GS (pa0 := r27) (px0 := px0) (px1 := px1) (pk0 := k28) o32 f31 (by omega) hc_px0 hc_px1) pd12 ?_
    intro vq33 h34 S35 q33 zh34
    obtain ⟨rfl, rfl, rfl⟩ := q33
    refine Ow.Go.norm (S' := [r27, pa0]) (st' := [(.int (1 : Int32)), (.ref pa0)]) (fun _ q => List.mem_append_right _ q) rfl ?_
    have f36 := hf1.keep Kh3 Ow.nin0
    have f37 := hf0.keep Kh3
    refine Ow.putfield (pc' := 51) (ty := .byte) B e2_48 (w21 hw) Via.refl f36 f37 (Or.inr ⟨(w17 hw), rfl, rfl⟩) (w2 hw) (Or.inl (by simp)) ?_
    intro h38 Wh38
    have f39 := hf2.keep Kh3 Ow.nin0
    have Kh38 := Keep.of_wr Wh38
    have zh38 := Kh38.1
    have f40 : Fld Z h38 pa0 "java/lang/String" "coder" "B" (.int (1 : Int32)) := f36.same Wh38
    have f41 : Fld Z h38 pa0 "java/lang/String" "value" "[B" .null := f39.other Wh38 (Or.inr (slot_ne (a0 := a0) (C := "java/lang/String") (t := (.array .byte)) (t' := .byte) (Or.inr (w16 hw)) (Or.inr (w17 hw)) (by decide) (by decide) (by decide)))
    refine Ow.aloadN (pc' := 52) B e2_51 ?_
    refine Ow.aload (pc' := 54) B e2_52 ?_
    have f42 := f37.keep Kh38
    refine Ow.putfield (pc' := 57) (ty := (.array .byte)) B e2_54 (w20 hw) Via.refl f41 f42 (Or.inr ⟨(w16 hw), rfl, rfl⟩) (w2 hw) (Or.inl (by simp)) ?_
    intro h43 Wh43
    have Kh43 := Keep.of_wr Wh43
    have zh43 := Kh43.1
    have f44 : Fld Z h43 pa0 "java/lang/String" "value" "[B" (.ref r27) := f41.same Wh43
    have f45 : Fld Z h43 pa0 "java/lang/String" "coder" "B" (.int (1 : Int32)) := f40.other Wh43 (Or.inr (slot_ne (a0 := a0) (C := "java/lang/String") (t := .byte) (t' := (.array .byte)) (Or.inr (w17 hw)) (Or.inr (w16 hw)) (by decide) (by decide) (by decide)))
    have f46 := f42.keep Kh43
    have f47 := f31.keep Kh38 (Ow.ninS (by omega) Ow.nin0)
    have f48 := f47.keep Kh43 (Ow.ninS (by omega) Ow.nin0)
    have s49 : Ow.Chs Z h43 pa0 r27 k28 [px0, px1] := ⟨f46, f44, (Ow.allI ⟨(hk1), (hk0)⟩ (Ow.allI ⟨(hk3), (hk2)⟩ Ow.allI0)), Or.inr ⟨f45, f48⟩⟩
    exact Ow.retV (S' := []) B e2_57 (⟨r27, k28, rfl, ((((Keep.refl _ [pa0]).trans Kh3 (fun _ q => nomatch q)).trans Kh38 (allS (Or.inl (by simp)) all0)).trans Kh43 (allS (Or.inl (by simp)) all0)), (by omega), s49, rfl⟩)
  · obtain ⟨r50, k51, rfl, Kh3, c52, c53, br50, f54, rfl⟩ := q2
    have lr50 : (r50 : Nat) < h3.size := f54.lt
    refine Ow.Go.norm (S' := [r50, pa0]) (st' := [(.ref r50)]) (fun _ q => q) rfl ?_
    refine Ow.astore (pc' := 41) (Ls' := #[.val (.ref pa0), .val (.ref pa1), .val (.int (0 : Int32)), .val (.int (2 : Int32)), .val .null, .val (.ref r50)]) B e2_39 ?_
    refine Ow.aloadN (pc' := 42) B e2_41 ?_
    refine Ow.aload (pc' := 44) B e2_42 ?_
    refine Ow.iloadN (pc' := 45) B e2_44 ?_
    refine Ow.Go.old (fun o55 => ?_)
    refine Ow.callStatic (pc' := 48) (W := 1) (k' := 2) (n' := 6) (argsL := [(.ref r50), (.int (2 : Int32))]) (rest := [(.ref pa0)]) B e2_45 (w49 hw) (w50 hw) (w44 hw) (w51 hw) (con_coderFromArrayLen_31 hw G GS (pa0 := r50) (px0 := px0) (px1 := px1) (pk0 := k51) o55 f54 (by omega) hc_px0 hc_px1) pd12 ?_
    intro vq56 h57 S58 q56 zh57
    obtain ⟨rfl, rfl, rfl⟩ := q56
    refine Ow.Go.norm (S' := [r50, pa0]) (st' := [(.int (0 : Int32)), (.ref pa0)]) (fun _ q => List.mem_append_right _ q) rfl ?_
    have f59 := hf1.keep Kh3 Ow.nin0
    have f60 := hf0.keep Kh3
    refine Ow.putfield (pc' := 51) (ty := .byte) B e2_48 (w21 hw) Via.refl f59 f60 (Or.inr ⟨(w17 hw), rfl, rfl⟩) (w2 hw) (Or.inl (by simp)) ?_
    intro h61 Wh61
    have f62 := hf2.keep Kh3 Ow.nin0
    have Kh61 := Keep.of_wr Wh61
    have zh61 := Kh61.1
    have f63 : Fld Z h61 pa0 "java/lang/String" "coder" "B" (.int (0 : Int32)) := f59.same Wh61
    have f64 : Fld Z h61 pa0 "java/lang/String" "value" "[B" .null := f62.other Wh61 (Or.inr (slot_ne (a0 := a0) (C := "java/lang/String") (t := (.array .byte)) (t' := .byte) (Or.inr (w16 hw)) (Or.inr (w17 hw)) (by decide) (by decide) (by decide)))
    refine Ow.aloadN (pc' := 52) B e2_51 ?_
    refine Ow.aload (pc' := 54) B e2_52 ?_
    have f65 := f60.keep Kh61
    refine Ow.putfield (pc' := 57) (ty := (.array .byte)) B e2_54 (w20 hw) Via.refl f64 f65 (Or.inr ⟨(w16 hw), rfl, rfl⟩) (w2 hw) (Or.inl (by simp)) ?_
    intro h66 Wh66
    have Kh66 := Keep.of_wr Wh66
    have zh66 := Kh66.1
    have f67 : Fld Z h66 pa0 "java/lang/String" "value" "[B" (.ref r50) := f64.same Wh66
    have f68 : Fld Z h66 pa0 "java/lang/String" "coder" "B" (.int (0 : Int32)) := f63.other Wh66 (Or.inr (slot_ne (a0 := a0) (C := "java/lang/String") (t := .byte) (t' := (.array .byte)) (Or.inr (w17 hw)) (Or.inr (w16 hw)) (by decide) (by decide) (by decide)))
    have f69 := f65.keep Kh66
    have f70 := f54.keep Kh61 (Ow.ninS (by omega) Ow.nin0)
    have f71 := f70.keep Kh66 (Ow.ninS (by omega) Ow.nin0)
    have s72 : Ow.Chs Z h66 pa0 r50 k51 [px0, px1] := ⟨f69, f67, (Ow.allI ⟨(hk1), (hk0)⟩ (Ow.allI ⟨(hk3), (hk2)⟩ Ow.allI0)), Or.inl ⟨f68, f71, (Ow.allI (c52) (Ow.allI (c53) Ow.allI0))⟩⟩
    exact Ow.retV (S' := []) B e2_57 (⟨r50, k51, rfl, ((((Keep.refl _ [pa0]).trans Kh3 (fun _ q => nomatch q)).trans Kh61 (allS (Or.inl (by simp)) all0)).trans Kh66 (allS (Or.inl (by simp)) all0)), (by omega), s72, rfl⟩)
set_option maxRecDepth 65536 in
set_option maxHeartbeats 40000000 in
theorem con_init_33 {l : Launch} {Z : State} {n0 : Nat} {a0 : Array Value} {cz : Int32} {sf : Value} (hw : Hw a0 Z) (G : Ow.Glo Z cz sf) (GS : GlS Z) {pa0 : Nat} {pa1 : Nat} {px0 : Int32} {px1 : Int32} {pk0 : ClassId} {h0 : Heap} (O0 : Old Z n0 h0) (hf0 : Exa Z h0 pa0 "java/lang/String") (hf1 : Fld Z h0 pa0 "java/lang/String" "coder" "B" (.int (0 : Int32))) (hf2 : Fld Z h0 pa0 "java/lang/String" "value" "[B" .null) (hf3 : Arv Z h0 pa1 pk0 .char (2 : Int32) [(.int px0), (.int px1)] (.int 0)) (hn0 : n0 ≤ pa0) (hn1 : n0 ≤ pa1) (hk0 : ¬ ((65535 : Int32) < px0)) (hk1 : ¬ (px0 < (0 : Int32))) (hk2 : ¬ ((65535 : Int32) < px1)) (hk3 : ¬ (px1 < (0 : Int32))) (hc_px0 : nar .char px0 = px0) (hc_px1 : nar .char px1 = px1) :
    Ow.Con l Z EL1 n0 my1 jdk_42_method_3_code 2 (Option.none : Option Jvm.ClassFile.FieldType) [] ({ frames := 5, cells := 2, slots := 6, locals := 74 } : Room) #[(.ref pa0), (.ref pa1)] [pa0] h0 (fun v h S' => (∃ r0 : Nat, ∃ k0 : ClassId, v = none ∧ Keep h0 h [pa0] ∧ h0.size ≤ r0 ∧ Ow.Chs Z h pa0 r0 k0 [px0, px1] ∧ S' = [])) := by
  refine Ow.Con.enter (Ls := #[.val (.ref pa0), .val (.ref pa1)]) (plainFor_of_name pn0) O0 (hEW hw) (hSA hw) ?_
  intro p e s m below meth c B
  have z0 := Ow.old_le O0
  have lpa0 : (pa0 : Nat) < h0.size := hf0.lt
  have lpa1 : (pa1 : Nat) < h0.size := hf3.lt
  refine Ow.aloadN (pc' := 1) B e1_0 ?_
  refine Ow.aloadN (pc' := 2) B e1_1 ?_
  refine Ow.iconst (pc' := 3) (x := (0 : Int32)) B e1_2 ?_
  refine Ow.aloadN (pc' := 4) B e1_3 ?_
  refine Ow.arrlen (pc' := 5) B e1_4 hf3 ?_
  refine Ow.aconstNull (pc' := 6) B e1_5 ?_
  refine Ow.Go.old (fun o1 => ?_)
  refine Ow.callInit (pc' := 9) (W := 0) (k' := 2) (n' := 6) (argsL := [(.ref pa1), (.int (0 : Int32)), (.int (2 : Int32)), .null]) (rest := []) B e1_6 (w7 hw) (w8 hw) (w3 hw) (w10 hw) (con_init_32 hw G GS (pa0 := pa0) (pa1 := pa1) (px0 := px0) (px1 := px1) (pk0 := pk0) o1 hf0 hf1 hf2 hf3 (by omega) (by omega) (hk0) (hk1) (hk2) (hk3) hc_px0 hc_px1) pd0 ?_
  intro vq2 h3 S4 q2 zh3
  obtain ⟨r5, k6, rfl, Kh3, br5, f7, rfl⟩ := q2
  have lr5 : (r5 : Nat) < h3.size := f7.ltt
  refine Ow.Go.norm (S' := [pa0]) (st' := []) (fun _ q => List.mem_append_right _ q) rfl ?_
  exact Ow.retV (S' := []) B e1_9 (⟨r5, k6, rfl, ((Keep.refl _ [pa0]).trans Kh3 (allS (Or.inl (by simp)) all0)), (by omega), f7, rfl⟩)
set_option maxRecDepth 65536 in
set_option maxHeartbeats 40000000 in
theorem con_length_34 {l : Launch} {Z : State} {n0 : Nat} {a0 : Array Value} {cz : Int32} {sf : Value} (hw : Hw a0 Z) (G : Ow.Glo Z cz sf) (GS : GlS Z) {pa0 : Nat} {pa1 : Nat} {px0 : Int32} {px1 : Int32} {pk0 : ClassId} {h0 : Heap} (O0 : Old Z n0 h0) (hf0 : Ow.Chs Z h0 pa0 pa1 pk0 [px0, px1]) (hn0 : n0 ≤ pa0) (hn1 : n0 ≤ pa1) (hc_px0 : nar .char px0 = px0) (hc_px1 : nar .char px1 = px1) :
    Ow.Con l Z EL1 n0 my3 jdk_42_method_54_code 1 (Option.some Jvm.ClassFile.FieldType.int) [] ({ frames := 1, cells := 0, slots := 0, locals := 13 } : Room) #[(.ref pa0)] [] h0 (fun v h S' => (v = some (.int (2 : Int32)) ∧ h = h0 ∧ S' = [])) := by
  rcases hf0.2.2.2 with ⟨oc_hf0, oa_hf0, ol_hf0⟩ | ⟨oc_hf0, oa_hf0⟩
  · refine Ow.Con.enter (Ls := #[.val (.ref pa0)]) (plainFor_of_name pn0) O0 (hEW hw) (hSA hw) ?_
    intro p e s m below meth c B
    have z0 := Ow.old_le O0
    have oE_hf0 := hf0.1
    have oV_hf0 := hf0.2.1
    have oR_hf0 := hf0.2.2.1
    have oA_hf0 : Arv Z h0 pa1 pk0 .byte (2 : Int32) [(.int px0.toInt8.toInt32), (.int px1.toInt8.toInt32)] (.int 0) := oa_hf0
    have lpa0 : (pa0 : Nat) < h0.size := hf0.lt
    have lpa1 : (pa1 : Nat) < h0.size := oA_hf0.lt
    have lpa1 : (pa1 : Nat) < h0.size := hf0.ltt
    refine Ow.aloadN (pc' := 1) B e3_0 ?_
    refine Ow.getfield (pc' := 4) B e3_1 (w20 hw) Via.refl oV_hf0 ?_
    refine Ow.arrlen (pc' := 5) B e3_4 oA_hf0 ?_
    refine Ow.aloadN (pc' := 6) B e3_5 ?_
    refine Ow.Go.old (fun o1 => ?_)
    refine Ow.callVirtual (pc' := 9) (W := 1) (k' := 0) (n' := 0) (argsL := []) (rest := [(.int (2 : Int32))]) (K := "java/lang/String") B e3_6 (w31 hw) (w32 hw) (w34 hw) (w34 hw) (w33 hw) (w3 hw) (w35 hw) oE_hf0 (con_coder_3 hw G GS (pa0 := pa0) o1 oc_hf0 (by omega)) pd2 ?_
    intro vq2 h3 S4 q2 zh3
    obtain ⟨rfl, rfl, rfl⟩ := q2
    refine Ow.Go.norm (S' := []) (st' := [(.int (0 : Int32)), (.int (2 : Int32))]) (fun _ q => List.mem_append_right _ q) rfl ?_
    refine Ow.ishr (pc' := 10) (z := (2 : Int32)) B e3_9 ?_
    exact Ow.retI (S' := []) (t := .int) B e3_10 (⟨rfl, rfl, rfl⟩)
  · refine Ow.Con.enter (Ls := #[.val (.ref pa0)]) (plainFor_of_name pn0) O0 (hEW hw) (hSA hw) ?_
    intro p e s m below meth c B
    have z0 := Ow.old_le O0
    have oE_hf0 := hf0.1
    have oV_hf0 := hf0.2.1
    have oR_hf0 := hf0.2.2.1
    have oA_hf0 : Arv Z h0 pa1 pk0 .byte (4 : Int32) [(.int px0.toInt8.toInt32), (.int (px0 >>> ((8 : Int32) &&& 31)).toInt8.toInt32), (.int px1.toInt8.toInt32), (.int (px1 >>> ((8 : Int32) &&& 31)).toInt8.toInt32)] (.int 0) := oa_hf0
    have lpa0 : (pa0 : Nat) < h0.size := hf0.lt
    have lpa1 : (pa1 : Nat) < h0.size := oA_hf0.lt
    have lpa1 : (pa1 : Nat) < h0.size := hf0.ltt
    refine Ow.aloadN (pc' := 1) B e3_0 ?_
    refine Ow.getfield (pc' := 4) B e3_1 (w20 hw) Via.refl oV_hf0 ?_
    refine Ow.arrlen (pc' := 5) B e3_4 oA_hf0 ?_
    refine Ow.aloadN (pc' := 6) B e3_5 ?_
    refine Ow.Go.old (fun o1 => ?_)
    refine Ow.callVirtual (pc' := 9) (W := 1) (k' := 0) (n' := 0) (argsL := []) (rest := [(.int (4 : Int32))]) (K := "java/lang/String") B e3_6 (w31 hw) (w32 hw) (w34 hw) (w34 hw) (w33 hw) (w3 hw) (w35 hw) oE_hf0 (con_coder_4 hw G GS (pa0 := pa0) o1 oc_hf0 (by omega)) pd2 ?_
    intro vq2 h3 S4 q2 zh3
    obtain ⟨rfl, rfl, rfl⟩ := q2
    refine Ow.Go.norm (S' := []) (st' := [(.int (1 : Int32)), (.int (4 : Int32))]) (fun _ q => List.mem_append_right _ q) rfl ?_
    refine Ow.ishr (pc' := 10) (z := (2 : Int32)) B e3_9 ?_
    exact Ow.retI (S' := []) (t := .int) B e3_10 (⟨rfl, rfl, rfl⟩)
set_option maxRecDepth 65536 in
set_option maxHeartbeats 40000000 in
theorem con_isTag_35 {l : Launch} {Z : State} {n0 : Nat} {a0 : Array Value} {cz : Int32} {sf : Value} (hw : Hw a0 Z) (G : Ow.Glo Z cz sf) (GS : GlS Z) {pa0 : Nat} {pa1 : Nat} {px0 : Int32} {px1 : Int32} {pk0 : ClassId} {h0 : Heap} (O0 : Old Z n0 h0) (hf0 : Ow.Chs Z h0 pa0 pa1 pk0 [px0, px1]) (hn0 : n0 ≤ pa0) (hn1 : n0 ≤ pa1) (hc_px0 : nar .char px0 = px0) (hc_px1 : nar .char px1 = px1) :
    Ow.Con l Z EL1 n0 my4 prog_8_method_2_code 3 (Option.some Jvm.ClassFile.FieldType.boolean) [] ({ frames := 2, cells := 0, slots := 0, locals := 25 } : Room) #[(.ref pa0)] [] h0 (fun v h S' => (v = some (.int (0 : Int32)) ∧ h = h0 ∧ S' = [])) := by
  refine Ow.Con.enter (Ls := #[.val (.ref pa0), .unset, .unset]) (plainFor_of_name pn1) O0 (hEW hw) (hSA hw) ?_
  intro p e s m below meth c B
  have z0 := Ow.old_le O0
  have lpa0 : (pa0 : Nat) < h0.size := hf0.lt
  have lpa1 : (pa1 : Nat) < h0.size := hf0.ltt
  refine Ow.aloadN (pc' := 1) B e0_0 ?_
  refine Ow.Go.old (fun o1 => ?_)
  refine Ow.callVirtual (pc' := 4) (W := 0) (k' := 0) (n' := 0) (argsL := []) (rest := []) (K := "java/lang/String") B e0_1 (w26 hw) (w27 hw) (w29 hw) (w29 hw) (w28 hw) (w3 hw) (w30 hw) (hf0).1 (con_length_34 hw G GS (pa0 := pa0) (pa1 := pa1) (px0 := px0) (px1 := px1) (pk0 := pk0) o1 hf0 (by omega) (by omega) hc_px0 hc_px1) pd3 ?_
  intro vq2 h3 S4 q2 zh3
  obtain ⟨rfl, rfl, rfl⟩ := q2
  refine Ow.Go.norm (S' := []) (st' := [(.int (2 : Int32))]) (fun _ q => List.mem_append_right _ q) rfl ?_
  refine Ow.iconst (pc' := 5) (x := (3 : Int32)) B e0_4 ?_
  refine Ow.icmpF (pc' := 8) B e0_5 (by decide) ?_
  refine Ow.iconst (pc' := 9) (x := (0 : Int32)) B e0_8 ?_
  exact Ow.retI (S' := []) (t := .boolean) B e0_9 (⟨rfl, rfl, rfl⟩)
set_option maxRecDepth 65536 in
set_option maxHeartbeats 40000000 in
theorem con_compress_36 {l : Launch} {Z : State} {n0 : Nat} {a0 : Array Value} {cz : Int32} {sf : Value} (hw : Hw a0 Z) (G : Ow.Glo Z cz sf) (GS : GlS Z) {pa0 : Nat} {pa1 : Nat} {px0 : Int32} {px1 : Int32} {px2 : Int32} {pk0 : ClassId} {pk1 : ClassId} {h0 : Heap} (O0 : Old Z n0 h0) (hf0 : Arv Z h0 pa0 pk0 .char (3 : Int32) [(.int px0), (.int px1), (.int px2)] (.int 0)) (hf1 : Arv Z h0 pa1 pk1 .byte (3 : Int32) [(.int (0 : Int32)), (.int (0 : Int32)), (.int (0 : Int32))] (.int 0)) (hn0 : n0 ≤ pa0) (hn1 : n0 ≤ pa1) (hd0 : pa0 ≠ pa1) (hc_px0 : nar .char px0 = px0) (hc_px1 : nar .char px1 = px1) (hc_px2 : nar .char px2 = px2) :
    Ow.Con l Z EL1 n0 my6 jdk_52_method_21_code 7 (Option.some Jvm.ClassFile.FieldType.int) [] ({ frames := 0, cells := 0, slots := 0, locals := 0 } : Room) #[(.ref pa0), (.int (0 : Int32)), (.ref pa1), (.int (0 : Int32)), (.int (3 : Int32))] [pa1] h0 (fun v h S' => (v = some (.int (0 : Int32)) ∧ h = h0 ∧ (255 : Int32) < px0 ∧ S' = []) ∨ (v = some (.int (1 : Int32)) ∧ Keep h0 h [pa1] ∧ ¬ ((255 : Int32) < px0) ∧ (255 : Int32) < px1 ∧ Arv Z h pa1 pk1 .byte (3 : Int32) [(.int px0.toInt8.toInt32), (.int (0 : Int32)), (.int (0 : Int32))] (.int 0) ∧ S' = []) ∨ (v = some (.int (2 : Int32)) ∧ Keep h0 h [pa1] ∧ ¬ ((255 : Int32) < px0) ∧ ¬ ((255 : Int32) < px1) ∧ (255 : Int32) < px2 ∧ Arv Z h pa1 pk1 .byte (3 : Int32) [(.int px0.toInt8.toInt32), (.int px1.toInt8.toInt32), (.int (0 : Int32))] (.int 0) ∧ S' = []) ∨ (v = some (.int (3 : Int32)) ∧ Keep h0 h [pa1] ∧ ¬ ((255 : Int32) < px0) ∧ ¬ ((255 : Int32) < px1) ∧ ¬ ((255 : Int32) < px2) ∧ Arv Z h pa1 pk1 .byte (3 : Int32) [(.int px0.toInt8.toInt32), (.int px1.toInt8.toInt32), (.int px2.toInt8.toInt32)] (.int 0) ∧ S' = [])) := by
  refine Ow.Con.enter (Ls := #[.val (.ref pa0), .val (.int (0 : Int32)), .val (.ref pa1), .val (.int (0 : Int32)), .val (.int (3 : Int32)), .unset, .unset]) (plainFor_of_name pn3) O0 (hEW hw) (hSA hw) ?_
  intro p e s m below meth c B
  have z0 := Ow.old_le O0
  have lpa0 : (pa0 : Nat) < h0.size := hf0.lt
  have lpa1 : (pa1 : Nat) < h0.size := hf1.lt
  refine Ow.iconst (pc' := 1) (x := (0 : Int32)) B e7_0 ?_
  refine Ow.istore (pc' := 3) (Ls' := #[.val (.ref pa0), .val (.int (0 : Int32)), .val (.ref pa1), .val (.int (0 : Int32)), .val (.int (3 : Int32)), .val (.int (0 : Int32)), .unset]) B e7_1 ?_
  refine Ow.iload (pc' := 5) B e7_3 ?_
  refine Ow.iload (pc' := 7) B e7_5 ?_
  refine Ow.icmpF (pc' := 10) B e7_7 (by decide) ?_
  refine Ow.aloadN (pc' := 11) B e7_10 ?_
  refine Ow.iloadN (pc' := 12) B e7_11 ?_
  refine Ow.caload (pc' := 13) B e7_12 hf0 ⟨by decide, by decide⟩ rfl ?_
  refine Ow.istore (pc' := 15) (Ls' := #[.val (.ref pa0), .val (.int (0 : Int32)), .val (.ref pa1), .val (.int (0 : Int32)), .val (.int (3 : Int32)), .val (.int (0 : Int32)), .val (.int px0)]) B e7_13 ?_
  refine Ow.iload (pc' := 17) B e7_15 ?_
  refine Ow.sipush (pc' := 20) (x := (255 : Int32)) B e7_17 ?_
  by_cases c1 : (255 : Int32) < px0
  · refine Ow.icmpF (pc' := 23) B e7_20 (tlt c1).2.2.2 ?_
    refine Ow.iload (pc' := 25) B e7_23 ?_
    exact Ow.retI (S' := []) (t := .int) B e7_25 (Or.inl (⟨rfl, rfl, c1, rfl⟩))
  · refine Ow.icmpT (pc' := 26) B e7_20 (flt c1).2.2.2 ?_
    refine Ow.aloadN (pc' := 27) B e7_26 ?_
    refine Ow.iloadN (pc' := 28) B e7_27 ?_
    refine Ow.iload (pc' := 30) B e7_28 ?_
    refine Ow.i2b (pc' := 31) (z := px0.toInt8.toInt32) B e7_30 ?_
    refine Ow.bastore (pc' := 32) (i := 0) B e7_31 hf1 ⟨by decide, by decide⟩ (by simp) ?_
    intro h2 Kh2 V0h2
    have zh2 := Kh2.1
    have V3 : Arv Z h2 pa1 pk1 .byte (3 : Int32) [(.int px0.toInt8.toInt32), (.int (0 : Int32)), (.int (0 : Int32))] (.int 0) := (by have e0 := V0h2; rw [show nar .byte px0.toInt8.toInt32 = px0.toInt8.toInt32 from Ow.nar_b _] at e0; exact e0)
    refine Ow.iinc (pc' := 35) (y := (1 : Int32)) (Ls' := #[.val (.ref pa0), .val (.int (1 : Int32)), .val (.ref pa1), .val (.int (0 : Int32)), .val (.int (3 : Int32)), .val (.int (0 : Int32)), .val (.int px0)]) B e7_32 ?_
    refine Ow.iinc (pc' := 38) (y := (1 : Int32)) (Ls' := #[.val (.ref pa0), .val (.int (1 : Int32)), .val (.ref pa1), .val (.int (1 : Int32)), .val (.int (3 : Int32)), .val (.int (0 : Int32)), .val (.int px0)]) B e7_35 ?_
    refine Ow.iinc (pc' := 41) (y := (1 : Int32)) (Ls' := #[.val (.ref pa0), .val (.int (1 : Int32)), .val (.ref pa1), .val (.int (1 : Int32)), .val (.int (3 : Int32)), .val (.int (1 : Int32)), .val (.int px0)]) B e7_38 ?_
    refine Ow.goto (pc' := 3) B e7_41 ?_
    refine Ow.iload (pc' := 5) B e7_3 ?_
    refine Ow.iload (pc' := 7) B e7_5 ?_
    refine Ow.icmpF (pc' := 10) B e7_7 (by decide) ?_
    refine Ow.aloadN (pc' := 11) B e7_10 ?_
    refine Ow.iloadN (pc' := 12) B e7_11 ?_
    have f4 := hf0.keep Kh2 (Ow.ninS (by omega) Ow.nin0)
    refine Ow.caload (pc' := 13) B e7_12 f4 ⟨by decide, by decide⟩ rfl ?_
    refine Ow.istore (pc' := 15) (Ls' := #[.val (.ref pa0), .val (.int (1 : Int32)), .val (.ref pa1), .val (.int (1 : Int32)), .val (.int (3 : Int32)), .val (.int (1 : Int32)), .val (.int px1)]) B e7_13 ?_
    refine Ow.iload (pc' := 17) B e7_15 ?_
    refine Ow.sipush (pc' := 20) (x := (255 : Int32)) B e7_17 ?_
    by_cases c5 : (255 : Int32) < px1
    · refine Ow.icmpF (pc' := 23) B e7_20 (tlt c5).2.2.2 ?_
      refine Ow.iload (pc' := 25) B e7_23 ?_
      exact Ow.retI (S' := []) (t := .int) B e7_25 (Or.inr (Or.inl (⟨rfl, ((Keep.refl _ [pa1]).trans Kh2 (allS (Or.inl (by simp)) all0)), c1, c5, V3, rfl⟩)))
    · refine Ow.icmpT (pc' := 26) B e7_20 (flt c5).2.2.2 ?_
      refine Ow.aloadN (pc' := 27) B e7_26 ?_
      refine Ow.iloadN (pc' := 28) B e7_27 ?_
      refine Ow.iload (pc' := 30) B e7_28 ?_
      refine Ow.i2b (pc' := 31) (z := px1.toInt8.toInt32) B e7_30 ?_
      refine Ow.bastore (pc' := 32) (i := 1) B e7_31 V3 ⟨by decide, by decide⟩ (by simp) ?_
      intro h6 Kh6 V0h6
      have zh6 := Kh6.1
      have V7 : Arv Z h6 pa1 pk1 .byte (3 : Int32) [(.int px0.toInt8.toInt32), (.int px1.toInt8.toInt32), (.int (0 : Int32))] (.int 0) := (by have e0 := V0h6; rw [show nar .byte px1.toInt8.toInt32 = px1.toInt8.toInt32 from Ow.nar_b _] at e0; exact e0)
      refine Ow.iinc (pc' := 35) (y := (2 : Int32)) (Ls' := #[.val (.ref pa0), .val (.int (2 : Int32)), .val (.ref pa1), .val (.int (1 : Int32)), .val (.int (3 : Int32)), .val (.int (1 : Int32)), .val (.int px1)]) B e7_32 ?_
      refine Ow.iinc (pc' := 38) (y := (2 : Int32)) (Ls' := #[.val (.ref pa0), .val (.int (2 : Int32)), .val (.ref pa1), .val (.int (2 : Int32)), .val (.int (3 : Int32)), .val (.int (1 : Int32)), .val (.int px1)]) B e7_35 ?_
      refine Ow.iinc (pc' := 41) (y := (2 : Int32)) (Ls' := #[.val (.ref pa0), .val (.int (2 : Int32)), .val (.ref pa1), .val (.int (2 : Int32)), .val (.int (3 : Int32)), .val (.int (2 : Int32)), .val (.int px1)]) B e7_38 ?_
      refine Ow.goto (pc' := 3) B e7_41 ?_
      refine Ow.iload (pc' := 5) B e7_3 ?_
      refine Ow.iload (pc' := 7) B e7_5 ?_
      refine Ow.icmpF (pc' := 10) B e7_7 (by decide) ?_
      refine Ow.aloadN (pc' := 11) B e7_10 ?_
      refine Ow.iloadN (pc' := 12) B e7_11 ?_
      have f8 := f4.keep Kh6 (Ow.ninS (by omega) Ow.nin0)
      refine Ow.caload (pc' := 13) B e7_12 f8 ⟨by decide, by decide⟩ rfl ?_
      refine Ow.istore (pc' := 15) (Ls' := #[.val (.ref pa0), .val (.int (2 : Int32)), .val (.ref pa1), .val (.int (2 : Int32)), .val (.int (3 : Int32)), .val (.int (2 : Int32)), .val (.int px2)]) B e7_13 ?_
      refine Ow.iload (pc' := 17) B e7_15 ?_
      refine Ow.sipush (pc' := 20) (x := (255 : Int32)) B e7_17 ?_
      by_cases c9 : (255 : Int32) < px2
      · refine Ow.icmpF (pc' := 23) B e7_20 (tlt c9).2.2.2 ?_
        refine Ow.iload (pc' := 25) B e7_23 ?_
        exact Ow.retI (S' := []) (t := .int) B e7_25 (Or.inr (Or.inr (Or.inl (⟨rfl, (((Keep.refl _ [pa1]).trans Kh2 (allS (Or.inl (by simp)) all0)).trans Kh6 (allS (Or.inl (by simp)) all0)), c1, c5, c9, V7, rfl⟩))))
      · refine Ow.icmpT (pc' := 26) B e7_20 (flt c9).2.2.2 ?_
        refine Ow.aloadN (pc' := 27) B e7_26 ?_
        refine Ow.iloadN (pc' := 28) B e7_27 ?_
        refine Ow.iload (pc' := 30) B e7_28 ?_
        refine Ow.i2b (pc' := 31) (z := px2.toInt8.toInt32) B e7_30 ?_
        refine Ow.bastore (pc' := 32) (i := 2) B e7_31 V7 ⟨by decide, by decide⟩ (by simp) ?_
        intro h10 Kh10 V0h10
        have zh10 := Kh10.1
        have V11 : Arv Z h10 pa1 pk1 .byte (3 : Int32) [(.int px0.toInt8.toInt32), (.int px1.toInt8.toInt32), (.int px2.toInt8.toInt32)] (.int 0) := (by have e0 := V0h10; rw [show nar .byte px2.toInt8.toInt32 = px2.toInt8.toInt32 from Ow.nar_b _] at e0; exact e0)
        refine Ow.iinc (pc' := 35) (y := (3 : Int32)) (Ls' := #[.val (.ref pa0), .val (.int (3 : Int32)), .val (.ref pa1), .val (.int (2 : Int32)), .val (.int (3 : Int32)), .val (.int (2 : Int32)), .val (.int px2)]) B e7_32 ?_
        refine Ow.iinc (pc' := 38) (y := (3 : Int32)) (Ls' := #[.val (.ref pa0), .val (.int (3 : Int32)), .val (.ref pa1), .val (.int (3 : Int32)), .val (.int (3 : Int32)), .val (.int (2 : Int32)), .val (.int px2)]) B e7_35 ?_
        refine Ow.iinc (pc' := 41) (y := (3 : Int32)) (Ls' := #[.val (.ref pa0), .val (.int (3 : Int32)), .val (.ref pa1), .val (.int (3 : Int32)), .val (.int (3 : Int32)), .val (.int (3 : Int32)), .val (.int px2)]) B e7_38 ?_
        refine Ow.goto (pc' := 3) B e7_41 ?_
        refine Ow.iload (pc' := 5) B e7_3 ?_
        refine Ow.iload (pc' := 7) B e7_5 ?_
        refine Ow.icmpT (pc' := 44) B e7_7 (by decide) ?_
        refine Ow.iload (pc' := 46) B e7_44 ?_
        exact Ow.retI (S' := []) (t := .int) B e7_46 (Or.inr (Or.inr (Or.inr (⟨rfl, ((((Keep.refl _ [pa1]).trans Kh2 (allS (Or.inl (by simp)) all0)).trans Kh6 (allS (Or.inl (by simp)) all0)).trans Kh10 (allS (Or.inl (by simp)) all0)), c1, c5, c9, V11, rfl⟩))))
set_option maxRecDepth 65536 in
set_option maxHeartbeats 40000000 in
theorem con_newBytesLength_37 {l : Launch} {Z : State} {n0 : Nat} {a0 : Array Value} {cz : Int32} {sf : Value} (hw : Hw a0 Z) (G : Ow.Glo Z cz sf) (GS : GlS Z) {h0 : Heap} (O0 : Old Z n0 h0) :
    Ow.Con l Z EL1 n0 my7 jdk_52_method_3_code 1 (Option.some Jvm.ClassFile.FieldType.int) [] ({ frames := 0, cells := 0, slots := 0, locals := 0 } : Room) #[(.int (3 : Int32))] [] h0 (fun v h S' => (v = some (.int (6 : Int32)) ∧ h = h0 ∧ S' = [])) := by
  refine Ow.Con.enter (Ls := #[.val (.int (3 : Int32))]) (plainFor_of_name pn3) O0 (hEW hw) (hSA hw) ?_
  intro p e s m below meth c B
  have z0 := Ow.old_le O0
  refine Ow.iloadN (pc' := 1) B e10_0 ?_
  refine Ow.ifT (pc' := 12) B e10_1 (by decide) ?_
  refine Ow.iloadN (pc' := 13) B e10_12 ?_
  refine Ow.ldcInt (pc' := 15) B e10_13 (w86 hw) ?_
  refine Ow.icmpT (pc' := 55) B e10_15 (by decide) ?_
  refine Ow.iloadN (pc' := 56) B e10_55 ?_
  refine Ow.iconst (pc' := 57) (x := (1 : Int32)) B e10_56 ?_
  refine Ow.ishl (pc' := 58) (z := (6 : Int32)) B e10_57 ?_
  exact Ow.retI (S' := []) (t := .int) B e10_58 (⟨rfl, rfl, rfl⟩)
set_option maxRecDepth 65536 in
set_option maxHeartbeats 40000000 in
theorem con_newBytesFor_38 {l : Launch} {Z : State} {n0 : Nat} {a0 : Array Value} {cz : Int32} {sf : Value} (hw : Hw a0 Z) (G : Ow.Glo Z cz sf) (GS : GlS Z) {h0 : Heap} (O0 : Old Z n0 h0) :
    Ow.Con l Z EL1 n0 my8 jdk_52_method_2_code 1 (Option.some (Jvm.ClassFile.FieldType.array Jvm.ClassFile.FieldType.byte)) [] ({ frames := 1, cells := 1, slots := 6, locals := 12 } : Room) #[(.int (3 : Int32))] [] h0 (fun v h S' => (∃ r0 : Nat, ∃ k0 : ClassId, v = some (.ref r0) ∧ Keep h0 h [] ∧ h0.size ≤ r0 ∧ Arv Z h r0 k0 .byte (6 : Int32) [(.int (0 : Int32)), (.int (0 : Int32)), (.int (0 : Int32)), (.int (0 : Int32)), (.int (0 : Int32)), (.int (0 : Int32))] (.int 0) ∧ S' = [r0])) := by
  refine Ow.Con.enter (Ls := #[.val (.int (3 : Int32))]) (plainFor_of_name pn3) O0 (hEW hw) (hSA hw) ?_
  intro p e s m below meth c B
  have z0 := Ow.old_le O0
  refine Ow.iloadN (pc' := 1) B e9_0 ?_
  refine Ow.Go.old (fun o1 => ?_)
  refine Ow.callStatic (pc' := 4) (W := 0) (k' := 0) (n' := 0) (argsL := [(.int (3 : Int32))]) (rest := []) B e9_1 (w83 hw) (w84 hw) (w44 hw) (w85 hw) (con_newBytesLength_37 hw G GS o1) pd7 ?_
  intro vq2 h3 S4 q2 zh3
  obtain ⟨rfl, rfl, rfl⟩ := q2
  refine Ow.Go.norm (S' := []) (st' := [(.int (6 : Int32))]) (fun _ q => List.mem_append_right _ q) rfl ?_
  refine Ow.newArr (pc' := 6) (k' := 1) (n' := 6) (cap := 6) B e9_4 (w15 hw) (by decide) (by decide) ?_
  intro h6 a5 ka5 ga5 ba5 Kh6 V0a5
  have zh6 := Kh6.1
  have la5 : (a5 : Nat) < h6.size := V0a5.lt
  have Va5 : Arv Z h6 a5 ka5 .byte (6 : Int32) [(.int 0), (.int 0), (.int 0), (.int 0), (.int 0), (.int 0)] (.int 0) := V0a5.pad (pad_rep [] (.int 0) 6)
  exact Ow.retA (S' := [a5]) (t := (.array .byte)) B e9_6 (⟨a5, ka5, rfl, ((Keep.refl _ []).trans Kh6 (fun _ q => nomatch q)), (by omega), Va5, rfl⟩)
set_option maxRecDepth 65536 in
set_option maxHeartbeats 40000000 in
theorem con_putChar_39 {l : Launch} {Z : State} {n0 : Nat} {a0 : Array Value} {cz : Int32} {sf : Value} (hw : Hw a0 Z) (G : Ow.Glo Z cz sf) (GS : GlS Z) {pa0 : Nat} {px0 : Int32} {pk0 : ClassId} {h0 : Heap} (O0 : Old Z n0 h0) (hf0 : Arv Z h0 pa0 pk0 .byte (6 : Int32) [(.int (0 : Int32)), (.int (0 : Int32)), (.int (0 : Int32)), (.int (0 : Int32)), (.int (0 : Int32)), (.int (0 : Int32))] (.int 0)) (hn0 : n0 ≤ pa0) (hc_px0 : nar .char px0 = px0) :
    Ow.Con l Z EL1 n0 my9 jdk_52_method_4_code 3 (Option.none : Option Jvm.ClassFile.FieldType) [] ({ frames := 0, cells := 0, slots := 0, locals := 0 } : Room) #[(.ref pa0), (.int (0 : Int32)), (.int px0)] [pa0] h0 (fun v h S' => (v = none ∧ Keep h0 h [pa0] ∧ Arv Z h pa0 pk0 .byte (6 : Int32) [(.int px0.toInt8.toInt32), (.int (px0 >>> ((8 : Int32) &&& 31)).toInt8.toInt32), (.int (0 : Int32)), (.int (0 : Int32)), (.int (0 : Int32)), (.int (0 : Int32))] (.int 0) ∧ S' = [])) := by
  refine Ow.Con.enter (Ls := #[.val (.ref pa0), .val (.int (0 : Int32)), .val (.int px0)]) (plainFor_of_name pn3) O0 (hEW hw) (hSA hw) ?_
  intro p e s m below meth c B
  have z0 := Ow.old_le O0
  have lpa0 : (pa0 : Nat) < h0.size := hf0.lt
  refine Ow.getstatic (pc' := 3) B e11_0 (w90 hw) Via.refl GS.1 ?_
  refine Ow.ifT (pc' := 28) B e11_3 (by decide) ?_
  refine Ow.iloadN (pc' := 29) B e11_28 ?_
  refine Ow.iconst (pc' := 30) (x := (1 : Int32)) B e11_29 ?_
  refine Ow.ishl (pc' := 31) (z := (0 : Int32)) B e11_30 ?_
  refine Ow.istoreN (pc' := 32) (Ls' := #[.val (.ref pa0), .val (.int (0 : Int32)), .val (.int px0)]) B e11_31 ?_
  refine Ow.aloadN (pc' := 33) B e11_32 ?_
  refine Ow.iloadN (pc' := 34) B e11_33 ?_
  refine Ow.iinc (pc' := 37) (y := (1 : Int32)) (Ls' := #[.val (.ref pa0), .val (.int (1 : Int32)), .val (.int px0)]) B e11_34 ?_
  refine Ow.iloadN (pc' := 38) B e11_37 ?_
  refine Ow.getstatic (pc' := 41) B e11_38 (w91 hw) Via.refl GS.2.1 ?_
  refine Ow.ishr (pc' := 42) (z := px0) (hz := (Ow.shr0 _)) B e11_41 ?_
  refine Ow.i2b (pc' := 43) (z := px0.toInt8.toInt32) B e11_42 ?_
  refine Ow.bastore (pc' := 44) (i := 0) B e11_43 hf0 ⟨by decide, by decide⟩ (by simp) ?_
  intro h1 Kh1 V0h1
  have zh1 := Kh1.1
  have V2 : Arv Z h1 pa0 pk0 .byte (6 : Int32) [(.int px0.toInt8.toInt32), (.int (0 : Int32)), (.int (0 : Int32)), (.int (0 : Int32)), (.int (0 : Int32)), (.int (0 : Int32))] (.int 0) := (by have e0 := V0h1; rw [show nar .byte px0.toInt8.toInt32 = px0.toInt8.toInt32 from Ow.nar_b _] at e0; exact e0)
  refine Ow.aloadN (pc' := 45) B e11_44 ?_
  refine Ow.iloadN (pc' := 46) B e11_45 ?_
  refine Ow.iloadN (pc' := 47) B e11_46 ?_
  refine Ow.getstatic (pc' := 50) B e11_47 (w92 hw) Via.refl GS.2.2 ?_
  refine Ow.ishr (pc' := 51) (z := (px0 >>> ((8 : Int32) &&& 31))) B e11_50 ?_
  refine Ow.i2b (pc' := 52) (z := (px0 >>> ((8 : Int32) &&& 31)).toInt8.toInt32) B e11_51 ?_
  refine Ow.bastore (pc' := 53) (i := 1) B e11_52 V2 ⟨by decide, by decide⟩ (by simp) ?_
  intro h3 Kh3 V0h3
  have zh3 := Kh3.1
  have V4 : Arv Z h3 pa0 pk0 .byte (6 : Int32) [(.int px0.toInt8.toInt32), (.int (px0 >>> ((8 : Int32) &&& 31)).toInt8.toInt32), (.int (0 : Int32)), (.int (0 : Int32)), (.int (0 : Int32)), (.int (0 : Int32))] (.int 0) := (by have e0 := V0h3; rw [show nar .byte (px0 >>> ((8 : Int32) &&& 31)).toInt8.toInt32 = (px0 >>> ((8 : Int32) &&& 31)).toInt8.toInt32 from Ow.nar_b _] at e0; exact e0)
  exact Ow.retV (S' := []) B e11_53 (⟨rfl, (((Keep.refl _ [pa0]).trans Kh1 (allS (Or.inl (by simp)) all0)).trans Kh3 (allS (Or.inl (by simp)) all0)), V4, rfl⟩)
set_option maxRecDepth 65536 in
set_option maxHeartbeats 40000000 in
theorem con_putChar_40 {l : Launch} {Z : State} {n0 : Nat} {a0 : Array Value} {cz : Int32} {sf : Value} (hw : Hw a0 Z) (G : Ow.Glo Z cz sf) (GS : GlS Z) {pa0 : Nat} {px0 : Int32} {px1 : Int32} {pk0 : ClassId} {h0 : Heap} (O0 : Old Z n0 h0) (hf0 : Arv Z h0 pa0 pk0 .byte (6 : Int32) [(.int px1.toInt8.toInt32), (.int (px1 >>> ((8 : Int32) &&& 31)).toInt8.toInt32), (.int (0 : Int32)), (.int (0 : Int32)), (.int (0 : Int32)), (.int (0 : Int32))] (.int 0)) (hn0 : n0 ≤ pa0) (hc_px0 : nar .char px0 = px0) (hc_px1 : nar .char px1 = px1) :
    Ow.Con l Z EL1 n0 my9 jdk_52_method_4_code 3 (Option.none : Option Jvm.ClassFile.FieldType) [] ({ frames := 0, cells := 0, slots := 0, locals := 0 } : Room) #[(.ref pa0), (.int (1 : Int32)), (.int px0)] [pa0] h0 (fun v h S' => (v = none ∧ Keep h0 h [pa0] ∧ Arv Z h pa0 pk0 .byte (6 : Int32) [(.int px1.toInt8.toInt32), (.int (px1 >>> ((8 : Int32) &&& 31)).toInt8.toInt32), (.int px0.toInt8.toInt32), (.int (px0 >>> ((8 : Int32) &&& 31)).toInt8.toInt32), (.int (0 : Int32)), (.int (0 : Int32))] (.int 0) ∧ S' = [])) := by
  refine Ow.Con.enter (Ls := #[.val (.ref pa0), .val (.int (1 : Int32)), .val (.int px0)]) (plainFor_of_name pn3) O0 (hEW hw) (hSA hw) ?_
  intro p e s m below meth c B
  have z0 := Ow.old_le O0
  have lpa0 : (pa0 : Nat) < h0.size := hf0.lt
  refine Ow.getstatic (pc' := 3) B e11_0 (w90 hw) Via.refl GS.1 ?_
  refine Ow.ifT (pc' := 28) B e11_3 (by decide) ?_
  refine Ow.iloadN (pc' := 29) B e11_28 ?_
  refine Ow.iconst (pc' := 30) (x := (1 : Int32)) B e11_29 ?_
  refine Ow.ishl (pc' := 31) (z := (2 : Int32)) B e11_30 ?_
  refine Ow.istoreN (pc' := 32) (Ls' := #[.val (.ref pa0), .val (.int (2 : Int32)), .val (.int px0)]) B e11_31 ?_
  refine Ow.aloadN (pc' := 33) B e11_32 ?_
  refine Ow.iloadN (pc' := 34) B e11_33 ?_
  refine Ow.iinc (pc' := 37) (y := (3 : Int32)) (Ls' := #[.val (.ref pa0), .val (.int (3 : Int32)), .val (.int px0)]) B e11_34 ?_
  refine Ow.iloadN (pc' := 38) B e11_37 ?_
  refine Ow.getstatic (pc' := 41) B e11_38 (w91 hw) Via.refl GS.2.1 ?_
  refine Ow.ishr (pc' := 42) (z := px0) (hz := (Ow.shr0 _)) B e11_41 ?_
  refine Ow.i2b (pc' := 43) (z := px0.toInt8.toInt32) B e11_42 ?_
  refine Ow.bastore (pc' := 44) (i := 2) B e11_43 hf0 ⟨by decide, by decide⟩ (by simp) ?_
  intro h1 Kh1 V0h1
  have zh1 := Kh1.1
  have V2 : Arv Z h1 pa0 pk0 .byte (6 : Int32) [(.int px1.toInt8.toInt32), (.int (px1 >>> ((8 : Int32) &&& 31)).toInt8.toInt32), (.int px0.toInt8.toInt32), (.int (0 : Int32)), (.int (0 : Int32)), (.int (0 : Int32))] (.int 0) := (by have e0 := V0h1; rw [show nar .byte px0.toInt8.toInt32 = px0.toInt8.toInt32 from Ow.nar_b _] at e0; exact e0)
  refine Ow.aloadN (pc' := 45) B e11_44 ?_
  refine Ow.iloadN (pc' := 46) B e11_45 ?_
  refine Ow.iloadN (pc' := 47) B e11_46 ?_
  refine Ow.getstatic (pc' := 50) B e11_47 (w92 hw) Via.refl GS.2.2 ?_
  refine Ow.ishr (pc' := 51) (z := (px0 >>> ((8 : Int32) &&& 31))) B e11_50 ?_
  refine Ow.i2b (pc' := 52) (z := (px0 >>> ((8 : Int32) &&& 31)).toInt8.toInt32) B e11_51 ?_
  refine Ow.bastore (pc' := 53) (i := 3) B e11_52 V2 ⟨by decide, by decide⟩ (by simp) ?_
  intro h3 Kh3 V0h3
  have zh3 := Kh3.1
  have V4 : Arv Z h3 pa0 pk0 .byte (6 : Int32) [(.int px1.toInt8.toInt32), (.int (px1 >>> ((8 : Int32) &&& 31)).toInt8.toInt32), (.int px0.toInt8.toInt32), (.int (px0 >>> ((8 : Int32) &&& 31)).toInt8.toInt32), (.int (0 : Int32)), (.int (0 : Int32))] (.int 0) := (by have e0 := V0h3; rw [show nar .byte (px0 >>> ((8 : Int32) &&& 31)).toInt8.toInt32 = (px0 >>> ((8 : Int32) &&& 31)).toInt8.toInt32 from Ow.nar_b _] at e0; exact e0)
  exact Ow.retV (S' := []) B e11_53 (⟨rfl, (((Keep.refl _ [pa0]).trans Kh1 (allS (Or.inl (by simp)) all0)).trans Kh3 (allS (Or.inl (by simp)) all0)), V4, rfl⟩)
set_option maxRecDepth 65536 in
set_option maxHeartbeats 40000000 in
theorem con_putChar_41 {l : Launch} {Z : State} {n0 : Nat} {a0 : Array Value} {cz : Int32} {sf : Value} (hw : Hw a0 Z) (G : Ow.Glo Z cz sf) (GS : GlS Z) {pa0 : Nat} {px0 : Int32} {px1 : Int32} {px2 : Int32} {pk0 : ClassId} {h0 : Heap} (O0 : Old Z n0 h0) (hf0 : Arv Z h0 pa0 pk0 .byte (6 : Int32) [(.int px1.toInt8.toInt32), (.int (px1 >>> ((8 : Int32) &&& 31)).toInt8.toInt32), (.int px2.toInt8.toInt32), (.int (px2 >>> ((8 : Int32) &&& 31)).toInt8.toInt32), (.int (0 : Int32)), (.int (0 : Int32))] (.int 0)) (hn0 : n0 ≤ pa0) (hc_px0 : nar .char px0 = px0) (hc_px1 : nar .char px1 = px1) (hc_px2 : nar .char px2 = px2) :
    Ow.Con l Z EL1 n0 my9 jdk_52_method_4_code 3 (Option.none : Option Jvm.ClassFile.FieldType) [] ({ frames := 0, cells := 0, slots := 0, locals := 0 } : Room) #[(.ref pa0), (.int (2 : Int32)), (.int px0)] [pa0] h0 (fun v h S' => (v = none ∧ Keep h0 h [pa0] ∧ Arv Z h pa0 pk0 .byte (6 : Int32) [(.int px1.toInt8.toInt32), (.int (px1 >>> ((8 : Int32) &&& 31)).toInt8.toInt32), (.int px2.toInt8.toInt32), (.int (px2 >>> ((8 : Int32) &&& 31)).toInt8.toInt32), (.int px0.toInt8.toInt32), (.int (px0 >>> ((8 : Int32) &&& 31)).toInt8.toInt32)] (.int 0) ∧ S' = [])) := by
  refine Ow.Con.enter (Ls := #[.val (.ref pa0), .val (.int (2 : Int32)), .val (.int px0)]) (plainFor_of_name pn3) O0 (hEW hw) (hSA hw) ?_
  intro p e s m below meth c B
  have z0 := Ow.old_le O0
  have lpa0 : (pa0 : Nat) < h0.size := hf0.lt
  refine Ow.getstatic (pc' := 3) B e11_0 (w90 hw) Via.refl GS.1 ?_
  refine Ow.ifT (pc' := 28) B e11_3 (by decide) ?_
  refine Ow.iloadN (pc' := 29) B e11_28 ?_
  refine Ow.iconst (pc' := 30) (x := (1 : Int32)) B e11_29 ?_
  refine Ow.ishl (pc' := 31) (z := (4 : Int32)) B e11_30 ?_
  refine Ow.istoreN (pc' := 32) (Ls' := #[.val (.ref pa0), .val (.int (4 : Int32)), .val (.int px0)]) B e11_31 ?_
  refine Ow.aloadN (pc' := 33) B e11_32 ?_
  refine Ow.iloadN (pc' := 34) B e11_33 ?_
  refine Ow.iinc (pc' := 37) (y := (5 : Int32)) (Ls' := #[.val (.ref pa0), .val (.int (5 : Int32)), .val (.int px0)]) B e11_34 ?_
  refine Ow.iloadN (pc' := 38) B e11_37 ?_
  refine Ow.getstatic (pc' := 41) B e11_38 (w91 hw) Via.refl GS.2.1 ?_
  refine Ow.ishr (pc' := 42) (z := px0) (hz := (Ow.shr0 _)) B e11_41 ?_
  refine Ow.i2b (pc' := 43) (z := px0.toInt8.toInt32) B e11_42 ?_
  refine Ow.bastore (pc' := 44) (i := 4) B e11_43 hf0 ⟨by decide, by decide⟩ (by simp) ?_
  intro h1 Kh1 V0h1
  have zh1 := Kh1.1
  have V2 : Arv Z h1 pa0 pk0 .byte (6 : Int32) [(.int px1.toInt8.toInt32), (.int (px1 >>> ((8 : Int32) &&& 31)).toInt8.toInt32), (.int px2.toInt8.toInt32), (.int (px2 >>> ((8 : Int32) &&& 31)).toInt8.toInt32), (.int px0.toInt8.toInt32), (.int (0 : Int32))] (.int 0) := (by have e0 := V0h1; rw [show nar .byte px0.toInt8.toInt32 = px0.toInt8.toInt32 from Ow.nar_b _] at e0; exact e0)
  refine Ow.aloadN (pc' := 45) B e11_44 ?_
  refine Ow.iloadN (pc' := 46) B e11_45 ?_
  refine Ow.iloadN (pc' := 47) B e11_46 ?_
  refine Ow.getstatic (pc' := 50) B e11_47 (w92 hw) Via.refl GS.2.2 ?_
  refine Ow.ishr (pc' := 51) (z := (px0 >>> ((8 : Int32) &&& 31))) B e11_50 ?_
  refine Ow.i2b (pc' := 52) (z := (px0 >>> ((8 : Int32) &&& 31)).toInt8.toInt32) B e11_51 ?_
  refine Ow.bastore (pc' := 53) (i := 5) B e11_52 V2 ⟨by decide, by decide⟩ (by simp) ?_
  intro h3 Kh3 V0h3
  have zh3 := Kh3.1
  have V4 : Arv Z h3 pa0 pk0 .byte (6 : Int32) [(.int px1.toInt8.toInt32), (.int (px1 >>> ((8 : Int32) &&& 31)).toInt8.toInt32), (.int px2.toInt8.toInt32), (.int (px2 >>> ((8 : Int32) &&& 31)).toInt8.toInt32), (.int px0.toInt8.toInt32), (.int (px0 >>> ((8 : Int32) &&& 31)).toInt8.toInt32)] (.int 0) := (by have e0 := V0h3; rw [show nar .byte (px0 >>> ((8 : Int32) &&& 31)).toInt8.toInt32 = (px0 >>> ((8 : Int32) &&& 31)).toInt8.toInt32 from Ow.nar_b _] at e0; exact e0)
  exact Ow.retV (S' := []) B e11_53 (⟨rfl, (((Keep.refl _ [pa0]).trans Kh1 (allS (Or.inl (by simp)) all0)).trans Kh3 (allS (Or.inl (by simp)) all0)), V4, rfl⟩)
set_option maxRecDepth 65536 in
set_option maxHeartbeats 40000000 in
theorem con_toBytes_42 {l : Launch} {Z : State} {n0 : Nat} {a0 : Array Value} {cz : Int32} {sf : Value} (hw : Hw a0 Z) (G : Ow.Glo Z cz sf) (GS : GlS Z) {pa0 : Nat} {px0 : Int32} {px1 : Int32} {px2 : Int32} {pk0 : ClassId} {h0 : Heap} (O0 : Old Z n0 h0) (hf0 : Arv Z h0 pa0 pk0 .char (3 : Int32) [(.int px0), (.int px1), (.int px2)] (.int 0)) (hn0 : n0 ≤ pa0) (hc_px0 : nar .char px0 = px0) (hc_px1 : nar .char px1 = px1) (hc_px2 : nar .char px2 = px2) :
    Ow.Con l Z EL1 n0 my10 jdk_52_method_14_code 5 (Option.some (Jvm.ClassFile.FieldType.array Jvm.ClassFile.FieldType.byte)) [] ({ frames := 2, cells := 1, slots := 6, locals := 24 } : Room) #[(.ref pa0), (.int (0 : Int32)), (.int (3 : Int32))] [] h0 (fun v h S' => (∃ r0 : Nat, ∃ k0 : ClassId, v = some (.ref r0) ∧ Keep h0 h [] ∧ h0.size ≤ r0 ∧ Arv Z h r0 k0 .byte (6 : Int32) [(.int px0.toInt8.toInt32), (.int (px0 >>> ((8 : Int32) &&& 31)).toInt8.toInt32), (.int px1.toInt8.toInt32), (.int (px1 >>> ((8 : Int32) &&& 31)).toInt8.toInt32), (.int px2.toInt8.toInt32), (.int (px2 >>> ((8 : Int32) &&& 31)).toInt8.toInt32)] (.int 0) ∧ S' = [r0])) := by
  refine Ow.Con.enter (Ls := #[.val (.ref pa0), .val (.int (0 : Int32)), .val (.int (3 : Int32)), .unset, .unset]) (plainFor_of_name pn3) O0 (hEW hw) (hSA hw) ?_
  intro p e s m below meth c B
  have z0 := Ow.old_le O0
  have lpa0 : (pa0 : Nat) < h0.size := hf0.lt
  refine Ow.iloadN (pc' := 1) B e8_0 ?_
  refine Ow.Go.old (fun o1 => ?_)
  refine Ow.callStatic (pc' := 4) (W := 0) (k' := 1) (n' := 6) (argsL := [(.int (3 : Int32))]) (rest := []) B e8_1 (w80 hw) (w81 hw) (w44 hw) (w82 hw) (con_newBytesFor_38 hw G GS o1) pd8 ?_
  intro vq2 h3 S4 q2 zh3
  obtain ⟨r5, k6, rfl, Kh3, br5, f7, rfl⟩ := q2
  have lr5 : (r5 : Nat) < h3.size := f7.lt
  refine Ow.Go.norm (S' := [r5]) (st' := [(.ref r5)]) (fun _ q => q) rfl ?_
  refine Ow.astoreN (pc' := 5) (Ls' := #[.val (.ref pa0), .val (.int (0 : Int32)), .val (.int (3 : Int32)), .val (.ref r5), .unset]) B e8_4 ?_
  refine Ow.iconst (pc' := 6) (x := (0 : Int32)) B e8_5 ?_
  refine Ow.istore (pc' := 8) (Ls' := #[.val (.ref pa0), .val (.int (0 : Int32)), .val (.int (3 : Int32)), .val (.ref r5), .val (.int (0 : Int32))]) B e8_6 ?_
  refine Ow.iload (pc' := 10) B e8_8 ?_
  refine Ow.iloadN (pc' := 11) B e8_10 ?_
  refine Ow.icmpF (pc' := 14) B e8_11 (by decide) ?_
  refine Ow.aloadN (pc' := 15) B e8_14 ?_
  refine Ow.iload (pc' := 17) B e8_15 ?_
  refine Ow.aloadN (pc' := 18) B e8_17 ?_
  refine Ow.iloadN (pc' := 19) B e8_18 ?_
  have f8 := hf0.keep Kh3 Ow.nin0
  refine Ow.caload (pc' := 20) B e8_19 f8 ⟨by decide, by decide⟩ rfl ?_
  refine Ow.Go.old (fun o9 => ?_)
  refine Ow.callStatic (pc' := 23) (W := 0) (k' := 1) (n' := 6) (argsL := [(.ref r5), (.int (0 : Int32)), (.int px0)]) (rest := []) B e8_20 (w87 hw) (w88 hw) (w44 hw) (w89 hw) (con_putChar_39 hw G GS (pa0 := r5) (px0 := px0) (pk0 := k6) o9 f7 (by omega) hc_px0) pd9 ?_
  intro vq10 h11 S12 q10 zh11
  obtain ⟨rfl, Kh11, f13, rfl⟩ := q10
  refine Ow.Go.norm (S' := [r5]) (st' := []) (fun _ q => List.mem_append_right _ q) rfl ?_
  refine Ow.iinc (pc' := 26) (y := (1 : Int32)) (Ls' := #[.val (.ref pa0), .val (.int (1 : Int32)), .val (.int (3 : Int32)), .val (.ref r5), .val (.int (0 : Int32))]) B e8_23 ?_
  refine Ow.iinc (pc' := 29) (y := (1 : Int32)) (Ls' := #[.val (.ref pa0), .val (.int (1 : Int32)), .val (.int (3 : Int32)), .val (.ref r5), .val (.int (1 : Int32))]) B e8_26 ?_
  refine Ow.goto (pc' := 8) B e8_29 ?_
  refine Ow.iload (pc' := 10) B e8_8 ?_
  refine Ow.iloadN (pc' := 11) B e8_10 ?_
  refine Ow.icmpF (pc' := 14) B e8_11 (by decide) ?_
  refine Ow.aloadN (pc' := 15) B e8_14 ?_
  refine Ow.iload (pc' := 17) B e8_15 ?_
  refine Ow.aloadN (pc' := 18) B e8_17 ?_
  refine Ow.iloadN (pc' := 19) B e8_18 ?_
  have f14 := f8.keep Kh11 (Ow.ninS (by omega) Ow.nin0)
  refine Ow.caload (pc' := 20) B e8_19 f14 ⟨by decide, by decide⟩ rfl ?_
  refine Ow.Go.old (fun o15 => ?_)
  refine Ow.callStatic (pc' := 23) (W := 0) (k' := 1) (n' := 6) (argsL := [(.ref r5), (.int (1 : Int32)), (.int px1)]) (rest := []) B e8_20 (w87 hw) (w88 hw) (w44 hw) (w89 hw) (con_putChar_40 hw G GS (pa0 := r5) (px0 := px1) (px1 := px0) (pk0 := k6) o15 f13 (by omega) hc_px1 hc_px0) pd9 ?_
  intro vq16 h17 S18 q16 zh17
  obtain ⟨rfl, Kh17, f19, rfl⟩ := q16
  refine Ow.Go.norm (S' := [r5]) (st' := []) (fun _ q => List.mem_append_right _ q) rfl ?_
  refine Ow.iinc (pc' := 26) (y := (2 : Int32)) (Ls' := #[.val (.ref pa0), .val (.int (2 : Int32)), .val (.int (3 : Int32)), .val (.ref r5), .val (.int (1 : Int32))]) B e8_23 ?_
  refine Ow.iinc (pc' := 29) (y := (2 : Int32)) (Ls' := #[.val (.ref pa0), .val (.int (2 : Int32)), .val (.int (3 : Int32)), .val (.ref r5), .val (.int (2 : Int32))]) B e8_26 ?_
  refine Ow.goto (pc' := 8) B e8_29 ?_
  refine Ow.iload (pc' := 10) B e8_8 ?_
  refine Ow.iloadN (pc' := 11) B e8_10 ?_
  refine Ow.icmpF (pc' := 14) B e8_11 (by decide) ?_
  refine Ow.aloadN (pc' := 15) B e8_14 ?_
  refine Ow.iload (pc' := 17) B e8_15 ?_
  refine Ow.aloadN (pc' := 18) B e8_17 ?_
  refine Ow.iloadN (pc' := 19) B e8_18 ?_
  have f20 := f14.keep Kh17 (Ow.ninS (by omega) Ow.nin0)
  refine Ow.caload (pc' := 20) B e8_19 f20 ⟨by decide, by decide⟩ rfl ?_
  refine Ow.Go.old (fun o21 => ?_)
  refine Ow.callStatic (pc' := 23) (W := 0) (k' := 1) (n' := 6) (argsL := [(.ref r5), (.int (2 : Int32)), (.int px2)]) (rest := []) B e8_20 (w87 hw) (w88 hw) (w44 hw) (w89 hw) (con_putChar_41 hw G GS (pa0 := r5) (px0 := px2) (px1 := px0) (px2 := px1) (pk0 := k6) o21 f19 (by omega) hc_px2 hc_px0 hc_px1) pd9 ?_
  intro vq22 h23 S24 q22 zh23
  obtain ⟨rfl, Kh23, f25, rfl⟩ := q22
  refine Ow.Go.norm (S' := [r5]) (st' := []) (fun _ q => List.mem_append_right _ q) rfl ?_
  refine Ow.iinc (pc' := 26) (y := (3 : Int32)) (Ls' := #[.val (.ref pa0), .val (.int (3 : Int32)), .val (.int (3 : Int32)), .val (.ref r5), .val (.int (2 : Int32))]) B e8_23 ?_
  refine Ow.iinc (pc' := 29) (y := (3 : Int32)) (Ls' := #[.val (.ref pa0), .val (.int (3 : Int32)), .val (.int (3 : Int32)), .val (.ref r5), .val (.int (3 : Int32))]) B e8_26 ?_
  refine Ow.goto (pc' := 8) B e8_29 ?_
  refine Ow.iload (pc' := 10) B e8_8 ?_
  refine Ow.iloadN (pc' := 11) B e8_10 ?_
  refine Ow.icmpT (pc' := 32) B e8_11 (by decide) ?_
  refine Ow.aloadN (pc' := 33) B e8_32 ?_
  exact Ow.retA (S' := [r5]) (t := (.array .byte)) B e8_33 (⟨r5, k6, rfl, (((((Keep.refl _ []).trans Kh3 (fun _ q => nomatch q)).trans Kh11 (allS (Or.inr (by omega)) all0)).trans Kh17 (allS (Or.inr (by omega)) all0)).trans Kh23 (allS (Or.inr (by omega)) all0)), (by omega), f25, rfl⟩)
set_option maxRecDepth 65536 in
set_option maxHeartbeats 40000000 in
theorem con_getChar_43 {l : Launch} {Z : State} {n0 : Nat} {a0 : Array Value} {cz : Int32} {sf : Value} (hw : Hw a0 Z) (G : Ow.Glo Z cz sf) (GS : GlS Z) {pa0 : Nat} {px0 : Int32} {px1 : Int32} {px2 : Int32} {pk0 : ClassId} {h0 : Heap} (O0 : Old Z n0 h0) (hf0 : Arv Z h0 pa0 pk0 .byte (6 : Int32) [(.int px0.toInt8.toInt32), (.int (px0 >>> ((8 : Int32) &&& 31)).toInt8.toInt32), (.int px1.toInt8.toInt32), (.int (px1 >>> ((8 : Int32) &&& 31)).toInt8.toInt32), (.int px2.toInt8.toInt32), (.int (px2 >>> ((8 : Int32) &&& 31)).toInt8.toInt32)] (.int 0)) (hn0 : n0 ≤ pa0) (hk0 : ¬ ((65535 : Int32) < px0)) (hk1 : ¬ (px0 < (0 : Int32))) (hc_px0 : nar .char px0 = px0) (hc_px1 : nar .char px1 = px1) (hc_px2 : nar .char px2 = px2) :
    Ow.Con l Z EL1 n0 my11 jdk_52_method_5_code 2 (Option.some Jvm.ClassFile.FieldType.char) [] ({ frames := 0, cells := 0, slots := 0, locals := 0 } : Room) #[(.ref pa0), (.int (0 : Int32))] [pa0] h0 (fun v h S' => (v = some (.int px0) ∧ h = h0 ∧ S' = [])) := by
  refine Ow.Con.enter (Ls := #[.val (.ref pa0), .val (.int (0 : Int32))]) (plainFor_of_name pn3) O0 (hEW hw) (hSA hw) ?_
  intro p e s m below meth c B
  have z0 := Ow.old_le O0
  have lpa0 : (pa0 : Nat) < h0.size := hf0.lt
  refine Ow.getstatic (pc' := 3) B e12_0 (w90 hw) Via.refl GS.1 ?_
  refine Ow.ifT (pc' := 28) B e12_3 (by decide) ?_
  refine Ow.iloadN (pc' := 29) B e12_28 ?_
  refine Ow.iconst (pc' := 30) (x := (1 : Int32)) B e12_29 ?_
  refine Ow.ishl (pc' := 31) (z := (0 : Int32)) B e12_30 ?_
  refine Ow.istoreN (pc' := 32) (Ls' := #[.val (.ref pa0), .val (.int (0 : Int32))]) B e12_31 ?_
  refine Ow.aloadN (pc' := 33) B e12_32 ?_
  refine Ow.iloadN (pc' := 34) B e12_33 ?_
  refine Ow.iinc (pc' := 37) (y := (1 : Int32)) (Ls' := #[.val (.ref pa0), .val (.int (1 : Int32))]) B e12_34 ?_
  refine Ow.baload (pc' := 38) B e12_37 hf0 ⟨by decide, by decide⟩ rfl ?_
  refine Ow.sipush (pc' := 41) (x := (255 : Int32)) B e12_38 ?_
  refine Ow.iand (pc' := 42) (z := (px0.toInt8.toInt32 &&& (255 : Int32))) B e12_41 ?_
  refine Ow.getstatic (pc' := 45) B e12_42 (w91 hw) Via.refl GS.2.1 ?_
  refine Ow.ishl (pc' := 46) (z := ((px0.toInt8.toInt32 &&& (255 : Int32)) <<< ((0 : Int32) &&& 31))) B e12_45 ?_
  refine Ow.aloadN (pc' := 47) B e12_46 ?_
  refine Ow.iloadN (pc' := 48) B e12_47 ?_
  refine Ow.baload (pc' := 49) B e12_48 hf0 ⟨by decide, by decide⟩ rfl ?_
  refine Ow.sipush (pc' := 52) (x := (255 : Int32)) B e12_49 ?_
  refine Ow.iand (pc' := 53) (z := ((px0 >>> ((8 : Int32) &&& 31)).toInt8.toInt32 &&& (255 : Int32))) B e12_52 ?_
  refine Ow.getstatic (pc' := 56) B e12_53 (w92 hw) Via.refl GS.2.2 ?_
  refine Ow.ishl (pc' := 57) (z := (((px0 >>> ((8 : Int32) &&& 31)).toInt8.toInt32 &&& (255 : Int32)) <<< ((8 : Int32) &&& 31))) B e12_56 ?_
  refine Ow.ior (pc' := 58) (z := px0) (hz := (Ow.u16 (hk1) (hk0))) B e12_57 ?_
  refine Ow.i2c (pc' := 59) (z := px0) (hz := hc_px0) B e12_58 ?_
  exact Ow.retI (S' := []) (t := .char) (hnn := (Ow.cnarrow hc_px0)) B e12_59 (⟨rfl, rfl, rfl⟩)
set_option maxRecDepth 65536 in
set_option maxHeartbeats 40000000 in
theorem con_getChar_44 {l : Launch} {Z : State} {n0 : Nat} {a0 : Array Value} {cz : Int32} {sf : Value} (hw : Hw a0 Z) (G : Ow.Glo Z cz sf) (GS : GlS Z) {pa0 : Nat} {px0 : Int32} {px1 : Int32} {px2 : Int32} {pk0 : ClassId} {h0 : Heap} (O0 : Old Z n0 h0) (hf0 : Arv Z h0 pa0 pk0 .byte (6 : Int32) [(.int px0.toInt8.toInt32), (.int (px0 >>> ((8 : Int32) &&& 31)).toInt8.toInt32), (.int px1.toInt8.toInt32), (.int (px1 >>> ((8 : Int32) &&& 31)).toInt8.toInt32), (.int px2.toInt8.toInt32), (.int (px2 >>> ((8 : Int32) &&& 31)).toInt8.toInt32)] (.int 0)) (hn0 : n0 ≤ pa0) (hk0 : ¬ ((65535 : Int32) < px1)) (hk1 : ¬ (px1 < (0 : Int32))) (hc_px0 : nar .char px0 = px0) (hc_px1 : nar .char px1 = px1) (hc_px2 : nar .char px2 = px2) :
    Ow.Con l Z EL1 n0 my11 jdk_52_method_5_code 2 (Option.some Jvm.ClassFile.FieldType.char) [] ({ frames := 0, cells := 0, slots := 0, locals := 0 } : Room) #[(.ref pa0), (.int (1 : Int32))] [pa0] h0 (fun v h S' => (v = some (.int px1) ∧ h = h0 ∧ S' = [])) := by
  refine Ow.Con.enter (Ls := #[.val (.ref pa0), .val (.int (1 : Int32))]) (plainFor_of_name pn3) O0 (hEW hw) (hSA hw) ?_
  intro p e s m below meth c B
  have z0 := Ow.old_le O0
  have lpa0 : (pa0 : Nat) < h0.size := hf0.lt
  refine Ow.getstatic (pc' := 3) B e12_0 (w90 hw) Via.refl GS.1 ?_
  refine Ow.ifT (pc' := 28) B e12_3 (by decide) ?_
  refine Ow.iloadN (pc' := 29) B e12_28 ?_
  refine Ow.iconst (pc' := 30) (x := (1 : Int32)) B e12_29 ?_
  refine Ow.ishl (pc' := 31) (z := (2 : Int32)) B e12_30 ?_
  refine Ow.istoreN (pc' := 32) (Ls' := #[.val (.ref pa0), .val (.int (2 : Int32))]) B e12_31 ?_
  refine Ow.aloadN (pc' := 33) B e12_32 ?_
  refine Ow.iloadN (pc' := 34) B e12_33 ?_
  refine Ow.iinc (pc' := 37) (y := (3 : Int32)) (Ls' := #[.val (.ref pa0), .val (.int (3 : Int32))]) B e12_34 ?_
  refine Ow.baload (pc' := 38) B e12_37 hf0 ⟨by decide, by decide⟩ rfl ?_
  refine Ow.sipush (pc' := 41) (x := (255 : Int32)) B e12_38 ?_
  refine Ow.iand (pc' := 42) (z := (px1.toInt8.toInt32 &&& (255 : Int32))) B e12_41 ?_
  refine Ow.getstatic (pc' := 45) B e12_42 (w91 hw) Via.refl GS.2.1 ?_
  refine Ow.ishl (pc' := 46) (z := ((px1.toInt8.toInt32 &&& (255 : Int32)) <<< ((0 : Int32) &&& 31))) B e12_45 ?_
  refine Ow.aloadN (pc' := 47) B e12_46 ?_
  refine Ow.iloadN (pc' := 48) B e12_47 ?_
  refine Ow.baload (pc' := 49) B e12_48 hf0 ⟨by decide, by decide⟩ rfl ?_
  refine Ow.sipush (pc' := 52) (x := (255 : Int32)) B e12_49 ?_
  refine Ow.iand (pc' := 53) (z := ((px1 >>> ((8 : Int32) &&& 31)).toInt8.toInt32 &&& (255 : Int32))) B e12_52 ?_
  refine Ow.getstatic (pc' := 56) B e12_53 (w92 hw) Via.refl GS.2.2 ?_
  refine Ow.ishl (pc' := 57) (z := (((px1 >>> ((8 : Int32) &&& 31)).toInt8.toInt32 &&& (255 : Int32)) <<< ((8 : Int32) &&& 31))) B e12_56 ?_
  refine Ow.ior (pc' := 58) (z := px1) (hz := (Ow.u16 (hk1) (hk0))) B e12_57 ?_
  refine Ow.i2c (pc' := 59) (z := px1) (hz := hc_px1) B e12_58 ?_
  exact Ow.retI (S' := []) (t := .char) (hnn := (Ow.cnarrow hc_px1)) B e12_59 (⟨rfl, rfl, rfl⟩)
set_option maxRecDepth 65536 in
set_option maxHeartbeats 40000000 in
theorem con_getChar_45 {l : Launch} {Z : State} {n0 : Nat} {a0 : Array Value} {cz : Int32} {sf : Value} (hw : Hw a0 Z) (G : Ow.Glo Z cz sf) (GS : GlS Z) {pa0 : Nat} {px0 : Int32} {px1 : Int32} {px2 : Int32} {pk0 : ClassId} {h0 : Heap} (O0 : Old Z n0 h0) (hf0 : Arv Z h0 pa0 pk0 .byte (6 : Int32) [(.int px0.toInt8.toInt32), (.int (px0 >>> ((8 : Int32) &&& 31)).toInt8.toInt32), (.int px1.toInt8.toInt32), (.int (px1 >>> ((8 : Int32) &&& 31)).toInt8.toInt32), (.int px2.toInt8.toInt32), (.int (px2 >>> ((8 : Int32) &&& 31)).toInt8.toInt32)] (.int 0)) (hn0 : n0 ≤ pa0) (hk0 : ¬ ((65535 : Int32) < px2)) (hk1 : ¬ (px2 < (0 : Int32))) (hc_px0 : nar .char px0 = px0) (hc_px1 : nar .char px1 = px1) (hc_px2 : nar .char px2 = px2) :
    Ow.Con l Z EL1 n0 my11 jdk_52_method_5_code 2 (Option.some Jvm.ClassFile.FieldType.char) [] ({ frames := 0, cells := 0, slots := 0, locals := 0 } : Room) #[(.ref pa0), (.int (2 : Int32))] [pa0] h0 (fun v h S' => (v = some (.int px2) ∧ h = h0 ∧ S' = [])) := by
  refine Ow.Con.enter (Ls := #[.val (.ref pa0), .val (.int (2 : Int32))]) (plainFor_of_name pn3) O0 (hEW hw) (hSA hw) ?_
  intro p e s m below meth c B
  have z0 := Ow.old_le O0
  have lpa0 : (pa0 : Nat) < h0.size := hf0.lt
  refine Ow.getstatic (pc' := 3) B e12_0 (w90 hw) Via.refl GS.1 ?_
  refine Ow.ifT (pc' := 28) B e12_3 (by decide) ?_
  refine Ow.iloadN (pc' := 29) B e12_28 ?_
  refine Ow.iconst (pc' := 30) (x := (1 : Int32)) B e12_29 ?_
  refine Ow.ishl (pc' := 31) (z := (4 : Int32)) B e12_30 ?_
  refine Ow.istoreN (pc' := 32) (Ls' := #[.val (.ref pa0), .val (.int (4 : Int32))]) B e12_31 ?_
  refine Ow.aloadN (pc' := 33) B e12_32 ?_
  refine Ow.iloadN (pc' := 34) B e12_33 ?_
  refine Ow.iinc (pc' := 37) (y := (5 : Int32)) (Ls' := #[.val (.ref pa0), .val (.int (5 : Int32))]) B e12_34 ?_
  refine Ow.baload (pc' := 38) B e12_37 hf0 ⟨by decide, by decide⟩ rfl ?_
  refine Ow.sipush (pc' := 41) (x := (255 : Int32)) B e12_38 ?_
  refine Ow.iand (pc' := 42) (z := (px2.toInt8.toInt32 &&& (255 : Int32))) B e12_41 ?_
  refine Ow.getstatic (pc' := 45) B e12_42 (w91 hw) Via.refl GS.2.1 ?_
  refine Ow.ishl (pc' := 46) (z := ((px2.toInt8.toInt32 &&& (255 : Int32)) <<< ((0 : Int32) &&& 31))) B e12_45 ?_
  refine Ow.aloadN (pc' := 47) B e12_46 ?_
  refine Ow.iloadN (pc' := 48) B e12_47 ?_
  refine Ow.baload (pc' := 49) B e12_48 hf0 ⟨by decide, by decide⟩ rfl ?_
  refine Ow.sipush (pc' := 52) (x := (255 : Int32)) B e12_49 ?_
  refine Ow.iand (pc' := 53) (z := ((px2 >>> ((8 : Int32) &&& 31)).toInt8.toInt32 &&& (255 : Int32))) B e12_52 ?_
  refine Ow.getstatic (pc' := 56) B e12_53 (w92 hw) Via.refl GS.2.2 ?_
  refine Ow.ishl (pc' := 57) (z := (((px2 >>> ((8 : Int32) &&& 31)).toInt8.toInt32 &&& (255 : Int32)) <<< ((8 : Int32) &&& 31))) B e12_56 ?_
  refine Ow.ior (pc' := 58) (z := px2) (hz := (Ow.u16 (hk1) (hk0))) B e12_57 ?_
  refine Ow.i2c (pc' := 59) (z := px2) (hz := hc_px2) B e12_58 ?_
  exact Ow.retI (S' := []) (t := .char) (hnn := (Ow.cnarrow hc_px2)) B e12_59 (⟨rfl, rfl, rfl⟩)
set_option maxRecDepth 65536 in
set_option maxHeartbeats 40000000 in
theorem con_compress_46 {l : Launch} {Z : State} {n0 : Nat} {a0 : Array Value} {cz : Int32} {sf : Value} (hw : Hw a0 Z) (G : Ow.Glo Z cz sf) (GS : GlS Z) {pa0 : Nat} {px0 : Int32} {px1 : Int32} {px2 : Int32} {pk0 : ClassId} {h0 : Heap} (O0 : Old Z n0 h0) (hf0 : Arv Z h0 pa0 pk0 .char (3 : Int32) [(.int px0), (.int px1), (.int px2)] (.int 0)) (hn0 : n0 ≤ pa0) (hk0 : ¬ ((65535 : Int32) < px0)) (hk1 : ¬ (px0 < (0 : Int32))) (hk2 : ¬ ((65535 : Int32) < px1)) (hk3 : ¬ (px1 < (0 : Int32))) (hk4 : ¬ ((65535 : Int32) < px2)) (hk5 : ¬ (px2 < (0 : Int32))) (hc_px0 : nar .char px0 = px0) (hc_px1 : nar .char px1 = px1) (hc_px2 : nar .char px2 = px2) :
    Ow.Con l Z EL1 n0 my12 jdk_52_method_16_code 6 (Option.some (Jvm.ClassFile.FieldType.array Jvm.ClassFile.FieldType.byte)) [] ({ frames := 3, cells := 2, slots := 9, locals := 40 } : Room) #[(.ref pa0), (.int (0 : Int32)), (.int (3 : Int32))] [] h0 (fun v h S' => (∃ r0 : Nat, ∃ k0 : ClassId, v = some (.ref r0) ∧ Keep h0 h [] ∧ (255 : Int32) < px0 ∧ h0.size ≤ r0 ∧ Arv Z h r0 k0 .byte (6 : Int32) [(.int px0.toInt8.toInt32), (.int (px0 >>> ((8 : Int32) &&& 31)).toInt8.toInt32), (.int px1.toInt8.toInt32), (.int (px1 >>> ((8 : Int32) &&& 31)).toInt8.toInt32), (.int px2.toInt8.toInt32), (.int (px2 >>> ((8 : Int32) &&& 31)).toInt8.toInt32)] (.int 0) ∧ S' = [r0]) ∨ (∃ r0 : Nat, ∃ k0 : ClassId, v = some (.ref r0) ∧ Keep h0 h [] ∧ ¬ ((255 : Int32) < px0) ∧ (255 : Int32) < px1 ∧ h0.size ≤ r0 ∧ Arv Z h r0 k0 .byte (6 : Int32) [(.int px0.toInt8.toInt32), (.int (px0 >>> ((8 : Int32) &&& 31)).toInt8.toInt32), (.int px1.toInt8.toInt32), (.int (px1 >>> ((8 : Int32) &&& 31)).toInt8.toInt32), (.int px2.toInt8.toInt32), (.int (px2 >>> ((8 : Int32) &&& 31)).toInt8.toInt32)] (.int 0) ∧ S' = [r0]) ∨ (∃ r0 : Nat, ∃ k0 : ClassId, v = some (.ref r0) ∧ Keep h0 h [] ∧ ¬ ((255 : Int32) < px0) ∧ ¬ ((255 : Int32) < px1) ∧ (255 : Int32) < px2 ∧ h0.size ≤ r0 ∧ Arv Z h r0 k0 .byte (6 : Int32) [(.int px0.toInt8.toInt32), (.int (px0 >>> ((8 : Int32) &&& 31)).toInt8.toInt32), (.int px1.toInt8.toInt32), (.int (px1 >>> ((8 : Int32) &&& 31)).toInt8.toInt32), (.int px2.toInt8.toInt32), (.int (px2 >>> ((8 : Int32) &&& 31)).toInt8.toInt32)] (.int 0) ∧ S' = [r0]) ∨ (∃ r0 : Nat, ∃ k0 : ClassId, v = some (.ref r0) ∧ Keep h0 h [] ∧ ¬ ((255 : Int32) < px0) ∧ ¬ ((255 : Int32) < px1) ∧ ¬ ((255 : Int32) < px2) ∧ h0.size ≤ r0 ∧ Arv Z h r0 k0 .byte (3 : Int32) [(.int px0.toInt8.toInt32), (.int px1.toInt8.toInt32), (.int px2.toInt8.toInt32)] (.int 0) ∧ S' = [r0])) := by
  refine Ow.Con.enter (Ls := #[.val (.ref pa0), .val (.int (0 : Int32)), .val (.int (3 : Int32)), .unset, .unset, .unset]) (plainFor_of_name pn3) O0 (hEW hw) (hSA hw) ?_
  intro p e s m below meth c B
  have z0 := Ow.old_le O0
  have lpa0 : (pa0 : Nat) < h0.size := hf0.lt
  refine Ow.iloadN (pc' := 1) B e6_0 ?_
  refine Ow.newArr (pc' := 3) (k' := 1) (n' := 3) (cap := 3) B e6_1 (w15 hw) (by decide) (by decide) ?_
  intro h2 a1 ka1 ga1 ba1 Kh2 V0a1
  have zh2 := Kh2.1
  have la1 : (a1 : Nat) < h2.size := V0a1.lt
  have Va1 : Arv Z h2 a1 ka1 .byte (3 : Int32) [(.int 0), (.int 0), (.int 0)] (.int 0) := V0a1.pad (pad_rep [] (.int 0) 3)
  refine Ow.astoreN (pc' := 4) (Ls' := #[.val (.ref pa0), .val (.int (0 : Int32)), .val (.int (3 : Int32)), .val (.ref a1), .unset, .unset]) B e6_3 ?_
  refine Ow.aloadN (pc' := 5) B e6_4 ?_
  refine Ow.iloadN (pc' := 6) B e6_5 ?_
  refine Ow.aloadN (pc' := 7) B e6_6 ?_
  refine Ow.iconst (pc' := 8) (x := (0 : Int32)) B e6_7 ?_
  refine Ow.iloadN (pc' := 9) B e6_8 ?_
  refine Ow.Go.old (fun o3 => ?_)
  have f4 := hf0.keep Kh2 Ow.nin0
  refine Ow.callStatic (pc' := 12) (W := 0) (k' := 1) (n' := 3) (argsL := [(.ref pa0), (.int (0 : Int32)), (.ref a1), (.int (0 : Int32)), (.int (3 : Int32))]) (rest := []) B e6_9 (w46 hw) (w47 hw) (w44 hw) (w48 hw) (con_compress_36 hw G GS (pa0 := pa0) (pa1 := a1) (px0 := px0) (px1 := px1) (px2 := px2) (pk0 := pk0) (pk1 := ka1) o3 f4 Va1 (by omega) (by omega) (by omega) hc_px0 hc_px1 hc_px2) pd6 ?_
  intro vq5 h6 S7 q5 zh6
  rcases q5 with q5 | q5 | q5 | q5
  · obtain ⟨rfl, rfl, c8, rfl⟩ := q5
    refine Ow.Go.norm (S' := [a1]) (st' := [(.int (0 : Int32))]) (fun _ q => List.mem_append_right _ q) rfl ?_
    refine Ow.istore (pc' := 14) (Ls' := #[.val (.ref pa0), .val (.int (0 : Int32)), .val (.int (3 : Int32)), .val (.ref a1), .val (.int (0 : Int32)), .unset]) B e6_12 ?_
    refine Ow.iload (pc' := 16) B e6_14 ?_
    refine Ow.iloadN (pc' := 17) B e6_16 ?_
    refine Ow.icmpF (pc' := 20) B e6_17 (by decide) ?_
    refine Ow.aloadN (pc' := 21) B e6_20 ?_
    refine Ow.iloadN (pc' := 22) B e6_21 ?_
    refine Ow.iloadN (pc' := 23) B e6_22 ?_
    refine Ow.Go.old (fun o9 => ?_)
    refine Ow.callStatic (pc' := 26) (W := 0) (k' := 2) (n' := 9) (argsL := [(.ref pa0), (.int (0 : Int32)), (.int (3 : Int32))]) (rest := []) B e6_23 (w77 hw) (w78 hw) (w44 hw) (w79 hw) (con_toBytes_42 hw G GS (pa0 := pa0) (px0 := px0) (px1 := px1) (px2 := px2) (pk0 := pk0) o9 f4 (by omega) hc_px0 hc_px1 hc_px2) pd10 ?_
    intro vq10 h11 S12 q10 zh11
    obtain ⟨r13, k14, rfl, Kh11, br13, f15, rfl⟩ := q10
    have lr13 : (r13 : Nat) < h11.size := f15.lt
    refine Ow.Go.norm (S' := [r13, a1]) (st' := [(.ref r13)]) (fun _ q => q) rfl ?_
    refine Ow.astore (pc' := 28) (Ls' := #[.val (.ref pa0), .val (.int (0 : Int32)), .val (.int (3 : Int32)), .val (.ref a1), .val (.int (0 : Int32)), .val (.ref r13)]) B e6_26 ?_
    refine Ow.aload (pc' := 30) B e6_28 ?_
    refine Ow.iload (pc' := 32) B e6_30 ?_
    refine Ow.Go.old (fun o16 => ?_)
    refine Ow.callStatic (pc' := 35) (W := 0) (k' := 2) (n' := 9) (argsL := [(.ref r13), (.int (0 : Int32))]) (rest := []) B e6_32 (w93 hw) (w94 hw) (w44 hw) (w95 hw) (con_getChar_43 hw G GS (pa0 := r13) (px0 := px0) (px1 := px1) (px2 := px2) (pk0 := k14) o16 f15 (by omega) (hk0) (hk1) hc_px0 hc_px1 hc_px2) pd11 ?_
    intro vq17 h18 S19 q17 zh18
    obtain ⟨rfl, rfl, rfl⟩ := q17
    refine Ow.Go.norm (S' := [r13, a1]) (st' := [(.int px0)]) (fun _ q => List.mem_append_right _ q) rfl ?_
    refine Ow.sipush (pc' := 38) (x := (255 : Int32)) B e6_35 ?_
    refine Ow.icmpT (pc' := 54) B e6_38 (tlt (c8)).2.2.1 ?_
    refine Ow.aload (pc' := 56) B e6_54 ?_
    exact Ow.retA (S' := [r13]) (t := (.array .byte)) B e6_56 (Or.inl (⟨r13, k14, rfl, (((Keep.refl _ []).trans Kh2 (fun _ q => nomatch q)).trans Kh11 (fun _ q => nomatch q)), c8, (by omega), f15, rfl⟩))
  · obtain ⟨rfl, Kh6, c20, c21, f22, rfl⟩ := q5
    refine Ow.Go.norm (S' := [a1]) (st' := [(.int (1 : Int32))]) (fun _ q => List.mem_append_right _ q) rfl ?_
    refine Ow.istore (pc' := 14) (Ls' := #[.val (.ref pa0), .val (.int (0 : Int32)), .val (.int (3 : Int32)), .val (.ref a1), .val (.int (1 : Int32)), .unset]) B e6_12 ?_
    refine Ow.iload (pc' := 16) B e6_14 ?_
    refine Ow.iloadN (pc' := 17) B e6_16 ?_
    refine Ow.icmpF (pc' := 20) B e6_17 (by decide) ?_
    refine Ow.aloadN (pc' := 21) B e6_20 ?_
    refine Ow.iloadN (pc' := 22) B e6_21 ?_
    refine Ow.iloadN (pc' := 23) B e6_22 ?_
    refine Ow.Go.old (fun o23 => ?_)
    have f24 := f4.keep Kh6 (Ow.ninS (by omega) Ow.nin0)
    refine Ow.callStatic (pc' := 26) (W := 0) (k' := 2) (n' := 9) (argsL := [(.ref pa0), (.int (0 : Int32)), (.int (3 : Int32))]) (rest := []) B e6_23 (w77 hw) (w78 hw) (w44 hw) (w79 hw) (con_toBytes_42 hw G GS (pa0 := pa0) (px0 := px0) (px1 := px1) (px2 := px2) (pk0 := pk0) o23 f24 (by omega) hc_px0 hc_px1 hc_px2) pd10 ?_
    intro vq25 h26 S27 q25 zh26
    obtain ⟨r28, k29, rfl, Kh26, br28, f30, rfl⟩ := q25
    have lr28 : (r28 : Nat) < h26.size := f30.lt
    refine Ow.Go.norm (S' := [r28, a1]) (st' := [(.ref r28)]) (fun _ q => q) rfl ?_
    refine Ow.astore (pc' := 28) (Ls' := #[.val (.ref pa0), .val (.int (0 : Int32)), .val (.int (3 : Int32)), .val (.ref a1), .val (.int (1 : Int32)), .val (.ref r28)]) B e6_26 ?_
    refine Ow.aload (pc' := 30) B e6_28 ?_
    refine Ow.iload (pc' := 32) B e6_30 ?_
    refine Ow.Go.old (fun o31 => ?_)
    refine Ow.callStatic (pc' := 35) (W := 0) (k' := 2) (n' := 9) (argsL := [(.ref r28), (.int (1 : Int32))]) (rest := []) B e6_32 (w93 hw) (w94 hw) (w44 hw) (w95 hw) (con_getChar_44 hw G GS (pa0 := r28) (px0 := px0) (px1 := px1) (px2 := px2) (pk0 := k29) o31 f30 (by omega) (hk2) (hk3) hc_px0 hc_px1 hc_px2) pd11 ?_
    intro vq32 h33 S34 q32 zh33
    obtain ⟨rfl, rfl, rfl⟩ := q32
    refine Ow.Go.norm (S' := [r28, a1]) (st' := [(.int px1)]) (fun _ q => List.mem_append_right _ q) rfl ?_
    refine Ow.sipush (pc' := 38) (x := (255 : Int32)) B e6_35 ?_
    refine Ow.icmpT (pc' := 54) B e6_38 (tlt (c21)).2.2.1 ?_
    refine Ow.aload (pc' := 56) B e6_54 ?_
    exact Ow.retA (S' := [r28]) (t := (.array .byte)) B e6_56 (Or.inr (Or.inl (⟨r28, k29, rfl, ((((Keep.refl _ []).trans Kh2 (fun _ q => nomatch q)).trans Kh6 (allS (Or.inr (by omega)) all0)).trans Kh26 (fun _ q => nomatch q)), c20, c21, (by omega), f30, rfl⟩)))
  · obtain ⟨rfl, Kh6, c35, c36, c37, f38, rfl⟩ := q5
    refine Ow.Go.norm (S' := [a1]) (st' := [(.int (2 : Int32))]) (fun _ q => List.mem_append_right _ q) rfl ?_
    refine Ow.istore (pc' := 14) (Ls' := #[.val (.ref pa0), .val (.int (0 : Int32)), .val (.int (3 : Int32)), .val (.ref a1), .val (.int (2 : Int32)), .unset]) B e6_12 ?_
    refine Ow.iload (pc' := 16) B e6_14 ?_
    refine Ow.iloadN (pc' := 17) B e6_16 ?_
    refine Ow.icmpF (pc' := 20) B e6_17 (by decide) ?_
    refine Ow.aloadN (pc' := 21) B e6_20 ?_
    refine Ow.iloadN (pc' := 22) B e6_21 ?_
    refine Ow.iloadN (pc' := 23) B e6_22 ?_
    refine Ow.Go.old (fun o39 => ?_)
    have f40 := f4.keep Kh6 (Ow.ninS (by omega) Ow.nin0)
    refine Ow.callStatic (pc' := 26) (W := 0) (k' := 2) (n' := 9) (argsL := [(.ref pa0), (.int (0 : Int32)), (.int (3 : Int32))]) (rest := []) B e6_23 (w77 hw) (w78 hw) (w44 hw) (w79 hw) (con_toBytes_42 hw G GS (pa0 := pa0) (px0 := px0) (px1 := px1) (px2 := px2) (pk0 := pk0) o39 f40 (by omega) hc_px0 hc_px1 hc_px2) pd10 ?_
    intro vq41 h42 S43 q41 zh42
    obtain ⟨r44, k45, rfl, Kh42, br44, f46, rfl⟩ := q41
    have lr44 : (r44 : Nat) < h42.size := f46.lt
    refine Ow.Go.norm (S' := [r44, a1]) (st' := [(.ref r44)]) (fun _ q => q) rfl ?_
    refine Ow.astore (pc' := 28) (Ls' := #[.val (.ref pa0), .val (.int (0 : Int32)), .val (.int (3 : Int32)), .val (.ref a1), .val (.int (2 : Int32)), .val (.ref r44)]) B e6_26 ?_
    refine Ow.aload (pc' := 30) B e6_28 ?_
    refine Ow.iload (pc' := 32) B e6_30 ?_
    refine Ow.Go.old (fun o47 => ?_)
    refine Ow.callStatic (pc' := 35) (W := 0) (k' := 2) (n' := 9) (argsL := [(.ref r44), (.int (2 : Int32))]) (rest := []) B e6_32 (w93 hw) (w94 hw) (w44 hw) (w95 hw) (con_getChar_45 hw G GS (pa0 := r44) (px0 := px0) (px1 := px1) (px2 := px2) (pk0 := k45) o47 f46 (by omega) (hk4) (hk5) hc_px0 hc_px1 hc_px2) pd11 ?_
    intro vq48 h49 S50 q48 zh49
    obtain ⟨rfl, rfl, rfl⟩ := q48
    refine Ow.Go.norm (S' := [r44, a1]) (st' := [(.int px2)]) (fun _ q => List.mem_append_right _ q) rfl ?_
    refine Ow.sipush (pc' := 38) (x := (255 : Int32)) B e6_35 ?_
    refine Ow.icmpT (pc' := 54) B e6_38 (tlt (c37)).2.2.1 ?_
    refine Ow.aload (pc' := 56) B e6_54 ?_
    exact Ow.retA (S' := [r44]) (t := (.array .byte)) B e6_56 (Or.inr (Or.inr (Or.inl (⟨r44, k45, rfl, ((((Keep.refl _ []).trans Kh2 (fun _ q => nomatch q)).trans Kh6 (allS (Or.inr (by omega)) all0)).trans Kh42 (fun _ q => nomatch q)), c35, c36, c37, (by omega), f46, rfl⟩))))
  · obtain ⟨rfl, Kh6, c51, c52, c53, f54, rfl⟩ := q5
    refine Ow.Go.norm (S' := [a1]) (st' := [(.int (3 : Int32))]) (fun _ q => List.mem_append_right _ q) rfl ?_
    refine Ow.istore (pc' := 14) (Ls' := #[.val (.ref pa0), .val (.int (0 : Int32)), .val (.int (3 : Int32)), .val (.ref a1), .val (.int (3 : Int32)), .unset]) B e6_12 ?_
    refine Ow.iload (pc' := 16) B e6_14 ?_
    refine Ow.iloadN (pc' := 17) B e6_16 ?_
    refine Ow.icmpT (pc' := 57) B e6_17 (by decide) ?_
    refine Ow.aloadN (pc' := 58) B e6_57 ?_
    exact Ow.retA (S' := [a1]) (t := (.array .byte)) B e6_58 (Or.inr (Or.inr (Or.inr (⟨a1, ka1, rfl, (((Keep.refl _ []).trans Kh2 (fun _ q => nomatch q)).trans Kh6 (allS (Or.inr (by omega)) all0)), c51, c52, c53, (by omega), f54, rfl⟩))))
set_option maxRecDepth 65536 in
set_option maxHeartbeats 40000000 in
theorem con_coderFromArrayLen_47 {l : Launch} {Z : State} {n0 : Nat} {a0 : Array Value} {cz : Int32} {sf : Value} (hw : Hw a0 Z) (G : Ow.Glo Z cz sf) (GS : GlS Z) {pa0 : Nat} {px0 : Int32} {px1 : Int32} {px2 : Int32} {pk0 : ClassId} {h0 : Heap} (O0 : Old Z n0 h0) (hf0 : Arv Z h0 pa0 pk0 .byte (6 : Int32) [(.int px0.toInt8.toInt32), (.int (px0 >>> ((8 : Int32) &&& 31)).toInt8.toInt32), (.int px1.toInt8.toInt32), (.int (px1 >>> ((8 : Int32) &&& 31)).toInt8.toInt32), (.int px2.toInt8.toInt32), (.int (px2 >>> ((8 : Int32) &&& 31)).toInt8.toInt32)] (.int 0)) (hn0 : n0 ≤ pa0) (hc_px0 : nar .char px0 = px0) (hc_px1 : nar .char px1 = px1) (hc_px2 : nar .char px2 = px2) :
    Ow.Con l Z EL1 n0 my13 jdk_52_method_15_code 2 (Option.some Jvm.ClassFile.FieldType.byte) [] ({ frames := 0, cells := 0, slots := 0, locals := 0 } : Room) #[(.ref pa0), (.int (3 : Int32))] [pa0] h0 (fun v h S' => (v = some (.int (1 : Int32)) ∧ h = h0 ∧ S' = [])) := by
  refine Ow.Con.enter (Ls := #[.val (.ref pa0), .val (.int (3 : Int32))]) (plainFor_of_name pn3) O0 (hEW hw) (hSA hw) ?_
  intro p e s m below meth c B
  have z0 := Ow.old_le O0
  have lpa0 : (pa0 : Nat) < h0.size := hf0.lt
  refine Ow.iloadN (pc' := 1) B e13_0 ?_
  refine Ow.aloadN (pc' := 2) B e13_1 ?_
  refine Ow.arrlen (pc' := 3) B e13_2 hf0 ?_
  refine Ow.isub (pc' := 4) (z := (-3 : Int32)) B e13_3 ?_
  refine Ow.bipush (pc' := 6) (x := (31 : Int32)) B e13_4 ?_
  refine Ow.iushr (pc' := 7) (z := (1 : Int32)) B e13_6 ?_
  refine Ow.i2b (pc' := 8) (z := (1 : Int32)) B e13_7 ?_
  exact Ow.retI (S' := []) (t := .byte) B e13_8 (⟨rfl, rfl, rfl⟩)
set_option maxRecDepth 65536 in
set_option maxHeartbeats 40000000 in
theorem con_coderFromArrayLen_48 {l : Launch} {Z : State} {n0 : Nat} {a0 : Array Value} {cz : Int32} {sf : Value} (hw : Hw a0 Z) (G : Ow.Glo Z cz sf) (GS : GlS Z) {pa0 : Nat} {px0 : Int32} {px1 : Int32} {px2 : Int32} {pk0 : ClassId} {h0 : Heap} (O0 : Old Z n0 h0) (hf0 : Arv Z h0 pa0 pk0 .byte (3 : Int32) [(.int px0.toInt8.toInt32), (.int px1.toInt8.toInt32), (.int px2.toInt8.toInt32)] (.int 0)) (hn0 : n0 ≤ pa0) (hc_px0 : nar .char px0 = px0) (hc_px1 : nar .char px1 = px1) (hc_px2 : nar .char px2 = px2) :
    Ow.Con l Z EL1 n0 my13 jdk_52_method_15_code 2 (Option.some Jvm.ClassFile.FieldType.byte) [] ({ frames := 0, cells := 0, slots := 0, locals := 0 } : Room) #[(.ref pa0), (.int (3 : Int32))] [pa0] h0 (fun v h S' => (v = some (.int (0 : Int32)) ∧ h = h0 ∧ S' = [])) := by
  refine Ow.Con.enter (Ls := #[.val (.ref pa0), .val (.int (3 : Int32))]) (plainFor_of_name pn3) O0 (hEW hw) (hSA hw) ?_
  intro p e s m below meth c B
  have z0 := Ow.old_le O0
  have lpa0 : (pa0 : Nat) < h0.size := hf0.lt
  refine Ow.iloadN (pc' := 1) B e13_0 ?_
  refine Ow.aloadN (pc' := 2) B e13_1 ?_
  refine Ow.arrlen (pc' := 3) B e13_2 hf0 ?_
  refine Ow.isub (pc' := 4) (z := (0 : Int32)) B e13_3 ?_
  refine Ow.bipush (pc' := 6) (x := (31 : Int32)) B e13_4 ?_
  refine Ow.iushr (pc' := 7) (z := (0 : Int32)) B e13_6 ?_
  refine Ow.i2b (pc' := 8) (z := (0 : Int32)) B e13_7 ?_
  exact Ow.retI (S' := []) (t := .byte) B e13_8 (⟨rfl, rfl, rfl⟩)
set_option maxRecDepth 65536 in
set_option maxHeartbeats 40000000 in
theorem con_init_49 {l : Launch} {Z : State} {n0 : Nat} {a0 : Array Value} {cz : Int32} {sf : Value} (hw : Hw a0 Z) (G : Ow.Glo Z cz sf) (GS : GlS Z) {pa0 : Nat} {pa1 : Nat} {px0 : Int32} {px1 : Int32} {px2 : Int32} {pk0 : ClassId} {h0 : Heap} (O0 : Old Z n0 h0) (hf0 : Exa Z h0 pa0 "java/lang/String") (hf1 : Fld Z h0 pa0 "java/lang/String" "coder" "B" (.int (0 : Int32))) (hf2 : Fld Z h0 pa0 "java/lang/String" "value" "[B" .null) (hf3 : Arv Z h0 pa1 pk0 .char (3 : Int32) [(.int px0), (.int px1), (.int px2)] (.int 0)) (hn0 : n0 ≤ pa0) (hn1 : n0 ≤ pa1) (hk0 : ¬ ((65535 : Int32) < px0)) (hk1 : ¬ (px0 < (0 : Int32))) (hk2 : ¬ ((65535 : Int32) < px1)) (hk3 : ¬ (px1 < (0 : Int32))) (hk4 : ¬ ((65535 : Int32) < px2)) (hk5 : ¬ (px2 < (0 : Int32))) (hc_px0 : nar .char px0 = px0) (hc_px1 : nar .char px1 = px1) (hc_px2 : nar .char px2 = px2) :
    Ow.Con l Z EL1 n0 my0 jdk_42_method_149_code 6 (Option.none : Option Jvm.ClassFile.FieldType) [] ({ frames := 4, cells := 2, slots := 9, locals := 57 } : Room) #[(.ref pa0), (.ref pa1), (.int (0 : Int32)), (.int (3 : Int32)), .null] [pa0] h0 (fun v h S' => (∃ r0 : Nat, ∃ k0 : ClassId, v = none ∧ Keep h0 h [pa0] ∧ h0.size ≤ r0 ∧ Ow.Chs Z h pa0 r0 k0 [px0, px1, px2] ∧ S' = [])) := by
  refine Ow.Con.enter (Ls := #[.val (.ref pa0), .val (.ref pa1), .val (.int (0 : Int32)), .val (.int (3 : Int32)), .val .null, .unset]) (plainFor_of_name pn0) O0 (hEW hw) (hSA hw) ?_
  intro p e s m below meth c B
  have z0 := Ow.old_le O0
  have lpa0 : (pa0 : Nat) < h0.size := hf0.lt
  have lpa1 : (pa1 : Nat) < h0.size := hf3.lt
  refine Ow.aloadN (pc' := 1) B e2_0 ?_
  refine Ow.objInit (pc' := 4) (W := 0) B e2_1 (w11 hw) (w12 hw) (w13 hw) ?_
  refine Ow.iloadN (pc' := 5) B e2_4 ?_
  refine Ow.ifT (pc' := 27) B e2_5 (by decide) ?_
  refine Ow.getstatic (pc' := 30) B e2_27 (w36 hw) Via.refl G.1 ?_
  refine Ow.ifF (pc' := 33) B e2_30 (feq (G.2.1)).1 ?_
  refine Ow.aloadN (pc' := 34) B e2_33 ?_
  refine Ow.iloadN (pc' := 35) B e2_34 ?_
  refine Ow.iloadN (pc' := 36) B e2_35 ?_
  refine Ow.Go.old (fun o1 => ?_)
  refine Ow.callStatic (pc' := 39) (W := 0) (k' := 2) (n' := 9) (argsL := [(.ref pa1), (.int (0 : Int32)), (.int (3 : Int32))]) (rest := []) B e2_36 (w42 hw) (w43 hw) (w44 hw) (w45 hw) (con_compress_46 hw G GS (pa0 := pa1) (px0 := px0) (px1 := px1) (px2 := px2) (pk0 := pk0) o1 hf3 (by omega) (hk0) (hk1) (hk2) (hk3) (hk4) (hk5) hc_px0 hc_px1 hc_px2) pd10 ?_
  intro vq2 h3 S4 q2 zh3
  rcases q2 with q2 | q2 | q2 | q2
  · obtain ⟨r5, k6, rfl, Kh3, c7, br5, f8, rfl⟩ := q2
    have lr5 : (r5 : Nat) < h3.size := f8.lt
    refine Ow.Go.norm (S' := [r5, pa0]) (st' := [(.ref r5)]) (fun _ q => q) rfl ?_
    refine Ow.astore (pc' := 41) (Ls' := #[.val (.ref pa0), .val (.ref pa1), .val (.int (0 : Int32)), .val (.int (3 : Int32)), .val .null, .val (.ref r5)]) B e2_39 ?_
    refine Ow.aloadN (pc' := 42) B e2_41 ?_
    refine Ow.aload (pc' := 44) B e2_42 ?_
    refine Ow.iloadN (pc' := 45) B e2_44 ?_
    refine Ow.Go.old (fun o9 => ?_)
    refine Ow.callStatic (pc' := 48) (W := 1) (k' := 2) (n' := 9) (argsL := [(.ref r5), (.int (3 : Int32))]) (rest := [(.ref pa0)]) B e2_45 (w49 hw) (w50 hw) (w44 hw) (w51 hw) (con_coderFromArrayLen_47 hw G GS (pa0 := r5) (px0 := px0) (px1 := px1) (px2 := px2) (pk0 := k6) o9 f8 (by omega) hc_px0 hc_px1 hc_px2) pd12 ?_
    intro vq10 h11 S12 q10 zh11
    obtain ⟨rfl, rfl, rfl⟩ := q10
    refine Ow.Go.norm (S' := [r5, pa0]) (st' := [(.int (1 : Int32)), (.ref pa0)]) (fun _ q => List.mem_append_right _ q) rfl ?_
    have f13 := hf1.keep Kh3 Ow.nin0
    have f14 := hf0.keep Kh3
    refine Ow.putfield (pc' := 51) (ty := .byte) B e2_48 (w21 hw) Via.refl f13 f14 (Or.inr ⟨(w17 hw), rfl, rfl⟩) (w2 hw) (Or.inl (by simp)) ?_
    intro h15 Wh15
    have f16 := hf2.keep Kh3 Ow.nin0
    have Kh15 := Keep.of_wr Wh15
    have zh15 := Kh15.1
    have f17 : Fld Z h15 pa0 "java/lang/String" "coder" "B" (.int (1 : Int32)) := f13.same Wh15
    have f18 : Fld Z h15 pa0 "java/lang/String" "value" "[B" .null := f16.other Wh15 (Or.inr (slot_ne (a0 := a0) (C := "java/lang/String") (t := (.array .byte)) (t' := .byte) (Or.inr (w16 hw)) (Or.inr (w17 hw)) (by decide) (by decide) (by decide)))
    refine Ow.aloadN (pc' := 52) B e2_51 ?_
    refine Ow.aload (pc' := 54) B e2_52 ?_
    have f19 := f14.keep Kh15
    refine Ow.putfield (pc' := 57) (ty := (.array .byte)) B e2_54 (w20 hw) Via.refl f18 f19 (Or.inr ⟨(w16 hw), rfl, rfl⟩) (w2 hw) (Or.inl (by simp)) ?_
    intro h20 Wh20
    have Kh20 := Keep.of_wr Wh20
    have zh20 := Kh20.1
    have f21 : Fld Z h20 pa0 "java/lang/String" "value" "[B" (.ref r5) := f18.same Wh20
    have f22 : Fld Z h20 pa0 "java/lang/String" "coder" "B" (.int (1 : Int32)) := f17.other Wh20 (Or.inr (slot_ne (a0 := a0) (C := "java/lang/String") (t := .byte) (t' := (.array .byte)) (Or.inr (w17 hw)) (Or.inr (w16 hw)) (by decide) (by decide) (by decide)))
    have f23 := f19.keep Kh20
    have f24 := f8.keep Kh15 (Ow.ninS (by omega) Ow.nin0)
    have f25 := f24.keep Kh20 (Ow.ninS (by omega) Ow.nin0)
    have s26 : Ow.Chs Z h20 pa0 r5 k6 [px0, px1, px2] := ⟨f23, f21, (Ow.allI ⟨(hk1), (hk0)⟩ (Ow.allI ⟨(hk3), (hk2)⟩ (Ow.allI ⟨(hk5), (hk4)⟩ Ow.allI0))), Or.inr ⟨f22, f25⟩⟩
    exact Ow.retV (S' := []) B e2_57 (⟨r5, k6, rfl, ((((Keep.refl _ [pa0]).trans Kh3 (fun _ q => nomatch q)).trans Kh15 (allS (Or.inl (by simp)) all0)).trans Kh20 (allS (Or.inl (by simp)) all0)), (by omega), s26, rfl⟩)
  · obtain ⟨r27, k28, rfl, Kh3, c29, c30, br27, f31, rfl⟩ := q2
    have lr27 : (r27 : Nat) < h3.size := f31.lt
    refine Ow.Go.norm (S' := [r27, pa0]) (st' := [(.ref r27)]) (fun _ q => q) rfl ?_
    refine Ow.astore (pc' := 41) (Ls' := #[.val (.ref pa0), .val (.ref pa1), .val (.int (0 : Int32)), .val (.int (3 : Int32)), .val .null, .val (.ref r27)]) B e2_39 ?_
    refine Ow.aloadN (pc' := 42) B e2_41 ?_
    refine Ow.aload (pc' := 44) B e2_42 ?_
    refine Ow.iloadN (pc' := 45) B e2_44 ?_
    refine Ow.Go.old (fun o32 => ?_)
    refine Ow.callStatic (pc' := 48) (W := 1) (k' := 2) (n' := 9) (argsL := [(.ref r27), (.int (3 : Int32))]) (rest := [(.ref pa0)]) B e2_45 (w49 hw) (w50 hw) (w44 hw) (w51 hw) (con_coderFromArrayLen_47 hw G GS (pa0 := r27) (px0 := px0) (px1 := px1) (px2 := px2) (pk0 := k28) o32 f31 (by omega) hc_px0 hc_px1 hc_px2) pd12 ?_
    intro vq33 h34 S35 q33 zh34
    obtain ⟨rfl, rfl, rfl⟩ := q33
    refine Ow.Go.norm (S' := [r27, pa0]) (st' := [(.int (1 : Int32)), (.ref pa0)]) (fun _ q => List.mem_append_right _ q) rfl ?_
    have f36 := hf1.keep Kh3 Ow.nin0
    have f37 := hf0.keep Kh3
    refine Ow.putfield (pc' := 51) (ty := .byte) B e2_48 (w21 hw) Via.refl f36 f37 (Or.inr ⟨(w17 hw), rfl, rfl⟩) (w2 hw) (Or.inl (by simp)) ?_
    intro h38 Wh38
    have f39 := hf2.keep Kh3 Ow.nin0
    have Kh38 := Keep.of_wr Wh38
    have zh38 := Kh38.1
    have f40 : Fld Z h38 pa0 "java/lang/String" "coder" "B" (.int (1 : Int32)) := f36.same Wh38
    have f41 : Fld Z h38 pa0 "java/lang/String" "value" "[B" .null := f39.other Wh38 (Or.inr (slot_ne (a0 := a0) (C := "java/lang/String") (t := (.array .byte)) (t' := .byte) (Or.inr (w16 hw)) (Or.inr (w17 hw)) (by decide) (by decide) (by decide)))
    refine Ow.aloadN (pc' := 52) B e2_51 ?_
    refine Ow.aload (pc' := 54) B e2_52 ?_
    have f42 := f37.keep Kh38
    refine Ow.putfield (pc' := 57) (ty := (.array .byte)) B e2_54 (w20 hw) Via.refl f41 f42 (Or.inr ⟨(w16 hw), rfl, rfl⟩) (w2 hw) (Or.inl (by simp)) ?_
    intro h43 Wh43
    have Kh43 := Keep.of_wr Wh43
    have zh43 := Kh43.1
    have f44 : Fld Z h43 pa0 "java/lang/String" "value" "[B" (.ref r27) := f41.same Wh43
    have f45 : Fld Z h43 pa0 "java/lang/String" "coder" "B" (.int (1 : Int32)) := f40.other Wh43 (Or.inr (slot_ne (a0 := a0) (C := "java/lang/String") (t := .byte) (t' := (.array .byte)) (Or.inr (w17 hw)) (Or.inr (w16 hw)) (by decide) (by decide) (by decide)))
    have f46 := f42.keep Kh43
    have f47 := f31.keep Kh38 (Ow.ninS (by omega) Ow.nin0)
    have f48 := f47.keep Kh43 (Ow.ninS (by omega) Ow.nin0)
    have s49 : Ow.Chs Z h43 pa0 r27 k28 [px0, px1, px2] := ⟨f46, f44, (Ow.allI ⟨(hk1), (hk0)⟩ (Ow.allI ⟨(hk3), (hk2)⟩ (Ow.allI ⟨(hk5), (hk4)⟩ Ow.allI0))), Or.inr ⟨f45, f48⟩⟩
    exact Ow.retV (S' := []) B e2_57 (⟨r27, k28, rfl, ((((Keep.refl _ [pa0]).trans Kh3 (fun _ q => nomatch q)).trans Kh38 (allS (Or.inl (by simp)) all0)).trans Kh43 (allS (Or.inl (by simp)) all0)), (by omega), s49, rfl⟩)
  · obtain ⟨r50, k51, rfl, Kh3, c52, c53, c54, br50, f55, rfl⟩ := q2
    have lr50 : (r50 : Nat) < h3.size := f55.lt
    refine Ow.Go.norm (S' := [r50, pa0]) (st' := [(.ref r50)]) (fun _ q => q) rfl ?_
    refine Ow.astore (pc' := 41) (Ls' := #[.val (.ref pa0), .val (.ref pa1), .val (.int (0 : Int32)), .val (.int (3 : Int32)), .val .null, .val (.ref r50)]) B e2_39 ?_
    refine Ow.aloadN (pc' := 42) B e2_41 ?_
    refine Ow.aload (pc' := 44) B e2_42 ?_
    refine Ow.iloadN (pc' := 45) B e2_44 ?_
    refine Ow.Go.old (fun o56 => ?_)
    refine Ow.callStatic (pc' := 48) (W := 1) (k' := 2) (n' := 9) (argsL := [(.ref r50), (.int (3 : Int32))]) (rest := [(.ref pa0)]) B e2_45 (w49 hw) (w50 hw) (w44 hw) (w51 hw) (con_coderFromArrayLen_47 hw G GS (pa0 := r50) (px0 := px0) (px1 := px1) (px2 := px2) (pk0 := k51) o56 f55 (by omega) hc_px0 hc_px1 hc_px2) pd12 ?_
    intro vq57 h58 S59 q57 zh58
    obtain ⟨rfl, rfl, rfl⟩ := q57
    refine Ow.Go.norm (S' := [r50, pa0]) (st' := [(.int (1 : Int32)), (.ref pa0)]) (fun _ q => List.mem_append_right _ q) rfl ?_
    have f60 := hf1.keep Kh3 Ow.nin0
    have f61 := hf0.keep Kh3
    refine Ow.putfield (pc' := 51) (ty := .byte) B e2_48 (w21 hw) Via.refl f60 f61 (Or.inr ⟨(w17 hw), rfl, rfl⟩) (w2 hw) (Or.inl (by simp)) ?_
    intro h62 Wh62
    have f63 := hf2.keep Kh3 Ow.nin0
    have Kh62 := Keep.of_wr Wh62
    have zh62 := Kh62.1
    have f64 : Fld Z h62 pa0 "java/lang/String" "coder" "B" (.int (1 : Int32)) := f60.same Wh62
    have f65 : Fld Z h62 pa0 "java/lang/String" "value" "[B" .null := f63.other Wh62 (Or.inr (slot_ne (a0 := a0) (C := "java/lang/String") (t := (.array .byte)) (t' := .byte) (Or.inr (w16 hw)) (Or.inr (w17 hw)) (by decide) (by decide) (by decide)))
    refine Ow.aloadN (pc' := 52) B e2_51 ?_
    refine Ow.aload (pc' := 54) B e2_52 ?_
    have f66 := f61.keep Kh62
    refine Ow.putfield (pc' := 57) (ty := (.array .byte)) B e2_54 (w20 hw) Via.refl f65 f66 (Or.inr ⟨(w16 hw), rfl, rfl⟩) (w2 hw) (Or.inl (by simp)) ?_
    intro h67 Wh67
    have Kh67 := Keep.of_wr Wh67
    have zh67 := Kh67.1
    have f68 : Fld Z h67 pa0 "java/lang/String" "value" "[B" (.ref r50) := f65.same Wh67
    have f69 : Fld Z h67 pa0 "java/lang/String" "coder" "B" (.int (1 : Int32)) := f64.other Wh67 (Or.inr (slot_ne (a0 := a0) (C := "java/lang/String") (t := .byte) (t' := (.array .byte)) (Or.inr (w17 hw)) (Or.inr (w16 hw)) (by decide) (by decide) (by decide)))
    have f70 := f66.keep Kh67
    have f71 := f55.keep Kh62 (Ow.ninS (by omega) Ow.nin0)
    have f72 := f71.keep Kh67 (Ow.ninS (by omega) Ow.nin0)
    have s73 : Ow.Chs Z h67 pa0 r50 k51 [px0, px1, px2] := ⟨f70, f68, (Ow.allI ⟨(hk1), (hk0)⟩ (Ow.allI ⟨(hk3), (hk2)⟩ (Ow.allI ⟨(hk5), (hk4)⟩ Ow.allI0))), Or.inr ⟨f69, f72⟩⟩
    exact Ow.retV (S' := []) B e2_57 (⟨r50, k51, rfl, ((((Keep.refl _ [pa0]).trans Kh3 (fun _ q => nomatch q)).trans Kh62 (allS (Or.inl (by simp)) all0)).trans Kh67 (allS (Or.inl (by simp)) all0)), (by omega), s73, rfl⟩)
  · obtain ⟨r74, k75, rfl, Kh3, c76, c77, c78, br74, f79, rfl⟩ := q2
    have lr74 : (r74 : Nat) < h3.size := f79.lt
    refine Ow.Go.norm (S' := [r74, pa0]) (st' := [(.ref r74)]) (fun _ q => q) rfl ?_
    refine Ow.astore (pc' := 41) (Ls' := #[.val (.ref pa0), .val (.ref pa1), .val (.int (0 : Int32)), .val (.int (3 : Int32)), .val .null, .val (.ref r74)]) B e2_39 ?_
    refine Ow.aloadN (pc' := 42) B e2_41 ?_
    refine Ow.aload (pc' := 44) B e2_42 ?_
    refine Ow.iloadN (pc' := 45) B e2_44 ?_
    refine Ow.Go.old (fun o80 => ?_)
    refine Ow.callStatic (pc' := 48) (W := 1) (k' := 2) (n' := 9) (argsL := [(.ref r74), (.int (3 : Int32))]) (rest := [(.ref pa0)]) B e2_45 (w49 hw) (w50 hw) (w44 hw) (w51 hw) (con_coderFromArrayLen_48 hw G GS (pa0 := r74) (px0 := px0) (px1 := px1) (px2 := px2) (pk0 := k75) o80 f79 (by omega) hc_px0 hc_px1 hc_px2) pd12 ?_
    intro vq81 h82 S83 q81 zh82
    obtain ⟨rfl, rfl, rfl⟩ := q81
    refine Ow.Go.norm (S' := [r74, pa0]) (st' := [(.int (0 : Int32)), (.ref pa0)]) (fun _ q => List.mem_append_right _ q) rfl ?_
    have f84 := hf1.keep Kh3 Ow.nin0
    have f85 := hf0.keep Kh3
    refine Ow.putfield (pc' := 51) (ty := .byte) B e2_48 (w21 hw) Via.refl f84 f85 (Or.inr ⟨(w17 hw), rfl, rfl⟩) (w2 hw) (Or.inl (by simp)) ?_
    intro h86 Wh86
    have f87 := hf2.keep Kh3 Ow.nin0
    have Kh86 := Keep.of_wr Wh86
    have zh86 := Kh86.1
    have f88 : Fld Z h86 pa0 "java/lang/String" "coder" "B" (.int (0 : Int32)) := f84.same Wh86
    have f89 : Fld Z h86 pa0 "java/lang/String" "value" "[B" .null := f87.other Wh86 (Or.inr (slot_ne (a0 := a0) (C := "java/lang/String") (t := (.array .byte)) (t' := .byte) (Or.inr (w16 hw)) (Or.inr (w17 hw)) (by decide) (by decide) (by decide)))
    refine Ow.aloadN (pc' := 52) B e2_51 ?_
    refine Ow.aload (pc' := 54) B e2_52 ?_
    have f90 := f85.keep Kh86
    refine Ow.putfield (pc' := 57) (ty := (.array .byte)) B e2_54 (w20 hw) Via.refl f89 f90 (Or.inr ⟨(w16 hw), rfl, rfl⟩) (w2 hw) (Or.inl (by simp)) ?_
    intro h91 Wh91
    have Kh91 := Keep.of_wr Wh91
    have zh91 := Kh91.1
    have f92 : Fld Z h91 pa0 "java/lang/String" "value" "[B" (.ref r74) := f89.same Wh91
    have f93 : Fld Z h91 pa0 "java/lang/String" "coder" "B" (.int (0 : Int32)) := f88.other Wh91 (Or.inr (slot_ne (a0 := a0) (C := "java/lang/String") (t := .byte) (t' := (.array .byte)) (Or.inr (w17 hw)) (Or.inr (w16 hw)) (by decide) (by decide) (by decide)))
    have f94 := f90.keep Kh91
    have f95 := f79.keep Kh86 (Ow.ninS (by omega) Ow.nin0)
    have f96 := f95.keep Kh91 (Ow.ninS (by omega) Ow.nin0)
    have s97 : Ow.Chs Z h91 pa0 r74 k75 [px0, px1, px2] := ⟨f94, f92, (Ow.allI ⟨(hk1), (hk0)⟩ (Ow.allI ⟨(hk3), (hk2)⟩ (Ow.allI ⟨(hk5), (hk4)⟩ Ow.allI0))), Or.inl ⟨f93, f96, (Ow.allI (c76) (Ow.allI (c77) (Ow.allI (c78) Ow.allI0)))⟩⟩
    exact Ow.retV (S' := []) B e2_57 (⟨r74, k75, rfl, ((((Keep.refl _ [pa0]).trans Kh3 (fun _ q => nomatch q)).trans Kh86 (allS (Or.inl (by simp)) all0)).trans Kh91 (allS (Or.inl (by simp)) all0)), (by omega), s97, rfl⟩)
set_option maxRecDepth 65536 in
set_option maxHeartbeats 40000000 in
theorem con_init_50 {l : Launch} {Z : State} {n0 : Nat} {a0 : Array Value} {cz : Int32} {sf : Value} (hw : Hw a0 Z) (G : Ow.Glo Z cz sf) (GS : GlS Z) {pa0 : Nat} {pa1 : Nat} {px0 : Int32} {px1 : Int32} {px2 : Int32} {pk0 : ClassId} {h0 : Heap} (O0 : Old Z n0 h0) (hf0 : Exa Z h0 pa0 "java/lang/String") (hf1 : Fld Z h0 pa0 "java/lang/String" "coder" "B" (.int (0 : Int32))) (hf2 : Fld Z h0 pa0 "java/lang/String" "value" "[B" .null) (hf3 : Arv Z h0 pa1 pk0 .char (3 : Int32) [(.int px0), (.int px1), (.int px2)] (.int 0)) (hn0 : n0 ≤ pa0) (hn1 : n0 ≤ pa1) (hk0 : ¬ ((65535 : Int32) < px0)) (hk1 : ¬ (px0 < (0 : Int32))) (hk2 : ¬ ((65535 : Int32) < px1)) (hk3 : ¬ (px1 < (0 : Int32))) (hk4 : ¬ ((65535 : Int32) < px2)) (hk5 : ¬ (px2 < (0 : Int32))) (hc_px0 : nar .char px0 = px0) (hc_px1 : nar .char px1 = px1) (hc_px2 : nar .char px2 = px2) :
    Ow.Con l Z EL1 n0 my1 jdk_42_method_3_code 2 (Option.none : Option Jvm.ClassFile.FieldType) [] ({ frames := 5, cells := 2, slots := 9, locals := 74 } : Room) #[(.ref pa0), (.ref pa1)] [pa0] h0 (fun v h S' => (∃ r0 : Nat, ∃ k0 : ClassId, v = none ∧ Keep h0 h [pa0] ∧ h0.size ≤ r0 ∧ Ow.Chs Z h pa0 r0 k0 [px0, px1, px2] ∧ S' = [])) := by
  refine Ow.Con.enter (Ls := #[.val (.ref pa0), .val (.ref pa1)]) (plainFor_of_name pn0) O0 (hEW hw) (hSA hw) ?_
  intro p e s m below meth c B
  have z0 := Ow.old_le O0
  have lpa0 : (pa0 : Nat) < h0.size := hf0.lt
  have lpa1 : (pa1 : Nat) < h0.size := hf3.lt
  refine Ow.aloadN (pc' := 1) B e1_0 ?_
  refine Ow.aloadN (pc' := 2) B e1_1 ?_
  refine Ow.iconst (pc' := 3) (x := (0 : Int32)) B e1_2 ?_
  refine Ow.aloadN (pc' := 4) B e1_3 ?_
  refine Ow.arrlen (pc' := 5) B e1_4 hf3 ?_
  refine Ow.aconstNull (pc' := 6) B e1_5 ?_
  refine Ow.Go.old (fun o1 => ?_)
  refine Ow.callInit (pc' := 9) (W := 0) (k' := 2) (n' := 9) (argsL := [(.ref pa1), (.int (0 : Int32)), (.int (3 : Int32)), .null]) (rest := []) B e1_6 (w7 hw) (w8 hw) (w3 hw) (w10 hw) (con_init_49 hw G GS (pa0 := pa0) (pa1 := pa1) (px0 := px0) (px1 := px1) (px2 := px2) (pk0 := pk0) o1 hf0 hf1 hf2 hf3 (by omega) (by omega) (hk0) (hk1) (hk2) (hk3) (hk4) (hk5) hc_px0 hc_px1 hc_px2) pd0 ?_
  intro vq2 h3 S4 q2 zh3
  obtain ⟨r5, k6, rfl, Kh3, br5, f7, rfl⟩ := q2
  have lr5 : (r5 : Nat) < h3.size := f7.ltt
  refine Ow.Go.norm (S' := [pa0]) (st' := []) (fun _ q => List.mem_append_right _ q) rfl ?_
  exact Ow.retV (S' := []) B e1_9 (⟨r5, k6, rfl, ((Keep.refl _ [pa0]).trans Kh3 (allS (Or.inl (by simp)) all0)), (by omega), f7, rfl⟩)
set_option maxRecDepth 65536 in
set_option maxHeartbeats 40000000 in
theorem con_ok_51 {l : Launch} {Z : State} {n0 : Nat} {a0 : Array Value} {cz : Int32} {sf : Value} (hw : Hw a0 Z) (G : Ow.Glo Z cz sf) (GS : GlS Z) {px0 : Int32} {h0 : Heap} (O0 : Old Z n0 h0) (hk0 : ¬ ((65535 : Int32) < px0)) (hk1 : ¬ (px0 < (0 : Int32))) (hc_px0 : nar .char px0 = px0) :
    Ow.Con l Z EL1 n0 my14 method_4_code 4 (Option.some Jvm.ClassFile.FieldType.boolean) [] ({ frames := 0, cells := 0, slots := 0, locals := 0 } : Room) #[(.int px0)] [] h0 (fun v h S' => (v = some (.int (0 : Int32)) ∧ h = h0 ∧ ¬ (okP px0) ∧ S' = []) ∨ (v = some (.int (1 : Int32)) ∧ h = h0 ∧ okP px0 ∧ S' = [])) := by
  refine Ow.Con.enter (Ls := #[.val (.int px0), .unset, .unset, .unset]) (plainFor_of_name pn2) O0 (hEW hw) (hSA hw) ?_
  intro p e s m below meth c B
  have z0 := Ow.old_le O0
  have i0 := own_i0 (hk1)
  have i1 := own_i1 (hk0)
  refine Ow.iloadN (pc' := 1) B e14_0 ?_
  refine Ow.istoreN (pc' := 2) (Ls' := #[.val (.int px0), .val (.int px0), .unset, .unset]) B e14_1 ?_
  refine Ow.iloadN (pc' := 3) B e14_2 ?_
  refine Ow.bipush (pc' := 5) (x := (48 : Int32)) B e14_3 ?_
  obtain ⟨d0, hd0⟩ : ∃ z : Int32, (px0 - (48 : Int32)) = z := ⟨_, rfl⟩
  have ed0 := own_sub hd0 ⟨i0, i1⟩ (by decide)
  simp only [Int32.reduceToInt] at ed0
  refine Ow.isub (pc' := 6) (z := d0) (hz := hd0) B e14_5 ?_
  refine Ow.istoreN (pc' := 7) (Ls' := #[.val (.int px0), .val (.int px0), .val (.int d0), .unset]) B e14_6 ?_
  refine Ow.iloadN (pc' := 8) B e14_7 ?_
  by_cases c1 : d0 < (0 : Int32)
  · have c1i := c1
    simp only [Int32.lt_iff_toInt_lt, ← Int32.toInt_inj, Int32.reduceToInt] at c1i
    refine Ow.ifT (pc' := 19) B e14_8 (tlt c1).1 ?_
    refine Ow.iloadN (pc' := 20) B e14_19 ?_
    refine Ow.bipush (pc' := 22) (x := (32 : Int32)) B e14_20 ?_
    obtain ⟨o0, ho0⟩ : ∃ z : Int32, (px0 ||| (32 : Int32)) = z := ⟨_, rfl⟩
    have eo0 := own_or32 ho0 i0 i1
    refine Ow.ior (pc' := 23) (z := o0) (hz := ho0) B e14_22 ?_
    refine Ow.bipush (pc' := 25) (x := (97 : Int32)) B e14_23 ?_
    obtain ⟨l0, hl0⟩ : ∃ z : Int32, (o0 - (97 : Int32)) = z := ⟨_, rfl⟩
    have el0 := own_sub hl0 (by omega) (by decide)
    simp only [Int32.reduceToInt] at el0
    refine Ow.isub (pc' := 26) (z := l0) (hz := hl0) B e14_25 ?_
    refine Ow.istoreN (pc' := 27) (Ls' := #[.val (.int px0), .val (.int px0), .val (.int d0), .val (.int l0)]) B e14_26 ?_
    refine Ow.iloadN (pc' := 28) B e14_27 ?_
    refine Ow.ifT (pc' := 41) B e14_28 (tlt ((by simp only [Int32.lt_iff_toInt_lt, ← Int32.toInt_inj, Int32.reduceToInt]; omega))).1 ?_
    refine Ow.iconst (pc' := 42) (x := (0 : Int32)) B e14_41 ?_
    exact Ow.retI (S' := []) (t := .boolean) B e14_42 (Or.inl (⟨rfl, rfl, (by unfold okP; first | omega | (split at eo0 <;> omega)), rfl⟩))
  · have c1i := c1
    simp only [Int32.lt_iff_toInt_lt, ← Int32.toInt_inj, Int32.reduceToInt] at c1i
    refine Ow.ifF (pc' := 11) B e14_8 (flt c1).1 ?_
    refine Ow.iloadN (pc' := 12) B e14_11 ?_
    refine Ow.bipush (pc' := 14) (x := (10 : Int32)) B e14_12 ?_
    by_cases c2 : d0 < (10 : Int32)
    · have c2i := c2
      simp only [Int32.lt_iff_toInt_lt, ← Int32.toInt_inj, Int32.reduceToInt] at c2i
      refine Ow.icmpF (pc' := 17) B e14_14 (tlt c2).2.1 ?_
      refine Ow.iconst (pc' := 18) (x := (1 : Int32)) B e14_17 ?_
      exact Ow.retI (S' := []) (t := .boolean) B e14_18 (Or.inr (⟨rfl, rfl, (by unfold okP; first | omega | (split at eo0 <;> omega)), rfl⟩))
    · have c2i := c2
      simp only [Int32.lt_iff_toInt_lt, ← Int32.toInt_inj, Int32.reduceToInt] at c2i
      refine Ow.icmpT (pc' := 19) B e14_14 (flt c2).2.1 ?_
      refine Ow.iloadN (pc' := 20) B e14_19 ?_
      refine Ow.bipush (pc' := 22) (x := (32 : Int32)) B e14_20 ?_
      obtain ⟨o0, ho0⟩ : ∃ z : Int32, (px0 ||| (32 : Int32)) = z := ⟨_, rfl⟩
      have eo0 := own_or32 ho0 i0 i1
      refine Ow.ior (pc' := 23) (z := o0) (hz := ho0) B e14_22 ?_
      refine Ow.bipush (pc' := 25) (x := (97 : Int32)) B e14_23 ?_
      obtain ⟨l0, hl0⟩ : ∃ z : Int32, (o0 - (97 : Int32)) = z := ⟨_, rfl⟩
      have el0 := own_sub hl0 (by omega) (by decide)
      simp only [Int32.reduceToInt] at el0
      refine Ow.isub (pc' := 26) (z := l0) (hz := hl0) B e14_25 ?_
      refine Ow.istoreN (pc' := 27) (Ls' := #[.val (.int px0), .val (.int px0), .val (.int d0), .val (.int l0)]) B e14_26 ?_
      refine Ow.iloadN (pc' := 28) B e14_27 ?_
      by_cases c3 : l0 < (0 : Int32)
      · have c3i := c3
        simp only [Int32.lt_iff_toInt_lt, ← Int32.toInt_inj, Int32.reduceToInt] at c3i
        refine Ow.ifT (pc' := 41) B e14_28 (tlt c3).1 ?_
        refine Ow.iconst (pc' := 42) (x := (0 : Int32)) B e14_41 ?_
        exact Ow.retI (S' := []) (t := .boolean) B e14_42 (Or.inl (⟨rfl, rfl, (by unfold okP; first | omega | (split at eo0 <;> omega)), rfl⟩))
      · have c3i := c3
        simp only [Int32.lt_iff_toInt_lt, ← Int32.toInt_inj, Int32.reduceToInt] at c3i
        refine Ow.ifF (pc' := 31) B e14_28 (flt c3).1 ?_
        refine Ow.iloadN (pc' := 32) B e14_31 ?_
        refine Ow.bipush (pc' := 34) (x := (26 : Int32)) B e14_32 ?_
        by_cases c4 : l0 < (26 : Int32)
        · have c4i := c4
          simp only [Int32.lt_iff_toInt_lt, ← Int32.toInt_inj, Int32.reduceToInt] at c4i
          refine Ow.icmpF (pc' := 37) B e14_34 (tlt c4).2.1 ?_
          refine Ow.iconst (pc' := 38) (x := (1 : Int32)) B e14_37 ?_
          refine Ow.goto (pc' := 42) B e14_38 ?_
          exact Ow.retI (S' := []) (t := .boolean) B e14_42 (Or.inr (⟨rfl, rfl, (by unfold okP; first | omega | (split at eo0 <;> omega)), rfl⟩))
        · have c4i := c4
          simp only [Int32.lt_iff_toInt_lt, ← Int32.toInt_inj, Int32.reduceToInt] at c4i
          refine Ow.icmpT (pc' := 41) B e14_34 (flt c4).2.1 ?_
          refine Ow.iconst (pc' := 42) (x := (0 : Int32)) B e14_41 ?_
          exact Ow.retI (S' := []) (t := .boolean) B e14_42 (Or.inl (⟨rfl, rfl, (by unfold okP; first | omega | (split at eo0 <;> omega)), rfl⟩))
set_option maxRecDepth 65536 in
set_option maxHeartbeats 40000000 in
theorem con_length_52 {l : Launch} {Z : State} {n0 : Nat} {a0 : Array Value} {cz : Int32} {sf : Value} (hw : Hw a0 Z) (G : Ow.Glo Z cz sf) (GS : GlS Z) {pa0 : Nat} {pa1 : Nat} {px0 : Int32} {px1 : Int32} {px2 : Int32} {pk0 : ClassId} {h0 : Heap} (O0 : Old Z n0 h0) (hf0 : Ow.Chs Z h0 pa0 pa1 pk0 [px0, px1, px2]) (hn0 : n0 ≤ pa0) (hn1 : n0 ≤ pa1) (hc_px0 : nar .char px0 = px0) (hc_px1 : nar .char px1 = px1) (hc_px2 : nar .char px2 = px2) :
    Ow.Con l Z EL1 n0 my3 jdk_42_method_54_code 1 (Option.some Jvm.ClassFile.FieldType.int) [] ({ frames := 1, cells := 0, slots := 0, locals := 13 } : Room) #[(.ref pa0)] [] h0 (fun v h S' => (v = some (.int (3 : Int32)) ∧ h = h0 ∧ S' = [])) := by
  rcases hf0.2.2.2 with ⟨oc_hf0, oa_hf0, ol_hf0⟩ | ⟨oc_hf0, oa_hf0⟩
  · refine Ow.Con.enter (Ls := #[.val (.ref pa0)]) (plainFor_of_name pn0) O0 (hEW hw) (hSA hw) ?_
    intro p e s m below meth c B
    have z0 := Ow.old_le O0
    have oE_hf0 := hf0.1
    have oV_hf0 := hf0.2.1
    have oR_hf0 := hf0.2.2.1
    have oA_hf0 : Arv Z h0 pa1 pk0 .byte (3 : Int32) [(.int px0.toInt8.toInt32), (.int px1.toInt8.toInt32), (.int px2.toInt8.toInt32)] (.int 0) := oa_hf0
    have lpa0 : (pa0 : Nat) < h0.size := hf0.lt
    have lpa1 : (pa1 : Nat) < h0.size := oA_hf0.lt
    have lpa1 : (pa1 : Nat) < h0.size := hf0.ltt
    refine Ow.aloadN (pc' := 1) B e3_0 ?_
    refine Ow.getfield (pc' := 4) B e3_1 (w20 hw) Via.refl oV_hf0 ?_
    refine Ow.arrlen (pc' := 5) B e3_4 oA_hf0 ?_
    refine Ow.aloadN (pc' := 6) B e3_5 ?_
    refine Ow.Go.old (fun o1 => ?_)
    refine Ow.callVirtual (pc' := 9) (W := 1) (k' := 0) (n' := 0) (argsL := []) (rest := [(.int (3 : Int32))]) (K := "java/lang/String") B e3_6 (w31 hw) (w32 hw) (w34 hw) (w34 hw) (w33 hw) (w3 hw) (w35 hw) oE_hf0 (con_coder_3 hw G GS (pa0 := pa0) o1 oc_hf0 (by omega)) pd2 ?_
    intro vq2 h3 S4 q2 zh3
    obtain ⟨rfl, rfl, rfl⟩ := q2
    refine Ow.Go.norm (S' := []) (st' := [(.int (0 : Int32)), (.int (3 : Int32))]) (fun _ q => List.mem_append_right _ q) rfl ?_
    refine Ow.ishr (pc' := 10) (z := (3 : Int32)) B e3_9 ?_
    exact Ow.retI (S' := []) (t := .int) B e3_10 (⟨rfl, rfl, rfl⟩)
  · refine Ow.Con.enter (Ls := #[.val (.ref pa0)]) (plainFor_of_name pn0) O0 (hEW hw) (hSA hw) ?_
    intro p e s m below meth c B
    have z0 := Ow.old_le O0
    have oE_hf0 := hf0.1
    have oV_hf0 := hf0.2.1
    have oR_hf0 := hf0.2.2.1
    have oA_hf0 : Arv Z h0 pa1 pk0 .byte (6 : Int32) [(.int px0.toInt8.toInt32), (.int (px0 >>> ((8 : Int32) &&& 31)).toInt8.toInt32), (.int px1.toInt8.toInt32), (.int (px1 >>> ((8 : Int32) &&& 31)).toInt8.toInt32), (.int px2.toInt8.toInt32), (.int (px2 >>> ((8 : Int32) &&& 31)).toInt8.toInt32)] (.int 0) := oa_hf0
    have lpa0 : (pa0 : Nat) < h0.size := hf0.lt
    have lpa1 : (pa1 : Nat) < h0.size := oA_hf0.lt
    have lpa1 : (pa1 : Nat) < h0.size := hf0.ltt
    refine Ow.aloadN (pc' := 1) B e3_0 ?_
    refine Ow.getfield (pc' := 4) B e3_1 (w20 hw) Via.refl oV_hf0 ?_
    refine Ow.arrlen (pc' := 5) B e3_4 oA_hf0 ?_
    refine Ow.aloadN (pc' := 6) B e3_5 ?_
    refine Ow.Go.old (fun o1 => ?_)
    refine Ow.callVirtual (pc' := 9) (W := 1) (k' := 0) (n' := 0) (argsL := []) (rest := [(.int (6 : Int32))]) (K := "java/lang/String") B e3_6 (w31 hw) (w32 hw) (w34 hw) (w34 hw) (w33 hw) (w3 hw) (w35 hw) oE_hf0 (con_coder_4 hw G GS (pa0 := pa0) o1 oc_hf0 (by omega)) pd2 ?_
    intro vq2 h3 S4 q2 zh3
    obtain ⟨rfl, rfl, rfl⟩ := q2
    refine Ow.Go.norm (S' := []) (st' := [(.int (1 : Int32)), (.int (6 : Int32))]) (fun _ q => List.mem_append_right _ q) rfl ?_
    refine Ow.ishr (pc' := 10) (z := (3 : Int32)) B e3_9 ?_
    exact Ow.retI (S' := []) (t := .int) B e3_10 (⟨rfl, rfl, rfl⟩)
set_option maxRecDepth 65536 in
set_option maxHeartbeats 40000000 in
theorem con_isLatin1_53 {l : Launch} {Z : State} {n0 : Nat} {a0 : Array Value} {cz : Int32} {sf : Value} (hw : Hw a0 Z) (G : Ow.Glo Z cz sf) (GS : GlS Z) {pa0 : Nat} {h0 : Heap} (O0 : Old Z n0 h0) (hf0 : Fld Z h0 pa0 "java/lang/String" "coder" "B" (.int (0 : Int32))) (hn0 : n0 ≤ pa0) :
    Ow.Con l Z EL1 n0 my15 jdk_42_method_154_code 1 (Option.some Jvm.ClassFile.FieldType.boolean) [] ({ frames := 0, cells := 0, slots := 0, locals := 0 } : Room) #[(.ref pa0)] [] h0 (fun v h S' => (v = some (.int (1 : Int32)) ∧ h = h0 ∧ S' = [])) := by
  refine Ow.Con.enter (Ls := #[.val (.ref pa0)]) (plainFor_of_name pn0) O0 (hEW hw) (hSA hw) ?_
  intro p e s m below meth c B
  have z0 := Ow.old_le O0
  have lpa0 : (pa0 : Nat) < h0.size := hf0.lt
  refine Ow.getstatic (pc' := 3) B e16_0 (w36 hw) Via.refl G.1 ?_
  refine Ow.ifF (pc' := 6) B e16_3 (feq (G.2.1)).1 ?_
  refine Ow.aloadN (pc' := 7) B e16_6 ?_
  refine Ow.getfield (pc' := 10) B e16_7 (w21 hw) Via.refl hf0 ?_
  refine Ow.ifF (pc' := 13) B e16_10 (by decide) ?_
  refine Ow.iconst (pc' := 14) (x := (1 : Int32)) B e16_13 ?_
  refine Ow.goto (pc' := 18) B e16_14 ?_
  exact Ow.retI (S' := []) (t := .boolean) B e16_18 (⟨rfl, rfl, rfl⟩)
set_option maxRecDepth 65536 in
set_option maxHeartbeats 40000000 in
theorem con_checkIndex_54 {l : Launch} {Z : State} {n0 : Nat} {a0 : Array Value} {cz : Int32} {sf : Value} (hw : Hw a0 Z) (G : Ow.Glo Z cz sf) (GS : GlS Z) {px0 : Int32} {px1 : Int32} {pv0 : Value} {h0 : Heap} (O0 : Old Z n0 h0) (hk0 : ¬ (px0 < (0 : Int32))) (hk1 : px0 < px1) (hv_pv0 : pv0.isRef = true) :
    Ow.Con l Z EL1 n0 my16 jdk_41_method_11_code 3 (Option.some Jvm.ClassFile.FieldType.int) [] ({ frames := 0, cells := 0, slots := 0, locals := 0 } : Room) #[(.int px0), (.int px1), pv0] [] h0 (fun v h S' => (v = some (.int px0) ∧ h = h0 ∧ S' = [])) := by
  rcases ref_cases hv_pv0 with rfl | ⟨sa_pv0, rfl⟩
  · refine Ow.Con.enter (Ls := #[.val (.int px0), .val (.int px1), .val .null]) (plainFor_of_name pn5) O0 (hEW hw) (hSA hw) ?_
    intro p e s m below meth c B
    have z0 := Ow.old_le O0
    refine Ow.iloadN (pc' := 1) B e19_0 ?_
    refine Ow.ifF (pc' := 4) B e19_1 (flt (hk0)).1 ?_
    refine Ow.iloadN (pc' := 5) B e19_4 ?_
    refine Ow.iloadN (pc' := 6) B e19_5 ?_
    refine Ow.icmpT (pc' := 16) B e19_6 (tlt (hk1)).1 ?_
    refine Ow.iloadN (pc' := 17) B e19_16 ?_
    exact Ow.retI (S' := []) (t := .int) B e19_17 (⟨rfl, rfl, rfl⟩)
  · refine Ow.Con.enter (Ls := #[.val (.int px0), .val (.int px1), .val (.ref sa_pv0)]) (plainFor_of_name pn5) O0 (hEW hw) (hSA hw) ?_
    intro p e s m below meth c B
    have z0 := Ow.old_le O0
    refine Ow.iloadN (pc' := 1) B e19_0 ?_
    refine Ow.ifF (pc' := 4) B e19_1 (flt (hk0)).1 ?_
    refine Ow.iloadN (pc' := 5) B e19_4 ?_
    refine Ow.iloadN (pc' := 6) B e19_5 ?_
    refine Ow.icmpT (pc' := 16) B e19_6 (tlt (hk1)).1 ?_
    refine Ow.iloadN (pc' := 17) B e19_16 ?_
    exact Ow.retI (S' := []) (t := .int) B e19_17 (⟨rfl, rfl, rfl⟩)
set_option maxRecDepth 65536 in
set_option maxHeartbeats 40000000 in
theorem con_checkIndex_55 {l : Launch} {Z : State} {n0 : Nat} {a0 : Array Value} {cz : Int32} {sf : Value} (hw : Hw a0 Z) (G : Ow.Glo Z cz sf) (GS : GlS Z) {px0 : Int32} {px1 : Int32} {h0 : Heap} (O0 : Old Z n0 h0) (hk0 : ¬ (px0 < (0 : Int32))) (hk1 : px0 < px1) :
    Ow.Con l Z EL1 n0 my17 jdk_42_method_155_code 2 (Option.none : Option Jvm.ClassFile.FieldType) [] ({ frames := 1, cells := 0, slots := 0, locals := 14 } : Room) #[(.int px0), (.int px1)] [] h0 (fun v h S' => (v = none ∧ h = h0 ∧ S' = [])) := by
  refine Ow.Con.enter (Ls := #[.val (.int px0), .val (.int px1)]) (plainFor_of_name pn0) O0 (hEW hw) (hSA hw) ?_
  intro p e s m below meth c B
  have z0 := Ow.old_le O0
  refine Ow.iloadN (pc' := 1) B e18_0 ?_
  refine Ow.iloadN (pc' := 2) B e18_1 ?_
  refine Ow.getstatic (pc' := 5) B e18_2 (w72 hw) Via.refl G.2.2.1 ?_
  refine Ow.Go.old (fun o1 => ?_)
  refine Ow.callStatic (pc' := 8) (W := 0) (k' := 0) (n' := 0) (argsL := [(.int px0), (.int px1), sf]) (rest := []) B e18_5 (w74 hw) (w75 hw) (w73 hw) (w76 hw) (con_checkIndex_54 hw G GS (px0 := px0) (px1 := px1) (pv0 := sf) o1 (hk0) (hk1) (G.2.2.2)) pd15 ?_
  intro vq2 h3 S4 q2 zh3
  obtain ⟨rfl, rfl, rfl⟩ := q2
  refine Ow.Go.norm (S' := []) (st' := [(.int px0)]) (fun _ q => List.mem_append_right _ q) rfl ?_
  refine Ow.pop (pc' := 9) B e18_8 ?_
  exact Ow.retV (S' := []) B e18_9 (⟨rfl, rfl, rfl⟩)
set_option maxRecDepth 65536 in
set_option maxHeartbeats 40000000 in
theorem con_charAt_56 {l : Launch} {Z : State} {n0 : Nat} {a0 : Array Value} {cz : Int32} {sf : Value} (hw : Hw a0 Z) (G : Ow.Glo Z cz sf) (GS : GlS Z) {pa0 : Nat} {px0 : Int32} {px1 : Int32} {px2 : Int32} {pk0 : ClassId} {h0 : Heap} (O0 : Old Z n0 h0) (hf0 : Arv Z h0 pa0 pk0 .byte (3 : Int32) [(.int px0.toInt8.toInt32), (.int px1.toInt8.toInt32), (.int px2.toInt8.toInt32)] (.int 0)) (hn0 : n0 ≤ pa0) (hk0 : ¬ (px0 < (0 : Int32))) (hk1 : ¬ ((255 : Int32) < px0)) (hc_px0 : nar .char px0 = px0) (hc_px1 : nar .char px1 = px1) (hc_px2 : nar .char px2 = px2) :
    Ow.Con l Z EL1 n0 my18 jdk_43_method_2_code 2 (Option.some Jvm.ClassFile.FieldType.char) [] ({ frames := 2, cells := 0, slots := 0, locals := 27 } : Room) #[(.ref pa0), (.int (0 : Int32))] [] h0 (fun v h S' => (v = some (.int px0) ∧ h = h0 ∧ S' = [])) := by
  refine Ow.Con.enter (Ls := #[.val (.ref pa0), .val (.int (0 : Int32))]) (plainFor_of_name pn4) O0 (hEW hw) (hSA hw) ?_
  intro p e s m below meth c B
  have z0 := Ow.old_le O0
  have lpa0 : (pa0 : Nat) < h0.size := hf0.lt
  refine Ow.iloadN (pc' := 1) B e17_0 ?_
  refine Ow.aloadN (pc' := 2) B e17_1 ?_
  refine Ow.arrlen (pc' := 3) B e17_2 hf0 ?_
  refine Ow.Go.old (fun o1 => ?_)
  refine Ow.callStatic (pc' := 6) (W := 0) (k' := 0) (n' := 0) (argsL := [(.int (0 : Int32)), (.int (3 : Int32))]) (rest := []) B e17_3 (w69 hw) (w70 hw) (w3 hw) (w71 hw) (con_checkIndex_55 hw G GS (px0 := (0 : Int32)) (px1 := (3 : Int32)) o1 (by decide) (by decide)) pd16 ?_
  intro vq2 h3 S4 q2 zh3
  obtain ⟨rfl, rfl, rfl⟩ := q2
  refine Ow.Go.norm (S' := []) (st' := []) (fun _ q => List.mem_append_right _ q) rfl ?_
  refine Ow.aloadN (pc' := 7) B e17_6 ?_
  refine Ow.iloadN (pc' := 8) B e17_7 ?_
  refine Ow.baload (pc' := 9) B e17_8 hf0 ⟨by decide, by decide⟩ rfl ?_
  refine Ow.sipush (pc' := 12) (x := (255 : Int32)) B e17_9 ?_
  refine Ow.iand (pc' := 13) (z := px0) (hz := (Ow.b255 (hk0) (hk1))) B e17_12 ?_
  refine Ow.i2c (pc' := 14) (z := px0) (hz := (Ow.c_id (hk0) (hk1))) B e17_13 ?_
  exact Ow.retI (S' := []) (t := .char) (hnn := (Ow.cnarrow (Ow.nar_id (hk0) (hk1)))) B e17_14 (⟨rfl, rfl, rfl⟩)
set_option maxRecDepth 65536 in
set_option maxHeartbeats 40000000 in
theorem con_isLatin1_57 {l : Launch} {Z : State} {n0 : Nat} {a0 : Array Value} {cz : Int32} {sf : Value} (hw : Hw a0 Z) (G : Ow.Glo Z cz sf) (GS : GlS Z) {pa0 : Nat} {h0 : Heap} (O0 : Old Z n0 h0) (hf0 : Fld Z h0 pa0 "java/lang/String" "coder" "B" (.int (1 : Int32))) (hn0 : n0 ≤ pa0) :
    Ow.Con l Z EL1 n0 my15 jdk_42_method_154_code 1 (Option.some Jvm.ClassFile.FieldType.boolean) [] ({ frames := 0, cells := 0, slots := 0, locals := 0 } : Room) #[(.ref pa0)] [] h0 (fun v h S' => (v = some (.int (0 : Int32)) ∧ h = h0 ∧ S' = [])) := by
  refine Ow.Con.enter (Ls := #[.val (.ref pa0)]) (plainFor_of_name pn0) O0 (hEW hw) (hSA hw) ?_
  intro p e s m below meth c B
  have z0 := Ow.old_le O0
  have lpa0 : (pa0 : Nat) < h0.size := hf0.lt
  refine Ow.getstatic (pc' := 3) B e16_0 (w36 hw) Via.refl G.1 ?_
  refine Ow.ifF (pc' := 6) B e16_3 (feq (G.2.1)).1 ?_
  refine Ow.aloadN (pc' := 7) B e16_6 ?_
  refine Ow.getfield (pc' := 10) B e16_7 (w21 hw) Via.refl hf0 ?_
  refine Ow.ifT (pc' := 17) B e16_10 (by decide) ?_
  refine Ow.iconst (pc' := 18) (x := (0 : Int32)) B e16_17 ?_
  exact Ow.retI (S' := []) (t := .boolean) B e16_18 (⟨rfl, rfl, rfl⟩)
set_option maxRecDepth 65536 in
set_option maxHeartbeats 40000000 in
theorem con_length_58 {l : Launch} {Z : State} {n0 : Nat} {a0 : Array Value} {cz : Int32} {sf : Value} (hw : Hw a0 Z) (G : Ow.Glo Z cz sf) (GS : GlS Z) {pa0 : Nat} {px0 : Int32} {px1 : Int32} {px2 : Int32} {pk0 : ClassId} {h0 : Heap} (O0 : Old Z n0 h0) (hf0 : Arv Z h0 pa0 pk0 .byte (6 : Int32) [(.int px0.toInt8.toInt32), (.int (px0 >>> ((8 : Int32) &&& 31)).toInt8.toInt32), (.int px1.toInt8.toInt32), (.int (px1 >>> ((8 : Int32) &&& 31)).toInt8.toInt32), (.int px2.toInt8.toInt32), (.int (px2 >>> ((8 : Int32) &&& 31)).toInt8.toInt32)] (.int 0)) (hn0 : n0 ≤ pa0) (hc_px0 : nar .char px0 = px0) (hc_px1 : nar .char px1 = px1) (hc_px2 : nar .char px2 = px2) :
    Ow.Con l Z EL1 n0 my19 jdk_52_method_6_code 1 (Option.some Jvm.ClassFile.FieldType.int) [] ({ frames := 0, cells := 0, slots := 0, locals := 0 } : Room) #[(.ref pa0)] [] h0 (fun v h S' => (v = some (.int (3 : Int32)) ∧ h = h0 ∧ S' = [])) := by
  refine Ow.Con.enter (Ls := #[.val (.ref pa0)]) (plainFor_of_name pn3) O0 (hEW hw) (hSA hw) ?_
  intro p e s m below meth c B
  have z0 := Ow.old_le O0
  have lpa0 : (pa0 : Nat) < h0.size := hf0.lt
  refine Ow.aloadN (pc' := 1) B e22_0 ?_
  refine Ow.arrlen (pc' := 2) B e22_1 hf0 ?_
  refine Ow.iconst (pc' := 3) (x := (1 : Int32)) B e22_2 ?_
  refine Ow.ishr (pc' := 4) (z := (3 : Int32)) B e22_3 ?_
  exact Ow.retI (S' := []) (t := .int) B e22_4 (⟨rfl, rfl, rfl⟩)
set_option maxRecDepth 65536 in
set_option maxHeartbeats 40000000 in
theorem con_checkIndex_59 {l : Launch} {Z : State} {n0 : Nat} {a0 : Array Value} {cz : Int32} {sf : Value} (hw : Hw a0 Z) (G : Ow.Glo Z cz sf) (GS : GlS Z) {pa0 : Nat} {px0 : Int32} {px1 : Int32} {px2 : Int32} {pk0 : ClassId} {h0 : Heap} (O0 : Old Z n0 h0) (hf0 : Arv Z h0 pa0 pk0 .byte (6 : Int32) [(.int px0.toInt8.toInt32), (.int (px0 >>> ((8 : Int32) &&& 31)).toInt8.toInt32), (.int px1.toInt8.toInt32), (.int (px1 >>> ((8 : Int32) &&& 31)).toInt8.toInt32), (.int px2.toInt8.toInt32), (.int (px2 >>> ((8 : Int32) &&& 31)).toInt8.toInt32)] (.int 0)) (hn0 : n0 ≤ pa0) (hc_px0 : nar .char px0 = px0) (hc_px1 : nar .char px1 = px1) (hc_px2 : nar .char px2 = px2) :
    Ow.Con l Z EL1 n0 my20 jdk_52_method_91_code 2 (Option.none : Option Jvm.ClassFile.FieldType) [] ({ frames := 2, cells := 0, slots := 0, locals := 27 } : Room) #[(.int (0 : Int32)), (.ref pa0)] [] h0 (fun v h S' => (v = none ∧ h = h0 ∧ S' = [])) := by
  refine Ow.Con.enter (Ls := #[.val (.int (0 : Int32)), .val (.ref pa0)]) (plainFor_of_name pn3) O0 (hEW hw) (hSA hw) ?_
  intro p e s m below meth c B
  have z0 := Ow.old_le O0
  have lpa0 : (pa0 : Nat) < h0.size := hf0.lt
  refine Ow.iloadN (pc' := 1) B e21_0 ?_
  refine Ow.aloadN (pc' := 2) B e21_1 ?_
  refine Ow.Go.old (fun o1 => ?_)
  refine Ow.callStatic (pc' := 5) (W := 1) (k' := 0) (n' := 0) (argsL := [(.ref pa0)]) (rest := [(.int (0 : Int32))]) B e21_2 (w102 hw) (w103 hw) (w44 hw) (w104 hw) (con_length_58 hw G GS (pa0 := pa0) (px0 := px0) (px1 := px1) (px2 := px2) (pk0 := pk0) o1 hf0 (by omega) hc_px0 hc_px1 hc_px2) pd17 ?_
  intro vq2 h3 S4 q2 zh3
  obtain ⟨rfl, rfl, rfl⟩ := q2
  refine Ow.Go.norm (S' := []) (st' := [(.int (3 : Int32)), (.int (0 : Int32))]) (fun _ q => List.mem_append_right _ q) rfl ?_
  refine Ow.Go.old (fun o5 => ?_)
  refine Ow.callStatic (pc' := 8) (W := 0) (k' := 0) (n' := 0) (argsL := [(.int (0 : Int32)), (.int (3 : Int32))]) (rest := []) B e21_5 (w105 hw) (w70 hw) (w3 hw) (w71 hw) (con_checkIndex_55 hw G GS (px0 := (0 : Int32)) (px1 := (3 : Int32)) o5 (by decide) (by decide)) pd16 ?_
  intro vq6 h7 S8 q6 zh7
  obtain ⟨rfl, rfl, rfl⟩ := q6
  refine Ow.Go.norm (S' := []) (st' := []) (fun _ q => List.mem_append_right _ q) rfl ?_
  exact Ow.retV (S' := []) B e21_8 (⟨rfl, rfl, rfl⟩)
set_option maxRecDepth 65536 in
set_option maxHeartbeats 40000000 in
theorem con_getChar_60 {l : Launch} {Z : State} {n0 : Nat} {a0 : Array Value} {cz : Int32} {sf : Value} (hw : Hw a0 Z) (G : Ow.Glo Z cz sf) (GS : GlS Z) {pa0 : Nat} {px0 : Int32} {px1 : Int32} {px2 : Int32} {pk0 : ClassId} {h0 : Heap} (O0 : Old Z n0 h0) (hf0 : Arv Z h0 pa0 pk0 .byte (6 : Int32) [(.int px0.toInt8.toInt32), (.int (px0 >>> ((8 : Int32) &&& 31)).toInt8.toInt32), (.int px1.toInt8.toInt32), (.int (px1 >>> ((8 : Int32) &&& 31)).toInt8.toInt32), (.int px2.toInt8.toInt32), (.int (px2 >>> ((8 : Int32) &&& 31)).toInt8.toInt32)] (.int 0)) (hn0 : n0 ≤ pa0) (hk0 : ¬ (px0 < (0 : Int32))) (hk1 : ¬ ((65535 : Int32) < px0)) (hc_px0 : nar .char px0 = px0) (hc_px1 : nar .char px1 = px1) (hc_px2 : nar .char px2 = px2) :
    Ow.Con l Z EL1 n0 my11 jdk_52_method_5_code 2 (Option.some Jvm.ClassFile.FieldType.char) [] ({ frames := 0, cells := 0, slots := 0, locals := 0 } : Room) #[(.ref pa0), (.int (0 : Int32))] [] h0 (fun v h S' => (v = some (.int px0) ∧ h = h0 ∧ S' = [])) := by
  refine Ow.Con.enter (Ls := #[.val (.ref pa0), .val (.int (0 : Int32))]) (plainFor_of_name pn3) O0 (hEW hw) (hSA hw) ?_
  intro p e s m below meth c B
  have z0 := Ow.old_le O0
  have lpa0 : (pa0 : Nat) < h0.size := hf0.lt
  refine Ow.getstatic (pc' := 3) B e12_0 (w90 hw) Via.refl GS.1 ?_
  refine Ow.ifT (pc' := 28) B e12_3 (by decide) ?_
  refine Ow.iloadN (pc' := 29) B e12_28 ?_
  refine Ow.iconst (pc' := 30) (x := (1 : Int32)) B e12_29 ?_
  refine Ow.ishl (pc' := 31) (z := (0 : Int32)) B e12_30 ?_
  refine Ow.istoreN (pc' := 32) (Ls' := #[.val (.ref pa0), .val (.int (0 : Int32))]) B e12_31 ?_
  refine Ow.aloadN (pc' := 33) B e12_32 ?_
  refine Ow.iloadN (pc' := 34) B e12_33 ?_
  refine Ow.iinc (pc' := 37) (y := (1 : Int32)) (Ls' := #[.val (.ref pa0), .val (.int (1 : Int32))]) B e12_34 ?_
  refine Ow.baload (pc' := 38) B e12_37 hf0 ⟨by decide, by decide⟩ rfl ?_
  refine Ow.sipush (pc' := 41) (x := (255 : Int32)) B e12_38 ?_
  refine Ow.iand (pc' := 42) (z := (px0.toInt8.toInt32 &&& (255 : Int32))) B e12_41 ?_
  refine Ow.getstatic (pc' := 45) B e12_42 (w91 hw) Via.refl GS.2.1 ?_
  refine Ow.ishl (pc' := 46) (z := ((px0.toInt8.toInt32 &&& (255 : Int32)) <<< ((0 : Int32) &&& 31))) B e12_45 ?_
  refine Ow.aloadN (pc' := 47) B e12_46 ?_
  refine Ow.iloadN (pc' := 48) B e12_47 ?_
  refine Ow.baload (pc' := 49) B e12_48 hf0 ⟨by decide, by decide⟩ rfl ?_
  refine Ow.sipush (pc' := 52) (x := (255 : Int32)) B e12_49 ?_
  refine Ow.iand (pc' := 53) (z := ((px0 >>> ((8 : Int32) &&& 31)).toInt8.toInt32 &&& (255 : Int32))) B e12_52 ?_
  refine Ow.getstatic (pc' := 56) B e12_53 (w92 hw) Via.refl GS.2.2 ?_
  refine Ow.ishl (pc' := 57) (z := (((px0 >>> ((8 : Int32) &&& 31)).toInt8.toInt32 &&& (255 : Int32)) <<< ((8 : Int32) &&& 31))) B e12_56 ?_
  refine Ow.ior (pc' := 58) (z := px0) (hz := (Ow.u16 (hk0) (hk1))) B e12_57 ?_
  refine Ow.i2c (pc' := 59) (z := px0) (hz := hc_px0) B e12_58 ?_
  exact Ow.retI (S' := []) (t := .char) (hnn := (Ow.cnarrow hc_px0)) B e12_59 (⟨rfl, rfl, rfl⟩)
set_option maxRecDepth 65536 in
set_option maxHeartbeats 40000000 in
theorem con_charAt_61 {l : Launch} {Z : State} {n0 : Nat} {a0 : Array Value} {cz : Int32} {sf : Value} (hw : Hw a0 Z) (G : Ow.Glo Z cz sf) (GS : GlS Z) {pa0 : Nat} {px0 : Int32} {px1 : Int32} {px2 : Int32} {pk0 : ClassId} {h0 : Heap} (O0 : Old Z n0 h0) (hf0 : Arv Z h0 pa0 pk0 .byte (6 : Int32) [(.int px0.toInt8.toInt32), (.int (px0 >>> ((8 : Int32) &&& 31)).toInt8.toInt32), (.int px1.toInt8.toInt32), (.int (px1 >>> ((8 : Int32) &&& 31)).toInt8.toInt32), (.int px2.toInt8.toInt32), (.int (px2 >>> ((8 : Int32) &&& 31)).toInt8.toInt32)] (.int 0)) (hn0 : n0 ≤ pa0) (hk0 : ¬ (px0 < (0 : Int32))) (hk1 : ¬ ((65535 : Int32) < px0)) (hc_px0 : nar .char px0 = px0) (hc_px1 : nar .char px1 = px1) (hc_px2 : nar .char px2 = px2) :
    Ow.Con l Z EL1 n0 my21 jdk_52_method_83_code 2 (Option.some Jvm.ClassFile.FieldType.char) [] ({ frames := 3, cells := 0, slots := 0, locals := 40 } : Room) #[(.ref pa0), (.int (0 : Int32))] [] h0 (fun v h S' => (v = some (.int px0) ∧ h = h0 ∧ S' = [])) := by
  refine Ow.Con.enter (Ls := #[.val (.ref pa0), .val (.int (0 : Int32))]) (plainFor_of_name pn3) O0 (hEW hw) (hSA hw) ?_
  intro p e s m below meth c B
  have z0 := Ow.old_le O0
  have lpa0 : (pa0 : Nat) < h0.size := hf0.lt
  refine Ow.iloadN (pc' := 1) B e20_0 ?_
  refine Ow.aloadN (pc' := 2) B e20_1 ?_
  refine Ow.Go.old (fun o1 => ?_)
  refine Ow.callStatic (pc' := 5) (W := 0) (k' := 0) (n' := 0) (argsL := [(.int (0 : Int32)), (.ref pa0)]) (rest := []) B e20_2 (w99 hw) (w100 hw) (w44 hw) (w101 hw) (con_checkIndex_59 hw G GS (pa0 := pa0) (px0 := px0) (px1 := px1) (px2 := px2) (pk0 := pk0) o1 hf0 (by omega) hc_px0 hc_px1 hc_px2) pd18 ?_
  intro vq2 h3 S4 q2 zh3
  obtain ⟨rfl, rfl, rfl⟩ := q2
  refine Ow.Go.norm (S' := []) (st' := []) (fun _ q => List.mem_append_right _ q) rfl ?_
  refine Ow.aloadN (pc' := 6) B e20_5 ?_
  refine Ow.iloadN (pc' := 7) B e20_6 ?_
  refine Ow.Go.old (fun o5 => ?_)
  refine Ow.callStatic (pc' := 10) (W := 0) (k' := 0) (n' := 0) (argsL := [(.ref pa0), (.int (0 : Int32))]) (rest := []) B e20_7 (w93 hw) (w94 hw) (w44 hw) (w95 hw) (con_getChar_60 hw G GS (pa0 := pa0) (px0 := px0) (px1 := px1) (px2 := px2) (pk0 := pk0) o5 hf0 (by omega) (hk0) (hk1) hc_px0 hc_px1 hc_px2) pd11 ?_
  intro vq6 h7 S8 q6 zh7
  obtain ⟨rfl, rfl, rfl⟩ := q6
  refine Ow.Go.norm (S' := []) (st' := [(.int px0)]) (fun _ q => List.mem_append_right _ q) rfl ?_
  exact Ow.retI (S' := []) (t := .char) (hnn := (Ow.cnarrow hc_px0)) B e20_10 (⟨rfl, rfl, rfl⟩)
set_option maxRecDepth 65536 in
set_option maxHeartbeats 40000000 in
theorem con_charAt_62 {l : Launch} {Z : State} {n0 : Nat} {a0 : Array Value} {cz : Int32} {sf : Value} (hw : Hw a0 Z) (G : Ow.Glo Z cz sf) (GS : GlS Z) {pa0 : Nat} {pa1 : Nat} {px0 : Int32} {px1 : Int32} {px2 : Int32} {pk0 : ClassId} {h0 : Heap} (O0 : Old Z n0 h0) (hf0 : Ow.Chs Z h0 pa0 pa1 pk0 [px0, px1, px2]) (hn0 : n0 ≤ pa0) (hn1 : n0 ≤ pa1) (hk0 : ¬ ((65535 : Int32) < px0)) (hk1 : ¬ (px0 < (0 : Int32))) (hc_px0 : nar .char px0 = px0) (hc_px1 : nar .char px1 = px1) (hc_px2 : nar .char px2 = px2) :
    Ow.Con l Z EL1 n0 my22 jdk_42_method_56_code 2 (Option.some Jvm.ClassFile.FieldType.char) [] ({ frames := 4, cells := 0, slots := 0, locals := 53 } : Room) #[(.ref pa0), (.int (0 : Int32))] [] h0 (fun v h S' => (v = some (.int px0) ∧ h = h0 ∧ S' = [])) := by
  rcases hf0.2.2.2 with ⟨oc_hf0, oa_hf0, ol_hf0⟩ | ⟨oc_hf0, oa_hf0⟩
  · refine Ow.Con.enter (Ls := #[.val (.ref pa0), .val (.int (0 : Int32))]) (plainFor_of_name pn0) O0 (hEW hw) (hSA hw) ?_
    intro p e s m below meth c B
    have z0 := Ow.old_le O0
    have oE_hf0 := hf0.1
    have oV_hf0 := hf0.2.1
    have oR_hf0 := hf0.2.2.1
    have oA_hf0 : Arv Z h0 pa1 pk0 .byte (3 : Int32) [(.int px0.toInt8.toInt32), (.int px1.toInt8.toInt32), (.int px2.toInt8.toInt32)] (.int 0) := oa_hf0
    have lpa0 : (pa0 : Nat) < h0.size := hf0.lt
    have lpa1 : (pa1 : Nat) < h0.size := oA_hf0.lt
    have lpa1 : (pa1 : Nat) < h0.size := hf0.ltt
    refine Ow.aloadN (pc' := 1) B e15_0 ?_
    refine Ow.Go.old (fun o1 => ?_)
    refine Ow.callVirtual (pc' := 4) (W := 0) (k' := 0) (n' := 0) (argsL := []) (rest := []) (K := "java/lang/String") B e15_1 (w60 hw) (w61 hw) (w63 hw) (w63 hw) (w62 hw) (w3 hw) (w64 hw) oE_hf0 (con_isLatin1_53 hw G GS (pa0 := pa0) o1 oc_hf0 (by omega)) pd14 ?_
    intro vq2 h3 S4 q2 zh3
    obtain ⟨rfl, rfl, rfl⟩ := q2
    refine Ow.Go.norm (S' := []) (st' := [(.int (1 : Int32))]) (fun _ q => List.mem_append_right _ q) rfl ?_
    refine Ow.ifF (pc' := 7) B e15_4 (by decide) ?_
    refine Ow.aloadN (pc' := 8) B e15_7 ?_
    refine Ow.getfield (pc' := 11) B e15_8 (w20 hw) Via.refl oV_hf0 ?_
    refine Ow.iloadN (pc' := 12) B e15_11 ?_
    refine Ow.Go.old (fun o5 => ?_)
    refine Ow.callStatic (pc' := 15) (W := 0) (k' := 0) (n' := 0) (argsL := [(.ref pa1), (.int (0 : Int32))]) (rest := []) B e15_12 (w65 hw) (w66 hw) (w67 hw) (w68 hw) (con_charAt_56 hw G GS (pa0 := pa1) (px0 := px0) (px1 := px1) (px2 := px2) (pk0 := pk0) o5 oA_hf0 (by omega) (hk1) (ol_hf0 px0 (by simp)) hc_px0 hc_px1 hc_px2) pd11 ?_
    intro vq6 h7 S8 q6 zh7
    obtain ⟨rfl, rfl, rfl⟩ := q6
    refine Ow.Go.norm (S' := []) (st' := [(.int px0)]) (fun _ q => List.mem_append_right _ q) rfl ?_
    exact Ow.retI (S' := []) (t := .char) (hnn := (Ow.cnarrow hc_px0)) B e15_15 (⟨rfl, rfl, rfl⟩)
  · refine Ow.Con.enter (Ls := #[.val (.ref pa0), .val (.int (0 : Int32))]) (plainFor_of_name pn0) O0 (hEW hw) (hSA hw) ?_
    intro p e s m below meth c B
    have z0 := Ow.old_le O0
    have oE_hf0 := hf0.1
    have oV_hf0 := hf0.2.1
    have oR_hf0 := hf0.2.2.1
    have oA_hf0 : Arv Z h0 pa1 pk0 .byte (6 : Int32) [(.int px0.toInt8.toInt32), (.int (px0 >>> ((8 : Int32) &&& 31)).toInt8.toInt32), (.int px1.toInt8.toInt32), (.int (px1 >>> ((8 : Int32) &&& 31)).toInt8.toInt32), (.int px2.toInt8.toInt32), (.int (px2 >>> ((8 : Int32) &&& 31)).toInt8.toInt32)] (.int 0) := oa_hf0
    have lpa0 : (pa0 : Nat) < h0.size := hf0.lt
    have lpa1 : (pa1 : Nat) < h0.size := oA_hf0.lt
    have lpa1 : (pa1 : Nat) < h0.size := hf0.ltt
    refine Ow.aloadN (pc' := 1) B e15_0 ?_
    refine Ow.Go.old (fun o1 => ?_)
    refine Ow.callVirtual (pc' := 4) (W := 0) (k' := 0) (n' := 0) (argsL := []) (rest := []) (K := "java/lang/String") B e15_1 (w60 hw) (w61 hw) (w63 hw) (w63 hw) (w62 hw) (w3 hw) (w64 hw) oE_hf0 (con_isLatin1_57 hw G GS (pa0 := pa0) o1 oc_hf0 (by omega)) pd14 ?_
    intro vq2 h3 S4 q2 zh3
    obtain ⟨rfl, rfl, rfl⟩ := q2
    refine Ow.Go.norm (S' := []) (st' := [(.int (0 : Int32))]) (fun _ q => List.mem_append_right _ q) rfl ?_
    refine Ow.ifT (pc' := 16) B e15_4 (by decide) ?_
    refine Ow.aloadN (pc' := 17) B e15_16 ?_
    refine Ow.getfield (pc' := 20) B e15_17 (w20 hw) Via.refl oV_hf0 ?_
    refine Ow.iloadN (pc' := 21) B e15_20 ?_
    refine Ow.Go.old (fun o5 => ?_)
    refine Ow.callStatic (pc' := 24) (W := 0) (k' := 0) (n' := 0) (argsL := [(.ref pa1), (.int (0 : Int32))]) (rest := []) B e15_21 (w96 hw) (w97 hw) (w44 hw) (w98 hw) (con_charAt_61 hw G GS (pa0 := pa1) (px0 := px0) (px1 := px1) (px2 := px2) (pk0 := pk0) o5 oA_hf0 (by omega) (hk1) (hk0) hc_px0 hc_px1 hc_px2) pd11 ?_
    intro vq6 h7 S8 q6 zh7
    obtain ⟨rfl, rfl, rfl⟩ := q6
    refine Ow.Go.norm (S' := []) (st' := [(.int px0)]) (fun _ q => List.mem_append_right _ q) rfl ?_
    exact Ow.retI (S' := []) (t := .char) (hnn := (Ow.cnarrow hc_px0)) B e15_24 (⟨rfl, rfl, rfl⟩)
set_option maxRecDepth 65536 in
set_option maxHeartbeats 40000000 in
theorem con_isTag_63 {l : Launch} {Z : State} {n0 : Nat} {a0 : Array Value} {cz : Int32} {sf : Value} (hw : Hw a0 Z) (G : Ow.Glo Z cz sf) (GS : GlS Z) {pa0 : Nat} {pa1 : Nat} {px0 : Int32} {px1 : Int32} {px2 : Int32} {pk0 : ClassId} {h0 : Heap} (O0 : Old Z n0 h0) (hf0 : Ow.Chs Z h0 pa0 pa1 pk0 [px0, px1, px2]) (hn0 : n0 ≤ pa0) (hn1 : n0 ≤ pa1) (hk0 : ¬ ((65535 : Int32) < px0)) (hk1 : ¬ (px0 < (0 : Int32))) (hk2 : ¬ (okP px0)) (hc_px0 : nar .char px0 = px0) (hc_px1 : nar .char px1 = px1) (hc_px2 : nar .char px2 = px2) :
    Ow.Con l Z EL1 n0 my4 prog_8_method_2_code 3 (Option.some Jvm.ClassFile.FieldType.boolean) [] ({ frames := 5, cells := 0, slots := 0, locals := 66 } : Room) #[(.ref pa0)] [] h0 (fun v h S' => (v = some (.int (0 : Int32)) ∧ h = h0 ∧ S' = [])) := by
  refine Ow.Con.enter (Ls := #[.val (.ref pa0), .unset, .unset]) (plainFor_of_name pn1) O0 (hEW hw) (hSA hw) ?_
  intro p e s m below meth c B
  have z0 := Ow.old_le O0
  have lpa0 : (pa0 : Nat) < h0.size := hf0.lt
  have lpa1 : (pa1 : Nat) < h0.size := hf0.ltt
  refine Ow.aloadN (pc' := 1) B e0_0 ?_
  refine Ow.Go.old (fun o1 => ?_)
  refine Ow.callVirtual (pc' := 4) (W := 0) (k' := 0) (n' := 0) (argsL := []) (rest := []) (K := "java/lang/String") B e0_1 (w26 hw) (w27 hw) (w29 hw) (w29 hw) (w28 hw) (w3 hw) (w30 hw) (hf0).1 (con_length_52 hw G GS (pa0 := pa0) (pa1 := pa1) (px0 := px0) (px1 := px1) (px2 := px2) (pk0 := pk0) o1 hf0 (by omega) (by omega) hc_px0 hc_px1 hc_px2) pd3 ?_
  intro vq2 h3 S4 q2 zh3
  obtain ⟨rfl, rfl, rfl⟩ := q2
  refine Ow.Go.norm (S' := []) (st' := [(.int (3 : Int32))]) (fun _ q => List.mem_append_right _ q) rfl ?_
  refine Ow.iconst (pc' := 5) (x := (3 : Int32)) B e0_4 ?_
  refine Ow.icmpT (pc' := 10) B e0_5 (by decide) ?_
  refine Ow.iconst (pc' := 11) (x := (0 : Int32)) B e0_10 ?_
  refine Ow.istoreN (pc' := 12) (Ls' := #[.val (.ref pa0), .val (.int (0 : Int32)), .unset]) B e0_11 ?_
  refine Ow.iloadN (pc' := 13) B e0_12 ?_
  refine Ow.aloadN (pc' := 14) B e0_13 ?_
  refine Ow.Go.old (fun o5 => ?_)
  refine Ow.callVirtual (pc' := 17) (W := 1) (k' := 0) (n' := 0) (argsL := []) (rest := [(.int (0 : Int32))]) (K := "java/lang/String") B e0_14 (w26 hw) (w27 hw) (w29 hw) (w29 hw) (w28 hw) (w3 hw) (w30 hw) (hf0).1 (con_length_52 hw G GS (pa0 := pa0) (pa1 := pa1) (px0 := px0) (px1 := px1) (px2 := px2) (pk0 := pk0) o5 hf0 (by omega) (by omega) hc_px0 hc_px1 hc_px2) pd3 ?_
  intro vq6 h7 S8 q6 zh7
  obtain ⟨rfl, rfl, rfl⟩ := q6
  refine Ow.Go.norm (S' := []) (st' := [(.int (3 : Int32)), (.int (0 : Int32))]) (fun _ q => List.mem_append_right _ q) rfl ?_
  refine Ow.icmpF (pc' := 20) B e0_17 (by decide) ?_
  refine Ow.aloadN (pc' := 21) B e0_20 ?_
  refine Ow.iloadN (pc' := 22) B e0_21 ?_
  refine Ow.Go.old (fun o9 => ?_)
  refine Ow.callVirtual (pc' := 25) (W := 0) (k' := 0) (n' := 0) (argsL := [(.int (0 : Int32))]) (rest := []) (K := "java/lang/String") B e0_22 (w55 hw) (w56 hw) (w58 hw) (w58 hw) (w57 hw) (w3 hw) (w59 hw) (hf0).1 (con_charAt_62 hw G GS (pa0 := pa0) (pa1 := pa1) (px0 := px0) (px1 := px1) (px2 := px2) (pk0 := pk0) o9 hf0 (by omega) (by omega) (hk0) (hk1) hc_px0 hc_px1 hc_px2) pd5 ?_
  intro vq10 h11 S12 q10 zh11
  obtain ⟨rfl, rfl, rfl⟩ := q10
  refine Ow.Go.norm (S' := []) (st' := [(.int px0)]) (fun _ q => List.mem_append_right _ q) rfl ?_
  refine Ow.istoreN (pc' := 26) (Ls' := #[.val (.ref pa0), .val (.int (0 : Int32)), .val (.int px0)]) B e0_25 ?_
  refine blk_f hw B ⟨hk1, hk0⟩ (hk2) ?_
  refine Ow.iconst (pc' := 63) (x := (0 : Int32)) B e0_62 ?_
  exact Ow.retI (S' := []) (t := .boolean) B e0_63 (⟨rfl, rfl, rfl⟩)
set_option maxRecDepth 65536 in
set_option maxHeartbeats 40000000 in
theorem con_charAt_64 {l : Launch} {Z : State} {n0 : Nat} {a0 : Array Value} {cz : Int32} {sf : Value} (hw : Hw a0 Z) (G : Ow.Glo Z cz sf) (GS : GlS Z) {pa0 : Nat} {px0 : Int32} {px1 : Int32} {px2 : Int32} {pk0 : ClassId} {h0 : Heap} (O0 : Old Z n0 h0) (hf0 : Arv Z h0 pa0 pk0 .byte (3 : Int32) [(.int px0.toInt8.toInt32), (.int px1.toInt8.toInt32), (.int px2.toInt8.toInt32)] (.int 0)) (hn0 : n0 ≤ pa0) (hk0 : ¬ (px1 < (0 : Int32))) (hk1 : ¬ ((255 : Int32) < px1)) (hc_px0 : nar .char px0 = px0) (hc_px1 : nar .char px1 = px1) (hc_px2 : nar .char px2 = px2) :
    Ow.Con l Z EL1 n0 my18 jdk_43_method_2_code 2 (Option.some Jvm.ClassFile.FieldType.char) [] ({ frames := 2, cells := 0, slots := 0, locals := 27 } : Room) #[(.ref pa0), (.int (1 : Int32))] [] h0 (fun v h S' => (v = some (.int px1) ∧ h = h0 ∧ S' = [])) := by
  refine Ow.Con.enter (Ls := #[.val (.ref pa0), .val (.int (1 : Int32))]) (plainFor_of_name pn4) O0 (hEW hw) (hSA hw) ?_
  intro p e s m below meth c B
  have z0 := Ow.old_le O0
  have lpa0 : (pa0 : Nat) < h0.size := hf0.lt
  refine Ow.iloadN (pc' := 1) B e17_0 ?_
  refine Ow.aloadN (pc' := 2) B e17_1 ?_
  refine Ow.arrlen (pc' := 3) B e17_2 hf0 ?_
  refine Ow.Go.old (fun o1 => ?_)
  refine Ow.callStatic (pc' := 6) (W := 0) (k' := 0) (n' := 0) (argsL := [(.int (1 : Int32)), (.int (3 : Int32))]) (rest := []) B e17_3 (w69 hw) (w70 hw) (w3 hw) (w71 hw) (con_checkIndex_55 hw G GS (px0 := (1 : Int32)) (px1 := (3 : Int32)) o1 (by decide) (by decide)) pd16 ?_
  intro vq2 h3 S4 q2 zh3
  obtain ⟨rfl, rfl, rfl⟩ := q2
  refine Ow.Go.norm (S' := []) (st' := []) (fun _ q => List.mem_append_right _ q) rfl ?_
  refine Ow.aloadN (pc' := 7) B e17_6 ?_
  refine Ow.iloadN (pc' := 8) B e17_7 ?_
  refine Ow.baload (pc' := 9) B e17_8 hf0 ⟨by decide, by decide⟩ rfl ?_
  refine Ow.sipush (pc' := 12) (x := (255 : Int32)) B e17_9 ?_
  refine Ow.iand (pc' := 13) (z := px1) (hz := (Ow.b255 (hk0) (hk1))) B e17_12 ?_
  refine Ow.i2c (pc' := 14) (z := px1) (hz := (Ow.c_id (hk0) (hk1))) B e17_13 ?_
  exact Ow.retI (S' := []) (t := .char) (hnn := (Ow.cnarrow (Ow.nar_id (hk0) (hk1)))) B e17_14 (⟨rfl, rfl, rfl⟩)
set_option maxRecDepth 65536 in
set_option maxHeartbeats 40000000 in
theorem con_checkIndex_65 {l : Launch} {Z : State} {n0 : Nat} {a0 : Array Value} {cz : Int32} {sf : Value} (hw : Hw a0 Z) (G : Ow.Glo Z cz sf) (GS : GlS Z) {pa0 : Nat} {px0 : Int32} {px1 : Int32} {px2 : Int32} {pk0 : ClassId} {h0 : Heap} (O0 : Old Z n0 h0) (hf0 : Arv Z h0 pa0 pk0 .byte (6 : Int32) [(.int px0.toInt8.toInt32), (.int (px0 >>> ((8 : Int32) &&& 31)).toInt8.toInt32), (.int px1.toInt8.toInt32), (.int (px1 >>> ((8 : Int32) &&& 31)).toInt8.toInt32), (.int px2.toInt8.toInt32), (.int (px2 >>> ((8 : Int32) &&& 31)).toInt8.toInt32)] (.int 0)) (hn0 : n0 ≤ pa0) (hc_px0 : nar .char px0 = px0) (hc_px1 : nar .char px1 = px1) (hc_px2 : nar .char px2 = px2) :
    Ow.Con l Z EL1 n0 my20 jdk_52_method_91_code 2 (Option.none : Option Jvm.ClassFile.FieldType) [] ({ frames := 2, cells := 0, slots := 0, locals := 27 } : Room) #[(.int (1 : Int32)), (.ref pa0)] [] h0 (fun v h S' => (v = none ∧ h = h0 ∧ S' = [])) := by
  refine Ow.Con.enter (Ls := #[.val (.int (1 : Int32)), .val (.ref pa0)]) (plainFor_of_name pn3) O0 (hEW hw) (hSA hw) ?_
  intro p e s m below meth c B
  have z0 := Ow.old_le O0
  have lpa0 : (pa0 : Nat) < h0.size := hf0.lt
  refine Ow.iloadN (pc' := 1) B e21_0 ?_
  refine Ow.aloadN (pc' := 2) B e21_1 ?_
  refine Ow.Go.old (fun o1 => ?_)
  refine Ow.callStatic (pc' := 5) (W := 1) (k' := 0) (n' := 0) (argsL := [(.ref pa0)]) (rest := [(.int (1 : Int32))]) B e21_2 (w102 hw) (w103 hw) (w44 hw) (w104 hw) (con_length_58 hw G GS (pa0 := pa0) (px0 := px0) (px1 := px1) (px2 := px2) (pk0 := pk0) o1 hf0 (by omega) hc_px0 hc_px1 hc_px2) pd17 ?_
  intro vq2 h3 S4 q2 zh3
  obtain ⟨rfl, rfl, rfl⟩ := q2
  refine Ow.Go.norm (S' := []) (st' := [(.int (3 : Int32)), (.int (1 : Int32))]) (fun _ q => List.mem_append_right _ q) rfl ?_
  refine Ow.Go.old (fun o5 => ?_)
  refine Ow.callStatic (pc' := 8) (W := 0) (k' := 0) (n' := 0) (argsL := [(.int (1 : Int32)), (.int (3 : Int32))]) (rest := []) B e21_5 (w105 hw) (w70 hw) (w3 hw) (w71 hw) (con_checkIndex_55 hw G GS (px0 := (1 : Int32)) (px1 := (3 : Int32)) o5 (by decide) (by decide)) pd16 ?_
  intro vq6 h7 S8 q6 zh7
  obtain ⟨rfl, rfl, rfl⟩ := q6
  refine Ow.Go.norm (S' := []) (st' := []) (fun _ q => List.mem_append_right _ q) rfl ?_
  exact Ow.retV (S' := []) B e21_8 (⟨rfl, rfl, rfl⟩)
set_option maxRecDepth 65536 in
set_option maxHeartbeats 40000000 in
theorem con_getChar_66 {l : Launch} {Z : State} {n0 : Nat} {a0 : Array Value} {cz : Int32} {sf : Value} (hw : Hw a0 Z) (G : Ow.Glo Z cz sf) (GS : GlS Z) {pa0 : Nat} {px0 : Int32} {px1 : Int32} {px2 : Int32} {pk0 : ClassId} {h0 : Heap} (O0 : Old Z n0 h0) (hf0 : Arv Z h0 pa0 pk0 .byte (6 : Int32) [(.int px0.toInt8.toInt32), (.int (px0 >>> ((8 : Int32) &&& 31)).toInt8.toInt32), (.int px1.toInt8.toInt32), (.int (px1 >>> ((8 : Int32) &&& 31)).toInt8.toInt32), (.int px2.toInt8.toInt32), (.int (px2 >>> ((8 : Int32) &&& 31)).toInt8.toInt32)] (.int 0)) (hn0 : n0 ≤ pa0) (hk0 : ¬ (px1 < (0 : Int32))) (hk1 : ¬ ((65535 : Int32) < px1)) (hc_px0 : nar .char px0 = px0) (hc_px1 : nar .char px1 = px1) (hc_px2 : nar .char px2 = px2) :
    Ow.Con l Z EL1 n0 my11 jdk_52_method_5_code 2 (Option.some Jvm.ClassFile.FieldType.char) [] ({ frames := 0, cells := 0, slots := 0, locals := 0 } : Room) #[(.ref pa0), (.int (1 : Int32))] [] h0 (fun v h S' => (v = some (.int px1) ∧ h = h0 ∧ S' = [])) := by
  refine Ow.Con.enter (Ls := #[.val (.ref pa0), .val (.int (1 : Int32))]) (plainFor_of_name pn3) O0 (hEW hw) (hSA hw) ?_
  intro p e s m below meth c B
  have z0 := Ow.old_le O0
  have lpa0 : (pa0 : Nat) < h0.size := hf0.lt
  refine Ow.getstatic (pc' := 3) B e12_0 (w90 hw) Via.refl GS.1 ?_
  refine Ow.ifT (pc' := 28) B e12_3 (by decide) ?_
  refine Ow.iloadN (pc' := 29) B e12_28 ?_
  refine Ow.iconst (pc' := 30) (x := (1 : Int32)) B e12_29 ?_
  refine Ow.ishl (pc' := 31) (z := (2 : Int32)) B e12_30 ?_
  refine Ow.istoreN (pc' := 32) (Ls' := #[.val (.ref pa0), .val (.int (2 : Int32))]) B e12_31 ?_
  refine Ow.aloadN (pc' := 33) B e12_32 ?_
  refine Ow.iloadN (pc' := 34) B e12_33 ?_
  refine Ow.iinc (pc' := 37) (y := (3 : Int32)) (Ls' := #[.val (.ref pa0), .val (.int (3 : Int32))]) B e12_34 ?_
  refine Ow.baload (pc' := 38) B e12_37 hf0 ⟨by decide, by decide⟩ rfl ?_
  refine Ow.sipush (pc' := 41) (x := (255 : Int32)) B e12_38 ?_
  refine Ow.iand (pc' := 42) (z := (px1.toInt8.toInt32 &&& (255 : Int32))) B e12_41 ?_
  refine Ow.getstatic (pc' := 45) B e12_42 (w91 hw) Via.refl GS.2.1 ?_
  refine Ow.ishl (pc' := 46) (z := ((px1.toInt8.toInt32 &&& (255 : Int32)) <<< ((0 : Int32) &&& 31))) B e12_45 ?_
  refine Ow.aloadN (pc' := 47) B e12_46 ?_
  refine Ow.iloadN (pc' := 48) B e12_47 ?_
  refine Ow.baload (pc' := 49) B e12_48 hf0 ⟨by decide, by decide⟩ rfl ?_
  refine Ow.sipush (pc' := 52) (x := (255 : Int32)) B e12_49 ?_
  refine Ow.iand (pc' := 53) (z := ((px1 >>> ((8 : Int32) &&& 31)).toInt8.toInt32 &&& (255 : Int32))) B e12_52 ?_
  refine Ow.getstatic (pc' := 56) B e12_53 (w92 hw) Via.refl GS.2.2 ?_
  refine Ow.ishl (pc' := 57) (z := (((px1 >>> ((8 : Int32) &&& 31)).toInt8.toInt32 &&& (255 : Int32)) <<< ((8 : Int32) &&& 31))) B e12_56 ?_
  refine Ow.ior (pc' := 58) (z := px1) (hz := (Ow.u16 (hk0) (hk1))) B e12_57 ?_
  refine Ow.i2c (pc' := 59) (z := px1) (hz := hc_px1) B e12_58 ?_
  exact Ow.retI (S' := []) (t := .char) (hnn := (Ow.cnarrow hc_px1)) B e12_59 (⟨rfl, rfl, rfl⟩)
set_option maxRecDepth 65536 in
set_option maxHeartbeats 40000000 in
theorem con_charAt_67 {l : Launch} {Z : State} {n0 : Nat} {a0 : Array Value} {cz : Int32} {sf : Value} (hw : Hw a0 Z) (G : Ow.Glo Z cz sf) (GS : GlS Z) {pa0 : Nat} {px0 : Int32} {px1 : Int32} {px2 : Int32} {pk0 : ClassId} {h0 : Heap} (O0 : Old Z n0 h0) (hf0 : Arv Z h0 pa0 pk0 .byte (6 : Int32) [(.int px0.toInt8.toInt32), (.int (px0 >>> ((8 : Int32) &&& 31)).toInt8.toInt32), (.int px1.toInt8.toInt32), (.int (px1 >>> ((8 : Int32) &&& 31)).toInt8.toInt32), (.int px2.toInt8.toInt32), (.int (px2 >>> ((8 : Int32) &&& 31)).toInt8.toInt32)] (.int 0)) (hn0 : n0 ≤ pa0) (hk0 : ¬ (px1 < (0 : Int32))) (hk1 : ¬ ((65535 : Int32) < px1)) (hc_px0 : nar .char px0 = px0) (hc_px1 : nar .char px1 = px1) (hc_px2 : nar .char px2 = px2) :
    Ow.Con l Z EL1 n0 my21 jdk_52_method_83_code 2 (Option.some Jvm.ClassFile.FieldType.char) [] ({ frames := 3, cells := 0, slots := 0, locals := 40 } : Room) #[(.ref pa0), (.int (1 : Int32))] [] h0 (fun v h S' => (v = some (.int px1) ∧ h = h0 ∧ S' = [])) := by
  refine Ow.Con.enter (Ls := #[.val (.ref pa0), .val (.int (1 : Int32))]) (plainFor_of_name pn3) O0 (hEW hw) (hSA hw) ?_
  intro p e s m below meth c B
  have z0 := Ow.old_le O0
  have lpa0 : (pa0 : Nat) < h0.size := hf0.lt
  refine Ow.iloadN (pc' := 1) B e20_0 ?_
  refine Ow.aloadN (pc' := 2) B e20_1 ?_
  refine Ow.Go.old (fun o1 => ?_)
  refine Ow.callStatic (pc' := 5) (W := 0) (k' := 0) (n' := 0) (argsL := [(.int (1 : Int32)), (.ref pa0)]) (rest := []) B e20_2 (w99 hw) (w100 hw) (w44 hw) (w101 hw) (con_checkIndex_65 hw G GS (pa0 := pa0) (px0 := px0) (px1 := px1) (px2 := px2) (pk0 := pk0) o1 hf0 (by omega) hc_px0 hc_px1 hc_px2) pd18 ?_
  intro vq2 h3 S4 q2 zh3
  obtain ⟨rfl, rfl, rfl⟩ := q2
  refine Ow.Go.norm (S' := []) (st' := []) (fun _ q => List.mem_append_right _ q) rfl ?_
  refine Ow.aloadN (pc' := 6) B e20_5 ?_
  refine Ow.iloadN (pc' := 7) B e20_6 ?_
  refine Ow.Go.old (fun o5 => ?_)
  refine Ow.callStatic (pc' := 10) (W := 0) (k' := 0) (n' := 0) (argsL := [(.ref pa0), (.int (1 : Int32))]) (rest := []) B e20_7 (w93 hw) (w94 hw) (w44 hw) (w95 hw) (con_getChar_66 hw G GS (pa0 := pa0) (px0 := px0) (px1 := px1) (px2 := px2) (pk0 := pk0) o5 hf0 (by omega) (hk0) (hk1) hc_px0 hc_px1 hc_px2) pd11 ?_
  intro vq6 h7 S8 q6 zh7
  obtain ⟨rfl, rfl, rfl⟩ := q6
  refine Ow.Go.norm (S' := []) (st' := [(.int px1)]) (fun _ q => List.mem_append_right _ q) rfl ?_
  exact Ow.retI (S' := []) (t := .char) (hnn := (Ow.cnarrow hc_px1)) B e20_10 (⟨rfl, rfl, rfl⟩)
set_option maxRecDepth 65536 in
set_option maxHeartbeats 40000000 in
theorem con_charAt_68 {l : Launch} {Z : State} {n0 : Nat} {a0 : Array Value} {cz : Int32} {sf : Value} (hw : Hw a0 Z) (G : Ow.Glo Z cz sf) (GS : GlS Z) {pa0 : Nat} {pa1 : Nat} {px0 : Int32} {px1 : Int32} {px2 : Int32} {pk0 : ClassId} {h0 : Heap} (O0 : Old Z n0 h0) (hf0 : Ow.Chs Z h0 pa0 pa1 pk0 [px0, px1, px2]) (hn0 : n0 ≤ pa0) (hn1 : n0 ≤ pa1) (hk0 : ¬ ((65535 : Int32) < px1)) (hk1 : ¬ (px1 < (0 : Int32))) (hc_px0 : nar .char px0 = px0) (hc_px1 : nar .char px1 = px1) (hc_px2 : nar .char px2 = px2) :
    Ow.Con l Z EL1 n0 my22 jdk_42_method_56_code 2 (Option.some Jvm.ClassFile.FieldType.char) [] ({ frames := 4, cells := 0, slots := 0, locals := 53 } : Room) #[(.ref pa0), (.int (1 : Int32))] [] h0 (fun v h S' => (v = some (.int px1) ∧ h = h0 ∧ S' = [])) := by
  rcases hf0.2.2.2 with ⟨oc_hf0, oa_hf0, ol_hf0⟩ | ⟨oc_hf0, oa_hf0⟩
  · refine Ow.Con.enter (Ls := #[.val (.ref pa0), .val (.int (1 : Int32))]) (plainFor_of_name pn0) O0 (hEW hw) (hSA hw) ?_
    intro p e s m below meth c B
    have z0 := Ow.old_le O0
    have oE_hf0 := hf0.1
    have oV_hf0 := hf0.2.1
    have oR_hf0 := hf0.2.2.1
    have oA_hf0 : Arv Z h0 pa1 pk0 .byte (3 : Int32) [(.int px0.toInt8.toInt32), (.int px1.toInt8.toInt32), (.int px2.toInt8.toInt32)] (.int 0) := oa_hf0
    have lpa0 : (pa0 : Nat) < h0.size := hf0.lt
    have lpa1 : (pa1 : Nat) < h0.size := oA_hf0.lt
    have lpa1 : (pa1 : Nat) < h0.size := hf0.ltt
    refine Ow.aloadN (pc' := 1) B e15_0 ?_
    refine Ow.Go.old (fun o1 => ?_)
    refine Ow.callVirtual (pc' := 4) (W := 0) (k' := 0) (n' := 0) (argsL := []) (rest := []) (K := "java/lang/String") B e15_1 (w60 hw) (w61 hw) (w63 hw) (w63 hw) (w62 hw) (w3 hw) (w64 hw) oE_hf0 (con_isLatin1_53 hw G GS (pa0 := pa0) o1 oc_hf0 (by omega)) pd14 ?_
    intro vq2 h3 S4 q2 zh3
    obtain ⟨rfl, rfl, rfl⟩ := q2
    refine Ow.Go.norm (S' := []) (st' := [(.int (1 : Int32))]) (fun _ q => List.mem_append_right _ q) rfl ?_
    refine Ow.ifF (pc' := 7) B e15_4 (by decide) ?_
    refine Ow.aloadN (pc' := 8) B e15_7 ?_
    refine Ow.getfield (pc' := 11) B e15_8 (w20 hw) Via.refl oV_hf0 ?_
    refine Ow.iloadN (pc' := 12) B e15_11 ?_
    refine Ow.Go.old (fun o5 => ?_)
    refine Ow.callStatic (pc' := 15) (W := 0) (k' := 0) (n' := 0) (argsL := [(.ref pa1), (.int (1 : Int32))]) (rest := []) B e15_12 (w65 hw) (w66 hw) (w67 hw) (w68 hw) (con_charAt_64 hw G GS (pa0 := pa1) (px0 := px0) (px1 := px1) (px2 := px2) (pk0 := pk0) o5 oA_hf0 (by omega) (hk1) (ol_hf0 px1 (by simp)) hc_px0 hc_px1 hc_px2) pd11 ?_
    intro vq6 h7 S8 q6 zh7
    obtain ⟨rfl, rfl, rfl⟩ := q6
    refine Ow.Go.norm (S' := []) (st' := [(.int px1)]) (fun _ q => List.mem_append_right _ q) rfl ?_
    exact Ow.retI (S' := []) (t := .char) (hnn := (Ow.cnarrow hc_px1)) B e15_15 (⟨rfl, rfl, rfl⟩)
  · refine Ow.Con.enter (Ls := #[.val (.ref pa0), .val (.int (1 : Int32))]) (plainFor_of_name pn0) O0 (hEW hw) (hSA hw) ?_
    intro p e s m below meth c B
    have z0 := Ow.old_le O0
    have oE_hf0 := hf0.1
    have oV_hf0 := hf0.2.1
    have oR_hf0 := hf0.2.2.1
    have oA_hf0 : Arv Z h0 pa1 pk0 .byte (6 : Int32) [(.int px0.toInt8.toInt32), (.int (px0 >>> ((8 : Int32) &&& 31)).toInt8.toInt32), (.int px1.toInt8.toInt32), (.int (px1 >>> ((8 : Int32) &&& 31)).toInt8.toInt32), (.int px2.toInt8.toInt32), (.int (px2 >>> ((8 : Int32) &&& 31)).toInt8.toInt32)] (.int 0) := oa_hf0
    have lpa0 : (pa0 : Nat) < h0.size := hf0.lt
    have lpa1 : (pa1 : Nat) < h0.size := oA_hf0.lt
    have lpa1 : (pa1 : Nat) < h0.size := hf0.ltt
    refine Ow.aloadN (pc' := 1) B e15_0 ?_
    refine Ow.Go.old (fun o1 => ?_)
    refine Ow.callVirtual (pc' := 4) (W := 0) (k' := 0) (n' := 0) (argsL := []) (rest := []) (K := "java/lang/String") B e15_1 (w60 hw) (w61 hw) (w63 hw) (w63 hw) (w62 hw) (w3 hw) (w64 hw) oE_hf0 (con_isLatin1_57 hw G GS (pa0 := pa0) o1 oc_hf0 (by omega)) pd14 ?_
    intro vq2 h3 S4 q2 zh3
    obtain ⟨rfl, rfl, rfl⟩ := q2
    refine Ow.Go.norm (S' := []) (st' := [(.int (0 : Int32))]) (fun _ q => List.mem_append_right _ q) rfl ?_
    refine Ow.ifT (pc' := 16) B e15_4 (by decide) ?_
    refine Ow.aloadN (pc' := 17) B e15_16 ?_
    refine Ow.getfield (pc' := 20) B e15_17 (w20 hw) Via.refl oV_hf0 ?_
    refine Ow.iloadN (pc' := 21) B e15_20 ?_
    refine Ow.Go.old (fun o5 => ?_)
    refine Ow.callStatic (pc' := 24) (W := 0) (k' := 0) (n' := 0) (argsL := [(.ref pa1), (.int (1 : Int32))]) (rest := []) B e15_21 (w96 hw) (w97 hw) (w44 hw) (w98 hw) (con_charAt_67 hw G GS (pa0 := pa1) (px0 := px0) (px1 := px1) (px2 := px2) (pk0 := pk0) o5 oA_hf0 (by omega) (hk1) (hk0) hc_px0 hc_px1 hc_px2) pd11 ?_
    intro vq6 h7 S8 q6 zh7
    obtain ⟨rfl, rfl, rfl⟩ := q6
    refine Ow.Go.norm (S' := []) (st' := [(.int px1)]) (fun _ q => List.mem_append_right _ q) rfl ?_
    exact Ow.retI (S' := []) (t := .char) (hnn := (Ow.cnarrow hc_px1)) B e15_24 (⟨rfl, rfl, rfl⟩)
set_option maxRecDepth 65536 in
set_option maxHeartbeats 40000000 in
theorem con_isTag_69 {l : Launch} {Z : State} {n0 : Nat} {a0 : Array Value} {cz : Int32} {sf : Value} (hw : Hw a0 Z) (G : Ow.Glo Z cz sf) (GS : GlS Z) {pa0 : Nat} {pa1 : Nat} {px0 : Int32} {px1 : Int32} {px2 : Int32} {pk0 : ClassId} {h0 : Heap} (O0 : Old Z n0 h0) (hf0 : Ow.Chs Z h0 pa0 pa1 pk0 [px0, px1, px2]) (hn0 : n0 ≤ pa0) (hn1 : n0 ≤ pa1) (hk0 : ¬ ((65535 : Int32) < px0)) (hk1 : ¬ (px0 < (0 : Int32))) (hk2 : ¬ ((65535 : Int32) < px1)) (hk3 : ¬ (px1 < (0 : Int32))) (hk4 : okP px0) (hk5 : ¬ (okP px1)) (hc_px0 : nar .char px0 = px0) (hc_px1 : nar .char px1 = px1) (hc_px2 : nar .char px2 = px2) :
    Ow.Con l Z EL1 n0 my4 prog_8_method_2_code 3 (Option.some Jvm.ClassFile.FieldType.boolean) [] ({ frames := 5, cells := 0, slots := 0, locals := 66 } : Room) #[(.ref pa0)] [] h0 (fun v h S' => (v = some (.int (0 : Int32)) ∧ h = h0 ∧ S' = [])) := by
  refine Ow.Con.enter (Ls := #[.val (.ref pa0), .unset, .unset]) (plainFor_of_name pn1) O0 (hEW hw) (hSA hw) ?_
  intro p e s m below meth c B
  have z0 := Ow.old_le O0
  have lpa0 : (pa0 : Nat) < h0.size := hf0.lt
  have lpa1 : (pa1 : Nat) < h0.size := hf0.ltt
  refine Ow.aloadN (pc' := 1) B e0_0 ?_
  refine Ow.Go.old (fun o1 => ?_)
  refine Ow.callVirtual (pc' := 4) (W := 0) (k' := 0) (n' := 0) (argsL := []) (rest := []) (K := "java/lang/String") B e0_1 (w26 hw) (w27 hw) (w29 hw) (w29 hw) (w28 hw) (w3 hw) (w30 hw) (hf0).1 (con_length_52 hw G GS (pa0 := pa0) (pa1 := pa1) (px0 := px0) (px1 := px1) (px2 := px2) (pk0 := pk0) o1 hf0 (by omega) (by omega) hc_px0 hc_px1 hc_px2) pd3 ?_
  intro vq2 h3 S4 q2 zh3
  obtain ⟨rfl, rfl, rfl⟩ := q2
  refine Ow.Go.norm (S' := []) (st' := [(.int (3 : Int32))]) (fun _ q => List.mem_append_right _ q) rfl ?_
  refine Ow.iconst (pc' := 5) (x := (3 : Int32)) B e0_4 ?_
  refine Ow.icmpT (pc' := 10) B e0_5 (by decide) ?_
  refine Ow.iconst (pc' := 11) (x := (0 : Int32)) B e0_10 ?_
  refine Ow.istoreN (pc' := 12) (Ls' := #[.val (.ref pa0), .val (.int (0 : Int32)), .unset]) B e0_11 ?_
  refine Ow.iloadN (pc' := 13) B e0_12 ?_
  refine Ow.aloadN (pc' := 14) B e0_13 ?_
  refine Ow.Go.old (fun o5 => ?_)
  refine Ow.callVirtual (pc' := 17) (W := 1) (k' := 0) (n' := 0) (argsL := []) (rest := [(.int (0 : Int32))]) (K := "java/lang/String") B e0_14 (w26 hw) (w27 hw) (w29 hw) (w29 hw) (w28 hw) (w3 hw) (w30 hw) (hf0).1 (con_length_52 hw G GS (pa0 := pa0) (pa1 := pa1) (px0 := px0) (px1 := px1) (px2 := px2) (pk0 := pk0) o5 hf0 (by omega) (by omega) hc_px0 hc_px1 hc_px2) pd3 ?_
  intro vq6 h7 S8 q6 zh7
  obtain ⟨rfl, rfl, rfl⟩ := q6
  refine Ow.Go.norm (S' := []) (st' := [(.int (3 : Int32)), (.int (0 : Int32))]) (fun _ q => List.mem_append_right _ q) rfl ?_
  refine Ow.icmpF (pc' := 20) B e0_17 (by decide) ?_
  refine Ow.aloadN (pc' := 21) B e0_20 ?_
  refine Ow.iloadN (pc' := 22) B e0_21 ?_
  refine Ow.Go.old (fun o9 => ?_)
  refine Ow.callVirtual (pc' := 25) (W := 0) (k' := 0) (n' := 0) (argsL := [(.int (0 : Int32))]) (rest := []) (K := "java/lang/String") B e0_22 (w55 hw) (w56 hw) (w58 hw) (w58 hw) (w57 hw) (w3 hw) (w59 hw) (hf0).1 (con_charAt_62 hw G GS (pa0 := pa0) (pa1 := pa1) (px0 := px0) (px1 := px1) (px2 := px2) (pk0 := pk0) o9 hf0 (by omega) (by omega) (hk0) (hk1) hc_px0 hc_px1 hc_px2) pd5 ?_
  intro vq10 h11 S12 q10 zh11
  obtain ⟨rfl, rfl, rfl⟩ := q10
  refine Ow.Go.norm (S' := []) (st' := [(.int px0)]) (fun _ q => List.mem_append_right _ q) rfl ?_
  refine Ow.istoreN (pc' := 26) (Ls' := #[.val (.ref pa0), .val (.int (0 : Int32)), .val (.int px0)]) B e0_25 ?_
  refine blk_t hw B ⟨hk1, hk0⟩ (hk4) ?_
  refine Ow.iinc (pc' := 67) (y := (1 : Int32)) (Ls' := #[.val (.ref pa0), .val (.int (1 : Int32)), .val (.int px0)]) B e0_64 ?_
  refine Ow.goto (pc' := 12) B e0_67 ?_
  refine Ow.iloadN (pc' := 13) B e0_12 ?_
  refine Ow.aloadN (pc' := 14) B e0_13 ?_
  refine Ow.Go.old (fun o13 => ?_)
  refine Ow.callVirtual (pc' := 17) (W := 1) (k' := 0) (n' := 0) (argsL := []) (rest := [(.int (1 : Int32))]) (K := "java/lang/String") B e0_14 (w26 hw) (w27 hw) (w29 hw) (w29 hw) (w28 hw) (w3 hw) (w30 hw) (hf0).1 (con_length_52 hw G GS (pa0 := pa0) (pa1 := pa1) (px0 := px0) (px1 := px1) (px2 := px2) (pk0 := pk0) o13 hf0 (by omega) (by omega) hc_px0 hc_px1 hc_px2) pd3 ?_
  intro vq14 h15 S16 q14 zh15
  obtain ⟨rfl, rfl, rfl⟩ := q14
  refine Ow.Go.norm (S' := []) (st' := [(.int (3 : Int32)), (.int (1 : Int32))]) (fun _ q => List.mem_append_right _ q) rfl ?_
  refine Ow.icmpF (pc' := 20) B e0_17 (by decide) ?_
  refine Ow.aloadN (pc' := 21) B e0_20 ?_
  refine Ow.iloadN (pc' := 22) B e0_21 ?_
  refine Ow.Go.old (fun o17 => ?_)
  refine Ow.callVirtual (pc' := 25) (W := 0) (k' := 0) (n' := 0) (argsL := [(.int (1 : Int32))]) (rest := []) (K := "java/lang/String") B e0_22 (w55 hw) (w56 hw) (w58 hw) (w58 hw) (w57 hw) (w3 hw) (w59 hw) (hf0).1 (con_charAt_68 hw G GS (pa0 := pa0) (pa1 := pa1) (px0 := px0) (px1 := px1) (px2 := px2) (pk0 := pk0) o17 hf0 (by omega) (by omega) (hk2) (hk3) hc_px0 hc_px1 hc_px2) pd5 ?_
  intro vq18 h19 S20 q18 zh19
  obtain ⟨rfl, rfl, rfl⟩ := q18
  refine Ow.Go.norm (S' := []) (st' := [(.int px1)]) (fun _ q => List.mem_append_right _ q) rfl ?_
  refine Ow.istoreN (pc' := 26) (Ls' := #[.val (.ref pa0), .val (.int (1 : Int32)), .val (.int px1)]) B e0_25 ?_
  refine blk_f hw B ⟨hk3, hk2⟩ (hk5) ?_
  refine Ow.iconst (pc' := 63) (x := (0 : Int32)) B e0_62 ?_
  exact Ow.retI (S' := []) (t := .boolean) B e0_63 (⟨rfl, rfl, rfl⟩)
set_option maxRecDepth 65536 in
set_option maxHeartbeats 40000000 in
theorem con_charAt_70 {l : Launch} {Z : State} {n0 : Nat} {a0 : Array Value} {cz : Int32} {sf : Value} (hw : Hw a0 Z) (G : Ow.Glo Z cz sf) (GS : GlS Z) {pa0 : Nat} {px0 : Int32} {px1 : Int32} {px2 : Int32} {pk0 : ClassId} {h0 : Heap} (O0 : Old Z n0 h0) (hf0 : Arv Z h0 pa0 pk0 .byte (3 : Int32) [(.int px0.toInt8.toInt32), (.int px1.toInt8.toInt32), (.int px2.toInt8.toInt32)] (.int 0)) (hn0 : n0 ≤ pa0) (hk0 : ¬ (px2 < (0 : Int32))) (hk1 : ¬ ((255 : Int32) < px2)) (hc_px0 : nar .char px0 = px0) (hc_px1 : nar .char px1 = px1) (hc_px2 : nar .char px2 = px2) :
    Ow.Con l Z EL1 n0 my18 jdk_43_method_2_code 2 (Option.some Jvm.ClassFile.FieldType.char) [] ({ frames := 2, cells := 0, slots := 0, locals := 27 } : Room) #[(.ref pa0), (.int (2 : Int32))] [] h0 (fun v h S' => (v = some (.int px2) ∧ h = h0 ∧ S' = [])) := by
  refine Ow.Con.enter (Ls := #[.val (.ref pa0), .val (.int (2 : Int32))]) (plainFor_of_name pn4) O0 (hEW hw) (hSA hw) ?_
  intro p e s m below meth c B
  have z0 := Ow.old_le O0
  have lpa0 : (pa0 : Nat) < h0.size := hf0.lt
  refine Ow.iloadN (pc' := 1) B e17_0 ?_
  refine Ow.aloadN (pc' := 2) B e17_1 ?_
  refine Ow.arrlen (pc' := 3) B e17_2 hf0 ?_
  refine Ow.Go.old (fun o1 => ?_)
  refine Ow.callStatic (pc' := 6) (W := 0) (k' := 0) (n' := 0) (argsL := [(.int (2 : Int32)), (.int (3 : Int32))]) (rest := []) B e17_3 (w69 hw) (w70 hw) (w3 hw) (w71 hw) (con_checkIndex_55 hw G GS (px0 := (2 : Int32)) (px1 := (3 : Int32)) o1 (by decide) (by decide)) pd16 ?_
  intro vq2 h3 S4 q2 zh3
  obtain ⟨rfl, rfl, rfl⟩ := q2
  refine Ow.Go.norm (S' := []) (st' := []) (fun _ q => List.mem_append_right _ q) rfl ?_
  refine Ow.aloadN (pc' := 7) B e17_6 ?_
  refine Ow.iloadN (pc' := 8) B e17_7 ?_
  refine Ow.baload (pc' := 9) B e17_8 hf0 ⟨by decide, by decide⟩ rfl ?_
  refine Ow.sipush (pc' := 12) (x := (255 : Int32)) B e17_9 ?_
  refine Ow.iand (pc' := 13) (z := px2) (hz := (Ow.b255 (hk0) (hk1))) B e17_12 ?_
  refine Ow.i2c (pc' := 14) (z := px2) (hz := (Ow.c_id (hk0) (hk1))) B e17_13 ?_
  exact Ow.retI (S' := []) (t := .char) (hnn := (Ow.cnarrow (Ow.nar_id (hk0) (hk1)))) B e17_14 (⟨rfl, rfl, rfl⟩)
set_option maxRecDepth 65536 in
set_option maxHeartbeats 40000000 in
theorem con_checkIndex_71 {l : Launch} {Z : State} {n0 : Nat} {a0 : Array Value} {cz : Int32} {sf : Value} (hw : Hw a0 Z) (G : Ow.Glo Z cz sf) (GS : GlS Z) {pa0 : Nat} {px0 : Int32} {px1 : Int32} {px2 : Int32} {pk0 : ClassId} {h0 : Heap} (O0 : Old Z n0 h0) (hf0 : Arv Z h0 pa0 pk0 .byte (6 : Int32) [(.int px0.toInt8.toInt32), (.int (px0 >>> ((8 : Int32) &&& 31)).toInt8.toInt32), (.int px1.toInt8.toInt32), (.int (px1 >>> ((8 : Int32) &&& 31)).toInt8.toInt32), (.int px2.toInt8.toInt32), (.int (px2 >>> ((8 : Int32) &&& 31)).toInt8.toInt32)] (.int 0)) (hn0 : n0 ≤ pa0) (hc_px0 : nar .char px0 = px0) (hc_px1 : nar .char px1 = px1) (hc_px2 : nar .char px2 = px2) :
    Ow.Con l Z EL1 n0 my20 jdk_52_method_91_code 2 (Option.none : Option Jvm.ClassFile.FieldType) [] ({ frames := 2, cells := 0, slots := 0, locals := 27 } : Room) #[(.int (2 : Int32)), (.ref pa0)] [] h0 (fun v h S' => (v = none ∧ h = h0 ∧ S' = [])) := by
  refine Ow.Con.enter (Ls := #[.val (.int (2 : Int32)), .val (.ref pa0)]) (plainFor_of_name pn3) O0 (hEW hw) (hSA hw) ?_
  intro p e s m below meth c B
  have z0 := Ow.old_le O0
  have lpa0 : (pa0 : Nat) < h0.size := hf0.lt
  refine Ow.iloadN (pc' := 1) B e21_0 ?_
  refine Ow.aloadN (pc' := 2) B e21_1 ?_
  refine Ow.Go.old (fun o1 => ?_)
  refine Ow.callStatic (pc' := 5) (W := 1) (k' := 0) (n' := 0) (argsL := [(.ref pa0)]) (rest := [(.int (2 : Int32))]) B e21_2 (w102 hw) (w103 hw) (w44 hw) (w104 hw) (con_length_58 hw G GS (pa0 := pa0) (px0 := px0) (px1 := px1) (px2 := px2) (pk0 := pk0) o1 hf0 (by omega) hc_px0 hc_px1 hc_px2) pd17 ?_
  intro vq2 h3 S4 q2 zh3
  obtain ⟨rfl, rfl, rfl⟩ := q2
  refine Ow.Go.norm (S' := []) (st' := [(.int (3 : Int32)), (.int (2 : Int32))]) (fun _ q => List.mem_append_right _ q) rfl ?_
  refine Ow.Go.old (fun o5 => ?_)
  refine Ow.callStatic (pc' := 8) (W := 0) (k' := 0) (n' := 0) (argsL := [(.int (2 : Int32)), (.int (3 : Int32))]) (rest := []) B e21_5 (w105 hw) (w70 hw) (w3 hw) (w71 hw) (con_checkIndex_55 hw G GS (px0 := (2 : Int32)) (px1 := (3 : Int32)) o5 (by decide) (by decide)) pd16 ?_
  intro vq6 h7 S8 q6 zh7
  obtain ⟨rfl, rfl, rfl⟩ := q6
  refine Ow.Go.norm (S' := []) (st' := []) (fun _ q => List.mem_append_right _ q) rfl ?_
  exact Ow.retV (S' := []) B e21_8 (⟨rfl, rfl, rfl⟩)
set_option maxRecDepth 65536 in
set_option maxHeartbeats 40000000 in
theorem con_getChar_72 {l : Launch} {Z : State} {n0 : Nat} {a0 : Array Value} {cz : Int32} {sf : Value} (hw : Hw a0 Z) (G : Ow.Glo Z cz sf) (GS : GlS Z) {pa0 : Nat} {px0 : Int32} {px1 : Int32} {px2 : Int32} {pk0 : ClassId} {h0 : Heap} (O0 : Old Z n0 h0) (hf0 : Arv Z h0 pa0 pk0 .byte (6 : Int32) [(.int px0.toInt8.toInt32), (.int (px0 >>> ((8 : Int32) &&& 31)).toInt8.toInt32), (.int px1.toInt8.toInt32), (.int (px1 >>> ((8 : Int32) &&& 31)).toInt8.toInt32), (.int px2.toInt8.toInt32), (.int (px2 >>> ((8 : Int32) &&& 31)).toInt8.toInt32)] (.int 0)) (hn0 : n0 ≤ pa0) (hk0 : ¬ (px2 < (0 : Int32))) (hk1 : ¬ ((65535 : Int32) < px2)) (hc_px0 : nar .char px0 = px0) (hc_px1 : nar .char px1 = px1) (hc_px2 : nar .char px2 = px2) :
    Ow.Con l Z EL1 n0 my11 jdk_52_method_5_code 2 (Option.some Jvm.ClassFile.FieldType.char) [] ({ frames := 0, cells := 0, slots := 0, locals := 0 } : Room) #[(.ref pa0), (.int (2 : Int32))] [] h0 (fun v h S' => (v = some (.int px2) ∧ h = h0 ∧ S' = [])) := by
  refine Ow.Con.enter (Ls := #[.val (.ref pa0), .val (.int (2 : Int32))]) (plainFor_of_name pn3) O0 (hEW hw) (hSA hw) ?_
  intro p e s m below meth c B
  have z0 := Ow.old_le O0
  have lpa0 : (pa0 : Nat) < h0.size := hf0.lt
  refine Ow.getstatic (pc' := 3) B e12_0 (w90 hw) Via.refl GS.1 ?_
  refine Ow.ifT (pc' := 28) B e12_3 (by decide) ?_
  refine Ow.iloadN (pc' := 29) B e12_28 ?_
  refine Ow.iconst (pc' := 30) (x := (1 : Int32)) B e12_29 ?_
  refine Ow.ishl (pc' := 31) (z := (4 : Int32)) B e12_30 ?_
  refine Ow.istoreN (pc' := 32) (Ls' := #[.val (.ref pa0), .val (.int (4 : Int32))]) B e12_31 ?_
  refine Ow.aloadN (pc' := 33) B e12_32 ?_
  refine Ow.iloadN (pc' := 34) B e12_33 ?_
  refine Ow.iinc (pc' := 37) (y := (5 : Int32)) (Ls' := #[.val (.ref pa0), .val (.int (5 : Int32))]) B e12_34 ?_
  refine Ow.baload (pc' := 38) B e12_37 hf0 ⟨by decide, by decide⟩ rfl ?_
  refine Ow.sipush (pc' := 41) (x := (255 : Int32)) B e12_38 ?_
  refine Ow.iand (pc' := 42) (z := (px2.toInt8.toInt32 &&& (255 : Int32))) B e12_41 ?_
  refine Ow.getstatic (pc' := 45) B e12_42 (w91 hw) Via.refl GS.2.1 ?_
  refine Ow.ishl (pc' := 46) (z := ((px2.toInt8.toInt32 &&& (255 : Int32)) <<< ((0 : Int32) &&& 31))) B e12_45 ?_
  refine Ow.aloadN (pc' := 47) B e12_46 ?_
  refine Ow.iloadN (pc' := 48) B e12_47 ?_
  refine Ow.baload (pc' := 49) B e12_48 hf0 ⟨by decide, by decide⟩ rfl ?_
  refine Ow.sipush (pc' := 52) (x := (255 : Int32)) B e12_49 ?_
  refine Ow.iand (pc' := 53) (z := ((px2 >>> ((8 : Int32) &&& 31)).toInt8.toInt32 &&& (255 : Int32))) B e12_52 ?_
  refine Ow.getstatic (pc' := 56) B e12_53 (w92 hw) Via.refl GS.2.2 ?_
  refine Ow.ishl (pc' := 57) (z := (((px2 >>> ((8 : Int32) &&& 31)).toInt8.toInt32 &&& (255 : Int32)) <<< ((8 : Int32) &&& 31))) B e12_56 ?_
  refine Ow.ior (pc' := 58) (z := px2) (hz := (Ow.u16 (hk0) (hk1))) B e12_57 ?_
  refine Ow.i2c (pc' := 59) (z := px2) (hz := hc_px2) B e12_58 ?_
  exact Ow.retI (S' := []) (t := .char) (hnn := (Ow.cnarrow hc_px2)) B e12_59 (⟨rfl, rfl, rfl⟩)
set_option maxRecDepth 65536 in
set_option maxHeartbeats 40000000 in
theorem con_charAt_73 {l : Launch} {Z : State} {n0 : Nat} {a0 : Array Value} {cz : Int32} {sf : Value} (hw : Hw a0 Z) (G : Ow.Glo Z cz sf) (GS : GlS Z) {pa0 : Nat} {px0 : Int32} {px1 : Int32} {px2 : Int32} {pk0 : ClassId} {h0 : Heap} (O0 : Old Z n0 h0) (hf0 : Arv Z h0 pa0 pk0 .byte (6 : Int32) [(.int px0.toInt8.toInt32), (.int (px0 >>> ((8 : Int32) &&& 31)).toInt8.toInt32), (.int px1.toInt8.toInt32), (.int (px1 >>> ((8 : Int32) &&& 31)).toInt8.toInt32), (.int px2.toInt8.toInt32), (.int (px2 >>> ((8 : Int32) &&& 31)).toInt8.toInt32)] (.int 0)) (hn0 : n0 ≤ pa0) (hk0 : ¬ (px2 < (0 : Int32))) (hk1 : ¬ ((65535 : Int32) < px2)) (hc_px0 : nar .char px0 = px0) (hc_px1 : nar .char px1 = px1) (hc_px2 : nar .char px2 = px2) :
    Ow.Con l Z EL1 n0 my21 jdk_52_method_83_code 2 (Option.some Jvm.ClassFile.FieldType.char) [] ({ frames := 3, cells := 0, slots := 0, locals := 40 } : Room) #[(.ref pa0), (.int (2 : Int32))] [] h0 (fun v h S' => (v = some (.int px2) ∧ h = h0 ∧ S' = [])) := by
  refine Ow.Con.enter (Ls := #[.val (.ref pa0), .val (.int (2 : Int32))]) (plainFor_of_name pn3) O0 (hEW hw) (hSA hw) ?_
  intro p e s m below meth c B
  have z0 := Ow.old_le O0
  have lpa0 : (pa0 : Nat) < h0.size := hf0.lt
  refine Ow.iloadN (pc' := 1) B e20_0 ?_
  refine Ow.aloadN (pc' := 2) B e20_1 ?_
  refine Ow.Go.old (fun o1 => ?_)
  refine Ow.callStatic (pc' := 5) (W := 0) (k' := 0) (n' := 0) (argsL := [(.int (2 : Int32)), (.ref pa0)]) (rest := []) B e20_2 (w99 hw) (w100 hw) (w44 hw) (w101 hw) (con_checkIndex_71 hw G GS (pa0 := pa0) (px0 := px0) (px1 := px1) (px2 := px2) (pk0 := pk0) o1 hf0 (by omega) hc_px0 hc_px1 hc_px2) pd18 ?_
  intro vq2 h3 S4 q2 zh3
  obtain ⟨rfl, rfl, rfl⟩ := q2
  refine Ow.Go.norm (S' := []) (st' := []) (fun _ q => List.mem_append_right _ q) rfl ?_
  refine Ow.aloadN (pc' := 6) B e20_5 ?_
  refine Ow.iloadN (pc' := 7) B e20_6 ?_
  refine Ow.Go.old (fun o5 => ?_)
  refine Ow.callStatic (pc' := 10) (W := 0) (k' := 0) (n' := 0) (argsL := [(.ref pa0), (.int (2 : Int32))]) (rest := []) B e20_7 (w93 hw) (w94 hw) (w44 hw) (w95 hw) (con_getChar_72 hw G GS (pa0 := pa0) (px0 := px0) (px1 := px1) (px2 := px2) (pk0 := pk0) o5 hf0 (by omega) (hk0) (hk1) hc_px0 hc_px1 hc_px2) pd11 ?_
  intro vq6 h7 S8 q6 zh7
  obtain ⟨rfl, rfl, rfl⟩ := q6
  refine Ow.Go.norm (S' := []) (st' := [(.int px2)]) (fun _ q => List.mem_append_right _ q) rfl ?_
  exact Ow.retI (S' := []) (t := .char) (hnn := (Ow.cnarrow hc_px2)) B e20_10 (⟨rfl, rfl, rfl⟩)
set_option maxRecDepth 65536 in
set_option maxHeartbeats 40000000 in
theorem con_charAt_74 {l : Launch} {Z : State} {n0 : Nat} {a0 : Array Value} {cz : Int32} {sf : Value} (hw : Hw a0 Z) (G : Ow.Glo Z cz sf) (GS : GlS Z) {pa0 : Nat} {pa1 : Nat} {px0 : Int32} {px1 : Int32} {px2 : Int32} {pk0 : ClassId} {h0 : Heap} (O0 : Old Z n0 h0) (hf0 : Ow.Chs Z h0 pa0 pa1 pk0 [px0, px1, px2]) (hn0 : n0 ≤ pa0) (hn1 : n0 ≤ pa1) (hk0 : ¬ ((65535 : Int32) < px2)) (hk1 : ¬ (px2 < (0 : Int32))) (hc_px0 : nar .char px0 = px0) (hc_px1 : nar .char px1 = px1) (hc_px2 : nar .char px2 = px2) :
    Ow.Con l Z EL1 n0 my22 jdk_42_method_56_code 2 (Option.some Jvm.ClassFile.FieldType.char) [] ({ frames := 4, cells := 0, slots := 0, locals := 53 } : Room) #[(.ref pa0), (.int (2 : Int32))] [] h0 (fun v h S' => (v = some (.int px2) ∧ h = h0 ∧ S' = [])) := by
  rcases hf0.2.2.2 with ⟨oc_hf0, oa_hf0, ol_hf0⟩ | ⟨oc_hf0, oa_hf0⟩
  · refine Ow.Con.enter (Ls := #[.val (.ref pa0), .val (.int (2 : Int32))]) (plainFor_of_name pn0) O0 (hEW hw) (hSA hw) ?_
    intro p e s m below meth c B
    have z0 := Ow.old_le O0
    have oE_hf0 := hf0.1
    have oV_hf0 := hf0.2.1
    have oR_hf0 := hf0.2.2.1
    have oA_hf0 : Arv Z h0 pa1 pk0 .byte (3 : Int32) [(.int px0.toInt8.toInt32), (.int px1.toInt8.toInt32), (.int px2.toInt8.toInt32)] (.int 0) := oa_hf0
    have lpa0 : (pa0 : Nat) < h0.size := hf0.lt
    have lpa1 : (pa1 : Nat) < h0.size := oA_hf0.lt
    have lpa1 : (pa1 : Nat) < h0.size := hf0.ltt
    refine Ow.aloadN (pc' := 1) B e15_0 ?_
    refine Ow.Go.old (fun o1 => ?_)
    refine Ow.callVirtual (pc' := 4) (W := 0) (k' := 0) (n' := 0) (argsL := []) (rest := []) (K := "java/lang/String") B e15_1 (w60 hw) (w61 hw) (w63 hw) (w63 hw) (w62 hw) (w3 hw) (w64 hw) oE_hf0 (con_isLatin1_53 hw G GS (pa0 := pa0) o1 oc_hf0 (by omega)) pd14 ?_
    intro vq2 h3 S4 q2 zh3
    obtain ⟨rfl, rfl, rfl⟩ := q2
    refine Ow.Go.norm (S' := []) (st' := [(.int (1 : Int32))]) (fun _ q => List.mem_append_right _ q) rfl ?_
    refine Ow.ifF (pc' := 7) B e15_4 (by decide) ?_
    refine Ow.aloadN (pc' := 8) B e15_7 ?_
    refine Ow.getfield (pc' := 11) B e15_8 (w20 hw) Via.refl oV_hf0 ?_
    refine Ow.iloadN (pc' := 12) B e15_11 ?_
    refine Ow.Go.old (fun o5 => ?_)
    refine Ow.callStatic (pc' := 15) (W := 0) (k' := 0) (n' := 0) (argsL := [(.ref pa1), (.int (2 : Int32))]) (rest := []) B e15_12 (w65 hw) (w66 hw) (w67 hw) (w68 hw) (con_charAt_70 hw G GS (pa0 := pa1) (px0 := px0) (px1 := px1) (px2 := px2) (pk0 := pk0) o5 oA_hf0 (by omega) (hk1) (ol_hf0 px2 (by simp)) hc_px0 hc_px1 hc_px2) pd11 ?_
    intro vq6 h7 S8 q6 zh7
    obtain ⟨rfl, rfl, rfl⟩ := q6
    refine Ow.Go.norm (S' := []) (st' := [(.int px2)]) (fun _ q => List.mem_append_right _ q) rfl ?_
    exact Ow.retI (S' := []) (t := .char) (hnn := (Ow.cnarrow hc_px2)) B e15_15 (⟨rfl, rfl, rfl⟩)
  · refine Ow.Con.enter (Ls := #[.val (.ref pa0), .val (.int (2 : Int32))]) (plainFor_of_name pn0) O0 (hEW hw) (hSA hw) ?_
    intro p e s m below meth c B
    have z0 := Ow.old_le O0
    have oE_hf0 := hf0.1
    have oV_hf0 := hf0.2.1
    have oR_hf0 := hf0.2.2.1
    have oA_hf0 : Arv Z h0 pa1 pk0 .byte (6 : Int32) [(.int px0.toInt8.toInt32), (.int (px0 >>> ((8 : Int32) &&& 31)).toInt8.toInt32), (.int px1.toInt8.toInt32), (.int (px1 >>> ((8 : Int32) &&& 31)).toInt8.toInt32), (.int px2.toInt8.toInt32), (.int (px2 >>> ((8 : Int32) &&& 31)).toInt8.toInt32)] (.int 0) := oa_hf0
    have lpa0 : (pa0 : Nat) < h0.size := hf0.lt
    have lpa1 : (pa1 : Nat) < h0.size := oA_hf0.lt
    have lpa1 : (pa1 : Nat) < h0.size := hf0.ltt
    refine Ow.aloadN (pc' := 1) B e15_0 ?_
    refine Ow.Go.old (fun o1 => ?_)
    refine Ow.callVirtual (pc' := 4) (W := 0) (k' := 0) (n' := 0) (argsL := []) (rest := []) (K := "java/lang/String") B e15_1 (w60 hw) (w61 hw) (w63 hw) (w63 hw) (w62 hw) (w3 hw) (w64 hw) oE_hf0 (con_isLatin1_57 hw G GS (pa0 := pa0) o1 oc_hf0 (by omega)) pd14 ?_
    intro vq2 h3 S4 q2 zh3
    obtain ⟨rfl, rfl, rfl⟩ := q2
    refine Ow.Go.norm (S' := []) (st' := [(.int (0 : Int32))]) (fun _ q => List.mem_append_right _ q) rfl ?_
    refine Ow.ifT (pc' := 16) B e15_4 (by decide) ?_
    refine Ow.aloadN (pc' := 17) B e15_16 ?_
    refine Ow.getfield (pc' := 20) B e15_17 (w20 hw) Via.refl oV_hf0 ?_
    refine Ow.iloadN (pc' := 21) B e15_20 ?_
    refine Ow.Go.old (fun o5 => ?_)
    refine Ow.callStatic (pc' := 24) (W := 0) (k' := 0) (n' := 0) (argsL := [(.ref pa1), (.int (2 : Int32))]) (rest := []) B e15_21 (w96 hw) (w97 hw) (w44 hw) (w98 hw) (con_charAt_73 hw G GS (pa0 := pa1) (px0 := px0) (px1 := px1) (px2 := px2) (pk0 := pk0) o5 oA_hf0 (by omega) (hk1) (hk0) hc_px0 hc_px1 hc_px2) pd11 ?_
    intro vq6 h7 S8 q6 zh7
    obtain ⟨rfl, rfl, rfl⟩ := q6
    refine Ow.Go.norm (S' := []) (st' := [(.int px2)]) (fun _ q => List.mem_append_right _ q) rfl ?_
    exact Ow.retI (S' := []) (t := .char) (hnn := (Ow.cnarrow hc_px2)) B e15_24 (⟨rfl, rfl, rfl⟩)
set_option maxRecDepth 65536 in
set_option maxHeartbeats 40000000 in
theorem con_isTag_75 {l : Launch} {Z : State} {n0 : Nat} {a0 : Array Value} {cz : Int32} {sf : Value} (hw : Hw a0 Z) (G : Ow.Glo Z cz sf) (GS : GlS Z) {pa0 : Nat} {pa1 : Nat} {px0 : Int32} {px1 : Int32} {px2 : Int32} {pk0 : ClassId} {h0 : Heap} (O0 : Old Z n0 h0) (hf0 : Ow.Chs Z h0 pa0 pa1 pk0 [px0, px1, px2]) (hn0 : n0 ≤ pa0) (hn1 : n0 ≤ pa1) (hk0 : ¬ ((65535 : Int32) < px0)) (hk1 : ¬ (px0 < (0 : Int32))) (hk2 : ¬ ((65535 : Int32) < px1)) (hk3 : ¬ (px1 < (0 : Int32))) (hk4 : ¬ ((65535 : Int32) < px2)) (hk5 : ¬ (px2 < (0 : Int32))) (hk6 : okP px0) (hk7 : okP px1) (hk8 : ¬ (okP px2)) (hc_px0 : nar .char px0 = px0) (hc_px1 : nar .char px1 = px1) (hc_px2 : nar .char px2 = px2) :
    Ow.Con l Z EL1 n0 my4 prog_8_method_2_code 3 (Option.some Jvm.ClassFile.FieldType.boolean) [] ({ frames := 5, cells := 0, slots := 0, locals := 66 } : Room) #[(.ref pa0)] [] h0 (fun v h S' => (v = some (.int (0 : Int32)) ∧ h = h0 ∧ S' = [])) := by
  refine Ow.Con.enter (Ls := #[.val (.ref pa0), .unset, .unset]) (plainFor_of_name pn1) O0 (hEW hw) (hSA hw) ?_
  intro p e s m below meth c B
  have z0 := Ow.old_le O0
  have lpa0 : (pa0 : Nat) < h0.size := hf0.lt
  have lpa1 : (pa1 : Nat) < h0.size := hf0.ltt
  refine Ow.aloadN (pc' := 1) B e0_0 ?_
  refine Ow.Go.old (fun o1 => ?_)
  refine Ow.callVirtual (pc' := 4) (W := 0) (k' := 0) (n' := 0) (argsL := []) (rest := []) (K := "java/lang/String") B e0_1 (w26 hw) (w27 hw) (w29 hw) (w29 hw) (w28 hw) (w3 hw) (w30 hw) (hf0).1 (con_length_52 hw G GS (pa0 := pa0) (pa1 := pa1) (px0 := px0) (px1 := px1) (px2 := px2) (pk0 := pk0) o1 hf0 (by omega) (by omega) hc_px0 hc_px1 hc_px2) pd3 ?_
  intro vq2 h3 S4 q2 zh3
  obtain ⟨rfl, rfl, rfl⟩ := q2
  refine Ow.Go.norm (S' := []) (st' := [(.int (3 : Int32))]) (fun _ q => List.mem_append_right _ q) rfl ?_
  refine Ow.iconst (pc' := 5) (x := (3 : Int32)) B e0_4 ?_
  refine Ow.icmpT (pc' := 10) B e0_5 (by decide) ?_
  refine Ow.iconst (pc' := 11) (x := (0 : Int32)) B e0_10 ?_
  refine Ow.istoreN (pc' := 12) (Ls' := #[.val (.ref pa0), .val (.int (0 : Int32)), .unset]) B e0_11 ?_
  refine Ow.iloadN (pc' := 13) B e0_12 ?_
  refine Ow.aloadN (pc' := 14) B e0_13 ?_
  refine Ow.Go.old (fun o5 => ?_)
  refine Ow.callVirtual (pc' := 17) (W := 1) (k' := 0) (n' := 0) (argsL := []) (rest := [(.int (0 : Int32))]) (K := "java/lang/String") B e0_14 (w26 hw) (w27 hw) (w29 hw) (w29 hw) (w28 hw) (w3 hw) (w30 hw) (hf0).1 (con_length_52 hw G GS (pa0 := pa0) (pa1 := pa1) (px0 := px0) (px1 := px1) (px2 := px2) (pk0 := pk0) o5 hf0 (by omega) (by omega) hc_px0 hc_px1 hc_px2) pd3 ?_
  intro vq6 h7 S8 q6 zh7
  obtain ⟨rfl, rfl, rfl⟩ := q6
  refine Ow.Go.norm (S' := []) (st' := [(.int (3 : Int32)), (.int (0 : Int32))]) (fun _ q => List.mem_append_right _ q) rfl ?_
  refine Ow.icmpF (pc' := 20) B e0_17 (by decide) ?_
  refine Ow.aloadN (pc' := 21) B e0_20 ?_
  refine Ow.iloadN (pc' := 22) B e0_21 ?_
  refine Ow.Go.old (fun o9 => ?_)
  refine Ow.callVirtual (pc' := 25) (W := 0) (k' := 0) (n' := 0) (argsL := [(.int (0 : Int32))]) (rest := []) (K := "java/lang/String") B e0_22 (w55 hw) (w56 hw) (w58 hw) (w58 hw) (w57 hw) (w3 hw) (w59 hw) (hf0).1 (con_charAt_62 hw G GS (pa0 := pa0) (pa1 := pa1) (px0 := px0) (px1 := px1) (px2 := px2) (pk0 := pk0) o9 hf0 (by omega) (by omega) (hk0) (hk1) hc_px0 hc_px1 hc_px2) pd5 ?_
  intro vq10 h11 S12 q10 zh11
  obtain ⟨rfl, rfl, rfl⟩ := q10
  refine Ow.Go.norm (S' := []) (st' := [(.int px0)]) (fun _ q => List.mem_append_right _ q) rfl ?_
  refine Ow.istoreN (pc' := 26) (Ls' := #[.val (.ref pa0), .val (.int (0 : Int32)), .val (.int px0)]) B e0_25 ?_
  refine blk_t hw B ⟨hk1, hk0⟩ (hk6) ?_
  refine Ow.iinc (pc' := 67) (y := (1 : Int32)) (Ls' := #[.val (.ref pa0), .val (.int (1 : Int32)), .val (.int px0)]) B e0_64 ?_
  refine Ow.goto (pc' := 12) B e0_67 ?_
  refine Ow.iloadN (pc' := 13) B e0_12 ?_
  refine Ow.aloadN (pc' := 14) B e0_13 ?_
  refine Ow.Go.old (fun o13 => ?_)
  refine Ow.callVirtual (pc' := 17) (W := 1) (k' := 0) (n' := 0) (argsL := []) (rest := [(.int (1 : Int32))]) (K := "java/lang/String") B e0_14 (w26 hw) (w27 hw) (w29 hw) (w29 hw) (w28 hw) (w3 hw) (w30 hw) (hf0).1 (con_length_52 hw G GS (pa0 := pa0) (pa1 := pa1) (px0 := px0) (px1 := px1) (px2 := px2) (pk0 := pk0) o13 hf0 (by omega) (by omega) hc_px0 hc_px1 hc_px2) pd3 ?_
  intro vq14 h15 S16 q14 zh15
  obtain ⟨rfl, rfl, rfl⟩ := q14
  refine Ow.Go.norm (S' := []) (st' := [(.int (3 : Int32)), (.int (1 : Int32))]) (fun _ q => List.mem_append_right _ q) rfl ?_
  refine Ow.icmpF (pc' := 20) B e0_17 (by decide) ?_
  refine Ow.aloadN (pc' := 21) B e0_20 ?_
  refine Ow.iloadN (pc' := 22) B e0_21 ?_
  refine Ow.Go.old (fun o17 => ?_)
  refine Ow.callVirtual (pc' := 25) (W := 0) (k' := 0) (n' := 0) (argsL := [(.int (1 : Int32))]) (rest := []) (K := "java/lang/String") B e0_22 (w55 hw) (w56 hw) (w58 hw) (w58 hw) (w57 hw) (w3 hw) (w59 hw) (hf0).1 (con_charAt_68 hw G GS (pa0 := pa0) (pa1 := pa1) (px0 := px0) (px1 := px1) (px2 := px2) (pk0 := pk0) o17 hf0 (by omega) (by omega) (hk2) (hk3) hc_px0 hc_px1 hc_px2) pd5 ?_
  intro vq18 h19 S20 q18 zh19
  obtain ⟨rfl, rfl, rfl⟩ := q18
  refine Ow.Go.norm (S' := []) (st' := [(.int px1)]) (fun _ q => List.mem_append_right _ q) rfl ?_
  refine Ow.istoreN (pc' := 26) (Ls' := #[.val (.ref pa0), .val (.int (1 : Int32)), .val (.int px1)]) B e0_25 ?_
  refine blk_t hw B ⟨hk3, hk2⟩ (hk7) ?_
  refine Ow.iinc (pc' := 67) (y := (2 : Int32)) (Ls' := #[.val (.ref pa0), .val (.int (2 : Int32)), .val (.int px1)]) B e0_64 ?_
  refine Ow.goto (pc' := 12) B e0_67 ?_
  refine Ow.iloadN (pc' := 13) B e0_12 ?_
  refine Ow.aloadN (pc' := 14) B e0_13 ?_
  refine Ow.Go.old (fun o21 => ?_)
  refine Ow.callVirtual (pc' := 17) (W := 1) (k' := 0) (n' := 0) (argsL := []) (rest := [(.int (2 : Int32))]) (K := "java/lang/String") B e0_14 (w26 hw) (w27 hw) (w29 hw) (w29 hw) (w28 hw) (w3 hw) (w30 hw) (hf0).1 (con_length_52 hw G GS (pa0 := pa0) (pa1 := pa1) (px0 := px0) (px1 := px1) (px2 := px2) (pk0 := pk0) o21 hf0 (by omega) (by omega) hc_px0 hc_px1 hc_px2) pd3 ?_
  intro vq22 h23 S24 q22 zh23
  obtain ⟨rfl, rfl, rfl⟩ := q22
  refine Ow.Go.norm (S' := []) (st' := [(.int (3 : Int32)), (.int (2 : Int32))]) (fun _ q => List.mem_append_right _ q) rfl ?_
  refine Ow.icmpF (pc' := 20) B e0_17 (by decide) ?_
  refine Ow.aloadN (pc' := 21) B e0_20 ?_
  refine Ow.iloadN (pc' := 22) B e0_21 ?_
  refine Ow.Go.old (fun o25 => ?_)
  refine Ow.callVirtual (pc' := 25) (W := 0) (k' := 0) (n' := 0) (argsL := [(.int (2 : Int32))]) (rest := []) (K := "java/lang/String") B e0_22 (w55 hw) (w56 hw) (w58 hw) (w58 hw) (w57 hw) (w3 hw) (w59 hw) (hf0).1 (con_charAt_74 hw G GS (pa0 := pa0) (pa1 := pa1) (px0 := px0) (px1 := px1) (px2 := px2) (pk0 := pk0) o25 hf0 (by omega) (by omega) (hk4) (hk5) hc_px0 hc_px1 hc_px2) pd5 ?_
  intro vq26 h27 S28 q26 zh27
  obtain ⟨rfl, rfl, rfl⟩ := q26
  refine Ow.Go.norm (S' := []) (st' := [(.int px2)]) (fun _ q => List.mem_append_right _ q) rfl ?_
  refine Ow.istoreN (pc' := 26) (Ls' := #[.val (.ref pa0), .val (.int (2 : Int32)), .val (.int px2)]) B e0_25 ?_
  refine blk_f hw B ⟨hk5, hk4⟩ (hk8) ?_
  refine Ow.iconst (pc' := 63) (x := (0 : Int32)) B e0_62 ?_
  exact Ow.retI (S' := []) (t := .boolean) B e0_63 (⟨rfl, rfl, rfl⟩)
set_option maxRecDepth 65536 in
set_option maxHeartbeats 40000000 in
theorem con_isTag_76 {l : Launch} {Z : State} {n0 : Nat} {a0 : Array Value} {cz : Int32} {sf : Value} (hw : Hw a0 Z) (G : Ow.Glo Z cz sf) (GS : GlS Z) {pa0 : Nat} {pa1 : Nat} {px0 : Int32} {px1 : Int32} {px2 : Int32} {pk0 : ClassId} {h0 : Heap} (O0 : Old Z n0 h0) (hf0 : Ow.Chs Z h0 pa0 pa1 pk0 [px0, px1, px2]) (hn0 : n0 ≤ pa0) (hn1 : n0 ≤ pa1) (hk0 : ¬ ((65535 : Int32) < px0)) (hk1 : ¬ (px0 < (0 : Int32))) (hk2 : ¬ ((65535 : Int32) < px1)) (hk3 : ¬ (px1 < (0 : Int32))) (hk4 : ¬ ((65535 : Int32) < px2)) (hk5 : ¬ (px2 < (0 : Int32))) (hk6 : okP px0) (hk7 : okP px1) (hk8 : okP px2) (hc_px0 : nar .char px0 = px0) (hc_px1 : nar .char px1 = px1) (hc_px2 : nar .char px2 = px2) :
    Ow.Con l Z EL1 n0 my4 prog_8_method_2_code 3 (Option.some Jvm.ClassFile.FieldType.boolean) [] ({ frames := 5, cells := 0, slots := 0, locals := 66 } : Room) #[(.ref pa0)] [] h0 (fun v h S' => (v = some (.int (1 : Int32)) ∧ h = h0 ∧ S' = [])) := by
  refine Ow.Con.enter (Ls := #[.val (.ref pa0), .unset, .unset]) (plainFor_of_name pn1) O0 (hEW hw) (hSA hw) ?_
  intro p e s m below meth c B
  have z0 := Ow.old_le O0
  have lpa0 : (pa0 : Nat) < h0.size := hf0.lt
  have lpa1 : (pa1 : Nat) < h0.size := hf0.ltt
  refine Ow.aloadN (pc' := 1) B e0_0 ?_
  refine Ow.Go.old (fun o1 => ?_)
  refine Ow.callVirtual (pc' := 4) (W := 0) (k' := 0) (n' := 0) (argsL := []) (rest := []) (K := "java/lang/String") B e0_1 (w26 hw) (w27 hw) (w29 hw) (w29 hw) (w28 hw) (w3 hw) (w30 hw) (hf0).1 (con_length_52 hw G GS (pa0 := pa0) (pa1 := pa1) (px0 := px0) (px1 := px1) (px2 := px2) (pk0 := pk0) o1 hf0 (by omega) (by omega) hc_px0 hc_px1 hc_px2) pd3 ?_
  intro vq2 h3 S4 q2 zh3
  obtain ⟨rfl, rfl, rfl⟩ := q2
  refine Ow.Go.norm (S' := []) (st' := [(.int (3 : Int32))]) (fun _ q => List.mem_append_right _ q) rfl ?_
  refine Ow.iconst (pc' := 5) (x := (3 : Int32)) B e0_4 ?_
  refine Ow.icmpT (pc' := 10) B e0_5 (by decide) ?_
  refine Ow.iconst (pc' := 11) (x := (0 : Int32)) B e0_10 ?_
  refine Ow.istoreN (pc' := 12) (Ls' := #[.val (.ref pa0), .val (.int (0 : Int32)), .unset]) B e0_11 ?_
  refine Ow.iloadN (pc' := 13) B e0_12 ?_
  refine Ow.aloadN (pc' := 14) B e0_13 ?_
  refine Ow.Go.old (fun o5 => ?_)
  refine Ow.callVirtual (pc' := 17) (W := 1) (k' := 0) (n' := 0) (argsL := []) (rest := [(.int (0 : Int32))]) (K := "java/lang/String") B e0_14 (w26 hw) (w27 hw) (w29 hw) (w29 hw) (w28 hw) (w3 hw) (w30 hw) (hf0).1 (con_length_52 hw G GS (pa0 := pa0) (pa1 := pa1) (px0 := px0) (px1 := px1) (px2 := px2) (pk0 := pk0) o5 hf0 (by omega) (by omega) hc_px0 hc_px1 hc_px2) pd3 ?_
  intro vq6 h7 S8 q6 zh7
  obtain ⟨rfl, rfl, rfl⟩ := q6
  refine Ow.Go.norm (S' := []) (st' := [(.int (3 : Int32)), (.int (0 : Int32))]) (fun _ q => List.mem_append_right _ q) rfl ?_
  refine Ow.icmpF (pc' := 20) B e0_17 (by decide) ?_
  refine Ow.aloadN (pc' := 21) B e0_20 ?_
  refine Ow.iloadN (pc' := 22) B e0_21 ?_
  refine Ow.Go.old (fun o9 => ?_)
  refine Ow.callVirtual (pc' := 25) (W := 0) (k' := 0) (n' := 0) (argsL := [(.int (0 : Int32))]) (rest := []) (K := "java/lang/String") B e0_22 (w55 hw) (w56 hw) (w58 hw) (w58 hw) (w57 hw) (w3 hw) (w59 hw) (hf0).1 (con_charAt_62 hw G GS (pa0 := pa0) (pa1 := pa1) (px0 := px0) (px1 := px1) (px2 := px2) (pk0 := pk0) o9 hf0 (by omega) (by omega) (hk0) (hk1) hc_px0 hc_px1 hc_px2) pd5 ?_
  intro vq10 h11 S12 q10 zh11
  obtain ⟨rfl, rfl, rfl⟩ := q10
  refine Ow.Go.norm (S' := []) (st' := [(.int px0)]) (fun _ q => List.mem_append_right _ q) rfl ?_
  refine Ow.istoreN (pc' := 26) (Ls' := #[.val (.ref pa0), .val (.int (0 : Int32)), .val (.int px0)]) B e0_25 ?_
  refine blk_t hw B ⟨hk1, hk0⟩ (hk6) ?_
  refine Ow.iinc (pc' := 67) (y := (1 : Int32)) (Ls' := #[.val (.ref pa0), .val (.int (1 : Int32)), .val (.int px0)]) B e0_64 ?_
  refine Ow.goto (pc' := 12) B e0_67 ?_
  refine Ow.iloadN (pc' := 13) B e0_12 ?_
  refine Ow.aloadN (pc' := 14) B e0_13 ?_
  refine Ow.Go.old (fun o13 => ?_)
  refine Ow.callVirtual (pc' := 17) (W := 1) (k' := 0) (n' := 0) (argsL := []) (rest := [(.int (1 : Int32))]) (K := "java/lang/String") B e0_14 (w26 hw) (w27 hw) (w29 hw) (w29 hw) (w28 hw) (w3 hw) (w30 hw) (hf0).1 (con_length_52 hw G GS (pa0 := pa0) (pa1 := pa1) (px0 := px0) (px1 := px1) (px2 := px2) (pk0 := pk0) o13 hf0 (by omega) (by omega) hc_px0 hc_px1 hc_px2) pd3 ?_
  intro vq14 h15 S16 q14 zh15
  obtain ⟨rfl, rfl, rfl⟩ := q14
  refine Ow.Go.norm (S' := []) (st' := [(.int (3 : Int32)), (.int (1 : Int32))]) (fun _ q => List.mem_append_right _ q) rfl ?_
  refine Ow.icmpF (pc' := 20) B e0_17 (by decide) ?_
  refine Ow.aloadN (pc' := 21) B e0_20 ?_
  refine Ow.iloadN (pc' := 22) B e0_21 ?_
  refine Ow.Go.old (fun o17 => ?_)
  refine Ow.callVirtual (pc' := 25) (W := 0) (k' := 0) (n' := 0) (argsL := [(.int (1 : Int32))]) (rest := []) (K := "java/lang/String") B e0_22 (w55 hw) (w56 hw) (w58 hw) (w58 hw) (w57 hw) (w3 hw) (w59 hw) (hf0).1 (con_charAt_68 hw G GS (pa0 := pa0) (pa1 := pa1) (px0 := px0) (px1 := px1) (px2 := px2) (pk0 := pk0) o17 hf0 (by omega) (by omega) (hk2) (hk3) hc_px0 hc_px1 hc_px2) pd5 ?_
  intro vq18 h19 S20 q18 zh19
  obtain ⟨rfl, rfl, rfl⟩ := q18
  refine Ow.Go.norm (S' := []) (st' := [(.int px1)]) (fun _ q => List.mem_append_right _ q) rfl ?_
  refine Ow.istoreN (pc' := 26) (Ls' := #[.val (.ref pa0), .val (.int (1 : Int32)), .val (.int px1)]) B e0_25 ?_
  refine blk_t hw B ⟨hk3, hk2⟩ (hk7) ?_
  refine Ow.iinc (pc' := 67) (y := (2 : Int32)) (Ls' := #[.val (.ref pa0), .val (.int (2 : Int32)), .val (.int px1)]) B e0_64 ?_
  refine Ow.goto (pc' := 12) B e0_67 ?_
  refine Ow.iloadN (pc' := 13) B e0_12 ?_
  refine Ow.aloadN (pc' := 14) B e0_13 ?_
  refine Ow.Go.old (fun o21 => ?_)
  refine Ow.callVirtual (pc' := 17) (W := 1) (k' := 0) (n' := 0) (argsL := []) (rest := [(.int (2 : Int32))]) (K := "java/lang/String") B e0_14 (w26 hw) (w27 hw) (w29 hw) (w29 hw) (w28 hw) (w3 hw) (w30 hw) (hf0).1 (con_length_52 hw G GS (pa0 := pa0) (pa1 := pa1) (px0 := px0) (px1 := px1) (px2 := px2) (pk0 := pk0) o21 hf0 (by omega) (by omega) hc_px0 hc_px1 hc_px2) pd3 ?_
  intro vq22 h23 S24 q22 zh23
  obtain ⟨rfl, rfl, rfl⟩ := q22
  refine Ow.Go.norm (S' := []) (st' := [(.int (3 : Int32)), (.int (2 : Int32))]) (fun _ q => List.mem_append_right _ q) rfl ?_
  refine Ow.icmpF (pc' := 20) B e0_17 (by decide) ?_
  refine Ow.aloadN (pc' := 21) B e0_20 ?_
  refine Ow.iloadN (pc' := 22) B e0_21 ?_
  refine Ow.Go.old (fun o25 => ?_)
  refine Ow.callVirtual (pc' := 25) (W := 0) (k' := 0) (n' := 0) (argsL := [(.int (2 : Int32))]) (rest := []) (K := "java/lang/String") B e0_22 (w55 hw) (w56 hw) (w58 hw) (w58 hw) (w57 hw) (w3 hw) (w59 hw) (hf0).1 (con_charAt_74 hw G GS (pa0 := pa0) (pa1 := pa1) (px0 := px0) (px1 := px1) (px2 := px2) (pk0 := pk0) o25 hf0 (by omega) (by omega) (hk4) (hk5) hc_px0 hc_px1 hc_px2) pd5 ?_
  intro vq26 h27 S28 q26 zh27
  obtain ⟨rfl, rfl, rfl⟩ := q26
  refine Ow.Go.norm (S' := []) (st' := [(.int px2)]) (fun _ q => List.mem_append_right _ q) rfl ?_
  refine Ow.istoreN (pc' := 26) (Ls' := #[.val (.ref pa0), .val (.int (2 : Int32)), .val (.int px2)]) B e0_25 ?_
  refine blk_t hw B ⟨hk5, hk4⟩ (hk8) ?_
  refine Ow.iinc (pc' := 67) (y := (3 : Int32)) (Ls' := #[.val (.ref pa0), .val (.int (3 : Int32)), .val (.int px2)]) B e0_64 ?_
  refine Ow.goto (pc' := 12) B e0_67 ?_
  refine Ow.iloadN (pc' := 13) B e0_12 ?_
  refine Ow.aloadN (pc' := 14) B e0_13 ?_
  refine Ow.Go.old (fun o29 => ?_)
  refine Ow.callVirtual (pc' := 17) (W := 1) (k' := 0) (n' := 0) (argsL := []) (rest := [(.int (3 : Int32))]) (K := "java/lang/String") B e0_14 (w26 hw) (w27 hw) (w29 hw) (w29 hw) (w28 hw) (w3 hw) (w30 hw) (hf0).1 (con_length_52 hw G GS (pa0 := pa0) (pa1 := pa1) (px0 := px0) (px1 := px1) (px2 := px2) (pk0 := pk0) o29 hf0 (by omega) (by omega) hc_px0 hc_px1 hc_px2) pd3 ?_
  intro vq30 h31 S32 q30 zh31
  obtain ⟨rfl, rfl, rfl⟩ := q30
  refine Ow.Go.norm (S' := []) (st' := [(.int (3 : Int32)), (.int (3 : Int32))]) (fun _ q => List.mem_append_right _ q) rfl ?_
  refine Ow.icmpT (pc' := 70) B e0_17 (by decide) ?_
  refine Ow.iconst (pc' := 71) (x := (1 : Int32)) B e0_70 ?_
  exact Ow.retI (S' := []) (t := .boolean) B e0_71 (⟨rfl, rfl, rfl⟩)
set_option maxRecDepth 65536 in
set_option maxHeartbeats 40000000 in
theorem con_compress_77 {l : Launch} {Z : State} {n0 : Nat} {a0 : Array Value} {cz : Int32} {sf : Value} (hw : Hw a0 Z) (G : Ow.Glo Z cz sf) (GS : GlS Z) {pa0 : Nat} {pa1 : Nat} {px0 : Int32} {px1 : Int32} {px2 : Int32} {px3 : Int32} {pk0 : ClassId} {pk1 : ClassId} {h0 : Heap} (O0 : Old Z n0 h0) (hf0 : Arv Z h0 pa0 pk0 .char (4 : Int32) [(.int px0), (.int px1), (.int px2), (.int px3)] (.int 0)) (hf1 : Arv Z h0 pa1 pk1 .byte (4 : Int32) [(.int (0 : Int32)), (.int (0 : Int32)), (.int (0 : Int32)), (.int (0 : Int32))] (.int 0)) (hn0 : n0 ≤ pa0) (hn1 : n0 ≤ pa1) (hd0 : pa0 ≠ pa1) (hc_px0 : nar .char px0 = px0) (hc_px1 : nar .char px1 = px1) (hc_px2 : nar .char px2 = px2) (hc_px3 : nar .char px3 = px3) :
    Ow.Con l Z EL1 n0 my6 jdk_52_method_21_code 7 (Option.some Jvm.ClassFile.FieldType.int) [] ({ frames := 0, cells := 0, slots := 0, locals := 0 } : Room) #[(.ref pa0), (.int (0 : Int32)), (.ref pa1), (.int (0 : Int32)), (.int (4 : Int32))] [pa1] h0 (fun v h S' => (v = some (.int (0 : Int32)) ∧ h = h0 ∧ (255 : Int32) < px0 ∧ S' = []) ∨ (v = some (.int (1 : Int32)) ∧ Keep h0 h [pa1] ∧ ¬ ((255 : Int32) < px0) ∧ (255 : Int32) < px1 ∧ Arv Z h pa1 pk1 .byte (4 : Int32) [(.int px0.toInt8.toInt32), (.int (0 : Int32)), (.int (0 : Int32)), (.int (0 : Int32))] (.int 0) ∧ S' = []) ∨ (v = some (.int (2 : Int32)) ∧ Keep h0 h [pa1] ∧ ¬ ((255 : Int32) < px0) ∧ ¬ ((255 : Int32) < px1) ∧ (255 : Int32) < px2 ∧ Arv Z h pa1 pk1 .byte (4 : Int32) [(.int px0.toInt8.toInt32), (.int px1.toInt8.toInt32), (.int (0 : Int32)), (.int (0 : Int32))] (.int 0) ∧ S' = []) ∨ (v = some (.int (3 : Int32)) ∧ Keep h0 h [pa1] ∧ ¬ ((255 : Int32) < px0) ∧ ¬ ((255 : Int32) < px1) ∧ ¬ ((255 : Int32) < px2) ∧ (255 : Int32) < px3 ∧ Arv Z h pa1 pk1 .byte (4 : Int32) [(.int px0.toInt8.toInt32), (.int px1.toInt8.toInt32), (.int px2.toInt8.toInt32), (.int (0 : Int32))] (.int 0) ∧ S' = []) ∨ (v = some (.int (4 : Int32)) ∧ Keep h0 h [pa1] ∧ ¬ ((255 : Int32) < px0) ∧ ¬ ((255 : Int32) < px1) ∧ ¬ ((255 : Int32) < px2) ∧ ¬ ((255 : Int32) < px3) ∧ Arv Z h pa1 pk1 .byte (4 : Int32) [(.int px0.toInt8.toInt32), (.int px1.toInt8.toInt32), (.int px2.toInt8.toInt32), (.int px3.toInt8.toInt32)] (.int 0) ∧ S' = [])) := by
  refine Ow.Con.enter (Ls := #[.val (.ref pa0), .val (.int (0 : Int32)), .val (.ref pa1), .val (.int (0 : Int32)), .val (.int (4 : Int32)), .unset, .unset]) (plainFor_of_name pn3) O0 (hEW hw) (hSA hw) ?_
  intro p e s m below meth c B
  have z0 := Ow.old_le O0
  have lpa0 : (pa0 : Nat) < h0.size := hf0.lt
  have lpa1 : (pa1 : Nat) < h0.size := hf1.lt
  refine Ow.iconst (pc' := 1) (x := (0 : Int32)) B e7_0 ?_
  refine Ow.istore (pc' := 3) (Ls' := #[.val (.ref pa0), .val (.int (0 : Int32)), .val (.ref pa1), .val (.int (0 : Int32)), .val (.int (4 : Int32)), .val (.int (0 : Int32)), .unset]) B e7_1 ?_
  refine Ow.iload (pc' := 5) B e7_3 ?_
  refine Ow.iload (pc' := 7) B e7_5 ?_
  refine Ow.icmpF (pc' := 10) B e7_7 (by decide) ?_
  refine Ow.aloadN (pc' := 11) B e7_10 ?_
  refine Ow.iloadN (pc' := 12) B e7_11 ?_
  refine Ow.caload (pc' := 13) B e7_12 hf0 ⟨by decide, by decide⟩ rfl ?_
  refine Ow.istore (pc' := 15) (Ls' := #[.val (.ref pa0), .val (.int (0 : Int32)), .val (.ref pa1), .val (.int (0 : Int32)), .val (.int (4 : Int32)), .val (.int (0 : Int32)), .val (.int px0)]) B e7_13 ?_
  refine Ow.iload (pc' := 17) B e7_15 ?_
  refine Ow.sipush (pc' := 20) (x := (255 : Int32)) B e7_17 ?_
  by_cases c1 : (255 : Int32) < px0
  · refine Ow.icmpF (pc' := 23) B e7_20 (tlt c1).2.2.2 ?_
    refine Ow.iload (pc' := 25) B e7_23 ?_
    exact Ow.retI (S' := []) (t := .int) B e7_25 (Or.inl (⟨rfl, rfl, c1, rfl⟩))
  · refine Ow.icmpT (pc' := 26) B e7_20 (flt c1).2.2.2 ?_
    refine Ow.aloadN (pc' := 27) B e7_26 ?_
    refine Ow.iloadN (pc' := 28) B e7_27 ?_
    refine Ow.iload (pc' := 30) B e7_28 ?_
    refine Ow.i2b (pc' := 31) (z := px0.toInt8.toInt32) B e7_30 ?_
    refine Ow.bastore (pc' := 32) (i := 0) B e7_31 hf1 ⟨by decide, by decide⟩ (by simp) ?_
    intro h2 Kh2 V0h2
    have zh2 := Kh2.1
    have V3 : Arv Z h2 pa1 pk1 .byte (4 : Int32) [(.int px0.toInt8.toInt32), (.int (0 : Int32)), (.int (0 : Int32)), (.int (0 : Int32))] (.int 0) := (by have e0 := V0h2; rw [show nar .byte px0.toInt8.toInt32 = px0.toInt8.toInt32 from Ow.nar_b _] at e0; exact e0)
    refine Ow.iinc (pc' := 35) (y := (1 : Int32)) (Ls' := #[.val (.ref pa0), .val (.int (1 : Int32)), .val (.ref pa1), .val (.int (0 : Int32)), .val (.int (4 : Int32)), .val (.int (0 : Int32)), .val (.int px0)]) B e7_32 ?_
    refine Ow.iinc (pc' := 38) (y := (1 : Int32)) (Ls' := #[.val (.ref pa0), .val (.int (1 : Int32)), .val (.ref pa1), .val (.int (1 : Int32)), .val (.int (4 : Int32)), .val (.int (0 : Int32)), .val (.int px0)]) B e7_35 ?_
    refine Ow.iinc (pc' := 41) (y := (1 : Int32)) (Ls' := #[.val (.ref pa0), .val (.int (1 : Int32)), .val (.ref pa1), .val (.int (1 : Int32)), .val (.int (4 : Int32)), .val (.int (1 : Int32)), .val (.int px0)]) B e7_38 ?_
    refine Ow.goto (pc' := 3) B e7_41 ?_
    refine Ow.iload (pc' := 5) B e7_3 ?_
    refine Ow.iload (pc' := 7) B e7_5 ?_
    refine Ow.icmpF (pc' := 10) B e7_7 (by decide) ?_
    refine Ow.aloadN (pc' := 11) B e7_10 ?_
    refine Ow.iloadN (pc' := 12) B e7_11 ?_
    have f4 := hf0.keep Kh2 (Ow.ninS (by omega) Ow.nin0)
    refine Ow.caload (pc' := 13) B e7_12 f4 ⟨by decide, by decide⟩ rfl ?_
    refine Ow.istore (pc' := 15) (Ls' := #[.val (.ref pa0), .val (.int (1 : Int32)), .val (.ref pa1), .val (.int (1 : Int32)), .val (.int (4 : Int32)), .val (.int (1 : Int32)), .val (.int px1)]) B e7_13 ?_
    refine Ow.iload (pc' := 17) B e7_15 ?_
    refine Ow.sipush (pc' := 20) (x := (255 : Int32)) B e7_17 ?_
    by_cases c5 : (255 : Int32) < px1
    · refine Ow.icmpF (pc' := 23) B e7_20 (tlt c5).2.2.2 ?_
      refine Ow.iload (pc' := 25) B e7_23 ?_
      exact Ow.retI (S' := []) (t := .int) B e7_25 (Or.inr (Or.inl (⟨rfl, ((Keep.refl _ [pa1]).trans Kh2 (allS (Or.inl (by simp)) all0)), c1, c5, V3, rfl⟩)))
    · refine Ow.icmpT (pc' := 26) B e7_20 (flt c5).2.2.2 ?_
      refine Ow.aloadN (pc' := 27) B e7_26 ?_
      refine Ow.iloadN (pc' := 28) B e7_27 ?_
      refine Ow.iload (pc' := 30) B e7_28 ?_
      refine Ow.i2b (pc' := 31) (z := px1.toInt8.toInt32) B e7_30 ?_
      refine Ow.bastore (pc' := 32) (i := 1) B e7_31 V3 ⟨by decide, by decide⟩ (by simp) ?_
      intro h6 Kh6 V0h6
      have zh6 := Kh6.1
      have V7 : Arv Z h6 pa1 pk1 .byte (4 : Int32) [(.int px0.toInt8.toInt32), (.int px1.toInt8.toInt32), (.int (0 : Int32)), (.int (0 : Int32))] (.int 0) := (by have e0 := V0h6; rw [show nar .byte px1.toInt8.toInt32 = px1.toInt8.toInt32 from Ow.nar_b _] at e0; exact e0)
      refine Ow.iinc (pc' := 35) (y := (2 : Int32)) (Ls' := #[.val (.ref pa0), .val (.int (2 : Int32)), .val (.ref pa1), .val (.int (1 : Int32)), .val (.int (4 : Int32)), .val (.int (1 : Int32)), .val (.int px1)]) B e7_32 ?_
      refine Ow.iinc (pc' := 38) (y := (2 : Int32)) (Ls' := #[.val (.ref pa0), .val (.int (2 : Int32)), .val (.ref pa1), .val (.int (2 : Int32)), .val (.int (4 : Int32)), .val (.int (1 : Int32)), .val (.int px1)]) B e7_35 ?_
      refine Ow.iinc (pc' := 41) (y := (2 : Int32)) (Ls' := #[.val (.ref pa0), .val (.int (2 : Int32)), .val (.ref pa1), .val (.int (2 : Int32)), .val (.int (4 : Int32)), .val (.int (2 : Int32)), .val (.int px1)]) B e7_38 ?_
      refine Ow.goto (pc' := 3) B e7_41 ?_
      refine Ow.iload (pc' := 5) B e7_3 ?_
      refine Ow.iload (pc' := 7) B e7_5 ?_
      refine Ow.icmpF (pc' := 10) B e7_7 (by decide) ?_
      refine Ow.aloadN (pc' := 11) B e7_10 ?_
      refine Ow.iloadN (pc' := 12) B e7_11 ?_
      have f8 := f4.keep Kh6 (Ow.ninS (by omega) Ow.nin0)
      refine Ow.caload (pc' := 13) B e7_12 f8 ⟨by decide, by decide⟩ rfl ?_
      refine Ow.istore (pc' := 15) (Ls' := #[.val (.ref pa0), .val (.int (2 : Int32)), .val (.ref pa1), .val (.int (2 : Int32)), .val (.int (4 : Int32)), .val (.int (2 : Int32)), .val (.int px2)]) B e7_13 ?_
      refine Ow.iload (pc' := 17) B e7_15 ?_
      refine Ow.sipush (pc' := 20) (x := (255 : Int32)) B e7_17 ?_
      by_cases c9 : (255 : Int32) < px2
      · refine Ow.icmpF (pc' := 23) B e7_20 (tlt c9).2.2.2 ?_
        refine Ow.iload (pc' := 25) B e7_23 ?_
        exact Ow.retI (S' := []) (t := .int) B e7_25 (Or.inr (Or.inr (Or.inl (⟨rfl, (((Keep.refl _ [pa1]).trans Kh2 (allS (Or.inl (by simp)) all0)).trans Kh6 (allS (Or.inl (by simp)) all0)), c1, c5, c9, V7, rfl⟩))))
      · refine Ow.icmpT (pc' := 26) B e7_20 (flt c9).2.2.2 ?_
        refine Ow.aloadN (pc' := 27) B e7_26 ?_
        refine Ow.iloadN (pc' := 28) B e7_27 ?_
        refine Ow.iload (pc' := 30) B e7_28 ?_
        refine Ow.i2b (pc' := 31) (z := px2.toInt8.toInt32) B e7_30 ?_
        refine Ow.bastore (pc' := 32) (i := 2) B e7_31 V7 ⟨by decide, by decide⟩ (by simp) ?_
        intro h10 Kh10 V0h10
        have zh10 := Kh10.1
        have V11 : Arv Z h10 pa1 pk1 .byte (4 : Int32) [(.int px0.toInt8.toInt32), (.int px1.toInt8.toInt32), (.int px2.toInt8.toInt32), (.int (0 : Int32))] (.int 0) := (by have e0 := V0h10; rw [show nar .byte px2.toInt8.toInt32 = px2.toInt8.toInt32 from Ow.nar_b _] at e0; exact e0)
        refine Ow.iinc (pc' := 35) (y := (3 : Int32)) (Ls' := #[.val (.ref pa0), .val (.int (3 : Int32)), .val (.ref pa1), .val (.int (2 : Int32)), .val (.int (4 : Int32)), .val (.int (2 : Int32)), .val (.int px2)]) B e7_32 ?_
        refine Ow.iinc (pc' := 38) (y := (3 : Int32)) (Ls' := #[.val (.ref pa0), .val (.int (3 : Int32)), .val (.ref pa1), .val (.int (3 : Int32)), .val (.int (4 : Int32)), .val (.int (2 : Int32)), .val (.int px2)]) B e7_35 ?_
        refine Ow.iinc (pc' := 41) (y := (3 : Int32)) (Ls' := #[.val (.ref pa0), .val (.int (3 : Int32)), .val (.ref pa1), .val (.int (3 : Int32)), .val (.int (4 : Int32)), .val (.int (3 : Int32)), .val (.int px2)]) B e7_38 ?_
        refine Ow.goto (pc' := 3) B e7_41 ?_
        refine Ow.iload (pc' := 5) B e7_3 ?_
        refine Ow.iload (pc' := 7) B e7_5 ?_
        refine Ow.icmpF (pc' := 10) B e7_7 (by decide) ?_
        refine Ow.aloadN (pc' := 11) B e7_10 ?_
        refine Ow.iloadN (pc' := 12) B e7_11 ?_
        have f12 := f8.keep Kh10 (Ow.ninS (by omega) Ow.nin0)
        refine Ow.caload (pc' := 13) B e7_12 f12 ⟨by decide, by decide⟩ rfl ?_
        refine Ow.istore (pc' := 15) (Ls' := #[.val (.ref pa0), .val (.int (3 : Int32)), .val (.ref pa1), .val (.int (3 : Int32)), .val (.int (4 : Int32)), .val (.int (3 : Int32)), .val (.int px3)]) B e7_13 ?_
        refine Ow.iload (pc' := 17) B e7_15 ?_
        refine Ow.sipush (pc' := 20) (x := (255 : Int32)) B e7_17 ?_
        by_cases c13 : (255 : Int32) < px3
        · refine Ow.icmpF (pc' := 23) B e7_20 (tlt c13).2.2.2 ?_
          refine Ow.iload (pc' := 25) B e7_23 ?_
          exact Ow.retI (S' := []) (t := .int) B e7_25 (Or.inr (Or.inr (Or.inr (Or.inl (⟨rfl, ((((Keep.refl _ [pa1]).trans Kh2 (allS (Or.inl (by simp)) all0)).trans Kh6 (allS (Or.inl (by simp)) all0)).trans Kh10 (allS (Or.inl (by simp)) all0)), c1, c5, c9, c13, V11, rfl⟩)))))
        · refine Ow.icmpT (pc' := 26) B e7_20 (flt c13).2.2.2 ?_
          refine Ow.aloadN (pc' := 27) B e7_26 ?_
          refine Ow.iloadN (pc' := 28) B e7_27 ?_
          refine Ow.iload (pc' := 30) B e7_28 ?_
          refine Ow.i2b (pc' := 31) (z := px3.toInt8.toInt32) B e7_30 ?_
          refine Ow.bastore (pc' := 32) (i := 3) B e7_31 V11 ⟨by decide, by decide⟩ (by simp) ?_
          intro h14 Kh14 V0h14
          have zh14 := Kh14.1
          have V15 : Arv Z h14 pa1 pk1 .byte (4 : Int32) [(.int px0.toInt8.toInt32), (.int px1.toInt8.toInt32), (.int px2.toInt8.toInt32), (.int px3.toInt8.toInt32)] (.int 0) := (by have e0 := V0h14; rw [show nar .byte px3.toInt8.toInt32 = px3.toInt8.toInt32 from Ow.nar_b _] at e0; exact e0)
          refine Ow.iinc (pc' := 35) (y := (4 : Int32)) (Ls' := #[.val (.ref pa0), .val (.int (4 : Int32)), .val (.ref pa1), .val (.int (3 : Int32)), .val (.int (4 : Int32)), .val (.int (3 : Int32)), .val (.int px3)]) B e7_32 ?_
          refine Ow.iinc (pc' := 38) (y := (4 : Int32)) (Ls' := #[.val (.ref pa0), .val (.int (4 : Int32)), .val (.ref pa1), .val (.int (4 : Int32)), .val (.int (4 : Int32)), .val (.int (3 : Int32)), .val (.int px3)]) B e7_35 ?_
          refine Ow.iinc (pc' := 41) (y := (4 : Int32)) (Ls' := #[.val (.ref pa0), .val (.int (4 : Int32)), .val (.ref pa1), .val (.int (4 : Int32)), .val (.int (4 : Int32)), .val (.int (4 : Int32)), .val (.int px3)]) B e7_38 ?_
          refine Ow.goto (pc' := 3) B e7_41 ?_
          refine Ow.iload (pc' := 5) B e7_3 ?_
          refine Ow.iload (pc' := 7) B e7_5 ?_
          refine Ow.icmpT (pc' := 44) B e7_7 (by decide) ?_
          refine Ow.iload (pc' := 46) B e7_44 ?_
          exact Ow.retI (S' := []) (t := .int) B e7_46 (Or.inr (Or.inr (Or.inr (Or.inr (⟨rfl, (((((Keep.refl _ [pa1]).trans Kh2 (allS (Or.inl (by simp)) all0)).trans Kh6 (allS (Or.inl (by simp)) all0)).trans Kh10 (allS (Or.inl (by simp)) all0)).trans Kh14 (allS (Or.inl (by simp)) all0)), c1, c5, c9, c13, V15, rfl⟩)))))
set_option maxRecDepth 65536 in
set_option maxHeartbeats 40000000 in
theorem con_newBytesLength_78 {l : Launch} {Z : State} {n0 : Nat} {a0 : Array Value} {cz : Int32} {sf : Value} (hw : Hw a0 Z) (G : Ow.Glo Z cz sf) (GS : GlS Z) {h0 : Heap} (O0 : Old Z n0 h0) :
    Ow.Con l Z EL1 n0 my7 jdk_52_method_3_code 1 (Option.some Jvm.ClassFile.FieldType.int) [] ({ frames := 0, cells := 0, slots := 0, locals := 0 } : Room) #[(.int (4 : Int32))] [] h0 (fun v h S' => (v = some (.int (8 : Int32)) ∧ h = h0 ∧ S' = [])) := by
  refine Ow.Con.enter (Ls := #[.val (.int (4 : Int32))]) (plainFor_of_name pn3) O0 (hEW hw) (hSA hw) ?_
  intro p e s m below meth c B
  have z0 := Ow.old_le O0
  refine Ow.iloadN (pc' := 1) B e10_0 ?_
  refine Ow.ifT (pc' := 12) B e10_1 (by decide) ?_
  refine Ow.iloadN (pc' := 13) B e10_12 ?_
  refine Ow.ldcInt (pc' := 15) B e10_13 (w86 hw) ?_
  refine Ow.icmpT (pc' := 55) B e10_15 (by decide) ?_
  refine Ow.iloadN (pc' := 56) B e10_55 ?_
  refine Ow.iconst (pc' := 57) (x := (1 : Int32)) B e10_56 ?_
  refine Ow.ishl (pc' := 58) (z := (8 : Int32)) B e10_57 ?_
  exact Ow.retI (S' := []) (t := .int) B e10_58 (⟨rfl, rfl, rfl⟩)
set_option maxRecDepth 65536 in
set_option maxHeartbeats 40000000 in
theorem con_newBytesFor_79 {l : Launch} {Z : State} {n0 : Nat} {a0 : Array Value} {cz : Int32} {sf : Value} (hw : Hw a0 Z) (G : Ow.Glo Z cz sf) (GS : GlS Z) {h0 : Heap} (O0 : Old Z n0 h0) :
    Ow.Con l Z EL1 n0 my8 jdk_52_method_2_code 1 (Option.some (Jvm.ClassFile.FieldType.array Jvm.ClassFile.FieldType.byte)) [] ({ frames := 1, cells := 1, slots := 8, locals := 12 } : Room) #[(.int (4 : Int32))] [] h0 (fun v h S' => (∃ r0 : Nat, ∃ k0 : ClassId, v = some (.ref r0) ∧ Keep h0 h [] ∧ h0.size ≤ r0 ∧ Arv Z h r0 k0 .byte (8 : Int32) [(.int (0 : Int32)), (.int (0 : Int32)), (.int (0 : Int32)), (.int (0 : Int32)), (.int (0 : Int32)), (.int (0 : Int32)), (.int (0 : Int32)), (.int (0 : Int32))] (.int 0) ∧ S' = [r0])) := by
  refine Ow.Con.enter (Ls := #[.val (.int (4 : Int32))]) (plainFor_of_name pn3) O0 (hEW hw) (hSA hw) ?_
  intro p e s m below meth c B
  have z0 := Ow.old_le O0
  refine Ow.iloadN (pc' := 1) B e9_0 ?_
  refine Ow.Go.old (fun o1 => ?_)
  refine Ow.callStatic (pc' := 4) (W := 0) (k' := 0) (n' := 0) (argsL := [(.int (4 : Int32))]) (rest := []) B e9_1 (w83 hw) (w84 hw) (w44 hw) (w85 hw) (con_newBytesLength_78 hw G GS o1) pd7 ?_
  intro vq2 h3 S4 q2 zh3
  obtain ⟨rfl, rfl, rfl⟩ := q2
  refine Ow.Go.norm (S' := []) (st' := [(.int (8 : Int32))]) (fun _ q => List.mem_append_right _ q) rfl ?_
  refine Ow.newArr (pc' := 6) (k' := 1) (n' := 8) (cap := 8) B e9_4 (w15 hw) (by decide) (by decide) ?_
  intro h6 a5 ka5 ga5 ba5 Kh6 V0a5
  have zh6 := Kh6.1
  have la5 : (a5 : Nat) < h6.size := V0a5.lt
  have Va5 : Arv Z h6 a5 ka5 .byte (8 : Int32) [(.int 0), (.int 0), (.int 0), (.int 0), (.int 0), (.int 0), (.int 0), (.int 0)] (.int 0) := V0a5.pad (pad_rep [] (.int 0) 8)
  exact Ow.retA (S' := [a5]) (t := (.array .byte)) B e9_6 (⟨a5, ka5, rfl, ((Keep.refl _ []).trans Kh6 (fun _ q => nomatch q)), (by omega), Va5, rfl⟩)
set_option maxRecDepth 65536 in
set_option maxHeartbeats 40000000 in
theorem con_putChar_80 {l : Launch} {Z : State} {n0 : Nat} {a0 : Array Value} {cz : Int32} {sf : Value} (hw : Hw a0 Z) (G : Ow.Glo Z cz sf) (GS : GlS Z) {pa0 : Nat} {px0 : Int32} {pk0 : ClassId} {h0 : Heap} (O0 : Old Z n0 h0) (hf0 : Arv Z h0 pa0 pk0 .byte (8 : Int32) [(.int (0 : Int32)), (.int (0 : Int32)), (.int (0 : Int32)), (.int (0 : Int32)), (.int (0 : Int32)), (.int (0 : Int32)), (.int (0 : Int32)), (.int (0 : Int32))] (.int 0)) (hn0 : n0 ≤ pa0) (hc_px0 : nar .char px0 = px0) :
    Ow.Con l Z EL1 n0 my9 jdk_52_method_4_code 3 (Option.none : Option Jvm.ClassFile.FieldType) [] ({ frames := 0, cells := 0, slots := 0, locals := 0 } : Room) #[(.ref pa0), (.int (0 : Int32)), (.int px0)] [pa0] h0 (fun v h S' => (v = none ∧ Keep h0 h [pa0] ∧ Arv Z h pa0 pk0 .byte (8 : Int32) [(.int px0.toInt8.toInt32), (.int (px0 >>> ((8 : Int32) &&& 31)).toInt8.toInt32), (.int (0 : Int32)), (.int (0 : Int32)), (.int (0 : Int32)), (.int (0 : Int32)), (.int (0 : Int32)), (.int (0 : Int32))] (.int 0) ∧ S' = [])) := by
  refine Ow.Con.enter (Ls := #[.val (.ref pa0), .val (.int (0 : Int32)), .val (.int px0)]) (plainFor_of_name pn3) O0 (hEW hw) (hSA hw) ?_
  intro p e s m below meth c B
  have z0 := Ow.old_le O0
  have lpa0 : (pa0 : Nat) < h0.size := hf0.lt
  refine Ow.getstatic (pc' := 3) B e11_0 (w90 hw) Via.refl GS.1 ?_
  refine Ow.ifT (pc' := 28) B e11_3 (by decide) ?_
  refine Ow.iloadN (pc' := 29) B e11_28 ?_
  refine Ow.iconst (pc' := 30) (x := (1 : Int32)) B e11_29 ?_
  refine Ow.ishl (pc' := 31) (z := (0 : Int32)) B e11_30 ?_
  refine Ow.istoreN (pc' := 32) (Ls' := #[.val (.ref pa0), .val (.int (0 : Int32)), .val (.int px0)]) B e11_31 ?_
  refine Ow.aloadN (pc' := 33) B e11_32 ?_
  refine Ow.iloadN (pc' := 34) B e11_33 ?_
  refine Ow.iinc (pc' := 37) (y := (1 : Int32)) (Ls' := #[.val (.ref pa0), .val (.int (1 : Int32)), .val (.int px0)]) B e11_34 ?_
  refine Ow.iloadN (pc' := 38) B e11_37 ?_
  refine Ow.getstatic (pc' := 41) B e11_38 (w91 hw) Via.refl GS.2.1 ?_
  refine Ow.ishr (pc' := 42) (z := px0) (hz := (Ow.shr0 _)) B e11_41 ?_
  refine Ow.i2b (pc' := 43) (z := px0.toInt8.toInt32) B e11_42 ?_
  refine Ow.bastore (pc' := 44) (i := 0) B e11_43 hf0 ⟨by decide, by decide⟩ (by simp) ?_
  intro h1 Kh1 V0h1
  have zh1 := Kh1.1
  have V2 : Arv Z h1 pa0 pk0 .byte (8 : Int32) [(.int px0.toInt8.toInt32), (.int (0 : Int32)), (.int (0 : Int32)), (.int (0 : Int32)), (.int (0 : Int32)), (.int (0 : Int32)), (.int (0 : Int32)), (.int (0 : Int32))] (.int 0) := (by have e0 := V0h1; rw [show nar .byte px0.toInt8.toInt32 = px0.toInt8.toInt32 from Ow.nar_b _] at e0; exact e0)
  refine Ow.aloadN (pc' := 45) B e11_44 ?_
  refine Ow.iloadN (pc' := 46) B e11_45 ?_
  refine Ow.iloadN (pc' := 47) B e11_46 ?_
  refine Ow.getstatic (pc' := 50) B e11_47 (w92 hw) Via.refl GS.2.2 ?_
  refine Ow.ishr (pc' := 51) (z := (px0 >>> ((8 : Int32) &&& 31))) B e11_50 ?_
  refine Ow.i2b (pc' := 52) (z := (px0 >>> ((8 : Int32) &&& 31)).toInt8.toInt32) B e11_51 ?_
  refine Ow.bastore (pc' := 53) (i := 1) B e11_52 V2 ⟨by decide, by decide⟩ (by simp) ?_
  intro h3 Kh3 V0h3
  have zh3 := Kh3.1
  have V4 : Arv Z h3 pa0 pk0 .byte (8 : Int32) [(.int px0.toInt8.toInt32), (.int (px0 >>> ((8 : Int32) &&& 31)).toInt8.toInt32), (.int (0 : Int32)), (.int (0 : Int32)), (.int (0 : Int32)), (.int (0 : Int32)), (.int (0 : Int32)), (.int (0 : Int32))] (.int 0) := (by have e0 := V0h3; rw [show nar .byte (px0 >>> ((8 : Int32) &&& 31)).toInt8.toInt32 = (px0 >>> ((8 : Int32) &&& 31)).toInt8.toInt32 from Ow.nar_b _] at e0; exact e0)
  exact Ow.retV (S' := []) B e11_53 (⟨rfl, (((Keep.refl _ [pa0]).trans Kh1 (allS (Or.inl (by simp)) all0)).trans Kh3 (allS (Or.inl (by simp)) all0)), V4, rfl⟩)
set_option maxRecDepth 65536 in
set_option maxHeartbeats 40000000 in
theorem con_putChar_81 {l : Launch} {Z : State} {n0 : Nat} {a0 : Array Value} {cz : Int32} {sf : Value} (hw : Hw a0 Z) (G : Ow.Glo Z cz sf) (GS : GlS Z) {pa0 : Nat} {px0 : Int32} {px1 : Int32} {pk0 : ClassId} {h0 : Heap} (O0 : Old Z n0 h0) (hf0 : Arv Z h0 pa0 pk0 .byte (8 : Int32) [(.int px1.toInt8.toInt32), (.int (px1 >>> ((8 : Int32) &&& 31)).toInt8.toInt32), (.int (0 : Int32)), (.int (0 : Int32)), (.int (0 : Int32)), (.int (0 : Int32)), (.int (0 : Int32)), (.int (0 : Int32))] (.int 0)) (hn0 : n0 ≤ pa0) (hc_px0 : nar .char px0 = px0) (hc_px1 : nar .char px1 = px1) :
    Ow.Con l Z EL1 n0 my9 jdk_52_method_4_code 3 (Option.none : Option Jvm.ClassFile.FieldType) [] ({ frames := 0, cells := 0, slots := 0, locals := 0 } : Room) #[(.ref pa0), (.int (1 : Int32)), (.int px0)] [pa0] h0 (fun v h S' => (v = none ∧ Keep h0 h [pa0] ∧ Arv Z h pa0 pk0 .byte (8 : Int32) [(.int px1.toInt8.toInt32), (.int (px1 >>> ((8 : Int32) &&& 31)).toInt8.toInt32), (.int px0.toInt8.toInt32), (.int (px0 >>> ((8 : Int32) &&& 31)).toInt8.toInt32), (.int (0 : Int32)), (.int (0 : Int32)), (.int (0 : Int32)), (.int (0 : Int32))] (.int 0) ∧ S' = [])) := by
  refine Ow.Con.enter (Ls := #[.val (.ref pa0), .val (.int (1 : Int32)), .val (.int px0)]) (plainFor_of_name pn3) O0 (hEW hw) (hSA hw) ?_
  intro p e s m below meth c B
  have z0 := Ow.old_le O0
  have lpa0 : (pa0 : Nat) < h0.size := hf0.lt
  refine Ow.getstatic (pc' := 3) B e11_0 (w90 hw) Via.refl GS.1 ?_
  refine Ow.ifT (pc' := 28) B e11_3 (by decide) ?_
  refine Ow.iloadN (pc' := 29) B e11_28 ?_
  refine Ow.iconst (pc' := 30) (x := (1 : Int32)) B e11_29 ?_
  refine Ow.ishl (pc' := 31) (z := (2 : Int32)) B e11_30 ?_
  refine Ow.istoreN (pc' := 32) (Ls' := #[.val (.ref pa0), .val (.int (2 : Int32)), .val (.int px0)]) B e11_31 ?_
  refine Ow.aloadN (pc' := 33) B e11_32 ?_
  refine Ow.iloadN (pc' := 34) B e11_33 ?_
  refine Ow.iinc (pc' := 37) (y := (3 : Int32)) (Ls' := #[.val (.ref pa0), .val (.int (3 : Int32)), .val (.int px0)]) B e11_34 ?_
  refine Ow.iloadN (pc' := 38) B e11_37 ?_
  refine Ow.getstatic (pc' := 41) B e11_38 (w91 hw) Via.refl GS.2.1 ?_
  refine Ow.ishr (pc' := 42) (z := px0) (hz := (Ow.shr0 _)) B e11_41 ?_
  refine Ow.i2b (pc' := 43) (z := px0.toInt8.toInt32) B e11_42 ?_
  refine Ow.bastore (pc' := 44) (i := 2) B e11_43 hf0 ⟨by decide, by decide⟩ (by simp) ?_
  intro h1 Kh1 V0h1
  have zh1 := Kh1.1
  have V2 : Arv Z h1 pa0 pk0 .byte (8 : Int32) [(.int px1.toInt8.toInt32), (.int (px1 >>> ((8 : Int32) &&& 31)).toInt8.toInt32), (.int px0.toInt8.toInt32), (.int (0 : Int32)), (.int (0 : Int32)), (.int (0 : Int32)), (.int (0 : Int32)), (.int (0 : Int32))] (.int 0) := (by have e0 := V0h1; rw [show nar .byte px0.toInt8.toInt32 = px0.toInt8.toInt32 from Ow.nar_b _] at e0; exact e0)
  refine Ow.aloadN (pc' := 45) B e11_44 ?_
  refine Ow.iloadN (pc' := 46) B e11_45 ?_
  refine Ow.iloadN (pc' := 47) B e11_46 ?_
  refine Ow.getstatic (pc' := 50) B e11_47 (w92 hw) Via.refl GS.2.2 ?_
  refine Ow.ishr (pc' := 51) (z := (px0 >>> ((8 : Int32) &&& 31))) B e11_50 ?_
  refine Ow.i2b (pc' := 52) (z := (px0 >>> ((8 : Int32) &&& 31)).toInt8.toInt32) B e11_51 ?_
  refine Ow.bastore (pc' := 53) (i := 3) B e11_52 V2 ⟨by decide, by decide⟩ (by simp) ?_
  intro h3 Kh3 V0h3
  have zh3 := Kh3.1
  have V4 : Arv Z h3 pa0 pk0 .byte (8 : Int32) [(.int px1.toInt8.toInt32), (.int (px1 >>> ((8 : Int32) &&& 31)).toInt8.toInt32), (.int px0.toInt8.toInt32), (.int (px0 >>> ((8 : Int32) &&& 31)).toInt8.toInt32), (.int (0 : Int32)), (.int (0 : Int32)), (.int (0 : Int32)), (.int (0 : Int32))] (.int 0) := (by have e0 := V0h3; rw [show nar .byte (px0 >>> ((8 : Int32) &&& 31)).toInt8.toInt32 = (px0 >>> ((8 : Int32) &&& 31)).toInt8.toInt32 from Ow.nar_b _] at e0; exact e0)
  exact Ow.retV (S' := []) B e11_53 (⟨rfl, (((Keep.refl _ [pa0]).trans Kh1 (allS (Or.inl (by simp)) all0)).trans Kh3 (allS (Or.inl (by simp)) all0)), V4, rfl⟩)
set_option maxRecDepth 65536 in
set_option maxHeartbeats 40000000 in
theorem con_putChar_82 {l : Launch} {Z : State} {n0 : Nat} {a0 : Array Value} {cz : Int32} {sf : Value} (hw : Hw a0 Z) (G : Ow.Glo Z cz sf) (GS : GlS Z) {pa0 : Nat} {px0 : Int32} {px1 : Int32} {px2 : Int32} {pk0 : ClassId} {h0 : Heap} (O0 : Old Z n0 h0) (hf0 : Arv Z h0 pa0 pk0 .byte (8 : Int32) [(.int px1.toInt8.toInt32), (.int (px1 >>> ((8 : Int32) &&& 31)).toInt8.toInt32), (.int px2.toInt8.toInt32), (.int (px2 >>> ((8 : Int32) &&& 31)).toInt8.toInt32), (.int (0 : Int32)), (.int (0 : Int32)), (.int (0 : Int32)), (.int (0 : Int32))] (.int 0)) (hn0 : n0 ≤ pa0) (hc_px0 : nar .char px0 = px0) (hc_px1 : nar .char px1 = px1) (hc_px2 : nar .char px2 = px2) :
    Ow.Con l Z EL1 n0 my9 jdk_52_method_4_code 3 (Option.none : Option Jvm.ClassFile.FieldType) [] ({ frames := 0, cells := 0, slots := 0, locals := 0 } : Room) #[(.ref pa0), (.int (2 : Int32)), (.int px0)] [pa0] h0 (fun v h S' => (v = none ∧ Keep h0 h [pa0] ∧ Arv Z h pa0 pk0 .byte (8 : Int32) [(.int px1.toInt8.toInt32), (.int (px1 >>> ((8 : Int32) &&& 31)).toInt8.toInt32), (.int px2.toInt8.toInt32), (.int (px2 >>> ((8 : Int32) &&& 31)).toInt8.toInt32), (.int px0.toInt8.toInt32), (.int (px0 >>> ((8 : Int32) &&& 31)).toInt8.toInt32), (.int (0 : Int32)), (.int (0 : Int32))] (.int 0) ∧ S' = [])) := by
  refine Ow.Con.enter (Ls := #[.val (.ref pa0), .val (.int (2 : Int32)), .val (.int px0)]) (plainFor_of_name pn3) O0 (hEW hw) (hSA hw) ?_
  intro p e s m below meth c B
  have z0 := Ow.old_le O0
  have lpa0 : (pa0 : Nat) < h0.size := hf0.lt
  refine Ow.getstatic (pc' := 3) B e11_0 (w90 hw) Via.refl GS.1 ?_
  refine Ow.ifT (pc' := 28) B e11_3 (by decide) ?_
  refine Ow.iloadN (pc' := 29) B e11_28 ?_
  refine Ow.iconst (pc' := 30) (x := (1 : Int32)) B e11_29 ?_
  refine Ow.ishl (pc' := 31) (z := (4 : Int32)) B e11_30 ?_
  refine Ow.istoreN (pc' := 32) (Ls' := #[.val (.ref pa0), .val (.int (4 : Int32)), .val (.int px0)]) B e11_31 ?_
  refine Ow.aloadN (pc' := 33) B e11_32 ?_
  refine Ow.iloadN (pc' := 34) B e11_33 ?_
  refine Ow.iinc (pc' := 37) (y := (5 : Int32)) (Ls' := #[.val (.ref pa0), .val (.int (5 : Int32)), .val (.int px0)]) B e11_34 ?_
  refine Ow.iloadN (pc' := 38) B e11_37 ?_
  refine Ow.getstatic (pc' := 41) B e11_38 (w91 hw) Via.refl GS.2.1 ?_
  refine Ow.ishr (pc' := 42) (z := px0) (hz := (Ow.shr0 _)) B e11_41 ?_
  refine Ow.i2b (pc' := 43) (z := px0.toInt8.toInt32) B e11_42 ?_
  refine Ow.bastore (pc' := 44) (i := 4) B e11_43 hf0 ⟨by decide, by decide⟩ (by simp) ?_
  intro h1 Kh1 V0h1
  have zh1 := Kh1.1
  have V2 : Arv Z h1 pa0 pk0 .byte (8 : Int32) [(.int px1.toInt8.toInt32), (.int (px1 >>> ((8 : Int32) &&& 31)).toInt8.toInt32), (.int px2.toInt8.toInt32), (.int (px2 >>> ((8 : Int32) &&& 31)).toInt8.toInt32), (.int px0.toInt8.toInt32), (.int (0 : Int32)), (.int (0 : Int32)), (.int (0 : Int32))] (.int 0) := (by have e0 := V0h1; rw [show nar .byte px0.toInt8.toInt32 = px0.toInt8.toInt32 from Ow.nar_b _] at e0; exact e0)
  refine Ow.aloadN (pc' := 45) B e11_44 ?_
  refine Ow.iloadN (pc' := 46) B e11_45 ?_
  refine Ow.iloadN (pc' := 47) B e11_46 ?_
  refine Ow.getstatic (pc' := 50) B e11_47 (w92 hw) Via.refl GS.2.2 ?_
  refine Ow.ishr (pc' := 51) (z := (px0 >>> ((8 : Int32) &&& 31))) B e11_50 ?_
  refine Ow.i2b (pc' := 52) (z := (px0 >>> ((8 : Int32) &&& 31)).toInt8.toInt32) B e11_51 ?_
  refine Ow.bastore (pc' := 53) (i := 5) B e11_52 V2 ⟨by decide, by decide⟩ (by simp) ?_
  intro h3 Kh3 V0h3
  have zh3 := Kh3.1
  have V4 : Arv Z h3 pa0 pk0 .byte (8 : Int32) [(.int px1.toInt8.toInt32), (.int (px1 >>> ((8 : Int32) &&& 31)).toInt8.toInt32), (.int px2.toInt8.toInt32), (.int (px2 >>> ((8 : Int32) &&& 31)).toInt8.toInt32), (.int px0.toInt8.toInt32), (.int (px0 >>> ((8 : Int32) &&& 31)).toInt8.toInt32), (.int (0 : Int32)), (.int (0 : Int32))] (.int 0) := (by have e0 := V0h3; rw [show nar .byte (px0 >>> ((8 : Int32) &&& 31)).toInt8.toInt32 = (px0 >>> ((8 : Int32) &&& 31)).toInt8.toInt32 from Ow.nar_b _] at e0; exact e0)
  exact Ow.retV (S' := []) B e11_53 (⟨rfl, (((Keep.refl _ [pa0]).trans Kh1 (allS (Or.inl (by simp)) all0)).trans Kh3 (allS (Or.inl (by simp)) all0)), V4, rfl⟩)
set_option maxRecDepth 65536 in
set_option maxHeartbeats 40000000 in
theorem con_putChar_83 {l : Launch} {Z : State} {n0 : Nat} {a0 : Array Value} {cz : Int32} {sf : Value} (hw : Hw a0 Z) (G : Ow.Glo Z cz sf) (GS : GlS Z) {pa0 : Nat} {px0 : Int32} {px1 : Int32} {px2 : Int32} {px3 : Int32} {pk0 : ClassId} {h0 : Heap} (O0 : Old Z n0 h0) (hf0 : Arv Z h0 pa0 pk0 .byte (8 : Int32) [(.int px1.toInt8.toInt32), (.int (px1 >>> ((8 : Int32) &&& 31)).toInt8.toInt32), (.int px2.toInt8.toInt32), (.int (px2 >>> ((8 : Int32) &&& 31)).toInt8.toInt32), (.int px3.toInt8.toInt32), (.int (px3 >>> ((8 : Int32) &&& 31)).toInt8.toInt32), (.int (0 : Int32)), (.int (0 : Int32))] (.int 0)) (hn0 : n0 ≤ pa0) (hc_px0 : nar .char px0 = px0) (hc_px1 : nar .char px1 = px1) (hc_px2 : nar .char px2 = px2) (hc_px3 : nar .char px3 = px3) :
    Ow.Con l Z EL1 n0 my9 jdk_52_method_4_code 3 (Option.none : Option Jvm.ClassFile.FieldType) [] ({ frames := 0, cells := 0, slots := 0, locals := 0 } : Room) #[(.ref pa0), (.int (3 : Int32)), (.int px0)] [pa0] h0 (fun v h S' => (v = none ∧ Keep h0 h [pa0] ∧ Arv Z h pa0 pk0 .byte (8 : Int32) [(.int px1.toInt8.toInt32), (.int (px1 >>> ((8 : Int32) &&& 31)).toInt8.toInt32), (.int px2.toInt8.toInt32), (.int (px2 >>> ((8 : Int32) &&& 31)).toInt8.toInt32), (.int px3.toInt8.toInt32), (.int (px3 >>> ((8 : Int32) &&& 31)).toInt8.toInt32), (.int px0.toInt8.toInt32), (.int (px0 >>> ((8 : Int32) &&& 31)).toInt8.toInt32)] (.int 0) ∧ S' = [])) := by
  refine Ow.Con.enter (Ls := #[.val (.ref pa0), .val (.int (3 : Int32)), .val (.int px0)]) (plainFor_of_name pn3) O0 (hEW hw) (hSA hw) ?_
  intro p e s m below meth c B
  have z0 := Ow.old_le O0
  have lpa0 : (pa0 : Nat) < h0.size := hf0.lt
  refine Ow.getstatic (pc' := 3) B e11_0 (w90 hw) Via.refl GS.1 ?_
  refine Ow.ifT (pc' := 28) B e11_3 (by decide) ?_
  refine Ow.iloadN (pc' := 29) B e11_28 ?_
  refine Ow.iconst (pc' := 30) (x := (1 : Int32)) B e11_29 ?_
  refine Ow.ishl (pc' := 31) (z := (6 : Int32)) B e11_30 ?_
  refine Ow.istoreN (pc' := 32) (Ls' := #[.val (.ref pa0), .val (.int (6 : Int32)), .val (.int px0)]) B e11_31 ?_
  refine Ow.aloadN (pc' := 33) B e11_32 ?_
  refine Ow.iloadN (pc' := 34) B e11_33 ?_
  refine Ow.iinc (pc' := 37) (y := (7 : Int32)) (Ls' := #[.val (.ref pa0), .val (.int (7 : Int32)), .val (.int px0)]) B e11_34 ?_
  refine Ow.iloadN (pc' := 38) B e11_37 ?_
  refine Ow.getstatic (pc' := 41) B e11_38 (w91 hw) Via.refl GS.2.1 ?_
  refine Ow.ishr (pc' := 42) (z := px0) (hz := (Ow.shr0 _)) B e11_41 ?_
  refine Ow.i2b (pc' := 43) (z := px0.toInt8.toInt32) B e11_42 ?_
  refine Ow.bastore (pc' := 44) (i := 6) B e11_43 hf0 ⟨by decide, by decide⟩ (by simp) ?_
  intro h1 Kh1 V0h1
  have zh1 := Kh1.1
  have V2 : Arv Z h1 pa0 pk0 .byte (8 : Int32) [(.int px1.toInt8.toInt32), (.int (px1 >>> ((8 : Int32) &&& 31)).toInt8.toInt32), (.int px2.toInt8.toInt32), (.int (px2 >>> ((8 : Int32) &&& 31)).toInt8.toInt32), (.int px3.toInt8.toInt32), (.int (px3 >>> ((8 : Int32) &&& 31)).toInt8.toInt32), (.int px0.toInt8.toInt32), (.int (0 : Int32))] (.int 0) := (by have e0 := V0h1; rw [show nar .byte px0.toInt8.toInt32 = px0.toInt8.toInt32 from Ow.nar_b _] at e0; exact e0)
  refine Ow.aloadN (pc' := 45) B e11_44 ?_
  refine Ow.iloadN (pc' := 46) B e11_45 ?_
  refine Ow.iloadN (pc' := 47) B e11_46 ?_
  refine Ow.getstatic (pc' := 50) B e11_47 (w92 hw) Via.refl GS.2.2 ?_
  refine Ow.ishr (pc' := 51) (z := (px0 >>> ((8 : Int32) &&& 31))) B e11_50 ?_
  refine Ow.i2b (pc' := 52) (z := (px0 >>> ((8 : Int32) &&& 31)).toInt8.toInt32) B e11_51 ?_
  refine Ow.bastore (pc' := 53) (i := 7) B e11_52 V2 ⟨by decide, by decide⟩ (by simp) ?_
  intro h3 Kh3 V0h3
  have zh3 := Kh3.1
  have V4 : Arv Z h3 pa0 pk0 .byte (8 : Int32) [(.int px1.toInt8.toInt32), (.int (px1 >>> ((8 : Int32) &&& 31)).toInt8.toInt32), (.int px2.toInt8.toInt32), (.int (px2 >>> ((8 : Int32) &&& 31)).toInt8.toInt32), (.int px3.toInt8.toInt32), (.int (px3 >>> ((8 : Int32) &&& 31)).toInt8.toInt32), (.int px0.toInt8.toInt32), (.int (px0 >>> ((8 : Int32) &&& 31)).toInt8.toInt32)] (.int 0) := (by have e0 := V0h3; rw [show nar .byte (px0 >>> ((8 : Int32) &&& 31)).toInt8.toInt32 = (px0 >>> ((8 : Int32) &&& 31)).toInt8.toInt32 from Ow.nar_b _] at e0; exact e0)
  exact Ow.retV (S' := []) B e11_53 (⟨rfl, (((Keep.refl _ [pa0]).trans Kh1 (allS (Or.inl (by simp)) all0)).trans Kh3 (allS (Or.inl (by simp)) all0)), V4, rfl⟩)
set_option maxRecDepth 65536 in
set_option maxHeartbeats 40000000 in
theorem con_toBytes_84 {l : Launch} {Z : State} {n0 : Nat} {a0 : Array Value} {cz : Int32} {sf : Value} (hw : Hw a0 Z) (G : Ow.Glo Z cz sf) (GS : GlS Z) {pa0 : Nat} {px0 : Int32} {px1 : Int32} {px2 : Int32} {px3 : Int32} {pk0 : ClassId} {h0 : Heap} (O0 : Old Z n0 h0) (hf0 : Arv Z h0 pa0 pk0 .char (4 : Int32) [(.int px0), (.int px1), (.int px2), (.int px3)] (.int 0)) (hn0 : n0 ≤ pa0) (hc_px0 : nar .char px0 = px0) (hc_px1 : nar .char px1 = px1) (hc_px2 : nar .char px2 = px2) (hc_px3 : nar .char px3 = px3) :
    Ow.Con l Z EL1 n0 my10 jdk_52_method_14_code 5 (Option.some (Jvm.ClassFile.FieldType.array Jvm.ClassFile.FieldType.byte)) [] ({ frames := 2, cells := 1, slots := 8, locals := 24 } : Room) #[(.ref pa0), (.int (0 : Int32)), (.int (4 : Int32))] [] h0 (fun v h S' => (∃ r0 : Nat, ∃ k0 : ClassId, v = some (.ref r0) ∧ Keep h0 h [] ∧ h0.size ≤ r0 ∧ Arv Z h r0 k0 .byte (8 : Int32) [(.int px0.toInt8.toInt32), (.int (px0 >>> ((8 : Int32) &&& 31)).toInt8.toInt32), (.int px1.toInt8.toInt32), (.int (px1 >>> ((8 : Int32) &&& 31)).toInt8.toInt32), (.int px2.toInt8.toInt32), (.int (px2 >>> ((8 : Int32) &&& 31)).toInt8.toInt32), (.int px3.toInt8.toInt32), (.int (px3 >>> ((8 : Int32) &&& 31)).toInt8.toInt32)] (.int 0) ∧ S' = [r0])) := by
  refine Ow.Con.enter (Ls := #[.val (.ref pa0), .val (.int (0 : Int32)), .val (.int (4 : Int32)), .unset, .unset]) (plainFor_of_name pn3) O0 (hEW hw) (hSA hw) ?_
  intro p e s m below meth c B
  have z0 := Ow.old_le O0
  have lpa0 : (pa0 : Nat) < h0.size := hf0.lt
  refine Ow.iloadN (pc' := 1) B e8_0 ?_
  refine Ow.Go.old (fun o1 => ?_)
  refine Ow.callStatic (pc' := 4) (W := 0) (k' := 1) (n' := 8) (argsL := [(.int (4 : Int32))]) (rest := []) B e8_1 (w80 hw) (w81 hw) (w44 hw) (w82 hw) (con_newBytesFor_79 hw G GS o1) pd8 ?_
  intro vq2 h3 S4 q2 zh3
  obtain ⟨r5, k6, rfl, Kh3, br5, f7, rfl⟩ := q2
  have lr5 : (r5 : Nat) < h3.size := f7.lt
  refine Ow.Go.norm (S' := [r5]) (st' := [(.ref r5)]) (fun _ q => q) rfl ?_
  refine Ow.astoreN (pc' := 5) (Ls' := #[.val (.ref pa0), .val (.int (0 : Int32)), .val (.int (4 : Int32)), .val (.ref r5), .unset]) B e8_4 ?_
  refine Ow.iconst (pc' := 6) (x := (0 : Int32)) B e8_5 ?_
  refine Ow.istore (pc' := 8) (Ls' := #[.val (.ref pa0), .val (.int (0 : Int32)), .val (.int (4 : Int32)), .val (.ref r5), .val (.int (0 : Int32))]) B e8_6 ?_
  refine Ow.iload (pc' := 10) B e8_8 ?_
  refine Ow.iloadN (pc' := 11) B e8_10 ?_
  refine Ow.icmpF (pc' := 14) B e8_11 (by decide) ?_
  refine Ow.aloadN (pc' := 15) B e8_14 ?_
  refine Ow.iload (pc' := 17) B e8_15 ?_
  refine Ow.aloadN (pc' := 18) B e8_17 ?_
  refine Ow.iloadN (pc' := 19) B e8_18 ?_
  have f8 := hf0.keep Kh3 Ow.nin0
  refine Ow.caload (pc' := 20) B e8_19 f8 ⟨by decide, by decide⟩ rfl ?_
  refine Ow.Go.old (fun o9 => ?_)
  refine Ow.callStatic (pc' := 23) (W := 0) (k' := 1) (n' := 8) (argsL := [(.ref r5), (.int (0 : Int32)), (.int px0)]) (rest := []) B e8_20 (w87 hw) (w88 hw) (w44 hw) (w89 hw) (con_putChar_80 hw G GS (pa0 := r5) (px0 := px0) (pk0 := k6) o9 f7 (by omega) hc_px0) pd9 ?_
  intro vq10 h11 S12 q10 zh11
  obtain ⟨rfl, Kh11, f13, rfl⟩ := q10
  refine Ow.Go.norm (S' := [r5]) (st' := []) (fun _ q => List.mem_append_right _ q) rfl ?_
  refine Ow.iinc (pc' := 26) (y := (1 : Int32)) (Ls' := #[.val (.ref pa0), .val (.int (1 : Int32)), .val (.int (4 : Int32)), .val (.ref r5), .val (.int (0 : Int32))]) B e8_23 ?_
  refine Ow.iinc (pc' := 29) (y := (1 : Int32)) (Ls' := #[.val (.ref pa0), .val (.int (1 : Int32)), .val (.int (4 : Int32)), .val (.ref r5), .val (.int (1 : Int32))]) B e8_26 ?_
  refine Ow.goto (pc' := 8) B e8_29 ?_
  refine Ow.iload (pc' := 10) B e8_8 ?_
  refine Ow.iloadN (pc' := 11) B e8_10 ?_
  refine Ow.icmpF (pc' := 14) B e8_11 (by decide) ?_
  refine Ow.aloadN (pc' := 15) B e8_14 ?_
  refine Ow.iload (pc' := 17) B e8_15 ?_
  refine Ow.aloadN (pc' := 18) B e8_17 ?_
  refine Ow.iloadN (pc' := 19) B e8_18 ?_
  have f14 := f8.keep Kh11 (Ow.ninS (by omega) Ow.nin0)
  refine Ow.caload (pc' := 20) B e8_19 f14 ⟨by decide, by decide⟩ rfl ?_
  refine Ow.Go.old (fun o15 => ?_)
  refine Ow.callStatic (pc' := 23) (W := 0) (k' := 1) (n' := 8) (argsL := [(.ref r5), (.int (1 : Int32)), (.int px1)]) (rest := []) B e8_20 (w87 hw) (w88 hw) (w44 hw) (w89 hw) (con_putChar_81 hw G GS (pa0 := r5) (px0 := px1) (px1 := px0) (pk0 := k6) o15 f13 (by omega) hc_px1 hc_px0) pd9 ?_
  intro vq16 h17 S18 q16 zh17
  obtain ⟨rfl, Kh17, f19, rfl⟩ := q16
  refine Ow.Go.norm (S' := [r5]) (st' := []) (fun _ q => List.mem_append_right _ q) rfl ?_
  refine Ow.iinc (pc' := 26) (y := (2 : Int32)) (Ls' := #[.val (.ref pa0), .val (.int (2 : Int32)), .val (.int (4 : Int32)), .val (.ref r5), .val (.int (1 : Int32))]) B e8_23 ?_
  refine Ow.iinc (pc' := 29) (y := (2 : Int32)) (Ls' := #[.val (.ref pa0), .val (.int (2 : Int32)), .val (.int (4 : Int32)), .val (.ref r5), .val (.int (2 : Int32))]) B e8_26 ?_
  refine Ow.goto (pc' := 8) B e8_29 ?_
  refine Ow.iload (pc' := 10) B e8_8 ?_
  refine Ow.iloadN (pc' := 11) B e8_10 ?_
  refine Ow.icmpF (pc' := 14) B e8_11 (by decide) ?_
  refine Ow.aloadN (pc' := 15) B e8_14 ?_
  refine Ow.iload (pc' := 17) B e8_15 ?_
  refine Ow.aloadN (pc' := 18) B e8_17 ?_
  refine Ow.iloadN (pc' := 19) B e8_18 ?_
  have f20 := f14.keep Kh17 (Ow.ninS (by omega) Ow.nin0)
  refine Ow.caload (pc' := 20) B e8_19 f20 ⟨by decide, by decide⟩ rfl ?_
  refine Ow.Go.old (fun o21 => ?_)
  refine Ow.callStatic (pc' := 23) (W := 0) (k' := 1) (n' := 8) (argsL := [(.ref r5), (.int (2 : Int32)), (.int px2)]) (rest := []) B e8_20 (w87 hw) (w88 hw) (w44 hw) (w89 hw) (con_putChar_82 hw G GS (pa0 := r5) (px0 := px2) (px1 := px0) (px2 := px1) (pk0 := k6) o21 f19 (by omega) hc_px2 hc_px0 hc_px1) pd9 ?_
  intro vq22 h23 S24 q22 zh23
  obtain ⟨rfl, Kh23, f25, rfl⟩ := q22
  refine Ow.Go.norm (S' := [r5]) (st' := []) (fun _ q => List.mem_append_right _ q) rfl ?_
  refine Ow.iinc (pc' := 26) (y := (3 : Int32)) (Ls' := #[.val (.ref pa0), .val (.int (3 : Int32)), .val (.int (4 : Int32)), .val (.ref r5), .val (.int (2 : Int32))]) B e8_23 ?_
  refine Ow.iinc (pc' := 29) (y := (3 : Int32)) (Ls' := #[.val (.ref pa0), .val (.int (3 : Int32)), .val (.int (4 : Int32)), .val (.ref r5), .val (.int (3 : Int32))]) B e8_26 ?_
  refine Ow.goto (pc' := 8) B e8_29 ?_
  refine Ow.iload (pc' := 10) B e8_8 ?_
  refine Ow.iloadN (pc' := 11) B e8_10 ?_
  refine Ow.icmpF (pc' := 14) B e8_11 (by decide) ?_
  refine Ow.aloadN (pc' := 15) B e8_14 ?_
  refine Ow.iload (pc' := 17) B e8_15 ?_
  refine Ow.aloadN (pc' := 18) B e8_17 ?_
  refine Ow.iloadN (pc' := 19) B e8_18 ?_
  have f26 := f20.keep Kh23 (Ow.ninS (by omega) Ow.nin0)
  refine Ow.caload (pc' := 20) B e8_19 f26 ⟨by decide, by decide⟩ rfl ?_
  refine Ow.Go.old (fun o27 => ?_)
  refine Ow.callStatic (pc' := 23) (W := 0) (k' := 1) (n' := 8) (argsL := [(.ref r5), (.int (3 : Int32)), (.int px3)]) (rest := []) B e8_20 (w87 hw) (w88 hw) (w44 hw) (w89 hw) (con_putChar_83 hw G GS (pa0 := r5) (px0 := px3) (px1 := px0) (px2 := px1) (px3 := px2) (pk0 := k6) o27 f25 (by omega) hc_px3 hc_px0 hc_px1 hc_px2) pd9 ?_
  intro vq28 h29 S30 q28 zh29
  obtain ⟨rfl, Kh29, f31, rfl⟩ := q28
  refine Ow.Go.norm (S' := [r5]) (st' := []) (fun _ q => List.mem_append_right _ q) rfl ?_
  refine Ow.iinc (pc' := 26) (y := (4 : Int32)) (Ls' := #[.val (.ref pa0), .val (.int (4 : Int32)), .val (.int (4 : Int32)), .val (.ref r5), .val (.int (3 : Int32))]) B e8_23 ?_
  refine Ow.iinc (pc' := 29) (y := (4 : Int32)) (Ls' := #[.val (.ref pa0), .val (.int (4 : Int32)), .val (.int (4 : Int32)), .val (.ref r5), .val (.int (4 : Int32))]) B e8_26 ?_
  refine Ow.goto (pc' := 8) B e8_29 ?_
  refine Ow.iload (pc' := 10) B e8_8 ?_
  refine Ow.iloadN (pc' := 11) B e8_10 ?_
  refine Ow.icmpT (pc' := 32) B e8_11 (by decide) ?_
  refine Ow.aloadN (pc' := 33) B e8_32 ?_
  exact Ow.retA (S' := [r5]) (t := (.array .byte)) B e8_33 (⟨r5, k6, rfl, ((((((Keep.refl _ []).trans Kh3 (fun _ q => nomatch q)).trans Kh11 (allS (Or.inr (by omega)) all0)).trans Kh17 (allS (Or.inr (by omega)) all0)).trans Kh23 (allS (Or.inr (by omega)) all0)).trans Kh29 (allS (Or.inr (by omega)) all0)), (by omega), f31, rfl⟩)
set_option maxRecDepth 65536 in
set_option maxHeartbeats 40000000 in
theorem con_getChar_85 {l : Launch} {Z : State} {n0 : Nat} {a0 : Array Value} {cz : Int32} {sf : Value} (hw : Hw a0 Z) (G : Ow.Glo Z cz sf) (GS : GlS Z) {pa0 : Nat} {px0 : Int32} {px1 : Int32} {px2 : Int32} {px3 : Int32} {pk0 : ClassId} {h0 : Heap} (O0 : Old Z n0 h0) (hf0 : Arv Z h0 pa0 pk0 .byte (8 : Int32) [(.int px0.toInt8.toInt32), (.int (px0 >>> ((8 : Int32) &&& 31)).toInt8.toInt32), (.int px1.toInt8.toInt32), (.int (px1 >>> ((8 : Int32) &&& 31)).toInt8.toInt32), (.int px2.toInt8.toInt32), (.int (px2 >>> ((8 : Int32) &&& 31)).toInt8.toInt32), (.int px3.toInt8.toInt32), (.int (px3 >>> ((8 : Int32) &&& 31)).toInt8.toInt32)] (.int 0)) (hn0 : n0 ≤ pa0) (hk0 : ¬ ((65535 : Int32) < px0)) (hk1 : ¬ (px0 < (0 : Int32))) (hc_px0 : nar .char px0 = px0) (hc_px1 : nar .char px1 = px1) (hc_px2 : nar .char px2 = px2) (hc_px3 : nar .char px3 = px3) :
    Ow.Con l Z EL1 n0 my11 jdk_52_method_5_code 2 (Option.some Jvm.ClassFile.FieldType.char) [] ({ frames := 0, cells := 0, slots := 0, locals := 0 } : Room) #[(.ref pa0), (.int (0 : Int32))] [pa0] h0 (fun v h S' => (v = some (.int px0) ∧ h = h0 ∧ S' = [])) := by
  refine Ow.Con.enter (Ls := #[.val (.ref pa0), .val (.int (0 : Int32))]) (plainFor_of_name pn3) O0 (hEW hw) (hSA hw) ?_
  intro p e s m below meth c B
  have z0 := Ow.old_le O0
  have lpa0 : (pa0 : Nat) < h0.size := hf0.lt
  refine Ow.getstatic (pc' := 3) B e12_0 (w90 hw) Via.refl GS.1 ?_
  refine Ow.ifT (pc' := 28) B e12_3 (by decide) ?_
  refine Ow.iloadN (pc' := 29) B e12_28 ?_
  refine Ow.iconst (pc' := 30) (x := (1 : Int32)) B e12_29 ?_
  refine Ow.ishl (pc' := 31) (z := (0 : Int32)) B e12_30 ?_
  refine Ow.istoreN (pc' := 32) (Ls' := #[.val (.ref pa0), .val (.int (0 : Int32))]) B e12_31 ?_
  refine Ow.aloadN (pc' := 33) B e12_32 ?_
  refine Ow.iloadN (pc' := 34) B e12_33 ?_
  refine Ow.iinc (pc' := 37) (y := (1 : Int32)) (Ls' := #[.val (.ref pa0), .val (.int (1 : Int32))]) B e12_34 ?_
  refine Ow.baload (pc' := 38) B e12_37 hf0 ⟨by decide, by decide⟩ rfl ?_
  refine Ow.sipush (pc' := 41) (x := (255 : Int32)) B e12_38 ?_
  refine Ow.iand (pc' := 42) (z := (px0.toInt8.toInt32 &&& (255 : Int32))) B e12_41 ?_
  refine Ow.getstatic (pc' := 45) B e12_42 (w91 hw) Via.refl GS.2.1 ?_
  refine Ow.ishl (pc' := 46) (z := ((px0.toInt8.toInt32 &&& (255 : Int32)) <<< ((0 : Int32) &&& 31))) B e12_45 ?_
  refine Ow.aloadN (pc' := 47) B e12_46 ?_
  refine Ow.iloadN (pc' := 48) B e12_47 ?_
  refine Ow.baload (pc' := 49) B e12_48 hf0 ⟨by decide, by decide⟩ rfl ?_
  refine Ow.sipush (pc' := 52) (x := (255 : Int32)) B e12_49 ?_
  refine Ow.iand (pc' := 53) (z := ((px0 >>> ((8 : Int32) &&& 31)).toInt8.toInt32 &&& (255 : Int32))) B e12_52 ?_
  refine Ow.getstatic (pc' := 56) B e12_53 (w92 hw) Via.refl GS.2.2 ?_
  refine Ow.ishl (pc' := 57) (z := (((px0 >>> ((8 : Int32) &&& 31)).toInt8.toInt32 &&& (255 : Int32)) <<< ((8 : Int32) &&& 31))) B e12_56 ?_
  refine Ow.ior (pc' := 58) (z := px0) (hz := (Ow.u16 (hk1) (hk0))) B e12_57 ?_
  refine Ow.i2c (pc' := 59) (z := px0) (hz := hc_px0) B e12_58 ?_
  exact Ow.retI (S' := []) (t := .char) (hnn := (Ow.cnarrow hc_px0)) B e12_59 (⟨rfl, rfl, rfl⟩)
set_option maxRecDepth 65536 in
set_option maxHeartbeats 40000000 in
theorem con_getChar_86 {l : Launch} {Z : State} {n0 : Nat} {a0 : Array Value} {cz : Int32} {sf : Value} (hw : Hw a0 Z) (G : Ow.Glo Z cz sf) (GS : GlS Z) {pa0 : Nat} {px0 : Int32} {px1 : Int32} {px2 : Int32} {px3 : Int32} {pk0 : ClassId} {h0 : Heap} (O0 : Old Z n0 h0) (hf0 : Arv Z h0 pa0 pk0 .byte (8 : Int32) [(.int px0.toInt8.toInt32), (.int (px0 >>> ((8 : Int32) &&& 31)).toInt8.toInt32), (.int px1.toInt8.toInt32), (.int (px1 >>> ((8 : Int32) &&& 31)).toInt8.toInt32), (.int px2.toInt8.toInt32), (.int (px2 >>> ((8 : Int32) &&& 31)).toInt8.toInt32), (.int px3.toInt8.toInt32), (.int (px3 >>> ((8 : Int32) &&& 31)).toInt8.toInt32)] (.int 0)) (hn0 : n0 ≤ pa0) (hk0 : ¬ ((65535 : Int32) < px1)) (hk1 : ¬ (px1 < (0 : Int32))) (hc_px0 : nar .char px0 = px0) (hc_px1 : nar .char px1 = px1) (hc_px2 : nar .char px2 = px2) (hc_px3 : nar .char px3 = px3) :
    Ow.Con l Z EL1 n0 my11 jdk_52_method_5_code 2 (Option.some Jvm.ClassFile.FieldType.char) [] ({ frames := 0, cells := 0, slots := 0, locals := 0 } : Room) #[(.ref pa0), (.int (1 : Int32))] [pa0] h0 (fun v h S' => (v = some (.int px1) ∧ h = h0 ∧ S' = [])) := by
  refine Ow.Con.enter (Ls := #[.val (.ref pa0), .val (.int (1 : Int32))]) (plainFor_of_name pn3) O0 (hEW hw) (hSA hw) ?_
  intro p e s m below meth c B
  have z0 := Ow.old_le O0
  have lpa0 : (pa0 : Nat) < h0.size := hf0.lt
  refine Ow.getstatic (pc' := 3) B e12_0 (w90 hw) Via.refl GS.1 ?_
  refine Ow.ifT (pc' := 28) B e12_3 (by decide) ?_
  refine Ow.iloadN (pc' := 29) B e12_28 ?_
  refine Ow.iconst (pc' := 30) (x := (1 : Int32)) B e12_29 ?_
  refine Ow.ishl (pc' := 31) (z := (2 : Int32)) B e12_30 ?_
  refine Ow.istoreN (pc' := 32) (Ls' := #[.val (.ref pa0), .val (.int (2 : Int32))]) B e12_31 ?_
  refine Ow.aloadN (pc' := 33) B e12_32 ?_
  refine Ow.iloadN (pc' := 34) B e12_33 ?_
  refine Ow.iinc (pc' := 37) (y := (3 : Int32)) (Ls' := #[.val (.ref pa0), .val (.int (3 : Int32))]) B e12_34 ?_
  refine Ow.baload (pc' := 38) B e12_37 hf0 ⟨by decide, by decide⟩ rfl ?_
  refine Ow.sipush (pc' := 41) (x := (255 : Int32)) B e12_38 ?_
  refine Ow.iand (pc' := 42) (z := (px1.toInt8.toInt32 &&& (255 : Int32))) B e12_41 ?_
  refine Ow.getstatic (pc' := 45) B e12_42 (w91 hw) Via.refl GS.2.1 ?_
  refine Ow.ishl (pc' := 46) (z := ((px1.toInt8.toInt32 &&& (255 : Int32)) <<< ((0 : Int32) &&& 31))) B e12_45 ?_
  refine Ow.aloadN (pc' := 47) B e12_46 ?_
  refine Ow.iloadN (pc' := 48) B e12_47 ?_
  refine Ow.baload (pc' := 49) B e12_48 hf0 ⟨by decide, by decide⟩ rfl ?_
  refine Ow.sipush (pc' := 52) (x := (255 : Int32)) B e12_49 ?_
  refine Ow.iand (pc' := 53) (z := ((px1 >>> ((8 : Int32) &&& 31)).toInt8.toInt32 &&& (255 : Int32))) B e12_52 ?_
  refine Ow.getstatic (pc' := 56) B e12_53 (w92 hw) Via.refl GS.2.2 ?_
  refine Ow.ishl (pc' := 57) (z := (((px1 >>> ((8 : Int32) &&& 31)).toInt8.toInt32 &&& (255 : Int32)) <<< ((8 : Int32) &&& 31))) B e12_56 ?_
  refine Ow.ior (pc' := 58) (z := px1) (hz := (Ow.u16 (hk1) (hk0))) B e12_57 ?_
  refine Ow.i2c (pc' := 59) (z := px1) (hz := hc_px1) B e12_58 ?_
  exact Ow.retI (S' := []) (t := .char) (hnn := (Ow.cnarrow hc_px1)) B e12_59 (⟨rfl, rfl, rfl⟩)
set_option maxRecDepth 65536 in
set_option maxHeartbeats 40000000 in
theorem con_getChar_87 {l : Launch} {Z : State} {n0 : Nat} {a0 : Array Value} {cz : Int32} {sf : Value} (hw : Hw a0 Z) (G : Ow.Glo Z cz sf) (GS : GlS Z) {pa0 : Nat} {px0 : Int32} {px1 : Int32} {px2 : Int32} {px3 : Int32} {pk0 : ClassId} {h0 : Heap} (O0 : Old Z n0 h0) (hf0 : Arv Z h0 pa0 pk0 .byte (8 : Int32) [(.int px0.toInt8.toInt32), (.int (px0 >>> ((8 : Int32) &&& 31)).toInt8.toInt32), (.int px1.toInt8.toInt32), (.int (px1 >>> ((8 : Int32) &&& 31)).toInt8.toInt32), (.int px2.toInt8.toInt32), (.int (px2 >>> ((8 : Int32) &&& 31)).toInt8.toInt32), (.int px3.toInt8.toInt32), (.int (px3 >>> ((8 : Int32) &&& 31)).toInt8.toInt32)] (.int 0)) (hn0 : n0 ≤ pa0) (hk0 : ¬ ((65535 : Int32) < px2)) (hk1 : ¬ (px2 < (0 : Int32))) (hc_px0 : nar .char px0 = px0) (hc_px1 : nar .char px1 = px1) (hc_px2 : nar .char px2 = px2) (hc_px3 : nar .char px3 = px3) :
    Ow.Con l Z EL1 n0 my11 jdk_52_method_5_code 2 (Option.some Jvm.ClassFile.FieldType.char) [] ({ frames := 0, cells := 0, slots := 0, locals := 0 } : Room) #[(.ref pa0), (.int (2 : Int32))] [pa0] h0 (fun v h S' => (v = some (.int px2) ∧ h = h0 ∧ S' = [])) := by
  refine Ow.Con.enter (Ls := #[.val (.ref pa0), .val (.int (2 : Int32))]) (plainFor_of_name pn3) O0 (hEW hw) (hSA hw) ?_
  intro p e s m below meth c B
  have z0 := Ow.old_le O0
  have lpa0 : (pa0 : Nat) < h0.size := hf0.lt
  refine Ow.getstatic (pc' := 3) B e12_0 (w90 hw) Via.refl GS.1 ?_
  refine Ow.ifT (pc' := 28) B e12_3 (by decide) ?_
  refine Ow.iloadN (pc' := 29) B e12_28 ?_
  refine Ow.iconst (pc' := 30) (x := (1 : Int32)) B e12_29 ?_
  refine Ow.ishl (pc' := 31) (z := (4 : Int32)) B e12_30 ?_
  refine Ow.istoreN (pc' := 32) (Ls' := #[.val (.ref pa0), .val (.int (4 : Int32))]) B e12_31 ?_
  refine Ow.aloadN (pc' := 33) B e12_32 ?_
  refine Ow.iloadN (pc' := 34) B e12_33 ?_
  refine Ow.iinc (pc' := 37) (y := (5 : Int32)) (Ls' := #[.val (.ref pa0), .val (.int (5 : Int32))]) B e12_34 ?_
  refine Ow.baload (pc' := 38) B e12_37 hf0 ⟨by decide, by decide⟩ rfl ?_
  refine Ow.sipush (pc' := 41) (x := (255 : Int32)) B e12_38 ?_
  refine Ow.iand (pc' := 42) (z := (px2.toInt8.toInt32 &&& (255 : Int32))) B e12_41 ?_
  refine Ow.getstatic (pc' := 45) B e12_42 (w91 hw) Via.refl GS.2.1 ?_
  refine Ow.ishl (pc' := 46) (z := ((px2.toInt8.toInt32 &&& (255 : Int32)) <<< ((0 : Int32) &&& 31))) B e12_45 ?_
  refine Ow.aloadN (pc' := 47) B e12_46 ?_
  refine Ow.iloadN (pc' := 48) B e12_47 ?_
  refine Ow.baload (pc' := 49) B e12_48 hf0 ⟨by decide, by decide⟩ rfl ?_
  refine Ow.sipush (pc' := 52) (x := (255 : Int32)) B e12_49 ?_
  refine Ow.iand (pc' := 53) (z := ((px2 >>> ((8 : Int32) &&& 31)).toInt8.toInt32 &&& (255 : Int32))) B e12_52 ?_
  refine Ow.getstatic (pc' := 56) B e12_53 (w92 hw) Via.refl GS.2.2 ?_
  refine Ow.ishl (pc' := 57) (z := (((px2 >>> ((8 : Int32) &&& 31)).toInt8.toInt32 &&& (255 : Int32)) <<< ((8 : Int32) &&& 31))) B e12_56 ?_
  refine Ow.ior (pc' := 58) (z := px2) (hz := (Ow.u16 (hk1) (hk0))) B e12_57 ?_
  refine Ow.i2c (pc' := 59) (z := px2) (hz := hc_px2) B e12_58 ?_
  exact Ow.retI (S' := []) (t := .char) (hnn := (Ow.cnarrow hc_px2)) B e12_59 (⟨rfl, rfl, rfl⟩)
set_option maxRecDepth 65536 in
set_option maxHeartbeats 40000000 in
theorem con_getChar_88 {l : Launch} {Z : State} {n0 : Nat} {a0 : Array Value} {cz : Int32} {sf : Value} (hw : Hw a0 Z) (G : Ow.Glo Z cz sf) (GS : GlS Z) {pa0 : Nat} {px0 : Int32} {px1 : Int32} {px2 : Int32} {px3 : Int32} {pk0 : ClassId} {h0 : Heap} (O0 : Old Z n0 h0) (hf0 : Arv Z h0 pa0 pk0 .byte (8 : Int32) [(.int px0.toInt8.toInt32), (.int (px0 >>> ((8 : Int32) &&& 31)).toInt8.toInt32), (.int px1.toInt8.toInt32), (.int (px1 >>> ((8 : Int32) &&& 31)).toInt8.toInt32), (.int px2.toInt8.toInt32), (.int (px2 >>> ((8 : Int32) &&& 31)).toInt8.toInt32), (.int px3.toInt8.toInt32), (.int (px3 >>> ((8 : Int32) &&& 31)).toInt8.toInt32)] (.int 0)) (hn0 : n0 ≤ pa0) (hk0 : ¬ ((65535 : Int32) < px3)) (hk1 : ¬ (px3 < (0 : Int32))) (hc_px0 : nar .char px0 = px0) (hc_px1 : nar .char px1 = px1) (hc_px2 : nar .char px2 = px2) (hc_px3 : nar .char px3 = px3) :
    Ow.Con l Z EL1 n0 my11 jdk_52_method_5_code 2 (Option.some Jvm.ClassFile.FieldType.char) [] ({ frames := 0, cells := 0, slots := 0, locals := 0 } : Room) #[(.ref pa0), (.int (3 : Int32))] [pa0] h0 (fun v h S' => (v = some (.int px3) ∧ h = h0 ∧ S' = [])) := by
  refine Ow.Con.enter (Ls := #[.val (.ref pa0), .val (.int (3 : Int32))]) (plainFor_of_name pn3) O0 (hEW hw) (hSA hw) ?_
  intro p e s m below meth c B
  have z0 := Ow.old_le O0
  have lpa0 : (pa0 : Nat) < h0.size := hf0.lt
  refine Ow.getstatic (pc' := 3) B e12_0 (w90 hw) Via.refl GS.1 ?_
  refine Ow.ifT (pc' := 28) B e12_3 (by decide) ?_
  refine Ow.iloadN (pc' := 29) B e12_28 ?_
  refine Ow.iconst (pc' := 30) (x := (1 : Int32)) B e12_29 ?_
  refine Ow.ishl (pc' := 31) (z := (6 : Int32)) B e12_30 ?_
  refine Ow.istoreN (pc' := 32) (Ls' := #[.val (.ref pa0), .val (.int (6 : Int32))]) B e12_31 ?_
  refine Ow.aloadN (pc' := 33) B e12_32 ?_
  refine Ow.iloadN (pc' := 34) B e12_33 ?_
  refine Ow.iinc (pc' := 37) (y := (7 : Int32)) (Ls' := #[.val (.ref pa0), .val (.int (7 : Int32))]) B e12_34 ?_
  refine Ow.baload (pc' := 38) B e12_37 hf0 ⟨by decide, by decide⟩ rfl ?_
  refine Ow.sipush (pc' := 41) (x := (255 : Int32)) B e12_38 ?_
  refine Ow.iand (pc' := 42) (z := (px3.toInt8.toInt32 &&& (255 : Int32))) B e12_41 ?_
  refine Ow.getstatic (pc' := 45) B e12_42 (w91 hw) Via.refl GS.2.1 ?_
  refine Ow.ishl (pc' := 46) (z := ((px3.toInt8.toInt32 &&& (255 : Int32)) <<< ((0 : Int32) &&& 31))) B e12_45 ?_
  refine Ow.aloadN (pc' := 47) B e12_46 ?_
  refine Ow.iloadN (pc' := 48) B e12_47 ?_
  refine Ow.baload (pc' := 49) B e12_48 hf0 ⟨by decide, by decide⟩ rfl ?_
  refine Ow.sipush (pc' := 52) (x := (255 : Int32)) B e12_49 ?_
  refine Ow.iand (pc' := 53) (z := ((px3 >>> ((8 : Int32) &&& 31)).toInt8.toInt32 &&& (255 : Int32))) B e12_52 ?_
  refine Ow.getstatic (pc' := 56) B e12_53 (w92 hw) Via.refl GS.2.2 ?_
  refine Ow.ishl (pc' := 57) (z := (((px3 >>> ((8 : Int32) &&& 31)).toInt8.toInt32 &&& (255 : Int32)) <<< ((8 : Int32) &&& 31))) B e12_56 ?_
  refine Ow.ior (pc' := 58) (z := px3) (hz := (Ow.u16 (hk1) (hk0))) B e12_57 ?_
  refine Ow.i2c (pc' := 59) (z := px3) (hz := hc_px3) B e12_58 ?_
  exact Ow.retI (S' := []) (t := .char) (hnn := (Ow.cnarrow hc_px3)) B e12_59 (⟨rfl, rfl, rfl⟩)
set_option maxRecDepth 65536 in
set_option maxHeartbeats 40000000 in
theorem con_compress_89 {l : Launch} {Z : State} {n0 : Nat} {a0 : Array Value} {cz : Int32} {sf : Value} (hw : Hw a0 Z) (G : Ow.Glo Z cz sf) (GS : GlS Z) {pa0 : Nat} {px0 : Int32} {px1 : Int32} {px2 : Int32} {px3 : Int32} {pk0 : ClassId} {h0 : Heap} (O0 : Old Z n0 h0) (hf0 : Arv Z h0 pa0 pk0 .char (4 : Int32) [(.int px0), (.int px1), (.int px2), (.int px3)] (.int 0)) (hn0 : n0 ≤ pa0) (hk0 : ¬ ((65535 : Int32) < px0)) (hk1 : ¬ (px0 < (0 : Int32))) (hk2 : ¬ ((65535 : Int32) < px1)) (hk3 : ¬ (px1 < (0 : Int32))) (hk4 : ¬ ((65535 : Int32) < px2)) (hk5 : ¬ (px2 < (0 : Int32))) (hk6 : ¬ ((65535 : Int32) < px3)) (hk7 : ¬ (px3 < (0 : Int32))) (hc_px0 : nar .char px0 = px0) (hc_px1 : nar .char px1 = px1) (hc_px2 : nar .char px2 = px2) (hc_px3 : nar .char px3 = px3) :
    Ow.Con l Z EL1 n0 my12 jdk_52_method_16_code 6 (Option.some (Jvm.ClassFile.FieldType.array Jvm.ClassFile.FieldType.byte)) [] ({ frames := 3, cells := 2, slots := 12, locals := 40 } : Room) #[(.ref pa0), (.int (0 : Int32)), (.int (4 : Int32))] [] h0 (fun v h S' => (∃ r0 : Nat, ∃ k0 : ClassId, v = some (.ref r0) ∧ Keep h0 h [] ∧ (255 : Int32) < px0 ∧ h0.size ≤ r0 ∧ Arv Z h r0 k0 .byte (8 : Int32) [(.int px0.toInt8.toInt32), (.int (px0 >>> ((8 : Int32) &&& 31)).toInt8.toInt32), (.int px1.toInt8.toInt32), (.int (px1 >>> ((8 : Int32) &&& 31)).toInt8.toInt32), (.int px2.toInt8.toInt32), (.int (px2 >>> ((8 : Int32) &&& 31)).toInt8.toInt32), (.int px3.toInt8.toInt32), (.int (px3 >>> ((8 : Int32) &&& 31)).toInt8.toInt32)] (.int 0) ∧ S' = [r0]) ∨ (∃ r0 : Nat, ∃ k0 : ClassId, v = some (.ref r0) ∧ Keep h0 h [] ∧ ¬ ((255 : Int32) < px0) ∧ (255 : Int32) < px1 ∧ h0.size ≤ r0 ∧ Arv Z h r0 k0 .byte (8 : Int32) [(.int px0.toInt8.toInt32), (.int (px0 >>> ((8 : Int32) &&& 31)).toInt8.toInt32), (.int px1.toInt8.toInt32), (.int (px1 >>> ((8 : Int32) &&& 31)).toInt8.toInt32), (.int px2.toInt8.toInt32), (.int (px2 >>> ((8 : Int32) &&& 31)).toInt8.toInt32), (.int px3.toInt8.toInt32), (.int (px3 >>> ((8 : Int32) &&& 31)).toInt8.toInt32)] (.int 0) ∧ S' = [r0]) ∨ (∃ r0 : Nat, ∃ k0 : ClassId, v = some (.ref r0) ∧ Keep h0 h [] ∧ ¬ ((255 : Int32) < px0) ∧ ¬ ((255 : Int32) < px1) ∧ (255 : Int32) < px2 ∧ h0.size ≤ r0 ∧ Arv Z h r0 k0 .byte (8 : Int32) [(.int px0.toInt8.toInt32), (.int (px0 >>> ((8 : Int32) &&& 31)).toInt8.toInt32), (.int px1.toInt8.toInt32), (.int (px1 >>> ((8 : Int32) &&& 31)).toInt8.toInt32), (.int px2.toInt8.toInt32), (.int (px2 >>> ((8 : Int32) &&& 31)).toInt8.toInt32), (.int px3.toInt8.toInt32), (.int (px3 >>> ((8 : Int32) &&& 31)).toInt8.toInt32)] (.int 0) ∧ S' = [r0]) ∨ (∃ r0 : Nat, ∃ k0 : ClassId, v = some (.ref r0) ∧ Keep h0 h [] ∧ ¬ ((255 : Int32) < px0) ∧ ¬ ((255 : Int32) < px1) ∧ ¬ ((255 : Int32) < px2) ∧ (255 : Int32) < px3 ∧ h0.size ≤ r0 ∧ Arv Z h r0 k0 .byte (8 : Int32) [(.int px0.toInt8.toInt32), (.int (px0 >>> ((8 : Int32) &&& 31)).toInt8.toInt32), (.int px1.toInt8.toInt32), (.int (px1 >>> ((8 : Int32) &&& 31)).toInt8.toInt32), (.int px2.toInt8.toInt32), (.int (px2 >>> ((8 : Int32) &&& 31)).toInt8.toInt32), (.int px3.toInt8.toInt32), (.int (px3 >>> ((8 : Int32) &&& 31)).toInt8.toInt32)] (.int 0) ∧ S' = [r0]) ∨ (∃ r0 : Nat, ∃ k0 : ClassId, v = some (.ref r0) ∧ Keep h0 h [] ∧ ¬ ((255 : Int32) < px0) ∧ ¬ ((255 : Int32) < px1) ∧ ¬ ((255 : Int32) < px2) ∧ ¬ ((255 : Int32) < px3) ∧ h0.size ≤ r0 ∧ Arv Z h r0 k0 .byte (4 : Int32) [(.int px0.toInt8.toInt32), (.int px1.toInt8.toInt32), (.int px2.toInt8.toInt32), (.int px3.toInt8.toInt32)] (.int 0) ∧ S' = [r0])) := by
  refine Ow.Con.enter (Ls := #[.val (.ref pa0), .val (.int (0 : Int32)), .val (.int (4 : Int32)), .unset, .unset, .unset]) (plainFor_of_name pn3) O0 (hEW hw) (hSA hw) ?_
  intro p e s m below meth c B
  have z0 := Ow.old_le O0
  have lpa0 : (pa0 : Nat) < h0.size := hf0.lt
  refine Ow.iloadN (pc' := 1) B e6_0 ?_
  refine Ow.newArr (pc' := 3) (k' := 1) (n' := 4) (cap := 4) B e6_1 (w15 hw) (by decide) (by decide) ?_
  intro h2 a1 ka1 ga1 ba1 Kh2 V0a1
  have zh2 := Kh2.1
  have la1 : (a1 : Nat) < h2.size := V0a1.lt
  have Va1 : Arv Z h2 a1 ka1 .byte (4 : Int32) [(.int 0), (.int 0), (.int 0), (.int 0)] (.int 0) := V0a1.pad (pad_rep [] (.int 0) 4)
  refine Ow.astoreN (pc' := 4) (Ls' := #[.val (.ref pa0), .val (.int (0 : Int32)), .val (.int (4 : Int32)), .val (.ref a1), .unset, .unset]) B e6_3 ?_
  refine Ow.aloadN (pc' := 5) B e6_4 ?_
  refine Ow.iloadN (pc' := 6) B e6_5 ?_
  refine Ow.aloadN (pc' := 7) B e6_6 ?_
  refine Ow.iconst (pc' := 8) (x := (0 : Int32)) B e6_7 ?_
  refine Ow.iloadN (pc' := 9) B e6_8 ?_
  refine Ow.Go.old (fun o3 => ?_)
  have f4 := hf0.keep Kh2 Ow.nin0
  refine Ow.callStatic (pc' := 12) (W := 0) (k' := 1) (n' := 4) (argsL := [(.ref pa0), (.int (0 : Int32)), (.ref a1), (.int (0 : Int32)), (.int (4 : Int32))]) (rest := []) B e6_9 (w46 hw) (w47 hw) (w44 hw) (w48 hw) (con_compress_77 hw G GS (pa0 := pa0) (pa1 := a1) (px0 := px0) (px1 := px1) (px2 := px2) (px3 := px3) (pk0 := pk0) (pk1 := ka1) o3 f4 Va1 (by omega) (by omega) (by omega) hc_px0 hc_px1 hc_px2 hc_px3) pd6 ?_
  intro vq5 h6 S7 q5 zh6
  rcases q5 with q5 | q5 | q5 | q5 | q5
  · obtain ⟨rfl, rfl, c8, rfl⟩ := q5
    refine Ow.Go.norm (S' := [a1]) (st' := [(.int (0 : Int32))]) (fun _ q => List.mem_append_right _ q) rfl ?_
    refine Ow.istore (pc' := 14) (Ls' := #[.val (.ref pa0), .val (.int (0 : Int32)), .val (.int (4 : Int32)), .val (.ref a1), .val (.int (0 : Int32)), .unset]) B e6_12 ?_
    refine Ow.iload (pc' := 16) B e6_14 ?_
    refine Ow.iloadN (pc' := 17) B e6_16 ?_
    refine Ow.icmpF (pc' := 20) B e6_17 (by decide) ?_
    refine Ow.aloadN (pc' := 21) B e6_20 ?_
    refine Ow.iloadN (pc' := 22) B e6_21 ?_
    refine Ow.iloadN (pc' := 23) B e6_22 ?_
    refine Ow.Go.old (fun o9 => ?_)
    refine Ow.callStatic (pc' := 26) (W := 0) (k' := 2) (n' := 12) (argsL := [(.ref pa0), (.int (0 : Int32)), (.int (4 : Int32))]) (rest := []) B e6_23 (w77 hw) (w78 hw) (w44 hw) (w79 hw) (con_toBytes_84 hw G GS (pa0 := pa0) (px0 := px0) (px1 := px1) (px2 := px2) (px3 := px3) (pk0 := pk0) o9 f4 (by omega) hc_px0 hc_px1 hc_px2 hc_px3) pd10 ?_
    intro vq10 h11 S12 q10 zh11
    obtain ⟨r13, k14, rfl, Kh11, br13, f15, rfl⟩ := q10
    have lr13 : (r13 : Nat) < h11.size := f15.lt
    refine Ow.Go.norm (S' := [r13, a1]) (st' := [(.ref r13)]) (fun _ q => q) rfl ?_
    refine Ow.astore (pc' := 28) (Ls' := #[.val (.ref pa0), .val (.int (0 : Int32)), .val (.int (4 : Int32)), .val (.ref a1), .val (.int (0 : Int32)), .val (.ref r13)]) B e6_26 ?_
    refine Ow.aload (pc' := 30) B e6_28 ?_
    refine Ow.iload (pc' := 32) B e6_30 ?_
    refine Ow.Go.old (fun o16 => ?_)
    refine Ow.callStatic (pc' := 35) (W := 0) (k' := 2) (n' := 12) (argsL := [(.ref r13), (.int (0 : Int32))]) (rest := []) B e6_32 (w93 hw) (w94 hw) (w44 hw) (w95 hw) (con_getChar_85 hw G GS (pa0 := r13) (px0 := px0) (px1 := px1) (px2 := px2) (px3 := px3) (pk0 := k14) o16 f15 (by omega) (hk0) (hk1) hc_px0 hc_px1 hc_px2 hc_px3) pd11 ?_
    intro vq17 h18 S19 q17 zh18
    obtain ⟨rfl, rfl, rfl⟩ := q17
    refine Ow.Go.norm (S' := [r13, a1]) (st' := [(.int px0)]) (fun _ q => List.mem_append_right _ q) rfl ?_
    refine Ow.sipush (pc' := 38) (x := (255 : Int32)) B e6_35 ?_
    refine Ow.icmpT (pc' := 54) B e6_38 (tlt (c8)).2.2.1 ?_
    refine Ow.aload (pc' := 56) B e6_54 ?_
    exact Ow.retA (S' := [r13]) (t := (.array .byte)) B e6_56 (Or.inl (⟨r13, k14, rfl, (((Keep.refl _ []).trans Kh2 (fun _ q => nomatch q)).trans Kh11 (fun _ q => nomatch q)), c8, (by omega), f15, rfl⟩))
  · obtain ⟨rfl, Kh6, c20, c21, f22, rfl⟩ := q5
    refine Ow.Go.norm (S' := [a1]) (st' := [(.int (1 : Int32))]) (fun _ q => List.mem_append_right _ q) rfl ?_
    refine Ow.istore (pc' := 14) (Ls' := #[.val (.ref pa0), .val (.int (0 : Int32)), .val (.int (4 : Int32)), .val (.ref a1), .val (.int (1 : Int32)), .unset]) B e6_12 ?_
    refine Ow.iload (pc' := 16) B e6_14 ?_
    refine Ow.iloadN (pc' := 17) B e6_16 ?_
    refine Ow.icmpF (pc' := 20) B e6_17 (by decide) ?_
    refine Ow.aloadN (pc' := 21) B e6_20 ?_
    refine Ow.iloadN (pc' := 22) B e6_21 ?_
    refine Ow.iloadN (pc' := 23) B e6_22 ?_
    refine Ow.Go.old (fun o23 => ?_)
    have f24 := f4.keep Kh6 (Ow.ninS (by omega) Ow.nin0)
    refine Ow.callStatic (pc' := 26) (W := 0) (k' := 2) (n' := 12) (argsL := [(.ref pa0), (.int (0 : Int32)), (.int (4 : Int32))]) (rest := []) B e6_23 (w77 hw) (w78 hw) (w44 hw) (w79 hw) (con_toBytes_84 hw G GS (pa0 := pa0) (px0 := px0) (px1 := px1) (px2 := px2) (px3 := px3) (pk0 := pk0) o23 f24 (by omega) hc_px0 hc_px1 hc_px2 hc_px3) pd10 ?_
    intro vq25 h26 S27 q25 zh26
    obtain ⟨r28, k29, rfl, Kh26, br28, f30, rfl⟩ := q25
    have lr28 : (r28 : Nat) < h26.size := f30.lt
    refine Ow.Go.norm (S' := [r28, a1]) (st' := [(.ref r28)]) (fun _ q => q) rfl ?_
    refine Ow.astore (pc' := 28) (Ls' := #[.val (.ref pa0), .val (.int (0 : Int32)), .val (.int (4 : Int32)), .val (.ref a1), .val (.int (1 : Int32)), .val (.ref r28)]) B e6_26 ?_
    refine Ow.aload (pc' := 30) B e6_28 ?_
    refine Ow.iload (pc' := 32) B e6_30 ?_
    refine Ow.Go.old (fun o31 => ?_)
    refine Ow.callStatic (pc' := 35) (W := 0) (k' := 2) (n' := 12) (argsL := [(.ref r28), (.int (1 : Int32))]) (rest := []) B e6_32 (w93 hw) (w94 hw) (w44 hw) (w95 hw) (con_getChar_86 hw G GS (pa0 := r28) (px0 := px0) (px1 := px1) (px2 := px2) (px3 := px3) (pk0 := k29) o31 f30 (by omega) (hk2) (hk3) hc_px0 hc_px1 hc_px2 hc_px3) pd11 ?_
    intro vq32 h33 S34 q32 zh33
    obtain ⟨rfl, rfl, rfl⟩ := q32
    refine Ow.Go.norm (S' := [r28, a1]) (st' := [(.int px1)]) (fun _ q => List.mem_append_right _ q) rfl ?_
    refine Ow.sipush (pc' := 38) (x := (255 : Int32)) B e6_35 ?_
    refine Ow.icmpT (pc' := 54) B e6_38 (tlt (c21)).2.2.1 ?_
    refine Ow.aload (pc' := 56) B e6_54 ?_
    exact Ow.retA (S' := [r28]) (t := (.array .byte)) B e6_56 (Or.inr (Or.inl (⟨r28, k29, rfl, ((((Keep.refl _ []).trans Kh2 (fun _ q => nomatch q)).trans Kh6 (allS (Or.inr (by omega)) all0)).trans Kh26 (fun _ q => nomatch q)), c20, c21, (by omega), f30, rfl⟩)))
  · obtain ⟨rfl, Kh6, c35, c36, c37, f38, rfl⟩ := q5
    refine Ow.Go.norm (S' := [a1]) (st' := [(.int (2 : Int32))]) (fun _ q => List.mem_append_right _ q) rfl ?_
    refine Ow.istore (pc' := 14) (Ls' := #[.val (.ref pa0), .val (.int (0 : Int32)), .val (.int (4 : Int32)), .val (.ref a1), .val (.int (2 : Int32)), .unset]) B e6_12 ?_
    refine Ow.iload (pc' := 16) B e6_14 ?_
    refine Ow.iloadN (pc' := 17) B e6_16 ?_
    refine Ow.icmpF (pc' := 20) B e6_17 (by decide) ?_
    refine Ow.aloadN (pc' := 21) B e6_20 ?_
    refine Ow.iloadN (pc' := 22) B e6_21 ?_
    refine Ow.iloadN (pc' := 23) B e6_22 ?_
    refine Ow.Go.old (fun o39 => ?_)
    have f40 := f4.keep Kh6 (Ow.ninS (by omega) Ow.nin0)
    refine Ow.callStatic (pc' := 26) (W := 0) (k' := 2) (n' := 12) (argsL := [(.ref pa0), (.int (0 : Int32)), (.int (4 : Int32))]) (rest := []) B e6_23 (w77 hw) (w78 hw) (w44 hw) (w79 hw) (con_toBytes_84 hw G GS (pa0 := pa0) (px0 := px0) (px1 := px1) (px2 := px2) (px3 := px3) (pk0 := pk0) o39 f40 (by omega) hc_px0 hc_px1 hc_px2 hc_px3) pd10 ?_
    intro vq41 h42 S43 q41 zh42
    obtain ⟨r44, k45, rfl, Kh42, br44, f46, rfl⟩ := q41
    have lr44 : (r44 : Nat) < h42.size := f46.lt
    refine Ow.Go.norm (S' := [r44, a1]) (st' := [(.ref r44)]) (fun _ q => q) rfl ?_
    refine Ow.astore (pc' := 28) (Ls' := #[.val (.ref pa0), .val (.int (0 : Int32)), .val (.int (4 : Int32)), .val (.ref a1), .val (.int (2 : Int32)), .val (.ref r44)]) B e6_26 ?_
    refine Ow.aload (pc' := 30) B e6_28 ?_
    refine Ow.iload (pc' := 32) B e6_30 ?_
    refine Ow.Go.old (fun o47 => ?_)
    refine Ow.callStatic (pc' := 35) (W := 0) (k' := 2) (n' := 12) (argsL := [(.ref r44), (.int (2 : Int32))]) (rest := []) B e6_32 (w93 hw) (w94 hw) (w44 hw) (w95 hw) (con_getChar_87 hw G GS (pa0 := r44) (px0 := px0) (px1 := px1) (px2 := px2) (px3 := px3) (pk0 := k45) o47 f46 (by omega) (hk4) (hk5) hc_px0 hc_px1 hc_px2 hc_px3) pd11 ?_
    intro vq48 h49 S50 q48 zh49
    obtain ⟨rfl, rfl, rfl⟩ := q48
    refine Ow.Go.norm (S' := [r44, a1]) (st' := [(.int px2)]) (fun _ q => List.mem_append_right _ q) rfl ?_
    refine Ow.sipush (pc' := 38) (x := (255 : Int32)) B e6_35 ?_
    refine Ow.icmpT (pc' := 54) B e6_38 (tlt (c37)).2.2.1 ?_
    refine Ow.aload (pc' := 56) B e6_54 ?_
    exact Ow.retA (S' := [r44]) (t := (.array .byte)) B e6_56 (Or.inr (Or.inr (Or.inl (⟨r44, k45, rfl, ((((Keep.refl _ []).trans Kh2 (fun _ q => nomatch q)).trans Kh6 (allS (Or.inr (by omega)) all0)).trans Kh42 (fun _ q => nomatch q)), c35, c36, c37, (by omega), f46, rfl⟩))))
  · obtain ⟨rfl, Kh6, c51, c52, c53, c54, f55, rfl⟩ := q5
    refine Ow.Go.norm (S' := [a1]) (st' := [(.int (3 : Int32))]) (fun _ q => List.mem_append_right _ q) rfl ?_
    refine Ow.istore (pc' := 14) (Ls' := #[.val (.ref pa0), .val (.int (0 : Int32)), .val (.int (4 : Int32)), .val (.ref a1), .val (.int (3 : Int32)), .unset]) B e6_12 ?_
    refine Ow.iload (pc' := 16) B e6_14 ?_
    refine Ow.iloadN (pc' := 17) B e6_16 ?_
    refine Ow.icmpF (pc' := 20) B e6_17 (by decide) ?_
    refine Ow.aloadN (pc' := 21) B e6_20 ?_
    refine Ow.iloadN (pc' := 22) B e6_21 ?_
    refine Ow.iloadN (pc' := 23) B e6_22 ?_
    refine Ow.Go.old (fun o56 => ?_)
    have f57 := f4.keep Kh6 (Ow.ninS (by omega) Ow.nin0)
    refine Ow.callStatic (pc' := 26) (W := 0) (k' := 2) (n' := 12) (argsL := [(.ref pa0), (.int (0 : Int32)), (.int (4 : Int32))]) (rest := []) B e6_23 (w77 hw) (w78 hw) (w44 hw) (w79 hw) (con_toBytes_84 hw G GS (pa0 := pa0) (px0 := px0) (px1 := px1) (px2 := px2) (px3 := px3) (pk0 := pk0) o56 f57 (by omega) hc_px0 hc_px1 hc_px2 hc_px3) pd10 ?_
    intro vq58 h59 S60 q58 zh59
    obtain ⟨r61, k62, rfl, Kh59, br61, f63, rfl⟩ := q58
    have lr61 : (r61 : Nat) < h59.size := f63.lt
    refine Ow.Go.norm (S' := [r61, a1]) (st' := [(.ref r61)]) (fun _ q => q) rfl ?_
    refine Ow.astore (pc' := 28) (Ls' := #[.val (.ref pa0), .val (.int (0 : Int32)), .val (.int (4 : Int32)), .val (.ref a1), .val (.int (3 : Int32)), .val (.ref r61)]) B e6_26 ?_
    refine Ow.aload (pc' := 30) B e6_28 ?_
    refine Ow.iload (pc' := 32) B e6_30 ?_
    refine Ow.Go.old (fun o64 => ?_)
    refine Ow.callStatic (pc' := 35) (W := 0) (k' := 2) (n' := 12) (argsL := [(.ref r61), (.int (3 : Int32))]) (rest := []) B e6_32 (w93 hw) (w94 hw) (w44 hw) (w95 hw) (con_getChar_88 hw G GS (pa0 := r61) (px0 := px0) (px1 := px1) (px2 := px2) (px3 := px3) (pk0 := k62) o64 f63 (by omega) (hk6) (hk7) hc_px0 hc_px1 hc_px2 hc_px3) pd11 ?_
    intro vq65 h66 S67 q65 zh66
    obtain ⟨rfl, rfl, rfl⟩ := q65
    refine Ow.Go.norm (S' := [r61, a1]) (st' := [(.int px3)]) (fun _ q => List.mem_append_right _ q) rfl ?_
    refine Ow.sipush (pc' := 38) (x := (255 : Int32)) B e6_35 ?_
    refine Ow.icmpT (pc' := 54) B e6_38 (tlt (c54)).2.2.1 ?_
    refine Ow.aload (pc' := 56) B e6_54 ?_
    exact Ow.retA (S' := [r61]) (t := (.array .byte)) B e6_56 (Or.inr (Or.inr (Or.inr (Or.inl (⟨r61, k62, rfl, ((((Keep.refl _ []).trans Kh2 (fun _ q => nomatch q)).trans Kh6 (allS (Or.inr (by omega)) all0)).trans Kh59 (fun _ q => nomatch q)), c51, c52, c53, c54, (by omega), f63, rfl⟩)))))
  · obtain ⟨rfl, Kh6, c68, c69, c70, c71, f72, rfl⟩ := q5
    refine Ow.Go.norm (S' := [a1]) (st' := [(.int (4 : Int32))]) (fun _ q => List.mem_append_right _ q) rfl ?_
    refine Ow.istore (pc' := 14) (Ls' := #[.val (.ref pa0), .val (.int (0 : Int32)), .val (.int (4 : Int32)), .val (.ref a1), .val (.int (4 : Int32)), .unset]) B e6_12 ?_
    refine Ow.iload (pc' := 16) B e6_14 ?_
    refine Ow.iloadN (pc' := 17) B e6_16 ?_
    refine Ow.icmpT (pc' := 57) B e6_17 (by decide) ?_
    refine Ow.aloadN (pc' := 58) B e6_57 ?_
    exact Ow.retA (S' := [a1]) (t := (.array .byte)) B e6_58 (Or.inr (Or.inr (Or.inr (Or.inr (⟨a1, ka1, rfl, (((Keep.refl _ []).trans Kh2 (fun _ q => nomatch q)).trans Kh6 (allS (Or.inr (by omega)) all0)), c68, c69, c70, c71, (by omega), f72, rfl⟩)))))
set_option maxRecDepth 65536 in
set_option maxHeartbeats 40000000 in
theorem con_coderFromArrayLen_90 {l : Launch} {Z : State} {n0 : Nat} {a0 : Array Value} {cz : Int32} {sf : Value} (hw : Hw a0 Z) (G : Ow.Glo Z cz sf) (GS : GlS Z) {pa0 : Nat} {px0 : Int32} {px1 : Int32} {px2 : Int32} {px3 : Int32} {pk0 : ClassId} {h0 : Heap} (O0 : Old Z n0 h0) (hf0 : Arv Z h0 pa0 pk0 .byte (8 : Int32) [(.int px0.toInt8.toInt32), (.int (px0 >>> ((8 : Int32) &&& 31)).toInt8.toInt32), (.int px1.toInt8.toInt32), (.int (px1 >>> ((8 : Int32) &&& 31)).toInt8.toInt32), (.int px2.toInt8.toInt32), (.int (px2 >>> ((8 : Int32) &&& 31)).toInt8.toInt32), (.int px3.toInt8.toInt32), (.int (px3 >>> ((8 : Int32) &&& 31)).toInt8.toInt32)] (.int 0)) (hn0 : n0 ≤ pa0) (hc_px0 : nar .char px0 = px0) (hc_px1 : nar .char px1 = px1) (hc_px2 : nar .char px2 = px2) (hc_px3 : nar .char px3 = px3) :
    Ow.Con l Z EL1 n0 my13 jdk_52_method_15_code 2 (Option.some Jvm.ClassFile.FieldType.byte) [] ({ frames := 0, cells := 0, slots := 0, locals := 0 } : Room) #[(.ref pa0), (.int (4 : Int32))] [pa0] h0 (fun v h S' => (v = some (.int (1 : Int32)) ∧ h = h0 ∧ S' = [])) := by
  refine Ow.Con.enter (Ls := #[.val (.ref pa0), .val (.int (4 : Int32))]) (plainFor_of_name pn3) O0 (hEW hw) (hSA hw) ?_
  intro p e s m below meth c B
  have z0 := Ow.old_le O0
  have lpa0 : (pa0 : Nat) < h0.size := hf0.lt
  refine Ow.iloadN (pc' := 1) B e13_0 ?_
  refine Ow.aloadN (pc' := 2) B e13_1 ?_
  refine Ow.arrlen (pc' := 3) B e13_2 hf0 ?_
  refine Ow.isub (pc' := 4) (z := (-4 : Int32)) B e13_3 ?_
  refine Ow.bipush (pc' := 6) (x := (31 : Int32)) B e13_4 ?_
  refine Ow.iushr (pc' := 7) (z := (1 : Int32)) B e13_6 ?_
  refine Ow.i2b (pc' := 8) (z := (1 : Int32)) B e13_7 ?_
  exact Ow.retI (S' := []) (t := .byte) B e13_8 (⟨rfl, rfl, rfl⟩)
set_option maxRecDepth 65536 in
set_option maxHeartbeats 40000000 in
theorem con_coderFromArrayLen_91 {l : Launch} {Z : State} {n0 : Nat} {a0 : Array Value} {cz : Int32} {sf : Value} (hw : Hw a0 Z) (G : Ow.Glo Z cz sf) (GS : GlS Z) {pa0 : Nat} {px0 : Int32} {px1 : Int32} {px2 : Int32} {px3 : Int32} {pk0 : ClassId} {h0 : Heap} (O0 : Old Z n0 h0) (hf0 : Arv Z h0 pa0 pk0 .byte (4 : Int32) [(.int px0.toInt8.toInt32), (.int px1.toInt8.toInt32), (.int px2.toInt8.toInt32), (.int px3.toInt8.toInt32)] (.int 0)) (hn0 : n0 ≤ pa0) (hc_px0 : nar .char px0 = px0) (hc_px1 : nar .char px1 = px1) (hc_px2 : nar .char px2 = px2) (hc_px3 : nar .char px3 = px3) :
    Ow.Con l Z EL1 n0 my13 jdk_52_method_15_code 2 (Option.some Jvm.ClassFile.FieldType.byte) [] ({ frames := 0, cells := 0, slots := 0, locals := 0 } : Room) #[(.ref pa0), (.int (4 : Int32))] [pa0] h0 (fun v h S' => (v = some (.int (0 : Int32)) ∧ h = h0 ∧ S' = [])) := by
  refine Ow.Con.enter (Ls := #[.val (.ref pa0), .val (.int (4 : Int32))]) (plainFor_of_name pn3) O0 (hEW hw) (hSA hw) ?_
  intro p e s m below meth c B
  have z0 := Ow.old_le O0
  have lpa0 : (pa0 : Nat) < h0.size := hf0.lt
  refine Ow.iloadN (pc' := 1) B e13_0 ?_
  refine Ow.aloadN (pc' := 2) B e13_1 ?_
  refine Ow.arrlen (pc' := 3) B e13_2 hf0 ?_
  refine Ow.isub (pc' := 4) (z := (0 : Int32)) B e13_3 ?_
  refine Ow.bipush (pc' := 6) (x := (31 : Int32)) B e13_4 ?_
  refine Ow.iushr (pc' := 7) (z := (0 : Int32)) B e13_6 ?_
  refine Ow.i2b (pc' := 8) (z := (0 : Int32)) B e13_7 ?_
  exact Ow.retI (S' := []) (t := .byte) B e13_8 (⟨rfl, rfl, rfl⟩)
set_option maxRecDepth 65536 in
set_option maxHeartbeats 40000000 in
theorem con_init_92 {l : Launch} {Z : State} {n0 : Nat} {a0 : Array Value} {cz : Int32} {sf : Value} (hw : Hw a0 Z) (G : Ow.Glo Z cz sf) (GS : GlS Z) {pa0 : Nat} {pa1 : Nat} {px0 : Int32} {px1 : Int32} {px2 : Int32} {px3 : Int32} {pk0 : ClassId} {h0 : Heap} (O0 : Old Z n0 h0) (hf0 : Exa Z h0 pa0 "java/lang/String") (hf1 : Fld Z h0 pa0 "java/lang/String" "coder" "B" (.int (0 : Int32))) (hf2 : Fld Z h0 pa0 "java/lang/String" "value" "[B" .null) (hf3 : Arv Z h0 pa1 pk0 .char (4 : Int32) [(.int px0), (.int px1), (.int px2), (.int px3)] (.int 0)) (hn0 : n0 ≤ pa0) (hn1 : n0 ≤ pa1) (hk0 : ¬ ((65535 : Int32) < px0)) (hk1 : ¬ (px0 < (0 : Int32))) (hk2 : ¬ ((65535 : Int32) < px1)) (hk3 : ¬ (px1 < (0 : Int32))) (hk4 : ¬ ((65535 : Int32) < px2)) (hk5 : ¬ (px2 < (0 : Int32))) (hk6 : ¬ ((65535 : Int32) < px3)) (hk7 : ¬ (px3 < (0 : Int32))) (hc_px0 : nar .char px0 = px0) (hc_px1 : nar .char px1 = px1) (hc_px2 : nar .char px2 = px2) (hc_px3 : nar .char px3 = px3) :
    Ow.Con l Z EL1 n0 my0 jdk_42_method_149_code 6 (Option.none : Option Jvm.ClassFile.FieldType) [] ({ frames := 4, cells := 2, slots := 12, locals := 57 } : Room) #[(.ref pa0), (.ref pa1), (.int (0 : Int32)), (.int (4 : Int32)), .null] [pa0] h0 (fun v h S' => (∃ r0 : Nat, ∃ k0 : ClassId, v = none ∧ Keep h0 h [pa0] ∧ h0.size ≤ r0 ∧ Ow.Chs Z h pa0 r0 k0 [px0, px1, px2, px3] ∧ S' = [])) := by
  refine Ow.Con.enter (Ls := #[.val (.ref pa0), .val (.ref pa1), .val (.int (0 : Int32)), .val (.int (4 : Int32)), .val .null, .unset]) (plainFor_of_name pn0) O0 (hEW hw) (hSA hw) ?_
  intro p e s m below meth c B
  have z0 := Ow.old_le O0
  have lpa0 : (pa0 : Nat) < h0.size := hf0.lt
  have lpa1 : (pa1 : Nat) < h0.size := hf3.lt
  refine Ow.aloadN (pc' := 1) B e2_0 ?_
  refine Ow.objInit (pc' := 4) (W := 0) B e2_1 (w11 hw) (w12 hw) (w13 hw) ?_
  refine Ow.iloadN (pc' := 5) B e2_4 ?_
  refine Ow.ifT (pc' := 27) B e2_5 (by decide) ?_
  refine Ow.getstatic (pc' := 30) B e2_27 (w36 hw) Via.refl G.1 ?_
  refine Ow.ifF (pc' := 33) B e2_30 (feq (G.2.1)).1 ?_
  refine Ow.aloadN (pc' := 34) B e2_33 ?_
  refine Ow.iloadN (pc' := 35) B e2_34 ?_
  refine Ow.iloadN (pc' := 36) B e2_35 ?_
  refine Ow.Go.old (fun o1 => ?_)
  refine Ow.callStatic (pc' := 39) (W := 0) (k' := 2) (n' := 12) (argsL := [(.ref pa1), (.int (0 : Int32)), (.int (4 : Int32))]) (rest := []) B e2_36 (w42 hw) (w43 hw) (w44 hw) (w45 hw) (con_compress_89 hw G GS (pa0 := pa1) (px0 := px0) (px1 := px1) (px2 := px2) (px3 := px3) (pk0 := pk0) o1 hf3 (by omega) (hk0) (hk1) (hk2) (hk3) (hk4) (hk5) (hk6) (hk7) hc_px0 hc_px1 hc_px2 hc_px3) pd10 ?_
  intro vq2 h3 S4 q2 zh3
  rcases q2 with q2 | q2 | q2 | q2 | q2
  · obtain ⟨r5, k6, rfl, Kh3, c7, br5, f8, rfl⟩ := q2
    have lr5 : (r5 : Nat) < h3.size := f8.lt
    refine Ow.Go.norm (S' := [r5, pa0]) (st' := [(.ref r5)]) (fun _ q => q) rfl ?_
    refine Ow.astore (pc' := 41) (Ls' := #[.val (.ref pa0), .val (.ref pa1), .val (.int (0 : Int32)), .val (.int (4 : Int32)), .val .null, .val (.ref r5)]) B e2_39 ?_
    refine Ow.aloadN (pc' := 42) B e2_41 ?_
    refine Ow.aload (pc' := 44) B e2_42 ?_
    refine Ow.iloadN (pc' := 45) B e2_44 ?_
    refine Ow.Go.old (fun o9 => ?_)
    refine Ow.callStatic (pc' := 48) (W := 1) (k' := 2) (n' := 12) (argsL := [(.ref r5), (.int (4 : Int32))]) (rest := [(.ref pa0)]) B e2_45 (w49 hw) (w50 hw) (w44 hw) (w51 hw) (con_coderFromArrayLen_90 hw G GS (pa0 := r5) (px0 := px0) (px1 := px1) (px2 := px2) (px3 := px3) (pk0 := k6) o9 f8 (by omega) hc_px0 hc_px1 hc_px2 hc_px3) pd12 ?_
    intro vq10 h11 S12 q10 zh11
    obtain ⟨rfl, rfl, rfl⟩ := q10
    refine Ow.Go.norm (S' := [r5, pa0]) (st' := [(.int (1 : Int32)), (.ref pa0)]) (fun _ q => List.mem_append_right _ q) rfl ?_
    have f13 := hf1.keep Kh3 Ow.nin0
    have f14 := hf0.keep Kh3
    refine Ow.putfield (pc' := 51) (ty := .byte) B e2_48 (w21 hw) Via.refl f13 f14 (Or.inr ⟨(w17 hw), rfl, rfl⟩) (w2 hw) (Or.inl (by simp)) ?_
    intro h15 Wh15
    have f16 := hf2.keep Kh3 Ow.nin0
    have Kh15 := Keep.of_wr Wh15
    have zh15 := Kh15.1
    have f17 : Fld Z h15 pa0 "java/lang/String" "coder" "B" (.int (1 : Int32)) := f13.same Wh15
    have f18 : Fld Z h15 pa0 "java/lang/String" "value" "[B" .null := f16.other Wh15 (Or.inr (slot_ne (a0 := a0) (C := "java/lang/String") (t := (.array .byte)) (t' := .byte) (Or.inr (w16 hw)) (Or.inr (w17 hw)) (by decide) (by decide) (by decide)))
    refine Ow.aloadN (pc' := 52) B e2_51 ?_
    refine Ow.aload (pc' := 54) B e2_52 ?_
    have f19 := f14.keep Kh15
    refine Ow.putfield (pc' := 57) (ty := (.array .byte)) B e2_54 (w20 hw) Via.refl f18 f19 (Or.inr ⟨(w16 hw), rfl, rfl⟩) (w2 hw) (Or.inl (by simp)) ?_
    intro h20 Wh20
    have Kh20 := Keep.of_wr Wh20
    have zh20 := Kh20.1
    have f21 : Fld Z h20 pa0 "java/lang/String" "value" "[B" (.ref r5) := f18.same Wh20
    have f22 : Fld Z h20 pa0 "java/lang/String" "coder" "B" (.int (1 : Int32)) := f17.other Wh20 (Or.inr (slot_ne (a0 := a0) (C := "java/lang/String") (t := .byte) (t' := (.array .byte)) (Or.inr (w17 hw)) (Or.inr (w16 hw)) (by decide) (by decide) (by decide)))
    have f23 := f19.keep Kh20
    have f24 := f8.keep Kh15 (Ow.ninS (by omega) Ow.nin0)
    have f25 := f24.keep Kh20 (Ow.ninS (by omega) Ow.nin0)
    have s26 : Ow.Chs Z h20 pa0 r5 k6 [px0, px1, px2, px3] := ⟨f23, f21, (Ow.allI ⟨(hk1), (hk0)⟩ (Ow.allI ⟨(hk3), (hk2)⟩ (Ow.allI ⟨(hk5), (hk4)⟩ (Ow.allI ⟨(hk7), (hk6)⟩ Ow.allI0)))), Or.inr ⟨f22, f25⟩⟩
    exact Ow.retV (S' := []) B e2_57 (⟨r5, k6, rfl, ((((Keep.refl _ [pa0]).trans Kh3 (fun _ q => nomatch q)).trans Kh15 (allS (Or.inl (by simp)) all0)).trans Kh20 (allS (Or.inl (by simp)) all0)), (by omega), s26, rfl⟩)
  · obtain ⟨r27, k28, rfl, Kh3, c29, c30, br27, f31, rfl⟩ := q2
    have lr27 : (r27 : Nat) < h3.size := f31.lt
    refine Ow.Go.norm (S' := [r27, pa0]) (st' := [(.ref r27)]) (fun _ q => q) rfl ?_
    refine Ow.astore (pc' := 41) (Ls' := #[.val (.ref pa0), .val (.ref pa1), .val (.int (0 : Int32)), .val (.int (4 : Int32)), .val .null, .val (.ref r27)]) B e2_39 ?_
    refine Ow.aloadN (pc' := 42) B e2_41 ?_
    refine Ow.aload (pc' := 44) B e2_42 ?_
    refine Ow.iloadN (pc' := 45) B e2_44 ?_
    refine Ow.Go.old (fun o32 => ?_)
    refine Ow.callStatic (pc' := 48) (W := 1) (k' := 2) (n' := 12) (argsL := [(.ref r27), (.int (4 : Int32))]) (rest := [(.ref pa0)]) B e2_45 (w49 hw) (w50 hw) (w44 hw) (w51 hw) (con_coderFromArrayLen_90 hw G GS (pa0 := r27) (px0 := px0) (px1 := px1) (px2 := px2) (px3 := px3) (pk0 := k28) o32 f31 (by omega) hc_px0 hc_px1 hc_px2 hc_px3) pd12 ?_
    intro vq33 h34 S35 q33 zh34
    obtain ⟨rfl, rfl, rfl⟩ := q33
    refine Ow.Go.norm (S' := [r27, pa0]) (st' := [(.int (1 : Int32)), (.ref pa0)]) (fun _ q => List.mem_append_right _ q) rfl ?_
    have f36 := hf1.keep Kh3 Ow.nin0
    have f37 := hf0.keep Kh3
    refine Ow.putfield (pc' := 51) (ty := .byte) B e2_48 (w21 hw) Via.refl f36 f37 (Or.inr ⟨(w17 hw), rfl, rfl⟩) (w2 hw) (Or.inl (by simp)) ?_
    intro h38 Wh38
    have f39 := hf2.keep Kh3 Ow.nin0
    have Kh38 := Keep.of_wr Wh38
    have zh38 := Kh38.1
    have f40 : Fld Z h38 pa0 "java/lang/String" "coder" "B" (.int (1 : Int32)) := f36.same Wh38
    have f41 : Fld Z h38 pa0 "java/lang/String" "value" "[B" .null := f39.other Wh38 (Or.inr (slot_ne (a0 := a0) (C := "java/lang/String") (t := (.array .byte)) (t' := .byte) (Or.inr (w16 hw)) (Or.inr (w17 hw)) (by decide) (by decide) (by decide)))
    refine Ow.aloadN (pc' := 52) B e2_51 ?_
    refine Ow.aload (pc' := 54) B e2_52 ?_
    have f42 := f37.keep Kh38
    refine Ow.putfield (pc' := 57) (ty := (.array .byte)) B e2_54 (w20 hw) Via.refl f41 f42 (Or.inr ⟨(w16 hw), rfl, rfl⟩) (w2 hw) (Or.inl (by simp)) ?_
    intro h43 Wh43
    have Kh43 := Keep.of_wr Wh43
    have zh43 := Kh43.1
    have f44 : Fld Z h43 pa0 "java/lang/String" "value" "[B" (.ref r27) := f41.same Wh43
    have f45 : Fld Z h43 pa0 "java/lang/String" "coder" "B" (.int (1 : Int32)) := f40.other Wh43 (Or.inr (slot_ne (a0 := a0) (C := "java/lang/String") (t := .byte) (t' := (.array .byte)) (Or.inr (w17 hw)) (Or.inr (w16 hw)) (by decide) (by decide) (by decide)))
    have f46 := f42.keep Kh43
    have f47 := f31.keep Kh38 (Ow.ninS (by omega) Ow.nin0)
    have f48 := f47.keep Kh43 (Ow.ninS (by omega) Ow.nin0)
    have s49 : Ow.Chs Z h43 pa0 r27 k28 [px0, px1, px2, px3] := ⟨f46, f44, (Ow.allI ⟨(hk1), (hk0)⟩ (Ow.allI ⟨(hk3), (hk2)⟩ (Ow.allI ⟨(hk5), (hk4)⟩ (Ow.allI ⟨(hk7), (hk6)⟩ Ow.allI0)))), Or.inr ⟨f45, f48⟩⟩
    exact Ow.retV (S' := []) B e2_57 (⟨r27, k28, rfl, ((((Keep.refl _ [pa0]).trans Kh3 (fun _ q => nomatch q)).trans Kh38 (allS (Or.inl (by simp)) all0)).trans Kh43 (allS (Or.inl (by simp)) all0)), (by omega), s49, rfl⟩)
  · obtain ⟨r50, k51, rfl, Kh3, c52, c53, c54, br50, f55, rfl⟩ := q2
    have lr50 : (r50 : Nat) < h3.size := f55.lt
    refine Ow.Go.norm (S' := [r50, pa0]) (st' := [(.ref r50)]) (fun _ q => q) rfl ?_
    refine Ow.astore (pc' := 41) (Ls' := #[.val (.ref pa0), .val (.ref pa1), .val (.int (0 : Int32)), .val (.int (4 : Int32)), .val .null, .val (.ref r50)]) B e2_39 ?_
    refine Ow.aloadN (pc' := 42) B e2_41 ?_
    refine Ow.aload (pc' := 44) B e2_42 ?_
    refine Ow.iloadN (pc' := 45) B e2_44 ?_
    refine Ow.Go.old (fun o56 => ?_)
    refine Ow.callStatic (pc' := 48) (W := 1) (k' := 2) (n' := 12) (argsL := [(.ref r50), (.int (4 : Int32))]) (rest := [(.ref pa0)]) B e2_45 (w49 hw) (w50 hw) (w44 hw) (w51 hw) (con_coderFromArrayLen_90 hw G GS (pa0 := r50) (px0 := px0) (px1 := px1) (px2 := px2) (px3 := px3) (pk0 := k51) o56 f55 (by omega) hc_px0 hc_px1 hc_px2 hc_px3) pd12 ?_
    intro vq57 h58 S59 q57 zh58
    obtain ⟨rfl, rfl, rfl⟩ := q57
    refine Ow.Go.norm (S' := [r50, pa0]) (st' := [(.int (1 : Int32)), (.ref pa0)]) (fun _ q => List.mem_append_right _ q) rfl ?_
    have f60 := hf1.keep Kh3 Ow.nin0
    have f61 := hf0.keep Kh3
    refine Ow.putfield (pc' := 51) (ty := .byte) B e2_48 (w21 hw) Via.refl f60 f61 (Or.inr ⟨(w17 hw), rfl, rfl⟩) (w2 hw) (Or.inl (by simp)) ?_
    intro h62 Wh62
    have f63 := hf2.keep Kh3 Ow.nin0
    have Kh62 := Keep.of_wr Wh62
    have zh62 := Kh62.1
    have f64 : Fld Z h62 pa0 "java/lang/String" "coder" "B" (.int (1 : Int32)) := f60.same Wh62
    have f65 : Fld Z h62 pa0 "java/lang/String" "value" "[B" .null := f63.other Wh62 (Or.inr (slot_ne (a0 := a0) (C := "java/lang/String") (t := (.array .byte)) (t' := .byte) (Or.inr (w16 hw)) (Or.inr (w17 hw)) (by decide) (by decide) (by decide)))
    refine Ow.aloadN (pc' := 52) B e2_51 ?_
    refine Ow.aload (pc' := 54) B e2_52 ?_
    have f66 := f61.keep Kh62
    refine Ow.putfield (pc' := 57) (ty := (.array .byte)) B e2_54 (w20 hw) Via.refl f65 f66 (Or.inr ⟨(w16 hw), rfl, rfl⟩) (w2 hw) (Or.inl (by simp)) ?_
    intro h67 Wh67
    have Kh67 := Keep.of_wr Wh67
    have zh67 := Kh67.1
    have f68 : Fld Z h67 pa0 "java/lang/String" "value" "[B" (.ref r50) := f65.same Wh67
    have f69 : Fld Z h67 pa0 "java/lang/String" "coder" "B" (.int (1 : Int32)) := f64.other Wh67 (Or.inr (slot_ne (a0 := a0) (C := "java/lang/String") (t := .byte) (t' := (.array .byte)) (Or.inr (w17 hw)) (Or.inr (w16 hw)) (by decide) (by decide) (by decide)))
    have f70 := f66.keep Kh67
    have f71 := f55.keep Kh62 (Ow.ninS (by omega) Ow.nin0)
    have f72 := f71.keep Kh67 (Ow.ninS (by omega) Ow.nin0)
    have s73 : Ow.Chs Z h67 pa0 r50 k51 [px0, px1, px2, px3] := ⟨f70, f68, (Ow.allI ⟨(hk1), (hk0)⟩ (Ow.allI ⟨(hk3), (hk2)⟩ (Ow.allI ⟨(hk5), (hk4)⟩ (Ow.allI ⟨(hk7), (hk6)⟩ Ow.allI0)))), Or.inr ⟨f69, f72⟩⟩
    exact Ow.retV (S' := []) B e2_57 (⟨r50, k51, rfl, ((((Keep.refl _ [pa0]).trans Kh3 (fun _ q => nomatch q)).trans Kh62 (allS (Or.inl (by simp)) all0)).trans Kh67 (allS (Or.inl (by simp)) all0)), (by omega), s73, rfl⟩)
  · obtain ⟨r74, k75, rfl, Kh3, c76, c77, c78, c79, br74, f80, rfl⟩ := q2
    have lr74 : (r74 : Nat) < h3.size := f80.lt
    refine Ow.Go.norm (S' := [r74, pa0]) (st' := [(.ref r74)]) (fun _ q => q) rfl ?_
    refine Ow.astore (pc' := 41) (Ls' := #[.val (.ref pa0), .val (.ref pa1), .val (.int (0 : Int32)), .val (.int (4 : Int32)), .val .null, .val (.ref r74)]) B e2_39 ?_
    refine Ow.aloadN (pc' := 42) B e2_41 ?_
    refine Ow.aload (pc' := 44) B e2_42 ?_
    refine Ow.iloadN (pc' := 45) B e2_44 ?_
    refine Ow.Go.old (fun o81 => ?_)
    refine Ow.callStatic (pc' := 48) (W := 1) (k' := 2) (n' := 12) (argsL := [(.ref r74), (.int (4 : Int32))]) (rest := [(.ref pa0)]) B e2_45 (w49 hw) (w50 hw) (w44 hw) (w51 hw) (con_coderFromArrayLen_90 hw G GS (pa0 := r74) (px0 := px0) (px1 := px1) (px2 := px2) (px3 := px3) (pk0 := k75) o81 f80 (by omega) hc_px0 hc_px1 hc_px2 hc_px3) pd12 ?_
    intro vq82 h83 S84 q82 zh83
    obtain ⟨rfl, rfl, rfl⟩ := q82
    refine Ow.Go.norm (S' := [r74, pa0]) (st' := [(.int (1 : Int32)), (.ref pa0)]) (fun _ q => List.mem_append_right _ q) rfl ?_
    have f85 := hf1.keep Kh3 Ow.nin0
    have f86 := hf0.keep Kh3
    refine Ow.putfield (pc' := 51) (ty := .byte) B e2_48 (w21 hw) Via.refl f85 f86 (Or.inr ⟨(w17 hw), rfl, rfl⟩) (w2 hw) (Or.inl (by simp)) ?_
    intro h87 Wh87
    have f88 := hf2.keep Kh3 Ow.nin0
    have Kh87 := Keep.of_wr Wh87
    have zh87 := Kh87.1
    have f89 : Fld Z h87 pa0 "java/lang/String" "coder" "B" (.int (1 : Int32)) := f85.same Wh87
    have f90 : Fld Z h87 pa0 "java/lang/String" "value" "[B" .null := f88.other Wh87 (Or.inr (slot_ne (a0 := a0) (C := "java/lang/String") (t := (.array .byte)) (t' := .byte) (Or.inr (w16 hw)) (Or.inr (w17 hw)) (by decide) (by decide) (by decide)))
    refine Ow.aloadN (pc' := 52) B e2_51 ?_
    refine Ow.aload (pc' := 54) B e2_52 ?_
    have f91 := f86.keep Kh87
    refine Ow.putfield (pc' := 57) (ty := (.array .byte)) B e2_54 (w20 hw) Via.refl f90 f91 (Or.inr ⟨(w16 hw), rfl, rfl⟩) (w2 hw) (Or.inl (by simp)) ?_
    intro h92 Wh92
    have Kh92 := Keep.of_wr Wh92
    have zh92 := Kh92.1
    have f93 : Fld Z h92 pa0 "java/lang/String" "value" "[B" (.ref r74) := f90.same Wh92
    have f94 : Fld Z h92 pa0 "java/lang/String" "coder" "B" (.int (1 : Int32)) := f89.other Wh92 (Or.inr (slot_ne (a0 := a0) (C := "java/lang/String") (t := .byte) (t' := (.array .byte)) (Or.inr (w17 hw)) (Or.inr (w16 hw)) (by decide) (by decide) (by decide)))
    have f95 := f91.keep Kh92
    have f96 := f80.keep Kh87 (Ow.ninS (by omega) Ow.nin0)
    have f97 := f96.keep Kh92 (Ow.ninS (by omega) Ow.nin0)
    have s98 : Ow.Chs Z h92 pa0 r74 k75 [px0, px1, px2, px3] := ⟨f95, f93, (Ow.allI ⟨(hk1), (hk0)⟩ (Ow.allI ⟨(hk3), (hk2)⟩ (Ow.allI ⟨(hk5), (hk4)⟩ (Ow.allI ⟨(hk7), (hk6)⟩ Ow.allI0)))), Or.inr ⟨f94, f97⟩⟩
    exact Ow.retV (S' := []) B e2_57 (⟨r74, k75, rfl, ((((Keep.refl _ [pa0]).trans Kh3 (fun _ q => nomatch q)).trans Kh87 (allS (Or.inl (by simp)) all0)).trans Kh92 (allS (Or.inl (by simp)) all0)), (by omega), s98, rfl⟩)
  · obtain ⟨r99, k100, rfl, Kh3, c101, c102, c103, c104, br99, f105, rfl⟩ := q2
    have lr99 : (r99 : Nat) < h3.size := f105.lt
    refine Ow.Go.norm (S' := [r99, pa0]) (st' := [(.ref r99)]) (fun _ q => q) rfl ?_
    refine Ow.astore (pc' := 41) (Ls' := #[.val (.ref pa0), .val (.ref pa1), .val (.int (0 : Int32)), .val (.int (4 : Int32)), .val .null, .val (.ref r99)]) B e2_39 ?_
    refine Ow.aloadN (pc' := 42) B e2_41 ?_
    refine Ow.aload (pc' := 44) B e2_42 ?_
    refine Ow.iloadN (pc' := 45) B e2_44 ?_
    refine Ow.Go.old (fun o106 => ?_)
    refine Ow.callStatic (pc' := 48) (W := 1) (k' := 2) (n' := 12) (argsL := [(.ref r99), (.int (4 : Int32))]) (rest := [(.ref pa0)]) B e2_45 (w49 hw) (w50 hw) (w44 hw) (w51 hw) (con_coderFromArrayLen_91 hw G GS (pa0 := r99) (px0 := px0) (px1 := px1) (px2 := px2) (px3 := px3) (pk0 := k100) o106 f105 (by omega) hc_px0 hc_px1 hc_px2 hc_px3) pd12 ?_
    intro vq107 h108 S109 q107 zh108
    obtain ⟨rfl, rfl, rfl⟩ := q107
    refine Ow.Go.norm (S' := [r99, pa0]) (st' := [(.int (0 : Int32)), (.ref pa0)]) (fun _ q => List.mem_append_right _ q) rfl ?_
    have f110 := hf1.keep Kh3 Ow.nin0
    have f111 := hf0.keep Kh3
    refine Ow.putfield (pc' := 51) (ty := .byte) B e2_48 (w21 hw) Via.refl f110 f111 (Or.inr ⟨(w17 hw), rfl, rfl⟩) (w2 hw) (Or.inl (by simp)) ?_
    intro h112 Wh112
    have f113 := hf2.keep Kh3 Ow.nin0
    have Kh112 := Keep.of_wr Wh112
    have zh112 := Kh112.1
    have f114 : Fld Z h112 pa0 "java/lang/String" "coder" "B" (.int (0 : Int32)) := f110.same Wh112
    have f115 : Fld Z h112 pa0 "java/lang/String" "value" "[B" .null := f113.other Wh112 (Or.inr (slot_ne (a0 := a0) (C := "java/lang/String") (t := (.array .byte)) (t' := .byte) (Or.inr (w16 hw)) (Or.inr (w17 hw)) (by decide) (by decide) (by decide)))
    refine Ow.aloadN (pc' := 52) B e2_51 ?_
    refine Ow.aload (pc' := 54) B e2_52 ?_
    have f116 := f111.keep Kh112
    refine Ow.putfield (pc' := 57) (ty := (.array .byte)) B e2_54 (w20 hw) Via.refl f115 f116 (Or.inr ⟨(w16 hw), rfl, rfl⟩) (w2 hw) (Or.inl (by simp)) ?_
    intro h117 Wh117
    have Kh117 := Keep.of_wr Wh117
    have zh117 := Kh117.1
    have f118 : Fld Z h117 pa0 "java/lang/String" "value" "[B" (.ref r99) := f115.same Wh117
    have f119 : Fld Z h117 pa0 "java/lang/String" "coder" "B" (.int (0 : Int32)) := f114.other Wh117 (Or.inr (slot_ne (a0 := a0) (C := "java/lang/String") (t := .byte) (t' := (.array .byte)) (Or.inr (w17 hw)) (Or.inr (w16 hw)) (by decide) (by decide) (by decide)))
    have f120 := f116.keep Kh117
    have f121 := f105.keep Kh112 (Ow.ninS (by omega) Ow.nin0)
    have f122 := f121.keep Kh117 (Ow.ninS (by omega) Ow.nin0)
    have s123 : Ow.Chs Z h117 pa0 r99 k100 [px0, px1, px2, px3] := ⟨f120, f118, (Ow.allI ⟨(hk1), (hk0)⟩ (Ow.allI ⟨(hk3), (hk2)⟩ (Ow.allI ⟨(hk5), (hk4)⟩ (Ow.allI ⟨(hk7), (hk6)⟩ Ow.allI0)))), Or.inl ⟨f119, f122, (Ow.allI (c101) (Ow.allI (c102) (Ow.allI (c103) (Ow.allI (c104) Ow.allI0))))⟩⟩
    exact Ow.retV (S' := []) B e2_57 (⟨r99, k100, rfl, ((((Keep.refl _ [pa0]).trans Kh3 (fun _ q => nomatch q)).trans Kh112 (allS (Or.inl (by simp)) all0)).trans Kh117 (allS (Or.inl (by simp)) all0)), (by omega), s123, rfl⟩)
set_option maxRecDepth 65536 in
set_option maxHeartbeats 40000000 in
theorem con_init_93 {l : Launch} {Z : State} {n0 : Nat} {a0 : Array Value} {cz : Int32} {sf : Value} (hw : Hw a0 Z) (G : Ow.Glo Z cz sf) (GS : GlS Z) {pa0 : Nat} {pa1 : Nat} {px0 : Int32} {px1 : Int32} {px2 : Int32} {px3 : Int32} {pk0 : ClassId} {h0 : Heap} (O0 : Old Z n0 h0) (hf0 : Exa Z h0 pa0 "java/lang/String") (hf1 : Fld Z h0 pa0 "java/lang/String" "coder" "B" (.int (0 : Int32))) (hf2 : Fld Z h0 pa0 "java/lang/String" "value" "[B" .null) (hf3 : Arv Z h0 pa1 pk0 .char (4 : Int32) [(.int px0), (.int px1), (.int px2), (.int px3)] (.int 0)) (hn0 : n0 ≤ pa0) (hn1 : n0 ≤ pa1) (hk0 : ¬ ((65535 : Int32) < px0)) (hk1 : ¬ (px0 < (0 : Int32))) (hk2 : ¬ ((65535 : Int32) < px1)) (hk3 : ¬ (px1 < (0 : Int32))) (hk4 : ¬ ((65535 : Int32) < px2)) (hk5 : ¬ (px2 < (0 : Int32))) (hk6 : ¬ ((65535 : Int32) < px3)) (hk7 : ¬ (px3 < (0 : Int32))) (hc_px0 : nar .char px0 = px0) (hc_px1 : nar .char px1 = px1) (hc_px2 : nar .char px2 = px2) (hc_px3 : nar .char px3 = px3) :
    Ow.Con l Z EL1 n0 my1 jdk_42_method_3_code 2 (Option.none : Option Jvm.ClassFile.FieldType) [] ({ frames := 5, cells := 2, slots := 12, locals := 74 } : Room) #[(.ref pa0), (.ref pa1)] [pa0] h0 (fun v h S' => (∃ r0 : Nat, ∃ k0 : ClassId, v = none ∧ Keep h0 h [pa0] ∧ h0.size ≤ r0 ∧ Ow.Chs Z h pa0 r0 k0 [px0, px1, px2, px3] ∧ S' = [])) := by
  refine Ow.Con.enter (Ls := #[.val (.ref pa0), .val (.ref pa1)]) (plainFor_of_name pn0) O0 (hEW hw) (hSA hw) ?_
  intro p e s m below meth c B
  have z0 := Ow.old_le O0
  have lpa0 : (pa0 : Nat) < h0.size := hf0.lt
  have lpa1 : (pa1 : Nat) < h0.size := hf3.lt
  refine Ow.aloadN (pc' := 1) B e1_0 ?_
  refine Ow.aloadN (pc' := 2) B e1_1 ?_
  refine Ow.iconst (pc' := 3) (x := (0 : Int32)) B e1_2 ?_
  refine Ow.aloadN (pc' := 4) B e1_3 ?_
  refine Ow.arrlen (pc' := 5) B e1_4 hf3 ?_
  refine Ow.aconstNull (pc' := 6) B e1_5 ?_
  refine Ow.Go.old (fun o1 => ?_)
  refine Ow.callInit (pc' := 9) (W := 0) (k' := 2) (n' := 12) (argsL := [(.ref pa1), (.int (0 : Int32)), (.int (4 : Int32)), .null]) (rest := []) B e1_6 (w7 hw) (w8 hw) (w3 hw) (w10 hw) (con_init_92 hw G GS (pa0 := pa0) (pa1 := pa1) (px0 := px0) (px1 := px1) (px2 := px2) (px3 := px3) (pk0 := pk0) o1 hf0 hf1 hf2 hf3 (by omega) (by omega) (hk0) (hk1) (hk2) (hk3) (hk4) (hk5) (hk6) (hk7) hc_px0 hc_px1 hc_px2 hc_px3) pd0 ?_
  intro vq2 h3 S4 q2 zh3
  obtain ⟨r5, k6, rfl, Kh3, br5, f7, rfl⟩ := q2
  have lr5 : (r5 : Nat) < h3.size := f7.ltt
  refine Ow.Go.norm (S' := [pa0]) (st' := []) (fun _ q => List.mem_append_right _ q) rfl ?_
  exact Ow.retV (S' := []) B e1_9 (⟨r5, k6, rfl, ((Keep.refl _ [pa0]).trans Kh3 (allS (Or.inl (by simp)) all0)), (by omega), f7, rfl⟩)
set_option maxRecDepth 65536 in
set_option maxHeartbeats 40000000 in
theorem con_length_94 {l : Launch} {Z : State} {n0 : Nat} {a0 : Array Value} {cz : Int32} {sf : Value} (hw : Hw a0 Z) (G : Ow.Glo Z cz sf) (GS : GlS Z) {pa0 : Nat} {pa1 : Nat} {px0 : Int32} {px1 : Int32} {px2 : Int32} {px3 : Int32} {pk0 : ClassId} {h0 : Heap} (O0 : Old Z n0 h0) (hf0 : Ow.Chs Z h0 pa0 pa1 pk0 [px0, px1, px2, px3]) (hn0 : n0 ≤ pa0) (hn1 : n0 ≤ pa1) (hc_px0 : nar .char px0 = px0) (hc_px1 : nar .char px1 = px1) (hc_px2 : nar .char px2 = px2) (hc_px3 : nar .char px3 = px3) :
    Ow.Con l Z EL1 n0 my3 jdk_42_method_54_code 1 (Option.some Jvm.ClassFile.FieldType.int) [] ({ frames := 1, cells := 0, slots := 0, locals := 13 } : Room) #[(.ref pa0)] [] h0 (fun v h S' => (v = some (.int (4 : Int32)) ∧ h = h0 ∧ S' = [])) := by
  rcases hf0.2.2.2 with ⟨oc_hf0, oa_hf0, ol_hf0⟩ | ⟨oc_hf0, oa_hf0⟩
  · refine Ow.Con.enter (Ls := #[.val (.ref pa0)]) (plainFor_of_name pn0) O0 (hEW hw) (hSA hw) ?_
    intro p e s m below meth c B
    have z0 := Ow.old_le O0
    have oE_hf0 := hf0.1
    have oV_hf0 := hf0.2.1
    have oR_hf0 := hf0.2.2.1
    have oA_hf0 : Arv Z h0 pa1 pk0 .byte (4 : Int32) [(.int px0.toInt8.toInt32), (.int px1.toInt8.toInt32), (.int px2.toInt8.toInt32), (.int px3.toInt8.toInt32)] (.int 0) := oa_hf0
    have lpa0 : (pa0 : Nat) < h0.size := hf0.lt
    have lpa1 : (pa1 : Nat) < h0.size := oA_hf0.lt
    have lpa1 : (pa1 : Nat) < h0.size := hf0.ltt
    refine Ow.aloadN (pc' := 1) B e3_0 ?_
    refine Ow.getfield (pc' := 4) B e3_1 (w20 hw) Via.refl oV_hf0 ?_
    refine Ow.arrlen (pc' := 5) B e3_4 oA_hf0 ?_
    refine Ow.aloadN (pc' := 6) B e3_5 ?_
    refine Ow.Go.old (fun o1 => ?_)
    refine Ow.callVirtual (pc' := 9) (W := 1) (k' := 0) (n' := 0) (argsL := []) (rest := [(.int (4 : Int32))]) (K := "java/lang/String") B e3_6 (w31 hw) (w32 hw) (w34 hw) (w34 hw) (w33 hw) (w3 hw) (w35 hw) oE_hf0 (con_coder_3 hw G GS (pa0 := pa0) o1 oc_hf0 (by omega)) pd2 ?_
    intro vq2 h3 S4 q2 zh3
    obtain ⟨rfl, rfl, rfl⟩ := q2
    refine Ow.Go.norm (S' := []) (st' := [(.int (0 : Int32)), (.int (4 : Int32))]) (fun _ q => List.mem_append_right _ q) rfl ?_
    refine Ow.ishr (pc' := 10) (z := (4 : Int32)) B e3_9 ?_
    exact Ow.retI (S' := []) (t := .int) B e3_10 (⟨rfl, rfl, rfl⟩)
  · refine Ow.Con.enter (Ls := #[.val (.ref pa0)]) (plainFor_of_name pn0) O0 (hEW hw) (hSA hw) ?_
    intro p e s m below meth c B
    have z0 := Ow.old_le O0
    have oE_hf0 := hf0.1
    have oV_hf0 := hf0.2.1
    have oR_hf0 := hf0.2.2.1
    have oA_hf0 : Arv Z h0 pa1 pk0 .byte (8 : Int32) [(.int px0.toInt8.toInt32), (.int (px0 >>> ((8 : Int32) &&& 31)).toInt8.toInt32), (.int px1.toInt8.toInt32), (.int (px1 >>> ((8 : Int32) &&& 31)).toInt8.toInt32), (.int px2.toInt8.toInt32), (.int (px2 >>> ((8 : Int32) &&& 31)).toInt8.toInt32), (.int px3.toInt8.toInt32), (.int (px3 >>> ((8 : Int32) &&& 31)).toInt8.toInt32)] (.int 0) := oa_hf0
    have lpa0 : (pa0 : Nat) < h0.size := hf0.lt
    have lpa1 : (pa1 : Nat) < h0.size := oA_hf0.lt
    have lpa1 : (pa1 : Nat) < h0.size := hf0.ltt
    refine Ow.aloadN (pc' := 1) B e3_0 ?_
    refine Ow.getfield (pc' := 4) B e3_1 (w20 hw) Via.refl oV_hf0 ?_
    refine Ow.arrlen (pc' := 5) B e3_4 oA_hf0 ?_
    refine Ow.aloadN (pc' := 6) B e3_5 ?_
    refine Ow.Go.old (fun o1 => ?_)
    refine Ow.callVirtual (pc' := 9) (W := 1) (k' := 0) (n' := 0) (argsL := []) (rest := [(.int (8 : Int32))]) (K := "java/lang/String") B e3_6 (w31 hw) (w32 hw) (w34 hw) (w34 hw) (w33 hw) (w3 hw) (w35 hw) oE_hf0 (con_coder_4 hw G GS (pa0 := pa0) o1 oc_hf0 (by omega)) pd2 ?_
    intro vq2 h3 S4 q2 zh3
    obtain ⟨rfl, rfl, rfl⟩ := q2
    refine Ow.Go.norm (S' := []) (st' := [(.int (1 : Int32)), (.int (8 : Int32))]) (fun _ q => List.mem_append_right _ q) rfl ?_
    refine Ow.ishr (pc' := 10) (z := (4 : Int32)) B e3_9 ?_
    exact Ow.retI (S' := []) (t := .int) B e3_10 (⟨rfl, rfl, rfl⟩)
set_option maxRecDepth 65536 in
set_option maxHeartbeats 40000000 in
theorem con_isTag_95 {l : Launch} {Z : State} {n0 : Nat} {a0 : Array Value} {cz : Int32} {sf : Value} (hw : Hw a0 Z) (G : Ow.Glo Z cz sf) (GS : GlS Z) {pa0 : Nat} {pa1 : Nat} {px0 : Int32} {px1 : Int32} {px2 : Int32} {px3 : Int32} {pk0 : ClassId} {h0 : Heap} (O0 : Old Z n0 h0) (hf0 : Ow.Chs Z h0 pa0 pa1 pk0 [px0, px1, px2, px3]) (hn0 : n0 ≤ pa0) (hn1 : n0 ≤ pa1) (hc_px0 : nar .char px0 = px0) (hc_px1 : nar .char px1 = px1) (hc_px2 : nar .char px2 = px2) (hc_px3 : nar .char px3 = px3) :
    Ow.Con l Z EL1 n0 my4 prog_8_method_2_code 3 (Option.some Jvm.ClassFile.FieldType.boolean) [] ({ frames := 2, cells := 0, slots := 0, locals := 25 } : Room) #[(.ref pa0)] [] h0 (fun v h S' => (v = some (.int (0 : Int32)) ∧ h = h0 ∧ S' = [])) := by
  refine Ow.Con.enter (Ls := #[.val (.ref pa0), .unset, .unset]) (plainFor_of_name pn1) O0 (hEW hw) (hSA hw) ?_
  intro p e s m below meth c B
  have z0 := Ow.old_le O0
  have lpa0 : (pa0 : Nat) < h0.size := hf0.lt
  have lpa1 : (pa1 : Nat) < h0.size := hf0.ltt
  refine Ow.aloadN (pc' := 1) B e0_0 ?_
  refine Ow.Go.old (fun o1 => ?_)
  refine Ow.callVirtual (pc' := 4) (W := 0) (k' := 0) (n' := 0) (argsL := []) (rest := []) (K := "java/lang/String") B e0_1 (w26 hw) (w27 hw) (w29 hw) (w29 hw) (w28 hw) (w3 hw) (w30 hw) (hf0).1 (con_length_94 hw G GS (pa0 := pa0) (pa1 := pa1) (px0 := px0) (px1 := px1) (px2 := px2) (px3 := px3) (pk0 := pk0) o1 hf0 (by omega) (by omega) hc_px0 hc_px1 hc_px2 hc_px3) pd3 ?_
  intro vq2 h3 S4 q2 zh3
  obtain ⟨rfl, rfl, rfl⟩ := q2
  refine Ow.Go.norm (S' := []) (st' := [(.int (4 : Int32))]) (fun _ q => List.mem_append_right _ q) rfl ?_
  refine Ow.iconst (pc' := 5) (x := (3 : Int32)) B e0_4 ?_
  refine Ow.icmpF (pc' := 8) B e0_5 (by decide) ?_
  refine Ow.iconst (pc' := 9) (x := (0 : Int32)) B e0_8 ?_
  exact Ow.retI (S' := []) (t := .boolean) B e0_9 (⟨rfl, rfl, rfl⟩)
set_option maxRecDepth 65536 in
set_option maxHeartbeats 40000000 in
theorem lawCon {l : Launch} {Z : State} {n0 : Nat} {a0 : Array Value} {cz : Int32} {sf : Value} (hw : Hw a0 Z) (G : Ow.Glo Z cz sf) (GS : GlS Z) (x0 x1 x2 x3 x4 : Int32) {h0 : Heap} (O0 : Old Z n0 h0)  :
    Ow.Con l Z EL1 n0 x code maxLocals ret tables_1 room_1 #[(.int x0), (.int x1), (.int x2), (.int x3), (.int x4)] [] h0 (fun v _ _ => v = some (.int 1)) := by
  refine Ow.Con.enter (Ls := #[.val (.int x0), .val (.int x1), .val (.int x2), .val (.int x3), .val (.int x4), .unset, .unset, .unset, .unset]) (plainFor_of_name pn2) O0 (hEW hw) (hSA hw) ?_
  intro p e s m below meth c B
  have z0 := Ow.old_le O0
  refine Ow.iloadN (pc' := 1) B at_0 ?_
  refine Ow.bipush (pc' := 3) (x := (7 : Int32)) B at_1 ?_
  refine Ow.iand (pc' := 4) (z := (x0 &&& (7 : Int32))) B at_3 ?_
  refine Ow.iconst (pc' := 5) (x := (5 : Int32)) B at_4 ?_
  rcases Ow.sevenrem5 x0 with hz5 | hz5 | hz5 | hz5 | hz5
  · refine Ow.irem (pc' := 6) (z := (0 : Int32)) (hz := hz5) B at_5 ?_
    refine Ow.istore (pc' := 8) (Ls' := #[.val (.int x0), .val (.int x1), .val (.int x2), .val (.int x3), .val (.int x4), .val (.int (0 : Int32)), .unset, .unset, .unset]) B at_6 ?_
    refine Ow.iload (pc' := 10) B at_8 ?_
    refine Ow.newArr (pc' := 12) (k' := 1) (n' := 0) (cap := 0) B at_10 (w0 hw) (by decide) (by decide) ?_
    intro h2 a1 ka1 ga1 ba1 Kh2 V0a1
    have zh2 := Kh2.1
    have la1 : (a1 : Nat) < h2.size := V0a1.lt
    have Va1 : Arv Z h2 a1 ka1 .char (0 : Int32) [] (.int 0) := V0a1.pad (pad_rep [] (.int 0) 0)
    refine Ow.astore (pc' := 14) (Ls' := #[.val (.int x0), .val (.int x1), .val (.int x2), .val (.int x3), .val (.int x4), .val (.int (0 : Int32)), .val (.ref a1), .unset, .unset]) B at_12 ?_
    refine Ow.iload (pc' := 16) B at_14 ?_
    refine Ow.ifT (pc' := 27) B at_16 (by decide) ?_
    refine Ow.iload (pc' := 29) B at_27 ?_
    refine Ow.iconst (pc' := 30) (x := (1 : Int32)) B at_29 ?_
    refine Ow.icmpT (pc' := 41) B at_30 (by decide) ?_
    refine Ow.iload (pc' := 43) B at_41 ?_
    refine Ow.iconst (pc' := 44) (x := (2 : Int32)) B at_43 ?_
    refine Ow.icmpT (pc' := 55) B at_44 (by decide) ?_
    refine Ow.iload (pc' := 57) B at_55 ?_
    refine Ow.iconst (pc' := 58) (x := (3 : Int32)) B at_57 ?_
    refine Ow.icmpT (pc' := 70) B at_58 (by decide) ?_
    refine Ow.newObj (pc' := 73) (k' := 2) (n' := 4) B at_70 (w1 hw) (w2 hw) (w3 hw) ?_
    intro h4 a3 ga3 ba3 Kh4 Aa3 Da3
    have zh4 := Kh4.1
    have la3 : (a3 : Nat) < h4.size := Aa3.lt
    have f5 : Fld Z h4 a3 "java/lang/String" "value" "[B" .null := Da3 (Or.inr (w16 hw)) (ty := (.array .byte)) (by decide)
    have f6 : Fld Z h4 a3 "java/lang/String" "coder" "B" (.int 0) := Da3 (Or.inr (w17 hw)) (ty := .byte) (by decide)
    refine Ow.dup (pc' := 74) B at_73 ?_
    refine Ow.aload (pc' := 76) B at_74 ?_
    refine Ow.Go.old (fun o7 => ?_)
    have f8 := Va1.keep Kh4 Ow.nin0
    refine Ow.callInit (pc' := 79) (W := 1) (k' := 6) (n' := 12) (argsL := [(.ref a1)]) (rest := [(.ref a3)]) B at_76 (w4 hw) (w5 hw) (w3 hw) (w6 hw) (con_init_2 hw G GS (pa0 := a3) (pa1 := a1) (pk0 := ka1) o7 Aa3 f6 f5 f8 (by omega) (by omega)) pd1 ?_
    intro vq9 h10 S11 q9 zh10
    obtain ⟨r12, k13, rfl, Kh10, f14, rfl⟩ := q9
    have lr12 : (r12 : Nat) < h10.size := f14.ltt
    refine Ow.Go.norm (S' := [a3, a1]) (st' := [(.ref a3)]) (fun _ q => List.mem_append_right _ q) rfl ?_
    refine Ow.astore (pc' := 81) (Ls' := #[.val (.int x0), .val (.int x1), .val (.int x2), .val (.int x3), .val (.int x4), .val (.int (0 : Int32)), .val (.ref a1), .val (.ref a3), .unset]) B at_79 ?_
    refine Ow.iload (pc' := 83) B at_81 ?_
    refine Ow.iconst (pc' := 84) (x := (3 : Int32)) B at_83 ?_
    refine Ow.icmpT (pc' := 121) B at_84 (by decide) ?_
    refine Ow.iconst (pc' := 122) (x := (0 : Int32)) B at_121 ?_
    refine Ow.istore (pc' := 124) (Ls' := #[.val (.int x0), .val (.int x1), .val (.int x2), .val (.int x3), .val (.int x4), .val (.int (0 : Int32)), .val (.ref a1), .val (.ref a3), .val (.int (0 : Int32))]) B at_122 ?_
    refine Ow.aload (pc' := 126) B at_124 ?_
    refine Ow.Go.old (fun o15 => ?_)
    refine Ow.callStatic (pc' := 129) (W := 0) (k' := 6) (n' := 12) (argsL := [(.ref a3)]) (rest := []) B at_126 (w22 hw) (w23 hw) (w24 hw) (w25 hw) (con_isTag_6 hw G GS (pa0 := a3) (pa1 := r12) (pk0 := k13) o15 f14 (by omega)) pd4 ?_
    intro vq16 h17 S18 q16 zh17
    obtain ⟨rfl, rfl, rfl⟩ := q16
    refine Ow.Go.norm (S' := [a3, a1]) (st' := [(.int (0 : Int32))]) (fun _ q => List.mem_append_right _ q) rfl ?_
    refine Ow.iload (pc' := 131) B at_129 ?_
    refine Ow.icmpF (pc' := 134) B at_131 (by decide) ?_
    refine Ow.iconst (pc' := 135) (x := (1 : Int32)) B at_134 ?_
    refine Ow.goto (pc' := 139) B at_135 ?_
    exact Ow.retI (S' := []) (t := .boolean) B at_139 (rfl)
  · refine Ow.irem (pc' := 6) (z := (1 : Int32)) (hz := hz5) B at_5 ?_
    refine Ow.istore (pc' := 8) (Ls' := #[.val (.int x0), .val (.int x1), .val (.int x2), .val (.int x3), .val (.int x4), .val (.int (1 : Int32)), .unset, .unset, .unset]) B at_6 ?_
    refine Ow.iload (pc' := 10) B at_8 ?_
    refine Ow.newArr (pc' := 12) (k' := 1) (n' := 1) (cap := 1) B at_10 (w0 hw) (by decide) (by decide) ?_
    intro h20 a19 ka19 ga19 ba19 Kh20 V0a19
    have zh20 := Kh20.1
    have la19 : (a19 : Nat) < h20.size := V0a19.lt
    have Va19 : Arv Z h20 a19 ka19 .char (1 : Int32) [(.int 0)] (.int 0) := V0a19.pad (pad_rep [] (.int 0) 1)
    refine Ow.astore (pc' := 14) (Ls' := #[.val (.int x0), .val (.int x1), .val (.int x2), .val (.int x3), .val (.int x4), .val (.int (1 : Int32)), .val (.ref a19), .unset, .unset]) B at_12 ?_
    refine Ow.iload (pc' := 16) B at_14 ?_
    refine Ow.ifF (pc' := 19) B at_16 (by decide) ?_
    refine Ow.aload (pc' := 21) B at_19 ?_
    refine Ow.iconst (pc' := 22) (x := (0 : Int32)) B at_21 ?_
    refine Ow.iloadN (pc' := 23) B at_22 ?_
    refine Ow.Go.old (fun o21 => ?_)
    refine Ow.callStatic (pc' := 26) (W := 2) (k' := 1) (n' := 1) (argsL := [(.int x1)]) (rest := [(.int (0 : Int32)), (.ref a19)]) B at_23 (w37 hw) (w38 hw) (w39 hw) (w40 hw) (con_draw_7 hw G GS (px0 := x1) o21) pd5 ?_
    intro vq22 h23 S24 q22 zh23
    obtain ⟨y25, rfl, rfl, c26, c27, c28, rfl⟩ := q22
    refine Ow.Go.norm (S' := [a19]) (st' := [(.int y25), (.int (0 : Int32)), (.ref a19)]) (fun _ q => List.mem_append_right _ q) rfl ?_
    refine Ow.castore (pc' := 27) (i := 0) B at_26 Va19 ⟨by decide, by decide⟩ ?_
    intro h29 Kh29 V0h29
    have zh29 := Kh29.1
    have V30 : Arv Z h29 a19 ka19 .char (1 : Int32) [(.int y25)] (.int 0) := (by have e0 := V0h29; rw [show nar .char y25 = y25 from c28] at e0; exact e0)
    refine Ow.iload (pc' := 29) B at_27 ?_
    refine Ow.iconst (pc' := 30) (x := (1 : Int32)) B at_29 ?_
    refine Ow.icmpT (pc' := 41) B at_30 (by decide) ?_
    refine Ow.iload (pc' := 43) B at_41 ?_
    refine Ow.iconst (pc' := 44) (x := (2 : Int32)) B at_43 ?_
    refine Ow.icmpT (pc' := 55) B at_44 (by decide) ?_
    refine Ow.iload (pc' := 57) B at_55 ?_
    refine Ow.iconst (pc' := 58) (x := (3 : Int32)) B at_57 ?_
    refine Ow.icmpT (pc' := 70) B at_58 (by decide) ?_
    refine Ow.newObj (pc' := 73) (k' := 2) (n' := 5) B at_70 (w1 hw) (w2 hw) (w3 hw) ?_
    intro h32 a31 ga31 ba31 Kh32 Aa31 Da31
    have zh32 := Kh32.1
    have la31 : (a31 : Nat) < h32.size := Aa31.lt
    have f33 : Fld Z h32 a31 "java/lang/String" "value" "[B" .null := Da31 (Or.inr (w16 hw)) (ty := (.array .byte)) (by decide)
    have f34 : Fld Z h32 a31 "java/lang/String" "coder" "B" (.int 0) := Da31 (Or.inr (w17 hw)) (ty := .byte) (by decide)
    refine Ow.dup (pc' := 74) B at_73 ?_
    refine Ow.aload (pc' := 76) B at_74 ?_
    refine Ow.Go.old (fun o35 => ?_)
    have f36 := V30.keep Kh32 Ow.nin0
    refine Ow.callInit (pc' := 79) (W := 1) (k' := 4) (n' := 8) (argsL := [(.ref a19)]) (rest := [(.ref a31)]) B at_76 (w4 hw) (w5 hw) (w3 hw) (w6 hw) (con_init_18 hw G GS (pa0 := a31) (pa1 := a19) (px0 := y25) (pk0 := ka19) o35 Aa31 f34 f33 f36 (by omega) (by omega) (c26) (c27) c28) pd1 ?_
    intro vq37 h38 S39 q37 zh38
    obtain ⟨r40, k41, rfl, Kh38, br40, f42, rfl⟩ := q37
    have lr40 : (r40 : Nat) < h38.size := f42.ltt
    refine Ow.Go.norm (S' := [a31, a19]) (st' := [(.ref a31)]) (fun _ q => List.mem_append_right _ q) rfl ?_
    refine Ow.astore (pc' := 81) (Ls' := #[.val (.int x0), .val (.int x1), .val (.int x2), .val (.int x3), .val (.int x4), .val (.int (1 : Int32)), .val (.ref a19), .val (.ref a31), .unset]) B at_79 ?_
    refine Ow.iload (pc' := 83) B at_81 ?_
    refine Ow.iconst (pc' := 84) (x := (3 : Int32)) B at_83 ?_
    refine Ow.icmpT (pc' := 121) B at_84 (by decide) ?_
    refine Ow.iconst (pc' := 122) (x := (0 : Int32)) B at_121 ?_
    refine Ow.istore (pc' := 124) (Ls' := #[.val (.int x0), .val (.int x1), .val (.int x2), .val (.int x3), .val (.int x4), .val (.int (1 : Int32)), .val (.ref a19), .val (.ref a31), .val (.int (0 : Int32))]) B at_122 ?_
    refine Ow.aload (pc' := 126) B at_124 ?_
    refine Ow.Go.old (fun o43 => ?_)
    refine Ow.callStatic (pc' := 129) (W := 0) (k' := 4) (n' := 8) (argsL := [(.ref a31)]) (rest := []) B at_126 (w22 hw) (w23 hw) (w24 hw) (w25 hw) (con_isTag_20 hw G GS (pa0 := a31) (pa1 := r40) (px0 := y25) (pk0 := k41) o43 f42 (by omega) (by omega) c28) pd4 ?_
    intro vq44 h45 S46 q44 zh45
    obtain ⟨rfl, rfl, rfl⟩ := q44
    refine Ow.Go.norm (S' := [a31, a19]) (st' := [(.int (0 : Int32))]) (fun _ q => List.mem_append_right _ q) rfl ?_
    refine Ow.iload (pc' := 131) B at_129 ?_
    refine Ow.icmpF (pc' := 134) B at_131 (by decide) ?_
    refine Ow.iconst (pc' := 135) (x := (1 : Int32)) B at_134 ?_
    refine Ow.goto (pc' := 139) B at_135 ?_
    exact Ow.retI (S' := []) (t := .boolean) B at_139 (rfl)
  · refine Ow.irem (pc' := 6) (z := (2 : Int32)) (hz := hz5) B at_5 ?_
    refine Ow.istore (pc' := 8) (Ls' := #[.val (.int x0), .val (.int x1), .val (.int x2), .val (.int x3), .val (.int x4), .val (.int (2 : Int32)), .unset, .unset, .unset]) B at_6 ?_
    refine Ow.iload (pc' := 10) B at_8 ?_
    refine Ow.newArr (pc' := 12) (k' := 1) (n' := 2) (cap := 2) B at_10 (w0 hw) (by decide) (by decide) ?_
    intro h48 a47 ka47 ga47 ba47 Kh48 V0a47
    have zh48 := Kh48.1
    have la47 : (a47 : Nat) < h48.size := V0a47.lt
    have Va47 : Arv Z h48 a47 ka47 .char (2 : Int32) [(.int 0), (.int 0)] (.int 0) := V0a47.pad (pad_rep [] (.int 0) 2)
    refine Ow.astore (pc' := 14) (Ls' := #[.val (.int x0), .val (.int x1), .val (.int x2), .val (.int x3), .val (.int x4), .val (.int (2 : Int32)), .val (.ref a47), .unset, .unset]) B at_12 ?_
    refine Ow.iload (pc' := 16) B at_14 ?_
    refine Ow.ifF (pc' := 19) B at_16 (by decide) ?_
    refine Ow.aload (pc' := 21) B at_19 ?_
    refine Ow.iconst (pc' := 22) (x := (0 : Int32)) B at_21 ?_
    refine Ow.iloadN (pc' := 23) B at_22 ?_
    refine Ow.Go.old (fun o49 => ?_)
    refine Ow.callStatic (pc' := 26) (W := 2) (k' := 1) (n' := 2) (argsL := [(.int x1)]) (rest := [(.int (0 : Int32)), (.ref a47)]) B at_23 (w37 hw) (w38 hw) (w39 hw) (w40 hw) (con_draw_7 hw G GS (px0 := x1) o49) pd5 ?_
    intro vq50 h51 S52 q50 zh51
    obtain ⟨y53, rfl, rfl, c54, c55, c56, rfl⟩ := q50
    refine Ow.Go.norm (S' := [a47]) (st' := [(.int y53), (.int (0 : Int32)), (.ref a47)]) (fun _ q => List.mem_append_right _ q) rfl ?_
    refine Ow.castore (pc' := 27) (i := 0) B at_26 Va47 ⟨by decide, by decide⟩ ?_
    intro h57 Kh57 V0h57
    have zh57 := Kh57.1
    have V58 : Arv Z h57 a47 ka47 .char (2 : Int32) [(.int y53), (.int (0 : Int32))] (.int 0) := (by have e0 := V0h57; rw [show nar .char y53 = y53 from c56] at e0; exact e0)
    refine Ow.iload (pc' := 29) B at_27 ?_
    refine Ow.iconst (pc' := 30) (x := (1 : Int32)) B at_29 ?_
    refine Ow.icmpF (pc' := 33) B at_30 (by decide) ?_
    refine Ow.aload (pc' := 35) B at_33 ?_
    refine Ow.iconst (pc' := 36) (x := (1 : Int32)) B at_35 ?_
    refine Ow.iloadN (pc' := 37) B at_36 ?_
    refine Ow.Go.old (fun o59 => ?_)
    refine Ow.callStatic (pc' := 40) (W := 2) (k' := 1) (n' := 2) (argsL := [(.int x2)]) (rest := [(.int (1 : Int32)), (.ref a47)]) B at_37 (w37 hw) (w38 hw) (w39 hw) (w40 hw) (con_draw_7 hw G GS (px0 := x2) o59) pd5 ?_
    intro vq60 h61 S62 q60 zh61
    obtain ⟨y63, rfl, rfl, c64, c65, c66, rfl⟩ := q60
    refine Ow.Go.norm (S' := [a47]) (st' := [(.int y63), (.int (1 : Int32)), (.ref a47)]) (fun _ q => List.mem_append_right _ q) rfl ?_
    refine Ow.castore (pc' := 41) (i := 1) B at_40 V58 ⟨by decide, by decide⟩ ?_
    intro h67 Kh67 V0h67
    have zh67 := Kh67.1
    have V68 : Arv Z h67 a47 ka47 .char (2 : Int32) [(.int y53), (.int y63)] (.int 0) := (by have e0 := V0h67; rw [show nar .char y63 = y63 from c66] at e0; exact e0)
    refine Ow.iload (pc' := 43) B at_41 ?_
    refine Ow.iconst (pc' := 44) (x := (2 : Int32)) B at_43 ?_
    refine Ow.icmpT (pc' := 55) B at_44 (by decide) ?_
    refine Ow.iload (pc' := 57) B at_55 ?_
    refine Ow.iconst (pc' := 58) (x := (3 : Int32)) B at_57 ?_
    refine Ow.icmpT (pc' := 70) B at_58 (by decide) ?_
    refine Ow.newObj (pc' := 73) (k' := 2) (n' := 6) B at_70 (w1 hw) (w2 hw) (w3 hw) ?_
    intro h70 a69 ga69 ba69 Kh70 Aa69 Da69
    have zh70 := Kh70.1
    have la69 : (a69 : Nat) < h70.size := Aa69.lt
    have f71 : Fld Z h70 a69 "java/lang/String" "value" "[B" .null := Da69 (Or.inr (w16 hw)) (ty := (.array .byte)) (by decide)
    have f72 : Fld Z h70 a69 "java/lang/String" "coder" "B" (.int 0) := Da69 (Or.inr (w17 hw)) (ty := .byte) (by decide)
    refine Ow.dup (pc' := 74) B at_73 ?_
    refine Ow.aload (pc' := 76) B at_74 ?_
    refine Ow.Go.old (fun o73 => ?_)
    have f74 := V68.keep Kh70 Ow.nin0
    refine Ow.callInit (pc' := 79) (W := 1) (k' := 4) (n' := 12) (argsL := [(.ref a47)]) (rest := [(.ref a69)]) B at_76 (w4 hw) (w5 hw) (w3 hw) (w6 hw) (con_init_33 hw G GS (pa0 := a69) (pa1 := a47) (px0 := y53) (px1 := y63) (pk0 := ka47) o73 Aa69 f72 f71 f74 (by omega) (by omega) (c54) (c55) (c64) (c65) c56 c66) pd1 ?_
    intro vq75 h76 S77 q75 zh76
    obtain ⟨r78, k79, rfl, Kh76, br78, f80, rfl⟩ := q75
    have lr78 : (r78 : Nat) < h76.size := f80.ltt
    refine Ow.Go.norm (S' := [a69, a47]) (st' := [(.ref a69)]) (fun _ q => List.mem_append_right _ q) rfl ?_
    refine Ow.astore (pc' := 81) (Ls' := #[.val (.int x0), .val (.int x1), .val (.int x2), .val (.int x3), .val (.int x4), .val (.int (2 : Int32)), .val (.ref a47), .val (.ref a69), .unset]) B at_79 ?_
    refine Ow.iload (pc' := 83) B at_81 ?_
    refine Ow.iconst (pc' := 84) (x := (3 : Int32)) B at_83 ?_
    refine Ow.icmpT (pc' := 121) B at_84 (by decide) ?_
    refine Ow.iconst (pc' := 122) (x := (0 : Int32)) B at_121 ?_
    refine Ow.istore (pc' := 124) (Ls' := #[.val (.int x0), .val (.int x1), .val (.int x2), .val (.int x3), .val (.int x4), .val (.int (2 : Int32)), .val (.ref a47), .val (.ref a69), .val (.int (0 : Int32))]) B at_122 ?_
    refine Ow.aload (pc' := 126) B at_124 ?_
    refine Ow.Go.old (fun o81 => ?_)
    refine Ow.callStatic (pc' := 129) (W := 0) (k' := 4) (n' := 12) (argsL := [(.ref a69)]) (rest := []) B at_126 (w22 hw) (w23 hw) (w24 hw) (w25 hw) (con_isTag_35 hw G GS (pa0 := a69) (pa1 := r78) (px0 := y53) (px1 := y63) (pk0 := k79) o81 f80 (by omega) (by omega) c56 c66) pd4 ?_
    intro vq82 h83 S84 q82 zh83
    obtain ⟨rfl, rfl, rfl⟩ := q82
    refine Ow.Go.norm (S' := [a69, a47]) (st' := [(.int (0 : Int32))]) (fun _ q => List.mem_append_right _ q) rfl ?_
    refine Ow.iload (pc' := 131) B at_129 ?_
    refine Ow.icmpF (pc' := 134) B at_131 (by decide) ?_
    refine Ow.iconst (pc' := 135) (x := (1 : Int32)) B at_134 ?_
    refine Ow.goto (pc' := 139) B at_135 ?_
    exact Ow.retI (S' := []) (t := .boolean) B at_139 (rfl)
  · refine Ow.irem (pc' := 6) (z := (3 : Int32)) (hz := hz5) B at_5 ?_
    refine Ow.istore (pc' := 8) (Ls' := #[.val (.int x0), .val (.int x1), .val (.int x2), .val (.int x3), .val (.int x4), .val (.int (3 : Int32)), .unset, .unset, .unset]) B at_6 ?_
    refine Ow.iload (pc' := 10) B at_8 ?_
    refine Ow.newArr (pc' := 12) (k' := 1) (n' := 3) (cap := 3) B at_10 (w0 hw) (by decide) (by decide) ?_
    intro h86 a85 ka85 ga85 ba85 Kh86 V0a85
    have zh86 := Kh86.1
    have la85 : (a85 : Nat) < h86.size := V0a85.lt
    have Va85 : Arv Z h86 a85 ka85 .char (3 : Int32) [(.int 0), (.int 0), (.int 0)] (.int 0) := V0a85.pad (pad_rep [] (.int 0) 3)
    refine Ow.astore (pc' := 14) (Ls' := #[.val (.int x0), .val (.int x1), .val (.int x2), .val (.int x3), .val (.int x4), .val (.int (3 : Int32)), .val (.ref a85), .unset, .unset]) B at_12 ?_
    refine Ow.iload (pc' := 16) B at_14 ?_
    refine Ow.ifF (pc' := 19) B at_16 (by decide) ?_
    refine Ow.aload (pc' := 21) B at_19 ?_
    refine Ow.iconst (pc' := 22) (x := (0 : Int32)) B at_21 ?_
    refine Ow.iloadN (pc' := 23) B at_22 ?_
    refine Ow.Go.old (fun o87 => ?_)
    refine Ow.callStatic (pc' := 26) (W := 2) (k' := 1) (n' := 3) (argsL := [(.int x1)]) (rest := [(.int (0 : Int32)), (.ref a85)]) B at_23 (w37 hw) (w38 hw) (w39 hw) (w40 hw) (con_draw_7 hw G GS (px0 := x1) o87) pd5 ?_
    intro vq88 h89 S90 q88 zh89
    obtain ⟨y91, rfl, rfl, c92, c93, c94, rfl⟩ := q88
    refine Ow.Go.norm (S' := [a85]) (st' := [(.int y91), (.int (0 : Int32)), (.ref a85)]) (fun _ q => List.mem_append_right _ q) rfl ?_
    refine Ow.castore (pc' := 27) (i := 0) B at_26 Va85 ⟨by decide, by decide⟩ ?_
    intro h95 Kh95 V0h95
    have zh95 := Kh95.1
    have V96 : Arv Z h95 a85 ka85 .char (3 : Int32) [(.int y91), (.int (0 : Int32)), (.int (0 : Int32))] (.int 0) := (by have e0 := V0h95; rw [show nar .char y91 = y91 from c94] at e0; exact e0)
    refine Ow.iload (pc' := 29) B at_27 ?_
    refine Ow.iconst (pc' := 30) (x := (1 : Int32)) B at_29 ?_
    refine Ow.icmpF (pc' := 33) B at_30 (by decide) ?_
    refine Ow.aload (pc' := 35) B at_33 ?_
    refine Ow.iconst (pc' := 36) (x := (1 : Int32)) B at_35 ?_
    refine Ow.iloadN (pc' := 37) B at_36 ?_
    refine Ow.Go.old (fun o97 => ?_)
    refine Ow.callStatic (pc' := 40) (W := 2) (k' := 1) (n' := 3) (argsL := [(.int x2)]) (rest := [(.int (1 : Int32)), (.ref a85)]) B at_37 (w37 hw) (w38 hw) (w39 hw) (w40 hw) (con_draw_7 hw G GS (px0 := x2) o97) pd5 ?_
    intro vq98 h99 S100 q98 zh99
    obtain ⟨y101, rfl, rfl, c102, c103, c104, rfl⟩ := q98
    refine Ow.Go.norm (S' := [a85]) (st' := [(.int y101), (.int (1 : Int32)), (.ref a85)]) (fun _ q => List.mem_append_right _ q) rfl ?_
    refine Ow.castore (pc' := 41) (i := 1) B at_40 V96 ⟨by decide, by decide⟩ ?_
    intro h105 Kh105 V0h105
    have zh105 := Kh105.1
    have V106 : Arv Z h105 a85 ka85 .char (3 : Int32) [(.int y91), (.int y101), (.int (0 : Int32))] (.int 0) := (by have e0 := V0h105; rw [show nar .char y101 = y101 from c104] at e0; exact e0)
    refine Ow.iload (pc' := 43) B at_41 ?_
    refine Ow.iconst (pc' := 44) (x := (2 : Int32)) B at_43 ?_
    refine Ow.icmpF (pc' := 47) B at_44 (by decide) ?_
    refine Ow.aload (pc' := 49) B at_47 ?_
    refine Ow.iconst (pc' := 50) (x := (2 : Int32)) B at_49 ?_
    refine Ow.iloadN (pc' := 51) B at_50 ?_
    refine Ow.Go.old (fun o107 => ?_)
    refine Ow.callStatic (pc' := 54) (W := 2) (k' := 1) (n' := 3) (argsL := [(.int x3)]) (rest := [(.int (2 : Int32)), (.ref a85)]) B at_51 (w37 hw) (w38 hw) (w39 hw) (w40 hw) (con_draw_7 hw G GS (px0 := x3) o107) pd5 ?_
    intro vq108 h109 S110 q108 zh109
    obtain ⟨y111, rfl, rfl, c112, c113, c114, rfl⟩ := q108
    refine Ow.Go.norm (S' := [a85]) (st' := [(.int y111), (.int (2 : Int32)), (.ref a85)]) (fun _ q => List.mem_append_right _ q) rfl ?_
    refine Ow.castore (pc' := 55) (i := 2) B at_54 V106 ⟨by decide, by decide⟩ ?_
    intro h115 Kh115 V0h115
    have zh115 := Kh115.1
    have V116 : Arv Z h115 a85 ka85 .char (3 : Int32) [(.int y91), (.int y101), (.int y111)] (.int 0) := (by have e0 := V0h115; rw [show nar .char y111 = y111 from c114] at e0; exact e0)
    refine Ow.iload (pc' := 57) B at_55 ?_
    refine Ow.iconst (pc' := 58) (x := (3 : Int32)) B at_57 ?_
    refine Ow.icmpT (pc' := 70) B at_58 (by decide) ?_
    refine Ow.newObj (pc' := 73) (k' := 2) (n' := 7) B at_70 (w1 hw) (w2 hw) (w3 hw) ?_
    intro h118 a117 ga117 ba117 Kh118 Aa117 Da117
    have zh118 := Kh118.1
    have la117 : (a117 : Nat) < h118.size := Aa117.lt
    have f119 : Fld Z h118 a117 "java/lang/String" "value" "[B" .null := Da117 (Or.inr (w16 hw)) (ty := (.array .byte)) (by decide)
    have f120 : Fld Z h118 a117 "java/lang/String" "coder" "B" (.int 0) := Da117 (Or.inr (w17 hw)) (ty := .byte) (by decide)
    refine Ow.dup (pc' := 74) B at_73 ?_
    refine Ow.aload (pc' := 76) B at_74 ?_
    refine Ow.Go.old (fun o121 => ?_)
    have f122 := V116.keep Kh118 Ow.nin0
    refine Ow.callInit (pc' := 79) (W := 1) (k' := 4) (n' := 16) (argsL := [(.ref a85)]) (rest := [(.ref a117)]) B at_76 (w4 hw) (w5 hw) (w3 hw) (w6 hw) (con_init_50 hw G GS (pa0 := a117) (pa1 := a85) (px0 := y91) (px1 := y101) (px2 := y111) (pk0 := ka85) o121 Aa117 f120 f119 f122 (by omega) (by omega) (c92) (c93) (c102) (c103) (c112) (c113) c94 c104 c114) pd1 ?_
    intro vq123 h124 S125 q123 zh124
    obtain ⟨r126, k127, rfl, Kh124, br126, f128, rfl⟩ := q123
    have lr126 : (r126 : Nat) < h124.size := f128.ltt
    refine Ow.Go.norm (S' := [a117, a85]) (st' := [(.ref a117)]) (fun _ q => List.mem_append_right _ q) rfl ?_
    refine Ow.astore (pc' := 81) (Ls' := #[.val (.int x0), .val (.int x1), .val (.int x2), .val (.int x3), .val (.int x4), .val (.int (3 : Int32)), .val (.ref a85), .val (.ref a117), .unset]) B at_79 ?_
    refine Ow.iload (pc' := 83) B at_81 ?_
    refine Ow.iconst (pc' := 84) (x := (3 : Int32)) B at_83 ?_
    refine Ow.icmpF (pc' := 87) B at_84 (by decide) ?_
    refine Ow.aload (pc' := 89) B at_87 ?_
    refine Ow.iconst (pc' := 90) (x := (0 : Int32)) B at_89 ?_
    have f129 := f122.keep Kh124 (Ow.ninS (by omega) Ow.nin0)
    refine Ow.caload (pc' := 91) B at_90 f129 ⟨by decide, by decide⟩ rfl ?_
    refine Ow.Go.old (fun o130 => ?_)
    refine Ow.callStatic (pc' := 94) (W := 0) (k' := 4) (n' := 16) (argsL := [(.int y91)]) (rest := []) B at_91 (w52 hw) (w53 hw) (w39 hw) (w54 hw) (con_ok_51 hw G GS (px0 := y91) o130 (c92) (c93) c94) pd13 ?_
    intro vq131 h132 S133 q131 zh132
    rcases q131 with q131 | q131
    · obtain ⟨rfl, rfl, c134, rfl⟩ := q131
      refine Ow.Go.norm (S' := [a117, a85]) (st' := [(.int (0 : Int32))]) (fun _ q => List.mem_append_right _ q) rfl ?_
      refine Ow.ifT (pc' := 121) B at_94 (by decide) ?_
      refine Ow.iconst (pc' := 122) (x := (0 : Int32)) B at_121 ?_
      refine Ow.istore (pc' := 124) (Ls' := #[.val (.int x0), .val (.int x1), .val (.int x2), .val (.int x3), .val (.int x4), .val (.int (3 : Int32)), .val (.ref a85), .val (.ref a117), .val (.int (0 : Int32))]) B at_122 ?_
      refine Ow.aload (pc' := 126) B at_124 ?_
      refine Ow.Go.old (fun o135 => ?_)
      refine Ow.callStatic (pc' := 129) (W := 0) (k' := 4) (n' := 16) (argsL := [(.ref a117)]) (rest := []) B at_126 (w22 hw) (w23 hw) (w24 hw) (w25 hw) (con_isTag_63 hw G GS (pa0 := a117) (pa1 := r126) (px0 := y91) (px1 := y101) (px2 := y111) (pk0 := k127) o135 f128 (by omega) (by omega) (c92) (c93) (c134) c94 c104 c114) pd4 ?_
      intro vq136 h137 S138 q136 zh137
      obtain ⟨rfl, rfl, rfl⟩ := q136
      refine Ow.Go.norm (S' := [a117, a85]) (st' := [(.int (0 : Int32))]) (fun _ q => List.mem_append_right _ q) rfl ?_
      refine Ow.iload (pc' := 131) B at_129 ?_
      refine Ow.icmpF (pc' := 134) B at_131 (by decide) ?_
      refine Ow.iconst (pc' := 135) (x := (1 : Int32)) B at_134 ?_
      refine Ow.goto (pc' := 139) B at_135 ?_
      exact Ow.retI (S' := []) (t := .boolean) B at_139 (rfl)
    · obtain ⟨rfl, rfl, c139, rfl⟩ := q131
      refine Ow.Go.norm (S' := [a117, a85]) (st' := [(.int (1 : Int32))]) (fun _ q => List.mem_append_right _ q) rfl ?_
      refine Ow.ifF (pc' := 97) B at_94 (by decide) ?_
      refine Ow.aload (pc' := 99) B at_97 ?_
      refine Ow.iconst (pc' := 100) (x := (1 : Int32)) B at_99 ?_
      refine Ow.caload (pc' := 101) B at_100 f129 ⟨by decide, by decide⟩ rfl ?_
      refine Ow.Go.old (fun o140 => ?_)
      refine Ow.callStatic (pc' := 104) (W := 0) (k' := 4) (n' := 16) (argsL := [(.int y101)]) (rest := []) B at_101 (w52 hw) (w53 hw) (w39 hw) (w54 hw) (con_ok_51 hw G GS (px0 := y101) o140 (c102) (c103) c104) pd13 ?_
      intro vq141 h142 S143 q141 zh142
      rcases q141 with q141 | q141
      · obtain ⟨rfl, rfl, c144, rfl⟩ := q141
        refine Ow.Go.norm (S' := [a117, a85]) (st' := [(.int (0 : Int32))]) (fun _ q => List.mem_append_right _ q) rfl ?_
        refine Ow.ifT (pc' := 121) B at_104 (by decide) ?_
        refine Ow.iconst (pc' := 122) (x := (0 : Int32)) B at_121 ?_
        refine Ow.istore (pc' := 124) (Ls' := #[.val (.int x0), .val (.int x1), .val (.int x2), .val (.int x3), .val (.int x4), .val (.int (3 : Int32)), .val (.ref a85), .val (.ref a117), .val (.int (0 : Int32))]) B at_122 ?_
        refine Ow.aload (pc' := 126) B at_124 ?_
        refine Ow.Go.old (fun o145 => ?_)
        refine Ow.callStatic (pc' := 129) (W := 0) (k' := 4) (n' := 16) (argsL := [(.ref a117)]) (rest := []) B at_126 (w22 hw) (w23 hw) (w24 hw) (w25 hw) (con_isTag_69 hw G GS (pa0 := a117) (pa1 := r126) (px0 := y91) (px1 := y101) (px2 := y111) (pk0 := k127) o145 f128 (by omega) (by omega) (c92) (c93) (c102) (c103) (c139) (c144) c94 c104 c114) pd4 ?_
        intro vq146 h147 S148 q146 zh147
        obtain ⟨rfl, rfl, rfl⟩ := q146
        refine Ow.Go.norm (S' := [a117, a85]) (st' := [(.int (0 : Int32))]) (fun _ q => List.mem_append_right _ q) rfl ?_
        refine Ow.iload (pc' := 131) B at_129 ?_
        refine Ow.icmpF (pc' := 134) B at_131 (by decide) ?_
        refine Ow.iconst (pc' := 135) (x := (1 : Int32)) B at_134 ?_
        refine Ow.goto (pc' := 139) B at_135 ?_
        exact Ow.retI (S' := []) (t := .boolean) B at_139 (rfl)
      · obtain ⟨rfl, rfl, c149, rfl⟩ := q141
        refine Ow.Go.norm (S' := [a117, a85]) (st' := [(.int (1 : Int32))]) (fun _ q => List.mem_append_right _ q) rfl ?_
        refine Ow.ifF (pc' := 107) B at_104 (by decide) ?_
        refine Ow.aload (pc' := 109) B at_107 ?_
        refine Ow.iconst (pc' := 110) (x := (2 : Int32)) B at_109 ?_
        refine Ow.caload (pc' := 111) B at_110 f129 ⟨by decide, by decide⟩ rfl ?_
        refine Ow.Go.old (fun o150 => ?_)
        refine Ow.callStatic (pc' := 114) (W := 0) (k' := 4) (n' := 16) (argsL := [(.int y111)]) (rest := []) B at_111 (w52 hw) (w53 hw) (w39 hw) (w54 hw) (con_ok_51 hw G GS (px0 := y111) o150 (c112) (c113) c114) pd13 ?_
        intro vq151 h152 S153 q151 zh152
        rcases q151 with q151 | q151
        · obtain ⟨rfl, rfl, c154, rfl⟩ := q151
          refine Ow.Go.norm (S' := [a117, a85]) (st' := [(.int (0 : Int32))]) (fun _ q => List.mem_append_right _ q) rfl ?_
          refine Ow.ifT (pc' := 121) B at_114 (by decide) ?_
          refine Ow.iconst (pc' := 122) (x := (0 : Int32)) B at_121 ?_
          refine Ow.istore (pc' := 124) (Ls' := #[.val (.int x0), .val (.int x1), .val (.int x2), .val (.int x3), .val (.int x4), .val (.int (3 : Int32)), .val (.ref a85), .val (.ref a117), .val (.int (0 : Int32))]) B at_122 ?_
          refine Ow.aload (pc' := 126) B at_124 ?_
          refine Ow.Go.old (fun o155 => ?_)
          refine Ow.callStatic (pc' := 129) (W := 0) (k' := 4) (n' := 16) (argsL := [(.ref a117)]) (rest := []) B at_126 (w22 hw) (w23 hw) (w24 hw) (w25 hw) (con_isTag_75 hw G GS (pa0 := a117) (pa1 := r126) (px0 := y91) (px1 := y101) (px2 := y111) (pk0 := k127) o155 f128 (by omega) (by omega) (c92) (c93) (c102) (c103) (c112) (c113) (c139) (c149) (c154) c94 c104 c114) pd4 ?_
          intro vq156 h157 S158 q156 zh157
          obtain ⟨rfl, rfl, rfl⟩ := q156
          refine Ow.Go.norm (S' := [a117, a85]) (st' := [(.int (0 : Int32))]) (fun _ q => List.mem_append_right _ q) rfl ?_
          refine Ow.iload (pc' := 131) B at_129 ?_
          refine Ow.icmpF (pc' := 134) B at_131 (by decide) ?_
          refine Ow.iconst (pc' := 135) (x := (1 : Int32)) B at_134 ?_
          refine Ow.goto (pc' := 139) B at_135 ?_
          exact Ow.retI (S' := []) (t := .boolean) B at_139 (rfl)
        · obtain ⟨rfl, rfl, c159, rfl⟩ := q151
          refine Ow.Go.norm (S' := [a117, a85]) (st' := [(.int (1 : Int32))]) (fun _ q => List.mem_append_right _ q) rfl ?_
          refine Ow.ifF (pc' := 117) B at_114 (by decide) ?_
          refine Ow.iconst (pc' := 118) (x := (1 : Int32)) B at_117 ?_
          refine Ow.goto (pc' := 122) B at_118 ?_
          refine Ow.istore (pc' := 124) (Ls' := #[.val (.int x0), .val (.int x1), .val (.int x2), .val (.int x3), .val (.int x4), .val (.int (3 : Int32)), .val (.ref a85), .val (.ref a117), .val (.int (1 : Int32))]) B at_122 ?_
          refine Ow.aload (pc' := 126) B at_124 ?_
          refine Ow.Go.old (fun o160 => ?_)
          refine Ow.callStatic (pc' := 129) (W := 0) (k' := 4) (n' := 16) (argsL := [(.ref a117)]) (rest := []) B at_126 (w22 hw) (w23 hw) (w24 hw) (w25 hw) (con_isTag_76 hw G GS (pa0 := a117) (pa1 := r126) (px0 := y91) (px1 := y101) (px2 := y111) (pk0 := k127) o160 f128 (by omega) (by omega) (c92) (c93) (c102) (c103) (c112) (c113) (c139) (c149) (c159) c94 c104 c114) pd4 ?_
          intro vq161 h162 S163 q161 zh162
          obtain ⟨rfl, rfl, rfl⟩ := q161
          refine Ow.Go.norm (S' := [a117, a85]) (st' := [(.int (1 : Int32))]) (fun _ q => List.mem_append_right _ q) rfl ?_
          refine Ow.iload (pc' := 131) B at_129 ?_
          refine Ow.icmpF (pc' := 134) B at_131 (by decide) ?_
          refine Ow.iconst (pc' := 135) (x := (1 : Int32)) B at_134 ?_
          refine Ow.goto (pc' := 139) B at_135 ?_
          exact Ow.retI (S' := []) (t := .boolean) B at_139 (rfl)
  · refine Ow.irem (pc' := 6) (z := (4 : Int32)) (hz := hz5) B at_5 ?_
    refine Ow.istore (pc' := 8) (Ls' := #[.val (.int x0), .val (.int x1), .val (.int x2), .val (.int x3), .val (.int x4), .val (.int (4 : Int32)), .unset, .unset, .unset]) B at_6 ?_
    refine Ow.iload (pc' := 10) B at_8 ?_
    refine Ow.newArr (pc' := 12) (k' := 1) (n' := 4) (cap := 4) B at_10 (w0 hw) (by decide) (by decide) ?_
    intro h165 a164 ka164 ga164 ba164 Kh165 V0a164
    have zh165 := Kh165.1
    have la164 : (a164 : Nat) < h165.size := V0a164.lt
    have Va164 : Arv Z h165 a164 ka164 .char (4 : Int32) [(.int 0), (.int 0), (.int 0), (.int 0)] (.int 0) := V0a164.pad (pad_rep [] (.int 0) 4)
    refine Ow.astore (pc' := 14) (Ls' := #[.val (.int x0), .val (.int x1), .val (.int x2), .val (.int x3), .val (.int x4), .val (.int (4 : Int32)), .val (.ref a164), .unset, .unset]) B at_12 ?_
    refine Ow.iload (pc' := 16) B at_14 ?_
    refine Ow.ifF (pc' := 19) B at_16 (by decide) ?_
    refine Ow.aload (pc' := 21) B at_19 ?_
    refine Ow.iconst (pc' := 22) (x := (0 : Int32)) B at_21 ?_
    refine Ow.iloadN (pc' := 23) B at_22 ?_
    refine Ow.Go.old (fun o166 => ?_)
    refine Ow.callStatic (pc' := 26) (W := 2) (k' := 1) (n' := 4) (argsL := [(.int x1)]) (rest := [(.int (0 : Int32)), (.ref a164)]) B at_23 (w37 hw) (w38 hw) (w39 hw) (w40 hw) (con_draw_7 hw G GS (px0 := x1) o166) pd5 ?_
    intro vq167 h168 S169 q167 zh168
    obtain ⟨y170, rfl, rfl, c171, c172, c173, rfl⟩ := q167
    refine Ow.Go.norm (S' := [a164]) (st' := [(.int y170), (.int (0 : Int32)), (.ref a164)]) (fun _ q => List.mem_append_right _ q) rfl ?_
    refine Ow.castore (pc' := 27) (i := 0) B at_26 Va164 ⟨by decide, by decide⟩ ?_
    intro h174 Kh174 V0h174
    have zh174 := Kh174.1
    have V175 : Arv Z h174 a164 ka164 .char (4 : Int32) [(.int y170), (.int (0 : Int32)), (.int (0 : Int32)), (.int (0 : Int32))] (.int 0) := (by have e0 := V0h174; rw [show nar .char y170 = y170 from c173] at e0; exact e0)
    refine Ow.iload (pc' := 29) B at_27 ?_
    refine Ow.iconst (pc' := 30) (x := (1 : Int32)) B at_29 ?_
    refine Ow.icmpF (pc' := 33) B at_30 (by decide) ?_
    refine Ow.aload (pc' := 35) B at_33 ?_
    refine Ow.iconst (pc' := 36) (x := (1 : Int32)) B at_35 ?_
    refine Ow.iloadN (pc' := 37) B at_36 ?_
    refine Ow.Go.old (fun o176 => ?_)
    refine Ow.callStatic (pc' := 40) (W := 2) (k' := 1) (n' := 4) (argsL := [(.int x2)]) (rest := [(.int (1 : Int32)), (.ref a164)]) B at_37 (w37 hw) (w38 hw) (w39 hw) (w40 hw) (con_draw_7 hw G GS (px0 := x2) o176) pd5 ?_
    intro vq177 h178 S179 q177 zh178
    obtain ⟨y180, rfl, rfl, c181, c182, c183, rfl⟩ := q177
    refine Ow.Go.norm (S' := [a164]) (st' := [(.int y180), (.int (1 : Int32)), (.ref a164)]) (fun _ q => List.mem_append_right _ q) rfl ?_
    refine Ow.castore (pc' := 41) (i := 1) B at_40 V175 ⟨by decide, by decide⟩ ?_
    intro h184 Kh184 V0h184
    have zh184 := Kh184.1
    have V185 : Arv Z h184 a164 ka164 .char (4 : Int32) [(.int y170), (.int y180), (.int (0 : Int32)), (.int (0 : Int32))] (.int 0) := (by have e0 := V0h184; rw [show nar .char y180 = y180 from c183] at e0; exact e0)
    refine Ow.iload (pc' := 43) B at_41 ?_
    refine Ow.iconst (pc' := 44) (x := (2 : Int32)) B at_43 ?_
    refine Ow.icmpF (pc' := 47) B at_44 (by decide) ?_
    refine Ow.aload (pc' := 49) B at_47 ?_
    refine Ow.iconst (pc' := 50) (x := (2 : Int32)) B at_49 ?_
    refine Ow.iloadN (pc' := 51) B at_50 ?_
    refine Ow.Go.old (fun o186 => ?_)
    refine Ow.callStatic (pc' := 54) (W := 2) (k' := 1) (n' := 4) (argsL := [(.int x3)]) (rest := [(.int (2 : Int32)), (.ref a164)]) B at_51 (w37 hw) (w38 hw) (w39 hw) (w40 hw) (con_draw_7 hw G GS (px0 := x3) o186) pd5 ?_
    intro vq187 h188 S189 q187 zh188
    obtain ⟨y190, rfl, rfl, c191, c192, c193, rfl⟩ := q187
    refine Ow.Go.norm (S' := [a164]) (st' := [(.int y190), (.int (2 : Int32)), (.ref a164)]) (fun _ q => List.mem_append_right _ q) rfl ?_
    refine Ow.castore (pc' := 55) (i := 2) B at_54 V185 ⟨by decide, by decide⟩ ?_
    intro h194 Kh194 V0h194
    have zh194 := Kh194.1
    have V195 : Arv Z h194 a164 ka164 .char (4 : Int32) [(.int y170), (.int y180), (.int y190), (.int (0 : Int32))] (.int 0) := (by have e0 := V0h194; rw [show nar .char y190 = y190 from c193] at e0; exact e0)
    refine Ow.iload (pc' := 57) B at_55 ?_
    refine Ow.iconst (pc' := 58) (x := (3 : Int32)) B at_57 ?_
    refine Ow.icmpF (pc' := 61) B at_58 (by decide) ?_
    refine Ow.aload (pc' := 63) B at_61 ?_
    refine Ow.iconst (pc' := 64) (x := (3 : Int32)) B at_63 ?_
    refine Ow.iload (pc' := 66) B at_64 ?_
    refine Ow.Go.old (fun o196 => ?_)
    refine Ow.callStatic (pc' := 69) (W := 2) (k' := 1) (n' := 4) (argsL := [(.int x4)]) (rest := [(.int (3 : Int32)), (.ref a164)]) B at_66 (w37 hw) (w38 hw) (w39 hw) (w40 hw) (con_draw_7 hw G GS (px0 := x4) o196) pd5 ?_
    intro vq197 h198 S199 q197 zh198
    obtain ⟨y200, rfl, rfl, c201, c202, c203, rfl⟩ := q197
    refine Ow.Go.norm (S' := [a164]) (st' := [(.int y200), (.int (3 : Int32)), (.ref a164)]) (fun _ q => List.mem_append_right _ q) rfl ?_
    refine Ow.castore (pc' := 70) (i := 3) B at_69 V195 ⟨by decide, by decide⟩ ?_
    intro h204 Kh204 V0h204
    have zh204 := Kh204.1
    have V205 : Arv Z h204 a164 ka164 .char (4 : Int32) [(.int y170), (.int y180), (.int y190), (.int y200)] (.int 0) := (by have e0 := V0h204; rw [show nar .char y200 = y200 from c203] at e0; exact e0)
    refine Ow.newObj (pc' := 73) (k' := 2) (n' := 8) B at_70 (w1 hw) (w2 hw) (w3 hw) ?_
    intro h207 a206 ga206 ba206 Kh207 Aa206 Da206
    have zh207 := Kh207.1
    have la206 : (a206 : Nat) < h207.size := Aa206.lt
    have f208 : Fld Z h207 a206 "java/lang/String" "value" "[B" .null := Da206 (Or.inr (w16 hw)) (ty := (.array .byte)) (by decide)
    have f209 : Fld Z h207 a206 "java/lang/String" "coder" "B" (.int 0) := Da206 (Or.inr (w17 hw)) (ty := .byte) (by decide)
    refine Ow.dup (pc' := 74) B at_73 ?_
    refine Ow.aload (pc' := 76) B at_74 ?_
    refine Ow.Go.old (fun o210 => ?_)
    have f211 := V205.keep Kh207 Ow.nin0
    refine Ow.callInit (pc' := 79) (W := 1) (k' := 4) (n' := 20) (argsL := [(.ref a164)]) (rest := [(.ref a206)]) B at_76 (w4 hw) (w5 hw) (w3 hw) (w6 hw) (con_init_93 hw G GS (pa0 := a206) (pa1 := a164) (px0 := y170) (px1 := y180) (px2 := y190) (px3 := y200) (pk0 := ka164) o210 Aa206 f209 f208 f211 (by omega) (by omega) (c171) (c172) (c181) (c182) (c191) (c192) (c201) (c202) c173 c183 c193 c203) pd1 ?_
    intro vq212 h213 S214 q212 zh213
    obtain ⟨r215, k216, rfl, Kh213, br215, f217, rfl⟩ := q212
    have lr215 : (r215 : Nat) < h213.size := f217.ltt
    refine Ow.Go.norm (S' := [a206, a164]) (st' := [(.ref a206)]) (fun _ q => List.mem_append_right _ q) rfl ?_
    refine Ow.astore (pc' := 81) (Ls' := #[.val (.int x0), .val (.int x1), .val (.int x2), .val (.int x3), .val (.int x4), .val (.int (4 : Int32)), .val (.ref a164), .val (.ref a206), .unset]) B at_79 ?_
    refine Ow.iload (pc' := 83) B at_81 ?_
    refine Ow.iconst (pc' := 84) (x := (3 : Int32)) B at_83 ?_
    refine Ow.icmpT (pc' := 121) B at_84 (by decide) ?_
    refine Ow.iconst (pc' := 122) (x := (0 : Int32)) B at_121 ?_
    refine Ow.istore (pc' := 124) (Ls' := #[.val (.int x0), .val (.int x1), .val (.int x2), .val (.int x3), .val (.int x4), .val (.int (4 : Int32)), .val (.ref a164), .val (.ref a206), .val (.int (0 : Int32))]) B at_122 ?_
    refine Ow.aload (pc' := 126) B at_124 ?_
    refine Ow.Go.old (fun o218 => ?_)
    refine Ow.callStatic (pc' := 129) (W := 0) (k' := 4) (n' := 20) (argsL := [(.ref a206)]) (rest := []) B at_126 (w22 hw) (w23 hw) (w24 hw) (w25 hw) (con_isTag_95 hw G GS (pa0 := a206) (pa1 := r215) (px0 := y170) (px1 := y180) (px2 := y190) (px3 := y200) (pk0 := k216) o218 f217 (by omega) (by omega) c173 c183 c193 c203) pd4 ?_
    intro vq219 h220 S221 q219 zh220
    obtain ⟨rfl, rfl, rfl⟩ := q219
    refine Ow.Go.norm (S' := [a206, a164]) (st' := [(.int (0 : Int32))]) (fun _ q => List.mem_append_right _ q) rfl ?_
    refine Ow.iload (pc' := 131) B at_129 ?_
    refine Ow.icmpF (pc' := 134) B at_131 (by decide) ?_
    refine Ow.iconst (pc' := 135) (x := (1 : Int32)) B at_134 ?_
    refine Ow.goto (pc' := 139) B at_135 ?_
    exact Ow.retI (S' := []) (t := .boolean) B at_139 (rfl)
set_option maxRecDepth 65536 in
set_option maxHeartbeats 40000000 in
theorem comes_1 {Post : Tables → Env → Array Value → State → Outcome → State → Prop} (hpost : ∀ tb e args s v u, (limb_1_1.after args s (.returned v) u = true ∧ limb_1_2.after args s (.returned v) u = true ∧ True) → ReturnedEndW s (.returned v) u (Jvm.fieldLocs frame_1_writes args s ++ Jvm.arrayLocs frame_1_arrays args s ++ Jvm.staticLocs frame_1_statics s) 24 1152 → Post tb e args s (.returned v) u) :
    ArmFor flags0 classFile x code maxLocals ret World_1 tables_1 room_1 Calls_1 rest_1 Pre_1 Post := by
  intro l hfl _ _ p e ha hc hk s m args below hf hA hF happ hP
  obtain ⟨hcalls, hrest, hpre⟩ := hP
  obtain ⟨-, -, -, hnamed, -, -, -, hat⟩ := (Spec.applies_iff hf).mp happ
  obtain ⟨hg, hn⟩ := and_e (Cond.before_iff.mp (show (Jvm.Cond.and given_1 narrow_1).before args s = true from hpre))
  obtain ⟨g0, hg⟩ := and_e hg
  obtain ⟨w0, w1, w2, w3, w4, rfl⟩ : ∃ w0 w1 w2 w3 w4 : Value, args = #[w0, w1, w2, w3, w4] := by
    have hs : args.size = 5 := by simpa [Cond.value, given_1] using g0
    obtain ⟨L⟩ := args
    match L, hs with
    | [w0, w1, w2, w3, w4], _ => exact ⟨w0, w1, w2, w3, w4, rfl⟩
  have hw := fun d (hd : d ∈ tables_1) => atoms_spec (ws := Jvm.Cond.code x code maxLocals ret :: tables_1) hat d (List.mem_cons_of_mem _ hd)
  have hsets := (atoms_of jdkStatics_1 (by rw [← rest_1_c_eq]; exact hrest)).1
  obtain ⟨g1, hg⟩ := and_e hg
  obtain ⟨i0, e0⟩ := is_v g1
  obtain rfl : w0 = (.int i0) := Option.some.inj e0
  obtain ⟨g2, hg⟩ := and_e hg
  obtain ⟨i1, e1⟩ := is_v g2
  obtain rfl : w1 = (.int i1) := Option.some.inj e1
  obtain ⟨g3, hg⟩ := and_e hg
  obtain ⟨i2, e2⟩ := is_v g3
  obtain rfl : w2 = (.int i2) := Option.some.inj e2
  obtain ⟨g4, hg⟩ := and_e hg
  obtain ⟨i3, e3⟩ := is_v g4
  obtain rfl : w3 = (.int i3) := Option.some.inj e3
  have g5 := hg
  obtain ⟨i4, e4⟩ := is_v g5
  obtain rfl : w4 = (.int i4) := Option.some.inj e4
  obtain ⟨cz, ecz⟩ := is_v (Cond.before_iff.mp (hsets _ (List.mem_of_getElem? (i := 1) rfl)))
  have hcz : cz ≠ 0 := gotF (Cond.eq_ints ecz (Term.int_eval (0))) (not_v (Cond.before_iff.mp (hsets _ (List.mem_of_getElem? (i := 2) rfl))))
  obtain ⟨sf, esf, rsf⟩ := isR_v (Cond.before_iff.mp (hsets _ (List.mem_of_getElem? (i := 8) rfl)))
  have G : Ow.Glo s cz sf := ⟨Sta.start ecz (Or.inl (hsets _ (List.mem_of_getElem? (i := 0) rfl))), hcz, Sta.start esf (Or.inl (hsets _ (List.mem_of_getElem? (i := 7) rfl))), rsf⟩
  have hCH : CHv s EL1 s.vm s.heap := CHv.start (hEW hw) (fun q hq => hcalls.1 q (by simp only [List.mem_cons, List.not_mem_nil, or_false] at hq; rcases hq with rfl <;> simp [consts_1])) (hsets _ (List.mem_of_getElem? (i := 2) rfl)) (w15 hw) (w2 hw)
  have GS : GlS s  := ⟨Sta.start (Ow.eq_int_v (Cond.before_iff.mp (hsets _ (List.mem_of_getElem? (i := 12) rfl)))) (Or.inl (hsets _ (List.mem_of_getElem? (i := 11) rfl))), Sta.start (Ow.eq_int_v (Cond.before_iff.mp (hsets _ (List.mem_of_getElem? (i := 15) rfl)))) (Or.inl (hsets _ (List.mem_of_getElem? (i := 14) rfl))), Sta.start (Ow.eq_int_v (Cond.before_iff.mp (hsets _ (List.mem_of_getElem? (i := 18) rfl)))) (Or.inl (hsets _ (List.mem_of_getElem? (i := 17) rfl)))⟩
  obtain ⟨n, o, h1, h2, h3, v, L, S', rfl, ⟨rfl, N, -, -⟩, -, hq⟩ := lawCon hw G GS i0 i1 i2 i3 i4 (Old.start s) p e ha hc hk s m _ below hf ((Spec.applies_iff_loose hf).mp happ).1 ⟨rfl, State.Warmed39.refl s, rfl, hCH, Ow.SafeL.nil⟩ trivial
  refine ⟨n, _, h1, h2, h3, hpost _ _ _ _ _ _ ⟨Cond.after_iff.mpr rfl, Cond.after_iff.mpr (eq_i res_at (Term.int_eval (1)) rfl), trivial⟩ ⟨hq.1, hq.2.1, hq.2.2.1, (hq.2.2.2.sift fun y hy => Or.inr (N y hy)).mono (by decide) (by decide)⟩⟩
theorem main_1_1 : Claimed_1_1 := comes_1 fun _ _ _ _ _ _ h hF => ⟨h.1, hF⟩
theorem main_1_2 : Claimed_1_2 := comes_1 fun _ _ _ _ _ _ h hF => ⟨h.2.1, hF⟩
end Jvm.Pilot.@@N@@
namespace Jvm.Pilot.@@N@@
open Jvm Jvm.ClassFile Sem Op Lib Jvm.Free Jvm.Stand Jvm.Pilot.@@N@@.Jvm.D
/-! MADE BY PROGRAM (witnessworld.py) out of the Statement's table words and the real class files: 20 classes; the members and pool entries that the words name. The judged class is class 1, her method 1. -/
namespace start1
open Jvm.ClassFile
def u (s : String) : CpInfo := .utf8 (stringToUtf16 s)
/-- a pool by its gaps: so many unusable entries, then the entry; so many at the end -/
def gap : Nat → List CpInfo → List CpInfo
  | 0, r => r
  | n + 1, r => .unusable :: gap n r
def poolList (es : List (Nat × CpInfo)) (last : Nat) : List CpInfo := es.foldr (fun e r => gap e.1 (e.2 :: r)) (gap last [])
def pool (es : List (Nat × CpInfo)) (last : Nat) : Array CpInfo := ⟨poolList es last⟩
def fileOf (pool : Array CpInfo) (this : Nat) (attrs : Array Attribute := #[]) (ms : Array MethodInfo := #[]) (fl : Nat := 33) (sup : Nat := 0) (ifs : Array Nat := #[]) (fds : Array FieldInfo := #[]) : ClassFile where
  minorVersion := 0
  majorVersion := 65
  constantPool := pool
  accessFlags := fl
  thisClass := this
  superClass := sup
  interfaces := ifs
  fields := fds
  methods := ms
  attributes := attrs
def plain (name : String) (sup : Option ClassId) : Class where
  name := name
  kind := .ordinary
  loader := none
  accessFlags := 33
  super := sup
  interfaces := #[]
  cf := none
  fields := #[]
  methods := #[]
  instanceTypes := #[]
  staticTypes := #[]
  resolved := #[]
  callSites := []
  init := .initialized
  statics := none
  mirror := none

def pool0 : Array CpInfo := pool [(5, u "<init>"), (0, u "()V"), (1, .class_ 10), (1, u "java/lang/Object")] 113

def k0c0 : Code := { maxStack := 0, maxLocals := 1, code := object_method_1_code, exceptionTable := #[], attributes := #[] }
def k0m0 : Method := { name := "<init>", desc := "()V", sig := { parameters := [], returnType := none }, accessFlags := 1, code := some k0c0 }
/-- java/lang/Object -/
def k0 : Class := { plain "java/lang/Object" none with
  accessFlags := 33
  interfaces := #[]
  cf := some (fileOf pool0 8 #[] #[{ accessFlags := 1, nameIndex := 5, descriptorIndex := 6, attributes := #[] }] 33 0 #[] #[])
  fields := #[]
  methods := #[k0m0]
  instanceTypes := #[]
  staticTypes := #[]
  resolved := Array.replicate 124 none
  statics := none }

def pool1 : Array CpInfo := pool [(2, .class_ 4), (1, u "java/lang/Object"), (0, u "<init>"), (0, u "()V"), (0, .methodref 8 9), (0, .class_ 10), (0, .nameAndType 11 12), (0, u "com/example/elsewhere/elsewhere/FieldIsTagPinLaw"), (0, u "draw"), (0, u "(I)C"), (0, .class_ 14), (0, u "java/lang/String"), (0, .methodref 13 16), (0, .nameAndType 5 17), (0, u "([C)V"), (0, .methodref 8 19), (0, .nameAndType 20 21), (0, u "ok"), (0, u "(C)Z"), (0, .interfaceMethodref 23 24), (0, .class_ 25), (0, .nameAndType 26 27), (0, u "com/example/elsewhere/elsewhere/Field"), (0, u "isTag"), (0, u "(Ljava/lang/String;)Z"), (0, .integer 65535), (2, u "law"), (0, u "(IIIII)Z")] 5

def k1m0 : Method := { name := "<init>", desc := "()V", sig := { parameters := [], returnType := none }, accessFlags := 1, code := none }
def k1c1 : Code := { maxStack := 3, maxLocals := 9, code := code, exceptionTable := #[], attributes := #[] }
def k1m1 : Method := { name := "law", desc := "(IIIII)Z", sig := { parameters := [.int, .int, .int, .int, .int], returnType := some .boolean }, accessFlags := 9, code := some k1c1 }
def k1c2 : Code := { maxStack := 3, maxLocals := 2, code := method_3_code, exceptionTable := #[], attributes := #[] }
def k1m2 : Method := { name := "draw", desc := "(I)C", sig := { parameters := [.int], returnType := some .char }, accessFlags := 10, code := some k1c2 }
def k1c3 : Code := { maxStack := 2, maxLocals := 4, code := method_4_code, exceptionTable := #[], attributes := #[] }
def k1m3 : Method := { name := "ok", desc := "(C)Z", sig := { parameters := [.char], returnType := some .boolean }, accessFlags := 10, code := some k1c3 }
/-- com/example/elsewhere/elsewhere/FieldIsTagPinLaw -/
def k1 : Class := { plain "com/example/elsewhere/elsewhere/FieldIsTagPinLaw" (some 0) with
  accessFlags := 49
  interfaces := #[]
  cf := some (fileOf pool1 8 #[] #[{ accessFlags := 1, nameIndex := 5, descriptorIndex := 6, attributes := #[] }, { accessFlags := 9, nameIndex := 31, descriptorIndex := 32, attributes := #[] }, { accessFlags := 10, nameIndex := 11, descriptorIndex := 12, attributes := #[] }, { accessFlags := 10, nameIndex := 20, descriptorIndex := 21, attributes := #[] }] 49 2 #[] #[])
  fields := #[]
  methods := #[k1m0, k1m1, k1m2, k1m3]
  instanceTypes := #[]
  staticTypes := #[]
  resolved := Array.replicate 38 none
  statics := none }

def pool2 : Array CpInfo := pool [(1, .class_ 2), (0, u "java/io/Serializable"), (0, .class_ 4), (0, u "java/lang/Object")] 2

/-- java/io/Serializable -/
def k2 : Class := { plain "java/io/Serializable" (some 0) with
  accessFlags := 1537
  interfaces := #[]
  cf := some (fileOf pool2 1 #[] #[] 1537 3 #[] #[])
  fields := #[]
  methods := #[]
  instanceTypes := #[]
  staticTypes := #[]
  resolved := Array.replicate 7 none
  statics := none }

def pool3 : Array CpInfo := pool [(1, .class_ 2), (0, u "java/lang/Comparable"), (0, .class_ 4), (0, u "java/lang/Object")] 7

/-- java/lang/Comparable -/
def k3 : Class := { plain "java/lang/Comparable" (some 0) with
  accessFlags := 1537
  interfaces := #[]
  cf := some (fileOf pool3 1 #[] #[] 1537 3 #[] #[])
  fields := #[]
  methods := #[]
  instanceTypes := #[]
  staticTypes := #[]
  resolved := Array.replicate 12 none
  statics := none }

def pool4 : Array CpInfo := pool [(2, .class_ 4), (1, u "java/lang/CharSequence"), (42, .class_ 48), (0, u "java/lang/CharSequence$1CodePointIterator"), (10, .class_ 60), (0, u "java/lang/CharSequence$1CharIterator"), (5, .class_ 67), (0, u "java/lang/Object")] 63

/-- java/lang/CharSequence -/
def k4 : Class := { plain "java/lang/CharSequence" (some 0) with
  accessFlags := 1537
  interfaces := #[]
  cf := some (fileOf pool4 2 #[.nestMembers #[47, 59]] #[] 1537 66 #[] #[])
  fields := #[]
  methods := #[]
  instanceTypes := #[]
  staticTypes := #[]
  resolved := Array.replicate 131 none
  statics := none }

def pool5 : Array CpInfo := pool [(1, .class_ 2), (0, u "java/lang/constant/Constable"), (0, .class_ 4), (0, u "java/lang/Object")] 6

/-- java/lang/constant/Constable -/
def k5 : Class := { plain "java/lang/constant/Constable" (some 0) with
  accessFlags := 1537
  interfaces := #[]
  cf := some (fileOf pool5 1 #[] #[] 1537 3 #[] #[])
  fields := #[]
  methods := #[]
  instanceTypes := #[]
  staticTypes := #[]
  resolved := Array.replicate 11 none
  statics := none }

def pool6 : Array CpInfo := pool [(1, .class_ 2), (0, u "java/lang/constant/ConstantDesc"), (0, .class_ 4), (0, u "java/lang/Object")] 32

/-- java/lang/constant/ConstantDesc -/
def k6 : Class := { plain "java/lang/constant/ConstantDesc" (some 0) with
  accessFlags := 1537
  interfaces := #[]
  cf := some (fileOf pool6 1 #[] #[] 1537 3 #[] #[])
  fields := #[]
  methods := #[]
  instanceTypes := #[]
  staticTypes := #[]
  resolved := Array.replicate 37 none
  statics := none }

def pool7 : Array CpInfo := pool [(1, .methodref 2 3), (0, .class_ 4), (0, .nameAndType 5 6), (0, u "java/lang/Object"), (0, u "<init>"), (0, u "()V"), (0, .string 8), (0, u ""), (0, .fieldref 10 11), (0, .class_ 12), (0, .nameAndType 13 14), (0, u "java/lang/String"), (0, u "value"), (0, u "[B"), (0, .fieldref 10 16), (0, .nameAndType 17 18), (0, u "coder"), (0, u "B"), (2, u "hash"), (0, u "I"), (2, u "hashIsZero"), (0, u "Z"), (0, .methodref 10 28), (0, .nameAndType 5 29), (0, u "([CIILjava/lang/Void;)V"), (8, .fieldref 10 39), (0, .nameAndType 40 26), (0, u "COMPACT_STRINGS"), (1, .class_ 44), (1, u "java/lang/StringUTF16"), (0, u "compress"), (1, .methodref 42 48), (0, .nameAndType 49 50), (0, u "coderFromArrayLen"), (0, u "([BI)B"), (56, .class_ 109), (1, u "java/lang/StringLatin1"), (32, u "()Z"), (34, .methodref 42 178), (0, .nameAndType 45 179), (0, u "([CII)[B"), (154, u "()I"), (0, .methodref 10 336), (0, .nameAndType 17 337), (0, u "()B"), (25, u "([BI)C"), (27, u "(II)V"), (35, u "(I)C"), (64, .methodref 10 493), (0, .nameAndType 494 142), (0, u "isLatin1"), (0, .methodref 107 496), (0, .nameAndType 497 363), (0, u "charAt"), (0, .methodref 42 496), (2, u "checkIndex"), (5, u "length"), (67, .class_ 576), (0, u "java/lang/CharSequence"), (22, u "CASE_INSENSITIVE_ORDER"), (0, u "Ljava/util/Comparator;"), (409, u "([C)V"), (42, .fieldref 1054 1055), (0, .class_ 1056), (0, .nameAndType 1057 1058), (0, u "jdk/internal/util/Preconditions"), (0, u "SIOOBE_FORMATTER"), (0, u "Ljava/util/function/BiFunction;"), (0, .methodref 1054 1060), (0, .nameAndType 501 1061), (0, u "(IILjava/util/function/BiFunction;)I"), (39, u "serialPersistentFields"), (0, u "[Ljava/io/ObjectStreamField;"), (0, .class_ 1104), (0, u "java/lang/String$CaseInsensitiveComparator"), (1, .class_ 1107), (0, u "java/io/Serializable"), (0, .class_ 1109), (0, u "java/lang/Comparable"), (0, .class_ 1111), (0, u "java/lang/constant/Constable"), (0, .class_ 1113), (0, u "java/lang/constant/ConstantDesc"), (2, u "serialVersionUID"), (0, u "J"), (3, u "REPL"), (0, u "C"), (2, u "LATIN1"), (1, u "UTF16")] 323

def k7m0 : Method := { name := "<init>", desc := "()V", sig := { parameters := [], returnType := none }, accessFlags := 1, code := none }
def k7c1 : Code := { maxStack := 5, maxLocals := 2, code := jdk_42_method_3_code, exceptionTable := #[], attributes := #[] }
def k7m1 : Method := { name := "<init>", desc := "([C)V", sig := { parameters := [(.array .char)], returnType := none }, accessFlags := 1, code := some k7c1 }
def k7c2 : Code := { maxStack := 2, maxLocals := 1, code := jdk_42_method_54_code, exceptionTable := #[], attributes := #[] }
def k7m2 : Method := { name := "length", desc := "()I", sig := { parameters := [], returnType := some .int }, accessFlags := 1, code := some k7c2 }
def k7c3 : Code := { maxStack := 2, maxLocals := 2, code := jdk_42_method_56_code, exceptionTable := #[], attributes := #[] }
def k7m3 : Method := { name := "charAt", desc := "(I)C", sig := { parameters := [.int], returnType := some .char }, accessFlags := 1, code := some k7c3 }
def k7c4 : Code := { maxStack := 4, maxLocals := 6, code := jdk_42_method_149_code, exceptionTable := #[], attributes := #[] }
def k7m4 : Method := { name := "<init>", desc := "([CIILjava/lang/Void;)V", sig := { parameters := [(.array .char), .int, .int, (.object "java/lang/Void")], returnType := none }, accessFlags := 2, code := some k7c4 }
def k7c5 : Code := { maxStack := 1, maxLocals := 1, code := jdk_42_method_152_code, exceptionTable := #[], attributes := #[] }
def k7m5 : Method := { name := "coder", desc := "()B", sig := { parameters := [], returnType := some .byte }, accessFlags := 0, code := some k7c5 }
def k7c6 : Code := { maxStack := 1, maxLocals := 1, code := jdk_42_method_154_code, exceptionTable := #[], attributes := #[] }
def k7m6 : Method := { name := "isLatin1", desc := "()Z", sig := { parameters := [], returnType := some .boolean }, accessFlags := 0, code := some k7c6 }
def k7c7 : Code := { maxStack := 3, maxLocals := 2, code := jdk_42_method_155_code, exceptionTable := #[], attributes := #[] }
def k7m7 : Method := { name := "checkIndex", desc := "(II)V", sig := { parameters := [.int, .int], returnType := none }, accessFlags := 8, code := some k7c7 }
/-- java/lang/String -/
def k7 : Class := { plain "java/lang/String" (some 0) with
  accessFlags := 49
  interfaces := #[2, 3, 4, 5, 6]
  cf := some (fileOf pool7 10 #[.nestMembers #[1103]] #[{ accessFlags := 1, nameIndex := 5, descriptorIndex := 6, attributes := #[] }, { accessFlags := 1, nameIndex := 5, descriptorIndex := 1010, attributes := #[] }, { accessFlags := 1, nameIndex := 507, descriptorIndex := 334, attributes := #[] }, { accessFlags := 1, nameIndex := 497, descriptorIndex := 427, attributes := #[] }, { accessFlags := 2, nameIndex := 5, descriptorIndex := 29, attributes := #[] }, { accessFlags := 0, nameIndex := 17, descriptorIndex := 337, attributes := #[] }, { accessFlags := 0, nameIndex := 494, descriptorIndex := 142, attributes := #[] }, { accessFlags := 8, nameIndex := 501, descriptorIndex := 391, attributes := #[] }] 49 2 #[1106, 1108, 575, 1110, 1112] #[{ accessFlags := 18, nameIndex := 13, descriptorIndex := 14, attributes := #[] }, { accessFlags := 18, nameIndex := 17, descriptorIndex := 18, attributes := #[] }, { accessFlags := 2, nameIndex := 21, descriptorIndex := 22, attributes := #[] }, { accessFlags := 2, nameIndex := 25, descriptorIndex := 26, attributes := #[] }, { accessFlags := 26, nameIndex := 1116, descriptorIndex := 1117, attributes := #[] }, { accessFlags := 24, nameIndex := 40, descriptorIndex := 26, attributes := #[] }, { accessFlags := 26, nameIndex := 1101, descriptorIndex := 1102, attributes := #[] }, { accessFlags := 26, nameIndex := 1121, descriptorIndex := 1122, attributes := #[] }, { accessFlags := 25, nameIndex := 599, descriptorIndex := 600, attributes := #[] }, { accessFlags := 24, nameIndex := 1125, descriptorIndex := 18, attributes := #[] }, { accessFlags := 24, nameIndex := 1127, descriptorIndex := 18, attributes := #[] }])
  fields := #[{ name := "value", type := (.array .byte), accessFlags := 18, slot := 0, constantValue := 0 }, { name := "coder", type := .byte, accessFlags := 18, slot := 1, constantValue := 0 }, { name := "hash", type := .int, accessFlags := 2, slot := 2, constantValue := 0 }, { name := "hashIsZero", type := .boolean, accessFlags := 2, slot := 3, constantValue := 0 }, { name := "serialVersionUID", type := .long, accessFlags := 26, slot := 0, constantValue := 0 }, { name := "COMPACT_STRINGS", type := .boolean, accessFlags := 24, slot := 1, constantValue := 0 }, { name := "serialPersistentFields", type := (.array (.object "java/io/ObjectStreamField")), accessFlags := 26, slot := 2, constantValue := 0 }, { name := "REPL", type := .char, accessFlags := 26, slot := 3, constantValue := 0 }, { name := "CASE_INSENSITIVE_ORDER", type := (.object "java/util/Comparator"), accessFlags := 25, slot := 4, constantValue := 0 }, { name := "LATIN1", type := .byte, accessFlags := 24, slot := 5, constantValue := 0 }, { name := "UTF16", type := .byte, accessFlags := 24, slot := 6, constantValue := 0 }]
  methods := #[k7m0, k7m1, k7m2, k7m3, k7m4, k7m5, k7m6, k7m7]
  instanceTypes := #[(.array .byte), .byte, .int, .boolean]
  staticTypes := #[.long, .boolean, (.array (.object "java/io/ObjectStreamField")), .char, (.object "java/util/Comparator"), .byte, .byte]
  resolved := Array.replicate 1451 none
  statics := some 0 }

def pool8 : Array CpInfo := pool [(1, .methodref 2 3), (0, .class_ 4), (0, .nameAndType 5 6), (0, u "java/lang/String"), (0, u "length"), (0, u "()I"), (0, .methodref 2 8), (0, .nameAndType 9 10), (0, u "charAt"), (0, u "(I)C"), (5, u "(Ljava/lang/String;)Z"), (0, .class_ 18), (0, u "com/example/elsewhere/elsewhere/Field"), (0, .class_ 20), (0, u "java/lang/Object"), (0, u "ABSENT"), (0, u "I"), (4, u "isTag"), (7, .class_ 36), (0, u "com/example/elsewhere/elsewhere/Field$Subfield"), (0, .class_ 38), (0, u "com/example/elsewhere/elsewhere/Field$Data"), (0, .class_ 40), (0, u "com/example/elsewhere/elsewhere/Field$Control")] 5

def k8c0 : Code := { maxStack := 2, maxLocals := 3, code := prog_8_method_2_code, exceptionTable := #[], attributes := #[] }
def k8m0 : Method := { name := "isTag", desc := "(Ljava/lang/String;)Z", sig := { parameters := [(.object "java/lang/String")], returnType := some .boolean }, accessFlags := 9, code := some k8c0 }
/-- com/example/elsewhere/elsewhere/Field -/
def k8 : Class := { plain "com/example/elsewhere/elsewhere/Field" (some 0) with
  accessFlags := 1536
  interfaces := #[]
  cf := some (fileOf pool8 17 #[.nestMembers #[35, 37, 39]] #[{ accessFlags := 9, nameIndex := 27, descriptorIndex := 16, attributes := #[] }] 1536 19 #[] #[{ accessFlags := 25, nameIndex := 21, descriptorIndex := 22, attributes := #[] }])
  fields := #[{ name := "ABSENT", type := .int, accessFlags := 25, slot := 0, constantValue := 0 }]
  methods := #[k8m0]
  instanceTypes := #[]
  staticTypes := #[.int]
  resolved := Array.replicate 46 none
  statics := none }

def pool9 : Array CpInfo := pool [(3, .class_ 4), (0, u "java/lang/String"), (1, .class_ 8), (1, u "java/lang/Object"), (0, u "<init>"), (0, u "()V"), (0, .methodref 12 13), (0, .class_ 14), (0, .nameAndType 15 16), (0, u "java/lang/StringUTF16"), (0, u "newBytesLength"), (0, u "(I)I"), (3, .integer 1073741823), (23, .fieldref 12 45), (0, .nameAndType 46 47), (0, u "$assertionsDisabled"), (0, u "Z"), (0, .methodref 12 49), (0, .nameAndType 50 51), (0, u "length"), (0, u "([B)I"), (7, .fieldref 12 60), (0, .nameAndType 61 62), (0, u "HI_BYTE_SHIFT"), (0, u "I"), (0, .fieldref 12 64), (0, .nameAndType 65 62), (0, u "LO_BYTE_SHIFT"), (1, .methodref 12 68), (0, .nameAndType 69 70), (0, u "checkIndex"), (0, u "(I[B)V"), (0, .methodref 12 72), (0, .nameAndType 73 74), (0, u "getChar"), (0, u "([BI)C"), (32, .methodref 12 108), (0, .nameAndType 109 110), (0, u "newBytesFor"), (0, u "(I)[B"), (0, .methodref 12 112), (0, .nameAndType 113 114), (0, u "putChar"), (0, u "([BII)V"), (0, .methodref 12 116), (0, .nameAndType 117 118), (0, u "compress"), (0, u "([CI[BII)I"), (0, .methodref 12 120), (0, .nameAndType 121 122), (0, u "toBytes"), (0, u "([CII)[B"), (138, u "coderFromArrayLen"), (0, u "([BI)B"), (106, .class_ 371), (1, u "java/lang/StringUTF16$LinesSpliterator"), (20, u "charAt"), (21, .methodref 3 415), (0, .nameAndType 69 416), (0, u "(II)V"), (13, u "MAX_LENGTH"), (196, .class_ 628), (0, u "java/lang/StringUTF16$CodePointsSpliterator"), (0, .class_ 630), (0, u "java/lang/StringUTF16$CharsSpliterator")] 4

def k9m0 : Method := { name := "<init>", desc := "()V", sig := { parameters := [], returnType := none }, accessFlags := 0, code := none }
def k9c1 : Code := { maxStack := 1, maxLocals := 1, code := jdk_52_method_2_code, exceptionTable := #[], attributes := #[] }
def k9m1 : Method := { name := "newBytesFor", desc := "(I)[B", sig := { parameters := [.int], returnType := some (.array .byte) }, accessFlags := 9, code := some k9c1 }
def k9c2 : Code := { maxStack := 4, maxLocals := 1, code := jdk_52_method_3_code, exceptionTable := #[], attributes := #[] }
def k9m2 : Method := { name := "newBytesLength", desc := "(I)I", sig := { parameters := [.int], returnType := some .int }, accessFlags := 9, code := some k9c2 }
def k9c3 : Code := { maxStack := 4, maxLocals := 3, code := jdk_52_method_4_code, exceptionTable := #[], attributes := #[] }
def k9m3 : Method := { name := "putChar", desc := "([BII)V", sig := { parameters := [(.array .byte), .int, .int], returnType := none }, accessFlags := 8, code := some k9c3 }
def k9c4 : Code := { maxStack := 3, maxLocals := 2, code := jdk_52_method_5_code, exceptionTable := #[], attributes := #[] }
def k9m4 : Method := { name := "getChar", desc := "([BI)C", sig := { parameters := [(.array .byte), .int], returnType := some .char }, accessFlags := 8, code := some k9c4 }
def k9c5 : Code := { maxStack := 2, maxLocals := 1, code := jdk_52_method_6_code, exceptionTable := #[], attributes := #[] }
def k9m5 : Method := { name := "length", desc := "([B)I", sig := { parameters := [(.array .byte)], returnType := some .int }, accessFlags := 9, code := some k9c5 }
def k9c6 : Code := { maxStack := 4, maxLocals := 5, code := jdk_52_method_14_code, exceptionTable := #[], attributes := #[] }
def k9m6 : Method := { name := "toBytes", desc := "([CII)[B", sig := { parameters := [(.array .char), .int, .int], returnType := some (.array .byte) }, accessFlags := 9, code := some k9c6 }
def k9c7 : Code := { maxStack := 2, maxLocals := 2, code := jdk_52_method_15_code, exceptionTable := #[], attributes := #[] }
def k9m7 : Method := { name := "coderFromArrayLen", desc := "([BI)B", sig := { parameters := [(.array .byte), .int], returnType := some .byte }, accessFlags := 8, code := some k9c7 }
def k9c8 : Code := { maxStack := 5, maxLocals := 6, code := jdk_52_method_16_code, exceptionTable := #[], attributes := #[] }
def k9m8 : Method := { name := "compress", desc := "([CII)[B", sig := { parameters := [(.array .char), .int, .int], returnType := some (.array .byte) }, accessFlags := 9, code := some k9c8 }
def k9c9 : Code := { maxStack := 3, maxLocals := 7, code := jdk_52_method_21_code, exceptionTable := #[], attributes := #[] }
def k9m9 : Method := { name := "compress", desc := "([CI[BII)I", sig := { parameters := [(.array .char), .int, (.array .byte), .int, .int], returnType := some .int }, accessFlags := 9, code := some k9c9 }
def k9c10 : Code := { maxStack := 2, maxLocals := 2, code := jdk_52_method_83_code, exceptionTable := #[], attributes := #[] }
def k9m10 : Method := { name := "charAt", desc := "([BI)C", sig := { parameters := [(.array .byte), .int], returnType := some .char }, accessFlags := 9, code := some k9c10 }
def k9c11 : Code := { maxStack := 2, maxLocals := 2, code := jdk_52_method_91_code, exceptionTable := #[], attributes := #[] }
def k9m11 : Method := { name := "checkIndex", desc := "(I[B)V", sig := { parameters := [.int, (.array .byte)], returnType := none }, accessFlags := 9, code := some k9c11 }
/-- java/lang/StringUTF16 -/
def k9 : Class := { plain "java/lang/StringUTF16" (some 0) with
  accessFlags := 48
  interfaces := #[]
  cf := some (fileOf pool9 12 #[.nestMembers #[627, 629, 369]] #[{ accessFlags := 0, nameIndex := 9, descriptorIndex := 10, attributes := #[] }, { accessFlags := 9, nameIndex := 109, descriptorIndex := 110, attributes := #[] }, { accessFlags := 9, nameIndex := 15, descriptorIndex := 16, attributes := #[] }, { accessFlags := 8, nameIndex := 113, descriptorIndex := 114, attributes := #[] }, { accessFlags := 8, nameIndex := 73, descriptorIndex := 74, attributes := #[] }, { accessFlags := 9, nameIndex := 50, descriptorIndex := 51, attributes := #[] }, { accessFlags := 9, nameIndex := 121, descriptorIndex := 122, attributes := #[] }, { accessFlags := 8, nameIndex := 261, descriptorIndex := 262, attributes := #[] }, { accessFlags := 9, nameIndex := 117, descriptorIndex := 122, attributes := #[] }, { accessFlags := 9, nameIndex := 117, descriptorIndex := 118, attributes := #[] }, { accessFlags := 9, nameIndex := 392, descriptorIndex := 74, attributes := #[] }, { accessFlags := 9, nameIndex := 69, descriptorIndex := 70, attributes := #[] }] 48 6 #[] #[{ accessFlags := 26, nameIndex := 61, descriptorIndex := 62, attributes := #[] }, { accessFlags := 26, nameIndex := 65, descriptorIndex := 62, attributes := #[] }, { accessFlags := 24, nameIndex := 430, descriptorIndex := 62, attributes := #[] }, { accessFlags := 4120, nameIndex := 46, descriptorIndex := 47, attributes := #[] }])
  fields := #[{ name := "HI_BYTE_SHIFT", type := .int, accessFlags := 26, slot := 0, constantValue := 0 }, { name := "LO_BYTE_SHIFT", type := .int, accessFlags := 26, slot := 1, constantValue := 0 }, { name := "MAX_LENGTH", type := .int, accessFlags := 24, slot := 2, constantValue := 0 }, { name := "$assertionsDisabled", type := .boolean, accessFlags := 4120, slot := 3, constantValue := 0 }]
  methods := #[k9m0, k9m1, k9m2, k9m3, k9m4, k9m5, k9m6, k9m7, k9m8, k9m9, k9m10, k9m11]
  instanceTypes := #[]
  staticTypes := #[.int, .int, .int, .boolean]
  resolved := Array.replicate 635 none
  statics := some 1 }

def pool10 : Array CpInfo := pool [(1, .class_ 2), (0, u "java/lang/String"), (1, .class_ 6), (1, u "java/lang/Object"), (0, u "<init>"), (0, u "()V"), (0, .methodref 1 10), (0, .nameAndType 11 12), (0, u "checkIndex"), (0, u "(II)V"), (1, .class_ 16), (1, u "java/lang/StringLatin1"), (36, u "([BI)C"), (67, u "$assertionsDisabled"), (0, u "Z"), (98, .class_ 223), (1, u "java/lang/StringLatin1$LinesSpliterator"), (28, u "charAt"), (137, .class_ 391), (0, u "java/lang/StringLatin1$CharsSpliterator")] 3

def k10m0 : Method := { name := "<init>", desc := "()V", sig := { parameters := [], returnType := none }, accessFlags := 0, code := none }
def k10c1 : Code := { maxStack := 2, maxLocals := 2, code := jdk_43_method_2_code, exceptionTable := #[], attributes := #[] }
def k10m1 : Method := { name := "charAt", desc := "([BI)C", sig := { parameters := [(.array .byte), .int], returnType := some .char }, accessFlags := 9, code := some k10c1 }
/-- java/lang/StringLatin1 -/
def k10 : Class := { plain "java/lang/StringLatin1" (some 0) with
  accessFlags := 48
  interfaces := #[]
  cf := some (fileOf pool10 14 #[.nestMembers #[390, 221]] #[{ accessFlags := 0, nameIndex := 7, descriptorIndex := 8, attributes := #[] }, { accessFlags := 9, nameIndex := 252, descriptorIndex := 53, attributes := #[] }] 48 4 #[] #[{ accessFlags := 4120, nameIndex := 121, descriptorIndex := 122, attributes := #[] }])
  fields := #[{ name := "$assertionsDisabled", type := .boolean, accessFlags := 4120, slot := 0, constantValue := 0 }]
  methods := #[k10m0, k10m1]
  instanceTypes := #[]
  staticTypes := #[.boolean]
  resolved := Array.replicate 395 none
  statics := none }

def pool11 : Array CpInfo := pool [(2, .class_ 4), (1, u "java/lang/Object"), (0, u "<init>"), (0, u "()V"), (17, .class_ 26), (1, u "jdk/internal/util/Preconditions"), (6, u "checkIndex"), (21, .class_ 56), (0, u "jdk/internal/util/Preconditions$4"), (57, .class_ 115), (0, u "jdk/internal/util/Preconditions$1"), (7, u "SIOOBE_FORMATTER"), (0, u "Ljava/util/function/BiFunction;"), (0, .class_ 126), (0, u "jdk/internal/util/Preconditions$2"), (3, u "AIOOBE_FORMATTER"), (0, .class_ 132), (0, u "jdk/internal/util/Preconditions$3"), (3, u "IOOBE_FORMATTER"), (41, u "(IILjava/util/function/BiFunction;)I")] 15

def k11m0 : Method := { name := "<init>", desc := "()V", sig := { parameters := [], returnType := none }, accessFlags := 1, code := none }
def k11c1 : Code := { maxStack := 3, maxLocals := 3, code := jdk_41_method_11_code, exceptionTable := #[], attributes := #[] }
def k11m1 : Method := { name := "checkIndex", desc := "(IILjava/util/function/BiFunction;)I", sig := { parameters := [.int, .int, (.object "java/util/function/BiFunction")], returnType := some .int }, accessFlags := 9, code := some k11c1 }
/-- jdk/internal/util/Preconditions -/
def k11 : Class := { plain "jdk/internal/util/Preconditions" (some 0) with
  accessFlags := 33
  interfaces := #[]
  cf := some (fileOf pool11 24 #[.nestMembers #[55, 131, 125, 114]] #[{ accessFlags := 1, nameIndex := 5, descriptorIndex := 6, attributes := #[] }, { accessFlags := 9, nameIndex := 33, descriptorIndex := 178, attributes := #[] }] 33 2 #[] #[{ accessFlags := 25, nameIndex := 123, descriptorIndex := 124, attributes := #[] }, { accessFlags := 25, nameIndex := 130, descriptorIndex := 124, attributes := #[] }, { accessFlags := 25, nameIndex := 136, descriptorIndex := 124, attributes := #[] }])
  fields := #[{ name := "SIOOBE_FORMATTER", type := (.object "java/util/function/BiFunction"), accessFlags := 25, slot := 0, constantValue := 0 }, { name := "AIOOBE_FORMATTER", type := (.object "java/util/function/BiFunction"), accessFlags := 25, slot := 1, constantValue := 0 }, { name := "IOOBE_FORMATTER", type := (.object "java/util/function/BiFunction"), accessFlags := 25, slot := 2, constantValue := 0 }]
  methods := #[k11m0, k11m1]
  instanceTypes := #[]
  staticTypes := #[(.object "java/util/function/BiFunction"), (.object "java/util/function/BiFunction"), (.object "java/util/function/BiFunction")]
  resolved := Array.replicate 194 none
  statics := some 2 }

def pool12 : Array CpInfo := pool [(9, u "<init>"), (6, .class_ 18), (1, u "java/lang/Object"), (0, u "()V"), (1, .class_ 23), (1, u "jdk/internal/util/ArraysSupport"), (0, u "LOG2_ARRAY_LONG_INDEX_SCALE"), (0, u "I"), (2, u "U"), (0, u "Ljdk/internal/misc/Unsafe;"), (8, u "BIG_ENDIAN"), (0, u "Z"), (8, u "LOG2_BYTE_BIT_SIZE"), (4, u "LOG2_ARRAY_INT_INDEX_SCALE"), (54, u "JLA"), (0, u "Ljdk/internal/access/JavaLangAccess;"), (11, u "LOG2_ARRAY_BOOLEAN_INDEX_SCALE"), (9, u "LOG2_ARRAY_BYTE_INDEX_SCALE"), (5, u "LOG2_ARRAY_CHAR_INDEX_SCALE"), (5, u "LOG2_ARRAY_SHORT_INDEX_SCALE"), (18, u "LOG2_ARRAY_FLOAT_INDEX_SCALE"), (24, u "LOG2_ARRAY_DOUBLE_INDEX_SCALE"), (89, u "T_BOOLEAN"), (2, u "T_CHAR"), (1, u "T_FLOAT"), (1, u "T_DOUBLE"), (1, u "T_BYTE"), (1, u "T_SHORT"), (1, u "T_INT"), (1, u "T_LONG"), (1, u "SOFT_MAX_ARRAY_LENGTH")] 83

def k12m0 : Method := { name := "<init>", desc := "()V", sig := { parameters := [], returnType := none }, accessFlags := 2, code := none }
/-- jdk/internal/util/ArraysSupport -/
def k12 : Class := { plain "jdk/internal/util/ArraysSupport" (some 0) with
  accessFlags := 33
  interfaces := #[]
  cf := some (fileOf pool12 21 #[] #[{ accessFlags := 2, nameIndex := 9, descriptorIndex := 19, attributes := #[] }] 33 16 #[] #[{ accessFlags := 24, nameIndex := 28, descriptorIndex := 29, attributes := #[] }, { accessFlags := 26, nameIndex := 38, descriptorIndex := 39, attributes := #[] }, { accessFlags := 25, nameIndex := 121, descriptorIndex := 25, attributes := #[] }, { accessFlags := 25, nameIndex := 131, descriptorIndex := 25, attributes := #[] }, { accessFlags := 25, nameIndex := 137, descriptorIndex := 25, attributes := #[] }, { accessFlags := 25, nameIndex := 143, descriptorIndex := 25, attributes := #[] }, { accessFlags := 25, nameIndex := 53, descriptorIndex := 25, attributes := #[] }, { accessFlags := 25, nameIndex := 24, descriptorIndex := 25, attributes := #[] }, { accessFlags := 25, nameIndex := 162, descriptorIndex := 25, attributes := #[] }, { accessFlags := 25, nameIndex := 187, descriptorIndex := 25, attributes := #[] }, { accessFlags := 26, nameIndex := 48, descriptorIndex := 25, attributes := #[] }, { accessFlags := 25, nameIndex := 277, descriptorIndex := 25, attributes := #[] }, { accessFlags := 25, nameIndex := 280, descriptorIndex := 25, attributes := #[] }, { accessFlags := 25, nameIndex := 282, descriptorIndex := 25, attributes := #[] }, { accessFlags := 25, nameIndex := 284, descriptorIndex := 25, attributes := #[] }, { accessFlags := 25, nameIndex := 286, descriptorIndex := 25, attributes := #[] }, { accessFlags := 25, nameIndex := 288, descriptorIndex := 25, attributes := #[] }, { accessFlags := 25, nameIndex := 290, descriptorIndex := 25, attributes := #[] }, { accessFlags := 25, nameIndex := 292, descriptorIndex := 25, attributes := #[] }, { accessFlags := 26, nameIndex := 108, descriptorIndex := 109, attributes := #[] }, { accessFlags := 25, nameIndex := 294, descriptorIndex := 25, attributes := #[] }])
  fields := #[{ name := "U", type := (.object "jdk/internal/misc/Unsafe"), accessFlags := 24, slot := 0, constantValue := 0 }, { name := "BIG_ENDIAN", type := .boolean, accessFlags := 26, slot := 1, constantValue := 0 }, { name := "LOG2_ARRAY_BOOLEAN_INDEX_SCALE", type := .int, accessFlags := 25, slot := 2, constantValue := 0 }, { name := "LOG2_ARRAY_BYTE_INDEX_SCALE", type := .int, accessFlags := 25, slot := 3, constantValue := 0 }, { name := "LOG2_ARRAY_CHAR_INDEX_SCALE", type := .int, accessFlags := 25, slot := 4, constantValue := 0 }, { name := "LOG2_ARRAY_SHORT_INDEX_SCALE", type := .int, accessFlags := 25, slot := 5, constantValue := 0 }, { name := "LOG2_ARRAY_INT_INDEX_SCALE", type := .int, accessFlags := 25, slot := 6, constantValue := 0 }, { name := "LOG2_ARRAY_LONG_INDEX_SCALE", type := .int, accessFlags := 25, slot := 7, constantValue := 0 }, { name := "LOG2_ARRAY_FLOAT_INDEX_SCALE", type := .int, accessFlags := 25, slot := 8, constantValue := 0 }, { name := "LOG2_ARRAY_DOUBLE_INDEX_SCALE", type := .int, accessFlags := 25, slot := 9, constantValue := 0 }, { name := "LOG2_BYTE_BIT_SIZE", type := .int, accessFlags := 26, slot := 10, constantValue := 0 }, { name := "T_BOOLEAN", type := .int, accessFlags := 25, slot := 11, constantValue := 0 }, { name := "T_CHAR", type := .int, accessFlags := 25, slot := 12, constantValue := 0 }, { name := "T_FLOAT", type := .int, accessFlags := 25, slot := 13, constantValue := 0 }, { name := "T_DOUBLE", type := .int, accessFlags := 25, slot := 14, constantValue := 0 }, { name := "T_BYTE", type := .int, accessFlags := 25, slot := 15, constantValue := 0 }, { name := "T_SHORT", type := .int, accessFlags := 25, slot := 16, constantValue := 0 }, { name := "T_INT", type := .int, accessFlags := 25, slot := 17, constantValue := 0 }, { name := "T_LONG", type := .int, accessFlags := 25, slot := 18, constantValue := 0 }, { name := "JLA", type := (.object "jdk/internal/access/JavaLangAccess"), accessFlags := 26, slot := 19, constantValue := 0 }, { name := "SOFT_MAX_ARRAY_LENGTH", type := .int, accessFlags := 25, slot := 20, constantValue := 0 }]
  methods := #[k12m0]
  instanceTypes := #[]
  staticTypes := #[(.object "jdk/internal/misc/Unsafe"), .boolean, .int, .int, .int, .int, .int, .int, .int, .int, .int, .int, .int, .int, .int, .int, .int, .int, .int, (.object "jdk/internal/access/JavaLangAccess"), .int]
  resolved := Array.replicate 378 none
  statics := none }

def pool13 : Array CpInfo := pool [(1, u "java/lang/Cloneable"), (0, .class_ 1), (0, u "java/lang/Object"), (0, .class_ 3)] 3

/-- java/lang/Cloneable -/
def k13 : Class := { plain "java/lang/Cloneable" (some 0) with
  accessFlags := 1537
  interfaces := #[]
  cf := some (fileOf pool13 2 #[] #[] 1537 4 #[] #[])
  fields := #[]
  methods := #[]
  instanceTypes := #[]
  staticTypes := #[]
  resolved := Array.replicate 8 none
  statics := none }

/-- the primitive byte -/
def k14 : Class := { plain "byte" none with kind := .primitive 'B', accessFlags := 0x411 }
/-- [B -/
def k15 : Class := { plain "[B" (some 0) with kind := .array 14 .byte, interfaces := #[13, 2], accessFlags := 1041 }

/-- the primitive char -/
def k16 : Class := { plain "char" none with kind := .primitive 'C', accessFlags := 0x411 }
/-- [C -/
def k17 : Class := { plain "[C" (some 0) with kind := .array 16 .char, interfaces := #[13, 2], accessFlags := 1041 }

/-- the primitive int -/
def k18 : Class := { plain "int" none with kind := .primitive 'I', accessFlags := 0x411 }
/-- [I -/
def k19 : Class := { plain "[I" (some 0) with kind := .array 18 .int, interfaces := #[13, 2], accessFlags := 1041 }

def heap : Heap := #[{ cls := 7, slots := #[.long 0, .int 1, .null, .int 0, .null, .int 0, .int 0], vm := .statics 7 },
  { cls := 9, slots := #[.int 0, .int 8, .int 0, .int 1], vm := .statics 9 },
  { cls := 11, slots := #[.null, .null, .null], vm := .statics 11 }]
def classes : Array Class := #[k0, k1, k2, k3, k4, k5, k6, k7, k8, k9, k10, k11, k12, k13, k14, k15, k16, k17, k18, k19]
def interned : List (Array UInt16 × Addr) := []
def slotsUsed : Nat := 14
def theMethod : MethodId := ⟨1, 1⟩
def args0 : Array Value := #[.int 5, .int 5, .int 5, .int 5, .int 5]
def aboutOver (below : List Frame) : State where
  vm := { classes := classes, interned := interned.toArray }
  heap := heap
  slotsUsed := slotsUsed
  threads := #[{ frames := .invoking theMethod args0 :: below }]
def below0 : List Frame := [.native { method := ⟨0, 0⟩, args := #[] }]
def about1 : State := aboutOver below0
def p0 : Program := .bare "" "" ""
def e0 : Env := launch0.env 0 0 0
theorem w_frames : about1.frames = Frame.invoking theMethod args0 :: below0 := rfl
set_option maxRecDepth 65536 in
theorem w_args : argsFit about1.vm theMethod args0 = true := by decide +kernel
set_option maxRecDepth 65536 in
theorem w_heap : heapFits about1 = true := by decide +kernel
set_option maxRecDepth 65536 in
theorem w_runnable : about1.curStatus? = some .runnable := by decide +kernel
set_option maxRecDepth 65536 in
theorem w_alone : about1.alone = true := by decide +kernel
set_option maxRecDepth 65536 in
theorem w_named : about1.methodNamed? x = some theMethod := by decide +kernel
set_option maxRecDepth 65536 in
theorem w_hears : about1.hears theMethod below0 = true := by decide +kernel
set_option maxRecDepth 65536 in
theorem w_ripe : about1.ripe theMethod args0 below0 = true := by decide +kernel
theorem w_running : about1.status = .running := rfl
set_option maxRecDepth 65536 in
theorem w_room : about1.hasRoom e0.platform room_1 = true :=
  launch0.hasRoom_least _ room_1 (by decide +kernel) (by decide +kernel) (by decide +kernel) (by decide +kernel) (by decide +kernel) (by decide +kernel)
theorem allAtoms_all (ts : List Jvm.Cond) (a : Array Jvm.Value) (st : Jvm.State) : (allAtoms ts).before a st = ts.all (fun c => c.before a st) := by
  induction ts with
  | nil => rfl
  | cons c t ih =>
    show (Jvm.Cond.and c (allAtoms t)).before a st = _
    rw [Jvm.Cond.before_and, ih, List.all_cons]
def words1 : List Jvm.Cond := Jvm.Cond.code x code maxLocals ret :: tables_1
/-- a 'code' word, met by the world's own term for the bytes: nothing is compared byte by byte -/
theorem code_word {y : MethodName} {bytes : ByteArray} {mx : Nat} {rt : Option FieldType} {a : Array Value} {s : State} {m : MethodId} {meth : Method} {c : Code} (h1 : s.methodNamed? y = some m) (h2 : s.vm.method? m = some meth) (h3 : meth.code = some c) (h4 : c.code = bytes)
    (h5 : (c.maxLocals == mx && c.exceptionTable.isEmpty && decide (c.maxStack ≤ mostOperands) && decide (meth.sig.returnType = rt) && !meth.locks && decide (parseMethodDescriptor y.desc = some meth.sig)) = true) : (Jvm.Cond.code y bytes mx rt).before a s = true := by
  simp only [Bool.and_eq_true, beq_iff_eq, Bool.not_eq_true', decide_eq_true_eq] at h5
  obtain ⟨⟨⟨⟨⟨g1, g2⟩, g3⟩, g4⟩, g5⟩, g6⟩ := h5
  simp [Cond.before, Cond.holds, Cond.value, h1, h2, h3, h4, g1, g2, g3, g4, g5, g6]
def isCode : Jvm.Cond → Bool
  | .code _ _ _ _ => true
  | _ => false
theorem all_split {L : List Jvm.Cond} {P : Jvm.Cond → Bool} (h1 : L.all (fun c => isCode c || P c) = true) (h2 : ∀ c ∈ L.filter isCode, P c = true) : L.all P = true := by
  refine List.all_eq_true.mpr fun c hc => ?_
  have h := List.all_eq_true.mp h1 c hc
  rcases Bool.eq_false_or_eq_true (isCode c) with hi | hi
  · exact h2 c (List.mem_filter.mpr ⟨hc, hi⟩)
  · simpa [hi] using h
set_option maxRecDepth 65536 in
theorem w_c0 : (Jvm.Cond.code x code maxLocals ret).before args0 about1 = true := code_word (m := ⟨1, 1⟩) (meth := k1m1) (c := k1c1) (by decide +kernel) rfl rfl rfl (by decide +kernel)
set_option maxRecDepth 65536 in
theorem w_c1 : (Jvm.Cond.code ({ cls := "java/lang/String", name := "<init>", desc := "([C)V" } : Jvm.MethodName) jdk_42_method_3_code (2 : Nat) (Option.none : Option Jvm.ClassFile.FieldType)).before args0 about1 = true := code_word (m := ⟨7, 1⟩) (meth := k7m1) (c := k7c1) (by decide +kernel) rfl rfl rfl (by decide +kernel)
set_option maxRecDepth 65536 in
theorem w_c2 : (Jvm.Cond.code ({ cls := "java/lang/String", name := "<init>", desc := "([CIILjava/lang/Void;)V" } : Jvm.MethodName) jdk_42_method_149_code (6 : Nat) (Option.none : Option Jvm.ClassFile.FieldType)).before args0 about1 = true := code_word (m := ⟨7, 4⟩) (meth := k7m4) (c := k7c4) (by decide +kernel) rfl rfl rfl (by decide +kernel)
set_option maxRecDepth 65536 in
theorem w_c3 : (Jvm.Cond.code ({ cls := "java/lang/Object", name := "<init>", desc := "()V" } : Jvm.MethodName) object_method_1_code (1 : Nat) (Option.none : Option Jvm.ClassFile.FieldType)).before args0 about1 = true := code_word (m := ⟨0, 0⟩) (meth := k0m0) (c := k0c0) (by decide +kernel) rfl rfl rfl (by decide +kernel)
set_option maxRecDepth 65536 in
theorem w_c4 : (Jvm.Cond.code ({ cls := "com/example/elsewhere/elsewhere/Field", name := "isTag", desc := "(Ljava/lang/String;)Z" } : Jvm.MethodName) prog_8_method_2_code (3 : Nat) (Option.some Jvm.ClassFile.FieldType.boolean)).before args0 about1 = true := code_word (m := ⟨8, 0⟩) (meth := k8m0) (c := k8c0) (by decide +kernel) rfl rfl rfl (by decide +kernel)
set_option maxRecDepth 65536 in
theorem w_c5 : (Jvm.Cond.code ({ cls := "java/lang/String", name := "length", desc := "()I" } : Jvm.MethodName) jdk_42_method_54_code (1 : Nat) (Option.some Jvm.ClassFile.FieldType.int)).before args0 about1 = true := code_word (m := ⟨7, 2⟩) (meth := k7m2) (c := k7c2) (by decide +kernel) rfl rfl rfl (by decide +kernel)
set_option maxRecDepth 65536 in
theorem w_c6 : (Jvm.Cond.code ({ cls := "java/lang/String", name := "coder", desc := "()B" } : Jvm.MethodName) jdk_42_method_152_code (1 : Nat) (Option.some Jvm.ClassFile.FieldType.byte)).before args0 about1 = true := code_word (m := ⟨7, 5⟩) (meth := k7m5) (c := k7c5) (by decide +kernel) rfl rfl rfl (by decide +kernel)
set_option maxRecDepth 65536 in
theorem w_c7 : (Jvm.Cond.code ({ cls := "com/example/elsewhere/elsewhere/FieldIsTagPinLaw", name := "draw", desc := "(I)C" } : Jvm.MethodName) method_3_code (2 : Nat) (Option.some Jvm.ClassFile.FieldType.char)).before args0 about1 = true := code_word (m := ⟨1, 2⟩) (meth := k1m2) (c := k1c2) (by decide +kernel) rfl rfl rfl (by decide +kernel)
set_option maxRecDepth 65536 in
theorem w_c8 : (Jvm.Cond.code ({ cls := "java/lang/StringUTF16", name := "compress", desc := "([CII)[B" } : Jvm.MethodName) jdk_52_method_16_code (6 : Nat) (Option.some (Jvm.ClassFile.FieldType.array Jvm.ClassFile.FieldType.byte))).before args0 about1 = true := code_word (m := ⟨9, 8⟩) (meth := k9m8) (c := k9c8) (by decide +kernel) rfl rfl rfl (by decide +kernel)
set_option maxRecDepth 65536 in
theorem w_c9 : (Jvm.Cond.code ({ cls := "java/lang/StringUTF16", name := "compress", desc := "([CI[BII)I" } : Jvm.MethodName) jdk_52_method_21_code (7 : Nat) (Option.some Jvm.ClassFile.FieldType.int)).before args0 about1 = true := code_word (m := ⟨9, 9⟩) (meth := k9m9) (c := k9c9) (by decide +kernel) rfl rfl rfl (by decide +kernel)
set_option maxRecDepth 65536 in
theorem w_c10 : (Jvm.Cond.code ({ cls := "java/lang/StringUTF16", name := "coderFromArrayLen", desc := "([BI)B" } : Jvm.MethodName) jdk_52_method_15_code (2 : Nat) (Option.some Jvm.ClassFile.FieldType.byte)).before args0 about1 = true := code_word (m := ⟨9, 7⟩) (meth := k9m7) (c := k9c7) (by decide +kernel) rfl rfl rfl (by decide +kernel)
set_option maxRecDepth 65536 in
theorem w_c11 : (Jvm.Cond.code ({ cls := "com/example/elsewhere/elsewhere/FieldIsTagPinLaw", name := "ok", desc := "(C)Z" } : Jvm.MethodName) method_4_code (4 : Nat) (Option.some Jvm.ClassFile.FieldType.boolean)).before args0 about1 = true := code_word (m := ⟨1, 3⟩) (meth := k1m3) (c := k1c3) (by decide +kernel) rfl rfl rfl (by decide +kernel)
set_option maxRecDepth 65536 in
theorem w_c12 : (Jvm.Cond.code ({ cls := "java/lang/String", name := "charAt", desc := "(I)C" } : Jvm.MethodName) jdk_42_method_56_code (2 : Nat) (Option.some Jvm.ClassFile.FieldType.char)).before args0 about1 = true := code_word (m := ⟨7, 3⟩) (meth := k7m3) (c := k7c3) (by decide +kernel) rfl rfl rfl (by decide +kernel)
set_option maxRecDepth 65536 in
theorem w_c13 : (Jvm.Cond.code ({ cls := "java/lang/String", name := "isLatin1", desc := "()Z" } : Jvm.MethodName) jdk_42_method_154_code (1 : Nat) (Option.some Jvm.ClassFile.FieldType.boolean)).before args0 about1 = true := code_word (m := ⟨7, 6⟩) (meth := k7m6) (c := k7c6) (by decide +kernel) rfl rfl rfl (by decide +kernel)
set_option maxRecDepth 65536 in
theorem w_c14 : (Jvm.Cond.code ({ cls := "java/lang/StringLatin1", name := "charAt", desc := "([BI)C" } : Jvm.MethodName) jdk_43_method_2_code (2 : Nat) (Option.some Jvm.ClassFile.FieldType.char)).before args0 about1 = true := code_word (m := ⟨10, 1⟩) (meth := k10m1) (c := k10c1) (by decide +kernel) rfl rfl rfl (by decide +kernel)
set_option maxRecDepth 65536 in
theorem w_c15 : (Jvm.Cond.code ({ cls := "java/lang/String", name := "checkIndex", desc := "(II)V" } : Jvm.MethodName) jdk_42_method_155_code (2 : Nat) (Option.none : Option Jvm.ClassFile.FieldType)).before args0 about1 = true := code_word (m := ⟨7, 7⟩) (meth := k7m7) (c := k7c7) (by decide +kernel) rfl rfl rfl (by decide +kernel)
set_option maxRecDepth 65536 in
theorem w_c16 : (Jvm.Cond.code ({ cls := "jdk/internal/util/Preconditions", name := "checkIndex", desc := "(IILjava/util/function/BiFunction;)I" } : Jvm.MethodName) jdk_41_method_11_code (3 : Nat) (Option.some Jvm.ClassFile.FieldType.int)).before args0 about1 = true := code_word (m := ⟨11, 1⟩) (meth := k11m1) (c := k11c1) (by decide +kernel) rfl rfl rfl (by decide +kernel)
set_option maxRecDepth 65536 in
theorem w_c17 : (Jvm.Cond.code ({ cls := "java/lang/StringUTF16", name := "toBytes", desc := "([CII)[B" } : Jvm.MethodName) jdk_52_method_14_code (5 : Nat) (Option.some (Jvm.ClassFile.FieldType.array Jvm.ClassFile.FieldType.byte))).before args0 about1 = true := code_word (m := ⟨9, 6⟩) (meth := k9m6) (c := k9c6) (by decide +kernel) rfl rfl rfl (by decide +kernel)
set_option maxRecDepth 65536 in
theorem w_c18 : (Jvm.Cond.code ({ cls := "java/lang/StringUTF16", name := "newBytesFor", desc := "(I)[B" } : Jvm.MethodName) jdk_52_method_2_code (1 : Nat) (Option.some (Jvm.ClassFile.FieldType.array Jvm.ClassFile.FieldType.byte))).before args0 about1 = true := code_word (m := ⟨9, 1⟩) (meth := k9m1) (c := k9c1) (by decide +kernel) rfl rfl rfl (by decide +kernel)
set_option maxRecDepth 65536 in
theorem w_c19 : (Jvm.Cond.code ({ cls := "java/lang/StringUTF16", name := "newBytesLength", desc := "(I)I" } : Jvm.MethodName) jdk_52_method_3_code (1 : Nat) (Option.some Jvm.ClassFile.FieldType.int)).before args0 about1 = true := code_word (m := ⟨9, 2⟩) (meth := k9m2) (c := k9c2) (by decide +kernel) rfl rfl rfl (by decide +kernel)
set_option maxRecDepth 65536 in
theorem w_c20 : (Jvm.Cond.code ({ cls := "java/lang/StringUTF16", name := "putChar", desc := "([BII)V" } : Jvm.MethodName) jdk_52_method_4_code (3 : Nat) (Option.none : Option Jvm.ClassFile.FieldType)).before args0 about1 = true := code_word (m := ⟨9, 3⟩) (meth := k9m3) (c := k9c3) (by decide +kernel) rfl rfl rfl (by decide +kernel)
set_option maxRecDepth 65536 in
theorem w_c21 : (Jvm.Cond.code ({ cls := "java/lang/StringUTF16", name := "getChar", desc := "([BI)C" } : Jvm.MethodName) jdk_52_method_5_code (2 : Nat) (Option.some Jvm.ClassFile.FieldType.char)).before args0 about1 = true := code_word (m := ⟨9, 4⟩) (meth := k9m4) (c := k9c4) (by decide +kernel) rfl rfl rfl (by decide +kernel)
set_option maxRecDepth 65536 in
theorem w_c22 : (Jvm.Cond.code ({ cls := "java/lang/StringUTF16", name := "charAt", desc := "([BI)C" } : Jvm.MethodName) jdk_52_method_83_code (2 : Nat) (Option.some Jvm.ClassFile.FieldType.char)).before args0 about1 = true := code_word (m := ⟨9, 10⟩) (meth := k9m10) (c := k9c10) (by decide +kernel) rfl rfl rfl (by decide +kernel)
set_option maxRecDepth 65536 in
theorem w_c23 : (Jvm.Cond.code ({ cls := "java/lang/StringUTF16", name := "checkIndex", desc := "(I[B)V" } : Jvm.MethodName) jdk_52_method_91_code (2 : Nat) (Option.none : Option Jvm.ClassFile.FieldType)).before args0 about1 = true := code_word (m := ⟨9, 11⟩) (meth := k9m11) (c := k9c11) (by decide +kernel) rfl rfl rfl (by decide +kernel)
set_option maxRecDepth 65536 in
theorem w_c24 : (Jvm.Cond.code ({ cls := "java/lang/StringUTF16", name := "length", desc := "([B)I" } : Jvm.MethodName) jdk_52_method_6_code (1 : Nat) (Option.some Jvm.ClassFile.FieldType.int)).before args0 about1 = true := code_word (m := ⟨9, 5⟩) (meth := k9m5) (c := k9c5) (by decide +kernel) rfl rfl rfl (by decide +kernel)
def codes1 : List Jvm.Cond := [Jvm.Cond.code x code maxLocals ret, Jvm.Cond.code ({ cls := "java/lang/String", name := "<init>", desc := "([C)V" } : Jvm.MethodName) jdk_42_method_3_code (2 : Nat) (Option.none : Option Jvm.ClassFile.FieldType), Jvm.Cond.code ({ cls := "java/lang/String", name := "<init>", desc := "([CIILjava/lang/Void;)V" } : Jvm.MethodName) jdk_42_method_149_code (6 : Nat) (Option.none : Option Jvm.ClassFile.FieldType), Jvm.Cond.code ({ cls := "java/lang/Object", name := "<init>", desc := "()V" } : Jvm.MethodName) object_method_1_code (1 : Nat) (Option.none : Option Jvm.ClassFile.FieldType), Jvm.Cond.code ({ cls := "com/example/elsewhere/elsewhere/Field", name := "isTag", desc := "(Ljava/lang/String;)Z" } : Jvm.MethodName) prog_8_method_2_code (3 : Nat) (Option.some Jvm.ClassFile.FieldType.boolean), Jvm.Cond.code ({ cls := "java/lang/String", name := "length", desc := "()I" } : Jvm.MethodName) jdk_42_method_54_code (1 : Nat) (Option.some Jvm.ClassFile.FieldType.int), Jvm.Cond.code ({ cls := "java/lang/String", name := "coder", desc := "()B" } : Jvm.MethodName) jdk_42_method_152_code (1 : Nat) (Option.some Jvm.ClassFile.FieldType.byte), Jvm.Cond.code ({ cls := "com/example/elsewhere/elsewhere/FieldIsTagPinLaw", name := "draw", desc := "(I)C" } : Jvm.MethodName) method_3_code (2 : Nat) (Option.some Jvm.ClassFile.FieldType.char), Jvm.Cond.code ({ cls := "java/lang/StringUTF16", name := "compress", desc := "([CII)[B" } : Jvm.MethodName) jdk_52_method_16_code (6 : Nat) (Option.some (Jvm.ClassFile.FieldType.array Jvm.ClassFile.FieldType.byte)), Jvm.Cond.code ({ cls := "java/lang/StringUTF16", name := "compress", desc := "([CI[BII)I" } : Jvm.MethodName) jdk_52_method_21_code (7 : Nat) (Option.some Jvm.ClassFile.FieldType.int), Jvm.Cond.code ({ cls := "java/lang/StringUTF16", name := "coderFromArrayLen", desc := "([BI)B" } : Jvm.MethodName) jdk_52_method_15_code (2 : Nat) (Option.some Jvm.ClassFile.FieldType.byte), Jvm.Cond.code ({ cls := "com/example/elsewhere/elsewhere/FieldIsTagPinLaw", name := "ok", desc := "(C)Z" } : Jvm.MethodName) method_4_code (4 : Nat) (Option.some Jvm.ClassFile.FieldType.boolean), Jvm.Cond.code ({ cls := "java/lang/String", name := "charAt", desc := "(I)C" } : Jvm.MethodName) jdk_42_method_56_code (2 : Nat) (Option.some Jvm.ClassFile.FieldType.char), Jvm.Cond.code ({ cls := "java/lang/String", name := "isLatin1", desc := "()Z" } : Jvm.MethodName) jdk_42_method_154_code (1 : Nat) (Option.some Jvm.ClassFile.FieldType.boolean), Jvm.Cond.code ({ cls := "java/lang/StringLatin1", name := "charAt", desc := "([BI)C" } : Jvm.MethodName) jdk_43_method_2_code (2 : Nat) (Option.some Jvm.ClassFile.FieldType.char), Jvm.Cond.code ({ cls := "java/lang/String", name := "checkIndex", desc := "(II)V" } : Jvm.MethodName) jdk_42_method_155_code (2 : Nat) (Option.none : Option Jvm.ClassFile.FieldType), Jvm.Cond.code ({ cls := "jdk/internal/util/Preconditions", name := "checkIndex", desc := "(IILjava/util/function/BiFunction;)I" } : Jvm.MethodName) jdk_41_method_11_code (3 : Nat) (Option.some Jvm.ClassFile.FieldType.int), Jvm.Cond.code ({ cls := "java/lang/StringUTF16", name := "toBytes", desc := "([CII)[B" } : Jvm.MethodName) jdk_52_method_14_code (5 : Nat) (Option.some (Jvm.ClassFile.FieldType.array Jvm.ClassFile.FieldType.byte)), Jvm.Cond.code ({ cls := "java/lang/StringUTF16", name := "newBytesFor", desc := "(I)[B" } : Jvm.MethodName) jdk_52_method_2_code (1 : Nat) (Option.some (Jvm.ClassFile.FieldType.array Jvm.ClassFile.FieldType.byte)), Jvm.Cond.code ({ cls := "java/lang/StringUTF16", name := "newBytesLength", desc := "(I)I" } : Jvm.MethodName) jdk_52_method_3_code (1 : Nat) (Option.some Jvm.ClassFile.FieldType.int), Jvm.Cond.code ({ cls := "java/lang/StringUTF16", name := "putChar", desc := "([BII)V" } : Jvm.MethodName) jdk_52_method_4_code (3 : Nat) (Option.none : Option Jvm.ClassFile.FieldType), Jvm.Cond.code ({ cls := "java/lang/StringUTF16", name := "getChar", desc := "([BI)C" } : Jvm.MethodName) jdk_52_method_5_code (2 : Nat) (Option.some Jvm.ClassFile.FieldType.char), Jvm.Cond.code ({ cls := "java/lang/StringUTF16", name := "charAt", desc := "([BI)C" } : Jvm.MethodName) jdk_52_method_83_code (2 : Nat) (Option.some Jvm.ClassFile.FieldType.char), Jvm.Cond.code ({ cls := "java/lang/StringUTF16", name := "checkIndex", desc := "(I[B)V" } : Jvm.MethodName) jdk_52_method_91_code (2 : Nat) (Option.none : Option Jvm.ClassFile.FieldType), Jvm.Cond.code ({ cls := "java/lang/StringUTF16", name := "length", desc := "([B)I" } : Jvm.MethodName) jdk_52_method_6_code (1 : Nat) (Option.some Jvm.ClassFile.FieldType.int)]
set_option maxRecDepth 65536 in
theorem codes_eq : words1.filter isCode = codes1 := rfl
theorem w_codes : ∀ c ∈ words1.filter isCode, c.before args0 about1 = true := by
  rw [codes_eq]
  intro c hc
  simp only [codes1, List.mem_cons, List.not_mem_nil, or_false] at hc
  rcases hc with rfl | rfl | rfl | rfl | rfl | rfl | rfl | rfl | rfl | rfl | rfl | rfl | rfl | rfl | rfl | rfl | rfl | rfl | rfl | rfl | rfl | rfl | rfl | rfl | rfl
  · exact w_c0
  · exact w_c1
  · exact w_c2
  · exact w_c3
  · exact w_c4
  · exact w_c5
  · exact w_c6
  · exact w_c7
  · exact w_c8
  · exact w_c9
  · exact w_c10
  · exact w_c11
  · exact w_c12
  · exact w_c13
  · exact w_c14
  · exact w_c15
  · exact w_c16
  · exact w_c17
  · exact w_c18
  · exact w_c19
  · exact w_c20
  · exact w_c21
  · exact w_c22
  · exact w_c23
  · exact w_c24
set_option maxRecDepth 65536 in
theorem w_t1 : (words1.take 24).all (fun c => isCode c || c.before args0 about1) = true := by decide +kernel
set_option maxRecDepth 65536 in
theorem w_t2 : ((words1.drop 24).take 24).all (fun c => isCode c || c.before args0 about1) = true := by decide +kernel
set_option maxRecDepth 65536 in
theorem w_t3 : (((words1.drop 24).drop 24).take 24).all (fun c => isCode c || c.before args0 about1) = true := by decide +kernel
set_option maxRecDepth 65536 in
theorem w_t4 : ((((words1.drop 24).drop 24).drop 24).take 24).all (fun c => isCode c || c.before args0 about1) = true := by decide +kernel
set_option maxRecDepth 65536 in
theorem w_t5 : ((((words1.drop 24).drop 24).drop 24).drop 24).all (fun c => isCode c || c.before args0 about1) = true := by decide +kernel
theorem w_tables : (allAtoms (Jvm.Cond.code x code maxLocals ret :: tables_1)).before args0 about1 = true := by
  rw [allAtoms_all]
  show words1.all (fun c => c.before args0 about1) = true
  refine all_split ?_ w_codes
  rw [← List.take_append_drop 24 words1, List.all_append, w_t1, ← List.take_append_drop 24 (words1.drop 24), List.all_append, w_t2, ← List.take_append_drop 24 ((words1.drop 24).drop 24), List.all_append, w_t3, ← List.take_append_drop 24 (((words1.drop 24).drop 24).drop 24), List.all_append, w_t4, w_t5]
  rfl
set_option maxRecDepth 65536 in
theorem w_rest : rest_1_c.before args0 about1 = true := by decide +kernel
set_option maxRecDepth 65536 in
theorem w_case : (Jvm.Cond.and given_1 narrow_1).before args0 about1 = true := by decide +kernel
set_option maxRecDepth 65536 in
theorem w_consts : constsHeld consts_1 about1 := Jvm.Lit.constsHeldB_iff.mp (by decide +kernel)
theorem w_applies : (headSpec (Jvm.Cond.code x code maxLocals ret :: tables_1) room_1).applies x e0.platform about1 = true :=
  (Spec.applies_iff w_frames).mpr ⟨w_running, w_runnable, w_alone, w_named, w_hears, w_ripe, w_room, w_tables⟩
theorem atStart : AtStart classFile x code maxLocals ret World_1 tables_1 room_1 Calls_1 rest_1 Pre_1 launch0 p0 e0 about1 theMethod args0 below0 :=
  ⟨lists_1, trivial, launch0.admits_env _ _ _, launch0.least_env, fairChoices_fair.cas, fairChoices_fair.clock, w_frames, w_args, w_heap, w_applies, ⟨w_consts, trivial⟩, w_rest, w_case⟩
end start1
theorem witness_1 : WitnessClaimed_1 := ⟨start1.p0, start1.e0, start1.about1, start1.theMethod, start1.args0, start1.below0, start1.atStart⟩
end Jvm.Pilot.@@N@@
