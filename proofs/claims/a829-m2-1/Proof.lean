import JvmDerived
import JvmDerived.Pilot.@@N@@Statement
import JvmDerived.Pilot.@@N@@Code
set_option linter.unusedVariables false
set_option linter.unusedSimpArgs false
namespace Jvm.Ow
open Sem ClassFile Op Lib Bundle Jvm.Stand Jvm.Free Jvm.LawKit Jvm.RoadKit
abbrev Po : Type := Option Value → Heap → List Addr → Prop
section Defs
variable (p : Program) (l : Launch) (e : Env) (R : Room) (s : State) (m : MethodId) (args : Array Value) (below : List Frame) (meth : Method) (c : Code) (Z : State) (EL : List (String × Nat)) (n0 : Nat) (own : String)
def SafeL (vm : Vm) (h : Heap) (S : List Addr) : Prop := ∀ x ∈ S, x < h.size ∧ Safe Z EL vm h x
def Don (Q : Po) (U : State) (o : Outcome) (U' : State) (rm : Room) : Prop :=
  ∃ v L S', o = .returned v ∧ (Q v U'.heap S' ∧ Fr n0 L ∧ Old Z n0 U'.heap ∧ SafeL Z EL U'.vm U'.heap S') ∧ CHr Z EL U.vm U.heap U'.vm U'.heap ∧ ReturnedEndW U o U' L rm.cells rm.slots
def Con (y : MethodName) (bytes : ByteArray) (maxL : Nat) (ret : Option FieldType) (ws : List Jvm.Cond) (rm : Room) (as' : Array Value) (S : List Addr) (h : Heap) (Q : Po) : Prop :=
  MetFree l y (head1 (Jvm.Cond.code y bytes maxL ret :: ws) rm) (fun a U => a = as' ∧ Z.Warmed39 U.vm ∧ U.heap = h ∧ CHv Z EL U.vm h ∧ SafeL Z EL U.vm h S) (fun _ _ _ _ _ => True) (fun _ U o U' => Don Z EL n0 Q U o U' rm)
def Sit (S : List Addr) (h : Heap) (k n : Nat) (T : State) : Prop :=
  ∃ locs vm0 k0 k' n', k' ≤ k ∧ n' ≤ n ∧ Stand p l e R (s.setVm vm0) m args below meth c T locs k' n' ∧ T.heap = h ∧ s.Since vm0 k0 ∧ k0 ≤ h.size ∧ Z.Warmed39 vm0 ∧ vm0.findClass own = some m.cls ∧ Fr n0 locs ∧ Old Z n0 h ∧ CHr Z EL s.vm s.heap vm0 h ∧ SafeL Z EL vm0 h S
def Fnl (Q : Po) (t : State) : Prop := ∃ s₂ o, Steps p.tables e below t s₂ ∧ s₂.status = .running ∧ Ended s₂ below o ∧ Don Z EL n0 Q s o s₂ R
def Go (Q : Po) (S : List Addr) (h : Heap) (k n : Nat) (pc : Nat) (Ls : Array Slot) (st : List Value) : Prop :=
  ∀ T, Sit p l e R s m args below meth c Z EL n0 own S h k n T → Fnl p e R s below Z EL n0 Q (T.setTop (mkF m pc Ls st))
def Bdy (a0 : Array Value) (bytes : ByteArray) (maxL : Nat) (ret : Option FieldType) (nm : String) : Prop :=
  p.tables.exec = Jvm.exec ∧ c.code = bytes ∧ c.maxLocals = maxL ∧ meth.sig.returnType = ret ∧ meth.name = nm ∧ meth.locks = false ∧ EW Z a0 EL ∧ (∀ w ∈ Bundle.stringAtoms, w.before a0 Z = true)
end Defs
section Rules
variable {p : Program} {l : Launch} {e : Env} {R : Room} {s : State} {m : MethodId} {args : Array Value} {below : List Frame} {meth : Method} {c : Code} {Z : State} {EL : List (String × Nat)} {n0 : Nat} {own : String} {a0 : Array Value} {bytes : ByteArray} {maxL : Nat} {ret : Option FieldType} {nm : String} {Q : Po} {S S' : List Addr} {h h' : Heap} {k n k' n' pc pc' : Nat} {Ls Ls' : Array Slot} {st st' rest : List Value}
theorem SafeL.nil {vm : Vm} : SafeL Z EL vm h [] := fun _ q => nomatch q
theorem SafeL.chr {vm vm1 : Vm} (A : CHr Z EL vm h vm1 h') (q : SafeL Z EL vm h S) : SafeL Z EL vm1 h' S := fun x hx => ⟨Nat.lt_of_lt_of_le (q x hx).1 A.2.1, A.safe (q x hx).1 (q x hx).2⟩
theorem SafeL.sub {vm : Vm} (q : SafeL Z EL vm h S) (hs : ∀ x ∈ S', x ∈ S) : SafeL Z EL vm h S' := fun x hx => q x (hs x hx)
theorem SafeL.app {vm : Vm} (q : SafeL Z EL vm h S) (q' : SafeL Z EL vm h S') : SafeL Z EL vm h (S ++ S') := fun x hx => (List.mem_append.mp hx).elim (q x) (q' x)
theorem SafeL.cons {vm : Vm} {a : Addr} (ha : a < h.size ∧ Safe Z EL vm h a) (q : SafeL Z EL vm h S) : SafeL Z EL vm h (a :: S) := fun x hx => (List.mem_cons.mp hx).elim (fun z => z ▸ ha) (q x)
theorem keepE (E : Ext h h') : Keep h h' [] := (Keep.refl h []).ext E
theorem nin0 {x : Nat} : x ∉ ([] : List Nat) := fun q => nomatch q
theorem ninS {x y : Nat} {L : List Nat} (q : x ≠ y) (r : x ∉ L) : x ∉ y :: L := by simp [q, r]
theorem allI0 {P : Int32 → Prop} : ∀ x ∈ ([] : List Int32), P x := fun _ q => nomatch q
theorem allI {P : Int32 → Prop} {y : Int32} {L : List Int32} (q : P y) (r : ∀ x ∈ L, P x) : ∀ x ∈ y :: L, P x := List.forall_mem_cons.mpr ⟨q, r⟩
theorem old_le (O : Old Z n0 h) : n0 ≤ h.size := O.1 ▸ O.2.1
theorem Con.weak {y : MethodName} {ws : List Jvm.Cond} {rm : Room} {as' : Array Value} {Q' : Po} (H : Con l Z EL n0 y bytes maxL ret ws rm as' S h Q) (hq : ∀ v h' S', Q v h' S' → Q' v h' S') : Con l Z EL n0 y bytes maxL ret ws rm as' S h Q' := by
  intro p e ha hc hk s m args below hf happ hP hK
  obtain ⟨n, o, h1, h2, h3, v, L, S', e1, ⟨q1, q2⟩, q3⟩ := H p e ha hc hk s m args below hf happ hP hK
  exact ⟨n, o, h1, h2, h3, v, L, S', e1, ⟨hq _ _ _ q1, q2⟩, q3⟩
theorem Go.mono (hk : k ≤ k') (hn : n ≤ n') (hs : ∀ x ∈ S', x ∈ S) (hr : Go p l e R s m args below meth c Z EL n0 own Q S' h k' n' pc Ls st) : Go p l e R s m args below meth c Z EL n0 own Q S h k n pc Ls st := by
  intro T ⟨locs, vm0, k0, k1, n1, q1, q2, X, eT, hS, hk0, hZ, hown, N, O, C, SL⟩
  exact hr T ⟨locs, vm0, k0, k1, n1, Nat.le_trans q1 hk, Nat.le_trans q2 hn, X, eT, hS, hk0, hZ, hown, N, O, C, SL.sub hs⟩
theorem Go.norm (hs : ∀ x ∈ S', x ∈ S) (hst : st = st') (hr : Go p l e R s m args below meth c Z EL n0 own Q S' h k n pc Ls st') : Go p l e R s m args below meth c Z EL n0 own Q S h k n pc Ls st := by
  subst hst
  exact Go.mono (Nat.le_refl _) (Nat.le_refl _) hs hr
/-- in a walk the old heap is there -/
theorem Go.old (hr : Old Z n0 h → Go p l e R s m args below meth c Z EL n0 own Q S h k n pc Ls st) : Go p l e R s m args below meth c Z EL n0 own Q S h k n pc Ls st := by
  intro T A
  have A' := A
  obtain ⟨locs, vm0, k0, k1, n1, q1, q2, X, eT, hS, hk0, hZ, hown, N, O, C, SL⟩ := A'
  exact hr O T A
/-- what is safe is there -/
theorem Go.lts (hr : (∀ x ∈ S, x < h.size) → Go p l e R s m args below meth c Z EL n0 own Q S h k n pc Ls st) : Go p l e R s m args below meth c Z EL n0 own Q S h k n pc Ls st := by
  intro T A
  have A' := A
  obtain ⟨locs, vm0, k0, k1, n1, q1, q2, X, eT, hS, hk0, hZ, hown, N, O, C, SL⟩ := A'
  exact hr (fun x hx => (SL x hx).1) T A
/-- a join: the rest from pc1 is walked once -/
theorem Go.join {α : Type} {pc1 : Nat} (F : α → Array Slot) (D : α → List Value) (hJ : ∀ b, Go p l e R s m args below meth c Z EL n0 own Q S h k n pc1 (F b) (D b)) (hr : (∀ b, Go p l e R s m args below meth c Z EL n0 own Q S h k n pc1 (F b) (D b)) → Go p l e R s m args below meth c Z EL n0 own Q S h k n pc Ls st) : Go p l e R s m args below meth c Z EL n0 own Q S h k n pc Ls st := hr hJ
theorem Con.enter {y : MethodName} {ws : List Jvm.Cond} {rm : Room} {as' : Array Value} (hpl : plainFor y = true) (hO : Old Z n0 h) (hEW : EW Z a0 EL) (hwS : ∀ w ∈ Bundle.stringAtoms, w.before a0 Z = true)
    (body : ∀ (p : Program) (e : Env) (s : State) (m : MethodId) (below : List Frame) (meth : Method) (c : Code), Bdy p meth c Z EL a0 bytes maxL ret y.name → Go p l e rm s m as' below meth c Z EL n0 y.cls Q S h 0 0 0 Ls [])
    (hef : ∀ m : MethodId, entryFrame m as' maxL = mkF m 0 Ls [] := by intro m; first | rfl | (simp [entryFrame, mkF, argsToLocals, Value.category]; done)) :
    Con l Z EL n0 y bytes maxL ret ws rm as' S h Q := by
  refine MetFree.of_bodySF hpl hisR ?_
  intro p e s m args below meth c s₁ Bd hml0 hP hK
  obtain ⟨rfl, hZ, rfl, hC, hS⟩ := hP
  have X0 : Stand p l e rm s m args below meth c s₁ [] 0 0 := Stand.of_body Bd
  have hown : s.vm.findClass y.cls = some m.cls := findClass_of_methodNamed Bd.named
  have hnm := (name_of_methodNamed Bd.named Bd.method).1
  have e0 : s₁.heap = s.heap := by rw [Bd.state]; rfl
  rw [hef m]
  exact body p e s m below meth c ⟨Bd.exec, Bd.bytes, hml0, Bd.returns, hnm, Bd.notSynchronized, hEW, hwS⟩ s₁ ⟨[], s.vm, s.heap.size, 0, 0, Nat.le_refl _, Nat.le_refl _, X0, e0, (State.WarmedH.refl s).since _, Nat.le_refl _, hZ, hown, Fr.nil _, hO, CHr.refl hC, hS⟩
theorem plain (hr : Go p l e R s m args below meth c Z EL n0 own Q S h k n pc' Ls' st')
    (stp : ∀ T, At T m c below → ∀ t, Steps p.tables e below (T.setTop (mkF m pc' Ls' st')) t → Steps p.tables e below (T.setTop (mkF m pc Ls st)) t) : Go p l e R s m args below meth c Z EL n0 own Q S h k n pc Ls st := by
  intro T A
  have A' := A
  obtain ⟨locs, vm0, k0, k1, n1, q1, q2, X, r⟩ := A'
  obtain ⟨s2, o, q, r2⟩ := hr T A
  exact ⟨s2, o, stp T X.here _ q, r2⟩
/-- a step that may warm the tables, the heap as it was -/
theorem warm (hr : Go p l e R s m args below meth c Z EL n0 own Q S h k n pc' Ls' st')
    (stp : ∀ T vm0 locs k1 n1, Stand p l e R (s.setVm vm0) m args below meth c T locs k1 n1 → T.heap = h → Z.Warmed39 (s.setVm vm0).vm → (s.setVm vm0).vm.findClass own = some m.cls → Old Z n0 h →
      ∃ T', Stand p l e R (s.setVm vm0) m args below meth c T' locs k1 n1 ∧ T'.heap = h ∧ ∀ t, Steps p.tables e below (T'.setTop (mkF m pc' Ls' st')) t → Steps p.tables e below (T.setTop (mkF m pc Ls st)) t) : Go p l e R s m args below meth c Z EL n0 own Q S h k n pc Ls st := by
  intro T ⟨locs, vm0, k0, k1, n1, q1, q2, X, eT, hS, hk0, hZ, hown, N, O, C, SL⟩
  obtain ⟨T', X', e', sp⟩ := stp T vm0 locs k1 n1 X eT hZ hown O
  obtain ⟨s2, o, q, r2⟩ := hr T' ⟨locs, vm0, k0, k1, n1, q1, q2, X', e', hS, hk0, hZ, hown, N, O, C, SL⟩
  exact ⟨s2, o, sp _ q, r2⟩
/-- a step that makes one cell -/
theorem made {dc dn : Nat} {nn : Nat} {P : Heap → Prop} (hk : k + 1 ≤ k') (hn : n + nn ≤ n')
    (stp : ∀ T vm0 locs k1 n1, k1 ≤ k → n1 ≤ n → Stand p l e R (s.setVm vm0) m args below meth c T locs k1 n1 → T.heap = h → Z.Warmed39 (s.setVm vm0).vm → (s.setVm vm0).vm.findClass own = some m.cls →
      ∃ T' h', Stand p l e R (s.setVm vm0) m args below meth c T' locs (k1 + 1) (n1 + nn) ∧ T'.heap = h' ∧ Ext h h' ∧ h.size < h'.size ∧ P h' ∧ ∀ t, Steps p.tables e below (T'.setTop (mkF m pc' Ls' st')) t → Steps p.tables e below (T.setTop (mkF m pc Ls st)) t)
    (hr : ∀ h', Ext h h' → P h' → n0 ≤ h.size → Go p l e R s m args below meth c Z EL n0 own Q (h.size :: S) h' k' n' pc' Ls' st') : Go p l e R s m args below meth c Z EL n0 own Q S h k n pc Ls st := by
  intro T ⟨locs, vm0, k0, k1, n1, q1, q2, X, eT, hS, hk0, hZ, hown, N, O, C, SL⟩
  obtain ⟨T', h', X', e', E, lt, hP, sp⟩ := stp T vm0 locs k1 n1 q1 q2 X eT hZ hown
  have A := CHr.ext (EL := EL) (vm := vm0) E C.1
  have sf : Safe Z EL vm0 h h.size := Safe.new (Nat.le_refl _)
  obtain ⟨s2, o, q, r2⟩ := hr h' E hP (old_le O) T' ⟨locs, vm0, k0, k1 + 1, n1 + nn, by omega, by omega, X', e', hS, Nat.le_trans hk0 E.1, hZ, hown, N, O.ext E, C.trans A, (SL.chr A).cons ⟨lt, sf.ext E C.1⟩⟩
  exact ⟨s2, o, sp _ q, r2⟩
/-- a step that writes one place of one cell -/
theorem wrote {a : Addr} {sl : Nat} {v : Value} (ha : n0 ≤ a) (hsafe : ∀ vm0, Z.Warmed39 vm0 → SafeL Z EL vm0 h S → Safe Z EL vm0 h a)
    (stp : ∀ T vm0 locs k1 n1, Stand p l e R (s.setVm vm0) m args below meth c T locs k1 n1 → T.heap = h → Z.Warmed39 (s.setVm vm0).vm → (s.setVm vm0).vm.findClass own = some m.cls →
      ∃ T' h', Stand p l e R (s.setVm vm0) m args below meth c T' (locs ++ [⟨a, sl⟩]) k1 n1 ∧ T'.heap = h' ∧ Wr h h' a sl v ∧ ∀ t, Steps p.tables e below (T'.setTop (mkF m pc' Ls' st')) t → Steps p.tables e below (T.setTop (mkF m pc Ls st)) t)
    (hr : ∀ h', Wr h h' a sl v → Go p l e R s m args below meth c Z EL n0 own Q S h' k n pc' Ls' st') : Go p l e R s m args below meth c Z EL n0 own Q S h k n pc Ls st := by
  intro T ⟨locs, vm0, k0, k1, n1, q1, q2, X, eT, hS, hk0, hZ, hown, N, O, C, SL⟩
  obtain ⟨T', h', X', e', W, sp⟩ := stp T vm0 locs k1 n1 X eT hZ hown
  have A := CHr.wr (EL := EL) (vm := vm0) W (hsafe vm0 hZ SL) C.1
  obtain ⟨s2, o, q, r2⟩ := hr h' W T' ⟨_, vm0, k0, k1, n1, q1, q2, X', e', hS, by rw [W.size]; exact hk0, hZ, hown, Fr.snoc X' N ha, O.wr W ha, C.trans A, SL.chr A⟩
  exact ⟨s2, o, sp _ q, r2⟩
/-- a callee by its contract -/
theorem Con.back {y : MethodName} {bytes' : ByteArray} {maxL' : Nat} {ret' : Option FieldType} {rm : Room} {as' : Array Value} {Q' : Po} {len W : Nat} {vm0 : Vm} (hM : Con l Z EL n0 y bytes' maxL' ret' [] rm as' S h Q')
    (hZ : Z.Warmed39 vm0) (wc : (Jvm.Cond.code y bytes' maxL' ret').before a0 Z = true) (wz : (Jvm.Cond.initialized y.cls).before a0 Z = true) (hf : rm.frames + 1 ≤ R.frames) (hl : W + (maxL' + 11) + rm.locals ≤ R.locals) (hEL : EW Z a0 EL) (H : CHv Z EL vm0 h) (hSL : SafeL Z EL vm0 h S) :
    BackS l R p e below (s.setVm vm0) args y len W (fun A a => a = as' ∧ A.U.heap = h ∧ A.cells + rm.cells ≤ R.cells ∧ A.slots + rm.slots ≤ R.slots)
      (fun A _ v B => ∃ L S', (Q' v B.U.heap S' ∧ Fr n0 L ∧ Old Z n0 B.U.heap ∧ SafeL Z EL B.U.vm B.U.heap S') ∧ B.locs = A.locs ++ L ∧ B.cells = A.cells + rm.cells ∧ B.slots = A.slots + rm.slots ∧ CHr Z EL vm0 h B.U.vm B.U.heap) := by
  have loc : ∀ {m : MethodId} {meth : Method} {c : Code} {A : Pt}, Stand p l e R (s.setVm vm0) m args below meth c A.U A.locs A.cells A.slots → Z.Warmed39 A.U.vm ∧ CHr Z EL vm0 h A.U.vm h := fun Y => ⟨wtrans (s := s.setVm vm0) hZ Y.warmed, CHv.at Y hZ hEL H⟩
  apply BackS.of_freeW (bytes := bytes') (maxL := maxL') (ret := ret') (E := fun _ U o U' L k n => ∃ v S', (o, k, n) = (.returned v, rm.cells, rm.slots) ∧ CHr Z EL U.vm U.heap U'.vm U'.heap ∧ Q' v U'.heap S' ∧ Fr n0 L ∧ Old Z n0 U'.heap ∧ SafeL Z EL U'.vm U'.heap S') hM hf hl
  · rintro m meth c A a Y ⟨-, -, g1, g2⟩
    have cd : (Jvm.Cond.code y bytes' maxL' ret').before a A.U = true := mv (loc Y).1 wc
    have ct : (Jvm.Cond.and (Jvm.Cond.code y bytes' maxL' ret') .tt).before a A.U = true := by rw [Cond.before_and, cd]; rfl
    exact ⟨ct, cd, mv (loc Y).1 wz, g1, g2⟩
  · rintro m meth c A a g mk Y ⟨g1, g2, -⟩
    exact ⟨g1, (loc Y).1, g2, (loc Y).2.1, hSL.chr (loc Y).2⟩
  · intros; trivial
  · rintro _ _ _ _ ⟨v, L, S', rfl, d, hC, hE⟩
    exact ⟨L, _, _, hE, v, S', rfl, hC, d⟩
  · rintro m meth c A a g mk v t L k n Y ⟨-, rfl, -⟩ - - ⟨v', S', o1, hC, d⟩
    cases o1
    exact ⟨L, S', d, rfl, rfl, rfl, (loc Y).2.trans hC⟩
theorem mvFace {Z s : State} {a0 args : Array Value} {a c d : String} (hZ : Z.Warmed39 s.vm) (hy : a ≠ "java/lang/invoke/MethodHandle" ∧ a ≠ "java/lang/invoke/VarHandle") (w : (Jvm.Cond.interfaceMethod a a c d).before a0 Z = true) : (Jvm.Cond.interfaceMethod a a c d).before args s = true := by
  have h1 : (Jvm.Cond.interfaceMethod a a c d).before a0 (Z.setVm s.vm) = true := Cond.faceAtom_setVm hZ.alike _ (by simp [Cond.faceAtom, hy.1, hy.2]) w
  exact h1
theorem mvPub {Z s : State} {a0 args : Array Value} {y : MethodName} (hZ : Z.Warmed39 s.vm) (w : (Jvm.Cond.publicMethod y).before a0 Z = true) : (Jvm.Cond.publicMethod y).before args s = true := by
  have h1 : (Jvm.Cond.publicMethod y).before a0 (Z.setVm s.vm) = true := Cond.rides hZ rfl w
  exact h1
theorem mvUnh {Z s : State} {a0 args : Array Value} {a b c : String} (hZ : Z.Warmed39 s.vm) (w : (Jvm.Cond.unhidden a b c).before a0 Z = true) : (Jvm.Cond.unhidden a b c).before args s = true := by
  have h1 : (Jvm.Cond.unhidden a b c).before a0 (Z.setVm s.vm) = true := Cond.rides hZ rfl w
  exact h1
abbrev NoH (y : MethodName) : Prop := y.cls ≠ "java/lang/invoke/MethodHandle" ∧ y.cls ≠ "java/lang/invoke/VarHandle"
/-- behind a call -/
theorem after {T : State} {vm0 : Vm} {k0 k1 n1 : Nat} {rm : Room} {Q' : Po} {v : Option Value} {P : Pt} {locs : List Loc} {t0 : State} (hS : s.Since vm0 k0) (hk0 : k0 ≤ h.size) (eT : T.heap = h) (q1 : k1 ≤ k) (q2 : n1 ≤ n) (hk : k + rm.cells ≤ k') (hn : n + rm.slots ≤ n')
    (hZ : Z.Warmed39 vm0) (hown : vm0.findClass own = some m.cls) (N : Fr n0 locs) (C : CHr Z EL s.vm s.heap vm0 h) (SL : SafeL Z EL vm0 h S)
    (X' : Stand p l e R ((s.setVm vm0).setVm P.U.vm) m args below meth c P.U P.locs P.cells P.slots) (h2 : (s.setVm vm0).Since P.U.vm P.U.heap.size) (hg : T.heap.size ≤ P.U.heap.size)
    (hpost : ∃ L S', (Q' v P.U.heap S' ∧ Fr n0 L ∧ Old Z n0 P.U.heap ∧ SafeL Z EL P.U.vm P.U.heap S') ∧ P.locs = locs ++ L ∧ P.cells = k1 + rm.cells ∧ P.slots = n1 + rm.slots ∧ CHr Z EL vm0 h P.U.vm P.U.heap)
    (hst : Steps p.tables e below t0 (P.U.setTop (mkF m pc' Ls (v.toList ++ rest))))
    (hr : ∀ v h' S', Q' v h' S' → h.size ≤ h'.size → Go p l e R s m args below meth c Z EL n0 own Q (S' ++ S) h' k' n' pc' Ls (v.toList ++ rest)) : Fnl p e R s below Z EL n0 Q t0 := by
  obtain ⟨L, S', ⟨hQ, N', O', SL'⟩, e1, e2, e3, C'⟩ := hpost
  obtain ⟨Y, hS2, hZ2, hown2⟩ := rebS hS (by rw [eT]; exact hk0) X' h2 hg hZ hown
  obtain ⟨s2, o, q, r2⟩ := hr v P.U.heap S' hQ C'.2.1 P.U ⟨P.locs, P.U.vm, P.U.heap.size, P.cells, P.slots, by omega, by omega, Y, rfl, hS2, Nat.le_refl _, hZ2, hown2, e1 ▸ N.app N', O', C.trans C', SL'.app (SL.chr C')⟩
  exact ⟨s2, o, hst.trans q, r2⟩
theorem iload (B : Bdy p meth c Z EL a0 bytes maxL ret nm) {j : Nat} {x : Int32} (hd : decode bytes pc = .ok (.iload j, 2)) (hr : Go p l e R s m args below meth c Z EL n0 own Q S h k n pc' Ls (.int x :: st)) (hp : pc' = pc + 2 := by rfl) (hl : Ls[j]? = some (.val (.int x)) := by rfl) : Go p l e R s m args below meth c Z EL n0 own Q S h k n pc Ls st := by
  subst hp
  exact plain hr fun T A t q => XS.iload A B.1 rfl (hb B.2.1 hd) hl q
theorem iloadN (B : Bdy p meth c Z EL a0 bytes maxL ret nm) {j : Fin 4} {x : Int32} (hd : decode bytes pc = .ok (.iload_n j, 1)) (hr : Go p l e R s m args below meth c Z EL n0 own Q S h k n pc' Ls (.int x :: st)) (hp : pc' = pc + 1 := by rfl) (hl : Ls[j.val]? = some (.val (.int x)) := by rfl) : Go p l e R s m args below meth c Z EL n0 own Q S h k n pc Ls st := by
  subst hp
  exact plain hr fun T A t q => XS.iloadN A B.1 rfl (hb B.2.1 hd) hl q
theorem lload (B : Bdy p meth c Z EL a0 bytes maxL ret nm) {j : Nat} {x : Int64} (hd : decode bytes pc = .ok (.lload j, 2)) (hr : Go p l e R s m args below meth c Z EL n0 own Q S h k n pc' Ls (.long x :: st)) (hp : pc' = pc + 2 := by rfl) (hl : Ls[j]? = some (.val (.long x)) := by rfl) : Go p l e R s m args below meth c Z EL n0 own Q S h k n pc Ls st := by
  subst hp
  exact plain hr fun T A t q => XT.lload A B.1 rfl (hb B.2.1 hd) hl q
theorem lloadN (B : Bdy p meth c Z EL a0 bytes maxL ret nm) {j : Fin 4} {x : Int64} (hd : decode bytes pc = .ok (.lload_n j, 1)) (hr : Go p l e R s m args below meth c Z EL n0 own Q S h k n pc' Ls (.long x :: st)) (hp : pc' = pc + 1 := by rfl) (hl : Ls[j.val]? = some (.val (.long x)) := by rfl) : Go p l e R s m args below meth c Z EL n0 own Q S h k n pc Ls st := by
  subst hp
  exact plain hr fun T A t q => XT.lloadN A B.1 rfl (hb B.2.1 hd) hl q
theorem aload (B : Bdy p meth c Z EL a0 bytes maxL ret nm) {j : Nat} {v : Value} (hd : decode bytes pc = .ok (.aload j, 2)) (hr : Go p l e R s m args below meth c Z EL n0 own Q S h k n pc' Ls (v :: st)) (hp : pc' = pc + 2 := by rfl) (hl : Ls[j]? = some (.val v) := by rfl) (hv : v.isRef = true := by rfl) : Go p l e R s m args below meth c Z EL n0 own Q S h k n pc Ls st := by
  subst hp
  exact plain hr fun T A t q => XS.aload A B.1 rfl (hb B.2.1 hd) hl hv q
theorem aloadN (B : Bdy p meth c Z EL a0 bytes maxL ret nm) {j : Fin 4} {v : Value} (hd : decode bytes pc = .ok (.aload_n j, 1)) (hr : Go p l e R s m args below meth c Z EL n0 own Q S h k n pc' Ls (v :: st)) (hp : pc' = pc + 1 := by rfl) (hl : Ls[j.val]? = some (.val v) := by rfl) (hv : v.isRef = true := by rfl) : Go p l e R s m args below meth c Z EL n0 own Q S h k n pc Ls st := by
  subst hp
  exact plain hr fun T A t q => XS.aloadN A B.1 rfl (hb B.2.1 hd) hl hv q
theorem istore (B : Bdy p meth c Z EL a0 bytes maxL ret nm) {j : Nat} {x : Int32} (hd : decode bytes pc = .ok (.istore j, 2)) (hr : Go p l e R s m args below meth c Z EL n0 own Q S h k n pc' Ls' st) (hp : pc' = pc + 2 := by rfl) (hl : storeLocals Ls j (.int x) = some Ls' := by rfl) : Go p l e R s m args below meth c Z EL n0 own Q S h k n pc Ls (.int x :: st) := by
  subst hp
  exact plain hr fun T A t q => XS.istore A B.1 rfl (hb B.2.1 hd) rfl hl q
theorem istoreN (B : Bdy p meth c Z EL a0 bytes maxL ret nm) {j : Fin 4} {x : Int32} (hd : decode bytes pc = .ok (.istore_n j, 1)) (hr : Go p l e R s m args below meth c Z EL n0 own Q S h k n pc' Ls' st) (hp : pc' = pc + 1 := by rfl) (hl : storeLocals Ls j.val (.int x) = some Ls' := by rfl) : Go p l e R s m args below meth c Z EL n0 own Q S h k n pc Ls (.int x :: st) := by
  subst hp
  exact plain hr fun T A t q => XS.istoreN A B.1 rfl (hb B.2.1 hd) rfl hl q
theorem lstore (B : Bdy p meth c Z EL a0 bytes maxL ret nm) {j : Nat} {x : Int64} (hd : decode bytes pc = .ok (.lstore j, 2)) (hr : Go p l e R s m args below meth c Z EL n0 own Q S h k n pc' Ls' st) (hp : pc' = pc + 2 := by rfl) (hl : storeLocals Ls j (.long x) = some Ls' := by rfl) : Go p l e R s m args below meth c Z EL n0 own Q S h k n pc Ls (.long x :: st) := by
  subst hp
  exact plain hr fun T A t q => XT.lstore A B.1 rfl (hb B.2.1 hd) rfl hl q
theorem lstoreN (B : Bdy p meth c Z EL a0 bytes maxL ret nm) {j : Fin 4} {x : Int64} (hd : decode bytes pc = .ok (.lstore_n j, 1)) (hr : Go p l e R s m args below meth c Z EL n0 own Q S h k n pc' Ls' st) (hp : pc' = pc + 1 := by rfl) (hl : storeLocals Ls j.val (.long x) = some Ls' := by rfl) : Go p l e R s m args below meth c Z EL n0 own Q S h k n pc Ls (.long x :: st) := by
  subst hp
  exact plain hr fun T A t q => XT.lstoreN A B.1 rfl (hb B.2.1 hd) rfl hl q
theorem astore (B : Bdy p meth c Z EL a0 bytes maxL ret nm) {j : Nat} {v : Value} (hd : decode bytes pc = .ok (.astore j, 2)) (hr : Go p l e R s m args below meth c Z EL n0 own Q S h k n pc' Ls' st) (hp : pc' = pc + 2 := by rfl) (hv : v.isRef = true := by rfl) (hl : storeLocals Ls j v = some Ls' := by rfl) : Go p l e R s m args below meth c Z EL n0 own Q S h k n pc Ls (v :: st) := by
  subst hp
  exact plain hr fun T A t q => XS.astore A B.1 rfl (hb B.2.1 hd) rfl hv hl q
theorem astoreN (B : Bdy p meth c Z EL a0 bytes maxL ret nm) {j : Fin 4} {v : Value} (hd : decode bytes pc = .ok (.astore_n j, 1)) (hr : Go p l e R s m args below meth c Z EL n0 own Q S h k n pc' Ls' st) (hp : pc' = pc + 1 := by rfl) (hv : v.isRef = true := by rfl) (hl : storeLocals Ls j.val v = some Ls' := by rfl) : Go p l e R s m args below meth c Z EL n0 own Q S h k n pc Ls (v :: st) := by
  subst hp
  exact plain hr fun T A t q => XS.astoreN A B.1 rfl (hb B.2.1 hd) rfl hv hl q
theorem iinc (B : Bdy p meth c Z EL a0 bytes maxL ret nm) {j : Nat} {cst : Int} {x y : Int32} (hd : decode bytes pc = .ok (.iinc j cst, 3)) (hr : Go p l e R s m args below meth c Z EL n0 own Q S h k n pc' Ls' st) (hp : pc' = pc + 3 := by rfl) (hl : Ls[j]? = some (.val (.int x)) := by rfl) (hy : y = x + Int32.ofInt cst := by first | rfl | decide) (hl' : storeLocals Ls j (.int y) = some Ls' := by rfl) : Go p l e R s m args below meth c Z EL n0 own Q S h k n pc Ls st := by
  subst hp
  exact plain hr fun T A t q => XS.iinc A B.1 rfl (hb B.2.1 hd) hl (hy ▸ hl') q
theorem iconst (B : Bdy p meth c Z EL a0 bytes maxL ret nm) {i : Int} {x : Int32} (hd : decode bytes pc = .ok (.iconst i, 1)) (hr : Go p l e R s m args below meth c Z EL n0 own Q S h k n pc' Ls (.int x :: st)) (hp : pc' = pc + 1 := by rfl) (hi : Int32.ofInt i = x := by first | rfl | decide) : Go p l e R s m args below meth c Z EL n0 own Q S h k n pc Ls st := by
  subst hp
  exact plain hr fun T A t q => XS.iconst A B.1 rfl (hb B.2.1 hd) (hi ▸ q)
theorem bipush (B : Bdy p meth c Z EL a0 bytes maxL ret nm) {i : Int} {x : Int32} (hd : decode bytes pc = .ok (.bipush i, 2)) (hr : Go p l e R s m args below meth c Z EL n0 own Q S h k n pc' Ls (.int x :: st)) (hp : pc' = pc + 2 := by rfl) (hi : (Int8.ofInt i).toInt32 = x := by first | rfl | decide) : Go p l e R s m args below meth c Z EL n0 own Q S h k n pc Ls st := by
  subst hp
  exact plain hr fun T A t q => XS.bipush A B.1 rfl (hb B.2.1 hd) (hi ▸ q)
theorem sipush (B : Bdy p meth c Z EL a0 bytes maxL ret nm) {i : Int} {x : Int32} (hd : decode bytes pc = .ok (.sipush i, 3)) (hr : Go p l e R s m args below meth c Z EL n0 own Q S h k n pc' Ls (.int x :: st)) (hp : pc' = pc + 3 := by rfl) (hi : (Int16.ofInt i).toInt32 = x := by first | rfl | decide) : Go p l e R s m args below meth c Z EL n0 own Q S h k n pc Ls st := by
  subst hp
  exact plain hr fun T A t q => XS.sipush A B.1 rfl (hb B.2.1 hd) (hi ▸ q)
theorem aconstNull (B : Bdy p meth c Z EL a0 bytes maxL ret nm)  (hd : decode bytes pc = .ok (.aconst_null, 1)) (hr : Go p l e R s m args below meth c Z EL n0 own Q S h k n pc' Ls (.null :: st)) (hp : pc' = pc + 1 := by rfl)  : Go p l e R s m args below meth c Z EL n0 own Q S h k n pc Ls st := by
  subst hp
  exact plain hr fun T A t q => XS.aconstNull A B.1 rfl (hb B.2.1 hd) q
theorem iadd (B : Bdy p meth c Z EL a0 bytes maxL ret nm) {x y z : Int32} (hd : decode bytes pc = .ok (.iadd, 1)) (hr : Go p l e R s m args below meth c Z EL n0 own Q S h k n pc' Ls (.int z :: st)) (hp : pc' = pc + 1 := by rfl) (hz : x + y = z := by first | rfl | decide) : Go p l e R s m args below meth c Z EL n0 own Q S h k n pc Ls (.int y :: .int x :: st) := by
  subst hp
  exact plain hr fun T A t q => XS.iadd A B.1 rfl (hb B.2.1 hd) rfl (hz ▸ q)
theorem isub (B : Bdy p meth c Z EL a0 bytes maxL ret nm) {x y z : Int32} (hd : decode bytes pc = .ok (.isub, 1)) (hr : Go p l e R s m args below meth c Z EL n0 own Q S h k n pc' Ls (.int z :: st)) (hp : pc' = pc + 1 := by rfl) (hz : x - y = z := by first | rfl | decide) : Go p l e R s m args below meth c Z EL n0 own Q S h k n pc Ls (.int y :: .int x :: st) := by
  subst hp
  exact plain hr fun T A t q => XS.isub A B.1 rfl (hb B.2.1 hd) rfl (hz ▸ q)
theorem imul (B : Bdy p meth c Z EL a0 bytes maxL ret nm) {x y z : Int32} (hd : decode bytes pc = .ok (.imul, 1)) (hr : Go p l e R s m args below meth c Z EL n0 own Q S h k n pc' Ls (.int z :: st)) (hp : pc' = pc + 1 := by rfl) (hz : x * y = z := by first | rfl | decide) : Go p l e R s m args below meth c Z EL n0 own Q S h k n pc Ls (.int y :: .int x :: st) := by
  subst hp
  exact plain hr fun T A t q => XS.imul A B.1 rfl (hb B.2.1 hd) rfl (hz ▸ q)
theorem iand (B : Bdy p meth c Z EL a0 bytes maxL ret nm) {x y z : Int32} (hd : decode bytes pc = .ok (.iand, 1)) (hr : Go p l e R s m args below meth c Z EL n0 own Q S h k n pc' Ls (.int z :: st)) (hp : pc' = pc + 1 := by rfl) (hz : x &&& y = z := by first | rfl | decide) : Go p l e R s m args below meth c Z EL n0 own Q S h k n pc Ls (.int y :: .int x :: st) := by
  subst hp
  exact plain hr fun T A t q => XS.iand A B.1 rfl (hb B.2.1 hd) rfl (hz ▸ q)
theorem ior (B : Bdy p meth c Z EL a0 bytes maxL ret nm) {x y z : Int32} (hd : decode bytes pc = .ok (.ior, 1)) (hr : Go p l e R s m args below meth c Z EL n0 own Q S h k n pc' Ls (.int z :: st)) (hp : pc' = pc + 1 := by rfl) (hz : x ||| y = z := by first | rfl | decide) : Go p l e R s m args below meth c Z EL n0 own Q S h k n pc Ls (.int y :: .int x :: st) := by
  subst hp
  exact plain hr fun T A t q => XT.ior A B.1 rfl (hb B.2.1 hd) rfl (hz ▸ q)
theorem ixor (B : Bdy p meth c Z EL a0 bytes maxL ret nm) {x y z : Int32} (hd : decode bytes pc = .ok (.ixor, 1)) (hr : Go p l e R s m args below meth c Z EL n0 own Q S h k n pc' Ls (.int z :: st)) (hp : pc' = pc + 1 := by rfl) (hz : x ^^^ y = z := by first | rfl | decide) : Go p l e R s m args below meth c Z EL n0 own Q S h k n pc Ls (.int y :: .int x :: st) := by
  subst hp
  exact plain hr fun T A t q => XT.ixor A B.1 rfl (hb B.2.1 hd) rfl (hz ▸ q)
theorem ishl (B : Bdy p meth c Z EL a0 bytes maxL ret nm) {x y z : Int32} (hd : decode bytes pc = .ok (.ishl, 1)) (hr : Go p l e R s m args below meth c Z EL n0 own Q S h k n pc' Ls (.int z :: st)) (hp : pc' = pc + 1 := by rfl) (hz : x <<< (y &&& 31) = z := by first | rfl | decide) : Go p l e R s m args below meth c Z EL n0 own Q S h k n pc Ls (.int y :: .int x :: st) := by
  subst hp
  exact plain hr fun T A t q => XT.ishl A B.1 rfl (hb B.2.1 hd) rfl (hz ▸ q)
theorem ishr (B : Bdy p meth c Z EL a0 bytes maxL ret nm) {x y z : Int32} (hd : decode bytes pc = .ok (.ishr, 1)) (hr : Go p l e R s m args below meth c Z EL n0 own Q S h k n pc' Ls (.int z :: st)) (hp : pc' = pc + 1 := by rfl) (hz : x >>> (y &&& 31) = z := by first | rfl | decide) : Go p l e R s m args below meth c Z EL n0 own Q S h k n pc Ls (.int y :: .int x :: st) := by
  subst hp
  exact plain hr fun T A t q => XT.ishr A B.1 rfl (hb B.2.1 hd) rfl (hz ▸ q)
theorem iushr (B : Bdy p meth c Z EL a0 bytes maxL ret nm) {x y z : Int32} (hd : decode bytes pc = .ok (.iushr, 1)) (hr : Go p l e R s m args below meth c Z EL n0 own Q S h k n pc' Ls (.int z :: st)) (hp : pc' = pc + 1 := by rfl) (hz : Jvm.Free.XT.ushr x y = z := by first | rfl | decide) : Go p l e R s m args below meth c Z EL n0 own Q S h k n pc Ls (.int y :: .int x :: st) := by
  subst hp
  exact plain hr fun T A t q => XT.iushr A B.1 rfl (hb B.2.1 hd) rfl (hz ▸ q)
theorem irem (B : Bdy p meth c Z EL a0 bytes maxL ret nm) {x y z : Int32} (hd : decode bytes pc = .ok (.irem, 1)) (hr : Go p l e R s m args below meth c Z EL n0 own Q S h k n pc' Ls (.int z :: st)) (hp : pc' = pc + 1 := by rfl) (hy : y ≠ 0 := by first | rfl | decide) (hz : x % y = z := by first | rfl | decide) : Go p l e R s m args below meth c Z EL n0 own Q S h k n pc Ls (.int y :: .int x :: st) := by
  subst hp
  exact plain hr fun T A t q => XS.irem A B.1 rfl (hb B.2.1 hd) rfl hy (by rw [irem_eq_mod x y, hz]; exact q)
theorem idiv (B : Bdy p meth c Z EL a0 bytes maxL ret nm) {x y z : Int32} (hd : decode bytes pc = .ok (.idiv, 1)) (hr : Go p l e R s m args below meth c Z EL n0 own Q S h k n pc' Ls (.int z :: st)) (hp : pc' = pc + 1 := by rfl) (hy : y ≠ 0 := by first | rfl | decide) (hz : x / y = z := by first | rfl | decide) : Go p l e R s m args below meth c Z EL n0 own Q S h k n pc Ls (.int y :: .int x :: st) := by
  subst hp
  exact plain hr fun T A t q => XS.idiv A B.1 rfl (hb B.2.1 hd) rfl hy (hz ▸ q)
theorem ineg (B : Bdy p meth c Z EL a0 bytes maxL ret nm) {x z : Int32} (hd : decode bytes pc = .ok (.ineg, 1)) (hr : Go p l e R s m args below meth c Z EL n0 own Q S h k n pc' Ls (.int z :: st)) (hp : pc' = pc + 1 := by rfl) (hz : -x = z := by first | rfl | decide) : Go p l e R s m args below meth c Z EL n0 own Q S h k n pc Ls (.int x :: st) := by
  subst hp
  exact plain hr fun T A t q => XS.ineg A B.1 rfl (hb B.2.1 hd) rfl (hz ▸ q)
theorem i2b (B : Bdy p meth c Z EL a0 bytes maxL ret nm) {x z : Int32} (hd : decode bytes pc = .ok (.i2b, 1)) (hr : Go p l e R s m args below meth c Z EL n0 own Q S h k n pc' Ls (.int z :: st)) (hp : pc' = pc + 1 := by rfl) (hz : x.toInt8.toInt32 = z := by first | rfl | decide) : Go p l e R s m args below meth c Z EL n0 own Q S h k n pc Ls (.int x :: st) := by
  subst hp
  exact plain hr fun T A t q => XT.i2b A B.1 rfl (hb B.2.1 hd) rfl (hz ▸ q)
theorem i2c (B : Bdy p meth c Z EL a0 bytes maxL ret nm) {x z : Int32} (hd : decode bytes pc = .ok (.i2c, 1)) (hr : Go p l e R s m args below meth c Z EL n0 own Q S h k n pc' Ls (.int z :: st)) (hp : pc' = pc + 1 := by rfl) (hz : x.toUInt32.toUInt16.toUInt32.toInt32 = z := by first | rfl | decide) : Go p l e R s m args below meth c Z EL n0 own Q S h k n pc Ls (.int x :: st) := by
  subst hp
  exact plain hr fun T A t q => XT.i2c A B.1 rfl (hb B.2.1 hd) rfl (hz ▸ q)
theorem l2i (B : Bdy p meth c Z EL a0 bytes maxL ret nm) {x : Int64} {z : Int32} (hd : decode bytes pc = .ok (.l2i, 1)) (hr : Go p l e R s m args below meth c Z EL n0 own Q S h k n pc' Ls (.int z :: st)) (hp : pc' = pc + 1 := by rfl) (hz : x.toInt32 = z := by first | rfl | decide) : Go p l e R s m args below meth c Z EL n0 own Q S h k n pc Ls (.long x :: st) := by
  subst hp
  exact plain hr fun T A t q => XT.l2i A B.1 rfl (hb B.2.1 hd) rfl (hz ▸ q)
theorem i2l (B : Bdy p meth c Z EL a0 bytes maxL ret nm) {x : Int32} {z : Int64} (hd : decode bytes pc = .ok (.i2l, 1)) (hr : Go p l e R s m args below meth c Z EL n0 own Q S h k n pc' Ls (.long z :: st)) (hp : pc' = pc + 1 := by rfl) (hz : x.toInt64 = z := by first | rfl | decide) : Go p l e R s m args below meth c Z EL n0 own Q S h k n pc Ls (.int x :: st) := by
  subst hp
  exact plain hr fun T A t q => XT.i2l A B.1 rfl (hb B.2.1 hd) rfl (hz ▸ q)
theorem lushr (B : Bdy p meth c Z EL a0 bytes maxL ret nm) {x z : Int64} {y : Int32} (hd : decode bytes pc = .ok (.lushr, 1)) (hr : Go p l e R s m args below meth c Z EL n0 own Q S h k n pc' Ls (.long z :: st)) (hp : pc' = pc + 1 := by rfl) (hz : Jvm.Free.XT.ushrL x y = z := by first | rfl | decide) : Go p l e R s m args below meth c Z EL n0 own Q S h k n pc Ls (.int y :: .long x :: st) := by
  subst hp
  exact plain hr fun T A t q => XT.lushr A B.1 rfl (hb B.2.1 hd) rfl (hz ▸ q)
theorem dup (B : Bdy p meth c Z EL a0 bytes maxL ret nm) {v : Value} (hd : decode bytes pc = .ok (.dup, 1)) (hr : Go p l e R s m args below meth c Z EL n0 own Q S h k n pc' Ls (v :: v :: st)) (hp : pc' = pc + 1 := by rfl) (hc : v.category = 1 := by rfl) : Go p l e R s m args below meth c Z EL n0 own Q S h k n pc Ls (v :: st) := by
  subst hp
  exact plain hr fun T A t q => XS.dup A B.1 rfl (hb B.2.1 hd) rfl hc q
theorem pop (B : Bdy p meth c Z EL a0 bytes maxL ret nm) {v : Value} (hd : decode bytes pc = .ok (.pop, 1)) (hr : Go p l e R s m args below meth c Z EL n0 own Q S h k n pc' Ls st) (hp : pc' = pc + 1 := by rfl) (hc : v.category = 1 := by rfl) : Go p l e R s m args below meth c Z EL n0 own Q S h k n pc Ls (v :: st) := by
  subst hp
  exact plain hr fun T A t q => XT.pop A B.1 rfl (hb B.2.1 hd) rfl hc q
theorem dupX1 (B : Bdy p meth c Z EL a0 bytes maxL ret nm) {v w : Value} (hd : decode bytes pc = .ok (.dup_x1, 1)) (hr : Go p l e R s m args below meth c Z EL n0 own Q S h k n pc' Ls (v :: w :: v :: st)) (hp : pc' = pc + 1 := by rfl) (hc : v.category = 1 := by rfl) (hc' : w.category = 1 := by rfl) : Go p l e R s m args below meth c Z EL n0 own Q S h k n pc Ls (v :: w :: st) := by
  subst hp
  exact plain hr fun T A t q => XT.dupX1 A B.1 rfl (hb B.2.1 hd) rfl hc hc' q
theorem goto (B : Bdy p meth c Z EL a0 bytes maxL ret nm) {o : Int} (hd : decode bytes pc = .ok (.goto o, 3)) (hr : Go p l e R s m args below meth c Z EL n0 own Q S h k n pc' Ls st) (ho : 0 ≤ (pc : Int) + o := by decide) (hp : ((pc : Int) + o).toNat = pc' := by decide) : Go p l e R s m args below meth c Z EL n0 own Q S h k n pc Ls st := plain hr fun T A t q => XS.goto A B.1 rfl (pc0 := pc) rfl (hb B.2.1 hd) ho hp q
theorem ifT (B : Bdy p meth c Z EL a0 bytes maxL ret nm) {cd : ClassFile.Cond} {x : Int32} {o : Int} (hd : decode bytes pc = .ok (.ifCond cd o, 3)) (hc : if_icmp.holds cd x 0 = true) (hr : Go p l e R s m args below meth c Z EL n0 own Q S h k n pc' Ls st) (ho : 0 ≤ (pc : Int) + o := by decide) (hp : ((pc : Int) + o).toNat = pc' := by decide) : Go p l e R s m args below meth c Z EL n0 own Q S h k n pc Ls (.int x :: st) := plain hr fun T A t q => XS.ifYes A B.1 rfl (pc0 := pc) rfl (hb B.2.1 hd) rfl ((if0 cd x).trans hc) ho hp q
theorem ifF (B : Bdy p meth c Z EL a0 bytes maxL ret nm) {cd : ClassFile.Cond} {x : Int32} {o : Int} (hd : decode bytes pc = .ok (.ifCond cd o, 3)) (hc : if_icmp.holds cd x 0 = false) (hr : Go p l e R s m args below meth c Z EL n0 own Q S h k n pc' Ls st) (hp : pc' = pc + 3 := by rfl) : Go p l e R s m args below meth c Z EL n0 own Q S h k n pc Ls (.int x :: st) := by
  subst hp
  exact plain hr fun T A t q => XS.ifNo A B.1 rfl (hb B.2.1 hd) rfl ((if0 cd x).trans hc) q
theorem icmpT (B : Bdy p meth c Z EL a0 bytes maxL ret nm) {cd : ClassFile.Cond} {x y : Int32} {o : Int} (hd : decode bytes pc = .ok (.if_icmp cd o, 3)) (hc : if_icmp.holds cd x y = true) (hr : Go p l e R s m args below meth c Z EL n0 own Q S h k n pc' Ls st) (ho : 0 ≤ (pc : Int) + o := by decide) (hp : ((pc : Int) + o).toNat = pc' := by decide) : Go p l e R s m args below meth c Z EL n0 own Q S h k n pc Ls (.int y :: .int x :: st) := plain hr fun T A t q => XS.icmpYes A B.1 rfl (pc0 := pc) rfl (hb B.2.1 hd) rfl hc ho hp q
theorem icmpF (B : Bdy p meth c Z EL a0 bytes maxL ret nm) {cd : ClassFile.Cond} {x y : Int32} {o : Int} (hd : decode bytes pc = .ok (.if_icmp cd o, 3)) (hc : if_icmp.holds cd x y = false) (hr : Go p l e R s m args below meth c Z EL n0 own Q S h k n pc' Ls st) (hp : pc' = pc + 3 := by rfl) : Go p l e R s m args below meth c Z EL n0 own Q S h k n pc Ls (.int y :: .int x :: st) := by
  subst hp
  exact plain hr fun T A t q => XS.icmpNo A B.1 rfl (hb B.2.1 hd) rfl hc q
theorem ifnullT (B : Bdy p meth c Z EL a0 bytes maxL ret nm) {o : Int} (hd : decode bytes pc = .ok (.ifnull o, 3)) (hr : Go p l e R s m args below meth c Z EL n0 own Q S h k n pc' Ls st) (ho : 0 ≤ (pc : Int) + o := by decide) (hp : ((pc : Int) + o).toNat = pc' := by decide) : Go p l e R s m args below meth c Z EL n0 own Q S h k n pc Ls (.null :: st) := plain hr fun T A t q => XS.ifnullYes A B.1 rfl (pc0 := pc) rfl (hb B.2.1 hd) rfl ho hp q
theorem ifnullF (B : Bdy p meth c Z EL a0 bytes maxL ret nm) {o : Int} {a : Addr} (hd : decode bytes pc = .ok (.ifnull o, 3)) (hr : Go p l e R s m args below meth c Z EL n0 own Q S h k n pc' Ls st) (hp : pc' = pc + 3 := by rfl) : Go p l e R s m args below meth c Z EL n0 own Q S h k n pc Ls (.ref a :: st) := by
  subst hp
  exact plain hr fun T A t q => XS.ifnullNo A B.1 rfl (hb B.2.1 hd) rfl q
theorem ifnonnullT (B : Bdy p meth c Z EL a0 bytes maxL ret nm) {o : Int} {a : Addr} (hd : decode bytes pc = .ok (.ifnonnull o, 3)) (hr : Go p l e R s m args below meth c Z EL n0 own Q S h k n pc' Ls st) (ho : 0 ≤ (pc : Int) + o := by decide) (hp : ((pc : Int) + o).toNat = pc' := by decide) : Go p l e R s m args below meth c Z EL n0 own Q S h k n pc Ls (.ref a :: st) := plain hr fun T A t q => XT.ifnonnullYes A B.1 rfl (pc0 := pc) rfl (hb B.2.1 hd) rfl ho hp q
theorem ifnonnullF (B : Bdy p meth c Z EL a0 bytes maxL ret nm) {o : Int} (hd : decode bytes pc = .ok (.ifnonnull o, 3)) (hr : Go p l e R s m args below meth c Z EL n0 own Q S h k n pc' Ls st) (hp : pc' = pc + 3 := by rfl) : Go p l e R s m args below meth c Z EL n0 own Q S h k n pc Ls (.null :: st) := by
  subst hp
  exact plain hr fun T A t q => XT.ifnonnullNo A B.1 rfl (hb B.2.1 hd) rfl q

theorem callStatic (B : Bdy p meth c Z EL a0 bytes maxL ret nm) {index : Nat} {y : MethodName} {bytes' : ByteArray} {maxL' : Nat} {ret' : Option FieldType} {rm : Room} {S1 : List Addr} {Q' : Po} {argsL : List Value} {ps : List FieldType} {rt : Option FieldType} {W : Nat} (hd : decode bytes pc = .ok (.invokestatic index, 3)) (w1 : (Jvm.Cond.methodLink own index y).before a0 Z = true) (w2 : (Jvm.Cond.static y).before a0 Z = true) (w3 : (Jvm.Cond.initialized y.cls).before a0 Z = true) (w4 : (Jvm.Cond.code y bytes' maxL' ret').before a0 Z = true) 
    (hM : Con l Z EL n0 y bytes' maxL' ret' [] rm argsL.toArray S1 h Q') (hpd : parseMethodDescriptor y.desc = some ⟨ps, rt⟩)
    (hr : ∀ v h' S', Q' v h' S' → h.size ≤ h'.size → Go p l e R s m args below meth c Z EL n0 own Q (S' ++ S) h' k' n' pc' Ls (v.toList ++ rest)) (hp : pc' = pc + 3 := by rfl) (hln : argsL.length = ps.length := by rfl) (hW : (rest.map fun v => v.category).sum ≤ W := by exact Nat.le_of_eq rfl) (hf : rm.frames + 1 ≤ R.frames := by decide) (hl : W + (maxL' + 11) + rm.locals ≤ R.locals := by decide) (hk : k + rm.cells ≤ k' := by decide) (hn : n + rm.slots ≤ n' := by decide) (hkR : k' ≤ R.cells := by decide) (hnR : n' ≤ R.slots := by decide) (hsub : ∀ x ∈ S1, x ∈ S := by simp) (hsz : Ls.size = maxL := by rfl) (hst : st = argsL.reverse ++ rest := by rfl) (hy : NoH y := by decide) : Go p l e R s m args below meth c Z EL n0 own Q S h k n pc Ls st := by
  subst hp hst
  intro T ⟨locs, vm0, k0, k1, n1, q1, q2, X, eT, hS, hk0, hZ, hown, N, O, C, SL⟩
  obtain ⟨v, vm1, P, hW1, X', h2, hg, hpost, hst⟩ := callSS X B.1 (y := y) hown (mvT (s := s.setVm vm0) hZ w1) (mvT (s := s.setVm vm0) hZ w2) (mvT (s := s.setVm vm0) hZ w3) (mvT (s := s.setVm vm0) hZ w4) hy (Con.back (W := W) hM hZ w4 w3 hf hl B.2.2.2.2.2.2.1 C.1 (SL.sub hsub)) (g := mkF m pc Ls (argsL.reverse ++ rest)) rfl (by rw [B.2.2.1]; exact hsz) (argsL := argsL) (rest := rest) (lenOf hpd hln) rfl (by show 2 * 0 + _ ≤ _; omega) (hb B.2.1 hd) (fun _ _ => ⟨rfl, eT, by show k1 + _ ≤ _; omega, by show n1 + _ ≤ _; omega⟩)
  exact after hS hk0 eT q1 q2 hk hn hZ hown N C SL X' h2 hg hpost hst hr
theorem callInit (B : Bdy p meth c Z EL a0 bytes maxL ret nm) {index : Nat} {y : MethodName} {bytes' : ByteArray} {maxL' : Nat} {rm : Room} {S1 : List Addr} {Q' : Po} {argsL : List Value} {ps : List FieldType} {rt : Option FieldType} {W : Nat} {a : Addr} (hd : decode bytes pc = .ok (.invokespecial index, 3)) (w1 : (Jvm.Cond.methodLink own index y).before a0 Z = true) (w2 : (Jvm.Cond.instanceMethod y).before a0 Z = true) (w3 : (Jvm.Cond.initialized y.cls).before a0 Z = true) (w4 : (Jvm.Cond.code y bytes' maxL' none).before a0 Z = true) 
    (hM : Con l Z EL n0 y bytes' maxL' none [] rm (.ref a :: argsL).toArray S1 h Q') (hpd : parseMethodDescriptor y.desc = some ⟨ps, rt⟩)
    (hr : ∀ v h' S', Q' v h' S' → h.size ≤ h'.size → Go p l e R s m args below meth c Z EL n0 own Q (S' ++ S) h' k' n' pc' Ls (v.toList ++ rest)) (hp : pc' = pc + 3 := by rfl) (hln : argsL.length = ps.length := by rfl) (hW : (rest.map fun v => v.category).sum ≤ W := by exact Nat.le_of_eq rfl) (hf : rm.frames + 1 ≤ R.frames := by decide) (hl : W + (maxL' + 11) + rm.locals ≤ R.locals := by decide) (hk : k + rm.cells ≤ k' := by decide) (hn : n + rm.slots ≤ n' := by decide) (hkR : k' ≤ R.cells := by decide) (hnR : n' ≤ R.slots := by decide) (hsub : ∀ x ∈ S1, x ∈ S := by simp) (hsz : Ls.size = maxL := by rfl) (hst : st = argsL.reverse ++ .ref a :: rest := by rfl) (hy : NoH y := by decide) (hy1 : y.name = "<init>" := by rfl) : Go p l e R s m args below meth c Z EL n0 own Q S h k n pc Ls st := by
  subst hp hst
  intro T ⟨locs, vm0, k0, k1, n1, q1, q2, X, eT, hS, hk0, hZ, hown, N, O, C, SL⟩
  obtain ⟨v, vm1, P, hW1, X', h2, hg, hpost, hst⟩ := X.specialBackS B.1 (y := y) hy1 hown (mvT (s := s.setVm vm0) hZ w1) (mvT (s := s.setVm vm0) hZ w2) (mvT (s := s.setVm vm0) hZ w4) hy (Con.back (W := W) hM hZ w4 w3 hf hl B.2.2.2.2.2.2.1 C.1 (SL.sub hsub)) (g := mkF m pc Ls (argsL.reverse ++ .ref a :: rest)) rfl (by rw [B.2.2.1]; exact hsz) (Steps.refl _) (a := a) (argsL := argsL) (rest := rest) (lenOf hpd hln) rfl (by show 2 * 0 + _ ≤ _; omega) (hb B.2.1 hd) (fun _ _ => ⟨rfl, eT, by show k1 + _ ≤ _; omega, by show n1 + _ ≤ _; omega⟩)
  exact after hS hk0 eT q1 q2 hk hn hZ hown N C SL X' h2 hg hpost hst hr
theorem callVirtual (B : Bdy p meth c Z EL a0 bytes maxL ret nm) {index : Nat} {y : MethodName} {bytes' : ByteArray} {maxL' : Nat} {ret' : Option FieldType} {rm : Room} {S1 : List Addr} {Q' : Po} {argsL : List Value} {ps : List FieldType} {rt : Option FieldType} {W : Nat} {a : Addr} {K K' : String} {z : MethodName} (hd : decode bytes pc = .ok (.invokevirtual index, 3)) (w1 : (Jvm.Cond.methodLink own index y).before a0 Z = true) (w2 : (Jvm.Cond.declares y).before a0 Z = true) (w0 : (Jvm.Cond.selects K' y y).before a0 Z = true) (w5 : (Jvm.Cond.selects K y z).before a0 Z = true) (w6 : (Jvm.Cond.instanceMethod z).before a0 Z = true) (w3 : (Jvm.Cond.initialized z.cls).before a0 Z = true) (w4 : (Jvm.Cond.code z bytes' maxL' ret').before a0 Z = true) (E : Exa Z h a K)
    (hM : Con l Z EL n0 z bytes' maxL' ret' [] rm (.ref a :: argsL).toArray S1 h Q') (hpd : parseMethodDescriptor y.desc = some ⟨ps, rt⟩)
    (hr : ∀ v h' S', Q' v h' S' → h.size ≤ h'.size → Go p l e R s m args below meth c Z EL n0 own Q (S' ++ S) h' k' n' pc' Ls (v.toList ++ rest)) (hp : pc' = pc + 3 := by rfl) (hln : argsL.length = ps.length := by rfl) (hW : (rest.map fun v => v.category).sum ≤ W := by exact Nat.le_of_eq rfl) (hf : rm.frames + 1 ≤ R.frames := by decide) (hl : W + (maxL' + 11) + rm.locals ≤ R.locals := by decide) (hk : k + rm.cells ≤ k' := by decide) (hn : n + rm.slots ≤ n' := by decide) (hkR : k' ≤ R.cells := by decide) (hnR : n' ≤ R.slots := by decide) (hsub : ∀ x ∈ S1, x ∈ S := by simp) (hsz : Ls.size = maxL := by rfl) (hst : st = argsL.reverse ++ .ref a :: rest := by rfl) (hy : NoH y := by decide) : Go p l e R s m args below meth c Z EL n0 own Q S h k n pc Ls st := by
  subst hp hst
  intro T ⟨locs, vm0, k0, k1, n1, q1, q2, X, eT, hS, hk0, hZ, hown, N, O, C, SL⟩
  obtain ⟨cq, kq, qa, qb, qc⟩ := isOf (s := s.setVm vm0) hZ eT E
  obtain ⟨v, vm1, P, hW1, X', h2, hg, hpost, hst⟩ := X.virtualBackS B.1 (y := y) (z := z) hown (mvT (s := s.setVm vm0) hZ w1) (mvT (s := s.setVm vm0) hZ w2) (notFace_of_selects (args := #[]) (mvT (s := s.setVm vm0) hZ w0)) (mvT (s := s.setVm vm0) hZ w5) (mvT (s := s.setVm vm0) hZ w6) hy (Con.back (W := W) hM hZ w4 w3 hf hl B.2.2.2.2.2.2.1 C.1 (SL.sub hsub)) qa qc (g := mkF m pc Ls (argsL.reverse ++ .ref a :: rest)) rfl (by rw [B.2.2.1]; exact hsz) (Steps.refl _) (argsL := argsL) (rest := rest) (lenOf hpd hln) rfl (by show 2 * 0 + _ ≤ _; omega) (hb B.2.1 hd) (fun _ _ => ⟨rfl, eT, by show k1 + _ ≤ _; omega, by show n1 + _ ≤ _; omega⟩)
  exact after hS hk0 eT q1 q2 hk hn hZ hown N C SL X' h2 hg hpost hst hr
theorem callFace (B : Bdy p meth c Z EL a0 bytes maxL ret nm) {index : Nat} {y : MethodName} {bytes' : ByteArray} {maxL' : Nat} {ret' : Option FieldType} {rm : Room} {S1 : List Addr} {Q' : Po} {argsL : List Value} {ps : List FieldType} {rt : Option FieldType} {W : Nat} {a : Addr} {K : String} {z : MethodName} {count : Nat} (hd : decode bytes pc = .ok (.invokeinterface index count, 5)) (w1 : (Jvm.Cond.methodLink own index y).before a0 Z = true) (w2 : (Jvm.Cond.declares y).before a0 Z = true) (w7 : (Jvm.Cond.interfaceMethod y.cls y.cls y.name y.desc).before a0 Z = true) (w5 : (Jvm.Cond.selects K y z).before a0 Z = true) (w6 : (Jvm.Cond.instanceMethod z).before a0 Z = true) (w8 : (Jvm.Cond.publicMethod z).before a0 Z = true) (w9 : (Jvm.Cond.unhidden K y.name y.desc).before a0 Z = true) (w10 : (Jvm.Cond.castable K y.cls).before a0 Z = true) (w3 : (Jvm.Cond.initialized z.cls).before a0 Z = true) (w4 : (Jvm.Cond.code z bytes' maxL' ret').before a0 Z = true) (E : Exa Z h a K)
    (hM : Con l Z EL n0 z bytes' maxL' ret' [] rm (.ref a :: argsL).toArray S1 h Q') (hpd : parseMethodDescriptor y.desc = some ⟨ps, rt⟩)
    (hr : ∀ v h' S', Q' v h' S' → h.size ≤ h'.size → Go p l e R s m args below meth c Z EL n0 own Q (S' ++ S) h' k' n' pc' Ls (v.toList ++ rest)) (hp : pc' = pc + 5 := by rfl) (hln : argsL.length = ps.length := by rfl) (hW : (rest.map fun v => v.category).sum ≤ W := by exact Nat.le_of_eq rfl) (hf : rm.frames + 1 ≤ R.frames := by decide) (hl : W + (maxL' + 11) + rm.locals ≤ R.locals := by decide) (hk : k + rm.cells ≤ k' := by decide) (hn : n + rm.slots ≤ n' := by decide) (hkR : k' ≤ R.cells := by decide) (hnR : n' ≤ R.slots := by decide) (hsub : ∀ x ∈ S1, x ∈ S := by simp) (hsz : Ls.size = maxL := by rfl) (hst : st = argsL.reverse ++ .ref a :: rest := by rfl) (hy : NoH y := by decide) : Go p l e R s m args below meth c Z EL n0 own Q S h k n pc Ls st := by
  subst hp hst
  intro T ⟨locs, vm0, k0, k1, n1, q1, q2, X, eT, hS, hk0, hZ, hown, N, O, C, SL⟩
  obtain ⟨cq, kq, qa, qb, qc⟩ := isOf (s := s.setVm vm0) hZ eT E
  obtain ⟨v, vm1, P, hW1, X', h2, hg, hpost, hst⟩ := X.interfaceBackS B.1 (xi := y) (y := z) hown (mvT (s := s.setVm vm0) hZ w1) (mvT (s := s.setVm vm0) hZ w2) (mvFace (s := s.setVm vm0) hZ hy w7) (mvT (s := s.setVm vm0) hZ w5) (mvT (s := s.setVm vm0) hZ w6) (mvPub (s := s.setVm vm0) hZ w8) (mvUnh (s := s.setVm vm0) hZ w9) (mvT (s := s.setVm vm0) hZ w10) hy (Con.back (W := W) hM hZ w4 w3 hf hl B.2.2.2.2.2.2.1 C.1 (SL.sub hsub)) qa qb qc (g := mkF m pc Ls (argsL.reverse ++ .ref a :: rest)) rfl (by rw [B.2.2.1]; exact hsz) (Steps.refl _) (argsL := argsL) (rest := rest) (lenOf hpd hln) rfl (by show 2 * 0 + _ ≤ _; omega) (hb B.2.1 hd) (fun _ _ => ⟨rfl, eT, by show k1 + _ ≤ _; omega, by show n1 + _ ≤ _; omega⟩)
  exact after hS hk0 eT q1 q2 hk hn hZ hown N C SL X' h2 hg hpost hst hr

theorem newObj (B : Bdy p meth c Z EL a0 bytes maxL ret nm) {index nn : Nat} {K : String} (hd : decode bytes pc = .ok (.new index, 3)) (w : (Jvm.Cond.classLink own index K).before a0 Z = true) (wi : (Jvm.Cond.instantiable K nn).before a0 Z = true) (wz : (Jvm.Cond.initialized K).before a0 Z = true) 
    (hr : ∀ (h' : Heap) (a : Nat), a = h.size → n0 ≤ a → Keep h h' [] → Exa Z h' a K → (∀ {O f d : String} {ty : FieldType}, Laid Z a0 K O f d → parseFieldDescriptor d = some ty → Fld Z h' a O f d (defaultValue ty)) → Go p l e R s m args below meth c Z EL n0 own Q (a :: S) h' k' n' pc' Ls (.ref a :: st)) (hp : pc' = pc + 3 := by rfl) (hk : k + 1 ≤ k' := by decide) (hn : n + nn ≤ n' := by decide) (hkR : k' ≤ R.cells := by decide) (hnR : n' ≤ R.slots := by decide) : Go p l e R s m args below meth c Z EL n0 own Q S h k n pc Ls st := by
  subst hp
  refine made (dc := 0) (dn := 0) (nn := nn) (P := fun h' => Exa Z h' h.size K ∧ ∀ (O f d : String) (ty : FieldType), Laid Z a0 K O f d → parseFieldDescriptor d = some ty → Fld Z h' h.size O f d (defaultValue ty)) hk hn ?_ (fun h' E P q => hr h' h.size rfl q (keepE E) P.1 (fun {O f d ty} a b => P.2 O f d ty a b))
  intro T vm0 locs k1 n1 q1 q2 X eT hZ hown
  obtain ⟨T', h', X', e', E, A, D, -, st⟩ := newO X B.1 hZ hown w wi wz eT (g := mkF m pc Ls st) rfl (hb B.2.1 hd) (by omega) (by omega)
  exact ⟨T', h', X', e', E, A.lt, ⟨A, fun O f d ty a b => D a b⟩, st⟩
theorem newArr (B : Bdy p meth c Z EL a0 bytes maxL ret nm) {aty : ArrayType} {z : Int32} {cap : Nat} (hd : decode bytes pc = .ok (.newarray aty, 2)) (w : (Jvm.Cond.arrayClass (newarray.typeOf aty)).before a0 Z = true) (hz : ¬ z < 0) (hcap : z.toNatClampNeg ≤ cap) 
    (hr : ∀ (h' : Heap) (a : Nat) (cA : ClassId), a = h.size → n0 ≤ a → Keep h h' [] → Arv Z h' a cA (newarray.typeOf aty) z [] (defaultValue (newarray.typeOf aty)) → Go p l e R s m args below meth c Z EL n0 own Q (a :: S) h' k' n' pc' Ls (.ref a :: rest)) (hp : pc' = pc + 2 := by rfl) (hk : k + 1 ≤ k' := by decide) (hn : n + cap ≤ n' := by decide) (hkR : k' ≤ R.cells := by decide) (hnR : n' ≤ R.slots := by decide) (hcb : cap * 8 ≤ 536870912 := by decide) : Go p l e R s m args below meth c Z EL n0 own Q S h k n pc Ls (.int z :: rest) := by
  subst hp
  refine made (dc := 0) (dn := 0) (nn := cap) (P := fun h' => ∃ cA, Arr Z h' h.size (newA cA (newarray.typeOf aty) z) (newarray.typeOf aty)) hk hn ?_ (fun h' E P q => P.elim fun cA A => hr h' h.size cA rfl q (keepE E) (Arv.new A hz))
  intro T vm0 locs k1 n1 q1 q2 X eT hZ hown
  obtain ⟨T', h', cA, X', e', E, A, st⟩ := newP X B.1 hZ w eT (g := mkF m pc Ls (.int z :: rest)) rfl (hb B.2.1 hd) (n := z) rfl hz hcap hcb (by omega) (by omega)
  exact ⟨T', h', X', e', E, A.lt, ⟨cA, A⟩, st⟩
theorem getfield (B : Bdy p meth c Z EL a0 bytes maxL ret nm) {index : Nat} {R0 O f d : String} {a : Addr} {v : Value} (hd : decode bytes pc = .ok (.getfield index, 3)) (w : (Jvm.Cond.fieldLink own index R0 f d).before a0 Z = true) (via : Via Z R0 O f d) (F : Fld Z h a O f d v) (hr : Go p l e R s m args below meth c Z EL n0 own Q S h k n pc' Ls (v :: rest)) (hp : pc' = pc + 3 := by rfl) : Go p l e R s m args below meth c Z EL n0 own Q S h k n pc Ls (.ref a :: rest) := by
  subst hp
  exact warm hr fun T vm0 locs k1 n1 X eT hZ hown _ => getF X B.1 hZ hown (host := "") (Or.inl w) via eT F (g := mkF m pc Ls (.ref a :: rest)) rfl rfl (hb B.2.1 hd)
theorem getfieldN (B : Bdy p meth c Z EL a0 bytes maxL ret nm) {index : Nat} {R0 O f d host : String} {a : Addr} {v : Value} (hd : decode bytes pc = .ok (.getfield index, 3)) (w : (Jvm.Cond.fieldLinkNest own index R0 f d host).before a0 Z = true) (via : Via Z R0 O f d) (F : Fld Z h a O f d v) (hr : Go p l e R s m args below meth c Z EL n0 own Q S h k n pc' Ls (v :: rest)) (hp : pc' = pc + 3 := by rfl) : Go p l e R s m args below meth c Z EL n0 own Q S h k n pc Ls (.ref a :: rest) := by
  subst hp
  exact warm hr fun T vm0 locs k1 n1 X eT hZ hown _ => getF X B.1 hZ hown (host := host) (Or.inr w) via eT F (g := mkF m pc Ls (.ref a :: rest)) rfl rfl (hb B.2.1 hd)
theorem getstatic (B : Bdy p meth c Z EL a0 bytes maxL ret nm) {index : Nat} {R0 O f d : String} {v : Value} (hd : decode bytes pc = .ok (.getstatic index, 3)) (w : (Jvm.Cond.fieldLink own index R0 f d).before a0 Z = true) (via : Via Z R0 O f d) (F : Sta Z Z.heap O f d v) (hr : Go p l e R s m args below meth c Z EL n0 own Q S h k n pc' Ls (v :: st)) (hp : pc' = pc + 3 := by rfl) : Go p l e R s m args below meth c Z EL n0 own Q S h k n pc Ls st := by
  subst hp
  exact warm hr fun T vm0 locs k1 n1 X eT hZ hown O => getS X B.1 hZ hown (host := "") w via eT (F.ext O.2) (g := mkF m pc Ls st) rfl (hb B.2.1 hd)
theorem getstaticN (B : Bdy p meth c Z EL a0 bytes maxL ret nm) {index : Nat} {R0 O f d host : String} {v : Value} (hd : decode bytes pc = .ok (.getstatic index, 3)) (w : (Jvm.Cond.fieldLinkNest own index R0 f d host).before a0 Z = true) (via : Via Z R0 O f d) (F : Sta Z Z.heap O f d v) (hr : Go p l e R s m args below meth c Z EL n0 own Q S h k n pc' Ls (v :: st)) (hp : pc' = pc + 3 := by rfl) : Go p l e R s m args below meth c Z EL n0 own Q S h k n pc Ls st := by
  subst hp
  exact warm hr fun T vm0 locs k1 n1 X eT hZ hown O => getS2 X B.1 hZ hown (host := host) (Or.inr w) via eT (F.ext O.2) (g := mkF m pc Ls st) rfl (hb B.2.1 hd)
theorem putfield (B : Bdy p meth c Z EL a0 bytes maxL ret nm) {index kk : Nat} {R0 O f d K : String} {ty : FieldType} {a : Addr} {v old : Value} (hd : decode bytes pc = .ok (.putfield index, 3)) (w : (Jvm.Cond.fieldLink own index R0 f d).before a0 Z = true) (via : Via Z R0 O f d) (F : Fld Z h a O f d old) (E : Exa Z h a K) (L : (Jvm.Cond.lays K O f d).before a0 Z = true ∨ ((Jvm.Cond.laysFinal K O f d).before a0 Z = true ∧ own = O ∧ nm = "<init>")) (wi : (Jvm.Cond.instantiable K kk).before a0 Z = true)
    (hsafe : a ∈ S ∨ (K ≠ "java/lang/String" ∧ K ≠ "[B")) (hr : ∀ h', Wr h h' a (RoadKit.slotOf Z O f d) v → Go p l e R s m args below meth c Z EL n0 own Q S h' k n pc' Ls rest) (hp : pc' = pc + 3 := by rfl) (hty : parseFieldDescriptor d = some ty := by decide) (hnn : narrow ty v = v := by rfl) (hfit : fits ty v = true := by first | rfl | decide) (ha : n0 ≤ a := by omega) : Go p l e R s m args below meth c Z EL n0 own Q S h k n pc Ls (v :: .ref a :: rest) := by
  subst hp
  exact wrote ha (fun vm0 hZ SL => hsafe.elim (fun q => (SL a q).2) (fun q => Safe.exa hZ.alike E q.1 q.2)) (fun T vm0 locs k1 n1 X eT hZ hown => putF X B.1 hZ hown (host := "") (Or.inl w) via eT F E (L.imp id fun ⟨u, v, w⟩ => ⟨u, v, B.2.2.2.2.1.trans w⟩) wi hty hnn hfit (g := mkF m pc Ls (v :: .ref a :: rest)) rfl rfl (hb B.2.1 hd)) hr
theorem castore (B : Bdy p meth c Z EL a0 bytes maxL ret nm) {a : Addr} {kc : ClassId} {z j x : Int32} {vs : List Value} {dv : Value} {i : Nat} (hd : decode bytes pc = .ok (.castore, 1)) (A : Arv Z h a kc .char z vs dv) (hj : ¬ j < 0 ∧ j < z) 
    (hr : ∀ h', Keep h h' [a] → Arv Z h' a kc .char z (vs.set i (.int (nar .char x))) dv → Go p l e R s m args below meth c Z EL n0 own Q S h' k n pc' Ls rest) (hp : pc' = pc + 1 := by rfl) (ha : n0 ≤ a := by omega) (hlt : i < vs.length := by simp) (hi : j.toNatClampNeg = i := by decide) : Go p l e R s m args below meth c Z EL n0 own Q S h k n pc Ls (.int x :: .int j :: .ref a :: rest) := by
  subst hp
  obtain ⟨cl, A1, A2, A3, A4, A5, A6⟩ := A
  exact wrote ha (fun vm0 hZ SL => Safe.arr hZ.alike A1 (by decide)) (fun T vm0 locs k1 n1 X eT hZ hown => stC X B.1 hZ eT A1 (inb_of A3 hj) (g := mkF m pc Ls (.int x :: .int j :: .ref a :: rest)) rfl rfl (hb B.2.1 hd)) (fun h' W => hr h' (Keep.of_wr W) (Arv.set A1 A2 A3 A4 A5 A6 (fits_nar_char x) W i hi hlt))
theorem bastore (B : Bdy p meth c Z EL a0 bytes maxL ret nm) {a : Addr} {kc : ClassId} {z j x : Int32} {vs : List Value} {dv : Value} {i : Nat} (hd : decode bytes pc = .ok (.bastore, 1)) (A : Arv Z h a kc .byte z vs dv) (hj : ¬ j < 0 ∧ j < z) (hsafe : a ∈ S)
    (hr : ∀ h', Keep h h' [a] → Arv Z h' a kc .byte z (vs.set i (.int (nar .byte x))) dv → Go p l e R s m args below meth c Z EL n0 own Q S h' k n pc' Ls rest) (hp : pc' = pc + 1 := by rfl) (ha : n0 ≤ a := by omega) (hlt : i < vs.length := by simp) (hi : j.toNatClampNeg = i := by decide) : Go p l e R s m args below meth c Z EL n0 own Q S h k n pc Ls (.int x :: .int j :: .ref a :: rest) := by
  subst hp
  obtain ⟨cl, A1, A2, A3, A4, A5, A6⟩ := A
  exact wrote ha (fun vm0 hZ SL => (SL a hsafe).2) (fun T vm0 locs k1 n1 X eT hZ hown => stB X B.1 hZ eT A1 (inb_of A3 hj) (g := mkF m pc Ls (.int x :: .int j :: .ref a :: rest)) rfl rfl (hb B.2.1 hd)) (fun h' W => hr h' (Keep.of_wr W) (Arv.set A1 A2 A3 A4 A5 A6 (fits_nar_byte x) W i hi hlt))
theorem arrlen (B : Bdy p meth c Z EL a0 bytes maxL ret nm) {a : Addr} {kc : ClassId} {ty : FieldType} {z : Int32} {vs : List Value} {dv : Value} (hd : decode bytes pc = .ok (.arraylength, 1)) (A : Arv Z h a kc ty z vs dv) (hr : Go p l e R s m args below meth c Z EL n0 own Q S h k n pc' Ls (.int z :: rest)) (hp : pc' = pc + 1 := by rfl) : Go p l e R s m args below meth c Z EL n0 own Q S h k n pc Ls (.ref a :: rest) := by
  subst hp
  obtain ⟨cl, A1, A2, A3, A4, A5, A6⟩ := A
  exact warm hr fun T vm0 locs k1 n1 X eT hZ hown _ => ⟨T, X, eT, fun t q => X.arraylength B.1 (by rw [eT]; exact A1.1) (State.isArrayOf_alike hZ.alike A1.2.1) (g := mkF m pc Ls (.ref a :: rest)) rfl rfl (hb B.2.1 hd) t (by rw [len_of A3 A4]; exact q)⟩
theorem caload (B : Bdy p meth c Z EL a0 bytes maxL ret nm) {a : Addr} {kc : ClassId} {z j : Int32} {vs : List Value} {dv v : Value} (hd : decode bytes pc = .ok (.caload, 1)) (A : Arv Z h a kc .char z vs dv) (hj : ¬ j < 0 ∧ j < z) (hv : vs.getD j.toNatClampNeg dv = v) (hr : Go p l e R s m args below meth c Z EL n0 own Q S h k n pc' Ls (v :: rest)) (hp : pc' = pc + 1 := by rfl) : Go p l e R s m args below meth c Z EL n0 own Q S h k n pc Ls (.int j :: .ref a :: rest) := by
  subst hp
  obtain ⟨cl, A1, A2, A3, A4, A5, A6⟩ := A
  exact warm hr fun T vm0 locs k1 n1 X eT hZ hown _ => ⟨T, X, eT, fun t q => X.caload B.1 (by rw [eT]; exact A1.1) (State.isArrayOf_alike hZ.alike A1.2.1) A1.2.2 (inb_of A3 hj) (Has.at A5 (inb_of A3 hj) hv) (g := mkF m pc Ls (.int j :: .ref a :: rest)) rfl rfl (hb B.2.1 hd) t q⟩
theorem baload (B : Bdy p meth c Z EL a0 bytes maxL ret nm) {a : Addr} {kc : ClassId} {z j : Int32} {vs : List Value} {dv v : Value} (hd : decode bytes pc = .ok (.baload, 1)) (A : Arv Z h a kc .byte z vs dv) (hj : ¬ j < 0 ∧ j < z) (hv : vs.getD j.toNatClampNeg dv = v) (hr : Go p l e R s m args below meth c Z EL n0 own Q S h k n pc' Ls (v :: rest)) (hp : pc' = pc + 1 := by rfl) : Go p l e R s m args below meth c Z EL n0 own Q S h k n pc Ls (.int j :: .ref a :: rest) := by
  subst hp
  obtain ⟨cl, A1, A2, A3, A4, A5, A6⟩ := A
  exact warm hr fun T vm0 locs k1 n1 X eT hZ hown _ => ⟨T, X, eT, fun t q => X.baloadBytes B.1 (by rw [eT]; exact A1.1) (State.isArrayOf_alike hZ.alike A1.2.1) A1.2.2 (inb_of A3 hj) (Has.at A5 (inb_of A3 hj) hv) (g := mkF m pc Ls (.int j :: .ref a :: rest)) rfl rfl (hb B.2.1 hd) t q⟩
theorem aaload (B : Bdy p meth c Z EL a0 bytes maxL ret nm) {a : Addr} {kc : ClassId} {ty : FieldType} {z j : Int32} {vs : List Value} {dv v : Value} (hd : decode bytes pc = .ok (.aaload, 1)) (hty : ty.isReference = true) (A : Arv Z h a kc ty z vs dv) (hj : ¬ j < 0 ∧ j < z) (hv : vs.getD j.toNatClampNeg dv = v) (hr : Go p l e R s m args below meth c Z EL n0 own Q S h k n pc' Ls (v :: rest)) (hp : pc' = pc + 1 := by rfl) : Go p l e R s m args below meth c Z EL n0 own Q S h k n pc Ls (.int j :: .ref a :: rest) := by
  subst hp
  obtain ⟨cl, A1, A2, A3, A4, A5, A6⟩ := A
  exact warm hr fun T vm0 locs k1 n1 X eT hZ hown _ => ⟨T, X, eT, fun t q => X.aaload B.1 (by rw [eT]; exact A1.1) (State.isArrayOf_alike hZ.alike A1.2.1) hty A1.2.2 (inb_of A3 hj) (Has.at A5 (inb_of A3 hj) hv) (g := mkF m pc Ls (.int j :: .ref a :: rest)) rfl rfl (hb B.2.1 hd) t q⟩
theorem checkcast (B : Bdy p meth c Z EL a0 bytes maxL ret nm) {index : Nat} {K : String} {a : Addr} (hd : decode bytes pc = .ok (.checkcast index, 3)) (w : (Jvm.Cond.classLink own index K).before a0 Z = true) (F : Ins Z h a K true) (hr : Go p l e R s m args below meth c Z EL n0 own Q S h k n pc' Ls (.ref a :: rest)) (hp : pc' = pc + 3 := by rfl) : Go p l e R s m args below meth c Z EL n0 own Q S h k n pc Ls (.ref a :: rest) := by
  subst hp
  exact warm hr fun T vm0 locs k1 n1 X eT hZ hown _ => castY X B.1 hZ hown w eT F (g := mkF m pc Ls (.ref a :: rest)) rfl rfl (hb B.2.1 hd)
theorem instYes (B : Bdy p meth c Z EL a0 bytes maxL ret nm) {index : Nat} {K : String} {a : Addr} (hd : decode bytes pc = .ok (.instanceof index, 3)) (w : (Jvm.Cond.classLink own index K).before a0 Z = true) (F : Ins Z h a K true) (hr : Go p l e R s m args below meth c Z EL n0 own Q S h k n pc' Ls (.int 1 :: rest)) (hp : pc' = pc + 3 := by rfl) : Go p l e R s m args below meth c Z EL n0 own Q S h k n pc Ls (.ref a :: rest) := by
  subst hp
  exact warm hr fun T vm0 locs k1 n1 X eT hZ hown _ => instY X B.1 hZ hown w eT F (g := mkF m pc Ls (.ref a :: rest)) rfl rfl (hb B.2.1 hd)
theorem objInit (B : Bdy p meth c Z EL a0 bytes maxL ret nm) {index W : Nat} {a : Addr} (hd : decode bytes pc = .ok (.invokespecial index, 3)) (w1 : (Jvm.Cond.methodLink own index Lib.objectInit).before a0 Z = true) (w2 : (Jvm.Cond.instanceMethod Lib.objectInit).before a0 Z = true) (w3 : (Jvm.Cond.code Lib.objectInit ⟨#[0xb1]⟩ 1 none).before a0 Z = true) (hr : Go p l e R s m args below meth c Z EL n0 own Q S h k n pc' Ls rest) (hp : pc' = pc + 3 := by rfl) (hsz : Ls.size = maxL := by rfl) (hW : (rest.map fun v => v.category).sum ≤ W := by exact Nat.le_of_eq rfl) (hf : 1 ≤ R.frames := by decide) (hl : W + 12 ≤ R.locals := by decide) : Go p l e R s m args below meth c Z EL n0 own Q S h k n pc Ls (.ref a :: rest) := by
  subst hp
  exact warm hr fun T vm0 locs k1 n1 X eT hZ hown _ => initO X B.1 hZ hown w1 w2 w3 eT (g := mkF m pc Ls (.ref a :: rest)) rfl (by rw [B.2.2.1]; exact hsz) rfl (hb B.2.1 hd) hf (W := W) (by show 2 * 0 + _ ≤ _; omega) hl
theorem ldcInt (B : Bdy p meth c Z EL a0 bytes maxL ret nm) {index : Nat} {x : Int32} (hd : decode bytes pc = .ok (.ldc index, 2)) (w : (Jvm.Cond.constant own index x).before a0 Z = true) (hr : Go p l e R s m args below meth c Z EL n0 own Q S h k n pc' Ls (.int x :: st)) (hp : pc' = pc + 2 := by rfl) : Go p l e R s m args below meth c Z EL n0 own Q S h k n pc Ls st := by
  subst hp
  exact warm hr fun T vm0 locs k1 n1 X eT hZ hown _ => ⟨T, X, eT, fun t q => X.ldcInt B.1 hown (mvT (s := s.setVm vm0) hZ w) (g := mkF m pc Ls st) rfl (hb B.2.1 hd) t q⟩
theorem ldcAny (B : Bdy p meth c Z EL a0 bytes maxL ret nm) {index nn : Nat} {text : String} (hd : decode bytes pc = .ok (.ldc index, 2)) (w : (Jvm.Cond.stringLink own index text).before a0 Z = true) 
    (hr : ∀ (h' : Heap) (a : Nat), Keep h h' [] → Go p l e R s m args below meth c Z EL n0 own Q S h' k' n' pc' Ls (.ref a :: st)) (hp : pc' = pc + 2 := by rfl) (hk : k + 2 ≤ k' := by decide) (hn : n + (nn + 4) ≤ n' := by decide) (hkR : k' ≤ R.cells := by decide) (hnR : n' ≤ R.slots := by decide) (hnn : 4 * text.toList.length ≤ nn := by decide) (hbig : nn ≤ 536870912 := by decide) : Go p l e R s m args below meth c Z EL n0 own Q S h k n pc Ls st := by
  subst hp
  intro T ⟨locs, vm0, k0, k1, n1, q1, q2, X, eT, hS, hk0, hZ, hown, N, O, C, SL⟩
  obtain ⟨a, T', h', k2, X', e', E, hS', hk', hZ', hown', C', -, sp⟩ := ldcOH (EL := EL) X B.1 hZ hown w B.2.2.2.2.2.2.2 eT hS hk0 B.2.2.2.2.2.2.1 C.1 (g := mkF m pc Ls st) rfl (hb B.2.1 hd) hnn hbig (by omega) (by omega)
  obtain ⟨s2, o, q, r2⟩ := hr h' a (keepE E) T' ⟨locs, T'.vm, k2, k1 + 2, n1 + (nn + 4), by omega, by omega, X', e', hS', hk', hZ', hown', N, O.ext E, C.trans C', SL.chr C'⟩
  exact ⟨s2, o, sp _ q, r2⟩
theorem ldcText (B : Bdy p meth c Z EL a0 bytes maxL ret nm) {index nn : Nat} {text : String} (hd : decode bytes pc = .ok (.ldc index, 2)) (w : (Jvm.Cond.stringLink own index text).before a0 Z = true) (hmem : (own, index) ∈ EL) {vs : List Value} {z : Int32} (ht : (∀ c ∈ text.toList, c.toNat < 256) ∧ text.toList.map (fun c => Value.int (Jvm.Lit.byteI c.toNat.toUInt16)) = vs) (hz : ¬ z < 0) (hlz : z.toNatClampNeg = vs.length) 
    (hr : ∀ (h' : Heap) (a b : Nat) (kb : ClassId), Keep h h' [] → Exa Z h' a "java/lang/String" → Fld Z h' a "java/lang/String" "coder" "B" (.int 0) → Fld Z h' a "java/lang/String" "value" "[B" (.ref b) → Arv Z h' b kb .byte z vs (.int 0) → (∀ x ∈ S, x ≠ a ∧ x ≠ b) → Go p l e R s m args below meth c Z EL n0 own Q S h' k' n' pc' Ls (.ref a :: st)) (hp : pc' = pc + 2 := by rfl) (hk : k + 2 ≤ k' := by decide) (hn : n + (nn + 4) ≤ n' := by decide) (hkR : k' ≤ R.cells := by decide) (hnR : n' ≤ R.slots := by decide) (hnn : 4 * text.toList.length ≤ nn := by decide) (hbig : nn ≤ 536870912 := by decide) : Go p l e R s m args below meth c Z EL n0 own Q S h k n pc Ls st := by
  subst hp
  intro T ⟨locs, vm0, k0, k1, n1, q1, q2, X, eT, hS, hk0, hZ, hown, N, O, C, SL⟩
  obtain ⟨a, T', h', k2, b, kb, X', e', E, hS', hk', hZ', hown', f1, f2, f3, f4, -, -, C', -, ne, sp⟩ := ldcCH (EL := EL) X B.1 hZ hown w B.2.2.2.2.2.2.2 eT hS hk0 B.2.2.2.2.2.2.1 hmem C.1 ht hz hlz (g := mkF m pc Ls st) rfl (hb B.2.1 hd) hnn hbig (by omega) (by omega)
  have SL' := SL.chr C'
  obtain ⟨s2, o, q, r2⟩ := hr h' a b kb (keepE E) f1 f2 f3 f4 (fun x hx => ne x (SL' x hx).2) T' ⟨locs, T'.vm, k2, k1 + 2, n1 + (nn + 4), by omega, by omega, X', e', hS', hk', hZ', hown', N, O.ext E, C.trans C', SL'⟩
  exact ⟨s2, o, sp _ q, r2⟩
theorem finish (B : Bdy p meth c Z EL a0 bytes maxL ret nm) {v : Option Value} (hv : ret = none → v = none) (hQ : Q v h S') 
    (sp : ∀ (s' T : State) (locs : List Loc) (k1 n1 : Nat) (fs : List Frame), Stand p l e R s' m args below meth c T locs k1 n1 → (∀ (f : JFrame) (acts : List Action), f.method = m → f.locked = none → f.entered = [] → (doReturn e (T.setTop f) acts v).1 = T.setFrames fs) → Steps p.tables e below (T.setTop (mkF m pc Ls st)) (T.setFrames fs)) (hkR : k ≤ R.cells := by decide) (hnR : n ≤ R.slots := by decide) (hsub : ∀ x ∈ S', x ∈ S := by simp) : Go p l e R s m args below meth c Z EL n0 own Q S h k n pc Ls st := by
  intro T ⟨locs, vm0, k0, k1, n1, q1, q2, X, eT, hS, hk0, hZ, hown, N, O, C, SL⟩
  obtain ⟨fs, hr, hrun, hended, hE⟩ := X.leaveW (v := v) hS (by rw [eT]; exact hk0) (fun z => hv (B.2.2.2.1.symm.trans z)) B.2.2.2.2.2.1
  have A := CHv.at X hZ B.2.2.2.2.2.2.1 C.1
  subst eT
  exact ⟨_, _, sp _ T locs k1 n1 fs X hr, hrun, hended, v, locs, S', rfl, ⟨hQ, N, O, (SL.chr A).sub hsub⟩, C.trans A, hE.1, hE.2.1, hE.2.2.1, hE.2.2.2.mono (by omega) (by omega)⟩
theorem retV (B : Bdy p meth c Z EL a0 bytes maxL ret nm) (hd : decode bytes pc = .ok (.return_, 1)) (hQ : Q none h S') (hkR : k ≤ R.cells := by decide) (hnR : n ≤ R.slots := by decide) (hret : ret = none := by rfl) (hsub : ∀ x ∈ S', x ∈ S := by simp) : Go p l e R s m args below meth c Z EL n0 own Q S h k n pc Ls [] :=
  finish B (fun _ => rfl) hQ (fun s' T locs k1 n1 fs X hr => X.returnOut B.1 (B.2.2.2.1.trans hret) (hb B.2.1 hd) hr) hkR hnR hsub
theorem retA (B : Bdy p meth c Z EL a0 bytes maxL ret nm) {t : FieldType} {w : Value} (hd : decode bytes pc = .ok (.areturn, 1)) (hQ : Q (some w) h S') (hkR : k ≤ R.cells := by decide) (hnR : n ≤ R.slots := by decide) (hret : ret = some t := by rfl) (hsub : ∀ x ∈ S', x ∈ S := by simp) (hw : w.isRef = true := by rfl) (hnn : narrow t w = w := by rfl) (ht : t.isReference = true := by rfl) : Go p l e R s m args below meth c Z EL n0 own Q S h k n pc Ls (w :: rest) :=
  finish B (fun z => by rw [hret] at z; cases z) hQ (fun s' T locs k1 n1 fs X hr => retOut X B.1 (B.2.2.2.1.trans hret) hnn (Or.inr (Or.inr (Or.inr (Or.inr ⟨rfl, ht, hw⟩)))) (hb B.2.1 hd) hr) hkR hnR hsub
theorem retI (B : Bdy p meth c Z EL a0 bytes maxL ret nm) {t : FieldType} {w : Int32} (hd : decode bytes pc = .ok (.ireturn, 1)) (hQ : Q (some (.int w)) h S') (hkR : k ≤ R.cells := by decide) (hnR : n ≤ R.slots := by decide) (hret : ret = some t := by rfl) (hsub : ∀ x ∈ S', x ∈ S := by simp) (hnn : narrow t (.int w) = .int w := by rfl) (ht : t = .int ∨ t = .boolean ∨ t = .byte ∨ t = .char ∨ t = .short := by simp) : Go p l e R s m args below meth c Z EL n0 own Q S h k n pc Ls (.int w :: rest) :=
  finish B (fun z => by rw [hret] at z; cases z) hQ (fun s' T locs k1 n1 fs X hr => retOut X B.1 (B.2.2.2.1.trans hret) hnn (Or.inl ⟨rfl, ht, _, rfl⟩) (hb B.2.1 hd) hr) hkR hnR hsub
theorem acmpR (B : Bdy p meth c Z EL a0 bytes maxL ret nm) {cd : ACond} {x y : Value} {o : Int} {same : Bool} (hd : decode bytes pc = .ok (.if_acmp cd o, 3)) (hq : decide (x = y) = same) (hr : Go p l e R s m args below meth c Z EL n0 own Q S h k n pc' Ls rest) (ho : 0 ≤ (pc : Int) + o := by decide) (hp : pc' = if acV cd same = true then ((pc : Int) + o).toNat else pc + 3 := by decide) (h1 : x.isRef = true := by rfl) (h2 : y.isRef = true := by rfl) : Go p l e R s m args below meth c Z EL n0 own Q S h k n pc Ls (y :: x :: rest) :=
  warm hr fun T vm0 locs k1 n1 X eT hZ hown _ => ⟨T, X, eT, fun t q => acmp X B.1 rfl h1 h2 (g := mkF m pc Ls (y :: x :: rest)) (pc0 := pc) rfl (hb B.2.1 hd) rfl hq ho hp q⟩
def Str (Z : State) (h : Heap) (a t : Addr) (kb : ClassId) (cod z : Int32) (vs : List Value) : Prop := Exa Z h a "java/lang/String" ∧ Fld Z h a "java/lang/String" "coder" "B" (.int cod) ∧ Fld Z h a "java/lang/String" "value" "[B" (.ref t) ∧ Arv Z h t kb .byte z vs (.int 0)
def Rng (cs : List Int32) : Prop := ∀ x ∈ cs, ¬ x < (0 : Int32) ∧ ¬ (65535 : Int32) < x
def Lat (cs : List Int32) : Prop := ∀ x ∈ cs, ¬ (255 : Int32) < x
def Chs (Z : State) (h : Heap) (a t : Addr) (kb : ClassId) (cs : List Int32) : Prop := Exa Z h a "java/lang/String" ∧ Fld Z h a "java/lang/String" "value" "[B" (.ref t) ∧ Rng cs ∧
  ((Fld Z h a "java/lang/String" "coder" "B" (.int 0) ∧ Arv Z h t kb .byte (Int32.ofNat cs.length) (cs.map fun x => .int x.toInt8.toInt32) (.int 0) ∧ Lat cs) ∨
   (Fld Z h a "java/lang/String" "coder" "B" (.int 1) ∧ Arv Z h t kb .byte (Int32.ofNat (2 * cs.length)) (cs.flatMap fun x => [.int x.toInt8.toInt32, .int (x >>> ((8 : Int32) &&& 31)).toInt8.toInt32]) (.int 0)))
theorem Chs.keep {a t : Addr} {kb : ClassId} {cs : List Int32} {ws : List Addr} (F : Chs Z h a t kb cs) (K : Keep h h' ws) (qa : a ∉ ws) (qt : t ∉ ws) : Chs Z h' a t kb cs := by
  obtain ⟨E, V, r, ⟨C, A, L⟩ | ⟨C, A⟩⟩ := F
  · exact ⟨E.keep K, V.keep K qa, r, Or.inl ⟨C.keep K qa, A.keep K qt, L⟩⟩
  · exact ⟨E.keep K, V.keep K qa, r, Or.inr ⟨C.keep K qa, A.keep K qt⟩⟩
theorem Chs.lt {a t : Addr} {kb : ClassId} {cs : List Int32} (F : Chs Z h a t kb cs) : a < h.size := F.1.lt
theorem Chs.ltt {a t : Addr} {kb : ClassId} {cs : List Int32} (F : Chs Z h a t kb cs) : t < h.size := by
  obtain ⟨E, V, r, ⟨C, A, L⟩ | ⟨C, A⟩⟩ := F
  · exact A.lt
  · exact A.lt
theorem eq_int_v {args : Array Value} {first s' : State} {o : Option Outcome} {idx : List Nat} {t : Term} {c : Int32} (hq : (Jvm.Cond.eq t (.int c)).value args first o s' idx = some true) : t.eval args first o idx s' = some (.int c) := by
  simp only [Cond.value, Term.int_eval] at hq
  cases ht : t.eval args first o idx s' with
  | none => rw [ht] at hq; simp at hq
  | some v => rw [ht] at hq; cases v <;> simp_all
def Glo (Z : State) (cz : Int32) (sf : Value) : Prop := Sta Z Z.heap "java/lang/String" "COMPACT_STRINGS" "Z" (.int cz) ∧ cz ≠ 0 ∧ Sta Z Z.heap "jdk/internal/util/Preconditions" "SIOOBE_FORMATTER" "Ljava/util/function/BiFunction;" sf ∧ sf.isRef = true
theorem nnAnd (x y : Int32) : (x &&& y).toBitVec.toNat ≤ y.toBitVec.toNat := by
  have : (x &&& y).toBitVec.toNat = x.toBitVec.toNat &&& y.toBitVec.toNat := by simp
  rw [this]; exact Nat.and_le_right
theorem toInt_small {x : Int32} {n : Nat} (h : x.toBitVec.toNat ≤ n) (hn : n < 2147483648) : x.toInt = x.toBitVec.toNat := by
  show x.toBitVec.toInt = _
  rw [BitVec.toInt_eq_toNat_of_lt (by omega)]
/-- x &&& y for y from 0: from 0 to y -/
theorem and_rng (x : Int32) {y : Int32} {n : Nat} (hy : y.toBitVec.toNat = n) (hn : n < 2147483648) : 0 ≤ (x &&& y).toInt ∧ (x &&& y).toInt ≤ n := by
  have h := nnAnd x y
  rw [hy] at h
  have := toInt_small h hn
  omega
theorem and255 (x : Int32) : 0 ≤ (x &&& 255).toInt ∧ (x &&& 255).toInt ≤ 255 := and_rng x (n := 255) (by decide) (by decide)
theorem and1 (x : Int32) : x &&& 1 = 0 ∨ x &&& 1 = 1 := by
  have k := and_rng x (y := 1) (n := 1) (by decide) (by decide)
  have k : (x &&& 1).toInt = 0 ∨ (x &&& 1).toInt = 1 := by omega
  exact k.imp Int32.toInt_inj.mp Int32.toInt_inj.mp
theorem and3 (x : Int32) : x &&& 3 = 0 ∨ x &&& 3 = 1 ∨ x &&& 3 = 2 ∨ x &&& 3 = 3 := by
  have k := and_rng x (y := 3) (n := 3) (by decide) (by decide)
  have k : (x &&& 3).toInt = 0 ∨ (x &&& 3).toInt = 1 ∨ (x &&& 3).toInt = 2 ∨ (x &&& 3).toInt = 3 := by omega
  exact k.imp Int32.toInt_inj.mp (Or.imp Int32.toInt_inj.mp (Or.imp Int32.toInt_inj.mp Int32.toInt_inj.mp))
theorem rem_rng {x y : Int32} {n : Nat} (hx : 0 ≤ x.toInt) (hy : y.toInt = n) (hn : 0 < n) : 0 ≤ (x % y).toInt ∧ (x % y).toInt < n := by
  rw [Int32.toInt_mod, hy]
  have h1 := Int.tmod_nonneg (n : Int) hx
  have h2 := Int.tmod_lt_of_pos x.toInt (show (0 : Int) < n by omega)
  omega
theorem maxrem3 (x : Int32) : (x &&& 2147483647) % 3 = 0 ∨ (x &&& 2147483647) % 3 = 1 ∨ (x &&& 2147483647) % 3 = 2 := by
  have k := rem_rng (and_rng x (y := 2147483647) (n := 2147483647) (by decide) (by decide)).1 (y := 3) (n := 3) (by decide) (by decide)
  generalize (x &&& 2147483647) % 3 = z at *
  have k : z.toInt = 0 ∨ z.toInt = 1 ∨ z.toInt = 2 := by omega
  exact k.imp Int32.toInt_inj.mp (Or.imp Int32.toInt_inj.mp Int32.toInt_inj.mp)
theorem maxrem5 (x : Int32) : (x &&& 2147483647) % 5 = 0 ∨ (x &&& 2147483647) % 5 = 1 ∨ (x &&& 2147483647) % 5 = 2 ∨ (x &&& 2147483647) % 5 = 3 ∨ (x &&& 2147483647) % 5 = 4 := by
  have k := rem_rng (and_rng x (y := 2147483647) (n := 2147483647) (by decide) (by decide)).1 (y := 5) (n := 5) (by decide) (by decide)
  generalize (x &&& 2147483647) % 5 = z at *
  have k : z.toInt = 0 ∨ z.toInt = 1 ∨ z.toInt = 2 ∨ z.toInt = 3 ∨ z.toInt = 4 := by omega
  exact k.imp Int32.toInt_inj.mp (Or.imp Int32.toInt_inj.mp (Or.imp Int32.toInt_inj.mp (Or.imp Int32.toInt_inj.mp Int32.toInt_inj.mp)))
theorem sevenrem5 (x : Int32) : (x &&& 7) % 5 = 0 ∨ (x &&& 7) % 5 = 1 ∨ (x &&& 7) % 5 = 2 ∨ (x &&& 7) % 5 = 3 ∨ (x &&& 7) % 5 = 4 := by
  have k := rem_rng (and_rng x (y := 7) (n := 7) (by decide) (by decide)).1 (y := 5) (n := 5) (by decide) (by decide)
  generalize (x &&& 7) % 5 = z at *
  have k : z.toInt = 0 ∨ z.toInt = 1 ∨ z.toInt = 2 ∨ z.toInt = 3 ∨ z.toInt = 4 := by omega
  exact k.imp Int32.toInt_inj.mp (Or.imp Int32.toInt_inj.mp (Or.imp Int32.toInt_inj.mp (Or.imp Int32.toInt_inj.mp Int32.toInt_inj.mp)))
theorem i2c_idem (x : Int32) : (x.toUInt32.toUInt16.toUInt32.toInt32).toUInt32.toUInt16.toUInt32.toInt32 = x.toUInt32.toUInt16.toUInt32.toInt32 := by
  have h : ∀ u : UInt16, u.toUInt32.toInt32.toUInt32.toUInt16 = u := fun u => by simp
  rw [h]
theorem i2c_rng {x c : Int32} (hc : x.toUInt32.toUInt16.toUInt32.toInt32 = c) : 0 ≤ c.toInt ∧ c.toInt ≤ 65535 := by
  subst hc
  have := x.toUInt32.toUInt16.toNat_lt
  have h : (x.toUInt32.toUInt16.toUInt32.toInt32).toBitVec.toNat ≤ 65535 := by
    show (x.toUInt32.toUInt16.toUInt32).toNat ≤ _
    simp only [UInt16.toNat_toUInt32]
    omega
  have := toInt_small h (by decide)
  omega
theorem c255 {x c : Int32} (hc : (x &&& 255).toUInt32.toUInt16.toUInt32.toInt32 = c) : ¬ (255 : Int32) < c := by
  rw [i2c_mask] at hc; subst hc
  have := and255 x
  rw [Int32.lt_iff_toInt_lt, show (255 : Int32).toInt = 255 from by decide]; omega
theorem cge0 {x c : Int32} (hc : x.toUInt32.toUInt16.toUInt32.toInt32 = c) : ¬ c < (0 : Int32) := by
  have := i2c_rng hc
  rw [Int32.lt_iff_toInt_lt, show (0 : Int32).toInt = 0 from by decide]; omega
theorem cnar {x c : Int32} (hc : x.toUInt32.toUInt16.toUInt32.toInt32 = c) : nar .char c = c := by subst hc; exact i2c_idem x
theorem cnarrow {c : Int32} (hc : nar .char c = c) : narrow .char (.int c) = .int c := congrArg Value.int hc
theorem rng255 {x : Int32} (h0 : ¬ x < (0 : Int32)) (h1 : ¬ (255 : Int32) < x) : 0 ≤ x.toInt ∧ x.toInt ≤ 255 := by
  rw [Int32.lt_iff_toInt_lt, show (0 : Int32).toInt = 0 from by decide] at h0
  rw [Int32.lt_iff_toInt_lt, show (255 : Int32).toInt = 255 from by decide] at h1
  omega
theorem ofRng {x : Int32} {n : Nat} (hn : n < 2147483648) (h : 0 ≤ x.toInt ∧ x.toInt ≤ n) : ∃ k : Nat, k ≤ n ∧ x = Int32.ofNat k := by
  refine ⟨x.toInt.toNat, by omega, Int32.toInt_inj.mp ?_⟩
  rw [Int32.toInt_ofNat_of_lt (by omega)]; omega
theorem all256 (P : Int32 → Bool) (h : (List.range 256).all (fun k => P (Int32.ofNat k)) = true) {x : Int32} (h0 : ¬ x < (0 : Int32)) (h1 : ¬ (255 : Int32) < x) : P x = true := by
  obtain ⟨k, hk, rfl⟩ := ofRng (n := 255) (by decide) (by have := rng255 h0 h1; omega)
  exact List.all_eq_true.mp h k (List.mem_range.mpr (by omega))
theorem b255 {x : Int32} (h0 : ¬ x < (0 : Int32)) (h1 : ¬ (255 : Int32) < x) : x.toInt8.toInt32 &&& 255 = x := by
  have := all256 (fun x => x.toInt8.toInt32 &&& 255 == x) (by decide +kernel) h0 h1
  exact eq_of_beq this
theorem c_id {x : Int32} (h0 : ¬ x < (0 : Int32)) (h1 : ¬ (255 : Int32) < x) : x.toUInt32.toUInt16.toUInt32.toInt32 = x := by
  have := all256 (fun x => x.toUInt32.toUInt16.toUInt32.toInt32 == x) (by decide +kernel) h0 h1
  exact eq_of_beq this
theorem nar_id {x : Int32} (h0 : ¬ x < (0 : Int32)) (h1 : ¬ (255 : Int32) < x) : nar .char x = x := c_id h0 h1
theorem low8 (b : BitVec 8) : (b.signExtend 32 &&& 255#32).toNat = b.toNat := by
  have : ∀ b : BitVec 8, (b.signExtend 32 &&& 255#32).toNat = b.toNat := by decide
  exact this b
theorem lo_nat (x : Int32) : (x.toInt8.toInt32 &&& 255).toBitVec.toNat = x.toBitVec.toNat % 256 := by
  have h := low8 x.toInt8.toBitVec
  have e : (x.toInt8.toInt32 &&& 255).toBitVec = (x.toInt8.toBitVec.signExtend 32 &&& 255#32) := by
    simp
  rw [e, h, Int32.toBitVec_toInt8]
  rw [BitVec.toNat_signExtend]
  simp [BitVec.toNat_setWidth]
theorem shr8 (x : Int32) (h : x.toBitVec.toNat < 65536) : (x >>> ((8 : Int32) &&& 31)).toBitVec.toNat = x.toBitVec.toNat / 256 := by
  have e : (x >>> ((8 : Int32) &&& 31)).toBitVec = x.toBitVec.sshiftRight 8 := by
    have : ((8 : Int32) &&& 31) = 8 := by decide
    rw [this, Int32.toBitVec_shiftRight]
    rfl
  rw [e, BitVec.sshiftRight_eq_of_msb_false (by rw [BitVec.msb_eq_false_iff_two_mul_lt]; omega)]
  rw [BitVec.toNat_ushiftRight]
  rw [Nat.shiftRight_eq_div_pow]
theorem shl8 (x : Int32) : (x <<< ((8 : Int32) &&& 31)).toBitVec.toNat = (x.toBitVec.toNat * 256) % 4294967296 := by
  have e : (x <<< ((8 : Int32) &&& 31)).toBitVec = x.toBitVec <<< 8 := by
    have : ((8 : Int32) &&& 31) = 8 := by decide
    rw [this, Int32.toBitVec_shiftLeft]
    rfl
  rw [e, BitVec.toNat_shiftLeft, Nat.shiftLeft_eq]
theorem shl0 (x : Int32) : x <<< ((0 : Int32) &&& 31) = x := by
  apply Int32.toBitVec_inj.mp
  simp
theorem toNat_rng {x : Int32} {n : Nat} (h0 : 0 ≤ x.toInt) (h1 : x.toInt ≤ n) (hn : n < 2147483648) : x.toBitVec.toNat ≤ n := by
  have e : x.toInt = x.toBitVec.toInt := rfl
  rw [e] at h0 h1
  have hlt := x.toBitVec.isLt
  rw [BitVec.toInt_eq_toNat_cond] at h0 h1
  split at h0 <;> omega
theorem rng65535 {x : Int32} (h0 : ¬ x < (0 : Int32)) (h1 : ¬ (65535 : Int32) < x) : x.toBitVec.toNat ≤ 65535 := by
  rw [Int32.lt_iff_toInt_lt, show (0 : Int32).toInt = 0 from by decide] at h0
  rw [Int32.lt_iff_toInt_lt, show (65535 : Int32).toInt = 65535 from by decide] at h1
  exact toNat_rng (by omega) (by omega) (by decide)
theorem c_id16 {x : Int32} (h0 : ¬ x < (0 : Int32)) (h1 : ¬ (65535 : Int32) < x) : x.toUInt32.toUInt16.toUInt32.toInt32 = x := by
  have h := rng65535 h0 h1
  apply Int32.toBitVec_inj.mp
  apply BitVec.eq_of_toNat_eq
  show (x.toUInt32.toUInt16.toUInt32).toNat = x.toUInt32.toNat
  rw [UInt16.toNat_toUInt32, UInt32.toNat_toUInt16]
  have : x.toUInt32.toNat = x.toBitVec.toNat := rfl
  omega
theorem u16 {x : Int32} (h0 : ¬ x < (0 : Int32)) (h1 : ¬ (65535 : Int32) < x) : ((x.toInt8.toInt32 &&& 255) <<< ((0 : Int32) &&& 31)) ||| (((x >>> ((8 : Int32) &&& 31)).toInt8.toInt32 &&& 255) <<< ((8 : Int32) &&& 31)) = x := by
  have h := rng65535 h0 h1
  rw [shl0]
  apply Int32.toBitVec_inj.mp
  apply BitVec.eq_of_toNat_eq
  rw [Int32.toBitVec_or, BitVec.toNat_or, lo_nat, shl8, lo_nat, shr8 x (by omega)]
  generalize x.toBitVec.toNat = n at *
  have e1 : n / 256 % 256 * 256 % 4294967296 = (n / 256) <<< 8 := by rw [Nat.shiftLeft_eq]; omega
  rw [e1, Nat.or_comm, ← Nat.shiftLeft_add_eq_or_of_lt (by omega : n % 256 < 2 ^ 8), Nat.shiftLeft_eq]
  omega
theorem shr0 (x : Int32) : x >>> ((0 : Int32) &&& 31) = x := by
  apply Int32.toBitVec_inj.mp
  simp
theorem nar_id16 {x : Int32} (h0 : ¬ x < (0 : Int32)) (h1 : ¬ (65535 : Int32) < x) : nar .char x = x := c_id16 h0 h1
theorem cle16 {x c : Int32} (hc : x.toUInt32.toUInt16.toUInt32.toInt32 = c) : ¬ (65535 : Int32) < c := by
  have := i2c_rng hc
  rw [Int32.lt_iff_toInt_lt, show (65535 : Int32).toInt = 65535 from by decide]; omega
theorem nar_b (x : Int32) : nar .byte x.toInt8.toInt32 = x.toInt8.toInt32 := by simp [nar]
theorem narrow_b (x : Int32) : narrow .byte (.int x.toInt8.toInt32) = .int x.toInt8.toInt32 := congrArg Value.int (nar_b x)
/-- Object.equals on another object than the argument, walked in place: its class needs no word -/
theorem objEq (B : Bdy p meth c Z EL a0 bytes maxL ret nm) {index : Nat} {y : MethodName} {bytes' : ByteArray} {a b : Nat} {K K' : String} {ps : List FieldType} {rt : Option FieldType} {W : Nat} (hd : decode bytes pc = .ok (.invokevirtual index, 3))
    (w1 : (Jvm.Cond.methodLink own index y).before a0 Z = true) (w2 : (Jvm.Cond.declares y).before a0 Z = true) (w0 : (Jvm.Cond.selects K' y y).before a0 Z = true) (w5 : (Jvm.Cond.selects K y y).before a0 Z = true) (w6 : (Jvm.Cond.instanceMethod y).before a0 Z = true) (w4 : (Jvm.Cond.code y bytes' 2 (some .boolean)).before a0 Z = true)
    (hpl : plainFor y = true) (E : Exa Z h a K) (hpd : parseMethodDescriptor y.desc = some ⟨ps, rt⟩)
    (d0 : decode bytes' 0 = .ok (.aload_n 0, 1)) (d1 : decode bytes' 1 = .ok (.aload_n 1, 1)) (d2 : decode bytes' 2 = .ok (.if_acmp .ne 7, 3)) (d9 : decode bytes' 9 = .ok (.iconst 0, 1)) (d10 : decode bytes' 10 = .ok (.ireturn, 1)) (hne : a ≠ b)
    (hr : Go p l e R s m args below meth c Z EL n0 own Q S h k n pc' Ls (.int 0 :: rest)) (hp : pc' = pc + 3 := by rfl) (hln : [Value.ref b].length = ps.length := by rfl) (hW : (rest.map fun v => v.category).sum ≤ W := by exact Nat.le_of_eq rfl) (hf : 1 ≤ R.frames := by decide) (hl : W + 13 ≤ R.locals := by decide) (hsz : Ls.size = maxL := by rfl) (hy : NoH y := by decide) :
    Go p l e R s m args below meth c Z EL n0 own Q S h k n pc Ls (.ref b :: .ref a :: rest) := by
  subst hp
  intro T ⟨locs, vm0, k0, k1, n1, q1, q2, X, eT, hS, hk0, hZ, hown, N, O, C, SL⟩
  obtain ⟨cq, kq, hcB, qb, cellB, hcellT, hclsB, hstatB⟩ := isOf (s := s.setVm vm0) hZ eT E
  obtain ⟨r0, r, hn, hrm, hstR, hsigR⟩ := Cond.declares_spec (mvT (args := args) (s := s.setVm vm0) hZ w2)
  obtain ⟨mk, methM, hnamed, hmethM, -, habM⟩ := Cond.instanceMethod_spec (mvT (args := args) (s := s.setVm vm0) hZ w6)
  obtain ⟨c2, r2, m2, e1, e2, e3, e4, kP, hkP, hkPi⟩ := Cond.selects_spec (mvT (args := args) (s := s.setVm vm0) hZ w5)
  cases hcB.symm.trans e1
  cases (State.methodFound?_of_named hn hy).symm.trans e2
  cases hnamed.symm.trans e3
  have hselP : selectMethod e.platform (s.setVm vm0).vm cellB.cls r0 = .method mk := by rw [Launch.admits_selectMethod X.admits, hclsB]; exact e4
  obtain ⟨kr, hkr, hni⟩ := notFace_of_selects (args := #[]) (mvT (s := s.setVm vm0) hZ w0) r0 hn
  obtain ⟨vm₁, X₁, hstep₁⟩ := X.invokevirtual B.1 hown (mvT (s := s.setVm vm0) hZ w1) hn hrm hstR hkr hni hy (a := a) (cell := cellB) hcellT (fun z h => by rw [h] at hstatB; cases hstatB) hselP hmethM habM hkP hkPi (g := mkF m pc Ls (.ref b :: .ref a :: rest)) rfl (argsL := [.ref b]) (rest := rest) (lenOf hpd hln _ hsigR) rfl (hb B.2.1 hd)
  obtain ⟨methM', cM, hm', hc', hbytes, hmaxL, hret, hlock, -⟩ := Cond.code_spec hnamed (mvT (args := args) (s := s.setVm vm0) hZ w4)
  cases hmethM.symm.trans hm'
  have hmV : (T.setVm vm₁).vm.method? mk = some methM := by
    rw [X₁.warmed.alike.method?]; exact hmethM
  have hplV : (T.setVm vm₁).plainMethod mk := State.plainMethod.of_named (s := T.setVm vm₁) hpl (X₁.named hnamed) hmV
  have hroom := X₁.notFull (g := mkF m pc Ls rest) (vars := cM.maxLocals) (by rw [B.2.2.1]; exact hsz) hf (by rw [hmaxL]; show 2 * 0 + (rest.map fun v => v.category).sum + (2 + 11) ≤ _; omega)
  have hU := At.enter (g := mkF m pc Ls rest) X₁.here #[.ref a, .ref b] hmV hc' hplV
  have hfU := frames_entered (s := T.setVm vm₁) (g := mkF m pc Ls rest) X₁.here.top (.java (entryFrame mk #[.ref a, .ref b] cM.maxLocals))
  have hcode : (((T.setVm vm₁).setTop (mkF m pc Ls rest)).pushFrame (.java (entryFrame mk #[.ref a, .ref b] cM.maxLocals))).code? m = some c := by
    have := X₁.here.code
    rw [State.code?_eq] at this ⊢
    simpa [State.pushFrame, State.setFrames] using this
  have hmU : (((T.setVm vm₁).setTop (mkF m pc Ls rest)).pushFrame (.java (entryFrame mk #[.ref a, .ref b] cM.maxLocals))).vm.method? mk = some methM := by simpa [State.pushFrame, State.setFrames] using hmV
  have hent : (((T.setVm vm₁).setTop (mkF m pc Ls rest)).pushFrame (.java (entryFrame mk #[.ref a, .ref b] cM.maxLocals))).setFrames (.java (mkF m pc Ls rest) :: (T.setVm vm₁).frames.tail) = (T.setVm vm₁).setTop (mkF m pc Ls rest) := setFrames_entered X₁.here.top _
  have step : Steps p.tables e below (T.setTop (mkF m pc Ls (.ref b :: .ref a :: rest))) ((T.setVm vm₁).setTop (mkF m (pc + 3) Ls (.int 0 :: rest))) := by
    refine hstep₁ _ fun acts => ?_
    show Steps p.tables e below (doInvoke e ((T.setVm vm₁).setTop (mkF m pc Ls rest)) acts mk #[.ref a, .ref b]).1 _
    rw [doInvoke_enter (g := mkF m pc Ls rest) X₁.here.top acts hmV hc' hlock hroom]
    generalize ((T.setVm vm₁).setTop (mkF m pc Ls rest)).pushFrame (.java (entryFrame mk #[.ref a, .ref b] cM.maxLocals)) = U at *
    refine castTop (show entryFrame mk #[.ref a, .ref b] cM.maxLocals = mkF mk 0 #[.val (.ref a), .val (.ref b)] [] by rw [hmaxL]; rfl) ?_
    refine XS.aloadN hU B.1 rfl (hb hbytes d0) rfl rfl ?_
    refine XS.aloadN hU B.1 rfl (hb hbytes d1) rfl rfl ?_
    refine XT.acmpYes hU B.1 rfl (pc0 := 2) (pc' := 9) rfl (hb hbytes d2) (x := .ref a) (y := .ref b) rfl rfl rfl (by simp [XT.acmp, hne]) (by decide) (by decide) ?_
    refine XS.iconst hU B.1 rfl (hb hbytes d9) ?_
    have hn0 : narrow .boolean (.int (Int32.ofInt 0)) = .int 0 := rfl
    have d10' := hb hbytes d10
    show Steps p.tables e below (U.setTop { method := mk, pc := 10, locals := #[.val (.ref a), .val (.ref b)], stack := [.int (Int32.ofInt 0)], locked := none }) _
    jvm_step hU [hU.top, B.1, d10', hmU, hret, hn0]
    first | intro acts' | skip
    rw [doReturn_leave (g := mkF m pc Ls rest) (meth := methM) (cg := c) (ig := .invokevirtual index) (len := 3) _ hfU (by simpa using hmU) hlock rfl rfl hcode (hb B.2.1 hd), hent, State.setTop_setTop]
    exact Steps.refl _
  obtain ⟨s2, o, q, r2'⟩ := hr (T.setVm vm₁) ⟨locs, vm0, k0, k1, n1, q1, q2, X₁, eT, hS, hk0, hZ, hown, N, O, C, SL⟩
  exact ⟨s2, o, step.trans q, r2'⟩
end Rules
end Jvm.Ow
namespace Jvm.Pilot.@@N@@
open Jvm Jvm.ClassFile Sem Op Lib Jvm.Free Jvm.Stand Jvm.LawKit Jvm.RoadKit Bundle Jvm.Pilot.@@N@@.Jvm.D
abbrev EL1 : List (String × Nat) := [("java/lang/String", 7)]
abbrev Hw (a0 : Array Value) (Z : State) : Prop := ∀ d ∈ tables_1, d.before a0 Z = true
abbrev my0 : MethodName := { cls := "java/lang/String", name := "<init>", desc := "([CIILjava/lang/Void;)V" }
abbrev my1 : MethodName := { cls := "java/lang/String", name := "<init>", desc := "([C)V" }
abbrev my2 : MethodName := { cls := "com/example/entitlement/entitlement/ScopeUpToPinLaw", name := "mk", desc := "(III)Ljava/lang/String;" }
abbrev my3 : MethodName := { cls := "java/util/AbstractCollection", name := "<init>", desc := "()V" }
abbrev my4 : MethodName := { cls := "java/util/ImmutableCollections$AbstractImmutableCollection", name := "<init>", desc := "()V" }
abbrev my5 : MethodName := { cls := "java/util/ImmutableCollections$AbstractImmutableSet", name := "<init>", desc := "()V" }
abbrev my6 : MethodName := { cls := "java/util/Objects", name := "requireNonNull", desc := "(Ljava/lang/Object;)Ljava/lang/Object;" }
abbrev my7 : MethodName := { cls := "java/util/ImmutableCollections$Set12", name := "<init>", desc := "(Ljava/lang/Object;)V" }
abbrev my8 : MethodName := { cls := "java/util/Set", name := "of", desc := "(Ljava/lang/Object;)Ljava/util/Set;" }
abbrev my9 : MethodName := { cls := "com/example/entitlement/entitlement/Scope", name := "<init>", desc := "(Ljava/util/Set;)V" }
abbrev my10 : MethodName := { cls := "com/example/entitlement/entitlement/Scope", name := "upTo", desc := "(Ljava/lang/String;)Lcom/example/entitlement/entitlement/Scope;" }
abbrev my11 : MethodName := { cls := "com/example/entitlement/entitlement/Scope", name := "everySenior", desc := "()Z" }
abbrev my12 : MethodName := { cls := "com/example/entitlement/entitlement/Scope", name := "bounds", desc := "()Ljava/util/Set;" }
abbrev my13 : MethodName := { cls := "java/lang/StringLatin1", name := "equals", desc := "([B[B)Z" }
abbrev my14 : MethodName := { cls := "java/lang/String", name := "equals", desc := "(Ljava/lang/Object;)Z" }
abbrev my15 : MethodName := { cls := "java/util/ImmutableCollections$Set12", name := "size", desc := "()I" }
abbrev my16 : MethodName := { cls := "java/util/ImmutableCollections$Set12", name := "contains", desc := "(Ljava/lang/Object;)Z" }
abbrev my17 : MethodName := { cls := "java/lang/StringUTF16", name := "compress", desc := "([CI[BII)I" }
abbrev my18 : MethodName := { cls := "java/lang/StringUTF16", name := "compress", desc := "([CII)[B" }
abbrev my19 : MethodName := { cls := "java/lang/StringUTF16", name := "coderFromArrayLen", desc := "([BI)B" }
theorem w0 {a0 : Array Value} {Z : State} (hw : Hw a0 Z) : (Jvm.Cond.methodLink "com/example/entitlement/entitlement/ScopeUpToPinLaw" (12 : Nat) ({ cls := "com/example/entitlement/entitlement/ScopeUpToPinLaw", name := "mk", desc := "(III)Ljava/lang/String;" } : Jvm.MethodName)).before a0 Z = true := hw _ (List.mem_of_getElem? (i := 0) rfl)
theorem w1 {a0 : Array Value} {Z : State} (hw : Hw a0 Z) : (Jvm.Cond.static ({ cls := "com/example/entitlement/entitlement/ScopeUpToPinLaw", name := "mk", desc := "(III)Ljava/lang/String;" } : Jvm.MethodName)).before a0 Z = true := hw _ (List.mem_of_getElem? (i := 1) rfl)
theorem w2 {a0 : Array Value} {Z : State} (hw : Hw a0 Z) : (Jvm.Cond.initialized "com/example/entitlement/entitlement/ScopeUpToPinLaw").before a0 Z = true := hw _ (List.mem_of_getElem? (i := 2) rfl)
theorem w3 {a0 : Array Value} {Z : State} (hw : Hw a0 Z) : (Jvm.Cond.code ({ cls := "com/example/entitlement/entitlement/ScopeUpToPinLaw", name := "mk", desc := "(III)Ljava/lang/String;" } : Jvm.MethodName) method_2_code (6 : Nat) (Option.some (Jvm.ClassFile.FieldType.object "java/lang/String"))).before a0 Z = true := hw _ (List.mem_of_getElem? (i := 3) rfl)
theorem w4 {a0 : Array Value} {Z : State} (hw : Hw a0 Z) : (Jvm.Cond.classLink "com/example/entitlement/entitlement/ScopeUpToPinLaw" (7 : Nat) "java/lang/String").before a0 Z = true := hw _ (List.mem_of_getElem? (i := 4) rfl)
theorem w5 {a0 : Array Value} {Z : State} (hw : Hw a0 Z) : (Jvm.Cond.instantiable "java/lang/String" (4 : Nat)).before a0 Z = true := hw _ (List.mem_of_getElem? (i := 5) rfl)
theorem w6 {a0 : Array Value} {Z : State} (hw : Hw a0 Z) : (Jvm.Cond.initialized "java/lang/String").before a0 Z = true := hw _ (List.mem_of_getElem? (i := 6) rfl)
theorem w7 {a0 : Array Value} {Z : State} (hw : Hw a0 Z) : (Jvm.Cond.arrayClass Jvm.ClassFile.FieldType.char).before a0 Z = true := hw _ (List.mem_of_getElem? (i := 7) rfl)
theorem w8 {a0 : Array Value} {Z : State} (hw : Hw a0 Z) : (Jvm.Cond.methodLink "com/example/entitlement/entitlement/ScopeUpToPinLaw" (9 : Nat) ({ cls := "java/lang/String", name := "<init>", desc := "([C)V" } : Jvm.MethodName)).before a0 Z = true := hw _ (List.mem_of_getElem? (i := 8) rfl)
theorem w9 {a0 : Array Value} {Z : State} (hw : Hw a0 Z) : (Jvm.Cond.instanceMethod ({ cls := "java/lang/String", name := "<init>", desc := "([C)V" } : Jvm.MethodName)).before a0 Z = true := hw _ (List.mem_of_getElem? (i := 9) rfl)
theorem w10 {a0 : Array Value} {Z : State} (hw : Hw a0 Z) : (Jvm.Cond.code ({ cls := "java/lang/String", name := "<init>", desc := "([C)V" } : Jvm.MethodName) jdk_42_method_3_code (2 : Nat) (Option.none : Option Jvm.ClassFile.FieldType)).before a0 Z = true := hw _ (List.mem_of_getElem? (i := 10) rfl)
theorem w11 {a0 : Array Value} {Z : State} (hw : Hw a0 Z) : (Jvm.Cond.methodLink "java/lang/String" (27 : Nat) ({ cls := "java/lang/String", name := "<init>", desc := "([CIILjava/lang/Void;)V" } : Jvm.MethodName)).before a0 Z = true := hw _ (List.mem_of_getElem? (i := 11) rfl)
theorem w12 {a0 : Array Value} {Z : State} (hw : Hw a0 Z) : (Jvm.Cond.instanceMethod ({ cls := "java/lang/String", name := "<init>", desc := "([CIILjava/lang/Void;)V" } : Jvm.MethodName)).before a0 Z = true := hw _ (List.mem_of_getElem? (i := 12) rfl)
theorem w14 {a0 : Array Value} {Z : State} (hw : Hw a0 Z) : (Jvm.Cond.code ({ cls := "java/lang/String", name := "<init>", desc := "([CIILjava/lang/Void;)V" } : Jvm.MethodName) jdk_42_method_149_code (6 : Nat) (Option.none : Option Jvm.ClassFile.FieldType)).before a0 Z = true := hw _ (List.mem_of_getElem? (i := 14) rfl)
theorem w15 {a0 : Array Value} {Z : State} (hw : Hw a0 Z) : (Jvm.Cond.methodLink "java/lang/String" (1 : Nat) ({ cls := "java/lang/Object", name := "<init>", desc := "()V" } : Jvm.MethodName)).before a0 Z = true := hw _ (List.mem_of_getElem? (i := 15) rfl)
theorem w16 {a0 : Array Value} {Z : State} (hw : Hw a0 Z) : (Jvm.Cond.instanceMethod ({ cls := "java/lang/Object", name := "<init>", desc := "()V" } : Jvm.MethodName)).before a0 Z = true := hw _ (List.mem_of_getElem? (i := 16) rfl)
theorem w17 {a0 : Array Value} {Z : State} (hw : Hw a0 Z) : (Jvm.Cond.code ({ cls := "java/lang/Object", name := "<init>", desc := "()V" } : Jvm.MethodName) object_method_1_code (1 : Nat) (Option.none : Option Jvm.ClassFile.FieldType)).before a0 Z = true := hw _ (List.mem_of_getElem? (i := 17) rfl)
theorem w18 {a0 : Array Value} {Z : State} (hw : Hw a0 Z) : (Jvm.Cond.stringLink "java/lang/String" (7 : Nat) "").before a0 Z = true := hw _ (List.mem_of_getElem? (i := 18) rfl)
theorem w19 {a0 : Array Value} {Z : State} (hw : Hw a0 Z) : (Jvm.Cond.arrayClass Jvm.ClassFile.FieldType.byte).before a0 Z = true := hw _ (List.mem_of_getElem? (i := 19) rfl)
theorem w20 {a0 : Array Value} {Z : State} (hw : Hw a0 Z) : (Jvm.Cond.laysFinal "java/lang/String" "java/lang/String" "value" "[B").before a0 Z = true := hw _ (List.mem_of_getElem? (i := 20) rfl)
theorem w21 {a0 : Array Value} {Z : State} (hw : Hw a0 Z) : (Jvm.Cond.laysFinal "java/lang/String" "java/lang/String" "coder" "B").before a0 Z = true := hw _ (List.mem_of_getElem? (i := 21) rfl)
theorem w22 {a0 : Array Value} {Z : State} (hw : Hw a0 Z) : (Jvm.Cond.soleField "java/lang/String" "value").before a0 Z = true := hw _ (List.mem_of_getElem? (i := 22) rfl)
theorem w23 {a0 : Array Value} {Z : State} (hw : Hw a0 Z) : (Jvm.Cond.soleField "java/lang/String" "coder").before a0 Z = true := hw _ (List.mem_of_getElem? (i := 23) rfl)
theorem w24 {a0 : Array Value} {Z : State} (hw : Hw a0 Z) : (Jvm.Cond.fieldLink "java/lang/String" (9 : Nat) "java/lang/String" "value" "[B").before a0 Z = true := hw _ (List.mem_of_getElem? (i := 24) rfl)
theorem w25 {a0 : Array Value} {Z : State} (hw : Hw a0 Z) : (Jvm.Cond.fieldLink "java/lang/String" (15 : Nat) "java/lang/String" "coder" "B").before a0 Z = true := hw _ (List.mem_of_getElem? (i := 25) rfl)
theorem w26 {a0 : Array Value} {Z : State} (hw : Hw a0 Z) : (Jvm.Cond.methodLink "com/example/entitlement/entitlement/ScopeUpToPinLaw" (18 : Nat) ({ cls := "com/example/entitlement/entitlement/Scope", name := "upTo", desc := "(Ljava/lang/String;)Lcom/example/entitlement/entitlement/Scope;" } : Jvm.MethodName)).before a0 Z = true := hw _ (List.mem_of_getElem? (i := 26) rfl)
theorem w27 {a0 : Array Value} {Z : State} (hw : Hw a0 Z) : (Jvm.Cond.static ({ cls := "com/example/entitlement/entitlement/Scope", name := "upTo", desc := "(Ljava/lang/String;)Lcom/example/entitlement/entitlement/Scope;" } : Jvm.MethodName)).before a0 Z = true := hw _ (List.mem_of_getElem? (i := 27) rfl)
theorem w28 {a0 : Array Value} {Z : State} (hw : Hw a0 Z) : (Jvm.Cond.initialized "com/example/entitlement/entitlement/Scope").before a0 Z = true := hw _ (List.mem_of_getElem? (i := 28) rfl)
theorem w29 {a0 : Array Value} {Z : State} (hw : Hw a0 Z) : (Jvm.Cond.code ({ cls := "com/example/entitlement/entitlement/Scope", name := "upTo", desc := "(Ljava/lang/String;)Lcom/example/entitlement/entitlement/Scope;" } : Jvm.MethodName) prog_26_method_2_code (1 : Nat) (Option.some (Jvm.ClassFile.FieldType.object "com/example/entitlement/entitlement/Scope"))).before a0 Z = true := hw _ (List.mem_of_getElem? (i := 29) rfl)
theorem w30 {a0 : Array Value} {Z : State} (hw : Hw a0 Z) : (Jvm.Cond.classLink "com/example/entitlement/entitlement/Scope" (8 : Nat) "com/example/entitlement/entitlement/Scope").before a0 Z = true := hw _ (List.mem_of_getElem? (i := 30) rfl)
theorem w31 {a0 : Array Value} {Z : State} (hw : Hw a0 Z) : (Jvm.Cond.instantiable "com/example/entitlement/entitlement/Scope" (1 : Nat)).before a0 Z = true := hw _ (List.mem_of_getElem? (i := 31) rfl)
theorem w32 {a0 : Array Value} {Z : State} (hw : Hw a0 Z) : (Jvm.Cond.methodLink "com/example/entitlement/entitlement/Scope" (13 : Nat) ({ cls := "java/util/Set", name := "of", desc := "(Ljava/lang/Object;)Ljava/util/Set;" } : Jvm.MethodName)).before a0 Z = true := hw _ (List.mem_of_getElem? (i := 32) rfl)
theorem w33 {a0 : Array Value} {Z : State} (hw : Hw a0 Z) : (Jvm.Cond.static ({ cls := "java/util/Set", name := "of", desc := "(Ljava/lang/Object;)Ljava/util/Set;" } : Jvm.MethodName)).before a0 Z = true := hw _ (List.mem_of_getElem? (i := 33) rfl)
theorem w34 {a0 : Array Value} {Z : State} (hw : Hw a0 Z) : (Jvm.Cond.initialized "java/util/Set").before a0 Z = true := hw _ (List.mem_of_getElem? (i := 34) rfl)
theorem w35 {a0 : Array Value} {Z : State} (hw : Hw a0 Z) : (Jvm.Cond.code ({ cls := "java/util/Set", name := "of", desc := "(Ljava/lang/Object;)Ljava/util/Set;" } : Jvm.MethodName) jdk_96_method_18_code (1 : Nat) (Option.some (Jvm.ClassFile.FieldType.object "java/util/Set"))).before a0 Z = true := hw _ (List.mem_of_getElem? (i := 35) rfl)
theorem w36 {a0 : Array Value} {Z : State} (hw : Hw a0 Z) : (Jvm.Cond.classLink "java/util/Set" (15 : Nat) "java/util/ImmutableCollections$Set12").before a0 Z = true := hw _ (List.mem_of_getElem? (i := 36) rfl)
theorem w37 {a0 : Array Value} {Z : State} (hw : Hw a0 Z) : (Jvm.Cond.instantiable "java/util/ImmutableCollections$Set12" (2 : Nat)).before a0 Z = true := hw _ (List.mem_of_getElem? (i := 37) rfl)
theorem w38 {a0 : Array Value} {Z : State} (hw : Hw a0 Z) : (Jvm.Cond.initialized "java/util/ImmutableCollections$Set12").before a0 Z = true := hw _ (List.mem_of_getElem? (i := 38) rfl)
theorem w39 {a0 : Array Value} {Z : State} (hw : Hw a0 Z) : (Jvm.Cond.methodLink "java/util/Set" (17 : Nat) ({ cls := "java/util/ImmutableCollections$Set12", name := "<init>", desc := "(Ljava/lang/Object;)V" } : Jvm.MethodName)).before a0 Z = true := hw _ (List.mem_of_getElem? (i := 39) rfl)
theorem w40 {a0 : Array Value} {Z : State} (hw : Hw a0 Z) : (Jvm.Cond.instanceMethod ({ cls := "java/util/ImmutableCollections$Set12", name := "<init>", desc := "(Ljava/lang/Object;)V" } : Jvm.MethodName)).before a0 Z = true := hw _ (List.mem_of_getElem? (i := 40) rfl)
theorem w42 {a0 : Array Value} {Z : State} (hw : Hw a0 Z) : (Jvm.Cond.code ({ cls := "java/util/ImmutableCollections$Set12", name := "<init>", desc := "(Ljava/lang/Object;)V" } : Jvm.MethodName) jdk_101_method_1_code (2 : Nat) (Option.none : Option Jvm.ClassFile.FieldType)).before a0 Z = true := hw _ (List.mem_of_getElem? (i := 42) rfl)
theorem w43 {a0 : Array Value} {Z : State} (hw : Hw a0 Z) : (Jvm.Cond.methodLink "java/util/ImmutableCollections$Set12" (1 : Nat) ({ cls := "java/util/ImmutableCollections$AbstractImmutableSet", name := "<init>", desc := "()V" } : Jvm.MethodName)).before a0 Z = true := hw _ (List.mem_of_getElem? (i := 43) rfl)
theorem w44 {a0 : Array Value} {Z : State} (hw : Hw a0 Z) : (Jvm.Cond.instanceMethod ({ cls := "java/util/ImmutableCollections$AbstractImmutableSet", name := "<init>", desc := "()V" } : Jvm.MethodName)).before a0 Z = true := hw _ (List.mem_of_getElem? (i := 44) rfl)
theorem w47 {a0 : Array Value} {Z : State} (hw : Hw a0 Z) : (Jvm.Cond.initialized "java/util/ImmutableCollections$AbstractImmutableSet").before a0 Z = true := hw _ (List.mem_of_getElem? (i := 47) rfl)
theorem w48 {a0 : Array Value} {Z : State} (hw : Hw a0 Z) : (Jvm.Cond.code ({ cls := "java/util/ImmutableCollections$AbstractImmutableSet", name := "<init>", desc := "()V" } : Jvm.MethodName) jdk_100_method_1_code (1 : Nat) (Option.none : Option Jvm.ClassFile.FieldType)).before a0 Z = true := hw _ (List.mem_of_getElem? (i := 48) rfl)
theorem w49 {a0 : Array Value} {Z : State} (hw : Hw a0 Z) : (Jvm.Cond.methodLink "java/util/ImmutableCollections$AbstractImmutableSet" (1 : Nat) ({ cls := "java/util/ImmutableCollections$AbstractImmutableCollection", name := "<init>", desc := "()V" } : Jvm.MethodName)).before a0 Z = true := hw _ (List.mem_of_getElem? (i := 49) rfl)
theorem w50 {a0 : Array Value} {Z : State} (hw : Hw a0 Z) : (Jvm.Cond.instanceMethod ({ cls := "java/util/ImmutableCollections$AbstractImmutableCollection", name := "<init>", desc := "()V" } : Jvm.MethodName)).before a0 Z = true := hw _ (List.mem_of_getElem? (i := 50) rfl)
theorem w53 {a0 : Array Value} {Z : State} (hw : Hw a0 Z) : (Jvm.Cond.initialized "java/util/ImmutableCollections$AbstractImmutableCollection").before a0 Z = true := hw _ (List.mem_of_getElem? (i := 53) rfl)
theorem w54 {a0 : Array Value} {Z : State} (hw : Hw a0 Z) : (Jvm.Cond.code ({ cls := "java/util/ImmutableCollections$AbstractImmutableCollection", name := "<init>", desc := "()V" } : Jvm.MethodName) jdk_47_method_1_code (1 : Nat) (Option.none : Option Jvm.ClassFile.FieldType)).before a0 Z = true := hw _ (List.mem_of_getElem? (i := 54) rfl)
theorem w55 {a0 : Array Value} {Z : State} (hw : Hw a0 Z) : (Jvm.Cond.methodLink "java/util/ImmutableCollections$AbstractImmutableCollection" (1 : Nat) ({ cls := "java/util/AbstractCollection", name := "<init>", desc := "()V" } : Jvm.MethodName)).before a0 Z = true := hw _ (List.mem_of_getElem? (i := 55) rfl)
theorem w56 {a0 : Array Value} {Z : State} (hw : Hw a0 Z) : (Jvm.Cond.instanceMethod ({ cls := "java/util/AbstractCollection", name := "<init>", desc := "()V" } : Jvm.MethodName)).before a0 Z = true := hw _ (List.mem_of_getElem? (i := 56) rfl)
theorem w59 {a0 : Array Value} {Z : State} (hw : Hw a0 Z) : (Jvm.Cond.initialized "java/util/AbstractCollection").before a0 Z = true := hw _ (List.mem_of_getElem? (i := 59) rfl)
theorem w60 {a0 : Array Value} {Z : State} (hw : Hw a0 Z) : (Jvm.Cond.code ({ cls := "java/util/AbstractCollection", name := "<init>", desc := "()V" } : Jvm.MethodName) jdk_22_method_1_code (1 : Nat) (Option.none : Option Jvm.ClassFile.FieldType)).before a0 Z = true := hw _ (List.mem_of_getElem? (i := 60) rfl)
theorem w61 {a0 : Array Value} {Z : State} (hw : Hw a0 Z) : (Jvm.Cond.methodLink "java/util/AbstractCollection" (1 : Nat) ({ cls := "java/lang/Object", name := "<init>", desc := "()V" } : Jvm.MethodName)).before a0 Z = true := hw _ (List.mem_of_getElem? (i := 61) rfl)
theorem w62 {a0 : Array Value} {Z : State} (hw : Hw a0 Z) : (Jvm.Cond.methodLink "java/util/ImmutableCollections$Set12" (7 : Nat) ({ cls := "java/util/Objects", name := "requireNonNull", desc := "(Ljava/lang/Object;)Ljava/lang/Object;" } : Jvm.MethodName)).before a0 Z = true := hw _ (List.mem_of_getElem? (i := 62) rfl)
theorem w63 {a0 : Array Value} {Z : State} (hw : Hw a0 Z) : (Jvm.Cond.static ({ cls := "java/util/Objects", name := "requireNonNull", desc := "(Ljava/lang/Object;)Ljava/lang/Object;" } : Jvm.MethodName)).before a0 Z = true := hw _ (List.mem_of_getElem? (i := 63) rfl)
theorem w64 {a0 : Array Value} {Z : State} (hw : Hw a0 Z) : (Jvm.Cond.initialized "java/util/Objects").before a0 Z = true := hw _ (List.mem_of_getElem? (i := 64) rfl)
theorem w65 {a0 : Array Value} {Z : State} (hw : Hw a0 Z) : (Jvm.Cond.code ({ cls := "java/util/Objects", name := "requireNonNull", desc := "(Ljava/lang/Object;)Ljava/lang/Object;" } : Jvm.MethodName) jdk_31_method_10_code (1 : Nat) (Option.some (Jvm.ClassFile.FieldType.object "java/lang/Object"))).before a0 Z = true := hw _ (List.mem_of_getElem? (i := 65) rfl)
theorem w66 {a0 : Array Value} {Z : State} (hw : Hw a0 Z) : (Jvm.Cond.fieldLink "java/util/ImmutableCollections$Set12" (13 : Nat) "java/util/ImmutableCollections$Set12" "e0" "Ljava/lang/Object;").before a0 Z = true := hw _ (List.mem_of_getElem? (i := 66) rfl)
theorem w67 {a0 : Array Value} {Z : State} (hw : Hw a0 Z) : (Jvm.Cond.laysFinal "java/util/ImmutableCollections$Set12" "java/util/ImmutableCollections$Set12" "e0" "Ljava/lang/Object;").before a0 Z = true := hw _ (List.mem_of_getElem? (i := 67) rfl)
theorem w68 {a0 : Array Value} {Z : State} (hw : Hw a0 Z) : (Jvm.Cond.fieldLinkNest "java/util/ImmutableCollections$Set12" (19 : Nat) "java/util/ImmutableCollections" "EMPTY" "Ljava/lang/Object;" "java/util/ImmutableCollections").before a0 Z = true := hw _ (List.mem_of_getElem? (i := 68) rfl)
theorem w70 {a0 : Array Value} {Z : State} (hw : Hw a0 Z) : (Jvm.Cond.fieldLink "java/util/ImmutableCollections$Set12" (24 : Nat) "java/util/ImmutableCollections$Set12" "e1" "Ljava/lang/Object;").before a0 Z = true := hw _ (List.mem_of_getElem? (i := 70) rfl)
theorem w71 {a0 : Array Value} {Z : State} (hw : Hw a0 Z) : (Jvm.Cond.laysFinal "java/util/ImmutableCollections$Set12" "java/util/ImmutableCollections$Set12" "e1" "Ljava/lang/Object;").before a0 Z = true := hw _ (List.mem_of_getElem? (i := 71) rfl)
theorem w72 {a0 : Array Value} {Z : State} (hw : Hw a0 Z) : (Jvm.Cond.methodLink "com/example/entitlement/entitlement/Scope" (19 : Nat) ({ cls := "com/example/entitlement/entitlement/Scope", name := "<init>", desc := "(Ljava/util/Set;)V" } : Jvm.MethodName)).before a0 Z = true := hw _ (List.mem_of_getElem? (i := 72) rfl)
theorem w73 {a0 : Array Value} {Z : State} (hw : Hw a0 Z) : (Jvm.Cond.instanceMethod ({ cls := "com/example/entitlement/entitlement/Scope", name := "<init>", desc := "(Ljava/util/Set;)V" } : Jvm.MethodName)).before a0 Z = true := hw _ (List.mem_of_getElem? (i := 73) rfl)
theorem w74 {a0 : Array Value} {Z : State} (hw : Hw a0 Z) : (Jvm.Cond.code ({ cls := "com/example/entitlement/entitlement/Scope", name := "<init>", desc := "(Ljava/util/Set;)V" } : Jvm.MethodName) prog_26_method_1_code (2 : Nat) (Option.none : Option Jvm.ClassFile.FieldType)).before a0 Z = true := hw _ (List.mem_of_getElem? (i := 74) rfl)
theorem w75 {a0 : Array Value} {Z : State} (hw : Hw a0 Z) : (Jvm.Cond.methodLink "com/example/entitlement/entitlement/Scope" (1 : Nat) ({ cls := "java/lang/Object", name := "<init>", desc := "()V" } : Jvm.MethodName)).before a0 Z = true := hw _ (List.mem_of_getElem? (i := 75) rfl)
theorem w76 {a0 : Array Value} {Z : State} (hw : Hw a0 Z) : (Jvm.Cond.fieldLink "com/example/entitlement/entitlement/Scope" (7 : Nat) "com/example/entitlement/entitlement/Scope" "bounds" "Ljava/util/Set;").before a0 Z = true := hw _ (List.mem_of_getElem? (i := 76) rfl)
theorem w77 {a0 : Array Value} {Z : State} (hw : Hw a0 Z) : (Jvm.Cond.laysFinal "com/example/entitlement/entitlement/Scope" "com/example/entitlement/entitlement/Scope" "bounds" "Ljava/util/Set;").before a0 Z = true := hw _ (List.mem_of_getElem? (i := 77) rfl)
theorem w78 {a0 : Array Value} {Z : State} (hw : Hw a0 Z) : (Jvm.Cond.methodLink "com/example/entitlement/entitlement/ScopeUpToPinLaw" (24 : Nat) ({ cls := "com/example/entitlement/entitlement/Scope", name := "everySenior", desc := "()Z" } : Jvm.MethodName)).before a0 Z = true := hw _ (List.mem_of_getElem? (i := 78) rfl)
theorem w79 {a0 : Array Value} {Z : State} (hw : Hw a0 Z) : (Jvm.Cond.declares ({ cls := "com/example/entitlement/entitlement/Scope", name := "everySenior", desc := "()Z" } : Jvm.MethodName)).before a0 Z = true := hw _ (List.mem_of_getElem? (i := 79) rfl)
theorem w80 {a0 : Array Value} {Z : State} (hw : Hw a0 Z) : (Jvm.Cond.instanceMethod ({ cls := "com/example/entitlement/entitlement/Scope", name := "everySenior", desc := "()Z" } : Jvm.MethodName)).before a0 Z = true := hw _ (List.mem_of_getElem? (i := 80) rfl)
theorem w81 {a0 : Array Value} {Z : State} (hw : Hw a0 Z) : (Jvm.Cond.selects "com/example/entitlement/entitlement/Scope" ({ cls := "com/example/entitlement/entitlement/Scope", name := "everySenior", desc := "()Z" } : Jvm.MethodName) ({ cls := "com/example/entitlement/entitlement/Scope", name := "everySenior", desc := "()Z" } : Jvm.MethodName)).before a0 Z = true := hw _ (List.mem_of_getElem? (i := 81) rfl)
theorem w82 {a0 : Array Value} {Z : State} (hw : Hw a0 Z) : (Jvm.Cond.code ({ cls := "com/example/entitlement/entitlement/Scope", name := "everySenior", desc := "()Z" } : Jvm.MethodName) prog_26_method_3_code (1 : Nat) (Option.some Jvm.ClassFile.FieldType.boolean)).before a0 Z = true := hw _ (List.mem_of_getElem? (i := 82) rfl)
theorem w83 {a0 : Array Value} {Z : State} (hw : Hw a0 Z) : (Jvm.Cond.methodLink "com/example/entitlement/entitlement/ScopeUpToPinLaw" (28 : Nat) ({ cls := "com/example/entitlement/entitlement/Scope", name := "bounds", desc := "()Ljava/util/Set;" } : Jvm.MethodName)).before a0 Z = true := hw _ (List.mem_of_getElem? (i := 83) rfl)
theorem w84 {a0 : Array Value} {Z : State} (hw : Hw a0 Z) : (Jvm.Cond.declares ({ cls := "com/example/entitlement/entitlement/Scope", name := "bounds", desc := "()Ljava/util/Set;" } : Jvm.MethodName)).before a0 Z = true := hw _ (List.mem_of_getElem? (i := 84) rfl)
theorem w85 {a0 : Array Value} {Z : State} (hw : Hw a0 Z) : (Jvm.Cond.instanceMethod ({ cls := "com/example/entitlement/entitlement/Scope", name := "bounds", desc := "()Ljava/util/Set;" } : Jvm.MethodName)).before a0 Z = true := hw _ (List.mem_of_getElem? (i := 85) rfl)
theorem w86 {a0 : Array Value} {Z : State} (hw : Hw a0 Z) : (Jvm.Cond.selects "com/example/entitlement/entitlement/Scope" ({ cls := "com/example/entitlement/entitlement/Scope", name := "bounds", desc := "()Ljava/util/Set;" } : Jvm.MethodName) ({ cls := "com/example/entitlement/entitlement/Scope", name := "bounds", desc := "()Ljava/util/Set;" } : Jvm.MethodName)).before a0 Z = true := hw _ (List.mem_of_getElem? (i := 86) rfl)
theorem w87 {a0 : Array Value} {Z : State} (hw : Hw a0 Z) : (Jvm.Cond.code ({ cls := "com/example/entitlement/entitlement/Scope", name := "bounds", desc := "()Ljava/util/Set;" } : Jvm.MethodName) prog_26_method_4_code (1 : Nat) (Option.some (Jvm.ClassFile.FieldType.object "java/util/Set"))).before a0 Z = true := hw _ (List.mem_of_getElem? (i := 87) rfl)
theorem w88 {a0 : Array Value} {Z : State} (hw : Hw a0 Z) : (Jvm.Cond.methodLink "com/example/entitlement/entitlement/ScopeUpToPinLaw" (32 : Nat) ({ cls := "java/lang/String", name := "equals", desc := "(Ljava/lang/Object;)Z" } : Jvm.MethodName)).before a0 Z = true := hw _ (List.mem_of_getElem? (i := 88) rfl)
theorem w89 {a0 : Array Value} {Z : State} (hw : Hw a0 Z) : (Jvm.Cond.declares ({ cls := "java/lang/String", name := "equals", desc := "(Ljava/lang/Object;)Z" } : Jvm.MethodName)).before a0 Z = true := hw _ (List.mem_of_getElem? (i := 89) rfl)
theorem w90 {a0 : Array Value} {Z : State} (hw : Hw a0 Z) : (Jvm.Cond.instanceMethod ({ cls := "java/lang/String", name := "equals", desc := "(Ljava/lang/Object;)Z" } : Jvm.MethodName)).before a0 Z = true := hw _ (List.mem_of_getElem? (i := 90) rfl)
theorem w91 {a0 : Array Value} {Z : State} (hw : Hw a0 Z) : (Jvm.Cond.selects "java/lang/String" ({ cls := "java/lang/String", name := "equals", desc := "(Ljava/lang/Object;)Z" } : Jvm.MethodName) ({ cls := "java/lang/String", name := "equals", desc := "(Ljava/lang/Object;)Z" } : Jvm.MethodName)).before a0 Z = true := hw _ (List.mem_of_getElem? (i := 91) rfl)
theorem w92 {a0 : Array Value} {Z : State} (hw : Hw a0 Z) : (Jvm.Cond.code ({ cls := "java/lang/String", name := "equals", desc := "(Ljava/lang/Object;)Z" } : Jvm.MethodName) jdk_42_method_66_code (3 : Nat) (Option.some Jvm.ClassFile.FieldType.boolean)).before a0 Z = true := hw _ (List.mem_of_getElem? (i := 92) rfl)
theorem w93 {a0 : Array Value} {Z : State} (hw : Hw a0 Z) : (Jvm.Cond.classLink "java/lang/String" (10 : Nat) "java/lang/String").before a0 Z = true := hw _ (List.mem_of_getElem? (i := 93) rfl)
theorem w94 {a0 : Array Value} {Z : State} (hw : Hw a0 Z) : (Jvm.Cond.fieldLink "java/lang/String" (38 : Nat) "java/lang/String" "COMPACT_STRINGS" "Z").before a0 Z = true := hw _ (List.mem_of_getElem? (i := 94) rfl)
theorem w95 {a0 : Array Value} {Z : State} (hw : Hw a0 Z) : (Jvm.Cond.methodLink "java/lang/String" (541 : Nat) ({ cls := "java/lang/StringLatin1", name := "equals", desc := "([B[B)Z" } : Jvm.MethodName)).before a0 Z = true := hw _ (List.mem_of_getElem? (i := 95) rfl)
theorem w96 {a0 : Array Value} {Z : State} (hw : Hw a0 Z) : (Jvm.Cond.static ({ cls := "java/lang/StringLatin1", name := "equals", desc := "([B[B)Z" } : Jvm.MethodName)).before a0 Z = true := hw _ (List.mem_of_getElem? (i := 96) rfl)
theorem w97 {a0 : Array Value} {Z : State} (hw : Hw a0 Z) : (Jvm.Cond.initialized "java/lang/StringLatin1").before a0 Z = true := hw _ (List.mem_of_getElem? (i := 97) rfl)
theorem w98 {a0 : Array Value} {Z : State} (hw : Hw a0 Z) : (Jvm.Cond.code ({ cls := "java/lang/StringLatin1", name := "equals", desc := "([B[B)Z" } : Jvm.MethodName) jdk_43_method_13_code (3 : Nat) (Option.some Jvm.ClassFile.FieldType.boolean)).before a0 Z = true := hw _ (List.mem_of_getElem? (i := 98) rfl)
theorem w99 {a0 : Array Value} {Z : State} (hw : Hw a0 Z) : (Jvm.Cond.methodLink "com/example/entitlement/entitlement/ScopeUpToPinLaw" (36 : Nat) ({ cls := "java/util/Set", name := "size", desc := "()I" } : Jvm.MethodName)).before a0 Z = true := hw _ (List.mem_of_getElem? (i := 99) rfl)
theorem w100 {a0 : Array Value} {Z : State} (hw : Hw a0 Z) : (Jvm.Cond.declares ({ cls := "java/util/Set", name := "size", desc := "()I" } : Jvm.MethodName)).before a0 Z = true := hw _ (List.mem_of_getElem? (i := 100) rfl)
theorem w101 {a0 : Array Value} {Z : State} (hw : Hw a0 Z) : (Jvm.Cond.interfaceMethod "java/util/Set" "java/util/Set" "size" "()I").before a0 Z = true := hw _ (List.mem_of_getElem? (i := 101) rfl)
theorem w102 {a0 : Array Value} {Z : State} (hw : Hw a0 Z) : (Jvm.Cond.selects "java/util/ImmutableCollections$Set12" ({ cls := "java/util/Set", name := "size", desc := "()I" } : Jvm.MethodName) ({ cls := "java/util/ImmutableCollections$Set12", name := "size", desc := "()I" } : Jvm.MethodName)).before a0 Z = true := hw _ (List.mem_of_getElem? (i := 102) rfl)
theorem w103 {a0 : Array Value} {Z : State} (hw : Hw a0 Z) : (Jvm.Cond.instanceMethod ({ cls := "java/util/ImmutableCollections$Set12", name := "size", desc := "()I" } : Jvm.MethodName)).before a0 Z = true := hw _ (List.mem_of_getElem? (i := 103) rfl)
theorem w104 {a0 : Array Value} {Z : State} (hw : Hw a0 Z) : (Jvm.Cond.publicMethod ({ cls := "java/util/ImmutableCollections$Set12", name := "size", desc := "()I" } : Jvm.MethodName)).before a0 Z = true := hw _ (List.mem_of_getElem? (i := 104) rfl)
theorem w105 {a0 : Array Value} {Z : State} (hw : Hw a0 Z) : (Jvm.Cond.unhidden "java/util/ImmutableCollections$Set12" "size" "()I").before a0 Z = true := hw _ (List.mem_of_getElem? (i := 105) rfl)
theorem w106 {a0 : Array Value} {Z : State} (hw : Hw a0 Z) : (Jvm.Cond.castable "java/util/ImmutableCollections$Set12" "java/util/Set").before a0 Z = true := hw _ (List.mem_of_getElem? (i := 106) rfl)
theorem w107 {a0 : Array Value} {Z : State} (hw : Hw a0 Z) : (Jvm.Cond.code ({ cls := "java/util/ImmutableCollections$Set12", name := "size", desc := "()I" } : Jvm.MethodName) jdk_101_method_3_code (1 : Nat) (Option.some Jvm.ClassFile.FieldType.int)).before a0 Z = true := hw _ (List.mem_of_getElem? (i := 107) rfl)
theorem w108 {a0 : Array Value} {Z : State} (hw : Hw a0 Z) : (Jvm.Cond.methodLink "com/example/entitlement/entitlement/ScopeUpToPinLaw" (42 : Nat) ({ cls := "java/util/Set", name := "contains", desc := "(Ljava/lang/Object;)Z" } : Jvm.MethodName)).before a0 Z = true := hw _ (List.mem_of_getElem? (i := 108) rfl)
theorem w109 {a0 : Array Value} {Z : State} (hw : Hw a0 Z) : (Jvm.Cond.declares ({ cls := "java/util/Set", name := "contains", desc := "(Ljava/lang/Object;)Z" } : Jvm.MethodName)).before a0 Z = true := hw _ (List.mem_of_getElem? (i := 109) rfl)
theorem w110 {a0 : Array Value} {Z : State} (hw : Hw a0 Z) : (Jvm.Cond.interfaceMethod "java/util/Set" "java/util/Set" "contains" "(Ljava/lang/Object;)Z").before a0 Z = true := hw _ (List.mem_of_getElem? (i := 110) rfl)
theorem w111 {a0 : Array Value} {Z : State} (hw : Hw a0 Z) : (Jvm.Cond.selects "java/util/ImmutableCollections$Set12" ({ cls := "java/util/Set", name := "contains", desc := "(Ljava/lang/Object;)Z" } : Jvm.MethodName) ({ cls := "java/util/ImmutableCollections$Set12", name := "contains", desc := "(Ljava/lang/Object;)Z" } : Jvm.MethodName)).before a0 Z = true := hw _ (List.mem_of_getElem? (i := 111) rfl)
theorem w112 {a0 : Array Value} {Z : State} (hw : Hw a0 Z) : (Jvm.Cond.instanceMethod ({ cls := "java/util/ImmutableCollections$Set12", name := "contains", desc := "(Ljava/lang/Object;)Z" } : Jvm.MethodName)).before a0 Z = true := hw _ (List.mem_of_getElem? (i := 112) rfl)
theorem w113 {a0 : Array Value} {Z : State} (hw : Hw a0 Z) : (Jvm.Cond.publicMethod ({ cls := "java/util/ImmutableCollections$Set12", name := "contains", desc := "(Ljava/lang/Object;)Z" } : Jvm.MethodName)).before a0 Z = true := hw _ (List.mem_of_getElem? (i := 113) rfl)
theorem w114 {a0 : Array Value} {Z : State} (hw : Hw a0 Z) : (Jvm.Cond.unhidden "java/util/ImmutableCollections$Set12" "contains" "(Ljava/lang/Object;)Z").before a0 Z = true := hw _ (List.mem_of_getElem? (i := 114) rfl)
theorem w115 {a0 : Array Value} {Z : State} (hw : Hw a0 Z) : (Jvm.Cond.code ({ cls := "java/util/ImmutableCollections$Set12", name := "contains", desc := "(Ljava/lang/Object;)Z" } : Jvm.MethodName) jdk_101_method_5_code (2 : Nat) (Option.some Jvm.ClassFile.FieldType.boolean)).before a0 Z = true := hw _ (List.mem_of_getElem? (i := 115) rfl)
theorem w116 {a0 : Array Value} {Z : State} (hw : Hw a0 Z) : (Jvm.Cond.methodLink "java/util/ImmutableCollections$Set12" (27 : Nat) ({ cls := "java/lang/Object", name := "equals", desc := "(Ljava/lang/Object;)Z" } : Jvm.MethodName)).before a0 Z = true := hw _ (List.mem_of_getElem? (i := 116) rfl)
theorem w117 {a0 : Array Value} {Z : State} (hw : Hw a0 Z) : (Jvm.Cond.declares ({ cls := "java/lang/Object", name := "equals", desc := "(Ljava/lang/Object;)Z" } : Jvm.MethodName)).before a0 Z = true := hw _ (List.mem_of_getElem? (i := 117) rfl)
theorem w118 {a0 : Array Value} {Z : State} (hw : Hw a0 Z) : (Jvm.Cond.instanceMethod ({ cls := "java/lang/Object", name := "equals", desc := "(Ljava/lang/Object;)Z" } : Jvm.MethodName)).before a0 Z = true := hw _ (List.mem_of_getElem? (i := 118) rfl)
theorem w119 {a0 : Array Value} {Z : State} (hw : Hw a0 Z) : (Jvm.Cond.selects "java/lang/String" ({ cls := "java/lang/Object", name := "equals", desc := "(Ljava/lang/Object;)Z" } : Jvm.MethodName) ({ cls := "java/lang/String", name := "equals", desc := "(Ljava/lang/Object;)Z" } : Jvm.MethodName)).before a0 Z = true := hw _ (List.mem_of_getElem? (i := 119) rfl)
theorem w120 {a0 : Array Value} {Z : State} (hw : Hw a0 Z) : (Jvm.Cond.methodLink "java/lang/String" (177 : Nat) ({ cls := "java/lang/StringUTF16", name := "compress", desc := "([CII)[B" } : Jvm.MethodName)).before a0 Z = true := hw _ (List.mem_of_getElem? (i := 120) rfl)
theorem w121 {a0 : Array Value} {Z : State} (hw : Hw a0 Z) : (Jvm.Cond.static ({ cls := "java/lang/StringUTF16", name := "compress", desc := "([CII)[B" } : Jvm.MethodName)).before a0 Z = true := hw _ (List.mem_of_getElem? (i := 121) rfl)
theorem w122 {a0 : Array Value} {Z : State} (hw : Hw a0 Z) : (Jvm.Cond.initialized "java/lang/StringUTF16").before a0 Z = true := hw _ (List.mem_of_getElem? (i := 122) rfl)
theorem w123 {a0 : Array Value} {Z : State} (hw : Hw a0 Z) : (Jvm.Cond.code ({ cls := "java/lang/StringUTF16", name := "compress", desc := "([CII)[B" } : Jvm.MethodName) jdk_52_method_16_code (6 : Nat) (Option.some (Jvm.ClassFile.FieldType.array Jvm.ClassFile.FieldType.byte))).before a0 Z = true := hw _ (List.mem_of_getElem? (i := 123) rfl)
theorem w124 {a0 : Array Value} {Z : State} (hw : Hw a0 Z) : (Jvm.Cond.methodLink "java/lang/StringUTF16" (115 : Nat) ({ cls := "java/lang/StringUTF16", name := "compress", desc := "([CI[BII)I" } : Jvm.MethodName)).before a0 Z = true := hw _ (List.mem_of_getElem? (i := 124) rfl)
theorem w125 {a0 : Array Value} {Z : State} (hw : Hw a0 Z) : (Jvm.Cond.static ({ cls := "java/lang/StringUTF16", name := "compress", desc := "([CI[BII)I" } : Jvm.MethodName)).before a0 Z = true := hw _ (List.mem_of_getElem? (i := 125) rfl)
theorem w126 {a0 : Array Value} {Z : State} (hw : Hw a0 Z) : (Jvm.Cond.code ({ cls := "java/lang/StringUTF16", name := "compress", desc := "([CI[BII)I" } : Jvm.MethodName) jdk_52_method_21_code (7 : Nat) (Option.some Jvm.ClassFile.FieldType.int)).before a0 Z = true := hw _ (List.mem_of_getElem? (i := 126) rfl)
theorem w127 {a0 : Array Value} {Z : State} (hw : Hw a0 Z) : (Jvm.Cond.methodLink "java/lang/String" (47 : Nat) ({ cls := "java/lang/StringUTF16", name := "coderFromArrayLen", desc := "([BI)B" } : Jvm.MethodName)).before a0 Z = true := hw _ (List.mem_of_getElem? (i := 127) rfl)
theorem w128 {a0 : Array Value} {Z : State} (hw : Hw a0 Z) : (Jvm.Cond.static ({ cls := "java/lang/StringUTF16", name := "coderFromArrayLen", desc := "([BI)B" } : Jvm.MethodName)).before a0 Z = true := hw _ (List.mem_of_getElem? (i := 128) rfl)
theorem w129 {a0 : Array Value} {Z : State} (hw : Hw a0 Z) : (Jvm.Cond.code ({ cls := "java/lang/StringUTF16", name := "coderFromArrayLen", desc := "([BI)B" } : Jvm.MethodName) jdk_52_method_15_code (2 : Nat) (Option.some Jvm.ClassFile.FieldType.byte)).before a0 Z = true := hw _ (List.mem_of_getElem? (i := 129) rfl)
theorem w130 {a0 : Array Value} {Z : State} (hw : Hw a0 Z) : (Jvm.Cond.selects "java/lang/Object" ({ cls := "java/lang/Object", name := "equals", desc := "(Ljava/lang/Object;)Z" } : Jvm.MethodName) ({ cls := "java/lang/Object", name := "equals", desc := "(Ljava/lang/Object;)Z" } : Jvm.MethodName)).before a0 Z = true := hw _ (List.mem_of_getElem? (i := 130) rfl)
theorem w131 {a0 : Array Value} {Z : State} (hw : Hw a0 Z) : (Jvm.Cond.code ({ cls := "java/lang/Object", name := "equals", desc := "(Ljava/lang/Object;)Z" } : Jvm.MethodName) object_method_4_code (2 : Nat) (Option.some Jvm.ClassFile.FieldType.boolean)).before a0 Z = true := hw _ (List.mem_of_getElem? (i := 131) rfl)
theorem e0_0 : decode method_2_code 0 = .ok (.iload_n 1, 1) := by decide +kernel
theorem e0_1 : decode method_2_code 1 = .ok (.sipush 255, 3) := by decide +kernel
theorem e0_4 : decode method_2_code 4 = .ok (.iand, 1) := by decide +kernel
theorem e0_5 : decode method_2_code 5 = .ok (.i2c, 1) := by decide +kernel
theorem e0_6 : decode method_2_code 6 = .ok (.istore_n 3, 1) := by decide +kernel
theorem e0_7 : decode method_2_code 7 = .ok (.iload_n 1, 1) := by decide +kernel
theorem e0_8 : decode method_2_code 8 = .ok (.bipush 8, 2) := by decide +kernel
theorem e0_10 : decode method_2_code 10 = .ok (.ishr, 1) := by decide +kernel
theorem e0_11 : decode method_2_code 11 = .ok (.sipush 255, 3) := by decide +kernel
theorem e0_14 : decode method_2_code 14 = .ok (.iand, 1) := by decide +kernel
theorem e0_15 : decode method_2_code 15 = .ok (.i2c, 1) := by decide +kernel
theorem e0_16 : decode method_2_code 16 = .ok (.istore 4, 2) := by decide +kernel
theorem e0_18 : decode method_2_code 18 = .ok (.iload_n 2, 1) := by decide +kernel
theorem e0_19 : decode method_2_code 19 = .ok (.sipush 255, 3) := by decide +kernel
theorem e0_22 : decode method_2_code 22 = .ok (.iand, 1) := by decide +kernel
theorem e0_23 : decode method_2_code 23 = .ok (.i2c, 1) := by decide +kernel
theorem e0_24 : decode method_2_code 24 = .ok (.istore 5, 2) := by decide +kernel
theorem e0_26 : decode method_2_code 26 = .ok (.iload_n 0, 1) := by decide +kernel
theorem e0_27 : decode method_2_code 27 = .ok (.ifCond .ne 14, 3) := by decide +kernel
theorem e0_30 : decode method_2_code 30 = .ok (.new 7, 3) := by decide +kernel
theorem e0_33 : decode method_2_code 33 = .ok (.dup, 1) := by decide +kernel
theorem e0_34 : decode method_2_code 34 = .ok (.iconst 0, 1) := by decide +kernel
theorem e0_35 : decode method_2_code 35 = .ok (.newarray .char, 2) := by decide +kernel
theorem e0_37 : decode method_2_code 37 = .ok (.invokespecial 9, 3) := by decide +kernel
theorem e1_0 : decode jdk_42_method_3_code 0 = .ok (.aload_n 0, 1) := by decide +kernel
theorem e1_1 : decode jdk_42_method_3_code 1 = .ok (.aload_n 1, 1) := by decide +kernel
theorem e1_2 : decode jdk_42_method_3_code 2 = .ok (.iconst 0, 1) := by decide +kernel
theorem e1_3 : decode jdk_42_method_3_code 3 = .ok (.aload_n 1, 1) := by decide +kernel
theorem e1_4 : decode jdk_42_method_3_code 4 = .ok (.arraylength, 1) := by decide +kernel
theorem e1_5 : decode jdk_42_method_3_code 5 = .ok (.aconst_null, 1) := by decide +kernel
theorem e1_6 : decode jdk_42_method_3_code 6 = .ok (.invokespecial 27, 3) := by decide +kernel
theorem e2_0 : decode jdk_42_method_149_code 0 = .ok (.aload_n 0, 1) := by decide +kernel
theorem e2_1 : decode jdk_42_method_149_code 1 = .ok (.invokespecial 1, 3) := by decide +kernel
theorem e2_4 : decode jdk_42_method_149_code 4 = .ok (.iload_n 3, 1) := by decide +kernel
theorem e2_5 : decode jdk_42_method_149_code 5 = .ok (.ifCond .ne 22, 3) := by decide +kernel
theorem e2_8 : decode jdk_42_method_149_code 8 = .ok (.aload_n 0, 1) := by decide +kernel
theorem e2_9 : decode jdk_42_method_149_code 9 = .ok (.ldc 7, 2) := by decide +kernel
theorem e2_11 : decode jdk_42_method_149_code 11 = .ok (.getfield 9, 3) := by decide +kernel
theorem e2_14 : decode jdk_42_method_149_code 14 = .ok (.putfield 9, 3) := by decide +kernel
theorem e2_17 : decode jdk_42_method_149_code 17 = .ok (.aload_n 0, 1) := by decide +kernel
theorem e2_18 : decode jdk_42_method_149_code 18 = .ok (.ldc 7, 2) := by decide +kernel
theorem e2_20 : decode jdk_42_method_149_code 20 = .ok (.getfield 15, 3) := by decide +kernel
theorem e2_23 : decode jdk_42_method_149_code 23 = .ok (.putfield 15, 3) := by decide +kernel
theorem e2_26 : decode jdk_42_method_149_code 26 = .ok (.return_, 1) := by decide +kernel
theorem e1_9 : decode jdk_42_method_3_code 9 = .ok (.return_, 1) := by decide +kernel
theorem e0_40 : decode method_2_code 40 = .ok (.areturn, 1) := by decide +kernel
theorem e3_0 : decode prog_26_method_2_code 0 = .ok (.new 8, 3) := by decide +kernel
theorem e3_3 : decode prog_26_method_2_code 3 = .ok (.dup, 1) := by decide +kernel
theorem e3_4 : decode prog_26_method_2_code 4 = .ok (.aload_n 0, 1) := by decide +kernel
theorem e3_5 : decode prog_26_method_2_code 5 = .ok (.invokestatic 13, 3) := by decide +kernel
theorem e4_0 : decode jdk_96_method_18_code 0 = .ok (.new 15, 3) := by decide +kernel
theorem e4_3 : decode jdk_96_method_18_code 3 = .ok (.dup, 1) := by decide +kernel
theorem e4_4 : decode jdk_96_method_18_code 4 = .ok (.aload_n 0, 1) := by decide +kernel
theorem e4_5 : decode jdk_96_method_18_code 5 = .ok (.invokespecial 17, 3) := by decide +kernel
theorem e5_0 : decode jdk_101_method_1_code 0 = .ok (.aload_n 0, 1) := by decide +kernel
theorem e5_1 : decode jdk_101_method_1_code 1 = .ok (.invokespecial 1, 3) := by decide +kernel
theorem e6_0 : decode jdk_100_method_1_code 0 = .ok (.aload_n 0, 1) := by decide +kernel
theorem e6_1 : decode jdk_100_method_1_code 1 = .ok (.invokespecial 1, 3) := by decide +kernel
theorem e7_0 : decode jdk_47_method_1_code 0 = .ok (.aload_n 0, 1) := by decide +kernel
theorem e7_1 : decode jdk_47_method_1_code 1 = .ok (.invokespecial 1, 3) := by decide +kernel
theorem e8_0 : decode jdk_22_method_1_code 0 = .ok (.aload_n 0, 1) := by decide +kernel
theorem e8_1 : decode jdk_22_method_1_code 1 = .ok (.invokespecial 1, 3) := by decide +kernel
theorem e8_4 : decode jdk_22_method_1_code 4 = .ok (.return_, 1) := by decide +kernel
theorem e7_4 : decode jdk_47_method_1_code 4 = .ok (.return_, 1) := by decide +kernel
theorem e6_4 : decode jdk_100_method_1_code 4 = .ok (.return_, 1) := by decide +kernel
theorem e5_4 : decode jdk_101_method_1_code 4 = .ok (.aload_n 0, 1) := by decide +kernel
theorem e5_5 : decode jdk_101_method_1_code 5 = .ok (.aload_n 1, 1) := by decide +kernel
theorem e5_6 : decode jdk_101_method_1_code 6 = .ok (.invokestatic 7, 3) := by decide +kernel
theorem e9_0 : decode jdk_31_method_10_code 0 = .ok (.aload_n 0, 1) := by decide +kernel
theorem e9_1 : decode jdk_31_method_10_code 1 = .ok (.ifnonnull 11, 3) := by decide +kernel
theorem e9_12 : decode jdk_31_method_10_code 12 = .ok (.aload_n 0, 1) := by decide +kernel
theorem e9_13 : decode jdk_31_method_10_code 13 = .ok (.areturn, 1) := by decide +kernel
theorem e5_9 : decode jdk_101_method_1_code 9 = .ok (.putfield 13, 3) := by decide +kernel
theorem e5_12 : decode jdk_101_method_1_code 12 = .ok (.aload_n 0, 1) := by decide +kernel
theorem e5_13 : decode jdk_101_method_1_code 13 = .ok (.getstatic 19, 3) := by decide +kernel
theorem e5_16 : decode jdk_101_method_1_code 16 = .ok (.putfield 24, 3) := by decide +kernel
theorem e5_19 : decode jdk_101_method_1_code 19 = .ok (.return_, 1) := by decide +kernel
theorem e4_8 : decode jdk_96_method_18_code 8 = .ok (.areturn, 1) := by decide +kernel
theorem e3_8 : decode prog_26_method_2_code 8 = .ok (.invokespecial 19, 3) := by decide +kernel
theorem e10_0 : decode prog_26_method_1_code 0 = .ok (.aload_n 0, 1) := by decide +kernel
theorem e10_1 : decode prog_26_method_1_code 1 = .ok (.invokespecial 1, 3) := by decide +kernel
theorem e10_4 : decode prog_26_method_1_code 4 = .ok (.aload_n 0, 1) := by decide +kernel
theorem e10_5 : decode prog_26_method_1_code 5 = .ok (.aload_n 1, 1) := by decide +kernel
theorem e10_6 : decode prog_26_method_1_code 6 = .ok (.putfield 7, 3) := by decide +kernel
theorem e10_9 : decode prog_26_method_1_code 9 = .ok (.return_, 1) := by decide +kernel
theorem e3_11 : decode prog_26_method_2_code 11 = .ok (.areturn, 1) := by decide +kernel
theorem e11_0 : decode prog_26_method_3_code 0 = .ok (.aload_n 0, 1) := by decide +kernel
theorem e11_1 : decode prog_26_method_3_code 1 = .ok (.getfield 7, 3) := by decide +kernel
theorem e11_4 : decode prog_26_method_3_code 4 = .ok (.ifnonnull 7, 3) := by decide +kernel
theorem e11_11 : decode prog_26_method_3_code 11 = .ok (.iconst 0, 1) := by decide +kernel
theorem e11_12 : decode prog_26_method_3_code 12 = .ok (.ireturn, 1) := by decide +kernel
theorem e12_0 : decode prog_26_method_4_code 0 = .ok (.aload_n 0, 1) := by decide +kernel
theorem e12_1 : decode prog_26_method_4_code 1 = .ok (.getfield 7, 3) := by decide +kernel
theorem e12_4 : decode prog_26_method_4_code 4 = .ok (.ifnonnull 13, 3) := by decide +kernel
theorem e12_17 : decode prog_26_method_4_code 17 = .ok (.aload_n 0, 1) := by decide +kernel
theorem e12_18 : decode prog_26_method_4_code 18 = .ok (.getfield 7, 3) := by decide +kernel
theorem e12_21 : decode prog_26_method_4_code 21 = .ok (.areturn, 1) := by decide +kernel
theorem e13_0 : decode jdk_42_method_66_code 0 = .ok (.aload_n 0, 1) := by decide +kernel
theorem e13_1 : decode jdk_42_method_66_code 1 = .ok (.aload_n 1, 1) := by decide +kernel
theorem e13_2 : decode jdk_42_method_66_code 2 = .ok (.if_acmp .ne 5, 3) := by decide +kernel
theorem e13_7 : decode jdk_42_method_66_code 7 = .ok (.aload_n 1, 1) := by decide +kernel
theorem e13_8 : decode jdk_42_method_66_code 8 = .ok (.instanceof 10, 3) := by decide +kernel
theorem e13_11 : decode jdk_42_method_66_code 11 = .ok (.ifCond .eq 43, 3) := by decide +kernel
theorem e13_14 : decode jdk_42_method_66_code 14 = .ok (.aload_n 1, 1) := by decide +kernel
theorem e13_15 : decode jdk_42_method_66_code 15 = .ok (.checkcast 10, 3) := by decide +kernel
theorem e13_18 : decode jdk_42_method_66_code 18 = .ok (.astore_n 2, 1) := by decide +kernel
theorem e13_19 : decode jdk_42_method_66_code 19 = .ok (.getstatic 38, 3) := by decide +kernel
theorem e13_22 : decode jdk_42_method_66_code 22 = .ok (.ifCond .eq 14, 3) := by decide +kernel
theorem e13_25 : decode jdk_42_method_66_code 25 = .ok (.aload_n 0, 1) := by decide +kernel
theorem e13_26 : decode jdk_42_method_66_code 26 = .ok (.getfield 15, 3) := by decide +kernel
theorem e13_29 : decode jdk_42_method_66_code 29 = .ok (.aload_n 2, 1) := by decide +kernel
theorem e13_30 : decode jdk_42_method_66_code 30 = .ok (.getfield 15, 3) := by decide +kernel
theorem e13_33 : decode jdk_42_method_66_code 33 = .ok (.if_icmp .ne 21, 3) := by decide +kernel
theorem e13_36 : decode jdk_42_method_66_code 36 = .ok (.aload_n 0, 1) := by decide +kernel
theorem e13_37 : decode jdk_42_method_66_code 37 = .ok (.getfield 9, 3) := by decide +kernel
theorem e13_40 : decode jdk_42_method_66_code 40 = .ok (.aload_n 2, 1) := by decide +kernel
theorem e13_41 : decode jdk_42_method_66_code 41 = .ok (.getfield 9, 3) := by decide +kernel
theorem e13_44 : decode jdk_42_method_66_code 44 = .ok (.invokestatic 541, 3) := by decide +kernel
theorem e14_0 : decode jdk_43_method_13_code 0 = .ok (.aload_n 0, 1) := by decide +kernel
theorem e14_1 : decode jdk_43_method_13_code 1 = .ok (.arraylength, 1) := by decide +kernel
theorem e14_2 : decode jdk_43_method_13_code 2 = .ok (.aload_n 1, 1) := by decide +kernel
theorem e14_3 : decode jdk_43_method_13_code 3 = .ok (.arraylength, 1) := by decide +kernel
theorem e14_4 : decode jdk_43_method_13_code 4 = .ok (.if_icmp .ne 30, 3) := by decide +kernel
theorem e14_7 : decode jdk_43_method_13_code 7 = .ok (.iconst 0, 1) := by decide +kernel
theorem e14_8 : decode jdk_43_method_13_code 8 = .ok (.istore_n 2, 1) := by decide +kernel
theorem e14_9 : decode jdk_43_method_13_code 9 = .ok (.iload_n 2, 1) := by decide +kernel
theorem e14_10 : decode jdk_43_method_13_code 10 = .ok (.aload_n 0, 1) := by decide +kernel
theorem e14_11 : decode jdk_43_method_13_code 11 = .ok (.arraylength, 1) := by decide +kernel
theorem e14_12 : decode jdk_43_method_13_code 12 = .ok (.if_icmp .ge 20, 3) := by decide +kernel
theorem e14_32 : decode jdk_43_method_13_code 32 = .ok (.iconst 1, 1) := by decide +kernel
theorem e14_33 : decode jdk_43_method_13_code 33 = .ok (.ireturn, 1) := by decide +kernel
theorem e13_47 : decode jdk_42_method_66_code 47 = .ok (.ifCond .eq 7, 3) := by decide +kernel
theorem e13_50 : decode jdk_42_method_66_code 50 = .ok (.iconst 1, 1) := by decide +kernel
theorem e13_51 : decode jdk_42_method_66_code 51 = .ok (.goto 4, 3) := by decide +kernel
theorem e13_55 : decode jdk_42_method_66_code 55 = .ok (.ireturn, 1) := by decide +kernel
theorem e15_0 : decode jdk_101_method_3_code 0 = .ok (.aload_n 0, 1) := by decide +kernel
theorem e15_1 : decode jdk_101_method_3_code 1 = .ok (.getfield 24, 3) := by decide +kernel
theorem e15_4 : decode jdk_101_method_3_code 4 = .ok (.getstatic 19, 3) := by decide +kernel
theorem e15_7 : decode jdk_101_method_3_code 7 = .ok (.if_acmp .ne 7, 3) := by decide +kernel
theorem e15_10 : decode jdk_101_method_3_code 10 = .ok (.iconst 1, 1) := by decide +kernel
theorem e15_11 : decode jdk_101_method_3_code 11 = .ok (.goto 4, 3) := by decide +kernel
theorem e15_15 : decode jdk_101_method_3_code 15 = .ok (.ireturn, 1) := by decide +kernel
theorem e16_0 : decode jdk_101_method_5_code 0 = .ok (.aload_n 1, 1) := by decide +kernel
theorem e16_1 : decode jdk_101_method_5_code 1 = .ok (.aload_n 0, 1) := by decide +kernel
theorem e16_2 : decode jdk_101_method_5_code 2 = .ok (.getfield 13, 3) := by decide +kernel
theorem e16_5 : decode jdk_101_method_5_code 5 = .ok (.invokevirtual 27, 3) := by decide +kernel
theorem e13_5 : decode jdk_42_method_66_code 5 = .ok (.iconst 1, 1) := by decide +kernel
theorem e13_6 : decode jdk_42_method_66_code 6 = .ok (.ireturn, 1) := by decide +kernel
theorem e16_8 : decode jdk_101_method_5_code 8 = .ok (.ifCond .ne 14, 3) := by decide +kernel
theorem e16_22 : decode jdk_101_method_5_code 22 = .ok (.iconst 1, 1) := by decide +kernel
theorem e16_23 : decode jdk_101_method_5_code 23 = .ok (.goto 4, 3) := by decide +kernel
theorem e16_27 : decode jdk_101_method_5_code 27 = .ok (.ireturn, 1) := by decide +kernel
theorem e0_41 : decode method_2_code 41 = .ok (.iload_n 0, 1) := by decide +kernel
theorem e0_42 : decode method_2_code 42 = .ok (.iconst 1, 1) := by decide +kernel
theorem e0_43 : decode method_2_code 43 = .ok (.if_icmp .ne 18, 3) := by decide +kernel
theorem e0_46 : decode method_2_code 46 = .ok (.new 7, 3) := by decide +kernel
theorem e0_49 : decode method_2_code 49 = .ok (.dup, 1) := by decide +kernel
theorem e0_50 : decode method_2_code 50 = .ok (.iconst 1, 1) := by decide +kernel
theorem e0_51 : decode method_2_code 51 = .ok (.newarray .char, 2) := by decide +kernel
theorem e0_53 : decode method_2_code 53 = .ok (.dup, 1) := by decide +kernel
theorem e0_54 : decode method_2_code 54 = .ok (.iconst 0, 1) := by decide +kernel
theorem e0_55 : decode method_2_code 55 = .ok (.iload_n 3, 1) := by decide +kernel
theorem e0_56 : decode method_2_code 56 = .ok (.castore, 1) := by decide +kernel
theorem e0_57 : decode method_2_code 57 = .ok (.invokespecial 9, 3) := by decide +kernel
theorem e2_27 : decode jdk_42_method_149_code 27 = .ok (.getstatic 38, 3) := by decide +kernel
theorem e2_30 : decode jdk_42_method_149_code 30 = .ok (.ifCond .eq 28, 3) := by decide +kernel
theorem e2_33 : decode jdk_42_method_149_code 33 = .ok (.aload_n 1, 1) := by decide +kernel
theorem e2_34 : decode jdk_42_method_149_code 34 = .ok (.iload_n 2, 1) := by decide +kernel
theorem e2_35 : decode jdk_42_method_149_code 35 = .ok (.iload_n 3, 1) := by decide +kernel
theorem e2_36 : decode jdk_42_method_149_code 36 = .ok (.invokestatic 177, 3) := by decide +kernel
theorem e17_0 : decode jdk_52_method_16_code 0 = .ok (.iload_n 2, 1) := by decide +kernel
theorem e17_1 : decode jdk_52_method_16_code 1 = .ok (.newarray .byte, 2) := by decide +kernel
theorem e17_3 : decode jdk_52_method_16_code 3 = .ok (.astore_n 3, 1) := by decide +kernel
theorem e17_4 : decode jdk_52_method_16_code 4 = .ok (.aload_n 0, 1) := by decide +kernel
theorem e17_5 : decode jdk_52_method_16_code 5 = .ok (.iload_n 1, 1) := by decide +kernel
theorem e17_6 : decode jdk_52_method_16_code 6 = .ok (.aload_n 3, 1) := by decide +kernel
theorem e17_7 : decode jdk_52_method_16_code 7 = .ok (.iconst 0, 1) := by decide +kernel
theorem e17_8 : decode jdk_52_method_16_code 8 = .ok (.iload_n 2, 1) := by decide +kernel
theorem e17_9 : decode jdk_52_method_16_code 9 = .ok (.invokestatic 115, 3) := by decide +kernel
theorem e18_0 : decode jdk_52_method_21_code 0 = .ok (.iconst 0, 1) := by decide +kernel
theorem e18_1 : decode jdk_52_method_21_code 1 = .ok (.istore 5, 2) := by decide +kernel
theorem e18_3 : decode jdk_52_method_21_code 3 = .ok (.iload 5, 2) := by decide +kernel
theorem e18_5 : decode jdk_52_method_21_code 5 = .ok (.iload 4, 2) := by decide +kernel
theorem e18_7 : decode jdk_52_method_21_code 7 = .ok (.if_icmp .ge 37, 3) := by decide +kernel
theorem e18_10 : decode jdk_52_method_21_code 10 = .ok (.aload_n 0, 1) := by decide +kernel
theorem e18_11 : decode jdk_52_method_21_code 11 = .ok (.iload_n 1, 1) := by decide +kernel
theorem e18_12 : decode jdk_52_method_21_code 12 = .ok (.caload, 1) := by decide +kernel
theorem e18_13 : decode jdk_52_method_21_code 13 = .ok (.istore 6, 2) := by decide +kernel
theorem e18_15 : decode jdk_52_method_21_code 15 = .ok (.iload 6, 2) := by decide +kernel
theorem e18_17 : decode jdk_52_method_21_code 17 = .ok (.sipush 255, 3) := by decide +kernel
theorem e18_20 : decode jdk_52_method_21_code 20 = .ok (.if_icmp .le 6, 3) := by decide +kernel
theorem e18_26 : decode jdk_52_method_21_code 26 = .ok (.aload_n 2, 1) := by decide +kernel
theorem e18_27 : decode jdk_52_method_21_code 27 = .ok (.iload_n 3, 1) := by decide +kernel
theorem e18_28 : decode jdk_52_method_21_code 28 = .ok (.iload 6, 2) := by decide +kernel
theorem e18_30 : decode jdk_52_method_21_code 30 = .ok (.i2b, 1) := by decide +kernel
theorem e18_31 : decode jdk_52_method_21_code 31 = .ok (.bastore, 1) := by decide +kernel
theorem e18_32 : decode jdk_52_method_21_code 32 = .ok (.iinc 1 1, 3) := by decide +kernel
theorem e18_35 : decode jdk_52_method_21_code 35 = .ok (.iinc 3 1, 3) := by decide +kernel
theorem e18_38 : decode jdk_52_method_21_code 38 = .ok (.iinc 5 1, 3) := by decide +kernel
theorem e18_41 : decode jdk_52_method_21_code 41 = .ok (.goto (-38), 3) := by decide +kernel
theorem e18_44 : decode jdk_52_method_21_code 44 = .ok (.iload 4, 2) := by decide +kernel
theorem e18_46 : decode jdk_52_method_21_code 46 = .ok (.ireturn, 1) := by decide +kernel
theorem e17_12 : decode jdk_52_method_16_code 12 = .ok (.istore 4, 2) := by decide +kernel
theorem e17_14 : decode jdk_52_method_16_code 14 = .ok (.iload 4, 2) := by decide +kernel
theorem e17_16 : decode jdk_52_method_16_code 16 = .ok (.iload_n 2, 1) := by decide +kernel
theorem e17_17 : decode jdk_52_method_16_code 17 = .ok (.if_icmp .eq 40, 3) := by decide +kernel
theorem e17_57 : decode jdk_52_method_16_code 57 = .ok (.aload_n 3, 1) := by decide +kernel
theorem e17_58 : decode jdk_52_method_16_code 58 = .ok (.areturn, 1) := by decide +kernel
theorem e2_39 : decode jdk_42_method_149_code 39 = .ok (.astore 5, 2) := by decide +kernel
theorem e2_41 : decode jdk_42_method_149_code 41 = .ok (.aload_n 0, 1) := by decide +kernel
theorem e2_42 : decode jdk_42_method_149_code 42 = .ok (.aload 5, 2) := by decide +kernel
theorem e2_44 : decode jdk_42_method_149_code 44 = .ok (.iload_n 3, 1) := by decide +kernel
theorem e2_45 : decode jdk_42_method_149_code 45 = .ok (.invokestatic 47, 3) := by decide +kernel
theorem e19_0 : decode jdk_52_method_15_code 0 = .ok (.iload_n 1, 1) := by decide +kernel
theorem e19_1 : decode jdk_52_method_15_code 1 = .ok (.aload_n 0, 1) := by decide +kernel
theorem e19_2 : decode jdk_52_method_15_code 2 = .ok (.arraylength, 1) := by decide +kernel
theorem e19_3 : decode jdk_52_method_15_code 3 = .ok (.isub, 1) := by decide +kernel
theorem e19_4 : decode jdk_52_method_15_code 4 = .ok (.bipush 31, 2) := by decide +kernel
theorem e19_6 : decode jdk_52_method_15_code 6 = .ok (.iushr, 1) := by decide +kernel
theorem e19_7 : decode jdk_52_method_15_code 7 = .ok (.i2b, 1) := by decide +kernel
theorem e19_8 : decode jdk_52_method_15_code 8 = .ok (.ireturn, 1) := by decide +kernel
theorem e2_48 : decode jdk_42_method_149_code 48 = .ok (.putfield 15, 3) := by decide +kernel
theorem e2_51 : decode jdk_42_method_149_code 51 = .ok (.aload_n 0, 1) := by decide +kernel
theorem e2_52 : decode jdk_42_method_149_code 52 = .ok (.aload 5, 2) := by decide +kernel
theorem e2_54 : decode jdk_42_method_149_code 54 = .ok (.putfield 9, 3) := by decide +kernel
theorem e2_57 : decode jdk_42_method_149_code 57 = .ok (.return_, 1) := by decide +kernel
theorem e0_60 : decode method_2_code 60 = .ok (.areturn, 1) := by decide +kernel
theorem e14_34 : decode jdk_43_method_13_code 34 = .ok (.iconst 0, 1) := by decide +kernel
theorem e14_35 : decode jdk_43_method_13_code 35 = .ok (.ireturn, 1) := by decide +kernel
theorem e13_54 : decode jdk_42_method_66_code 54 = .ok (.iconst 0, 1) := by decide +kernel
theorem e16_11 : decode jdk_101_method_5_code 11 = .ok (.aload_n 0, 1) := by decide +kernel
theorem e16_12 : decode jdk_101_method_5_code 12 = .ok (.getfield 24, 3) := by decide +kernel
theorem e16_15 : decode jdk_101_method_5_code 15 = .ok (.aload_n 1, 1) := by decide +kernel
theorem e16_16 : decode jdk_101_method_5_code 16 = .ok (.invokevirtual 27, 3) := by decide +kernel
theorem e20_0 : decode object_method_4_code 0 = .ok (.aload_n 0, 1) := by decide +kernel
theorem e20_1 : decode object_method_4_code 1 = .ok (.aload_n 1, 1) := by decide +kernel
theorem e20_2 : decode object_method_4_code 2 = .ok (.if_acmp .ne 7, 3) := by decide +kernel
theorem e20_9 : decode object_method_4_code 9 = .ok (.iconst 0, 1) := by decide +kernel
theorem e20_10 : decode object_method_4_code 10 = .ok (.ireturn, 1) := by decide +kernel
theorem e16_19 : decode jdk_101_method_5_code 19 = .ok (.ifCond .eq 7, 3) := by decide +kernel
theorem e16_26 : decode jdk_101_method_5_code 26 = .ok (.iconst 0, 1) := by decide +kernel
theorem e0_61 : decode method_2_code 61 = .ok (.iload_n 0, 1) := by decide +kernel
theorem e0_62 : decode method_2_code 62 = .ok (.iconst 2, 1) := by decide +kernel
theorem e0_63 : decode method_2_code 63 = .ok (.if_icmp .ne 23, 3) := by decide +kernel
theorem e0_66 : decode method_2_code 66 = .ok (.new 7, 3) := by decide +kernel
theorem e0_69 : decode method_2_code 69 = .ok (.dup, 1) := by decide +kernel
theorem e0_70 : decode method_2_code 70 = .ok (.iconst 2, 1) := by decide +kernel
theorem e0_71 : decode method_2_code 71 = .ok (.newarray .char, 2) := by decide +kernel
theorem e0_73 : decode method_2_code 73 = .ok (.dup, 1) := by decide +kernel
theorem e0_74 : decode method_2_code 74 = .ok (.iconst 0, 1) := by decide +kernel
theorem e0_75 : decode method_2_code 75 = .ok (.iload_n 3, 1) := by decide +kernel
theorem e0_76 : decode method_2_code 76 = .ok (.castore, 1) := by decide +kernel
theorem e0_77 : decode method_2_code 77 = .ok (.dup, 1) := by decide +kernel
theorem e0_78 : decode method_2_code 78 = .ok (.iconst 1, 1) := by decide +kernel
theorem e0_79 : decode method_2_code 79 = .ok (.iload 4, 2) := by decide +kernel
theorem e0_81 : decode method_2_code 81 = .ok (.castore, 1) := by decide +kernel
theorem e0_82 : decode method_2_code 82 = .ok (.invokespecial 9, 3) := by decide +kernel
theorem e0_85 : decode method_2_code 85 = .ok (.areturn, 1) := by decide +kernel
theorem e0_86 : decode method_2_code 86 = .ok (.new 7, 3) := by decide +kernel
theorem e0_89 : decode method_2_code 89 = .ok (.dup, 1) := by decide +kernel
theorem e0_90 : decode method_2_code 90 = .ok (.iconst 3, 1) := by decide +kernel
theorem e0_91 : decode method_2_code 91 = .ok (.newarray .char, 2) := by decide +kernel
theorem e0_93 : decode method_2_code 93 = .ok (.dup, 1) := by decide +kernel
theorem e0_94 : decode method_2_code 94 = .ok (.iconst 0, 1) := by decide +kernel
theorem e0_95 : decode method_2_code 95 = .ok (.iload_n 3, 1) := by decide +kernel
theorem e0_96 : decode method_2_code 96 = .ok (.castore, 1) := by decide +kernel
theorem e0_97 : decode method_2_code 97 = .ok (.dup, 1) := by decide +kernel
theorem e0_98 : decode method_2_code 98 = .ok (.iconst 1, 1) := by decide +kernel
theorem e0_99 : decode method_2_code 99 = .ok (.iload 4, 2) := by decide +kernel
theorem e0_101 : decode method_2_code 101 = .ok (.castore, 1) := by decide +kernel
theorem e0_102 : decode method_2_code 102 = .ok (.dup, 1) := by decide +kernel
theorem e0_103 : decode method_2_code 103 = .ok (.iconst 2, 1) := by decide +kernel
theorem e0_104 : decode method_2_code 104 = .ok (.iload 5, 2) := by decide +kernel
theorem e0_106 : decode method_2_code 106 = .ok (.castore, 1) := by decide +kernel
theorem e0_107 : decode method_2_code 107 = .ok (.invokespecial 9, 3) := by decide +kernel
theorem e0_110 : decode method_2_code 110 = .ok (.areturn, 1) := by decide +kernel
theorem e14_15 : decode jdk_43_method_13_code 15 = .ok (.aload_n 0, 1) := by decide +kernel
theorem e14_16 : decode jdk_43_method_13_code 16 = .ok (.iload_n 2, 1) := by decide +kernel
theorem e14_17 : decode jdk_43_method_13_code 17 = .ok (.baload, 1) := by decide +kernel
theorem e14_18 : decode jdk_43_method_13_code 18 = .ok (.aload_n 1, 1) := by decide +kernel
theorem e14_19 : decode jdk_43_method_13_code 19 = .ok (.iload_n 2, 1) := by decide +kernel
theorem e14_20 : decode jdk_43_method_13_code 20 = .ok (.baload, 1) := by decide +kernel
theorem e14_21 : decode jdk_43_method_13_code 21 = .ok (.if_icmp .eq 5, 3) := by decide +kernel
theorem e14_26 : decode jdk_43_method_13_code 26 = .ok (.iinc 2 1, 3) := by decide +kernel
theorem e14_29 : decode jdk_43_method_13_code 29 = .ok (.goto (-20), 3) := by decide +kernel
theorem e14_24 : decode jdk_43_method_13_code 24 = .ok (.iconst 0, 1) := by decide +kernel
theorem e14_25 : decode jdk_43_method_13_code 25 = .ok (.ireturn, 1) := by decide +kernel
theorem pd0 : parseMethodDescriptor "([CIILjava/lang/Void;)V" = some ⟨[(.array .char), .int, .int, (.object "java/lang/Void")], none⟩ := by decide +kernel
theorem pd1 : parseMethodDescriptor "([C)V" = some ⟨[(.array .char)], none⟩ := by decide +kernel
theorem pd2 : parseMethodDescriptor "(III)Ljava/lang/String;" = some ⟨[.int, .int, .int], (some (.object "java/lang/String"))⟩ := by decide +kernel
theorem pd3 : parseMethodDescriptor "()V" = some ⟨[], none⟩ := by decide +kernel
theorem pd4 : parseMethodDescriptor "(Ljava/lang/Object;)Ljava/lang/Object;" = some ⟨[(.object "java/lang/Object")], (some (.object "java/lang/Object"))⟩ := by decide +kernel
theorem pd5 : parseMethodDescriptor "(Ljava/lang/Object;)V" = some ⟨[(.object "java/lang/Object")], none⟩ := by decide +kernel
theorem pd6 : parseMethodDescriptor "(Ljava/lang/Object;)Ljava/util/Set;" = some ⟨[(.object "java/lang/Object")], (some (.object "java/util/Set"))⟩ := by decide +kernel
theorem pd7 : parseMethodDescriptor "(Ljava/util/Set;)V" = some ⟨[(.object "java/util/Set")], none⟩ := by decide +kernel
theorem pd8 : parseMethodDescriptor "(Ljava/lang/String;)Lcom/example/entitlement/entitlement/Scope;" = some ⟨[(.object "java/lang/String")], (some (.object "com/example/entitlement/entitlement/Scope"))⟩ := by decide +kernel
theorem pd9 : parseMethodDescriptor "()Z" = some ⟨[], (some .boolean)⟩ := by decide +kernel
theorem pd10 : parseMethodDescriptor "()Ljava/util/Set;" = some ⟨[], (some (.object "java/util/Set"))⟩ := by decide +kernel
theorem pd11 : parseMethodDescriptor "([B[B)Z" = some ⟨[(.array .byte), (.array .byte)], (some .boolean)⟩ := by decide +kernel
theorem pd12 : parseMethodDescriptor "(Ljava/lang/Object;)Z" = some ⟨[(.object "java/lang/Object")], (some .boolean)⟩ := by decide +kernel
theorem pd13 : parseMethodDescriptor "()I" = some ⟨[], (some .int)⟩ := by decide +kernel
theorem pd14 : parseMethodDescriptor "([CI[BII)I" = some ⟨[(.array .char), .int, (.array .byte), .int, .int], (some .int)⟩ := by decide +kernel
theorem pd15 : parseMethodDescriptor "([CII)[B" = some ⟨[(.array .char), .int, .int], (some (.array .byte))⟩ := by decide +kernel
theorem pd16 : parseMethodDescriptor "([BI)B" = some ⟨[(.array .byte), .int], (some .byte)⟩ := by decide +kernel
theorem pn0 : plainName "com/example/entitlement/entitlement/ScopeUpToPinLaw" = true := by first | (simp [plainName, overriddenIn]; done) | decide +kernel
theorem pn1 : plainName "java/lang/String" = true := by first | (simp [plainName, overriddenIn]; done) | decide +kernel
theorem pn2 : plainName "com/example/entitlement/entitlement/Scope" = true := by first | (simp [plainName, overriddenIn]; done) | decide +kernel
theorem pn3 : plainName "java/util/Set" = true := by first | (simp [plainName, overriddenIn]; done) | decide +kernel
theorem pn4 : plainName "java/util/ImmutableCollections$Set12" = true := by first | (simp [plainName, overriddenIn]; done) | decide +kernel
theorem pn5 : plainName "java/util/ImmutableCollections$AbstractImmutableSet" = true := by first | (simp [plainName, overriddenIn]; done) | decide +kernel
theorem pn6 : plainName "java/util/ImmutableCollections$AbstractImmutableCollection" = true := by first | (simp [plainName, overriddenIn]; done) | decide +kernel
theorem pn7 : plainName "java/util/AbstractCollection" = true := by first | (simp [plainName, overriddenIn]; done) | decide +kernel
theorem pn8 : plainName "java/util/Objects" = true := by first | (simp [plainName, overriddenIn]; done) | decide +kernel
theorem pn9 : plainName "java/lang/StringLatin1" = true := by first | (simp [plainName, overriddenIn]; done) | decide +kernel
theorem pn10 : plainName "java/lang/StringUTF16" = true := by first | (simp [plainName, overriddenIn]; done) | decide +kernel
def GlS (Z : State) (u0 : Nat) : Prop := Sta Z Z.heap "java/util/ImmutableCollections" "EMPTY" "Ljava/lang/Object;" (.ref u0) ∧ Exa Z Z.heap u0 "java/lang/Object"
theorem hEW {a0 : Array Value} {Z : State} (hw : Hw a0 Z) : EW Z a0 EL1 := EW.cons (w18 hw) (by decide) (EW.nil)
theorem hSA {a0 : Array Value} {Z : State} (hw : Hw a0 Z) : ∀ w ∈ Bundle.stringAtoms, w.before a0 Z = true := by
  intro w hq
  simp only [Bundle.stringAtoms, List.mem_cons, List.not_mem_nil, or_false] at hq
  rcases hq with rfl | rfl | rfl | rfl | rfl | rfl | rfl
  · exact (w6 hw)
  · exact (w5 hw)
  · exact (w19 hw)
  · exact (w20 hw)
  · exact (w21 hw)
  · exact (w22 hw)
  · exact (w23 hw)

set_option maxRecDepth 65536 in
set_option maxHeartbeats 40000000 in
theorem con_init_1 {l : Launch} {Z : State} {n0 : Nat} {a0 : Array Value} {cz : Int32} {sf : Value} (hw : Hw a0 Z) (G : Ow.Glo Z cz sf) {u0 : Nat} (GS : GlS Z u0) {pa0 : Nat} {pa1 : Nat} {h0 : Heap} (O0 : Old Z n0 h0) (hf0 : Exa Z h0 pa0 "java/lang/String") (hf1 : Fld Z h0 pa0 "java/lang/String" "coder" "B" (.int (0 : Int32))) (hf2 : Fld Z h0 pa0 "java/lang/String" "value" "[B" .null) (hn0 : n0 ≤ pa0) :
    Ow.Con l Z EL1 n0 my0 jdk_42_method_149_code 6 (Option.none : Option Jvm.ClassFile.FieldType) [] ({ frames := 1, cells := 4, slots := 8, locals := 12 } : Room) #[(.ref pa0), (.ref pa1), (.int (0 : Int32)), (.int (0 : Int32)), .null] [pa0] h0 (fun v h S' => (∃ r0 : Nat, ∃ k0 : ClassId, v = none ∧ Keep h0 h [pa0] ∧ Exa Z h pa0 "java/lang/String" ∧ Fld Z h pa0 "java/lang/String" "coder" "B" (.int (0 : Int32)) ∧ Fld Z h pa0 "java/lang/String" "value" "[B" (.ref r0) ∧ Arv Z h r0 k0 .byte (0 : Int32) [] (.int 0) ∧ S' = [])) := by
  refine Ow.Con.enter (Ls := #[.val (.ref pa0), .val (.ref pa1), .val (.int (0 : Int32)), .val (.int (0 : Int32)), .val .null, .unset]) (plainFor_of_name pn1) O0 (hEW hw) (hSA hw) ?_
  intro p e s m below meth c B
  have z0 := Ow.old_le O0
  have lu0 : (u0 : Nat) < n0 := O0.1 ▸ GS.2.lt
  have lpa0 : (pa0 : Nat) < h0.size := hf0.lt
  refine Ow.aloadN (pc' := 1) B e2_0 ?_
  refine Ow.objInit (pc' := 4) (W := 0) B e2_1 (w15 hw) (w16 hw) (w17 hw) ?_
  refine Ow.iloadN (pc' := 5) B e2_4 ?_
  refine Ow.ifF (pc' := 8) B e2_5 (by decide) ?_
  refine Ow.aloadN (pc' := 9) B e2_8 ?_
  refine Ow.ldcText (pc' := 11) (k' := 2) (n' := 4) (nn := 0) (vs := []) (z := (0 : Int32)) B e2_9 (w18 hw) (by decide) ⟨by decide, by decide⟩ (by decide) (by decide) ?_
  intro h2 a1 t3 kt3 Kh2 Ea1 Ca1 Va1 At3 Na1
  have zh2 := Kh2.1
  have la1 : (a1 : Nat) < h2.size := Ea1.lt
  have lt3 : (t3 : Nat) < h2.size := At3.lt
  have n4 : (pa0 : Nat) ≠ a1 ∧ (pa0 : Nat) ≠ t3 := Na1 pa0 (by simp)
  refine Ow.getfield (pc' := 14) B e2_11 (w24 hw) Via.refl Va1 ?_
  have f5 := hf2.keep Kh2 Ow.nin0
  have f6 := hf0.keep Kh2
  refine Ow.putfield (pc' := 17) (ty := (.array .byte)) B e2_14 (w24 hw) Via.refl f5 f6 (Or.inr ⟨(w20 hw), rfl, rfl⟩) (w5 hw) (Or.inl (by simp)) ?_
  intro h7 Wh7
  have f8 := hf1.keep Kh2 Ow.nin0
  have Kh7 := Keep.of_wr Wh7
  have zh7 := Kh7.1
  have f9 : Fld Z h7 pa0 "java/lang/String" "value" "[B" (.ref t3) := f5.same Wh7
  have f10 : Fld Z h7 pa0 "java/lang/String" "coder" "B" (.int (0 : Int32)) := f8.other Wh7 (Or.inr (slot_ne (a0 := a0) (C := "java/lang/String") (t := .byte) (t' := (.array .byte)) (Or.inr (w21 hw)) (Or.inr (w20 hw)) (by decide) (by decide) (by decide)))
  refine Ow.aloadN (pc' := 18) B e2_17 ?_
  refine Ow.ldcText (pc' := 20) (k' := 4) (n' := 8) (nn := 0) (vs := []) (z := (0 : Int32)) B e2_18 (w18 hw) (by decide) ⟨by decide, by decide⟩ (by decide) (by decide) ?_
  intro h12 a11 t13 kt13 Kh12 Ea11 Ca11 Va11 At13 Na11
  have zh12 := Kh12.1
  have la11 : (a11 : Nat) < h12.size := Ea11.lt
  have lt13 : (t13 : Nat) < h12.size := At13.lt
  have n14 : (pa0 : Nat) ≠ a11 ∧ (pa0 : Nat) ≠ t13 := Na11 pa0 (by simp)
  refine Ow.getfield (pc' := 23) B e2_20 (w25 hw) Via.refl Ca11 ?_
  have f15 := f10.keep Kh12 Ow.nin0
  have f16 := f6.keep Kh7
  have f17 := f16.keep Kh12
  refine Ow.putfield (pc' := 26) (ty := .byte) B e2_23 (w25 hw) Via.refl f15 f17 (Or.inr ⟨(w21 hw), rfl, rfl⟩) (w5 hw) (Or.inl (by simp)) ?_
  intro h18 Wh18
  have f19 := f9.keep Kh12 Ow.nin0
  have Kh18 := Keep.of_wr Wh18
  have zh18 := Kh18.1
  have f20 : Fld Z h18 pa0 "java/lang/String" "coder" "B" (.int (0 : Int32)) := f15.same Wh18
  have f21 : Fld Z h18 pa0 "java/lang/String" "value" "[B" (.ref t3) := f19.other Wh18 (Or.inr (slot_ne (a0 := a0) (C := "java/lang/String") (t := (.array .byte)) (t' := .byte) (Or.inr (w20 hw)) (Or.inr (w21 hw)) (by decide) (by decide) (by decide)))
  have f22 := f17.keep Kh18
  have f23 := At3.keep Kh7 (Ow.ninS (by omega) Ow.nin0)
  have f24 := f23.keep Kh12 Ow.nin0
  have f25 := f24.keep Kh18 (Ow.ninS (by omega) Ow.nin0)
  exact Ow.retV (S' := []) B e2_26 (⟨t3, kt3, rfl, (((((Keep.refl _ [pa0]).trans Kh2 (fun _ q => nomatch q)).trans Kh7 (allS (Or.inl (by simp)) all0)).trans Kh12 (fun _ q => nomatch q)).trans Kh18 (allS (Or.inl (by simp)) all0)), f22, f20, f21, f25, rfl⟩)
set_option maxRecDepth 65536 in
set_option maxHeartbeats 40000000 in
theorem con_init_2 {l : Launch} {Z : State} {n0 : Nat} {a0 : Array Value} {cz : Int32} {sf : Value} (hw : Hw a0 Z) (G : Ow.Glo Z cz sf) {u0 : Nat} (GS : GlS Z u0) {pa0 : Nat} {pa1 : Nat} {pk0 : ClassId} {h0 : Heap} (O0 : Old Z n0 h0) (hf0 : Exa Z h0 pa0 "java/lang/String") (hf1 : Fld Z h0 pa0 "java/lang/String" "coder" "B" (.int (0 : Int32))) (hf2 : Fld Z h0 pa0 "java/lang/String" "value" "[B" .null) (hf3 : Arv Z h0 pa1 pk0 .char (0 : Int32) [] (.int 0)) (hn0 : n0 ≤ pa0) (hn1 : n0 ≤ pa1) :
    Ow.Con l Z EL1 n0 my1 jdk_42_method_3_code 2 (Option.none : Option Jvm.ClassFile.FieldType) [] ({ frames := 2, cells := 4, slots := 8, locals := 29 } : Room) #[(.ref pa0), (.ref pa1)] [pa0] h0 (fun v h S' => (∃ r0 : Nat, ∃ k0 : ClassId, v = none ∧ Keep h0 h [pa0] ∧ Exa Z h pa0 "java/lang/String" ∧ Fld Z h pa0 "java/lang/String" "coder" "B" (.int (0 : Int32)) ∧ Fld Z h pa0 "java/lang/String" "value" "[B" (.ref r0) ∧ Arv Z h r0 k0 .byte (0 : Int32) [] (.int 0) ∧ S' = [])) := by
  refine Ow.Con.enter (Ls := #[.val (.ref pa0), .val (.ref pa1)]) (plainFor_of_name pn1) O0 (hEW hw) (hSA hw) ?_
  intro p e s m below meth c B
  have z0 := Ow.old_le O0
  have lu0 : (u0 : Nat) < n0 := O0.1 ▸ GS.2.lt
  have lpa0 : (pa0 : Nat) < h0.size := hf0.lt
  have lpa1 : (pa1 : Nat) < h0.size := hf3.lt
  refine Ow.aloadN (pc' := 1) B e1_0 ?_
  refine Ow.aloadN (pc' := 2) B e1_1 ?_
  refine Ow.iconst (pc' := 3) (x := (0 : Int32)) B e1_2 ?_
  refine Ow.aloadN (pc' := 4) B e1_3 ?_
  refine Ow.arrlen (pc' := 5) B e1_4 hf3 ?_
  refine Ow.aconstNull (pc' := 6) B e1_5 ?_
  refine Ow.Go.old (fun o1 => ?_)
  refine Ow.callInit (pc' := 9) (W := 0) (k' := 4) (n' := 8) (argsL := [(.ref pa1), (.int (0 : Int32)), (.int (0 : Int32)), .null]) (rest := []) B e1_6 (w11 hw) (w12 hw) (w6 hw) (w14 hw) (con_init_1 hw G GS (pa0 := pa0) (pa1 := pa1) o1 hf0 hf1 hf2 (by omega)) pd0 ?_
  intro vq2 h3 S4 q2 zh3
  obtain ⟨r5, k6, rfl, Kh3, f7, f8, f9, f10, rfl⟩ := q2
  have lr5 : (r5 : Nat) < h3.size := f10.lt
  refine Ow.Go.norm (S' := [pa0]) (st' := []) (fun _ q => List.mem_append_right _ q) rfl ?_
  exact Ow.retV (S' := []) B e1_9 (⟨r5, k6, rfl, ((Keep.refl _ [pa0]).trans Kh3 (allS (Or.inl (by simp)) all0)), f7, f8, f9, f10, rfl⟩)
set_option maxRecDepth 65536 in
set_option maxHeartbeats 40000000 in
theorem con_mk_3 {l : Launch} {Z : State} {n0 : Nat} {a0 : Array Value} {cz : Int32} {sf : Value} (hw : Hw a0 Z) (G : Ow.Glo Z cz sf) {u0 : Nat} (GS : GlS Z u0) {px0 : Int32} {px1 : Int32} {h0 : Heap} (O0 : Old Z n0 h0) :
    Ow.Con l Z EL1 n0 my2 method_2_code 6 (Option.some (Jvm.ClassFile.FieldType.object "java/lang/String")) [] ({ frames := 3, cells := 6, slots := 12, locals := 43 } : Room) #[(.int (0 : Int32)), (.int px0), (.int px1)] [] h0 (fun v h S' => (∃ r0 : Nat, ∃ r1 : Nat, ∃ k0 : ClassId, v = some (.ref r0) ∧ Keep h0 h [] ∧ h0.size ≤ r0 ∧ Exa Z h r0 "java/lang/String" ∧ Fld Z h r0 "java/lang/String" "coder" "B" (.int (0 : Int32)) ∧ Fld Z h r0 "java/lang/String" "value" "[B" (.ref r1) ∧ Arv Z h r1 k0 .byte (0 : Int32) [] (.int 0) ∧ S' = [r0])) := by
  refine Ow.Con.enter (Ls := #[.val (.int (0 : Int32)), .val (.int px0), .val (.int px1), .unset, .unset, .unset]) (plainFor_of_name pn0) O0 (hEW hw) (hSA hw) ?_
  intro p e s m below meth c B
  have z0 := Ow.old_le O0
  have lu0 : (u0 : Nat) < n0 := O0.1 ▸ GS.2.lt
  refine Ow.iloadN (pc' := 1) B e0_0 ?_
  refine Ow.sipush (pc' := 4) (x := (255 : Int32)) B e0_1 ?_
  refine Ow.iand (pc' := 5) (z := (px0 &&& (255 : Int32))) B e0_4 ?_
  obtain ⟨c1, hc1⟩ : ∃ z : Int32, (px0 &&& (255 : Int32)).toUInt32.toUInt16.toUInt32.toInt32 = z := ⟨_, rfl⟩
  refine Ow.i2c (pc' := 6) (z := c1) (hz := hc1) B e0_5 ?_
  refine Ow.istoreN (pc' := 7) (Ls' := #[.val (.int (0 : Int32)), .val (.int px0), .val (.int px1), .val (.int c1), .unset, .unset]) B e0_6 ?_
  refine Ow.iloadN (pc' := 8) B e0_7 ?_
  refine Ow.bipush (pc' := 10) (x := (8 : Int32)) B e0_8 ?_
  refine Ow.ishr (pc' := 11) (z := (px0 >>> ((8 : Int32) &&& 31))) B e0_10 ?_
  refine Ow.sipush (pc' := 14) (x := (255 : Int32)) B e0_11 ?_
  refine Ow.iand (pc' := 15) (z := ((px0 >>> ((8 : Int32) &&& 31)) &&& (255 : Int32))) B e0_14 ?_
  obtain ⟨c2, hc2⟩ : ∃ z : Int32, ((px0 >>> ((8 : Int32) &&& 31)) &&& (255 : Int32)).toUInt32.toUInt16.toUInt32.toInt32 = z := ⟨_, rfl⟩
  refine Ow.i2c (pc' := 16) (z := c2) (hz := hc2) B e0_15 ?_
  refine Ow.istore (pc' := 18) (Ls' := #[.val (.int (0 : Int32)), .val (.int px0), .val (.int px1), .val (.int c1), .val (.int c2), .unset]) B e0_16 ?_
  refine Ow.iloadN (pc' := 19) B e0_18 ?_
  refine Ow.sipush (pc' := 22) (x := (255 : Int32)) B e0_19 ?_
  refine Ow.iand (pc' := 23) (z := (px1 &&& (255 : Int32))) B e0_22 ?_
  obtain ⟨c3, hc3⟩ : ∃ z : Int32, (px1 &&& (255 : Int32)).toUInt32.toUInt16.toUInt32.toInt32 = z := ⟨_, rfl⟩
  refine Ow.i2c (pc' := 24) (z := c3) (hz := hc3) B e0_23 ?_
  refine Ow.istore (pc' := 26) (Ls' := #[.val (.int (0 : Int32)), .val (.int px0), .val (.int px1), .val (.int c1), .val (.int c2), .val (.int c3)]) B e0_24 ?_
  refine Ow.iloadN (pc' := 27) B e0_26 ?_
  refine Ow.ifF (pc' := 30) B e0_27 (by decide) ?_
  refine Ow.newObj (pc' := 33) (k' := 1) (n' := 4) B e0_30 (w4 hw) (w5 hw) (w6 hw) ?_
  intro h5 a4 ga4 ba4 Kh5 Aa4 Da4
  have zh5 := Kh5.1
  have la4 : (a4 : Nat) < h5.size := Aa4.lt
  have f6 : Fld Z h5 a4 "java/lang/String" "value" "[B" .null := Da4 (Or.inr (w20 hw)) (ty := (.array .byte)) (by decide)
  have f7 : Fld Z h5 a4 "java/lang/String" "coder" "B" (.int 0) := Da4 (Or.inr (w21 hw)) (ty := .byte) (by decide)
  refine Ow.dup (pc' := 34) B e0_33 ?_
  refine Ow.iconst (pc' := 35) (x := (0 : Int32)) B e0_34 ?_
  refine Ow.newArr (pc' := 37) (k' := 2) (n' := 4) (cap := 0) B e0_35 (w7 hw) (by decide) (by decide) ?_
  intro h9 a8 ka8 ga8 ba8 Kh9 V0a8
  have zh9 := Kh9.1
  have la8 : (a8 : Nat) < h9.size := V0a8.lt
  have Va8 : Arv Z h9 a8 ka8 .char (0 : Int32) [] (.int 0) := V0a8.pad (pad_rep [] (.int 0) 0)
  refine Ow.Go.old (fun o10 => ?_)
  have f11 := Aa4.keep Kh9
  have f12 := f7.keep Kh9 Ow.nin0
  have f13 := f6.keep Kh9 Ow.nin0
  refine Ow.callInit (pc' := 40) (W := 1) (k' := 6) (n' := 12) (argsL := [(.ref a8)]) (rest := [(.ref a4)]) B e0_37 (w8 hw) (w9 hw) (w6 hw) (w10 hw) (con_init_2 hw G GS (pa0 := a4) (pa1 := a8) (pk0 := ka8) o10 f11 f12 f13 Va8 (by omega) (by omega)) pd1 ?_
  intro vq14 h15 S16 q14 zh15
  obtain ⟨r17, k18, rfl, Kh15, f19, f20, f21, f22, rfl⟩ := q14
  have lr17 : (r17 : Nat) < h15.size := f22.lt
  refine Ow.Go.norm (S' := [a8, a4]) (st' := [(.ref a4)]) (fun _ q => List.mem_append_right _ q) rfl ?_
  exact Ow.retA (S' := [a4]) (t := (.object "java/lang/String")) B e0_40 (⟨a4, r17, k18, rfl, ((((Keep.refl _ []).trans Kh5 (fun _ q => nomatch q)).trans Kh9 (fun _ q => nomatch q)).trans Kh15 (allS (Or.inr (by omega)) all0)), (by omega), f19, f20, f21, f22, rfl⟩)
set_option maxRecDepth 65536 in
set_option maxHeartbeats 40000000 in
theorem con_init_4 {l : Launch} {Z : State} {n0 : Nat} {a0 : Array Value} {cz : Int32} {sf : Value} (hw : Hw a0 Z) (G : Ow.Glo Z cz sf) {u0 : Nat} (GS : GlS Z u0) {pa0 : Nat} {h0 : Heap} (O0 : Old Z n0 h0) :
    Ow.Con l Z EL1 n0 my3 jdk_22_method_1_code 1 (Option.none : Option Jvm.ClassFile.FieldType) [] ({ frames := 1, cells := 0, slots := 0, locals := 12 } : Room) #[(.ref pa0)] [] h0 (fun v h S' => (v = none ∧ h = h0 ∧ S' = [])) := by
  refine Ow.Con.enter (Ls := #[.val (.ref pa0)]) (plainFor_of_name pn7) O0 (hEW hw) (hSA hw) ?_
  intro p e s m below meth c B
  have z0 := Ow.old_le O0
  have lu0 : (u0 : Nat) < n0 := O0.1 ▸ GS.2.lt
  refine Ow.aloadN (pc' := 1) B e8_0 ?_
  refine Ow.objInit (pc' := 4) (W := 0) B e8_1 (w61 hw) (w16 hw) (w17 hw) ?_
  exact Ow.retV (S' := []) B e8_4 (⟨rfl, rfl, rfl⟩)
set_option maxRecDepth 65536 in
set_option maxHeartbeats 40000000 in
theorem con_init_5 {l : Launch} {Z : State} {n0 : Nat} {a0 : Array Value} {cz : Int32} {sf : Value} (hw : Hw a0 Z) (G : Ow.Glo Z cz sf) {u0 : Nat} (GS : GlS Z u0) {pa0 : Nat} {h0 : Heap} (O0 : Old Z n0 h0) :
    Ow.Con l Z EL1 n0 my4 jdk_47_method_1_code 1 (Option.none : Option Jvm.ClassFile.FieldType) [] ({ frames := 2, cells := 0, slots := 0, locals := 24 } : Room) #[(.ref pa0)] [] h0 (fun v h S' => (v = none ∧ h = h0 ∧ S' = [])) := by
  refine Ow.Con.enter (Ls := #[.val (.ref pa0)]) (plainFor_of_name pn6) O0 (hEW hw) (hSA hw) ?_
  intro p e s m below meth c B
  have z0 := Ow.old_le O0
  have lu0 : (u0 : Nat) < n0 := O0.1 ▸ GS.2.lt
  refine Ow.aloadN (pc' := 1) B e7_0 ?_
  refine Ow.Go.old (fun o1 => ?_)
  refine Ow.callInit (pc' := 4) (W := 0) (k' := 0) (n' := 0) (argsL := []) (rest := []) B e7_1 (w55 hw) (w56 hw) (w59 hw) (w60 hw) (con_init_4 hw G GS (pa0 := pa0) o1) pd3 ?_
  intro vq2 h3 S4 q2 zh3
  obtain ⟨rfl, rfl, rfl⟩ := q2
  refine Ow.Go.norm (S' := []) (st' := []) (fun _ q => List.mem_append_right _ q) rfl ?_
  exact Ow.retV (S' := []) B e7_4 (⟨rfl, rfl, rfl⟩)
set_option maxRecDepth 65536 in
set_option maxHeartbeats 40000000 in
theorem con_init_6 {l : Launch} {Z : State} {n0 : Nat} {a0 : Array Value} {cz : Int32} {sf : Value} (hw : Hw a0 Z) (G : Ow.Glo Z cz sf) {u0 : Nat} (GS : GlS Z u0) {pa0 : Nat} {h0 : Heap} (O0 : Old Z n0 h0) :
    Ow.Con l Z EL1 n0 my5 jdk_100_method_1_code 1 (Option.none : Option Jvm.ClassFile.FieldType) [] ({ frames := 3, cells := 0, slots := 0, locals := 36 } : Room) #[(.ref pa0)] [] h0 (fun v h S' => (v = none ∧ h = h0 ∧ S' = [])) := by
  refine Ow.Con.enter (Ls := #[.val (.ref pa0)]) (plainFor_of_name pn5) O0 (hEW hw) (hSA hw) ?_
  intro p e s m below meth c B
  have z0 := Ow.old_le O0
  have lu0 : (u0 : Nat) < n0 := O0.1 ▸ GS.2.lt
  refine Ow.aloadN (pc' := 1) B e6_0 ?_
  refine Ow.Go.old (fun o1 => ?_)
  refine Ow.callInit (pc' := 4) (W := 0) (k' := 0) (n' := 0) (argsL := []) (rest := []) B e6_1 (w49 hw) (w50 hw) (w53 hw) (w54 hw) (con_init_5 hw G GS (pa0 := pa0) o1) pd3 ?_
  intro vq2 h3 S4 q2 zh3
  obtain ⟨rfl, rfl, rfl⟩ := q2
  refine Ow.Go.norm (S' := []) (st' := []) (fun _ q => List.mem_append_right _ q) rfl ?_
  exact Ow.retV (S' := []) B e6_4 (⟨rfl, rfl, rfl⟩)
set_option maxRecDepth 65536 in
set_option maxHeartbeats 40000000 in
theorem con_requireNonNull_7 {l : Launch} {Z : State} {n0 : Nat} {a0 : Array Value} {cz : Int32} {sf : Value} (hw : Hw a0 Z) (G : Ow.Glo Z cz sf) {u0 : Nat} (GS : GlS Z u0) {pa0 : Nat} {h0 : Heap} (O0 : Old Z n0 h0) :
    Ow.Con l Z EL1 n0 my6 jdk_31_method_10_code 1 (Option.some (Jvm.ClassFile.FieldType.object "java/lang/Object")) [] ({ frames := 0, cells := 0, slots := 0, locals := 0 } : Room) #[(.ref pa0)] [] h0 (fun v h S' => (v = some (.ref pa0) ∧ h = h0 ∧ S' = [])) := by
  refine Ow.Con.enter (Ls := #[.val (.ref pa0)]) (plainFor_of_name pn8) O0 (hEW hw) (hSA hw) ?_
  intro p e s m below meth c B
  have z0 := Ow.old_le O0
  have lu0 : (u0 : Nat) < n0 := O0.1 ▸ GS.2.lt
  refine Ow.aloadN (pc' := 1) B e9_0 ?_
  refine Ow.ifnonnullT (pc' := 12) B e9_1 ?_
  refine Ow.aloadN (pc' := 13) B e9_12 ?_
  exact Ow.retA (S' := []) (t := (.object "java/lang/Object")) B e9_13 (⟨rfl, rfl, rfl⟩)
set_option maxRecDepth 65536 in
set_option maxHeartbeats 40000000 in
theorem con_init_8 {l : Launch} {Z : State} {n0 : Nat} {a0 : Array Value} {cz : Int32} {sf : Value} (hw : Hw a0 Z) (G : Ow.Glo Z cz sf) {u0 : Nat} (GS : GlS Z u0) {pa0 : Nat} {pa1 : Nat} {h0 : Heap} (O0 : Old Z n0 h0) (hf0 : Exa Z h0 pa0 "java/util/ImmutableCollections$Set12") (hf1 : Fld Z h0 pa0 "java/util/ImmutableCollections$Set12" "e0" "Ljava/lang/Object;" .null) (hf2 : Fld Z h0 pa0 "java/util/ImmutableCollections$Set12" "e1" "Ljava/lang/Object;" .null) (hn0 : n0 ≤ pa0) :
    Ow.Con l Z EL1 n0 my7 jdk_101_method_1_code 2 (Option.none : Option Jvm.ClassFile.FieldType) [] ({ frames := 4, cells := 0, slots := 0, locals := 48 } : Room) #[(.ref pa0), (.ref pa1)] [] h0 (fun v h S' => (v = none ∧ Keep h0 h [pa0] ∧ Exa Z h pa0 "java/util/ImmutableCollections$Set12" ∧ Fld Z h pa0 "java/util/ImmutableCollections$Set12" "e0" "Ljava/lang/Object;" (.ref pa1) ∧ Fld Z h pa0 "java/util/ImmutableCollections$Set12" "e1" "Ljava/lang/Object;" (.ref u0) ∧ S' = [])) := by
  refine Ow.Con.enter (Ls := #[.val (.ref pa0), .val (.ref pa1)]) (plainFor_of_name pn4) O0 (hEW hw) (hSA hw) ?_
  intro p e s m below meth c B
  have z0 := Ow.old_le O0
  have lu0 : (u0 : Nat) < n0 := O0.1 ▸ GS.2.lt
  have lpa0 : (pa0 : Nat) < h0.size := hf0.lt
  refine Ow.aloadN (pc' := 1) B e5_0 ?_
  refine Ow.Go.old (fun o1 => ?_)
  refine Ow.callInit (pc' := 4) (W := 0) (k' := 0) (n' := 0) (argsL := []) (rest := []) B e5_1 (w43 hw) (w44 hw) (w47 hw) (w48 hw) (con_init_6 hw G GS (pa0 := pa0) o1) pd3 ?_
  intro vq2 h3 S4 q2 zh3
  obtain ⟨rfl, rfl, rfl⟩ := q2
  refine Ow.Go.norm (S' := []) (st' := []) (fun _ q => List.mem_append_right _ q) rfl ?_
  refine Ow.aloadN (pc' := 5) B e5_4 ?_
  refine Ow.aloadN (pc' := 6) B e5_5 ?_
  refine Ow.Go.old (fun o5 => ?_)
  refine Ow.callStatic (pc' := 9) (W := 1) (k' := 0) (n' := 0) (argsL := [(.ref pa1)]) (rest := [(.ref pa0)]) B e5_6 (w62 hw) (w63 hw) (w64 hw) (w65 hw) (con_requireNonNull_7 hw G GS (pa0 := pa1) o5) pd4 ?_
  intro vq6 h7 S8 q6 zh7
  obtain ⟨rfl, rfl, rfl⟩ := q6
  refine Ow.Go.norm (S' := []) (st' := [(.ref pa1), (.ref pa0)]) (fun _ q => List.mem_append_right _ q) rfl ?_
  refine Ow.putfield (pc' := 12) (ty := (.object "java/lang/Object")) B e5_9 (w66 hw) Via.refl hf1 hf0 (Or.inr ⟨(w67 hw), rfl, rfl⟩) (w37 hw) (Or.inr ⟨by decide, by decide⟩) ?_
  intro h9 Wh9
  have Kh9 := Keep.of_wr Wh9
  have zh9 := Kh9.1
  have f10 : Fld Z h9 pa0 "java/util/ImmutableCollections$Set12" "e0" "Ljava/lang/Object;" (.ref pa1) := hf1.same Wh9
  have f11 : Fld Z h9 pa0 "java/util/ImmutableCollections$Set12" "e1" "Ljava/lang/Object;" .null := hf2.other Wh9 (Or.inr (slot_ne (a0 := a0) (C := "java/util/ImmutableCollections$Set12") (t := (.object "java/lang/Object")) (t' := (.object "java/lang/Object")) (Or.inr (w71 hw)) (Or.inr (w67 hw)) (by decide) (by decide) (by decide)))
  refine Ow.aloadN (pc' := 13) B e5_12 ?_
  refine Ow.getstaticN (pc' := 16) B e5_13 (w68 hw) Via.refl GS.1 ?_
  have f12 := hf0.keep Kh9
  refine Ow.putfield (pc' := 19) (ty := (.object "java/lang/Object")) B e5_16 (w70 hw) Via.refl f11 f12 (Or.inr ⟨(w71 hw), rfl, rfl⟩) (w37 hw) (Or.inr ⟨by decide, by decide⟩) ?_
  intro h13 Wh13
  have Kh13 := Keep.of_wr Wh13
  have zh13 := Kh13.1
  have f14 : Fld Z h13 pa0 "java/util/ImmutableCollections$Set12" "e1" "Ljava/lang/Object;" (.ref u0) := f11.same Wh13
  have f15 : Fld Z h13 pa0 "java/util/ImmutableCollections$Set12" "e0" "Ljava/lang/Object;" (.ref pa1) := f10.other Wh13 (Or.inr (slot_ne (a0 := a0) (C := "java/util/ImmutableCollections$Set12") (t := (.object "java/lang/Object")) (t' := (.object "java/lang/Object")) (Or.inr (w67 hw)) (Or.inr (w71 hw)) (by decide) (by decide) (by decide)))
  have f16 := f12.keep Kh13
  exact Ow.retV (S' := []) B e5_19 (⟨rfl, (((Keep.refl _ [pa0]).trans Kh9 (allS (Or.inl (by simp)) all0)).trans Kh13 (allS (Or.inl (by simp)) all0)), f16, f15, f14, rfl⟩)
set_option maxRecDepth 65536 in
set_option maxHeartbeats 40000000 in
theorem con_of_9 {l : Launch} {Z : State} {n0 : Nat} {a0 : Array Value} {cz : Int32} {sf : Value} (hw : Hw a0 Z) (G : Ow.Glo Z cz sf) {u0 : Nat} (GS : GlS Z u0) {pa0 : Nat} {h0 : Heap} (O0 : Old Z n0 h0) :
    Ow.Con l Z EL1 n0 my8 jdk_96_method_18_code 1 (Option.some (Jvm.ClassFile.FieldType.object "java/util/Set")) [] ({ frames := 5, cells := 1, slots := 2, locals := 62 } : Room) #[(.ref pa0)] [] h0 (fun v h S' => (∃ r0 : Nat, v = some (.ref r0) ∧ Keep h0 h [] ∧ h0.size ≤ r0 ∧ Exa Z h r0 "java/util/ImmutableCollections$Set12" ∧ Fld Z h r0 "java/util/ImmutableCollections$Set12" "e0" "Ljava/lang/Object;" (.ref pa0) ∧ Fld Z h r0 "java/util/ImmutableCollections$Set12" "e1" "Ljava/lang/Object;" (.ref u0) ∧ S' = [])) := by
  refine Ow.Con.enter (Ls := #[.val (.ref pa0)]) (plainFor_of_name pn3) O0 (hEW hw) (hSA hw) ?_
  intro p e s m below meth c B
  have z0 := Ow.old_le O0
  have lu0 : (u0 : Nat) < n0 := O0.1 ▸ GS.2.lt
  refine Ow.newObj (pc' := 3) (k' := 1) (n' := 2) B e4_0 (w36 hw) (w37 hw) (w38 hw) ?_
  intro h2 a1 ga1 ba1 Kh2 Aa1 Da1
  have zh2 := Kh2.1
  have la1 : (a1 : Nat) < h2.size := Aa1.lt
  have f3 : Fld Z h2 a1 "java/util/ImmutableCollections$Set12" "e0" "Ljava/lang/Object;" .null := Da1 (Or.inr (w67 hw)) (ty := (.object "java/lang/Object")) (by decide)
  have f4 : Fld Z h2 a1 "java/util/ImmutableCollections$Set12" "e1" "Ljava/lang/Object;" .null := Da1 (Or.inr (w71 hw)) (ty := (.object "java/lang/Object")) (by decide)
  refine Ow.dup (pc' := 4) B e4_3 ?_
  refine Ow.aloadN (pc' := 5) B e4_4 ?_
  refine Ow.Go.old (fun o5 => ?_)
  refine Ow.callInit (pc' := 8) (W := 1) (k' := 1) (n' := 2) (argsL := [(.ref pa0)]) (rest := [(.ref a1)]) B e4_5 (w39 hw) (w40 hw) (w38 hw) (w42 hw) (con_init_8 hw G GS (pa0 := a1) (pa1 := pa0) o5 Aa1 f3 f4 (by omega)) pd5 ?_
  intro vq6 h7 S8 q6 zh7
  obtain ⟨rfl, Kh7, f9, f10, f11, rfl⟩ := q6
  refine Ow.Go.norm (S' := [a1]) (st' := [(.ref a1)]) (fun _ q => List.mem_append_right _ q) rfl ?_
  exact Ow.retA (S' := []) (t := (.object "java/util/Set")) B e4_8 (⟨a1, rfl, (((Keep.refl _ []).trans Kh2 (fun _ q => nomatch q)).trans Kh7 (allS (Or.inr (by omega)) all0)), (by omega), f9, f10, f11, rfl⟩)
set_option maxRecDepth 65536 in
set_option maxHeartbeats 40000000 in
theorem con_init_10 {l : Launch} {Z : State} {n0 : Nat} {a0 : Array Value} {cz : Int32} {sf : Value} (hw : Hw a0 Z) (G : Ow.Glo Z cz sf) {u0 : Nat} (GS : GlS Z u0) {pa0 : Nat} {pa1 : Nat} {h0 : Heap} (O0 : Old Z n0 h0) (hf0 : Exa Z h0 pa0 "com/example/entitlement/entitlement/Scope") (hf1 : Fld Z h0 pa0 "com/example/entitlement/entitlement/Scope" "bounds" "Ljava/util/Set;" .null) (hn0 : n0 ≤ pa0) :
    Ow.Con l Z EL1 n0 my9 prog_26_method_1_code 2 (Option.none : Option Jvm.ClassFile.FieldType) [] ({ frames := 1, cells := 0, slots := 0, locals := 12 } : Room) #[(.ref pa0), (.ref pa1)] [] h0 (fun v h S' => (v = none ∧ Keep h0 h [pa0] ∧ Exa Z h pa0 "com/example/entitlement/entitlement/Scope" ∧ Fld Z h pa0 "com/example/entitlement/entitlement/Scope" "bounds" "Ljava/util/Set;" (.ref pa1) ∧ S' = [])) := by
  refine Ow.Con.enter (Ls := #[.val (.ref pa0), .val (.ref pa1)]) (plainFor_of_name pn2) O0 (hEW hw) (hSA hw) ?_
  intro p e s m below meth c B
  have z0 := Ow.old_le O0
  have lu0 : (u0 : Nat) < n0 := O0.1 ▸ GS.2.lt
  have lpa0 : (pa0 : Nat) < h0.size := hf0.lt
  refine Ow.aloadN (pc' := 1) B e10_0 ?_
  refine Ow.objInit (pc' := 4) (W := 0) B e10_1 (w75 hw) (w16 hw) (w17 hw) ?_
  refine Ow.aloadN (pc' := 5) B e10_4 ?_
  refine Ow.aloadN (pc' := 6) B e10_5 ?_
  refine Ow.putfield (pc' := 9) (ty := (.object "java/util/Set")) B e10_6 (w76 hw) Via.refl hf1 hf0 (Or.inr ⟨(w77 hw), rfl, rfl⟩) (w31 hw) (Or.inr ⟨by decide, by decide⟩) ?_
  intro h1 Wh1
  have Kh1 := Keep.of_wr Wh1
  have zh1 := Kh1.1
  have f2 : Fld Z h1 pa0 "com/example/entitlement/entitlement/Scope" "bounds" "Ljava/util/Set;" (.ref pa1) := hf1.same Wh1
  have f3 := hf0.keep Kh1
  exact Ow.retV (S' := []) B e10_9 (⟨rfl, ((Keep.refl _ [pa0]).trans Kh1 (allS (Or.inl (by simp)) all0)), f3, f2, rfl⟩)
set_option maxRecDepth 65536 in
set_option maxHeartbeats 40000000 in
theorem con_upTo_11 {l : Launch} {Z : State} {n0 : Nat} {a0 : Array Value} {cz : Int32} {sf : Value} (hw : Hw a0 Z) (G : Ow.Glo Z cz sf) {u0 : Nat} (GS : GlS Z u0) {pa0 : Nat} {h0 : Heap} (O0 : Old Z n0 h0) :
    Ow.Con l Z EL1 n0 my10 prog_26_method_2_code 1 (Option.some (Jvm.ClassFile.FieldType.object "com/example/entitlement/entitlement/Scope")) [] ({ frames := 6, cells := 2, slots := 3, locals := 76 } : Room) #[(.ref pa0)] [] h0 (fun v h S' => (∃ r0 : Nat, ∃ r1 : Nat, v = some (.ref r0) ∧ Keep h0 h [] ∧ h0.size ≤ r0 ∧ h0.size ≤ r1 ∧ r1 ≠ r0 ∧ Exa Z h r0 "com/example/entitlement/entitlement/Scope" ∧ Fld Z h r0 "com/example/entitlement/entitlement/Scope" "bounds" "Ljava/util/Set;" (.ref r1) ∧ Exa Z h r1 "java/util/ImmutableCollections$Set12" ∧ Fld Z h r1 "java/util/ImmutableCollections$Set12" "e0" "Ljava/lang/Object;" (.ref pa0) ∧ Fld Z h r1 "java/util/ImmutableCollections$Set12" "e1" "Ljava/lang/Object;" (.ref u0) ∧ S' = [])) := by
  refine Ow.Con.enter (Ls := #[.val (.ref pa0)]) (plainFor_of_name pn2) O0 (hEW hw) (hSA hw) ?_
  intro p e s m below meth c B
  have z0 := Ow.old_le O0
  have lu0 : (u0 : Nat) < n0 := O0.1 ▸ GS.2.lt
  refine Ow.newObj (pc' := 3) (k' := 1) (n' := 1) B e3_0 (w30 hw) (w31 hw) (w28 hw) ?_
  intro h2 a1 ga1 ba1 Kh2 Aa1 Da1
  have zh2 := Kh2.1
  have la1 : (a1 : Nat) < h2.size := Aa1.lt
  have f3 : Fld Z h2 a1 "com/example/entitlement/entitlement/Scope" "bounds" "Ljava/util/Set;" .null := Da1 (Or.inr (w77 hw)) (ty := (.object "java/util/Set")) (by decide)
  refine Ow.dup (pc' := 4) B e3_3 ?_
  refine Ow.aloadN (pc' := 5) B e3_4 ?_
  refine Ow.Go.old (fun o4 => ?_)
  refine Ow.callStatic (pc' := 8) (W := 2) (k' := 2) (n' := 3) (argsL := [(.ref pa0)]) (rest := [(.ref a1), (.ref a1)]) B e3_5 (w32 hw) (w33 hw) (w34 hw) (w35 hw) (con_of_9 hw G GS (pa0 := pa0) o4) pd6 ?_
  intro vq5 h6 S7 q5 zh6
  obtain ⟨r8, rfl, Kh6, br8, f9, f10, f11, rfl⟩ := q5
  have lr8 : (r8 : Nat) < h6.size := f9.lt
  refine Ow.Go.norm (S' := [a1]) (st' := [(.ref r8), (.ref a1), (.ref a1)]) (fun _ q => List.mem_append_right _ q) rfl ?_
  refine Ow.Go.old (fun o12 => ?_)
  have f13 := Aa1.keep Kh6
  have f14 := f3.keep Kh6 Ow.nin0
  refine Ow.callInit (pc' := 11) (W := 1) (k' := 2) (n' := 3) (argsL := [(.ref r8)]) (rest := [(.ref a1)]) B e3_8 (w72 hw) (w73 hw) (w28 hw) (w74 hw) (con_init_10 hw G GS (pa0 := a1) (pa1 := r8) o12 f13 f14 (by omega)) pd7 ?_
  intro vq15 h16 S17 q15 zh16
  obtain ⟨rfl, Kh16, f18, f19, rfl⟩ := q15
  refine Ow.Go.norm (S' := [a1]) (st' := [(.ref a1)]) (fun _ q => List.mem_append_right _ q) rfl ?_
  have f20 := f9.keep Kh16
  have f21 := f10.keep Kh16 (Ow.ninS (by omega) Ow.nin0)
  have f22 := f11.keep Kh16 (Ow.ninS (by omega) Ow.nin0)
  exact Ow.retA (S' := []) (t := (.object "com/example/entitlement/entitlement/Scope")) B e3_11 (⟨a1, r8, rfl, ((((Keep.refl _ []).trans Kh2 (fun _ q => nomatch q)).trans Kh6 (fun _ q => nomatch q)).trans Kh16 (allS (Or.inr (by omega)) all0)), (by omega), (by omega), (by omega), f18, f19, f20, f21, f22, rfl⟩)
set_option maxRecDepth 65536 in
set_option maxHeartbeats 40000000 in
theorem con_everySenior_12 {l : Launch} {Z : State} {n0 : Nat} {a0 : Array Value} {cz : Int32} {sf : Value} (hw : Hw a0 Z) (G : Ow.Glo Z cz sf) {u0 : Nat} (GS : GlS Z u0) {pa0 : Nat} {pa1 : Nat} {h0 : Heap} (O0 : Old Z n0 h0) (hf0 : Fld Z h0 pa0 "com/example/entitlement/entitlement/Scope" "bounds" "Ljava/util/Set;" (.ref pa1)) (hn0 : n0 ≤ pa0) :
    Ow.Con l Z EL1 n0 my11 prog_26_method_3_code 1 (Option.some Jvm.ClassFile.FieldType.boolean) [] ({ frames := 0, cells := 0, slots := 0, locals := 0 } : Room) #[(.ref pa0)] [] h0 (fun v h S' => (v = some (.int (0 : Int32)) ∧ h = h0 ∧ S' = [])) := by
  refine Ow.Con.enter (Ls := #[.val (.ref pa0)]) (plainFor_of_name pn2) O0 (hEW hw) (hSA hw) ?_
  intro p e s m below meth c B
  have z0 := Ow.old_le O0
  have lu0 : (u0 : Nat) < n0 := O0.1 ▸ GS.2.lt
  have lpa0 : (pa0 : Nat) < h0.size := hf0.lt
  refine Ow.aloadN (pc' := 1) B e11_0 ?_
  refine Ow.getfield (pc' := 4) B e11_1 (w76 hw) Via.refl hf0 ?_
  refine Ow.ifnonnullT (pc' := 11) B e11_4 ?_
  refine Ow.iconst (pc' := 12) (x := (0 : Int32)) B e11_11 ?_
  exact Ow.retI (S' := []) (t := .boolean) B e11_12 (⟨rfl, rfl, rfl⟩)
set_option maxRecDepth 65536 in
set_option maxHeartbeats 40000000 in
theorem con_bounds_13 {l : Launch} {Z : State} {n0 : Nat} {a0 : Array Value} {cz : Int32} {sf : Value} (hw : Hw a0 Z) (G : Ow.Glo Z cz sf) {u0 : Nat} (GS : GlS Z u0) {pa0 : Nat} {pa1 : Nat} {h0 : Heap} (O0 : Old Z n0 h0) (hf0 : Fld Z h0 pa0 "com/example/entitlement/entitlement/Scope" "bounds" "Ljava/util/Set;" (.ref pa1)) (hn0 : n0 ≤ pa0) :
    Ow.Con l Z EL1 n0 my12 prog_26_method_4_code 1 (Option.some (Jvm.ClassFile.FieldType.object "java/util/Set")) [] ({ frames := 0, cells := 0, slots := 0, locals := 0 } : Room) #[(.ref pa0)] [] h0 (fun v h S' => (v = some (.ref pa1) ∧ h = h0 ∧ S' = [])) := by
  refine Ow.Con.enter (Ls := #[.val (.ref pa0)]) (plainFor_of_name pn2) O0 (hEW hw) (hSA hw) ?_
  intro p e s m below meth c B
  have z0 := Ow.old_le O0
  have lu0 : (u0 : Nat) < n0 := O0.1 ▸ GS.2.lt
  have lpa0 : (pa0 : Nat) < h0.size := hf0.lt
  refine Ow.aloadN (pc' := 1) B e12_0 ?_
  refine Ow.getfield (pc' := 4) B e12_1 (w76 hw) Via.refl hf0 ?_
  refine Ow.ifnonnullT (pc' := 17) B e12_4 ?_
  refine Ow.aloadN (pc' := 18) B e12_17 ?_
  refine Ow.getfield (pc' := 21) B e12_18 (w76 hw) Via.refl hf0 ?_
  exact Ow.retA (S' := []) (t := (.object "java/util/Set")) B e12_21 (⟨rfl, rfl, rfl⟩)
set_option maxRecDepth 65536 in
set_option maxHeartbeats 40000000 in
theorem con_equals_14 {l : Launch} {Z : State} {n0 : Nat} {a0 : Array Value} {cz : Int32} {sf : Value} (hw : Hw a0 Z) (G : Ow.Glo Z cz sf) {u0 : Nat} (GS : GlS Z u0) {pa0 : Nat} {pa1 : Nat} {pk0 : ClassId} {pk1 : ClassId} {h0 : Heap} (O0 : Old Z n0 h0) (hf0 : Arv Z h0 pa0 pk0 .byte (0 : Int32) [] (.int 0)) (hf1 : Arv Z h0 pa1 pk1 .byte (0 : Int32) [] (.int 0)) :
    Ow.Con l Z EL1 n0 my13 jdk_43_method_13_code 3 (Option.some Jvm.ClassFile.FieldType.boolean) [] ({ frames := 0, cells := 0, slots := 0, locals := 0 } : Room) #[(.ref pa0), (.ref pa1)] [] h0 (fun v h S' => (v = some (.int (1 : Int32)) ∧ h = h0 ∧ S' = [])) := by
  refine Ow.Con.enter (Ls := #[.val (.ref pa0), .val (.ref pa1), .unset]) (plainFor_of_name pn9) O0 (hEW hw) (hSA hw) ?_
  intro p e s m below meth c B
  have z0 := Ow.old_le O0
  have lu0 : (u0 : Nat) < n0 := O0.1 ▸ GS.2.lt
  have lpa0 : (pa0 : Nat) < h0.size := hf0.lt
  have lpa1 : (pa1 : Nat) < h0.size := hf1.lt
  refine Ow.aloadN (pc' := 1) B e14_0 ?_
  refine Ow.arrlen (pc' := 2) B e14_1 hf0 ?_
  refine Ow.aloadN (pc' := 3) B e14_2 ?_
  refine Ow.arrlen (pc' := 4) B e14_3 hf1 ?_
  refine Ow.icmpF (pc' := 7) B e14_4 (by decide) ?_
  refine Ow.iconst (pc' := 8) (x := (0 : Int32)) B e14_7 ?_
  refine Ow.istoreN (pc' := 9) (Ls' := #[.val (.ref pa0), .val (.ref pa1), .val (.int (0 : Int32))]) B e14_8 ?_
  refine Ow.iloadN (pc' := 10) B e14_9 ?_
  refine Ow.aloadN (pc' := 11) B e14_10 ?_
  refine Ow.arrlen (pc' := 12) B e14_11 hf0 ?_
  refine Ow.icmpT (pc' := 32) B e14_12 (by decide) ?_
  refine Ow.iconst (pc' := 33) (x := (1 : Int32)) B e14_32 ?_
  exact Ow.retI (S' := []) (t := .boolean) B e14_33 (⟨rfl, rfl, rfl⟩)
set_option maxRecDepth 65536 in
set_option maxHeartbeats 40000000 in
theorem con_equals_15 {l : Launch} {Z : State} {n0 : Nat} {a0 : Array Value} {cz : Int32} {sf : Value} (hw : Hw a0 Z) (G : Ow.Glo Z cz sf) {u0 : Nat} (GS : GlS Z u0) {pa0 : Nat} {pa1 : Nat} {pa2 : Nat} {pa3 : Nat} {pk0 : ClassId} {pk1 : ClassId} {h0 : Heap} (O0 : Old Z n0 h0) (hf0 : Fld Z h0 pa0 "java/lang/String" "coder" "B" (.int (0 : Int32))) (hf1 : Fld Z h0 pa0 "java/lang/String" "value" "[B" (.ref pa2)) (hf2 : Exa Z h0 pa1 "java/lang/String") (hf3 : Fld Z h0 pa1 "java/lang/String" "coder" "B" (.int (0 : Int32))) (hf4 : Fld Z h0 pa1 "java/lang/String" "value" "[B" (.ref pa3)) (hf5 : Arv Z h0 pa2 pk0 .byte (0 : Int32) [] (.int 0)) (hf6 : Arv Z h0 pa3 pk1 .byte (0 : Int32) [] (.int 0)) (hn0 : n0 ≤ pa0) (hn1 : n0 ≤ pa1) (hd0 : pa0 ≠ pa1) :
    Ow.Con l Z EL1 n0 my14 jdk_42_method_66_code 3 (Option.some Jvm.ClassFile.FieldType.boolean) [] ({ frames := 1, cells := 0, slots := 0, locals := 14 } : Room) #[(.ref pa0), (.ref pa1)] [pa1, pa0] h0 (fun v h S' => (v = some (.int (1 : Int32)) ∧ h = h0 ∧ S' = [])) := by
  refine Ow.Con.enter (Ls := #[.val (.ref pa0), .val (.ref pa1), .unset]) (plainFor_of_name pn1) O0 (hEW hw) (hSA hw) ?_
  intro p e s m below meth c B
  have z0 := Ow.old_le O0
  have lu0 : (u0 : Nat) < n0 := O0.1 ▸ GS.2.lt
  have lpa0 : (pa0 : Nat) < h0.size := hf0.lt
  have lpa1 : (pa1 : Nat) < h0.size := hf2.lt
  have lpa2 : (pa2 : Nat) < h0.size := hf5.lt
  have lpa3 : (pa3 : Nat) < h0.size := hf6.lt
  refine Ow.aloadN (pc' := 1) B e13_0 ?_
  refine Ow.aloadN (pc' := 2) B e13_1 ?_
  refine Ow.acmpR (pc' := 7) (same := false) B e13_2 (decide_eq_false (fun q => absurd (show (pa0 : Nat) = pa1 from Value.ref.inj q) (by omega))) ?_
  refine Ow.aloadN (pc' := 8) B e13_7 ?_
  refine Ow.instYes (pc' := 11) B e13_8 (w93 hw) (Ins.self hf2) ?_
  refine Ow.ifF (pc' := 14) B e13_11 (by decide) ?_
  refine Ow.aloadN (pc' := 15) B e13_14 ?_
  refine Ow.checkcast (pc' := 18) B e13_15 (w93 hw) (Ins.self hf2) ?_
  refine Ow.astoreN (pc' := 19) (Ls' := #[.val (.ref pa0), .val (.ref pa1), .val (.ref pa1)]) B e13_18 ?_
  refine Ow.getstatic (pc' := 22) B e13_19 (w94 hw) Via.refl G.1 ?_
  refine Ow.ifF (pc' := 25) B e13_22 (feq (G.2.1)).1 ?_
  refine Ow.aloadN (pc' := 26) B e13_25 ?_
  refine Ow.getfield (pc' := 29) B e13_26 (w25 hw) Via.refl hf0 ?_
  refine Ow.aloadN (pc' := 30) B e13_29 ?_
  refine Ow.getfield (pc' := 33) B e13_30 (w25 hw) Via.refl hf3 ?_
  refine Ow.icmpF (pc' := 36) B e13_33 (by decide) ?_
  refine Ow.aloadN (pc' := 37) B e13_36 ?_
  refine Ow.getfield (pc' := 40) B e13_37 (w24 hw) Via.refl hf1 ?_
  refine Ow.aloadN (pc' := 41) B e13_40 ?_
  refine Ow.getfield (pc' := 44) B e13_41 (w24 hw) Via.refl hf4 ?_
  refine Ow.Go.old (fun o1 => ?_)
  refine Ow.callStatic (pc' := 47) (W := 0) (k' := 0) (n' := 0) (argsL := [(.ref pa2), (.ref pa3)]) (rest := []) B e13_44 (w95 hw) (w96 hw) (w97 hw) (w98 hw) (con_equals_14 hw G GS (pa0 := pa2) (pa1 := pa3) (pk0 := pk0) (pk1 := pk1) o1 hf5 hf6) pd11 ?_
  intro vq2 h3 S4 q2 zh3
  obtain ⟨rfl, rfl, rfl⟩ := q2
  refine Ow.Go.norm (S' := [pa1, pa0]) (st' := [(.int (1 : Int32))]) (fun _ q => List.mem_append_right _ q) rfl ?_
  refine Ow.ifF (pc' := 50) B e13_47 (by decide) ?_
  refine Ow.iconst (pc' := 51) (x := (1 : Int32)) B e13_50 ?_
  refine Ow.goto (pc' := 55) B e13_51 ?_
  exact Ow.retI (S' := []) (t := .boolean) B e13_55 (⟨rfl, rfl, rfl⟩)
set_option maxRecDepth 65536 in
set_option maxHeartbeats 40000000 in
theorem con_size_16 {l : Launch} {Z : State} {n0 : Nat} {a0 : Array Value} {cz : Int32} {sf : Value} (hw : Hw a0 Z) (G : Ow.Glo Z cz sf) {u0 : Nat} (GS : GlS Z u0) {pa0 : Nat} {h0 : Heap} (O0 : Old Z n0 h0) (hf0 : Fld Z h0 pa0 "java/util/ImmutableCollections$Set12" "e1" "Ljava/lang/Object;" (.ref u0)) (hn0 : n0 ≤ pa0) :
    Ow.Con l Z EL1 n0 my15 jdk_101_method_3_code 1 (Option.some Jvm.ClassFile.FieldType.int) [] ({ frames := 0, cells := 0, slots := 0, locals := 0 } : Room) #[(.ref pa0)] [] h0 (fun v h S' => (v = some (.int (1 : Int32)) ∧ h = h0 ∧ S' = [])) := by
  refine Ow.Con.enter (Ls := #[.val (.ref pa0)]) (plainFor_of_name pn4) O0 (hEW hw) (hSA hw) ?_
  intro p e s m below meth c B
  have z0 := Ow.old_le O0
  have lu0 : (u0 : Nat) < n0 := O0.1 ▸ GS.2.lt
  have lpa0 : (pa0 : Nat) < h0.size := hf0.lt
  refine Ow.aloadN (pc' := 1) B e15_0 ?_
  refine Ow.getfield (pc' := 4) B e15_1 (w70 hw) Via.refl hf0 ?_
  refine Ow.getstaticN (pc' := 7) B e15_4 (w68 hw) Via.refl GS.1 ?_
  refine Ow.acmpR (pc' := 10) (same := true) B e15_7 (decide_eq_true rfl) ?_
  refine Ow.iconst (pc' := 11) (x := (1 : Int32)) B e15_10 ?_
  refine Ow.goto (pc' := 15) B e15_11 ?_
  exact Ow.retI (S' := []) (t := .int) B e15_15 (⟨rfl, rfl, rfl⟩)
set_option maxRecDepth 65536 in
set_option maxHeartbeats 40000000 in
theorem con_equals_17 {l : Launch} {Z : State} {n0 : Nat} {a0 : Array Value} {cz : Int32} {sf : Value} (hw : Hw a0 Z) (G : Ow.Glo Z cz sf) {u0 : Nat} (GS : GlS Z u0) {pa0 : Nat} {h0 : Heap} (O0 : Old Z n0 h0) :
    Ow.Con l Z EL1 n0 my14 jdk_42_method_66_code 3 (Option.some Jvm.ClassFile.FieldType.boolean) [] ({ frames := 0, cells := 0, slots := 0, locals := 0 } : Room) #[(.ref pa0), (.ref pa0)] [] h0 (fun v h S' => (v = some (.int (1 : Int32)) ∧ h = h0 ∧ S' = [])) := by
  refine Ow.Con.enter (Ls := #[.val (.ref pa0), .val (.ref pa0), .unset]) (plainFor_of_name pn1) O0 (hEW hw) (hSA hw) ?_
  intro p e s m below meth c B
  have z0 := Ow.old_le O0
  have lu0 : (u0 : Nat) < n0 := O0.1 ▸ GS.2.lt
  refine Ow.aloadN (pc' := 1) B e13_0 ?_
  refine Ow.aloadN (pc' := 2) B e13_1 ?_
  refine Ow.acmpR (pc' := 5) (same := true) B e13_2 (decide_eq_true rfl) ?_
  refine Ow.iconst (pc' := 6) (x := (1 : Int32)) B e13_5 ?_
  exact Ow.retI (S' := []) (t := .boolean) B e13_6 (⟨rfl, rfl, rfl⟩)
set_option maxRecDepth 65536 in
set_option maxHeartbeats 40000000 in
theorem con_contains_18 {l : Launch} {Z : State} {n0 : Nat} {a0 : Array Value} {cz : Int32} {sf : Value} (hw : Hw a0 Z) (G : Ow.Glo Z cz sf) {u0 : Nat} (GS : GlS Z u0) {pa0 : Nat} {pa1 : Nat} {h0 : Heap} (O0 : Old Z n0 h0) (hf0 : Fld Z h0 pa0 "java/util/ImmutableCollections$Set12" "e0" "Ljava/lang/Object;" (.ref pa1)) (hf1 : Exa Z h0 pa1 "java/lang/String") (hn0 : n0 ≤ pa0) (hn1 : n0 ≤ pa1) :
    Ow.Con l Z EL1 n0 my16 jdk_101_method_5_code 2 (Option.some Jvm.ClassFile.FieldType.boolean) [] ({ frames := 1, cells := 0, slots := 0, locals := 14 } : Room) #[(.ref pa0), (.ref pa1)] [pa1] h0 (fun v h S' => (v = some (.int (1 : Int32)) ∧ h = h0 ∧ S' = [])) := by
  refine Ow.Con.enter (Ls := #[.val (.ref pa0), .val (.ref pa1)]) (plainFor_of_name pn4) O0 (hEW hw) (hSA hw) ?_
  intro p e s m below meth c B
  have z0 := Ow.old_le O0
  have lu0 : (u0 : Nat) < n0 := O0.1 ▸ GS.2.lt
  have lpa0 : (pa0 : Nat) < h0.size := hf0.lt
  have lpa1 : (pa1 : Nat) < h0.size := hf1.lt
  refine Ow.aloadN (pc' := 1) B e16_0 ?_
  refine Ow.aloadN (pc' := 2) B e16_1 ?_
  refine Ow.getfield (pc' := 5) B e16_2 (w66 hw) Via.refl hf0 ?_
  refine Ow.Go.old (fun o1 => ?_)
  refine Ow.callVirtual (pc' := 8) (W := 0) (k' := 0) (n' := 0) (argsL := [(.ref pa1)]) (rest := []) (K := "java/lang/String") B e16_5 (w116 hw) (w117 hw) (w130 hw) (w119 hw) (w90 hw) (w6 hw) (w92 hw) hf1 (con_equals_17 hw G GS (pa0 := pa1) o1) pd12 ?_
  intro vq2 h3 S4 q2 zh3
  obtain ⟨rfl, rfl, rfl⟩ := q2
  refine Ow.Go.norm (S' := [pa1]) (st' := [(.int (1 : Int32))]) (fun _ q => List.mem_append_right _ q) rfl ?_
  refine Ow.ifT (pc' := 22) B e16_8 (by decide) ?_
  refine Ow.iconst (pc' := 23) (x := (1 : Int32)) B e16_22 ?_
  refine Ow.goto (pc' := 27) B e16_23 ?_
  exact Ow.retI (S' := []) (t := .boolean) B e16_27 (⟨rfl, rfl, rfl⟩)
set_option maxRecDepth 65536 in
set_option maxHeartbeats 40000000 in
theorem con_equals_19 {l : Launch} {Z : State} {n0 : Nat} {a0 : Array Value} {cz : Int32} {sf : Value} (hw : Hw a0 Z) (G : Ow.Glo Z cz sf) {u0 : Nat} (GS : GlS Z u0) {pa0 : Nat} {pa1 : Nat} {pa2 : Nat} {pa3 : Nat} {pk0 : ClassId} {pk1 : ClassId} {h0 : Heap} (O0 : Old Z n0 h0) (hf0 : Fld Z h0 pa0 "java/lang/String" "coder" "B" (.int (0 : Int32))) (hf1 : Fld Z h0 pa0 "java/lang/String" "value" "[B" (.ref pa2)) (hf2 : Exa Z h0 pa1 "java/lang/String") (hf3 : Fld Z h0 pa1 "java/lang/String" "coder" "B" (.int (0 : Int32))) (hf4 : Fld Z h0 pa1 "java/lang/String" "value" "[B" (.ref pa3)) (hf5 : Arv Z h0 pa2 pk0 .byte (0 : Int32) [] (.int 0)) (hf6 : Arv Z h0 pa3 pk1 .byte (0 : Int32) [] (.int 0)) (hn0 : n0 ≤ pa0) (hn1 : n0 ≤ pa1) (hd0 : pa0 ≠ pa1) :
    Ow.Con l Z EL1 n0 my14 jdk_42_method_66_code 3 (Option.some Jvm.ClassFile.FieldType.boolean) [] ({ frames := 1, cells := 0, slots := 0, locals := 14 } : Room) #[(.ref pa0), (.ref pa1)] [pa0, pa1] h0 (fun v h S' => (v = some (.int (1 : Int32)) ∧ h = h0 ∧ S' = [])) := by
  refine Ow.Con.enter (Ls := #[.val (.ref pa0), .val (.ref pa1), .unset]) (plainFor_of_name pn1) O0 (hEW hw) (hSA hw) ?_
  intro p e s m below meth c B
  have z0 := Ow.old_le O0
  have lu0 : (u0 : Nat) < n0 := O0.1 ▸ GS.2.lt
  have lpa0 : (pa0 : Nat) < h0.size := hf0.lt
  have lpa1 : (pa1 : Nat) < h0.size := hf2.lt
  have lpa2 : (pa2 : Nat) < h0.size := hf5.lt
  have lpa3 : (pa3 : Nat) < h0.size := hf6.lt
  refine Ow.aloadN (pc' := 1) B e13_0 ?_
  refine Ow.aloadN (pc' := 2) B e13_1 ?_
  refine Ow.acmpR (pc' := 7) (same := false) B e13_2 (decide_eq_false (fun q => absurd (show (pa0 : Nat) = pa1 from Value.ref.inj q) (by omega))) ?_
  refine Ow.aloadN (pc' := 8) B e13_7 ?_
  refine Ow.instYes (pc' := 11) B e13_8 (w93 hw) (Ins.self hf2) ?_
  refine Ow.ifF (pc' := 14) B e13_11 (by decide) ?_
  refine Ow.aloadN (pc' := 15) B e13_14 ?_
  refine Ow.checkcast (pc' := 18) B e13_15 (w93 hw) (Ins.self hf2) ?_
  refine Ow.astoreN (pc' := 19) (Ls' := #[.val (.ref pa0), .val (.ref pa1), .val (.ref pa1)]) B e13_18 ?_
  refine Ow.getstatic (pc' := 22) B e13_19 (w94 hw) Via.refl G.1 ?_
  refine Ow.ifF (pc' := 25) B e13_22 (feq (G.2.1)).1 ?_
  refine Ow.aloadN (pc' := 26) B e13_25 ?_
  refine Ow.getfield (pc' := 29) B e13_26 (w25 hw) Via.refl hf0 ?_
  refine Ow.aloadN (pc' := 30) B e13_29 ?_
  refine Ow.getfield (pc' := 33) B e13_30 (w25 hw) Via.refl hf3 ?_
  refine Ow.icmpF (pc' := 36) B e13_33 (by decide) ?_
  refine Ow.aloadN (pc' := 37) B e13_36 ?_
  refine Ow.getfield (pc' := 40) B e13_37 (w24 hw) Via.refl hf1 ?_
  refine Ow.aloadN (pc' := 41) B e13_40 ?_
  refine Ow.getfield (pc' := 44) B e13_41 (w24 hw) Via.refl hf4 ?_
  refine Ow.Go.old (fun o1 => ?_)
  refine Ow.callStatic (pc' := 47) (W := 0) (k' := 0) (n' := 0) (argsL := [(.ref pa2), (.ref pa3)]) (rest := []) B e13_44 (w95 hw) (w96 hw) (w97 hw) (w98 hw) (con_equals_14 hw G GS (pa0 := pa2) (pa1 := pa3) (pk0 := pk0) (pk1 := pk1) o1 hf5 hf6) pd11 ?_
  intro vq2 h3 S4 q2 zh3
  obtain ⟨rfl, rfl, rfl⟩ := q2
  refine Ow.Go.norm (S' := [pa0, pa1]) (st' := [(.int (1 : Int32))]) (fun _ q => List.mem_append_right _ q) rfl ?_
  refine Ow.ifF (pc' := 50) B e13_47 (by decide) ?_
  refine Ow.iconst (pc' := 51) (x := (1 : Int32)) B e13_50 ?_
  refine Ow.goto (pc' := 55) B e13_51 ?_
  exact Ow.retI (S' := []) (t := .boolean) B e13_55 (⟨rfl, rfl, rfl⟩)
set_option maxRecDepth 65536 in
set_option maxHeartbeats 40000000 in
theorem con_contains_20 {l : Launch} {Z : State} {n0 : Nat} {a0 : Array Value} {cz : Int32} {sf : Value} (hw : Hw a0 Z) (G : Ow.Glo Z cz sf) {u0 : Nat} (GS : GlS Z u0) {pa0 : Nat} {pa1 : Nat} {pa2 : Nat} {pa3 : Nat} {pa4 : Nat} {pk0 : ClassId} {pk1 : ClassId} {h0 : Heap} (O0 : Old Z n0 h0) (hf0 : Fld Z h0 pa0 "java/util/ImmutableCollections$Set12" "e0" "Ljava/lang/Object;" (.ref pa2)) (hf1 : Exa Z h0 pa1 "java/lang/String") (hf2 : Fld Z h0 pa1 "java/lang/String" "coder" "B" (.int (0 : Int32))) (hf3 : Fld Z h0 pa1 "java/lang/String" "value" "[B" (.ref pa3)) (hf4 : Exa Z h0 pa2 "java/lang/String") (hf5 : Fld Z h0 pa2 "java/lang/String" "coder" "B" (.int (0 : Int32))) (hf6 : Fld Z h0 pa2 "java/lang/String" "value" "[B" (.ref pa4)) (hf7 : Arv Z h0 pa3 pk0 .byte (0 : Int32) [] (.int 0)) (hf8 : Arv Z h0 pa4 pk1 .byte (0 : Int32) [] (.int 0)) (hn0 : n0 ≤ pa0) (hn1 : n0 ≤ pa1) (hn2 : n0 ≤ pa2) (hd0 : pa1 ≠ pa2) :
    Ow.Con l Z EL1 n0 my16 jdk_101_method_5_code 2 (Option.some Jvm.ClassFile.FieldType.boolean) [] ({ frames := 2, cells := 0, slots := 0, locals := 28 } : Room) #[(.ref pa0), (.ref pa1)] [pa1, pa2] h0 (fun v h S' => (v = some (.int (1 : Int32)) ∧ h = h0 ∧ S' = [])) := by
  refine Ow.Con.enter (Ls := #[.val (.ref pa0), .val (.ref pa1)]) (plainFor_of_name pn4) O0 (hEW hw) (hSA hw) ?_
  intro p e s m below meth c B
  have z0 := Ow.old_le O0
  have lu0 : (u0 : Nat) < n0 := O0.1 ▸ GS.2.lt
  have lpa0 : (pa0 : Nat) < h0.size := hf0.lt
  have lpa1 : (pa1 : Nat) < h0.size := hf1.lt
  have lpa2 : (pa2 : Nat) < h0.size := hf4.lt
  have lpa3 : (pa3 : Nat) < h0.size := hf7.lt
  have lpa4 : (pa4 : Nat) < h0.size := hf8.lt
  refine Ow.aloadN (pc' := 1) B e16_0 ?_
  refine Ow.aloadN (pc' := 2) B e16_1 ?_
  refine Ow.getfield (pc' := 5) B e16_2 (w66 hw) Via.refl hf0 ?_
  refine Ow.Go.old (fun o1 => ?_)
  refine Ow.callVirtual (pc' := 8) (W := 0) (k' := 0) (n' := 0) (argsL := [(.ref pa2)]) (rest := []) (K := "java/lang/String") B e16_5 (w116 hw) (w117 hw) (w130 hw) (w119 hw) (w90 hw) (w6 hw) (w92 hw) hf1 (con_equals_19 hw G GS (pa0 := pa1) (pa1 := pa2) (pa2 := pa3) (pa3 := pa4) (pk0 := pk0) (pk1 := pk1) o1 hf2 hf3 hf4 hf5 hf6 hf7 hf8 (by omega) (by omega) (by omega)) pd12 ?_
  intro vq2 h3 S4 q2 zh3
  obtain ⟨rfl, rfl, rfl⟩ := q2
  refine Ow.Go.norm (S' := [pa1, pa2]) (st' := [(.int (1 : Int32))]) (fun _ q => List.mem_append_right _ q) rfl ?_
  refine Ow.ifT (pc' := 22) B e16_8 (by decide) ?_
  refine Ow.iconst (pc' := 23) (x := (1 : Int32)) B e16_22 ?_
  refine Ow.goto (pc' := 27) B e16_23 ?_
  exact Ow.retI (S' := []) (t := .boolean) B e16_27 (⟨rfl, rfl, rfl⟩)
set_option maxRecDepth 65536 in
set_option maxHeartbeats 40000000 in
theorem con_compress_21 {l : Launch} {Z : State} {n0 : Nat} {a0 : Array Value} {cz : Int32} {sf : Value} (hw : Hw a0 Z) (G : Ow.Glo Z cz sf) {u0 : Nat} (GS : GlS Z u0) {pa0 : Nat} {pa1 : Nat} {px0 : Int32} {pk0 : ClassId} {pk1 : ClassId} {h0 : Heap} (O0 : Old Z n0 h0) (hf0 : Arv Z h0 pa0 pk0 .char (1 : Int32) [(.int px0)] (.int 0)) (hf1 : Arv Z h0 pa1 pk1 .byte (1 : Int32) [(.int (0 : Int32))] (.int 0)) (hn0 : n0 ≤ pa0) (hn1 : n0 ≤ pa1) (hk0 : ¬ ((255 : Int32) < px0)) (hc_px0 : nar .char px0 = px0) :
    Ow.Con l Z EL1 n0 my17 jdk_52_method_21_code 7 (Option.some Jvm.ClassFile.FieldType.int) [] ({ frames := 0, cells := 0, slots := 0, locals := 0 } : Room) #[(.ref pa0), (.int (0 : Int32)), (.ref pa1), (.int (0 : Int32)), (.int (1 : Int32))] [pa1] h0 (fun v h S' => (v = some (.int (1 : Int32)) ∧ Keep h0 h [pa1] ∧ Arv Z h pa1 pk1 .byte (1 : Int32) [(.int px0.toInt8.toInt32)] (.int 0) ∧ S' = [])) := by
  refine Ow.Con.enter (Ls := #[.val (.ref pa0), .val (.int (0 : Int32)), .val (.ref pa1), .val (.int (0 : Int32)), .val (.int (1 : Int32)), .unset, .unset]) (plainFor_of_name pn10) O0 (hEW hw) (hSA hw) ?_
  intro p e s m below meth c B
  have z0 := Ow.old_le O0
  have lu0 : (u0 : Nat) < n0 := O0.1 ▸ GS.2.lt
  have lpa0 : (pa0 : Nat) < h0.size := hf0.lt
  have lpa1 : (pa1 : Nat) < h0.size := hf1.lt
  refine Ow.iconst (pc' := 1) (x := (0 : Int32)) B e18_0 ?_
  refine Ow.istore (pc' := 3) (Ls' := #[.val (.ref pa0), .val (.int (0 : Int32)), .val (.ref pa1), .val (.int (0 : Int32)), .val (.int (1 : Int32)), .val (.int (0 : Int32)), .unset]) B e18_1 ?_
  refine Ow.iload (pc' := 5) B e18_3 ?_
  refine Ow.iload (pc' := 7) B e18_5 ?_
  refine Ow.icmpF (pc' := 10) B e18_7 (by decide) ?_
  refine Ow.aloadN (pc' := 11) B e18_10 ?_
  refine Ow.iloadN (pc' := 12) B e18_11 ?_
  refine Ow.caload (pc' := 13) B e18_12 hf0 ⟨by decide, by decide⟩ rfl ?_
  refine Ow.istore (pc' := 15) (Ls' := #[.val (.ref pa0), .val (.int (0 : Int32)), .val (.ref pa1), .val (.int (0 : Int32)), .val (.int (1 : Int32)), .val (.int (0 : Int32)), .val (.int px0)]) B e18_13 ?_
  refine Ow.iload (pc' := 17) B e18_15 ?_
  refine Ow.sipush (pc' := 20) (x := (255 : Int32)) B e18_17 ?_
  refine Ow.icmpT (pc' := 26) B e18_20 (flt (hk0)).2.2.2 ?_
  refine Ow.aloadN (pc' := 27) B e18_26 ?_
  refine Ow.iloadN (pc' := 28) B e18_27 ?_
  refine Ow.iload (pc' := 30) B e18_28 ?_
  refine Ow.i2b (pc' := 31) (z := px0.toInt8.toInt32) B e18_30 ?_
  refine Ow.bastore (pc' := 32) (i := 0) B e18_31 hf1 ⟨by decide, by decide⟩ (by simp) ?_
  intro h1 Kh1 V0h1
  have zh1 := Kh1.1
  have V2 : Arv Z h1 pa1 pk1 .byte (1 : Int32) [(.int px0.toInt8.toInt32)] (.int 0) := (by have e0 := V0h1; rw [show nar .byte px0.toInt8.toInt32 = px0.toInt8.toInt32 from Ow.nar_b _] at e0; exact e0)
  refine Ow.iinc (pc' := 35) (y := (1 : Int32)) (Ls' := #[.val (.ref pa0), .val (.int (1 : Int32)), .val (.ref pa1), .val (.int (0 : Int32)), .val (.int (1 : Int32)), .val (.int (0 : Int32)), .val (.int px0)]) B e18_32 ?_
  refine Ow.iinc (pc' := 38) (y := (1 : Int32)) (Ls' := #[.val (.ref pa0), .val (.int (1 : Int32)), .val (.ref pa1), .val (.int (1 : Int32)), .val (.int (1 : Int32)), .val (.int (0 : Int32)), .val (.int px0)]) B e18_35 ?_
  refine Ow.iinc (pc' := 41) (y := (1 : Int32)) (Ls' := #[.val (.ref pa0), .val (.int (1 : Int32)), .val (.ref pa1), .val (.int (1 : Int32)), .val (.int (1 : Int32)), .val (.int (1 : Int32)), .val (.int px0)]) B e18_38 ?_
  refine Ow.goto (pc' := 3) B e18_41 ?_
  refine Ow.iload (pc' := 5) B e18_3 ?_
  refine Ow.iload (pc' := 7) B e18_5 ?_
  refine Ow.icmpT (pc' := 44) B e18_7 (by decide) ?_
  refine Ow.iload (pc' := 46) B e18_44 ?_
  exact Ow.retI (S' := []) (t := .int) B e18_46 (⟨rfl, ((Keep.refl _ [pa1]).trans Kh1 (allS (Or.inl (by simp)) all0)), V2, rfl⟩)
set_option maxRecDepth 65536 in
set_option maxHeartbeats 40000000 in
theorem con_compress_22 {l : Launch} {Z : State} {n0 : Nat} {a0 : Array Value} {cz : Int32} {sf : Value} (hw : Hw a0 Z) (G : Ow.Glo Z cz sf) {u0 : Nat} (GS : GlS Z u0) {pa0 : Nat} {px0 : Int32} {pk0 : ClassId} {h0 : Heap} (O0 : Old Z n0 h0) (hf0 : Arv Z h0 pa0 pk0 .char (1 : Int32) [(.int px0)] (.int 0)) (hn0 : n0 ≤ pa0) (hk0 : ¬ ((255 : Int32) < px0)) (hc_px0 : nar .char px0 = px0) :
    Ow.Con l Z EL1 n0 my18 jdk_52_method_16_code 6 (Option.some (Jvm.ClassFile.FieldType.array Jvm.ClassFile.FieldType.byte)) [] ({ frames := 1, cells := 1, slots := 1, locals := 18 } : Room) #[(.ref pa0), (.int (0 : Int32)), (.int (1 : Int32))] [] h0 (fun v h S' => (∃ r0 : Nat, ∃ k0 : ClassId, v = some (.ref r0) ∧ Keep h0 h [] ∧ h0.size ≤ r0 ∧ Arv Z h r0 k0 .byte (1 : Int32) [(.int px0.toInt8.toInt32)] (.int 0) ∧ S' = [r0])) := by
  refine Ow.Con.enter (Ls := #[.val (.ref pa0), .val (.int (0 : Int32)), .val (.int (1 : Int32)), .unset, .unset, .unset]) (plainFor_of_name pn10) O0 (hEW hw) (hSA hw) ?_
  intro p e s m below meth c B
  have z0 := Ow.old_le O0
  have lu0 : (u0 : Nat) < n0 := O0.1 ▸ GS.2.lt
  have lpa0 : (pa0 : Nat) < h0.size := hf0.lt
  refine Ow.iloadN (pc' := 1) B e17_0 ?_
  refine Ow.newArr (pc' := 3) (k' := 1) (n' := 1) (cap := 1) B e17_1 (w19 hw) (by decide) (by decide) ?_
  intro h2 a1 ka1 ga1 ba1 Kh2 V0a1
  have zh2 := Kh2.1
  have la1 : (a1 : Nat) < h2.size := V0a1.lt
  have Va1 : Arv Z h2 a1 ka1 .byte (1 : Int32) [(.int 0)] (.int 0) := V0a1.pad (pad_rep [] (.int 0) 1)
  refine Ow.astoreN (pc' := 4) (Ls' := #[.val (.ref pa0), .val (.int (0 : Int32)), .val (.int (1 : Int32)), .val (.ref a1), .unset, .unset]) B e17_3 ?_
  refine Ow.aloadN (pc' := 5) B e17_4 ?_
  refine Ow.iloadN (pc' := 6) B e17_5 ?_
  refine Ow.aloadN (pc' := 7) B e17_6 ?_
  refine Ow.iconst (pc' := 8) (x := (0 : Int32)) B e17_7 ?_
  refine Ow.iloadN (pc' := 9) B e17_8 ?_
  refine Ow.Go.old (fun o3 => ?_)
  have f4 := hf0.keep Kh2 Ow.nin0
  refine Ow.callStatic (pc' := 12) (W := 0) (k' := 1) (n' := 1) (argsL := [(.ref pa0), (.int (0 : Int32)), (.ref a1), (.int (0 : Int32)), (.int (1 : Int32))]) (rest := []) B e17_9 (w124 hw) (w125 hw) (w122 hw) (w126 hw) (con_compress_21 hw G GS (pa0 := pa0) (pa1 := a1) (px0 := px0) (pk0 := pk0) (pk1 := ka1) o3 f4 Va1 (by omega) (by omega) (hk0) hc_px0) pd14 ?_
  intro vq5 h6 S7 q5 zh6
  obtain ⟨rfl, Kh6, f8, rfl⟩ := q5
  refine Ow.Go.norm (S' := [a1]) (st' := [(.int (1 : Int32))]) (fun _ q => List.mem_append_right _ q) rfl ?_
  refine Ow.istore (pc' := 14) (Ls' := #[.val (.ref pa0), .val (.int (0 : Int32)), .val (.int (1 : Int32)), .val (.ref a1), .val (.int (1 : Int32)), .unset]) B e17_12 ?_
  refine Ow.iload (pc' := 16) B e17_14 ?_
  refine Ow.iloadN (pc' := 17) B e17_16 ?_
  refine Ow.icmpT (pc' := 57) B e17_17 (by decide) ?_
  refine Ow.aloadN (pc' := 58) B e17_57 ?_
  exact Ow.retA (S' := [a1]) (t := (.array .byte)) B e17_58 (⟨a1, ka1, rfl, (((Keep.refl _ []).trans Kh2 (fun _ q => nomatch q)).trans Kh6 (allS (Or.inr (by omega)) all0)), (by omega), f8, rfl⟩)
set_option maxRecDepth 65536 in
set_option maxHeartbeats 40000000 in
theorem con_coderFromArrayLen_23 {l : Launch} {Z : State} {n0 : Nat} {a0 : Array Value} {cz : Int32} {sf : Value} (hw : Hw a0 Z) (G : Ow.Glo Z cz sf) {u0 : Nat} (GS : GlS Z u0) {pa0 : Nat} {px0 : Int32} {pk0 : ClassId} {h0 : Heap} (O0 : Old Z n0 h0) (hf0 : Arv Z h0 pa0 pk0 .byte (1 : Int32) [(.int px0.toInt8.toInt32)] (.int 0)) (hn0 : n0 ≤ pa0) (hc_px0 : nar .char px0 = px0) :
    Ow.Con l Z EL1 n0 my19 jdk_52_method_15_code 2 (Option.some Jvm.ClassFile.FieldType.byte) [] ({ frames := 0, cells := 0, slots := 0, locals := 0 } : Room) #[(.ref pa0), (.int (1 : Int32))] [pa0] h0 (fun v h S' => (v = some (.int (0 : Int32)) ∧ h = h0 ∧ S' = [])) := by
  refine Ow.Con.enter (Ls := #[.val (.ref pa0), .val (.int (1 : Int32))]) (plainFor_of_name pn10) O0 (hEW hw) (hSA hw) ?_
  intro p e s m below meth c B
  have z0 := Ow.old_le O0
  have lu0 : (u0 : Nat) < n0 := O0.1 ▸ GS.2.lt
  have lpa0 : (pa0 : Nat) < h0.size := hf0.lt
  refine Ow.iloadN (pc' := 1) B e19_0 ?_
  refine Ow.aloadN (pc' := 2) B e19_1 ?_
  refine Ow.arrlen (pc' := 3) B e19_2 hf0 ?_
  refine Ow.isub (pc' := 4) (z := (0 : Int32)) B e19_3 ?_
  refine Ow.bipush (pc' := 6) (x := (31 : Int32)) B e19_4 ?_
  refine Ow.iushr (pc' := 7) (z := (0 : Int32)) B e19_6 ?_
  refine Ow.i2b (pc' := 8) (z := (0 : Int32)) B e19_7 ?_
  exact Ow.retI (S' := []) (t := .byte) B e19_8 (⟨rfl, rfl, rfl⟩)
set_option maxRecDepth 65536 in
set_option maxHeartbeats 40000000 in
theorem con_init_24 {l : Launch} {Z : State} {n0 : Nat} {a0 : Array Value} {cz : Int32} {sf : Value} (hw : Hw a0 Z) (G : Ow.Glo Z cz sf) {u0 : Nat} (GS : GlS Z u0) {pa0 : Nat} {pa1 : Nat} {px0 : Int32} {pk0 : ClassId} {h0 : Heap} (O0 : Old Z n0 h0) (hf0 : Exa Z h0 pa0 "java/lang/String") (hf1 : Fld Z h0 pa0 "java/lang/String" "coder" "B" (.int (0 : Int32))) (hf2 : Fld Z h0 pa0 "java/lang/String" "value" "[B" .null) (hf3 : Arv Z h0 pa1 pk0 .char (1 : Int32) [(.int px0)] (.int 0)) (hn0 : n0 ≤ pa0) (hn1 : n0 ≤ pa1) (hk0 : ¬ ((255 : Int32) < px0)) (hc_px0 : nar .char px0 = px0) :
    Ow.Con l Z EL1 n0 my0 jdk_42_method_149_code 6 (Option.none : Option Jvm.ClassFile.FieldType) [] ({ frames := 2, cells := 1, slots := 1, locals := 35 } : Room) #[(.ref pa0), (.ref pa1), (.int (0 : Int32)), (.int (1 : Int32)), .null] [pa0] h0 (fun v h S' => (∃ r0 : Nat, ∃ k0 : ClassId, v = none ∧ Keep h0 h [pa0] ∧ h0.size ≤ r0 ∧ Exa Z h pa0 "java/lang/String" ∧ Fld Z h pa0 "java/lang/String" "coder" "B" (.int (0 : Int32)) ∧ Fld Z h pa0 "java/lang/String" "value" "[B" (.ref r0) ∧ Arv Z h r0 k0 .byte (1 : Int32) [(.int px0.toInt8.toInt32)] (.int 0) ∧ S' = [r0])) := by
  refine Ow.Con.enter (Ls := #[.val (.ref pa0), .val (.ref pa1), .val (.int (0 : Int32)), .val (.int (1 : Int32)), .val .null, .unset]) (plainFor_of_name pn1) O0 (hEW hw) (hSA hw) ?_
  intro p e s m below meth c B
  have z0 := Ow.old_le O0
  have lu0 : (u0 : Nat) < n0 := O0.1 ▸ GS.2.lt
  have lpa0 : (pa0 : Nat) < h0.size := hf0.lt
  have lpa1 : (pa1 : Nat) < h0.size := hf3.lt
  refine Ow.aloadN (pc' := 1) B e2_0 ?_
  refine Ow.objInit (pc' := 4) (W := 0) B e2_1 (w15 hw) (w16 hw) (w17 hw) ?_
  refine Ow.iloadN (pc' := 5) B e2_4 ?_
  refine Ow.ifT (pc' := 27) B e2_5 (by decide) ?_
  refine Ow.getstatic (pc' := 30) B e2_27 (w94 hw) Via.refl G.1 ?_
  refine Ow.ifF (pc' := 33) B e2_30 (feq (G.2.1)).1 ?_
  refine Ow.aloadN (pc' := 34) B e2_33 ?_
  refine Ow.iloadN (pc' := 35) B e2_34 ?_
  refine Ow.iloadN (pc' := 36) B e2_35 ?_
  refine Ow.Go.old (fun o1 => ?_)
  refine Ow.callStatic (pc' := 39) (W := 0) (k' := 1) (n' := 1) (argsL := [(.ref pa1), (.int (0 : Int32)), (.int (1 : Int32))]) (rest := []) B e2_36 (w120 hw) (w121 hw) (w122 hw) (w123 hw) (con_compress_22 hw G GS (pa0 := pa1) (px0 := px0) (pk0 := pk0) o1 hf3 (by omega) (hk0) hc_px0) pd15 ?_
  intro vq2 h3 S4 q2 zh3
  obtain ⟨r5, k6, rfl, Kh3, br5, f7, rfl⟩ := q2
  have lr5 : (r5 : Nat) < h3.size := f7.lt
  refine Ow.Go.norm (S' := [r5, pa0]) (st' := [(.ref r5)]) (fun _ q => q) rfl ?_
  refine Ow.astore (pc' := 41) (Ls' := #[.val (.ref pa0), .val (.ref pa1), .val (.int (0 : Int32)), .val (.int (1 : Int32)), .val .null, .val (.ref r5)]) B e2_39 ?_
  refine Ow.aloadN (pc' := 42) B e2_41 ?_
  refine Ow.aload (pc' := 44) B e2_42 ?_
  refine Ow.iloadN (pc' := 45) B e2_44 ?_
  refine Ow.Go.old (fun o8 => ?_)
  refine Ow.callStatic (pc' := 48) (W := 1) (k' := 1) (n' := 1) (argsL := [(.ref r5), (.int (1 : Int32))]) (rest := [(.ref pa0)]) B e2_45 (w127 hw) (w128 hw) (w122 hw) (w129 hw) (con_coderFromArrayLen_23 hw G GS (pa0 := r5) (px0 := px0) (pk0 := k6) o8 f7 (by omega) hc_px0) pd16 ?_
  intro vq9 h10 S11 q9 zh10
  obtain ⟨rfl, rfl, rfl⟩ := q9
  refine Ow.Go.norm (S' := [r5, pa0]) (st' := [(.int (0 : Int32)), (.ref pa0)]) (fun _ q => List.mem_append_right _ q) rfl ?_
  have f12 := hf1.keep Kh3 Ow.nin0
  have f13 := hf0.keep Kh3
  refine Ow.putfield (pc' := 51) (ty := .byte) B e2_48 (w25 hw) Via.refl f12 f13 (Or.inr ⟨(w21 hw), rfl, rfl⟩) (w5 hw) (Or.inl (by simp)) ?_
  intro h14 Wh14
  have f15 := hf2.keep Kh3 Ow.nin0
  have Kh14 := Keep.of_wr Wh14
  have zh14 := Kh14.1
  have f16 : Fld Z h14 pa0 "java/lang/String" "coder" "B" (.int (0 : Int32)) := f12.same Wh14
  have f17 : Fld Z h14 pa0 "java/lang/String" "value" "[B" .null := f15.other Wh14 (Or.inr (slot_ne (a0 := a0) (C := "java/lang/String") (t := (.array .byte)) (t' := .byte) (Or.inr (w20 hw)) (Or.inr (w21 hw)) (by decide) (by decide) (by decide)))
  refine Ow.aloadN (pc' := 52) B e2_51 ?_
  refine Ow.aload (pc' := 54) B e2_52 ?_
  have f18 := f13.keep Kh14
  refine Ow.putfield (pc' := 57) (ty := (.array .byte)) B e2_54 (w24 hw) Via.refl f17 f18 (Or.inr ⟨(w20 hw), rfl, rfl⟩) (w5 hw) (Or.inl (by simp)) ?_
  intro h19 Wh19
  have Kh19 := Keep.of_wr Wh19
  have zh19 := Kh19.1
  have f20 : Fld Z h19 pa0 "java/lang/String" "value" "[B" (.ref r5) := f17.same Wh19
  have f21 : Fld Z h19 pa0 "java/lang/String" "coder" "B" (.int (0 : Int32)) := f16.other Wh19 (Or.inr (slot_ne (a0 := a0) (C := "java/lang/String") (t := .byte) (t' := (.array .byte)) (Or.inr (w21 hw)) (Or.inr (w20 hw)) (by decide) (by decide) (by decide)))
  have f22 := f18.keep Kh19
  have f23 := f7.keep Kh14 (Ow.ninS (by omega) Ow.nin0)
  have f24 := f23.keep Kh19 (Ow.ninS (by omega) Ow.nin0)
  exact Ow.retV (S' := [r5]) B e2_57 (⟨r5, k6, rfl, ((((Keep.refl _ [pa0]).trans Kh3 (fun _ q => nomatch q)).trans Kh14 (allS (Or.inl (by simp)) all0)).trans Kh19 (allS (Or.inl (by simp)) all0)), (by omega), f22, f21, f20, f24, rfl⟩)
set_option maxRecDepth 65536 in
set_option maxHeartbeats 40000000 in
theorem con_init_25 {l : Launch} {Z : State} {n0 : Nat} {a0 : Array Value} {cz : Int32} {sf : Value} (hw : Hw a0 Z) (G : Ow.Glo Z cz sf) {u0 : Nat} (GS : GlS Z u0) {pa0 : Nat} {pa1 : Nat} {px0 : Int32} {pk0 : ClassId} {h0 : Heap} (O0 : Old Z n0 h0) (hf0 : Exa Z h0 pa0 "java/lang/String") (hf1 : Fld Z h0 pa0 "java/lang/String" "coder" "B" (.int (0 : Int32))) (hf2 : Fld Z h0 pa0 "java/lang/String" "value" "[B" .null) (hf3 : Arv Z h0 pa1 pk0 .char (1 : Int32) [(.int px0)] (.int 0)) (hn0 : n0 ≤ pa0) (hn1 : n0 ≤ pa1) (hk0 : ¬ ((255 : Int32) < px0)) (hc_px0 : nar .char px0 = px0) :
    Ow.Con l Z EL1 n0 my1 jdk_42_method_3_code 2 (Option.none : Option Jvm.ClassFile.FieldType) [] ({ frames := 3, cells := 1, slots := 1, locals := 52 } : Room) #[(.ref pa0), (.ref pa1)] [pa0] h0 (fun v h S' => (∃ r0 : Nat, ∃ k0 : ClassId, v = none ∧ Keep h0 h [pa0] ∧ h0.size ≤ r0 ∧ Exa Z h pa0 "java/lang/String" ∧ Fld Z h pa0 "java/lang/String" "coder" "B" (.int (0 : Int32)) ∧ Fld Z h pa0 "java/lang/String" "value" "[B" (.ref r0) ∧ Arv Z h r0 k0 .byte (1 : Int32) [(.int px0.toInt8.toInt32)] (.int 0) ∧ S' = [r0])) := by
  refine Ow.Con.enter (Ls := #[.val (.ref pa0), .val (.ref pa1)]) (plainFor_of_name pn1) O0 (hEW hw) (hSA hw) ?_
  intro p e s m below meth c B
  have z0 := Ow.old_le O0
  have lu0 : (u0 : Nat) < n0 := O0.1 ▸ GS.2.lt
  have lpa0 : (pa0 : Nat) < h0.size := hf0.lt
  have lpa1 : (pa1 : Nat) < h0.size := hf3.lt
  refine Ow.aloadN (pc' := 1) B e1_0 ?_
  refine Ow.aloadN (pc' := 2) B e1_1 ?_
  refine Ow.iconst (pc' := 3) (x := (0 : Int32)) B e1_2 ?_
  refine Ow.aloadN (pc' := 4) B e1_3 ?_
  refine Ow.arrlen (pc' := 5) B e1_4 hf3 ?_
  refine Ow.aconstNull (pc' := 6) B e1_5 ?_
  refine Ow.Go.old (fun o1 => ?_)
  refine Ow.callInit (pc' := 9) (W := 0) (k' := 1) (n' := 1) (argsL := [(.ref pa1), (.int (0 : Int32)), (.int (1 : Int32)), .null]) (rest := []) B e1_6 (w11 hw) (w12 hw) (w6 hw) (w14 hw) (con_init_24 hw G GS (pa0 := pa0) (pa1 := pa1) (px0 := px0) (pk0 := pk0) o1 hf0 hf1 hf2 hf3 (by omega) (by omega) (hk0) hc_px0) pd0 ?_
  intro vq2 h3 S4 q2 zh3
  obtain ⟨r5, k6, rfl, Kh3, br5, f7, f8, f9, f10, rfl⟩ := q2
  have lr5 : (r5 : Nat) < h3.size := f10.lt
  refine Ow.Go.norm (S' := [r5, pa0]) (st' := []) (fun _ q => q) rfl ?_
  exact Ow.retV (S' := [r5]) B e1_9 (⟨r5, k6, rfl, ((Keep.refl _ [pa0]).trans Kh3 (allS (Or.inl (by simp)) all0)), (by omega), f7, f8, f9, f10, rfl⟩)
set_option maxRecDepth 65536 in
set_option maxHeartbeats 40000000 in
theorem con_mk_26 {l : Launch} {Z : State} {n0 : Nat} {a0 : Array Value} {cz : Int32} {sf : Value} (hw : Hw a0 Z) (G : Ow.Glo Z cz sf) {u0 : Nat} (GS : GlS Z u0) {px0 : Int32} {px1 : Int32} {h0 : Heap} (O0 : Old Z n0 h0) :
    Ow.Con l Z EL1 n0 my2 method_2_code 6 (Option.some (Jvm.ClassFile.FieldType.object "java/lang/String")) [] ({ frames := 4, cells := 3, slots := 6, locals := 66 } : Room) #[(.int (1 : Int32)), (.int px0), (.int px1)] [] h0 (fun v h S' => (∃ r0 : Nat, ∃ r1 : Nat, ∃ k0 : ClassId, ∃ i0 : Int32, v = some (.ref r0) ∧ Keep h0 h [] ∧ ¬ ((255 : Int32) < i0) ∧ ¬ ((65535 : Int32) < i0) ∧ ¬ (i0 < (0 : Int32)) ∧ nar .char i0 = i0 ∧ h0.size ≤ r0 ∧ h0.size ≤ r1 ∧ r1 ≠ r0 ∧ Exa Z h r0 "java/lang/String" ∧ Fld Z h r0 "java/lang/String" "coder" "B" (.int (0 : Int32)) ∧ Fld Z h r0 "java/lang/String" "value" "[B" (.ref r1) ∧ Arv Z h r1 k0 .byte (1 : Int32) [(.int i0.toInt8.toInt32)] (.int 0) ∧ S' = [r1, r0])) := by
  refine Ow.Con.enter (Ls := #[.val (.int (1 : Int32)), .val (.int px0), .val (.int px1), .unset, .unset, .unset]) (plainFor_of_name pn0) O0 (hEW hw) (hSA hw) ?_
  intro p e s m below meth c B
  have z0 := Ow.old_le O0
  have lu0 : (u0 : Nat) < n0 := O0.1 ▸ GS.2.lt
  refine Ow.iloadN (pc' := 1) B e0_0 ?_
  refine Ow.sipush (pc' := 4) (x := (255 : Int32)) B e0_1 ?_
  refine Ow.iand (pc' := 5) (z := (px0 &&& (255 : Int32))) B e0_4 ?_
  obtain ⟨c1, hc1⟩ : ∃ z : Int32, (px0 &&& (255 : Int32)).toUInt32.toUInt16.toUInt32.toInt32 = z := ⟨_, rfl⟩
  refine Ow.i2c (pc' := 6) (z := c1) (hz := hc1) B e0_5 ?_
  refine Ow.istoreN (pc' := 7) (Ls' := #[.val (.int (1 : Int32)), .val (.int px0), .val (.int px1), .val (.int c1), .unset, .unset]) B e0_6 ?_
  refine Ow.iloadN (pc' := 8) B e0_7 ?_
  refine Ow.bipush (pc' := 10) (x := (8 : Int32)) B e0_8 ?_
  refine Ow.ishr (pc' := 11) (z := (px0 >>> ((8 : Int32) &&& 31))) B e0_10 ?_
  refine Ow.sipush (pc' := 14) (x := (255 : Int32)) B e0_11 ?_
  refine Ow.iand (pc' := 15) (z := ((px0 >>> ((8 : Int32) &&& 31)) &&& (255 : Int32))) B e0_14 ?_
  obtain ⟨c2, hc2⟩ : ∃ z : Int32, ((px0 >>> ((8 : Int32) &&& 31)) &&& (255 : Int32)).toUInt32.toUInt16.toUInt32.toInt32 = z := ⟨_, rfl⟩
  refine Ow.i2c (pc' := 16) (z := c2) (hz := hc2) B e0_15 ?_
  refine Ow.istore (pc' := 18) (Ls' := #[.val (.int (1 : Int32)), .val (.int px0), .val (.int px1), .val (.int c1), .val (.int c2), .unset]) B e0_16 ?_
  refine Ow.iloadN (pc' := 19) B e0_18 ?_
  refine Ow.sipush (pc' := 22) (x := (255 : Int32)) B e0_19 ?_
  refine Ow.iand (pc' := 23) (z := (px1 &&& (255 : Int32))) B e0_22 ?_
  obtain ⟨c3, hc3⟩ : ∃ z : Int32, (px1 &&& (255 : Int32)).toUInt32.toUInt16.toUInt32.toInt32 = z := ⟨_, rfl⟩
  refine Ow.i2c (pc' := 24) (z := c3) (hz := hc3) B e0_23 ?_
  refine Ow.istore (pc' := 26) (Ls' := #[.val (.int (1 : Int32)), .val (.int px0), .val (.int px1), .val (.int c1), .val (.int c2), .val (.int c3)]) B e0_24 ?_
  refine Ow.iloadN (pc' := 27) B e0_26 ?_
  refine Ow.ifT (pc' := 41) B e0_27 (by decide) ?_
  refine Ow.iloadN (pc' := 42) B e0_41 ?_
  refine Ow.iconst (pc' := 43) (x := (1 : Int32)) B e0_42 ?_
  refine Ow.icmpF (pc' := 46) B e0_43 (by decide) ?_
  refine Ow.newObj (pc' := 49) (k' := 1) (n' := 4) B e0_46 (w4 hw) (w5 hw) (w6 hw) ?_
  intro h5 a4 ga4 ba4 Kh5 Aa4 Da4
  have zh5 := Kh5.1
  have la4 : (a4 : Nat) < h5.size := Aa4.lt
  have f6 : Fld Z h5 a4 "java/lang/String" "value" "[B" .null := Da4 (Or.inr (w20 hw)) (ty := (.array .byte)) (by decide)
  have f7 : Fld Z h5 a4 "java/lang/String" "coder" "B" (.int 0) := Da4 (Or.inr (w21 hw)) (ty := .byte) (by decide)
  refine Ow.dup (pc' := 50) B e0_49 ?_
  refine Ow.iconst (pc' := 51) (x := (1 : Int32)) B e0_50 ?_
  refine Ow.newArr (pc' := 53) (k' := 2) (n' := 5) (cap := 1) B e0_51 (w7 hw) (by decide) (by decide) ?_
  intro h9 a8 ka8 ga8 ba8 Kh9 V0a8
  have zh9 := Kh9.1
  have la8 : (a8 : Nat) < h9.size := V0a8.lt
  have Va8 : Arv Z h9 a8 ka8 .char (1 : Int32) [(.int 0)] (.int 0) := V0a8.pad (pad_rep [] (.int 0) 1)
  refine Ow.dup (pc' := 54) B e0_53 ?_
  refine Ow.iconst (pc' := 55) (x := (0 : Int32)) B e0_54 ?_
  refine Ow.iloadN (pc' := 56) B e0_55 ?_
  refine Ow.castore (pc' := 57) (i := 0) B e0_56 Va8 ⟨by decide, by decide⟩ ?_
  intro h10 Kh10 V0h10
  have zh10 := Kh10.1
  have V11 : Arv Z h10 a8 ka8 .char (1 : Int32) [(.int c1)] (.int 0) := (by have e0 := V0h10; rw [show nar .char c1 = c1 from (Ow.cnar hc1)] at e0; exact e0)
  refine Ow.Go.old (fun o12 => ?_)
  have f13 := Aa4.keep Kh9
  have f14 := f13.keep Kh10
  have f15 := f7.keep Kh9 Ow.nin0
  have f16 := f15.keep Kh10 (Ow.ninS (by omega) Ow.nin0)
  have f17 := f6.keep Kh9 Ow.nin0
  have f18 := f17.keep Kh10 (Ow.ninS (by omega) Ow.nin0)
  refine Ow.callInit (pc' := 60) (W := 1) (k' := 3) (n' := 6) (argsL := [(.ref a8)]) (rest := [(.ref a4)]) B e0_57 (w8 hw) (w9 hw) (w6 hw) (w10 hw) (con_init_25 hw G GS (pa0 := a4) (pa1 := a8) (px0 := c1) (pk0 := ka8) o12 f14 f16 f18 V11 (by omega) (by omega) ((Ow.c255 hc1)) (Ow.cnar hc1)) pd1 ?_
  intro vq19 h20 S21 q19 zh20
  obtain ⟨r22, k23, rfl, Kh20, br22, f24, f25, f26, f27, rfl⟩ := q19
  have lr22 : (r22 : Nat) < h20.size := f27.lt
  refine Ow.Go.norm (S' := [r22, a8, a4]) (st' := [(.ref a4)]) (fun _ q => q) rfl ?_
  exact Ow.retA (S' := [r22, a4]) (t := (.object "java/lang/String")) B e0_60 (⟨a4, r22, k23, c1, rfl, (((((Keep.refl _ []).trans Kh5 (fun _ q => nomatch q)).trans Kh9 (fun _ q => nomatch q)).trans Kh10 (allS (Or.inr (by omega)) all0)).trans Kh20 (allS (Or.inr (by omega)) all0)), (Ow.c255 hc1), (Ow.cle16 hc1), (Ow.cge0 hc1), (Ow.cnar hc1), (by omega), (by omega), (by omega), f24, f25, f26, f27, rfl⟩)
set_option maxRecDepth 65536 in
set_option maxHeartbeats 40000000 in
theorem con_equals_27 {l : Launch} {Z : State} {n0 : Nat} {a0 : Array Value} {cz : Int32} {sf : Value} (hw : Hw a0 Z) (G : Ow.Glo Z cz sf) {u0 : Nat} (GS : GlS Z u0) {pa0 : Nat} {pa1 : Nat} {px0 : Int32} {pk0 : ClassId} {pk1 : ClassId} {h0 : Heap} (O0 : Old Z n0 h0) (hf0 : Arv Z h0 pa0 pk0 .byte (0 : Int32) [] (.int 0)) (hf1 : Arv Z h0 pa1 pk1 .byte (1 : Int32) [(.int px0.toInt8.toInt32)] (.int 0)) (hn1 : n0 ≤ pa1) (hc_px0 : nar .char px0 = px0) :
    Ow.Con l Z EL1 n0 my13 jdk_43_method_13_code 3 (Option.some Jvm.ClassFile.FieldType.boolean) [] ({ frames := 0, cells := 0, slots := 0, locals := 0 } : Room) #[(.ref pa0), (.ref pa1)] [pa1] h0 (fun v h S' => (v = some (.int (0 : Int32)) ∧ h = h0 ∧ S' = [])) := by
  refine Ow.Con.enter (Ls := #[.val (.ref pa0), .val (.ref pa1), .unset]) (plainFor_of_name pn9) O0 (hEW hw) (hSA hw) ?_
  intro p e s m below meth c B
  have z0 := Ow.old_le O0
  have lu0 : (u0 : Nat) < n0 := O0.1 ▸ GS.2.lt
  have lpa0 : (pa0 : Nat) < h0.size := hf0.lt
  have lpa1 : (pa1 : Nat) < h0.size := hf1.lt
  refine Ow.aloadN (pc' := 1) B e14_0 ?_
  refine Ow.arrlen (pc' := 2) B e14_1 hf0 ?_
  refine Ow.aloadN (pc' := 3) B e14_2 ?_
  refine Ow.arrlen (pc' := 4) B e14_3 hf1 ?_
  refine Ow.icmpT (pc' := 34) B e14_4 (by decide) ?_
  refine Ow.iconst (pc' := 35) (x := (0 : Int32)) B e14_34 ?_
  exact Ow.retI (S' := []) (t := .boolean) B e14_35 (⟨rfl, rfl, rfl⟩)
set_option maxRecDepth 65536 in
set_option maxHeartbeats 40000000 in
theorem con_equals_28 {l : Launch} {Z : State} {n0 : Nat} {a0 : Array Value} {cz : Int32} {sf : Value} (hw : Hw a0 Z) (G : Ow.Glo Z cz sf) {u0 : Nat} (GS : GlS Z u0) {pa0 : Nat} {pa1 : Nat} {pa2 : Nat} {pa3 : Nat} {px0 : Int32} {pk0 : ClassId} {pk1 : ClassId} {h0 : Heap} (O0 : Old Z n0 h0) (hf0 : Fld Z h0 pa0 "java/lang/String" "coder" "B" (.int (0 : Int32))) (hf1 : Fld Z h0 pa0 "java/lang/String" "value" "[B" (.ref pa2)) (hf2 : Exa Z h0 pa1 "java/lang/String") (hf3 : Fld Z h0 pa1 "java/lang/String" "coder" "B" (.int (0 : Int32))) (hf4 : Fld Z h0 pa1 "java/lang/String" "value" "[B" (.ref pa3)) (hf5 : Arv Z h0 pa2 pk0 .byte (0 : Int32) [] (.int 0)) (hf6 : Arv Z h0 pa3 pk1 .byte (1 : Int32) [(.int px0.toInt8.toInt32)] (.int 0)) (hn0 : n0 ≤ pa0) (hn1 : n0 ≤ pa1) (hn3 : n0 ≤ pa3) (hd0 : pa0 ≠ pa1) (hc_px0 : nar .char px0 = px0) :
    Ow.Con l Z EL1 n0 my14 jdk_42_method_66_code 3 (Option.some Jvm.ClassFile.FieldType.boolean) [] ({ frames := 1, cells := 0, slots := 0, locals := 14 } : Room) #[(.ref pa0), (.ref pa1)] [pa3, pa1, pa0] h0 (fun v h S' => (v = some (.int (0 : Int32)) ∧ h = h0 ∧ S' = [])) := by
  refine Ow.Con.enter (Ls := #[.val (.ref pa0), .val (.ref pa1), .unset]) (plainFor_of_name pn1) O0 (hEW hw) (hSA hw) ?_
  intro p e s m below meth c B
  have z0 := Ow.old_le O0
  have lu0 : (u0 : Nat) < n0 := O0.1 ▸ GS.2.lt
  have lpa0 : (pa0 : Nat) < h0.size := hf0.lt
  have lpa1 : (pa1 : Nat) < h0.size := hf2.lt
  have lpa2 : (pa2 : Nat) < h0.size := hf5.lt
  have lpa3 : (pa3 : Nat) < h0.size := hf6.lt
  refine Ow.aloadN (pc' := 1) B e13_0 ?_
  refine Ow.aloadN (pc' := 2) B e13_1 ?_
  refine Ow.acmpR (pc' := 7) (same := false) B e13_2 (decide_eq_false (fun q => absurd (show (pa0 : Nat) = pa1 from Value.ref.inj q) (by omega))) ?_
  refine Ow.aloadN (pc' := 8) B e13_7 ?_
  refine Ow.instYes (pc' := 11) B e13_8 (w93 hw) (Ins.self hf2) ?_
  refine Ow.ifF (pc' := 14) B e13_11 (by decide) ?_
  refine Ow.aloadN (pc' := 15) B e13_14 ?_
  refine Ow.checkcast (pc' := 18) B e13_15 (w93 hw) (Ins.self hf2) ?_
  refine Ow.astoreN (pc' := 19) (Ls' := #[.val (.ref pa0), .val (.ref pa1), .val (.ref pa1)]) B e13_18 ?_
  refine Ow.getstatic (pc' := 22) B e13_19 (w94 hw) Via.refl G.1 ?_
  refine Ow.ifF (pc' := 25) B e13_22 (feq (G.2.1)).1 ?_
  refine Ow.aloadN (pc' := 26) B e13_25 ?_
  refine Ow.getfield (pc' := 29) B e13_26 (w25 hw) Via.refl hf0 ?_
  refine Ow.aloadN (pc' := 30) B e13_29 ?_
  refine Ow.getfield (pc' := 33) B e13_30 (w25 hw) Via.refl hf3 ?_
  refine Ow.icmpF (pc' := 36) B e13_33 (by decide) ?_
  refine Ow.aloadN (pc' := 37) B e13_36 ?_
  refine Ow.getfield (pc' := 40) B e13_37 (w24 hw) Via.refl hf1 ?_
  refine Ow.aloadN (pc' := 41) B e13_40 ?_
  refine Ow.getfield (pc' := 44) B e13_41 (w24 hw) Via.refl hf4 ?_
  refine Ow.Go.old (fun o1 => ?_)
  refine Ow.callStatic (pc' := 47) (W := 0) (k' := 0) (n' := 0) (argsL := [(.ref pa2), (.ref pa3)]) (rest := []) B e13_44 (w95 hw) (w96 hw) (w97 hw) (w98 hw) (con_equals_27 hw G GS (pa0 := pa2) (pa1 := pa3) (px0 := px0) (pk0 := pk0) (pk1 := pk1) o1 hf5 hf6 (by omega) hc_px0) pd11 ?_
  intro vq2 h3 S4 q2 zh3
  obtain ⟨rfl, rfl, rfl⟩ := q2
  refine Ow.Go.norm (S' := [pa3, pa1, pa0]) (st' := [(.int (0 : Int32))]) (fun _ q => List.mem_append_right _ q) rfl ?_
  refine Ow.ifT (pc' := 54) B e13_47 (by decide) ?_
  refine Ow.iconst (pc' := 55) (x := (0 : Int32)) B e13_54 ?_
  exact Ow.retI (S' := []) (t := .boolean) B e13_55 (⟨rfl, rfl, rfl⟩)
set_option maxRecDepth 65536 in
set_option maxHeartbeats 40000000 in
theorem con_equals_29 {l : Launch} {Z : State} {n0 : Nat} {a0 : Array Value} {cz : Int32} {sf : Value} (hw : Hw a0 Z) (G : Ow.Glo Z cz sf) {u0 : Nat} (GS : GlS Z u0) {pa0 : Nat} {pa1 : Nat} {px0 : Int32} {pk0 : ClassId} {pk1 : ClassId} {h0 : Heap} (O0 : Old Z n0 h0) (hf0 : Arv Z h0 pa0 pk0 .byte (1 : Int32) [(.int px0.toInt8.toInt32)] (.int 0)) (hf1 : Arv Z h0 pa1 pk1 .byte (0 : Int32) [] (.int 0)) (hn0 : n0 ≤ pa0) (hc_px0 : nar .char px0 = px0) :
    Ow.Con l Z EL1 n0 my13 jdk_43_method_13_code 3 (Option.some Jvm.ClassFile.FieldType.boolean) [] ({ frames := 0, cells := 0, slots := 0, locals := 0 } : Room) #[(.ref pa0), (.ref pa1)] [pa0] h0 (fun v h S' => (v = some (.int (0 : Int32)) ∧ h = h0 ∧ S' = [])) := by
  refine Ow.Con.enter (Ls := #[.val (.ref pa0), .val (.ref pa1), .unset]) (plainFor_of_name pn9) O0 (hEW hw) (hSA hw) ?_
  intro p e s m below meth c B
  have z0 := Ow.old_le O0
  have lu0 : (u0 : Nat) < n0 := O0.1 ▸ GS.2.lt
  have lpa0 : (pa0 : Nat) < h0.size := hf0.lt
  have lpa1 : (pa1 : Nat) < h0.size := hf1.lt
  refine Ow.aloadN (pc' := 1) B e14_0 ?_
  refine Ow.arrlen (pc' := 2) B e14_1 hf0 ?_
  refine Ow.aloadN (pc' := 3) B e14_2 ?_
  refine Ow.arrlen (pc' := 4) B e14_3 hf1 ?_
  refine Ow.icmpT (pc' := 34) B e14_4 (by decide) ?_
  refine Ow.iconst (pc' := 35) (x := (0 : Int32)) B e14_34 ?_
  exact Ow.retI (S' := []) (t := .boolean) B e14_35 (⟨rfl, rfl, rfl⟩)
set_option maxRecDepth 65536 in
set_option maxHeartbeats 40000000 in
theorem con_equals_30 {l : Launch} {Z : State} {n0 : Nat} {a0 : Array Value} {cz : Int32} {sf : Value} (hw : Hw a0 Z) (G : Ow.Glo Z cz sf) {u0 : Nat} (GS : GlS Z u0) {pa0 : Nat} {pa1 : Nat} {pa2 : Nat} {pa3 : Nat} {px0 : Int32} {pk0 : ClassId} {pk1 : ClassId} {h0 : Heap} (O0 : Old Z n0 h0) (hf0 : Fld Z h0 pa0 "java/lang/String" "coder" "B" (.int (0 : Int32))) (hf1 : Fld Z h0 pa0 "java/lang/String" "value" "[B" (.ref pa2)) (hf2 : Exa Z h0 pa1 "java/lang/String") (hf3 : Fld Z h0 pa1 "java/lang/String" "coder" "B" (.int (0 : Int32))) (hf4 : Fld Z h0 pa1 "java/lang/String" "value" "[B" (.ref pa3)) (hf5 : Arv Z h0 pa2 pk0 .byte (1 : Int32) [(.int px0.toInt8.toInt32)] (.int 0)) (hf6 : Arv Z h0 pa3 pk1 .byte (0 : Int32) [] (.int 0)) (hn0 : n0 ≤ pa0) (hn1 : n0 ≤ pa1) (hn2 : n0 ≤ pa2) (hd0 : pa0 ≠ pa1) (hc_px0 : nar .char px0 = px0) :
    Ow.Con l Z EL1 n0 my14 jdk_42_method_66_code 3 (Option.some Jvm.ClassFile.FieldType.boolean) [] ({ frames := 1, cells := 0, slots := 0, locals := 14 } : Room) #[(.ref pa0), (.ref pa1)] [pa2, pa0, pa1] h0 (fun v h S' => (v = some (.int (0 : Int32)) ∧ h = h0 ∧ S' = [])) := by
  refine Ow.Con.enter (Ls := #[.val (.ref pa0), .val (.ref pa1), .unset]) (plainFor_of_name pn1) O0 (hEW hw) (hSA hw) ?_
  intro p e s m below meth c B
  have z0 := Ow.old_le O0
  have lu0 : (u0 : Nat) < n0 := O0.1 ▸ GS.2.lt
  have lpa0 : (pa0 : Nat) < h0.size := hf0.lt
  have lpa1 : (pa1 : Nat) < h0.size := hf2.lt
  have lpa2 : (pa2 : Nat) < h0.size := hf5.lt
  have lpa3 : (pa3 : Nat) < h0.size := hf6.lt
  refine Ow.aloadN (pc' := 1) B e13_0 ?_
  refine Ow.aloadN (pc' := 2) B e13_1 ?_
  refine Ow.acmpR (pc' := 7) (same := false) B e13_2 (decide_eq_false (fun q => absurd (show (pa0 : Nat) = pa1 from Value.ref.inj q) (by omega))) ?_
  refine Ow.aloadN (pc' := 8) B e13_7 ?_
  refine Ow.instYes (pc' := 11) B e13_8 (w93 hw) (Ins.self hf2) ?_
  refine Ow.ifF (pc' := 14) B e13_11 (by decide) ?_
  refine Ow.aloadN (pc' := 15) B e13_14 ?_
  refine Ow.checkcast (pc' := 18) B e13_15 (w93 hw) (Ins.self hf2) ?_
  refine Ow.astoreN (pc' := 19) (Ls' := #[.val (.ref pa0), .val (.ref pa1), .val (.ref pa1)]) B e13_18 ?_
  refine Ow.getstatic (pc' := 22) B e13_19 (w94 hw) Via.refl G.1 ?_
  refine Ow.ifF (pc' := 25) B e13_22 (feq (G.2.1)).1 ?_
  refine Ow.aloadN (pc' := 26) B e13_25 ?_
  refine Ow.getfield (pc' := 29) B e13_26 (w25 hw) Via.refl hf0 ?_
  refine Ow.aloadN (pc' := 30) B e13_29 ?_
  refine Ow.getfield (pc' := 33) B e13_30 (w25 hw) Via.refl hf3 ?_
  refine Ow.icmpF (pc' := 36) B e13_33 (by decide) ?_
  refine Ow.aloadN (pc' := 37) B e13_36 ?_
  refine Ow.getfield (pc' := 40) B e13_37 (w24 hw) Via.refl hf1 ?_
  refine Ow.aloadN (pc' := 41) B e13_40 ?_
  refine Ow.getfield (pc' := 44) B e13_41 (w24 hw) Via.refl hf4 ?_
  refine Ow.Go.old (fun o1 => ?_)
  refine Ow.callStatic (pc' := 47) (W := 0) (k' := 0) (n' := 0) (argsL := [(.ref pa2), (.ref pa3)]) (rest := []) B e13_44 (w95 hw) (w96 hw) (w97 hw) (w98 hw) (con_equals_29 hw G GS (pa0 := pa2) (pa1 := pa3) (px0 := px0) (pk0 := pk0) (pk1 := pk1) o1 hf5 hf6 (by omega) hc_px0) pd11 ?_
  intro vq2 h3 S4 q2 zh3
  obtain ⟨rfl, rfl, rfl⟩ := q2
  refine Ow.Go.norm (S' := [pa2, pa0, pa1]) (st' := [(.int (0 : Int32))]) (fun _ q => List.mem_append_right _ q) rfl ?_
  refine Ow.ifT (pc' := 54) B e13_47 (by decide) ?_
  refine Ow.iconst (pc' := 55) (x := (0 : Int32)) B e13_54 ?_
  exact Ow.retI (S' := []) (t := .boolean) B e13_55 (⟨rfl, rfl, rfl⟩)
set_option maxRecDepth 65536 in
set_option maxHeartbeats 40000000 in
theorem con_contains_31 {l : Launch} {Z : State} {n0 : Nat} {a0 : Array Value} {cz : Int32} {sf : Value} (hw : Hw a0 Z) (G : Ow.Glo Z cz sf) {u0 : Nat} (GS : GlS Z u0) {pa0 : Nat} {pa1 : Nat} {pa2 : Nat} {pa3 : Nat} {pa4 : Nat} {px0 : Int32} {pk0 : ClassId} {pk1 : ClassId} {h0 : Heap} (O0 : Old Z n0 h0) (hf0 : Fld Z h0 pa0 "java/util/ImmutableCollections$Set12" "e0" "Ljava/lang/Object;" (.ref pa2)) (hf1 : Fld Z h0 pa0 "java/util/ImmutableCollections$Set12" "e1" "Ljava/lang/Object;" (.ref u0)) (hf2 : Exa Z h0 pa1 "java/lang/String") (hf3 : Fld Z h0 pa1 "java/lang/String" "coder" "B" (.int (0 : Int32))) (hf4 : Fld Z h0 pa1 "java/lang/String" "value" "[B" (.ref pa3)) (hf5 : Exa Z h0 pa2 "java/lang/String") (hf6 : Fld Z h0 pa2 "java/lang/String" "coder" "B" (.int (0 : Int32))) (hf7 : Fld Z h0 pa2 "java/lang/String" "value" "[B" (.ref pa4)) (hf8 : Arv Z h0 pa3 pk0 .byte (1 : Int32) [(.int px0.toInt8.toInt32)] (.int 0)) (hf9 : Arv Z h0 pa4 pk1 .byte (0 : Int32) [] (.int 0)) (hn0 : n0 ≤ pa0) (hn1 : n0 ≤ pa1) (hn2 : n0 ≤ pa2) (hn3 : n0 ≤ pa3) (hd0 : pa1 ≠ pa2) (hd1 : u0 ≠ pa1) (hc_px0 : nar .char px0 = px0) :
    Ow.Con l Z EL1 n0 my16 jdk_101_method_5_code 2 (Option.some Jvm.ClassFile.FieldType.boolean) [] ({ frames := 2, cells := 0, slots := 0, locals := 28 } : Room) #[(.ref pa0), (.ref pa1)] [pa3, pa1, pa2] h0 (fun v h S' => (v = some (.int (0 : Int32)) ∧ h = h0 ∧ S' = [])) := by
  refine Ow.Con.enter (Ls := #[.val (.ref pa0), .val (.ref pa1)]) (plainFor_of_name pn4) O0 (hEW hw) (hSA hw) ?_
  intro p e s m below meth c B
  have z0 := Ow.old_le O0
  have lu0 : (u0 : Nat) < n0 := O0.1 ▸ GS.2.lt
  have lpa0 : (pa0 : Nat) < h0.size := hf0.lt
  have lpa1 : (pa1 : Nat) < h0.size := hf2.lt
  have lpa2 : (pa2 : Nat) < h0.size := hf5.lt
  have lpa3 : (pa3 : Nat) < h0.size := hf8.lt
  have lpa4 : (pa4 : Nat) < h0.size := hf9.lt
  refine Ow.aloadN (pc' := 1) B e16_0 ?_
  refine Ow.aloadN (pc' := 2) B e16_1 ?_
  refine Ow.getfield (pc' := 5) B e16_2 (w66 hw) Via.refl hf0 ?_
  refine Ow.Go.old (fun o1 => ?_)
  refine Ow.callVirtual (pc' := 8) (W := 0) (k' := 0) (n' := 0) (argsL := [(.ref pa2)]) (rest := []) (K := "java/lang/String") B e16_5 (w116 hw) (w117 hw) (w130 hw) (w119 hw) (w90 hw) (w6 hw) (w92 hw) hf2 (con_equals_30 hw G GS (pa0 := pa1) (pa1 := pa2) (pa2 := pa3) (pa3 := pa4) (px0 := px0) (pk0 := pk0) (pk1 := pk1) o1 hf3 hf4 hf5 hf6 hf7 hf8 hf9 (by omega) (by omega) (by omega) (by omega) hc_px0) pd12 ?_
  intro vq2 h3 S4 q2 zh3
  obtain ⟨rfl, rfl, rfl⟩ := q2
  refine Ow.Go.norm (S' := [pa3, pa1, pa2]) (st' := [(.int (0 : Int32))]) (fun _ q => List.mem_append_right _ q) rfl ?_
  refine Ow.ifF (pc' := 11) B e16_8 (by decide) ?_
  refine Ow.aloadN (pc' := 12) B e16_11 ?_
  refine Ow.getfield (pc' := 15) B e16_12 (w70 hw) Via.refl hf1 ?_
  refine Ow.aloadN (pc' := 16) B e16_15 ?_
  refine Ow.Go.old (fun o5 => ?_)
  have f6 := Exa.ext o5.2 GS.2
  refine Ow.objEq (pc' := 19) (W := 0) (K := "java/lang/Object") B e16_16 (w116 hw) (w117 hw) (w130 hw) (w130 hw) (w118 hw) (w131 hw) (by decide +kernel) f6 pd12 e20_0 e20_1 e20_2 e20_9 e20_10 (by omega) ?_
  refine Ow.ifT (pc' := 26) B e16_19 (by decide) ?_
  refine Ow.iconst (pc' := 27) (x := (0 : Int32)) B e16_26 ?_
  exact Ow.retI (S' := []) (t := .boolean) B e16_27 (⟨rfl, rfl, rfl⟩)
set_option maxRecDepth 65536 in
set_option maxHeartbeats 40000000 in
theorem con_compress_32 {l : Launch} {Z : State} {n0 : Nat} {a0 : Array Value} {cz : Int32} {sf : Value} (hw : Hw a0 Z) (G : Ow.Glo Z cz sf) {u0 : Nat} (GS : GlS Z u0) {pa0 : Nat} {pa1 : Nat} {px0 : Int32} {px1 : Int32} {pk0 : ClassId} {pk1 : ClassId} {h0 : Heap} (O0 : Old Z n0 h0) (hf0 : Arv Z h0 pa0 pk0 .char (2 : Int32) [(.int px0), (.int px1)] (.int 0)) (hf1 : Arv Z h0 pa1 pk1 .byte (2 : Int32) [(.int (0 : Int32)), (.int (0 : Int32))] (.int 0)) (hn0 : n0 ≤ pa0) (hn1 : n0 ≤ pa1) (hd0 : pa0 ≠ pa1) (hk0 : ¬ ((255 : Int32) < px0)) (hk1 : ¬ ((255 : Int32) < px1)) (hc_px0 : nar .char px0 = px0) (hc_px1 : nar .char px1 = px1) :
    Ow.Con l Z EL1 n0 my17 jdk_52_method_21_code 7 (Option.some Jvm.ClassFile.FieldType.int) [] ({ frames := 0, cells := 0, slots := 0, locals := 0 } : Room) #[(.ref pa0), (.int (0 : Int32)), (.ref pa1), (.int (0 : Int32)), (.int (2 : Int32))] [pa1] h0 (fun v h S' => (v = some (.int (2 : Int32)) ∧ Keep h0 h [pa1] ∧ Arv Z h pa1 pk1 .byte (2 : Int32) [(.int px0.toInt8.toInt32), (.int px1.toInt8.toInt32)] (.int 0) ∧ S' = [])) := by
  refine Ow.Con.enter (Ls := #[.val (.ref pa0), .val (.int (0 : Int32)), .val (.ref pa1), .val (.int (0 : Int32)), .val (.int (2 : Int32)), .unset, .unset]) (plainFor_of_name pn10) O0 (hEW hw) (hSA hw) ?_
  intro p e s m below meth c B
  have z0 := Ow.old_le O0
  have lu0 : (u0 : Nat) < n0 := O0.1 ▸ GS.2.lt
  have lpa0 : (pa0 : Nat) < h0.size := hf0.lt
  have lpa1 : (pa1 : Nat) < h0.size := hf1.lt
  refine Ow.iconst (pc' := 1) (x := (0 : Int32)) B e18_0 ?_
  refine Ow.istore (pc' := 3) (Ls' := #[.val (.ref pa0), .val (.int (0 : Int32)), .val (.ref pa1), .val (.int (0 : Int32)), .val (.int (2 : Int32)), .val (.int (0 : Int32)), .unset]) B e18_1 ?_
  refine Ow.iload (pc' := 5) B e18_3 ?_
  refine Ow.iload (pc' := 7) B e18_5 ?_
  refine Ow.icmpF (pc' := 10) B e18_7 (by decide) ?_
  refine Ow.aloadN (pc' := 11) B e18_10 ?_
  refine Ow.iloadN (pc' := 12) B e18_11 ?_
  refine Ow.caload (pc' := 13) B e18_12 hf0 ⟨by decide, by decide⟩ rfl ?_
  refine Ow.istore (pc' := 15) (Ls' := #[.val (.ref pa0), .val (.int (0 : Int32)), .val (.ref pa1), .val (.int (0 : Int32)), .val (.int (2 : Int32)), .val (.int (0 : Int32)), .val (.int px0)]) B e18_13 ?_
  refine Ow.iload (pc' := 17) B e18_15 ?_
  refine Ow.sipush (pc' := 20) (x := (255 : Int32)) B e18_17 ?_
  refine Ow.icmpT (pc' := 26) B e18_20 (flt (hk0)).2.2.2 ?_
  refine Ow.aloadN (pc' := 27) B e18_26 ?_
  refine Ow.iloadN (pc' := 28) B e18_27 ?_
  refine Ow.iload (pc' := 30) B e18_28 ?_
  refine Ow.i2b (pc' := 31) (z := px0.toInt8.toInt32) B e18_30 ?_
  refine Ow.bastore (pc' := 32) (i := 0) B e18_31 hf1 ⟨by decide, by decide⟩ (by simp) ?_
  intro h1 Kh1 V0h1
  have zh1 := Kh1.1
  have V2 : Arv Z h1 pa1 pk1 .byte (2 : Int32) [(.int px0.toInt8.toInt32), (.int (0 : Int32))] (.int 0) := (by have e0 := V0h1; rw [show nar .byte px0.toInt8.toInt32 = px0.toInt8.toInt32 from Ow.nar_b _] at e0; exact e0)
  refine Ow.iinc (pc' := 35) (y := (1 : Int32)) (Ls' := #[.val (.ref pa0), .val (.int (1 : Int32)), .val (.ref pa1), .val (.int (0 : Int32)), .val (.int (2 : Int32)), .val (.int (0 : Int32)), .val (.int px0)]) B e18_32 ?_
  refine Ow.iinc (pc' := 38) (y := (1 : Int32)) (Ls' := #[.val (.ref pa0), .val (.int (1 : Int32)), .val (.ref pa1), .val (.int (1 : Int32)), .val (.int (2 : Int32)), .val (.int (0 : Int32)), .val (.int px0)]) B e18_35 ?_
  refine Ow.iinc (pc' := 41) (y := (1 : Int32)) (Ls' := #[.val (.ref pa0), .val (.int (1 : Int32)), .val (.ref pa1), .val (.int (1 : Int32)), .val (.int (2 : Int32)), .val (.int (1 : Int32)), .val (.int px0)]) B e18_38 ?_
  refine Ow.goto (pc' := 3) B e18_41 ?_
  refine Ow.iload (pc' := 5) B e18_3 ?_
  refine Ow.iload (pc' := 7) B e18_5 ?_
  refine Ow.icmpF (pc' := 10) B e18_7 (by decide) ?_
  refine Ow.aloadN (pc' := 11) B e18_10 ?_
  refine Ow.iloadN (pc' := 12) B e18_11 ?_
  have f3 := hf0.keep Kh1 (Ow.ninS (by omega) Ow.nin0)
  refine Ow.caload (pc' := 13) B e18_12 f3 ⟨by decide, by decide⟩ rfl ?_
  refine Ow.istore (pc' := 15) (Ls' := #[.val (.ref pa0), .val (.int (1 : Int32)), .val (.ref pa1), .val (.int (1 : Int32)), .val (.int (2 : Int32)), .val (.int (1 : Int32)), .val (.int px1)]) B e18_13 ?_
  refine Ow.iload (pc' := 17) B e18_15 ?_
  refine Ow.sipush (pc' := 20) (x := (255 : Int32)) B e18_17 ?_
  refine Ow.icmpT (pc' := 26) B e18_20 (flt (hk1)).2.2.2 ?_
  refine Ow.aloadN (pc' := 27) B e18_26 ?_
  refine Ow.iloadN (pc' := 28) B e18_27 ?_
  refine Ow.iload (pc' := 30) B e18_28 ?_
  refine Ow.i2b (pc' := 31) (z := px1.toInt8.toInt32) B e18_30 ?_
  refine Ow.bastore (pc' := 32) (i := 1) B e18_31 V2 ⟨by decide, by decide⟩ (by simp) ?_
  intro h4 Kh4 V0h4
  have zh4 := Kh4.1
  have V5 : Arv Z h4 pa1 pk1 .byte (2 : Int32) [(.int px0.toInt8.toInt32), (.int px1.toInt8.toInt32)] (.int 0) := (by have e0 := V0h4; rw [show nar .byte px1.toInt8.toInt32 = px1.toInt8.toInt32 from Ow.nar_b _] at e0; exact e0)
  refine Ow.iinc (pc' := 35) (y := (2 : Int32)) (Ls' := #[.val (.ref pa0), .val (.int (2 : Int32)), .val (.ref pa1), .val (.int (1 : Int32)), .val (.int (2 : Int32)), .val (.int (1 : Int32)), .val (.int px1)]) B e18_32 ?_
  refine Ow.iinc (pc' := 38) (y := (2 : Int32)) (Ls' := #[.val (.ref pa0), .val (.int (2 : Int32)), .val (.ref pa1), .val (.int (2 : Int32)), .val (.int (2 : Int32)), .val (.int (1 : Int32)), .val (.int px1)]) B e18_35 ?_
  refine Ow.iinc (pc' := 41) (y := (2 : Int32)) (Ls' := #[.val (.ref pa0), .val (.int (2 : Int32)), .val (.ref pa1), .val (.int (2 : Int32)), .val (.int (2 : Int32)), .val (.int (2 : Int32)), .val (.int px1)]) B e18_38 ?_
  refine Ow.goto (pc' := 3) B e18_41 ?_
  refine Ow.iload (pc' := 5) B e18_3 ?_
  refine Ow.iload (pc' := 7) B e18_5 ?_
  refine Ow.icmpT (pc' := 44) B e18_7 (by decide) ?_
  refine Ow.iload (pc' := 46) B e18_44 ?_
  exact Ow.retI (S' := []) (t := .int) B e18_46 (⟨rfl, (((Keep.refl _ [pa1]).trans Kh1 (allS (Or.inl (by simp)) all0)).trans Kh4 (allS (Or.inl (by simp)) all0)), V5, rfl⟩)
set_option maxRecDepth 65536 in
set_option maxHeartbeats 40000000 in
theorem con_compress_33 {l : Launch} {Z : State} {n0 : Nat} {a0 : Array Value} {cz : Int32} {sf : Value} (hw : Hw a0 Z) (G : Ow.Glo Z cz sf) {u0 : Nat} (GS : GlS Z u0) {pa0 : Nat} {px0 : Int32} {px1 : Int32} {pk0 : ClassId} {h0 : Heap} (O0 : Old Z n0 h0) (hf0 : Arv Z h0 pa0 pk0 .char (2 : Int32) [(.int px0), (.int px1)] (.int 0)) (hn0 : n0 ≤ pa0) (hk0 : ¬ ((255 : Int32) < px0)) (hk1 : ¬ ((255 : Int32) < px1)) (hc_px0 : nar .char px0 = px0) (hc_px1 : nar .char px1 = px1) :
    Ow.Con l Z EL1 n0 my18 jdk_52_method_16_code 6 (Option.some (Jvm.ClassFile.FieldType.array Jvm.ClassFile.FieldType.byte)) [] ({ frames := 1, cells := 1, slots := 2, locals := 18 } : Room) #[(.ref pa0), (.int (0 : Int32)), (.int (2 : Int32))] [] h0 (fun v h S' => (∃ r0 : Nat, ∃ k0 : ClassId, v = some (.ref r0) ∧ Keep h0 h [] ∧ h0.size ≤ r0 ∧ Arv Z h r0 k0 .byte (2 : Int32) [(.int px0.toInt8.toInt32), (.int px1.toInt8.toInt32)] (.int 0) ∧ S' = [r0])) := by
  refine Ow.Con.enter (Ls := #[.val (.ref pa0), .val (.int (0 : Int32)), .val (.int (2 : Int32)), .unset, .unset, .unset]) (plainFor_of_name pn10) O0 (hEW hw) (hSA hw) ?_
  intro p e s m below meth c B
  have z0 := Ow.old_le O0
  have lu0 : (u0 : Nat) < n0 := O0.1 ▸ GS.2.lt
  have lpa0 : (pa0 : Nat) < h0.size := hf0.lt
  refine Ow.iloadN (pc' := 1) B e17_0 ?_
  refine Ow.newArr (pc' := 3) (k' := 1) (n' := 2) (cap := 2) B e17_1 (w19 hw) (by decide) (by decide) ?_
  intro h2 a1 ka1 ga1 ba1 Kh2 V0a1
  have zh2 := Kh2.1
  have la1 : (a1 : Nat) < h2.size := V0a1.lt
  have Va1 : Arv Z h2 a1 ka1 .byte (2 : Int32) [(.int 0), (.int 0)] (.int 0) := V0a1.pad (pad_rep [] (.int 0) 2)
  refine Ow.astoreN (pc' := 4) (Ls' := #[.val (.ref pa0), .val (.int (0 : Int32)), .val (.int (2 : Int32)), .val (.ref a1), .unset, .unset]) B e17_3 ?_
  refine Ow.aloadN (pc' := 5) B e17_4 ?_
  refine Ow.iloadN (pc' := 6) B e17_5 ?_
  refine Ow.aloadN (pc' := 7) B e17_6 ?_
  refine Ow.iconst (pc' := 8) (x := (0 : Int32)) B e17_7 ?_
  refine Ow.iloadN (pc' := 9) B e17_8 ?_
  refine Ow.Go.old (fun o3 => ?_)
  have f4 := hf0.keep Kh2 Ow.nin0
  refine Ow.callStatic (pc' := 12) (W := 0) (k' := 1) (n' := 2) (argsL := [(.ref pa0), (.int (0 : Int32)), (.ref a1), (.int (0 : Int32)), (.int (2 : Int32))]) (rest := []) B e17_9 (w124 hw) (w125 hw) (w122 hw) (w126 hw) (con_compress_32 hw G GS (pa0 := pa0) (pa1 := a1) (px0 := px0) (px1 := px1) (pk0 := pk0) (pk1 := ka1) o3 f4 Va1 (by omega) (by omega) (by omega) (hk0) (hk1) hc_px0 hc_px1) pd14 ?_
  intro vq5 h6 S7 q5 zh6
  obtain ⟨rfl, Kh6, f8, rfl⟩ := q5
  refine Ow.Go.norm (S' := [a1]) (st' := [(.int (2 : Int32))]) (fun _ q => List.mem_append_right _ q) rfl ?_
  refine Ow.istore (pc' := 14) (Ls' := #[.val (.ref pa0), .val (.int (0 : Int32)), .val (.int (2 : Int32)), .val (.ref a1), .val (.int (2 : Int32)), .unset]) B e17_12 ?_
  refine Ow.iload (pc' := 16) B e17_14 ?_
  refine Ow.iloadN (pc' := 17) B e17_16 ?_
  refine Ow.icmpT (pc' := 57) B e17_17 (by decide) ?_
  refine Ow.aloadN (pc' := 58) B e17_57 ?_
  exact Ow.retA (S' := [a1]) (t := (.array .byte)) B e17_58 (⟨a1, ka1, rfl, (((Keep.refl _ []).trans Kh2 (fun _ q => nomatch q)).trans Kh6 (allS (Or.inr (by omega)) all0)), (by omega), f8, rfl⟩)
set_option maxRecDepth 65536 in
set_option maxHeartbeats 40000000 in
theorem con_coderFromArrayLen_34 {l : Launch} {Z : State} {n0 : Nat} {a0 : Array Value} {cz : Int32} {sf : Value} (hw : Hw a0 Z) (G : Ow.Glo Z cz sf) {u0 : Nat} (GS : GlS Z u0) {pa0 : Nat} {px0 : Int32} {px1 : Int32} {pk0 : ClassId} {h0 : Heap} (O0 : Old Z n0 h0) (hf0 : Arv Z h0 pa0 pk0 .byte (2 : Int32) [(.int px0.toInt8.toInt32), (.int px1.toInt8.toInt32)] (.int 0)) (hn0 : n0 ≤ pa0) (hc_px0 : nar .char px0 = px0) (hc_px1 : nar .char px1 = px1) :
    Ow.Con l Z EL1 n0 my19 jdk_52_method_15_code 2 (Option.some Jvm.ClassFile.FieldType.byte) [] ({ frames := 0, cells := 0, slots := 0, locals := 0 } : Room) #[(.ref pa0), (.int (2 : Int32))] [pa0] h0 (fun v h S' => (v = some (.int (0 : Int32)) ∧ h = h0 ∧ S' = [])) := by
  refine Ow.Con.enter (Ls := #[.val (.ref pa0), .val (.int (2 : Int32))]) (plainFor_of_name pn10) O0 (hEW hw) (hSA hw) ?_
  intro p e s m below meth c B
  have z0 := Ow.old_le O0
  have lu0 : (u0 : Nat) < n0 := O0.1 ▸ GS.2.lt
  have lpa0 : (pa0 : Nat) < h0.size := hf0.lt
  refine Ow.iloadN (pc' := 1) B e19_0 ?_
  refine Ow.aloadN (pc' := 2) B e19_1 ?_
  refine Ow.arrlen (pc' := 3) B e19_2 hf0 ?_
  refine Ow.isub (pc' := 4) (z := (0 : Int32)) B e19_3 ?_
  refine Ow.bipush (pc' := 6) (x := (31 : Int32)) B e19_4 ?_
  refine Ow.iushr (pc' := 7) (z := (0 : Int32)) B e19_6 ?_
  refine Ow.i2b (pc' := 8) (z := (0 : Int32)) B e19_7 ?_
  exact Ow.retI (S' := []) (t := .byte) B e19_8 (⟨rfl, rfl, rfl⟩)
set_option maxRecDepth 65536 in
set_option maxHeartbeats 40000000 in
theorem con_init_35 {l : Launch} {Z : State} {n0 : Nat} {a0 : Array Value} {cz : Int32} {sf : Value} (hw : Hw a0 Z) (G : Ow.Glo Z cz sf) {u0 : Nat} (GS : GlS Z u0) {pa0 : Nat} {pa1 : Nat} {px0 : Int32} {px1 : Int32} {pk0 : ClassId} {h0 : Heap} (O0 : Old Z n0 h0) (hf0 : Exa Z h0 pa0 "java/lang/String") (hf1 : Fld Z h0 pa0 "java/lang/String" "coder" "B" (.int (0 : Int32))) (hf2 : Fld Z h0 pa0 "java/lang/String" "value" "[B" .null) (hf3 : Arv Z h0 pa1 pk0 .char (2 : Int32) [(.int px0), (.int px1)] (.int 0)) (hn0 : n0 ≤ pa0) (hn1 : n0 ≤ pa1) (hk0 : ¬ ((255 : Int32) < px0)) (hk1 : ¬ ((255 : Int32) < px1)) (hc_px0 : nar .char px0 = px0) (hc_px1 : nar .char px1 = px1) :
    Ow.Con l Z EL1 n0 my0 jdk_42_method_149_code 6 (Option.none : Option Jvm.ClassFile.FieldType) [] ({ frames := 2, cells := 1, slots := 2, locals := 35 } : Room) #[(.ref pa0), (.ref pa1), (.int (0 : Int32)), (.int (2 : Int32)), .null] [pa0] h0 (fun v h S' => (∃ r0 : Nat, ∃ k0 : ClassId, v = none ∧ Keep h0 h [pa0] ∧ h0.size ≤ r0 ∧ Exa Z h pa0 "java/lang/String" ∧ Fld Z h pa0 "java/lang/String" "coder" "B" (.int (0 : Int32)) ∧ Fld Z h pa0 "java/lang/String" "value" "[B" (.ref r0) ∧ Arv Z h r0 k0 .byte (2 : Int32) [(.int px0.toInt8.toInt32), (.int px1.toInt8.toInt32)] (.int 0) ∧ S' = [r0])) := by
  refine Ow.Con.enter (Ls := #[.val (.ref pa0), .val (.ref pa1), .val (.int (0 : Int32)), .val (.int (2 : Int32)), .val .null, .unset]) (plainFor_of_name pn1) O0 (hEW hw) (hSA hw) ?_
  intro p e s m below meth c B
  have z0 := Ow.old_le O0
  have lu0 : (u0 : Nat) < n0 := O0.1 ▸ GS.2.lt
  have lpa0 : (pa0 : Nat) < h0.size := hf0.lt
  have lpa1 : (pa1 : Nat) < h0.size := hf3.lt
  refine Ow.aloadN (pc' := 1) B e2_0 ?_
  refine Ow.objInit (pc' := 4) (W := 0) B e2_1 (w15 hw) (w16 hw) (w17 hw) ?_
  refine Ow.iloadN (pc' := 5) B e2_4 ?_
  refine Ow.ifT (pc' := 27) B e2_5 (by decide) ?_
  refine Ow.getstatic (pc' := 30) B e2_27 (w94 hw) Via.refl G.1 ?_
  refine Ow.ifF (pc' := 33) B e2_30 (feq (G.2.1)).1 ?_
  refine Ow.aloadN (pc' := 34) B e2_33 ?_
  refine Ow.iloadN (pc' := 35) B e2_34 ?_
  refine Ow.iloadN (pc' := 36) B e2_35 ?_
  refine Ow.Go.old (fun o1 => ?_)
  refine Ow.callStatic (pc' := 39) (W := 0) (k' := 1) (n' := 2) (argsL := [(.ref pa1), (.int (0 : Int32)), (.int (2 : Int32))]) (rest := []) B e2_36 (w120 hw) (w121 hw) (w122 hw) (w123 hw) (con_compress_33 hw G GS (pa0 := pa1) (px0 := px0) (px1 := px1) (pk0 := pk0) o1 hf3 (by omega) (hk0) (hk1) hc_px0 hc_px1) pd15 ?_
  intro vq2 h3 S4 q2 zh3
  obtain ⟨r5, k6, rfl, Kh3, br5, f7, rfl⟩ := q2
  have lr5 : (r5 : Nat) < h3.size := f7.lt
  refine Ow.Go.norm (S' := [r5, pa0]) (st' := [(.ref r5)]) (fun _ q => q) rfl ?_
  refine Ow.astore (pc' := 41) (Ls' := #[.val (.ref pa0), .val (.ref pa1), .val (.int (0 : Int32)), .val (.int (2 : Int32)), .val .null, .val (.ref r5)]) B e2_39 ?_
  refine Ow.aloadN (pc' := 42) B e2_41 ?_
  refine Ow.aload (pc' := 44) B e2_42 ?_
  refine Ow.iloadN (pc' := 45) B e2_44 ?_
  refine Ow.Go.old (fun o8 => ?_)
  refine Ow.callStatic (pc' := 48) (W := 1) (k' := 1) (n' := 2) (argsL := [(.ref r5), (.int (2 : Int32))]) (rest := [(.ref pa0)]) B e2_45 (w127 hw) (w128 hw) (w122 hw) (w129 hw) (con_coderFromArrayLen_34 hw G GS (pa0 := r5) (px0 := px0) (px1 := px1) (pk0 := k6) o8 f7 (by omega) hc_px0 hc_px1) pd16 ?_
  intro vq9 h10 S11 q9 zh10
  obtain ⟨rfl, rfl, rfl⟩ := q9
  refine Ow.Go.norm (S' := [r5, pa0]) (st' := [(.int (0 : Int32)), (.ref pa0)]) (fun _ q => List.mem_append_right _ q) rfl ?_
  have f12 := hf1.keep Kh3 Ow.nin0
  have f13 := hf0.keep Kh3
  refine Ow.putfield (pc' := 51) (ty := .byte) B e2_48 (w25 hw) Via.refl f12 f13 (Or.inr ⟨(w21 hw), rfl, rfl⟩) (w5 hw) (Or.inl (by simp)) ?_
  intro h14 Wh14
  have f15 := hf2.keep Kh3 Ow.nin0
  have Kh14 := Keep.of_wr Wh14
  have zh14 := Kh14.1
  have f16 : Fld Z h14 pa0 "java/lang/String" "coder" "B" (.int (0 : Int32)) := f12.same Wh14
  have f17 : Fld Z h14 pa0 "java/lang/String" "value" "[B" .null := f15.other Wh14 (Or.inr (slot_ne (a0 := a0) (C := "java/lang/String") (t := (.array .byte)) (t' := .byte) (Or.inr (w20 hw)) (Or.inr (w21 hw)) (by decide) (by decide) (by decide)))
  refine Ow.aloadN (pc' := 52) B e2_51 ?_
  refine Ow.aload (pc' := 54) B e2_52 ?_
  have f18 := f13.keep Kh14
  refine Ow.putfield (pc' := 57) (ty := (.array .byte)) B e2_54 (w24 hw) Via.refl f17 f18 (Or.inr ⟨(w20 hw), rfl, rfl⟩) (w5 hw) (Or.inl (by simp)) ?_
  intro h19 Wh19
  have Kh19 := Keep.of_wr Wh19
  have zh19 := Kh19.1
  have f20 : Fld Z h19 pa0 "java/lang/String" "value" "[B" (.ref r5) := f17.same Wh19
  have f21 : Fld Z h19 pa0 "java/lang/String" "coder" "B" (.int (0 : Int32)) := f16.other Wh19 (Or.inr (slot_ne (a0 := a0) (C := "java/lang/String") (t := .byte) (t' := (.array .byte)) (Or.inr (w21 hw)) (Or.inr (w20 hw)) (by decide) (by decide) (by decide)))
  have f22 := f18.keep Kh19
  have f23 := f7.keep Kh14 (Ow.ninS (by omega) Ow.nin0)
  have f24 := f23.keep Kh19 (Ow.ninS (by omega) Ow.nin0)
  exact Ow.retV (S' := [r5]) B e2_57 (⟨r5, k6, rfl, ((((Keep.refl _ [pa0]).trans Kh3 (fun _ q => nomatch q)).trans Kh14 (allS (Or.inl (by simp)) all0)).trans Kh19 (allS (Or.inl (by simp)) all0)), (by omega), f22, f21, f20, f24, rfl⟩)
set_option maxRecDepth 65536 in
set_option maxHeartbeats 40000000 in
theorem con_init_36 {l : Launch} {Z : State} {n0 : Nat} {a0 : Array Value} {cz : Int32} {sf : Value} (hw : Hw a0 Z) (G : Ow.Glo Z cz sf) {u0 : Nat} (GS : GlS Z u0) {pa0 : Nat} {pa1 : Nat} {px0 : Int32} {px1 : Int32} {pk0 : ClassId} {h0 : Heap} (O0 : Old Z n0 h0) (hf0 : Exa Z h0 pa0 "java/lang/String") (hf1 : Fld Z h0 pa0 "java/lang/String" "coder" "B" (.int (0 : Int32))) (hf2 : Fld Z h0 pa0 "java/lang/String" "value" "[B" .null) (hf3 : Arv Z h0 pa1 pk0 .char (2 : Int32) [(.int px0), (.int px1)] (.int 0)) (hn0 : n0 ≤ pa0) (hn1 : n0 ≤ pa1) (hk0 : ¬ ((255 : Int32) < px0)) (hk1 : ¬ ((255 : Int32) < px1)) (hc_px0 : nar .char px0 = px0) (hc_px1 : nar .char px1 = px1) :
    Ow.Con l Z EL1 n0 my1 jdk_42_method_3_code 2 (Option.none : Option Jvm.ClassFile.FieldType) [] ({ frames := 3, cells := 1, slots := 2, locals := 52 } : Room) #[(.ref pa0), (.ref pa1)] [pa0] h0 (fun v h S' => (∃ r0 : Nat, ∃ k0 : ClassId, v = none ∧ Keep h0 h [pa0] ∧ h0.size ≤ r0 ∧ Exa Z h pa0 "java/lang/String" ∧ Fld Z h pa0 "java/lang/String" "coder" "B" (.int (0 : Int32)) ∧ Fld Z h pa0 "java/lang/String" "value" "[B" (.ref r0) ∧ Arv Z h r0 k0 .byte (2 : Int32) [(.int px0.toInt8.toInt32), (.int px1.toInt8.toInt32)] (.int 0) ∧ S' = [r0])) := by
  refine Ow.Con.enter (Ls := #[.val (.ref pa0), .val (.ref pa1)]) (plainFor_of_name pn1) O0 (hEW hw) (hSA hw) ?_
  intro p e s m below meth c B
  have z0 := Ow.old_le O0
  have lu0 : (u0 : Nat) < n0 := O0.1 ▸ GS.2.lt
  have lpa0 : (pa0 : Nat) < h0.size := hf0.lt
  have lpa1 : (pa1 : Nat) < h0.size := hf3.lt
  refine Ow.aloadN (pc' := 1) B e1_0 ?_
  refine Ow.aloadN (pc' := 2) B e1_1 ?_
  refine Ow.iconst (pc' := 3) (x := (0 : Int32)) B e1_2 ?_
  refine Ow.aloadN (pc' := 4) B e1_3 ?_
  refine Ow.arrlen (pc' := 5) B e1_4 hf3 ?_
  refine Ow.aconstNull (pc' := 6) B e1_5 ?_
  refine Ow.Go.old (fun o1 => ?_)
  refine Ow.callInit (pc' := 9) (W := 0) (k' := 1) (n' := 2) (argsL := [(.ref pa1), (.int (0 : Int32)), (.int (2 : Int32)), .null]) (rest := []) B e1_6 (w11 hw) (w12 hw) (w6 hw) (w14 hw) (con_init_35 hw G GS (pa0 := pa0) (pa1 := pa1) (px0 := px0) (px1 := px1) (pk0 := pk0) o1 hf0 hf1 hf2 hf3 (by omega) (by omega) (hk0) (hk1) hc_px0 hc_px1) pd0 ?_
  intro vq2 h3 S4 q2 zh3
  obtain ⟨r5, k6, rfl, Kh3, br5, f7, f8, f9, f10, rfl⟩ := q2
  have lr5 : (r5 : Nat) < h3.size := f10.lt
  refine Ow.Go.norm (S' := [r5, pa0]) (st' := []) (fun _ q => q) rfl ?_
  exact Ow.retV (S' := [r5]) B e1_9 (⟨r5, k6, rfl, ((Keep.refl _ [pa0]).trans Kh3 (allS (Or.inl (by simp)) all0)), (by omega), f7, f8, f9, f10, rfl⟩)
set_option maxRecDepth 65536 in
set_option maxHeartbeats 40000000 in
theorem con_mk_37 {l : Launch} {Z : State} {n0 : Nat} {a0 : Array Value} {cz : Int32} {sf : Value} (hw : Hw a0 Z) (G : Ow.Glo Z cz sf) {u0 : Nat} (GS : GlS Z u0) {px0 : Int32} {px1 : Int32} {h0 : Heap} (O0 : Old Z n0 h0) :
    Ow.Con l Z EL1 n0 my2 method_2_code 6 (Option.some (Jvm.ClassFile.FieldType.object "java/lang/String")) [] ({ frames := 4, cells := 3, slots := 8, locals := 66 } : Room) #[(.int (2 : Int32)), (.int px0), (.int px1)] [] h0 (fun v h S' => (∃ r0 : Nat, ∃ r1 : Nat, ∃ k0 : ClassId, ∃ i0 : Int32, ∃ i1 : Int32, v = some (.ref r0) ∧ Keep h0 h [] ∧ ¬ ((255 : Int32) < i0) ∧ ¬ ((255 : Int32) < i1) ∧ ¬ ((65535 : Int32) < i0) ∧ ¬ ((65535 : Int32) < i1) ∧ ¬ (i0 < (0 : Int32)) ∧ ¬ (i1 < (0 : Int32)) ∧ nar .char i0 = i0 ∧ nar .char i1 = i1 ∧ h0.size ≤ r0 ∧ h0.size ≤ r1 ∧ r1 ≠ r0 ∧ Exa Z h r0 "java/lang/String" ∧ Fld Z h r0 "java/lang/String" "coder" "B" (.int (0 : Int32)) ∧ Fld Z h r0 "java/lang/String" "value" "[B" (.ref r1) ∧ Arv Z h r1 k0 .byte (2 : Int32) [(.int i0.toInt8.toInt32), (.int i1.toInt8.toInt32)] (.int 0) ∧ S' = [r1, r0])) := by
  refine Ow.Con.enter (Ls := #[.val (.int (2 : Int32)), .val (.int px0), .val (.int px1), .unset, .unset, .unset]) (plainFor_of_name pn0) O0 (hEW hw) (hSA hw) ?_
  intro p e s m below meth c B
  have z0 := Ow.old_le O0
  have lu0 : (u0 : Nat) < n0 := O0.1 ▸ GS.2.lt
  refine Ow.iloadN (pc' := 1) B e0_0 ?_
  refine Ow.sipush (pc' := 4) (x := (255 : Int32)) B e0_1 ?_
  refine Ow.iand (pc' := 5) (z := (px0 &&& (255 : Int32))) B e0_4 ?_
  obtain ⟨c1, hc1⟩ : ∃ z : Int32, (px0 &&& (255 : Int32)).toUInt32.toUInt16.toUInt32.toInt32 = z := ⟨_, rfl⟩
  refine Ow.i2c (pc' := 6) (z := c1) (hz := hc1) B e0_5 ?_
  refine Ow.istoreN (pc' := 7) (Ls' := #[.val (.int (2 : Int32)), .val (.int px0), .val (.int px1), .val (.int c1), .unset, .unset]) B e0_6 ?_
  refine Ow.iloadN (pc' := 8) B e0_7 ?_
  refine Ow.bipush (pc' := 10) (x := (8 : Int32)) B e0_8 ?_
  refine Ow.ishr (pc' := 11) (z := (px0 >>> ((8 : Int32) &&& 31))) B e0_10 ?_
  refine Ow.sipush (pc' := 14) (x := (255 : Int32)) B e0_11 ?_
  refine Ow.iand (pc' := 15) (z := ((px0 >>> ((8 : Int32) &&& 31)) &&& (255 : Int32))) B e0_14 ?_
  obtain ⟨c2, hc2⟩ : ∃ z : Int32, ((px0 >>> ((8 : Int32) &&& 31)) &&& (255 : Int32)).toUInt32.toUInt16.toUInt32.toInt32 = z := ⟨_, rfl⟩
  refine Ow.i2c (pc' := 16) (z := c2) (hz := hc2) B e0_15 ?_
  refine Ow.istore (pc' := 18) (Ls' := #[.val (.int (2 : Int32)), .val (.int px0), .val (.int px1), .val (.int c1), .val (.int c2), .unset]) B e0_16 ?_
  refine Ow.iloadN (pc' := 19) B e0_18 ?_
  refine Ow.sipush (pc' := 22) (x := (255 : Int32)) B e0_19 ?_
  refine Ow.iand (pc' := 23) (z := (px1 &&& (255 : Int32))) B e0_22 ?_
  obtain ⟨c3, hc3⟩ : ∃ z : Int32, (px1 &&& (255 : Int32)).toUInt32.toUInt16.toUInt32.toInt32 = z := ⟨_, rfl⟩
  refine Ow.i2c (pc' := 24) (z := c3) (hz := hc3) B e0_23 ?_
  refine Ow.istore (pc' := 26) (Ls' := #[.val (.int (2 : Int32)), .val (.int px0), .val (.int px1), .val (.int c1), .val (.int c2), .val (.int c3)]) B e0_24 ?_
  refine Ow.iloadN (pc' := 27) B e0_26 ?_
  refine Ow.ifT (pc' := 41) B e0_27 (by decide) ?_
  refine Ow.iloadN (pc' := 42) B e0_41 ?_
  refine Ow.iconst (pc' := 43) (x := (1 : Int32)) B e0_42 ?_
  refine Ow.icmpT (pc' := 61) B e0_43 (by decide) ?_
  refine Ow.iloadN (pc' := 62) B e0_61 ?_
  refine Ow.iconst (pc' := 63) (x := (2 : Int32)) B e0_62 ?_
  refine Ow.icmpF (pc' := 66) B e0_63 (by decide) ?_
  refine Ow.newObj (pc' := 69) (k' := 1) (n' := 4) B e0_66 (w4 hw) (w5 hw) (w6 hw) ?_
  intro h5 a4 ga4 ba4 Kh5 Aa4 Da4
  have zh5 := Kh5.1
  have la4 : (a4 : Nat) < h5.size := Aa4.lt
  have f6 : Fld Z h5 a4 "java/lang/String" "value" "[B" .null := Da4 (Or.inr (w20 hw)) (ty := (.array .byte)) (by decide)
  have f7 : Fld Z h5 a4 "java/lang/String" "coder" "B" (.int 0) := Da4 (Or.inr (w21 hw)) (ty := .byte) (by decide)
  refine Ow.dup (pc' := 70) B e0_69 ?_
  refine Ow.iconst (pc' := 71) (x := (2 : Int32)) B e0_70 ?_
  refine Ow.newArr (pc' := 73) (k' := 2) (n' := 6) (cap := 2) B e0_71 (w7 hw) (by decide) (by decide) ?_
  intro h9 a8 ka8 ga8 ba8 Kh9 V0a8
  have zh9 := Kh9.1
  have la8 : (a8 : Nat) < h9.size := V0a8.lt
  have Va8 : Arv Z h9 a8 ka8 .char (2 : Int32) [(.int 0), (.int 0)] (.int 0) := V0a8.pad (pad_rep [] (.int 0) 2)
  refine Ow.dup (pc' := 74) B e0_73 ?_
  refine Ow.iconst (pc' := 75) (x := (0 : Int32)) B e0_74 ?_
  refine Ow.iloadN (pc' := 76) B e0_75 ?_
  refine Ow.castore (pc' := 77) (i := 0) B e0_76 Va8 ⟨by decide, by decide⟩ ?_
  intro h10 Kh10 V0h10
  have zh10 := Kh10.1
  have V11 : Arv Z h10 a8 ka8 .char (2 : Int32) [(.int c1), (.int (0 : Int32))] (.int 0) := (by have e0 := V0h10; rw [show nar .char c1 = c1 from (Ow.cnar hc1)] at e0; exact e0)
  refine Ow.dup (pc' := 78) B e0_77 ?_
  refine Ow.iconst (pc' := 79) (x := (1 : Int32)) B e0_78 ?_
  refine Ow.iload (pc' := 81) B e0_79 ?_
  refine Ow.castore (pc' := 82) (i := 1) B e0_81 V11 ⟨by decide, by decide⟩ ?_
  intro h12 Kh12 V0h12
  have zh12 := Kh12.1
  have V13 : Arv Z h12 a8 ka8 .char (2 : Int32) [(.int c1), (.int c2)] (.int 0) := (by have e0 := V0h12; rw [show nar .char c2 = c2 from (Ow.cnar hc2)] at e0; exact e0)
  refine Ow.Go.old (fun o14 => ?_)
  have f15 := Aa4.keep Kh9
  have f16 := f15.keep Kh10
  have f17 := f16.keep Kh12
  have f18 := f7.keep Kh9 Ow.nin0
  have f19 := f18.keep Kh10 (Ow.ninS (by omega) Ow.nin0)
  have f20 := f19.keep Kh12 (Ow.ninS (by omega) Ow.nin0)
  have f21 := f6.keep Kh9 Ow.nin0
  have f22 := f21.keep Kh10 (Ow.ninS (by omega) Ow.nin0)
  have f23 := f22.keep Kh12 (Ow.ninS (by omega) Ow.nin0)
  refine Ow.callInit (pc' := 85) (W := 1) (k' := 3) (n' := 8) (argsL := [(.ref a8)]) (rest := [(.ref a4)]) B e0_82 (w8 hw) (w9 hw) (w6 hw) (w10 hw) (con_init_36 hw G GS (pa0 := a4) (pa1 := a8) (px0 := c1) (px1 := c2) (pk0 := ka8) o14 f17 f20 f23 V13 (by omega) (by omega) ((Ow.c255 hc1)) ((Ow.c255 hc2)) (Ow.cnar hc1) (Ow.cnar hc2)) pd1 ?_
  intro vq24 h25 S26 q24 zh25
  obtain ⟨r27, k28, rfl, Kh25, br27, f29, f30, f31, f32, rfl⟩ := q24
  have lr27 : (r27 : Nat) < h25.size := f32.lt
  refine Ow.Go.norm (S' := [r27, a8, a4]) (st' := [(.ref a4)]) (fun _ q => q) rfl ?_
  exact Ow.retA (S' := [r27, a4]) (t := (.object "java/lang/String")) B e0_85 (⟨a4, r27, k28, c1, c2, rfl, ((((((Keep.refl _ []).trans Kh5 (fun _ q => nomatch q)).trans Kh9 (fun _ q => nomatch q)).trans Kh10 (allS (Or.inr (by omega)) all0)).trans Kh12 (allS (Or.inr (by omega)) all0)).trans Kh25 (allS (Or.inr (by omega)) all0)), (Ow.c255 hc1), (Ow.c255 hc2), (Ow.cle16 hc1), (Ow.cle16 hc2), (Ow.cge0 hc1), (Ow.cge0 hc2), (Ow.cnar hc1), (Ow.cnar hc2), (by omega), (by omega), (by omega), f29, f30, f31, f32, rfl⟩)
set_option maxRecDepth 65536 in
set_option maxHeartbeats 40000000 in
theorem con_equals_38 {l : Launch} {Z : State} {n0 : Nat} {a0 : Array Value} {cz : Int32} {sf : Value} (hw : Hw a0 Z) (G : Ow.Glo Z cz sf) {u0 : Nat} (GS : GlS Z u0) {pa0 : Nat} {pa1 : Nat} {px0 : Int32} {px1 : Int32} {pk0 : ClassId} {pk1 : ClassId} {h0 : Heap} (O0 : Old Z n0 h0) (hf0 : Arv Z h0 pa0 pk0 .byte (0 : Int32) [] (.int 0)) (hf1 : Arv Z h0 pa1 pk1 .byte (2 : Int32) [(.int px0.toInt8.toInt32), (.int px1.toInt8.toInt32)] (.int 0)) (hn1 : n0 ≤ pa1) (hc_px0 : nar .char px0 = px0) (hc_px1 : nar .char px1 = px1) :
    Ow.Con l Z EL1 n0 my13 jdk_43_method_13_code 3 (Option.some Jvm.ClassFile.FieldType.boolean) [] ({ frames := 0, cells := 0, slots := 0, locals := 0 } : Room) #[(.ref pa0), (.ref pa1)] [pa1] h0 (fun v h S' => (v = some (.int (0 : Int32)) ∧ h = h0 ∧ S' = [])) := by
  refine Ow.Con.enter (Ls := #[.val (.ref pa0), .val (.ref pa1), .unset]) (plainFor_of_name pn9) O0 (hEW hw) (hSA hw) ?_
  intro p e s m below meth c B
  have z0 := Ow.old_le O0
  have lu0 : (u0 : Nat) < n0 := O0.1 ▸ GS.2.lt
  have lpa0 : (pa0 : Nat) < h0.size := hf0.lt
  have lpa1 : (pa1 : Nat) < h0.size := hf1.lt
  refine Ow.aloadN (pc' := 1) B e14_0 ?_
  refine Ow.arrlen (pc' := 2) B e14_1 hf0 ?_
  refine Ow.aloadN (pc' := 3) B e14_2 ?_
  refine Ow.arrlen (pc' := 4) B e14_3 hf1 ?_
  refine Ow.icmpT (pc' := 34) B e14_4 (by decide) ?_
  refine Ow.iconst (pc' := 35) (x := (0 : Int32)) B e14_34 ?_
  exact Ow.retI (S' := []) (t := .boolean) B e14_35 (⟨rfl, rfl, rfl⟩)
set_option maxRecDepth 65536 in
set_option maxHeartbeats 40000000 in
theorem con_equals_39 {l : Launch} {Z : State} {n0 : Nat} {a0 : Array Value} {cz : Int32} {sf : Value} (hw : Hw a0 Z) (G : Ow.Glo Z cz sf) {u0 : Nat} (GS : GlS Z u0) {pa0 : Nat} {pa1 : Nat} {pa2 : Nat} {pa3 : Nat} {px0 : Int32} {px1 : Int32} {pk0 : ClassId} {pk1 : ClassId} {h0 : Heap} (O0 : Old Z n0 h0) (hf0 : Fld Z h0 pa0 "java/lang/String" "coder" "B" (.int (0 : Int32))) (hf1 : Fld Z h0 pa0 "java/lang/String" "value" "[B" (.ref pa2)) (hf2 : Exa Z h0 pa1 "java/lang/String") (hf3 : Fld Z h0 pa1 "java/lang/String" "coder" "B" (.int (0 : Int32))) (hf4 : Fld Z h0 pa1 "java/lang/String" "value" "[B" (.ref pa3)) (hf5 : Arv Z h0 pa2 pk0 .byte (0 : Int32) [] (.int 0)) (hf6 : Arv Z h0 pa3 pk1 .byte (2 : Int32) [(.int px0.toInt8.toInt32), (.int px1.toInt8.toInt32)] (.int 0)) (hn0 : n0 ≤ pa0) (hn1 : n0 ≤ pa1) (hn3 : n0 ≤ pa3) (hd0 : pa0 ≠ pa1) (hc_px0 : nar .char px0 = px0) (hc_px1 : nar .char px1 = px1) :
    Ow.Con l Z EL1 n0 my14 jdk_42_method_66_code 3 (Option.some Jvm.ClassFile.FieldType.boolean) [] ({ frames := 1, cells := 0, slots := 0, locals := 14 } : Room) #[(.ref pa0), (.ref pa1)] [pa3, pa1, pa0] h0 (fun v h S' => (v = some (.int (0 : Int32)) ∧ h = h0 ∧ S' = [])) := by
  refine Ow.Con.enter (Ls := #[.val (.ref pa0), .val (.ref pa1), .unset]) (plainFor_of_name pn1) O0 (hEW hw) (hSA hw) ?_
  intro p e s m below meth c B
  have z0 := Ow.old_le O0
  have lu0 : (u0 : Nat) < n0 := O0.1 ▸ GS.2.lt
  have lpa0 : (pa0 : Nat) < h0.size := hf0.lt
  have lpa1 : (pa1 : Nat) < h0.size := hf2.lt
  have lpa2 : (pa2 : Nat) < h0.size := hf5.lt
  have lpa3 : (pa3 : Nat) < h0.size := hf6.lt
  refine Ow.aloadN (pc' := 1) B e13_0 ?_
  refine Ow.aloadN (pc' := 2) B e13_1 ?_
  refine Ow.acmpR (pc' := 7) (same := false) B e13_2 (decide_eq_false (fun q => absurd (show (pa0 : Nat) = pa1 from Value.ref.inj q) (by omega))) ?_
  refine Ow.aloadN (pc' := 8) B e13_7 ?_
  refine Ow.instYes (pc' := 11) B e13_8 (w93 hw) (Ins.self hf2) ?_
  refine Ow.ifF (pc' := 14) B e13_11 (by decide) ?_
  refine Ow.aloadN (pc' := 15) B e13_14 ?_
  refine Ow.checkcast (pc' := 18) B e13_15 (w93 hw) (Ins.self hf2) ?_
  refine Ow.astoreN (pc' := 19) (Ls' := #[.val (.ref pa0), .val (.ref pa1), .val (.ref pa1)]) B e13_18 ?_
  refine Ow.getstatic (pc' := 22) B e13_19 (w94 hw) Via.refl G.1 ?_
  refine Ow.ifF (pc' := 25) B e13_22 (feq (G.2.1)).1 ?_
  refine Ow.aloadN (pc' := 26) B e13_25 ?_
  refine Ow.getfield (pc' := 29) B e13_26 (w25 hw) Via.refl hf0 ?_
  refine Ow.aloadN (pc' := 30) B e13_29 ?_
  refine Ow.getfield (pc' := 33) B e13_30 (w25 hw) Via.refl hf3 ?_
  refine Ow.icmpF (pc' := 36) B e13_33 (by decide) ?_
  refine Ow.aloadN (pc' := 37) B e13_36 ?_
  refine Ow.getfield (pc' := 40) B e13_37 (w24 hw) Via.refl hf1 ?_
  refine Ow.aloadN (pc' := 41) B e13_40 ?_
  refine Ow.getfield (pc' := 44) B e13_41 (w24 hw) Via.refl hf4 ?_
  refine Ow.Go.old (fun o1 => ?_)
  refine Ow.callStatic (pc' := 47) (W := 0) (k' := 0) (n' := 0) (argsL := [(.ref pa2), (.ref pa3)]) (rest := []) B e13_44 (w95 hw) (w96 hw) (w97 hw) (w98 hw) (con_equals_38 hw G GS (pa0 := pa2) (pa1 := pa3) (px0 := px0) (px1 := px1) (pk0 := pk0) (pk1 := pk1) o1 hf5 hf6 (by omega) hc_px0 hc_px1) pd11 ?_
  intro vq2 h3 S4 q2 zh3
  obtain ⟨rfl, rfl, rfl⟩ := q2
  refine Ow.Go.norm (S' := [pa3, pa1, pa0]) (st' := [(.int (0 : Int32))]) (fun _ q => List.mem_append_right _ q) rfl ?_
  refine Ow.ifT (pc' := 54) B e13_47 (by decide) ?_
  refine Ow.iconst (pc' := 55) (x := (0 : Int32)) B e13_54 ?_
  exact Ow.retI (S' := []) (t := .boolean) B e13_55 (⟨rfl, rfl, rfl⟩)
set_option maxRecDepth 65536 in
set_option maxHeartbeats 40000000 in
theorem con_equals_40 {l : Launch} {Z : State} {n0 : Nat} {a0 : Array Value} {cz : Int32} {sf : Value} (hw : Hw a0 Z) (G : Ow.Glo Z cz sf) {u0 : Nat} (GS : GlS Z u0) {pa0 : Nat} {pa1 : Nat} {px0 : Int32} {px1 : Int32} {pk0 : ClassId} {pk1 : ClassId} {h0 : Heap} (O0 : Old Z n0 h0) (hf0 : Arv Z h0 pa0 pk0 .byte (2 : Int32) [(.int px0.toInt8.toInt32), (.int px1.toInt8.toInt32)] (.int 0)) (hf1 : Arv Z h0 pa1 pk1 .byte (0 : Int32) [] (.int 0)) (hn0 : n0 ≤ pa0) (hc_px0 : nar .char px0 = px0) (hc_px1 : nar .char px1 = px1) :
    Ow.Con l Z EL1 n0 my13 jdk_43_method_13_code 3 (Option.some Jvm.ClassFile.FieldType.boolean) [] ({ frames := 0, cells := 0, slots := 0, locals := 0 } : Room) #[(.ref pa0), (.ref pa1)] [pa0] h0 (fun v h S' => (v = some (.int (0 : Int32)) ∧ h = h0 ∧ S' = [])) := by
  refine Ow.Con.enter (Ls := #[.val (.ref pa0), .val (.ref pa1), .unset]) (plainFor_of_name pn9) O0 (hEW hw) (hSA hw) ?_
  intro p e s m below meth c B
  have z0 := Ow.old_le O0
  have lu0 : (u0 : Nat) < n0 := O0.1 ▸ GS.2.lt
  have lpa0 : (pa0 : Nat) < h0.size := hf0.lt
  have lpa1 : (pa1 : Nat) < h0.size := hf1.lt
  refine Ow.aloadN (pc' := 1) B e14_0 ?_
  refine Ow.arrlen (pc' := 2) B e14_1 hf0 ?_
  refine Ow.aloadN (pc' := 3) B e14_2 ?_
  refine Ow.arrlen (pc' := 4) B e14_3 hf1 ?_
  refine Ow.icmpT (pc' := 34) B e14_4 (by decide) ?_
  refine Ow.iconst (pc' := 35) (x := (0 : Int32)) B e14_34 ?_
  exact Ow.retI (S' := []) (t := .boolean) B e14_35 (⟨rfl, rfl, rfl⟩)
set_option maxRecDepth 65536 in
set_option maxHeartbeats 40000000 in
theorem con_equals_41 {l : Launch} {Z : State} {n0 : Nat} {a0 : Array Value} {cz : Int32} {sf : Value} (hw : Hw a0 Z) (G : Ow.Glo Z cz sf) {u0 : Nat} (GS : GlS Z u0) {pa0 : Nat} {pa1 : Nat} {pa2 : Nat} {pa3 : Nat} {px0 : Int32} {px1 : Int32} {pk0 : ClassId} {pk1 : ClassId} {h0 : Heap} (O0 : Old Z n0 h0) (hf0 : Fld Z h0 pa0 "java/lang/String" "coder" "B" (.int (0 : Int32))) (hf1 : Fld Z h0 pa0 "java/lang/String" "value" "[B" (.ref pa2)) (hf2 : Exa Z h0 pa1 "java/lang/String") (hf3 : Fld Z h0 pa1 "java/lang/String" "coder" "B" (.int (0 : Int32))) (hf4 : Fld Z h0 pa1 "java/lang/String" "value" "[B" (.ref pa3)) (hf5 : Arv Z h0 pa2 pk0 .byte (2 : Int32) [(.int px0.toInt8.toInt32), (.int px1.toInt8.toInt32)] (.int 0)) (hf6 : Arv Z h0 pa3 pk1 .byte (0 : Int32) [] (.int 0)) (hn0 : n0 ≤ pa0) (hn1 : n0 ≤ pa1) (hn2 : n0 ≤ pa2) (hd0 : pa0 ≠ pa1) (hc_px0 : nar .char px0 = px0) (hc_px1 : nar .char px1 = px1) :
    Ow.Con l Z EL1 n0 my14 jdk_42_method_66_code 3 (Option.some Jvm.ClassFile.FieldType.boolean) [] ({ frames := 1, cells := 0, slots := 0, locals := 14 } : Room) #[(.ref pa0), (.ref pa1)] [pa2, pa0, pa1] h0 (fun v h S' => (v = some (.int (0 : Int32)) ∧ h = h0 ∧ S' = [])) := by
  refine Ow.Con.enter (Ls := #[.val (.ref pa0), .val (.ref pa1), .unset]) (plainFor_of_name pn1) O0 (hEW hw) (hSA hw) ?_
  intro p e s m below meth c B
  have z0 := Ow.old_le O0
  have lu0 : (u0 : Nat) < n0 := O0.1 ▸ GS.2.lt
  have lpa0 : (pa0 : Nat) < h0.size := hf0.lt
  have lpa1 : (pa1 : Nat) < h0.size := hf2.lt
  have lpa2 : (pa2 : Nat) < h0.size := hf5.lt
  have lpa3 : (pa3 : Nat) < h0.size := hf6.lt
  refine Ow.aloadN (pc' := 1) B e13_0 ?_
  refine Ow.aloadN (pc' := 2) B e13_1 ?_
  refine Ow.acmpR (pc' := 7) (same := false) B e13_2 (decide_eq_false (fun q => absurd (show (pa0 : Nat) = pa1 from Value.ref.inj q) (by omega))) ?_
  refine Ow.aloadN (pc' := 8) B e13_7 ?_
  refine Ow.instYes (pc' := 11) B e13_8 (w93 hw) (Ins.self hf2) ?_
  refine Ow.ifF (pc' := 14) B e13_11 (by decide) ?_
  refine Ow.aloadN (pc' := 15) B e13_14 ?_
  refine Ow.checkcast (pc' := 18) B e13_15 (w93 hw) (Ins.self hf2) ?_
  refine Ow.astoreN (pc' := 19) (Ls' := #[.val (.ref pa0), .val (.ref pa1), .val (.ref pa1)]) B e13_18 ?_
  refine Ow.getstatic (pc' := 22) B e13_19 (w94 hw) Via.refl G.1 ?_
  refine Ow.ifF (pc' := 25) B e13_22 (feq (G.2.1)).1 ?_
  refine Ow.aloadN (pc' := 26) B e13_25 ?_
  refine Ow.getfield (pc' := 29) B e13_26 (w25 hw) Via.refl hf0 ?_
  refine Ow.aloadN (pc' := 30) B e13_29 ?_
  refine Ow.getfield (pc' := 33) B e13_30 (w25 hw) Via.refl hf3 ?_
  refine Ow.icmpF (pc' := 36) B e13_33 (by decide) ?_
  refine Ow.aloadN (pc' := 37) B e13_36 ?_
  refine Ow.getfield (pc' := 40) B e13_37 (w24 hw) Via.refl hf1 ?_
  refine Ow.aloadN (pc' := 41) B e13_40 ?_
  refine Ow.getfield (pc' := 44) B e13_41 (w24 hw) Via.refl hf4 ?_
  refine Ow.Go.old (fun o1 => ?_)
  refine Ow.callStatic (pc' := 47) (W := 0) (k' := 0) (n' := 0) (argsL := [(.ref pa2), (.ref pa3)]) (rest := []) B e13_44 (w95 hw) (w96 hw) (w97 hw) (w98 hw) (con_equals_40 hw G GS (pa0 := pa2) (pa1 := pa3) (px0 := px0) (px1 := px1) (pk0 := pk0) (pk1 := pk1) o1 hf5 hf6 (by omega) hc_px0 hc_px1) pd11 ?_
  intro vq2 h3 S4 q2 zh3
  obtain ⟨rfl, rfl, rfl⟩ := q2
  refine Ow.Go.norm (S' := [pa2, pa0, pa1]) (st' := [(.int (0 : Int32))]) (fun _ q => List.mem_append_right _ q) rfl ?_
  refine Ow.ifT (pc' := 54) B e13_47 (by decide) ?_
  refine Ow.iconst (pc' := 55) (x := (0 : Int32)) B e13_54 ?_
  exact Ow.retI (S' := []) (t := .boolean) B e13_55 (⟨rfl, rfl, rfl⟩)
set_option maxRecDepth 65536 in
set_option maxHeartbeats 40000000 in
theorem con_contains_42 {l : Launch} {Z : State} {n0 : Nat} {a0 : Array Value} {cz : Int32} {sf : Value} (hw : Hw a0 Z) (G : Ow.Glo Z cz sf) {u0 : Nat} (GS : GlS Z u0) {pa0 : Nat} {pa1 : Nat} {pa2 : Nat} {pa3 : Nat} {pa4 : Nat} {px0 : Int32} {px1 : Int32} {pk0 : ClassId} {pk1 : ClassId} {h0 : Heap} (O0 : Old Z n0 h0) (hf0 : Fld Z h0 pa0 "java/util/ImmutableCollections$Set12" "e0" "Ljava/lang/Object;" (.ref pa2)) (hf1 : Fld Z h0 pa0 "java/util/ImmutableCollections$Set12" "e1" "Ljava/lang/Object;" (.ref u0)) (hf2 : Exa Z h0 pa1 "java/lang/String") (hf3 : Fld Z h0 pa1 "java/lang/String" "coder" "B" (.int (0 : Int32))) (hf4 : Fld Z h0 pa1 "java/lang/String" "value" "[B" (.ref pa3)) (hf5 : Exa Z h0 pa2 "java/lang/String") (hf6 : Fld Z h0 pa2 "java/lang/String" "coder" "B" (.int (0 : Int32))) (hf7 : Fld Z h0 pa2 "java/lang/String" "value" "[B" (.ref pa4)) (hf8 : Arv Z h0 pa3 pk0 .byte (2 : Int32) [(.int px0.toInt8.toInt32), (.int px1.toInt8.toInt32)] (.int 0)) (hf9 : Arv Z h0 pa4 pk1 .byte (0 : Int32) [] (.int 0)) (hn0 : n0 ≤ pa0) (hn1 : n0 ≤ pa1) (hn2 : n0 ≤ pa2) (hn3 : n0 ≤ pa3) (hd0 : pa1 ≠ pa2) (hd1 : u0 ≠ pa1) (hc_px0 : nar .char px0 = px0) (hc_px1 : nar .char px1 = px1) :
    Ow.Con l Z EL1 n0 my16 jdk_101_method_5_code 2 (Option.some Jvm.ClassFile.FieldType.boolean) [] ({ frames := 2, cells := 0, slots := 0, locals := 28 } : Room) #[(.ref pa0), (.ref pa1)] [pa3, pa1, pa2] h0 (fun v h S' => (v = some (.int (0 : Int32)) ∧ h = h0 ∧ S' = [])) := by
  refine Ow.Con.enter (Ls := #[.val (.ref pa0), .val (.ref pa1)]) (plainFor_of_name pn4) O0 (hEW hw) (hSA hw) ?_
  intro p e s m below meth c B
  have z0 := Ow.old_le O0
  have lu0 : (u0 : Nat) < n0 := O0.1 ▸ GS.2.lt
  have lpa0 : (pa0 : Nat) < h0.size := hf0.lt
  have lpa1 : (pa1 : Nat) < h0.size := hf2.lt
  have lpa2 : (pa2 : Nat) < h0.size := hf5.lt
  have lpa3 : (pa3 : Nat) < h0.size := hf8.lt
  have lpa4 : (pa4 : Nat) < h0.size := hf9.lt
  refine Ow.aloadN (pc' := 1) B e16_0 ?_
  refine Ow.aloadN (pc' := 2) B e16_1 ?_
  refine Ow.getfield (pc' := 5) B e16_2 (w66 hw) Via.refl hf0 ?_
  refine Ow.Go.old (fun o1 => ?_)
  refine Ow.callVirtual (pc' := 8) (W := 0) (k' := 0) (n' := 0) (argsL := [(.ref pa2)]) (rest := []) (K := "java/lang/String") B e16_5 (w116 hw) (w117 hw) (w130 hw) (w119 hw) (w90 hw) (w6 hw) (w92 hw) hf2 (con_equals_41 hw G GS (pa0 := pa1) (pa1 := pa2) (pa2 := pa3) (pa3 := pa4) (px0 := px0) (px1 := px1) (pk0 := pk0) (pk1 := pk1) o1 hf3 hf4 hf5 hf6 hf7 hf8 hf9 (by omega) (by omega) (by omega) (by omega) hc_px0 hc_px1) pd12 ?_
  intro vq2 h3 S4 q2 zh3
  obtain ⟨rfl, rfl, rfl⟩ := q2
  refine Ow.Go.norm (S' := [pa3, pa1, pa2]) (st' := [(.int (0 : Int32))]) (fun _ q => List.mem_append_right _ q) rfl ?_
  refine Ow.ifF (pc' := 11) B e16_8 (by decide) ?_
  refine Ow.aloadN (pc' := 12) B e16_11 ?_
  refine Ow.getfield (pc' := 15) B e16_12 (w70 hw) Via.refl hf1 ?_
  refine Ow.aloadN (pc' := 16) B e16_15 ?_
  refine Ow.Go.old (fun o5 => ?_)
  have f6 := Exa.ext o5.2 GS.2
  refine Ow.objEq (pc' := 19) (W := 0) (K := "java/lang/Object") B e16_16 (w116 hw) (w117 hw) (w130 hw) (w130 hw) (w118 hw) (w131 hw) (by decide +kernel) f6 pd12 e20_0 e20_1 e20_2 e20_9 e20_10 (by omega) ?_
  refine Ow.ifT (pc' := 26) B e16_19 (by decide) ?_
  refine Ow.iconst (pc' := 27) (x := (0 : Int32)) B e16_26 ?_
  exact Ow.retI (S' := []) (t := .boolean) B e16_27 (⟨rfl, rfl, rfl⟩)
set_option maxRecDepth 65536 in
set_option maxHeartbeats 40000000 in
theorem con_compress_43 {l : Launch} {Z : State} {n0 : Nat} {a0 : Array Value} {cz : Int32} {sf : Value} (hw : Hw a0 Z) (G : Ow.Glo Z cz sf) {u0 : Nat} (GS : GlS Z u0) {pa0 : Nat} {pa1 : Nat} {px0 : Int32} {px1 : Int32} {px2 : Int32} {pk0 : ClassId} {pk1 : ClassId} {h0 : Heap} (O0 : Old Z n0 h0) (hf0 : Arv Z h0 pa0 pk0 .char (3 : Int32) [(.int px0), (.int px1), (.int px2)] (.int 0)) (hf1 : Arv Z h0 pa1 pk1 .byte (3 : Int32) [(.int (0 : Int32)), (.int (0 : Int32)), (.int (0 : Int32))] (.int 0)) (hn0 : n0 ≤ pa0) (hn1 : n0 ≤ pa1) (hd0 : pa0 ≠ pa1) (hk0 : ¬ ((255 : Int32) < px0)) (hk1 : ¬ ((255 : Int32) < px1)) (hk2 : ¬ ((255 : Int32) < px2)) (hc_px0 : nar .char px0 = px0) (hc_px1 : nar .char px1 = px1) (hc_px2 : nar .char px2 = px2) :
    Ow.Con l Z EL1 n0 my17 jdk_52_method_21_code 7 (Option.some Jvm.ClassFile.FieldType.int) [] ({ frames := 0, cells := 0, slots := 0, locals := 0 } : Room) #[(.ref pa0), (.int (0 : Int32)), (.ref pa1), (.int (0 : Int32)), (.int (3 : Int32))] [pa1] h0 (fun v h S' => (v = some (.int (3 : Int32)) ∧ Keep h0 h [pa1] ∧ Arv Z h pa1 pk1 .byte (3 : Int32) [(.int px0.toInt8.toInt32), (.int px1.toInt8.toInt32), (.int px2.toInt8.toInt32)] (.int 0) ∧ S' = [])) := by
  refine Ow.Con.enter (Ls := #[.val (.ref pa0), .val (.int (0 : Int32)), .val (.ref pa1), .val (.int (0 : Int32)), .val (.int (3 : Int32)), .unset, .unset]) (plainFor_of_name pn10) O0 (hEW hw) (hSA hw) ?_
  intro p e s m below meth c B
  have z0 := Ow.old_le O0
  have lu0 : (u0 : Nat) < n0 := O0.1 ▸ GS.2.lt
  have lpa0 : (pa0 : Nat) < h0.size := hf0.lt
  have lpa1 : (pa1 : Nat) < h0.size := hf1.lt
  refine Ow.iconst (pc' := 1) (x := (0 : Int32)) B e18_0 ?_
  refine Ow.istore (pc' := 3) (Ls' := #[.val (.ref pa0), .val (.int (0 : Int32)), .val (.ref pa1), .val (.int (0 : Int32)), .val (.int (3 : Int32)), .val (.int (0 : Int32)), .unset]) B e18_1 ?_
  refine Ow.iload (pc' := 5) B e18_3 ?_
  refine Ow.iload (pc' := 7) B e18_5 ?_
  refine Ow.icmpF (pc' := 10) B e18_7 (by decide) ?_
  refine Ow.aloadN (pc' := 11) B e18_10 ?_
  refine Ow.iloadN (pc' := 12) B e18_11 ?_
  refine Ow.caload (pc' := 13) B e18_12 hf0 ⟨by decide, by decide⟩ rfl ?_
  refine Ow.istore (pc' := 15) (Ls' := #[.val (.ref pa0), .val (.int (0 : Int32)), .val (.ref pa1), .val (.int (0 : Int32)), .val (.int (3 : Int32)), .val (.int (0 : Int32)), .val (.int px0)]) B e18_13 ?_
  refine Ow.iload (pc' := 17) B e18_15 ?_
  refine Ow.sipush (pc' := 20) (x := (255 : Int32)) B e18_17 ?_
  refine Ow.icmpT (pc' := 26) B e18_20 (flt (hk0)).2.2.2 ?_
  refine Ow.aloadN (pc' := 27) B e18_26 ?_
  refine Ow.iloadN (pc' := 28) B e18_27 ?_
  refine Ow.iload (pc' := 30) B e18_28 ?_
  refine Ow.i2b (pc' := 31) (z := px0.toInt8.toInt32) B e18_30 ?_
  refine Ow.bastore (pc' := 32) (i := 0) B e18_31 hf1 ⟨by decide, by decide⟩ (by simp) ?_
  intro h1 Kh1 V0h1
  have zh1 := Kh1.1
  have V2 : Arv Z h1 pa1 pk1 .byte (3 : Int32) [(.int px0.toInt8.toInt32), (.int (0 : Int32)), (.int (0 : Int32))] (.int 0) := (by have e0 := V0h1; rw [show nar .byte px0.toInt8.toInt32 = px0.toInt8.toInt32 from Ow.nar_b _] at e0; exact e0)
  refine Ow.iinc (pc' := 35) (y := (1 : Int32)) (Ls' := #[.val (.ref pa0), .val (.int (1 : Int32)), .val (.ref pa1), .val (.int (0 : Int32)), .val (.int (3 : Int32)), .val (.int (0 : Int32)), .val (.int px0)]) B e18_32 ?_
  refine Ow.iinc (pc' := 38) (y := (1 : Int32)) (Ls' := #[.val (.ref pa0), .val (.int (1 : Int32)), .val (.ref pa1), .val (.int (1 : Int32)), .val (.int (3 : Int32)), .val (.int (0 : Int32)), .val (.int px0)]) B e18_35 ?_
  refine Ow.iinc (pc' := 41) (y := (1 : Int32)) (Ls' := #[.val (.ref pa0), .val (.int (1 : Int32)), .val (.ref pa1), .val (.int (1 : Int32)), .val (.int (3 : Int32)), .val (.int (1 : Int32)), .val (.int px0)]) B e18_38 ?_
  refine Ow.goto (pc' := 3) B e18_41 ?_
  refine Ow.iload (pc' := 5) B e18_3 ?_
  refine Ow.iload (pc' := 7) B e18_5 ?_
  refine Ow.icmpF (pc' := 10) B e18_7 (by decide) ?_
  refine Ow.aloadN (pc' := 11) B e18_10 ?_
  refine Ow.iloadN (pc' := 12) B e18_11 ?_
  have f3 := hf0.keep Kh1 (Ow.ninS (by omega) Ow.nin0)
  refine Ow.caload (pc' := 13) B e18_12 f3 ⟨by decide, by decide⟩ rfl ?_
  refine Ow.istore (pc' := 15) (Ls' := #[.val (.ref pa0), .val (.int (1 : Int32)), .val (.ref pa1), .val (.int (1 : Int32)), .val (.int (3 : Int32)), .val (.int (1 : Int32)), .val (.int px1)]) B e18_13 ?_
  refine Ow.iload (pc' := 17) B e18_15 ?_
  refine Ow.sipush (pc' := 20) (x := (255 : Int32)) B e18_17 ?_
  refine Ow.icmpT (pc' := 26) B e18_20 (flt (hk1)).2.2.2 ?_
  refine Ow.aloadN (pc' := 27) B e18_26 ?_
  refine Ow.iloadN (pc' := 28) B e18_27 ?_
  refine Ow.iload (pc' := 30) B e18_28 ?_
  refine Ow.i2b (pc' := 31) (z := px1.toInt8.toInt32) B e18_30 ?_
  refine Ow.bastore (pc' := 32) (i := 1) B e18_31 V2 ⟨by decide, by decide⟩ (by simp) ?_
  intro h4 Kh4 V0h4
  have zh4 := Kh4.1
  have V5 : Arv Z h4 pa1 pk1 .byte (3 : Int32) [(.int px0.toInt8.toInt32), (.int px1.toInt8.toInt32), (.int (0 : Int32))] (.int 0) := (by have e0 := V0h4; rw [show nar .byte px1.toInt8.toInt32 = px1.toInt8.toInt32 from Ow.nar_b _] at e0; exact e0)
  refine Ow.iinc (pc' := 35) (y := (2 : Int32)) (Ls' := #[.val (.ref pa0), .val (.int (2 : Int32)), .val (.ref pa1), .val (.int (1 : Int32)), .val (.int (3 : Int32)), .val (.int (1 : Int32)), .val (.int px1)]) B e18_32 ?_
  refine Ow.iinc (pc' := 38) (y := (2 : Int32)) (Ls' := #[.val (.ref pa0), .val (.int (2 : Int32)), .val (.ref pa1), .val (.int (2 : Int32)), .val (.int (3 : Int32)), .val (.int (1 : Int32)), .val (.int px1)]) B e18_35 ?_
  refine Ow.iinc (pc' := 41) (y := (2 : Int32)) (Ls' := #[.val (.ref pa0), .val (.int (2 : Int32)), .val (.ref pa1), .val (.int (2 : Int32)), .val (.int (3 : Int32)), .val (.int (2 : Int32)), .val (.int px1)]) B e18_38 ?_
  refine Ow.goto (pc' := 3) B e18_41 ?_
  refine Ow.iload (pc' := 5) B e18_3 ?_
  refine Ow.iload (pc' := 7) B e18_5 ?_
  refine Ow.icmpF (pc' := 10) B e18_7 (by decide) ?_
  refine Ow.aloadN (pc' := 11) B e18_10 ?_
  refine Ow.iloadN (pc' := 12) B e18_11 ?_
  have f6 := f3.keep Kh4 (Ow.ninS (by omega) Ow.nin0)
  refine Ow.caload (pc' := 13) B e18_12 f6 ⟨by decide, by decide⟩ rfl ?_
  refine Ow.istore (pc' := 15) (Ls' := #[.val (.ref pa0), .val (.int (2 : Int32)), .val (.ref pa1), .val (.int (2 : Int32)), .val (.int (3 : Int32)), .val (.int (2 : Int32)), .val (.int px2)]) B e18_13 ?_
  refine Ow.iload (pc' := 17) B e18_15 ?_
  refine Ow.sipush (pc' := 20) (x := (255 : Int32)) B e18_17 ?_
  refine Ow.icmpT (pc' := 26) B e18_20 (flt (hk2)).2.2.2 ?_
  refine Ow.aloadN (pc' := 27) B e18_26 ?_
  refine Ow.iloadN (pc' := 28) B e18_27 ?_
  refine Ow.iload (pc' := 30) B e18_28 ?_
  refine Ow.i2b (pc' := 31) (z := px2.toInt8.toInt32) B e18_30 ?_
  refine Ow.bastore (pc' := 32) (i := 2) B e18_31 V5 ⟨by decide, by decide⟩ (by simp) ?_
  intro h7 Kh7 V0h7
  have zh7 := Kh7.1
  have V8 : Arv Z h7 pa1 pk1 .byte (3 : Int32) [(.int px0.toInt8.toInt32), (.int px1.toInt8.toInt32), (.int px2.toInt8.toInt32)] (.int 0) := (by have e0 := V0h7; rw [show nar .byte px2.toInt8.toInt32 = px2.toInt8.toInt32 from Ow.nar_b _] at e0; exact e0)
  refine Ow.iinc (pc' := 35) (y := (3 : Int32)) (Ls' := #[.val (.ref pa0), .val (.int (3 : Int32)), .val (.ref pa1), .val (.int (2 : Int32)), .val (.int (3 : Int32)), .val (.int (2 : Int32)), .val (.int px2)]) B e18_32 ?_
  refine Ow.iinc (pc' := 38) (y := (3 : Int32)) (Ls' := #[.val (.ref pa0), .val (.int (3 : Int32)), .val (.ref pa1), .val (.int (3 : Int32)), .val (.int (3 : Int32)), .val (.int (2 : Int32)), .val (.int px2)]) B e18_35 ?_
  refine Ow.iinc (pc' := 41) (y := (3 : Int32)) (Ls' := #[.val (.ref pa0), .val (.int (3 : Int32)), .val (.ref pa1), .val (.int (3 : Int32)), .val (.int (3 : Int32)), .val (.int (3 : Int32)), .val (.int px2)]) B e18_38 ?_
  refine Ow.goto (pc' := 3) B e18_41 ?_
  refine Ow.iload (pc' := 5) B e18_3 ?_
  refine Ow.iload (pc' := 7) B e18_5 ?_
  refine Ow.icmpT (pc' := 44) B e18_7 (by decide) ?_
  refine Ow.iload (pc' := 46) B e18_44 ?_
  exact Ow.retI (S' := []) (t := .int) B e18_46 (⟨rfl, ((((Keep.refl _ [pa1]).trans Kh1 (allS (Or.inl (by simp)) all0)).trans Kh4 (allS (Or.inl (by simp)) all0)).trans Kh7 (allS (Or.inl (by simp)) all0)), V8, rfl⟩)
set_option maxRecDepth 65536 in
set_option maxHeartbeats 40000000 in
theorem con_compress_44 {l : Launch} {Z : State} {n0 : Nat} {a0 : Array Value} {cz : Int32} {sf : Value} (hw : Hw a0 Z) (G : Ow.Glo Z cz sf) {u0 : Nat} (GS : GlS Z u0) {pa0 : Nat} {px0 : Int32} {px1 : Int32} {px2 : Int32} {pk0 : ClassId} {h0 : Heap} (O0 : Old Z n0 h0) (hf0 : Arv Z h0 pa0 pk0 .char (3 : Int32) [(.int px0), (.int px1), (.int px2)] (.int 0)) (hn0 : n0 ≤ pa0) (hk0 : ¬ ((255 : Int32) < px0)) (hk1 : ¬ ((255 : Int32) < px1)) (hk2 : ¬ ((255 : Int32) < px2)) (hc_px0 : nar .char px0 = px0) (hc_px1 : nar .char px1 = px1) (hc_px2 : nar .char px2 = px2) :
    Ow.Con l Z EL1 n0 my18 jdk_52_method_16_code 6 (Option.some (Jvm.ClassFile.FieldType.array Jvm.ClassFile.FieldType.byte)) [] ({ frames := 1, cells := 1, slots := 3, locals := 18 } : Room) #[(.ref pa0), (.int (0 : Int32)), (.int (3 : Int32))] [] h0 (fun v h S' => (∃ r0 : Nat, ∃ k0 : ClassId, v = some (.ref r0) ∧ Keep h0 h [] ∧ h0.size ≤ r0 ∧ Arv Z h r0 k0 .byte (3 : Int32) [(.int px0.toInt8.toInt32), (.int px1.toInt8.toInt32), (.int px2.toInt8.toInt32)] (.int 0) ∧ S' = [r0])) := by
  refine Ow.Con.enter (Ls := #[.val (.ref pa0), .val (.int (0 : Int32)), .val (.int (3 : Int32)), .unset, .unset, .unset]) (plainFor_of_name pn10) O0 (hEW hw) (hSA hw) ?_
  intro p e s m below meth c B
  have z0 := Ow.old_le O0
  have lu0 : (u0 : Nat) < n0 := O0.1 ▸ GS.2.lt
  have lpa0 : (pa0 : Nat) < h0.size := hf0.lt
  refine Ow.iloadN (pc' := 1) B e17_0 ?_
  refine Ow.newArr (pc' := 3) (k' := 1) (n' := 3) (cap := 3) B e17_1 (w19 hw) (by decide) (by decide) ?_
  intro h2 a1 ka1 ga1 ba1 Kh2 V0a1
  have zh2 := Kh2.1
  have la1 : (a1 : Nat) < h2.size := V0a1.lt
  have Va1 : Arv Z h2 a1 ka1 .byte (3 : Int32) [(.int 0), (.int 0), (.int 0)] (.int 0) := V0a1.pad (pad_rep [] (.int 0) 3)
  refine Ow.astoreN (pc' := 4) (Ls' := #[.val (.ref pa0), .val (.int (0 : Int32)), .val (.int (3 : Int32)), .val (.ref a1), .unset, .unset]) B e17_3 ?_
  refine Ow.aloadN (pc' := 5) B e17_4 ?_
  refine Ow.iloadN (pc' := 6) B e17_5 ?_
  refine Ow.aloadN (pc' := 7) B e17_6 ?_
  refine Ow.iconst (pc' := 8) (x := (0 : Int32)) B e17_7 ?_
  refine Ow.iloadN (pc' := 9) B e17_8 ?_
  refine Ow.Go.old (fun o3 => ?_)
  have f4 := hf0.keep Kh2 Ow.nin0
  refine Ow.callStatic (pc' := 12) (W := 0) (k' := 1) (n' := 3) (argsL := [(.ref pa0), (.int (0 : Int32)), (.ref a1), (.int (0 : Int32)), (.int (3 : Int32))]) (rest := []) B e17_9 (w124 hw) (w125 hw) (w122 hw) (w126 hw) (con_compress_43 hw G GS (pa0 := pa0) (pa1 := a1) (px0 := px0) (px1 := px1) (px2 := px2) (pk0 := pk0) (pk1 := ka1) o3 f4 Va1 (by omega) (by omega) (by omega) (hk0) (hk1) (hk2) hc_px0 hc_px1 hc_px2) pd14 ?_
  intro vq5 h6 S7 q5 zh6
  obtain ⟨rfl, Kh6, f8, rfl⟩ := q5
  refine Ow.Go.norm (S' := [a1]) (st' := [(.int (3 : Int32))]) (fun _ q => List.mem_append_right _ q) rfl ?_
  refine Ow.istore (pc' := 14) (Ls' := #[.val (.ref pa0), .val (.int (0 : Int32)), .val (.int (3 : Int32)), .val (.ref a1), .val (.int (3 : Int32)), .unset]) B e17_12 ?_
  refine Ow.iload (pc' := 16) B e17_14 ?_
  refine Ow.iloadN (pc' := 17) B e17_16 ?_
  refine Ow.icmpT (pc' := 57) B e17_17 (by decide) ?_
  refine Ow.aloadN (pc' := 58) B e17_57 ?_
  exact Ow.retA (S' := [a1]) (t := (.array .byte)) B e17_58 (⟨a1, ka1, rfl, (((Keep.refl _ []).trans Kh2 (fun _ q => nomatch q)).trans Kh6 (allS (Or.inr (by omega)) all0)), (by omega), f8, rfl⟩)
set_option maxRecDepth 65536 in
set_option maxHeartbeats 40000000 in
theorem con_coderFromArrayLen_45 {l : Launch} {Z : State} {n0 : Nat} {a0 : Array Value} {cz : Int32} {sf : Value} (hw : Hw a0 Z) (G : Ow.Glo Z cz sf) {u0 : Nat} (GS : GlS Z u0) {pa0 : Nat} {px0 : Int32} {px1 : Int32} {px2 : Int32} {pk0 : ClassId} {h0 : Heap} (O0 : Old Z n0 h0) (hf0 : Arv Z h0 pa0 pk0 .byte (3 : Int32) [(.int px0.toInt8.toInt32), (.int px1.toInt8.toInt32), (.int px2.toInt8.toInt32)] (.int 0)) (hn0 : n0 ≤ pa0) (hc_px0 : nar .char px0 = px0) (hc_px1 : nar .char px1 = px1) (hc_px2 : nar .char px2 = px2) :
    Ow.Con l Z EL1 n0 my19 jdk_52_method_15_code 2 (Option.some Jvm.ClassFile.FieldType.byte) [] ({ frames := 0, cells := 0, slots := 0, locals := 0 } : Room) #[(.ref pa0), (.int (3 : Int32))] [pa0] h0 (fun v h S' => (v = some (.int (0 : Int32)) ∧ h = h0 ∧ S' = [])) := by
  refine Ow.Con.enter (Ls := #[.val (.ref pa0), .val (.int (3 : Int32))]) (plainFor_of_name pn10) O0 (hEW hw) (hSA hw) ?_
  intro p e s m below meth c B
  have z0 := Ow.old_le O0
  have lu0 : (u0 : Nat) < n0 := O0.1 ▸ GS.2.lt
  have lpa0 : (pa0 : Nat) < h0.size := hf0.lt
  refine Ow.iloadN (pc' := 1) B e19_0 ?_
  refine Ow.aloadN (pc' := 2) B e19_1 ?_
  refine Ow.arrlen (pc' := 3) B e19_2 hf0 ?_
  refine Ow.isub (pc' := 4) (z := (0 : Int32)) B e19_3 ?_
  refine Ow.bipush (pc' := 6) (x := (31 : Int32)) B e19_4 ?_
  refine Ow.iushr (pc' := 7) (z := (0 : Int32)) B e19_6 ?_
  refine Ow.i2b (pc' := 8) (z := (0 : Int32)) B e19_7 ?_
  exact Ow.retI (S' := []) (t := .byte) B e19_8 (⟨rfl, rfl, rfl⟩)
set_option maxRecDepth 65536 in
set_option maxHeartbeats 40000000 in
theorem con_init_46 {l : Launch} {Z : State} {n0 : Nat} {a0 : Array Value} {cz : Int32} {sf : Value} (hw : Hw a0 Z) (G : Ow.Glo Z cz sf) {u0 : Nat} (GS : GlS Z u0) {pa0 : Nat} {pa1 : Nat} {px0 : Int32} {px1 : Int32} {px2 : Int32} {pk0 : ClassId} {h0 : Heap} (O0 : Old Z n0 h0) (hf0 : Exa Z h0 pa0 "java/lang/String") (hf1 : Fld Z h0 pa0 "java/lang/String" "coder" "B" (.int (0 : Int32))) (hf2 : Fld Z h0 pa0 "java/lang/String" "value" "[B" .null) (hf3 : Arv Z h0 pa1 pk0 .char (3 : Int32) [(.int px0), (.int px1), (.int px2)] (.int 0)) (hn0 : n0 ≤ pa0) (hn1 : n0 ≤ pa1) (hk0 : ¬ ((255 : Int32) < px0)) (hk1 : ¬ ((255 : Int32) < px1)) (hk2 : ¬ ((255 : Int32) < px2)) (hc_px0 : nar .char px0 = px0) (hc_px1 : nar .char px1 = px1) (hc_px2 : nar .char px2 = px2) :
    Ow.Con l Z EL1 n0 my0 jdk_42_method_149_code 6 (Option.none : Option Jvm.ClassFile.FieldType) [] ({ frames := 2, cells := 1, slots := 3, locals := 35 } : Room) #[(.ref pa0), (.ref pa1), (.int (0 : Int32)), (.int (3 : Int32)), .null] [pa0] h0 (fun v h S' => (∃ r0 : Nat, ∃ k0 : ClassId, v = none ∧ Keep h0 h [pa0] ∧ h0.size ≤ r0 ∧ Exa Z h pa0 "java/lang/String" ∧ Fld Z h pa0 "java/lang/String" "coder" "B" (.int (0 : Int32)) ∧ Fld Z h pa0 "java/lang/String" "value" "[B" (.ref r0) ∧ Arv Z h r0 k0 .byte (3 : Int32) [(.int px0.toInt8.toInt32), (.int px1.toInt8.toInt32), (.int px2.toInt8.toInt32)] (.int 0) ∧ S' = [r0])) := by
  refine Ow.Con.enter (Ls := #[.val (.ref pa0), .val (.ref pa1), .val (.int (0 : Int32)), .val (.int (3 : Int32)), .val .null, .unset]) (plainFor_of_name pn1) O0 (hEW hw) (hSA hw) ?_
  intro p e s m below meth c B
  have z0 := Ow.old_le O0
  have lu0 : (u0 : Nat) < n0 := O0.1 ▸ GS.2.lt
  have lpa0 : (pa0 : Nat) < h0.size := hf0.lt
  have lpa1 : (pa1 : Nat) < h0.size := hf3.lt
  refine Ow.aloadN (pc' := 1) B e2_0 ?_
  refine Ow.objInit (pc' := 4) (W := 0) B e2_1 (w15 hw) (w16 hw) (w17 hw) ?_
  refine Ow.iloadN (pc' := 5) B e2_4 ?_
  refine Ow.ifT (pc' := 27) B e2_5 (by decide) ?_
  refine Ow.getstatic (pc' := 30) B e2_27 (w94 hw) Via.refl G.1 ?_
  refine Ow.ifF (pc' := 33) B e2_30 (feq (G.2.1)).1 ?_
  refine Ow.aloadN (pc' := 34) B e2_33 ?_
  refine Ow.iloadN (pc' := 35) B e2_34 ?_
  refine Ow.iloadN (pc' := 36) B e2_35 ?_
  refine Ow.Go.old (fun o1 => ?_)
  refine Ow.callStatic (pc' := 39) (W := 0) (k' := 1) (n' := 3) (argsL := [(.ref pa1), (.int (0 : Int32)), (.int (3 : Int32))]) (rest := []) B e2_36 (w120 hw) (w121 hw) (w122 hw) (w123 hw) (con_compress_44 hw G GS (pa0 := pa1) (px0 := px0) (px1 := px1) (px2 := px2) (pk0 := pk0) o1 hf3 (by omega) (hk0) (hk1) (hk2) hc_px0 hc_px1 hc_px2) pd15 ?_
  intro vq2 h3 S4 q2 zh3
  obtain ⟨r5, k6, rfl, Kh3, br5, f7, rfl⟩ := q2
  have lr5 : (r5 : Nat) < h3.size := f7.lt
  refine Ow.Go.norm (S' := [r5, pa0]) (st' := [(.ref r5)]) (fun _ q => q) rfl ?_
  refine Ow.astore (pc' := 41) (Ls' := #[.val (.ref pa0), .val (.ref pa1), .val (.int (0 : Int32)), .val (.int (3 : Int32)), .val .null, .val (.ref r5)]) B e2_39 ?_
  refine Ow.aloadN (pc' := 42) B e2_41 ?_
  refine Ow.aload (pc' := 44) B e2_42 ?_
  refine Ow.iloadN (pc' := 45) B e2_44 ?_
  refine Ow.Go.old (fun o8 => ?_)
  refine Ow.callStatic (pc' := 48) (W := 1) (k' := 1) (n' := 3) (argsL := [(.ref r5), (.int (3 : Int32))]) (rest := [(.ref pa0)]) B e2_45 (w127 hw) (w128 hw) (w122 hw) (w129 hw) (con_coderFromArrayLen_45 hw G GS (pa0 := r5) (px0 := px0) (px1 := px1) (px2 := px2) (pk0 := k6) o8 f7 (by omega) hc_px0 hc_px1 hc_px2) pd16 ?_
  intro vq9 h10 S11 q9 zh10
  obtain ⟨rfl, rfl, rfl⟩ := q9
  refine Ow.Go.norm (S' := [r5, pa0]) (st' := [(.int (0 : Int32)), (.ref pa0)]) (fun _ q => List.mem_append_right _ q) rfl ?_
  have f12 := hf1.keep Kh3 Ow.nin0
  have f13 := hf0.keep Kh3
  refine Ow.putfield (pc' := 51) (ty := .byte) B e2_48 (w25 hw) Via.refl f12 f13 (Or.inr ⟨(w21 hw), rfl, rfl⟩) (w5 hw) (Or.inl (by simp)) ?_
  intro h14 Wh14
  have f15 := hf2.keep Kh3 Ow.nin0
  have Kh14 := Keep.of_wr Wh14
  have zh14 := Kh14.1
  have f16 : Fld Z h14 pa0 "java/lang/String" "coder" "B" (.int (0 : Int32)) := f12.same Wh14
  have f17 : Fld Z h14 pa0 "java/lang/String" "value" "[B" .null := f15.other Wh14 (Or.inr (slot_ne (a0 := a0) (C := "java/lang/String") (t := (.array .byte)) (t' := .byte) (Or.inr (w20 hw)) (Or.inr (w21 hw)) (by decide) (by decide) (by decide)))
  refine Ow.aloadN (pc' := 52) B e2_51 ?_
  refine Ow.aload (pc' := 54) B e2_52 ?_
  have f18 := f13.keep Kh14
  refine Ow.putfield (pc' := 57) (ty := (.array .byte)) B e2_54 (w24 hw) Via.refl f17 f18 (Or.inr ⟨(w20 hw), rfl, rfl⟩) (w5 hw) (Or.inl (by simp)) ?_
  intro h19 Wh19
  have Kh19 := Keep.of_wr Wh19
  have zh19 := Kh19.1
  have f20 : Fld Z h19 pa0 "java/lang/String" "value" "[B" (.ref r5) := f17.same Wh19
  have f21 : Fld Z h19 pa0 "java/lang/String" "coder" "B" (.int (0 : Int32)) := f16.other Wh19 (Or.inr (slot_ne (a0 := a0) (C := "java/lang/String") (t := .byte) (t' := (.array .byte)) (Or.inr (w21 hw)) (Or.inr (w20 hw)) (by decide) (by decide) (by decide)))
  have f22 := f18.keep Kh19
  have f23 := f7.keep Kh14 (Ow.ninS (by omega) Ow.nin0)
  have f24 := f23.keep Kh19 (Ow.ninS (by omega) Ow.nin0)
  exact Ow.retV (S' := [r5]) B e2_57 (⟨r5, k6, rfl, ((((Keep.refl _ [pa0]).trans Kh3 (fun _ q => nomatch q)).trans Kh14 (allS (Or.inl (by simp)) all0)).trans Kh19 (allS (Or.inl (by simp)) all0)), (by omega), f22, f21, f20, f24, rfl⟩)
set_option maxRecDepth 65536 in
set_option maxHeartbeats 40000000 in
theorem con_init_47 {l : Launch} {Z : State} {n0 : Nat} {a0 : Array Value} {cz : Int32} {sf : Value} (hw : Hw a0 Z) (G : Ow.Glo Z cz sf) {u0 : Nat} (GS : GlS Z u0) {pa0 : Nat} {pa1 : Nat} {px0 : Int32} {px1 : Int32} {px2 : Int32} {pk0 : ClassId} {h0 : Heap} (O0 : Old Z n0 h0) (hf0 : Exa Z h0 pa0 "java/lang/String") (hf1 : Fld Z h0 pa0 "java/lang/String" "coder" "B" (.int (0 : Int32))) (hf2 : Fld Z h0 pa0 "java/lang/String" "value" "[B" .null) (hf3 : Arv Z h0 pa1 pk0 .char (3 : Int32) [(.int px0), (.int px1), (.int px2)] (.int 0)) (hn0 : n0 ≤ pa0) (hn1 : n0 ≤ pa1) (hk0 : ¬ ((255 : Int32) < px0)) (hk1 : ¬ ((255 : Int32) < px1)) (hk2 : ¬ ((255 : Int32) < px2)) (hc_px0 : nar .char px0 = px0) (hc_px1 : nar .char px1 = px1) (hc_px2 : nar .char px2 = px2) :
    Ow.Con l Z EL1 n0 my1 jdk_42_method_3_code 2 (Option.none : Option Jvm.ClassFile.FieldType) [] ({ frames := 3, cells := 1, slots := 3, locals := 52 } : Room) #[(.ref pa0), (.ref pa1)] [pa0] h0 (fun v h S' => (∃ r0 : Nat, ∃ k0 : ClassId, v = none ∧ Keep h0 h [pa0] ∧ h0.size ≤ r0 ∧ Exa Z h pa0 "java/lang/String" ∧ Fld Z h pa0 "java/lang/String" "coder" "B" (.int (0 : Int32)) ∧ Fld Z h pa0 "java/lang/String" "value" "[B" (.ref r0) ∧ Arv Z h r0 k0 .byte (3 : Int32) [(.int px0.toInt8.toInt32), (.int px1.toInt8.toInt32), (.int px2.toInt8.toInt32)] (.int 0) ∧ S' = [r0])) := by
  refine Ow.Con.enter (Ls := #[.val (.ref pa0), .val (.ref pa1)]) (plainFor_of_name pn1) O0 (hEW hw) (hSA hw) ?_
  intro p e s m below meth c B
  have z0 := Ow.old_le O0
  have lu0 : (u0 : Nat) < n0 := O0.1 ▸ GS.2.lt
  have lpa0 : (pa0 : Nat) < h0.size := hf0.lt
  have lpa1 : (pa1 : Nat) < h0.size := hf3.lt
  refine Ow.aloadN (pc' := 1) B e1_0 ?_
  refine Ow.aloadN (pc' := 2) B e1_1 ?_
  refine Ow.iconst (pc' := 3) (x := (0 : Int32)) B e1_2 ?_
  refine Ow.aloadN (pc' := 4) B e1_3 ?_
  refine Ow.arrlen (pc' := 5) B e1_4 hf3 ?_
  refine Ow.aconstNull (pc' := 6) B e1_5 ?_
  refine Ow.Go.old (fun o1 => ?_)
  refine Ow.callInit (pc' := 9) (W := 0) (k' := 1) (n' := 3) (argsL := [(.ref pa1), (.int (0 : Int32)), (.int (3 : Int32)), .null]) (rest := []) B e1_6 (w11 hw) (w12 hw) (w6 hw) (w14 hw) (con_init_46 hw G GS (pa0 := pa0) (pa1 := pa1) (px0 := px0) (px1 := px1) (px2 := px2) (pk0 := pk0) o1 hf0 hf1 hf2 hf3 (by omega) (by omega) (hk0) (hk1) (hk2) hc_px0 hc_px1 hc_px2) pd0 ?_
  intro vq2 h3 S4 q2 zh3
  obtain ⟨r5, k6, rfl, Kh3, br5, f7, f8, f9, f10, rfl⟩ := q2
  have lr5 : (r5 : Nat) < h3.size := f10.lt
  refine Ow.Go.norm (S' := [r5, pa0]) (st' := []) (fun _ q => q) rfl ?_
  exact Ow.retV (S' := [r5]) B e1_9 (⟨r5, k6, rfl, ((Keep.refl _ [pa0]).trans Kh3 (allS (Or.inl (by simp)) all0)), (by omega), f7, f8, f9, f10, rfl⟩)
set_option maxRecDepth 65536 in
set_option maxHeartbeats 40000000 in
theorem con_mk_48 {l : Launch} {Z : State} {n0 : Nat} {a0 : Array Value} {cz : Int32} {sf : Value} (hw : Hw a0 Z) (G : Ow.Glo Z cz sf) {u0 : Nat} (GS : GlS Z u0) {px0 : Int32} {px1 : Int32} {h0 : Heap} (O0 : Old Z n0 h0) :
    Ow.Con l Z EL1 n0 my2 method_2_code 6 (Option.some (Jvm.ClassFile.FieldType.object "java/lang/String")) [] ({ frames := 4, cells := 3, slots := 10, locals := 66 } : Room) #[(.int (3 : Int32)), (.int px0), (.int px1)] [] h0 (fun v h S' => (∃ r0 : Nat, ∃ r1 : Nat, ∃ k0 : ClassId, ∃ i0 : Int32, ∃ i1 : Int32, ∃ i2 : Int32, v = some (.ref r0) ∧ Keep h0 h [] ∧ ¬ ((255 : Int32) < i0) ∧ ¬ ((255 : Int32) < i1) ∧ ¬ ((255 : Int32) < i2) ∧ ¬ ((65535 : Int32) < i0) ∧ ¬ ((65535 : Int32) < i1) ∧ ¬ ((65535 : Int32) < i2) ∧ ¬ (i0 < (0 : Int32)) ∧ ¬ (i1 < (0 : Int32)) ∧ ¬ (i2 < (0 : Int32)) ∧ nar .char i0 = i0 ∧ nar .char i1 = i1 ∧ nar .char i2 = i2 ∧ h0.size ≤ r0 ∧ h0.size ≤ r1 ∧ r1 ≠ r0 ∧ Exa Z h r0 "java/lang/String" ∧ Fld Z h r0 "java/lang/String" "coder" "B" (.int (0 : Int32)) ∧ Fld Z h r0 "java/lang/String" "value" "[B" (.ref r1) ∧ Arv Z h r1 k0 .byte (3 : Int32) [(.int i0.toInt8.toInt32), (.int i1.toInt8.toInt32), (.int i2.toInt8.toInt32)] (.int 0) ∧ S' = [r1, r0])) := by
  refine Ow.Con.enter (Ls := #[.val (.int (3 : Int32)), .val (.int px0), .val (.int px1), .unset, .unset, .unset]) (plainFor_of_name pn0) O0 (hEW hw) (hSA hw) ?_
  intro p e s m below meth c B
  have z0 := Ow.old_le O0
  have lu0 : (u0 : Nat) < n0 := O0.1 ▸ GS.2.lt
  refine Ow.iloadN (pc' := 1) B e0_0 ?_
  refine Ow.sipush (pc' := 4) (x := (255 : Int32)) B e0_1 ?_
  refine Ow.iand (pc' := 5) (z := (px0 &&& (255 : Int32))) B e0_4 ?_
  obtain ⟨c1, hc1⟩ : ∃ z : Int32, (px0 &&& (255 : Int32)).toUInt32.toUInt16.toUInt32.toInt32 = z := ⟨_, rfl⟩
  refine Ow.i2c (pc' := 6) (z := c1) (hz := hc1) B e0_5 ?_
  refine Ow.istoreN (pc' := 7) (Ls' := #[.val (.int (3 : Int32)), .val (.int px0), .val (.int px1), .val (.int c1), .unset, .unset]) B e0_6 ?_
  refine Ow.iloadN (pc' := 8) B e0_7 ?_
  refine Ow.bipush (pc' := 10) (x := (8 : Int32)) B e0_8 ?_
  refine Ow.ishr (pc' := 11) (z := (px0 >>> ((8 : Int32) &&& 31))) B e0_10 ?_
  refine Ow.sipush (pc' := 14) (x := (255 : Int32)) B e0_11 ?_
  refine Ow.iand (pc' := 15) (z := ((px0 >>> ((8 : Int32) &&& 31)) &&& (255 : Int32))) B e0_14 ?_
  obtain ⟨c2, hc2⟩ : ∃ z : Int32, ((px0 >>> ((8 : Int32) &&& 31)) &&& (255 : Int32)).toUInt32.toUInt16.toUInt32.toInt32 = z := ⟨_, rfl⟩
  refine Ow.i2c (pc' := 16) (z := c2) (hz := hc2) B e0_15 ?_
  refine Ow.istore (pc' := 18) (Ls' := #[.val (.int (3 : Int32)), .val (.int px0), .val (.int px1), .val (.int c1), .val (.int c2), .unset]) B e0_16 ?_
  refine Ow.iloadN (pc' := 19) B e0_18 ?_
  refine Ow.sipush (pc' := 22) (x := (255 : Int32)) B e0_19 ?_
  refine Ow.iand (pc' := 23) (z := (px1 &&& (255 : Int32))) B e0_22 ?_
  obtain ⟨c3, hc3⟩ : ∃ z : Int32, (px1 &&& (255 : Int32)).toUInt32.toUInt16.toUInt32.toInt32 = z := ⟨_, rfl⟩
  refine Ow.i2c (pc' := 24) (z := c3) (hz := hc3) B e0_23 ?_
  refine Ow.istore (pc' := 26) (Ls' := #[.val (.int (3 : Int32)), .val (.int px0), .val (.int px1), .val (.int c1), .val (.int c2), .val (.int c3)]) B e0_24 ?_
  refine Ow.iloadN (pc' := 27) B e0_26 ?_
  refine Ow.ifT (pc' := 41) B e0_27 (by decide) ?_
  refine Ow.iloadN (pc' := 42) B e0_41 ?_
  refine Ow.iconst (pc' := 43) (x := (1 : Int32)) B e0_42 ?_
  refine Ow.icmpT (pc' := 61) B e0_43 (by decide) ?_
  refine Ow.iloadN (pc' := 62) B e0_61 ?_
  refine Ow.iconst (pc' := 63) (x := (2 : Int32)) B e0_62 ?_
  refine Ow.icmpT (pc' := 86) B e0_63 (by decide) ?_
  refine Ow.newObj (pc' := 89) (k' := 1) (n' := 4) B e0_86 (w4 hw) (w5 hw) (w6 hw) ?_
  intro h5 a4 ga4 ba4 Kh5 Aa4 Da4
  have zh5 := Kh5.1
  have la4 : (a4 : Nat) < h5.size := Aa4.lt
  have f6 : Fld Z h5 a4 "java/lang/String" "value" "[B" .null := Da4 (Or.inr (w20 hw)) (ty := (.array .byte)) (by decide)
  have f7 : Fld Z h5 a4 "java/lang/String" "coder" "B" (.int 0) := Da4 (Or.inr (w21 hw)) (ty := .byte) (by decide)
  refine Ow.dup (pc' := 90) B e0_89 ?_
  refine Ow.iconst (pc' := 91) (x := (3 : Int32)) B e0_90 ?_
  refine Ow.newArr (pc' := 93) (k' := 2) (n' := 7) (cap := 3) B e0_91 (w7 hw) (by decide) (by decide) ?_
  intro h9 a8 ka8 ga8 ba8 Kh9 V0a8
  have zh9 := Kh9.1
  have la8 : (a8 : Nat) < h9.size := V0a8.lt
  have Va8 : Arv Z h9 a8 ka8 .char (3 : Int32) [(.int 0), (.int 0), (.int 0)] (.int 0) := V0a8.pad (pad_rep [] (.int 0) 3)
  refine Ow.dup (pc' := 94) B e0_93 ?_
  refine Ow.iconst (pc' := 95) (x := (0 : Int32)) B e0_94 ?_
  refine Ow.iloadN (pc' := 96) B e0_95 ?_
  refine Ow.castore (pc' := 97) (i := 0) B e0_96 Va8 ⟨by decide, by decide⟩ ?_
  intro h10 Kh10 V0h10
  have zh10 := Kh10.1
  have V11 : Arv Z h10 a8 ka8 .char (3 : Int32) [(.int c1), (.int (0 : Int32)), (.int (0 : Int32))] (.int 0) := (by have e0 := V0h10; rw [show nar .char c1 = c1 from (Ow.cnar hc1)] at e0; exact e0)
  refine Ow.dup (pc' := 98) B e0_97 ?_
  refine Ow.iconst (pc' := 99) (x := (1 : Int32)) B e0_98 ?_
  refine Ow.iload (pc' := 101) B e0_99 ?_
  refine Ow.castore (pc' := 102) (i := 1) B e0_101 V11 ⟨by decide, by decide⟩ ?_
  intro h12 Kh12 V0h12
  have zh12 := Kh12.1
  have V13 : Arv Z h12 a8 ka8 .char (3 : Int32) [(.int c1), (.int c2), (.int (0 : Int32))] (.int 0) := (by have e0 := V0h12; rw [show nar .char c2 = c2 from (Ow.cnar hc2)] at e0; exact e0)
  refine Ow.dup (pc' := 103) B e0_102 ?_
  refine Ow.iconst (pc' := 104) (x := (2 : Int32)) B e0_103 ?_
  refine Ow.iload (pc' := 106) B e0_104 ?_
  refine Ow.castore (pc' := 107) (i := 2) B e0_106 V13 ⟨by decide, by decide⟩ ?_
  intro h14 Kh14 V0h14
  have zh14 := Kh14.1
  have V15 : Arv Z h14 a8 ka8 .char (3 : Int32) [(.int c1), (.int c2), (.int c3)] (.int 0) := (by have e0 := V0h14; rw [show nar .char c3 = c3 from (Ow.cnar hc3)] at e0; exact e0)
  refine Ow.Go.old (fun o16 => ?_)
  have f17 := Aa4.keep Kh9
  have f18 := f17.keep Kh10
  have f19 := f18.keep Kh12
  have f20 := f19.keep Kh14
  have f21 := f7.keep Kh9 Ow.nin0
  have f22 := f21.keep Kh10 (Ow.ninS (by omega) Ow.nin0)
  have f23 := f22.keep Kh12 (Ow.ninS (by omega) Ow.nin0)
  have f24 := f23.keep Kh14 (Ow.ninS (by omega) Ow.nin0)
  have f25 := f6.keep Kh9 Ow.nin0
  have f26 := f25.keep Kh10 (Ow.ninS (by omega) Ow.nin0)
  have f27 := f26.keep Kh12 (Ow.ninS (by omega) Ow.nin0)
  have f28 := f27.keep Kh14 (Ow.ninS (by omega) Ow.nin0)
  refine Ow.callInit (pc' := 110) (W := 1) (k' := 3) (n' := 10) (argsL := [(.ref a8)]) (rest := [(.ref a4)]) B e0_107 (w8 hw) (w9 hw) (w6 hw) (w10 hw) (con_init_47 hw G GS (pa0 := a4) (pa1 := a8) (px0 := c1) (px1 := c2) (px2 := c3) (pk0 := ka8) o16 f20 f24 f28 V15 (by omega) (by omega) ((Ow.c255 hc1)) ((Ow.c255 hc2)) ((Ow.c255 hc3)) (Ow.cnar hc1) (Ow.cnar hc2) (Ow.cnar hc3)) pd1 ?_
  intro vq29 h30 S31 q29 zh30
  obtain ⟨r32, k33, rfl, Kh30, br32, f34, f35, f36, f37, rfl⟩ := q29
  have lr32 : (r32 : Nat) < h30.size := f37.lt
  refine Ow.Go.norm (S' := [r32, a8, a4]) (st' := [(.ref a4)]) (fun _ q => q) rfl ?_
  exact Ow.retA (S' := [r32, a4]) (t := (.object "java/lang/String")) B e0_110 (⟨a4, r32, k33, c1, c2, c3, rfl, (((((((Keep.refl _ []).trans Kh5 (fun _ q => nomatch q)).trans Kh9 (fun _ q => nomatch q)).trans Kh10 (allS (Or.inr (by omega)) all0)).trans Kh12 (allS (Or.inr (by omega)) all0)).trans Kh14 (allS (Or.inr (by omega)) all0)).trans Kh30 (allS (Or.inr (by omega)) all0)), (Ow.c255 hc1), (Ow.c255 hc2), (Ow.c255 hc3), (Ow.cle16 hc1), (Ow.cle16 hc2), (Ow.cle16 hc3), (Ow.cge0 hc1), (Ow.cge0 hc2), (Ow.cge0 hc3), (Ow.cnar hc1), (Ow.cnar hc2), (Ow.cnar hc3), (by omega), (by omega), (by omega), f34, f35, f36, f37, rfl⟩)
set_option maxRecDepth 65536 in
set_option maxHeartbeats 40000000 in
theorem con_equals_49 {l : Launch} {Z : State} {n0 : Nat} {a0 : Array Value} {cz : Int32} {sf : Value} (hw : Hw a0 Z) (G : Ow.Glo Z cz sf) {u0 : Nat} (GS : GlS Z u0) {pa0 : Nat} {pa1 : Nat} {px0 : Int32} {px1 : Int32} {px2 : Int32} {pk0 : ClassId} {pk1 : ClassId} {h0 : Heap} (O0 : Old Z n0 h0) (hf0 : Arv Z h0 pa0 pk0 .byte (0 : Int32) [] (.int 0)) (hf1 : Arv Z h0 pa1 pk1 .byte (3 : Int32) [(.int px0.toInt8.toInt32), (.int px1.toInt8.toInt32), (.int px2.toInt8.toInt32)] (.int 0)) (hn1 : n0 ≤ pa1) (hc_px0 : nar .char px0 = px0) (hc_px1 : nar .char px1 = px1) (hc_px2 : nar .char px2 = px2) :
    Ow.Con l Z EL1 n0 my13 jdk_43_method_13_code 3 (Option.some Jvm.ClassFile.FieldType.boolean) [] ({ frames := 0, cells := 0, slots := 0, locals := 0 } : Room) #[(.ref pa0), (.ref pa1)] [pa1] h0 (fun v h S' => (v = some (.int (0 : Int32)) ∧ h = h0 ∧ S' = [])) := by
  refine Ow.Con.enter (Ls := #[.val (.ref pa0), .val (.ref pa1), .unset]) (plainFor_of_name pn9) O0 (hEW hw) (hSA hw) ?_
  intro p e s m below meth c B
  have z0 := Ow.old_le O0
  have lu0 : (u0 : Nat) < n0 := O0.1 ▸ GS.2.lt
  have lpa0 : (pa0 : Nat) < h0.size := hf0.lt
  have lpa1 : (pa1 : Nat) < h0.size := hf1.lt
  refine Ow.aloadN (pc' := 1) B e14_0 ?_
  refine Ow.arrlen (pc' := 2) B e14_1 hf0 ?_
  refine Ow.aloadN (pc' := 3) B e14_2 ?_
  refine Ow.arrlen (pc' := 4) B e14_3 hf1 ?_
  refine Ow.icmpT (pc' := 34) B e14_4 (by decide) ?_
  refine Ow.iconst (pc' := 35) (x := (0 : Int32)) B e14_34 ?_
  exact Ow.retI (S' := []) (t := .boolean) B e14_35 (⟨rfl, rfl, rfl⟩)
set_option maxRecDepth 65536 in
set_option maxHeartbeats 40000000 in
theorem con_equals_50 {l : Launch} {Z : State} {n0 : Nat} {a0 : Array Value} {cz : Int32} {sf : Value} (hw : Hw a0 Z) (G : Ow.Glo Z cz sf) {u0 : Nat} (GS : GlS Z u0) {pa0 : Nat} {pa1 : Nat} {pa2 : Nat} {pa3 : Nat} {px0 : Int32} {px1 : Int32} {px2 : Int32} {pk0 : ClassId} {pk1 : ClassId} {h0 : Heap} (O0 : Old Z n0 h0) (hf0 : Fld Z h0 pa0 "java/lang/String" "coder" "B" (.int (0 : Int32))) (hf1 : Fld Z h0 pa0 "java/lang/String" "value" "[B" (.ref pa2)) (hf2 : Exa Z h0 pa1 "java/lang/String") (hf3 : Fld Z h0 pa1 "java/lang/String" "coder" "B" (.int (0 : Int32))) (hf4 : Fld Z h0 pa1 "java/lang/String" "value" "[B" (.ref pa3)) (hf5 : Arv Z h0 pa2 pk0 .byte (0 : Int32) [] (.int 0)) (hf6 : Arv Z h0 pa3 pk1 .byte (3 : Int32) [(.int px0.toInt8.toInt32), (.int px1.toInt8.toInt32), (.int px2.toInt8.toInt32)] (.int 0)) (hn0 : n0 ≤ pa0) (hn1 : n0 ≤ pa1) (hn3 : n0 ≤ pa3) (hd0 : pa0 ≠ pa1) (hc_px0 : nar .char px0 = px0) (hc_px1 : nar .char px1 = px1) (hc_px2 : nar .char px2 = px2) :
    Ow.Con l Z EL1 n0 my14 jdk_42_method_66_code 3 (Option.some Jvm.ClassFile.FieldType.boolean) [] ({ frames := 1, cells := 0, slots := 0, locals := 14 } : Room) #[(.ref pa0), (.ref pa1)] [pa3, pa1, pa0] h0 (fun v h S' => (v = some (.int (0 : Int32)) ∧ h = h0 ∧ S' = [])) := by
  refine Ow.Con.enter (Ls := #[.val (.ref pa0), .val (.ref pa1), .unset]) (plainFor_of_name pn1) O0 (hEW hw) (hSA hw) ?_
  intro p e s m below meth c B
  have z0 := Ow.old_le O0
  have lu0 : (u0 : Nat) < n0 := O0.1 ▸ GS.2.lt
  have lpa0 : (pa0 : Nat) < h0.size := hf0.lt
  have lpa1 : (pa1 : Nat) < h0.size := hf2.lt
  have lpa2 : (pa2 : Nat) < h0.size := hf5.lt
  have lpa3 : (pa3 : Nat) < h0.size := hf6.lt
  refine Ow.aloadN (pc' := 1) B e13_0 ?_
  refine Ow.aloadN (pc' := 2) B e13_1 ?_
  refine Ow.acmpR (pc' := 7) (same := false) B e13_2 (decide_eq_false (fun q => absurd (show (pa0 : Nat) = pa1 from Value.ref.inj q) (by omega))) ?_
  refine Ow.aloadN (pc' := 8) B e13_7 ?_
  refine Ow.instYes (pc' := 11) B e13_8 (w93 hw) (Ins.self hf2) ?_
  refine Ow.ifF (pc' := 14) B e13_11 (by decide) ?_
  refine Ow.aloadN (pc' := 15) B e13_14 ?_
  refine Ow.checkcast (pc' := 18) B e13_15 (w93 hw) (Ins.self hf2) ?_
  refine Ow.astoreN (pc' := 19) (Ls' := #[.val (.ref pa0), .val (.ref pa1), .val (.ref pa1)]) B e13_18 ?_
  refine Ow.getstatic (pc' := 22) B e13_19 (w94 hw) Via.refl G.1 ?_
  refine Ow.ifF (pc' := 25) B e13_22 (feq (G.2.1)).1 ?_
  refine Ow.aloadN (pc' := 26) B e13_25 ?_
  refine Ow.getfield (pc' := 29) B e13_26 (w25 hw) Via.refl hf0 ?_
  refine Ow.aloadN (pc' := 30) B e13_29 ?_
  refine Ow.getfield (pc' := 33) B e13_30 (w25 hw) Via.refl hf3 ?_
  refine Ow.icmpF (pc' := 36) B e13_33 (by decide) ?_
  refine Ow.aloadN (pc' := 37) B e13_36 ?_
  refine Ow.getfield (pc' := 40) B e13_37 (w24 hw) Via.refl hf1 ?_
  refine Ow.aloadN (pc' := 41) B e13_40 ?_
  refine Ow.getfield (pc' := 44) B e13_41 (w24 hw) Via.refl hf4 ?_
  refine Ow.Go.old (fun o1 => ?_)
  refine Ow.callStatic (pc' := 47) (W := 0) (k' := 0) (n' := 0) (argsL := [(.ref pa2), (.ref pa3)]) (rest := []) B e13_44 (w95 hw) (w96 hw) (w97 hw) (w98 hw) (con_equals_49 hw G GS (pa0 := pa2) (pa1 := pa3) (px0 := px0) (px1 := px1) (px2 := px2) (pk0 := pk0) (pk1 := pk1) o1 hf5 hf6 (by omega) hc_px0 hc_px1 hc_px2) pd11 ?_
  intro vq2 h3 S4 q2 zh3
  obtain ⟨rfl, rfl, rfl⟩ := q2
  refine Ow.Go.norm (S' := [pa3, pa1, pa0]) (st' := [(.int (0 : Int32))]) (fun _ q => List.mem_append_right _ q) rfl ?_
  refine Ow.ifT (pc' := 54) B e13_47 (by decide) ?_
  refine Ow.iconst (pc' := 55) (x := (0 : Int32)) B e13_54 ?_
  exact Ow.retI (S' := []) (t := .boolean) B e13_55 (⟨rfl, rfl, rfl⟩)
set_option maxRecDepth 65536 in
set_option maxHeartbeats 40000000 in
theorem con_equals_51 {l : Launch} {Z : State} {n0 : Nat} {a0 : Array Value} {cz : Int32} {sf : Value} (hw : Hw a0 Z) (G : Ow.Glo Z cz sf) {u0 : Nat} (GS : GlS Z u0) {pa0 : Nat} {pa1 : Nat} {px0 : Int32} {px1 : Int32} {px2 : Int32} {pk0 : ClassId} {pk1 : ClassId} {h0 : Heap} (O0 : Old Z n0 h0) (hf0 : Arv Z h0 pa0 pk0 .byte (3 : Int32) [(.int px0.toInt8.toInt32), (.int px1.toInt8.toInt32), (.int px2.toInt8.toInt32)] (.int 0)) (hf1 : Arv Z h0 pa1 pk1 .byte (0 : Int32) [] (.int 0)) (hn0 : n0 ≤ pa0) (hc_px0 : nar .char px0 = px0) (hc_px1 : nar .char px1 = px1) (hc_px2 : nar .char px2 = px2) :
    Ow.Con l Z EL1 n0 my13 jdk_43_method_13_code 3 (Option.some Jvm.ClassFile.FieldType.boolean) [] ({ frames := 0, cells := 0, slots := 0, locals := 0 } : Room) #[(.ref pa0), (.ref pa1)] [pa0] h0 (fun v h S' => (v = some (.int (0 : Int32)) ∧ h = h0 ∧ S' = [])) := by
  refine Ow.Con.enter (Ls := #[.val (.ref pa0), .val (.ref pa1), .unset]) (plainFor_of_name pn9) O0 (hEW hw) (hSA hw) ?_
  intro p e s m below meth c B
  have z0 := Ow.old_le O0
  have lu0 : (u0 : Nat) < n0 := O0.1 ▸ GS.2.lt
  have lpa0 : (pa0 : Nat) < h0.size := hf0.lt
  have lpa1 : (pa1 : Nat) < h0.size := hf1.lt
  refine Ow.aloadN (pc' := 1) B e14_0 ?_
  refine Ow.arrlen (pc' := 2) B e14_1 hf0 ?_
  refine Ow.aloadN (pc' := 3) B e14_2 ?_
  refine Ow.arrlen (pc' := 4) B e14_3 hf1 ?_
  refine Ow.icmpT (pc' := 34) B e14_4 (by decide) ?_
  refine Ow.iconst (pc' := 35) (x := (0 : Int32)) B e14_34 ?_
  exact Ow.retI (S' := []) (t := .boolean) B e14_35 (⟨rfl, rfl, rfl⟩)
set_option maxRecDepth 65536 in
set_option maxHeartbeats 40000000 in
theorem con_equals_52 {l : Launch} {Z : State} {n0 : Nat} {a0 : Array Value} {cz : Int32} {sf : Value} (hw : Hw a0 Z) (G : Ow.Glo Z cz sf) {u0 : Nat} (GS : GlS Z u0) {pa0 : Nat} {pa1 : Nat} {pa2 : Nat} {pa3 : Nat} {px0 : Int32} {px1 : Int32} {px2 : Int32} {pk0 : ClassId} {pk1 : ClassId} {h0 : Heap} (O0 : Old Z n0 h0) (hf0 : Fld Z h0 pa0 "java/lang/String" "coder" "B" (.int (0 : Int32))) (hf1 : Fld Z h0 pa0 "java/lang/String" "value" "[B" (.ref pa2)) (hf2 : Exa Z h0 pa1 "java/lang/String") (hf3 : Fld Z h0 pa1 "java/lang/String" "coder" "B" (.int (0 : Int32))) (hf4 : Fld Z h0 pa1 "java/lang/String" "value" "[B" (.ref pa3)) (hf5 : Arv Z h0 pa2 pk0 .byte (3 : Int32) [(.int px0.toInt8.toInt32), (.int px1.toInt8.toInt32), (.int px2.toInt8.toInt32)] (.int 0)) (hf6 : Arv Z h0 pa3 pk1 .byte (0 : Int32) [] (.int 0)) (hn0 : n0 ≤ pa0) (hn1 : n0 ≤ pa1) (hn2 : n0 ≤ pa2) (hd0 : pa0 ≠ pa1) (hc_px0 : nar .char px0 = px0) (hc_px1 : nar .char px1 = px1) (hc_px2 : nar .char px2 = px2) :
    Ow.Con l Z EL1 n0 my14 jdk_42_method_66_code 3 (Option.some Jvm.ClassFile.FieldType.boolean) [] ({ frames := 1, cells := 0, slots := 0, locals := 14 } : Room) #[(.ref pa0), (.ref pa1)] [pa2, pa0, pa1] h0 (fun v h S' => (v = some (.int (0 : Int32)) ∧ h = h0 ∧ S' = [])) := by
  refine Ow.Con.enter (Ls := #[.val (.ref pa0), .val (.ref pa1), .unset]) (plainFor_of_name pn1) O0 (hEW hw) (hSA hw) ?_
  intro p e s m below meth c B
  have z0 := Ow.old_le O0
  have lu0 : (u0 : Nat) < n0 := O0.1 ▸ GS.2.lt
  have lpa0 : (pa0 : Nat) < h0.size := hf0.lt
  have lpa1 : (pa1 : Nat) < h0.size := hf2.lt
  have lpa2 : (pa2 : Nat) < h0.size := hf5.lt
  have lpa3 : (pa3 : Nat) < h0.size := hf6.lt
  refine Ow.aloadN (pc' := 1) B e13_0 ?_
  refine Ow.aloadN (pc' := 2) B e13_1 ?_
  refine Ow.acmpR (pc' := 7) (same := false) B e13_2 (decide_eq_false (fun q => absurd (show (pa0 : Nat) = pa1 from Value.ref.inj q) (by omega))) ?_
  refine Ow.aloadN (pc' := 8) B e13_7 ?_
  refine Ow.instYes (pc' := 11) B e13_8 (w93 hw) (Ins.self hf2) ?_
  refine Ow.ifF (pc' := 14) B e13_11 (by decide) ?_
  refine Ow.aloadN (pc' := 15) B e13_14 ?_
  refine Ow.checkcast (pc' := 18) B e13_15 (w93 hw) (Ins.self hf2) ?_
  refine Ow.astoreN (pc' := 19) (Ls' := #[.val (.ref pa0), .val (.ref pa1), .val (.ref pa1)]) B e13_18 ?_
  refine Ow.getstatic (pc' := 22) B e13_19 (w94 hw) Via.refl G.1 ?_
  refine Ow.ifF (pc' := 25) B e13_22 (feq (G.2.1)).1 ?_
  refine Ow.aloadN (pc' := 26) B e13_25 ?_
  refine Ow.getfield (pc' := 29) B e13_26 (w25 hw) Via.refl hf0 ?_
  refine Ow.aloadN (pc' := 30) B e13_29 ?_
  refine Ow.getfield (pc' := 33) B e13_30 (w25 hw) Via.refl hf3 ?_
  refine Ow.icmpF (pc' := 36) B e13_33 (by decide) ?_
  refine Ow.aloadN (pc' := 37) B e13_36 ?_
  refine Ow.getfield (pc' := 40) B e13_37 (w24 hw) Via.refl hf1 ?_
  refine Ow.aloadN (pc' := 41) B e13_40 ?_
  refine Ow.getfield (pc' := 44) B e13_41 (w24 hw) Via.refl hf4 ?_
  refine Ow.Go.old (fun o1 => ?_)
  refine Ow.callStatic (pc' := 47) (W := 0) (k' := 0) (n' := 0) (argsL := [(.ref pa2), (.ref pa3)]) (rest := []) B e13_44 (w95 hw) (w96 hw) (w97 hw) (w98 hw) (con_equals_51 hw G GS (pa0 := pa2) (pa1 := pa3) (px0 := px0) (px1 := px1) (px2 := px2) (pk0 := pk0) (pk1 := pk1) o1 hf5 hf6 (by omega) hc_px0 hc_px1 hc_px2) pd11 ?_
  intro vq2 h3 S4 q2 zh3
  obtain ⟨rfl, rfl, rfl⟩ := q2
  refine Ow.Go.norm (S' := [pa2, pa0, pa1]) (st' := [(.int (0 : Int32))]) (fun _ q => List.mem_append_right _ q) rfl ?_
  refine Ow.ifT (pc' := 54) B e13_47 (by decide) ?_
  refine Ow.iconst (pc' := 55) (x := (0 : Int32)) B e13_54 ?_
  exact Ow.retI (S' := []) (t := .boolean) B e13_55 (⟨rfl, rfl, rfl⟩)
set_option maxRecDepth 65536 in
set_option maxHeartbeats 40000000 in
theorem con_contains_53 {l : Launch} {Z : State} {n0 : Nat} {a0 : Array Value} {cz : Int32} {sf : Value} (hw : Hw a0 Z) (G : Ow.Glo Z cz sf) {u0 : Nat} (GS : GlS Z u0) {pa0 : Nat} {pa1 : Nat} {pa2 : Nat} {pa3 : Nat} {pa4 : Nat} {px0 : Int32} {px1 : Int32} {px2 : Int32} {pk0 : ClassId} {pk1 : ClassId} {h0 : Heap} (O0 : Old Z n0 h0) (hf0 : Fld Z h0 pa0 "java/util/ImmutableCollections$Set12" "e0" "Ljava/lang/Object;" (.ref pa2)) (hf1 : Fld Z h0 pa0 "java/util/ImmutableCollections$Set12" "e1" "Ljava/lang/Object;" (.ref u0)) (hf2 : Exa Z h0 pa1 "java/lang/String") (hf3 : Fld Z h0 pa1 "java/lang/String" "coder" "B" (.int (0 : Int32))) (hf4 : Fld Z h0 pa1 "java/lang/String" "value" "[B" (.ref pa3)) (hf5 : Exa Z h0 pa2 "java/lang/String") (hf6 : Fld Z h0 pa2 "java/lang/String" "coder" "B" (.int (0 : Int32))) (hf7 : Fld Z h0 pa2 "java/lang/String" "value" "[B" (.ref pa4)) (hf8 : Arv Z h0 pa3 pk0 .byte (3 : Int32) [(.int px0.toInt8.toInt32), (.int px1.toInt8.toInt32), (.int px2.toInt8.toInt32)] (.int 0)) (hf9 : Arv Z h0 pa4 pk1 .byte (0 : Int32) [] (.int 0)) (hn0 : n0 ≤ pa0) (hn1 : n0 ≤ pa1) (hn2 : n0 ≤ pa2) (hn3 : n0 ≤ pa3) (hd0 : pa1 ≠ pa2) (hd1 : u0 ≠ pa1) (hc_px0 : nar .char px0 = px0) (hc_px1 : nar .char px1 = px1) (hc_px2 : nar .char px2 = px2) :
    Ow.Con l Z EL1 n0 my16 jdk_101_method_5_code 2 (Option.some Jvm.ClassFile.FieldType.boolean) [] ({ frames := 2, cells := 0, slots := 0, locals := 28 } : Room) #[(.ref pa0), (.ref pa1)] [pa3, pa1, pa2] h0 (fun v h S' => (v = some (.int (0 : Int32)) ∧ h = h0 ∧ S' = [])) := by
  refine Ow.Con.enter (Ls := #[.val (.ref pa0), .val (.ref pa1)]) (plainFor_of_name pn4) O0 (hEW hw) (hSA hw) ?_
  intro p e s m below meth c B
  have z0 := Ow.old_le O0
  have lu0 : (u0 : Nat) < n0 := O0.1 ▸ GS.2.lt
  have lpa0 : (pa0 : Nat) < h0.size := hf0.lt
  have lpa1 : (pa1 : Nat) < h0.size := hf2.lt
  have lpa2 : (pa2 : Nat) < h0.size := hf5.lt
  have lpa3 : (pa3 : Nat) < h0.size := hf8.lt
  have lpa4 : (pa4 : Nat) < h0.size := hf9.lt
  refine Ow.aloadN (pc' := 1) B e16_0 ?_
  refine Ow.aloadN (pc' := 2) B e16_1 ?_
  refine Ow.getfield (pc' := 5) B e16_2 (w66 hw) Via.refl hf0 ?_
  refine Ow.Go.old (fun o1 => ?_)
  refine Ow.callVirtual (pc' := 8) (W := 0) (k' := 0) (n' := 0) (argsL := [(.ref pa2)]) (rest := []) (K := "java/lang/String") B e16_5 (w116 hw) (w117 hw) (w130 hw) (w119 hw) (w90 hw) (w6 hw) (w92 hw) hf2 (con_equals_52 hw G GS (pa0 := pa1) (pa1 := pa2) (pa2 := pa3) (pa3 := pa4) (px0 := px0) (px1 := px1) (px2 := px2) (pk0 := pk0) (pk1 := pk1) o1 hf3 hf4 hf5 hf6 hf7 hf8 hf9 (by omega) (by omega) (by omega) (by omega) hc_px0 hc_px1 hc_px2) pd12 ?_
  intro vq2 h3 S4 q2 zh3
  obtain ⟨rfl, rfl, rfl⟩ := q2
  refine Ow.Go.norm (S' := [pa3, pa1, pa2]) (st' := [(.int (0 : Int32))]) (fun _ q => List.mem_append_right _ q) rfl ?_
  refine Ow.ifF (pc' := 11) B e16_8 (by decide) ?_
  refine Ow.aloadN (pc' := 12) B e16_11 ?_
  refine Ow.getfield (pc' := 15) B e16_12 (w70 hw) Via.refl hf1 ?_
  refine Ow.aloadN (pc' := 16) B e16_15 ?_
  refine Ow.Go.old (fun o5 => ?_)
  have f6 := Exa.ext o5.2 GS.2
  refine Ow.objEq (pc' := 19) (W := 0) (K := "java/lang/Object") B e16_16 (w116 hw) (w117 hw) (w130 hw) (w130 hw) (w118 hw) (w131 hw) (by decide +kernel) f6 pd12 e20_0 e20_1 e20_2 e20_9 e20_10 (by omega) ?_
  refine Ow.ifT (pc' := 26) B e16_19 (by decide) ?_
  refine Ow.iconst (pc' := 27) (x := (0 : Int32)) B e16_26 ?_
  exact Ow.retI (S' := []) (t := .boolean) B e16_27 (⟨rfl, rfl, rfl⟩)
set_option maxRecDepth 65536 in
set_option maxHeartbeats 40000000 in
theorem con_equals_54 {l : Launch} {Z : State} {n0 : Nat} {a0 : Array Value} {cz : Int32} {sf : Value} (hw : Hw a0 Z) (G : Ow.Glo Z cz sf) {u0 : Nat} (GS : GlS Z u0) {pa0 : Nat} {pa1 : Nat} {pa2 : Nat} {pa3 : Nat} {px0 : Int32} {pk0 : ClassId} {pk1 : ClassId} {h0 : Heap} (O0 : Old Z n0 h0) (hf0 : Fld Z h0 pa0 "java/lang/String" "coder" "B" (.int (0 : Int32))) (hf1 : Fld Z h0 pa0 "java/lang/String" "value" "[B" (.ref pa2)) (hf2 : Exa Z h0 pa1 "java/lang/String") (hf3 : Fld Z h0 pa1 "java/lang/String" "coder" "B" (.int (0 : Int32))) (hf4 : Fld Z h0 pa1 "java/lang/String" "value" "[B" (.ref pa3)) (hf5 : Arv Z h0 pa2 pk0 .byte (1 : Int32) [(.int px0.toInt8.toInt32)] (.int 0)) (hf6 : Arv Z h0 pa3 pk1 .byte (0 : Int32) [] (.int 0)) (hn0 : n0 ≤ pa0) (hn1 : n0 ≤ pa1) (hn2 : n0 ≤ pa2) (hd0 : pa0 ≠ pa1) (hc_px0 : nar .char px0 = px0) :
    Ow.Con l Z EL1 n0 my14 jdk_42_method_66_code 3 (Option.some Jvm.ClassFile.FieldType.boolean) [] ({ frames := 1, cells := 0, slots := 0, locals := 14 } : Room) #[(.ref pa0), (.ref pa1)] [pa1, pa2, pa0] h0 (fun v h S' => (v = some (.int (0 : Int32)) ∧ h = h0 ∧ S' = [])) := by
  refine Ow.Con.enter (Ls := #[.val (.ref pa0), .val (.ref pa1), .unset]) (plainFor_of_name pn1) O0 (hEW hw) (hSA hw) ?_
  intro p e s m below meth c B
  have z0 := Ow.old_le O0
  have lu0 : (u0 : Nat) < n0 := O0.1 ▸ GS.2.lt
  have lpa0 : (pa0 : Nat) < h0.size := hf0.lt
  have lpa1 : (pa1 : Nat) < h0.size := hf2.lt
  have lpa2 : (pa2 : Nat) < h0.size := hf5.lt
  have lpa3 : (pa3 : Nat) < h0.size := hf6.lt
  refine Ow.aloadN (pc' := 1) B e13_0 ?_
  refine Ow.aloadN (pc' := 2) B e13_1 ?_
  refine Ow.acmpR (pc' := 7) (same := false) B e13_2 (decide_eq_false (fun q => absurd (show (pa0 : Nat) = pa1 from Value.ref.inj q) (by omega))) ?_
  refine Ow.aloadN (pc' := 8) B e13_7 ?_
  refine Ow.instYes (pc' := 11) B e13_8 (w93 hw) (Ins.self hf2) ?_
  refine Ow.ifF (pc' := 14) B e13_11 (by decide) ?_
  refine Ow.aloadN (pc' := 15) B e13_14 ?_
  refine Ow.checkcast (pc' := 18) B e13_15 (w93 hw) (Ins.self hf2) ?_
  refine Ow.astoreN (pc' := 19) (Ls' := #[.val (.ref pa0), .val (.ref pa1), .val (.ref pa1)]) B e13_18 ?_
  refine Ow.getstatic (pc' := 22) B e13_19 (w94 hw) Via.refl G.1 ?_
  refine Ow.ifF (pc' := 25) B e13_22 (feq (G.2.1)).1 ?_
  refine Ow.aloadN (pc' := 26) B e13_25 ?_
  refine Ow.getfield (pc' := 29) B e13_26 (w25 hw) Via.refl hf0 ?_
  refine Ow.aloadN (pc' := 30) B e13_29 ?_
  refine Ow.getfield (pc' := 33) B e13_30 (w25 hw) Via.refl hf3 ?_
  refine Ow.icmpF (pc' := 36) B e13_33 (by decide) ?_
  refine Ow.aloadN (pc' := 37) B e13_36 ?_
  refine Ow.getfield (pc' := 40) B e13_37 (w24 hw) Via.refl hf1 ?_
  refine Ow.aloadN (pc' := 41) B e13_40 ?_
  refine Ow.getfield (pc' := 44) B e13_41 (w24 hw) Via.refl hf4 ?_
  refine Ow.Go.old (fun o1 => ?_)
  refine Ow.callStatic (pc' := 47) (W := 0) (k' := 0) (n' := 0) (argsL := [(.ref pa2), (.ref pa3)]) (rest := []) B e13_44 (w95 hw) (w96 hw) (w97 hw) (w98 hw) (con_equals_29 hw G GS (pa0 := pa2) (pa1 := pa3) (px0 := px0) (pk0 := pk0) (pk1 := pk1) o1 hf5 hf6 (by omega) hc_px0) pd11 ?_
  intro vq2 h3 S4 q2 zh3
  obtain ⟨rfl, rfl, rfl⟩ := q2
  refine Ow.Go.norm (S' := [pa1, pa2, pa0]) (st' := [(.int (0 : Int32))]) (fun _ q => List.mem_append_right _ q) rfl ?_
  refine Ow.ifT (pc' := 54) B e13_47 (by decide) ?_
  refine Ow.iconst (pc' := 55) (x := (0 : Int32)) B e13_54 ?_
  exact Ow.retI (S' := []) (t := .boolean) B e13_55 (⟨rfl, rfl, rfl⟩)
set_option maxRecDepth 65536 in
set_option maxHeartbeats 40000000 in
theorem con_equals_55 {l : Launch} {Z : State} {n0 : Nat} {a0 : Array Value} {cz : Int32} {sf : Value} (hw : Hw a0 Z) (G : Ow.Glo Z cz sf) {u0 : Nat} (GS : GlS Z u0) {pa0 : Nat} {pa1 : Nat} {pa2 : Nat} {pa3 : Nat} {px0 : Int32} {pk0 : ClassId} {pk1 : ClassId} {h0 : Heap} (O0 : Old Z n0 h0) (hf0 : Fld Z h0 pa0 "java/lang/String" "coder" "B" (.int (0 : Int32))) (hf1 : Fld Z h0 pa0 "java/lang/String" "value" "[B" (.ref pa2)) (hf2 : Exa Z h0 pa1 "java/lang/String") (hf3 : Fld Z h0 pa1 "java/lang/String" "coder" "B" (.int (0 : Int32))) (hf4 : Fld Z h0 pa1 "java/lang/String" "value" "[B" (.ref pa3)) (hf5 : Arv Z h0 pa2 pk0 .byte (0 : Int32) [] (.int 0)) (hf6 : Arv Z h0 pa3 pk1 .byte (1 : Int32) [(.int px0.toInt8.toInt32)] (.int 0)) (hn0 : n0 ≤ pa0) (hn1 : n0 ≤ pa1) (hn3 : n0 ≤ pa3) (hd0 : pa0 ≠ pa1) (hc_px0 : nar .char px0 = px0) :
    Ow.Con l Z EL1 n0 my14 jdk_42_method_66_code 3 (Option.some Jvm.ClassFile.FieldType.boolean) [] ({ frames := 1, cells := 0, slots := 0, locals := 14 } : Room) #[(.ref pa0), (.ref pa1)] [pa0, pa3, pa1] h0 (fun v h S' => (v = some (.int (0 : Int32)) ∧ h = h0 ∧ S' = [])) := by
  refine Ow.Con.enter (Ls := #[.val (.ref pa0), .val (.ref pa1), .unset]) (plainFor_of_name pn1) O0 (hEW hw) (hSA hw) ?_
  intro p e s m below meth c B
  have z0 := Ow.old_le O0
  have lu0 : (u0 : Nat) < n0 := O0.1 ▸ GS.2.lt
  have lpa0 : (pa0 : Nat) < h0.size := hf0.lt
  have lpa1 : (pa1 : Nat) < h0.size := hf2.lt
  have lpa2 : (pa2 : Nat) < h0.size := hf5.lt
  have lpa3 : (pa3 : Nat) < h0.size := hf6.lt
  refine Ow.aloadN (pc' := 1) B e13_0 ?_
  refine Ow.aloadN (pc' := 2) B e13_1 ?_
  refine Ow.acmpR (pc' := 7) (same := false) B e13_2 (decide_eq_false (fun q => absurd (show (pa0 : Nat) = pa1 from Value.ref.inj q) (by omega))) ?_
  refine Ow.aloadN (pc' := 8) B e13_7 ?_
  refine Ow.instYes (pc' := 11) B e13_8 (w93 hw) (Ins.self hf2) ?_
  refine Ow.ifF (pc' := 14) B e13_11 (by decide) ?_
  refine Ow.aloadN (pc' := 15) B e13_14 ?_
  refine Ow.checkcast (pc' := 18) B e13_15 (w93 hw) (Ins.self hf2) ?_
  refine Ow.astoreN (pc' := 19) (Ls' := #[.val (.ref pa0), .val (.ref pa1), .val (.ref pa1)]) B e13_18 ?_
  refine Ow.getstatic (pc' := 22) B e13_19 (w94 hw) Via.refl G.1 ?_
  refine Ow.ifF (pc' := 25) B e13_22 (feq (G.2.1)).1 ?_
  refine Ow.aloadN (pc' := 26) B e13_25 ?_
  refine Ow.getfield (pc' := 29) B e13_26 (w25 hw) Via.refl hf0 ?_
  refine Ow.aloadN (pc' := 30) B e13_29 ?_
  refine Ow.getfield (pc' := 33) B e13_30 (w25 hw) Via.refl hf3 ?_
  refine Ow.icmpF (pc' := 36) B e13_33 (by decide) ?_
  refine Ow.aloadN (pc' := 37) B e13_36 ?_
  refine Ow.getfield (pc' := 40) B e13_37 (w24 hw) Via.refl hf1 ?_
  refine Ow.aloadN (pc' := 41) B e13_40 ?_
  refine Ow.getfield (pc' := 44) B e13_41 (w24 hw) Via.refl hf4 ?_
  refine Ow.Go.old (fun o1 => ?_)
  refine Ow.callStatic (pc' := 47) (W := 0) (k' := 0) (n' := 0) (argsL := [(.ref pa2), (.ref pa3)]) (rest := []) B e13_44 (w95 hw) (w96 hw) (w97 hw) (w98 hw) (con_equals_27 hw G GS (pa0 := pa2) (pa1 := pa3) (px0 := px0) (pk0 := pk0) (pk1 := pk1) o1 hf5 hf6 (by omega) hc_px0) pd11 ?_
  intro vq2 h3 S4 q2 zh3
  obtain ⟨rfl, rfl, rfl⟩ := q2
  refine Ow.Go.norm (S' := [pa0, pa3, pa1]) (st' := [(.int (0 : Int32))]) (fun _ q => List.mem_append_right _ q) rfl ?_
  refine Ow.ifT (pc' := 54) B e13_47 (by decide) ?_
  refine Ow.iconst (pc' := 55) (x := (0 : Int32)) B e13_54 ?_
  exact Ow.retI (S' := []) (t := .boolean) B e13_55 (⟨rfl, rfl, rfl⟩)
set_option maxRecDepth 65536 in
set_option maxHeartbeats 40000000 in
theorem con_contains_56 {l : Launch} {Z : State} {n0 : Nat} {a0 : Array Value} {cz : Int32} {sf : Value} (hw : Hw a0 Z) (G : Ow.Glo Z cz sf) {u0 : Nat} (GS : GlS Z u0) {pa0 : Nat} {pa1 : Nat} {pa2 : Nat} {pa3 : Nat} {pa4 : Nat} {px0 : Int32} {pk0 : ClassId} {pk1 : ClassId} {h0 : Heap} (O0 : Old Z n0 h0) (hf0 : Fld Z h0 pa0 "java/util/ImmutableCollections$Set12" "e0" "Ljava/lang/Object;" (.ref pa2)) (hf1 : Fld Z h0 pa0 "java/util/ImmutableCollections$Set12" "e1" "Ljava/lang/Object;" (.ref u0)) (hf2 : Exa Z h0 pa1 "java/lang/String") (hf3 : Fld Z h0 pa1 "java/lang/String" "coder" "B" (.int (0 : Int32))) (hf4 : Fld Z h0 pa1 "java/lang/String" "value" "[B" (.ref pa3)) (hf5 : Exa Z h0 pa2 "java/lang/String") (hf6 : Fld Z h0 pa2 "java/lang/String" "coder" "B" (.int (0 : Int32))) (hf7 : Fld Z h0 pa2 "java/lang/String" "value" "[B" (.ref pa4)) (hf8 : Arv Z h0 pa3 pk0 .byte (0 : Int32) [] (.int 0)) (hf9 : Arv Z h0 pa4 pk1 .byte (1 : Int32) [(.int px0.toInt8.toInt32)] (.int 0)) (hn0 : n0 ≤ pa0) (hn1 : n0 ≤ pa1) (hn2 : n0 ≤ pa2) (hn4 : n0 ≤ pa4) (hd0 : pa1 ≠ pa2) (hd1 : u0 ≠ pa1) (hc_px0 : nar .char px0 = px0) :
    Ow.Con l Z EL1 n0 my16 jdk_101_method_5_code 2 (Option.some Jvm.ClassFile.FieldType.boolean) [] ({ frames := 2, cells := 0, slots := 0, locals := 28 } : Room) #[(.ref pa0), (.ref pa1)] [pa1, pa4, pa2] h0 (fun v h S' => (v = some (.int (0 : Int32)) ∧ h = h0 ∧ S' = [])) := by
  refine Ow.Con.enter (Ls := #[.val (.ref pa0), .val (.ref pa1)]) (plainFor_of_name pn4) O0 (hEW hw) (hSA hw) ?_
  intro p e s m below meth c B
  have z0 := Ow.old_le O0
  have lu0 : (u0 : Nat) < n0 := O0.1 ▸ GS.2.lt
  have lpa0 : (pa0 : Nat) < h0.size := hf0.lt
  have lpa1 : (pa1 : Nat) < h0.size := hf2.lt
  have lpa2 : (pa2 : Nat) < h0.size := hf5.lt
  have lpa3 : (pa3 : Nat) < h0.size := hf8.lt
  have lpa4 : (pa4 : Nat) < h0.size := hf9.lt
  refine Ow.aloadN (pc' := 1) B e16_0 ?_
  refine Ow.aloadN (pc' := 2) B e16_1 ?_
  refine Ow.getfield (pc' := 5) B e16_2 (w66 hw) Via.refl hf0 ?_
  refine Ow.Go.old (fun o1 => ?_)
  refine Ow.callVirtual (pc' := 8) (W := 0) (k' := 0) (n' := 0) (argsL := [(.ref pa2)]) (rest := []) (K := "java/lang/String") B e16_5 (w116 hw) (w117 hw) (w130 hw) (w119 hw) (w90 hw) (w6 hw) (w92 hw) hf2 (con_equals_55 hw G GS (pa0 := pa1) (pa1 := pa2) (pa2 := pa3) (pa3 := pa4) (px0 := px0) (pk0 := pk0) (pk1 := pk1) o1 hf3 hf4 hf5 hf6 hf7 hf8 hf9 (by omega) (by omega) (by omega) (by omega) hc_px0) pd12 ?_
  intro vq2 h3 S4 q2 zh3
  obtain ⟨rfl, rfl, rfl⟩ := q2
  refine Ow.Go.norm (S' := [pa1, pa4, pa2]) (st' := [(.int (0 : Int32))]) (fun _ q => List.mem_append_right _ q) rfl ?_
  refine Ow.ifF (pc' := 11) B e16_8 (by decide) ?_
  refine Ow.aloadN (pc' := 12) B e16_11 ?_
  refine Ow.getfield (pc' := 15) B e16_12 (w70 hw) Via.refl hf1 ?_
  refine Ow.aloadN (pc' := 16) B e16_15 ?_
  refine Ow.Go.old (fun o5 => ?_)
  have f6 := Exa.ext o5.2 GS.2
  refine Ow.objEq (pc' := 19) (W := 0) (K := "java/lang/Object") B e16_16 (w116 hw) (w117 hw) (w130 hw) (w130 hw) (w118 hw) (w131 hw) (by decide +kernel) f6 pd12 e20_0 e20_1 e20_2 e20_9 e20_10 (by omega) ?_
  refine Ow.ifT (pc' := 26) B e16_19 (by decide) ?_
  refine Ow.iconst (pc' := 27) (x := (0 : Int32)) B e16_26 ?_
  exact Ow.retI (S' := []) (t := .boolean) B e16_27 (⟨rfl, rfl, rfl⟩)
set_option maxRecDepth 65536 in
set_option maxHeartbeats 40000000 in
theorem con_equals_57 {l : Launch} {Z : State} {n0 : Nat} {a0 : Array Value} {cz : Int32} {sf : Value} (hw : Hw a0 Z) (G : Ow.Glo Z cz sf) {u0 : Nat} (GS : GlS Z u0) {pa0 : Nat} {pa1 : Nat} {px0 : Int32} {px1 : Int32} {pk0 : ClassId} {pk1 : ClassId} {h0 : Heap} (O0 : Old Z n0 h0) (hf0 : Arv Z h0 pa0 pk0 .byte (1 : Int32) [(.int px0.toInt8.toInt32)] (.int 0)) (hf1 : Arv Z h0 pa1 pk1 .byte (1 : Int32) [(.int px1.toInt8.toInt32)] (.int 0)) (hn0 : n0 ≤ pa0) (hn1 : n0 ≤ pa1) (hc_px0 : nar .char px0 = px0) (hc_px1 : nar .char px1 = px1) :
    Ow.Con l Z EL1 n0 my13 jdk_43_method_13_code 3 (Option.some Jvm.ClassFile.FieldType.boolean) [] ({ frames := 0, cells := 0, slots := 0, locals := 0 } : Room) #[(.ref pa0), (.ref pa1)] [pa1, pa0] h0 (fun v h S' => (v = some (.int (1 : Int32)) ∧ h = h0 ∧ px0.toInt8.toInt32 = px1.toInt8.toInt32 ∧ S' = []) ∨ (v = some (.int (0 : Int32)) ∧ h = h0 ∧ ¬ (px0.toInt8.toInt32 = px1.toInt8.toInt32) ∧ S' = [])) := by
  refine Ow.Con.enter (Ls := #[.val (.ref pa0), .val (.ref pa1), .unset]) (plainFor_of_name pn9) O0 (hEW hw) (hSA hw) ?_
  intro p e s m below meth c B
  have z0 := Ow.old_le O0
  have lu0 : (u0 : Nat) < n0 := O0.1 ▸ GS.2.lt
  have lpa0 : (pa0 : Nat) < h0.size := hf0.lt
  have lpa1 : (pa1 : Nat) < h0.size := hf1.lt
  refine Ow.aloadN (pc' := 1) B e14_0 ?_
  refine Ow.arrlen (pc' := 2) B e14_1 hf0 ?_
  refine Ow.aloadN (pc' := 3) B e14_2 ?_
  refine Ow.arrlen (pc' := 4) B e14_3 hf1 ?_
  refine Ow.icmpF (pc' := 7) B e14_4 (by decide) ?_
  refine Ow.iconst (pc' := 8) (x := (0 : Int32)) B e14_7 ?_
  refine Ow.istoreN (pc' := 9) (Ls' := #[.val (.ref pa0), .val (.ref pa1), .val (.int (0 : Int32))]) B e14_8 ?_
  refine Ow.iloadN (pc' := 10) B e14_9 ?_
  refine Ow.aloadN (pc' := 11) B e14_10 ?_
  refine Ow.arrlen (pc' := 12) B e14_11 hf0 ?_
  refine Ow.icmpF (pc' := 15) B e14_12 (by decide) ?_
  refine Ow.aloadN (pc' := 16) B e14_15 ?_
  refine Ow.iloadN (pc' := 17) B e14_16 ?_
  refine Ow.baload (pc' := 18) B e14_17 hf0 ⟨by decide, by decide⟩ rfl ?_
  refine Ow.aloadN (pc' := 19) B e14_18 ?_
  refine Ow.iloadN (pc' := 20) B e14_19 ?_
  refine Ow.baload (pc' := 21) B e14_20 hf1 ⟨by decide, by decide⟩ rfl ?_
  by_cases c1 : px0.toInt8.toInt32 = px1.toInt8.toInt32
  · refine Ow.icmpT (pc' := 26) B e14_21 (teq c1).1 ?_
    refine Ow.iinc (pc' := 29) (y := (1 : Int32)) (Ls' := #[.val (.ref pa0), .val (.ref pa1), .val (.int (1 : Int32))]) B e14_26 ?_
    refine Ow.goto (pc' := 9) B e14_29 ?_
    refine Ow.iloadN (pc' := 10) B e14_9 ?_
    refine Ow.aloadN (pc' := 11) B e14_10 ?_
    refine Ow.arrlen (pc' := 12) B e14_11 hf0 ?_
    refine Ow.icmpT (pc' := 32) B e14_12 (by decide) ?_
    refine Ow.iconst (pc' := 33) (x := (1 : Int32)) B e14_32 ?_
    exact Ow.retI (S' := []) (t := .boolean) B e14_33 (Or.inl (⟨rfl, rfl, c1, rfl⟩))
  · refine Ow.icmpF (pc' := 24) B e14_21 (feq c1).1 ?_
    refine Ow.iconst (pc' := 25) (x := (0 : Int32)) B e14_24 ?_
    exact Ow.retI (S' := []) (t := .boolean) B e14_25 (Or.inr (⟨rfl, rfl, c1, rfl⟩))
set_option maxRecDepth 65536 in
set_option maxHeartbeats 40000000 in
theorem con_equals_58 {l : Launch} {Z : State} {n0 : Nat} {a0 : Array Value} {cz : Int32} {sf : Value} (hw : Hw a0 Z) (G : Ow.Glo Z cz sf) {u0 : Nat} (GS : GlS Z u0) {pa0 : Nat} {pa1 : Nat} {pa2 : Nat} {pa3 : Nat} {px0 : Int32} {px1 : Int32} {pk0 : ClassId} {pk1 : ClassId} {h0 : Heap} (O0 : Old Z n0 h0) (hf0 : Fld Z h0 pa0 "java/lang/String" "coder" "B" (.int (0 : Int32))) (hf1 : Fld Z h0 pa0 "java/lang/String" "value" "[B" (.ref pa2)) (hf2 : Exa Z h0 pa1 "java/lang/String") (hf3 : Fld Z h0 pa1 "java/lang/String" "coder" "B" (.int (0 : Int32))) (hf4 : Fld Z h0 pa1 "java/lang/String" "value" "[B" (.ref pa3)) (hf5 : Arv Z h0 pa2 pk0 .byte (1 : Int32) [(.int px0.toInt8.toInt32)] (.int 0)) (hf6 : Arv Z h0 pa3 pk1 .byte (1 : Int32) [(.int px1.toInt8.toInt32)] (.int 0)) (hn0 : n0 ≤ pa0) (hn1 : n0 ≤ pa1) (hn2 : n0 ≤ pa2) (hn3 : n0 ≤ pa3) (hd0 : pa0 ≠ pa1) (hc_px0 : nar .char px0 = px0) (hc_px1 : nar .char px1 = px1) :
    Ow.Con l Z EL1 n0 my14 jdk_42_method_66_code 3 (Option.some Jvm.ClassFile.FieldType.boolean) [] ({ frames := 1, cells := 0, slots := 0, locals := 14 } : Room) #[(.ref pa0), (.ref pa1)] [pa3, pa1, pa2, pa0] h0 (fun v h S' => (v = some (.int (1 : Int32)) ∧ h = h0 ∧ px0.toInt8.toInt32 = px1.toInt8.toInt32 ∧ S' = []) ∨ (v = some (.int (0 : Int32)) ∧ h = h0 ∧ ¬ (px0.toInt8.toInt32 = px1.toInt8.toInt32) ∧ S' = [])) := by
  refine Ow.Con.enter (Ls := #[.val (.ref pa0), .val (.ref pa1), .unset]) (plainFor_of_name pn1) O0 (hEW hw) (hSA hw) ?_
  intro p e s m below meth c B
  have z0 := Ow.old_le O0
  have lu0 : (u0 : Nat) < n0 := O0.1 ▸ GS.2.lt
  have lpa0 : (pa0 : Nat) < h0.size := hf0.lt
  have lpa1 : (pa1 : Nat) < h0.size := hf2.lt
  have lpa2 : (pa2 : Nat) < h0.size := hf5.lt
  have lpa3 : (pa3 : Nat) < h0.size := hf6.lt
  refine Ow.aloadN (pc' := 1) B e13_0 ?_
  refine Ow.aloadN (pc' := 2) B e13_1 ?_
  refine Ow.acmpR (pc' := 7) (same := false) B e13_2 (decide_eq_false (fun q => absurd (show (pa0 : Nat) = pa1 from Value.ref.inj q) (by omega))) ?_
  refine Ow.aloadN (pc' := 8) B e13_7 ?_
  refine Ow.instYes (pc' := 11) B e13_8 (w93 hw) (Ins.self hf2) ?_
  refine Ow.ifF (pc' := 14) B e13_11 (by decide) ?_
  refine Ow.aloadN (pc' := 15) B e13_14 ?_
  refine Ow.checkcast (pc' := 18) B e13_15 (w93 hw) (Ins.self hf2) ?_
  refine Ow.astoreN (pc' := 19) (Ls' := #[.val (.ref pa0), .val (.ref pa1), .val (.ref pa1)]) B e13_18 ?_
  refine Ow.getstatic (pc' := 22) B e13_19 (w94 hw) Via.refl G.1 ?_
  refine Ow.ifF (pc' := 25) B e13_22 (feq (G.2.1)).1 ?_
  refine Ow.aloadN (pc' := 26) B e13_25 ?_
  refine Ow.getfield (pc' := 29) B e13_26 (w25 hw) Via.refl hf0 ?_
  refine Ow.aloadN (pc' := 30) B e13_29 ?_
  refine Ow.getfield (pc' := 33) B e13_30 (w25 hw) Via.refl hf3 ?_
  refine Ow.icmpF (pc' := 36) B e13_33 (by decide) ?_
  refine Ow.aloadN (pc' := 37) B e13_36 ?_
  refine Ow.getfield (pc' := 40) B e13_37 (w24 hw) Via.refl hf1 ?_
  refine Ow.aloadN (pc' := 41) B e13_40 ?_
  refine Ow.getfield (pc' := 44) B e13_41 (w24 hw) Via.refl hf4 ?_
  refine Ow.Go.old (fun o1 => ?_)
  refine Ow.callStatic (pc' := 47) (W := 0) (k' := 0) (n' := 0) (argsL := [(.ref pa2), (.ref pa3)]) (rest := []) B e13_44 (w95 hw) (w96 hw) (w97 hw) (w98 hw) (con_equals_57 hw G GS (pa0 := pa2) (pa1 := pa3) (px0 := px0) (px1 := px1) (pk0 := pk0) (pk1 := pk1) o1 hf5 hf6 (by omega) (by omega) hc_px0 hc_px1) pd11 ?_
  intro vq2 h3 S4 q2 zh3
  rcases q2 with q2 | q2
  · obtain ⟨rfl, rfl, c5, rfl⟩ := q2
    refine Ow.Go.norm (S' := [pa3, pa1, pa2, pa0]) (st' := [(.int (1 : Int32))]) (fun _ q => List.mem_append_right _ q) rfl ?_
    refine Ow.ifF (pc' := 50) B e13_47 (by decide) ?_
    refine Ow.iconst (pc' := 51) (x := (1 : Int32)) B e13_50 ?_
    refine Ow.goto (pc' := 55) B e13_51 ?_
    exact Ow.retI (S' := []) (t := .boolean) B e13_55 (Or.inl (⟨rfl, rfl, c5, rfl⟩))
  · obtain ⟨rfl, rfl, c6, rfl⟩ := q2
    refine Ow.Go.norm (S' := [pa3, pa1, pa2, pa0]) (st' := [(.int (0 : Int32))]) (fun _ q => List.mem_append_right _ q) rfl ?_
    refine Ow.ifT (pc' := 54) B e13_47 (by decide) ?_
    refine Ow.iconst (pc' := 55) (x := (0 : Int32)) B e13_54 ?_
    exact Ow.retI (S' := []) (t := .boolean) B e13_55 (Or.inr (⟨rfl, rfl, c6, rfl⟩))
set_option maxRecDepth 65536 in
set_option maxHeartbeats 40000000 in
theorem con_equals_59 {l : Launch} {Z : State} {n0 : Nat} {a0 : Array Value} {cz : Int32} {sf : Value} (hw : Hw a0 Z) (G : Ow.Glo Z cz sf) {u0 : Nat} (GS : GlS Z u0) {pa0 : Nat} {pa1 : Nat} {px0 : Int32} {px1 : Int32} {pk0 : ClassId} {pk1 : ClassId} {h0 : Heap} (O0 : Old Z n0 h0) (hf0 : Arv Z h0 pa0 pk0 .byte (1 : Int32) [(.int px0.toInt8.toInt32)] (.int 0)) (hf1 : Arv Z h0 pa1 pk1 .byte (1 : Int32) [(.int px1.toInt8.toInt32)] (.int 0)) (hn0 : n0 ≤ pa0) (hn1 : n0 ≤ pa1) (hk0 : px1.toInt8.toInt32 = px0.toInt8.toInt32) (hk1 : px0.toInt8.toInt32 = px1.toInt8.toInt32) (hc_px0 : nar .char px0 = px0) (hc_px1 : nar .char px1 = px1) :
    Ow.Con l Z EL1 n0 my13 jdk_43_method_13_code 3 (Option.some Jvm.ClassFile.FieldType.boolean) [] ({ frames := 0, cells := 0, slots := 0, locals := 0 } : Room) #[(.ref pa0), (.ref pa1)] [pa0, pa1] h0 (fun v h S' => (v = some (.int (1 : Int32)) ∧ h = h0 ∧ S' = [])) := by
  refine Ow.Con.enter (Ls := #[.val (.ref pa0), .val (.ref pa1), .unset]) (plainFor_of_name pn9) O0 (hEW hw) (hSA hw) ?_
  intro p e s m below meth c B
  have z0 := Ow.old_le O0
  have lu0 : (u0 : Nat) < n0 := O0.1 ▸ GS.2.lt
  have lpa0 : (pa0 : Nat) < h0.size := hf0.lt
  have lpa1 : (pa1 : Nat) < h0.size := hf1.lt
  refine Ow.aloadN (pc' := 1) B e14_0 ?_
  refine Ow.arrlen (pc' := 2) B e14_1 hf0 ?_
  refine Ow.aloadN (pc' := 3) B e14_2 ?_
  refine Ow.arrlen (pc' := 4) B e14_3 hf1 ?_
  refine Ow.icmpF (pc' := 7) B e14_4 (by decide) ?_
  refine Ow.iconst (pc' := 8) (x := (0 : Int32)) B e14_7 ?_
  refine Ow.istoreN (pc' := 9) (Ls' := #[.val (.ref pa0), .val (.ref pa1), .val (.int (0 : Int32))]) B e14_8 ?_
  refine Ow.iloadN (pc' := 10) B e14_9 ?_
  refine Ow.aloadN (pc' := 11) B e14_10 ?_
  refine Ow.arrlen (pc' := 12) B e14_11 hf0 ?_
  refine Ow.icmpF (pc' := 15) B e14_12 (by decide) ?_
  refine Ow.aloadN (pc' := 16) B e14_15 ?_
  refine Ow.iloadN (pc' := 17) B e14_16 ?_
  refine Ow.baload (pc' := 18) B e14_17 hf0 ⟨by decide, by decide⟩ rfl ?_
  refine Ow.aloadN (pc' := 19) B e14_18 ?_
  refine Ow.iloadN (pc' := 20) B e14_19 ?_
  refine Ow.baload (pc' := 21) B e14_20 hf1 ⟨by decide, by decide⟩ rfl ?_
  refine Ow.icmpT (pc' := 26) B e14_21 (teq (hk1)).1 ?_
  refine Ow.iinc (pc' := 29) (y := (1 : Int32)) (Ls' := #[.val (.ref pa0), .val (.ref pa1), .val (.int (1 : Int32))]) B e14_26 ?_
  refine Ow.goto (pc' := 9) B e14_29 ?_
  refine Ow.iloadN (pc' := 10) B e14_9 ?_
  refine Ow.aloadN (pc' := 11) B e14_10 ?_
  refine Ow.arrlen (pc' := 12) B e14_11 hf0 ?_
  refine Ow.icmpT (pc' := 32) B e14_12 (by decide) ?_
  refine Ow.iconst (pc' := 33) (x := (1 : Int32)) B e14_32 ?_
  exact Ow.retI (S' := []) (t := .boolean) B e14_33 (⟨rfl, rfl, rfl⟩)
set_option maxRecDepth 65536 in
set_option maxHeartbeats 40000000 in
theorem con_equals_60 {l : Launch} {Z : State} {n0 : Nat} {a0 : Array Value} {cz : Int32} {sf : Value} (hw : Hw a0 Z) (G : Ow.Glo Z cz sf) {u0 : Nat} (GS : GlS Z u0) {pa0 : Nat} {pa1 : Nat} {pa2 : Nat} {pa3 : Nat} {px0 : Int32} {px1 : Int32} {pk0 : ClassId} {pk1 : ClassId} {h0 : Heap} (O0 : Old Z n0 h0) (hf0 : Fld Z h0 pa0 "java/lang/String" "coder" "B" (.int (0 : Int32))) (hf1 : Fld Z h0 pa0 "java/lang/String" "value" "[B" (.ref pa2)) (hf2 : Exa Z h0 pa1 "java/lang/String") (hf3 : Fld Z h0 pa1 "java/lang/String" "coder" "B" (.int (0 : Int32))) (hf4 : Fld Z h0 pa1 "java/lang/String" "value" "[B" (.ref pa3)) (hf5 : Arv Z h0 pa2 pk0 .byte (1 : Int32) [(.int px0.toInt8.toInt32)] (.int 0)) (hf6 : Arv Z h0 pa3 pk1 .byte (1 : Int32) [(.int px1.toInt8.toInt32)] (.int 0)) (hn0 : n0 ≤ pa0) (hn1 : n0 ≤ pa1) (hn2 : n0 ≤ pa2) (hn3 : n0 ≤ pa3) (hd0 : pa0 ≠ pa1) (hk0 : px1.toInt8.toInt32 = px0.toInt8.toInt32) (hk1 : px0.toInt8.toInt32 = px1.toInt8.toInt32) (hc_px0 : nar .char px0 = px0) (hc_px1 : nar .char px1 = px1) :
    Ow.Con l Z EL1 n0 my14 jdk_42_method_66_code 3 (Option.some Jvm.ClassFile.FieldType.boolean) [] ({ frames := 1, cells := 0, slots := 0, locals := 14 } : Room) #[(.ref pa0), (.ref pa1)] [pa2, pa0, pa3, pa1] h0 (fun v h S' => (v = some (.int (1 : Int32)) ∧ h = h0 ∧ S' = [])) := by
  refine Ow.Con.enter (Ls := #[.val (.ref pa0), .val (.ref pa1), .unset]) (plainFor_of_name pn1) O0 (hEW hw) (hSA hw) ?_
  intro p e s m below meth c B
  have z0 := Ow.old_le O0
  have lu0 : (u0 : Nat) < n0 := O0.1 ▸ GS.2.lt
  have lpa0 : (pa0 : Nat) < h0.size := hf0.lt
  have lpa1 : (pa1 : Nat) < h0.size := hf2.lt
  have lpa2 : (pa2 : Nat) < h0.size := hf5.lt
  have lpa3 : (pa3 : Nat) < h0.size := hf6.lt
  refine Ow.aloadN (pc' := 1) B e13_0 ?_
  refine Ow.aloadN (pc' := 2) B e13_1 ?_
  refine Ow.acmpR (pc' := 7) (same := false) B e13_2 (decide_eq_false (fun q => absurd (show (pa0 : Nat) = pa1 from Value.ref.inj q) (by omega))) ?_
  refine Ow.aloadN (pc' := 8) B e13_7 ?_
  refine Ow.instYes (pc' := 11) B e13_8 (w93 hw) (Ins.self hf2) ?_
  refine Ow.ifF (pc' := 14) B e13_11 (by decide) ?_
  refine Ow.aloadN (pc' := 15) B e13_14 ?_
  refine Ow.checkcast (pc' := 18) B e13_15 (w93 hw) (Ins.self hf2) ?_
  refine Ow.astoreN (pc' := 19) (Ls' := #[.val (.ref pa0), .val (.ref pa1), .val (.ref pa1)]) B e13_18 ?_
  refine Ow.getstatic (pc' := 22) B e13_19 (w94 hw) Via.refl G.1 ?_
  refine Ow.ifF (pc' := 25) B e13_22 (feq (G.2.1)).1 ?_
  refine Ow.aloadN (pc' := 26) B e13_25 ?_
  refine Ow.getfield (pc' := 29) B e13_26 (w25 hw) Via.refl hf0 ?_
  refine Ow.aloadN (pc' := 30) B e13_29 ?_
  refine Ow.getfield (pc' := 33) B e13_30 (w25 hw) Via.refl hf3 ?_
  refine Ow.icmpF (pc' := 36) B e13_33 (by decide) ?_
  refine Ow.aloadN (pc' := 37) B e13_36 ?_
  refine Ow.getfield (pc' := 40) B e13_37 (w24 hw) Via.refl hf1 ?_
  refine Ow.aloadN (pc' := 41) B e13_40 ?_
  refine Ow.getfield (pc' := 44) B e13_41 (w24 hw) Via.refl hf4 ?_
  refine Ow.Go.old (fun o1 => ?_)
  refine Ow.callStatic (pc' := 47) (W := 0) (k' := 0) (n' := 0) (argsL := [(.ref pa2), (.ref pa3)]) (rest := []) B e13_44 (w95 hw) (w96 hw) (w97 hw) (w98 hw) (con_equals_59 hw G GS (pa0 := pa2) (pa1 := pa3) (px0 := px0) (px1 := px1) (pk0 := pk0) (pk1 := pk1) o1 hf5 hf6 (by omega) (by omega) (hk0) (hk1) hc_px0 hc_px1) pd11 ?_
  intro vq2 h3 S4 q2 zh3
  obtain ⟨rfl, rfl, rfl⟩ := q2
  refine Ow.Go.norm (S' := [pa2, pa0, pa3, pa1]) (st' := [(.int (1 : Int32))]) (fun _ q => List.mem_append_right _ q) rfl ?_
  refine Ow.ifF (pc' := 50) B e13_47 (by decide) ?_
  refine Ow.iconst (pc' := 51) (x := (1 : Int32)) B e13_50 ?_
  refine Ow.goto (pc' := 55) B e13_51 ?_
  exact Ow.retI (S' := []) (t := .boolean) B e13_55 (⟨rfl, rfl, rfl⟩)
set_option maxRecDepth 65536 in
set_option maxHeartbeats 40000000 in
theorem con_contains_61 {l : Launch} {Z : State} {n0 : Nat} {a0 : Array Value} {cz : Int32} {sf : Value} (hw : Hw a0 Z) (G : Ow.Glo Z cz sf) {u0 : Nat} (GS : GlS Z u0) {pa0 : Nat} {pa1 : Nat} {pa2 : Nat} {pa3 : Nat} {pa4 : Nat} {px0 : Int32} {px1 : Int32} {pk0 : ClassId} {pk1 : ClassId} {h0 : Heap} (O0 : Old Z n0 h0) (hf0 : Fld Z h0 pa0 "java/util/ImmutableCollections$Set12" "e0" "Ljava/lang/Object;" (.ref pa2)) (hf1 : Exa Z h0 pa1 "java/lang/String") (hf2 : Fld Z h0 pa1 "java/lang/String" "coder" "B" (.int (0 : Int32))) (hf3 : Fld Z h0 pa1 "java/lang/String" "value" "[B" (.ref pa3)) (hf4 : Exa Z h0 pa2 "java/lang/String") (hf5 : Fld Z h0 pa2 "java/lang/String" "coder" "B" (.int (0 : Int32))) (hf6 : Fld Z h0 pa2 "java/lang/String" "value" "[B" (.ref pa4)) (hf7 : Arv Z h0 pa3 pk0 .byte (1 : Int32) [(.int px0.toInt8.toInt32)] (.int 0)) (hf8 : Arv Z h0 pa4 pk1 .byte (1 : Int32) [(.int px1.toInt8.toInt32)] (.int 0)) (hn0 : n0 ≤ pa0) (hn1 : n0 ≤ pa1) (hn2 : n0 ≤ pa2) (hn3 : n0 ≤ pa3) (hn4 : n0 ≤ pa4) (hd0 : pa1 ≠ pa2) (hk0 : px1.toInt8.toInt32 = px0.toInt8.toInt32) (hk1 : px0.toInt8.toInt32 = px1.toInt8.toInt32) (hc_px0 : nar .char px0 = px0) (hc_px1 : nar .char px1 = px1) :
    Ow.Con l Z EL1 n0 my16 jdk_101_method_5_code 2 (Option.some Jvm.ClassFile.FieldType.boolean) [] ({ frames := 2, cells := 0, slots := 0, locals := 28 } : Room) #[(.ref pa0), (.ref pa1)] [pa3, pa1, pa4, pa2] h0 (fun v h S' => (v = some (.int (1 : Int32)) ∧ h = h0 ∧ S' = [])) := by
  refine Ow.Con.enter (Ls := #[.val (.ref pa0), .val (.ref pa1)]) (plainFor_of_name pn4) O0 (hEW hw) (hSA hw) ?_
  intro p e s m below meth c B
  have z0 := Ow.old_le O0
  have lu0 : (u0 : Nat) < n0 := O0.1 ▸ GS.2.lt
  have lpa0 : (pa0 : Nat) < h0.size := hf0.lt
  have lpa1 : (pa1 : Nat) < h0.size := hf1.lt
  have lpa2 : (pa2 : Nat) < h0.size := hf4.lt
  have lpa3 : (pa3 : Nat) < h0.size := hf7.lt
  have lpa4 : (pa4 : Nat) < h0.size := hf8.lt
  refine Ow.aloadN (pc' := 1) B e16_0 ?_
  refine Ow.aloadN (pc' := 2) B e16_1 ?_
  refine Ow.getfield (pc' := 5) B e16_2 (w66 hw) Via.refl hf0 ?_
  refine Ow.Go.old (fun o1 => ?_)
  refine Ow.callVirtual (pc' := 8) (W := 0) (k' := 0) (n' := 0) (argsL := [(.ref pa2)]) (rest := []) (K := "java/lang/String") B e16_5 (w116 hw) (w117 hw) (w130 hw) (w119 hw) (w90 hw) (w6 hw) (w92 hw) hf1 (con_equals_60 hw G GS (pa0 := pa1) (pa1 := pa2) (pa2 := pa3) (pa3 := pa4) (px0 := px0) (px1 := px1) (pk0 := pk0) (pk1 := pk1) o1 hf2 hf3 hf4 hf5 hf6 hf7 hf8 (by omega) (by omega) (by omega) (by omega) (by omega) (hk0) (hk1) hc_px0 hc_px1) pd12 ?_
  intro vq2 h3 S4 q2 zh3
  obtain ⟨rfl, rfl, rfl⟩ := q2
  refine Ow.Go.norm (S' := [pa3, pa1, pa4, pa2]) (st' := [(.int (1 : Int32))]) (fun _ q => List.mem_append_right _ q) rfl ?_
  refine Ow.ifT (pc' := 22) B e16_8 (by decide) ?_
  refine Ow.iconst (pc' := 23) (x := (1 : Int32)) B e16_22 ?_
  refine Ow.goto (pc' := 27) B e16_23 ?_
  exact Ow.retI (S' := []) (t := .boolean) B e16_27 (⟨rfl, rfl, rfl⟩)
set_option maxRecDepth 65536 in
set_option maxHeartbeats 40000000 in
theorem con_equals_62 {l : Launch} {Z : State} {n0 : Nat} {a0 : Array Value} {cz : Int32} {sf : Value} (hw : Hw a0 Z) (G : Ow.Glo Z cz sf) {u0 : Nat} (GS : GlS Z u0) {pa0 : Nat} {pa1 : Nat} {px0 : Int32} {px1 : Int32} {pk0 : ClassId} {pk1 : ClassId} {h0 : Heap} (O0 : Old Z n0 h0) (hf0 : Arv Z h0 pa0 pk0 .byte (1 : Int32) [(.int px0.toInt8.toInt32)] (.int 0)) (hf1 : Arv Z h0 pa1 pk1 .byte (1 : Int32) [(.int px1.toInt8.toInt32)] (.int 0)) (hn0 : n0 ≤ pa0) (hn1 : n0 ≤ pa1) (hk0 : ¬ (px1.toInt8.toInt32 = px0.toInt8.toInt32)) (hk1 : ¬ (px0.toInt8.toInt32 = px1.toInt8.toInt32)) (hc_px0 : nar .char px0 = px0) (hc_px1 : nar .char px1 = px1) :
    Ow.Con l Z EL1 n0 my13 jdk_43_method_13_code 3 (Option.some Jvm.ClassFile.FieldType.boolean) [] ({ frames := 0, cells := 0, slots := 0, locals := 0 } : Room) #[(.ref pa0), (.ref pa1)] [pa0, pa1] h0 (fun v h S' => (v = some (.int (0 : Int32)) ∧ h = h0 ∧ S' = [])) := by
  refine Ow.Con.enter (Ls := #[.val (.ref pa0), .val (.ref pa1), .unset]) (plainFor_of_name pn9) O0 (hEW hw) (hSA hw) ?_
  intro p e s m below meth c B
  have z0 := Ow.old_le O0
  have lu0 : (u0 : Nat) < n0 := O0.1 ▸ GS.2.lt
  have lpa0 : (pa0 : Nat) < h0.size := hf0.lt
  have lpa1 : (pa1 : Nat) < h0.size := hf1.lt
  refine Ow.aloadN (pc' := 1) B e14_0 ?_
  refine Ow.arrlen (pc' := 2) B e14_1 hf0 ?_
  refine Ow.aloadN (pc' := 3) B e14_2 ?_
  refine Ow.arrlen (pc' := 4) B e14_3 hf1 ?_
  refine Ow.icmpF (pc' := 7) B e14_4 (by decide) ?_
  refine Ow.iconst (pc' := 8) (x := (0 : Int32)) B e14_7 ?_
  refine Ow.istoreN (pc' := 9) (Ls' := #[.val (.ref pa0), .val (.ref pa1), .val (.int (0 : Int32))]) B e14_8 ?_
  refine Ow.iloadN (pc' := 10) B e14_9 ?_
  refine Ow.aloadN (pc' := 11) B e14_10 ?_
  refine Ow.arrlen (pc' := 12) B e14_11 hf0 ?_
  refine Ow.icmpF (pc' := 15) B e14_12 (by decide) ?_
  refine Ow.aloadN (pc' := 16) B e14_15 ?_
  refine Ow.iloadN (pc' := 17) B e14_16 ?_
  refine Ow.baload (pc' := 18) B e14_17 hf0 ⟨by decide, by decide⟩ rfl ?_
  refine Ow.aloadN (pc' := 19) B e14_18 ?_
  refine Ow.iloadN (pc' := 20) B e14_19 ?_
  refine Ow.baload (pc' := 21) B e14_20 hf1 ⟨by decide, by decide⟩ rfl ?_
  refine Ow.icmpF (pc' := 24) B e14_21 (feq (hk1)).1 ?_
  refine Ow.iconst (pc' := 25) (x := (0 : Int32)) B e14_24 ?_
  exact Ow.retI (S' := []) (t := .boolean) B e14_25 (⟨rfl, rfl, rfl⟩)
set_option maxRecDepth 65536 in
set_option maxHeartbeats 40000000 in
theorem con_equals_63 {l : Launch} {Z : State} {n0 : Nat} {a0 : Array Value} {cz : Int32} {sf : Value} (hw : Hw a0 Z) (G : Ow.Glo Z cz sf) {u0 : Nat} (GS : GlS Z u0) {pa0 : Nat} {pa1 : Nat} {pa2 : Nat} {pa3 : Nat} {px0 : Int32} {px1 : Int32} {pk0 : ClassId} {pk1 : ClassId} {h0 : Heap} (O0 : Old Z n0 h0) (hf0 : Fld Z h0 pa0 "java/lang/String" "coder" "B" (.int (0 : Int32))) (hf1 : Fld Z h0 pa0 "java/lang/String" "value" "[B" (.ref pa2)) (hf2 : Exa Z h0 pa1 "java/lang/String") (hf3 : Fld Z h0 pa1 "java/lang/String" "coder" "B" (.int (0 : Int32))) (hf4 : Fld Z h0 pa1 "java/lang/String" "value" "[B" (.ref pa3)) (hf5 : Arv Z h0 pa2 pk0 .byte (1 : Int32) [(.int px0.toInt8.toInt32)] (.int 0)) (hf6 : Arv Z h0 pa3 pk1 .byte (1 : Int32) [(.int px1.toInt8.toInt32)] (.int 0)) (hn0 : n0 ≤ pa0) (hn1 : n0 ≤ pa1) (hn2 : n0 ≤ pa2) (hn3 : n0 ≤ pa3) (hd0 : pa0 ≠ pa1) (hk0 : ¬ (px1.toInt8.toInt32 = px0.toInt8.toInt32)) (hk1 : ¬ (px0.toInt8.toInt32 = px1.toInt8.toInt32)) (hc_px0 : nar .char px0 = px0) (hc_px1 : nar .char px1 = px1) :
    Ow.Con l Z EL1 n0 my14 jdk_42_method_66_code 3 (Option.some Jvm.ClassFile.FieldType.boolean) [] ({ frames := 1, cells := 0, slots := 0, locals := 14 } : Room) #[(.ref pa0), (.ref pa1)] [pa2, pa0, pa3, pa1] h0 (fun v h S' => (v = some (.int (0 : Int32)) ∧ h = h0 ∧ S' = [])) := by
  refine Ow.Con.enter (Ls := #[.val (.ref pa0), .val (.ref pa1), .unset]) (plainFor_of_name pn1) O0 (hEW hw) (hSA hw) ?_
  intro p e s m below meth c B
  have z0 := Ow.old_le O0
  have lu0 : (u0 : Nat) < n0 := O0.1 ▸ GS.2.lt
  have lpa0 : (pa0 : Nat) < h0.size := hf0.lt
  have lpa1 : (pa1 : Nat) < h0.size := hf2.lt
  have lpa2 : (pa2 : Nat) < h0.size := hf5.lt
  have lpa3 : (pa3 : Nat) < h0.size := hf6.lt
  refine Ow.aloadN (pc' := 1) B e13_0 ?_
  refine Ow.aloadN (pc' := 2) B e13_1 ?_
  refine Ow.acmpR (pc' := 7) (same := false) B e13_2 (decide_eq_false (fun q => absurd (show (pa0 : Nat) = pa1 from Value.ref.inj q) (by omega))) ?_
  refine Ow.aloadN (pc' := 8) B e13_7 ?_
  refine Ow.instYes (pc' := 11) B e13_8 (w93 hw) (Ins.self hf2) ?_
  refine Ow.ifF (pc' := 14) B e13_11 (by decide) ?_
  refine Ow.aloadN (pc' := 15) B e13_14 ?_
  refine Ow.checkcast (pc' := 18) B e13_15 (w93 hw) (Ins.self hf2) ?_
  refine Ow.astoreN (pc' := 19) (Ls' := #[.val (.ref pa0), .val (.ref pa1), .val (.ref pa1)]) B e13_18 ?_
  refine Ow.getstatic (pc' := 22) B e13_19 (w94 hw) Via.refl G.1 ?_
  refine Ow.ifF (pc' := 25) B e13_22 (feq (G.2.1)).1 ?_
  refine Ow.aloadN (pc' := 26) B e13_25 ?_
  refine Ow.getfield (pc' := 29) B e13_26 (w25 hw) Via.refl hf0 ?_
  refine Ow.aloadN (pc' := 30) B e13_29 ?_
  refine Ow.getfield (pc' := 33) B e13_30 (w25 hw) Via.refl hf3 ?_
  refine Ow.icmpF (pc' := 36) B e13_33 (by decide) ?_
  refine Ow.aloadN (pc' := 37) B e13_36 ?_
  refine Ow.getfield (pc' := 40) B e13_37 (w24 hw) Via.refl hf1 ?_
  refine Ow.aloadN (pc' := 41) B e13_40 ?_
  refine Ow.getfield (pc' := 44) B e13_41 (w24 hw) Via.refl hf4 ?_
  refine Ow.Go.old (fun o1 => ?_)
  refine Ow.callStatic (pc' := 47) (W := 0) (k' := 0) (n' := 0) (argsL := [(.ref pa2), (.ref pa3)]) (rest := []) B e13_44 (w95 hw) (w96 hw) (w97 hw) (w98 hw) (con_equals_62 hw G GS (pa0 := pa2) (pa1 := pa3) (px0 := px0) (px1 := px1) (pk0 := pk0) (pk1 := pk1) o1 hf5 hf6 (by omega) (by omega) (hk0) (hk1) hc_px0 hc_px1) pd11 ?_
  intro vq2 h3 S4 q2 zh3
  obtain ⟨rfl, rfl, rfl⟩ := q2
  refine Ow.Go.norm (S' := [pa2, pa0, pa3, pa1]) (st' := [(.int (0 : Int32))]) (fun _ q => List.mem_append_right _ q) rfl ?_
  refine Ow.ifT (pc' := 54) B e13_47 (by decide) ?_
  refine Ow.iconst (pc' := 55) (x := (0 : Int32)) B e13_54 ?_
  exact Ow.retI (S' := []) (t := .boolean) B e13_55 (⟨rfl, rfl, rfl⟩)
set_option maxRecDepth 65536 in
set_option maxHeartbeats 40000000 in
theorem con_contains_64 {l : Launch} {Z : State} {n0 : Nat} {a0 : Array Value} {cz : Int32} {sf : Value} (hw : Hw a0 Z) (G : Ow.Glo Z cz sf) {u0 : Nat} (GS : GlS Z u0) {pa0 : Nat} {pa1 : Nat} {pa2 : Nat} {pa3 : Nat} {pa4 : Nat} {px0 : Int32} {px1 : Int32} {pk0 : ClassId} {pk1 : ClassId} {h0 : Heap} (O0 : Old Z n0 h0) (hf0 : Fld Z h0 pa0 "java/util/ImmutableCollections$Set12" "e0" "Ljava/lang/Object;" (.ref pa2)) (hf1 : Fld Z h0 pa0 "java/util/ImmutableCollections$Set12" "e1" "Ljava/lang/Object;" (.ref u0)) (hf2 : Exa Z h0 pa1 "java/lang/String") (hf3 : Fld Z h0 pa1 "java/lang/String" "coder" "B" (.int (0 : Int32))) (hf4 : Fld Z h0 pa1 "java/lang/String" "value" "[B" (.ref pa3)) (hf5 : Exa Z h0 pa2 "java/lang/String") (hf6 : Fld Z h0 pa2 "java/lang/String" "coder" "B" (.int (0 : Int32))) (hf7 : Fld Z h0 pa2 "java/lang/String" "value" "[B" (.ref pa4)) (hf8 : Arv Z h0 pa3 pk0 .byte (1 : Int32) [(.int px0.toInt8.toInt32)] (.int 0)) (hf9 : Arv Z h0 pa4 pk1 .byte (1 : Int32) [(.int px1.toInt8.toInt32)] (.int 0)) (hn0 : n0 ≤ pa0) (hn1 : n0 ≤ pa1) (hn2 : n0 ≤ pa2) (hn3 : n0 ≤ pa3) (hn4 : n0 ≤ pa4) (hd0 : pa1 ≠ pa2) (hd1 : u0 ≠ pa1) (hk0 : ¬ (px1.toInt8.toInt32 = px0.toInt8.toInt32)) (hk1 : ¬ (px0.toInt8.toInt32 = px1.toInt8.toInt32)) (hc_px0 : nar .char px0 = px0) (hc_px1 : nar .char px1 = px1) :
    Ow.Con l Z EL1 n0 my16 jdk_101_method_5_code 2 (Option.some Jvm.ClassFile.FieldType.boolean) [] ({ frames := 2, cells := 0, slots := 0, locals := 28 } : Room) #[(.ref pa0), (.ref pa1)] [pa3, pa1, pa4, pa2] h0 (fun v h S' => (v = some (.int (0 : Int32)) ∧ h = h0 ∧ S' = [])) := by
  refine Ow.Con.enter (Ls := #[.val (.ref pa0), .val (.ref pa1)]) (plainFor_of_name pn4) O0 (hEW hw) (hSA hw) ?_
  intro p e s m below meth c B
  have z0 := Ow.old_le O0
  have lu0 : (u0 : Nat) < n0 := O0.1 ▸ GS.2.lt
  have lpa0 : (pa0 : Nat) < h0.size := hf0.lt
  have lpa1 : (pa1 : Nat) < h0.size := hf2.lt
  have lpa2 : (pa2 : Nat) < h0.size := hf5.lt
  have lpa3 : (pa3 : Nat) < h0.size := hf8.lt
  have lpa4 : (pa4 : Nat) < h0.size := hf9.lt
  refine Ow.aloadN (pc' := 1) B e16_0 ?_
  refine Ow.aloadN (pc' := 2) B e16_1 ?_
  refine Ow.getfield (pc' := 5) B e16_2 (w66 hw) Via.refl hf0 ?_
  refine Ow.Go.old (fun o1 => ?_)
  refine Ow.callVirtual (pc' := 8) (W := 0) (k' := 0) (n' := 0) (argsL := [(.ref pa2)]) (rest := []) (K := "java/lang/String") B e16_5 (w116 hw) (w117 hw) (w130 hw) (w119 hw) (w90 hw) (w6 hw) (w92 hw) hf2 (con_equals_63 hw G GS (pa0 := pa1) (pa1 := pa2) (pa2 := pa3) (pa3 := pa4) (px0 := px0) (px1 := px1) (pk0 := pk0) (pk1 := pk1) o1 hf3 hf4 hf5 hf6 hf7 hf8 hf9 (by omega) (by omega) (by omega) (by omega) (by omega) (hk0) (hk1) hc_px0 hc_px1) pd12 ?_
  intro vq2 h3 S4 q2 zh3
  obtain ⟨rfl, rfl, rfl⟩ := q2
  refine Ow.Go.norm (S' := [pa3, pa1, pa4, pa2]) (st' := [(.int (0 : Int32))]) (fun _ q => List.mem_append_right _ q) rfl ?_
  refine Ow.ifF (pc' := 11) B e16_8 (by decide) ?_
  refine Ow.aloadN (pc' := 12) B e16_11 ?_
  refine Ow.getfield (pc' := 15) B e16_12 (w70 hw) Via.refl hf1 ?_
  refine Ow.aloadN (pc' := 16) B e16_15 ?_
  refine Ow.Go.old (fun o5 => ?_)
  have f6 := Exa.ext o5.2 GS.2
  refine Ow.objEq (pc' := 19) (W := 0) (K := "java/lang/Object") B e16_16 (w116 hw) (w117 hw) (w130 hw) (w130 hw) (w118 hw) (w131 hw) (by decide +kernel) f6 pd12 e20_0 e20_1 e20_2 e20_9 e20_10 (by omega) ?_
  refine Ow.ifT (pc' := 26) B e16_19 (by decide) ?_
  refine Ow.iconst (pc' := 27) (x := (0 : Int32)) B e16_26 ?_
  exact Ow.retI (S' := []) (t := .boolean) B e16_27 (⟨rfl, rfl, rfl⟩)
set_option maxRecDepth 65536 in
set_option maxHeartbeats 40000000 in
theorem con_equals_65 {l : Launch} {Z : State} {n0 : Nat} {a0 : Array Value} {cz : Int32} {sf : Value} (hw : Hw a0 Z) (G : Ow.Glo Z cz sf) {u0 : Nat} (GS : GlS Z u0) {pa0 : Nat} {pa1 : Nat} {px0 : Int32} {px1 : Int32} {px2 : Int32} {pk0 : ClassId} {pk1 : ClassId} {h0 : Heap} (O0 : Old Z n0 h0) (hf0 : Arv Z h0 pa0 pk0 .byte (1 : Int32) [(.int px0.toInt8.toInt32)] (.int 0)) (hf1 : Arv Z h0 pa1 pk1 .byte (2 : Int32) [(.int px1.toInt8.toInt32), (.int px2.toInt8.toInt32)] (.int 0)) (hn0 : n0 ≤ pa0) (hn1 : n0 ≤ pa1) (hc_px0 : nar .char px0 = px0) (hc_px1 : nar .char px1 = px1) (hc_px2 : nar .char px2 = px2) :
    Ow.Con l Z EL1 n0 my13 jdk_43_method_13_code 3 (Option.some Jvm.ClassFile.FieldType.boolean) [] ({ frames := 0, cells := 0, slots := 0, locals := 0 } : Room) #[(.ref pa0), (.ref pa1)] [pa1, pa0] h0 (fun v h S' => (v = some (.int (0 : Int32)) ∧ h = h0 ∧ S' = [])) := by
  refine Ow.Con.enter (Ls := #[.val (.ref pa0), .val (.ref pa1), .unset]) (plainFor_of_name pn9) O0 (hEW hw) (hSA hw) ?_
  intro p e s m below meth c B
  have z0 := Ow.old_le O0
  have lu0 : (u0 : Nat) < n0 := O0.1 ▸ GS.2.lt
  have lpa0 : (pa0 : Nat) < h0.size := hf0.lt
  have lpa1 : (pa1 : Nat) < h0.size := hf1.lt
  refine Ow.aloadN (pc' := 1) B e14_0 ?_
  refine Ow.arrlen (pc' := 2) B e14_1 hf0 ?_
  refine Ow.aloadN (pc' := 3) B e14_2 ?_
  refine Ow.arrlen (pc' := 4) B e14_3 hf1 ?_
  refine Ow.icmpT (pc' := 34) B e14_4 (by decide) ?_
  refine Ow.iconst (pc' := 35) (x := (0 : Int32)) B e14_34 ?_
  exact Ow.retI (S' := []) (t := .boolean) B e14_35 (⟨rfl, rfl, rfl⟩)
set_option maxRecDepth 65536 in
set_option maxHeartbeats 40000000 in
theorem con_equals_66 {l : Launch} {Z : State} {n0 : Nat} {a0 : Array Value} {cz : Int32} {sf : Value} (hw : Hw a0 Z) (G : Ow.Glo Z cz sf) {u0 : Nat} (GS : GlS Z u0) {pa0 : Nat} {pa1 : Nat} {pa2 : Nat} {pa3 : Nat} {px0 : Int32} {px1 : Int32} {px2 : Int32} {pk0 : ClassId} {pk1 : ClassId} {h0 : Heap} (O0 : Old Z n0 h0) (hf0 : Fld Z h0 pa0 "java/lang/String" "coder" "B" (.int (0 : Int32))) (hf1 : Fld Z h0 pa0 "java/lang/String" "value" "[B" (.ref pa2)) (hf2 : Exa Z h0 pa1 "java/lang/String") (hf3 : Fld Z h0 pa1 "java/lang/String" "coder" "B" (.int (0 : Int32))) (hf4 : Fld Z h0 pa1 "java/lang/String" "value" "[B" (.ref pa3)) (hf5 : Arv Z h0 pa2 pk0 .byte (1 : Int32) [(.int px0.toInt8.toInt32)] (.int 0)) (hf6 : Arv Z h0 pa3 pk1 .byte (2 : Int32) [(.int px1.toInt8.toInt32), (.int px2.toInt8.toInt32)] (.int 0)) (hn0 : n0 ≤ pa0) (hn1 : n0 ≤ pa1) (hn2 : n0 ≤ pa2) (hn3 : n0 ≤ pa3) (hd0 : pa0 ≠ pa1) (hc_px0 : nar .char px0 = px0) (hc_px1 : nar .char px1 = px1) (hc_px2 : nar .char px2 = px2) :
    Ow.Con l Z EL1 n0 my14 jdk_42_method_66_code 3 (Option.some Jvm.ClassFile.FieldType.boolean) [] ({ frames := 1, cells := 0, slots := 0, locals := 14 } : Room) #[(.ref pa0), (.ref pa1)] [pa3, pa1, pa2, pa0] h0 (fun v h S' => (v = some (.int (0 : Int32)) ∧ h = h0 ∧ S' = [])) := by
  refine Ow.Con.enter (Ls := #[.val (.ref pa0), .val (.ref pa1), .unset]) (plainFor_of_name pn1) O0 (hEW hw) (hSA hw) ?_
  intro p e s m below meth c B
  have z0 := Ow.old_le O0
  have lu0 : (u0 : Nat) < n0 := O0.1 ▸ GS.2.lt
  have lpa0 : (pa0 : Nat) < h0.size := hf0.lt
  have lpa1 : (pa1 : Nat) < h0.size := hf2.lt
  have lpa2 : (pa2 : Nat) < h0.size := hf5.lt
  have lpa3 : (pa3 : Nat) < h0.size := hf6.lt
  refine Ow.aloadN (pc' := 1) B e13_0 ?_
  refine Ow.aloadN (pc' := 2) B e13_1 ?_
  refine Ow.acmpR (pc' := 7) (same := false) B e13_2 (decide_eq_false (fun q => absurd (show (pa0 : Nat) = pa1 from Value.ref.inj q) (by omega))) ?_
  refine Ow.aloadN (pc' := 8) B e13_7 ?_
  refine Ow.instYes (pc' := 11) B e13_8 (w93 hw) (Ins.self hf2) ?_
  refine Ow.ifF (pc' := 14) B e13_11 (by decide) ?_
  refine Ow.aloadN (pc' := 15) B e13_14 ?_
  refine Ow.checkcast (pc' := 18) B e13_15 (w93 hw) (Ins.self hf2) ?_
  refine Ow.astoreN (pc' := 19) (Ls' := #[.val (.ref pa0), .val (.ref pa1), .val (.ref pa1)]) B e13_18 ?_
  refine Ow.getstatic (pc' := 22) B e13_19 (w94 hw) Via.refl G.1 ?_
  refine Ow.ifF (pc' := 25) B e13_22 (feq (G.2.1)).1 ?_
  refine Ow.aloadN (pc' := 26) B e13_25 ?_
  refine Ow.getfield (pc' := 29) B e13_26 (w25 hw) Via.refl hf0 ?_
  refine Ow.aloadN (pc' := 30) B e13_29 ?_
  refine Ow.getfield (pc' := 33) B e13_30 (w25 hw) Via.refl hf3 ?_
  refine Ow.icmpF (pc' := 36) B e13_33 (by decide) ?_
  refine Ow.aloadN (pc' := 37) B e13_36 ?_
  refine Ow.getfield (pc' := 40) B e13_37 (w24 hw) Via.refl hf1 ?_
  refine Ow.aloadN (pc' := 41) B e13_40 ?_
  refine Ow.getfield (pc' := 44) B e13_41 (w24 hw) Via.refl hf4 ?_
  refine Ow.Go.old (fun o1 => ?_)
  refine Ow.callStatic (pc' := 47) (W := 0) (k' := 0) (n' := 0) (argsL := [(.ref pa2), (.ref pa3)]) (rest := []) B e13_44 (w95 hw) (w96 hw) (w97 hw) (w98 hw) (con_equals_65 hw G GS (pa0 := pa2) (pa1 := pa3) (px0 := px0) (px1 := px1) (px2 := px2) (pk0 := pk0) (pk1 := pk1) o1 hf5 hf6 (by omega) (by omega) hc_px0 hc_px1 hc_px2) pd11 ?_
  intro vq2 h3 S4 q2 zh3
  obtain ⟨rfl, rfl, rfl⟩ := q2
  refine Ow.Go.norm (S' := [pa3, pa1, pa2, pa0]) (st' := [(.int (0 : Int32))]) (fun _ q => List.mem_append_right _ q) rfl ?_
  refine Ow.ifT (pc' := 54) B e13_47 (by decide) ?_
  refine Ow.iconst (pc' := 55) (x := (0 : Int32)) B e13_54 ?_
  exact Ow.retI (S' := []) (t := .boolean) B e13_55 (⟨rfl, rfl, rfl⟩)
set_option maxRecDepth 65536 in
set_option maxHeartbeats 40000000 in
theorem con_equals_67 {l : Launch} {Z : State} {n0 : Nat} {a0 : Array Value} {cz : Int32} {sf : Value} (hw : Hw a0 Z) (G : Ow.Glo Z cz sf) {u0 : Nat} (GS : GlS Z u0) {pa0 : Nat} {pa1 : Nat} {px0 : Int32} {px1 : Int32} {px2 : Int32} {pk0 : ClassId} {pk1 : ClassId} {h0 : Heap} (O0 : Old Z n0 h0) (hf0 : Arv Z h0 pa0 pk0 .byte (2 : Int32) [(.int px0.toInt8.toInt32), (.int px1.toInt8.toInt32)] (.int 0)) (hf1 : Arv Z h0 pa1 pk1 .byte (1 : Int32) [(.int px2.toInt8.toInt32)] (.int 0)) (hn0 : n0 ≤ pa0) (hn1 : n0 ≤ pa1) (hc_px0 : nar .char px0 = px0) (hc_px1 : nar .char px1 = px1) (hc_px2 : nar .char px2 = px2) :
    Ow.Con l Z EL1 n0 my13 jdk_43_method_13_code 3 (Option.some Jvm.ClassFile.FieldType.boolean) [] ({ frames := 0, cells := 0, slots := 0, locals := 0 } : Room) #[(.ref pa0), (.ref pa1)] [pa0, pa1] h0 (fun v h S' => (v = some (.int (0 : Int32)) ∧ h = h0 ∧ S' = [])) := by
  refine Ow.Con.enter (Ls := #[.val (.ref pa0), .val (.ref pa1), .unset]) (plainFor_of_name pn9) O0 (hEW hw) (hSA hw) ?_
  intro p e s m below meth c B
  have z0 := Ow.old_le O0
  have lu0 : (u0 : Nat) < n0 := O0.1 ▸ GS.2.lt
  have lpa0 : (pa0 : Nat) < h0.size := hf0.lt
  have lpa1 : (pa1 : Nat) < h0.size := hf1.lt
  refine Ow.aloadN (pc' := 1) B e14_0 ?_
  refine Ow.arrlen (pc' := 2) B e14_1 hf0 ?_
  refine Ow.aloadN (pc' := 3) B e14_2 ?_
  refine Ow.arrlen (pc' := 4) B e14_3 hf1 ?_
  refine Ow.icmpT (pc' := 34) B e14_4 (by decide) ?_
  refine Ow.iconst (pc' := 35) (x := (0 : Int32)) B e14_34 ?_
  exact Ow.retI (S' := []) (t := .boolean) B e14_35 (⟨rfl, rfl, rfl⟩)
set_option maxRecDepth 65536 in
set_option maxHeartbeats 40000000 in
theorem con_equals_68 {l : Launch} {Z : State} {n0 : Nat} {a0 : Array Value} {cz : Int32} {sf : Value} (hw : Hw a0 Z) (G : Ow.Glo Z cz sf) {u0 : Nat} (GS : GlS Z u0) {pa0 : Nat} {pa1 : Nat} {pa2 : Nat} {pa3 : Nat} {px0 : Int32} {px1 : Int32} {px2 : Int32} {pk0 : ClassId} {pk1 : ClassId} {h0 : Heap} (O0 : Old Z n0 h0) (hf0 : Fld Z h0 pa0 "java/lang/String" "coder" "B" (.int (0 : Int32))) (hf1 : Fld Z h0 pa0 "java/lang/String" "value" "[B" (.ref pa2)) (hf2 : Exa Z h0 pa1 "java/lang/String") (hf3 : Fld Z h0 pa1 "java/lang/String" "coder" "B" (.int (0 : Int32))) (hf4 : Fld Z h0 pa1 "java/lang/String" "value" "[B" (.ref pa3)) (hf5 : Arv Z h0 pa2 pk0 .byte (2 : Int32) [(.int px0.toInt8.toInt32), (.int px1.toInt8.toInt32)] (.int 0)) (hf6 : Arv Z h0 pa3 pk1 .byte (1 : Int32) [(.int px2.toInt8.toInt32)] (.int 0)) (hn0 : n0 ≤ pa0) (hn1 : n0 ≤ pa1) (hn2 : n0 ≤ pa2) (hn3 : n0 ≤ pa3) (hd0 : pa0 ≠ pa1) (hc_px0 : nar .char px0 = px0) (hc_px1 : nar .char px1 = px1) (hc_px2 : nar .char px2 = px2) :
    Ow.Con l Z EL1 n0 my14 jdk_42_method_66_code 3 (Option.some Jvm.ClassFile.FieldType.boolean) [] ({ frames := 1, cells := 0, slots := 0, locals := 14 } : Room) #[(.ref pa0), (.ref pa1)] [pa2, pa0, pa3, pa1] h0 (fun v h S' => (v = some (.int (0 : Int32)) ∧ h = h0 ∧ S' = [])) := by
  refine Ow.Con.enter (Ls := #[.val (.ref pa0), .val (.ref pa1), .unset]) (plainFor_of_name pn1) O0 (hEW hw) (hSA hw) ?_
  intro p e s m below meth c B
  have z0 := Ow.old_le O0
  have lu0 : (u0 : Nat) < n0 := O0.1 ▸ GS.2.lt
  have lpa0 : (pa0 : Nat) < h0.size := hf0.lt
  have lpa1 : (pa1 : Nat) < h0.size := hf2.lt
  have lpa2 : (pa2 : Nat) < h0.size := hf5.lt
  have lpa3 : (pa3 : Nat) < h0.size := hf6.lt
  refine Ow.aloadN (pc' := 1) B e13_0 ?_
  refine Ow.aloadN (pc' := 2) B e13_1 ?_
  refine Ow.acmpR (pc' := 7) (same := false) B e13_2 (decide_eq_false (fun q => absurd (show (pa0 : Nat) = pa1 from Value.ref.inj q) (by omega))) ?_
  refine Ow.aloadN (pc' := 8) B e13_7 ?_
  refine Ow.instYes (pc' := 11) B e13_8 (w93 hw) (Ins.self hf2) ?_
  refine Ow.ifF (pc' := 14) B e13_11 (by decide) ?_
  refine Ow.aloadN (pc' := 15) B e13_14 ?_
  refine Ow.checkcast (pc' := 18) B e13_15 (w93 hw) (Ins.self hf2) ?_
  refine Ow.astoreN (pc' := 19) (Ls' := #[.val (.ref pa0), .val (.ref pa1), .val (.ref pa1)]) B e13_18 ?_
  refine Ow.getstatic (pc' := 22) B e13_19 (w94 hw) Via.refl G.1 ?_
  refine Ow.ifF (pc' := 25) B e13_22 (feq (G.2.1)).1 ?_
  refine Ow.aloadN (pc' := 26) B e13_25 ?_
  refine Ow.getfield (pc' := 29) B e13_26 (w25 hw) Via.refl hf0 ?_
  refine Ow.aloadN (pc' := 30) B e13_29 ?_
  refine Ow.getfield (pc' := 33) B e13_30 (w25 hw) Via.refl hf3 ?_
  refine Ow.icmpF (pc' := 36) B e13_33 (by decide) ?_
  refine Ow.aloadN (pc' := 37) B e13_36 ?_
  refine Ow.getfield (pc' := 40) B e13_37 (w24 hw) Via.refl hf1 ?_
  refine Ow.aloadN (pc' := 41) B e13_40 ?_
  refine Ow.getfield (pc' := 44) B e13_41 (w24 hw) Via.refl hf4 ?_
  refine Ow.Go.old (fun o1 => ?_)
  refine Ow.callStatic (pc' := 47) (W := 0) (k' := 0) (n' := 0) (argsL := [(.ref pa2), (.ref pa3)]) (rest := []) B e13_44 (w95 hw) (w96 hw) (w97 hw) (w98 hw) (con_equals_67 hw G GS (pa0 := pa2) (pa1 := pa3) (px0 := px0) (px1 := px1) (px2 := px2) (pk0 := pk0) (pk1 := pk1) o1 hf5 hf6 (by omega) (by omega) hc_px0 hc_px1 hc_px2) pd11 ?_
  intro vq2 h3 S4 q2 zh3
  obtain ⟨rfl, rfl, rfl⟩ := q2
  refine Ow.Go.norm (S' := [pa2, pa0, pa3, pa1]) (st' := [(.int (0 : Int32))]) (fun _ q => List.mem_append_right _ q) rfl ?_
  refine Ow.ifT (pc' := 54) B e13_47 (by decide) ?_
  refine Ow.iconst (pc' := 55) (x := (0 : Int32)) B e13_54 ?_
  exact Ow.retI (S' := []) (t := .boolean) B e13_55 (⟨rfl, rfl, rfl⟩)
set_option maxRecDepth 65536 in
set_option maxHeartbeats 40000000 in
theorem con_contains_69 {l : Launch} {Z : State} {n0 : Nat} {a0 : Array Value} {cz : Int32} {sf : Value} (hw : Hw a0 Z) (G : Ow.Glo Z cz sf) {u0 : Nat} (GS : GlS Z u0) {pa0 : Nat} {pa1 : Nat} {pa2 : Nat} {pa3 : Nat} {pa4 : Nat} {px0 : Int32} {px1 : Int32} {px2 : Int32} {pk0 : ClassId} {pk1 : ClassId} {h0 : Heap} (O0 : Old Z n0 h0) (hf0 : Fld Z h0 pa0 "java/util/ImmutableCollections$Set12" "e0" "Ljava/lang/Object;" (.ref pa2)) (hf1 : Fld Z h0 pa0 "java/util/ImmutableCollections$Set12" "e1" "Ljava/lang/Object;" (.ref u0)) (hf2 : Exa Z h0 pa1 "java/lang/String") (hf3 : Fld Z h0 pa1 "java/lang/String" "coder" "B" (.int (0 : Int32))) (hf4 : Fld Z h0 pa1 "java/lang/String" "value" "[B" (.ref pa3)) (hf5 : Exa Z h0 pa2 "java/lang/String") (hf6 : Fld Z h0 pa2 "java/lang/String" "coder" "B" (.int (0 : Int32))) (hf7 : Fld Z h0 pa2 "java/lang/String" "value" "[B" (.ref pa4)) (hf8 : Arv Z h0 pa3 pk0 .byte (2 : Int32) [(.int px0.toInt8.toInt32), (.int px1.toInt8.toInt32)] (.int 0)) (hf9 : Arv Z h0 pa4 pk1 .byte (1 : Int32) [(.int px2.toInt8.toInt32)] (.int 0)) (hn0 : n0 ≤ pa0) (hn1 : n0 ≤ pa1) (hn2 : n0 ≤ pa2) (hn3 : n0 ≤ pa3) (hn4 : n0 ≤ pa4) (hd0 : pa1 ≠ pa2) (hd1 : u0 ≠ pa1) (hc_px0 : nar .char px0 = px0) (hc_px1 : nar .char px1 = px1) (hc_px2 : nar .char px2 = px2) :
    Ow.Con l Z EL1 n0 my16 jdk_101_method_5_code 2 (Option.some Jvm.ClassFile.FieldType.boolean) [] ({ frames := 2, cells := 0, slots := 0, locals := 28 } : Room) #[(.ref pa0), (.ref pa1)] [pa3, pa1, pa4, pa2] h0 (fun v h S' => (v = some (.int (0 : Int32)) ∧ h = h0 ∧ S' = [])) := by
  refine Ow.Con.enter (Ls := #[.val (.ref pa0), .val (.ref pa1)]) (plainFor_of_name pn4) O0 (hEW hw) (hSA hw) ?_
  intro p e s m below meth c B
  have z0 := Ow.old_le O0
  have lu0 : (u0 : Nat) < n0 := O0.1 ▸ GS.2.lt
  have lpa0 : (pa0 : Nat) < h0.size := hf0.lt
  have lpa1 : (pa1 : Nat) < h0.size := hf2.lt
  have lpa2 : (pa2 : Nat) < h0.size := hf5.lt
  have lpa3 : (pa3 : Nat) < h0.size := hf8.lt
  have lpa4 : (pa4 : Nat) < h0.size := hf9.lt
  refine Ow.aloadN (pc' := 1) B e16_0 ?_
  refine Ow.aloadN (pc' := 2) B e16_1 ?_
  refine Ow.getfield (pc' := 5) B e16_2 (w66 hw) Via.refl hf0 ?_
  refine Ow.Go.old (fun o1 => ?_)
  refine Ow.callVirtual (pc' := 8) (W := 0) (k' := 0) (n' := 0) (argsL := [(.ref pa2)]) (rest := []) (K := "java/lang/String") B e16_5 (w116 hw) (w117 hw) (w130 hw) (w119 hw) (w90 hw) (w6 hw) (w92 hw) hf2 (con_equals_68 hw G GS (pa0 := pa1) (pa1 := pa2) (pa2 := pa3) (pa3 := pa4) (px0 := px0) (px1 := px1) (px2 := px2) (pk0 := pk0) (pk1 := pk1) o1 hf3 hf4 hf5 hf6 hf7 hf8 hf9 (by omega) (by omega) (by omega) (by omega) (by omega) hc_px0 hc_px1 hc_px2) pd12 ?_
  intro vq2 h3 S4 q2 zh3
  obtain ⟨rfl, rfl, rfl⟩ := q2
  refine Ow.Go.norm (S' := [pa3, pa1, pa4, pa2]) (st' := [(.int (0 : Int32))]) (fun _ q => List.mem_append_right _ q) rfl ?_
  refine Ow.ifF (pc' := 11) B e16_8 (by decide) ?_
  refine Ow.aloadN (pc' := 12) B e16_11 ?_
  refine Ow.getfield (pc' := 15) B e16_12 (w70 hw) Via.refl hf1 ?_
  refine Ow.aloadN (pc' := 16) B e16_15 ?_
  refine Ow.Go.old (fun o5 => ?_)
  have f6 := Exa.ext o5.2 GS.2
  refine Ow.objEq (pc' := 19) (W := 0) (K := "java/lang/Object") B e16_16 (w116 hw) (w117 hw) (w130 hw) (w130 hw) (w118 hw) (w131 hw) (by decide +kernel) f6 pd12 e20_0 e20_1 e20_2 e20_9 e20_10 (by omega) ?_
  refine Ow.ifT (pc' := 26) B e16_19 (by decide) ?_
  refine Ow.iconst (pc' := 27) (x := (0 : Int32)) B e16_26 ?_
  exact Ow.retI (S' := []) (t := .boolean) B e16_27 (⟨rfl, rfl, rfl⟩)
set_option maxRecDepth 65536 in
set_option maxHeartbeats 40000000 in
theorem con_equals_70 {l : Launch} {Z : State} {n0 : Nat} {a0 : Array Value} {cz : Int32} {sf : Value} (hw : Hw a0 Z) (G : Ow.Glo Z cz sf) {u0 : Nat} (GS : GlS Z u0) {pa0 : Nat} {pa1 : Nat} {px0 : Int32} {px1 : Int32} {px2 : Int32} {px3 : Int32} {pk0 : ClassId} {pk1 : ClassId} {h0 : Heap} (O0 : Old Z n0 h0) (hf0 : Arv Z h0 pa0 pk0 .byte (1 : Int32) [(.int px0.toInt8.toInt32)] (.int 0)) (hf1 : Arv Z h0 pa1 pk1 .byte (3 : Int32) [(.int px1.toInt8.toInt32), (.int px2.toInt8.toInt32), (.int px3.toInt8.toInt32)] (.int 0)) (hn0 : n0 ≤ pa0) (hn1 : n0 ≤ pa1) (hc_px0 : nar .char px0 = px0) (hc_px1 : nar .char px1 = px1) (hc_px2 : nar .char px2 = px2) (hc_px3 : nar .char px3 = px3) :
    Ow.Con l Z EL1 n0 my13 jdk_43_method_13_code 3 (Option.some Jvm.ClassFile.FieldType.boolean) [] ({ frames := 0, cells := 0, slots := 0, locals := 0 } : Room) #[(.ref pa0), (.ref pa1)] [pa1, pa0] h0 (fun v h S' => (v = some (.int (0 : Int32)) ∧ h = h0 ∧ S' = [])) := by
  refine Ow.Con.enter (Ls := #[.val (.ref pa0), .val (.ref pa1), .unset]) (plainFor_of_name pn9) O0 (hEW hw) (hSA hw) ?_
  intro p e s m below meth c B
  have z0 := Ow.old_le O0
  have lu0 : (u0 : Nat) < n0 := O0.1 ▸ GS.2.lt
  have lpa0 : (pa0 : Nat) < h0.size := hf0.lt
  have lpa1 : (pa1 : Nat) < h0.size := hf1.lt
  refine Ow.aloadN (pc' := 1) B e14_0 ?_
  refine Ow.arrlen (pc' := 2) B e14_1 hf0 ?_
  refine Ow.aloadN (pc' := 3) B e14_2 ?_
  refine Ow.arrlen (pc' := 4) B e14_3 hf1 ?_
  refine Ow.icmpT (pc' := 34) B e14_4 (by decide) ?_
  refine Ow.iconst (pc' := 35) (x := (0 : Int32)) B e14_34 ?_
  exact Ow.retI (S' := []) (t := .boolean) B e14_35 (⟨rfl, rfl, rfl⟩)
set_option maxRecDepth 65536 in
set_option maxHeartbeats 40000000 in
theorem con_equals_71 {l : Launch} {Z : State} {n0 : Nat} {a0 : Array Value} {cz : Int32} {sf : Value} (hw : Hw a0 Z) (G : Ow.Glo Z cz sf) {u0 : Nat} (GS : GlS Z u0) {pa0 : Nat} {pa1 : Nat} {pa2 : Nat} {pa3 : Nat} {px0 : Int32} {px1 : Int32} {px2 : Int32} {px3 : Int32} {pk0 : ClassId} {pk1 : ClassId} {h0 : Heap} (O0 : Old Z n0 h0) (hf0 : Fld Z h0 pa0 "java/lang/String" "coder" "B" (.int (0 : Int32))) (hf1 : Fld Z h0 pa0 "java/lang/String" "value" "[B" (.ref pa2)) (hf2 : Exa Z h0 pa1 "java/lang/String") (hf3 : Fld Z h0 pa1 "java/lang/String" "coder" "B" (.int (0 : Int32))) (hf4 : Fld Z h0 pa1 "java/lang/String" "value" "[B" (.ref pa3)) (hf5 : Arv Z h0 pa2 pk0 .byte (1 : Int32) [(.int px0.toInt8.toInt32)] (.int 0)) (hf6 : Arv Z h0 pa3 pk1 .byte (3 : Int32) [(.int px1.toInt8.toInt32), (.int px2.toInt8.toInt32), (.int px3.toInt8.toInt32)] (.int 0)) (hn0 : n0 ≤ pa0) (hn1 : n0 ≤ pa1) (hn2 : n0 ≤ pa2) (hn3 : n0 ≤ pa3) (hd0 : pa0 ≠ pa1) (hc_px0 : nar .char px0 = px0) (hc_px1 : nar .char px1 = px1) (hc_px2 : nar .char px2 = px2) (hc_px3 : nar .char px3 = px3) :
    Ow.Con l Z EL1 n0 my14 jdk_42_method_66_code 3 (Option.some Jvm.ClassFile.FieldType.boolean) [] ({ frames := 1, cells := 0, slots := 0, locals := 14 } : Room) #[(.ref pa0), (.ref pa1)] [pa3, pa1, pa2, pa0] h0 (fun v h S' => (v = some (.int (0 : Int32)) ∧ h = h0 ∧ S' = [])) := by
  refine Ow.Con.enter (Ls := #[.val (.ref pa0), .val (.ref pa1), .unset]) (plainFor_of_name pn1) O0 (hEW hw) (hSA hw) ?_
  intro p e s m below meth c B
  have z0 := Ow.old_le O0
  have lu0 : (u0 : Nat) < n0 := O0.1 ▸ GS.2.lt
  have lpa0 : (pa0 : Nat) < h0.size := hf0.lt
  have lpa1 : (pa1 : Nat) < h0.size := hf2.lt
  have lpa2 : (pa2 : Nat) < h0.size := hf5.lt
  have lpa3 : (pa3 : Nat) < h0.size := hf6.lt
  refine Ow.aloadN (pc' := 1) B e13_0 ?_
  refine Ow.aloadN (pc' := 2) B e13_1 ?_
  refine Ow.acmpR (pc' := 7) (same := false) B e13_2 (decide_eq_false (fun q => absurd (show (pa0 : Nat) = pa1 from Value.ref.inj q) (by omega))) ?_
  refine Ow.aloadN (pc' := 8) B e13_7 ?_
  refine Ow.instYes (pc' := 11) B e13_8 (w93 hw) (Ins.self hf2) ?_
  refine Ow.ifF (pc' := 14) B e13_11 (by decide) ?_
  refine Ow.aloadN (pc' := 15) B e13_14 ?_
  refine Ow.checkcast (pc' := 18) B e13_15 (w93 hw) (Ins.self hf2) ?_
  refine Ow.astoreN (pc' := 19) (Ls' := #[.val (.ref pa0), .val (.ref pa1), .val (.ref pa1)]) B e13_18 ?_
  refine Ow.getstatic (pc' := 22) B e13_19 (w94 hw) Via.refl G.1 ?_
  refine Ow.ifF (pc' := 25) B e13_22 (feq (G.2.1)).1 ?_
  refine Ow.aloadN (pc' := 26) B e13_25 ?_
  refine Ow.getfield (pc' := 29) B e13_26 (w25 hw) Via.refl hf0 ?_
  refine Ow.aloadN (pc' := 30) B e13_29 ?_
  refine Ow.getfield (pc' := 33) B e13_30 (w25 hw) Via.refl hf3 ?_
  refine Ow.icmpF (pc' := 36) B e13_33 (by decide) ?_
  refine Ow.aloadN (pc' := 37) B e13_36 ?_
  refine Ow.getfield (pc' := 40) B e13_37 (w24 hw) Via.refl hf1 ?_
  refine Ow.aloadN (pc' := 41) B e13_40 ?_
  refine Ow.getfield (pc' := 44) B e13_41 (w24 hw) Via.refl hf4 ?_
  refine Ow.Go.old (fun o1 => ?_)
  refine Ow.callStatic (pc' := 47) (W := 0) (k' := 0) (n' := 0) (argsL := [(.ref pa2), (.ref pa3)]) (rest := []) B e13_44 (w95 hw) (w96 hw) (w97 hw) (w98 hw) (con_equals_70 hw G GS (pa0 := pa2) (pa1 := pa3) (px0 := px0) (px1 := px1) (px2 := px2) (px3 := px3) (pk0 := pk0) (pk1 := pk1) o1 hf5 hf6 (by omega) (by omega) hc_px0 hc_px1 hc_px2 hc_px3) pd11 ?_
  intro vq2 h3 S4 q2 zh3
  obtain ⟨rfl, rfl, rfl⟩ := q2
  refine Ow.Go.norm (S' := [pa3, pa1, pa2, pa0]) (st' := [(.int (0 : Int32))]) (fun _ q => List.mem_append_right _ q) rfl ?_
  refine Ow.ifT (pc' := 54) B e13_47 (by decide) ?_
  refine Ow.iconst (pc' := 55) (x := (0 : Int32)) B e13_54 ?_
  exact Ow.retI (S' := []) (t := .boolean) B e13_55 (⟨rfl, rfl, rfl⟩)
set_option maxRecDepth 65536 in
set_option maxHeartbeats 40000000 in
theorem con_equals_72 {l : Launch} {Z : State} {n0 : Nat} {a0 : Array Value} {cz : Int32} {sf : Value} (hw : Hw a0 Z) (G : Ow.Glo Z cz sf) {u0 : Nat} (GS : GlS Z u0) {pa0 : Nat} {pa1 : Nat} {px0 : Int32} {px1 : Int32} {px2 : Int32} {px3 : Int32} {pk0 : ClassId} {pk1 : ClassId} {h0 : Heap} (O0 : Old Z n0 h0) (hf0 : Arv Z h0 pa0 pk0 .byte (3 : Int32) [(.int px0.toInt8.toInt32), (.int px1.toInt8.toInt32), (.int px2.toInt8.toInt32)] (.int 0)) (hf1 : Arv Z h0 pa1 pk1 .byte (1 : Int32) [(.int px3.toInt8.toInt32)] (.int 0)) (hn0 : n0 ≤ pa0) (hn1 : n0 ≤ pa1) (hc_px0 : nar .char px0 = px0) (hc_px1 : nar .char px1 = px1) (hc_px2 : nar .char px2 = px2) (hc_px3 : nar .char px3 = px3) :
    Ow.Con l Z EL1 n0 my13 jdk_43_method_13_code 3 (Option.some Jvm.ClassFile.FieldType.boolean) [] ({ frames := 0, cells := 0, slots := 0, locals := 0 } : Room) #[(.ref pa0), (.ref pa1)] [pa0, pa1] h0 (fun v h S' => (v = some (.int (0 : Int32)) ∧ h = h0 ∧ S' = [])) := by
  refine Ow.Con.enter (Ls := #[.val (.ref pa0), .val (.ref pa1), .unset]) (plainFor_of_name pn9) O0 (hEW hw) (hSA hw) ?_
  intro p e s m below meth c B
  have z0 := Ow.old_le O0
  have lu0 : (u0 : Nat) < n0 := O0.1 ▸ GS.2.lt
  have lpa0 : (pa0 : Nat) < h0.size := hf0.lt
  have lpa1 : (pa1 : Nat) < h0.size := hf1.lt
  refine Ow.aloadN (pc' := 1) B e14_0 ?_
  refine Ow.arrlen (pc' := 2) B e14_1 hf0 ?_
  refine Ow.aloadN (pc' := 3) B e14_2 ?_
  refine Ow.arrlen (pc' := 4) B e14_3 hf1 ?_
  refine Ow.icmpT (pc' := 34) B e14_4 (by decide) ?_
  refine Ow.iconst (pc' := 35) (x := (0 : Int32)) B e14_34 ?_
  exact Ow.retI (S' := []) (t := .boolean) B e14_35 (⟨rfl, rfl, rfl⟩)
set_option maxRecDepth 65536 in
set_option maxHeartbeats 40000000 in
theorem con_equals_73 {l : Launch} {Z : State} {n0 : Nat} {a0 : Array Value} {cz : Int32} {sf : Value} (hw : Hw a0 Z) (G : Ow.Glo Z cz sf) {u0 : Nat} (GS : GlS Z u0) {pa0 : Nat} {pa1 : Nat} {pa2 : Nat} {pa3 : Nat} {px0 : Int32} {px1 : Int32} {px2 : Int32} {px3 : Int32} {pk0 : ClassId} {pk1 : ClassId} {h0 : Heap} (O0 : Old Z n0 h0) (hf0 : Fld Z h0 pa0 "java/lang/String" "coder" "B" (.int (0 : Int32))) (hf1 : Fld Z h0 pa0 "java/lang/String" "value" "[B" (.ref pa2)) (hf2 : Exa Z h0 pa1 "java/lang/String") (hf3 : Fld Z h0 pa1 "java/lang/String" "coder" "B" (.int (0 : Int32))) (hf4 : Fld Z h0 pa1 "java/lang/String" "value" "[B" (.ref pa3)) (hf5 : Arv Z h0 pa2 pk0 .byte (3 : Int32) [(.int px0.toInt8.toInt32), (.int px1.toInt8.toInt32), (.int px2.toInt8.toInt32)] (.int 0)) (hf6 : Arv Z h0 pa3 pk1 .byte (1 : Int32) [(.int px3.toInt8.toInt32)] (.int 0)) (hn0 : n0 ≤ pa0) (hn1 : n0 ≤ pa1) (hn2 : n0 ≤ pa2) (hn3 : n0 ≤ pa3) (hd0 : pa0 ≠ pa1) (hc_px0 : nar .char px0 = px0) (hc_px1 : nar .char px1 = px1) (hc_px2 : nar .char px2 = px2) (hc_px3 : nar .char px3 = px3) :
    Ow.Con l Z EL1 n0 my14 jdk_42_method_66_code 3 (Option.some Jvm.ClassFile.FieldType.boolean) [] ({ frames := 1, cells := 0, slots := 0, locals := 14 } : Room) #[(.ref pa0), (.ref pa1)] [pa2, pa0, pa3, pa1] h0 (fun v h S' => (v = some (.int (0 : Int32)) ∧ h = h0 ∧ S' = [])) := by
  refine Ow.Con.enter (Ls := #[.val (.ref pa0), .val (.ref pa1), .unset]) (plainFor_of_name pn1) O0 (hEW hw) (hSA hw) ?_
  intro p e s m below meth c B
  have z0 := Ow.old_le O0
  have lu0 : (u0 : Nat) < n0 := O0.1 ▸ GS.2.lt
  have lpa0 : (pa0 : Nat) < h0.size := hf0.lt
  have lpa1 : (pa1 : Nat) < h0.size := hf2.lt
  have lpa2 : (pa2 : Nat) < h0.size := hf5.lt
  have lpa3 : (pa3 : Nat) < h0.size := hf6.lt
  refine Ow.aloadN (pc' := 1) B e13_0 ?_
  refine Ow.aloadN (pc' := 2) B e13_1 ?_
  refine Ow.acmpR (pc' := 7) (same := false) B e13_2 (decide_eq_false (fun q => absurd (show (pa0 : Nat) = pa1 from Value.ref.inj q) (by omega))) ?_
  refine Ow.aloadN (pc' := 8) B e13_7 ?_
  refine Ow.instYes (pc' := 11) B e13_8 (w93 hw) (Ins.self hf2) ?_
  refine Ow.ifF (pc' := 14) B e13_11 (by decide) ?_
  refine Ow.aloadN (pc' := 15) B e13_14 ?_
  refine Ow.checkcast (pc' := 18) B e13_15 (w93 hw) (Ins.self hf2) ?_
  refine Ow.astoreN (pc' := 19) (Ls' := #[.val (.ref pa0), .val (.ref pa1), .val (.ref pa1)]) B e13_18 ?_
  refine Ow.getstatic (pc' := 22) B e13_19 (w94 hw) Via.refl G.1 ?_
  refine Ow.ifF (pc' := 25) B e13_22 (feq (G.2.1)).1 ?_
  refine Ow.aloadN (pc' := 26) B e13_25 ?_
  refine Ow.getfield (pc' := 29) B e13_26 (w25 hw) Via.refl hf0 ?_
  refine Ow.aloadN (pc' := 30) B e13_29 ?_
  refine Ow.getfield (pc' := 33) B e13_30 (w25 hw) Via.refl hf3 ?_
  refine Ow.icmpF (pc' := 36) B e13_33 (by decide) ?_
  refine Ow.aloadN (pc' := 37) B e13_36 ?_
  refine Ow.getfield (pc' := 40) B e13_37 (w24 hw) Via.refl hf1 ?_
  refine Ow.aloadN (pc' := 41) B e13_40 ?_
  refine Ow.getfield (pc' := 44) B e13_41 (w24 hw) Via.refl hf4 ?_
  refine Ow.Go.old (fun o1 => ?_)
  refine Ow.callStatic (pc' := 47) (W := 0) (k' := 0) (n' := 0) (argsL := [(.ref pa2), (.ref pa3)]) (rest := []) B e13_44 (w95 hw) (w96 hw) (w97 hw) (w98 hw) (con_equals_72 hw G GS (pa0 := pa2) (pa1 := pa3) (px0 := px0) (px1 := px1) (px2 := px2) (px3 := px3) (pk0 := pk0) (pk1 := pk1) o1 hf5 hf6 (by omega) (by omega) hc_px0 hc_px1 hc_px2 hc_px3) pd11 ?_
  intro vq2 h3 S4 q2 zh3
  obtain ⟨rfl, rfl, rfl⟩ := q2
  refine Ow.Go.norm (S' := [pa2, pa0, pa3, pa1]) (st' := [(.int (0 : Int32))]) (fun _ q => List.mem_append_right _ q) rfl ?_
  refine Ow.ifT (pc' := 54) B e13_47 (by decide) ?_
  refine Ow.iconst (pc' := 55) (x := (0 : Int32)) B e13_54 ?_
  exact Ow.retI (S' := []) (t := .boolean) B e13_55 (⟨rfl, rfl, rfl⟩)
set_option maxRecDepth 65536 in
set_option maxHeartbeats 40000000 in
theorem con_contains_74 {l : Launch} {Z : State} {n0 : Nat} {a0 : Array Value} {cz : Int32} {sf : Value} (hw : Hw a0 Z) (G : Ow.Glo Z cz sf) {u0 : Nat} (GS : GlS Z u0) {pa0 : Nat} {pa1 : Nat} {pa2 : Nat} {pa3 : Nat} {pa4 : Nat} {px0 : Int32} {px1 : Int32} {px2 : Int32} {px3 : Int32} {pk0 : ClassId} {pk1 : ClassId} {h0 : Heap} (O0 : Old Z n0 h0) (hf0 : Fld Z h0 pa0 "java/util/ImmutableCollections$Set12" "e0" "Ljava/lang/Object;" (.ref pa2)) (hf1 : Fld Z h0 pa0 "java/util/ImmutableCollections$Set12" "e1" "Ljava/lang/Object;" (.ref u0)) (hf2 : Exa Z h0 pa1 "java/lang/String") (hf3 : Fld Z h0 pa1 "java/lang/String" "coder" "B" (.int (0 : Int32))) (hf4 : Fld Z h0 pa1 "java/lang/String" "value" "[B" (.ref pa3)) (hf5 : Exa Z h0 pa2 "java/lang/String") (hf6 : Fld Z h0 pa2 "java/lang/String" "coder" "B" (.int (0 : Int32))) (hf7 : Fld Z h0 pa2 "java/lang/String" "value" "[B" (.ref pa4)) (hf8 : Arv Z h0 pa3 pk0 .byte (3 : Int32) [(.int px0.toInt8.toInt32), (.int px1.toInt8.toInt32), (.int px2.toInt8.toInt32)] (.int 0)) (hf9 : Arv Z h0 pa4 pk1 .byte (1 : Int32) [(.int px3.toInt8.toInt32)] (.int 0)) (hn0 : n0 ≤ pa0) (hn1 : n0 ≤ pa1) (hn2 : n0 ≤ pa2) (hn3 : n0 ≤ pa3) (hn4 : n0 ≤ pa4) (hd0 : pa1 ≠ pa2) (hd1 : u0 ≠ pa1) (hc_px0 : nar .char px0 = px0) (hc_px1 : nar .char px1 = px1) (hc_px2 : nar .char px2 = px2) (hc_px3 : nar .char px3 = px3) :
    Ow.Con l Z EL1 n0 my16 jdk_101_method_5_code 2 (Option.some Jvm.ClassFile.FieldType.boolean) [] ({ frames := 2, cells := 0, slots := 0, locals := 28 } : Room) #[(.ref pa0), (.ref pa1)] [pa3, pa1, pa4, pa2] h0 (fun v h S' => (v = some (.int (0 : Int32)) ∧ h = h0 ∧ S' = [])) := by
  refine Ow.Con.enter (Ls := #[.val (.ref pa0), .val (.ref pa1)]) (plainFor_of_name pn4) O0 (hEW hw) (hSA hw) ?_
  intro p e s m below meth c B
  have z0 := Ow.old_le O0
  have lu0 : (u0 : Nat) < n0 := O0.1 ▸ GS.2.lt
  have lpa0 : (pa0 : Nat) < h0.size := hf0.lt
  have lpa1 : (pa1 : Nat) < h0.size := hf2.lt
  have lpa2 : (pa2 : Nat) < h0.size := hf5.lt
  have lpa3 : (pa3 : Nat) < h0.size := hf8.lt
  have lpa4 : (pa4 : Nat) < h0.size := hf9.lt
  refine Ow.aloadN (pc' := 1) B e16_0 ?_
  refine Ow.aloadN (pc' := 2) B e16_1 ?_
  refine Ow.getfield (pc' := 5) B e16_2 (w66 hw) Via.refl hf0 ?_
  refine Ow.Go.old (fun o1 => ?_)
  refine Ow.callVirtual (pc' := 8) (W := 0) (k' := 0) (n' := 0) (argsL := [(.ref pa2)]) (rest := []) (K := "java/lang/String") B e16_5 (w116 hw) (w117 hw) (w130 hw) (w119 hw) (w90 hw) (w6 hw) (w92 hw) hf2 (con_equals_73 hw G GS (pa0 := pa1) (pa1 := pa2) (pa2 := pa3) (pa3 := pa4) (px0 := px0) (px1 := px1) (px2 := px2) (px3 := px3) (pk0 := pk0) (pk1 := pk1) o1 hf3 hf4 hf5 hf6 hf7 hf8 hf9 (by omega) (by omega) (by omega) (by omega) (by omega) hc_px0 hc_px1 hc_px2 hc_px3) pd12 ?_
  intro vq2 h3 S4 q2 zh3
  obtain ⟨rfl, rfl, rfl⟩ := q2
  refine Ow.Go.norm (S' := [pa3, pa1, pa4, pa2]) (st' := [(.int (0 : Int32))]) (fun _ q => List.mem_append_right _ q) rfl ?_
  refine Ow.ifF (pc' := 11) B e16_8 (by decide) ?_
  refine Ow.aloadN (pc' := 12) B e16_11 ?_
  refine Ow.getfield (pc' := 15) B e16_12 (w70 hw) Via.refl hf1 ?_
  refine Ow.aloadN (pc' := 16) B e16_15 ?_
  refine Ow.Go.old (fun o5 => ?_)
  have f6 := Exa.ext o5.2 GS.2
  refine Ow.objEq (pc' := 19) (W := 0) (K := "java/lang/Object") B e16_16 (w116 hw) (w117 hw) (w130 hw) (w130 hw) (w118 hw) (w131 hw) (by decide +kernel) f6 pd12 e20_0 e20_1 e20_2 e20_9 e20_10 (by omega) ?_
  refine Ow.ifT (pc' := 26) B e16_19 (by decide) ?_
  refine Ow.iconst (pc' := 27) (x := (0 : Int32)) B e16_26 ?_
  exact Ow.retI (S' := []) (t := .boolean) B e16_27 (⟨rfl, rfl, rfl⟩)
set_option maxRecDepth 65536 in
set_option maxHeartbeats 40000000 in
theorem con_equals_75 {l : Launch} {Z : State} {n0 : Nat} {a0 : Array Value} {cz : Int32} {sf : Value} (hw : Hw a0 Z) (G : Ow.Glo Z cz sf) {u0 : Nat} (GS : GlS Z u0) {pa0 : Nat} {pa1 : Nat} {pa2 : Nat} {pa3 : Nat} {px0 : Int32} {px1 : Int32} {pk0 : ClassId} {pk1 : ClassId} {h0 : Heap} (O0 : Old Z n0 h0) (hf0 : Fld Z h0 pa0 "java/lang/String" "coder" "B" (.int (0 : Int32))) (hf1 : Fld Z h0 pa0 "java/lang/String" "value" "[B" (.ref pa2)) (hf2 : Exa Z h0 pa1 "java/lang/String") (hf3 : Fld Z h0 pa1 "java/lang/String" "coder" "B" (.int (0 : Int32))) (hf4 : Fld Z h0 pa1 "java/lang/String" "value" "[B" (.ref pa3)) (hf5 : Arv Z h0 pa2 pk0 .byte (2 : Int32) [(.int px0.toInt8.toInt32), (.int px1.toInt8.toInt32)] (.int 0)) (hf6 : Arv Z h0 pa3 pk1 .byte (0 : Int32) [] (.int 0)) (hn0 : n0 ≤ pa0) (hn1 : n0 ≤ pa1) (hn2 : n0 ≤ pa2) (hd0 : pa0 ≠ pa1) (hc_px0 : nar .char px0 = px0) (hc_px1 : nar .char px1 = px1) :
    Ow.Con l Z EL1 n0 my14 jdk_42_method_66_code 3 (Option.some Jvm.ClassFile.FieldType.boolean) [] ({ frames := 1, cells := 0, slots := 0, locals := 14 } : Room) #[(.ref pa0), (.ref pa1)] [pa1, pa2, pa0] h0 (fun v h S' => (v = some (.int (0 : Int32)) ∧ h = h0 ∧ S' = [])) := by
  refine Ow.Con.enter (Ls := #[.val (.ref pa0), .val (.ref pa1), .unset]) (plainFor_of_name pn1) O0 (hEW hw) (hSA hw) ?_
  intro p e s m below meth c B
  have z0 := Ow.old_le O0
  have lu0 : (u0 : Nat) < n0 := O0.1 ▸ GS.2.lt
  have lpa0 : (pa0 : Nat) < h0.size := hf0.lt
  have lpa1 : (pa1 : Nat) < h0.size := hf2.lt
  have lpa2 : (pa2 : Nat) < h0.size := hf5.lt
  have lpa3 : (pa3 : Nat) < h0.size := hf6.lt
  refine Ow.aloadN (pc' := 1) B e13_0 ?_
  refine Ow.aloadN (pc' := 2) B e13_1 ?_
  refine Ow.acmpR (pc' := 7) (same := false) B e13_2 (decide_eq_false (fun q => absurd (show (pa0 : Nat) = pa1 from Value.ref.inj q) (by omega))) ?_
  refine Ow.aloadN (pc' := 8) B e13_7 ?_
  refine Ow.instYes (pc' := 11) B e13_8 (w93 hw) (Ins.self hf2) ?_
  refine Ow.ifF (pc' := 14) B e13_11 (by decide) ?_
  refine Ow.aloadN (pc' := 15) B e13_14 ?_
  refine Ow.checkcast (pc' := 18) B e13_15 (w93 hw) (Ins.self hf2) ?_
  refine Ow.astoreN (pc' := 19) (Ls' := #[.val (.ref pa0), .val (.ref pa1), .val (.ref pa1)]) B e13_18 ?_
  refine Ow.getstatic (pc' := 22) B e13_19 (w94 hw) Via.refl G.1 ?_
  refine Ow.ifF (pc' := 25) B e13_22 (feq (G.2.1)).1 ?_
  refine Ow.aloadN (pc' := 26) B e13_25 ?_
  refine Ow.getfield (pc' := 29) B e13_26 (w25 hw) Via.refl hf0 ?_
  refine Ow.aloadN (pc' := 30) B e13_29 ?_
  refine Ow.getfield (pc' := 33) B e13_30 (w25 hw) Via.refl hf3 ?_
  refine Ow.icmpF (pc' := 36) B e13_33 (by decide) ?_
  refine Ow.aloadN (pc' := 37) B e13_36 ?_
  refine Ow.getfield (pc' := 40) B e13_37 (w24 hw) Via.refl hf1 ?_
  refine Ow.aloadN (pc' := 41) B e13_40 ?_
  refine Ow.getfield (pc' := 44) B e13_41 (w24 hw) Via.refl hf4 ?_
  refine Ow.Go.old (fun o1 => ?_)
  refine Ow.callStatic (pc' := 47) (W := 0) (k' := 0) (n' := 0) (argsL := [(.ref pa2), (.ref pa3)]) (rest := []) B e13_44 (w95 hw) (w96 hw) (w97 hw) (w98 hw) (con_equals_40 hw G GS (pa0 := pa2) (pa1 := pa3) (px0 := px0) (px1 := px1) (pk0 := pk0) (pk1 := pk1) o1 hf5 hf6 (by omega) hc_px0 hc_px1) pd11 ?_
  intro vq2 h3 S4 q2 zh3
  obtain ⟨rfl, rfl, rfl⟩ := q2
  refine Ow.Go.norm (S' := [pa1, pa2, pa0]) (st' := [(.int (0 : Int32))]) (fun _ q => List.mem_append_right _ q) rfl ?_
  refine Ow.ifT (pc' := 54) B e13_47 (by decide) ?_
  refine Ow.iconst (pc' := 55) (x := (0 : Int32)) B e13_54 ?_
  exact Ow.retI (S' := []) (t := .boolean) B e13_55 (⟨rfl, rfl, rfl⟩)
set_option maxRecDepth 65536 in
set_option maxHeartbeats 40000000 in
theorem con_equals_76 {l : Launch} {Z : State} {n0 : Nat} {a0 : Array Value} {cz : Int32} {sf : Value} (hw : Hw a0 Z) (G : Ow.Glo Z cz sf) {u0 : Nat} (GS : GlS Z u0) {pa0 : Nat} {pa1 : Nat} {pa2 : Nat} {pa3 : Nat} {px0 : Int32} {px1 : Int32} {pk0 : ClassId} {pk1 : ClassId} {h0 : Heap} (O0 : Old Z n0 h0) (hf0 : Fld Z h0 pa0 "java/lang/String" "coder" "B" (.int (0 : Int32))) (hf1 : Fld Z h0 pa0 "java/lang/String" "value" "[B" (.ref pa2)) (hf2 : Exa Z h0 pa1 "java/lang/String") (hf3 : Fld Z h0 pa1 "java/lang/String" "coder" "B" (.int (0 : Int32))) (hf4 : Fld Z h0 pa1 "java/lang/String" "value" "[B" (.ref pa3)) (hf5 : Arv Z h0 pa2 pk0 .byte (0 : Int32) [] (.int 0)) (hf6 : Arv Z h0 pa3 pk1 .byte (2 : Int32) [(.int px0.toInt8.toInt32), (.int px1.toInt8.toInt32)] (.int 0)) (hn0 : n0 ≤ pa0) (hn1 : n0 ≤ pa1) (hn3 : n0 ≤ pa3) (hd0 : pa0 ≠ pa1) (hc_px0 : nar .char px0 = px0) (hc_px1 : nar .char px1 = px1) :
    Ow.Con l Z EL1 n0 my14 jdk_42_method_66_code 3 (Option.some Jvm.ClassFile.FieldType.boolean) [] ({ frames := 1, cells := 0, slots := 0, locals := 14 } : Room) #[(.ref pa0), (.ref pa1)] [pa0, pa3, pa1] h0 (fun v h S' => (v = some (.int (0 : Int32)) ∧ h = h0 ∧ S' = [])) := by
  refine Ow.Con.enter (Ls := #[.val (.ref pa0), .val (.ref pa1), .unset]) (plainFor_of_name pn1) O0 (hEW hw) (hSA hw) ?_
  intro p e s m below meth c B
  have z0 := Ow.old_le O0
  have lu0 : (u0 : Nat) < n0 := O0.1 ▸ GS.2.lt
  have lpa0 : (pa0 : Nat) < h0.size := hf0.lt
  have lpa1 : (pa1 : Nat) < h0.size := hf2.lt
  have lpa2 : (pa2 : Nat) < h0.size := hf5.lt
  have lpa3 : (pa3 : Nat) < h0.size := hf6.lt
  refine Ow.aloadN (pc' := 1) B e13_0 ?_
  refine Ow.aloadN (pc' := 2) B e13_1 ?_
  refine Ow.acmpR (pc' := 7) (same := false) B e13_2 (decide_eq_false (fun q => absurd (show (pa0 : Nat) = pa1 from Value.ref.inj q) (by omega))) ?_
  refine Ow.aloadN (pc' := 8) B e13_7 ?_
  refine Ow.instYes (pc' := 11) B e13_8 (w93 hw) (Ins.self hf2) ?_
  refine Ow.ifF (pc' := 14) B e13_11 (by decide) ?_
  refine Ow.aloadN (pc' := 15) B e13_14 ?_
  refine Ow.checkcast (pc' := 18) B e13_15 (w93 hw) (Ins.self hf2) ?_
  refine Ow.astoreN (pc' := 19) (Ls' := #[.val (.ref pa0), .val (.ref pa1), .val (.ref pa1)]) B e13_18 ?_
  refine Ow.getstatic (pc' := 22) B e13_19 (w94 hw) Via.refl G.1 ?_
  refine Ow.ifF (pc' := 25) B e13_22 (feq (G.2.1)).1 ?_
  refine Ow.aloadN (pc' := 26) B e13_25 ?_
  refine Ow.getfield (pc' := 29) B e13_26 (w25 hw) Via.refl hf0 ?_
  refine Ow.aloadN (pc' := 30) B e13_29 ?_
  refine Ow.getfield (pc' := 33) B e13_30 (w25 hw) Via.refl hf3 ?_
  refine Ow.icmpF (pc' := 36) B e13_33 (by decide) ?_
  refine Ow.aloadN (pc' := 37) B e13_36 ?_
  refine Ow.getfield (pc' := 40) B e13_37 (w24 hw) Via.refl hf1 ?_
  refine Ow.aloadN (pc' := 41) B e13_40 ?_
  refine Ow.getfield (pc' := 44) B e13_41 (w24 hw) Via.refl hf4 ?_
  refine Ow.Go.old (fun o1 => ?_)
  refine Ow.callStatic (pc' := 47) (W := 0) (k' := 0) (n' := 0) (argsL := [(.ref pa2), (.ref pa3)]) (rest := []) B e13_44 (w95 hw) (w96 hw) (w97 hw) (w98 hw) (con_equals_38 hw G GS (pa0 := pa2) (pa1 := pa3) (px0 := px0) (px1 := px1) (pk0 := pk0) (pk1 := pk1) o1 hf5 hf6 (by omega) hc_px0 hc_px1) pd11 ?_
  intro vq2 h3 S4 q2 zh3
  obtain ⟨rfl, rfl, rfl⟩ := q2
  refine Ow.Go.norm (S' := [pa0, pa3, pa1]) (st' := [(.int (0 : Int32))]) (fun _ q => List.mem_append_right _ q) rfl ?_
  refine Ow.ifT (pc' := 54) B e13_47 (by decide) ?_
  refine Ow.iconst (pc' := 55) (x := (0 : Int32)) B e13_54 ?_
  exact Ow.retI (S' := []) (t := .boolean) B e13_55 (⟨rfl, rfl, rfl⟩)
set_option maxRecDepth 65536 in
set_option maxHeartbeats 40000000 in
theorem con_contains_77 {l : Launch} {Z : State} {n0 : Nat} {a0 : Array Value} {cz : Int32} {sf : Value} (hw : Hw a0 Z) (G : Ow.Glo Z cz sf) {u0 : Nat} (GS : GlS Z u0) {pa0 : Nat} {pa1 : Nat} {pa2 : Nat} {pa3 : Nat} {pa4 : Nat} {px0 : Int32} {px1 : Int32} {pk0 : ClassId} {pk1 : ClassId} {h0 : Heap} (O0 : Old Z n0 h0) (hf0 : Fld Z h0 pa0 "java/util/ImmutableCollections$Set12" "e0" "Ljava/lang/Object;" (.ref pa2)) (hf1 : Fld Z h0 pa0 "java/util/ImmutableCollections$Set12" "e1" "Ljava/lang/Object;" (.ref u0)) (hf2 : Exa Z h0 pa1 "java/lang/String") (hf3 : Fld Z h0 pa1 "java/lang/String" "coder" "B" (.int (0 : Int32))) (hf4 : Fld Z h0 pa1 "java/lang/String" "value" "[B" (.ref pa3)) (hf5 : Exa Z h0 pa2 "java/lang/String") (hf6 : Fld Z h0 pa2 "java/lang/String" "coder" "B" (.int (0 : Int32))) (hf7 : Fld Z h0 pa2 "java/lang/String" "value" "[B" (.ref pa4)) (hf8 : Arv Z h0 pa3 pk0 .byte (0 : Int32) [] (.int 0)) (hf9 : Arv Z h0 pa4 pk1 .byte (2 : Int32) [(.int px0.toInt8.toInt32), (.int px1.toInt8.toInt32)] (.int 0)) (hn0 : n0 ≤ pa0) (hn1 : n0 ≤ pa1) (hn2 : n0 ≤ pa2) (hn4 : n0 ≤ pa4) (hd0 : pa1 ≠ pa2) (hd1 : u0 ≠ pa1) (hc_px0 : nar .char px0 = px0) (hc_px1 : nar .char px1 = px1) :
    Ow.Con l Z EL1 n0 my16 jdk_101_method_5_code 2 (Option.some Jvm.ClassFile.FieldType.boolean) [] ({ frames := 2, cells := 0, slots := 0, locals := 28 } : Room) #[(.ref pa0), (.ref pa1)] [pa1, pa4, pa2] h0 (fun v h S' => (v = some (.int (0 : Int32)) ∧ h = h0 ∧ S' = [])) := by
  refine Ow.Con.enter (Ls := #[.val (.ref pa0), .val (.ref pa1)]) (plainFor_of_name pn4) O0 (hEW hw) (hSA hw) ?_
  intro p e s m below meth c B
  have z0 := Ow.old_le O0
  have lu0 : (u0 : Nat) < n0 := O0.1 ▸ GS.2.lt
  have lpa0 : (pa0 : Nat) < h0.size := hf0.lt
  have lpa1 : (pa1 : Nat) < h0.size := hf2.lt
  have lpa2 : (pa2 : Nat) < h0.size := hf5.lt
  have lpa3 : (pa3 : Nat) < h0.size := hf8.lt
  have lpa4 : (pa4 : Nat) < h0.size := hf9.lt
  refine Ow.aloadN (pc' := 1) B e16_0 ?_
  refine Ow.aloadN (pc' := 2) B e16_1 ?_
  refine Ow.getfield (pc' := 5) B e16_2 (w66 hw) Via.refl hf0 ?_
  refine Ow.Go.old (fun o1 => ?_)
  refine Ow.callVirtual (pc' := 8) (W := 0) (k' := 0) (n' := 0) (argsL := [(.ref pa2)]) (rest := []) (K := "java/lang/String") B e16_5 (w116 hw) (w117 hw) (w130 hw) (w119 hw) (w90 hw) (w6 hw) (w92 hw) hf2 (con_equals_76 hw G GS (pa0 := pa1) (pa1 := pa2) (pa2 := pa3) (pa3 := pa4) (px0 := px0) (px1 := px1) (pk0 := pk0) (pk1 := pk1) o1 hf3 hf4 hf5 hf6 hf7 hf8 hf9 (by omega) (by omega) (by omega) (by omega) hc_px0 hc_px1) pd12 ?_
  intro vq2 h3 S4 q2 zh3
  obtain ⟨rfl, rfl, rfl⟩ := q2
  refine Ow.Go.norm (S' := [pa1, pa4, pa2]) (st' := [(.int (0 : Int32))]) (fun _ q => List.mem_append_right _ q) rfl ?_
  refine Ow.ifF (pc' := 11) B e16_8 (by decide) ?_
  refine Ow.aloadN (pc' := 12) B e16_11 ?_
  refine Ow.getfield (pc' := 15) B e16_12 (w70 hw) Via.refl hf1 ?_
  refine Ow.aloadN (pc' := 16) B e16_15 ?_
  refine Ow.Go.old (fun o5 => ?_)
  have f6 := Exa.ext o5.2 GS.2
  refine Ow.objEq (pc' := 19) (W := 0) (K := "java/lang/Object") B e16_16 (w116 hw) (w117 hw) (w130 hw) (w130 hw) (w118 hw) (w131 hw) (by decide +kernel) f6 pd12 e20_0 e20_1 e20_2 e20_9 e20_10 (by omega) ?_
  refine Ow.ifT (pc' := 26) B e16_19 (by decide) ?_
  refine Ow.iconst (pc' := 27) (x := (0 : Int32)) B e16_26 ?_
  exact Ow.retI (S' := []) (t := .boolean) B e16_27 (⟨rfl, rfl, rfl⟩)
set_option maxRecDepth 65536 in
set_option maxHeartbeats 40000000 in
theorem con_equals_78 {l : Launch} {Z : State} {n0 : Nat} {a0 : Array Value} {cz : Int32} {sf : Value} (hw : Hw a0 Z) (G : Ow.Glo Z cz sf) {u0 : Nat} (GS : GlS Z u0) {pa0 : Nat} {pa1 : Nat} {px0 : Int32} {px1 : Int32} {px2 : Int32} {pk0 : ClassId} {pk1 : ClassId} {h0 : Heap} (O0 : Old Z n0 h0) (hf0 : Arv Z h0 pa0 pk0 .byte (2 : Int32) [(.int px0.toInt8.toInt32), (.int px1.toInt8.toInt32)] (.int 0)) (hf1 : Arv Z h0 pa1 pk1 .byte (1 : Int32) [(.int px2.toInt8.toInt32)] (.int 0)) (hn0 : n0 ≤ pa0) (hn1 : n0 ≤ pa1) (hc_px0 : nar .char px0 = px0) (hc_px1 : nar .char px1 = px1) (hc_px2 : nar .char px2 = px2) :
    Ow.Con l Z EL1 n0 my13 jdk_43_method_13_code 3 (Option.some Jvm.ClassFile.FieldType.boolean) [] ({ frames := 0, cells := 0, slots := 0, locals := 0 } : Room) #[(.ref pa0), (.ref pa1)] [pa1, pa0] h0 (fun v h S' => (v = some (.int (0 : Int32)) ∧ h = h0 ∧ S' = [])) := by
  refine Ow.Con.enter (Ls := #[.val (.ref pa0), .val (.ref pa1), .unset]) (plainFor_of_name pn9) O0 (hEW hw) (hSA hw) ?_
  intro p e s m below meth c B
  have z0 := Ow.old_le O0
  have lu0 : (u0 : Nat) < n0 := O0.1 ▸ GS.2.lt
  have lpa0 : (pa0 : Nat) < h0.size := hf0.lt
  have lpa1 : (pa1 : Nat) < h0.size := hf1.lt
  refine Ow.aloadN (pc' := 1) B e14_0 ?_
  refine Ow.arrlen (pc' := 2) B e14_1 hf0 ?_
  refine Ow.aloadN (pc' := 3) B e14_2 ?_
  refine Ow.arrlen (pc' := 4) B e14_3 hf1 ?_
  refine Ow.icmpT (pc' := 34) B e14_4 (by decide) ?_
  refine Ow.iconst (pc' := 35) (x := (0 : Int32)) B e14_34 ?_
  exact Ow.retI (S' := []) (t := .boolean) B e14_35 (⟨rfl, rfl, rfl⟩)
set_option maxRecDepth 65536 in
set_option maxHeartbeats 40000000 in
theorem con_equals_79 {l : Launch} {Z : State} {n0 : Nat} {a0 : Array Value} {cz : Int32} {sf : Value} (hw : Hw a0 Z) (G : Ow.Glo Z cz sf) {u0 : Nat} (GS : GlS Z u0) {pa0 : Nat} {pa1 : Nat} {pa2 : Nat} {pa3 : Nat} {px0 : Int32} {px1 : Int32} {px2 : Int32} {pk0 : ClassId} {pk1 : ClassId} {h0 : Heap} (O0 : Old Z n0 h0) (hf0 : Fld Z h0 pa0 "java/lang/String" "coder" "B" (.int (0 : Int32))) (hf1 : Fld Z h0 pa0 "java/lang/String" "value" "[B" (.ref pa2)) (hf2 : Exa Z h0 pa1 "java/lang/String") (hf3 : Fld Z h0 pa1 "java/lang/String" "coder" "B" (.int (0 : Int32))) (hf4 : Fld Z h0 pa1 "java/lang/String" "value" "[B" (.ref pa3)) (hf5 : Arv Z h0 pa2 pk0 .byte (2 : Int32) [(.int px0.toInt8.toInt32), (.int px1.toInt8.toInt32)] (.int 0)) (hf6 : Arv Z h0 pa3 pk1 .byte (1 : Int32) [(.int px2.toInt8.toInt32)] (.int 0)) (hn0 : n0 ≤ pa0) (hn1 : n0 ≤ pa1) (hn2 : n0 ≤ pa2) (hn3 : n0 ≤ pa3) (hd0 : pa0 ≠ pa1) (hc_px0 : nar .char px0 = px0) (hc_px1 : nar .char px1 = px1) (hc_px2 : nar .char px2 = px2) :
    Ow.Con l Z EL1 n0 my14 jdk_42_method_66_code 3 (Option.some Jvm.ClassFile.FieldType.boolean) [] ({ frames := 1, cells := 0, slots := 0, locals := 14 } : Room) #[(.ref pa0), (.ref pa1)] [pa3, pa1, pa2, pa0] h0 (fun v h S' => (v = some (.int (0 : Int32)) ∧ h = h0 ∧ S' = [])) := by
  refine Ow.Con.enter (Ls := #[.val (.ref pa0), .val (.ref pa1), .unset]) (plainFor_of_name pn1) O0 (hEW hw) (hSA hw) ?_
  intro p e s m below meth c B
  have z0 := Ow.old_le O0
  have lu0 : (u0 : Nat) < n0 := O0.1 ▸ GS.2.lt
  have lpa0 : (pa0 : Nat) < h0.size := hf0.lt
  have lpa1 : (pa1 : Nat) < h0.size := hf2.lt
  have lpa2 : (pa2 : Nat) < h0.size := hf5.lt
  have lpa3 : (pa3 : Nat) < h0.size := hf6.lt
  refine Ow.aloadN (pc' := 1) B e13_0 ?_
  refine Ow.aloadN (pc' := 2) B e13_1 ?_
  refine Ow.acmpR (pc' := 7) (same := false) B e13_2 (decide_eq_false (fun q => absurd (show (pa0 : Nat) = pa1 from Value.ref.inj q) (by omega))) ?_
  refine Ow.aloadN (pc' := 8) B e13_7 ?_
  refine Ow.instYes (pc' := 11) B e13_8 (w93 hw) (Ins.self hf2) ?_
  refine Ow.ifF (pc' := 14) B e13_11 (by decide) ?_
  refine Ow.aloadN (pc' := 15) B e13_14 ?_
  refine Ow.checkcast (pc' := 18) B e13_15 (w93 hw) (Ins.self hf2) ?_
  refine Ow.astoreN (pc' := 19) (Ls' := #[.val (.ref pa0), .val (.ref pa1), .val (.ref pa1)]) B e13_18 ?_
  refine Ow.getstatic (pc' := 22) B e13_19 (w94 hw) Via.refl G.1 ?_
  refine Ow.ifF (pc' := 25) B e13_22 (feq (G.2.1)).1 ?_
  refine Ow.aloadN (pc' := 26) B e13_25 ?_
  refine Ow.getfield (pc' := 29) B e13_26 (w25 hw) Via.refl hf0 ?_
  refine Ow.aloadN (pc' := 30) B e13_29 ?_
  refine Ow.getfield (pc' := 33) B e13_30 (w25 hw) Via.refl hf3 ?_
  refine Ow.icmpF (pc' := 36) B e13_33 (by decide) ?_
  refine Ow.aloadN (pc' := 37) B e13_36 ?_
  refine Ow.getfield (pc' := 40) B e13_37 (w24 hw) Via.refl hf1 ?_
  refine Ow.aloadN (pc' := 41) B e13_40 ?_
  refine Ow.getfield (pc' := 44) B e13_41 (w24 hw) Via.refl hf4 ?_
  refine Ow.Go.old (fun o1 => ?_)
  refine Ow.callStatic (pc' := 47) (W := 0) (k' := 0) (n' := 0) (argsL := [(.ref pa2), (.ref pa3)]) (rest := []) B e13_44 (w95 hw) (w96 hw) (w97 hw) (w98 hw) (con_equals_78 hw G GS (pa0 := pa2) (pa1 := pa3) (px0 := px0) (px1 := px1) (px2 := px2) (pk0 := pk0) (pk1 := pk1) o1 hf5 hf6 (by omega) (by omega) hc_px0 hc_px1 hc_px2) pd11 ?_
  intro vq2 h3 S4 q2 zh3
  obtain ⟨rfl, rfl, rfl⟩ := q2
  refine Ow.Go.norm (S' := [pa3, pa1, pa2, pa0]) (st' := [(.int (0 : Int32))]) (fun _ q => List.mem_append_right _ q) rfl ?_
  refine Ow.ifT (pc' := 54) B e13_47 (by decide) ?_
  refine Ow.iconst (pc' := 55) (x := (0 : Int32)) B e13_54 ?_
  exact Ow.retI (S' := []) (t := .boolean) B e13_55 (⟨rfl, rfl, rfl⟩)
set_option maxRecDepth 65536 in
set_option maxHeartbeats 40000000 in
theorem con_equals_80 {l : Launch} {Z : State} {n0 : Nat} {a0 : Array Value} {cz : Int32} {sf : Value} (hw : Hw a0 Z) (G : Ow.Glo Z cz sf) {u0 : Nat} (GS : GlS Z u0) {pa0 : Nat} {pa1 : Nat} {px0 : Int32} {px1 : Int32} {px2 : Int32} {pk0 : ClassId} {pk1 : ClassId} {h0 : Heap} (O0 : Old Z n0 h0) (hf0 : Arv Z h0 pa0 pk0 .byte (1 : Int32) [(.int px0.toInt8.toInt32)] (.int 0)) (hf1 : Arv Z h0 pa1 pk1 .byte (2 : Int32) [(.int px1.toInt8.toInt32), (.int px2.toInt8.toInt32)] (.int 0)) (hn0 : n0 ≤ pa0) (hn1 : n0 ≤ pa1) (hc_px0 : nar .char px0 = px0) (hc_px1 : nar .char px1 = px1) (hc_px2 : nar .char px2 = px2) :
    Ow.Con l Z EL1 n0 my13 jdk_43_method_13_code 3 (Option.some Jvm.ClassFile.FieldType.boolean) [] ({ frames := 0, cells := 0, slots := 0, locals := 0 } : Room) #[(.ref pa0), (.ref pa1)] [pa0, pa1] h0 (fun v h S' => (v = some (.int (0 : Int32)) ∧ h = h0 ∧ S' = [])) := by
  refine Ow.Con.enter (Ls := #[.val (.ref pa0), .val (.ref pa1), .unset]) (plainFor_of_name pn9) O0 (hEW hw) (hSA hw) ?_
  intro p e s m below meth c B
  have z0 := Ow.old_le O0
  have lu0 : (u0 : Nat) < n0 := O0.1 ▸ GS.2.lt
  have lpa0 : (pa0 : Nat) < h0.size := hf0.lt
  have lpa1 : (pa1 : Nat) < h0.size := hf1.lt
  refine Ow.aloadN (pc' := 1) B e14_0 ?_
  refine Ow.arrlen (pc' := 2) B e14_1 hf0 ?_
  refine Ow.aloadN (pc' := 3) B e14_2 ?_
  refine Ow.arrlen (pc' := 4) B e14_3 hf1 ?_
  refine Ow.icmpT (pc' := 34) B e14_4 (by decide) ?_
  refine Ow.iconst (pc' := 35) (x := (0 : Int32)) B e14_34 ?_
  exact Ow.retI (S' := []) (t := .boolean) B e14_35 (⟨rfl, rfl, rfl⟩)
set_option maxRecDepth 65536 in
set_option maxHeartbeats 40000000 in
theorem con_equals_81 {l : Launch} {Z : State} {n0 : Nat} {a0 : Array Value} {cz : Int32} {sf : Value} (hw : Hw a0 Z) (G : Ow.Glo Z cz sf) {u0 : Nat} (GS : GlS Z u0) {pa0 : Nat} {pa1 : Nat} {pa2 : Nat} {pa3 : Nat} {px0 : Int32} {px1 : Int32} {px2 : Int32} {pk0 : ClassId} {pk1 : ClassId} {h0 : Heap} (O0 : Old Z n0 h0) (hf0 : Fld Z h0 pa0 "java/lang/String" "coder" "B" (.int (0 : Int32))) (hf1 : Fld Z h0 pa0 "java/lang/String" "value" "[B" (.ref pa2)) (hf2 : Exa Z h0 pa1 "java/lang/String") (hf3 : Fld Z h0 pa1 "java/lang/String" "coder" "B" (.int (0 : Int32))) (hf4 : Fld Z h0 pa1 "java/lang/String" "value" "[B" (.ref pa3)) (hf5 : Arv Z h0 pa2 pk0 .byte (1 : Int32) [(.int px0.toInt8.toInt32)] (.int 0)) (hf6 : Arv Z h0 pa3 pk1 .byte (2 : Int32) [(.int px1.toInt8.toInt32), (.int px2.toInt8.toInt32)] (.int 0)) (hn0 : n0 ≤ pa0) (hn1 : n0 ≤ pa1) (hn2 : n0 ≤ pa2) (hn3 : n0 ≤ pa3) (hd0 : pa0 ≠ pa1) (hc_px0 : nar .char px0 = px0) (hc_px1 : nar .char px1 = px1) (hc_px2 : nar .char px2 = px2) :
    Ow.Con l Z EL1 n0 my14 jdk_42_method_66_code 3 (Option.some Jvm.ClassFile.FieldType.boolean) [] ({ frames := 1, cells := 0, slots := 0, locals := 14 } : Room) #[(.ref pa0), (.ref pa1)] [pa2, pa0, pa3, pa1] h0 (fun v h S' => (v = some (.int (0 : Int32)) ∧ h = h0 ∧ S' = [])) := by
  refine Ow.Con.enter (Ls := #[.val (.ref pa0), .val (.ref pa1), .unset]) (plainFor_of_name pn1) O0 (hEW hw) (hSA hw) ?_
  intro p e s m below meth c B
  have z0 := Ow.old_le O0
  have lu0 : (u0 : Nat) < n0 := O0.1 ▸ GS.2.lt
  have lpa0 : (pa0 : Nat) < h0.size := hf0.lt
  have lpa1 : (pa1 : Nat) < h0.size := hf2.lt
  have lpa2 : (pa2 : Nat) < h0.size := hf5.lt
  have lpa3 : (pa3 : Nat) < h0.size := hf6.lt
  refine Ow.aloadN (pc' := 1) B e13_0 ?_
  refine Ow.aloadN (pc' := 2) B e13_1 ?_
  refine Ow.acmpR (pc' := 7) (same := false) B e13_2 (decide_eq_false (fun q => absurd (show (pa0 : Nat) = pa1 from Value.ref.inj q) (by omega))) ?_
  refine Ow.aloadN (pc' := 8) B e13_7 ?_
  refine Ow.instYes (pc' := 11) B e13_8 (w93 hw) (Ins.self hf2) ?_
  refine Ow.ifF (pc' := 14) B e13_11 (by decide) ?_
  refine Ow.aloadN (pc' := 15) B e13_14 ?_
  refine Ow.checkcast (pc' := 18) B e13_15 (w93 hw) (Ins.self hf2) ?_
  refine Ow.astoreN (pc' := 19) (Ls' := #[.val (.ref pa0), .val (.ref pa1), .val (.ref pa1)]) B e13_18 ?_
  refine Ow.getstatic (pc' := 22) B e13_19 (w94 hw) Via.refl G.1 ?_
  refine Ow.ifF (pc' := 25) B e13_22 (feq (G.2.1)).1 ?_
  refine Ow.aloadN (pc' := 26) B e13_25 ?_
  refine Ow.getfield (pc' := 29) B e13_26 (w25 hw) Via.refl hf0 ?_
  refine Ow.aloadN (pc' := 30) B e13_29 ?_
  refine Ow.getfield (pc' := 33) B e13_30 (w25 hw) Via.refl hf3 ?_
  refine Ow.icmpF (pc' := 36) B e13_33 (by decide) ?_
  refine Ow.aloadN (pc' := 37) B e13_36 ?_
  refine Ow.getfield (pc' := 40) B e13_37 (w24 hw) Via.refl hf1 ?_
  refine Ow.aloadN (pc' := 41) B e13_40 ?_
  refine Ow.getfield (pc' := 44) B e13_41 (w24 hw) Via.refl hf4 ?_
  refine Ow.Go.old (fun o1 => ?_)
  refine Ow.callStatic (pc' := 47) (W := 0) (k' := 0) (n' := 0) (argsL := [(.ref pa2), (.ref pa3)]) (rest := []) B e13_44 (w95 hw) (w96 hw) (w97 hw) (w98 hw) (con_equals_80 hw G GS (pa0 := pa2) (pa1 := pa3) (px0 := px0) (px1 := px1) (px2 := px2) (pk0 := pk0) (pk1 := pk1) o1 hf5 hf6 (by omega) (by omega) hc_px0 hc_px1 hc_px2) pd11 ?_
  intro vq2 h3 S4 q2 zh3
  obtain ⟨rfl, rfl, rfl⟩ := q2
  refine Ow.Go.norm (S' := [pa2, pa0, pa3, pa1]) (st' := [(.int (0 : Int32))]) (fun _ q => List.mem_append_right _ q) rfl ?_
  refine Ow.ifT (pc' := 54) B e13_47 (by decide) ?_
  refine Ow.iconst (pc' := 55) (x := (0 : Int32)) B e13_54 ?_
  exact Ow.retI (S' := []) (t := .boolean) B e13_55 (⟨rfl, rfl, rfl⟩)
set_option maxRecDepth 65536 in
set_option maxHeartbeats 40000000 in
theorem con_contains_82 {l : Launch} {Z : State} {n0 : Nat} {a0 : Array Value} {cz : Int32} {sf : Value} (hw : Hw a0 Z) (G : Ow.Glo Z cz sf) {u0 : Nat} (GS : GlS Z u0) {pa0 : Nat} {pa1 : Nat} {pa2 : Nat} {pa3 : Nat} {pa4 : Nat} {px0 : Int32} {px1 : Int32} {px2 : Int32} {pk0 : ClassId} {pk1 : ClassId} {h0 : Heap} (O0 : Old Z n0 h0) (hf0 : Fld Z h0 pa0 "java/util/ImmutableCollections$Set12" "e0" "Ljava/lang/Object;" (.ref pa2)) (hf1 : Fld Z h0 pa0 "java/util/ImmutableCollections$Set12" "e1" "Ljava/lang/Object;" (.ref u0)) (hf2 : Exa Z h0 pa1 "java/lang/String") (hf3 : Fld Z h0 pa1 "java/lang/String" "coder" "B" (.int (0 : Int32))) (hf4 : Fld Z h0 pa1 "java/lang/String" "value" "[B" (.ref pa3)) (hf5 : Exa Z h0 pa2 "java/lang/String") (hf6 : Fld Z h0 pa2 "java/lang/String" "coder" "B" (.int (0 : Int32))) (hf7 : Fld Z h0 pa2 "java/lang/String" "value" "[B" (.ref pa4)) (hf8 : Arv Z h0 pa3 pk0 .byte (1 : Int32) [(.int px0.toInt8.toInt32)] (.int 0)) (hf9 : Arv Z h0 pa4 pk1 .byte (2 : Int32) [(.int px1.toInt8.toInt32), (.int px2.toInt8.toInt32)] (.int 0)) (hn0 : n0 ≤ pa0) (hn1 : n0 ≤ pa1) (hn2 : n0 ≤ pa2) (hn3 : n0 ≤ pa3) (hn4 : n0 ≤ pa4) (hd0 : pa1 ≠ pa2) (hd1 : u0 ≠ pa1) (hc_px0 : nar .char px0 = px0) (hc_px1 : nar .char px1 = px1) (hc_px2 : nar .char px2 = px2) :
    Ow.Con l Z EL1 n0 my16 jdk_101_method_5_code 2 (Option.some Jvm.ClassFile.FieldType.boolean) [] ({ frames := 2, cells := 0, slots := 0, locals := 28 } : Room) #[(.ref pa0), (.ref pa1)] [pa3, pa1, pa4, pa2] h0 (fun v h S' => (v = some (.int (0 : Int32)) ∧ h = h0 ∧ S' = [])) := by
  refine Ow.Con.enter (Ls := #[.val (.ref pa0), .val (.ref pa1)]) (plainFor_of_name pn4) O0 (hEW hw) (hSA hw) ?_
  intro p e s m below meth c B
  have z0 := Ow.old_le O0
  have lu0 : (u0 : Nat) < n0 := O0.1 ▸ GS.2.lt
  have lpa0 : (pa0 : Nat) < h0.size := hf0.lt
  have lpa1 : (pa1 : Nat) < h0.size := hf2.lt
  have lpa2 : (pa2 : Nat) < h0.size := hf5.lt
  have lpa3 : (pa3 : Nat) < h0.size := hf8.lt
  have lpa4 : (pa4 : Nat) < h0.size := hf9.lt
  refine Ow.aloadN (pc' := 1) B e16_0 ?_
  refine Ow.aloadN (pc' := 2) B e16_1 ?_
  refine Ow.getfield (pc' := 5) B e16_2 (w66 hw) Via.refl hf0 ?_
  refine Ow.Go.old (fun o1 => ?_)
  refine Ow.callVirtual (pc' := 8) (W := 0) (k' := 0) (n' := 0) (argsL := [(.ref pa2)]) (rest := []) (K := "java/lang/String") B e16_5 (w116 hw) (w117 hw) (w130 hw) (w119 hw) (w90 hw) (w6 hw) (w92 hw) hf2 (con_equals_81 hw G GS (pa0 := pa1) (pa1 := pa2) (pa2 := pa3) (pa3 := pa4) (px0 := px0) (px1 := px1) (px2 := px2) (pk0 := pk0) (pk1 := pk1) o1 hf3 hf4 hf5 hf6 hf7 hf8 hf9 (by omega) (by omega) (by omega) (by omega) (by omega) hc_px0 hc_px1 hc_px2) pd12 ?_
  intro vq2 h3 S4 q2 zh3
  obtain ⟨rfl, rfl, rfl⟩ := q2
  refine Ow.Go.norm (S' := [pa3, pa1, pa4, pa2]) (st' := [(.int (0 : Int32))]) (fun _ q => List.mem_append_right _ q) rfl ?_
  refine Ow.ifF (pc' := 11) B e16_8 (by decide) ?_
  refine Ow.aloadN (pc' := 12) B e16_11 ?_
  refine Ow.getfield (pc' := 15) B e16_12 (w70 hw) Via.refl hf1 ?_
  refine Ow.aloadN (pc' := 16) B e16_15 ?_
  refine Ow.Go.old (fun o5 => ?_)
  have f6 := Exa.ext o5.2 GS.2
  refine Ow.objEq (pc' := 19) (W := 0) (K := "java/lang/Object") B e16_16 (w116 hw) (w117 hw) (w130 hw) (w130 hw) (w118 hw) (w131 hw) (by decide +kernel) f6 pd12 e20_0 e20_1 e20_2 e20_9 e20_10 (by omega) ?_
  refine Ow.ifT (pc' := 26) B e16_19 (by decide) ?_
  refine Ow.iconst (pc' := 27) (x := (0 : Int32)) B e16_26 ?_
  exact Ow.retI (S' := []) (t := .boolean) B e16_27 (⟨rfl, rfl, rfl⟩)
set_option maxRecDepth 65536 in
set_option maxHeartbeats 40000000 in
theorem con_equals_83 {l : Launch} {Z : State} {n0 : Nat} {a0 : Array Value} {cz : Int32} {sf : Value} (hw : Hw a0 Z) (G : Ow.Glo Z cz sf) {u0 : Nat} (GS : GlS Z u0) {pa0 : Nat} {pa1 : Nat} {px0 : Int32} {px1 : Int32} {px2 : Int32} {px3 : Int32} {pk0 : ClassId} {pk1 : ClassId} {h0 : Heap} (O0 : Old Z n0 h0) (hf0 : Arv Z h0 pa0 pk0 .byte (2 : Int32) [(.int px0.toInt8.toInt32), (.int px1.toInt8.toInt32)] (.int 0)) (hf1 : Arv Z h0 pa1 pk1 .byte (2 : Int32) [(.int px2.toInt8.toInt32), (.int px3.toInt8.toInt32)] (.int 0)) (hn0 : n0 ≤ pa0) (hn1 : n0 ≤ pa1) (hc_px0 : nar .char px0 = px0) (hc_px1 : nar .char px1 = px1) (hc_px2 : nar .char px2 = px2) (hc_px3 : nar .char px3 = px3) :
    Ow.Con l Z EL1 n0 my13 jdk_43_method_13_code 3 (Option.some Jvm.ClassFile.FieldType.boolean) [] ({ frames := 0, cells := 0, slots := 0, locals := 0 } : Room) #[(.ref pa0), (.ref pa1)] [pa1, pa0] h0 (fun v h S' => (v = some (.int (1 : Int32)) ∧ h = h0 ∧ px0.toInt8.toInt32 = px2.toInt8.toInt32 ∧ px1.toInt8.toInt32 = px3.toInt8.toInt32 ∧ S' = []) ∨ (v = some (.int (0 : Int32)) ∧ h = h0 ∧ px0.toInt8.toInt32 = px2.toInt8.toInt32 ∧ ¬ (px1.toInt8.toInt32 = px3.toInt8.toInt32) ∧ S' = []) ∨ (v = some (.int (0 : Int32)) ∧ h = h0 ∧ ¬ (px0.toInt8.toInt32 = px2.toInt8.toInt32) ∧ S' = [])) := by
  refine Ow.Con.enter (Ls := #[.val (.ref pa0), .val (.ref pa1), .unset]) (plainFor_of_name pn9) O0 (hEW hw) (hSA hw) ?_
  intro p e s m below meth c B
  have z0 := Ow.old_le O0
  have lu0 : (u0 : Nat) < n0 := O0.1 ▸ GS.2.lt
  have lpa0 : (pa0 : Nat) < h0.size := hf0.lt
  have lpa1 : (pa1 : Nat) < h0.size := hf1.lt
  refine Ow.aloadN (pc' := 1) B e14_0 ?_
  refine Ow.arrlen (pc' := 2) B e14_1 hf0 ?_
  refine Ow.aloadN (pc' := 3) B e14_2 ?_
  refine Ow.arrlen (pc' := 4) B e14_3 hf1 ?_
  refine Ow.icmpF (pc' := 7) B e14_4 (by decide) ?_
  refine Ow.iconst (pc' := 8) (x := (0 : Int32)) B e14_7 ?_
  refine Ow.istoreN (pc' := 9) (Ls' := #[.val (.ref pa0), .val (.ref pa1), .val (.int (0 : Int32))]) B e14_8 ?_
  refine Ow.iloadN (pc' := 10) B e14_9 ?_
  refine Ow.aloadN (pc' := 11) B e14_10 ?_
  refine Ow.arrlen (pc' := 12) B e14_11 hf0 ?_
  refine Ow.icmpF (pc' := 15) B e14_12 (by decide) ?_
  refine Ow.aloadN (pc' := 16) B e14_15 ?_
  refine Ow.iloadN (pc' := 17) B e14_16 ?_
  refine Ow.baload (pc' := 18) B e14_17 hf0 ⟨by decide, by decide⟩ rfl ?_
  refine Ow.aloadN (pc' := 19) B e14_18 ?_
  refine Ow.iloadN (pc' := 20) B e14_19 ?_
  refine Ow.baload (pc' := 21) B e14_20 hf1 ⟨by decide, by decide⟩ rfl ?_
  by_cases c1 : px0.toInt8.toInt32 = px2.toInt8.toInt32
  · refine Ow.icmpT (pc' := 26) B e14_21 (teq c1).1 ?_
    refine Ow.iinc (pc' := 29) (y := (1 : Int32)) (Ls' := #[.val (.ref pa0), .val (.ref pa1), .val (.int (1 : Int32))]) B e14_26 ?_
    refine Ow.goto (pc' := 9) B e14_29 ?_
    refine Ow.iloadN (pc' := 10) B e14_9 ?_
    refine Ow.aloadN (pc' := 11) B e14_10 ?_
    refine Ow.arrlen (pc' := 12) B e14_11 hf0 ?_
    refine Ow.icmpF (pc' := 15) B e14_12 (by decide) ?_
    refine Ow.aloadN (pc' := 16) B e14_15 ?_
    refine Ow.iloadN (pc' := 17) B e14_16 ?_
    refine Ow.baload (pc' := 18) B e14_17 hf0 ⟨by decide, by decide⟩ rfl ?_
    refine Ow.aloadN (pc' := 19) B e14_18 ?_
    refine Ow.iloadN (pc' := 20) B e14_19 ?_
    refine Ow.baload (pc' := 21) B e14_20 hf1 ⟨by decide, by decide⟩ rfl ?_
    by_cases c2 : px1.toInt8.toInt32 = px3.toInt8.toInt32
    · refine Ow.icmpT (pc' := 26) B e14_21 (teq c2).1 ?_
      refine Ow.iinc (pc' := 29) (y := (2 : Int32)) (Ls' := #[.val (.ref pa0), .val (.ref pa1), .val (.int (2 : Int32))]) B e14_26 ?_
      refine Ow.goto (pc' := 9) B e14_29 ?_
      refine Ow.iloadN (pc' := 10) B e14_9 ?_
      refine Ow.aloadN (pc' := 11) B e14_10 ?_
      refine Ow.arrlen (pc' := 12) B e14_11 hf0 ?_
      refine Ow.icmpT (pc' := 32) B e14_12 (by decide) ?_
      refine Ow.iconst (pc' := 33) (x := (1 : Int32)) B e14_32 ?_
      exact Ow.retI (S' := []) (t := .boolean) B e14_33 (Or.inl (⟨rfl, rfl, c1, c2, rfl⟩))
    · refine Ow.icmpF (pc' := 24) B e14_21 (feq c2).1 ?_
      refine Ow.iconst (pc' := 25) (x := (0 : Int32)) B e14_24 ?_
      exact Ow.retI (S' := []) (t := .boolean) B e14_25 (Or.inr (Or.inl (⟨rfl, rfl, c1, c2, rfl⟩)))
  · refine Ow.icmpF (pc' := 24) B e14_21 (feq c1).1 ?_
    refine Ow.iconst (pc' := 25) (x := (0 : Int32)) B e14_24 ?_
    exact Ow.retI (S' := []) (t := .boolean) B e14_25 (Or.inr (Or.inr (⟨rfl, rfl, c1, rfl⟩)))
set_option maxRecDepth 65536 in
set_option maxHeartbeats 40000000 in
theorem con_equals_84 {l : Launch} {Z : State} {n0 : Nat} {a0 : Array Value} {cz : Int32} {sf : Value} (hw : Hw a0 Z) (G : Ow.Glo Z cz sf) {u0 : Nat} (GS : GlS Z u0) {pa0 : Nat} {pa1 : Nat} {pa2 : Nat} {pa3 : Nat} {px0 : Int32} {px1 : Int32} {px2 : Int32} {px3 : Int32} {pk0 : ClassId} {pk1 : ClassId} {h0 : Heap} (O0 : Old Z n0 h0) (hf0 : Fld Z h0 pa0 "java/lang/String" "coder" "B" (.int (0 : Int32))) (hf1 : Fld Z h0 pa0 "java/lang/String" "value" "[B" (.ref pa2)) (hf2 : Exa Z h0 pa1 "java/lang/String") (hf3 : Fld Z h0 pa1 "java/lang/String" "coder" "B" (.int (0 : Int32))) (hf4 : Fld Z h0 pa1 "java/lang/String" "value" "[B" (.ref pa3)) (hf5 : Arv Z h0 pa2 pk0 .byte (2 : Int32) [(.int px0.toInt8.toInt32), (.int px1.toInt8.toInt32)] (.int 0)) (hf6 : Arv Z h0 pa3 pk1 .byte (2 : Int32) [(.int px2.toInt8.toInt32), (.int px3.toInt8.toInt32)] (.int 0)) (hn0 : n0 ≤ pa0) (hn1 : n0 ≤ pa1) (hn2 : n0 ≤ pa2) (hn3 : n0 ≤ pa3) (hd0 : pa0 ≠ pa1) (hc_px0 : nar .char px0 = px0) (hc_px1 : nar .char px1 = px1) (hc_px2 : nar .char px2 = px2) (hc_px3 : nar .char px3 = px3) :
    Ow.Con l Z EL1 n0 my14 jdk_42_method_66_code 3 (Option.some Jvm.ClassFile.FieldType.boolean) [] ({ frames := 1, cells := 0, slots := 0, locals := 14 } : Room) #[(.ref pa0), (.ref pa1)] [pa3, pa1, pa2, pa0] h0 (fun v h S' => (v = some (.int (1 : Int32)) ∧ h = h0 ∧ px0.toInt8.toInt32 = px2.toInt8.toInt32 ∧ px1.toInt8.toInt32 = px3.toInt8.toInt32 ∧ S' = []) ∨ (v = some (.int (0 : Int32)) ∧ h = h0 ∧ px0.toInt8.toInt32 = px2.toInt8.toInt32 ∧ ¬ (px1.toInt8.toInt32 = px3.toInt8.toInt32) ∧ S' = []) ∨ (v = some (.int (0 : Int32)) ∧ h = h0 ∧ ¬ (px0.toInt8.toInt32 = px2.toInt8.toInt32) ∧ S' = [])) := by
  refine Ow.Con.enter (Ls := #[.val (.ref pa0), .val (.ref pa1), .unset]) (plainFor_of_name pn1) O0 (hEW hw) (hSA hw) ?_
  intro p e s m below meth c B
  have z0 := Ow.old_le O0
  have lu0 : (u0 : Nat) < n0 := O0.1 ▸ GS.2.lt
  have lpa0 : (pa0 : Nat) < h0.size := hf0.lt
  have lpa1 : (pa1 : Nat) < h0.size := hf2.lt
  have lpa2 : (pa2 : Nat) < h0.size := hf5.lt
  have lpa3 : (pa3 : Nat) < h0.size := hf6.lt
  refine Ow.aloadN (pc' := 1) B e13_0 ?_
  refine Ow.aloadN (pc' := 2) B e13_1 ?_
  refine Ow.acmpR (pc' := 7) (same := false) B e13_2 (decide_eq_false (fun q => absurd (show (pa0 : Nat) = pa1 from Value.ref.inj q) (by omega))) ?_
  refine Ow.aloadN (pc' := 8) B e13_7 ?_
  refine Ow.instYes (pc' := 11) B e13_8 (w93 hw) (Ins.self hf2) ?_
  refine Ow.ifF (pc' := 14) B e13_11 (by decide) ?_
  refine Ow.aloadN (pc' := 15) B e13_14 ?_
  refine Ow.checkcast (pc' := 18) B e13_15 (w93 hw) (Ins.self hf2) ?_
  refine Ow.astoreN (pc' := 19) (Ls' := #[.val (.ref pa0), .val (.ref pa1), .val (.ref pa1)]) B e13_18 ?_
  refine Ow.getstatic (pc' := 22) B e13_19 (w94 hw) Via.refl G.1 ?_
  refine Ow.ifF (pc' := 25) B e13_22 (feq (G.2.1)).1 ?_
  refine Ow.aloadN (pc' := 26) B e13_25 ?_
  refine Ow.getfield (pc' := 29) B e13_26 (w25 hw) Via.refl hf0 ?_
  refine Ow.aloadN (pc' := 30) B e13_29 ?_
  refine Ow.getfield (pc' := 33) B e13_30 (w25 hw) Via.refl hf3 ?_
  refine Ow.icmpF (pc' := 36) B e13_33 (by decide) ?_
  refine Ow.aloadN (pc' := 37) B e13_36 ?_
  refine Ow.getfield (pc' := 40) B e13_37 (w24 hw) Via.refl hf1 ?_
  refine Ow.aloadN (pc' := 41) B e13_40 ?_
  refine Ow.getfield (pc' := 44) B e13_41 (w24 hw) Via.refl hf4 ?_
  refine Ow.Go.old (fun o1 => ?_)
  refine Ow.callStatic (pc' := 47) (W := 0) (k' := 0) (n' := 0) (argsL := [(.ref pa2), (.ref pa3)]) (rest := []) B e13_44 (w95 hw) (w96 hw) (w97 hw) (w98 hw) (con_equals_83 hw G GS (pa0 := pa2) (pa1 := pa3) (px0 := px0) (px1 := px1) (px2 := px2) (px3 := px3) (pk0 := pk0) (pk1 := pk1) o1 hf5 hf6 (by omega) (by omega) hc_px0 hc_px1 hc_px2 hc_px3) pd11 ?_
  intro vq2 h3 S4 q2 zh3
  rcases q2 with q2 | q2 | q2
  · obtain ⟨rfl, rfl, c5, c6, rfl⟩ := q2
    refine Ow.Go.norm (S' := [pa3, pa1, pa2, pa0]) (st' := [(.int (1 : Int32))]) (fun _ q => List.mem_append_right _ q) rfl ?_
    refine Ow.ifF (pc' := 50) B e13_47 (by decide) ?_
    refine Ow.iconst (pc' := 51) (x := (1 : Int32)) B e13_50 ?_
    refine Ow.goto (pc' := 55) B e13_51 ?_
    exact Ow.retI (S' := []) (t := .boolean) B e13_55 (Or.inl (⟨rfl, rfl, c5, c6, rfl⟩))
  · obtain ⟨rfl, rfl, c7, c8, rfl⟩ := q2
    refine Ow.Go.norm (S' := [pa3, pa1, pa2, pa0]) (st' := [(.int (0 : Int32))]) (fun _ q => List.mem_append_right _ q) rfl ?_
    refine Ow.ifT (pc' := 54) B e13_47 (by decide) ?_
    refine Ow.iconst (pc' := 55) (x := (0 : Int32)) B e13_54 ?_
    exact Ow.retI (S' := []) (t := .boolean) B e13_55 (Or.inr (Or.inl (⟨rfl, rfl, c7, c8, rfl⟩)))
  · obtain ⟨rfl, rfl, c9, rfl⟩ := q2
    refine Ow.Go.norm (S' := [pa3, pa1, pa2, pa0]) (st' := [(.int (0 : Int32))]) (fun _ q => List.mem_append_right _ q) rfl ?_
    refine Ow.ifT (pc' := 54) B e13_47 (by decide) ?_
    refine Ow.iconst (pc' := 55) (x := (0 : Int32)) B e13_54 ?_
    exact Ow.retI (S' := []) (t := .boolean) B e13_55 (Or.inr (Or.inr (⟨rfl, rfl, c9, rfl⟩)))
set_option maxRecDepth 65536 in
set_option maxHeartbeats 40000000 in
theorem con_equals_85 {l : Launch} {Z : State} {n0 : Nat} {a0 : Array Value} {cz : Int32} {sf : Value} (hw : Hw a0 Z) (G : Ow.Glo Z cz sf) {u0 : Nat} (GS : GlS Z u0) {pa0 : Nat} {pa1 : Nat} {px0 : Int32} {px1 : Int32} {px2 : Int32} {px3 : Int32} {pk0 : ClassId} {pk1 : ClassId} {h0 : Heap} (O0 : Old Z n0 h0) (hf0 : Arv Z h0 pa0 pk0 .byte (2 : Int32) [(.int px0.toInt8.toInt32), (.int px1.toInt8.toInt32)] (.int 0)) (hf1 : Arv Z h0 pa1 pk1 .byte (2 : Int32) [(.int px2.toInt8.toInt32), (.int px3.toInt8.toInt32)] (.int 0)) (hn0 : n0 ≤ pa0) (hn1 : n0 ≤ pa1) (hk0 : px2.toInt8.toInt32 = px0.toInt8.toInt32) (hk1 : px0.toInt8.toInt32 = px2.toInt8.toInt32) (hk2 : px3.toInt8.toInt32 = px1.toInt8.toInt32) (hk3 : px1.toInt8.toInt32 = px3.toInt8.toInt32) (hc_px0 : nar .char px0 = px0) (hc_px1 : nar .char px1 = px1) (hc_px2 : nar .char px2 = px2) (hc_px3 : nar .char px3 = px3) :
    Ow.Con l Z EL1 n0 my13 jdk_43_method_13_code 3 (Option.some Jvm.ClassFile.FieldType.boolean) [] ({ frames := 0, cells := 0, slots := 0, locals := 0 } : Room) #[(.ref pa0), (.ref pa1)] [pa0, pa1] h0 (fun v h S' => (v = some (.int (1 : Int32)) ∧ h = h0 ∧ S' = [])) := by
  refine Ow.Con.enter (Ls := #[.val (.ref pa0), .val (.ref pa1), .unset]) (plainFor_of_name pn9) O0 (hEW hw) (hSA hw) ?_
  intro p e s m below meth c B
  have z0 := Ow.old_le O0
  have lu0 : (u0 : Nat) < n0 := O0.1 ▸ GS.2.lt
  have lpa0 : (pa0 : Nat) < h0.size := hf0.lt
  have lpa1 : (pa1 : Nat) < h0.size := hf1.lt
  refine Ow.aloadN (pc' := 1) B e14_0 ?_
  refine Ow.arrlen (pc' := 2) B e14_1 hf0 ?_
  refine Ow.aloadN (pc' := 3) B e14_2 ?_
  refine Ow.arrlen (pc' := 4) B e14_3 hf1 ?_
  refine Ow.icmpF (pc' := 7) B e14_4 (by decide) ?_
  refine Ow.iconst (pc' := 8) (x := (0 : Int32)) B e14_7 ?_
  refine Ow.istoreN (pc' := 9) (Ls' := #[.val (.ref pa0), .val (.ref pa1), .val (.int (0 : Int32))]) B e14_8 ?_
  refine Ow.iloadN (pc' := 10) B e14_9 ?_
  refine Ow.aloadN (pc' := 11) B e14_10 ?_
  refine Ow.arrlen (pc' := 12) B e14_11 hf0 ?_
  refine Ow.icmpF (pc' := 15) B e14_12 (by decide) ?_
  refine Ow.aloadN (pc' := 16) B e14_15 ?_
  refine Ow.iloadN (pc' := 17) B e14_16 ?_
  refine Ow.baload (pc' := 18) B e14_17 hf0 ⟨by decide, by decide⟩ rfl ?_
  refine Ow.aloadN (pc' := 19) B e14_18 ?_
  refine Ow.iloadN (pc' := 20) B e14_19 ?_
  refine Ow.baload (pc' := 21) B e14_20 hf1 ⟨by decide, by decide⟩ rfl ?_
  refine Ow.icmpT (pc' := 26) B e14_21 (teq (hk1)).1 ?_
  refine Ow.iinc (pc' := 29) (y := (1 : Int32)) (Ls' := #[.val (.ref pa0), .val (.ref pa1), .val (.int (1 : Int32))]) B e14_26 ?_
  refine Ow.goto (pc' := 9) B e14_29 ?_
  refine Ow.iloadN (pc' := 10) B e14_9 ?_
  refine Ow.aloadN (pc' := 11) B e14_10 ?_
  refine Ow.arrlen (pc' := 12) B e14_11 hf0 ?_
  refine Ow.icmpF (pc' := 15) B e14_12 (by decide) ?_
  refine Ow.aloadN (pc' := 16) B e14_15 ?_
  refine Ow.iloadN (pc' := 17) B e14_16 ?_
  refine Ow.baload (pc' := 18) B e14_17 hf0 ⟨by decide, by decide⟩ rfl ?_
  refine Ow.aloadN (pc' := 19) B e14_18 ?_
  refine Ow.iloadN (pc' := 20) B e14_19 ?_
  refine Ow.baload (pc' := 21) B e14_20 hf1 ⟨by decide, by decide⟩ rfl ?_
  refine Ow.icmpT (pc' := 26) B e14_21 (teq (hk3)).1 ?_
  refine Ow.iinc (pc' := 29) (y := (2 : Int32)) (Ls' := #[.val (.ref pa0), .val (.ref pa1), .val (.int (2 : Int32))]) B e14_26 ?_
  refine Ow.goto (pc' := 9) B e14_29 ?_
  refine Ow.iloadN (pc' := 10) B e14_9 ?_
  refine Ow.aloadN (pc' := 11) B e14_10 ?_
  refine Ow.arrlen (pc' := 12) B e14_11 hf0 ?_
  refine Ow.icmpT (pc' := 32) B e14_12 (by decide) ?_
  refine Ow.iconst (pc' := 33) (x := (1 : Int32)) B e14_32 ?_
  exact Ow.retI (S' := []) (t := .boolean) B e14_33 (⟨rfl, rfl, rfl⟩)
set_option maxRecDepth 65536 in
set_option maxHeartbeats 40000000 in
theorem con_equals_86 {l : Launch} {Z : State} {n0 : Nat} {a0 : Array Value} {cz : Int32} {sf : Value} (hw : Hw a0 Z) (G : Ow.Glo Z cz sf) {u0 : Nat} (GS : GlS Z u0) {pa0 : Nat} {pa1 : Nat} {pa2 : Nat} {pa3 : Nat} {px0 : Int32} {px1 : Int32} {px2 : Int32} {px3 : Int32} {pk0 : ClassId} {pk1 : ClassId} {h0 : Heap} (O0 : Old Z n0 h0) (hf0 : Fld Z h0 pa0 "java/lang/String" "coder" "B" (.int (0 : Int32))) (hf1 : Fld Z h0 pa0 "java/lang/String" "value" "[B" (.ref pa2)) (hf2 : Exa Z h0 pa1 "java/lang/String") (hf3 : Fld Z h0 pa1 "java/lang/String" "coder" "B" (.int (0 : Int32))) (hf4 : Fld Z h0 pa1 "java/lang/String" "value" "[B" (.ref pa3)) (hf5 : Arv Z h0 pa2 pk0 .byte (2 : Int32) [(.int px0.toInt8.toInt32), (.int px1.toInt8.toInt32)] (.int 0)) (hf6 : Arv Z h0 pa3 pk1 .byte (2 : Int32) [(.int px2.toInt8.toInt32), (.int px3.toInt8.toInt32)] (.int 0)) (hn0 : n0 ≤ pa0) (hn1 : n0 ≤ pa1) (hn2 : n0 ≤ pa2) (hn3 : n0 ≤ pa3) (hd0 : pa0 ≠ pa1) (hk0 : px2.toInt8.toInt32 = px0.toInt8.toInt32) (hk1 : px0.toInt8.toInt32 = px2.toInt8.toInt32) (hk2 : px3.toInt8.toInt32 = px1.toInt8.toInt32) (hk3 : px1.toInt8.toInt32 = px3.toInt8.toInt32) (hc_px0 : nar .char px0 = px0) (hc_px1 : nar .char px1 = px1) (hc_px2 : nar .char px2 = px2) (hc_px3 : nar .char px3 = px3) :
    Ow.Con l Z EL1 n0 my14 jdk_42_method_66_code 3 (Option.some Jvm.ClassFile.FieldType.boolean) [] ({ frames := 1, cells := 0, slots := 0, locals := 14 } : Room) #[(.ref pa0), (.ref pa1)] [pa2, pa0, pa3, pa1] h0 (fun v h S' => (v = some (.int (1 : Int32)) ∧ h = h0 ∧ S' = [])) := by
  refine Ow.Con.enter (Ls := #[.val (.ref pa0), .val (.ref pa1), .unset]) (plainFor_of_name pn1) O0 (hEW hw) (hSA hw) ?_
  intro p e s m below meth c B
  have z0 := Ow.old_le O0
  have lu0 : (u0 : Nat) < n0 := O0.1 ▸ GS.2.lt
  have lpa0 : (pa0 : Nat) < h0.size := hf0.lt
  have lpa1 : (pa1 : Nat) < h0.size := hf2.lt
  have lpa2 : (pa2 : Nat) < h0.size := hf5.lt
  have lpa3 : (pa3 : Nat) < h0.size := hf6.lt
  refine Ow.aloadN (pc' := 1) B e13_0 ?_
  refine Ow.aloadN (pc' := 2) B e13_1 ?_
  refine Ow.acmpR (pc' := 7) (same := false) B e13_2 (decide_eq_false (fun q => absurd (show (pa0 : Nat) = pa1 from Value.ref.inj q) (by omega))) ?_
  refine Ow.aloadN (pc' := 8) B e13_7 ?_
  refine Ow.instYes (pc' := 11) B e13_8 (w93 hw) (Ins.self hf2) ?_
  refine Ow.ifF (pc' := 14) B e13_11 (by decide) ?_
  refine Ow.aloadN (pc' := 15) B e13_14 ?_
  refine Ow.checkcast (pc' := 18) B e13_15 (w93 hw) (Ins.self hf2) ?_
  refine Ow.astoreN (pc' := 19) (Ls' := #[.val (.ref pa0), .val (.ref pa1), .val (.ref pa1)]) B e13_18 ?_
  refine Ow.getstatic (pc' := 22) B e13_19 (w94 hw) Via.refl G.1 ?_
  refine Ow.ifF (pc' := 25) B e13_22 (feq (G.2.1)).1 ?_
  refine Ow.aloadN (pc' := 26) B e13_25 ?_
  refine Ow.getfield (pc' := 29) B e13_26 (w25 hw) Via.refl hf0 ?_
  refine Ow.aloadN (pc' := 30) B e13_29 ?_
  refine Ow.getfield (pc' := 33) B e13_30 (w25 hw) Via.refl hf3 ?_
  refine Ow.icmpF (pc' := 36) B e13_33 (by decide) ?_
  refine Ow.aloadN (pc' := 37) B e13_36 ?_
  refine Ow.getfield (pc' := 40) B e13_37 (w24 hw) Via.refl hf1 ?_
  refine Ow.aloadN (pc' := 41) B e13_40 ?_
  refine Ow.getfield (pc' := 44) B e13_41 (w24 hw) Via.refl hf4 ?_
  refine Ow.Go.old (fun o1 => ?_)
  refine Ow.callStatic (pc' := 47) (W := 0) (k' := 0) (n' := 0) (argsL := [(.ref pa2), (.ref pa3)]) (rest := []) B e13_44 (w95 hw) (w96 hw) (w97 hw) (w98 hw) (con_equals_85 hw G GS (pa0 := pa2) (pa1 := pa3) (px0 := px0) (px1 := px1) (px2 := px2) (px3 := px3) (pk0 := pk0) (pk1 := pk1) o1 hf5 hf6 (by omega) (by omega) (hk0) (hk1) (hk2) (hk3) hc_px0 hc_px1 hc_px2 hc_px3) pd11 ?_
  intro vq2 h3 S4 q2 zh3
  obtain ⟨rfl, rfl, rfl⟩ := q2
  refine Ow.Go.norm (S' := [pa2, pa0, pa3, pa1]) (st' := [(.int (1 : Int32))]) (fun _ q => List.mem_append_right _ q) rfl ?_
  refine Ow.ifF (pc' := 50) B e13_47 (by decide) ?_
  refine Ow.iconst (pc' := 51) (x := (1 : Int32)) B e13_50 ?_
  refine Ow.goto (pc' := 55) B e13_51 ?_
  exact Ow.retI (S' := []) (t := .boolean) B e13_55 (⟨rfl, rfl, rfl⟩)
set_option maxRecDepth 65536 in
set_option maxHeartbeats 40000000 in
theorem con_contains_87 {l : Launch} {Z : State} {n0 : Nat} {a0 : Array Value} {cz : Int32} {sf : Value} (hw : Hw a0 Z) (G : Ow.Glo Z cz sf) {u0 : Nat} (GS : GlS Z u0) {pa0 : Nat} {pa1 : Nat} {pa2 : Nat} {pa3 : Nat} {pa4 : Nat} {px0 : Int32} {px1 : Int32} {px2 : Int32} {px3 : Int32} {pk0 : ClassId} {pk1 : ClassId} {h0 : Heap} (O0 : Old Z n0 h0) (hf0 : Fld Z h0 pa0 "java/util/ImmutableCollections$Set12" "e0" "Ljava/lang/Object;" (.ref pa2)) (hf1 : Exa Z h0 pa1 "java/lang/String") (hf2 : Fld Z h0 pa1 "java/lang/String" "coder" "B" (.int (0 : Int32))) (hf3 : Fld Z h0 pa1 "java/lang/String" "value" "[B" (.ref pa3)) (hf4 : Exa Z h0 pa2 "java/lang/String") (hf5 : Fld Z h0 pa2 "java/lang/String" "coder" "B" (.int (0 : Int32))) (hf6 : Fld Z h0 pa2 "java/lang/String" "value" "[B" (.ref pa4)) (hf7 : Arv Z h0 pa3 pk0 .byte (2 : Int32) [(.int px0.toInt8.toInt32), (.int px1.toInt8.toInt32)] (.int 0)) (hf8 : Arv Z h0 pa4 pk1 .byte (2 : Int32) [(.int px2.toInt8.toInt32), (.int px3.toInt8.toInt32)] (.int 0)) (hn0 : n0 ≤ pa0) (hn1 : n0 ≤ pa1) (hn2 : n0 ≤ pa2) (hn3 : n0 ≤ pa3) (hn4 : n0 ≤ pa4) (hd0 : pa1 ≠ pa2) (hk0 : px2.toInt8.toInt32 = px0.toInt8.toInt32) (hk1 : px0.toInt8.toInt32 = px2.toInt8.toInt32) (hk2 : px3.toInt8.toInt32 = px1.toInt8.toInt32) (hk3 : px1.toInt8.toInt32 = px3.toInt8.toInt32) (hc_px0 : nar .char px0 = px0) (hc_px1 : nar .char px1 = px1) (hc_px2 : nar .char px2 = px2) (hc_px3 : nar .char px3 = px3) :
    Ow.Con l Z EL1 n0 my16 jdk_101_method_5_code 2 (Option.some Jvm.ClassFile.FieldType.boolean) [] ({ frames := 2, cells := 0, slots := 0, locals := 28 } : Room) #[(.ref pa0), (.ref pa1)] [pa3, pa1, pa4, pa2] h0 (fun v h S' => (v = some (.int (1 : Int32)) ∧ h = h0 ∧ S' = [])) := by
  refine Ow.Con.enter (Ls := #[.val (.ref pa0), .val (.ref pa1)]) (plainFor_of_name pn4) O0 (hEW hw) (hSA hw) ?_
  intro p e s m below meth c B
  have z0 := Ow.old_le O0
  have lu0 : (u0 : Nat) < n0 := O0.1 ▸ GS.2.lt
  have lpa0 : (pa0 : Nat) < h0.size := hf0.lt
  have lpa1 : (pa1 : Nat) < h0.size := hf1.lt
  have lpa2 : (pa2 : Nat) < h0.size := hf4.lt
  have lpa3 : (pa3 : Nat) < h0.size := hf7.lt
  have lpa4 : (pa4 : Nat) < h0.size := hf8.lt
  refine Ow.aloadN (pc' := 1) B e16_0 ?_
  refine Ow.aloadN (pc' := 2) B e16_1 ?_
  refine Ow.getfield (pc' := 5) B e16_2 (w66 hw) Via.refl hf0 ?_
  refine Ow.Go.old (fun o1 => ?_)
  refine Ow.callVirtual (pc' := 8) (W := 0) (k' := 0) (n' := 0) (argsL := [(.ref pa2)]) (rest := []) (K := "java/lang/String") B e16_5 (w116 hw) (w117 hw) (w130 hw) (w119 hw) (w90 hw) (w6 hw) (w92 hw) hf1 (con_equals_86 hw G GS (pa0 := pa1) (pa1 := pa2) (pa2 := pa3) (pa3 := pa4) (px0 := px0) (px1 := px1) (px2 := px2) (px3 := px3) (pk0 := pk0) (pk1 := pk1) o1 hf2 hf3 hf4 hf5 hf6 hf7 hf8 (by omega) (by omega) (by omega) (by omega) (by omega) (hk0) (hk1) (hk2) (hk3) hc_px0 hc_px1 hc_px2 hc_px3) pd12 ?_
  intro vq2 h3 S4 q2 zh3
  obtain ⟨rfl, rfl, rfl⟩ := q2
  refine Ow.Go.norm (S' := [pa3, pa1, pa4, pa2]) (st' := [(.int (1 : Int32))]) (fun _ q => List.mem_append_right _ q) rfl ?_
  refine Ow.ifT (pc' := 22) B e16_8 (by decide) ?_
  refine Ow.iconst (pc' := 23) (x := (1 : Int32)) B e16_22 ?_
  refine Ow.goto (pc' := 27) B e16_23 ?_
  exact Ow.retI (S' := []) (t := .boolean) B e16_27 (⟨rfl, rfl, rfl⟩)
set_option maxRecDepth 65536 in
set_option maxHeartbeats 40000000 in
theorem con_equals_88 {l : Launch} {Z : State} {n0 : Nat} {a0 : Array Value} {cz : Int32} {sf : Value} (hw : Hw a0 Z) (G : Ow.Glo Z cz sf) {u0 : Nat} (GS : GlS Z u0) {pa0 : Nat} {pa1 : Nat} {px0 : Int32} {px1 : Int32} {px2 : Int32} {px3 : Int32} {pk0 : ClassId} {pk1 : ClassId} {h0 : Heap} (O0 : Old Z n0 h0) (hf0 : Arv Z h0 pa0 pk0 .byte (2 : Int32) [(.int px0.toInt8.toInt32), (.int px1.toInt8.toInt32)] (.int 0)) (hf1 : Arv Z h0 pa1 pk1 .byte (2 : Int32) [(.int px2.toInt8.toInt32), (.int px3.toInt8.toInt32)] (.int 0)) (hn0 : n0 ≤ pa0) (hn1 : n0 ≤ pa1) (hk0 : px2.toInt8.toInt32 = px0.toInt8.toInt32) (hk1 : px0.toInt8.toInt32 = px2.toInt8.toInt32) (hk2 : ¬ (px3.toInt8.toInt32 = px1.toInt8.toInt32)) (hk3 : ¬ (px1.toInt8.toInt32 = px3.toInt8.toInt32)) (hc_px0 : nar .char px0 = px0) (hc_px1 : nar .char px1 = px1) (hc_px2 : nar .char px2 = px2) (hc_px3 : nar .char px3 = px3) :
    Ow.Con l Z EL1 n0 my13 jdk_43_method_13_code 3 (Option.some Jvm.ClassFile.FieldType.boolean) [] ({ frames := 0, cells := 0, slots := 0, locals := 0 } : Room) #[(.ref pa0), (.ref pa1)] [pa0, pa1] h0 (fun v h S' => (v = some (.int (0 : Int32)) ∧ h = h0 ∧ S' = [])) := by
  refine Ow.Con.enter (Ls := #[.val (.ref pa0), .val (.ref pa1), .unset]) (plainFor_of_name pn9) O0 (hEW hw) (hSA hw) ?_
  intro p e s m below meth c B
  have z0 := Ow.old_le O0
  have lu0 : (u0 : Nat) < n0 := O0.1 ▸ GS.2.lt
  have lpa0 : (pa0 : Nat) < h0.size := hf0.lt
  have lpa1 : (pa1 : Nat) < h0.size := hf1.lt
  refine Ow.aloadN (pc' := 1) B e14_0 ?_
  refine Ow.arrlen (pc' := 2) B e14_1 hf0 ?_
  refine Ow.aloadN (pc' := 3) B e14_2 ?_
  refine Ow.arrlen (pc' := 4) B e14_3 hf1 ?_
  refine Ow.icmpF (pc' := 7) B e14_4 (by decide) ?_
  refine Ow.iconst (pc' := 8) (x := (0 : Int32)) B e14_7 ?_
  refine Ow.istoreN (pc' := 9) (Ls' := #[.val (.ref pa0), .val (.ref pa1), .val (.int (0 : Int32))]) B e14_8 ?_
  refine Ow.iloadN (pc' := 10) B e14_9 ?_
  refine Ow.aloadN (pc' := 11) B e14_10 ?_
  refine Ow.arrlen (pc' := 12) B e14_11 hf0 ?_
  refine Ow.icmpF (pc' := 15) B e14_12 (by decide) ?_
  refine Ow.aloadN (pc' := 16) B e14_15 ?_
  refine Ow.iloadN (pc' := 17) B e14_16 ?_
  refine Ow.baload (pc' := 18) B e14_17 hf0 ⟨by decide, by decide⟩ rfl ?_
  refine Ow.aloadN (pc' := 19) B e14_18 ?_
  refine Ow.iloadN (pc' := 20) B e14_19 ?_
  refine Ow.baload (pc' := 21) B e14_20 hf1 ⟨by decide, by decide⟩ rfl ?_
  refine Ow.icmpT (pc' := 26) B e14_21 (teq (hk1)).1 ?_
  refine Ow.iinc (pc' := 29) (y := (1 : Int32)) (Ls' := #[.val (.ref pa0), .val (.ref pa1), .val (.int (1 : Int32))]) B e14_26 ?_
  refine Ow.goto (pc' := 9) B e14_29 ?_
  refine Ow.iloadN (pc' := 10) B e14_9 ?_
  refine Ow.aloadN (pc' := 11) B e14_10 ?_
  refine Ow.arrlen (pc' := 12) B e14_11 hf0 ?_
  refine Ow.icmpF (pc' := 15) B e14_12 (by decide) ?_
  refine Ow.aloadN (pc' := 16) B e14_15 ?_
  refine Ow.iloadN (pc' := 17) B e14_16 ?_
  refine Ow.baload (pc' := 18) B e14_17 hf0 ⟨by decide, by decide⟩ rfl ?_
  refine Ow.aloadN (pc' := 19) B e14_18 ?_
  refine Ow.iloadN (pc' := 20) B e14_19 ?_
  refine Ow.baload (pc' := 21) B e14_20 hf1 ⟨by decide, by decide⟩ rfl ?_
  refine Ow.icmpF (pc' := 24) B e14_21 (feq (hk3)).1 ?_
  refine Ow.iconst (pc' := 25) (x := (0 : Int32)) B e14_24 ?_
  exact Ow.retI (S' := []) (t := .boolean) B e14_25 (⟨rfl, rfl, rfl⟩)
set_option maxRecDepth 65536 in
set_option maxHeartbeats 40000000 in
theorem con_equals_89 {l : Launch} {Z : State} {n0 : Nat} {a0 : Array Value} {cz : Int32} {sf : Value} (hw : Hw a0 Z) (G : Ow.Glo Z cz sf) {u0 : Nat} (GS : GlS Z u0) {pa0 : Nat} {pa1 : Nat} {pa2 : Nat} {pa3 : Nat} {px0 : Int32} {px1 : Int32} {px2 : Int32} {px3 : Int32} {pk0 : ClassId} {pk1 : ClassId} {h0 : Heap} (O0 : Old Z n0 h0) (hf0 : Fld Z h0 pa0 "java/lang/String" "coder" "B" (.int (0 : Int32))) (hf1 : Fld Z h0 pa0 "java/lang/String" "value" "[B" (.ref pa2)) (hf2 : Exa Z h0 pa1 "java/lang/String") (hf3 : Fld Z h0 pa1 "java/lang/String" "coder" "B" (.int (0 : Int32))) (hf4 : Fld Z h0 pa1 "java/lang/String" "value" "[B" (.ref pa3)) (hf5 : Arv Z h0 pa2 pk0 .byte (2 : Int32) [(.int px0.toInt8.toInt32), (.int px1.toInt8.toInt32)] (.int 0)) (hf6 : Arv Z h0 pa3 pk1 .byte (2 : Int32) [(.int px2.toInt8.toInt32), (.int px3.toInt8.toInt32)] (.int 0)) (hn0 : n0 ≤ pa0) (hn1 : n0 ≤ pa1) (hn2 : n0 ≤ pa2) (hn3 : n0 ≤ pa3) (hd0 : pa0 ≠ pa1) (hk0 : px2.toInt8.toInt32 = px0.toInt8.toInt32) (hk1 : px0.toInt8.toInt32 = px2.toInt8.toInt32) (hk2 : ¬ (px3.toInt8.toInt32 = px1.toInt8.toInt32)) (hk3 : ¬ (px1.toInt8.toInt32 = px3.toInt8.toInt32)) (hc_px0 : nar .char px0 = px0) (hc_px1 : nar .char px1 = px1) (hc_px2 : nar .char px2 = px2) (hc_px3 : nar .char px3 = px3) :
    Ow.Con l Z EL1 n0 my14 jdk_42_method_66_code 3 (Option.some Jvm.ClassFile.FieldType.boolean) [] ({ frames := 1, cells := 0, slots := 0, locals := 14 } : Room) #[(.ref pa0), (.ref pa1)] [pa2, pa0, pa3, pa1] h0 (fun v h S' => (v = some (.int (0 : Int32)) ∧ h = h0 ∧ S' = [])) := by
  refine Ow.Con.enter (Ls := #[.val (.ref pa0), .val (.ref pa1), .unset]) (plainFor_of_name pn1) O0 (hEW hw) (hSA hw) ?_
  intro p e s m below meth c B
  have z0 := Ow.old_le O0
  have lu0 : (u0 : Nat) < n0 := O0.1 ▸ GS.2.lt
  have lpa0 : (pa0 : Nat) < h0.size := hf0.lt
  have lpa1 : (pa1 : Nat) < h0.size := hf2.lt
  have lpa2 : (pa2 : Nat) < h0.size := hf5.lt
  have lpa3 : (pa3 : Nat) < h0.size := hf6.lt
  refine Ow.aloadN (pc' := 1) B e13_0 ?_
  refine Ow.aloadN (pc' := 2) B e13_1 ?_
  refine Ow.acmpR (pc' := 7) (same := false) B e13_2 (decide_eq_false (fun q => absurd (show (pa0 : Nat) = pa1 from Value.ref.inj q) (by omega))) ?_
  refine Ow.aloadN (pc' := 8) B e13_7 ?_
  refine Ow.instYes (pc' := 11) B e13_8 (w93 hw) (Ins.self hf2) ?_
  refine Ow.ifF (pc' := 14) B e13_11 (by decide) ?_
  refine Ow.aloadN (pc' := 15) B e13_14 ?_
  refine Ow.checkcast (pc' := 18) B e13_15 (w93 hw) (Ins.self hf2) ?_
  refine Ow.astoreN (pc' := 19) (Ls' := #[.val (.ref pa0), .val (.ref pa1), .val (.ref pa1)]) B e13_18 ?_
  refine Ow.getstatic (pc' := 22) B e13_19 (w94 hw) Via.refl G.1 ?_
  refine Ow.ifF (pc' := 25) B e13_22 (feq (G.2.1)).1 ?_
  refine Ow.aloadN (pc' := 26) B e13_25 ?_
  refine Ow.getfield (pc' := 29) B e13_26 (w25 hw) Via.refl hf0 ?_
  refine Ow.aloadN (pc' := 30) B e13_29 ?_
  refine Ow.getfield (pc' := 33) B e13_30 (w25 hw) Via.refl hf3 ?_
  refine Ow.icmpF (pc' := 36) B e13_33 (by decide) ?_
  refine Ow.aloadN (pc' := 37) B e13_36 ?_
  refine Ow.getfield (pc' := 40) B e13_37 (w24 hw) Via.refl hf1 ?_
  refine Ow.aloadN (pc' := 41) B e13_40 ?_
  refine Ow.getfield (pc' := 44) B e13_41 (w24 hw) Via.refl hf4 ?_
  refine Ow.Go.old (fun o1 => ?_)
  refine Ow.callStatic (pc' := 47) (W := 0) (k' := 0) (n' := 0) (argsL := [(.ref pa2), (.ref pa3)]) (rest := []) B e13_44 (w95 hw) (w96 hw) (w97 hw) (w98 hw) (con_equals_88 hw G GS (pa0 := pa2) (pa1 := pa3) (px0 := px0) (px1 := px1) (px2 := px2) (px3 := px3) (pk0 := pk0) (pk1 := pk1) o1 hf5 hf6 (by omega) (by omega) (hk0) (hk1) (hk2) (hk3) hc_px0 hc_px1 hc_px2 hc_px3) pd11 ?_
  intro vq2 h3 S4 q2 zh3
  obtain ⟨rfl, rfl, rfl⟩ := q2
  refine Ow.Go.norm (S' := [pa2, pa0, pa3, pa1]) (st' := [(.int (0 : Int32))]) (fun _ q => List.mem_append_right _ q) rfl ?_
  refine Ow.ifT (pc' := 54) B e13_47 (by decide) ?_
  refine Ow.iconst (pc' := 55) (x := (0 : Int32)) B e13_54 ?_
  exact Ow.retI (S' := []) (t := .boolean) B e13_55 (⟨rfl, rfl, rfl⟩)
set_option maxRecDepth 65536 in
set_option maxHeartbeats 40000000 in
theorem con_contains_90 {l : Launch} {Z : State} {n0 : Nat} {a0 : Array Value} {cz : Int32} {sf : Value} (hw : Hw a0 Z) (G : Ow.Glo Z cz sf) {u0 : Nat} (GS : GlS Z u0) {pa0 : Nat} {pa1 : Nat} {pa2 : Nat} {pa3 : Nat} {pa4 : Nat} {px0 : Int32} {px1 : Int32} {px2 : Int32} {px3 : Int32} {pk0 : ClassId} {pk1 : ClassId} {h0 : Heap} (O0 : Old Z n0 h0) (hf0 : Fld Z h0 pa0 "java/util/ImmutableCollections$Set12" "e0" "Ljava/lang/Object;" (.ref pa2)) (hf1 : Fld Z h0 pa0 "java/util/ImmutableCollections$Set12" "e1" "Ljava/lang/Object;" (.ref u0)) (hf2 : Exa Z h0 pa1 "java/lang/String") (hf3 : Fld Z h0 pa1 "java/lang/String" "coder" "B" (.int (0 : Int32))) (hf4 : Fld Z h0 pa1 "java/lang/String" "value" "[B" (.ref pa3)) (hf5 : Exa Z h0 pa2 "java/lang/String") (hf6 : Fld Z h0 pa2 "java/lang/String" "coder" "B" (.int (0 : Int32))) (hf7 : Fld Z h0 pa2 "java/lang/String" "value" "[B" (.ref pa4)) (hf8 : Arv Z h0 pa3 pk0 .byte (2 : Int32) [(.int px0.toInt8.toInt32), (.int px1.toInt8.toInt32)] (.int 0)) (hf9 : Arv Z h0 pa4 pk1 .byte (2 : Int32) [(.int px2.toInt8.toInt32), (.int px3.toInt8.toInt32)] (.int 0)) (hn0 : n0 ≤ pa0) (hn1 : n0 ≤ pa1) (hn2 : n0 ≤ pa2) (hn3 : n0 ≤ pa3) (hn4 : n0 ≤ pa4) (hd0 : pa1 ≠ pa2) (hd1 : u0 ≠ pa1) (hk0 : px2.toInt8.toInt32 = px0.toInt8.toInt32) (hk1 : px0.toInt8.toInt32 = px2.toInt8.toInt32) (hk2 : ¬ (px3.toInt8.toInt32 = px1.toInt8.toInt32)) (hk3 : ¬ (px1.toInt8.toInt32 = px3.toInt8.toInt32)) (hc_px0 : nar .char px0 = px0) (hc_px1 : nar .char px1 = px1) (hc_px2 : nar .char px2 = px2) (hc_px3 : nar .char px3 = px3) :
    Ow.Con l Z EL1 n0 my16 jdk_101_method_5_code 2 (Option.some Jvm.ClassFile.FieldType.boolean) [] ({ frames := 2, cells := 0, slots := 0, locals := 28 } : Room) #[(.ref pa0), (.ref pa1)] [pa3, pa1, pa4, pa2] h0 (fun v h S' => (v = some (.int (0 : Int32)) ∧ h = h0 ∧ S' = [])) := by
  refine Ow.Con.enter (Ls := #[.val (.ref pa0), .val (.ref pa1)]) (plainFor_of_name pn4) O0 (hEW hw) (hSA hw) ?_
  intro p e s m below meth c B
  have z0 := Ow.old_le O0
  have lu0 : (u0 : Nat) < n0 := O0.1 ▸ GS.2.lt
  have lpa0 : (pa0 : Nat) < h0.size := hf0.lt
  have lpa1 : (pa1 : Nat) < h0.size := hf2.lt
  have lpa2 : (pa2 : Nat) < h0.size := hf5.lt
  have lpa3 : (pa3 : Nat) < h0.size := hf8.lt
  have lpa4 : (pa4 : Nat) < h0.size := hf9.lt
  refine Ow.aloadN (pc' := 1) B e16_0 ?_
  refine Ow.aloadN (pc' := 2) B e16_1 ?_
  refine Ow.getfield (pc' := 5) B e16_2 (w66 hw) Via.refl hf0 ?_
  refine Ow.Go.old (fun o1 => ?_)
  refine Ow.callVirtual (pc' := 8) (W := 0) (k' := 0) (n' := 0) (argsL := [(.ref pa2)]) (rest := []) (K := "java/lang/String") B e16_5 (w116 hw) (w117 hw) (w130 hw) (w119 hw) (w90 hw) (w6 hw) (w92 hw) hf2 (con_equals_89 hw G GS (pa0 := pa1) (pa1 := pa2) (pa2 := pa3) (pa3 := pa4) (px0 := px0) (px1 := px1) (px2 := px2) (px3 := px3) (pk0 := pk0) (pk1 := pk1) o1 hf3 hf4 hf5 hf6 hf7 hf8 hf9 (by omega) (by omega) (by omega) (by omega) (by omega) (hk0) (hk1) (hk2) (hk3) hc_px0 hc_px1 hc_px2 hc_px3) pd12 ?_
  intro vq2 h3 S4 q2 zh3
  obtain ⟨rfl, rfl, rfl⟩ := q2
  refine Ow.Go.norm (S' := [pa3, pa1, pa4, pa2]) (st' := [(.int (0 : Int32))]) (fun _ q => List.mem_append_right _ q) rfl ?_
  refine Ow.ifF (pc' := 11) B e16_8 (by decide) ?_
  refine Ow.aloadN (pc' := 12) B e16_11 ?_
  refine Ow.getfield (pc' := 15) B e16_12 (w70 hw) Via.refl hf1 ?_
  refine Ow.aloadN (pc' := 16) B e16_15 ?_
  refine Ow.Go.old (fun o5 => ?_)
  have f6 := Exa.ext o5.2 GS.2
  refine Ow.objEq (pc' := 19) (W := 0) (K := "java/lang/Object") B e16_16 (w116 hw) (w117 hw) (w130 hw) (w130 hw) (w118 hw) (w131 hw) (by decide +kernel) f6 pd12 e20_0 e20_1 e20_2 e20_9 e20_10 (by omega) ?_
  refine Ow.ifT (pc' := 26) B e16_19 (by decide) ?_
  refine Ow.iconst (pc' := 27) (x := (0 : Int32)) B e16_26 ?_
  exact Ow.retI (S' := []) (t := .boolean) B e16_27 (⟨rfl, rfl, rfl⟩)
set_option maxRecDepth 65536 in
set_option maxHeartbeats 40000000 in
theorem con_equals_91 {l : Launch} {Z : State} {n0 : Nat} {a0 : Array Value} {cz : Int32} {sf : Value} (hw : Hw a0 Z) (G : Ow.Glo Z cz sf) {u0 : Nat} (GS : GlS Z u0) {pa0 : Nat} {pa1 : Nat} {px0 : Int32} {px1 : Int32} {px2 : Int32} {px3 : Int32} {pk0 : ClassId} {pk1 : ClassId} {h0 : Heap} (O0 : Old Z n0 h0) (hf0 : Arv Z h0 pa0 pk0 .byte (2 : Int32) [(.int px0.toInt8.toInt32), (.int px1.toInt8.toInt32)] (.int 0)) (hf1 : Arv Z h0 pa1 pk1 .byte (2 : Int32) [(.int px2.toInt8.toInt32), (.int px3.toInt8.toInt32)] (.int 0)) (hn0 : n0 ≤ pa0) (hn1 : n0 ≤ pa1) (hk0 : ¬ (px2.toInt8.toInt32 = px0.toInt8.toInt32)) (hk1 : ¬ (px0.toInt8.toInt32 = px2.toInt8.toInt32)) (hc_px0 : nar .char px0 = px0) (hc_px1 : nar .char px1 = px1) (hc_px2 : nar .char px2 = px2) (hc_px3 : nar .char px3 = px3) :
    Ow.Con l Z EL1 n0 my13 jdk_43_method_13_code 3 (Option.some Jvm.ClassFile.FieldType.boolean) [] ({ frames := 0, cells := 0, slots := 0, locals := 0 } : Room) #[(.ref pa0), (.ref pa1)] [pa0, pa1] h0 (fun v h S' => (v = some (.int (0 : Int32)) ∧ h = h0 ∧ S' = [])) := by
  refine Ow.Con.enter (Ls := #[.val (.ref pa0), .val (.ref pa1), .unset]) (plainFor_of_name pn9) O0 (hEW hw) (hSA hw) ?_
  intro p e s m below meth c B
  have z0 := Ow.old_le O0
  have lu0 : (u0 : Nat) < n0 := O0.1 ▸ GS.2.lt
  have lpa0 : (pa0 : Nat) < h0.size := hf0.lt
  have lpa1 : (pa1 : Nat) < h0.size := hf1.lt
  refine Ow.aloadN (pc' := 1) B e14_0 ?_
  refine Ow.arrlen (pc' := 2) B e14_1 hf0 ?_
  refine Ow.aloadN (pc' := 3) B e14_2 ?_
  refine Ow.arrlen (pc' := 4) B e14_3 hf1 ?_
  refine Ow.icmpF (pc' := 7) B e14_4 (by decide) ?_
  refine Ow.iconst (pc' := 8) (x := (0 : Int32)) B e14_7 ?_
  refine Ow.istoreN (pc' := 9) (Ls' := #[.val (.ref pa0), .val (.ref pa1), .val (.int (0 : Int32))]) B e14_8 ?_
  refine Ow.iloadN (pc' := 10) B e14_9 ?_
  refine Ow.aloadN (pc' := 11) B e14_10 ?_
  refine Ow.arrlen (pc' := 12) B e14_11 hf0 ?_
  refine Ow.icmpF (pc' := 15) B e14_12 (by decide) ?_
  refine Ow.aloadN (pc' := 16) B e14_15 ?_
  refine Ow.iloadN (pc' := 17) B e14_16 ?_
  refine Ow.baload (pc' := 18) B e14_17 hf0 ⟨by decide, by decide⟩ rfl ?_
  refine Ow.aloadN (pc' := 19) B e14_18 ?_
  refine Ow.iloadN (pc' := 20) B e14_19 ?_
  refine Ow.baload (pc' := 21) B e14_20 hf1 ⟨by decide, by decide⟩ rfl ?_
  refine Ow.icmpF (pc' := 24) B e14_21 (feq (hk1)).1 ?_
  refine Ow.iconst (pc' := 25) (x := (0 : Int32)) B e14_24 ?_
  exact Ow.retI (S' := []) (t := .boolean) B e14_25 (⟨rfl, rfl, rfl⟩)
set_option maxRecDepth 65536 in
set_option maxHeartbeats 40000000 in
theorem con_equals_92 {l : Launch} {Z : State} {n0 : Nat} {a0 : Array Value} {cz : Int32} {sf : Value} (hw : Hw a0 Z) (G : Ow.Glo Z cz sf) {u0 : Nat} (GS : GlS Z u0) {pa0 : Nat} {pa1 : Nat} {pa2 : Nat} {pa3 : Nat} {px0 : Int32} {px1 : Int32} {px2 : Int32} {px3 : Int32} {pk0 : ClassId} {pk1 : ClassId} {h0 : Heap} (O0 : Old Z n0 h0) (hf0 : Fld Z h0 pa0 "java/lang/String" "coder" "B" (.int (0 : Int32))) (hf1 : Fld Z h0 pa0 "java/lang/String" "value" "[B" (.ref pa2)) (hf2 : Exa Z h0 pa1 "java/lang/String") (hf3 : Fld Z h0 pa1 "java/lang/String" "coder" "B" (.int (0 : Int32))) (hf4 : Fld Z h0 pa1 "java/lang/String" "value" "[B" (.ref pa3)) (hf5 : Arv Z h0 pa2 pk0 .byte (2 : Int32) [(.int px0.toInt8.toInt32), (.int px1.toInt8.toInt32)] (.int 0)) (hf6 : Arv Z h0 pa3 pk1 .byte (2 : Int32) [(.int px2.toInt8.toInt32), (.int px3.toInt8.toInt32)] (.int 0)) (hn0 : n0 ≤ pa0) (hn1 : n0 ≤ pa1) (hn2 : n0 ≤ pa2) (hn3 : n0 ≤ pa3) (hd0 : pa0 ≠ pa1) (hk0 : ¬ (px2.toInt8.toInt32 = px0.toInt8.toInt32)) (hk1 : ¬ (px0.toInt8.toInt32 = px2.toInt8.toInt32)) (hc_px0 : nar .char px0 = px0) (hc_px1 : nar .char px1 = px1) (hc_px2 : nar .char px2 = px2) (hc_px3 : nar .char px3 = px3) :
    Ow.Con l Z EL1 n0 my14 jdk_42_method_66_code 3 (Option.some Jvm.ClassFile.FieldType.boolean) [] ({ frames := 1, cells := 0, slots := 0, locals := 14 } : Room) #[(.ref pa0), (.ref pa1)] [pa2, pa0, pa3, pa1] h0 (fun v h S' => (v = some (.int (0 : Int32)) ∧ h = h0 ∧ S' = [])) := by
  refine Ow.Con.enter (Ls := #[.val (.ref pa0), .val (.ref pa1), .unset]) (plainFor_of_name pn1) O0 (hEW hw) (hSA hw) ?_
  intro p e s m below meth c B
  have z0 := Ow.old_le O0
  have lu0 : (u0 : Nat) < n0 := O0.1 ▸ GS.2.lt
  have lpa0 : (pa0 : Nat) < h0.size := hf0.lt
  have lpa1 : (pa1 : Nat) < h0.size := hf2.lt
  have lpa2 : (pa2 : Nat) < h0.size := hf5.lt
  have lpa3 : (pa3 : Nat) < h0.size := hf6.lt
  refine Ow.aloadN (pc' := 1) B e13_0 ?_
  refine Ow.aloadN (pc' := 2) B e13_1 ?_
  refine Ow.acmpR (pc' := 7) (same := false) B e13_2 (decide_eq_false (fun q => absurd (show (pa0 : Nat) = pa1 from Value.ref.inj q) (by omega))) ?_
  refine Ow.aloadN (pc' := 8) B e13_7 ?_
  refine Ow.instYes (pc' := 11) B e13_8 (w93 hw) (Ins.self hf2) ?_
  refine Ow.ifF (pc' := 14) B e13_11 (by decide) ?_
  refine Ow.aloadN (pc' := 15) B e13_14 ?_
  refine Ow.checkcast (pc' := 18) B e13_15 (w93 hw) (Ins.self hf2) ?_
  refine Ow.astoreN (pc' := 19) (Ls' := #[.val (.ref pa0), .val (.ref pa1), .val (.ref pa1)]) B e13_18 ?_
  refine Ow.getstatic (pc' := 22) B e13_19 (w94 hw) Via.refl G.1 ?_
  refine Ow.ifF (pc' := 25) B e13_22 (feq (G.2.1)).1 ?_
  refine Ow.aloadN (pc' := 26) B e13_25 ?_
  refine Ow.getfield (pc' := 29) B e13_26 (w25 hw) Via.refl hf0 ?_
  refine Ow.aloadN (pc' := 30) B e13_29 ?_
  refine Ow.getfield (pc' := 33) B e13_30 (w25 hw) Via.refl hf3 ?_
  refine Ow.icmpF (pc' := 36) B e13_33 (by decide) ?_
  refine Ow.aloadN (pc' := 37) B e13_36 ?_
  refine Ow.getfield (pc' := 40) B e13_37 (w24 hw) Via.refl hf1 ?_
  refine Ow.aloadN (pc' := 41) B e13_40 ?_
  refine Ow.getfield (pc' := 44) B e13_41 (w24 hw) Via.refl hf4 ?_
  refine Ow.Go.old (fun o1 => ?_)
  refine Ow.callStatic (pc' := 47) (W := 0) (k' := 0) (n' := 0) (argsL := [(.ref pa2), (.ref pa3)]) (rest := []) B e13_44 (w95 hw) (w96 hw) (w97 hw) (w98 hw) (con_equals_91 hw G GS (pa0 := pa2) (pa1 := pa3) (px0 := px0) (px1 := px1) (px2 := px2) (px3 := px3) (pk0 := pk0) (pk1 := pk1) o1 hf5 hf6 (by omega) (by omega) (hk0) (hk1) hc_px0 hc_px1 hc_px2 hc_px3) pd11 ?_
  intro vq2 h3 S4 q2 zh3
  obtain ⟨rfl, rfl, rfl⟩ := q2
  refine Ow.Go.norm (S' := [pa2, pa0, pa3, pa1]) (st' := [(.int (0 : Int32))]) (fun _ q => List.mem_append_right _ q) rfl ?_
  refine Ow.ifT (pc' := 54) B e13_47 (by decide) ?_
  refine Ow.iconst (pc' := 55) (x := (0 : Int32)) B e13_54 ?_
  exact Ow.retI (S' := []) (t := .boolean) B e13_55 (⟨rfl, rfl, rfl⟩)
set_option maxRecDepth 65536 in
set_option maxHeartbeats 40000000 in
theorem con_contains_93 {l : Launch} {Z : State} {n0 : Nat} {a0 : Array Value} {cz : Int32} {sf : Value} (hw : Hw a0 Z) (G : Ow.Glo Z cz sf) {u0 : Nat} (GS : GlS Z u0) {pa0 : Nat} {pa1 : Nat} {pa2 : Nat} {pa3 : Nat} {pa4 : Nat} {px0 : Int32} {px1 : Int32} {px2 : Int32} {px3 : Int32} {pk0 : ClassId} {pk1 : ClassId} {h0 : Heap} (O0 : Old Z n0 h0) (hf0 : Fld Z h0 pa0 "java/util/ImmutableCollections$Set12" "e0" "Ljava/lang/Object;" (.ref pa2)) (hf1 : Fld Z h0 pa0 "java/util/ImmutableCollections$Set12" "e1" "Ljava/lang/Object;" (.ref u0)) (hf2 : Exa Z h0 pa1 "java/lang/String") (hf3 : Fld Z h0 pa1 "java/lang/String" "coder" "B" (.int (0 : Int32))) (hf4 : Fld Z h0 pa1 "java/lang/String" "value" "[B" (.ref pa3)) (hf5 : Exa Z h0 pa2 "java/lang/String") (hf6 : Fld Z h0 pa2 "java/lang/String" "coder" "B" (.int (0 : Int32))) (hf7 : Fld Z h0 pa2 "java/lang/String" "value" "[B" (.ref pa4)) (hf8 : Arv Z h0 pa3 pk0 .byte (2 : Int32) [(.int px0.toInt8.toInt32), (.int px1.toInt8.toInt32)] (.int 0)) (hf9 : Arv Z h0 pa4 pk1 .byte (2 : Int32) [(.int px2.toInt8.toInt32), (.int px3.toInt8.toInt32)] (.int 0)) (hn0 : n0 ≤ pa0) (hn1 : n0 ≤ pa1) (hn2 : n0 ≤ pa2) (hn3 : n0 ≤ pa3) (hn4 : n0 ≤ pa4) (hd0 : pa1 ≠ pa2) (hd1 : u0 ≠ pa1) (hk0 : ¬ (px2.toInt8.toInt32 = px0.toInt8.toInt32)) (hk1 : ¬ (px0.toInt8.toInt32 = px2.toInt8.toInt32)) (hc_px0 : nar .char px0 = px0) (hc_px1 : nar .char px1 = px1) (hc_px2 : nar .char px2 = px2) (hc_px3 : nar .char px3 = px3) :
    Ow.Con l Z EL1 n0 my16 jdk_101_method_5_code 2 (Option.some Jvm.ClassFile.FieldType.boolean) [] ({ frames := 2, cells := 0, slots := 0, locals := 28 } : Room) #[(.ref pa0), (.ref pa1)] [pa3, pa1, pa4, pa2] h0 (fun v h S' => (v = some (.int (0 : Int32)) ∧ h = h0 ∧ S' = [])) := by
  refine Ow.Con.enter (Ls := #[.val (.ref pa0), .val (.ref pa1)]) (plainFor_of_name pn4) O0 (hEW hw) (hSA hw) ?_
  intro p e s m below meth c B
  have z0 := Ow.old_le O0
  have lu0 : (u0 : Nat) < n0 := O0.1 ▸ GS.2.lt
  have lpa0 : (pa0 : Nat) < h0.size := hf0.lt
  have lpa1 : (pa1 : Nat) < h0.size := hf2.lt
  have lpa2 : (pa2 : Nat) < h0.size := hf5.lt
  have lpa3 : (pa3 : Nat) < h0.size := hf8.lt
  have lpa4 : (pa4 : Nat) < h0.size := hf9.lt
  refine Ow.aloadN (pc' := 1) B e16_0 ?_
  refine Ow.aloadN (pc' := 2) B e16_1 ?_
  refine Ow.getfield (pc' := 5) B e16_2 (w66 hw) Via.refl hf0 ?_
  refine Ow.Go.old (fun o1 => ?_)
  refine Ow.callVirtual (pc' := 8) (W := 0) (k' := 0) (n' := 0) (argsL := [(.ref pa2)]) (rest := []) (K := "java/lang/String") B e16_5 (w116 hw) (w117 hw) (w130 hw) (w119 hw) (w90 hw) (w6 hw) (w92 hw) hf2 (con_equals_92 hw G GS (pa0 := pa1) (pa1 := pa2) (pa2 := pa3) (pa3 := pa4) (px0 := px0) (px1 := px1) (px2 := px2) (px3 := px3) (pk0 := pk0) (pk1 := pk1) o1 hf3 hf4 hf5 hf6 hf7 hf8 hf9 (by omega) (by omega) (by omega) (by omega) (by omega) (hk0) (hk1) hc_px0 hc_px1 hc_px2 hc_px3) pd12 ?_
  intro vq2 h3 S4 q2 zh3
  obtain ⟨rfl, rfl, rfl⟩ := q2
  refine Ow.Go.norm (S' := [pa3, pa1, pa4, pa2]) (st' := [(.int (0 : Int32))]) (fun _ q => List.mem_append_right _ q) rfl ?_
  refine Ow.ifF (pc' := 11) B e16_8 (by decide) ?_
  refine Ow.aloadN (pc' := 12) B e16_11 ?_
  refine Ow.getfield (pc' := 15) B e16_12 (w70 hw) Via.refl hf1 ?_
  refine Ow.aloadN (pc' := 16) B e16_15 ?_
  refine Ow.Go.old (fun o5 => ?_)
  have f6 := Exa.ext o5.2 GS.2
  refine Ow.objEq (pc' := 19) (W := 0) (K := "java/lang/Object") B e16_16 (w116 hw) (w117 hw) (w130 hw) (w130 hw) (w118 hw) (w131 hw) (by decide +kernel) f6 pd12 e20_0 e20_1 e20_2 e20_9 e20_10 (by omega) ?_
  refine Ow.ifT (pc' := 26) B e16_19 (by decide) ?_
  refine Ow.iconst (pc' := 27) (x := (0 : Int32)) B e16_26 ?_
  exact Ow.retI (S' := []) (t := .boolean) B e16_27 (⟨rfl, rfl, rfl⟩)
set_option maxRecDepth 65536 in
set_option maxHeartbeats 40000000 in
theorem con_equals_94 {l : Launch} {Z : State} {n0 : Nat} {a0 : Array Value} {cz : Int32} {sf : Value} (hw : Hw a0 Z) (G : Ow.Glo Z cz sf) {u0 : Nat} (GS : GlS Z u0) {pa0 : Nat} {pa1 : Nat} {px0 : Int32} {px1 : Int32} {px2 : Int32} {px3 : Int32} {px4 : Int32} {pk0 : ClassId} {pk1 : ClassId} {h0 : Heap} (O0 : Old Z n0 h0) (hf0 : Arv Z h0 pa0 pk0 .byte (2 : Int32) [(.int px0.toInt8.toInt32), (.int px1.toInt8.toInt32)] (.int 0)) (hf1 : Arv Z h0 pa1 pk1 .byte (3 : Int32) [(.int px2.toInt8.toInt32), (.int px3.toInt8.toInt32), (.int px4.toInt8.toInt32)] (.int 0)) (hn0 : n0 ≤ pa0) (hn1 : n0 ≤ pa1) (hc_px0 : nar .char px0 = px0) (hc_px1 : nar .char px1 = px1) (hc_px2 : nar .char px2 = px2) (hc_px3 : nar .char px3 = px3) (hc_px4 : nar .char px4 = px4) :
    Ow.Con l Z EL1 n0 my13 jdk_43_method_13_code 3 (Option.some Jvm.ClassFile.FieldType.boolean) [] ({ frames := 0, cells := 0, slots := 0, locals := 0 } : Room) #[(.ref pa0), (.ref pa1)] [pa1, pa0] h0 (fun v h S' => (v = some (.int (0 : Int32)) ∧ h = h0 ∧ S' = [])) := by
  refine Ow.Con.enter (Ls := #[.val (.ref pa0), .val (.ref pa1), .unset]) (plainFor_of_name pn9) O0 (hEW hw) (hSA hw) ?_
  intro p e s m below meth c B
  have z0 := Ow.old_le O0
  have lu0 : (u0 : Nat) < n0 := O0.1 ▸ GS.2.lt
  have lpa0 : (pa0 : Nat) < h0.size := hf0.lt
  have lpa1 : (pa1 : Nat) < h0.size := hf1.lt
  refine Ow.aloadN (pc' := 1) B e14_0 ?_
  refine Ow.arrlen (pc' := 2) B e14_1 hf0 ?_
  refine Ow.aloadN (pc' := 3) B e14_2 ?_
  refine Ow.arrlen (pc' := 4) B e14_3 hf1 ?_
  refine Ow.icmpT (pc' := 34) B e14_4 (by decide) ?_
  refine Ow.iconst (pc' := 35) (x := (0 : Int32)) B e14_34 ?_
  exact Ow.retI (S' := []) (t := .boolean) B e14_35 (⟨rfl, rfl, rfl⟩)
set_option maxRecDepth 65536 in
set_option maxHeartbeats 40000000 in
theorem con_equals_95 {l : Launch} {Z : State} {n0 : Nat} {a0 : Array Value} {cz : Int32} {sf : Value} (hw : Hw a0 Z) (G : Ow.Glo Z cz sf) {u0 : Nat} (GS : GlS Z u0) {pa0 : Nat} {pa1 : Nat} {pa2 : Nat} {pa3 : Nat} {px0 : Int32} {px1 : Int32} {px2 : Int32} {px3 : Int32} {px4 : Int32} {pk0 : ClassId} {pk1 : ClassId} {h0 : Heap} (O0 : Old Z n0 h0) (hf0 : Fld Z h0 pa0 "java/lang/String" "coder" "B" (.int (0 : Int32))) (hf1 : Fld Z h0 pa0 "java/lang/String" "value" "[B" (.ref pa2)) (hf2 : Exa Z h0 pa1 "java/lang/String") (hf3 : Fld Z h0 pa1 "java/lang/String" "coder" "B" (.int (0 : Int32))) (hf4 : Fld Z h0 pa1 "java/lang/String" "value" "[B" (.ref pa3)) (hf5 : Arv Z h0 pa2 pk0 .byte (2 : Int32) [(.int px0.toInt8.toInt32), (.int px1.toInt8.toInt32)] (.int 0)) (hf6 : Arv Z h0 pa3 pk1 .byte (3 : Int32) [(.int px2.toInt8.toInt32), (.int px3.toInt8.toInt32), (.int px4.toInt8.toInt32)] (.int 0)) (hn0 : n0 ≤ pa0) (hn1 : n0 ≤ pa1) (hn2 : n0 ≤ pa2) (hn3 : n0 ≤ pa3) (hd0 : pa0 ≠ pa1) (hc_px0 : nar .char px0 = px0) (hc_px1 : nar .char px1 = px1) (hc_px2 : nar .char px2 = px2) (hc_px3 : nar .char px3 = px3) (hc_px4 : nar .char px4 = px4) :
    Ow.Con l Z EL1 n0 my14 jdk_42_method_66_code 3 (Option.some Jvm.ClassFile.FieldType.boolean) [] ({ frames := 1, cells := 0, slots := 0, locals := 14 } : Room) #[(.ref pa0), (.ref pa1)] [pa3, pa1, pa2, pa0] h0 (fun v h S' => (v = some (.int (0 : Int32)) ∧ h = h0 ∧ S' = [])) := by
  refine Ow.Con.enter (Ls := #[.val (.ref pa0), .val (.ref pa1), .unset]) (plainFor_of_name pn1) O0 (hEW hw) (hSA hw) ?_
  intro p e s m below meth c B
  have z0 := Ow.old_le O0
  have lu0 : (u0 : Nat) < n0 := O0.1 ▸ GS.2.lt
  have lpa0 : (pa0 : Nat) < h0.size := hf0.lt
  have lpa1 : (pa1 : Nat) < h0.size := hf2.lt
  have lpa2 : (pa2 : Nat) < h0.size := hf5.lt
  have lpa3 : (pa3 : Nat) < h0.size := hf6.lt
  refine Ow.aloadN (pc' := 1) B e13_0 ?_
  refine Ow.aloadN (pc' := 2) B e13_1 ?_
  refine Ow.acmpR (pc' := 7) (same := false) B e13_2 (decide_eq_false (fun q => absurd (show (pa0 : Nat) = pa1 from Value.ref.inj q) (by omega))) ?_
  refine Ow.aloadN (pc' := 8) B e13_7 ?_
  refine Ow.instYes (pc' := 11) B e13_8 (w93 hw) (Ins.self hf2) ?_
  refine Ow.ifF (pc' := 14) B e13_11 (by decide) ?_
  refine Ow.aloadN (pc' := 15) B e13_14 ?_
  refine Ow.checkcast (pc' := 18) B e13_15 (w93 hw) (Ins.self hf2) ?_
  refine Ow.astoreN (pc' := 19) (Ls' := #[.val (.ref pa0), .val (.ref pa1), .val (.ref pa1)]) B e13_18 ?_
  refine Ow.getstatic (pc' := 22) B e13_19 (w94 hw) Via.refl G.1 ?_
  refine Ow.ifF (pc' := 25) B e13_22 (feq (G.2.1)).1 ?_
  refine Ow.aloadN (pc' := 26) B e13_25 ?_
  refine Ow.getfield (pc' := 29) B e13_26 (w25 hw) Via.refl hf0 ?_
  refine Ow.aloadN (pc' := 30) B e13_29 ?_
  refine Ow.getfield (pc' := 33) B e13_30 (w25 hw) Via.refl hf3 ?_
  refine Ow.icmpF (pc' := 36) B e13_33 (by decide) ?_
  refine Ow.aloadN (pc' := 37) B e13_36 ?_
  refine Ow.getfield (pc' := 40) B e13_37 (w24 hw) Via.refl hf1 ?_
  refine Ow.aloadN (pc' := 41) B e13_40 ?_
  refine Ow.getfield (pc' := 44) B e13_41 (w24 hw) Via.refl hf4 ?_
  refine Ow.Go.old (fun o1 => ?_)
  refine Ow.callStatic (pc' := 47) (W := 0) (k' := 0) (n' := 0) (argsL := [(.ref pa2), (.ref pa3)]) (rest := []) B e13_44 (w95 hw) (w96 hw) (w97 hw) (w98 hw) (con_equals_94 hw G GS (pa0 := pa2) (pa1 := pa3) (px0 := px0) (px1 := px1) (px2 := px2) (px3 := px3) (px4 := px4) (pk0 := pk0) (pk1 := pk1) o1 hf5 hf6 (by omega) (by omega) hc_px0 hc_px1 hc_px2 hc_px3 hc_px4) pd11 ?_
  intro vq2 h3 S4 q2 zh3
  obtain ⟨rfl, rfl, rfl⟩ := q2
  refine Ow.Go.norm (S' := [pa3, pa1, pa2, pa0]) (st' := [(.int (0 : Int32))]) (fun _ q => List.mem_append_right _ q) rfl ?_
  refine Ow.ifT (pc' := 54) B e13_47 (by decide) ?_
  refine Ow.iconst (pc' := 55) (x := (0 : Int32)) B e13_54 ?_
  exact Ow.retI (S' := []) (t := .boolean) B e13_55 (⟨rfl, rfl, rfl⟩)
set_option maxRecDepth 65536 in
set_option maxHeartbeats 40000000 in
theorem con_equals_96 {l : Launch} {Z : State} {n0 : Nat} {a0 : Array Value} {cz : Int32} {sf : Value} (hw : Hw a0 Z) (G : Ow.Glo Z cz sf) {u0 : Nat} (GS : GlS Z u0) {pa0 : Nat} {pa1 : Nat} {px0 : Int32} {px1 : Int32} {px2 : Int32} {px3 : Int32} {px4 : Int32} {pk0 : ClassId} {pk1 : ClassId} {h0 : Heap} (O0 : Old Z n0 h0) (hf0 : Arv Z h0 pa0 pk0 .byte (3 : Int32) [(.int px0.toInt8.toInt32), (.int px1.toInt8.toInt32), (.int px2.toInt8.toInt32)] (.int 0)) (hf1 : Arv Z h0 pa1 pk1 .byte (2 : Int32) [(.int px3.toInt8.toInt32), (.int px4.toInt8.toInt32)] (.int 0)) (hn0 : n0 ≤ pa0) (hn1 : n0 ≤ pa1) (hc_px0 : nar .char px0 = px0) (hc_px1 : nar .char px1 = px1) (hc_px2 : nar .char px2 = px2) (hc_px3 : nar .char px3 = px3) (hc_px4 : nar .char px4 = px4) :
    Ow.Con l Z EL1 n0 my13 jdk_43_method_13_code 3 (Option.some Jvm.ClassFile.FieldType.boolean) [] ({ frames := 0, cells := 0, slots := 0, locals := 0 } : Room) #[(.ref pa0), (.ref pa1)] [pa0, pa1] h0 (fun v h S' => (v = some (.int (0 : Int32)) ∧ h = h0 ∧ S' = [])) := by
  refine Ow.Con.enter (Ls := #[.val (.ref pa0), .val (.ref pa1), .unset]) (plainFor_of_name pn9) O0 (hEW hw) (hSA hw) ?_
  intro p e s m below meth c B
  have z0 := Ow.old_le O0
  have lu0 : (u0 : Nat) < n0 := O0.1 ▸ GS.2.lt
  have lpa0 : (pa0 : Nat) < h0.size := hf0.lt
  have lpa1 : (pa1 : Nat) < h0.size := hf1.lt
  refine Ow.aloadN (pc' := 1) B e14_0 ?_
  refine Ow.arrlen (pc' := 2) B e14_1 hf0 ?_
  refine Ow.aloadN (pc' := 3) B e14_2 ?_
  refine Ow.arrlen (pc' := 4) B e14_3 hf1 ?_
  refine Ow.icmpT (pc' := 34) B e14_4 (by decide) ?_
  refine Ow.iconst (pc' := 35) (x := (0 : Int32)) B e14_34 ?_
  exact Ow.retI (S' := []) (t := .boolean) B e14_35 (⟨rfl, rfl, rfl⟩)
set_option maxRecDepth 65536 in
set_option maxHeartbeats 40000000 in
theorem con_equals_97 {l : Launch} {Z : State} {n0 : Nat} {a0 : Array Value} {cz : Int32} {sf : Value} (hw : Hw a0 Z) (G : Ow.Glo Z cz sf) {u0 : Nat} (GS : GlS Z u0) {pa0 : Nat} {pa1 : Nat} {pa2 : Nat} {pa3 : Nat} {px0 : Int32} {px1 : Int32} {px2 : Int32} {px3 : Int32} {px4 : Int32} {pk0 : ClassId} {pk1 : ClassId} {h0 : Heap} (O0 : Old Z n0 h0) (hf0 : Fld Z h0 pa0 "java/lang/String" "coder" "B" (.int (0 : Int32))) (hf1 : Fld Z h0 pa0 "java/lang/String" "value" "[B" (.ref pa2)) (hf2 : Exa Z h0 pa1 "java/lang/String") (hf3 : Fld Z h0 pa1 "java/lang/String" "coder" "B" (.int (0 : Int32))) (hf4 : Fld Z h0 pa1 "java/lang/String" "value" "[B" (.ref pa3)) (hf5 : Arv Z h0 pa2 pk0 .byte (3 : Int32) [(.int px0.toInt8.toInt32), (.int px1.toInt8.toInt32), (.int px2.toInt8.toInt32)] (.int 0)) (hf6 : Arv Z h0 pa3 pk1 .byte (2 : Int32) [(.int px3.toInt8.toInt32), (.int px4.toInt8.toInt32)] (.int 0)) (hn0 : n0 ≤ pa0) (hn1 : n0 ≤ pa1) (hn2 : n0 ≤ pa2) (hn3 : n0 ≤ pa3) (hd0 : pa0 ≠ pa1) (hc_px0 : nar .char px0 = px0) (hc_px1 : nar .char px1 = px1) (hc_px2 : nar .char px2 = px2) (hc_px3 : nar .char px3 = px3) (hc_px4 : nar .char px4 = px4) :
    Ow.Con l Z EL1 n0 my14 jdk_42_method_66_code 3 (Option.some Jvm.ClassFile.FieldType.boolean) [] ({ frames := 1, cells := 0, slots := 0, locals := 14 } : Room) #[(.ref pa0), (.ref pa1)] [pa2, pa0, pa3, pa1] h0 (fun v h S' => (v = some (.int (0 : Int32)) ∧ h = h0 ∧ S' = [])) := by
  refine Ow.Con.enter (Ls := #[.val (.ref pa0), .val (.ref pa1), .unset]) (plainFor_of_name pn1) O0 (hEW hw) (hSA hw) ?_
  intro p e s m below meth c B
  have z0 := Ow.old_le O0
  have lu0 : (u0 : Nat) < n0 := O0.1 ▸ GS.2.lt
  have lpa0 : (pa0 : Nat) < h0.size := hf0.lt
  have lpa1 : (pa1 : Nat) < h0.size := hf2.lt
  have lpa2 : (pa2 : Nat) < h0.size := hf5.lt
  have lpa3 : (pa3 : Nat) < h0.size := hf6.lt
  refine Ow.aloadN (pc' := 1) B e13_0 ?_
  refine Ow.aloadN (pc' := 2) B e13_1 ?_
  refine Ow.acmpR (pc' := 7) (same := false) B e13_2 (decide_eq_false (fun q => absurd (show (pa0 : Nat) = pa1 from Value.ref.inj q) (by omega))) ?_
  refine Ow.aloadN (pc' := 8) B e13_7 ?_
  refine Ow.instYes (pc' := 11) B e13_8 (w93 hw) (Ins.self hf2) ?_
  refine Ow.ifF (pc' := 14) B e13_11 (by decide) ?_
  refine Ow.aloadN (pc' := 15) B e13_14 ?_
  refine Ow.checkcast (pc' := 18) B e13_15 (w93 hw) (Ins.self hf2) ?_
  refine Ow.astoreN (pc' := 19) (Ls' := #[.val (.ref pa0), .val (.ref pa1), .val (.ref pa1)]) B e13_18 ?_
  refine Ow.getstatic (pc' := 22) B e13_19 (w94 hw) Via.refl G.1 ?_
  refine Ow.ifF (pc' := 25) B e13_22 (feq (G.2.1)).1 ?_
  refine Ow.aloadN (pc' := 26) B e13_25 ?_
  refine Ow.getfield (pc' := 29) B e13_26 (w25 hw) Via.refl hf0 ?_
  refine Ow.aloadN (pc' := 30) B e13_29 ?_
  refine Ow.getfield (pc' := 33) B e13_30 (w25 hw) Via.refl hf3 ?_
  refine Ow.icmpF (pc' := 36) B e13_33 (by decide) ?_
  refine Ow.aloadN (pc' := 37) B e13_36 ?_
  refine Ow.getfield (pc' := 40) B e13_37 (w24 hw) Via.refl hf1 ?_
  refine Ow.aloadN (pc' := 41) B e13_40 ?_
  refine Ow.getfield (pc' := 44) B e13_41 (w24 hw) Via.refl hf4 ?_
  refine Ow.Go.old (fun o1 => ?_)
  refine Ow.callStatic (pc' := 47) (W := 0) (k' := 0) (n' := 0) (argsL := [(.ref pa2), (.ref pa3)]) (rest := []) B e13_44 (w95 hw) (w96 hw) (w97 hw) (w98 hw) (con_equals_96 hw G GS (pa0 := pa2) (pa1 := pa3) (px0 := px0) (px1 := px1) (px2 := px2) (px3 := px3) (px4 := px4) (pk0 := pk0) (pk1 := pk1) o1 hf5 hf6 (by omega) (by omega) hc_px0 hc_px1 hc_px2 hc_px3 hc_px4) pd11 ?_
  intro vq2 h3 S4 q2 zh3
  obtain ⟨rfl, rfl, rfl⟩ := q2
  refine Ow.Go.norm (S' := [pa2, pa0, pa3, pa1]) (st' := [(.int (0 : Int32))]) (fun _ q => List.mem_append_right _ q) rfl ?_
  refine Ow.ifT (pc' := 54) B e13_47 (by decide) ?_
  refine Ow.iconst (pc' := 55) (x := (0 : Int32)) B e13_54 ?_
  exact Ow.retI (S' := []) (t := .boolean) B e13_55 (⟨rfl, rfl, rfl⟩)
set_option maxRecDepth 65536 in
set_option maxHeartbeats 40000000 in
theorem con_contains_98 {l : Launch} {Z : State} {n0 : Nat} {a0 : Array Value} {cz : Int32} {sf : Value} (hw : Hw a0 Z) (G : Ow.Glo Z cz sf) {u0 : Nat} (GS : GlS Z u0) {pa0 : Nat} {pa1 : Nat} {pa2 : Nat} {pa3 : Nat} {pa4 : Nat} {px0 : Int32} {px1 : Int32} {px2 : Int32} {px3 : Int32} {px4 : Int32} {pk0 : ClassId} {pk1 : ClassId} {h0 : Heap} (O0 : Old Z n0 h0) (hf0 : Fld Z h0 pa0 "java/util/ImmutableCollections$Set12" "e0" "Ljava/lang/Object;" (.ref pa2)) (hf1 : Fld Z h0 pa0 "java/util/ImmutableCollections$Set12" "e1" "Ljava/lang/Object;" (.ref u0)) (hf2 : Exa Z h0 pa1 "java/lang/String") (hf3 : Fld Z h0 pa1 "java/lang/String" "coder" "B" (.int (0 : Int32))) (hf4 : Fld Z h0 pa1 "java/lang/String" "value" "[B" (.ref pa3)) (hf5 : Exa Z h0 pa2 "java/lang/String") (hf6 : Fld Z h0 pa2 "java/lang/String" "coder" "B" (.int (0 : Int32))) (hf7 : Fld Z h0 pa2 "java/lang/String" "value" "[B" (.ref pa4)) (hf8 : Arv Z h0 pa3 pk0 .byte (3 : Int32) [(.int px0.toInt8.toInt32), (.int px1.toInt8.toInt32), (.int px2.toInt8.toInt32)] (.int 0)) (hf9 : Arv Z h0 pa4 pk1 .byte (2 : Int32) [(.int px3.toInt8.toInt32), (.int px4.toInt8.toInt32)] (.int 0)) (hn0 : n0 ≤ pa0) (hn1 : n0 ≤ pa1) (hn2 : n0 ≤ pa2) (hn3 : n0 ≤ pa3) (hn4 : n0 ≤ pa4) (hd0 : pa1 ≠ pa2) (hd1 : u0 ≠ pa1) (hc_px0 : nar .char px0 = px0) (hc_px1 : nar .char px1 = px1) (hc_px2 : nar .char px2 = px2) (hc_px3 : nar .char px3 = px3) (hc_px4 : nar .char px4 = px4) :
    Ow.Con l Z EL1 n0 my16 jdk_101_method_5_code 2 (Option.some Jvm.ClassFile.FieldType.boolean) [] ({ frames := 2, cells := 0, slots := 0, locals := 28 } : Room) #[(.ref pa0), (.ref pa1)] [pa3, pa1, pa4, pa2] h0 (fun v h S' => (v = some (.int (0 : Int32)) ∧ h = h0 ∧ S' = [])) := by
  refine Ow.Con.enter (Ls := #[.val (.ref pa0), .val (.ref pa1)]) (plainFor_of_name pn4) O0 (hEW hw) (hSA hw) ?_
  intro p e s m below meth c B
  have z0 := Ow.old_le O0
  have lu0 : (u0 : Nat) < n0 := O0.1 ▸ GS.2.lt
  have lpa0 : (pa0 : Nat) < h0.size := hf0.lt
  have lpa1 : (pa1 : Nat) < h0.size := hf2.lt
  have lpa2 : (pa2 : Nat) < h0.size := hf5.lt
  have lpa3 : (pa3 : Nat) < h0.size := hf8.lt
  have lpa4 : (pa4 : Nat) < h0.size := hf9.lt
  refine Ow.aloadN (pc' := 1) B e16_0 ?_
  refine Ow.aloadN (pc' := 2) B e16_1 ?_
  refine Ow.getfield (pc' := 5) B e16_2 (w66 hw) Via.refl hf0 ?_
  refine Ow.Go.old (fun o1 => ?_)
  refine Ow.callVirtual (pc' := 8) (W := 0) (k' := 0) (n' := 0) (argsL := [(.ref pa2)]) (rest := []) (K := "java/lang/String") B e16_5 (w116 hw) (w117 hw) (w130 hw) (w119 hw) (w90 hw) (w6 hw) (w92 hw) hf2 (con_equals_97 hw G GS (pa0 := pa1) (pa1 := pa2) (pa2 := pa3) (pa3 := pa4) (px0 := px0) (px1 := px1) (px2 := px2) (px3 := px3) (px4 := px4) (pk0 := pk0) (pk1 := pk1) o1 hf3 hf4 hf5 hf6 hf7 hf8 hf9 (by omega) (by omega) (by omega) (by omega) (by omega) hc_px0 hc_px1 hc_px2 hc_px3 hc_px4) pd12 ?_
  intro vq2 h3 S4 q2 zh3
  obtain ⟨rfl, rfl, rfl⟩ := q2
  refine Ow.Go.norm (S' := [pa3, pa1, pa4, pa2]) (st' := [(.int (0 : Int32))]) (fun _ q => List.mem_append_right _ q) rfl ?_
  refine Ow.ifF (pc' := 11) B e16_8 (by decide) ?_
  refine Ow.aloadN (pc' := 12) B e16_11 ?_
  refine Ow.getfield (pc' := 15) B e16_12 (w70 hw) Via.refl hf1 ?_
  refine Ow.aloadN (pc' := 16) B e16_15 ?_
  refine Ow.Go.old (fun o5 => ?_)
  have f6 := Exa.ext o5.2 GS.2
  refine Ow.objEq (pc' := 19) (W := 0) (K := "java/lang/Object") B e16_16 (w116 hw) (w117 hw) (w130 hw) (w130 hw) (w118 hw) (w131 hw) (by decide +kernel) f6 pd12 e20_0 e20_1 e20_2 e20_9 e20_10 (by omega) ?_
  refine Ow.ifT (pc' := 26) B e16_19 (by decide) ?_
  refine Ow.iconst (pc' := 27) (x := (0 : Int32)) B e16_26 ?_
  exact Ow.retI (S' := []) (t := .boolean) B e16_27 (⟨rfl, rfl, rfl⟩)
set_option maxRecDepth 65536 in
set_option maxHeartbeats 40000000 in
theorem con_equals_99 {l : Launch} {Z : State} {n0 : Nat} {a0 : Array Value} {cz : Int32} {sf : Value} (hw : Hw a0 Z) (G : Ow.Glo Z cz sf) {u0 : Nat} (GS : GlS Z u0) {pa0 : Nat} {pa1 : Nat} {pa2 : Nat} {pa3 : Nat} {px0 : Int32} {px1 : Int32} {px2 : Int32} {pk0 : ClassId} {pk1 : ClassId} {h0 : Heap} (O0 : Old Z n0 h0) (hf0 : Fld Z h0 pa0 "java/lang/String" "coder" "B" (.int (0 : Int32))) (hf1 : Fld Z h0 pa0 "java/lang/String" "value" "[B" (.ref pa2)) (hf2 : Exa Z h0 pa1 "java/lang/String") (hf3 : Fld Z h0 pa1 "java/lang/String" "coder" "B" (.int (0 : Int32))) (hf4 : Fld Z h0 pa1 "java/lang/String" "value" "[B" (.ref pa3)) (hf5 : Arv Z h0 pa2 pk0 .byte (3 : Int32) [(.int px0.toInt8.toInt32), (.int px1.toInt8.toInt32), (.int px2.toInt8.toInt32)] (.int 0)) (hf6 : Arv Z h0 pa3 pk1 .byte (0 : Int32) [] (.int 0)) (hn0 : n0 ≤ pa0) (hn1 : n0 ≤ pa1) (hn2 : n0 ≤ pa2) (hd0 : pa0 ≠ pa1) (hc_px0 : nar .char px0 = px0) (hc_px1 : nar .char px1 = px1) (hc_px2 : nar .char px2 = px2) :
    Ow.Con l Z EL1 n0 my14 jdk_42_method_66_code 3 (Option.some Jvm.ClassFile.FieldType.boolean) [] ({ frames := 1, cells := 0, slots := 0, locals := 14 } : Room) #[(.ref pa0), (.ref pa1)] [pa1, pa2, pa0] h0 (fun v h S' => (v = some (.int (0 : Int32)) ∧ h = h0 ∧ S' = [])) := by
  refine Ow.Con.enter (Ls := #[.val (.ref pa0), .val (.ref pa1), .unset]) (plainFor_of_name pn1) O0 (hEW hw) (hSA hw) ?_
  intro p e s m below meth c B
  have z0 := Ow.old_le O0
  have lu0 : (u0 : Nat) < n0 := O0.1 ▸ GS.2.lt
  have lpa0 : (pa0 : Nat) < h0.size := hf0.lt
  have lpa1 : (pa1 : Nat) < h0.size := hf2.lt
  have lpa2 : (pa2 : Nat) < h0.size := hf5.lt
  have lpa3 : (pa3 : Nat) < h0.size := hf6.lt
  refine Ow.aloadN (pc' := 1) B e13_0 ?_
  refine Ow.aloadN (pc' := 2) B e13_1 ?_
  refine Ow.acmpR (pc' := 7) (same := false) B e13_2 (decide_eq_false (fun q => absurd (show (pa0 : Nat) = pa1 from Value.ref.inj q) (by omega))) ?_
  refine Ow.aloadN (pc' := 8) B e13_7 ?_
  refine Ow.instYes (pc' := 11) B e13_8 (w93 hw) (Ins.self hf2) ?_
  refine Ow.ifF (pc' := 14) B e13_11 (by decide) ?_
  refine Ow.aloadN (pc' := 15) B e13_14 ?_
  refine Ow.checkcast (pc' := 18) B e13_15 (w93 hw) (Ins.self hf2) ?_
  refine Ow.astoreN (pc' := 19) (Ls' := #[.val (.ref pa0), .val (.ref pa1), .val (.ref pa1)]) B e13_18 ?_
  refine Ow.getstatic (pc' := 22) B e13_19 (w94 hw) Via.refl G.1 ?_
  refine Ow.ifF (pc' := 25) B e13_22 (feq (G.2.1)).1 ?_
  refine Ow.aloadN (pc' := 26) B e13_25 ?_
  refine Ow.getfield (pc' := 29) B e13_26 (w25 hw) Via.refl hf0 ?_
  refine Ow.aloadN (pc' := 30) B e13_29 ?_
  refine Ow.getfield (pc' := 33) B e13_30 (w25 hw) Via.refl hf3 ?_
  refine Ow.icmpF (pc' := 36) B e13_33 (by decide) ?_
  refine Ow.aloadN (pc' := 37) B e13_36 ?_
  refine Ow.getfield (pc' := 40) B e13_37 (w24 hw) Via.refl hf1 ?_
  refine Ow.aloadN (pc' := 41) B e13_40 ?_
  refine Ow.getfield (pc' := 44) B e13_41 (w24 hw) Via.refl hf4 ?_
  refine Ow.Go.old (fun o1 => ?_)
  refine Ow.callStatic (pc' := 47) (W := 0) (k' := 0) (n' := 0) (argsL := [(.ref pa2), (.ref pa3)]) (rest := []) B e13_44 (w95 hw) (w96 hw) (w97 hw) (w98 hw) (con_equals_51 hw G GS (pa0 := pa2) (pa1 := pa3) (px0 := px0) (px1 := px1) (px2 := px2) (pk0 := pk0) (pk1 := pk1) o1 hf5 hf6 (by omega) hc_px0 hc_px1 hc_px2) pd11 ?_
  intro vq2 h3 S4 q2 zh3
  obtain ⟨rfl, rfl, rfl⟩ := q2
  refine Ow.Go.norm (S' := [pa1, pa2, pa0]) (st' := [(.int (0 : Int32))]) (fun _ q => List.mem_append_right _ q) rfl ?_
  refine Ow.ifT (pc' := 54) B e13_47 (by decide) ?_
  refine Ow.iconst (pc' := 55) (x := (0 : Int32)) B e13_54 ?_
  exact Ow.retI (S' := []) (t := .boolean) B e13_55 (⟨rfl, rfl, rfl⟩)
set_option maxRecDepth 65536 in
set_option maxHeartbeats 40000000 in
theorem con_equals_100 {l : Launch} {Z : State} {n0 : Nat} {a0 : Array Value} {cz : Int32} {sf : Value} (hw : Hw a0 Z) (G : Ow.Glo Z cz sf) {u0 : Nat} (GS : GlS Z u0) {pa0 : Nat} {pa1 : Nat} {pa2 : Nat} {pa3 : Nat} {px0 : Int32} {px1 : Int32} {px2 : Int32} {pk0 : ClassId} {pk1 : ClassId} {h0 : Heap} (O0 : Old Z n0 h0) (hf0 : Fld Z h0 pa0 "java/lang/String" "coder" "B" (.int (0 : Int32))) (hf1 : Fld Z h0 pa0 "java/lang/String" "value" "[B" (.ref pa2)) (hf2 : Exa Z h0 pa1 "java/lang/String") (hf3 : Fld Z h0 pa1 "java/lang/String" "coder" "B" (.int (0 : Int32))) (hf4 : Fld Z h0 pa1 "java/lang/String" "value" "[B" (.ref pa3)) (hf5 : Arv Z h0 pa2 pk0 .byte (0 : Int32) [] (.int 0)) (hf6 : Arv Z h0 pa3 pk1 .byte (3 : Int32) [(.int px0.toInt8.toInt32), (.int px1.toInt8.toInt32), (.int px2.toInt8.toInt32)] (.int 0)) (hn0 : n0 ≤ pa0) (hn1 : n0 ≤ pa1) (hn3 : n0 ≤ pa3) (hd0 : pa0 ≠ pa1) (hc_px0 : nar .char px0 = px0) (hc_px1 : nar .char px1 = px1) (hc_px2 : nar .char px2 = px2) :
    Ow.Con l Z EL1 n0 my14 jdk_42_method_66_code 3 (Option.some Jvm.ClassFile.FieldType.boolean) [] ({ frames := 1, cells := 0, slots := 0, locals := 14 } : Room) #[(.ref pa0), (.ref pa1)] [pa0, pa3, pa1] h0 (fun v h S' => (v = some (.int (0 : Int32)) ∧ h = h0 ∧ S' = [])) := by
  refine Ow.Con.enter (Ls := #[.val (.ref pa0), .val (.ref pa1), .unset]) (plainFor_of_name pn1) O0 (hEW hw) (hSA hw) ?_
  intro p e s m below meth c B
  have z0 := Ow.old_le O0
  have lu0 : (u0 : Nat) < n0 := O0.1 ▸ GS.2.lt
  have lpa0 : (pa0 : Nat) < h0.size := hf0.lt
  have lpa1 : (pa1 : Nat) < h0.size := hf2.lt
  have lpa2 : (pa2 : Nat) < h0.size := hf5.lt
  have lpa3 : (pa3 : Nat) < h0.size := hf6.lt
  refine Ow.aloadN (pc' := 1) B e13_0 ?_
  refine Ow.aloadN (pc' := 2) B e13_1 ?_
  refine Ow.acmpR (pc' := 7) (same := false) B e13_2 (decide_eq_false (fun q => absurd (show (pa0 : Nat) = pa1 from Value.ref.inj q) (by omega))) ?_
  refine Ow.aloadN (pc' := 8) B e13_7 ?_
  refine Ow.instYes (pc' := 11) B e13_8 (w93 hw) (Ins.self hf2) ?_
  refine Ow.ifF (pc' := 14) B e13_11 (by decide) ?_
  refine Ow.aloadN (pc' := 15) B e13_14 ?_
  refine Ow.checkcast (pc' := 18) B e13_15 (w93 hw) (Ins.self hf2) ?_
  refine Ow.astoreN (pc' := 19) (Ls' := #[.val (.ref pa0), .val (.ref pa1), .val (.ref pa1)]) B e13_18 ?_
  refine Ow.getstatic (pc' := 22) B e13_19 (w94 hw) Via.refl G.1 ?_
  refine Ow.ifF (pc' := 25) B e13_22 (feq (G.2.1)).1 ?_
  refine Ow.aloadN (pc' := 26) B e13_25 ?_
  refine Ow.getfield (pc' := 29) B e13_26 (w25 hw) Via.refl hf0 ?_
  refine Ow.aloadN (pc' := 30) B e13_29 ?_
  refine Ow.getfield (pc' := 33) B e13_30 (w25 hw) Via.refl hf3 ?_
  refine Ow.icmpF (pc' := 36) B e13_33 (by decide) ?_
  refine Ow.aloadN (pc' := 37) B e13_36 ?_
  refine Ow.getfield (pc' := 40) B e13_37 (w24 hw) Via.refl hf1 ?_
  refine Ow.aloadN (pc' := 41) B e13_40 ?_
  refine Ow.getfield (pc' := 44) B e13_41 (w24 hw) Via.refl hf4 ?_
  refine Ow.Go.old (fun o1 => ?_)
  refine Ow.callStatic (pc' := 47) (W := 0) (k' := 0) (n' := 0) (argsL := [(.ref pa2), (.ref pa3)]) (rest := []) B e13_44 (w95 hw) (w96 hw) (w97 hw) (w98 hw) (con_equals_49 hw G GS (pa0 := pa2) (pa1 := pa3) (px0 := px0) (px1 := px1) (px2 := px2) (pk0 := pk0) (pk1 := pk1) o1 hf5 hf6 (by omega) hc_px0 hc_px1 hc_px2) pd11 ?_
  intro vq2 h3 S4 q2 zh3
  obtain ⟨rfl, rfl, rfl⟩ := q2
  refine Ow.Go.norm (S' := [pa0, pa3, pa1]) (st' := [(.int (0 : Int32))]) (fun _ q => List.mem_append_right _ q) rfl ?_
  refine Ow.ifT (pc' := 54) B e13_47 (by decide) ?_
  refine Ow.iconst (pc' := 55) (x := (0 : Int32)) B e13_54 ?_
  exact Ow.retI (S' := []) (t := .boolean) B e13_55 (⟨rfl, rfl, rfl⟩)
set_option maxRecDepth 65536 in
set_option maxHeartbeats 40000000 in
theorem con_contains_101 {l : Launch} {Z : State} {n0 : Nat} {a0 : Array Value} {cz : Int32} {sf : Value} (hw : Hw a0 Z) (G : Ow.Glo Z cz sf) {u0 : Nat} (GS : GlS Z u0) {pa0 : Nat} {pa1 : Nat} {pa2 : Nat} {pa3 : Nat} {pa4 : Nat} {px0 : Int32} {px1 : Int32} {px2 : Int32} {pk0 : ClassId} {pk1 : ClassId} {h0 : Heap} (O0 : Old Z n0 h0) (hf0 : Fld Z h0 pa0 "java/util/ImmutableCollections$Set12" "e0" "Ljava/lang/Object;" (.ref pa2)) (hf1 : Fld Z h0 pa0 "java/util/ImmutableCollections$Set12" "e1" "Ljava/lang/Object;" (.ref u0)) (hf2 : Exa Z h0 pa1 "java/lang/String") (hf3 : Fld Z h0 pa1 "java/lang/String" "coder" "B" (.int (0 : Int32))) (hf4 : Fld Z h0 pa1 "java/lang/String" "value" "[B" (.ref pa3)) (hf5 : Exa Z h0 pa2 "java/lang/String") (hf6 : Fld Z h0 pa2 "java/lang/String" "coder" "B" (.int (0 : Int32))) (hf7 : Fld Z h0 pa2 "java/lang/String" "value" "[B" (.ref pa4)) (hf8 : Arv Z h0 pa3 pk0 .byte (0 : Int32) [] (.int 0)) (hf9 : Arv Z h0 pa4 pk1 .byte (3 : Int32) [(.int px0.toInt8.toInt32), (.int px1.toInt8.toInt32), (.int px2.toInt8.toInt32)] (.int 0)) (hn0 : n0 ≤ pa0) (hn1 : n0 ≤ pa1) (hn2 : n0 ≤ pa2) (hn4 : n0 ≤ pa4) (hd0 : pa1 ≠ pa2) (hd1 : u0 ≠ pa1) (hc_px0 : nar .char px0 = px0) (hc_px1 : nar .char px1 = px1) (hc_px2 : nar .char px2 = px2) :
    Ow.Con l Z EL1 n0 my16 jdk_101_method_5_code 2 (Option.some Jvm.ClassFile.FieldType.boolean) [] ({ frames := 2, cells := 0, slots := 0, locals := 28 } : Room) #[(.ref pa0), (.ref pa1)] [pa1, pa4, pa2] h0 (fun v h S' => (v = some (.int (0 : Int32)) ∧ h = h0 ∧ S' = [])) := by
  refine Ow.Con.enter (Ls := #[.val (.ref pa0), .val (.ref pa1)]) (plainFor_of_name pn4) O0 (hEW hw) (hSA hw) ?_
  intro p e s m below meth c B
  have z0 := Ow.old_le O0
  have lu0 : (u0 : Nat) < n0 := O0.1 ▸ GS.2.lt
  have lpa0 : (pa0 : Nat) < h0.size := hf0.lt
  have lpa1 : (pa1 : Nat) < h0.size := hf2.lt
  have lpa2 : (pa2 : Nat) < h0.size := hf5.lt
  have lpa3 : (pa3 : Nat) < h0.size := hf8.lt
  have lpa4 : (pa4 : Nat) < h0.size := hf9.lt
  refine Ow.aloadN (pc' := 1) B e16_0 ?_
  refine Ow.aloadN (pc' := 2) B e16_1 ?_
  refine Ow.getfield (pc' := 5) B e16_2 (w66 hw) Via.refl hf0 ?_
  refine Ow.Go.old (fun o1 => ?_)
  refine Ow.callVirtual (pc' := 8) (W := 0) (k' := 0) (n' := 0) (argsL := [(.ref pa2)]) (rest := []) (K := "java/lang/String") B e16_5 (w116 hw) (w117 hw) (w130 hw) (w119 hw) (w90 hw) (w6 hw) (w92 hw) hf2 (con_equals_100 hw G GS (pa0 := pa1) (pa1 := pa2) (pa2 := pa3) (pa3 := pa4) (px0 := px0) (px1 := px1) (px2 := px2) (pk0 := pk0) (pk1 := pk1) o1 hf3 hf4 hf5 hf6 hf7 hf8 hf9 (by omega) (by omega) (by omega) (by omega) hc_px0 hc_px1 hc_px2) pd12 ?_
  intro vq2 h3 S4 q2 zh3
  obtain ⟨rfl, rfl, rfl⟩ := q2
  refine Ow.Go.norm (S' := [pa1, pa4, pa2]) (st' := [(.int (0 : Int32))]) (fun _ q => List.mem_append_right _ q) rfl ?_
  refine Ow.ifF (pc' := 11) B e16_8 (by decide) ?_
  refine Ow.aloadN (pc' := 12) B e16_11 ?_
  refine Ow.getfield (pc' := 15) B e16_12 (w70 hw) Via.refl hf1 ?_
  refine Ow.aloadN (pc' := 16) B e16_15 ?_
  refine Ow.Go.old (fun o5 => ?_)
  have f6 := Exa.ext o5.2 GS.2
  refine Ow.objEq (pc' := 19) (W := 0) (K := "java/lang/Object") B e16_16 (w116 hw) (w117 hw) (w130 hw) (w130 hw) (w118 hw) (w131 hw) (by decide +kernel) f6 pd12 e20_0 e20_1 e20_2 e20_9 e20_10 (by omega) ?_
  refine Ow.ifT (pc' := 26) B e16_19 (by decide) ?_
  refine Ow.iconst (pc' := 27) (x := (0 : Int32)) B e16_26 ?_
  exact Ow.retI (S' := []) (t := .boolean) B e16_27 (⟨rfl, rfl, rfl⟩)
set_option maxRecDepth 65536 in
set_option maxHeartbeats 40000000 in
theorem con_equals_102 {l : Launch} {Z : State} {n0 : Nat} {a0 : Array Value} {cz : Int32} {sf : Value} (hw : Hw a0 Z) (G : Ow.Glo Z cz sf) {u0 : Nat} (GS : GlS Z u0) {pa0 : Nat} {pa1 : Nat} {px0 : Int32} {px1 : Int32} {px2 : Int32} {px3 : Int32} {pk0 : ClassId} {pk1 : ClassId} {h0 : Heap} (O0 : Old Z n0 h0) (hf0 : Arv Z h0 pa0 pk0 .byte (3 : Int32) [(.int px0.toInt8.toInt32), (.int px1.toInt8.toInt32), (.int px2.toInt8.toInt32)] (.int 0)) (hf1 : Arv Z h0 pa1 pk1 .byte (1 : Int32) [(.int px3.toInt8.toInt32)] (.int 0)) (hn0 : n0 ≤ pa0) (hn1 : n0 ≤ pa1) (hc_px0 : nar .char px0 = px0) (hc_px1 : nar .char px1 = px1) (hc_px2 : nar .char px2 = px2) (hc_px3 : nar .char px3 = px3) :
    Ow.Con l Z EL1 n0 my13 jdk_43_method_13_code 3 (Option.some Jvm.ClassFile.FieldType.boolean) [] ({ frames := 0, cells := 0, slots := 0, locals := 0 } : Room) #[(.ref pa0), (.ref pa1)] [pa1, pa0] h0 (fun v h S' => (v = some (.int (0 : Int32)) ∧ h = h0 ∧ S' = [])) := by
  refine Ow.Con.enter (Ls := #[.val (.ref pa0), .val (.ref pa1), .unset]) (plainFor_of_name pn9) O0 (hEW hw) (hSA hw) ?_
  intro p e s m below meth c B
  have z0 := Ow.old_le O0
  have lu0 : (u0 : Nat) < n0 := O0.1 ▸ GS.2.lt
  have lpa0 : (pa0 : Nat) < h0.size := hf0.lt
  have lpa1 : (pa1 : Nat) < h0.size := hf1.lt
  refine Ow.aloadN (pc' := 1) B e14_0 ?_
  refine Ow.arrlen (pc' := 2) B e14_1 hf0 ?_
  refine Ow.aloadN (pc' := 3) B e14_2 ?_
  refine Ow.arrlen (pc' := 4) B e14_3 hf1 ?_
  refine Ow.icmpT (pc' := 34) B e14_4 (by decide) ?_
  refine Ow.iconst (pc' := 35) (x := (0 : Int32)) B e14_34 ?_
  exact Ow.retI (S' := []) (t := .boolean) B e14_35 (⟨rfl, rfl, rfl⟩)
set_option maxRecDepth 65536 in
set_option maxHeartbeats 40000000 in
theorem con_equals_103 {l : Launch} {Z : State} {n0 : Nat} {a0 : Array Value} {cz : Int32} {sf : Value} (hw : Hw a0 Z) (G : Ow.Glo Z cz sf) {u0 : Nat} (GS : GlS Z u0) {pa0 : Nat} {pa1 : Nat} {pa2 : Nat} {pa3 : Nat} {px0 : Int32} {px1 : Int32} {px2 : Int32} {px3 : Int32} {pk0 : ClassId} {pk1 : ClassId} {h0 : Heap} (O0 : Old Z n0 h0) (hf0 : Fld Z h0 pa0 "java/lang/String" "coder" "B" (.int (0 : Int32))) (hf1 : Fld Z h0 pa0 "java/lang/String" "value" "[B" (.ref pa2)) (hf2 : Exa Z h0 pa1 "java/lang/String") (hf3 : Fld Z h0 pa1 "java/lang/String" "coder" "B" (.int (0 : Int32))) (hf4 : Fld Z h0 pa1 "java/lang/String" "value" "[B" (.ref pa3)) (hf5 : Arv Z h0 pa2 pk0 .byte (3 : Int32) [(.int px0.toInt8.toInt32), (.int px1.toInt8.toInt32), (.int px2.toInt8.toInt32)] (.int 0)) (hf6 : Arv Z h0 pa3 pk1 .byte (1 : Int32) [(.int px3.toInt8.toInt32)] (.int 0)) (hn0 : n0 ≤ pa0) (hn1 : n0 ≤ pa1) (hn2 : n0 ≤ pa2) (hn3 : n0 ≤ pa3) (hd0 : pa0 ≠ pa1) (hc_px0 : nar .char px0 = px0) (hc_px1 : nar .char px1 = px1) (hc_px2 : nar .char px2 = px2) (hc_px3 : nar .char px3 = px3) :
    Ow.Con l Z EL1 n0 my14 jdk_42_method_66_code 3 (Option.some Jvm.ClassFile.FieldType.boolean) [] ({ frames := 1, cells := 0, slots := 0, locals := 14 } : Room) #[(.ref pa0), (.ref pa1)] [pa3, pa1, pa2, pa0] h0 (fun v h S' => (v = some (.int (0 : Int32)) ∧ h = h0 ∧ S' = [])) := by
  refine Ow.Con.enter (Ls := #[.val (.ref pa0), .val (.ref pa1), .unset]) (plainFor_of_name pn1) O0 (hEW hw) (hSA hw) ?_
  intro p e s m below meth c B
  have z0 := Ow.old_le O0
  have lu0 : (u0 : Nat) < n0 := O0.1 ▸ GS.2.lt
  have lpa0 : (pa0 : Nat) < h0.size := hf0.lt
  have lpa1 : (pa1 : Nat) < h0.size := hf2.lt
  have lpa2 : (pa2 : Nat) < h0.size := hf5.lt
  have lpa3 : (pa3 : Nat) < h0.size := hf6.lt
  refine Ow.aloadN (pc' := 1) B e13_0 ?_
  refine Ow.aloadN (pc' := 2) B e13_1 ?_
  refine Ow.acmpR (pc' := 7) (same := false) B e13_2 (decide_eq_false (fun q => absurd (show (pa0 : Nat) = pa1 from Value.ref.inj q) (by omega))) ?_
  refine Ow.aloadN (pc' := 8) B e13_7 ?_
  refine Ow.instYes (pc' := 11) B e13_8 (w93 hw) (Ins.self hf2) ?_
  refine Ow.ifF (pc' := 14) B e13_11 (by decide) ?_
  refine Ow.aloadN (pc' := 15) B e13_14 ?_
  refine Ow.checkcast (pc' := 18) B e13_15 (w93 hw) (Ins.self hf2) ?_
  refine Ow.astoreN (pc' := 19) (Ls' := #[.val (.ref pa0), .val (.ref pa1), .val (.ref pa1)]) B e13_18 ?_
  refine Ow.getstatic (pc' := 22) B e13_19 (w94 hw) Via.refl G.1 ?_
  refine Ow.ifF (pc' := 25) B e13_22 (feq (G.2.1)).1 ?_
  refine Ow.aloadN (pc' := 26) B e13_25 ?_
  refine Ow.getfield (pc' := 29) B e13_26 (w25 hw) Via.refl hf0 ?_
  refine Ow.aloadN (pc' := 30) B e13_29 ?_
  refine Ow.getfield (pc' := 33) B e13_30 (w25 hw) Via.refl hf3 ?_
  refine Ow.icmpF (pc' := 36) B e13_33 (by decide) ?_
  refine Ow.aloadN (pc' := 37) B e13_36 ?_
  refine Ow.getfield (pc' := 40) B e13_37 (w24 hw) Via.refl hf1 ?_
  refine Ow.aloadN (pc' := 41) B e13_40 ?_
  refine Ow.getfield (pc' := 44) B e13_41 (w24 hw) Via.refl hf4 ?_
  refine Ow.Go.old (fun o1 => ?_)
  refine Ow.callStatic (pc' := 47) (W := 0) (k' := 0) (n' := 0) (argsL := [(.ref pa2), (.ref pa3)]) (rest := []) B e13_44 (w95 hw) (w96 hw) (w97 hw) (w98 hw) (con_equals_102 hw G GS (pa0 := pa2) (pa1 := pa3) (px0 := px0) (px1 := px1) (px2 := px2) (px3 := px3) (pk0 := pk0) (pk1 := pk1) o1 hf5 hf6 (by omega) (by omega) hc_px0 hc_px1 hc_px2 hc_px3) pd11 ?_
  intro vq2 h3 S4 q2 zh3
  obtain ⟨rfl, rfl, rfl⟩ := q2
  refine Ow.Go.norm (S' := [pa3, pa1, pa2, pa0]) (st' := [(.int (0 : Int32))]) (fun _ q => List.mem_append_right _ q) rfl ?_
  refine Ow.ifT (pc' := 54) B e13_47 (by decide) ?_
  refine Ow.iconst (pc' := 55) (x := (0 : Int32)) B e13_54 ?_
  exact Ow.retI (S' := []) (t := .boolean) B e13_55 (⟨rfl, rfl, rfl⟩)
set_option maxRecDepth 65536 in
set_option maxHeartbeats 40000000 in
theorem con_equals_104 {l : Launch} {Z : State} {n0 : Nat} {a0 : Array Value} {cz : Int32} {sf : Value} (hw : Hw a0 Z) (G : Ow.Glo Z cz sf) {u0 : Nat} (GS : GlS Z u0) {pa0 : Nat} {pa1 : Nat} {px0 : Int32} {px1 : Int32} {px2 : Int32} {px3 : Int32} {pk0 : ClassId} {pk1 : ClassId} {h0 : Heap} (O0 : Old Z n0 h0) (hf0 : Arv Z h0 pa0 pk0 .byte (1 : Int32) [(.int px0.toInt8.toInt32)] (.int 0)) (hf1 : Arv Z h0 pa1 pk1 .byte (3 : Int32) [(.int px1.toInt8.toInt32), (.int px2.toInt8.toInt32), (.int px3.toInt8.toInt32)] (.int 0)) (hn0 : n0 ≤ pa0) (hn1 : n0 ≤ pa1) (hc_px0 : nar .char px0 = px0) (hc_px1 : nar .char px1 = px1) (hc_px2 : nar .char px2 = px2) (hc_px3 : nar .char px3 = px3) :
    Ow.Con l Z EL1 n0 my13 jdk_43_method_13_code 3 (Option.some Jvm.ClassFile.FieldType.boolean) [] ({ frames := 0, cells := 0, slots := 0, locals := 0 } : Room) #[(.ref pa0), (.ref pa1)] [pa0, pa1] h0 (fun v h S' => (v = some (.int (0 : Int32)) ∧ h = h0 ∧ S' = [])) := by
  refine Ow.Con.enter (Ls := #[.val (.ref pa0), .val (.ref pa1), .unset]) (plainFor_of_name pn9) O0 (hEW hw) (hSA hw) ?_
  intro p e s m below meth c B
  have z0 := Ow.old_le O0
  have lu0 : (u0 : Nat) < n0 := O0.1 ▸ GS.2.lt
  have lpa0 : (pa0 : Nat) < h0.size := hf0.lt
  have lpa1 : (pa1 : Nat) < h0.size := hf1.lt
  refine Ow.aloadN (pc' := 1) B e14_0 ?_
  refine Ow.arrlen (pc' := 2) B e14_1 hf0 ?_
  refine Ow.aloadN (pc' := 3) B e14_2 ?_
  refine Ow.arrlen (pc' := 4) B e14_3 hf1 ?_
  refine Ow.icmpT (pc' := 34) B e14_4 (by decide) ?_
  refine Ow.iconst (pc' := 35) (x := (0 : Int32)) B e14_34 ?_
  exact Ow.retI (S' := []) (t := .boolean) B e14_35 (⟨rfl, rfl, rfl⟩)
set_option maxRecDepth 65536 in
set_option maxHeartbeats 40000000 in
theorem con_equals_105 {l : Launch} {Z : State} {n0 : Nat} {a0 : Array Value} {cz : Int32} {sf : Value} (hw : Hw a0 Z) (G : Ow.Glo Z cz sf) {u0 : Nat} (GS : GlS Z u0) {pa0 : Nat} {pa1 : Nat} {pa2 : Nat} {pa3 : Nat} {px0 : Int32} {px1 : Int32} {px2 : Int32} {px3 : Int32} {pk0 : ClassId} {pk1 : ClassId} {h0 : Heap} (O0 : Old Z n0 h0) (hf0 : Fld Z h0 pa0 "java/lang/String" "coder" "B" (.int (0 : Int32))) (hf1 : Fld Z h0 pa0 "java/lang/String" "value" "[B" (.ref pa2)) (hf2 : Exa Z h0 pa1 "java/lang/String") (hf3 : Fld Z h0 pa1 "java/lang/String" "coder" "B" (.int (0 : Int32))) (hf4 : Fld Z h0 pa1 "java/lang/String" "value" "[B" (.ref pa3)) (hf5 : Arv Z h0 pa2 pk0 .byte (1 : Int32) [(.int px0.toInt8.toInt32)] (.int 0)) (hf6 : Arv Z h0 pa3 pk1 .byte (3 : Int32) [(.int px1.toInt8.toInt32), (.int px2.toInt8.toInt32), (.int px3.toInt8.toInt32)] (.int 0)) (hn0 : n0 ≤ pa0) (hn1 : n0 ≤ pa1) (hn2 : n0 ≤ pa2) (hn3 : n0 ≤ pa3) (hd0 : pa0 ≠ pa1) (hc_px0 : nar .char px0 = px0) (hc_px1 : nar .char px1 = px1) (hc_px2 : nar .char px2 = px2) (hc_px3 : nar .char px3 = px3) :
    Ow.Con l Z EL1 n0 my14 jdk_42_method_66_code 3 (Option.some Jvm.ClassFile.FieldType.boolean) [] ({ frames := 1, cells := 0, slots := 0, locals := 14 } : Room) #[(.ref pa0), (.ref pa1)] [pa2, pa0, pa3, pa1] h0 (fun v h S' => (v = some (.int (0 : Int32)) ∧ h = h0 ∧ S' = [])) := by
  refine Ow.Con.enter (Ls := #[.val (.ref pa0), .val (.ref pa1), .unset]) (plainFor_of_name pn1) O0 (hEW hw) (hSA hw) ?_
  intro p e s m below meth c B
  have z0 := Ow.old_le O0
  have lu0 : (u0 : Nat) < n0 := O0.1 ▸ GS.2.lt
  have lpa0 : (pa0 : Nat) < h0.size := hf0.lt
  have lpa1 : (pa1 : Nat) < h0.size := hf2.lt
  have lpa2 : (pa2 : Nat) < h0.size := hf5.lt
  have lpa3 : (pa3 : Nat) < h0.size := hf6.lt
  refine Ow.aloadN (pc' := 1) B e13_0 ?_
  refine Ow.aloadN (pc' := 2) B e13_1 ?_
  refine Ow.acmpR (pc' := 7) (same := false) B e13_2 (decide_eq_false (fun q => absurd (show (pa0 : Nat) = pa1 from Value.ref.inj q) (by omega))) ?_
  refine Ow.aloadN (pc' := 8) B e13_7 ?_
  refine Ow.instYes (pc' := 11) B e13_8 (w93 hw) (Ins.self hf2) ?_
  refine Ow.ifF (pc' := 14) B e13_11 (by decide) ?_
  refine Ow.aloadN (pc' := 15) B e13_14 ?_
  refine Ow.checkcast (pc' := 18) B e13_15 (w93 hw) (Ins.self hf2) ?_
  refine Ow.astoreN (pc' := 19) (Ls' := #[.val (.ref pa0), .val (.ref pa1), .val (.ref pa1)]) B e13_18 ?_
  refine Ow.getstatic (pc' := 22) B e13_19 (w94 hw) Via.refl G.1 ?_
  refine Ow.ifF (pc' := 25) B e13_22 (feq (G.2.1)).1 ?_
  refine Ow.aloadN (pc' := 26) B e13_25 ?_
  refine Ow.getfield (pc' := 29) B e13_26 (w25 hw) Via.refl hf0 ?_
  refine Ow.aloadN (pc' := 30) B e13_29 ?_
  refine Ow.getfield (pc' := 33) B e13_30 (w25 hw) Via.refl hf3 ?_
  refine Ow.icmpF (pc' := 36) B e13_33 (by decide) ?_
  refine Ow.aloadN (pc' := 37) B e13_36 ?_
  refine Ow.getfield (pc' := 40) B e13_37 (w24 hw) Via.refl hf1 ?_
  refine Ow.aloadN (pc' := 41) B e13_40 ?_
  refine Ow.getfield (pc' := 44) B e13_41 (w24 hw) Via.refl hf4 ?_
  refine Ow.Go.old (fun o1 => ?_)
  refine Ow.callStatic (pc' := 47) (W := 0) (k' := 0) (n' := 0) (argsL := [(.ref pa2), (.ref pa3)]) (rest := []) B e13_44 (w95 hw) (w96 hw) (w97 hw) (w98 hw) (con_equals_104 hw G GS (pa0 := pa2) (pa1 := pa3) (px0 := px0) (px1 := px1) (px2 := px2) (px3 := px3) (pk0 := pk0) (pk1 := pk1) o1 hf5 hf6 (by omega) (by omega) hc_px0 hc_px1 hc_px2 hc_px3) pd11 ?_
  intro vq2 h3 S4 q2 zh3
  obtain ⟨rfl, rfl, rfl⟩ := q2
  refine Ow.Go.norm (S' := [pa2, pa0, pa3, pa1]) (st' := [(.int (0 : Int32))]) (fun _ q => List.mem_append_right _ q) rfl ?_
  refine Ow.ifT (pc' := 54) B e13_47 (by decide) ?_
  refine Ow.iconst (pc' := 55) (x := (0 : Int32)) B e13_54 ?_
  exact Ow.retI (S' := []) (t := .boolean) B e13_55 (⟨rfl, rfl, rfl⟩)
set_option maxRecDepth 65536 in
set_option maxHeartbeats 40000000 in
theorem con_contains_106 {l : Launch} {Z : State} {n0 : Nat} {a0 : Array Value} {cz : Int32} {sf : Value} (hw : Hw a0 Z) (G : Ow.Glo Z cz sf) {u0 : Nat} (GS : GlS Z u0) {pa0 : Nat} {pa1 : Nat} {pa2 : Nat} {pa3 : Nat} {pa4 : Nat} {px0 : Int32} {px1 : Int32} {px2 : Int32} {px3 : Int32} {pk0 : ClassId} {pk1 : ClassId} {h0 : Heap} (O0 : Old Z n0 h0) (hf0 : Fld Z h0 pa0 "java/util/ImmutableCollections$Set12" "e0" "Ljava/lang/Object;" (.ref pa2)) (hf1 : Fld Z h0 pa0 "java/util/ImmutableCollections$Set12" "e1" "Ljava/lang/Object;" (.ref u0)) (hf2 : Exa Z h0 pa1 "java/lang/String") (hf3 : Fld Z h0 pa1 "java/lang/String" "coder" "B" (.int (0 : Int32))) (hf4 : Fld Z h0 pa1 "java/lang/String" "value" "[B" (.ref pa3)) (hf5 : Exa Z h0 pa2 "java/lang/String") (hf6 : Fld Z h0 pa2 "java/lang/String" "coder" "B" (.int (0 : Int32))) (hf7 : Fld Z h0 pa2 "java/lang/String" "value" "[B" (.ref pa4)) (hf8 : Arv Z h0 pa3 pk0 .byte (1 : Int32) [(.int px0.toInt8.toInt32)] (.int 0)) (hf9 : Arv Z h0 pa4 pk1 .byte (3 : Int32) [(.int px1.toInt8.toInt32), (.int px2.toInt8.toInt32), (.int px3.toInt8.toInt32)] (.int 0)) (hn0 : n0 ≤ pa0) (hn1 : n0 ≤ pa1) (hn2 : n0 ≤ pa2) (hn3 : n0 ≤ pa3) (hn4 : n0 ≤ pa4) (hd0 : pa1 ≠ pa2) (hd1 : u0 ≠ pa1) (hc_px0 : nar .char px0 = px0) (hc_px1 : nar .char px1 = px1) (hc_px2 : nar .char px2 = px2) (hc_px3 : nar .char px3 = px3) :
    Ow.Con l Z EL1 n0 my16 jdk_101_method_5_code 2 (Option.some Jvm.ClassFile.FieldType.boolean) [] ({ frames := 2, cells := 0, slots := 0, locals := 28 } : Room) #[(.ref pa0), (.ref pa1)] [pa3, pa1, pa4, pa2] h0 (fun v h S' => (v = some (.int (0 : Int32)) ∧ h = h0 ∧ S' = [])) := by
  refine Ow.Con.enter (Ls := #[.val (.ref pa0), .val (.ref pa1)]) (plainFor_of_name pn4) O0 (hEW hw) (hSA hw) ?_
  intro p e s m below meth c B
  have z0 := Ow.old_le O0
  have lu0 : (u0 : Nat) < n0 := O0.1 ▸ GS.2.lt
  have lpa0 : (pa0 : Nat) < h0.size := hf0.lt
  have lpa1 : (pa1 : Nat) < h0.size := hf2.lt
  have lpa2 : (pa2 : Nat) < h0.size := hf5.lt
  have lpa3 : (pa3 : Nat) < h0.size := hf8.lt
  have lpa4 : (pa4 : Nat) < h0.size := hf9.lt
  refine Ow.aloadN (pc' := 1) B e16_0 ?_
  refine Ow.aloadN (pc' := 2) B e16_1 ?_
  refine Ow.getfield (pc' := 5) B e16_2 (w66 hw) Via.refl hf0 ?_
  refine Ow.Go.old (fun o1 => ?_)
  refine Ow.callVirtual (pc' := 8) (W := 0) (k' := 0) (n' := 0) (argsL := [(.ref pa2)]) (rest := []) (K := "java/lang/String") B e16_5 (w116 hw) (w117 hw) (w130 hw) (w119 hw) (w90 hw) (w6 hw) (w92 hw) hf2 (con_equals_105 hw G GS (pa0 := pa1) (pa1 := pa2) (pa2 := pa3) (pa3 := pa4) (px0 := px0) (px1 := px1) (px2 := px2) (px3 := px3) (pk0 := pk0) (pk1 := pk1) o1 hf3 hf4 hf5 hf6 hf7 hf8 hf9 (by omega) (by omega) (by omega) (by omega) (by omega) hc_px0 hc_px1 hc_px2 hc_px3) pd12 ?_
  intro vq2 h3 S4 q2 zh3
  obtain ⟨rfl, rfl, rfl⟩ := q2
  refine Ow.Go.norm (S' := [pa3, pa1, pa4, pa2]) (st' := [(.int (0 : Int32))]) (fun _ q => List.mem_append_right _ q) rfl ?_
  refine Ow.ifF (pc' := 11) B e16_8 (by decide) ?_
  refine Ow.aloadN (pc' := 12) B e16_11 ?_
  refine Ow.getfield (pc' := 15) B e16_12 (w70 hw) Via.refl hf1 ?_
  refine Ow.aloadN (pc' := 16) B e16_15 ?_
  refine Ow.Go.old (fun o5 => ?_)
  have f6 := Exa.ext o5.2 GS.2
  refine Ow.objEq (pc' := 19) (W := 0) (K := "java/lang/Object") B e16_16 (w116 hw) (w117 hw) (w130 hw) (w130 hw) (w118 hw) (w131 hw) (by decide +kernel) f6 pd12 e20_0 e20_1 e20_2 e20_9 e20_10 (by omega) ?_
  refine Ow.ifT (pc' := 26) B e16_19 (by decide) ?_
  refine Ow.iconst (pc' := 27) (x := (0 : Int32)) B e16_26 ?_
  exact Ow.retI (S' := []) (t := .boolean) B e16_27 (⟨rfl, rfl, rfl⟩)
set_option maxRecDepth 65536 in
set_option maxHeartbeats 40000000 in
theorem con_equals_107 {l : Launch} {Z : State} {n0 : Nat} {a0 : Array Value} {cz : Int32} {sf : Value} (hw : Hw a0 Z) (G : Ow.Glo Z cz sf) {u0 : Nat} (GS : GlS Z u0) {pa0 : Nat} {pa1 : Nat} {px0 : Int32} {px1 : Int32} {px2 : Int32} {px3 : Int32} {px4 : Int32} {pk0 : ClassId} {pk1 : ClassId} {h0 : Heap} (O0 : Old Z n0 h0) (hf0 : Arv Z h0 pa0 pk0 .byte (3 : Int32) [(.int px0.toInt8.toInt32), (.int px1.toInt8.toInt32), (.int px2.toInt8.toInt32)] (.int 0)) (hf1 : Arv Z h0 pa1 pk1 .byte (2 : Int32) [(.int px3.toInt8.toInt32), (.int px4.toInt8.toInt32)] (.int 0)) (hn0 : n0 ≤ pa0) (hn1 : n0 ≤ pa1) (hc_px0 : nar .char px0 = px0) (hc_px1 : nar .char px1 = px1) (hc_px2 : nar .char px2 = px2) (hc_px3 : nar .char px3 = px3) (hc_px4 : nar .char px4 = px4) :
    Ow.Con l Z EL1 n0 my13 jdk_43_method_13_code 3 (Option.some Jvm.ClassFile.FieldType.boolean) [] ({ frames := 0, cells := 0, slots := 0, locals := 0 } : Room) #[(.ref pa0), (.ref pa1)] [pa1, pa0] h0 (fun v h S' => (v = some (.int (0 : Int32)) ∧ h = h0 ∧ S' = [])) := by
  refine Ow.Con.enter (Ls := #[.val (.ref pa0), .val (.ref pa1), .unset]) (plainFor_of_name pn9) O0 (hEW hw) (hSA hw) ?_
  intro p e s m below meth c B
  have z0 := Ow.old_le O0
  have lu0 : (u0 : Nat) < n0 := O0.1 ▸ GS.2.lt
  have lpa0 : (pa0 : Nat) < h0.size := hf0.lt
  have lpa1 : (pa1 : Nat) < h0.size := hf1.lt
  refine Ow.aloadN (pc' := 1) B e14_0 ?_
  refine Ow.arrlen (pc' := 2) B e14_1 hf0 ?_
  refine Ow.aloadN (pc' := 3) B e14_2 ?_
  refine Ow.arrlen (pc' := 4) B e14_3 hf1 ?_
  refine Ow.icmpT (pc' := 34) B e14_4 (by decide) ?_
  refine Ow.iconst (pc' := 35) (x := (0 : Int32)) B e14_34 ?_
  exact Ow.retI (S' := []) (t := .boolean) B e14_35 (⟨rfl, rfl, rfl⟩)
set_option maxRecDepth 65536 in
set_option maxHeartbeats 40000000 in
theorem con_equals_108 {l : Launch} {Z : State} {n0 : Nat} {a0 : Array Value} {cz : Int32} {sf : Value} (hw : Hw a0 Z) (G : Ow.Glo Z cz sf) {u0 : Nat} (GS : GlS Z u0) {pa0 : Nat} {pa1 : Nat} {pa2 : Nat} {pa3 : Nat} {px0 : Int32} {px1 : Int32} {px2 : Int32} {px3 : Int32} {px4 : Int32} {pk0 : ClassId} {pk1 : ClassId} {h0 : Heap} (O0 : Old Z n0 h0) (hf0 : Fld Z h0 pa0 "java/lang/String" "coder" "B" (.int (0 : Int32))) (hf1 : Fld Z h0 pa0 "java/lang/String" "value" "[B" (.ref pa2)) (hf2 : Exa Z h0 pa1 "java/lang/String") (hf3 : Fld Z h0 pa1 "java/lang/String" "coder" "B" (.int (0 : Int32))) (hf4 : Fld Z h0 pa1 "java/lang/String" "value" "[B" (.ref pa3)) (hf5 : Arv Z h0 pa2 pk0 .byte (3 : Int32) [(.int px0.toInt8.toInt32), (.int px1.toInt8.toInt32), (.int px2.toInt8.toInt32)] (.int 0)) (hf6 : Arv Z h0 pa3 pk1 .byte (2 : Int32) [(.int px3.toInt8.toInt32), (.int px4.toInt8.toInt32)] (.int 0)) (hn0 : n0 ≤ pa0) (hn1 : n0 ≤ pa1) (hn2 : n0 ≤ pa2) (hn3 : n0 ≤ pa3) (hd0 : pa0 ≠ pa1) (hc_px0 : nar .char px0 = px0) (hc_px1 : nar .char px1 = px1) (hc_px2 : nar .char px2 = px2) (hc_px3 : nar .char px3 = px3) (hc_px4 : nar .char px4 = px4) :
    Ow.Con l Z EL1 n0 my14 jdk_42_method_66_code 3 (Option.some Jvm.ClassFile.FieldType.boolean) [] ({ frames := 1, cells := 0, slots := 0, locals := 14 } : Room) #[(.ref pa0), (.ref pa1)] [pa3, pa1, pa2, pa0] h0 (fun v h S' => (v = some (.int (0 : Int32)) ∧ h = h0 ∧ S' = [])) := by
  refine Ow.Con.enter (Ls := #[.val (.ref pa0), .val (.ref pa1), .unset]) (plainFor_of_name pn1) O0 (hEW hw) (hSA hw) ?_
  intro p e s m below meth c B
  have z0 := Ow.old_le O0
  have lu0 : (u0 : Nat) < n0 := O0.1 ▸ GS.2.lt
  have lpa0 : (pa0 : Nat) < h0.size := hf0.lt
  have lpa1 : (pa1 : Nat) < h0.size := hf2.lt
  have lpa2 : (pa2 : Nat) < h0.size := hf5.lt
  have lpa3 : (pa3 : Nat) < h0.size := hf6.lt
  refine Ow.aloadN (pc' := 1) B e13_0 ?_
  refine Ow.aloadN (pc' := 2) B e13_1 ?_
  refine Ow.acmpR (pc' := 7) (same := false) B e13_2 (decide_eq_false (fun q => absurd (show (pa0 : Nat) = pa1 from Value.ref.inj q) (by omega))) ?_
  refine Ow.aloadN (pc' := 8) B e13_7 ?_
  refine Ow.instYes (pc' := 11) B e13_8 (w93 hw) (Ins.self hf2) ?_
  refine Ow.ifF (pc' := 14) B e13_11 (by decide) ?_
  refine Ow.aloadN (pc' := 15) B e13_14 ?_
  refine Ow.checkcast (pc' := 18) B e13_15 (w93 hw) (Ins.self hf2) ?_
  refine Ow.astoreN (pc' := 19) (Ls' := #[.val (.ref pa0), .val (.ref pa1), .val (.ref pa1)]) B e13_18 ?_
  refine Ow.getstatic (pc' := 22) B e13_19 (w94 hw) Via.refl G.1 ?_
  refine Ow.ifF (pc' := 25) B e13_22 (feq (G.2.1)).1 ?_
  refine Ow.aloadN (pc' := 26) B e13_25 ?_
  refine Ow.getfield (pc' := 29) B e13_26 (w25 hw) Via.refl hf0 ?_
  refine Ow.aloadN (pc' := 30) B e13_29 ?_
  refine Ow.getfield (pc' := 33) B e13_30 (w25 hw) Via.refl hf3 ?_
  refine Ow.icmpF (pc' := 36) B e13_33 (by decide) ?_
  refine Ow.aloadN (pc' := 37) B e13_36 ?_
  refine Ow.getfield (pc' := 40) B e13_37 (w24 hw) Via.refl hf1 ?_
  refine Ow.aloadN (pc' := 41) B e13_40 ?_
  refine Ow.getfield (pc' := 44) B e13_41 (w24 hw) Via.refl hf4 ?_
  refine Ow.Go.old (fun o1 => ?_)
  refine Ow.callStatic (pc' := 47) (W := 0) (k' := 0) (n' := 0) (argsL := [(.ref pa2), (.ref pa3)]) (rest := []) B e13_44 (w95 hw) (w96 hw) (w97 hw) (w98 hw) (con_equals_107 hw G GS (pa0 := pa2) (pa1 := pa3) (px0 := px0) (px1 := px1) (px2 := px2) (px3 := px3) (px4 := px4) (pk0 := pk0) (pk1 := pk1) o1 hf5 hf6 (by omega) (by omega) hc_px0 hc_px1 hc_px2 hc_px3 hc_px4) pd11 ?_
  intro vq2 h3 S4 q2 zh3
  obtain ⟨rfl, rfl, rfl⟩ := q2
  refine Ow.Go.norm (S' := [pa3, pa1, pa2, pa0]) (st' := [(.int (0 : Int32))]) (fun _ q => List.mem_append_right _ q) rfl ?_
  refine Ow.ifT (pc' := 54) B e13_47 (by decide) ?_
  refine Ow.iconst (pc' := 55) (x := (0 : Int32)) B e13_54 ?_
  exact Ow.retI (S' := []) (t := .boolean) B e13_55 (⟨rfl, rfl, rfl⟩)
set_option maxRecDepth 65536 in
set_option maxHeartbeats 40000000 in
theorem con_equals_109 {l : Launch} {Z : State} {n0 : Nat} {a0 : Array Value} {cz : Int32} {sf : Value} (hw : Hw a0 Z) (G : Ow.Glo Z cz sf) {u0 : Nat} (GS : GlS Z u0) {pa0 : Nat} {pa1 : Nat} {px0 : Int32} {px1 : Int32} {px2 : Int32} {px3 : Int32} {px4 : Int32} {pk0 : ClassId} {pk1 : ClassId} {h0 : Heap} (O0 : Old Z n0 h0) (hf0 : Arv Z h0 pa0 pk0 .byte (2 : Int32) [(.int px0.toInt8.toInt32), (.int px1.toInt8.toInt32)] (.int 0)) (hf1 : Arv Z h0 pa1 pk1 .byte (3 : Int32) [(.int px2.toInt8.toInt32), (.int px3.toInt8.toInt32), (.int px4.toInt8.toInt32)] (.int 0)) (hn0 : n0 ≤ pa0) (hn1 : n0 ≤ pa1) (hc_px0 : nar .char px0 = px0) (hc_px1 : nar .char px1 = px1) (hc_px2 : nar .char px2 = px2) (hc_px3 : nar .char px3 = px3) (hc_px4 : nar .char px4 = px4) :
    Ow.Con l Z EL1 n0 my13 jdk_43_method_13_code 3 (Option.some Jvm.ClassFile.FieldType.boolean) [] ({ frames := 0, cells := 0, slots := 0, locals := 0 } : Room) #[(.ref pa0), (.ref pa1)] [pa0, pa1] h0 (fun v h S' => (v = some (.int (0 : Int32)) ∧ h = h0 ∧ S' = [])) := by
  refine Ow.Con.enter (Ls := #[.val (.ref pa0), .val (.ref pa1), .unset]) (plainFor_of_name pn9) O0 (hEW hw) (hSA hw) ?_
  intro p e s m below meth c B
  have z0 := Ow.old_le O0
  have lu0 : (u0 : Nat) < n0 := O0.1 ▸ GS.2.lt
  have lpa0 : (pa0 : Nat) < h0.size := hf0.lt
  have lpa1 : (pa1 : Nat) < h0.size := hf1.lt
  refine Ow.aloadN (pc' := 1) B e14_0 ?_
  refine Ow.arrlen (pc' := 2) B e14_1 hf0 ?_
  refine Ow.aloadN (pc' := 3) B e14_2 ?_
  refine Ow.arrlen (pc' := 4) B e14_3 hf1 ?_
  refine Ow.icmpT (pc' := 34) B e14_4 (by decide) ?_
  refine Ow.iconst (pc' := 35) (x := (0 : Int32)) B e14_34 ?_
  exact Ow.retI (S' := []) (t := .boolean) B e14_35 (⟨rfl, rfl, rfl⟩)
set_option maxRecDepth 65536 in
set_option maxHeartbeats 40000000 in
theorem con_equals_110 {l : Launch} {Z : State} {n0 : Nat} {a0 : Array Value} {cz : Int32} {sf : Value} (hw : Hw a0 Z) (G : Ow.Glo Z cz sf) {u0 : Nat} (GS : GlS Z u0) {pa0 : Nat} {pa1 : Nat} {pa2 : Nat} {pa3 : Nat} {px0 : Int32} {px1 : Int32} {px2 : Int32} {px3 : Int32} {px4 : Int32} {pk0 : ClassId} {pk1 : ClassId} {h0 : Heap} (O0 : Old Z n0 h0) (hf0 : Fld Z h0 pa0 "java/lang/String" "coder" "B" (.int (0 : Int32))) (hf1 : Fld Z h0 pa0 "java/lang/String" "value" "[B" (.ref pa2)) (hf2 : Exa Z h0 pa1 "java/lang/String") (hf3 : Fld Z h0 pa1 "java/lang/String" "coder" "B" (.int (0 : Int32))) (hf4 : Fld Z h0 pa1 "java/lang/String" "value" "[B" (.ref pa3)) (hf5 : Arv Z h0 pa2 pk0 .byte (2 : Int32) [(.int px0.toInt8.toInt32), (.int px1.toInt8.toInt32)] (.int 0)) (hf6 : Arv Z h0 pa3 pk1 .byte (3 : Int32) [(.int px2.toInt8.toInt32), (.int px3.toInt8.toInt32), (.int px4.toInt8.toInt32)] (.int 0)) (hn0 : n0 ≤ pa0) (hn1 : n0 ≤ pa1) (hn2 : n0 ≤ pa2) (hn3 : n0 ≤ pa3) (hd0 : pa0 ≠ pa1) (hc_px0 : nar .char px0 = px0) (hc_px1 : nar .char px1 = px1) (hc_px2 : nar .char px2 = px2) (hc_px3 : nar .char px3 = px3) (hc_px4 : nar .char px4 = px4) :
    Ow.Con l Z EL1 n0 my14 jdk_42_method_66_code 3 (Option.some Jvm.ClassFile.FieldType.boolean) [] ({ frames := 1, cells := 0, slots := 0, locals := 14 } : Room) #[(.ref pa0), (.ref pa1)] [pa2, pa0, pa3, pa1] h0 (fun v h S' => (v = some (.int (0 : Int32)) ∧ h = h0 ∧ S' = [])) := by
  refine Ow.Con.enter (Ls := #[.val (.ref pa0), .val (.ref pa1), .unset]) (plainFor_of_name pn1) O0 (hEW hw) (hSA hw) ?_
  intro p e s m below meth c B
  have z0 := Ow.old_le O0
  have lu0 : (u0 : Nat) < n0 := O0.1 ▸ GS.2.lt
  have lpa0 : (pa0 : Nat) < h0.size := hf0.lt
  have lpa1 : (pa1 : Nat) < h0.size := hf2.lt
  have lpa2 : (pa2 : Nat) < h0.size := hf5.lt
  have lpa3 : (pa3 : Nat) < h0.size := hf6.lt
  refine Ow.aloadN (pc' := 1) B e13_0 ?_
  refine Ow.aloadN (pc' := 2) B e13_1 ?_
  refine Ow.acmpR (pc' := 7) (same := false) B e13_2 (decide_eq_false (fun q => absurd (show (pa0 : Nat) = pa1 from Value.ref.inj q) (by omega))) ?_
  refine Ow.aloadN (pc' := 8) B e13_7 ?_
  refine Ow.instYes (pc' := 11) B e13_8 (w93 hw) (Ins.self hf2) ?_
  refine Ow.ifF (pc' := 14) B e13_11 (by decide) ?_
  refine Ow.aloadN (pc' := 15) B e13_14 ?_
  refine Ow.checkcast (pc' := 18) B e13_15 (w93 hw) (Ins.self hf2) ?_
  refine Ow.astoreN (pc' := 19) (Ls' := #[.val (.ref pa0), .val (.ref pa1), .val (.ref pa1)]) B e13_18 ?_
  refine Ow.getstatic (pc' := 22) B e13_19 (w94 hw) Via.refl G.1 ?_
  refine Ow.ifF (pc' := 25) B e13_22 (feq (G.2.1)).1 ?_
  refine Ow.aloadN (pc' := 26) B e13_25 ?_
  refine Ow.getfield (pc' := 29) B e13_26 (w25 hw) Via.refl hf0 ?_
  refine Ow.aloadN (pc' := 30) B e13_29 ?_
  refine Ow.getfield (pc' := 33) B e13_30 (w25 hw) Via.refl hf3 ?_
  refine Ow.icmpF (pc' := 36) B e13_33 (by decide) ?_
  refine Ow.aloadN (pc' := 37) B e13_36 ?_
  refine Ow.getfield (pc' := 40) B e13_37 (w24 hw) Via.refl hf1 ?_
  refine Ow.aloadN (pc' := 41) B e13_40 ?_
  refine Ow.getfield (pc' := 44) B e13_41 (w24 hw) Via.refl hf4 ?_
  refine Ow.Go.old (fun o1 => ?_)
  refine Ow.callStatic (pc' := 47) (W := 0) (k' := 0) (n' := 0) (argsL := [(.ref pa2), (.ref pa3)]) (rest := []) B e13_44 (w95 hw) (w96 hw) (w97 hw) (w98 hw) (con_equals_109 hw G GS (pa0 := pa2) (pa1 := pa3) (px0 := px0) (px1 := px1) (px2 := px2) (px3 := px3) (px4 := px4) (pk0 := pk0) (pk1 := pk1) o1 hf5 hf6 (by omega) (by omega) hc_px0 hc_px1 hc_px2 hc_px3 hc_px4) pd11 ?_
  intro vq2 h3 S4 q2 zh3
  obtain ⟨rfl, rfl, rfl⟩ := q2
  refine Ow.Go.norm (S' := [pa2, pa0, pa3, pa1]) (st' := [(.int (0 : Int32))]) (fun _ q => List.mem_append_right _ q) rfl ?_
  refine Ow.ifT (pc' := 54) B e13_47 (by decide) ?_
  refine Ow.iconst (pc' := 55) (x := (0 : Int32)) B e13_54 ?_
  exact Ow.retI (S' := []) (t := .boolean) B e13_55 (⟨rfl, rfl, rfl⟩)
set_option maxRecDepth 65536 in
set_option maxHeartbeats 40000000 in
theorem con_contains_111 {l : Launch} {Z : State} {n0 : Nat} {a0 : Array Value} {cz : Int32} {sf : Value} (hw : Hw a0 Z) (G : Ow.Glo Z cz sf) {u0 : Nat} (GS : GlS Z u0) {pa0 : Nat} {pa1 : Nat} {pa2 : Nat} {pa3 : Nat} {pa4 : Nat} {px0 : Int32} {px1 : Int32} {px2 : Int32} {px3 : Int32} {px4 : Int32} {pk0 : ClassId} {pk1 : ClassId} {h0 : Heap} (O0 : Old Z n0 h0) (hf0 : Fld Z h0 pa0 "java/util/ImmutableCollections$Set12" "e0" "Ljava/lang/Object;" (.ref pa2)) (hf1 : Fld Z h0 pa0 "java/util/ImmutableCollections$Set12" "e1" "Ljava/lang/Object;" (.ref u0)) (hf2 : Exa Z h0 pa1 "java/lang/String") (hf3 : Fld Z h0 pa1 "java/lang/String" "coder" "B" (.int (0 : Int32))) (hf4 : Fld Z h0 pa1 "java/lang/String" "value" "[B" (.ref pa3)) (hf5 : Exa Z h0 pa2 "java/lang/String") (hf6 : Fld Z h0 pa2 "java/lang/String" "coder" "B" (.int (0 : Int32))) (hf7 : Fld Z h0 pa2 "java/lang/String" "value" "[B" (.ref pa4)) (hf8 : Arv Z h0 pa3 pk0 .byte (2 : Int32) [(.int px0.toInt8.toInt32), (.int px1.toInt8.toInt32)] (.int 0)) (hf9 : Arv Z h0 pa4 pk1 .byte (3 : Int32) [(.int px2.toInt8.toInt32), (.int px3.toInt8.toInt32), (.int px4.toInt8.toInt32)] (.int 0)) (hn0 : n0 ≤ pa0) (hn1 : n0 ≤ pa1) (hn2 : n0 ≤ pa2) (hn3 : n0 ≤ pa3) (hn4 : n0 ≤ pa4) (hd0 : pa1 ≠ pa2) (hd1 : u0 ≠ pa1) (hc_px0 : nar .char px0 = px0) (hc_px1 : nar .char px1 = px1) (hc_px2 : nar .char px2 = px2) (hc_px3 : nar .char px3 = px3) (hc_px4 : nar .char px4 = px4) :
    Ow.Con l Z EL1 n0 my16 jdk_101_method_5_code 2 (Option.some Jvm.ClassFile.FieldType.boolean) [] ({ frames := 2, cells := 0, slots := 0, locals := 28 } : Room) #[(.ref pa0), (.ref pa1)] [pa3, pa1, pa4, pa2] h0 (fun v h S' => (v = some (.int (0 : Int32)) ∧ h = h0 ∧ S' = [])) := by
  refine Ow.Con.enter (Ls := #[.val (.ref pa0), .val (.ref pa1)]) (plainFor_of_name pn4) O0 (hEW hw) (hSA hw) ?_
  intro p e s m below meth c B
  have z0 := Ow.old_le O0
  have lu0 : (u0 : Nat) < n0 := O0.1 ▸ GS.2.lt
  have lpa0 : (pa0 : Nat) < h0.size := hf0.lt
  have lpa1 : (pa1 : Nat) < h0.size := hf2.lt
  have lpa2 : (pa2 : Nat) < h0.size := hf5.lt
  have lpa3 : (pa3 : Nat) < h0.size := hf8.lt
  have lpa4 : (pa4 : Nat) < h0.size := hf9.lt
  refine Ow.aloadN (pc' := 1) B e16_0 ?_
  refine Ow.aloadN (pc' := 2) B e16_1 ?_
  refine Ow.getfield (pc' := 5) B e16_2 (w66 hw) Via.refl hf0 ?_
  refine Ow.Go.old (fun o1 => ?_)
  refine Ow.callVirtual (pc' := 8) (W := 0) (k' := 0) (n' := 0) (argsL := [(.ref pa2)]) (rest := []) (K := "java/lang/String") B e16_5 (w116 hw) (w117 hw) (w130 hw) (w119 hw) (w90 hw) (w6 hw) (w92 hw) hf2 (con_equals_110 hw G GS (pa0 := pa1) (pa1 := pa2) (pa2 := pa3) (pa3 := pa4) (px0 := px0) (px1 := px1) (px2 := px2) (px3 := px3) (px4 := px4) (pk0 := pk0) (pk1 := pk1) o1 hf3 hf4 hf5 hf6 hf7 hf8 hf9 (by omega) (by omega) (by omega) (by omega) (by omega) hc_px0 hc_px1 hc_px2 hc_px3 hc_px4) pd12 ?_
  intro vq2 h3 S4 q2 zh3
  obtain ⟨rfl, rfl, rfl⟩ := q2
  refine Ow.Go.norm (S' := [pa3, pa1, pa4, pa2]) (st' := [(.int (0 : Int32))]) (fun _ q => List.mem_append_right _ q) rfl ?_
  refine Ow.ifF (pc' := 11) B e16_8 (by decide) ?_
  refine Ow.aloadN (pc' := 12) B e16_11 ?_
  refine Ow.getfield (pc' := 15) B e16_12 (w70 hw) Via.refl hf1 ?_
  refine Ow.aloadN (pc' := 16) B e16_15 ?_
  refine Ow.Go.old (fun o5 => ?_)
  have f6 := Exa.ext o5.2 GS.2
  refine Ow.objEq (pc' := 19) (W := 0) (K := "java/lang/Object") B e16_16 (w116 hw) (w117 hw) (w130 hw) (w130 hw) (w118 hw) (w131 hw) (by decide +kernel) f6 pd12 e20_0 e20_1 e20_2 e20_9 e20_10 (by omega) ?_
  refine Ow.ifT (pc' := 26) B e16_19 (by decide) ?_
  refine Ow.iconst (pc' := 27) (x := (0 : Int32)) B e16_26 ?_
  exact Ow.retI (S' := []) (t := .boolean) B e16_27 (⟨rfl, rfl, rfl⟩)
set_option maxRecDepth 65536 in
set_option maxHeartbeats 40000000 in
theorem con_equals_112 {l : Launch} {Z : State} {n0 : Nat} {a0 : Array Value} {cz : Int32} {sf : Value} (hw : Hw a0 Z) (G : Ow.Glo Z cz sf) {u0 : Nat} (GS : GlS Z u0) {pa0 : Nat} {pa1 : Nat} {px0 : Int32} {px1 : Int32} {px2 : Int32} {px3 : Int32} {px4 : Int32} {px5 : Int32} {pk0 : ClassId} {pk1 : ClassId} {h0 : Heap} (O0 : Old Z n0 h0) (hf0 : Arv Z h0 pa0 pk0 .byte (3 : Int32) [(.int px0.toInt8.toInt32), (.int px1.toInt8.toInt32), (.int px2.toInt8.toInt32)] (.int 0)) (hf1 : Arv Z h0 pa1 pk1 .byte (3 : Int32) [(.int px3.toInt8.toInt32), (.int px4.toInt8.toInt32), (.int px5.toInt8.toInt32)] (.int 0)) (hn0 : n0 ≤ pa0) (hn1 : n0 ≤ pa1) (hc_px0 : nar .char px0 = px0) (hc_px1 : nar .char px1 = px1) (hc_px2 : nar .char px2 = px2) (hc_px3 : nar .char px3 = px3) (hc_px4 : nar .char px4 = px4) (hc_px5 : nar .char px5 = px5) :
    Ow.Con l Z EL1 n0 my13 jdk_43_method_13_code 3 (Option.some Jvm.ClassFile.FieldType.boolean) [] ({ frames := 0, cells := 0, slots := 0, locals := 0 } : Room) #[(.ref pa0), (.ref pa1)] [pa1, pa0] h0 (fun v h S' => (v = some (.int (1 : Int32)) ∧ h = h0 ∧ px0.toInt8.toInt32 = px3.toInt8.toInt32 ∧ px1.toInt8.toInt32 = px4.toInt8.toInt32 ∧ px2.toInt8.toInt32 = px5.toInt8.toInt32 ∧ S' = []) ∨ (v = some (.int (0 : Int32)) ∧ h = h0 ∧ px0.toInt8.toInt32 = px3.toInt8.toInt32 ∧ px1.toInt8.toInt32 = px4.toInt8.toInt32 ∧ ¬ (px2.toInt8.toInt32 = px5.toInt8.toInt32) ∧ S' = []) ∨ (v = some (.int (0 : Int32)) ∧ h = h0 ∧ px0.toInt8.toInt32 = px3.toInt8.toInt32 ∧ ¬ (px1.toInt8.toInt32 = px4.toInt8.toInt32) ∧ S' = []) ∨ (v = some (.int (0 : Int32)) ∧ h = h0 ∧ ¬ (px0.toInt8.toInt32 = px3.toInt8.toInt32) ∧ S' = [])) := by
  refine Ow.Con.enter (Ls := #[.val (.ref pa0), .val (.ref pa1), .unset]) (plainFor_of_name pn9) O0 (hEW hw) (hSA hw) ?_
  intro p e s m below meth c B
  have z0 := Ow.old_le O0
  have lu0 : (u0 : Nat) < n0 := O0.1 ▸ GS.2.lt
  have lpa0 : (pa0 : Nat) < h0.size := hf0.lt
  have lpa1 : (pa1 : Nat) < h0.size := hf1.lt
  refine Ow.aloadN (pc' := 1) B e14_0 ?_
  refine Ow.arrlen (pc' := 2) B e14_1 hf0 ?_
  refine Ow.aloadN (pc' := 3) B e14_2 ?_
  refine Ow.arrlen (pc' := 4) B e14_3 hf1 ?_
  refine Ow.icmpF (pc' := 7) B e14_4 (by decide) ?_
  refine Ow.iconst (pc' := 8) (x := (0 : Int32)) B e14_7 ?_
  refine Ow.istoreN (pc' := 9) (Ls' := #[.val (.ref pa0), .val (.ref pa1), .val (.int (0 : Int32))]) B e14_8 ?_
  refine Ow.iloadN (pc' := 10) B e14_9 ?_
  refine Ow.aloadN (pc' := 11) B e14_10 ?_
  refine Ow.arrlen (pc' := 12) B e14_11 hf0 ?_
  refine Ow.icmpF (pc' := 15) B e14_12 (by decide) ?_
  refine Ow.aloadN (pc' := 16) B e14_15 ?_
  refine Ow.iloadN (pc' := 17) B e14_16 ?_
  refine Ow.baload (pc' := 18) B e14_17 hf0 ⟨by decide, by decide⟩ rfl ?_
  refine Ow.aloadN (pc' := 19) B e14_18 ?_
  refine Ow.iloadN (pc' := 20) B e14_19 ?_
  refine Ow.baload (pc' := 21) B e14_20 hf1 ⟨by decide, by decide⟩ rfl ?_
  by_cases c1 : px0.toInt8.toInt32 = px3.toInt8.toInt32
  · refine Ow.icmpT (pc' := 26) B e14_21 (teq c1).1 ?_
    refine Ow.iinc (pc' := 29) (y := (1 : Int32)) (Ls' := #[.val (.ref pa0), .val (.ref pa1), .val (.int (1 : Int32))]) B e14_26 ?_
    refine Ow.goto (pc' := 9) B e14_29 ?_
    refine Ow.iloadN (pc' := 10) B e14_9 ?_
    refine Ow.aloadN (pc' := 11) B e14_10 ?_
    refine Ow.arrlen (pc' := 12) B e14_11 hf0 ?_
    refine Ow.icmpF (pc' := 15) B e14_12 (by decide) ?_
    refine Ow.aloadN (pc' := 16) B e14_15 ?_
    refine Ow.iloadN (pc' := 17) B e14_16 ?_
    refine Ow.baload (pc' := 18) B e14_17 hf0 ⟨by decide, by decide⟩ rfl ?_
    refine Ow.aloadN (pc' := 19) B e14_18 ?_
    refine Ow.iloadN (pc' := 20) B e14_19 ?_
    refine Ow.baload (pc' := 21) B e14_20 hf1 ⟨by decide, by decide⟩ rfl ?_
    by_cases c2 : px1.toInt8.toInt32 = px4.toInt8.toInt32
    · refine Ow.icmpT (pc' := 26) B e14_21 (teq c2).1 ?_
      refine Ow.iinc (pc' := 29) (y := (2 : Int32)) (Ls' := #[.val (.ref pa0), .val (.ref pa1), .val (.int (2 : Int32))]) B e14_26 ?_
      refine Ow.goto (pc' := 9) B e14_29 ?_
      refine Ow.iloadN (pc' := 10) B e14_9 ?_
      refine Ow.aloadN (pc' := 11) B e14_10 ?_
      refine Ow.arrlen (pc' := 12) B e14_11 hf0 ?_
      refine Ow.icmpF (pc' := 15) B e14_12 (by decide) ?_
      refine Ow.aloadN (pc' := 16) B e14_15 ?_
      refine Ow.iloadN (pc' := 17) B e14_16 ?_
      refine Ow.baload (pc' := 18) B e14_17 hf0 ⟨by decide, by decide⟩ rfl ?_
      refine Ow.aloadN (pc' := 19) B e14_18 ?_
      refine Ow.iloadN (pc' := 20) B e14_19 ?_
      refine Ow.baload (pc' := 21) B e14_20 hf1 ⟨by decide, by decide⟩ rfl ?_
      by_cases c3 : px2.toInt8.toInt32 = px5.toInt8.toInt32
      · refine Ow.icmpT (pc' := 26) B e14_21 (teq c3).1 ?_
        refine Ow.iinc (pc' := 29) (y := (3 : Int32)) (Ls' := #[.val (.ref pa0), .val (.ref pa1), .val (.int (3 : Int32))]) B e14_26 ?_
        refine Ow.goto (pc' := 9) B e14_29 ?_
        refine Ow.iloadN (pc' := 10) B e14_9 ?_
        refine Ow.aloadN (pc' := 11) B e14_10 ?_
        refine Ow.arrlen (pc' := 12) B e14_11 hf0 ?_
        refine Ow.icmpT (pc' := 32) B e14_12 (by decide) ?_
        refine Ow.iconst (pc' := 33) (x := (1 : Int32)) B e14_32 ?_
        exact Ow.retI (S' := []) (t := .boolean) B e14_33 (Or.inl (⟨rfl, rfl, c1, c2, c3, rfl⟩))
      · refine Ow.icmpF (pc' := 24) B e14_21 (feq c3).1 ?_
        refine Ow.iconst (pc' := 25) (x := (0 : Int32)) B e14_24 ?_
        exact Ow.retI (S' := []) (t := .boolean) B e14_25 (Or.inr (Or.inl (⟨rfl, rfl, c1, c2, c3, rfl⟩)))
    · refine Ow.icmpF (pc' := 24) B e14_21 (feq c2).1 ?_
      refine Ow.iconst (pc' := 25) (x := (0 : Int32)) B e14_24 ?_
      exact Ow.retI (S' := []) (t := .boolean) B e14_25 (Or.inr (Or.inr (Or.inl (⟨rfl, rfl, c1, c2, rfl⟩))))
  · refine Ow.icmpF (pc' := 24) B e14_21 (feq c1).1 ?_
    refine Ow.iconst (pc' := 25) (x := (0 : Int32)) B e14_24 ?_
    exact Ow.retI (S' := []) (t := .boolean) B e14_25 (Or.inr (Or.inr (Or.inr (⟨rfl, rfl, c1, rfl⟩))))
set_option maxRecDepth 65536 in
set_option maxHeartbeats 40000000 in
theorem con_equals_113 {l : Launch} {Z : State} {n0 : Nat} {a0 : Array Value} {cz : Int32} {sf : Value} (hw : Hw a0 Z) (G : Ow.Glo Z cz sf) {u0 : Nat} (GS : GlS Z u0) {pa0 : Nat} {pa1 : Nat} {pa2 : Nat} {pa3 : Nat} {px0 : Int32} {px1 : Int32} {px2 : Int32} {px3 : Int32} {px4 : Int32} {px5 : Int32} {pk0 : ClassId} {pk1 : ClassId} {h0 : Heap} (O0 : Old Z n0 h0) (hf0 : Fld Z h0 pa0 "java/lang/String" "coder" "B" (.int (0 : Int32))) (hf1 : Fld Z h0 pa0 "java/lang/String" "value" "[B" (.ref pa2)) (hf2 : Exa Z h0 pa1 "java/lang/String") (hf3 : Fld Z h0 pa1 "java/lang/String" "coder" "B" (.int (0 : Int32))) (hf4 : Fld Z h0 pa1 "java/lang/String" "value" "[B" (.ref pa3)) (hf5 : Arv Z h0 pa2 pk0 .byte (3 : Int32) [(.int px0.toInt8.toInt32), (.int px1.toInt8.toInt32), (.int px2.toInt8.toInt32)] (.int 0)) (hf6 : Arv Z h0 pa3 pk1 .byte (3 : Int32) [(.int px3.toInt8.toInt32), (.int px4.toInt8.toInt32), (.int px5.toInt8.toInt32)] (.int 0)) (hn0 : n0 ≤ pa0) (hn1 : n0 ≤ pa1) (hn2 : n0 ≤ pa2) (hn3 : n0 ≤ pa3) (hd0 : pa0 ≠ pa1) (hc_px0 : nar .char px0 = px0) (hc_px1 : nar .char px1 = px1) (hc_px2 : nar .char px2 = px2) (hc_px3 : nar .char px3 = px3) (hc_px4 : nar .char px4 = px4) (hc_px5 : nar .char px5 = px5) :
    Ow.Con l Z EL1 n0 my14 jdk_42_method_66_code 3 (Option.some Jvm.ClassFile.FieldType.boolean) [] ({ frames := 1, cells := 0, slots := 0, locals := 14 } : Room) #[(.ref pa0), (.ref pa1)] [pa3, pa1, pa2, pa0] h0 (fun v h S' => (v = some (.int (1 : Int32)) ∧ h = h0 ∧ px0.toInt8.toInt32 = px3.toInt8.toInt32 ∧ px1.toInt8.toInt32 = px4.toInt8.toInt32 ∧ px2.toInt8.toInt32 = px5.toInt8.toInt32 ∧ S' = []) ∨ (v = some (.int (0 : Int32)) ∧ h = h0 ∧ px0.toInt8.toInt32 = px3.toInt8.toInt32 ∧ px1.toInt8.toInt32 = px4.toInt8.toInt32 ∧ ¬ (px2.toInt8.toInt32 = px5.toInt8.toInt32) ∧ S' = []) ∨ (v = some (.int (0 : Int32)) ∧ h = h0 ∧ px0.toInt8.toInt32 = px3.toInt8.toInt32 ∧ ¬ (px1.toInt8.toInt32 = px4.toInt8.toInt32) ∧ S' = []) ∨ (v = some (.int (0 : Int32)) ∧ h = h0 ∧ ¬ (px0.toInt8.toInt32 = px3.toInt8.toInt32) ∧ S' = [])) := by
  refine Ow.Con.enter (Ls := #[.val (.ref pa0), .val (.ref pa1), .unset]) (plainFor_of_name pn1) O0 (hEW hw) (hSA hw) ?_
  intro p e s m below meth c B
  have z0 := Ow.old_le O0
  have lu0 : (u0 : Nat) < n0 := O0.1 ▸ GS.2.lt
  have lpa0 : (pa0 : Nat) < h0.size := hf0.lt
  have lpa1 : (pa1 : Nat) < h0.size := hf2.lt
  have lpa2 : (pa2 : Nat) < h0.size := hf5.lt
  have lpa3 : (pa3 : Nat) < h0.size := hf6.lt
  refine Ow.aloadN (pc' := 1) B e13_0 ?_
  refine Ow.aloadN (pc' := 2) B e13_1 ?_
  refine Ow.acmpR (pc' := 7) (same := false) B e13_2 (decide_eq_false (fun q => absurd (show (pa0 : Nat) = pa1 from Value.ref.inj q) (by omega))) ?_
  refine Ow.aloadN (pc' := 8) B e13_7 ?_
  refine Ow.instYes (pc' := 11) B e13_8 (w93 hw) (Ins.self hf2) ?_
  refine Ow.ifF (pc' := 14) B e13_11 (by decide) ?_
  refine Ow.aloadN (pc' := 15) B e13_14 ?_
  refine Ow.checkcast (pc' := 18) B e13_15 (w93 hw) (Ins.self hf2) ?_
  refine Ow.astoreN (pc' := 19) (Ls' := #[.val (.ref pa0), .val (.ref pa1), .val (.ref pa1)]) B e13_18 ?_
  refine Ow.getstatic (pc' := 22) B e13_19 (w94 hw) Via.refl G.1 ?_
  refine Ow.ifF (pc' := 25) B e13_22 (feq (G.2.1)).1 ?_
  refine Ow.aloadN (pc' := 26) B e13_25 ?_
  refine Ow.getfield (pc' := 29) B e13_26 (w25 hw) Via.refl hf0 ?_
  refine Ow.aloadN (pc' := 30) B e13_29 ?_
  refine Ow.getfield (pc' := 33) B e13_30 (w25 hw) Via.refl hf3 ?_
  refine Ow.icmpF (pc' := 36) B e13_33 (by decide) ?_
  refine Ow.aloadN (pc' := 37) B e13_36 ?_
  refine Ow.getfield (pc' := 40) B e13_37 (w24 hw) Via.refl hf1 ?_
  refine Ow.aloadN (pc' := 41) B e13_40 ?_
  refine Ow.getfield (pc' := 44) B e13_41 (w24 hw) Via.refl hf4 ?_
  refine Ow.Go.old (fun o1 => ?_)
  refine Ow.callStatic (pc' := 47) (W := 0) (k' := 0) (n' := 0) (argsL := [(.ref pa2), (.ref pa3)]) (rest := []) B e13_44 (w95 hw) (w96 hw) (w97 hw) (w98 hw) (con_equals_112 hw G GS (pa0 := pa2) (pa1 := pa3) (px0 := px0) (px1 := px1) (px2 := px2) (px3 := px3) (px4 := px4) (px5 := px5) (pk0 := pk0) (pk1 := pk1) o1 hf5 hf6 (by omega) (by omega) hc_px0 hc_px1 hc_px2 hc_px3 hc_px4 hc_px5) pd11 ?_
  intro vq2 h3 S4 q2 zh3
  rcases q2 with q2 | q2 | q2 | q2
  · obtain ⟨rfl, rfl, c5, c6, c7, rfl⟩ := q2
    refine Ow.Go.norm (S' := [pa3, pa1, pa2, pa0]) (st' := [(.int (1 : Int32))]) (fun _ q => List.mem_append_right _ q) rfl ?_
    refine Ow.ifF (pc' := 50) B e13_47 (by decide) ?_
    refine Ow.iconst (pc' := 51) (x := (1 : Int32)) B e13_50 ?_
    refine Ow.goto (pc' := 55) B e13_51 ?_
    exact Ow.retI (S' := []) (t := .boolean) B e13_55 (Or.inl (⟨rfl, rfl, c5, c6, c7, rfl⟩))
  · obtain ⟨rfl, rfl, c8, c9, c10, rfl⟩ := q2
    refine Ow.Go.norm (S' := [pa3, pa1, pa2, pa0]) (st' := [(.int (0 : Int32))]) (fun _ q => List.mem_append_right _ q) rfl ?_
    refine Ow.ifT (pc' := 54) B e13_47 (by decide) ?_
    refine Ow.iconst (pc' := 55) (x := (0 : Int32)) B e13_54 ?_
    exact Ow.retI (S' := []) (t := .boolean) B e13_55 (Or.inr (Or.inl (⟨rfl, rfl, c8, c9, c10, rfl⟩)))
  · obtain ⟨rfl, rfl, c11, c12, rfl⟩ := q2
    refine Ow.Go.norm (S' := [pa3, pa1, pa2, pa0]) (st' := [(.int (0 : Int32))]) (fun _ q => List.mem_append_right _ q) rfl ?_
    refine Ow.ifT (pc' := 54) B e13_47 (by decide) ?_
    refine Ow.iconst (pc' := 55) (x := (0 : Int32)) B e13_54 ?_
    exact Ow.retI (S' := []) (t := .boolean) B e13_55 (Or.inr (Or.inr (Or.inl (⟨rfl, rfl, c11, c12, rfl⟩))))
  · obtain ⟨rfl, rfl, c13, rfl⟩ := q2
    refine Ow.Go.norm (S' := [pa3, pa1, pa2, pa0]) (st' := [(.int (0 : Int32))]) (fun _ q => List.mem_append_right _ q) rfl ?_
    refine Ow.ifT (pc' := 54) B e13_47 (by decide) ?_
    refine Ow.iconst (pc' := 55) (x := (0 : Int32)) B e13_54 ?_
    exact Ow.retI (S' := []) (t := .boolean) B e13_55 (Or.inr (Or.inr (Or.inr (⟨rfl, rfl, c13, rfl⟩))))
set_option maxRecDepth 65536 in
set_option maxHeartbeats 40000000 in
theorem con_equals_114 {l : Launch} {Z : State} {n0 : Nat} {a0 : Array Value} {cz : Int32} {sf : Value} (hw : Hw a0 Z) (G : Ow.Glo Z cz sf) {u0 : Nat} (GS : GlS Z u0) {pa0 : Nat} {pa1 : Nat} {px0 : Int32} {px1 : Int32} {px2 : Int32} {px3 : Int32} {px4 : Int32} {px5 : Int32} {pk0 : ClassId} {pk1 : ClassId} {h0 : Heap} (O0 : Old Z n0 h0) (hf0 : Arv Z h0 pa0 pk0 .byte (3 : Int32) [(.int px0.toInt8.toInt32), (.int px1.toInt8.toInt32), (.int px2.toInt8.toInt32)] (.int 0)) (hf1 : Arv Z h0 pa1 pk1 .byte (3 : Int32) [(.int px3.toInt8.toInt32), (.int px4.toInt8.toInt32), (.int px5.toInt8.toInt32)] (.int 0)) (hn0 : n0 ≤ pa0) (hn1 : n0 ≤ pa1) (hk0 : px3.toInt8.toInt32 = px0.toInt8.toInt32) (hk1 : px0.toInt8.toInt32 = px3.toInt8.toInt32) (hk2 : px4.toInt8.toInt32 = px1.toInt8.toInt32) (hk3 : px1.toInt8.toInt32 = px4.toInt8.toInt32) (hk4 : px5.toInt8.toInt32 = px2.toInt8.toInt32) (hk5 : px2.toInt8.toInt32 = px5.toInt8.toInt32) (hc_px0 : nar .char px0 = px0) (hc_px1 : nar .char px1 = px1) (hc_px2 : nar .char px2 = px2) (hc_px3 : nar .char px3 = px3) (hc_px4 : nar .char px4 = px4) (hc_px5 : nar .char px5 = px5) :
    Ow.Con l Z EL1 n0 my13 jdk_43_method_13_code 3 (Option.some Jvm.ClassFile.FieldType.boolean) [] ({ frames := 0, cells := 0, slots := 0, locals := 0 } : Room) #[(.ref pa0), (.ref pa1)] [pa0, pa1] h0 (fun v h S' => (v = some (.int (1 : Int32)) ∧ h = h0 ∧ S' = [])) := by
  refine Ow.Con.enter (Ls := #[.val (.ref pa0), .val (.ref pa1), .unset]) (plainFor_of_name pn9) O0 (hEW hw) (hSA hw) ?_
  intro p e s m below meth c B
  have z0 := Ow.old_le O0
  have lu0 : (u0 : Nat) < n0 := O0.1 ▸ GS.2.lt
  have lpa0 : (pa0 : Nat) < h0.size := hf0.lt
  have lpa1 : (pa1 : Nat) < h0.size := hf1.lt
  refine Ow.aloadN (pc' := 1) B e14_0 ?_
  refine Ow.arrlen (pc' := 2) B e14_1 hf0 ?_
  refine Ow.aloadN (pc' := 3) B e14_2 ?_
  refine Ow.arrlen (pc' := 4) B e14_3 hf1 ?_
  refine Ow.icmpF (pc' := 7) B e14_4 (by decide) ?_
  refine Ow.iconst (pc' := 8) (x := (0 : Int32)) B e14_7 ?_
  refine Ow.istoreN (pc' := 9) (Ls' := #[.val (.ref pa0), .val (.ref pa1), .val (.int (0 : Int32))]) B e14_8 ?_
  refine Ow.iloadN (pc' := 10) B e14_9 ?_
  refine Ow.aloadN (pc' := 11) B e14_10 ?_
  refine Ow.arrlen (pc' := 12) B e14_11 hf0 ?_
  refine Ow.icmpF (pc' := 15) B e14_12 (by decide) ?_
  refine Ow.aloadN (pc' := 16) B e14_15 ?_
  refine Ow.iloadN (pc' := 17) B e14_16 ?_
  refine Ow.baload (pc' := 18) B e14_17 hf0 ⟨by decide, by decide⟩ rfl ?_
  refine Ow.aloadN (pc' := 19) B e14_18 ?_
  refine Ow.iloadN (pc' := 20) B e14_19 ?_
  refine Ow.baload (pc' := 21) B e14_20 hf1 ⟨by decide, by decide⟩ rfl ?_
  refine Ow.icmpT (pc' := 26) B e14_21 (teq (hk1)).1 ?_
  refine Ow.iinc (pc' := 29) (y := (1 : Int32)) (Ls' := #[.val (.ref pa0), .val (.ref pa1), .val (.int (1 : Int32))]) B e14_26 ?_
  refine Ow.goto (pc' := 9) B e14_29 ?_
  refine Ow.iloadN (pc' := 10) B e14_9 ?_
  refine Ow.aloadN (pc' := 11) B e14_10 ?_
  refine Ow.arrlen (pc' := 12) B e14_11 hf0 ?_
  refine Ow.icmpF (pc' := 15) B e14_12 (by decide) ?_
  refine Ow.aloadN (pc' := 16) B e14_15 ?_
  refine Ow.iloadN (pc' := 17) B e14_16 ?_
  refine Ow.baload (pc' := 18) B e14_17 hf0 ⟨by decide, by decide⟩ rfl ?_
  refine Ow.aloadN (pc' := 19) B e14_18 ?_
  refine Ow.iloadN (pc' := 20) B e14_19 ?_
  refine Ow.baload (pc' := 21) B e14_20 hf1 ⟨by decide, by decide⟩ rfl ?_
  refine Ow.icmpT (pc' := 26) B e14_21 (teq (hk3)).1 ?_
  refine Ow.iinc (pc' := 29) (y := (2 : Int32)) (Ls' := #[.val (.ref pa0), .val (.ref pa1), .val (.int (2 : Int32))]) B e14_26 ?_
  refine Ow.goto (pc' := 9) B e14_29 ?_
  refine Ow.iloadN (pc' := 10) B e14_9 ?_
  refine Ow.aloadN (pc' := 11) B e14_10 ?_
  refine Ow.arrlen (pc' := 12) B e14_11 hf0 ?_
  refine Ow.icmpF (pc' := 15) B e14_12 (by decide) ?_
  refine Ow.aloadN (pc' := 16) B e14_15 ?_
  refine Ow.iloadN (pc' := 17) B e14_16 ?_
  refine Ow.baload (pc' := 18) B e14_17 hf0 ⟨by decide, by decide⟩ rfl ?_
  refine Ow.aloadN (pc' := 19) B e14_18 ?_
  refine Ow.iloadN (pc' := 20) B e14_19 ?_
  refine Ow.baload (pc' := 21) B e14_20 hf1 ⟨by decide, by decide⟩ rfl ?_
  refine Ow.icmpT (pc' := 26) B e14_21 (teq (hk5)).1 ?_
  refine Ow.iinc (pc' := 29) (y := (3 : Int32)) (Ls' := #[.val (.ref pa0), .val (.ref pa1), .val (.int (3 : Int32))]) B e14_26 ?_
  refine Ow.goto (pc' := 9) B e14_29 ?_
  refine Ow.iloadN (pc' := 10) B e14_9 ?_
  refine Ow.aloadN (pc' := 11) B e14_10 ?_
  refine Ow.arrlen (pc' := 12) B e14_11 hf0 ?_
  refine Ow.icmpT (pc' := 32) B e14_12 (by decide) ?_
  refine Ow.iconst (pc' := 33) (x := (1 : Int32)) B e14_32 ?_
  exact Ow.retI (S' := []) (t := .boolean) B e14_33 (⟨rfl, rfl, rfl⟩)
set_option maxRecDepth 65536 in
set_option maxHeartbeats 40000000 in
theorem con_equals_115 {l : Launch} {Z : State} {n0 : Nat} {a0 : Array Value} {cz : Int32} {sf : Value} (hw : Hw a0 Z) (G : Ow.Glo Z cz sf) {u0 : Nat} (GS : GlS Z u0) {pa0 : Nat} {pa1 : Nat} {pa2 : Nat} {pa3 : Nat} {px0 : Int32} {px1 : Int32} {px2 : Int32} {px3 : Int32} {px4 : Int32} {px5 : Int32} {pk0 : ClassId} {pk1 : ClassId} {h0 : Heap} (O0 : Old Z n0 h0) (hf0 : Fld Z h0 pa0 "java/lang/String" "coder" "B" (.int (0 : Int32))) (hf1 : Fld Z h0 pa0 "java/lang/String" "value" "[B" (.ref pa2)) (hf2 : Exa Z h0 pa1 "java/lang/String") (hf3 : Fld Z h0 pa1 "java/lang/String" "coder" "B" (.int (0 : Int32))) (hf4 : Fld Z h0 pa1 "java/lang/String" "value" "[B" (.ref pa3)) (hf5 : Arv Z h0 pa2 pk0 .byte (3 : Int32) [(.int px0.toInt8.toInt32), (.int px1.toInt8.toInt32), (.int px2.toInt8.toInt32)] (.int 0)) (hf6 : Arv Z h0 pa3 pk1 .byte (3 : Int32) [(.int px3.toInt8.toInt32), (.int px4.toInt8.toInt32), (.int px5.toInt8.toInt32)] (.int 0)) (hn0 : n0 ≤ pa0) (hn1 : n0 ≤ pa1) (hn2 : n0 ≤ pa2) (hn3 : n0 ≤ pa3) (hd0 : pa0 ≠ pa1) (hk0 : px3.toInt8.toInt32 = px0.toInt8.toInt32) (hk1 : px0.toInt8.toInt32 = px3.toInt8.toInt32) (hk2 : px4.toInt8.toInt32 = px1.toInt8.toInt32) (hk3 : px1.toInt8.toInt32 = px4.toInt8.toInt32) (hk4 : px5.toInt8.toInt32 = px2.toInt8.toInt32) (hk5 : px2.toInt8.toInt32 = px5.toInt8.toInt32) (hc_px0 : nar .char px0 = px0) (hc_px1 : nar .char px1 = px1) (hc_px2 : nar .char px2 = px2) (hc_px3 : nar .char px3 = px3) (hc_px4 : nar .char px4 = px4) (hc_px5 : nar .char px5 = px5) :
    Ow.Con l Z EL1 n0 my14 jdk_42_method_66_code 3 (Option.some Jvm.ClassFile.FieldType.boolean) [] ({ frames := 1, cells := 0, slots := 0, locals := 14 } : Room) #[(.ref pa0), (.ref pa1)] [pa2, pa0, pa3, pa1] h0 (fun v h S' => (v = some (.int (1 : Int32)) ∧ h = h0 ∧ S' = [])) := by
  refine Ow.Con.enter (Ls := #[.val (.ref pa0), .val (.ref pa1), .unset]) (plainFor_of_name pn1) O0 (hEW hw) (hSA hw) ?_
  intro p e s m below meth c B
  have z0 := Ow.old_le O0
  have lu0 : (u0 : Nat) < n0 := O0.1 ▸ GS.2.lt
  have lpa0 : (pa0 : Nat) < h0.size := hf0.lt
  have lpa1 : (pa1 : Nat) < h0.size := hf2.lt
  have lpa2 : (pa2 : Nat) < h0.size := hf5.lt
  have lpa3 : (pa3 : Nat) < h0.size := hf6.lt
  refine Ow.aloadN (pc' := 1) B e13_0 ?_
  refine Ow.aloadN (pc' := 2) B e13_1 ?_
  refine Ow.acmpR (pc' := 7) (same := false) B e13_2 (decide_eq_false (fun q => absurd (show (pa0 : Nat) = pa1 from Value.ref.inj q) (by omega))) ?_
  refine Ow.aloadN (pc' := 8) B e13_7 ?_
  refine Ow.instYes (pc' := 11) B e13_8 (w93 hw) (Ins.self hf2) ?_
  refine Ow.ifF (pc' := 14) B e13_11 (by decide) ?_
  refine Ow.aloadN (pc' := 15) B e13_14 ?_
  refine Ow.checkcast (pc' := 18) B e13_15 (w93 hw) (Ins.self hf2) ?_
  refine Ow.astoreN (pc' := 19) (Ls' := #[.val (.ref pa0), .val (.ref pa1), .val (.ref pa1)]) B e13_18 ?_
  refine Ow.getstatic (pc' := 22) B e13_19 (w94 hw) Via.refl G.1 ?_
  refine Ow.ifF (pc' := 25) B e13_22 (feq (G.2.1)).1 ?_
  refine Ow.aloadN (pc' := 26) B e13_25 ?_
  refine Ow.getfield (pc' := 29) B e13_26 (w25 hw) Via.refl hf0 ?_
  refine Ow.aloadN (pc' := 30) B e13_29 ?_
  refine Ow.getfield (pc' := 33) B e13_30 (w25 hw) Via.refl hf3 ?_
  refine Ow.icmpF (pc' := 36) B e13_33 (by decide) ?_
  refine Ow.aloadN (pc' := 37) B e13_36 ?_
  refine Ow.getfield (pc' := 40) B e13_37 (w24 hw) Via.refl hf1 ?_
  refine Ow.aloadN (pc' := 41) B e13_40 ?_
  refine Ow.getfield (pc' := 44) B e13_41 (w24 hw) Via.refl hf4 ?_
  refine Ow.Go.old (fun o1 => ?_)
  refine Ow.callStatic (pc' := 47) (W := 0) (k' := 0) (n' := 0) (argsL := [(.ref pa2), (.ref pa3)]) (rest := []) B e13_44 (w95 hw) (w96 hw) (w97 hw) (w98 hw) (con_equals_114 hw G GS (pa0 := pa2) (pa1 := pa3) (px0 := px0) (px1 := px1) (px2 := px2) (px3 := px3) (px4 := px4) (px5 := px5) (pk0 := pk0) (pk1 := pk1) o1 hf5 hf6 (by omega) (by omega) (hk0) (hk1) (hk2) (hk3) (hk4) (hk5) hc_px0 hc_px1 hc_px2 hc_px3 hc_px4 hc_px5) pd11 ?_
  intro vq2 h3 S4 q2 zh3
  obtain ⟨rfl, rfl, rfl⟩ := q2
  refine Ow.Go.norm (S' := [pa2, pa0, pa3, pa1]) (st' := [(.int (1 : Int32))]) (fun _ q => List.mem_append_right _ q) rfl ?_
  refine Ow.ifF (pc' := 50) B e13_47 (by decide) ?_
  refine Ow.iconst (pc' := 51) (x := (1 : Int32)) B e13_50 ?_
  refine Ow.goto (pc' := 55) B e13_51 ?_
  exact Ow.retI (S' := []) (t := .boolean) B e13_55 (⟨rfl, rfl, rfl⟩)
set_option maxRecDepth 65536 in
set_option maxHeartbeats 40000000 in
theorem con_contains_116 {l : Launch} {Z : State} {n0 : Nat} {a0 : Array Value} {cz : Int32} {sf : Value} (hw : Hw a0 Z) (G : Ow.Glo Z cz sf) {u0 : Nat} (GS : GlS Z u0) {pa0 : Nat} {pa1 : Nat} {pa2 : Nat} {pa3 : Nat} {pa4 : Nat} {px0 : Int32} {px1 : Int32} {px2 : Int32} {px3 : Int32} {px4 : Int32} {px5 : Int32} {pk0 : ClassId} {pk1 : ClassId} {h0 : Heap} (O0 : Old Z n0 h0) (hf0 : Fld Z h0 pa0 "java/util/ImmutableCollections$Set12" "e0" "Ljava/lang/Object;" (.ref pa2)) (hf1 : Exa Z h0 pa1 "java/lang/String") (hf2 : Fld Z h0 pa1 "java/lang/String" "coder" "B" (.int (0 : Int32))) (hf3 : Fld Z h0 pa1 "java/lang/String" "value" "[B" (.ref pa3)) (hf4 : Exa Z h0 pa2 "java/lang/String") (hf5 : Fld Z h0 pa2 "java/lang/String" "coder" "B" (.int (0 : Int32))) (hf6 : Fld Z h0 pa2 "java/lang/String" "value" "[B" (.ref pa4)) (hf7 : Arv Z h0 pa3 pk0 .byte (3 : Int32) [(.int px0.toInt8.toInt32), (.int px1.toInt8.toInt32), (.int px2.toInt8.toInt32)] (.int 0)) (hf8 : Arv Z h0 pa4 pk1 .byte (3 : Int32) [(.int px3.toInt8.toInt32), (.int px4.toInt8.toInt32), (.int px5.toInt8.toInt32)] (.int 0)) (hn0 : n0 ≤ pa0) (hn1 : n0 ≤ pa1) (hn2 : n0 ≤ pa2) (hn3 : n0 ≤ pa3) (hn4 : n0 ≤ pa4) (hd0 : pa1 ≠ pa2) (hk0 : px3.toInt8.toInt32 = px0.toInt8.toInt32) (hk1 : px0.toInt8.toInt32 = px3.toInt8.toInt32) (hk2 : px4.toInt8.toInt32 = px1.toInt8.toInt32) (hk3 : px1.toInt8.toInt32 = px4.toInt8.toInt32) (hk4 : px5.toInt8.toInt32 = px2.toInt8.toInt32) (hk5 : px2.toInt8.toInt32 = px5.toInt8.toInt32) (hc_px0 : nar .char px0 = px0) (hc_px1 : nar .char px1 = px1) (hc_px2 : nar .char px2 = px2) (hc_px3 : nar .char px3 = px3) (hc_px4 : nar .char px4 = px4) (hc_px5 : nar .char px5 = px5) :
    Ow.Con l Z EL1 n0 my16 jdk_101_method_5_code 2 (Option.some Jvm.ClassFile.FieldType.boolean) [] ({ frames := 2, cells := 0, slots := 0, locals := 28 } : Room) #[(.ref pa0), (.ref pa1)] [pa3, pa1, pa4, pa2] h0 (fun v h S' => (v = some (.int (1 : Int32)) ∧ h = h0 ∧ S' = [])) := by
  refine Ow.Con.enter (Ls := #[.val (.ref pa0), .val (.ref pa1)]) (plainFor_of_name pn4) O0 (hEW hw) (hSA hw) ?_
  intro p e s m below meth c B
  have z0 := Ow.old_le O0
  have lu0 : (u0 : Nat) < n0 := O0.1 ▸ GS.2.lt
  have lpa0 : (pa0 : Nat) < h0.size := hf0.lt
  have lpa1 : (pa1 : Nat) < h0.size := hf1.lt
  have lpa2 : (pa2 : Nat) < h0.size := hf4.lt
  have lpa3 : (pa3 : Nat) < h0.size := hf7.lt
  have lpa4 : (pa4 : Nat) < h0.size := hf8.lt
  refine Ow.aloadN (pc' := 1) B e16_0 ?_
  refine Ow.aloadN (pc' := 2) B e16_1 ?_
  refine Ow.getfield (pc' := 5) B e16_2 (w66 hw) Via.refl hf0 ?_
  refine Ow.Go.old (fun o1 => ?_)
  refine Ow.callVirtual (pc' := 8) (W := 0) (k' := 0) (n' := 0) (argsL := [(.ref pa2)]) (rest := []) (K := "java/lang/String") B e16_5 (w116 hw) (w117 hw) (w130 hw) (w119 hw) (w90 hw) (w6 hw) (w92 hw) hf1 (con_equals_115 hw G GS (pa0 := pa1) (pa1 := pa2) (pa2 := pa3) (pa3 := pa4) (px0 := px0) (px1 := px1) (px2 := px2) (px3 := px3) (px4 := px4) (px5 := px5) (pk0 := pk0) (pk1 := pk1) o1 hf2 hf3 hf4 hf5 hf6 hf7 hf8 (by omega) (by omega) (by omega) (by omega) (by omega) (hk0) (hk1) (hk2) (hk3) (hk4) (hk5) hc_px0 hc_px1 hc_px2 hc_px3 hc_px4 hc_px5) pd12 ?_
  intro vq2 h3 S4 q2 zh3
  obtain ⟨rfl, rfl, rfl⟩ := q2
  refine Ow.Go.norm (S' := [pa3, pa1, pa4, pa2]) (st' := [(.int (1 : Int32))]) (fun _ q => List.mem_append_right _ q) rfl ?_
  refine Ow.ifT (pc' := 22) B e16_8 (by decide) ?_
  refine Ow.iconst (pc' := 23) (x := (1 : Int32)) B e16_22 ?_
  refine Ow.goto (pc' := 27) B e16_23 ?_
  exact Ow.retI (S' := []) (t := .boolean) B e16_27 (⟨rfl, rfl, rfl⟩)
set_option maxRecDepth 65536 in
set_option maxHeartbeats 40000000 in
theorem con_equals_117 {l : Launch} {Z : State} {n0 : Nat} {a0 : Array Value} {cz : Int32} {sf : Value} (hw : Hw a0 Z) (G : Ow.Glo Z cz sf) {u0 : Nat} (GS : GlS Z u0) {pa0 : Nat} {pa1 : Nat} {px0 : Int32} {px1 : Int32} {px2 : Int32} {px3 : Int32} {px4 : Int32} {px5 : Int32} {pk0 : ClassId} {pk1 : ClassId} {h0 : Heap} (O0 : Old Z n0 h0) (hf0 : Arv Z h0 pa0 pk0 .byte (3 : Int32) [(.int px0.toInt8.toInt32), (.int px1.toInt8.toInt32), (.int px2.toInt8.toInt32)] (.int 0)) (hf1 : Arv Z h0 pa1 pk1 .byte (3 : Int32) [(.int px3.toInt8.toInt32), (.int px4.toInt8.toInt32), (.int px5.toInt8.toInt32)] (.int 0)) (hn0 : n0 ≤ pa0) (hn1 : n0 ≤ pa1) (hk0 : px3.toInt8.toInt32 = px0.toInt8.toInt32) (hk1 : px0.toInt8.toInt32 = px3.toInt8.toInt32) (hk2 : px4.toInt8.toInt32 = px1.toInt8.toInt32) (hk3 : px1.toInt8.toInt32 = px4.toInt8.toInt32) (hk4 : ¬ (px5.toInt8.toInt32 = px2.toInt8.toInt32)) (hk5 : ¬ (px2.toInt8.toInt32 = px5.toInt8.toInt32)) (hc_px0 : nar .char px0 = px0) (hc_px1 : nar .char px1 = px1) (hc_px2 : nar .char px2 = px2) (hc_px3 : nar .char px3 = px3) (hc_px4 : nar .char px4 = px4) (hc_px5 : nar .char px5 = px5) :
    Ow.Con l Z EL1 n0 my13 jdk_43_method_13_code 3 (Option.some Jvm.ClassFile.FieldType.boolean) [] ({ frames := 0, cells := 0, slots := 0, locals := 0 } : Room) #[(.ref pa0), (.ref pa1)] [pa0, pa1] h0 (fun v h S' => (v = some (.int (0 : Int32)) ∧ h = h0 ∧ S' = [])) := by
  refine Ow.Con.enter (Ls := #[.val (.ref pa0), .val (.ref pa1), .unset]) (plainFor_of_name pn9) O0 (hEW hw) (hSA hw) ?_
  intro p e s m below meth c B
  have z0 := Ow.old_le O0
  have lu0 : (u0 : Nat) < n0 := O0.1 ▸ GS.2.lt
  have lpa0 : (pa0 : Nat) < h0.size := hf0.lt
  have lpa1 : (pa1 : Nat) < h0.size := hf1.lt
  refine Ow.aloadN (pc' := 1) B e14_0 ?_
  refine Ow.arrlen (pc' := 2) B e14_1 hf0 ?_
  refine Ow.aloadN (pc' := 3) B e14_2 ?_
  refine Ow.arrlen (pc' := 4) B e14_3 hf1 ?_
  refine Ow.icmpF (pc' := 7) B e14_4 (by decide) ?_
  refine Ow.iconst (pc' := 8) (x := (0 : Int32)) B e14_7 ?_
  refine Ow.istoreN (pc' := 9) (Ls' := #[.val (.ref pa0), .val (.ref pa1), .val (.int (0 : Int32))]) B e14_8 ?_
  refine Ow.iloadN (pc' := 10) B e14_9 ?_
  refine Ow.aloadN (pc' := 11) B e14_10 ?_
  refine Ow.arrlen (pc' := 12) B e14_11 hf0 ?_
  refine Ow.icmpF (pc' := 15) B e14_12 (by decide) ?_
  refine Ow.aloadN (pc' := 16) B e14_15 ?_
  refine Ow.iloadN (pc' := 17) B e14_16 ?_
  refine Ow.baload (pc' := 18) B e14_17 hf0 ⟨by decide, by decide⟩ rfl ?_
  refine Ow.aloadN (pc' := 19) B e14_18 ?_
  refine Ow.iloadN (pc' := 20) B e14_19 ?_
  refine Ow.baload (pc' := 21) B e14_20 hf1 ⟨by decide, by decide⟩ rfl ?_
  refine Ow.icmpT (pc' := 26) B e14_21 (teq (hk1)).1 ?_
  refine Ow.iinc (pc' := 29) (y := (1 : Int32)) (Ls' := #[.val (.ref pa0), .val (.ref pa1), .val (.int (1 : Int32))]) B e14_26 ?_
  refine Ow.goto (pc' := 9) B e14_29 ?_
  refine Ow.iloadN (pc' := 10) B e14_9 ?_
  refine Ow.aloadN (pc' := 11) B e14_10 ?_
  refine Ow.arrlen (pc' := 12) B e14_11 hf0 ?_
  refine Ow.icmpF (pc' := 15) B e14_12 (by decide) ?_
  refine Ow.aloadN (pc' := 16) B e14_15 ?_
  refine Ow.iloadN (pc' := 17) B e14_16 ?_
  refine Ow.baload (pc' := 18) B e14_17 hf0 ⟨by decide, by decide⟩ rfl ?_
  refine Ow.aloadN (pc' := 19) B e14_18 ?_
  refine Ow.iloadN (pc' := 20) B e14_19 ?_
  refine Ow.baload (pc' := 21) B e14_20 hf1 ⟨by decide, by decide⟩ rfl ?_
  refine Ow.icmpT (pc' := 26) B e14_21 (teq (hk3)).1 ?_
  refine Ow.iinc (pc' := 29) (y := (2 : Int32)) (Ls' := #[.val (.ref pa0), .val (.ref pa1), .val (.int (2 : Int32))]) B e14_26 ?_
  refine Ow.goto (pc' := 9) B e14_29 ?_
  refine Ow.iloadN (pc' := 10) B e14_9 ?_
  refine Ow.aloadN (pc' := 11) B e14_10 ?_
  refine Ow.arrlen (pc' := 12) B e14_11 hf0 ?_
  refine Ow.icmpF (pc' := 15) B e14_12 (by decide) ?_
  refine Ow.aloadN (pc' := 16) B e14_15 ?_
  refine Ow.iloadN (pc' := 17) B e14_16 ?_
  refine Ow.baload (pc' := 18) B e14_17 hf0 ⟨by decide, by decide⟩ rfl ?_
  refine Ow.aloadN (pc' := 19) B e14_18 ?_
  refine Ow.iloadN (pc' := 20) B e14_19 ?_
  refine Ow.baload (pc' := 21) B e14_20 hf1 ⟨by decide, by decide⟩ rfl ?_
  refine Ow.icmpF (pc' := 24) B e14_21 (feq (hk5)).1 ?_
  refine Ow.iconst (pc' := 25) (x := (0 : Int32)) B e14_24 ?_
  exact Ow.retI (S' := []) (t := .boolean) B e14_25 (⟨rfl, rfl, rfl⟩)
set_option maxRecDepth 65536 in
set_option maxHeartbeats 40000000 in
theorem con_equals_118 {l : Launch} {Z : State} {n0 : Nat} {a0 : Array Value} {cz : Int32} {sf : Value} (hw : Hw a0 Z) (G : Ow.Glo Z cz sf) {u0 : Nat} (GS : GlS Z u0) {pa0 : Nat} {pa1 : Nat} {pa2 : Nat} {pa3 : Nat} {px0 : Int32} {px1 : Int32} {px2 : Int32} {px3 : Int32} {px4 : Int32} {px5 : Int32} {pk0 : ClassId} {pk1 : ClassId} {h0 : Heap} (O0 : Old Z n0 h0) (hf0 : Fld Z h0 pa0 "java/lang/String" "coder" "B" (.int (0 : Int32))) (hf1 : Fld Z h0 pa0 "java/lang/String" "value" "[B" (.ref pa2)) (hf2 : Exa Z h0 pa1 "java/lang/String") (hf3 : Fld Z h0 pa1 "java/lang/String" "coder" "B" (.int (0 : Int32))) (hf4 : Fld Z h0 pa1 "java/lang/String" "value" "[B" (.ref pa3)) (hf5 : Arv Z h0 pa2 pk0 .byte (3 : Int32) [(.int px0.toInt8.toInt32), (.int px1.toInt8.toInt32), (.int px2.toInt8.toInt32)] (.int 0)) (hf6 : Arv Z h0 pa3 pk1 .byte (3 : Int32) [(.int px3.toInt8.toInt32), (.int px4.toInt8.toInt32), (.int px5.toInt8.toInt32)] (.int 0)) (hn0 : n0 ≤ pa0) (hn1 : n0 ≤ pa1) (hn2 : n0 ≤ pa2) (hn3 : n0 ≤ pa3) (hd0 : pa0 ≠ pa1) (hk0 : px3.toInt8.toInt32 = px0.toInt8.toInt32) (hk1 : px0.toInt8.toInt32 = px3.toInt8.toInt32) (hk2 : px4.toInt8.toInt32 = px1.toInt8.toInt32) (hk3 : px1.toInt8.toInt32 = px4.toInt8.toInt32) (hk4 : ¬ (px5.toInt8.toInt32 = px2.toInt8.toInt32)) (hk5 : ¬ (px2.toInt8.toInt32 = px5.toInt8.toInt32)) (hc_px0 : nar .char px0 = px0) (hc_px1 : nar .char px1 = px1) (hc_px2 : nar .char px2 = px2) (hc_px3 : nar .char px3 = px3) (hc_px4 : nar .char px4 = px4) (hc_px5 : nar .char px5 = px5) :
    Ow.Con l Z EL1 n0 my14 jdk_42_method_66_code 3 (Option.some Jvm.ClassFile.FieldType.boolean) [] ({ frames := 1, cells := 0, slots := 0, locals := 14 } : Room) #[(.ref pa0), (.ref pa1)] [pa2, pa0, pa3, pa1] h0 (fun v h S' => (v = some (.int (0 : Int32)) ∧ h = h0 ∧ S' = [])) := by
  refine Ow.Con.enter (Ls := #[.val (.ref pa0), .val (.ref pa1), .unset]) (plainFor_of_name pn1) O0 (hEW hw) (hSA hw) ?_
  intro p e s m below meth c B
  have z0 := Ow.old_le O0
  have lu0 : (u0 : Nat) < n0 := O0.1 ▸ GS.2.lt
  have lpa0 : (pa0 : Nat) < h0.size := hf0.lt
  have lpa1 : (pa1 : Nat) < h0.size := hf2.lt
  have lpa2 : (pa2 : Nat) < h0.size := hf5.lt
  have lpa3 : (pa3 : Nat) < h0.size := hf6.lt
  refine Ow.aloadN (pc' := 1) B e13_0 ?_
  refine Ow.aloadN (pc' := 2) B e13_1 ?_
  refine Ow.acmpR (pc' := 7) (same := false) B e13_2 (decide_eq_false (fun q => absurd (show (pa0 : Nat) = pa1 from Value.ref.inj q) (by omega))) ?_
  refine Ow.aloadN (pc' := 8) B e13_7 ?_
  refine Ow.instYes (pc' := 11) B e13_8 (w93 hw) (Ins.self hf2) ?_
  refine Ow.ifF (pc' := 14) B e13_11 (by decide) ?_
  refine Ow.aloadN (pc' := 15) B e13_14 ?_
  refine Ow.checkcast (pc' := 18) B e13_15 (w93 hw) (Ins.self hf2) ?_
  refine Ow.astoreN (pc' := 19) (Ls' := #[.val (.ref pa0), .val (.ref pa1), .val (.ref pa1)]) B e13_18 ?_
  refine Ow.getstatic (pc' := 22) B e13_19 (w94 hw) Via.refl G.1 ?_
  refine Ow.ifF (pc' := 25) B e13_22 (feq (G.2.1)).1 ?_
  refine Ow.aloadN (pc' := 26) B e13_25 ?_
  refine Ow.getfield (pc' := 29) B e13_26 (w25 hw) Via.refl hf0 ?_
  refine Ow.aloadN (pc' := 30) B e13_29 ?_
  refine Ow.getfield (pc' := 33) B e13_30 (w25 hw) Via.refl hf3 ?_
  refine Ow.icmpF (pc' := 36) B e13_33 (by decide) ?_
  refine Ow.aloadN (pc' := 37) B e13_36 ?_
  refine Ow.getfield (pc' := 40) B e13_37 (w24 hw) Via.refl hf1 ?_
  refine Ow.aloadN (pc' := 41) B e13_40 ?_
  refine Ow.getfield (pc' := 44) B e13_41 (w24 hw) Via.refl hf4 ?_
  refine Ow.Go.old (fun o1 => ?_)
  refine Ow.callStatic (pc' := 47) (W := 0) (k' := 0) (n' := 0) (argsL := [(.ref pa2), (.ref pa3)]) (rest := []) B e13_44 (w95 hw) (w96 hw) (w97 hw) (w98 hw) (con_equals_117 hw G GS (pa0 := pa2) (pa1 := pa3) (px0 := px0) (px1 := px1) (px2 := px2) (px3 := px3) (px4 := px4) (px5 := px5) (pk0 := pk0) (pk1 := pk1) o1 hf5 hf6 (by omega) (by omega) (hk0) (hk1) (hk2) (hk3) (hk4) (hk5) hc_px0 hc_px1 hc_px2 hc_px3 hc_px4 hc_px5) pd11 ?_
  intro vq2 h3 S4 q2 zh3
  obtain ⟨rfl, rfl, rfl⟩ := q2
  refine Ow.Go.norm (S' := [pa2, pa0, pa3, pa1]) (st' := [(.int (0 : Int32))]) (fun _ q => List.mem_append_right _ q) rfl ?_
  refine Ow.ifT (pc' := 54) B e13_47 (by decide) ?_
  refine Ow.iconst (pc' := 55) (x := (0 : Int32)) B e13_54 ?_
  exact Ow.retI (S' := []) (t := .boolean) B e13_55 (⟨rfl, rfl, rfl⟩)
set_option maxRecDepth 65536 in
set_option maxHeartbeats 40000000 in
theorem con_contains_119 {l : Launch} {Z : State} {n0 : Nat} {a0 : Array Value} {cz : Int32} {sf : Value} (hw : Hw a0 Z) (G : Ow.Glo Z cz sf) {u0 : Nat} (GS : GlS Z u0) {pa0 : Nat} {pa1 : Nat} {pa2 : Nat} {pa3 : Nat} {pa4 : Nat} {px0 : Int32} {px1 : Int32} {px2 : Int32} {px3 : Int32} {px4 : Int32} {px5 : Int32} {pk0 : ClassId} {pk1 : ClassId} {h0 : Heap} (O0 : Old Z n0 h0) (hf0 : Fld Z h0 pa0 "java/util/ImmutableCollections$Set12" "e0" "Ljava/lang/Object;" (.ref pa2)) (hf1 : Fld Z h0 pa0 "java/util/ImmutableCollections$Set12" "e1" "Ljava/lang/Object;" (.ref u0)) (hf2 : Exa Z h0 pa1 "java/lang/String") (hf3 : Fld Z h0 pa1 "java/lang/String" "coder" "B" (.int (0 : Int32))) (hf4 : Fld Z h0 pa1 "java/lang/String" "value" "[B" (.ref pa3)) (hf5 : Exa Z h0 pa2 "java/lang/String") (hf6 : Fld Z h0 pa2 "java/lang/String" "coder" "B" (.int (0 : Int32))) (hf7 : Fld Z h0 pa2 "java/lang/String" "value" "[B" (.ref pa4)) (hf8 : Arv Z h0 pa3 pk0 .byte (3 : Int32) [(.int px0.toInt8.toInt32), (.int px1.toInt8.toInt32), (.int px2.toInt8.toInt32)] (.int 0)) (hf9 : Arv Z h0 pa4 pk1 .byte (3 : Int32) [(.int px3.toInt8.toInt32), (.int px4.toInt8.toInt32), (.int px5.toInt8.toInt32)] (.int 0)) (hn0 : n0 ≤ pa0) (hn1 : n0 ≤ pa1) (hn2 : n0 ≤ pa2) (hn3 : n0 ≤ pa3) (hn4 : n0 ≤ pa4) (hd0 : pa1 ≠ pa2) (hd1 : u0 ≠ pa1) (hk0 : px3.toInt8.toInt32 = px0.toInt8.toInt32) (hk1 : px0.toInt8.toInt32 = px3.toInt8.toInt32) (hk2 : px4.toInt8.toInt32 = px1.toInt8.toInt32) (hk3 : px1.toInt8.toInt32 = px4.toInt8.toInt32) (hk4 : ¬ (px5.toInt8.toInt32 = px2.toInt8.toInt32)) (hk5 : ¬ (px2.toInt8.toInt32 = px5.toInt8.toInt32)) (hc_px0 : nar .char px0 = px0) (hc_px1 : nar .char px1 = px1) (hc_px2 : nar .char px2 = px2) (hc_px3 : nar .char px3 = px3) (hc_px4 : nar .char px4 = px4) (hc_px5 : nar .char px5 = px5) :
    Ow.Con l Z EL1 n0 my16 jdk_101_method_5_code 2 (Option.some Jvm.ClassFile.FieldType.boolean) [] ({ frames := 2, cells := 0, slots := 0, locals := 28 } : Room) #[(.ref pa0), (.ref pa1)] [pa3, pa1, pa4, pa2] h0 (fun v h S' => (v = some (.int (0 : Int32)) ∧ h = h0 ∧ S' = [])) := by
  refine Ow.Con.enter (Ls := #[.val (.ref pa0), .val (.ref pa1)]) (plainFor_of_name pn4) O0 (hEW hw) (hSA hw) ?_
  intro p e s m below meth c B
  have z0 := Ow.old_le O0
  have lu0 : (u0 : Nat) < n0 := O0.1 ▸ GS.2.lt
  have lpa0 : (pa0 : Nat) < h0.size := hf0.lt
  have lpa1 : (pa1 : Nat) < h0.size := hf2.lt
  have lpa2 : (pa2 : Nat) < h0.size := hf5.lt
  have lpa3 : (pa3 : Nat) < h0.size := hf8.lt
  have lpa4 : (pa4 : Nat) < h0.size := hf9.lt
  refine Ow.aloadN (pc' := 1) B e16_0 ?_
  refine Ow.aloadN (pc' := 2) B e16_1 ?_
  refine Ow.getfield (pc' := 5) B e16_2 (w66 hw) Via.refl hf0 ?_
  refine Ow.Go.old (fun o1 => ?_)
  refine Ow.callVirtual (pc' := 8) (W := 0) (k' := 0) (n' := 0) (argsL := [(.ref pa2)]) (rest := []) (K := "java/lang/String") B e16_5 (w116 hw) (w117 hw) (w130 hw) (w119 hw) (w90 hw) (w6 hw) (w92 hw) hf2 (con_equals_118 hw G GS (pa0 := pa1) (pa1 := pa2) (pa2 := pa3) (pa3 := pa4) (px0 := px0) (px1 := px1) (px2 := px2) (px3 := px3) (px4 := px4) (px5 := px5) (pk0 := pk0) (pk1 := pk1) o1 hf3 hf4 hf5 hf6 hf7 hf8 hf9 (by omega) (by omega) (by omega) (by omega) (by omega) (hk0) (hk1) (hk2) (hk3) (hk4) (hk5) hc_px0 hc_px1 hc_px2 hc_px3 hc_px4 hc_px5) pd12 ?_
  intro vq2 h3 S4 q2 zh3
  obtain ⟨rfl, rfl, rfl⟩ := q2
  refine Ow.Go.norm (S' := [pa3, pa1, pa4, pa2]) (st' := [(.int (0 : Int32))]) (fun _ q => List.mem_append_right _ q) rfl ?_
  refine Ow.ifF (pc' := 11) B e16_8 (by decide) ?_
  refine Ow.aloadN (pc' := 12) B e16_11 ?_
  refine Ow.getfield (pc' := 15) B e16_12 (w70 hw) Via.refl hf1 ?_
  refine Ow.aloadN (pc' := 16) B e16_15 ?_
  refine Ow.Go.old (fun o5 => ?_)
  have f6 := Exa.ext o5.2 GS.2
  refine Ow.objEq (pc' := 19) (W := 0) (K := "java/lang/Object") B e16_16 (w116 hw) (w117 hw) (w130 hw) (w130 hw) (w118 hw) (w131 hw) (by decide +kernel) f6 pd12 e20_0 e20_1 e20_2 e20_9 e20_10 (by omega) ?_
  refine Ow.ifT (pc' := 26) B e16_19 (by decide) ?_
  refine Ow.iconst (pc' := 27) (x := (0 : Int32)) B e16_26 ?_
  exact Ow.retI (S' := []) (t := .boolean) B e16_27 (⟨rfl, rfl, rfl⟩)
set_option maxRecDepth 65536 in
set_option maxHeartbeats 40000000 in
theorem con_equals_120 {l : Launch} {Z : State} {n0 : Nat} {a0 : Array Value} {cz : Int32} {sf : Value} (hw : Hw a0 Z) (G : Ow.Glo Z cz sf) {u0 : Nat} (GS : GlS Z u0) {pa0 : Nat} {pa1 : Nat} {px0 : Int32} {px1 : Int32} {px2 : Int32} {px3 : Int32} {px4 : Int32} {px5 : Int32} {pk0 : ClassId} {pk1 : ClassId} {h0 : Heap} (O0 : Old Z n0 h0) (hf0 : Arv Z h0 pa0 pk0 .byte (3 : Int32) [(.int px0.toInt8.toInt32), (.int px1.toInt8.toInt32), (.int px2.toInt8.toInt32)] (.int 0)) (hf1 : Arv Z h0 pa1 pk1 .byte (3 : Int32) [(.int px3.toInt8.toInt32), (.int px4.toInt8.toInt32), (.int px5.toInt8.toInt32)] (.int 0)) (hn0 : n0 ≤ pa0) (hn1 : n0 ≤ pa1) (hk0 : px3.toInt8.toInt32 = px0.toInt8.toInt32) (hk1 : px0.toInt8.toInt32 = px3.toInt8.toInt32) (hk2 : ¬ (px4.toInt8.toInt32 = px1.toInt8.toInt32)) (hk3 : ¬ (px1.toInt8.toInt32 = px4.toInt8.toInt32)) (hc_px0 : nar .char px0 = px0) (hc_px1 : nar .char px1 = px1) (hc_px2 : nar .char px2 = px2) (hc_px3 : nar .char px3 = px3) (hc_px4 : nar .char px4 = px4) (hc_px5 : nar .char px5 = px5) :
    Ow.Con l Z EL1 n0 my13 jdk_43_method_13_code 3 (Option.some Jvm.ClassFile.FieldType.boolean) [] ({ frames := 0, cells := 0, slots := 0, locals := 0 } : Room) #[(.ref pa0), (.ref pa1)] [pa0, pa1] h0 (fun v h S' => (v = some (.int (0 : Int32)) ∧ h = h0 ∧ S' = [])) := by
  refine Ow.Con.enter (Ls := #[.val (.ref pa0), .val (.ref pa1), .unset]) (plainFor_of_name pn9) O0 (hEW hw) (hSA hw) ?_
  intro p e s m below meth c B
  have z0 := Ow.old_le O0
  have lu0 : (u0 : Nat) < n0 := O0.1 ▸ GS.2.lt
  have lpa0 : (pa0 : Nat) < h0.size := hf0.lt
  have lpa1 : (pa1 : Nat) < h0.size := hf1.lt
  refine Ow.aloadN (pc' := 1) B e14_0 ?_
  refine Ow.arrlen (pc' := 2) B e14_1 hf0 ?_
  refine Ow.aloadN (pc' := 3) B e14_2 ?_
  refine Ow.arrlen (pc' := 4) B e14_3 hf1 ?_
  refine Ow.icmpF (pc' := 7) B e14_4 (by decide) ?_
  refine Ow.iconst (pc' := 8) (x := (0 : Int32)) B e14_7 ?_
  refine Ow.istoreN (pc' := 9) (Ls' := #[.val (.ref pa0), .val (.ref pa1), .val (.int (0 : Int32))]) B e14_8 ?_
  refine Ow.iloadN (pc' := 10) B e14_9 ?_
  refine Ow.aloadN (pc' := 11) B e14_10 ?_
  refine Ow.arrlen (pc' := 12) B e14_11 hf0 ?_
  refine Ow.icmpF (pc' := 15) B e14_12 (by decide) ?_
  refine Ow.aloadN (pc' := 16) B e14_15 ?_
  refine Ow.iloadN (pc' := 17) B e14_16 ?_
  refine Ow.baload (pc' := 18) B e14_17 hf0 ⟨by decide, by decide⟩ rfl ?_
  refine Ow.aloadN (pc' := 19) B e14_18 ?_
  refine Ow.iloadN (pc' := 20) B e14_19 ?_
  refine Ow.baload (pc' := 21) B e14_20 hf1 ⟨by decide, by decide⟩ rfl ?_
  refine Ow.icmpT (pc' := 26) B e14_21 (teq (hk1)).1 ?_
  refine Ow.iinc (pc' := 29) (y := (1 : Int32)) (Ls' := #[.val (.ref pa0), .val (.ref pa1), .val (.int (1 : Int32))]) B e14_26 ?_
  refine Ow.goto (pc' := 9) B e14_29 ?_
  refine Ow.iloadN (pc' := 10) B e14_9 ?_
  refine Ow.aloadN (pc' := 11) B e14_10 ?_
  refine Ow.arrlen (pc' := 12) B e14_11 hf0 ?_
  refine Ow.icmpF (pc' := 15) B e14_12 (by decide) ?_
  refine Ow.aloadN (pc' := 16) B e14_15 ?_
  refine Ow.iloadN (pc' := 17) B e14_16 ?_
  refine Ow.baload (pc' := 18) B e14_17 hf0 ⟨by decide, by decide⟩ rfl ?_
  refine Ow.aloadN (pc' := 19) B e14_18 ?_
  refine Ow.iloadN (pc' := 20) B e14_19 ?_
  refine Ow.baload (pc' := 21) B e14_20 hf1 ⟨by decide, by decide⟩ rfl ?_
  refine Ow.icmpF (pc' := 24) B e14_21 (feq (hk3)).1 ?_
  refine Ow.iconst (pc' := 25) (x := (0 : Int32)) B e14_24 ?_
  exact Ow.retI (S' := []) (t := .boolean) B e14_25 (⟨rfl, rfl, rfl⟩)
set_option maxRecDepth 65536 in
set_option maxHeartbeats 40000000 in
theorem con_equals_121 {l : Launch} {Z : State} {n0 : Nat} {a0 : Array Value} {cz : Int32} {sf : Value} (hw : Hw a0 Z) (G : Ow.Glo Z cz sf) {u0 : Nat} (GS : GlS Z u0) {pa0 : Nat} {pa1 : Nat} {pa2 : Nat} {pa3 : Nat} {px0 : Int32} {px1 : Int32} {px2 : Int32} {px3 : Int32} {px4 : Int32} {px5 : Int32} {pk0 : ClassId} {pk1 : ClassId} {h0 : Heap} (O0 : Old Z n0 h0) (hf0 : Fld Z h0 pa0 "java/lang/String" "coder" "B" (.int (0 : Int32))) (hf1 : Fld Z h0 pa0 "java/lang/String" "value" "[B" (.ref pa2)) (hf2 : Exa Z h0 pa1 "java/lang/String") (hf3 : Fld Z h0 pa1 "java/lang/String" "coder" "B" (.int (0 : Int32))) (hf4 : Fld Z h0 pa1 "java/lang/String" "value" "[B" (.ref pa3)) (hf5 : Arv Z h0 pa2 pk0 .byte (3 : Int32) [(.int px0.toInt8.toInt32), (.int px1.toInt8.toInt32), (.int px2.toInt8.toInt32)] (.int 0)) (hf6 : Arv Z h0 pa3 pk1 .byte (3 : Int32) [(.int px3.toInt8.toInt32), (.int px4.toInt8.toInt32), (.int px5.toInt8.toInt32)] (.int 0)) (hn0 : n0 ≤ pa0) (hn1 : n0 ≤ pa1) (hn2 : n0 ≤ pa2) (hn3 : n0 ≤ pa3) (hd0 : pa0 ≠ pa1) (hk0 : px3.toInt8.toInt32 = px0.toInt8.toInt32) (hk1 : px0.toInt8.toInt32 = px3.toInt8.toInt32) (hk2 : ¬ (px4.toInt8.toInt32 = px1.toInt8.toInt32)) (hk3 : ¬ (px1.toInt8.toInt32 = px4.toInt8.toInt32)) (hc_px0 : nar .char px0 = px0) (hc_px1 : nar .char px1 = px1) (hc_px2 : nar .char px2 = px2) (hc_px3 : nar .char px3 = px3) (hc_px4 : nar .char px4 = px4) (hc_px5 : nar .char px5 = px5) :
    Ow.Con l Z EL1 n0 my14 jdk_42_method_66_code 3 (Option.some Jvm.ClassFile.FieldType.boolean) [] ({ frames := 1, cells := 0, slots := 0, locals := 14 } : Room) #[(.ref pa0), (.ref pa1)] [pa2, pa0, pa3, pa1] h0 (fun v h S' => (v = some (.int (0 : Int32)) ∧ h = h0 ∧ S' = [])) := by
  refine Ow.Con.enter (Ls := #[.val (.ref pa0), .val (.ref pa1), .unset]) (plainFor_of_name pn1) O0 (hEW hw) (hSA hw) ?_
  intro p e s m below meth c B
  have z0 := Ow.old_le O0
  have lu0 : (u0 : Nat) < n0 := O0.1 ▸ GS.2.lt
  have lpa0 : (pa0 : Nat) < h0.size := hf0.lt
  have lpa1 : (pa1 : Nat) < h0.size := hf2.lt
  have lpa2 : (pa2 : Nat) < h0.size := hf5.lt
  have lpa3 : (pa3 : Nat) < h0.size := hf6.lt
  refine Ow.aloadN (pc' := 1) B e13_0 ?_
  refine Ow.aloadN (pc' := 2) B e13_1 ?_
  refine Ow.acmpR (pc' := 7) (same := false) B e13_2 (decide_eq_false (fun q => absurd (show (pa0 : Nat) = pa1 from Value.ref.inj q) (by omega))) ?_
  refine Ow.aloadN (pc' := 8) B e13_7 ?_
  refine Ow.instYes (pc' := 11) B e13_8 (w93 hw) (Ins.self hf2) ?_
  refine Ow.ifF (pc' := 14) B e13_11 (by decide) ?_
  refine Ow.aloadN (pc' := 15) B e13_14 ?_
  refine Ow.checkcast (pc' := 18) B e13_15 (w93 hw) (Ins.self hf2) ?_
  refine Ow.astoreN (pc' := 19) (Ls' := #[.val (.ref pa0), .val (.ref pa1), .val (.ref pa1)]) B e13_18 ?_
  refine Ow.getstatic (pc' := 22) B e13_19 (w94 hw) Via.refl G.1 ?_
  refine Ow.ifF (pc' := 25) B e13_22 (feq (G.2.1)).1 ?_
  refine Ow.aloadN (pc' := 26) B e13_25 ?_
  refine Ow.getfield (pc' := 29) B e13_26 (w25 hw) Via.refl hf0 ?_
  refine Ow.aloadN (pc' := 30) B e13_29 ?_
  refine Ow.getfield (pc' := 33) B e13_30 (w25 hw) Via.refl hf3 ?_
  refine Ow.icmpF (pc' := 36) B e13_33 (by decide) ?_
  refine Ow.aloadN (pc' := 37) B e13_36 ?_
  refine Ow.getfield (pc' := 40) B e13_37 (w24 hw) Via.refl hf1 ?_
  refine Ow.aloadN (pc' := 41) B e13_40 ?_
  refine Ow.getfield (pc' := 44) B e13_41 (w24 hw) Via.refl hf4 ?_
  refine Ow.Go.old (fun o1 => ?_)
  refine Ow.callStatic (pc' := 47) (W := 0) (k' := 0) (n' := 0) (argsL := [(.ref pa2), (.ref pa3)]) (rest := []) B e13_44 (w95 hw) (w96 hw) (w97 hw) (w98 hw) (con_equals_120 hw G GS (pa0 := pa2) (pa1 := pa3) (px0 := px0) (px1 := px1) (px2 := px2) (px3 := px3) (px4 := px4) (px5 := px5) (pk0 := pk0) (pk1 := pk1) o1 hf5 hf6 (by omega) (by omega) (hk0) (hk1) (hk2) (hk3) hc_px0 hc_px1 hc_px2 hc_px3 hc_px4 hc_px5) pd11 ?_
  intro vq2 h3 S4 q2 zh3
  obtain ⟨rfl, rfl, rfl⟩ := q2
  refine Ow.Go.norm (S' := [pa2, pa0, pa3, pa1]) (st' := [(.int (0 : Int32))]) (fun _ q => List.mem_append_right _ q) rfl ?_
  refine Ow.ifT (pc' := 54) B e13_47 (by decide) ?_
  refine Ow.iconst (pc' := 55) (x := (0 : Int32)) B e13_54 ?_
  exact Ow.retI (S' := []) (t := .boolean) B e13_55 (⟨rfl, rfl, rfl⟩)
set_option maxRecDepth 65536 in
set_option maxHeartbeats 40000000 in
theorem con_contains_122 {l : Launch} {Z : State} {n0 : Nat} {a0 : Array Value} {cz : Int32} {sf : Value} (hw : Hw a0 Z) (G : Ow.Glo Z cz sf) {u0 : Nat} (GS : GlS Z u0) {pa0 : Nat} {pa1 : Nat} {pa2 : Nat} {pa3 : Nat} {pa4 : Nat} {px0 : Int32} {px1 : Int32} {px2 : Int32} {px3 : Int32} {px4 : Int32} {px5 : Int32} {pk0 : ClassId} {pk1 : ClassId} {h0 : Heap} (O0 : Old Z n0 h0) (hf0 : Fld Z h0 pa0 "java/util/ImmutableCollections$Set12" "e0" "Ljava/lang/Object;" (.ref pa2)) (hf1 : Fld Z h0 pa0 "java/util/ImmutableCollections$Set12" "e1" "Ljava/lang/Object;" (.ref u0)) (hf2 : Exa Z h0 pa1 "java/lang/String") (hf3 : Fld Z h0 pa1 "java/lang/String" "coder" "B" (.int (0 : Int32))) (hf4 : Fld Z h0 pa1 "java/lang/String" "value" "[B" (.ref pa3)) (hf5 : Exa Z h0 pa2 "java/lang/String") (hf6 : Fld Z h0 pa2 "java/lang/String" "coder" "B" (.int (0 : Int32))) (hf7 : Fld Z h0 pa2 "java/lang/String" "value" "[B" (.ref pa4)) (hf8 : Arv Z h0 pa3 pk0 .byte (3 : Int32) [(.int px0.toInt8.toInt32), (.int px1.toInt8.toInt32), (.int px2.toInt8.toInt32)] (.int 0)) (hf9 : Arv Z h0 pa4 pk1 .byte (3 : Int32) [(.int px3.toInt8.toInt32), (.int px4.toInt8.toInt32), (.int px5.toInt8.toInt32)] (.int 0)) (hn0 : n0 ≤ pa0) (hn1 : n0 ≤ pa1) (hn2 : n0 ≤ pa2) (hn3 : n0 ≤ pa3) (hn4 : n0 ≤ pa4) (hd0 : pa1 ≠ pa2) (hd1 : u0 ≠ pa1) (hk0 : px3.toInt8.toInt32 = px0.toInt8.toInt32) (hk1 : px0.toInt8.toInt32 = px3.toInt8.toInt32) (hk2 : ¬ (px4.toInt8.toInt32 = px1.toInt8.toInt32)) (hk3 : ¬ (px1.toInt8.toInt32 = px4.toInt8.toInt32)) (hc_px0 : nar .char px0 = px0) (hc_px1 : nar .char px1 = px1) (hc_px2 : nar .char px2 = px2) (hc_px3 : nar .char px3 = px3) (hc_px4 : nar .char px4 = px4) (hc_px5 : nar .char px5 = px5) :
    Ow.Con l Z EL1 n0 my16 jdk_101_method_5_code 2 (Option.some Jvm.ClassFile.FieldType.boolean) [] ({ frames := 2, cells := 0, slots := 0, locals := 28 } : Room) #[(.ref pa0), (.ref pa1)] [pa3, pa1, pa4, pa2] h0 (fun v h S' => (v = some (.int (0 : Int32)) ∧ h = h0 ∧ S' = [])) := by
  refine Ow.Con.enter (Ls := #[.val (.ref pa0), .val (.ref pa1)]) (plainFor_of_name pn4) O0 (hEW hw) (hSA hw) ?_
  intro p e s m below meth c B
  have z0 := Ow.old_le O0
  have lu0 : (u0 : Nat) < n0 := O0.1 ▸ GS.2.lt
  have lpa0 : (pa0 : Nat) < h0.size := hf0.lt
  have lpa1 : (pa1 : Nat) < h0.size := hf2.lt
  have lpa2 : (pa2 : Nat) < h0.size := hf5.lt
  have lpa3 : (pa3 : Nat) < h0.size := hf8.lt
  have lpa4 : (pa4 : Nat) < h0.size := hf9.lt
  refine Ow.aloadN (pc' := 1) B e16_0 ?_
  refine Ow.aloadN (pc' := 2) B e16_1 ?_
  refine Ow.getfield (pc' := 5) B e16_2 (w66 hw) Via.refl hf0 ?_
  refine Ow.Go.old (fun o1 => ?_)
  refine Ow.callVirtual (pc' := 8) (W := 0) (k' := 0) (n' := 0) (argsL := [(.ref pa2)]) (rest := []) (K := "java/lang/String") B e16_5 (w116 hw) (w117 hw) (w130 hw) (w119 hw) (w90 hw) (w6 hw) (w92 hw) hf2 (con_equals_121 hw G GS (pa0 := pa1) (pa1 := pa2) (pa2 := pa3) (pa3 := pa4) (px0 := px0) (px1 := px1) (px2 := px2) (px3 := px3) (px4 := px4) (px5 := px5) (pk0 := pk0) (pk1 := pk1) o1 hf3 hf4 hf5 hf6 hf7 hf8 hf9 (by omega) (by omega) (by omega) (by omega) (by omega) (hk0) (hk1) (hk2) (hk3) hc_px0 hc_px1 hc_px2 hc_px3 hc_px4 hc_px5) pd12 ?_
  intro vq2 h3 S4 q2 zh3
  obtain ⟨rfl, rfl, rfl⟩ := q2
  refine Ow.Go.norm (S' := [pa3, pa1, pa4, pa2]) (st' := [(.int (0 : Int32))]) (fun _ q => List.mem_append_right _ q) rfl ?_
  refine Ow.ifF (pc' := 11) B e16_8 (by decide) ?_
  refine Ow.aloadN (pc' := 12) B e16_11 ?_
  refine Ow.getfield (pc' := 15) B e16_12 (w70 hw) Via.refl hf1 ?_
  refine Ow.aloadN (pc' := 16) B e16_15 ?_
  refine Ow.Go.old (fun o5 => ?_)
  have f6 := Exa.ext o5.2 GS.2
  refine Ow.objEq (pc' := 19) (W := 0) (K := "java/lang/Object") B e16_16 (w116 hw) (w117 hw) (w130 hw) (w130 hw) (w118 hw) (w131 hw) (by decide +kernel) f6 pd12 e20_0 e20_1 e20_2 e20_9 e20_10 (by omega) ?_
  refine Ow.ifT (pc' := 26) B e16_19 (by decide) ?_
  refine Ow.iconst (pc' := 27) (x := (0 : Int32)) B e16_26 ?_
  exact Ow.retI (S' := []) (t := .boolean) B e16_27 (⟨rfl, rfl, rfl⟩)
set_option maxRecDepth 65536 in
set_option maxHeartbeats 40000000 in
theorem con_equals_123 {l : Launch} {Z : State} {n0 : Nat} {a0 : Array Value} {cz : Int32} {sf : Value} (hw : Hw a0 Z) (G : Ow.Glo Z cz sf) {u0 : Nat} (GS : GlS Z u0) {pa0 : Nat} {pa1 : Nat} {px0 : Int32} {px1 : Int32} {px2 : Int32} {px3 : Int32} {px4 : Int32} {px5 : Int32} {pk0 : ClassId} {pk1 : ClassId} {h0 : Heap} (O0 : Old Z n0 h0) (hf0 : Arv Z h0 pa0 pk0 .byte (3 : Int32) [(.int px0.toInt8.toInt32), (.int px1.toInt8.toInt32), (.int px2.toInt8.toInt32)] (.int 0)) (hf1 : Arv Z h0 pa1 pk1 .byte (3 : Int32) [(.int px3.toInt8.toInt32), (.int px4.toInt8.toInt32), (.int px5.toInt8.toInt32)] (.int 0)) (hn0 : n0 ≤ pa0) (hn1 : n0 ≤ pa1) (hk0 : ¬ (px3.toInt8.toInt32 = px0.toInt8.toInt32)) (hk1 : ¬ (px0.toInt8.toInt32 = px3.toInt8.toInt32)) (hc_px0 : nar .char px0 = px0) (hc_px1 : nar .char px1 = px1) (hc_px2 : nar .char px2 = px2) (hc_px3 : nar .char px3 = px3) (hc_px4 : nar .char px4 = px4) (hc_px5 : nar .char px5 = px5) :
    Ow.Con l Z EL1 n0 my13 jdk_43_method_13_code 3 (Option.some Jvm.ClassFile.FieldType.boolean) [] ({ frames := 0, cells := 0, slots := 0, locals := 0 } : Room) #[(.ref pa0), (.ref pa1)] [pa0, pa1] h0 (fun v h S' => (v = some (.int (0 : Int32)) ∧ h = h0 ∧ S' = [])) := by
  refine Ow.Con.enter (Ls := #[.val (.ref pa0), .val (.ref pa1), .unset]) (plainFor_of_name pn9) O0 (hEW hw) (hSA hw) ?_
  intro p e s m below meth c B
  have z0 := Ow.old_le O0
  have lu0 : (u0 : Nat) < n0 := O0.1 ▸ GS.2.lt
  have lpa0 : (pa0 : Nat) < h0.size := hf0.lt
  have lpa1 : (pa1 : Nat) < h0.size := hf1.lt
  refine Ow.aloadN (pc' := 1) B e14_0 ?_
  refine Ow.arrlen (pc' := 2) B e14_1 hf0 ?_
  refine Ow.aloadN (pc' := 3) B e14_2 ?_
  refine Ow.arrlen (pc' := 4) B e14_3 hf1 ?_
  refine Ow.icmpF (pc' := 7) B e14_4 (by decide) ?_
  refine Ow.iconst (pc' := 8) (x := (0 : Int32)) B e14_7 ?_
  refine Ow.istoreN (pc' := 9) (Ls' := #[.val (.ref pa0), .val (.ref pa1), .val (.int (0 : Int32))]) B e14_8 ?_
  refine Ow.iloadN (pc' := 10) B e14_9 ?_
  refine Ow.aloadN (pc' := 11) B e14_10 ?_
  refine Ow.arrlen (pc' := 12) B e14_11 hf0 ?_
  refine Ow.icmpF (pc' := 15) B e14_12 (by decide) ?_
  refine Ow.aloadN (pc' := 16) B e14_15 ?_
  refine Ow.iloadN (pc' := 17) B e14_16 ?_
  refine Ow.baload (pc' := 18) B e14_17 hf0 ⟨by decide, by decide⟩ rfl ?_
  refine Ow.aloadN (pc' := 19) B e14_18 ?_
  refine Ow.iloadN (pc' := 20) B e14_19 ?_
  refine Ow.baload (pc' := 21) B e14_20 hf1 ⟨by decide, by decide⟩ rfl ?_
  refine Ow.icmpF (pc' := 24) B e14_21 (feq (hk1)).1 ?_
  refine Ow.iconst (pc' := 25) (x := (0 : Int32)) B e14_24 ?_
  exact Ow.retI (S' := []) (t := .boolean) B e14_25 (⟨rfl, rfl, rfl⟩)
set_option maxRecDepth 65536 in
set_option maxHeartbeats 40000000 in
theorem con_equals_124 {l : Launch} {Z : State} {n0 : Nat} {a0 : Array Value} {cz : Int32} {sf : Value} (hw : Hw a0 Z) (G : Ow.Glo Z cz sf) {u0 : Nat} (GS : GlS Z u0) {pa0 : Nat} {pa1 : Nat} {pa2 : Nat} {pa3 : Nat} {px0 : Int32} {px1 : Int32} {px2 : Int32} {px3 : Int32} {px4 : Int32} {px5 : Int32} {pk0 : ClassId} {pk1 : ClassId} {h0 : Heap} (O0 : Old Z n0 h0) (hf0 : Fld Z h0 pa0 "java/lang/String" "coder" "B" (.int (0 : Int32))) (hf1 : Fld Z h0 pa0 "java/lang/String" "value" "[B" (.ref pa2)) (hf2 : Exa Z h0 pa1 "java/lang/String") (hf3 : Fld Z h0 pa1 "java/lang/String" "coder" "B" (.int (0 : Int32))) (hf4 : Fld Z h0 pa1 "java/lang/String" "value" "[B" (.ref pa3)) (hf5 : Arv Z h0 pa2 pk0 .byte (3 : Int32) [(.int px0.toInt8.toInt32), (.int px1.toInt8.toInt32), (.int px2.toInt8.toInt32)] (.int 0)) (hf6 : Arv Z h0 pa3 pk1 .byte (3 : Int32) [(.int px3.toInt8.toInt32), (.int px4.toInt8.toInt32), (.int px5.toInt8.toInt32)] (.int 0)) (hn0 : n0 ≤ pa0) (hn1 : n0 ≤ pa1) (hn2 : n0 ≤ pa2) (hn3 : n0 ≤ pa3) (hd0 : pa0 ≠ pa1) (hk0 : ¬ (px3.toInt8.toInt32 = px0.toInt8.toInt32)) (hk1 : ¬ (px0.toInt8.toInt32 = px3.toInt8.toInt32)) (hc_px0 : nar .char px0 = px0) (hc_px1 : nar .char px1 = px1) (hc_px2 : nar .char px2 = px2) (hc_px3 : nar .char px3 = px3) (hc_px4 : nar .char px4 = px4) (hc_px5 : nar .char px5 = px5) :
    Ow.Con l Z EL1 n0 my14 jdk_42_method_66_code 3 (Option.some Jvm.ClassFile.FieldType.boolean) [] ({ frames := 1, cells := 0, slots := 0, locals := 14 } : Room) #[(.ref pa0), (.ref pa1)] [pa2, pa0, pa3, pa1] h0 (fun v h S' => (v = some (.int (0 : Int32)) ∧ h = h0 ∧ S' = [])) := by
  refine Ow.Con.enter (Ls := #[.val (.ref pa0), .val (.ref pa1), .unset]) (plainFor_of_name pn1) O0 (hEW hw) (hSA hw) ?_
  intro p e s m below meth c B
  have z0 := Ow.old_le O0
  have lu0 : (u0 : Nat) < n0 := O0.1 ▸ GS.2.lt
  have lpa0 : (pa0 : Nat) < h0.size := hf0.lt
  have lpa1 : (pa1 : Nat) < h0.size := hf2.lt
  have lpa2 : (pa2 : Nat) < h0.size := hf5.lt
  have lpa3 : (pa3 : Nat) < h0.size := hf6.lt
  refine Ow.aloadN (pc' := 1) B e13_0 ?_
  refine Ow.aloadN (pc' := 2) B e13_1 ?_
  refine Ow.acmpR (pc' := 7) (same := false) B e13_2 (decide_eq_false (fun q => absurd (show (pa0 : Nat) = pa1 from Value.ref.inj q) (by omega))) ?_
  refine Ow.aloadN (pc' := 8) B e13_7 ?_
  refine Ow.instYes (pc' := 11) B e13_8 (w93 hw) (Ins.self hf2) ?_
  refine Ow.ifF (pc' := 14) B e13_11 (by decide) ?_
  refine Ow.aloadN (pc' := 15) B e13_14 ?_
  refine Ow.checkcast (pc' := 18) B e13_15 (w93 hw) (Ins.self hf2) ?_
  refine Ow.astoreN (pc' := 19) (Ls' := #[.val (.ref pa0), .val (.ref pa1), .val (.ref pa1)]) B e13_18 ?_
  refine Ow.getstatic (pc' := 22) B e13_19 (w94 hw) Via.refl G.1 ?_
  refine Ow.ifF (pc' := 25) B e13_22 (feq (G.2.1)).1 ?_
  refine Ow.aloadN (pc' := 26) B e13_25 ?_
  refine Ow.getfield (pc' := 29) B e13_26 (w25 hw) Via.refl hf0 ?_
  refine Ow.aloadN (pc' := 30) B e13_29 ?_
  refine Ow.getfield (pc' := 33) B e13_30 (w25 hw) Via.refl hf3 ?_
  refine Ow.icmpF (pc' := 36) B e13_33 (by decide) ?_
  refine Ow.aloadN (pc' := 37) B e13_36 ?_
  refine Ow.getfield (pc' := 40) B e13_37 (w24 hw) Via.refl hf1 ?_
  refine Ow.aloadN (pc' := 41) B e13_40 ?_
  refine Ow.getfield (pc' := 44) B e13_41 (w24 hw) Via.refl hf4 ?_
  refine Ow.Go.old (fun o1 => ?_)
  refine Ow.callStatic (pc' := 47) (W := 0) (k' := 0) (n' := 0) (argsL := [(.ref pa2), (.ref pa3)]) (rest := []) B e13_44 (w95 hw) (w96 hw) (w97 hw) (w98 hw) (con_equals_123 hw G GS (pa0 := pa2) (pa1 := pa3) (px0 := px0) (px1 := px1) (px2 := px2) (px3 := px3) (px4 := px4) (px5 := px5) (pk0 := pk0) (pk1 := pk1) o1 hf5 hf6 (by omega) (by omega) (hk0) (hk1) hc_px0 hc_px1 hc_px2 hc_px3 hc_px4 hc_px5) pd11 ?_
  intro vq2 h3 S4 q2 zh3
  obtain ⟨rfl, rfl, rfl⟩ := q2
  refine Ow.Go.norm (S' := [pa2, pa0, pa3, pa1]) (st' := [(.int (0 : Int32))]) (fun _ q => List.mem_append_right _ q) rfl ?_
  refine Ow.ifT (pc' := 54) B e13_47 (by decide) ?_
  refine Ow.iconst (pc' := 55) (x := (0 : Int32)) B e13_54 ?_
  exact Ow.retI (S' := []) (t := .boolean) B e13_55 (⟨rfl, rfl, rfl⟩)
set_option maxRecDepth 65536 in
set_option maxHeartbeats 40000000 in
theorem con_contains_125 {l : Launch} {Z : State} {n0 : Nat} {a0 : Array Value} {cz : Int32} {sf : Value} (hw : Hw a0 Z) (G : Ow.Glo Z cz sf) {u0 : Nat} (GS : GlS Z u0) {pa0 : Nat} {pa1 : Nat} {pa2 : Nat} {pa3 : Nat} {pa4 : Nat} {px0 : Int32} {px1 : Int32} {px2 : Int32} {px3 : Int32} {px4 : Int32} {px5 : Int32} {pk0 : ClassId} {pk1 : ClassId} {h0 : Heap} (O0 : Old Z n0 h0) (hf0 : Fld Z h0 pa0 "java/util/ImmutableCollections$Set12" "e0" "Ljava/lang/Object;" (.ref pa2)) (hf1 : Fld Z h0 pa0 "java/util/ImmutableCollections$Set12" "e1" "Ljava/lang/Object;" (.ref u0)) (hf2 : Exa Z h0 pa1 "java/lang/String") (hf3 : Fld Z h0 pa1 "java/lang/String" "coder" "B" (.int (0 : Int32))) (hf4 : Fld Z h0 pa1 "java/lang/String" "value" "[B" (.ref pa3)) (hf5 : Exa Z h0 pa2 "java/lang/String") (hf6 : Fld Z h0 pa2 "java/lang/String" "coder" "B" (.int (0 : Int32))) (hf7 : Fld Z h0 pa2 "java/lang/String" "value" "[B" (.ref pa4)) (hf8 : Arv Z h0 pa3 pk0 .byte (3 : Int32) [(.int px0.toInt8.toInt32), (.int px1.toInt8.toInt32), (.int px2.toInt8.toInt32)] (.int 0)) (hf9 : Arv Z h0 pa4 pk1 .byte (3 : Int32) [(.int px3.toInt8.toInt32), (.int px4.toInt8.toInt32), (.int px5.toInt8.toInt32)] (.int 0)) (hn0 : n0 ≤ pa0) (hn1 : n0 ≤ pa1) (hn2 : n0 ≤ pa2) (hn3 : n0 ≤ pa3) (hn4 : n0 ≤ pa4) (hd0 : pa1 ≠ pa2) (hd1 : u0 ≠ pa1) (hk0 : ¬ (px3.toInt8.toInt32 = px0.toInt8.toInt32)) (hk1 : ¬ (px0.toInt8.toInt32 = px3.toInt8.toInt32)) (hc_px0 : nar .char px0 = px0) (hc_px1 : nar .char px1 = px1) (hc_px2 : nar .char px2 = px2) (hc_px3 : nar .char px3 = px3) (hc_px4 : nar .char px4 = px4) (hc_px5 : nar .char px5 = px5) :
    Ow.Con l Z EL1 n0 my16 jdk_101_method_5_code 2 (Option.some Jvm.ClassFile.FieldType.boolean) [] ({ frames := 2, cells := 0, slots := 0, locals := 28 } : Room) #[(.ref pa0), (.ref pa1)] [pa3, pa1, pa4, pa2] h0 (fun v h S' => (v = some (.int (0 : Int32)) ∧ h = h0 ∧ S' = [])) := by
  refine Ow.Con.enter (Ls := #[.val (.ref pa0), .val (.ref pa1)]) (plainFor_of_name pn4) O0 (hEW hw) (hSA hw) ?_
  intro p e s m below meth c B
  have z0 := Ow.old_le O0
  have lu0 : (u0 : Nat) < n0 := O0.1 ▸ GS.2.lt
  have lpa0 : (pa0 : Nat) < h0.size := hf0.lt
  have lpa1 : (pa1 : Nat) < h0.size := hf2.lt
  have lpa2 : (pa2 : Nat) < h0.size := hf5.lt
  have lpa3 : (pa3 : Nat) < h0.size := hf8.lt
  have lpa4 : (pa4 : Nat) < h0.size := hf9.lt
  refine Ow.aloadN (pc' := 1) B e16_0 ?_
  refine Ow.aloadN (pc' := 2) B e16_1 ?_
  refine Ow.getfield (pc' := 5) B e16_2 (w66 hw) Via.refl hf0 ?_
  refine Ow.Go.old (fun o1 => ?_)
  refine Ow.callVirtual (pc' := 8) (W := 0) (k' := 0) (n' := 0) (argsL := [(.ref pa2)]) (rest := []) (K := "java/lang/String") B e16_5 (w116 hw) (w117 hw) (w130 hw) (w119 hw) (w90 hw) (w6 hw) (w92 hw) hf2 (con_equals_124 hw G GS (pa0 := pa1) (pa1 := pa2) (pa2 := pa3) (pa3 := pa4) (px0 := px0) (px1 := px1) (px2 := px2) (px3 := px3) (px4 := px4) (px5 := px5) (pk0 := pk0) (pk1 := pk1) o1 hf3 hf4 hf5 hf6 hf7 hf8 hf9 (by omega) (by omega) (by omega) (by omega) (by omega) (hk0) (hk1) hc_px0 hc_px1 hc_px2 hc_px3 hc_px4 hc_px5) pd12 ?_
  intro vq2 h3 S4 q2 zh3
  obtain ⟨rfl, rfl, rfl⟩ := q2
  refine Ow.Go.norm (S' := [pa3, pa1, pa4, pa2]) (st' := [(.int (0 : Int32))]) (fun _ q => List.mem_append_right _ q) rfl ?_
  refine Ow.ifF (pc' := 11) B e16_8 (by decide) ?_
  refine Ow.aloadN (pc' := 12) B e16_11 ?_
  refine Ow.getfield (pc' := 15) B e16_12 (w70 hw) Via.refl hf1 ?_
  refine Ow.aloadN (pc' := 16) B e16_15 ?_
  refine Ow.Go.old (fun o5 => ?_)
  have f6 := Exa.ext o5.2 GS.2
  refine Ow.objEq (pc' := 19) (W := 0) (K := "java/lang/Object") B e16_16 (w116 hw) (w117 hw) (w130 hw) (w130 hw) (w118 hw) (w131 hw) (by decide +kernel) f6 pd12 e20_0 e20_1 e20_2 e20_9 e20_10 (by omega) ?_
  refine Ow.ifT (pc' := 26) B e16_19 (by decide) ?_
  refine Ow.iconst (pc' := 27) (x := (0 : Int32)) B e16_26 ?_
  exact Ow.retI (S' := []) (t := .boolean) B e16_27 (⟨rfl, rfl, rfl⟩)
set_option maxRecDepth 65536 in
set_option maxHeartbeats 40000000 in
theorem lawCon {l : Launch} {Z : State} {n0 : Nat} {a0 : Array Value} {cz : Int32} {sf : Value} (hw : Hw a0 Z) (G : Ow.Glo Z cz sf) {u0 : Nat} (GS : GlS Z u0) (x0 x1 x2 x3 x4 : Int32) {h0 : Heap} (O0 : Old Z n0 h0)  :
    Ow.Con l Z EL1 n0 x code maxLocals ret tables_1 room_1 #[(.int x0), (.int x1), (.int x2), (.int x3), (.int x4)] [] h0 (fun v _ _ => v = some (.int 1)) := by
  refine Ow.Con.enter (Ls := #[.val (.int x0), .val (.int x1), .val (.int x2), .val (.int x3), .val (.int x4), .unset, .unset, .unset, .unset, .unset]) (plainFor_of_name pn0) O0 (hEW hw) (hSA hw) ?_
  intro p e s m below meth c B
  have z0 := Ow.old_le O0
  have lu0 : (u0 : Nat) < n0 := O0.1 ▸ GS.2.lt
  refine Ow.iload (pc' := 2) B at_0 ?_
  refine Ow.iconst (pc' := 3) (x := (3 : Int32)) B at_2 ?_
  rcases Ow.and3 x4 with hz3 | hz3 | hz3 | hz3
  · refine Ow.iand (pc' := 4) (z := (0 : Int32)) (hz := hz3) B at_3 ?_
    refine Ow.iloadN (pc' := 5) B at_4 ?_
    refine Ow.iloadN (pc' := 6) B at_5 ?_
    refine Ow.Go.old (fun o1 => ?_)
    refine Ow.callStatic (pc' := 9) (W := 0) (k' := 6) (n' := 12) (argsL := [(.int (0 : Int32)), (.int x0), (.int x1)]) (rest := []) B at_6 (w0 hw) (w1 hw) (w2 hw) (w3 hw) (con_mk_3 hw G GS (px0 := x0) (px1 := x1) o1) pd2 ?_
    intro vq2 h3 S4 q2 zh3
    obtain ⟨r5, r6, k7, rfl, Kh3, br5, f8, f9, f10, f11, rfl⟩ := q2
    have lr5 : (r5 : Nat) < h3.size := f8.lt
    have lr6 : (r6 : Nat) < h3.size := f11.lt
    refine Ow.Go.norm (S' := [r5]) (st' := [(.ref r5)]) (fun _ q => q) rfl ?_
    refine Ow.astore (pc' := 11) (Ls' := #[.val (.int x0), .val (.int x1), .val (.int x2), .val (.int x3), .val (.int x4), .val (.ref r5), .unset, .unset, .unset, .unset]) B at_9 ?_
    refine Ow.iload (pc' := 13) B at_11 ?_
    refine Ow.iconst (pc' := 14) (x := (2 : Int32)) B at_13 ?_
    refine Ow.ishr (pc' := 15) (z := (x4 >>> ((2 : Int32) &&& 31))) B at_14 ?_
    refine Ow.iconst (pc' := 16) (x := (3 : Int32)) B at_15 ?_
    rcases Ow.and3 (x4 >>> ((2 : Int32) &&& 31)) with hz16 | hz16 | hz16 | hz16
    · refine Ow.iand (pc' := 17) (z := (0 : Int32)) (hz := hz16) B at_16 ?_
      refine Ow.iloadN (pc' := 18) B at_17 ?_
      refine Ow.iloadN (pc' := 19) B at_18 ?_
      refine Ow.Go.old (fun o12 => ?_)
      refine Ow.callStatic (pc' := 22) (W := 0) (k' := 12) (n' := 24) (argsL := [(.int (0 : Int32)), (.int x2), (.int x3)]) (rest := []) B at_19 (w0 hw) (w1 hw) (w2 hw) (w3 hw) (con_mk_3 hw G GS (px0 := x2) (px1 := x3) o12) pd2 ?_
      intro vq13 h14 S15 q13 zh14
      obtain ⟨r16, r17, k18, rfl, Kh14, br16, f19, f20, f21, f22, rfl⟩ := q13
      have lr16 : (r16 : Nat) < h14.size := f19.lt
      have lr17 : (r17 : Nat) < h14.size := f22.lt
      refine Ow.Go.norm (S' := [r16, r5]) (st' := [(.ref r16)]) (fun _ q => q) rfl ?_
      refine Ow.astore (pc' := 24) (Ls' := #[.val (.int x0), .val (.int x1), .val (.int x2), .val (.int x3), .val (.int x4), .val (.ref r5), .val (.ref r16), .unset, .unset, .unset]) B at_22 ?_
      refine Ow.aload (pc' := 26) B at_24 ?_
      refine Ow.Go.old (fun o23 => ?_)
      refine Ow.callStatic (pc' := 29) (W := 0) (k' := 14) (n' := 27) (argsL := [(.ref r5)]) (rest := []) B at_26 (w26 hw) (w27 hw) (w28 hw) (w29 hw) (con_upTo_11 hw G GS (pa0 := r5) o23) pd8 ?_
      intro vq24 h25 S26 q24 zh25
      obtain ⟨r27, r28, rfl, Kh25, br27, br28, n29, f30, f31, f32, f33, f34, rfl⟩ := q24
      have lr27 : (r27 : Nat) < h25.size := f30.lt
      have lr28 : (r28 : Nat) < h25.size := f32.lt
      refine Ow.Go.norm (S' := [r16, r5]) (st' := [(.ref r27)]) (fun _ q => List.mem_append_right _ q) rfl ?_
      refine Ow.astore (pc' := 31) (Ls' := #[.val (.int x0), .val (.int x1), .val (.int x2), .val (.int x3), .val (.int x4), .val (.ref r5), .val (.ref r16), .val (.ref r27), .unset, .unset]) B at_29 ?_
      refine Ow.aload (pc' := 33) B at_31 ?_
      refine Ow.Go.old (fun o35 => ?_)
      refine Ow.callVirtual (pc' := 36) (W := 0) (k' := 14) (n' := 27) (argsL := []) (rest := []) (K := "com/example/entitlement/entitlement/Scope") B at_33 (w78 hw) (w79 hw) (w81 hw) (w81 hw) (w80 hw) (w28 hw) (w82 hw) f30 (con_everySenior_12 hw G GS (pa0 := r27) (pa1 := r28) o35 f31 (by omega)) pd9 ?_
      intro vq36 h37 S38 q36 zh37
      obtain ⟨rfl, rfl, rfl⟩ := q36
      refine Ow.Go.norm (S' := [r16, r5]) (st' := [(.int (0 : Int32))]) (fun _ q => List.mem_append_right _ q) rfl ?_
      refine Ow.ifT (pc' := 41) B at_36 (by decide) ?_
      refine Ow.aload (pc' := 43) B at_41 ?_
      refine Ow.Go.old (fun o39 => ?_)
      refine Ow.callVirtual (pc' := 46) (W := 0) (k' := 14) (n' := 27) (argsL := []) (rest := []) (K := "com/example/entitlement/entitlement/Scope") B at_43 (w83 hw) (w84 hw) (w86 hw) (w86 hw) (w85 hw) (w28 hw) (w87 hw) f30 (con_bounds_13 hw G GS (pa0 := r27) (pa1 := r28) o39 f31 (by omega)) pd10 ?_
      intro vq40 h41 S42 q40 zh41
      obtain ⟨rfl, rfl, rfl⟩ := q40
      refine Ow.Go.norm (S' := [r16, r5]) (st' := [(.ref r28)]) (fun _ q => List.mem_append_right _ q) rfl ?_
      refine Ow.astore (pc' := 48) (Ls' := #[.val (.int x0), .val (.int x1), .val (.int x2), .val (.int x3), .val (.int x4), .val (.ref r5), .val (.ref r16), .val (.ref r27), .val (.ref r28), .unset]) B at_46 ?_
      refine Ow.aload (pc' := 50) B at_48 ?_
      refine Ow.aload (pc' := 52) B at_50 ?_
      refine Ow.Go.old (fun o43 => ?_)
      have f44 := f9.keep Kh14 Ow.nin0
      have f45 := f44.keep Kh25 Ow.nin0
      have f46 := f10.keep Kh14 Ow.nin0
      have f47 := f46.keep Kh25 Ow.nin0
      have f48 := f19.keep Kh25
      have f49 := f20.keep Kh25 Ow.nin0
      have f50 := f21.keep Kh25 Ow.nin0
      have f51 := f11.keep Kh14 Ow.nin0
      have f52 := f51.keep Kh25 Ow.nin0
      have f53 := f22.keep Kh25 Ow.nin0
      have f54 := f8.keep Kh14
      have f55 := f54.keep Kh25
      refine Ow.callVirtual (pc' := 55) (W := 0) (k' := 14) (n' := 27) (argsL := [(.ref r16)]) (rest := []) (K := "java/lang/String") B at_52 (w88 hw) (w89 hw) (w91 hw) (w91 hw) (w90 hw) (w6 hw) (w92 hw) f55 (con_equals_15 hw G GS (pa0 := r5) (pa1 := r16) (pa2 := r6) (pa3 := r17) (pk0 := k7) (pk1 := k18) o43 f45 f47 f48 f49 f50 f52 f53 (by omega) (by omega) (by omega)) pd12 ?_
      intro vq56 h57 S58 q56 zh57
      obtain ⟨rfl, rfl, rfl⟩ := q56
      refine Ow.Go.norm (S' := [r16, r5]) (st' := [(.int (1 : Int32))]) (fun _ q => List.mem_append_right _ q) rfl ?_
      refine Ow.istore (pc' := 57) (Ls' := #[.val (.int x0), .val (.int x1), .val (.int x2), .val (.int x3), .val (.int x4), .val (.ref r5), .val (.ref r16), .val (.ref r27), .val (.ref r28), .val (.int (1 : Int32))]) B at_55 ?_
      refine Ow.aload (pc' := 59) B at_57 ?_
      refine Ow.Go.old (fun o59 => ?_)
      refine Ow.callFace (pc' := 64) (W := 0) (k' := 14) (n' := 27) (argsL := []) (rest := []) (K := "java/util/ImmutableCollections$Set12") B at_59 (w99 hw) (w100 hw) (w101 hw) (w102 hw) (w103 hw) (w104 hw) (w105 hw) (w106 hw) (w38 hw) (w107 hw) f32 (con_size_16 hw G GS (pa0 := r28) o59 f34 (by omega)) pd13 ?_
      intro vq60 h61 S62 q60 zh61
      obtain ⟨rfl, rfl, rfl⟩ := q60
      refine Ow.Go.norm (S' := [r16, r5]) (st' := [(.int (1 : Int32))]) (fun _ q => List.mem_append_right _ q) rfl ?_
      refine Ow.iconst (pc' := 65) (x := (1 : Int32)) B at_64 ?_
      refine Ow.icmpF (pc' := 68) B at_65 (by decide) ?_
      refine Ow.aload (pc' := 70) B at_68 ?_
      refine Ow.aload (pc' := 72) B at_70 ?_
      refine Ow.Go.old (fun o63 => ?_)
      refine Ow.callFace (pc' := 77) (W := 0) (k' := 14) (n' := 27) (argsL := [(.ref r5)]) (rest := []) (K := "java/util/ImmutableCollections$Set12") B at_72 (w108 hw) (w109 hw) (w110 hw) (w111 hw) (w112 hw) (w113 hw) (w114 hw) (w106 hw) (w38 hw) (w115 hw) f32 (con_contains_18 hw G GS (pa0 := r28) (pa1 := r5) o63 f33 f55 (by omega) (by omega)) pd12 ?_
      intro vq64 h65 S66 q64 zh65
      obtain ⟨rfl, rfl, rfl⟩ := q64
      refine Ow.Go.norm (S' := [r16, r5]) (st' := [(.int (1 : Int32))]) (fun _ q => List.mem_append_right _ q) rfl ?_
      refine Ow.ifF (pc' := 80) B at_77 (by decide) ?_
      refine Ow.aload (pc' := 82) B at_80 ?_
      refine Ow.aload (pc' := 84) B at_82 ?_
      refine Ow.Go.old (fun o67 => ?_)
      refine Ow.callFace (pc' := 89) (W := 0) (k' := 14) (n' := 27) (argsL := [(.ref r16)]) (rest := []) (K := "java/util/ImmutableCollections$Set12") B at_84 (w108 hw) (w109 hw) (w110 hw) (w111 hw) (w112 hw) (w113 hw) (w114 hw) (w106 hw) (w38 hw) (w115 hw) f32 (con_contains_20 hw G GS (pa0 := r28) (pa1 := r16) (pa2 := r5) (pa3 := r17) (pa4 := r6) (pk0 := k18) (pk1 := k7) o67 f33 f48 f49 f50 f55 f45 f47 f53 f52 (by omega) (by omega) (by omega) (by omega)) pd12 ?_
      intro vq68 h69 S70 q68 zh69
      obtain ⟨rfl, rfl, rfl⟩ := q68
      refine Ow.Go.norm (S' := [r16, r5]) (st' := [(.int (1 : Int32))]) (fun _ q => List.mem_append_right _ q) rfl ?_
      refine Ow.iload (pc' := 91) B at_89 ?_
      refine Ow.icmpF (pc' := 94) B at_91 (by decide) ?_
      refine Ow.iconst (pc' := 95) (x := (1 : Int32)) B at_94 ?_
      refine Ow.goto (pc' := 99) B at_95 ?_
      exact Ow.retI (S' := []) (t := .boolean) B at_99 (rfl)
    · refine Ow.iand (pc' := 17) (z := (1 : Int32)) (hz := hz16) B at_16 ?_
      refine Ow.iloadN (pc' := 18) B at_17 ?_
      refine Ow.iloadN (pc' := 19) B at_18 ?_
      refine Ow.Go.old (fun o71 => ?_)
      refine Ow.callStatic (pc' := 22) (W := 0) (k' := 9) (n' := 18) (argsL := [(.int (1 : Int32)), (.int x2), (.int x3)]) (rest := []) B at_19 (w0 hw) (w1 hw) (w2 hw) (w3 hw) (con_mk_26 hw G GS (px0 := x2) (px1 := x3) o71) pd2 ?_
      intro vq72 h73 S74 q72 zh73
      obtain ⟨r75, r76, k77, y78, rfl, Kh73, c79, c80, c81, c82, br75, br76, n83, f84, f85, f86, f87, rfl⟩ := q72
      have lr75 : (r75 : Nat) < h73.size := f84.lt
      have lr76 : (r76 : Nat) < h73.size := f87.lt
      refine Ow.Go.norm (S' := [r76, r75, r5]) (st' := [(.ref r75)]) (fun _ q => q) rfl ?_
      refine Ow.astore (pc' := 24) (Ls' := #[.val (.int x0), .val (.int x1), .val (.int x2), .val (.int x3), .val (.int x4), .val (.ref r5), .val (.ref r75), .unset, .unset, .unset]) B at_22 ?_
      refine Ow.aload (pc' := 26) B at_24 ?_
      refine Ow.Go.old (fun o88 => ?_)
      refine Ow.callStatic (pc' := 29) (W := 0) (k' := 11) (n' := 21) (argsL := [(.ref r5)]) (rest := []) B at_26 (w26 hw) (w27 hw) (w28 hw) (w29 hw) (con_upTo_11 hw G GS (pa0 := r5) o88) pd8 ?_
      intro vq89 h90 S91 q89 zh90
      obtain ⟨r92, r93, rfl, Kh90, br92, br93, n94, f95, f96, f97, f98, f99, rfl⟩ := q89
      have lr92 : (r92 : Nat) < h90.size := f95.lt
      have lr93 : (r93 : Nat) < h90.size := f97.lt
      refine Ow.Go.norm (S' := [r76, r75, r5]) (st' := [(.ref r92)]) (fun _ q => List.mem_append_right _ q) rfl ?_
      refine Ow.astore (pc' := 31) (Ls' := #[.val (.int x0), .val (.int x1), .val (.int x2), .val (.int x3), .val (.int x4), .val (.ref r5), .val (.ref r75), .val (.ref r92), .unset, .unset]) B at_29 ?_
      refine Ow.aload (pc' := 33) B at_31 ?_
      refine Ow.Go.old (fun o100 => ?_)
      refine Ow.callVirtual (pc' := 36) (W := 0) (k' := 11) (n' := 21) (argsL := []) (rest := []) (K := "com/example/entitlement/entitlement/Scope") B at_33 (w78 hw) (w79 hw) (w81 hw) (w81 hw) (w80 hw) (w28 hw) (w82 hw) f95 (con_everySenior_12 hw G GS (pa0 := r92) (pa1 := r93) o100 f96 (by omega)) pd9 ?_
      intro vq101 h102 S103 q101 zh102
      obtain ⟨rfl, rfl, rfl⟩ := q101
      refine Ow.Go.norm (S' := [r76, r75, r5]) (st' := [(.int (0 : Int32))]) (fun _ q => List.mem_append_right _ q) rfl ?_
      refine Ow.ifT (pc' := 41) B at_36 (by decide) ?_
      refine Ow.aload (pc' := 43) B at_41 ?_
      refine Ow.Go.old (fun o104 => ?_)
      refine Ow.callVirtual (pc' := 46) (W := 0) (k' := 11) (n' := 21) (argsL := []) (rest := []) (K := "com/example/entitlement/entitlement/Scope") B at_43 (w83 hw) (w84 hw) (w86 hw) (w86 hw) (w85 hw) (w28 hw) (w87 hw) f95 (con_bounds_13 hw G GS (pa0 := r92) (pa1 := r93) o104 f96 (by omega)) pd10 ?_
      intro vq105 h106 S107 q105 zh106
      obtain ⟨rfl, rfl, rfl⟩ := q105
      refine Ow.Go.norm (S' := [r76, r75, r5]) (st' := [(.ref r93)]) (fun _ q => List.mem_append_right _ q) rfl ?_
      refine Ow.astore (pc' := 48) (Ls' := #[.val (.int x0), .val (.int x1), .val (.int x2), .val (.int x3), .val (.int x4), .val (.ref r5), .val (.ref r75), .val (.ref r92), .val (.ref r93), .unset]) B at_46 ?_
      refine Ow.aload (pc' := 50) B at_48 ?_
      refine Ow.aload (pc' := 52) B at_50 ?_
      refine Ow.Go.old (fun o108 => ?_)
      have f109 := f9.keep Kh73 Ow.nin0
      have f110 := f109.keep Kh90 Ow.nin0
      have f111 := f10.keep Kh73 Ow.nin0
      have f112 := f111.keep Kh90 Ow.nin0
      have f113 := f84.keep Kh90
      have f114 := f85.keep Kh90 Ow.nin0
      have f115 := f86.keep Kh90 Ow.nin0
      have f116 := f11.keep Kh73 Ow.nin0
      have f117 := f116.keep Kh90 Ow.nin0
      have f118 := f87.keep Kh90 Ow.nin0
      have f119 := f8.keep Kh73
      have f120 := f119.keep Kh90
      refine Ow.callVirtual (pc' := 55) (W := 0) (k' := 11) (n' := 21) (argsL := [(.ref r75)]) (rest := []) (K := "java/lang/String") B at_52 (w88 hw) (w89 hw) (w91 hw) (w91 hw) (w90 hw) (w6 hw) (w92 hw) f120 (con_equals_28 hw G GS (pa0 := r5) (pa1 := r75) (pa2 := r6) (pa3 := r76) (px0 := y78) (pk0 := k7) (pk1 := k77) o108 f110 f112 f113 f114 f115 f117 f118 (by omega) (by omega) (by omega) (by omega) c82) pd12 ?_
      intro vq121 h122 S123 q121 zh122
      obtain ⟨rfl, rfl, rfl⟩ := q121
      refine Ow.Go.norm (S' := [r76, r75, r5]) (st' := [(.int (0 : Int32))]) (fun _ q => List.mem_append_right _ q) rfl ?_
      refine Ow.istore (pc' := 57) (Ls' := #[.val (.int x0), .val (.int x1), .val (.int x2), .val (.int x3), .val (.int x4), .val (.ref r5), .val (.ref r75), .val (.ref r92), .val (.ref r93), .val (.int (0 : Int32))]) B at_55 ?_
      refine Ow.aload (pc' := 59) B at_57 ?_
      refine Ow.Go.old (fun o124 => ?_)
      refine Ow.callFace (pc' := 64) (W := 0) (k' := 11) (n' := 21) (argsL := []) (rest := []) (K := "java/util/ImmutableCollections$Set12") B at_59 (w99 hw) (w100 hw) (w101 hw) (w102 hw) (w103 hw) (w104 hw) (w105 hw) (w106 hw) (w38 hw) (w107 hw) f97 (con_size_16 hw G GS (pa0 := r93) o124 f99 (by omega)) pd13 ?_
      intro vq125 h126 S127 q125 zh126
      obtain ⟨rfl, rfl, rfl⟩ := q125
      refine Ow.Go.norm (S' := [r76, r75, r5]) (st' := [(.int (1 : Int32))]) (fun _ q => List.mem_append_right _ q) rfl ?_
      refine Ow.iconst (pc' := 65) (x := (1 : Int32)) B at_64 ?_
      refine Ow.icmpF (pc' := 68) B at_65 (by decide) ?_
      refine Ow.aload (pc' := 70) B at_68 ?_
      refine Ow.aload (pc' := 72) B at_70 ?_
      refine Ow.Go.old (fun o128 => ?_)
      refine Ow.callFace (pc' := 77) (W := 0) (k' := 11) (n' := 21) (argsL := [(.ref r5)]) (rest := []) (K := "java/util/ImmutableCollections$Set12") B at_72 (w108 hw) (w109 hw) (w110 hw) (w111 hw) (w112 hw) (w113 hw) (w114 hw) (w106 hw) (w38 hw) (w115 hw) f97 (con_contains_18 hw G GS (pa0 := r93) (pa1 := r5) o128 f98 f120 (by omega) (by omega)) pd12 ?_
      intro vq129 h130 S131 q129 zh130
      obtain ⟨rfl, rfl, rfl⟩ := q129
      refine Ow.Go.norm (S' := [r76, r75, r5]) (st' := [(.int (1 : Int32))]) (fun _ q => List.mem_append_right _ q) rfl ?_
      refine Ow.ifF (pc' := 80) B at_77 (by decide) ?_
      refine Ow.aload (pc' := 82) B at_80 ?_
      refine Ow.aload (pc' := 84) B at_82 ?_
      refine Ow.Go.old (fun o132 => ?_)
      refine Ow.callFace (pc' := 89) (W := 0) (k' := 11) (n' := 21) (argsL := [(.ref r75)]) (rest := []) (K := "java/util/ImmutableCollections$Set12") B at_84 (w108 hw) (w109 hw) (w110 hw) (w111 hw) (w112 hw) (w113 hw) (w114 hw) (w106 hw) (w38 hw) (w115 hw) f97 (con_contains_31 hw G GS (pa0 := r93) (pa1 := r75) (pa2 := r5) (pa3 := r76) (pa4 := r6) (px0 := y78) (pk0 := k77) (pk1 := k7) o132 f98 f99 f113 f114 f115 f120 f110 f112 f118 f117 (by omega) (by omega) (by omega) (by omega) (by omega) (by omega) c82) pd12 ?_
      intro vq133 h134 S135 q133 zh134
      obtain ⟨rfl, rfl, rfl⟩ := q133
      refine Ow.Go.norm (S' := [r76, r75, r5]) (st' := [(.int (0 : Int32))]) (fun _ q => List.mem_append_right _ q) rfl ?_
      refine Ow.iload (pc' := 91) B at_89 ?_
      refine Ow.icmpF (pc' := 94) B at_91 (by decide) ?_
      refine Ow.iconst (pc' := 95) (x := (1 : Int32)) B at_94 ?_
      refine Ow.goto (pc' := 99) B at_95 ?_
      exact Ow.retI (S' := []) (t := .boolean) B at_99 (rfl)
    · refine Ow.iand (pc' := 17) (z := (2 : Int32)) (hz := hz16) B at_16 ?_
      refine Ow.iloadN (pc' := 18) B at_17 ?_
      refine Ow.iloadN (pc' := 19) B at_18 ?_
      refine Ow.Go.old (fun o136 => ?_)
      refine Ow.callStatic (pc' := 22) (W := 0) (k' := 9) (n' := 20) (argsL := [(.int (2 : Int32)), (.int x2), (.int x3)]) (rest := []) B at_19 (w0 hw) (w1 hw) (w2 hw) (w3 hw) (con_mk_37 hw G GS (px0 := x2) (px1 := x3) o136) pd2 ?_
      intro vq137 h138 S139 q137 zh138
      obtain ⟨r140, r141, k142, y143, y144, rfl, Kh138, c145, c146, c147, c148, c149, c150, c151, c152, br140, br141, n153, f154, f155, f156, f157, rfl⟩ := q137
      have lr140 : (r140 : Nat) < h138.size := f154.lt
      have lr141 : (r141 : Nat) < h138.size := f157.lt
      refine Ow.Go.norm (S' := [r141, r140, r5]) (st' := [(.ref r140)]) (fun _ q => q) rfl ?_
      refine Ow.astore (pc' := 24) (Ls' := #[.val (.int x0), .val (.int x1), .val (.int x2), .val (.int x3), .val (.int x4), .val (.ref r5), .val (.ref r140), .unset, .unset, .unset]) B at_22 ?_
      refine Ow.aload (pc' := 26) B at_24 ?_
      refine Ow.Go.old (fun o158 => ?_)
      refine Ow.callStatic (pc' := 29) (W := 0) (k' := 11) (n' := 23) (argsL := [(.ref r5)]) (rest := []) B at_26 (w26 hw) (w27 hw) (w28 hw) (w29 hw) (con_upTo_11 hw G GS (pa0 := r5) o158) pd8 ?_
      intro vq159 h160 S161 q159 zh160
      obtain ⟨r162, r163, rfl, Kh160, br162, br163, n164, f165, f166, f167, f168, f169, rfl⟩ := q159
      have lr162 : (r162 : Nat) < h160.size := f165.lt
      have lr163 : (r163 : Nat) < h160.size := f167.lt
      refine Ow.Go.norm (S' := [r141, r140, r5]) (st' := [(.ref r162)]) (fun _ q => List.mem_append_right _ q) rfl ?_
      refine Ow.astore (pc' := 31) (Ls' := #[.val (.int x0), .val (.int x1), .val (.int x2), .val (.int x3), .val (.int x4), .val (.ref r5), .val (.ref r140), .val (.ref r162), .unset, .unset]) B at_29 ?_
      refine Ow.aload (pc' := 33) B at_31 ?_
      refine Ow.Go.old (fun o170 => ?_)
      refine Ow.callVirtual (pc' := 36) (W := 0) (k' := 11) (n' := 23) (argsL := []) (rest := []) (K := "com/example/entitlement/entitlement/Scope") B at_33 (w78 hw) (w79 hw) (w81 hw) (w81 hw) (w80 hw) (w28 hw) (w82 hw) f165 (con_everySenior_12 hw G GS (pa0 := r162) (pa1 := r163) o170 f166 (by omega)) pd9 ?_
      intro vq171 h172 S173 q171 zh172
      obtain ⟨rfl, rfl, rfl⟩ := q171
      refine Ow.Go.norm (S' := [r141, r140, r5]) (st' := [(.int (0 : Int32))]) (fun _ q => List.mem_append_right _ q) rfl ?_
      refine Ow.ifT (pc' := 41) B at_36 (by decide) ?_
      refine Ow.aload (pc' := 43) B at_41 ?_
      refine Ow.Go.old (fun o174 => ?_)
      refine Ow.callVirtual (pc' := 46) (W := 0) (k' := 11) (n' := 23) (argsL := []) (rest := []) (K := "com/example/entitlement/entitlement/Scope") B at_43 (w83 hw) (w84 hw) (w86 hw) (w86 hw) (w85 hw) (w28 hw) (w87 hw) f165 (con_bounds_13 hw G GS (pa0 := r162) (pa1 := r163) o174 f166 (by omega)) pd10 ?_
      intro vq175 h176 S177 q175 zh176
      obtain ⟨rfl, rfl, rfl⟩ := q175
      refine Ow.Go.norm (S' := [r141, r140, r5]) (st' := [(.ref r163)]) (fun _ q => List.mem_append_right _ q) rfl ?_
      refine Ow.astore (pc' := 48) (Ls' := #[.val (.int x0), .val (.int x1), .val (.int x2), .val (.int x3), .val (.int x4), .val (.ref r5), .val (.ref r140), .val (.ref r162), .val (.ref r163), .unset]) B at_46 ?_
      refine Ow.aload (pc' := 50) B at_48 ?_
      refine Ow.aload (pc' := 52) B at_50 ?_
      refine Ow.Go.old (fun o178 => ?_)
      have f179 := f9.keep Kh138 Ow.nin0
      have f180 := f179.keep Kh160 Ow.nin0
      have f181 := f10.keep Kh138 Ow.nin0
      have f182 := f181.keep Kh160 Ow.nin0
      have f183 := f154.keep Kh160
      have f184 := f155.keep Kh160 Ow.nin0
      have f185 := f156.keep Kh160 Ow.nin0
      have f186 := f11.keep Kh138 Ow.nin0
      have f187 := f186.keep Kh160 Ow.nin0
      have f188 := f157.keep Kh160 Ow.nin0
      have f189 := f8.keep Kh138
      have f190 := f189.keep Kh160
      refine Ow.callVirtual (pc' := 55) (W := 0) (k' := 11) (n' := 23) (argsL := [(.ref r140)]) (rest := []) (K := "java/lang/String") B at_52 (w88 hw) (w89 hw) (w91 hw) (w91 hw) (w90 hw) (w6 hw) (w92 hw) f190 (con_equals_39 hw G GS (pa0 := r5) (pa1 := r140) (pa2 := r6) (pa3 := r141) (px0 := y143) (px1 := y144) (pk0 := k7) (pk1 := k142) o178 f180 f182 f183 f184 f185 f187 f188 (by omega) (by omega) (by omega) (by omega) c151 c152) pd12 ?_
      intro vq191 h192 S193 q191 zh192
      obtain ⟨rfl, rfl, rfl⟩ := q191
      refine Ow.Go.norm (S' := [r141, r140, r5]) (st' := [(.int (0 : Int32))]) (fun _ q => List.mem_append_right _ q) rfl ?_
      refine Ow.istore (pc' := 57) (Ls' := #[.val (.int x0), .val (.int x1), .val (.int x2), .val (.int x3), .val (.int x4), .val (.ref r5), .val (.ref r140), .val (.ref r162), .val (.ref r163), .val (.int (0 : Int32))]) B at_55 ?_
      refine Ow.aload (pc' := 59) B at_57 ?_
      refine Ow.Go.old (fun o194 => ?_)
      refine Ow.callFace (pc' := 64) (W := 0) (k' := 11) (n' := 23) (argsL := []) (rest := []) (K := "java/util/ImmutableCollections$Set12") B at_59 (w99 hw) (w100 hw) (w101 hw) (w102 hw) (w103 hw) (w104 hw) (w105 hw) (w106 hw) (w38 hw) (w107 hw) f167 (con_size_16 hw G GS (pa0 := r163) o194 f169 (by omega)) pd13 ?_
      intro vq195 h196 S197 q195 zh196
      obtain ⟨rfl, rfl, rfl⟩ := q195
      refine Ow.Go.norm (S' := [r141, r140, r5]) (st' := [(.int (1 : Int32))]) (fun _ q => List.mem_append_right _ q) rfl ?_
      refine Ow.iconst (pc' := 65) (x := (1 : Int32)) B at_64 ?_
      refine Ow.icmpF (pc' := 68) B at_65 (by decide) ?_
      refine Ow.aload (pc' := 70) B at_68 ?_
      refine Ow.aload (pc' := 72) B at_70 ?_
      refine Ow.Go.old (fun o198 => ?_)
      refine Ow.callFace (pc' := 77) (W := 0) (k' := 11) (n' := 23) (argsL := [(.ref r5)]) (rest := []) (K := "java/util/ImmutableCollections$Set12") B at_72 (w108 hw) (w109 hw) (w110 hw) (w111 hw) (w112 hw) (w113 hw) (w114 hw) (w106 hw) (w38 hw) (w115 hw) f167 (con_contains_18 hw G GS (pa0 := r163) (pa1 := r5) o198 f168 f190 (by omega) (by omega)) pd12 ?_
      intro vq199 h200 S201 q199 zh200
      obtain ⟨rfl, rfl, rfl⟩ := q199
      refine Ow.Go.norm (S' := [r141, r140, r5]) (st' := [(.int (1 : Int32))]) (fun _ q => List.mem_append_right _ q) rfl ?_
      refine Ow.ifF (pc' := 80) B at_77 (by decide) ?_
      refine Ow.aload (pc' := 82) B at_80 ?_
      refine Ow.aload (pc' := 84) B at_82 ?_
      refine Ow.Go.old (fun o202 => ?_)
      refine Ow.callFace (pc' := 89) (W := 0) (k' := 11) (n' := 23) (argsL := [(.ref r140)]) (rest := []) (K := "java/util/ImmutableCollections$Set12") B at_84 (w108 hw) (w109 hw) (w110 hw) (w111 hw) (w112 hw) (w113 hw) (w114 hw) (w106 hw) (w38 hw) (w115 hw) f167 (con_contains_42 hw G GS (pa0 := r163) (pa1 := r140) (pa2 := r5) (pa3 := r141) (pa4 := r6) (px0 := y143) (px1 := y144) (pk0 := k142) (pk1 := k7) o202 f168 f169 f183 f184 f185 f190 f180 f182 f188 f187 (by omega) (by omega) (by omega) (by omega) (by omega) (by omega) c151 c152) pd12 ?_
      intro vq203 h204 S205 q203 zh204
      obtain ⟨rfl, rfl, rfl⟩ := q203
      refine Ow.Go.norm (S' := [r141, r140, r5]) (st' := [(.int (0 : Int32))]) (fun _ q => List.mem_append_right _ q) rfl ?_
      refine Ow.iload (pc' := 91) B at_89 ?_
      refine Ow.icmpF (pc' := 94) B at_91 (by decide) ?_
      refine Ow.iconst (pc' := 95) (x := (1 : Int32)) B at_94 ?_
      refine Ow.goto (pc' := 99) B at_95 ?_
      exact Ow.retI (S' := []) (t := .boolean) B at_99 (rfl)
    · refine Ow.iand (pc' := 17) (z := (3 : Int32)) (hz := hz16) B at_16 ?_
      refine Ow.iloadN (pc' := 18) B at_17 ?_
      refine Ow.iloadN (pc' := 19) B at_18 ?_
      refine Ow.Go.old (fun o206 => ?_)
      refine Ow.callStatic (pc' := 22) (W := 0) (k' := 9) (n' := 22) (argsL := [(.int (3 : Int32)), (.int x2), (.int x3)]) (rest := []) B at_19 (w0 hw) (w1 hw) (w2 hw) (w3 hw) (con_mk_48 hw G GS (px0 := x2) (px1 := x3) o206) pd2 ?_
      intro vq207 h208 S209 q207 zh208
      obtain ⟨r210, r211, k212, y213, y214, y215, rfl, Kh208, c216, c217, c218, c219, c220, c221, c222, c223, c224, c225, c226, c227, br210, br211, n228, f229, f230, f231, f232, rfl⟩ := q207
      have lr210 : (r210 : Nat) < h208.size := f229.lt
      have lr211 : (r211 : Nat) < h208.size := f232.lt
      refine Ow.Go.norm (S' := [r211, r210, r5]) (st' := [(.ref r210)]) (fun _ q => q) rfl ?_
      refine Ow.astore (pc' := 24) (Ls' := #[.val (.int x0), .val (.int x1), .val (.int x2), .val (.int x3), .val (.int x4), .val (.ref r5), .val (.ref r210), .unset, .unset, .unset]) B at_22 ?_
      refine Ow.aload (pc' := 26) B at_24 ?_
      refine Ow.Go.old (fun o233 => ?_)
      refine Ow.callStatic (pc' := 29) (W := 0) (k' := 11) (n' := 25) (argsL := [(.ref r5)]) (rest := []) B at_26 (w26 hw) (w27 hw) (w28 hw) (w29 hw) (con_upTo_11 hw G GS (pa0 := r5) o233) pd8 ?_
      intro vq234 h235 S236 q234 zh235
      obtain ⟨r237, r238, rfl, Kh235, br237, br238, n239, f240, f241, f242, f243, f244, rfl⟩ := q234
      have lr237 : (r237 : Nat) < h235.size := f240.lt
      have lr238 : (r238 : Nat) < h235.size := f242.lt
      refine Ow.Go.norm (S' := [r211, r210, r5]) (st' := [(.ref r237)]) (fun _ q => List.mem_append_right _ q) rfl ?_
      refine Ow.astore (pc' := 31) (Ls' := #[.val (.int x0), .val (.int x1), .val (.int x2), .val (.int x3), .val (.int x4), .val (.ref r5), .val (.ref r210), .val (.ref r237), .unset, .unset]) B at_29 ?_
      refine Ow.aload (pc' := 33) B at_31 ?_
      refine Ow.Go.old (fun o245 => ?_)
      refine Ow.callVirtual (pc' := 36) (W := 0) (k' := 11) (n' := 25) (argsL := []) (rest := []) (K := "com/example/entitlement/entitlement/Scope") B at_33 (w78 hw) (w79 hw) (w81 hw) (w81 hw) (w80 hw) (w28 hw) (w82 hw) f240 (con_everySenior_12 hw G GS (pa0 := r237) (pa1 := r238) o245 f241 (by omega)) pd9 ?_
      intro vq246 h247 S248 q246 zh247
      obtain ⟨rfl, rfl, rfl⟩ := q246
      refine Ow.Go.norm (S' := [r211, r210, r5]) (st' := [(.int (0 : Int32))]) (fun _ q => List.mem_append_right _ q) rfl ?_
      refine Ow.ifT (pc' := 41) B at_36 (by decide) ?_
      refine Ow.aload (pc' := 43) B at_41 ?_
      refine Ow.Go.old (fun o249 => ?_)
      refine Ow.callVirtual (pc' := 46) (W := 0) (k' := 11) (n' := 25) (argsL := []) (rest := []) (K := "com/example/entitlement/entitlement/Scope") B at_43 (w83 hw) (w84 hw) (w86 hw) (w86 hw) (w85 hw) (w28 hw) (w87 hw) f240 (con_bounds_13 hw G GS (pa0 := r237) (pa1 := r238) o249 f241 (by omega)) pd10 ?_
      intro vq250 h251 S252 q250 zh251
      obtain ⟨rfl, rfl, rfl⟩ := q250
      refine Ow.Go.norm (S' := [r211, r210, r5]) (st' := [(.ref r238)]) (fun _ q => List.mem_append_right _ q) rfl ?_
      refine Ow.astore (pc' := 48) (Ls' := #[.val (.int x0), .val (.int x1), .val (.int x2), .val (.int x3), .val (.int x4), .val (.ref r5), .val (.ref r210), .val (.ref r237), .val (.ref r238), .unset]) B at_46 ?_
      refine Ow.aload (pc' := 50) B at_48 ?_
      refine Ow.aload (pc' := 52) B at_50 ?_
      refine Ow.Go.old (fun o253 => ?_)
      have f254 := f9.keep Kh208 Ow.nin0
      have f255 := f254.keep Kh235 Ow.nin0
      have f256 := f10.keep Kh208 Ow.nin0
      have f257 := f256.keep Kh235 Ow.nin0
      have f258 := f229.keep Kh235
      have f259 := f230.keep Kh235 Ow.nin0
      have f260 := f231.keep Kh235 Ow.nin0
      have f261 := f11.keep Kh208 Ow.nin0
      have f262 := f261.keep Kh235 Ow.nin0
      have f263 := f232.keep Kh235 Ow.nin0
      have f264 := f8.keep Kh208
      have f265 := f264.keep Kh235
      refine Ow.callVirtual (pc' := 55) (W := 0) (k' := 11) (n' := 25) (argsL := [(.ref r210)]) (rest := []) (K := "java/lang/String") B at_52 (w88 hw) (w89 hw) (w91 hw) (w91 hw) (w90 hw) (w6 hw) (w92 hw) f265 (con_equals_50 hw G GS (pa0 := r5) (pa1 := r210) (pa2 := r6) (pa3 := r211) (px0 := y213) (px1 := y214) (px2 := y215) (pk0 := k7) (pk1 := k212) o253 f255 f257 f258 f259 f260 f262 f263 (by omega) (by omega) (by omega) (by omega) c225 c226 c227) pd12 ?_
      intro vq266 h267 S268 q266 zh267
      obtain ⟨rfl, rfl, rfl⟩ := q266
      refine Ow.Go.norm (S' := [r211, r210, r5]) (st' := [(.int (0 : Int32))]) (fun _ q => List.mem_append_right _ q) rfl ?_
      refine Ow.istore (pc' := 57) (Ls' := #[.val (.int x0), .val (.int x1), .val (.int x2), .val (.int x3), .val (.int x4), .val (.ref r5), .val (.ref r210), .val (.ref r237), .val (.ref r238), .val (.int (0 : Int32))]) B at_55 ?_
      refine Ow.aload (pc' := 59) B at_57 ?_
      refine Ow.Go.old (fun o269 => ?_)
      refine Ow.callFace (pc' := 64) (W := 0) (k' := 11) (n' := 25) (argsL := []) (rest := []) (K := "java/util/ImmutableCollections$Set12") B at_59 (w99 hw) (w100 hw) (w101 hw) (w102 hw) (w103 hw) (w104 hw) (w105 hw) (w106 hw) (w38 hw) (w107 hw) f242 (con_size_16 hw G GS (pa0 := r238) o269 f244 (by omega)) pd13 ?_
      intro vq270 h271 S272 q270 zh271
      obtain ⟨rfl, rfl, rfl⟩ := q270
      refine Ow.Go.norm (S' := [r211, r210, r5]) (st' := [(.int (1 : Int32))]) (fun _ q => List.mem_append_right _ q) rfl ?_
      refine Ow.iconst (pc' := 65) (x := (1 : Int32)) B at_64 ?_
      refine Ow.icmpF (pc' := 68) B at_65 (by decide) ?_
      refine Ow.aload (pc' := 70) B at_68 ?_
      refine Ow.aload (pc' := 72) B at_70 ?_
      refine Ow.Go.old (fun o273 => ?_)
      refine Ow.callFace (pc' := 77) (W := 0) (k' := 11) (n' := 25) (argsL := [(.ref r5)]) (rest := []) (K := "java/util/ImmutableCollections$Set12") B at_72 (w108 hw) (w109 hw) (w110 hw) (w111 hw) (w112 hw) (w113 hw) (w114 hw) (w106 hw) (w38 hw) (w115 hw) f242 (con_contains_18 hw G GS (pa0 := r238) (pa1 := r5) o273 f243 f265 (by omega) (by omega)) pd12 ?_
      intro vq274 h275 S276 q274 zh275
      obtain ⟨rfl, rfl, rfl⟩ := q274
      refine Ow.Go.norm (S' := [r211, r210, r5]) (st' := [(.int (1 : Int32))]) (fun _ q => List.mem_append_right _ q) rfl ?_
      refine Ow.ifF (pc' := 80) B at_77 (by decide) ?_
      refine Ow.aload (pc' := 82) B at_80 ?_
      refine Ow.aload (pc' := 84) B at_82 ?_
      refine Ow.Go.old (fun o277 => ?_)
      refine Ow.callFace (pc' := 89) (W := 0) (k' := 11) (n' := 25) (argsL := [(.ref r210)]) (rest := []) (K := "java/util/ImmutableCollections$Set12") B at_84 (w108 hw) (w109 hw) (w110 hw) (w111 hw) (w112 hw) (w113 hw) (w114 hw) (w106 hw) (w38 hw) (w115 hw) f242 (con_contains_53 hw G GS (pa0 := r238) (pa1 := r210) (pa2 := r5) (pa3 := r211) (pa4 := r6) (px0 := y213) (px1 := y214) (px2 := y215) (pk0 := k212) (pk1 := k7) o277 f243 f244 f258 f259 f260 f265 f255 f257 f263 f262 (by omega) (by omega) (by omega) (by omega) (by omega) (by omega) c225 c226 c227) pd12 ?_
      intro vq278 h279 S280 q278 zh279
      obtain ⟨rfl, rfl, rfl⟩ := q278
      refine Ow.Go.norm (S' := [r211, r210, r5]) (st' := [(.int (0 : Int32))]) (fun _ q => List.mem_append_right _ q) rfl ?_
      refine Ow.iload (pc' := 91) B at_89 ?_
      refine Ow.icmpF (pc' := 94) B at_91 (by decide) ?_
      refine Ow.iconst (pc' := 95) (x := (1 : Int32)) B at_94 ?_
      refine Ow.goto (pc' := 99) B at_95 ?_
      exact Ow.retI (S' := []) (t := .boolean) B at_99 (rfl)
  · refine Ow.iand (pc' := 4) (z := (1 : Int32)) (hz := hz3) B at_3 ?_
    refine Ow.iloadN (pc' := 5) B at_4 ?_
    refine Ow.iloadN (pc' := 6) B at_5 ?_
    refine Ow.Go.old (fun o281 => ?_)
    refine Ow.callStatic (pc' := 9) (W := 0) (k' := 3) (n' := 6) (argsL := [(.int (1 : Int32)), (.int x0), (.int x1)]) (rest := []) B at_6 (w0 hw) (w1 hw) (w2 hw) (w3 hw) (con_mk_26 hw G GS (px0 := x0) (px1 := x1) o281) pd2 ?_
    intro vq282 h283 S284 q282 zh283
    obtain ⟨r285, r286, k287, y288, rfl, Kh283, c289, c290, c291, c292, br285, br286, n293, f294, f295, f296, f297, rfl⟩ := q282
    have lr285 : (r285 : Nat) < h283.size := f294.lt
    have lr286 : (r286 : Nat) < h283.size := f297.lt
    refine Ow.Go.norm (S' := [r286, r285]) (st' := [(.ref r285)]) (fun _ q => q) rfl ?_
    refine Ow.astore (pc' := 11) (Ls' := #[.val (.int x0), .val (.int x1), .val (.int x2), .val (.int x3), .val (.int x4), .val (.ref r285), .unset, .unset, .unset, .unset]) B at_9 ?_
    refine Ow.iload (pc' := 13) B at_11 ?_
    refine Ow.iconst (pc' := 14) (x := (2 : Int32)) B at_13 ?_
    refine Ow.ishr (pc' := 15) (z := (x4 >>> ((2 : Int32) &&& 31))) B at_14 ?_
    refine Ow.iconst (pc' := 16) (x := (3 : Int32)) B at_15 ?_
    rcases Ow.and3 (x4 >>> ((2 : Int32) &&& 31)) with hz16 | hz16 | hz16 | hz16
    · refine Ow.iand (pc' := 17) (z := (0 : Int32)) (hz := hz16) B at_16 ?_
      refine Ow.iloadN (pc' := 18) B at_17 ?_
      refine Ow.iloadN (pc' := 19) B at_18 ?_
      refine Ow.Go.old (fun o298 => ?_)
      refine Ow.callStatic (pc' := 22) (W := 0) (k' := 9) (n' := 18) (argsL := [(.int (0 : Int32)), (.int x2), (.int x3)]) (rest := []) B at_19 (w0 hw) (w1 hw) (w2 hw) (w3 hw) (con_mk_3 hw G GS (px0 := x2) (px1 := x3) o298) pd2 ?_
      intro vq299 h300 S301 q299 zh300
      obtain ⟨r302, r303, k304, rfl, Kh300, br302, f305, f306, f307, f308, rfl⟩ := q299
      have lr302 : (r302 : Nat) < h300.size := f305.lt
      have lr303 : (r303 : Nat) < h300.size := f308.lt
      refine Ow.Go.norm (S' := [r302, r286, r285]) (st' := [(.ref r302)]) (fun _ q => q) rfl ?_
      refine Ow.astore (pc' := 24) (Ls' := #[.val (.int x0), .val (.int x1), .val (.int x2), .val (.int x3), .val (.int x4), .val (.ref r285), .val (.ref r302), .unset, .unset, .unset]) B at_22 ?_
      refine Ow.aload (pc' := 26) B at_24 ?_
      refine Ow.Go.old (fun o309 => ?_)
      refine Ow.callStatic (pc' := 29) (W := 0) (k' := 11) (n' := 21) (argsL := [(.ref r285)]) (rest := []) B at_26 (w26 hw) (w27 hw) (w28 hw) (w29 hw) (con_upTo_11 hw G GS (pa0 := r285) o309) pd8 ?_
      intro vq310 h311 S312 q310 zh311
      obtain ⟨r313, r314, rfl, Kh311, br313, br314, n315, f316, f317, f318, f319, f320, rfl⟩ := q310
      have lr313 : (r313 : Nat) < h311.size := f316.lt
      have lr314 : (r314 : Nat) < h311.size := f318.lt
      refine Ow.Go.norm (S' := [r302, r286, r285]) (st' := [(.ref r313)]) (fun _ q => List.mem_append_right _ q) rfl ?_
      refine Ow.astore (pc' := 31) (Ls' := #[.val (.int x0), .val (.int x1), .val (.int x2), .val (.int x3), .val (.int x4), .val (.ref r285), .val (.ref r302), .val (.ref r313), .unset, .unset]) B at_29 ?_
      refine Ow.aload (pc' := 33) B at_31 ?_
      refine Ow.Go.old (fun o321 => ?_)
      refine Ow.callVirtual (pc' := 36) (W := 0) (k' := 11) (n' := 21) (argsL := []) (rest := []) (K := "com/example/entitlement/entitlement/Scope") B at_33 (w78 hw) (w79 hw) (w81 hw) (w81 hw) (w80 hw) (w28 hw) (w82 hw) f316 (con_everySenior_12 hw G GS (pa0 := r313) (pa1 := r314) o321 f317 (by omega)) pd9 ?_
      intro vq322 h323 S324 q322 zh323
      obtain ⟨rfl, rfl, rfl⟩ := q322
      refine Ow.Go.norm (S' := [r302, r286, r285]) (st' := [(.int (0 : Int32))]) (fun _ q => List.mem_append_right _ q) rfl ?_
      refine Ow.ifT (pc' := 41) B at_36 (by decide) ?_
      refine Ow.aload (pc' := 43) B at_41 ?_
      refine Ow.Go.old (fun o325 => ?_)
      refine Ow.callVirtual (pc' := 46) (W := 0) (k' := 11) (n' := 21) (argsL := []) (rest := []) (K := "com/example/entitlement/entitlement/Scope") B at_43 (w83 hw) (w84 hw) (w86 hw) (w86 hw) (w85 hw) (w28 hw) (w87 hw) f316 (con_bounds_13 hw G GS (pa0 := r313) (pa1 := r314) o325 f317 (by omega)) pd10 ?_
      intro vq326 h327 S328 q326 zh327
      obtain ⟨rfl, rfl, rfl⟩ := q326
      refine Ow.Go.norm (S' := [r302, r286, r285]) (st' := [(.ref r314)]) (fun _ q => List.mem_append_right _ q) rfl ?_
      refine Ow.astore (pc' := 48) (Ls' := #[.val (.int x0), .val (.int x1), .val (.int x2), .val (.int x3), .val (.int x4), .val (.ref r285), .val (.ref r302), .val (.ref r313), .val (.ref r314), .unset]) B at_46 ?_
      refine Ow.aload (pc' := 50) B at_48 ?_
      refine Ow.aload (pc' := 52) B at_50 ?_
      refine Ow.Go.old (fun o329 => ?_)
      have f330 := f295.keep Kh300 Ow.nin0
      have f331 := f330.keep Kh311 Ow.nin0
      have f332 := f296.keep Kh300 Ow.nin0
      have f333 := f332.keep Kh311 Ow.nin0
      have f334 := f305.keep Kh311
      have f335 := f306.keep Kh311 Ow.nin0
      have f336 := f307.keep Kh311 Ow.nin0
      have f337 := f297.keep Kh300 Ow.nin0
      have f338 := f337.keep Kh311 Ow.nin0
      have f339 := f308.keep Kh311 Ow.nin0
      have f340 := f294.keep Kh300
      have f341 := f340.keep Kh311
      refine Ow.callVirtual (pc' := 55) (W := 0) (k' := 11) (n' := 21) (argsL := [(.ref r302)]) (rest := []) (K := "java/lang/String") B at_52 (w88 hw) (w89 hw) (w91 hw) (w91 hw) (w90 hw) (w6 hw) (w92 hw) f341 (con_equals_54 hw G GS (pa0 := r285) (pa1 := r302) (pa2 := r286) (pa3 := r303) (px0 := y288) (pk0 := k287) (pk1 := k304) o329 f331 f333 f334 f335 f336 f338 f339 (by omega) (by omega) (by omega) (by omega) c292) pd12 ?_
      intro vq342 h343 S344 q342 zh343
      obtain ⟨rfl, rfl, rfl⟩ := q342
      refine Ow.Go.norm (S' := [r302, r286, r285]) (st' := [(.int (0 : Int32))]) (fun _ q => List.mem_append_right _ q) rfl ?_
      refine Ow.istore (pc' := 57) (Ls' := #[.val (.int x0), .val (.int x1), .val (.int x2), .val (.int x3), .val (.int x4), .val (.ref r285), .val (.ref r302), .val (.ref r313), .val (.ref r314), .val (.int (0 : Int32))]) B at_55 ?_
      refine Ow.aload (pc' := 59) B at_57 ?_
      refine Ow.Go.old (fun o345 => ?_)
      refine Ow.callFace (pc' := 64) (W := 0) (k' := 11) (n' := 21) (argsL := []) (rest := []) (K := "java/util/ImmutableCollections$Set12") B at_59 (w99 hw) (w100 hw) (w101 hw) (w102 hw) (w103 hw) (w104 hw) (w105 hw) (w106 hw) (w38 hw) (w107 hw) f318 (con_size_16 hw G GS (pa0 := r314) o345 f320 (by omega)) pd13 ?_
      intro vq346 h347 S348 q346 zh347
      obtain ⟨rfl, rfl, rfl⟩ := q346
      refine Ow.Go.norm (S' := [r302, r286, r285]) (st' := [(.int (1 : Int32))]) (fun _ q => List.mem_append_right _ q) rfl ?_
      refine Ow.iconst (pc' := 65) (x := (1 : Int32)) B at_64 ?_
      refine Ow.icmpF (pc' := 68) B at_65 (by decide) ?_
      refine Ow.aload (pc' := 70) B at_68 ?_
      refine Ow.aload (pc' := 72) B at_70 ?_
      refine Ow.Go.old (fun o349 => ?_)
      refine Ow.callFace (pc' := 77) (W := 0) (k' := 11) (n' := 21) (argsL := [(.ref r285)]) (rest := []) (K := "java/util/ImmutableCollections$Set12") B at_72 (w108 hw) (w109 hw) (w110 hw) (w111 hw) (w112 hw) (w113 hw) (w114 hw) (w106 hw) (w38 hw) (w115 hw) f318 (con_contains_18 hw G GS (pa0 := r314) (pa1 := r285) o349 f319 f341 (by omega) (by omega)) pd12 ?_
      intro vq350 h351 S352 q350 zh351
      obtain ⟨rfl, rfl, rfl⟩ := q350
      refine Ow.Go.norm (S' := [r302, r286, r285]) (st' := [(.int (1 : Int32))]) (fun _ q => List.mem_append_right _ q) rfl ?_
      refine Ow.ifF (pc' := 80) B at_77 (by decide) ?_
      refine Ow.aload (pc' := 82) B at_80 ?_
      refine Ow.aload (pc' := 84) B at_82 ?_
      refine Ow.Go.old (fun o353 => ?_)
      refine Ow.callFace (pc' := 89) (W := 0) (k' := 11) (n' := 21) (argsL := [(.ref r302)]) (rest := []) (K := "java/util/ImmutableCollections$Set12") B at_84 (w108 hw) (w109 hw) (w110 hw) (w111 hw) (w112 hw) (w113 hw) (w114 hw) (w106 hw) (w38 hw) (w115 hw) f318 (con_contains_56 hw G GS (pa0 := r314) (pa1 := r302) (pa2 := r285) (pa3 := r303) (pa4 := r286) (px0 := y288) (pk0 := k304) (pk1 := k287) o353 f319 f320 f334 f335 f336 f341 f331 f333 f339 f338 (by omega) (by omega) (by omega) (by omega) (by omega) (by omega) c292) pd12 ?_
      intro vq354 h355 S356 q354 zh355
      obtain ⟨rfl, rfl, rfl⟩ := q354
      refine Ow.Go.norm (S' := [r302, r286, r285]) (st' := [(.int (0 : Int32))]) (fun _ q => List.mem_append_right _ q) rfl ?_
      refine Ow.iload (pc' := 91) B at_89 ?_
      refine Ow.icmpF (pc' := 94) B at_91 (by decide) ?_
      refine Ow.iconst (pc' := 95) (x := (1 : Int32)) B at_94 ?_
      refine Ow.goto (pc' := 99) B at_95 ?_
      exact Ow.retI (S' := []) (t := .boolean) B at_99 (rfl)
    · refine Ow.iand (pc' := 17) (z := (1 : Int32)) (hz := hz16) B at_16 ?_
      refine Ow.iloadN (pc' := 18) B at_17 ?_
      refine Ow.iloadN (pc' := 19) B at_18 ?_
      refine Ow.Go.old (fun o357 => ?_)
      refine Ow.callStatic (pc' := 22) (W := 0) (k' := 6) (n' := 12) (argsL := [(.int (1 : Int32)), (.int x2), (.int x3)]) (rest := []) B at_19 (w0 hw) (w1 hw) (w2 hw) (w3 hw) (con_mk_26 hw G GS (px0 := x2) (px1 := x3) o357) pd2 ?_
      intro vq358 h359 S360 q358 zh359
      obtain ⟨r361, r362, k363, y364, rfl, Kh359, c365, c366, c367, c368, br361, br362, n369, f370, f371, f372, f373, rfl⟩ := q358
      have lr361 : (r361 : Nat) < h359.size := f370.lt
      have lr362 : (r362 : Nat) < h359.size := f373.lt
      refine Ow.Go.norm (S' := [r362, r361, r286, r285]) (st' := [(.ref r361)]) (fun _ q => q) rfl ?_
      refine Ow.astore (pc' := 24) (Ls' := #[.val (.int x0), .val (.int x1), .val (.int x2), .val (.int x3), .val (.int x4), .val (.ref r285), .val (.ref r361), .unset, .unset, .unset]) B at_22 ?_
      refine Ow.aload (pc' := 26) B at_24 ?_
      refine Ow.Go.old (fun o374 => ?_)
      refine Ow.callStatic (pc' := 29) (W := 0) (k' := 8) (n' := 15) (argsL := [(.ref r285)]) (rest := []) B at_26 (w26 hw) (w27 hw) (w28 hw) (w29 hw) (con_upTo_11 hw G GS (pa0 := r285) o374) pd8 ?_
      intro vq375 h376 S377 q375 zh376
      obtain ⟨r378, r379, rfl, Kh376, br378, br379, n380, f381, f382, f383, f384, f385, rfl⟩ := q375
      have lr378 : (r378 : Nat) < h376.size := f381.lt
      have lr379 : (r379 : Nat) < h376.size := f383.lt
      refine Ow.Go.norm (S' := [r362, r361, r286, r285]) (st' := [(.ref r378)]) (fun _ q => List.mem_append_right _ q) rfl ?_
      refine Ow.astore (pc' := 31) (Ls' := #[.val (.int x0), .val (.int x1), .val (.int x2), .val (.int x3), .val (.int x4), .val (.ref r285), .val (.ref r361), .val (.ref r378), .unset, .unset]) B at_29 ?_
      refine Ow.aload (pc' := 33) B at_31 ?_
      refine Ow.Go.old (fun o386 => ?_)
      refine Ow.callVirtual (pc' := 36) (W := 0) (k' := 8) (n' := 15) (argsL := []) (rest := []) (K := "com/example/entitlement/entitlement/Scope") B at_33 (w78 hw) (w79 hw) (w81 hw) (w81 hw) (w80 hw) (w28 hw) (w82 hw) f381 (con_everySenior_12 hw G GS (pa0 := r378) (pa1 := r379) o386 f382 (by omega)) pd9 ?_
      intro vq387 h388 S389 q387 zh388
      obtain ⟨rfl, rfl, rfl⟩ := q387
      refine Ow.Go.norm (S' := [r362, r361, r286, r285]) (st' := [(.int (0 : Int32))]) (fun _ q => List.mem_append_right _ q) rfl ?_
      refine Ow.ifT (pc' := 41) B at_36 (by decide) ?_
      refine Ow.aload (pc' := 43) B at_41 ?_
      refine Ow.Go.old (fun o390 => ?_)
      refine Ow.callVirtual (pc' := 46) (W := 0) (k' := 8) (n' := 15) (argsL := []) (rest := []) (K := "com/example/entitlement/entitlement/Scope") B at_43 (w83 hw) (w84 hw) (w86 hw) (w86 hw) (w85 hw) (w28 hw) (w87 hw) f381 (con_bounds_13 hw G GS (pa0 := r378) (pa1 := r379) o390 f382 (by omega)) pd10 ?_
      intro vq391 h392 S393 q391 zh392
      obtain ⟨rfl, rfl, rfl⟩ := q391
      refine Ow.Go.norm (S' := [r362, r361, r286, r285]) (st' := [(.ref r379)]) (fun _ q => List.mem_append_right _ q) rfl ?_
      refine Ow.astore (pc' := 48) (Ls' := #[.val (.int x0), .val (.int x1), .val (.int x2), .val (.int x3), .val (.int x4), .val (.ref r285), .val (.ref r361), .val (.ref r378), .val (.ref r379), .unset]) B at_46 ?_
      refine Ow.aload (pc' := 50) B at_48 ?_
      refine Ow.aload (pc' := 52) B at_50 ?_
      refine Ow.Go.old (fun o394 => ?_)
      have f395 := f295.keep Kh359 Ow.nin0
      have f396 := f395.keep Kh376 Ow.nin0
      have f397 := f296.keep Kh359 Ow.nin0
      have f398 := f397.keep Kh376 Ow.nin0
      have f399 := f370.keep Kh376
      have f400 := f371.keep Kh376 Ow.nin0
      have f401 := f372.keep Kh376 Ow.nin0
      have f402 := f297.keep Kh359 Ow.nin0
      have f403 := f402.keep Kh376 Ow.nin0
      have f404 := f373.keep Kh376 Ow.nin0
      have f405 := f294.keep Kh359
      have f406 := f405.keep Kh376
      refine Ow.callVirtual (pc' := 55) (W := 0) (k' := 8) (n' := 15) (argsL := [(.ref r361)]) (rest := []) (K := "java/lang/String") B at_52 (w88 hw) (w89 hw) (w91 hw) (w91 hw) (w90 hw) (w6 hw) (w92 hw) f406 (con_equals_58 hw G GS (pa0 := r285) (pa1 := r361) (pa2 := r286) (pa3 := r362) (px0 := y288) (px1 := y364) (pk0 := k287) (pk1 := k363) o394 f396 f398 f399 f400 f401 f403 f404 (by omega) (by omega) (by omega) (by omega) (by omega) c292 c368) pd12 ?_
      intro vq407 h408 S409 q407 zh408
      rcases q407 with q407 | q407
      · obtain ⟨rfl, rfl, c410, rfl⟩ := q407
        refine Ow.Go.norm (S' := [r362, r361, r286, r285]) (st' := [(.int (1 : Int32))]) (fun _ q => List.mem_append_right _ q) rfl ?_
        refine Ow.istore (pc' := 57) (Ls' := #[.val (.int x0), .val (.int x1), .val (.int x2), .val (.int x3), .val (.int x4), .val (.ref r285), .val (.ref r361), .val (.ref r378), .val (.ref r379), .val (.int (1 : Int32))]) B at_55 ?_
        refine Ow.aload (pc' := 59) B at_57 ?_
        refine Ow.Go.old (fun o411 => ?_)
        refine Ow.callFace (pc' := 64) (W := 0) (k' := 8) (n' := 15) (argsL := []) (rest := []) (K := "java/util/ImmutableCollections$Set12") B at_59 (w99 hw) (w100 hw) (w101 hw) (w102 hw) (w103 hw) (w104 hw) (w105 hw) (w106 hw) (w38 hw) (w107 hw) f383 (con_size_16 hw G GS (pa0 := r379) o411 f385 (by omega)) pd13 ?_
        intro vq412 h413 S414 q412 zh413
        obtain ⟨rfl, rfl, rfl⟩ := q412
        refine Ow.Go.norm (S' := [r362, r361, r286, r285]) (st' := [(.int (1 : Int32))]) (fun _ q => List.mem_append_right _ q) rfl ?_
        refine Ow.iconst (pc' := 65) (x := (1 : Int32)) B at_64 ?_
        refine Ow.icmpF (pc' := 68) B at_65 (by decide) ?_
        refine Ow.aload (pc' := 70) B at_68 ?_
        refine Ow.aload (pc' := 72) B at_70 ?_
        refine Ow.Go.old (fun o415 => ?_)
        refine Ow.callFace (pc' := 77) (W := 0) (k' := 8) (n' := 15) (argsL := [(.ref r285)]) (rest := []) (K := "java/util/ImmutableCollections$Set12") B at_72 (w108 hw) (w109 hw) (w110 hw) (w111 hw) (w112 hw) (w113 hw) (w114 hw) (w106 hw) (w38 hw) (w115 hw) f383 (con_contains_18 hw G GS (pa0 := r379) (pa1 := r285) o415 f384 f406 (by omega) (by omega)) pd12 ?_
        intro vq416 h417 S418 q416 zh417
        obtain ⟨rfl, rfl, rfl⟩ := q416
        refine Ow.Go.norm (S' := [r362, r361, r286, r285]) (st' := [(.int (1 : Int32))]) (fun _ q => List.mem_append_right _ q) rfl ?_
        refine Ow.ifF (pc' := 80) B at_77 (by decide) ?_
        refine Ow.aload (pc' := 82) B at_80 ?_
        refine Ow.aload (pc' := 84) B at_82 ?_
        refine Ow.Go.old (fun o419 => ?_)
        refine Ow.callFace (pc' := 89) (W := 0) (k' := 8) (n' := 15) (argsL := [(.ref r361)]) (rest := []) (K := "java/util/ImmutableCollections$Set12") B at_84 (w108 hw) (w109 hw) (w110 hw) (w111 hw) (w112 hw) (w113 hw) (w114 hw) (w106 hw) (w38 hw) (w115 hw) f383 (con_contains_61 hw G GS (pa0 := r379) (pa1 := r361) (pa2 := r285) (pa3 := r362) (pa4 := r286) (px0 := y364) (px1 := y288) (pk0 := k363) (pk1 := k287) o419 f384 f399 f400 f401 f406 f396 f398 f404 f403 (by omega) (by omega) (by omega) (by omega) (by omega) (by omega) (c410) (c410.symm) c368 c292) pd12 ?_
        intro vq420 h421 S422 q420 zh421
        obtain ⟨rfl, rfl, rfl⟩ := q420
        refine Ow.Go.norm (S' := [r362, r361, r286, r285]) (st' := [(.int (1 : Int32))]) (fun _ q => List.mem_append_right _ q) rfl ?_
        refine Ow.iload (pc' := 91) B at_89 ?_
        refine Ow.icmpF (pc' := 94) B at_91 (by decide) ?_
        refine Ow.iconst (pc' := 95) (x := (1 : Int32)) B at_94 ?_
        refine Ow.goto (pc' := 99) B at_95 ?_
        exact Ow.retI (S' := []) (t := .boolean) B at_99 (rfl)
      · obtain ⟨rfl, rfl, c423, rfl⟩ := q407
        refine Ow.Go.norm (S' := [r362, r361, r286, r285]) (st' := [(.int (0 : Int32))]) (fun _ q => List.mem_append_right _ q) rfl ?_
        refine Ow.istore (pc' := 57) (Ls' := #[.val (.int x0), .val (.int x1), .val (.int x2), .val (.int x3), .val (.int x4), .val (.ref r285), .val (.ref r361), .val (.ref r378), .val (.ref r379), .val (.int (0 : Int32))]) B at_55 ?_
        refine Ow.aload (pc' := 59) B at_57 ?_
        refine Ow.Go.old (fun o424 => ?_)
        refine Ow.callFace (pc' := 64) (W := 0) (k' := 8) (n' := 15) (argsL := []) (rest := []) (K := "java/util/ImmutableCollections$Set12") B at_59 (w99 hw) (w100 hw) (w101 hw) (w102 hw) (w103 hw) (w104 hw) (w105 hw) (w106 hw) (w38 hw) (w107 hw) f383 (con_size_16 hw G GS (pa0 := r379) o424 f385 (by omega)) pd13 ?_
        intro vq425 h426 S427 q425 zh426
        obtain ⟨rfl, rfl, rfl⟩ := q425
        refine Ow.Go.norm (S' := [r362, r361, r286, r285]) (st' := [(.int (1 : Int32))]) (fun _ q => List.mem_append_right _ q) rfl ?_
        refine Ow.iconst (pc' := 65) (x := (1 : Int32)) B at_64 ?_
        refine Ow.icmpF (pc' := 68) B at_65 (by decide) ?_
        refine Ow.aload (pc' := 70) B at_68 ?_
        refine Ow.aload (pc' := 72) B at_70 ?_
        refine Ow.Go.old (fun o428 => ?_)
        refine Ow.callFace (pc' := 77) (W := 0) (k' := 8) (n' := 15) (argsL := [(.ref r285)]) (rest := []) (K := "java/util/ImmutableCollections$Set12") B at_72 (w108 hw) (w109 hw) (w110 hw) (w111 hw) (w112 hw) (w113 hw) (w114 hw) (w106 hw) (w38 hw) (w115 hw) f383 (con_contains_18 hw G GS (pa0 := r379) (pa1 := r285) o428 f384 f406 (by omega) (by omega)) pd12 ?_
        intro vq429 h430 S431 q429 zh430
        obtain ⟨rfl, rfl, rfl⟩ := q429
        refine Ow.Go.norm (S' := [r362, r361, r286, r285]) (st' := [(.int (1 : Int32))]) (fun _ q => List.mem_append_right _ q) rfl ?_
        refine Ow.ifF (pc' := 80) B at_77 (by decide) ?_
        refine Ow.aload (pc' := 82) B at_80 ?_
        refine Ow.aload (pc' := 84) B at_82 ?_
        refine Ow.Go.old (fun o432 => ?_)
        refine Ow.callFace (pc' := 89) (W := 0) (k' := 8) (n' := 15) (argsL := [(.ref r361)]) (rest := []) (K := "java/util/ImmutableCollections$Set12") B at_84 (w108 hw) (w109 hw) (w110 hw) (w111 hw) (w112 hw) (w113 hw) (w114 hw) (w106 hw) (w38 hw) (w115 hw) f383 (con_contains_64 hw G GS (pa0 := r379) (pa1 := r361) (pa2 := r285) (pa3 := r362) (pa4 := r286) (px0 := y364) (px1 := y288) (pk0 := k363) (pk1 := k287) o432 f384 f385 f399 f400 f401 f406 f396 f398 f404 f403 (by omega) (by omega) (by omega) (by omega) (by omega) (by omega) (by omega) (c423) (fun q => c423 q.symm) c368 c292) pd12 ?_
        intro vq433 h434 S435 q433 zh434
        obtain ⟨rfl, rfl, rfl⟩ := q433
        refine Ow.Go.norm (S' := [r362, r361, r286, r285]) (st' := [(.int (0 : Int32))]) (fun _ q => List.mem_append_right _ q) rfl ?_
        refine Ow.iload (pc' := 91) B at_89 ?_
        refine Ow.icmpF (pc' := 94) B at_91 (by decide) ?_
        refine Ow.iconst (pc' := 95) (x := (1 : Int32)) B at_94 ?_
        refine Ow.goto (pc' := 99) B at_95 ?_
        exact Ow.retI (S' := []) (t := .boolean) B at_99 (rfl)
    · refine Ow.iand (pc' := 17) (z := (2 : Int32)) (hz := hz16) B at_16 ?_
      refine Ow.iloadN (pc' := 18) B at_17 ?_
      refine Ow.iloadN (pc' := 19) B at_18 ?_
      refine Ow.Go.old (fun o436 => ?_)
      refine Ow.callStatic (pc' := 22) (W := 0) (k' := 6) (n' := 14) (argsL := [(.int (2 : Int32)), (.int x2), (.int x3)]) (rest := []) B at_19 (w0 hw) (w1 hw) (w2 hw) (w3 hw) (con_mk_37 hw G GS (px0 := x2) (px1 := x3) o436) pd2 ?_
      intro vq437 h438 S439 q437 zh438
      obtain ⟨r440, r441, k442, y443, y444, rfl, Kh438, c445, c446, c447, c448, c449, c450, c451, c452, br440, br441, n453, f454, f455, f456, f457, rfl⟩ := q437
      have lr440 : (r440 : Nat) < h438.size := f454.lt
      have lr441 : (r441 : Nat) < h438.size := f457.lt
      refine Ow.Go.norm (S' := [r441, r440, r286, r285]) (st' := [(.ref r440)]) (fun _ q => q) rfl ?_
      refine Ow.astore (pc' := 24) (Ls' := #[.val (.int x0), .val (.int x1), .val (.int x2), .val (.int x3), .val (.int x4), .val (.ref r285), .val (.ref r440), .unset, .unset, .unset]) B at_22 ?_
      refine Ow.aload (pc' := 26) B at_24 ?_
      refine Ow.Go.old (fun o458 => ?_)
      refine Ow.callStatic (pc' := 29) (W := 0) (k' := 8) (n' := 17) (argsL := [(.ref r285)]) (rest := []) B at_26 (w26 hw) (w27 hw) (w28 hw) (w29 hw) (con_upTo_11 hw G GS (pa0 := r285) o458) pd8 ?_
      intro vq459 h460 S461 q459 zh460
      obtain ⟨r462, r463, rfl, Kh460, br462, br463, n464, f465, f466, f467, f468, f469, rfl⟩ := q459
      have lr462 : (r462 : Nat) < h460.size := f465.lt
      have lr463 : (r463 : Nat) < h460.size := f467.lt
      refine Ow.Go.norm (S' := [r441, r440, r286, r285]) (st' := [(.ref r462)]) (fun _ q => List.mem_append_right _ q) rfl ?_
      refine Ow.astore (pc' := 31) (Ls' := #[.val (.int x0), .val (.int x1), .val (.int x2), .val (.int x3), .val (.int x4), .val (.ref r285), .val (.ref r440), .val (.ref r462), .unset, .unset]) B at_29 ?_
      refine Ow.aload (pc' := 33) B at_31 ?_
      refine Ow.Go.old (fun o470 => ?_)
      refine Ow.callVirtual (pc' := 36) (W := 0) (k' := 8) (n' := 17) (argsL := []) (rest := []) (K := "com/example/entitlement/entitlement/Scope") B at_33 (w78 hw) (w79 hw) (w81 hw) (w81 hw) (w80 hw) (w28 hw) (w82 hw) f465 (con_everySenior_12 hw G GS (pa0 := r462) (pa1 := r463) o470 f466 (by omega)) pd9 ?_
      intro vq471 h472 S473 q471 zh472
      obtain ⟨rfl, rfl, rfl⟩ := q471
      refine Ow.Go.norm (S' := [r441, r440, r286, r285]) (st' := [(.int (0 : Int32))]) (fun _ q => List.mem_append_right _ q) rfl ?_
      refine Ow.ifT (pc' := 41) B at_36 (by decide) ?_
      refine Ow.aload (pc' := 43) B at_41 ?_
      refine Ow.Go.old (fun o474 => ?_)
      refine Ow.callVirtual (pc' := 46) (W := 0) (k' := 8) (n' := 17) (argsL := []) (rest := []) (K := "com/example/entitlement/entitlement/Scope") B at_43 (w83 hw) (w84 hw) (w86 hw) (w86 hw) (w85 hw) (w28 hw) (w87 hw) f465 (con_bounds_13 hw G GS (pa0 := r462) (pa1 := r463) o474 f466 (by omega)) pd10 ?_
      intro vq475 h476 S477 q475 zh476
      obtain ⟨rfl, rfl, rfl⟩ := q475
      refine Ow.Go.norm (S' := [r441, r440, r286, r285]) (st' := [(.ref r463)]) (fun _ q => List.mem_append_right _ q) rfl ?_
      refine Ow.astore (pc' := 48) (Ls' := #[.val (.int x0), .val (.int x1), .val (.int x2), .val (.int x3), .val (.int x4), .val (.ref r285), .val (.ref r440), .val (.ref r462), .val (.ref r463), .unset]) B at_46 ?_
      refine Ow.aload (pc' := 50) B at_48 ?_
      refine Ow.aload (pc' := 52) B at_50 ?_
      refine Ow.Go.old (fun o478 => ?_)
      have f479 := f295.keep Kh438 Ow.nin0
      have f480 := f479.keep Kh460 Ow.nin0
      have f481 := f296.keep Kh438 Ow.nin0
      have f482 := f481.keep Kh460 Ow.nin0
      have f483 := f454.keep Kh460
      have f484 := f455.keep Kh460 Ow.nin0
      have f485 := f456.keep Kh460 Ow.nin0
      have f486 := f297.keep Kh438 Ow.nin0
      have f487 := f486.keep Kh460 Ow.nin0
      have f488 := f457.keep Kh460 Ow.nin0
      have f489 := f294.keep Kh438
      have f490 := f489.keep Kh460
      refine Ow.callVirtual (pc' := 55) (W := 0) (k' := 8) (n' := 17) (argsL := [(.ref r440)]) (rest := []) (K := "java/lang/String") B at_52 (w88 hw) (w89 hw) (w91 hw) (w91 hw) (w90 hw) (w6 hw) (w92 hw) f490 (con_equals_66 hw G GS (pa0 := r285) (pa1 := r440) (pa2 := r286) (pa3 := r441) (px0 := y288) (px1 := y443) (px2 := y444) (pk0 := k287) (pk1 := k442) o478 f480 f482 f483 f484 f485 f487 f488 (by omega) (by omega) (by omega) (by omega) (by omega) c292 c451 c452) pd12 ?_
      intro vq491 h492 S493 q491 zh492
      obtain ⟨rfl, rfl, rfl⟩ := q491
      refine Ow.Go.norm (S' := [r441, r440, r286, r285]) (st' := [(.int (0 : Int32))]) (fun _ q => List.mem_append_right _ q) rfl ?_
      refine Ow.istore (pc' := 57) (Ls' := #[.val (.int x0), .val (.int x1), .val (.int x2), .val (.int x3), .val (.int x4), .val (.ref r285), .val (.ref r440), .val (.ref r462), .val (.ref r463), .val (.int (0 : Int32))]) B at_55 ?_
      refine Ow.aload (pc' := 59) B at_57 ?_
      refine Ow.Go.old (fun o494 => ?_)
      refine Ow.callFace (pc' := 64) (W := 0) (k' := 8) (n' := 17) (argsL := []) (rest := []) (K := "java/util/ImmutableCollections$Set12") B at_59 (w99 hw) (w100 hw) (w101 hw) (w102 hw) (w103 hw) (w104 hw) (w105 hw) (w106 hw) (w38 hw) (w107 hw) f467 (con_size_16 hw G GS (pa0 := r463) o494 f469 (by omega)) pd13 ?_
      intro vq495 h496 S497 q495 zh496
      obtain ⟨rfl, rfl, rfl⟩ := q495
      refine Ow.Go.norm (S' := [r441, r440, r286, r285]) (st' := [(.int (1 : Int32))]) (fun _ q => List.mem_append_right _ q) rfl ?_
      refine Ow.iconst (pc' := 65) (x := (1 : Int32)) B at_64 ?_
      refine Ow.icmpF (pc' := 68) B at_65 (by decide) ?_
      refine Ow.aload (pc' := 70) B at_68 ?_
      refine Ow.aload (pc' := 72) B at_70 ?_
      refine Ow.Go.old (fun o498 => ?_)
      refine Ow.callFace (pc' := 77) (W := 0) (k' := 8) (n' := 17) (argsL := [(.ref r285)]) (rest := []) (K := "java/util/ImmutableCollections$Set12") B at_72 (w108 hw) (w109 hw) (w110 hw) (w111 hw) (w112 hw) (w113 hw) (w114 hw) (w106 hw) (w38 hw) (w115 hw) f467 (con_contains_18 hw G GS (pa0 := r463) (pa1 := r285) o498 f468 f490 (by omega) (by omega)) pd12 ?_
      intro vq499 h500 S501 q499 zh500
      obtain ⟨rfl, rfl, rfl⟩ := q499
      refine Ow.Go.norm (S' := [r441, r440, r286, r285]) (st' := [(.int (1 : Int32))]) (fun _ q => List.mem_append_right _ q) rfl ?_
      refine Ow.ifF (pc' := 80) B at_77 (by decide) ?_
      refine Ow.aload (pc' := 82) B at_80 ?_
      refine Ow.aload (pc' := 84) B at_82 ?_
      refine Ow.Go.old (fun o502 => ?_)
      refine Ow.callFace (pc' := 89) (W := 0) (k' := 8) (n' := 17) (argsL := [(.ref r440)]) (rest := []) (K := "java/util/ImmutableCollections$Set12") B at_84 (w108 hw) (w109 hw) (w110 hw) (w111 hw) (w112 hw) (w113 hw) (w114 hw) (w106 hw) (w38 hw) (w115 hw) f467 (con_contains_69 hw G GS (pa0 := r463) (pa1 := r440) (pa2 := r285) (pa3 := r441) (pa4 := r286) (px0 := y443) (px1 := y444) (px2 := y288) (pk0 := k442) (pk1 := k287) o502 f468 f469 f483 f484 f485 f490 f480 f482 f488 f487 (by omega) (by omega) (by omega) (by omega) (by omega) (by omega) (by omega) c451 c452 c292) pd12 ?_
      intro vq503 h504 S505 q503 zh504
      obtain ⟨rfl, rfl, rfl⟩ := q503
      refine Ow.Go.norm (S' := [r441, r440, r286, r285]) (st' := [(.int (0 : Int32))]) (fun _ q => List.mem_append_right _ q) rfl ?_
      refine Ow.iload (pc' := 91) B at_89 ?_
      refine Ow.icmpF (pc' := 94) B at_91 (by decide) ?_
      refine Ow.iconst (pc' := 95) (x := (1 : Int32)) B at_94 ?_
      refine Ow.goto (pc' := 99) B at_95 ?_
      exact Ow.retI (S' := []) (t := .boolean) B at_99 (rfl)
    · refine Ow.iand (pc' := 17) (z := (3 : Int32)) (hz := hz16) B at_16 ?_
      refine Ow.iloadN (pc' := 18) B at_17 ?_
      refine Ow.iloadN (pc' := 19) B at_18 ?_
      refine Ow.Go.old (fun o506 => ?_)
      refine Ow.callStatic (pc' := 22) (W := 0) (k' := 6) (n' := 16) (argsL := [(.int (3 : Int32)), (.int x2), (.int x3)]) (rest := []) B at_19 (w0 hw) (w1 hw) (w2 hw) (w3 hw) (con_mk_48 hw G GS (px0 := x2) (px1 := x3) o506) pd2 ?_
      intro vq507 h508 S509 q507 zh508
      obtain ⟨r510, r511, k512, y513, y514, y515, rfl, Kh508, c516, c517, c518, c519, c520, c521, c522, c523, c524, c525, c526, c527, br510, br511, n528, f529, f530, f531, f532, rfl⟩ := q507
      have lr510 : (r510 : Nat) < h508.size := f529.lt
      have lr511 : (r511 : Nat) < h508.size := f532.lt
      refine Ow.Go.norm (S' := [r511, r510, r286, r285]) (st' := [(.ref r510)]) (fun _ q => q) rfl ?_
      refine Ow.astore (pc' := 24) (Ls' := #[.val (.int x0), .val (.int x1), .val (.int x2), .val (.int x3), .val (.int x4), .val (.ref r285), .val (.ref r510), .unset, .unset, .unset]) B at_22 ?_
      refine Ow.aload (pc' := 26) B at_24 ?_
      refine Ow.Go.old (fun o533 => ?_)
      refine Ow.callStatic (pc' := 29) (W := 0) (k' := 8) (n' := 19) (argsL := [(.ref r285)]) (rest := []) B at_26 (w26 hw) (w27 hw) (w28 hw) (w29 hw) (con_upTo_11 hw G GS (pa0 := r285) o533) pd8 ?_
      intro vq534 h535 S536 q534 zh535
      obtain ⟨r537, r538, rfl, Kh535, br537, br538, n539, f540, f541, f542, f543, f544, rfl⟩ := q534
      have lr537 : (r537 : Nat) < h535.size := f540.lt
      have lr538 : (r538 : Nat) < h535.size := f542.lt
      refine Ow.Go.norm (S' := [r511, r510, r286, r285]) (st' := [(.ref r537)]) (fun _ q => List.mem_append_right _ q) rfl ?_
      refine Ow.astore (pc' := 31) (Ls' := #[.val (.int x0), .val (.int x1), .val (.int x2), .val (.int x3), .val (.int x4), .val (.ref r285), .val (.ref r510), .val (.ref r537), .unset, .unset]) B at_29 ?_
      refine Ow.aload (pc' := 33) B at_31 ?_
      refine Ow.Go.old (fun o545 => ?_)
      refine Ow.callVirtual (pc' := 36) (W := 0) (k' := 8) (n' := 19) (argsL := []) (rest := []) (K := "com/example/entitlement/entitlement/Scope") B at_33 (w78 hw) (w79 hw) (w81 hw) (w81 hw) (w80 hw) (w28 hw) (w82 hw) f540 (con_everySenior_12 hw G GS (pa0 := r537) (pa1 := r538) o545 f541 (by omega)) pd9 ?_
      intro vq546 h547 S548 q546 zh547
      obtain ⟨rfl, rfl, rfl⟩ := q546
      refine Ow.Go.norm (S' := [r511, r510, r286, r285]) (st' := [(.int (0 : Int32))]) (fun _ q => List.mem_append_right _ q) rfl ?_
      refine Ow.ifT (pc' := 41) B at_36 (by decide) ?_
      refine Ow.aload (pc' := 43) B at_41 ?_
      refine Ow.Go.old (fun o549 => ?_)
      refine Ow.callVirtual (pc' := 46) (W := 0) (k' := 8) (n' := 19) (argsL := []) (rest := []) (K := "com/example/entitlement/entitlement/Scope") B at_43 (w83 hw) (w84 hw) (w86 hw) (w86 hw) (w85 hw) (w28 hw) (w87 hw) f540 (con_bounds_13 hw G GS (pa0 := r537) (pa1 := r538) o549 f541 (by omega)) pd10 ?_
      intro vq550 h551 S552 q550 zh551
      obtain ⟨rfl, rfl, rfl⟩ := q550
      refine Ow.Go.norm (S' := [r511, r510, r286, r285]) (st' := [(.ref r538)]) (fun _ q => List.mem_append_right _ q) rfl ?_
      refine Ow.astore (pc' := 48) (Ls' := #[.val (.int x0), .val (.int x1), .val (.int x2), .val (.int x3), .val (.int x4), .val (.ref r285), .val (.ref r510), .val (.ref r537), .val (.ref r538), .unset]) B at_46 ?_
      refine Ow.aload (pc' := 50) B at_48 ?_
      refine Ow.aload (pc' := 52) B at_50 ?_
      refine Ow.Go.old (fun o553 => ?_)
      have f554 := f295.keep Kh508 Ow.nin0
      have f555 := f554.keep Kh535 Ow.nin0
      have f556 := f296.keep Kh508 Ow.nin0
      have f557 := f556.keep Kh535 Ow.nin0
      have f558 := f529.keep Kh535
      have f559 := f530.keep Kh535 Ow.nin0
      have f560 := f531.keep Kh535 Ow.nin0
      have f561 := f297.keep Kh508 Ow.nin0
      have f562 := f561.keep Kh535 Ow.nin0
      have f563 := f532.keep Kh535 Ow.nin0
      have f564 := f294.keep Kh508
      have f565 := f564.keep Kh535
      refine Ow.callVirtual (pc' := 55) (W := 0) (k' := 8) (n' := 19) (argsL := [(.ref r510)]) (rest := []) (K := "java/lang/String") B at_52 (w88 hw) (w89 hw) (w91 hw) (w91 hw) (w90 hw) (w6 hw) (w92 hw) f565 (con_equals_71 hw G GS (pa0 := r285) (pa1 := r510) (pa2 := r286) (pa3 := r511) (px0 := y288) (px1 := y513) (px2 := y514) (px3 := y515) (pk0 := k287) (pk1 := k512) o553 f555 f557 f558 f559 f560 f562 f563 (by omega) (by omega) (by omega) (by omega) (by omega) c292 c525 c526 c527) pd12 ?_
      intro vq566 h567 S568 q566 zh567
      obtain ⟨rfl, rfl, rfl⟩ := q566
      refine Ow.Go.norm (S' := [r511, r510, r286, r285]) (st' := [(.int (0 : Int32))]) (fun _ q => List.mem_append_right _ q) rfl ?_
      refine Ow.istore (pc' := 57) (Ls' := #[.val (.int x0), .val (.int x1), .val (.int x2), .val (.int x3), .val (.int x4), .val (.ref r285), .val (.ref r510), .val (.ref r537), .val (.ref r538), .val (.int (0 : Int32))]) B at_55 ?_
      refine Ow.aload (pc' := 59) B at_57 ?_
      refine Ow.Go.old (fun o569 => ?_)
      refine Ow.callFace (pc' := 64) (W := 0) (k' := 8) (n' := 19) (argsL := []) (rest := []) (K := "java/util/ImmutableCollections$Set12") B at_59 (w99 hw) (w100 hw) (w101 hw) (w102 hw) (w103 hw) (w104 hw) (w105 hw) (w106 hw) (w38 hw) (w107 hw) f542 (con_size_16 hw G GS (pa0 := r538) o569 f544 (by omega)) pd13 ?_
      intro vq570 h571 S572 q570 zh571
      obtain ⟨rfl, rfl, rfl⟩ := q570
      refine Ow.Go.norm (S' := [r511, r510, r286, r285]) (st' := [(.int (1 : Int32))]) (fun _ q => List.mem_append_right _ q) rfl ?_
      refine Ow.iconst (pc' := 65) (x := (1 : Int32)) B at_64 ?_
      refine Ow.icmpF (pc' := 68) B at_65 (by decide) ?_
      refine Ow.aload (pc' := 70) B at_68 ?_
      refine Ow.aload (pc' := 72) B at_70 ?_
      refine Ow.Go.old (fun o573 => ?_)
      refine Ow.callFace (pc' := 77) (W := 0) (k' := 8) (n' := 19) (argsL := [(.ref r285)]) (rest := []) (K := "java/util/ImmutableCollections$Set12") B at_72 (w108 hw) (w109 hw) (w110 hw) (w111 hw) (w112 hw) (w113 hw) (w114 hw) (w106 hw) (w38 hw) (w115 hw) f542 (con_contains_18 hw G GS (pa0 := r538) (pa1 := r285) o573 f543 f565 (by omega) (by omega)) pd12 ?_
      intro vq574 h575 S576 q574 zh575
      obtain ⟨rfl, rfl, rfl⟩ := q574
      refine Ow.Go.norm (S' := [r511, r510, r286, r285]) (st' := [(.int (1 : Int32))]) (fun _ q => List.mem_append_right _ q) rfl ?_
      refine Ow.ifF (pc' := 80) B at_77 (by decide) ?_
      refine Ow.aload (pc' := 82) B at_80 ?_
      refine Ow.aload (pc' := 84) B at_82 ?_
      refine Ow.Go.old (fun o577 => ?_)
      refine Ow.callFace (pc' := 89) (W := 0) (k' := 8) (n' := 19) (argsL := [(.ref r510)]) (rest := []) (K := "java/util/ImmutableCollections$Set12") B at_84 (w108 hw) (w109 hw) (w110 hw) (w111 hw) (w112 hw) (w113 hw) (w114 hw) (w106 hw) (w38 hw) (w115 hw) f542 (con_contains_74 hw G GS (pa0 := r538) (pa1 := r510) (pa2 := r285) (pa3 := r511) (pa4 := r286) (px0 := y513) (px1 := y514) (px2 := y515) (px3 := y288) (pk0 := k512) (pk1 := k287) o577 f543 f544 f558 f559 f560 f565 f555 f557 f563 f562 (by omega) (by omega) (by omega) (by omega) (by omega) (by omega) (by omega) c525 c526 c527 c292) pd12 ?_
      intro vq578 h579 S580 q578 zh579
      obtain ⟨rfl, rfl, rfl⟩ := q578
      refine Ow.Go.norm (S' := [r511, r510, r286, r285]) (st' := [(.int (0 : Int32))]) (fun _ q => List.mem_append_right _ q) rfl ?_
      refine Ow.iload (pc' := 91) B at_89 ?_
      refine Ow.icmpF (pc' := 94) B at_91 (by decide) ?_
      refine Ow.iconst (pc' := 95) (x := (1 : Int32)) B at_94 ?_
      refine Ow.goto (pc' := 99) B at_95 ?_
      exact Ow.retI (S' := []) (t := .boolean) B at_99 (rfl)
  · refine Ow.iand (pc' := 4) (z := (2 : Int32)) (hz := hz3) B at_3 ?_
    refine Ow.iloadN (pc' := 5) B at_4 ?_
    refine Ow.iloadN (pc' := 6) B at_5 ?_
    refine Ow.Go.old (fun o581 => ?_)
    refine Ow.callStatic (pc' := 9) (W := 0) (k' := 3) (n' := 8) (argsL := [(.int (2 : Int32)), (.int x0), (.int x1)]) (rest := []) B at_6 (w0 hw) (w1 hw) (w2 hw) (w3 hw) (con_mk_37 hw G GS (px0 := x0) (px1 := x1) o581) pd2 ?_
    intro vq582 h583 S584 q582 zh583
    obtain ⟨r585, r586, k587, y588, y589, rfl, Kh583, c590, c591, c592, c593, c594, c595, c596, c597, br585, br586, n598, f599, f600, f601, f602, rfl⟩ := q582
    have lr585 : (r585 : Nat) < h583.size := f599.lt
    have lr586 : (r586 : Nat) < h583.size := f602.lt
    refine Ow.Go.norm (S' := [r586, r585]) (st' := [(.ref r585)]) (fun _ q => q) rfl ?_
    refine Ow.astore (pc' := 11) (Ls' := #[.val (.int x0), .val (.int x1), .val (.int x2), .val (.int x3), .val (.int x4), .val (.ref r585), .unset, .unset, .unset, .unset]) B at_9 ?_
    refine Ow.iload (pc' := 13) B at_11 ?_
    refine Ow.iconst (pc' := 14) (x := (2 : Int32)) B at_13 ?_
    refine Ow.ishr (pc' := 15) (z := (x4 >>> ((2 : Int32) &&& 31))) B at_14 ?_
    refine Ow.iconst (pc' := 16) (x := (3 : Int32)) B at_15 ?_
    rcases Ow.and3 (x4 >>> ((2 : Int32) &&& 31)) with hz16 | hz16 | hz16 | hz16
    · refine Ow.iand (pc' := 17) (z := (0 : Int32)) (hz := hz16) B at_16 ?_
      refine Ow.iloadN (pc' := 18) B at_17 ?_
      refine Ow.iloadN (pc' := 19) B at_18 ?_
      refine Ow.Go.old (fun o603 => ?_)
      refine Ow.callStatic (pc' := 22) (W := 0) (k' := 9) (n' := 20) (argsL := [(.int (0 : Int32)), (.int x2), (.int x3)]) (rest := []) B at_19 (w0 hw) (w1 hw) (w2 hw) (w3 hw) (con_mk_3 hw G GS (px0 := x2) (px1 := x3) o603) pd2 ?_
      intro vq604 h605 S606 q604 zh605
      obtain ⟨r607, r608, k609, rfl, Kh605, br607, f610, f611, f612, f613, rfl⟩ := q604
      have lr607 : (r607 : Nat) < h605.size := f610.lt
      have lr608 : (r608 : Nat) < h605.size := f613.lt
      refine Ow.Go.norm (S' := [r607, r586, r585]) (st' := [(.ref r607)]) (fun _ q => q) rfl ?_
      refine Ow.astore (pc' := 24) (Ls' := #[.val (.int x0), .val (.int x1), .val (.int x2), .val (.int x3), .val (.int x4), .val (.ref r585), .val (.ref r607), .unset, .unset, .unset]) B at_22 ?_
      refine Ow.aload (pc' := 26) B at_24 ?_
      refine Ow.Go.old (fun o614 => ?_)
      refine Ow.callStatic (pc' := 29) (W := 0) (k' := 11) (n' := 23) (argsL := [(.ref r585)]) (rest := []) B at_26 (w26 hw) (w27 hw) (w28 hw) (w29 hw) (con_upTo_11 hw G GS (pa0 := r585) o614) pd8 ?_
      intro vq615 h616 S617 q615 zh616
      obtain ⟨r618, r619, rfl, Kh616, br618, br619, n620, f621, f622, f623, f624, f625, rfl⟩ := q615
      have lr618 : (r618 : Nat) < h616.size := f621.lt
      have lr619 : (r619 : Nat) < h616.size := f623.lt
      refine Ow.Go.norm (S' := [r607, r586, r585]) (st' := [(.ref r618)]) (fun _ q => List.mem_append_right _ q) rfl ?_
      refine Ow.astore (pc' := 31) (Ls' := #[.val (.int x0), .val (.int x1), .val (.int x2), .val (.int x3), .val (.int x4), .val (.ref r585), .val (.ref r607), .val (.ref r618), .unset, .unset]) B at_29 ?_
      refine Ow.aload (pc' := 33) B at_31 ?_
      refine Ow.Go.old (fun o626 => ?_)
      refine Ow.callVirtual (pc' := 36) (W := 0) (k' := 11) (n' := 23) (argsL := []) (rest := []) (K := "com/example/entitlement/entitlement/Scope") B at_33 (w78 hw) (w79 hw) (w81 hw) (w81 hw) (w80 hw) (w28 hw) (w82 hw) f621 (con_everySenior_12 hw G GS (pa0 := r618) (pa1 := r619) o626 f622 (by omega)) pd9 ?_
      intro vq627 h628 S629 q627 zh628
      obtain ⟨rfl, rfl, rfl⟩ := q627
      refine Ow.Go.norm (S' := [r607, r586, r585]) (st' := [(.int (0 : Int32))]) (fun _ q => List.mem_append_right _ q) rfl ?_
      refine Ow.ifT (pc' := 41) B at_36 (by decide) ?_
      refine Ow.aload (pc' := 43) B at_41 ?_
      refine Ow.Go.old (fun o630 => ?_)
      refine Ow.callVirtual (pc' := 46) (W := 0) (k' := 11) (n' := 23) (argsL := []) (rest := []) (K := "com/example/entitlement/entitlement/Scope") B at_43 (w83 hw) (w84 hw) (w86 hw) (w86 hw) (w85 hw) (w28 hw) (w87 hw) f621 (con_bounds_13 hw G GS (pa0 := r618) (pa1 := r619) o630 f622 (by omega)) pd10 ?_
      intro vq631 h632 S633 q631 zh632
      obtain ⟨rfl, rfl, rfl⟩ := q631
      refine Ow.Go.norm (S' := [r607, r586, r585]) (st' := [(.ref r619)]) (fun _ q => List.mem_append_right _ q) rfl ?_
      refine Ow.astore (pc' := 48) (Ls' := #[.val (.int x0), .val (.int x1), .val (.int x2), .val (.int x3), .val (.int x4), .val (.ref r585), .val (.ref r607), .val (.ref r618), .val (.ref r619), .unset]) B at_46 ?_
      refine Ow.aload (pc' := 50) B at_48 ?_
      refine Ow.aload (pc' := 52) B at_50 ?_
      refine Ow.Go.old (fun o634 => ?_)
      have f635 := f600.keep Kh605 Ow.nin0
      have f636 := f635.keep Kh616 Ow.nin0
      have f637 := f601.keep Kh605 Ow.nin0
      have f638 := f637.keep Kh616 Ow.nin0
      have f639 := f610.keep Kh616
      have f640 := f611.keep Kh616 Ow.nin0
      have f641 := f612.keep Kh616 Ow.nin0
      have f642 := f602.keep Kh605 Ow.nin0
      have f643 := f642.keep Kh616 Ow.nin0
      have f644 := f613.keep Kh616 Ow.nin0
      have f645 := f599.keep Kh605
      have f646 := f645.keep Kh616
      refine Ow.callVirtual (pc' := 55) (W := 0) (k' := 11) (n' := 23) (argsL := [(.ref r607)]) (rest := []) (K := "java/lang/String") B at_52 (w88 hw) (w89 hw) (w91 hw) (w91 hw) (w90 hw) (w6 hw) (w92 hw) f646 (con_equals_75 hw G GS (pa0 := r585) (pa1 := r607) (pa2 := r586) (pa3 := r608) (px0 := y588) (px1 := y589) (pk0 := k587) (pk1 := k609) o634 f636 f638 f639 f640 f641 f643 f644 (by omega) (by omega) (by omega) (by omega) c596 c597) pd12 ?_
      intro vq647 h648 S649 q647 zh648
      obtain ⟨rfl, rfl, rfl⟩ := q647
      refine Ow.Go.norm (S' := [r607, r586, r585]) (st' := [(.int (0 : Int32))]) (fun _ q => List.mem_append_right _ q) rfl ?_
      refine Ow.istore (pc' := 57) (Ls' := #[.val (.int x0), .val (.int x1), .val (.int x2), .val (.int x3), .val (.int x4), .val (.ref r585), .val (.ref r607), .val (.ref r618), .val (.ref r619), .val (.int (0 : Int32))]) B at_55 ?_
      refine Ow.aload (pc' := 59) B at_57 ?_
      refine Ow.Go.old (fun o650 => ?_)
      refine Ow.callFace (pc' := 64) (W := 0) (k' := 11) (n' := 23) (argsL := []) (rest := []) (K := "java/util/ImmutableCollections$Set12") B at_59 (w99 hw) (w100 hw) (w101 hw) (w102 hw) (w103 hw) (w104 hw) (w105 hw) (w106 hw) (w38 hw) (w107 hw) f623 (con_size_16 hw G GS (pa0 := r619) o650 f625 (by omega)) pd13 ?_
      intro vq651 h652 S653 q651 zh652
      obtain ⟨rfl, rfl, rfl⟩ := q651
      refine Ow.Go.norm (S' := [r607, r586, r585]) (st' := [(.int (1 : Int32))]) (fun _ q => List.mem_append_right _ q) rfl ?_
      refine Ow.iconst (pc' := 65) (x := (1 : Int32)) B at_64 ?_
      refine Ow.icmpF (pc' := 68) B at_65 (by decide) ?_
      refine Ow.aload (pc' := 70) B at_68 ?_
      refine Ow.aload (pc' := 72) B at_70 ?_
      refine Ow.Go.old (fun o654 => ?_)
      refine Ow.callFace (pc' := 77) (W := 0) (k' := 11) (n' := 23) (argsL := [(.ref r585)]) (rest := []) (K := "java/util/ImmutableCollections$Set12") B at_72 (w108 hw) (w109 hw) (w110 hw) (w111 hw) (w112 hw) (w113 hw) (w114 hw) (w106 hw) (w38 hw) (w115 hw) f623 (con_contains_18 hw G GS (pa0 := r619) (pa1 := r585) o654 f624 f646 (by omega) (by omega)) pd12 ?_
      intro vq655 h656 S657 q655 zh656
      obtain ⟨rfl, rfl, rfl⟩ := q655
      refine Ow.Go.norm (S' := [r607, r586, r585]) (st' := [(.int (1 : Int32))]) (fun _ q => List.mem_append_right _ q) rfl ?_
      refine Ow.ifF (pc' := 80) B at_77 (by decide) ?_
      refine Ow.aload (pc' := 82) B at_80 ?_
      refine Ow.aload (pc' := 84) B at_82 ?_
      refine Ow.Go.old (fun o658 => ?_)
      refine Ow.callFace (pc' := 89) (W := 0) (k' := 11) (n' := 23) (argsL := [(.ref r607)]) (rest := []) (K := "java/util/ImmutableCollections$Set12") B at_84 (w108 hw) (w109 hw) (w110 hw) (w111 hw) (w112 hw) (w113 hw) (w114 hw) (w106 hw) (w38 hw) (w115 hw) f623 (con_contains_77 hw G GS (pa0 := r619) (pa1 := r607) (pa2 := r585) (pa3 := r608) (pa4 := r586) (px0 := y588) (px1 := y589) (pk0 := k609) (pk1 := k587) o658 f624 f625 f639 f640 f641 f646 f636 f638 f644 f643 (by omega) (by omega) (by omega) (by omega) (by omega) (by omega) c596 c597) pd12 ?_
      intro vq659 h660 S661 q659 zh660
      obtain ⟨rfl, rfl, rfl⟩ := q659
      refine Ow.Go.norm (S' := [r607, r586, r585]) (st' := [(.int (0 : Int32))]) (fun _ q => List.mem_append_right _ q) rfl ?_
      refine Ow.iload (pc' := 91) B at_89 ?_
      refine Ow.icmpF (pc' := 94) B at_91 (by decide) ?_
      refine Ow.iconst (pc' := 95) (x := (1 : Int32)) B at_94 ?_
      refine Ow.goto (pc' := 99) B at_95 ?_
      exact Ow.retI (S' := []) (t := .boolean) B at_99 (rfl)
    · refine Ow.iand (pc' := 17) (z := (1 : Int32)) (hz := hz16) B at_16 ?_
      refine Ow.iloadN (pc' := 18) B at_17 ?_
      refine Ow.iloadN (pc' := 19) B at_18 ?_
      refine Ow.Go.old (fun o662 => ?_)
      refine Ow.callStatic (pc' := 22) (W := 0) (k' := 6) (n' := 14) (argsL := [(.int (1 : Int32)), (.int x2), (.int x3)]) (rest := []) B at_19 (w0 hw) (w1 hw) (w2 hw) (w3 hw) (con_mk_26 hw G GS (px0 := x2) (px1 := x3) o662) pd2 ?_
      intro vq663 h664 S665 q663 zh664
      obtain ⟨r666, r667, k668, y669, rfl, Kh664, c670, c671, c672, c673, br666, br667, n674, f675, f676, f677, f678, rfl⟩ := q663
      have lr666 : (r666 : Nat) < h664.size := f675.lt
      have lr667 : (r667 : Nat) < h664.size := f678.lt
      refine Ow.Go.norm (S' := [r667, r666, r586, r585]) (st' := [(.ref r666)]) (fun _ q => q) rfl ?_
      refine Ow.astore (pc' := 24) (Ls' := #[.val (.int x0), .val (.int x1), .val (.int x2), .val (.int x3), .val (.int x4), .val (.ref r585), .val (.ref r666), .unset, .unset, .unset]) B at_22 ?_
      refine Ow.aload (pc' := 26) B at_24 ?_
      refine Ow.Go.old (fun o679 => ?_)
      refine Ow.callStatic (pc' := 29) (W := 0) (k' := 8) (n' := 17) (argsL := [(.ref r585)]) (rest := []) B at_26 (w26 hw) (w27 hw) (w28 hw) (w29 hw) (con_upTo_11 hw G GS (pa0 := r585) o679) pd8 ?_
      intro vq680 h681 S682 q680 zh681
      obtain ⟨r683, r684, rfl, Kh681, br683, br684, n685, f686, f687, f688, f689, f690, rfl⟩ := q680
      have lr683 : (r683 : Nat) < h681.size := f686.lt
      have lr684 : (r684 : Nat) < h681.size := f688.lt
      refine Ow.Go.norm (S' := [r667, r666, r586, r585]) (st' := [(.ref r683)]) (fun _ q => List.mem_append_right _ q) rfl ?_
      refine Ow.astore (pc' := 31) (Ls' := #[.val (.int x0), .val (.int x1), .val (.int x2), .val (.int x3), .val (.int x4), .val (.ref r585), .val (.ref r666), .val (.ref r683), .unset, .unset]) B at_29 ?_
      refine Ow.aload (pc' := 33) B at_31 ?_
      refine Ow.Go.old (fun o691 => ?_)
      refine Ow.callVirtual (pc' := 36) (W := 0) (k' := 8) (n' := 17) (argsL := []) (rest := []) (K := "com/example/entitlement/entitlement/Scope") B at_33 (w78 hw) (w79 hw) (w81 hw) (w81 hw) (w80 hw) (w28 hw) (w82 hw) f686 (con_everySenior_12 hw G GS (pa0 := r683) (pa1 := r684) o691 f687 (by omega)) pd9 ?_
      intro vq692 h693 S694 q692 zh693
      obtain ⟨rfl, rfl, rfl⟩ := q692
      refine Ow.Go.norm (S' := [r667, r666, r586, r585]) (st' := [(.int (0 : Int32))]) (fun _ q => List.mem_append_right _ q) rfl ?_
      refine Ow.ifT (pc' := 41) B at_36 (by decide) ?_
      refine Ow.aload (pc' := 43) B at_41 ?_
      refine Ow.Go.old (fun o695 => ?_)
      refine Ow.callVirtual (pc' := 46) (W := 0) (k' := 8) (n' := 17) (argsL := []) (rest := []) (K := "com/example/entitlement/entitlement/Scope") B at_43 (w83 hw) (w84 hw) (w86 hw) (w86 hw) (w85 hw) (w28 hw) (w87 hw) f686 (con_bounds_13 hw G GS (pa0 := r683) (pa1 := r684) o695 f687 (by omega)) pd10 ?_
      intro vq696 h697 S698 q696 zh697
      obtain ⟨rfl, rfl, rfl⟩ := q696
      refine Ow.Go.norm (S' := [r667, r666, r586, r585]) (st' := [(.ref r684)]) (fun _ q => List.mem_append_right _ q) rfl ?_
      refine Ow.astore (pc' := 48) (Ls' := #[.val (.int x0), .val (.int x1), .val (.int x2), .val (.int x3), .val (.int x4), .val (.ref r585), .val (.ref r666), .val (.ref r683), .val (.ref r684), .unset]) B at_46 ?_
      refine Ow.aload (pc' := 50) B at_48 ?_
      refine Ow.aload (pc' := 52) B at_50 ?_
      refine Ow.Go.old (fun o699 => ?_)
      have f700 := f600.keep Kh664 Ow.nin0
      have f701 := f700.keep Kh681 Ow.nin0
      have f702 := f601.keep Kh664 Ow.nin0
      have f703 := f702.keep Kh681 Ow.nin0
      have f704 := f675.keep Kh681
      have f705 := f676.keep Kh681 Ow.nin0
      have f706 := f677.keep Kh681 Ow.nin0
      have f707 := f602.keep Kh664 Ow.nin0
      have f708 := f707.keep Kh681 Ow.nin0
      have f709 := f678.keep Kh681 Ow.nin0
      have f710 := f599.keep Kh664
      have f711 := f710.keep Kh681
      refine Ow.callVirtual (pc' := 55) (W := 0) (k' := 8) (n' := 17) (argsL := [(.ref r666)]) (rest := []) (K := "java/lang/String") B at_52 (w88 hw) (w89 hw) (w91 hw) (w91 hw) (w90 hw) (w6 hw) (w92 hw) f711 (con_equals_79 hw G GS (pa0 := r585) (pa1 := r666) (pa2 := r586) (pa3 := r667) (px0 := y588) (px1 := y589) (px2 := y669) (pk0 := k587) (pk1 := k668) o699 f701 f703 f704 f705 f706 f708 f709 (by omega) (by omega) (by omega) (by omega) (by omega) c596 c597 c673) pd12 ?_
      intro vq712 h713 S714 q712 zh713
      obtain ⟨rfl, rfl, rfl⟩ := q712
      refine Ow.Go.norm (S' := [r667, r666, r586, r585]) (st' := [(.int (0 : Int32))]) (fun _ q => List.mem_append_right _ q) rfl ?_
      refine Ow.istore (pc' := 57) (Ls' := #[.val (.int x0), .val (.int x1), .val (.int x2), .val (.int x3), .val (.int x4), .val (.ref r585), .val (.ref r666), .val (.ref r683), .val (.ref r684), .val (.int (0 : Int32))]) B at_55 ?_
      refine Ow.aload (pc' := 59) B at_57 ?_
      refine Ow.Go.old (fun o715 => ?_)
      refine Ow.callFace (pc' := 64) (W := 0) (k' := 8) (n' := 17) (argsL := []) (rest := []) (K := "java/util/ImmutableCollections$Set12") B at_59 (w99 hw) (w100 hw) (w101 hw) (w102 hw) (w103 hw) (w104 hw) (w105 hw) (w106 hw) (w38 hw) (w107 hw) f688 (con_size_16 hw G GS (pa0 := r684) o715 f690 (by omega)) pd13 ?_
      intro vq716 h717 S718 q716 zh717
      obtain ⟨rfl, rfl, rfl⟩ := q716
      refine Ow.Go.norm (S' := [r667, r666, r586, r585]) (st' := [(.int (1 : Int32))]) (fun _ q => List.mem_append_right _ q) rfl ?_
      refine Ow.iconst (pc' := 65) (x := (1 : Int32)) B at_64 ?_
      refine Ow.icmpF (pc' := 68) B at_65 (by decide) ?_
      refine Ow.aload (pc' := 70) B at_68 ?_
      refine Ow.aload (pc' := 72) B at_70 ?_
      refine Ow.Go.old (fun o719 => ?_)
      refine Ow.callFace (pc' := 77) (W := 0) (k' := 8) (n' := 17) (argsL := [(.ref r585)]) (rest := []) (K := "java/util/ImmutableCollections$Set12") B at_72 (w108 hw) (w109 hw) (w110 hw) (w111 hw) (w112 hw) (w113 hw) (w114 hw) (w106 hw) (w38 hw) (w115 hw) f688 (con_contains_18 hw G GS (pa0 := r684) (pa1 := r585) o719 f689 f711 (by omega) (by omega)) pd12 ?_
      intro vq720 h721 S722 q720 zh721
      obtain ⟨rfl, rfl, rfl⟩ := q720
      refine Ow.Go.norm (S' := [r667, r666, r586, r585]) (st' := [(.int (1 : Int32))]) (fun _ q => List.mem_append_right _ q) rfl ?_
      refine Ow.ifF (pc' := 80) B at_77 (by decide) ?_
      refine Ow.aload (pc' := 82) B at_80 ?_
      refine Ow.aload (pc' := 84) B at_82 ?_
      refine Ow.Go.old (fun o723 => ?_)
      refine Ow.callFace (pc' := 89) (W := 0) (k' := 8) (n' := 17) (argsL := [(.ref r666)]) (rest := []) (K := "java/util/ImmutableCollections$Set12") B at_84 (w108 hw) (w109 hw) (w110 hw) (w111 hw) (w112 hw) (w113 hw) (w114 hw) (w106 hw) (w38 hw) (w115 hw) f688 (con_contains_82 hw G GS (pa0 := r684) (pa1 := r666) (pa2 := r585) (pa3 := r667) (pa4 := r586) (px0 := y669) (px1 := y588) (px2 := y589) (pk0 := k668) (pk1 := k587) o723 f689 f690 f704 f705 f706 f711 f701 f703 f709 f708 (by omega) (by omega) (by omega) (by omega) (by omega) (by omega) (by omega) c673 c596 c597) pd12 ?_
      intro vq724 h725 S726 q724 zh725
      obtain ⟨rfl, rfl, rfl⟩ := q724
      refine Ow.Go.norm (S' := [r667, r666, r586, r585]) (st' := [(.int (0 : Int32))]) (fun _ q => List.mem_append_right _ q) rfl ?_
      refine Ow.iload (pc' := 91) B at_89 ?_
      refine Ow.icmpF (pc' := 94) B at_91 (by decide) ?_
      refine Ow.iconst (pc' := 95) (x := (1 : Int32)) B at_94 ?_
      refine Ow.goto (pc' := 99) B at_95 ?_
      exact Ow.retI (S' := []) (t := .boolean) B at_99 (rfl)
    · refine Ow.iand (pc' := 17) (z := (2 : Int32)) (hz := hz16) B at_16 ?_
      refine Ow.iloadN (pc' := 18) B at_17 ?_
      refine Ow.iloadN (pc' := 19) B at_18 ?_
      refine Ow.Go.old (fun o727 => ?_)
      refine Ow.callStatic (pc' := 22) (W := 0) (k' := 6) (n' := 16) (argsL := [(.int (2 : Int32)), (.int x2), (.int x3)]) (rest := []) B at_19 (w0 hw) (w1 hw) (w2 hw) (w3 hw) (con_mk_37 hw G GS (px0 := x2) (px1 := x3) o727) pd2 ?_
      intro vq728 h729 S730 q728 zh729
      obtain ⟨r731, r732, k733, y734, y735, rfl, Kh729, c736, c737, c738, c739, c740, c741, c742, c743, br731, br732, n744, f745, f746, f747, f748, rfl⟩ := q728
      have lr731 : (r731 : Nat) < h729.size := f745.lt
      have lr732 : (r732 : Nat) < h729.size := f748.lt
      refine Ow.Go.norm (S' := [r732, r731, r586, r585]) (st' := [(.ref r731)]) (fun _ q => q) rfl ?_
      refine Ow.astore (pc' := 24) (Ls' := #[.val (.int x0), .val (.int x1), .val (.int x2), .val (.int x3), .val (.int x4), .val (.ref r585), .val (.ref r731), .unset, .unset, .unset]) B at_22 ?_
      refine Ow.aload (pc' := 26) B at_24 ?_
      refine Ow.Go.old (fun o749 => ?_)
      refine Ow.callStatic (pc' := 29) (W := 0) (k' := 8) (n' := 19) (argsL := [(.ref r585)]) (rest := []) B at_26 (w26 hw) (w27 hw) (w28 hw) (w29 hw) (con_upTo_11 hw G GS (pa0 := r585) o749) pd8 ?_
      intro vq750 h751 S752 q750 zh751
      obtain ⟨r753, r754, rfl, Kh751, br753, br754, n755, f756, f757, f758, f759, f760, rfl⟩ := q750
      have lr753 : (r753 : Nat) < h751.size := f756.lt
      have lr754 : (r754 : Nat) < h751.size := f758.lt
      refine Ow.Go.norm (S' := [r732, r731, r586, r585]) (st' := [(.ref r753)]) (fun _ q => List.mem_append_right _ q) rfl ?_
      refine Ow.astore (pc' := 31) (Ls' := #[.val (.int x0), .val (.int x1), .val (.int x2), .val (.int x3), .val (.int x4), .val (.ref r585), .val (.ref r731), .val (.ref r753), .unset, .unset]) B at_29 ?_
      refine Ow.aload (pc' := 33) B at_31 ?_
      refine Ow.Go.old (fun o761 => ?_)
      refine Ow.callVirtual (pc' := 36) (W := 0) (k' := 8) (n' := 19) (argsL := []) (rest := []) (K := "com/example/entitlement/entitlement/Scope") B at_33 (w78 hw) (w79 hw) (w81 hw) (w81 hw) (w80 hw) (w28 hw) (w82 hw) f756 (con_everySenior_12 hw G GS (pa0 := r753) (pa1 := r754) o761 f757 (by omega)) pd9 ?_
      intro vq762 h763 S764 q762 zh763
      obtain ⟨rfl, rfl, rfl⟩ := q762
      refine Ow.Go.norm (S' := [r732, r731, r586, r585]) (st' := [(.int (0 : Int32))]) (fun _ q => List.mem_append_right _ q) rfl ?_
      refine Ow.ifT (pc' := 41) B at_36 (by decide) ?_
      refine Ow.aload (pc' := 43) B at_41 ?_
      refine Ow.Go.old (fun o765 => ?_)
      refine Ow.callVirtual (pc' := 46) (W := 0) (k' := 8) (n' := 19) (argsL := []) (rest := []) (K := "com/example/entitlement/entitlement/Scope") B at_43 (w83 hw) (w84 hw) (w86 hw) (w86 hw) (w85 hw) (w28 hw) (w87 hw) f756 (con_bounds_13 hw G GS (pa0 := r753) (pa1 := r754) o765 f757 (by omega)) pd10 ?_
      intro vq766 h767 S768 q766 zh767
      obtain ⟨rfl, rfl, rfl⟩ := q766
      refine Ow.Go.norm (S' := [r732, r731, r586, r585]) (st' := [(.ref r754)]) (fun _ q => List.mem_append_right _ q) rfl ?_
      refine Ow.astore (pc' := 48) (Ls' := #[.val (.int x0), .val (.int x1), .val (.int x2), .val (.int x3), .val (.int x4), .val (.ref r585), .val (.ref r731), .val (.ref r753), .val (.ref r754), .unset]) B at_46 ?_
      refine Ow.aload (pc' := 50) B at_48 ?_
      refine Ow.aload (pc' := 52) B at_50 ?_
      refine Ow.Go.old (fun o769 => ?_)
      have f770 := f600.keep Kh729 Ow.nin0
      have f771 := f770.keep Kh751 Ow.nin0
      have f772 := f601.keep Kh729 Ow.nin0
      have f773 := f772.keep Kh751 Ow.nin0
      have f774 := f745.keep Kh751
      have f775 := f746.keep Kh751 Ow.nin0
      have f776 := f747.keep Kh751 Ow.nin0
      have f777 := f602.keep Kh729 Ow.nin0
      have f778 := f777.keep Kh751 Ow.nin0
      have f779 := f748.keep Kh751 Ow.nin0
      have f780 := f599.keep Kh729
      have f781 := f780.keep Kh751
      refine Ow.callVirtual (pc' := 55) (W := 0) (k' := 8) (n' := 19) (argsL := [(.ref r731)]) (rest := []) (K := "java/lang/String") B at_52 (w88 hw) (w89 hw) (w91 hw) (w91 hw) (w90 hw) (w6 hw) (w92 hw) f781 (con_equals_84 hw G GS (pa0 := r585) (pa1 := r731) (pa2 := r586) (pa3 := r732) (px0 := y588) (px1 := y589) (px2 := y734) (px3 := y735) (pk0 := k587) (pk1 := k733) o769 f771 f773 f774 f775 f776 f778 f779 (by omega) (by omega) (by omega) (by omega) (by omega) c596 c597 c742 c743) pd12 ?_
      intro vq782 h783 S784 q782 zh783
      rcases q782 with q782 | q782 | q782
      · obtain ⟨rfl, rfl, c785, c786, rfl⟩ := q782
        refine Ow.Go.norm (S' := [r732, r731, r586, r585]) (st' := [(.int (1 : Int32))]) (fun _ q => List.mem_append_right _ q) rfl ?_
        refine Ow.istore (pc' := 57) (Ls' := #[.val (.int x0), .val (.int x1), .val (.int x2), .val (.int x3), .val (.int x4), .val (.ref r585), .val (.ref r731), .val (.ref r753), .val (.ref r754), .val (.int (1 : Int32))]) B at_55 ?_
        refine Ow.aload (pc' := 59) B at_57 ?_
        refine Ow.Go.old (fun o787 => ?_)
        refine Ow.callFace (pc' := 64) (W := 0) (k' := 8) (n' := 19) (argsL := []) (rest := []) (K := "java/util/ImmutableCollections$Set12") B at_59 (w99 hw) (w100 hw) (w101 hw) (w102 hw) (w103 hw) (w104 hw) (w105 hw) (w106 hw) (w38 hw) (w107 hw) f758 (con_size_16 hw G GS (pa0 := r754) o787 f760 (by omega)) pd13 ?_
        intro vq788 h789 S790 q788 zh789
        obtain ⟨rfl, rfl, rfl⟩ := q788
        refine Ow.Go.norm (S' := [r732, r731, r586, r585]) (st' := [(.int (1 : Int32))]) (fun _ q => List.mem_append_right _ q) rfl ?_
        refine Ow.iconst (pc' := 65) (x := (1 : Int32)) B at_64 ?_
        refine Ow.icmpF (pc' := 68) B at_65 (by decide) ?_
        refine Ow.aload (pc' := 70) B at_68 ?_
        refine Ow.aload (pc' := 72) B at_70 ?_
        refine Ow.Go.old (fun o791 => ?_)
        refine Ow.callFace (pc' := 77) (W := 0) (k' := 8) (n' := 19) (argsL := [(.ref r585)]) (rest := []) (K := "java/util/ImmutableCollections$Set12") B at_72 (w108 hw) (w109 hw) (w110 hw) (w111 hw) (w112 hw) (w113 hw) (w114 hw) (w106 hw) (w38 hw) (w115 hw) f758 (con_contains_18 hw G GS (pa0 := r754) (pa1 := r585) o791 f759 f781 (by omega) (by omega)) pd12 ?_
        intro vq792 h793 S794 q792 zh793
        obtain ⟨rfl, rfl, rfl⟩ := q792
        refine Ow.Go.norm (S' := [r732, r731, r586, r585]) (st' := [(.int (1 : Int32))]) (fun _ q => List.mem_append_right _ q) rfl ?_
        refine Ow.ifF (pc' := 80) B at_77 (by decide) ?_
        refine Ow.aload (pc' := 82) B at_80 ?_
        refine Ow.aload (pc' := 84) B at_82 ?_
        refine Ow.Go.old (fun o795 => ?_)
        refine Ow.callFace (pc' := 89) (W := 0) (k' := 8) (n' := 19) (argsL := [(.ref r731)]) (rest := []) (K := "java/util/ImmutableCollections$Set12") B at_84 (w108 hw) (w109 hw) (w110 hw) (w111 hw) (w112 hw) (w113 hw) (w114 hw) (w106 hw) (w38 hw) (w115 hw) f758 (con_contains_87 hw G GS (pa0 := r754) (pa1 := r731) (pa2 := r585) (pa3 := r732) (pa4 := r586) (px0 := y734) (px1 := y735) (px2 := y588) (px3 := y589) (pk0 := k733) (pk1 := k587) o795 f759 f774 f775 f776 f781 f771 f773 f779 f778 (by omega) (by omega) (by omega) (by omega) (by omega) (by omega) (c785) (c785.symm) (c786) (c786.symm) c742 c743 c596 c597) pd12 ?_
        intro vq796 h797 S798 q796 zh797
        obtain ⟨rfl, rfl, rfl⟩ := q796
        refine Ow.Go.norm (S' := [r732, r731, r586, r585]) (st' := [(.int (1 : Int32))]) (fun _ q => List.mem_append_right _ q) rfl ?_
        refine Ow.iload (pc' := 91) B at_89 ?_
        refine Ow.icmpF (pc' := 94) B at_91 (by decide) ?_
        refine Ow.iconst (pc' := 95) (x := (1 : Int32)) B at_94 ?_
        refine Ow.goto (pc' := 99) B at_95 ?_
        exact Ow.retI (S' := []) (t := .boolean) B at_99 (rfl)
      · obtain ⟨rfl, rfl, c799, c800, rfl⟩ := q782
        refine Ow.Go.norm (S' := [r732, r731, r586, r585]) (st' := [(.int (0 : Int32))]) (fun _ q => List.mem_append_right _ q) rfl ?_
        refine Ow.istore (pc' := 57) (Ls' := #[.val (.int x0), .val (.int x1), .val (.int x2), .val (.int x3), .val (.int x4), .val (.ref r585), .val (.ref r731), .val (.ref r753), .val (.ref r754), .val (.int (0 : Int32))]) B at_55 ?_
        refine Ow.aload (pc' := 59) B at_57 ?_
        refine Ow.Go.old (fun o801 => ?_)
        refine Ow.callFace (pc' := 64) (W := 0) (k' := 8) (n' := 19) (argsL := []) (rest := []) (K := "java/util/ImmutableCollections$Set12") B at_59 (w99 hw) (w100 hw) (w101 hw) (w102 hw) (w103 hw) (w104 hw) (w105 hw) (w106 hw) (w38 hw) (w107 hw) f758 (con_size_16 hw G GS (pa0 := r754) o801 f760 (by omega)) pd13 ?_
        intro vq802 h803 S804 q802 zh803
        obtain ⟨rfl, rfl, rfl⟩ := q802
        refine Ow.Go.norm (S' := [r732, r731, r586, r585]) (st' := [(.int (1 : Int32))]) (fun _ q => List.mem_append_right _ q) rfl ?_
        refine Ow.iconst (pc' := 65) (x := (1 : Int32)) B at_64 ?_
        refine Ow.icmpF (pc' := 68) B at_65 (by decide) ?_
        refine Ow.aload (pc' := 70) B at_68 ?_
        refine Ow.aload (pc' := 72) B at_70 ?_
        refine Ow.Go.old (fun o805 => ?_)
        refine Ow.callFace (pc' := 77) (W := 0) (k' := 8) (n' := 19) (argsL := [(.ref r585)]) (rest := []) (K := "java/util/ImmutableCollections$Set12") B at_72 (w108 hw) (w109 hw) (w110 hw) (w111 hw) (w112 hw) (w113 hw) (w114 hw) (w106 hw) (w38 hw) (w115 hw) f758 (con_contains_18 hw G GS (pa0 := r754) (pa1 := r585) o805 f759 f781 (by omega) (by omega)) pd12 ?_
        intro vq806 h807 S808 q806 zh807
        obtain ⟨rfl, rfl, rfl⟩ := q806
        refine Ow.Go.norm (S' := [r732, r731, r586, r585]) (st' := [(.int (1 : Int32))]) (fun _ q => List.mem_append_right _ q) rfl ?_
        refine Ow.ifF (pc' := 80) B at_77 (by decide) ?_
        refine Ow.aload (pc' := 82) B at_80 ?_
        refine Ow.aload (pc' := 84) B at_82 ?_
        refine Ow.Go.old (fun o809 => ?_)
        refine Ow.callFace (pc' := 89) (W := 0) (k' := 8) (n' := 19) (argsL := [(.ref r731)]) (rest := []) (K := "java/util/ImmutableCollections$Set12") B at_84 (w108 hw) (w109 hw) (w110 hw) (w111 hw) (w112 hw) (w113 hw) (w114 hw) (w106 hw) (w38 hw) (w115 hw) f758 (con_contains_90 hw G GS (pa0 := r754) (pa1 := r731) (pa2 := r585) (pa3 := r732) (pa4 := r586) (px0 := y734) (px1 := y735) (px2 := y588) (px3 := y589) (pk0 := k733) (pk1 := k587) o809 f759 f760 f774 f775 f776 f781 f771 f773 f779 f778 (by omega) (by omega) (by omega) (by omega) (by omega) (by omega) (by omega) (c799) (c799.symm) (c800) (fun q => c800 q.symm) c742 c743 c596 c597) pd12 ?_
        intro vq810 h811 S812 q810 zh811
        obtain ⟨rfl, rfl, rfl⟩ := q810
        refine Ow.Go.norm (S' := [r732, r731, r586, r585]) (st' := [(.int (0 : Int32))]) (fun _ q => List.mem_append_right _ q) rfl ?_
        refine Ow.iload (pc' := 91) B at_89 ?_
        refine Ow.icmpF (pc' := 94) B at_91 (by decide) ?_
        refine Ow.iconst (pc' := 95) (x := (1 : Int32)) B at_94 ?_
        refine Ow.goto (pc' := 99) B at_95 ?_
        exact Ow.retI (S' := []) (t := .boolean) B at_99 (rfl)
      · obtain ⟨rfl, rfl, c813, rfl⟩ := q782
        refine Ow.Go.norm (S' := [r732, r731, r586, r585]) (st' := [(.int (0 : Int32))]) (fun _ q => List.mem_append_right _ q) rfl ?_
        refine Ow.istore (pc' := 57) (Ls' := #[.val (.int x0), .val (.int x1), .val (.int x2), .val (.int x3), .val (.int x4), .val (.ref r585), .val (.ref r731), .val (.ref r753), .val (.ref r754), .val (.int (0 : Int32))]) B at_55 ?_
        refine Ow.aload (pc' := 59) B at_57 ?_
        refine Ow.Go.old (fun o814 => ?_)
        refine Ow.callFace (pc' := 64) (W := 0) (k' := 8) (n' := 19) (argsL := []) (rest := []) (K := "java/util/ImmutableCollections$Set12") B at_59 (w99 hw) (w100 hw) (w101 hw) (w102 hw) (w103 hw) (w104 hw) (w105 hw) (w106 hw) (w38 hw) (w107 hw) f758 (con_size_16 hw G GS (pa0 := r754) o814 f760 (by omega)) pd13 ?_
        intro vq815 h816 S817 q815 zh816
        obtain ⟨rfl, rfl, rfl⟩ := q815
        refine Ow.Go.norm (S' := [r732, r731, r586, r585]) (st' := [(.int (1 : Int32))]) (fun _ q => List.mem_append_right _ q) rfl ?_
        refine Ow.iconst (pc' := 65) (x := (1 : Int32)) B at_64 ?_
        refine Ow.icmpF (pc' := 68) B at_65 (by decide) ?_
        refine Ow.aload (pc' := 70) B at_68 ?_
        refine Ow.aload (pc' := 72) B at_70 ?_
        refine Ow.Go.old (fun o818 => ?_)
        refine Ow.callFace (pc' := 77) (W := 0) (k' := 8) (n' := 19) (argsL := [(.ref r585)]) (rest := []) (K := "java/util/ImmutableCollections$Set12") B at_72 (w108 hw) (w109 hw) (w110 hw) (w111 hw) (w112 hw) (w113 hw) (w114 hw) (w106 hw) (w38 hw) (w115 hw) f758 (con_contains_18 hw G GS (pa0 := r754) (pa1 := r585) o818 f759 f781 (by omega) (by omega)) pd12 ?_
        intro vq819 h820 S821 q819 zh820
        obtain ⟨rfl, rfl, rfl⟩ := q819
        refine Ow.Go.norm (S' := [r732, r731, r586, r585]) (st' := [(.int (1 : Int32))]) (fun _ q => List.mem_append_right _ q) rfl ?_
        refine Ow.ifF (pc' := 80) B at_77 (by decide) ?_
        refine Ow.aload (pc' := 82) B at_80 ?_
        refine Ow.aload (pc' := 84) B at_82 ?_
        refine Ow.Go.old (fun o822 => ?_)
        refine Ow.callFace (pc' := 89) (W := 0) (k' := 8) (n' := 19) (argsL := [(.ref r731)]) (rest := []) (K := "java/util/ImmutableCollections$Set12") B at_84 (w108 hw) (w109 hw) (w110 hw) (w111 hw) (w112 hw) (w113 hw) (w114 hw) (w106 hw) (w38 hw) (w115 hw) f758 (con_contains_93 hw G GS (pa0 := r754) (pa1 := r731) (pa2 := r585) (pa3 := r732) (pa4 := r586) (px0 := y734) (px1 := y735) (px2 := y588) (px3 := y589) (pk0 := k733) (pk1 := k587) o822 f759 f760 f774 f775 f776 f781 f771 f773 f779 f778 (by omega) (by omega) (by omega) (by omega) (by omega) (by omega) (by omega) (c813) (fun q => c813 q.symm) c742 c743 c596 c597) pd12 ?_
        intro vq823 h824 S825 q823 zh824
        obtain ⟨rfl, rfl, rfl⟩ := q823
        refine Ow.Go.norm (S' := [r732, r731, r586, r585]) (st' := [(.int (0 : Int32))]) (fun _ q => List.mem_append_right _ q) rfl ?_
        refine Ow.iload (pc' := 91) B at_89 ?_
        refine Ow.icmpF (pc' := 94) B at_91 (by decide) ?_
        refine Ow.iconst (pc' := 95) (x := (1 : Int32)) B at_94 ?_
        refine Ow.goto (pc' := 99) B at_95 ?_
        exact Ow.retI (S' := []) (t := .boolean) B at_99 (rfl)
    · refine Ow.iand (pc' := 17) (z := (3 : Int32)) (hz := hz16) B at_16 ?_
      refine Ow.iloadN (pc' := 18) B at_17 ?_
      refine Ow.iloadN (pc' := 19) B at_18 ?_
      refine Ow.Go.old (fun o826 => ?_)
      refine Ow.callStatic (pc' := 22) (W := 0) (k' := 6) (n' := 18) (argsL := [(.int (3 : Int32)), (.int x2), (.int x3)]) (rest := []) B at_19 (w0 hw) (w1 hw) (w2 hw) (w3 hw) (con_mk_48 hw G GS (px0 := x2) (px1 := x3) o826) pd2 ?_
      intro vq827 h828 S829 q827 zh828
      obtain ⟨r830, r831, k832, y833, y834, y835, rfl, Kh828, c836, c837, c838, c839, c840, c841, c842, c843, c844, c845, c846, c847, br830, br831, n848, f849, f850, f851, f852, rfl⟩ := q827
      have lr830 : (r830 : Nat) < h828.size := f849.lt
      have lr831 : (r831 : Nat) < h828.size := f852.lt
      refine Ow.Go.norm (S' := [r831, r830, r586, r585]) (st' := [(.ref r830)]) (fun _ q => q) rfl ?_
      refine Ow.astore (pc' := 24) (Ls' := #[.val (.int x0), .val (.int x1), .val (.int x2), .val (.int x3), .val (.int x4), .val (.ref r585), .val (.ref r830), .unset, .unset, .unset]) B at_22 ?_
      refine Ow.aload (pc' := 26) B at_24 ?_
      refine Ow.Go.old (fun o853 => ?_)
      refine Ow.callStatic (pc' := 29) (W := 0) (k' := 8) (n' := 21) (argsL := [(.ref r585)]) (rest := []) B at_26 (w26 hw) (w27 hw) (w28 hw) (w29 hw) (con_upTo_11 hw G GS (pa0 := r585) o853) pd8 ?_
      intro vq854 h855 S856 q854 zh855
      obtain ⟨r857, r858, rfl, Kh855, br857, br858, n859, f860, f861, f862, f863, f864, rfl⟩ := q854
      have lr857 : (r857 : Nat) < h855.size := f860.lt
      have lr858 : (r858 : Nat) < h855.size := f862.lt
      refine Ow.Go.norm (S' := [r831, r830, r586, r585]) (st' := [(.ref r857)]) (fun _ q => List.mem_append_right _ q) rfl ?_
      refine Ow.astore (pc' := 31) (Ls' := #[.val (.int x0), .val (.int x1), .val (.int x2), .val (.int x3), .val (.int x4), .val (.ref r585), .val (.ref r830), .val (.ref r857), .unset, .unset]) B at_29 ?_
      refine Ow.aload (pc' := 33) B at_31 ?_
      refine Ow.Go.old (fun o865 => ?_)
      refine Ow.callVirtual (pc' := 36) (W := 0) (k' := 8) (n' := 21) (argsL := []) (rest := []) (K := "com/example/entitlement/entitlement/Scope") B at_33 (w78 hw) (w79 hw) (w81 hw) (w81 hw) (w80 hw) (w28 hw) (w82 hw) f860 (con_everySenior_12 hw G GS (pa0 := r857) (pa1 := r858) o865 f861 (by omega)) pd9 ?_
      intro vq866 h867 S868 q866 zh867
      obtain ⟨rfl, rfl, rfl⟩ := q866
      refine Ow.Go.norm (S' := [r831, r830, r586, r585]) (st' := [(.int (0 : Int32))]) (fun _ q => List.mem_append_right _ q) rfl ?_
      refine Ow.ifT (pc' := 41) B at_36 (by decide) ?_
      refine Ow.aload (pc' := 43) B at_41 ?_
      refine Ow.Go.old (fun o869 => ?_)
      refine Ow.callVirtual (pc' := 46) (W := 0) (k' := 8) (n' := 21) (argsL := []) (rest := []) (K := "com/example/entitlement/entitlement/Scope") B at_43 (w83 hw) (w84 hw) (w86 hw) (w86 hw) (w85 hw) (w28 hw) (w87 hw) f860 (con_bounds_13 hw G GS (pa0 := r857) (pa1 := r858) o869 f861 (by omega)) pd10 ?_
      intro vq870 h871 S872 q870 zh871
      obtain ⟨rfl, rfl, rfl⟩ := q870
      refine Ow.Go.norm (S' := [r831, r830, r586, r585]) (st' := [(.ref r858)]) (fun _ q => List.mem_append_right _ q) rfl ?_
      refine Ow.astore (pc' := 48) (Ls' := #[.val (.int x0), .val (.int x1), .val (.int x2), .val (.int x3), .val (.int x4), .val (.ref r585), .val (.ref r830), .val (.ref r857), .val (.ref r858), .unset]) B at_46 ?_
      refine Ow.aload (pc' := 50) B at_48 ?_
      refine Ow.aload (pc' := 52) B at_50 ?_
      refine Ow.Go.old (fun o873 => ?_)
      have f874 := f600.keep Kh828 Ow.nin0
      have f875 := f874.keep Kh855 Ow.nin0
      have f876 := f601.keep Kh828 Ow.nin0
      have f877 := f876.keep Kh855 Ow.nin0
      have f878 := f849.keep Kh855
      have f879 := f850.keep Kh855 Ow.nin0
      have f880 := f851.keep Kh855 Ow.nin0
      have f881 := f602.keep Kh828 Ow.nin0
      have f882 := f881.keep Kh855 Ow.nin0
      have f883 := f852.keep Kh855 Ow.nin0
      have f884 := f599.keep Kh828
      have f885 := f884.keep Kh855
      refine Ow.callVirtual (pc' := 55) (W := 0) (k' := 8) (n' := 21) (argsL := [(.ref r830)]) (rest := []) (K := "java/lang/String") B at_52 (w88 hw) (w89 hw) (w91 hw) (w91 hw) (w90 hw) (w6 hw) (w92 hw) f885 (con_equals_95 hw G GS (pa0 := r585) (pa1 := r830) (pa2 := r586) (pa3 := r831) (px0 := y588) (px1 := y589) (px2 := y833) (px3 := y834) (px4 := y835) (pk0 := k587) (pk1 := k832) o873 f875 f877 f878 f879 f880 f882 f883 (by omega) (by omega) (by omega) (by omega) (by omega) c596 c597 c845 c846 c847) pd12 ?_
      intro vq886 h887 S888 q886 zh887
      obtain ⟨rfl, rfl, rfl⟩ := q886
      refine Ow.Go.norm (S' := [r831, r830, r586, r585]) (st' := [(.int (0 : Int32))]) (fun _ q => List.mem_append_right _ q) rfl ?_
      refine Ow.istore (pc' := 57) (Ls' := #[.val (.int x0), .val (.int x1), .val (.int x2), .val (.int x3), .val (.int x4), .val (.ref r585), .val (.ref r830), .val (.ref r857), .val (.ref r858), .val (.int (0 : Int32))]) B at_55 ?_
      refine Ow.aload (pc' := 59) B at_57 ?_
      refine Ow.Go.old (fun o889 => ?_)
      refine Ow.callFace (pc' := 64) (W := 0) (k' := 8) (n' := 21) (argsL := []) (rest := []) (K := "java/util/ImmutableCollections$Set12") B at_59 (w99 hw) (w100 hw) (w101 hw) (w102 hw) (w103 hw) (w104 hw) (w105 hw) (w106 hw) (w38 hw) (w107 hw) f862 (con_size_16 hw G GS (pa0 := r858) o889 f864 (by omega)) pd13 ?_
      intro vq890 h891 S892 q890 zh891
      obtain ⟨rfl, rfl, rfl⟩ := q890
      refine Ow.Go.norm (S' := [r831, r830, r586, r585]) (st' := [(.int (1 : Int32))]) (fun _ q => List.mem_append_right _ q) rfl ?_
      refine Ow.iconst (pc' := 65) (x := (1 : Int32)) B at_64 ?_
      refine Ow.icmpF (pc' := 68) B at_65 (by decide) ?_
      refine Ow.aload (pc' := 70) B at_68 ?_
      refine Ow.aload (pc' := 72) B at_70 ?_
      refine Ow.Go.old (fun o893 => ?_)
      refine Ow.callFace (pc' := 77) (W := 0) (k' := 8) (n' := 21) (argsL := [(.ref r585)]) (rest := []) (K := "java/util/ImmutableCollections$Set12") B at_72 (w108 hw) (w109 hw) (w110 hw) (w111 hw) (w112 hw) (w113 hw) (w114 hw) (w106 hw) (w38 hw) (w115 hw) f862 (con_contains_18 hw G GS (pa0 := r858) (pa1 := r585) o893 f863 f885 (by omega) (by omega)) pd12 ?_
      intro vq894 h895 S896 q894 zh895
      obtain ⟨rfl, rfl, rfl⟩ := q894
      refine Ow.Go.norm (S' := [r831, r830, r586, r585]) (st' := [(.int (1 : Int32))]) (fun _ q => List.mem_append_right _ q) rfl ?_
      refine Ow.ifF (pc' := 80) B at_77 (by decide) ?_
      refine Ow.aload (pc' := 82) B at_80 ?_
      refine Ow.aload (pc' := 84) B at_82 ?_
      refine Ow.Go.old (fun o897 => ?_)
      refine Ow.callFace (pc' := 89) (W := 0) (k' := 8) (n' := 21) (argsL := [(.ref r830)]) (rest := []) (K := "java/util/ImmutableCollections$Set12") B at_84 (w108 hw) (w109 hw) (w110 hw) (w111 hw) (w112 hw) (w113 hw) (w114 hw) (w106 hw) (w38 hw) (w115 hw) f862 (con_contains_98 hw G GS (pa0 := r858) (pa1 := r830) (pa2 := r585) (pa3 := r831) (pa4 := r586) (px0 := y833) (px1 := y834) (px2 := y835) (px3 := y588) (px4 := y589) (pk0 := k832) (pk1 := k587) o897 f863 f864 f878 f879 f880 f885 f875 f877 f883 f882 (by omega) (by omega) (by omega) (by omega) (by omega) (by omega) (by omega) c845 c846 c847 c596 c597) pd12 ?_
      intro vq898 h899 S900 q898 zh899
      obtain ⟨rfl, rfl, rfl⟩ := q898
      refine Ow.Go.norm (S' := [r831, r830, r586, r585]) (st' := [(.int (0 : Int32))]) (fun _ q => List.mem_append_right _ q) rfl ?_
      refine Ow.iload (pc' := 91) B at_89 ?_
      refine Ow.icmpF (pc' := 94) B at_91 (by decide) ?_
      refine Ow.iconst (pc' := 95) (x := (1 : Int32)) B at_94 ?_
      refine Ow.goto (pc' := 99) B at_95 ?_
      exact Ow.retI (S' := []) (t := .boolean) B at_99 (rfl)
  · refine Ow.iand (pc' := 4) (z := (3 : Int32)) (hz := hz3) B at_3 ?_
    refine Ow.iloadN (pc' := 5) B at_4 ?_
    refine Ow.iloadN (pc' := 6) B at_5 ?_
    refine Ow.Go.old (fun o901 => ?_)
    refine Ow.callStatic (pc' := 9) (W := 0) (k' := 3) (n' := 10) (argsL := [(.int (3 : Int32)), (.int x0), (.int x1)]) (rest := []) B at_6 (w0 hw) (w1 hw) (w2 hw) (w3 hw) (con_mk_48 hw G GS (px0 := x0) (px1 := x1) o901) pd2 ?_
    intro vq902 h903 S904 q902 zh903
    obtain ⟨r905, r906, k907, y908, y909, y910, rfl, Kh903, c911, c912, c913, c914, c915, c916, c917, c918, c919, c920, c921, c922, br905, br906, n923, f924, f925, f926, f927, rfl⟩ := q902
    have lr905 : (r905 : Nat) < h903.size := f924.lt
    have lr906 : (r906 : Nat) < h903.size := f927.lt
    refine Ow.Go.norm (S' := [r906, r905]) (st' := [(.ref r905)]) (fun _ q => q) rfl ?_
    refine Ow.astore (pc' := 11) (Ls' := #[.val (.int x0), .val (.int x1), .val (.int x2), .val (.int x3), .val (.int x4), .val (.ref r905), .unset, .unset, .unset, .unset]) B at_9 ?_
    refine Ow.iload (pc' := 13) B at_11 ?_
    refine Ow.iconst (pc' := 14) (x := (2 : Int32)) B at_13 ?_
    refine Ow.ishr (pc' := 15) (z := (x4 >>> ((2 : Int32) &&& 31))) B at_14 ?_
    refine Ow.iconst (pc' := 16) (x := (3 : Int32)) B at_15 ?_
    rcases Ow.and3 (x4 >>> ((2 : Int32) &&& 31)) with hz16 | hz16 | hz16 | hz16
    · refine Ow.iand (pc' := 17) (z := (0 : Int32)) (hz := hz16) B at_16 ?_
      refine Ow.iloadN (pc' := 18) B at_17 ?_
      refine Ow.iloadN (pc' := 19) B at_18 ?_
      refine Ow.Go.old (fun o928 => ?_)
      refine Ow.callStatic (pc' := 22) (W := 0) (k' := 9) (n' := 22) (argsL := [(.int (0 : Int32)), (.int x2), (.int x3)]) (rest := []) B at_19 (w0 hw) (w1 hw) (w2 hw) (w3 hw) (con_mk_3 hw G GS (px0 := x2) (px1 := x3) o928) pd2 ?_
      intro vq929 h930 S931 q929 zh930
      obtain ⟨r932, r933, k934, rfl, Kh930, br932, f935, f936, f937, f938, rfl⟩ := q929
      have lr932 : (r932 : Nat) < h930.size := f935.lt
      have lr933 : (r933 : Nat) < h930.size := f938.lt
      refine Ow.Go.norm (S' := [r932, r906, r905]) (st' := [(.ref r932)]) (fun _ q => q) rfl ?_
      refine Ow.astore (pc' := 24) (Ls' := #[.val (.int x0), .val (.int x1), .val (.int x2), .val (.int x3), .val (.int x4), .val (.ref r905), .val (.ref r932), .unset, .unset, .unset]) B at_22 ?_
      refine Ow.aload (pc' := 26) B at_24 ?_
      refine Ow.Go.old (fun o939 => ?_)
      refine Ow.callStatic (pc' := 29) (W := 0) (k' := 11) (n' := 25) (argsL := [(.ref r905)]) (rest := []) B at_26 (w26 hw) (w27 hw) (w28 hw) (w29 hw) (con_upTo_11 hw G GS (pa0 := r905) o939) pd8 ?_
      intro vq940 h941 S942 q940 zh941
      obtain ⟨r943, r944, rfl, Kh941, br943, br944, n945, f946, f947, f948, f949, f950, rfl⟩ := q940
      have lr943 : (r943 : Nat) < h941.size := f946.lt
      have lr944 : (r944 : Nat) < h941.size := f948.lt
      refine Ow.Go.norm (S' := [r932, r906, r905]) (st' := [(.ref r943)]) (fun _ q => List.mem_append_right _ q) rfl ?_
      refine Ow.astore (pc' := 31) (Ls' := #[.val (.int x0), .val (.int x1), .val (.int x2), .val (.int x3), .val (.int x4), .val (.ref r905), .val (.ref r932), .val (.ref r943), .unset, .unset]) B at_29 ?_
      refine Ow.aload (pc' := 33) B at_31 ?_
      refine Ow.Go.old (fun o951 => ?_)
      refine Ow.callVirtual (pc' := 36) (W := 0) (k' := 11) (n' := 25) (argsL := []) (rest := []) (K := "com/example/entitlement/entitlement/Scope") B at_33 (w78 hw) (w79 hw) (w81 hw) (w81 hw) (w80 hw) (w28 hw) (w82 hw) f946 (con_everySenior_12 hw G GS (pa0 := r943) (pa1 := r944) o951 f947 (by omega)) pd9 ?_
      intro vq952 h953 S954 q952 zh953
      obtain ⟨rfl, rfl, rfl⟩ := q952
      refine Ow.Go.norm (S' := [r932, r906, r905]) (st' := [(.int (0 : Int32))]) (fun _ q => List.mem_append_right _ q) rfl ?_
      refine Ow.ifT (pc' := 41) B at_36 (by decide) ?_
      refine Ow.aload (pc' := 43) B at_41 ?_
      refine Ow.Go.old (fun o955 => ?_)
      refine Ow.callVirtual (pc' := 46) (W := 0) (k' := 11) (n' := 25) (argsL := []) (rest := []) (K := "com/example/entitlement/entitlement/Scope") B at_43 (w83 hw) (w84 hw) (w86 hw) (w86 hw) (w85 hw) (w28 hw) (w87 hw) f946 (con_bounds_13 hw G GS (pa0 := r943) (pa1 := r944) o955 f947 (by omega)) pd10 ?_
      intro vq956 h957 S958 q956 zh957
      obtain ⟨rfl, rfl, rfl⟩ := q956
      refine Ow.Go.norm (S' := [r932, r906, r905]) (st' := [(.ref r944)]) (fun _ q => List.mem_append_right _ q) rfl ?_
      refine Ow.astore (pc' := 48) (Ls' := #[.val (.int x0), .val (.int x1), .val (.int x2), .val (.int x3), .val (.int x4), .val (.ref r905), .val (.ref r932), .val (.ref r943), .val (.ref r944), .unset]) B at_46 ?_
      refine Ow.aload (pc' := 50) B at_48 ?_
      refine Ow.aload (pc' := 52) B at_50 ?_
      refine Ow.Go.old (fun o959 => ?_)
      have f960 := f925.keep Kh930 Ow.nin0
      have f961 := f960.keep Kh941 Ow.nin0
      have f962 := f926.keep Kh930 Ow.nin0
      have f963 := f962.keep Kh941 Ow.nin0
      have f964 := f935.keep Kh941
      have f965 := f936.keep Kh941 Ow.nin0
      have f966 := f937.keep Kh941 Ow.nin0
      have f967 := f927.keep Kh930 Ow.nin0
      have f968 := f967.keep Kh941 Ow.nin0
      have f969 := f938.keep Kh941 Ow.nin0
      have f970 := f924.keep Kh930
      have f971 := f970.keep Kh941
      refine Ow.callVirtual (pc' := 55) (W := 0) (k' := 11) (n' := 25) (argsL := [(.ref r932)]) (rest := []) (K := "java/lang/String") B at_52 (w88 hw) (w89 hw) (w91 hw) (w91 hw) (w90 hw) (w6 hw) (w92 hw) f971 (con_equals_99 hw G GS (pa0 := r905) (pa1 := r932) (pa2 := r906) (pa3 := r933) (px0 := y908) (px1 := y909) (px2 := y910) (pk0 := k907) (pk1 := k934) o959 f961 f963 f964 f965 f966 f968 f969 (by omega) (by omega) (by omega) (by omega) c920 c921 c922) pd12 ?_
      intro vq972 h973 S974 q972 zh973
      obtain ⟨rfl, rfl, rfl⟩ := q972
      refine Ow.Go.norm (S' := [r932, r906, r905]) (st' := [(.int (0 : Int32))]) (fun _ q => List.mem_append_right _ q) rfl ?_
      refine Ow.istore (pc' := 57) (Ls' := #[.val (.int x0), .val (.int x1), .val (.int x2), .val (.int x3), .val (.int x4), .val (.ref r905), .val (.ref r932), .val (.ref r943), .val (.ref r944), .val (.int (0 : Int32))]) B at_55 ?_
      refine Ow.aload (pc' := 59) B at_57 ?_
      refine Ow.Go.old (fun o975 => ?_)
      refine Ow.callFace (pc' := 64) (W := 0) (k' := 11) (n' := 25) (argsL := []) (rest := []) (K := "java/util/ImmutableCollections$Set12") B at_59 (w99 hw) (w100 hw) (w101 hw) (w102 hw) (w103 hw) (w104 hw) (w105 hw) (w106 hw) (w38 hw) (w107 hw) f948 (con_size_16 hw G GS (pa0 := r944) o975 f950 (by omega)) pd13 ?_
      intro vq976 h977 S978 q976 zh977
      obtain ⟨rfl, rfl, rfl⟩ := q976
      refine Ow.Go.norm (S' := [r932, r906, r905]) (st' := [(.int (1 : Int32))]) (fun _ q => List.mem_append_right _ q) rfl ?_
      refine Ow.iconst (pc' := 65) (x := (1 : Int32)) B at_64 ?_
      refine Ow.icmpF (pc' := 68) B at_65 (by decide) ?_
      refine Ow.aload (pc' := 70) B at_68 ?_
      refine Ow.aload (pc' := 72) B at_70 ?_
      refine Ow.Go.old (fun o979 => ?_)
      refine Ow.callFace (pc' := 77) (W := 0) (k' := 11) (n' := 25) (argsL := [(.ref r905)]) (rest := []) (K := "java/util/ImmutableCollections$Set12") B at_72 (w108 hw) (w109 hw) (w110 hw) (w111 hw) (w112 hw) (w113 hw) (w114 hw) (w106 hw) (w38 hw) (w115 hw) f948 (con_contains_18 hw G GS (pa0 := r944) (pa1 := r905) o979 f949 f971 (by omega) (by omega)) pd12 ?_
      intro vq980 h981 S982 q980 zh981
      obtain ⟨rfl, rfl, rfl⟩ := q980
      refine Ow.Go.norm (S' := [r932, r906, r905]) (st' := [(.int (1 : Int32))]) (fun _ q => List.mem_append_right _ q) rfl ?_
      refine Ow.ifF (pc' := 80) B at_77 (by decide) ?_
      refine Ow.aload (pc' := 82) B at_80 ?_
      refine Ow.aload (pc' := 84) B at_82 ?_
      refine Ow.Go.old (fun o983 => ?_)
      refine Ow.callFace (pc' := 89) (W := 0) (k' := 11) (n' := 25) (argsL := [(.ref r932)]) (rest := []) (K := "java/util/ImmutableCollections$Set12") B at_84 (w108 hw) (w109 hw) (w110 hw) (w111 hw) (w112 hw) (w113 hw) (w114 hw) (w106 hw) (w38 hw) (w115 hw) f948 (con_contains_101 hw G GS (pa0 := r944) (pa1 := r932) (pa2 := r905) (pa3 := r933) (pa4 := r906) (px0 := y908) (px1 := y909) (px2 := y910) (pk0 := k934) (pk1 := k907) o983 f949 f950 f964 f965 f966 f971 f961 f963 f969 f968 (by omega) (by omega) (by omega) (by omega) (by omega) (by omega) c920 c921 c922) pd12 ?_
      intro vq984 h985 S986 q984 zh985
      obtain ⟨rfl, rfl, rfl⟩ := q984
      refine Ow.Go.norm (S' := [r932, r906, r905]) (st' := [(.int (0 : Int32))]) (fun _ q => List.mem_append_right _ q) rfl ?_
      refine Ow.iload (pc' := 91) B at_89 ?_
      refine Ow.icmpF (pc' := 94) B at_91 (by decide) ?_
      refine Ow.iconst (pc' := 95) (x := (1 : Int32)) B at_94 ?_
      refine Ow.goto (pc' := 99) B at_95 ?_
      exact Ow.retI (S' := []) (t := .boolean) B at_99 (rfl)
    · refine Ow.iand (pc' := 17) (z := (1 : Int32)) (hz := hz16) B at_16 ?_
      refine Ow.iloadN (pc' := 18) B at_17 ?_
      refine Ow.iloadN (pc' := 19) B at_18 ?_
      refine Ow.Go.old (fun o987 => ?_)
      refine Ow.callStatic (pc' := 22) (W := 0) (k' := 6) (n' := 16) (argsL := [(.int (1 : Int32)), (.int x2), (.int x3)]) (rest := []) B at_19 (w0 hw) (w1 hw) (w2 hw) (w3 hw) (con_mk_26 hw G GS (px0 := x2) (px1 := x3) o987) pd2 ?_
      intro vq988 h989 S990 q988 zh989
      obtain ⟨r991, r992, k993, y994, rfl, Kh989, c995, c996, c997, c998, br991, br992, n999, f1000, f1001, f1002, f1003, rfl⟩ := q988
      have lr991 : (r991 : Nat) < h989.size := f1000.lt
      have lr992 : (r992 : Nat) < h989.size := f1003.lt
      refine Ow.Go.norm (S' := [r992, r991, r906, r905]) (st' := [(.ref r991)]) (fun _ q => q) rfl ?_
      refine Ow.astore (pc' := 24) (Ls' := #[.val (.int x0), .val (.int x1), .val (.int x2), .val (.int x3), .val (.int x4), .val (.ref r905), .val (.ref r991), .unset, .unset, .unset]) B at_22 ?_
      refine Ow.aload (pc' := 26) B at_24 ?_
      refine Ow.Go.old (fun o1004 => ?_)
      refine Ow.callStatic (pc' := 29) (W := 0) (k' := 8) (n' := 19) (argsL := [(.ref r905)]) (rest := []) B at_26 (w26 hw) (w27 hw) (w28 hw) (w29 hw) (con_upTo_11 hw G GS (pa0 := r905) o1004) pd8 ?_
      intro vq1005 h1006 S1007 q1005 zh1006
      obtain ⟨r1008, r1009, rfl, Kh1006, br1008, br1009, n1010, f1011, f1012, f1013, f1014, f1015, rfl⟩ := q1005
      have lr1008 : (r1008 : Nat) < h1006.size := f1011.lt
      have lr1009 : (r1009 : Nat) < h1006.size := f1013.lt
      refine Ow.Go.norm (S' := [r992, r991, r906, r905]) (st' := [(.ref r1008)]) (fun _ q => List.mem_append_right _ q) rfl ?_
      refine Ow.astore (pc' := 31) (Ls' := #[.val (.int x0), .val (.int x1), .val (.int x2), .val (.int x3), .val (.int x4), .val (.ref r905), .val (.ref r991), .val (.ref r1008), .unset, .unset]) B at_29 ?_
      refine Ow.aload (pc' := 33) B at_31 ?_
      refine Ow.Go.old (fun o1016 => ?_)
      refine Ow.callVirtual (pc' := 36) (W := 0) (k' := 8) (n' := 19) (argsL := []) (rest := []) (K := "com/example/entitlement/entitlement/Scope") B at_33 (w78 hw) (w79 hw) (w81 hw) (w81 hw) (w80 hw) (w28 hw) (w82 hw) f1011 (con_everySenior_12 hw G GS (pa0 := r1008) (pa1 := r1009) o1016 f1012 (by omega)) pd9 ?_
      intro vq1017 h1018 S1019 q1017 zh1018
      obtain ⟨rfl, rfl, rfl⟩ := q1017
      refine Ow.Go.norm (S' := [r992, r991, r906, r905]) (st' := [(.int (0 : Int32))]) (fun _ q => List.mem_append_right _ q) rfl ?_
      refine Ow.ifT (pc' := 41) B at_36 (by decide) ?_
      refine Ow.aload (pc' := 43) B at_41 ?_
      refine Ow.Go.old (fun o1020 => ?_)
      refine Ow.callVirtual (pc' := 46) (W := 0) (k' := 8) (n' := 19) (argsL := []) (rest := []) (K := "com/example/entitlement/entitlement/Scope") B at_43 (w83 hw) (w84 hw) (w86 hw) (w86 hw) (w85 hw) (w28 hw) (w87 hw) f1011 (con_bounds_13 hw G GS (pa0 := r1008) (pa1 := r1009) o1020 f1012 (by omega)) pd10 ?_
      intro vq1021 h1022 S1023 q1021 zh1022
      obtain ⟨rfl, rfl, rfl⟩ := q1021
      refine Ow.Go.norm (S' := [r992, r991, r906, r905]) (st' := [(.ref r1009)]) (fun _ q => List.mem_append_right _ q) rfl ?_
      refine Ow.astore (pc' := 48) (Ls' := #[.val (.int x0), .val (.int x1), .val (.int x2), .val (.int x3), .val (.int x4), .val (.ref r905), .val (.ref r991), .val (.ref r1008), .val (.ref r1009), .unset]) B at_46 ?_
      refine Ow.aload (pc' := 50) B at_48 ?_
      refine Ow.aload (pc' := 52) B at_50 ?_
      refine Ow.Go.old (fun o1024 => ?_)
      have f1025 := f925.keep Kh989 Ow.nin0
      have f1026 := f1025.keep Kh1006 Ow.nin0
      have f1027 := f926.keep Kh989 Ow.nin0
      have f1028 := f1027.keep Kh1006 Ow.nin0
      have f1029 := f1000.keep Kh1006
      have f1030 := f1001.keep Kh1006 Ow.nin0
      have f1031 := f1002.keep Kh1006 Ow.nin0
      have f1032 := f927.keep Kh989 Ow.nin0
      have f1033 := f1032.keep Kh1006 Ow.nin0
      have f1034 := f1003.keep Kh1006 Ow.nin0
      have f1035 := f924.keep Kh989
      have f1036 := f1035.keep Kh1006
      refine Ow.callVirtual (pc' := 55) (W := 0) (k' := 8) (n' := 19) (argsL := [(.ref r991)]) (rest := []) (K := "java/lang/String") B at_52 (w88 hw) (w89 hw) (w91 hw) (w91 hw) (w90 hw) (w6 hw) (w92 hw) f1036 (con_equals_103 hw G GS (pa0 := r905) (pa1 := r991) (pa2 := r906) (pa3 := r992) (px0 := y908) (px1 := y909) (px2 := y910) (px3 := y994) (pk0 := k907) (pk1 := k993) o1024 f1026 f1028 f1029 f1030 f1031 f1033 f1034 (by omega) (by omega) (by omega) (by omega) (by omega) c920 c921 c922 c998) pd12 ?_
      intro vq1037 h1038 S1039 q1037 zh1038
      obtain ⟨rfl, rfl, rfl⟩ := q1037
      refine Ow.Go.norm (S' := [r992, r991, r906, r905]) (st' := [(.int (0 : Int32))]) (fun _ q => List.mem_append_right _ q) rfl ?_
      refine Ow.istore (pc' := 57) (Ls' := #[.val (.int x0), .val (.int x1), .val (.int x2), .val (.int x3), .val (.int x4), .val (.ref r905), .val (.ref r991), .val (.ref r1008), .val (.ref r1009), .val (.int (0 : Int32))]) B at_55 ?_
      refine Ow.aload (pc' := 59) B at_57 ?_
      refine Ow.Go.old (fun o1040 => ?_)
      refine Ow.callFace (pc' := 64) (W := 0) (k' := 8) (n' := 19) (argsL := []) (rest := []) (K := "java/util/ImmutableCollections$Set12") B at_59 (w99 hw) (w100 hw) (w101 hw) (w102 hw) (w103 hw) (w104 hw) (w105 hw) (w106 hw) (w38 hw) (w107 hw) f1013 (con_size_16 hw G GS (pa0 := r1009) o1040 f1015 (by omega)) pd13 ?_
      intro vq1041 h1042 S1043 q1041 zh1042
      obtain ⟨rfl, rfl, rfl⟩ := q1041
      refine Ow.Go.norm (S' := [r992, r991, r906, r905]) (st' := [(.int (1 : Int32))]) (fun _ q => List.mem_append_right _ q) rfl ?_
      refine Ow.iconst (pc' := 65) (x := (1 : Int32)) B at_64 ?_
      refine Ow.icmpF (pc' := 68) B at_65 (by decide) ?_
      refine Ow.aload (pc' := 70) B at_68 ?_
      refine Ow.aload (pc' := 72) B at_70 ?_
      refine Ow.Go.old (fun o1044 => ?_)
      refine Ow.callFace (pc' := 77) (W := 0) (k' := 8) (n' := 19) (argsL := [(.ref r905)]) (rest := []) (K := "java/util/ImmutableCollections$Set12") B at_72 (w108 hw) (w109 hw) (w110 hw) (w111 hw) (w112 hw) (w113 hw) (w114 hw) (w106 hw) (w38 hw) (w115 hw) f1013 (con_contains_18 hw G GS (pa0 := r1009) (pa1 := r905) o1044 f1014 f1036 (by omega) (by omega)) pd12 ?_
      intro vq1045 h1046 S1047 q1045 zh1046
      obtain ⟨rfl, rfl, rfl⟩ := q1045
      refine Ow.Go.norm (S' := [r992, r991, r906, r905]) (st' := [(.int (1 : Int32))]) (fun _ q => List.mem_append_right _ q) rfl ?_
      refine Ow.ifF (pc' := 80) B at_77 (by decide) ?_
      refine Ow.aload (pc' := 82) B at_80 ?_
      refine Ow.aload (pc' := 84) B at_82 ?_
      refine Ow.Go.old (fun o1048 => ?_)
      refine Ow.callFace (pc' := 89) (W := 0) (k' := 8) (n' := 19) (argsL := [(.ref r991)]) (rest := []) (K := "java/util/ImmutableCollections$Set12") B at_84 (w108 hw) (w109 hw) (w110 hw) (w111 hw) (w112 hw) (w113 hw) (w114 hw) (w106 hw) (w38 hw) (w115 hw) f1013 (con_contains_106 hw G GS (pa0 := r1009) (pa1 := r991) (pa2 := r905) (pa3 := r992) (pa4 := r906) (px0 := y994) (px1 := y908) (px2 := y909) (px3 := y910) (pk0 := k993) (pk1 := k907) o1048 f1014 f1015 f1029 f1030 f1031 f1036 f1026 f1028 f1034 f1033 (by omega) (by omega) (by omega) (by omega) (by omega) (by omega) (by omega) c998 c920 c921 c922) pd12 ?_
      intro vq1049 h1050 S1051 q1049 zh1050
      obtain ⟨rfl, rfl, rfl⟩ := q1049
      refine Ow.Go.norm (S' := [r992, r991, r906, r905]) (st' := [(.int (0 : Int32))]) (fun _ q => List.mem_append_right _ q) rfl ?_
      refine Ow.iload (pc' := 91) B at_89 ?_
      refine Ow.icmpF (pc' := 94) B at_91 (by decide) ?_
      refine Ow.iconst (pc' := 95) (x := (1 : Int32)) B at_94 ?_
      refine Ow.goto (pc' := 99) B at_95 ?_
      exact Ow.retI (S' := []) (t := .boolean) B at_99 (rfl)
    · refine Ow.iand (pc' := 17) (z := (2 : Int32)) (hz := hz16) B at_16 ?_
      refine Ow.iloadN (pc' := 18) B at_17 ?_
      refine Ow.iloadN (pc' := 19) B at_18 ?_
      refine Ow.Go.old (fun o1052 => ?_)
      refine Ow.callStatic (pc' := 22) (W := 0) (k' := 6) (n' := 18) (argsL := [(.int (2 : Int32)), (.int x2), (.int x3)]) (rest := []) B at_19 (w0 hw) (w1 hw) (w2 hw) (w3 hw) (con_mk_37 hw G GS (px0 := x2) (px1 := x3) o1052) pd2 ?_
      intro vq1053 h1054 S1055 q1053 zh1054
      obtain ⟨r1056, r1057, k1058, y1059, y1060, rfl, Kh1054, c1061, c1062, c1063, c1064, c1065, c1066, c1067, c1068, br1056, br1057, n1069, f1070, f1071, f1072, f1073, rfl⟩ := q1053
      have lr1056 : (r1056 : Nat) < h1054.size := f1070.lt
      have lr1057 : (r1057 : Nat) < h1054.size := f1073.lt
      refine Ow.Go.norm (S' := [r1057, r1056, r906, r905]) (st' := [(.ref r1056)]) (fun _ q => q) rfl ?_
      refine Ow.astore (pc' := 24) (Ls' := #[.val (.int x0), .val (.int x1), .val (.int x2), .val (.int x3), .val (.int x4), .val (.ref r905), .val (.ref r1056), .unset, .unset, .unset]) B at_22 ?_
      refine Ow.aload (pc' := 26) B at_24 ?_
      refine Ow.Go.old (fun o1074 => ?_)
      refine Ow.callStatic (pc' := 29) (W := 0) (k' := 8) (n' := 21) (argsL := [(.ref r905)]) (rest := []) B at_26 (w26 hw) (w27 hw) (w28 hw) (w29 hw) (con_upTo_11 hw G GS (pa0 := r905) o1074) pd8 ?_
      intro vq1075 h1076 S1077 q1075 zh1076
      obtain ⟨r1078, r1079, rfl, Kh1076, br1078, br1079, n1080, f1081, f1082, f1083, f1084, f1085, rfl⟩ := q1075
      have lr1078 : (r1078 : Nat) < h1076.size := f1081.lt
      have lr1079 : (r1079 : Nat) < h1076.size := f1083.lt
      refine Ow.Go.norm (S' := [r1057, r1056, r906, r905]) (st' := [(.ref r1078)]) (fun _ q => List.mem_append_right _ q) rfl ?_
      refine Ow.astore (pc' := 31) (Ls' := #[.val (.int x0), .val (.int x1), .val (.int x2), .val (.int x3), .val (.int x4), .val (.ref r905), .val (.ref r1056), .val (.ref r1078), .unset, .unset]) B at_29 ?_
      refine Ow.aload (pc' := 33) B at_31 ?_
      refine Ow.Go.old (fun o1086 => ?_)
      refine Ow.callVirtual (pc' := 36) (W := 0) (k' := 8) (n' := 21) (argsL := []) (rest := []) (K := "com/example/entitlement/entitlement/Scope") B at_33 (w78 hw) (w79 hw) (w81 hw) (w81 hw) (w80 hw) (w28 hw) (w82 hw) f1081 (con_everySenior_12 hw G GS (pa0 := r1078) (pa1 := r1079) o1086 f1082 (by omega)) pd9 ?_
      intro vq1087 h1088 S1089 q1087 zh1088
      obtain ⟨rfl, rfl, rfl⟩ := q1087
      refine Ow.Go.norm (S' := [r1057, r1056, r906, r905]) (st' := [(.int (0 : Int32))]) (fun _ q => List.mem_append_right _ q) rfl ?_
      refine Ow.ifT (pc' := 41) B at_36 (by decide) ?_
      refine Ow.aload (pc' := 43) B at_41 ?_
      refine Ow.Go.old (fun o1090 => ?_)
      refine Ow.callVirtual (pc' := 46) (W := 0) (k' := 8) (n' := 21) (argsL := []) (rest := []) (K := "com/example/entitlement/entitlement/Scope") B at_43 (w83 hw) (w84 hw) (w86 hw) (w86 hw) (w85 hw) (w28 hw) (w87 hw) f1081 (con_bounds_13 hw G GS (pa0 := r1078) (pa1 := r1079) o1090 f1082 (by omega)) pd10 ?_
      intro vq1091 h1092 S1093 q1091 zh1092
      obtain ⟨rfl, rfl, rfl⟩ := q1091
      refine Ow.Go.norm (S' := [r1057, r1056, r906, r905]) (st' := [(.ref r1079)]) (fun _ q => List.mem_append_right _ q) rfl ?_
      refine Ow.astore (pc' := 48) (Ls' := #[.val (.int x0), .val (.int x1), .val (.int x2), .val (.int x3), .val (.int x4), .val (.ref r905), .val (.ref r1056), .val (.ref r1078), .val (.ref r1079), .unset]) B at_46 ?_
      refine Ow.aload (pc' := 50) B at_48 ?_
      refine Ow.aload (pc' := 52) B at_50 ?_
      refine Ow.Go.old (fun o1094 => ?_)
      have f1095 := f925.keep Kh1054 Ow.nin0
      have f1096 := f1095.keep Kh1076 Ow.nin0
      have f1097 := f926.keep Kh1054 Ow.nin0
      have f1098 := f1097.keep Kh1076 Ow.nin0
      have f1099 := f1070.keep Kh1076
      have f1100 := f1071.keep Kh1076 Ow.nin0
      have f1101 := f1072.keep Kh1076 Ow.nin0
      have f1102 := f927.keep Kh1054 Ow.nin0
      have f1103 := f1102.keep Kh1076 Ow.nin0
      have f1104 := f1073.keep Kh1076 Ow.nin0
      have f1105 := f924.keep Kh1054
      have f1106 := f1105.keep Kh1076
      refine Ow.callVirtual (pc' := 55) (W := 0) (k' := 8) (n' := 21) (argsL := [(.ref r1056)]) (rest := []) (K := "java/lang/String") B at_52 (w88 hw) (w89 hw) (w91 hw) (w91 hw) (w90 hw) (w6 hw) (w92 hw) f1106 (con_equals_108 hw G GS (pa0 := r905) (pa1 := r1056) (pa2 := r906) (pa3 := r1057) (px0 := y908) (px1 := y909) (px2 := y910) (px3 := y1059) (px4 := y1060) (pk0 := k907) (pk1 := k1058) o1094 f1096 f1098 f1099 f1100 f1101 f1103 f1104 (by omega) (by omega) (by omega) (by omega) (by omega) c920 c921 c922 c1067 c1068) pd12 ?_
      intro vq1107 h1108 S1109 q1107 zh1108
      obtain ⟨rfl, rfl, rfl⟩ := q1107
      refine Ow.Go.norm (S' := [r1057, r1056, r906, r905]) (st' := [(.int (0 : Int32))]) (fun _ q => List.mem_append_right _ q) rfl ?_
      refine Ow.istore (pc' := 57) (Ls' := #[.val (.int x0), .val (.int x1), .val (.int x2), .val (.int x3), .val (.int x4), .val (.ref r905), .val (.ref r1056), .val (.ref r1078), .val (.ref r1079), .val (.int (0 : Int32))]) B at_55 ?_
      refine Ow.aload (pc' := 59) B at_57 ?_
      refine Ow.Go.old (fun o1110 => ?_)
      refine Ow.callFace (pc' := 64) (W := 0) (k' := 8) (n' := 21) (argsL := []) (rest := []) (K := "java/util/ImmutableCollections$Set12") B at_59 (w99 hw) (w100 hw) (w101 hw) (w102 hw) (w103 hw) (w104 hw) (w105 hw) (w106 hw) (w38 hw) (w107 hw) f1083 (con_size_16 hw G GS (pa0 := r1079) o1110 f1085 (by omega)) pd13 ?_
      intro vq1111 h1112 S1113 q1111 zh1112
      obtain ⟨rfl, rfl, rfl⟩ := q1111
      refine Ow.Go.norm (S' := [r1057, r1056, r906, r905]) (st' := [(.int (1 : Int32))]) (fun _ q => List.mem_append_right _ q) rfl ?_
      refine Ow.iconst (pc' := 65) (x := (1 : Int32)) B at_64 ?_
      refine Ow.icmpF (pc' := 68) B at_65 (by decide) ?_
      refine Ow.aload (pc' := 70) B at_68 ?_
      refine Ow.aload (pc' := 72) B at_70 ?_
      refine Ow.Go.old (fun o1114 => ?_)
      refine Ow.callFace (pc' := 77) (W := 0) (k' := 8) (n' := 21) (argsL := [(.ref r905)]) (rest := []) (K := "java/util/ImmutableCollections$Set12") B at_72 (w108 hw) (w109 hw) (w110 hw) (w111 hw) (w112 hw) (w113 hw) (w114 hw) (w106 hw) (w38 hw) (w115 hw) f1083 (con_contains_18 hw G GS (pa0 := r1079) (pa1 := r905) o1114 f1084 f1106 (by omega) (by omega)) pd12 ?_
      intro vq1115 h1116 S1117 q1115 zh1116
      obtain ⟨rfl, rfl, rfl⟩ := q1115
      refine Ow.Go.norm (S' := [r1057, r1056, r906, r905]) (st' := [(.int (1 : Int32))]) (fun _ q => List.mem_append_right _ q) rfl ?_
      refine Ow.ifF (pc' := 80) B at_77 (by decide) ?_
      refine Ow.aload (pc' := 82) B at_80 ?_
      refine Ow.aload (pc' := 84) B at_82 ?_
      refine Ow.Go.old (fun o1118 => ?_)
      refine Ow.callFace (pc' := 89) (W := 0) (k' := 8) (n' := 21) (argsL := [(.ref r1056)]) (rest := []) (K := "java/util/ImmutableCollections$Set12") B at_84 (w108 hw) (w109 hw) (w110 hw) (w111 hw) (w112 hw) (w113 hw) (w114 hw) (w106 hw) (w38 hw) (w115 hw) f1083 (con_contains_111 hw G GS (pa0 := r1079) (pa1 := r1056) (pa2 := r905) (pa3 := r1057) (pa4 := r906) (px0 := y1059) (px1 := y1060) (px2 := y908) (px3 := y909) (px4 := y910) (pk0 := k1058) (pk1 := k907) o1118 f1084 f1085 f1099 f1100 f1101 f1106 f1096 f1098 f1104 f1103 (by omega) (by omega) (by omega) (by omega) (by omega) (by omega) (by omega) c1067 c1068 c920 c921 c922) pd12 ?_
      intro vq1119 h1120 S1121 q1119 zh1120
      obtain ⟨rfl, rfl, rfl⟩ := q1119
      refine Ow.Go.norm (S' := [r1057, r1056, r906, r905]) (st' := [(.int (0 : Int32))]) (fun _ q => List.mem_append_right _ q) rfl ?_
      refine Ow.iload (pc' := 91) B at_89 ?_
      refine Ow.icmpF (pc' := 94) B at_91 (by decide) ?_
      refine Ow.iconst (pc' := 95) (x := (1 : Int32)) B at_94 ?_
      refine Ow.goto (pc' := 99) B at_95 ?_
      exact Ow.retI (S' := []) (t := .boolean) B at_99 (rfl)
    · refine Ow.iand (pc' := 17) (z := (3 : Int32)) (hz := hz16) B at_16 ?_
      refine Ow.iloadN (pc' := 18) B at_17 ?_
      refine Ow.iloadN (pc' := 19) B at_18 ?_
      refine Ow.Go.old (fun o1122 => ?_)
      refine Ow.callStatic (pc' := 22) (W := 0) (k' := 6) (n' := 20) (argsL := [(.int (3 : Int32)), (.int x2), (.int x3)]) (rest := []) B at_19 (w0 hw) (w1 hw) (w2 hw) (w3 hw) (con_mk_48 hw G GS (px0 := x2) (px1 := x3) o1122) pd2 ?_
      intro vq1123 h1124 S1125 q1123 zh1124
      obtain ⟨r1126, r1127, k1128, y1129, y1130, y1131, rfl, Kh1124, c1132, c1133, c1134, c1135, c1136, c1137, c1138, c1139, c1140, c1141, c1142, c1143, br1126, br1127, n1144, f1145, f1146, f1147, f1148, rfl⟩ := q1123
      have lr1126 : (r1126 : Nat) < h1124.size := f1145.lt
      have lr1127 : (r1127 : Nat) < h1124.size := f1148.lt
      refine Ow.Go.norm (S' := [r1127, r1126, r906, r905]) (st' := [(.ref r1126)]) (fun _ q => q) rfl ?_
      refine Ow.astore (pc' := 24) (Ls' := #[.val (.int x0), .val (.int x1), .val (.int x2), .val (.int x3), .val (.int x4), .val (.ref r905), .val (.ref r1126), .unset, .unset, .unset]) B at_22 ?_
      refine Ow.aload (pc' := 26) B at_24 ?_
      refine Ow.Go.old (fun o1149 => ?_)
      refine Ow.callStatic (pc' := 29) (W := 0) (k' := 8) (n' := 23) (argsL := [(.ref r905)]) (rest := []) B at_26 (w26 hw) (w27 hw) (w28 hw) (w29 hw) (con_upTo_11 hw G GS (pa0 := r905) o1149) pd8 ?_
      intro vq1150 h1151 S1152 q1150 zh1151
      obtain ⟨r1153, r1154, rfl, Kh1151, br1153, br1154, n1155, f1156, f1157, f1158, f1159, f1160, rfl⟩ := q1150
      have lr1153 : (r1153 : Nat) < h1151.size := f1156.lt
      have lr1154 : (r1154 : Nat) < h1151.size := f1158.lt
      refine Ow.Go.norm (S' := [r1127, r1126, r906, r905]) (st' := [(.ref r1153)]) (fun _ q => List.mem_append_right _ q) rfl ?_
      refine Ow.astore (pc' := 31) (Ls' := #[.val (.int x0), .val (.int x1), .val (.int x2), .val (.int x3), .val (.int x4), .val (.ref r905), .val (.ref r1126), .val (.ref r1153), .unset, .unset]) B at_29 ?_
      refine Ow.aload (pc' := 33) B at_31 ?_
      refine Ow.Go.old (fun o1161 => ?_)
      refine Ow.callVirtual (pc' := 36) (W := 0) (k' := 8) (n' := 23) (argsL := []) (rest := []) (K := "com/example/entitlement/entitlement/Scope") B at_33 (w78 hw) (w79 hw) (w81 hw) (w81 hw) (w80 hw) (w28 hw) (w82 hw) f1156 (con_everySenior_12 hw G GS (pa0 := r1153) (pa1 := r1154) o1161 f1157 (by omega)) pd9 ?_
      intro vq1162 h1163 S1164 q1162 zh1163
      obtain ⟨rfl, rfl, rfl⟩ := q1162
      refine Ow.Go.norm (S' := [r1127, r1126, r906, r905]) (st' := [(.int (0 : Int32))]) (fun _ q => List.mem_append_right _ q) rfl ?_
      refine Ow.ifT (pc' := 41) B at_36 (by decide) ?_
      refine Ow.aload (pc' := 43) B at_41 ?_
      refine Ow.Go.old (fun o1165 => ?_)
      refine Ow.callVirtual (pc' := 46) (W := 0) (k' := 8) (n' := 23) (argsL := []) (rest := []) (K := "com/example/entitlement/entitlement/Scope") B at_43 (w83 hw) (w84 hw) (w86 hw) (w86 hw) (w85 hw) (w28 hw) (w87 hw) f1156 (con_bounds_13 hw G GS (pa0 := r1153) (pa1 := r1154) o1165 f1157 (by omega)) pd10 ?_
      intro vq1166 h1167 S1168 q1166 zh1167
      obtain ⟨rfl, rfl, rfl⟩ := q1166
      refine Ow.Go.norm (S' := [r1127, r1126, r906, r905]) (st' := [(.ref r1154)]) (fun _ q => List.mem_append_right _ q) rfl ?_
      refine Ow.astore (pc' := 48) (Ls' := #[.val (.int x0), .val (.int x1), .val (.int x2), .val (.int x3), .val (.int x4), .val (.ref r905), .val (.ref r1126), .val (.ref r1153), .val (.ref r1154), .unset]) B at_46 ?_
      refine Ow.aload (pc' := 50) B at_48 ?_
      refine Ow.aload (pc' := 52) B at_50 ?_
      refine Ow.Go.old (fun o1169 => ?_)
      have f1170 := f925.keep Kh1124 Ow.nin0
      have f1171 := f1170.keep Kh1151 Ow.nin0
      have f1172 := f926.keep Kh1124 Ow.nin0
      have f1173 := f1172.keep Kh1151 Ow.nin0
      have f1174 := f1145.keep Kh1151
      have f1175 := f1146.keep Kh1151 Ow.nin0
      have f1176 := f1147.keep Kh1151 Ow.nin0
      have f1177 := f927.keep Kh1124 Ow.nin0
      have f1178 := f1177.keep Kh1151 Ow.nin0
      have f1179 := f1148.keep Kh1151 Ow.nin0
      have f1180 := f924.keep Kh1124
      have f1181 := f1180.keep Kh1151
      refine Ow.callVirtual (pc' := 55) (W := 0) (k' := 8) (n' := 23) (argsL := [(.ref r1126)]) (rest := []) (K := "java/lang/String") B at_52 (w88 hw) (w89 hw) (w91 hw) (w91 hw) (w90 hw) (w6 hw) (w92 hw) f1181 (con_equals_113 hw G GS (pa0 := r905) (pa1 := r1126) (pa2 := r906) (pa3 := r1127) (px0 := y908) (px1 := y909) (px2 := y910) (px3 := y1129) (px4 := y1130) (px5 := y1131) (pk0 := k907) (pk1 := k1128) o1169 f1171 f1173 f1174 f1175 f1176 f1178 f1179 (by omega) (by omega) (by omega) (by omega) (by omega) c920 c921 c922 c1141 c1142 c1143) pd12 ?_
      intro vq1182 h1183 S1184 q1182 zh1183
      rcases q1182 with q1182 | q1182 | q1182 | q1182
      · obtain ⟨rfl, rfl, c1185, c1186, c1187, rfl⟩ := q1182
        refine Ow.Go.norm (S' := [r1127, r1126, r906, r905]) (st' := [(.int (1 : Int32))]) (fun _ q => List.mem_append_right _ q) rfl ?_
        refine Ow.istore (pc' := 57) (Ls' := #[.val (.int x0), .val (.int x1), .val (.int x2), .val (.int x3), .val (.int x4), .val (.ref r905), .val (.ref r1126), .val (.ref r1153), .val (.ref r1154), .val (.int (1 : Int32))]) B at_55 ?_
        refine Ow.aload (pc' := 59) B at_57 ?_
        refine Ow.Go.old (fun o1188 => ?_)
        refine Ow.callFace (pc' := 64) (W := 0) (k' := 8) (n' := 23) (argsL := []) (rest := []) (K := "java/util/ImmutableCollections$Set12") B at_59 (w99 hw) (w100 hw) (w101 hw) (w102 hw) (w103 hw) (w104 hw) (w105 hw) (w106 hw) (w38 hw) (w107 hw) f1158 (con_size_16 hw G GS (pa0 := r1154) o1188 f1160 (by omega)) pd13 ?_
        intro vq1189 h1190 S1191 q1189 zh1190
        obtain ⟨rfl, rfl, rfl⟩ := q1189
        refine Ow.Go.norm (S' := [r1127, r1126, r906, r905]) (st' := [(.int (1 : Int32))]) (fun _ q => List.mem_append_right _ q) rfl ?_
        refine Ow.iconst (pc' := 65) (x := (1 : Int32)) B at_64 ?_
        refine Ow.icmpF (pc' := 68) B at_65 (by decide) ?_
        refine Ow.aload (pc' := 70) B at_68 ?_
        refine Ow.aload (pc' := 72) B at_70 ?_
        refine Ow.Go.old (fun o1192 => ?_)
        refine Ow.callFace (pc' := 77) (W := 0) (k' := 8) (n' := 23) (argsL := [(.ref r905)]) (rest := []) (K := "java/util/ImmutableCollections$Set12") B at_72 (w108 hw) (w109 hw) (w110 hw) (w111 hw) (w112 hw) (w113 hw) (w114 hw) (w106 hw) (w38 hw) (w115 hw) f1158 (con_contains_18 hw G GS (pa0 := r1154) (pa1 := r905) o1192 f1159 f1181 (by omega) (by omega)) pd12 ?_
        intro vq1193 h1194 S1195 q1193 zh1194
        obtain ⟨rfl, rfl, rfl⟩ := q1193
        refine Ow.Go.norm (S' := [r1127, r1126, r906, r905]) (st' := [(.int (1 : Int32))]) (fun _ q => List.mem_append_right _ q) rfl ?_
        refine Ow.ifF (pc' := 80) B at_77 (by decide) ?_
        refine Ow.aload (pc' := 82) B at_80 ?_
        refine Ow.aload (pc' := 84) B at_82 ?_
        refine Ow.Go.old (fun o1196 => ?_)
        refine Ow.callFace (pc' := 89) (W := 0) (k' := 8) (n' := 23) (argsL := [(.ref r1126)]) (rest := []) (K := "java/util/ImmutableCollections$Set12") B at_84 (w108 hw) (w109 hw) (w110 hw) (w111 hw) (w112 hw) (w113 hw) (w114 hw) (w106 hw) (w38 hw) (w115 hw) f1158 (con_contains_116 hw G GS (pa0 := r1154) (pa1 := r1126) (pa2 := r905) (pa3 := r1127) (pa4 := r906) (px0 := y1129) (px1 := y1130) (px2 := y1131) (px3 := y908) (px4 := y909) (px5 := y910) (pk0 := k1128) (pk1 := k907) o1196 f1159 f1174 f1175 f1176 f1181 f1171 f1173 f1179 f1178 (by omega) (by omega) (by omega) (by omega) (by omega) (by omega) (c1185) (c1185.symm) (c1186) (c1186.symm) (c1187) (c1187.symm) c1141 c1142 c1143 c920 c921 c922) pd12 ?_
        intro vq1197 h1198 S1199 q1197 zh1198
        obtain ⟨rfl, rfl, rfl⟩ := q1197
        refine Ow.Go.norm (S' := [r1127, r1126, r906, r905]) (st' := [(.int (1 : Int32))]) (fun _ q => List.mem_append_right _ q) rfl ?_
        refine Ow.iload (pc' := 91) B at_89 ?_
        refine Ow.icmpF (pc' := 94) B at_91 (by decide) ?_
        refine Ow.iconst (pc' := 95) (x := (1 : Int32)) B at_94 ?_
        refine Ow.goto (pc' := 99) B at_95 ?_
        exact Ow.retI (S' := []) (t := .boolean) B at_99 (rfl)
      · obtain ⟨rfl, rfl, c1200, c1201, c1202, rfl⟩ := q1182
        refine Ow.Go.norm (S' := [r1127, r1126, r906, r905]) (st' := [(.int (0 : Int32))]) (fun _ q => List.mem_append_right _ q) rfl ?_
        refine Ow.istore (pc' := 57) (Ls' := #[.val (.int x0), .val (.int x1), .val (.int x2), .val (.int x3), .val (.int x4), .val (.ref r905), .val (.ref r1126), .val (.ref r1153), .val (.ref r1154), .val (.int (0 : Int32))]) B at_55 ?_
        refine Ow.aload (pc' := 59) B at_57 ?_
        refine Ow.Go.old (fun o1203 => ?_)
        refine Ow.callFace (pc' := 64) (W := 0) (k' := 8) (n' := 23) (argsL := []) (rest := []) (K := "java/util/ImmutableCollections$Set12") B at_59 (w99 hw) (w100 hw) (w101 hw) (w102 hw) (w103 hw) (w104 hw) (w105 hw) (w106 hw) (w38 hw) (w107 hw) f1158 (con_size_16 hw G GS (pa0 := r1154) o1203 f1160 (by omega)) pd13 ?_
        intro vq1204 h1205 S1206 q1204 zh1205
        obtain ⟨rfl, rfl, rfl⟩ := q1204
        refine Ow.Go.norm (S' := [r1127, r1126, r906, r905]) (st' := [(.int (1 : Int32))]) (fun _ q => List.mem_append_right _ q) rfl ?_
        refine Ow.iconst (pc' := 65) (x := (1 : Int32)) B at_64 ?_
        refine Ow.icmpF (pc' := 68) B at_65 (by decide) ?_
        refine Ow.aload (pc' := 70) B at_68 ?_
        refine Ow.aload (pc' := 72) B at_70 ?_
        refine Ow.Go.old (fun o1207 => ?_)
        refine Ow.callFace (pc' := 77) (W := 0) (k' := 8) (n' := 23) (argsL := [(.ref r905)]) (rest := []) (K := "java/util/ImmutableCollections$Set12") B at_72 (w108 hw) (w109 hw) (w110 hw) (w111 hw) (w112 hw) (w113 hw) (w114 hw) (w106 hw) (w38 hw) (w115 hw) f1158 (con_contains_18 hw G GS (pa0 := r1154) (pa1 := r905) o1207 f1159 f1181 (by omega) (by omega)) pd12 ?_
        intro vq1208 h1209 S1210 q1208 zh1209
        obtain ⟨rfl, rfl, rfl⟩ := q1208
        refine Ow.Go.norm (S' := [r1127, r1126, r906, r905]) (st' := [(.int (1 : Int32))]) (fun _ q => List.mem_append_right _ q) rfl ?_
        refine Ow.ifF (pc' := 80) B at_77 (by decide) ?_
        refine Ow.aload (pc' := 82) B at_80 ?_
        refine Ow.aload (pc' := 84) B at_82 ?_
        refine Ow.Go.old (fun o1211 => ?_)
        refine Ow.callFace (pc' := 89) (W := 0) (k' := 8) (n' := 23) (argsL := [(.ref r1126)]) (rest := []) (K := "java/util/ImmutableCollections$Set12") B at_84 (w108 hw) (w109 hw) (w110 hw) (w111 hw) (w112 hw) (w113 hw) (w114 hw) (w106 hw) (w38 hw) (w115 hw) f1158 (con_contains_119 hw G GS (pa0 := r1154) (pa1 := r1126) (pa2 := r905) (pa3 := r1127) (pa4 := r906) (px0 := y1129) (px1 := y1130) (px2 := y1131) (px3 := y908) (px4 := y909) (px5 := y910) (pk0 := k1128) (pk1 := k907) o1211 f1159 f1160 f1174 f1175 f1176 f1181 f1171 f1173 f1179 f1178 (by omega) (by omega) (by omega) (by omega) (by omega) (by omega) (by omega) (c1200) (c1200.symm) (c1201) (c1201.symm) (c1202) (fun q => c1202 q.symm) c1141 c1142 c1143 c920 c921 c922) pd12 ?_
        intro vq1212 h1213 S1214 q1212 zh1213
        obtain ⟨rfl, rfl, rfl⟩ := q1212
        refine Ow.Go.norm (S' := [r1127, r1126, r906, r905]) (st' := [(.int (0 : Int32))]) (fun _ q => List.mem_append_right _ q) rfl ?_
        refine Ow.iload (pc' := 91) B at_89 ?_
        refine Ow.icmpF (pc' := 94) B at_91 (by decide) ?_
        refine Ow.iconst (pc' := 95) (x := (1 : Int32)) B at_94 ?_
        refine Ow.goto (pc' := 99) B at_95 ?_
        exact Ow.retI (S' := []) (t := .boolean) B at_99 (rfl)
      · obtain ⟨rfl, rfl, c1215, c1216, rfl⟩ := q1182
        refine Ow.Go.norm (S' := [r1127, r1126, r906, r905]) (st' := [(.int (0 : Int32))]) (fun _ q => List.mem_append_right _ q) rfl ?_
        refine Ow.istore (pc' := 57) (Ls' := #[.val (.int x0), .val (.int x1), .val (.int x2), .val (.int x3), .val (.int x4), .val (.ref r905), .val (.ref r1126), .val (.ref r1153), .val (.ref r1154), .val (.int (0 : Int32))]) B at_55 ?_
        refine Ow.aload (pc' := 59) B at_57 ?_
        refine Ow.Go.old (fun o1217 => ?_)
        refine Ow.callFace (pc' := 64) (W := 0) (k' := 8) (n' := 23) (argsL := []) (rest := []) (K := "java/util/ImmutableCollections$Set12") B at_59 (w99 hw) (w100 hw) (w101 hw) (w102 hw) (w103 hw) (w104 hw) (w105 hw) (w106 hw) (w38 hw) (w107 hw) f1158 (con_size_16 hw G GS (pa0 := r1154) o1217 f1160 (by omega)) pd13 ?_
        intro vq1218 h1219 S1220 q1218 zh1219
        obtain ⟨rfl, rfl, rfl⟩ := q1218
        refine Ow.Go.norm (S' := [r1127, r1126, r906, r905]) (st' := [(.int (1 : Int32))]) (fun _ q => List.mem_append_right _ q) rfl ?_
        refine Ow.iconst (pc' := 65) (x := (1 : Int32)) B at_64 ?_
        refine Ow.icmpF (pc' := 68) B at_65 (by decide) ?_
        refine Ow.aload (pc' := 70) B at_68 ?_
        refine Ow.aload (pc' := 72) B at_70 ?_
        refine Ow.Go.old (fun o1221 => ?_)
        refine Ow.callFace (pc' := 77) (W := 0) (k' := 8) (n' := 23) (argsL := [(.ref r905)]) (rest := []) (K := "java/util/ImmutableCollections$Set12") B at_72 (w108 hw) (w109 hw) (w110 hw) (w111 hw) (w112 hw) (w113 hw) (w114 hw) (w106 hw) (w38 hw) (w115 hw) f1158 (con_contains_18 hw G GS (pa0 := r1154) (pa1 := r905) o1221 f1159 f1181 (by omega) (by omega)) pd12 ?_
        intro vq1222 h1223 S1224 q1222 zh1223
        obtain ⟨rfl, rfl, rfl⟩ := q1222
        refine Ow.Go.norm (S' := [r1127, r1126, r906, r905]) (st' := [(.int (1 : Int32))]) (fun _ q => List.mem_append_right _ q) rfl ?_
        refine Ow.ifF (pc' := 80) B at_77 (by decide) ?_
        refine Ow.aload (pc' := 82) B at_80 ?_
        refine Ow.aload (pc' := 84) B at_82 ?_
        refine Ow.Go.old (fun o1225 => ?_)
        refine Ow.callFace (pc' := 89) (W := 0) (k' := 8) (n' := 23) (argsL := [(.ref r1126)]) (rest := []) (K := "java/util/ImmutableCollections$Set12") B at_84 (w108 hw) (w109 hw) (w110 hw) (w111 hw) (w112 hw) (w113 hw) (w114 hw) (w106 hw) (w38 hw) (w115 hw) f1158 (con_contains_122 hw G GS (pa0 := r1154) (pa1 := r1126) (pa2 := r905) (pa3 := r1127) (pa4 := r906) (px0 := y1129) (px1 := y1130) (px2 := y1131) (px3 := y908) (px4 := y909) (px5 := y910) (pk0 := k1128) (pk1 := k907) o1225 f1159 f1160 f1174 f1175 f1176 f1181 f1171 f1173 f1179 f1178 (by omega) (by omega) (by omega) (by omega) (by omega) (by omega) (by omega) (c1215) (c1215.symm) (c1216) (fun q => c1216 q.symm) c1141 c1142 c1143 c920 c921 c922) pd12 ?_
        intro vq1226 h1227 S1228 q1226 zh1227
        obtain ⟨rfl, rfl, rfl⟩ := q1226
        refine Ow.Go.norm (S' := [r1127, r1126, r906, r905]) (st' := [(.int (0 : Int32))]) (fun _ q => List.mem_append_right _ q) rfl ?_
        refine Ow.iload (pc' := 91) B at_89 ?_
        refine Ow.icmpF (pc' := 94) B at_91 (by decide) ?_
        refine Ow.iconst (pc' := 95) (x := (1 : Int32)) B at_94 ?_
        refine Ow.goto (pc' := 99) B at_95 ?_
        exact Ow.retI (S' := []) (t := .boolean) B at_99 (rfl)
      · obtain ⟨rfl, rfl, c1229, rfl⟩ := q1182
        refine Ow.Go.norm (S' := [r1127, r1126, r906, r905]) (st' := [(.int (0 : Int32))]) (fun _ q => List.mem_append_right _ q) rfl ?_
        refine Ow.istore (pc' := 57) (Ls' := #[.val (.int x0), .val (.int x1), .val (.int x2), .val (.int x3), .val (.int x4), .val (.ref r905), .val (.ref r1126), .val (.ref r1153), .val (.ref r1154), .val (.int (0 : Int32))]) B at_55 ?_
        refine Ow.aload (pc' := 59) B at_57 ?_
        refine Ow.Go.old (fun o1230 => ?_)
        refine Ow.callFace (pc' := 64) (W := 0) (k' := 8) (n' := 23) (argsL := []) (rest := []) (K := "java/util/ImmutableCollections$Set12") B at_59 (w99 hw) (w100 hw) (w101 hw) (w102 hw) (w103 hw) (w104 hw) (w105 hw) (w106 hw) (w38 hw) (w107 hw) f1158 (con_size_16 hw G GS (pa0 := r1154) o1230 f1160 (by omega)) pd13 ?_
        intro vq1231 h1232 S1233 q1231 zh1232
        obtain ⟨rfl, rfl, rfl⟩ := q1231
        refine Ow.Go.norm (S' := [r1127, r1126, r906, r905]) (st' := [(.int (1 : Int32))]) (fun _ q => List.mem_append_right _ q) rfl ?_
        refine Ow.iconst (pc' := 65) (x := (1 : Int32)) B at_64 ?_
        refine Ow.icmpF (pc' := 68) B at_65 (by decide) ?_
        refine Ow.aload (pc' := 70) B at_68 ?_
        refine Ow.aload (pc' := 72) B at_70 ?_
        refine Ow.Go.old (fun o1234 => ?_)
        refine Ow.callFace (pc' := 77) (W := 0) (k' := 8) (n' := 23) (argsL := [(.ref r905)]) (rest := []) (K := "java/util/ImmutableCollections$Set12") B at_72 (w108 hw) (w109 hw) (w110 hw) (w111 hw) (w112 hw) (w113 hw) (w114 hw) (w106 hw) (w38 hw) (w115 hw) f1158 (con_contains_18 hw G GS (pa0 := r1154) (pa1 := r905) o1234 f1159 f1181 (by omega) (by omega)) pd12 ?_
        intro vq1235 h1236 S1237 q1235 zh1236
        obtain ⟨rfl, rfl, rfl⟩ := q1235
        refine Ow.Go.norm (S' := [r1127, r1126, r906, r905]) (st' := [(.int (1 : Int32))]) (fun _ q => List.mem_append_right _ q) rfl ?_
        refine Ow.ifF (pc' := 80) B at_77 (by decide) ?_
        refine Ow.aload (pc' := 82) B at_80 ?_
        refine Ow.aload (pc' := 84) B at_82 ?_
        refine Ow.Go.old (fun o1238 => ?_)
        refine Ow.callFace (pc' := 89) (W := 0) (k' := 8) (n' := 23) (argsL := [(.ref r1126)]) (rest := []) (K := "java/util/ImmutableCollections$Set12") B at_84 (w108 hw) (w109 hw) (w110 hw) (w111 hw) (w112 hw) (w113 hw) (w114 hw) (w106 hw) (w38 hw) (w115 hw) f1158 (con_contains_125 hw G GS (pa0 := r1154) (pa1 := r1126) (pa2 := r905) (pa3 := r1127) (pa4 := r906) (px0 := y1129) (px1 := y1130) (px2 := y1131) (px3 := y908) (px4 := y909) (px5 := y910) (pk0 := k1128) (pk1 := k907) o1238 f1159 f1160 f1174 f1175 f1176 f1181 f1171 f1173 f1179 f1178 (by omega) (by omega) (by omega) (by omega) (by omega) (by omega) (by omega) (c1229) (fun q => c1229 q.symm) c1141 c1142 c1143 c920 c921 c922) pd12 ?_
        intro vq1239 h1240 S1241 q1239 zh1240
        obtain ⟨rfl, rfl, rfl⟩ := q1239
        refine Ow.Go.norm (S' := [r1127, r1126, r906, r905]) (st' := [(.int (0 : Int32))]) (fun _ q => List.mem_append_right _ q) rfl ?_
        refine Ow.iload (pc' := 91) B at_89 ?_
        refine Ow.icmpF (pc' := 94) B at_91 (by decide) ?_
        refine Ow.iconst (pc' := 95) (x := (1 : Int32)) B at_94 ?_
        refine Ow.goto (pc' := 99) B at_95 ?_
        exact Ow.retI (S' := []) (t := .boolean) B at_99 (rfl)
set_option maxRecDepth 65536 in
set_option maxHeartbeats 40000000 in
theorem comes_1 {Post : Tables → Env → Array Value → State → Outcome → State → Prop} (hpost : ∀ tb e args s v u, (limb_1_1.after args s (.returned v) u = true ∧ limb_1_2.after args s (.returned v) u = true ∧ True) → ReturnedEndW s (.returned v) u (Jvm.fieldLocs frame_1_writes args s ++ Jvm.arrayLocs frame_1_arrays args s ++ Jvm.staticLocs frame_1_statics s) 32 1152 → Post tb e args s (.returned v) u) :
    ArmFor flags0 classFile x code maxLocals ret World_1 tables_1 room_1 Calls_1 rest_1 Pre_1 Post := by
  intro l hfl _ _ p e ha hc hk s m args below hf hA hF happ hP
  obtain ⟨hcalls, hrest, hpre⟩ := hP
  obtain ⟨-, -, -, hnamed, -, -, -, hat⟩ := (Spec.applies_iff hf).mp happ
  obtain ⟨hg, hn⟩ := and_e (Cond.before_iff.mp (show (Jvm.Cond.and given_1 narrow_1).before args s = true from hpre))
  obtain ⟨g0, hg⟩ := and_e hg
  obtain ⟨w0, w1, w2, w3, w4, rfl⟩ : ∃ w0 w1 w2 w3 w4 : Value, args = #[w0, w1, w2, w3, w4] := by
    have hs : args.size = 5 := by simpa [Cond.value, given_1] using g0
    obtain ⟨L⟩ := args
    match L, hs with
    | [w0, w1, w2, w3, w4], _ => exact ⟨w0, w1, w2, w3, w4, rfl⟩
  have hw := fun d (hd : d ∈ tables_1) => atoms_spec (ws := Jvm.Cond.code x code maxLocals ret :: tables_1) hat d (List.mem_cons_of_mem _ hd)
  have hsets := (atoms_of jdkStatics_1 (by rw [← rest_1_c_eq]; exact hrest)).1
  obtain ⟨g1, hg⟩ := and_e hg
  obtain ⟨i0, e0⟩ := is_v g1
  obtain rfl : w0 = (.int i0) := Option.some.inj e0
  obtain ⟨g2, hg⟩ := and_e hg
  obtain ⟨i1, e1⟩ := is_v g2
  obtain rfl : w1 = (.int i1) := Option.some.inj e1
  obtain ⟨g3, hg⟩ := and_e hg
  obtain ⟨i2, e2⟩ := is_v g3
  obtain rfl : w2 = (.int i2) := Option.some.inj e2
  obtain ⟨g4, hg⟩ := and_e hg
  obtain ⟨i3, e3⟩ := is_v g4
  obtain rfl : w3 = (.int i3) := Option.some.inj e3
  have g5 := hg
  obtain ⟨i4, e4⟩ := is_v g5
  obtain rfl : w4 = (.int i4) := Option.some.inj e4
  obtain ⟨cz, ecz⟩ := is_v (Cond.before_iff.mp (hsets _ (List.mem_of_getElem? (i := 10) rfl)))
  have hcz : cz ≠ 0 := gotF (Cond.eq_ints ecz (Term.int_eval (0))) (not_v (Cond.before_iff.mp (hsets _ (List.mem_of_getElem? (i := 11) rfl))))
  obtain ⟨sf, esf, rsf⟩ := isR_v (Cond.before_iff.mp (hsets _ (List.mem_of_getElem? (i := 17) rfl)))
  have G : Ow.Glo s cz sf := ⟨Sta.start ecz (Or.inl (hsets _ (List.mem_of_getElem? (i := 9) rfl))), hcz, Sta.start esf (Or.inl (hsets _ (List.mem_of_getElem? (i := 16) rfl))), rsf⟩
  have hCH : CHv s EL1 s.vm s.heap := CHv.start (hEW hw) (fun q hq => hcalls.1 q (by simp only [List.mem_cons, List.not_mem_nil, or_false] at hq; rcases hq with rfl <;> simp [consts_1])) (hsets _ (List.mem_of_getElem? (i := 11) rfl)) (w19 hw) (w5 hw)
  obtain ⟨u0, eu0⟩ := exa_v (Cond.before_iff.mp (hsets _ (List.mem_of_getElem? (i := 2) rfl)))
  have GS : GlS s u0 := ⟨Sta.start eu0 (Or.inl (hsets _ (List.mem_of_getElem? (i := 1) rfl))), Exa.start eu0 (Cond.before_iff.mp (hsets _ (List.mem_of_getElem? (i := 2) rfl)))⟩
  obtain ⟨n, o, h1, h2, h3, v, L, S', rfl, ⟨rfl, N, -, -⟩, -, hq⟩ := lawCon hw G GS i0 i1 i2 i3 i4 (Old.start s) p e ha hc hk s m _ below hf ((Spec.applies_iff_loose hf).mp happ).1 ⟨rfl, State.Warmed39.refl s, rfl, hCH, Ow.SafeL.nil⟩ trivial
  refine ⟨n, _, h1, h2, h3, hpost _ _ _ _ _ _ ⟨Cond.after_iff.mpr rfl, Cond.after_iff.mpr (eq_i res_at (Term.int_eval (1)) rfl), trivial⟩ ⟨hq.1, hq.2.1, hq.2.2.1, (hq.2.2.2.sift fun y hy => Or.inr (N y hy)).mono (by decide) (by decide)⟩⟩
theorem main_1_1 : Claimed_1_1 := comes_1 fun _ _ _ _ _ _ h hF => ⟨h.1, hF⟩
theorem main_1_2 : Claimed_1_2 := comes_1 fun _ _ _ _ _ _ h hF => ⟨h.2.1, hF⟩
end Jvm.Pilot.@@N@@
namespace Jvm.Pilot.@@N@@
open Jvm Jvm.ClassFile Sem Op Lib Jvm.Free Jvm.Stand Jvm.Pilot.@@N@@.Jvm.D
/-! MADE BY PROGRAM (witnessworld.py) out of the Statement's table words and the real class files: 34 classes; the members and pool entries that the words name. The judged class is class 1, her method 2. -/
namespace start1
open Jvm.ClassFile
def u (s : String) : CpInfo := .utf8 (stringToUtf16 s)
/-- a pool by its gaps: so many unusable entries, then the entry; so many at the end -/
def gap : Nat → List CpInfo → List CpInfo
  | 0, r => r
  | n + 1, r => .unusable :: gap n r
def poolList (es : List (Nat × CpInfo)) (last : Nat) : List CpInfo := es.foldr (fun e r => gap e.1 (e.2 :: r)) (gap last [])
def pool (es : List (Nat × CpInfo)) (last : Nat) : Array CpInfo := ⟨poolList es last⟩
def fileOf (pool : Array CpInfo) (this : Nat) (attrs : Array Attribute := #[]) (ms : Array MethodInfo := #[]) (fl : Nat := 33) (sup : Nat := 0) (ifs : Array Nat := #[]) (fds : Array FieldInfo := #[]) : ClassFile where
  minorVersion := 0
  majorVersion := 65
  constantPool := pool
  accessFlags := fl
  thisClass := this
  superClass := sup
  interfaces := ifs
  fields := fds
  methods := ms
  attributes := attrs
def plain (name : String) (sup : Option ClassId) : Class where
  name := name
  kind := .ordinary
  loader := none
  accessFlags := 33
  super := sup
  interfaces := #[]
  cf := none
  fields := #[]
  methods := #[]
  instanceTypes := #[]
  staticTypes := #[]
  resolved := #[]
  callSites := []
  init := .initialized
  statics := none
  mirror := none

def pool0 : Array CpInfo := pool [(5, u "<init>"), (0, u "()V"), (1, .class_ 10), (1, u "java/lang/Object"), (81, u "equals"), (0, u "(Ljava/lang/Object;)Z")] 30

def k0c0 : Code := { maxStack := 0, maxLocals := 1, code := object_method_1_code, exceptionTable := #[], attributes := #[] }
def k0m0 : Method := { name := "<init>", desc := "()V", sig := { parameters := [], returnType := none }, accessFlags := 1, code := some k0c0 }
def k0c1 : Code := { maxStack := 2, maxLocals := 2, code := object_method_4_code, exceptionTable := #[], attributes := #[] }
def k0m1 : Method := { name := "equals", desc := "(Ljava/lang/Object;)Z", sig := { parameters := [(.object "java/lang/Object")], returnType := some .boolean }, accessFlags := 1, code := some k0c1 }
/-- java/lang/Object -/
def k0 : Class := { plain "java/lang/Object" none with
  accessFlags := 33
  interfaces := #[]
  cf := some (fileOf pool0 8 #[] #[{ accessFlags := 1, nameIndex := 5, descriptorIndex := 6, attributes := #[] }, { accessFlags := 1, nameIndex := 92, descriptorIndex := 93, attributes := #[] }] 33 0 #[] #[])
  fields := #[]
  methods := #[k0m0, k0m1]
  instanceTypes := #[]
  staticTypes := #[]
  resolved := Array.replicate 124 none
  statics := none }

def pool1 : Array CpInfo := pool [(2, .class_ 4), (1, u "java/lang/Object"), (0, u "<init>"), (0, u "()V"), (0, .class_ 8), (0, u "java/lang/String"), (0, .methodref 7 10), (0, .nameAndType 5 11), (0, u "([C)V"), (0, .methodref 13 14), (0, .class_ 15), (0, .nameAndType 16 17), (0, u "com/example/entitlement/entitlement/ScopeUpToPinLaw"), (0, u "mk"), (0, u "(III)Ljava/lang/String;"), (0, .methodref 19 20), (0, .class_ 21), (0, .nameAndType 22 23), (0, u "com/example/entitlement/entitlement/Scope"), (0, u "upTo"), (0, u "(Ljava/lang/String;)Lcom/example/entitlement/entitlement/Scope;"), (0, .methodref 19 25), (0, .nameAndType 26 27), (0, u "everySenior"), (0, u "()Z"), (0, .methodref 19 29), (0, .nameAndType 30 31), (0, u "bounds"), (0, u "()Ljava/util/Set;"), (0, .methodref 7 33), (0, .nameAndType 34 35), (0, u "equals"), (0, u "(Ljava/lang/Object;)Z"), (0, .interfaceMethodref 37 38), (0, .class_ 39), (0, .nameAndType 40 41), (0, u "java/util/Set"), (0, u "size"), (0, u "()I"), (0, .interfaceMethodref 37 43), (0, .nameAndType 44 35), (0, u "contains"), (3, u "law"), (0, u "(IIIII)Z")] 2

def k1m0 : Method := { name := "<init>", desc := "()V", sig := { parameters := [], returnType := none }, accessFlags := 1, code := none }
def k1c1 : Code := { maxStack := 6, maxLocals := 6, code := method_2_code, exceptionTable := #[], attributes := #[] }
def k1m1 : Method := { name := "mk", desc := "(III)Ljava/lang/String;", sig := { parameters := [.int, .int, .int], returnType := some (.object "java/lang/String") }, accessFlags := 10, code := some k1c1 }
def k1c2 : Code := { maxStack := 3, maxLocals := 10, code := code, exceptionTable := #[], attributes := #[] }
def k1m2 : Method := { name := "law", desc := "(IIIII)Z", sig := { parameters := [.int, .int, .int, .int, .int], returnType := some .boolean }, accessFlags := 9, code := some k1c2 }
/-- com/example/entitlement/entitlement/ScopeUpToPinLaw -/
def k1 : Class := { plain "com/example/entitlement/entitlement/ScopeUpToPinLaw" (some 0) with
  accessFlags := 49
  interfaces := #[]
  cf := some (fileOf pool1 13 #[] #[{ accessFlags := 1, nameIndex := 5, descriptorIndex := 6, attributes := #[] }, { accessFlags := 10, nameIndex := 16, descriptorIndex := 17, attributes := #[] }, { accessFlags := 9, nameIndex := 48, descriptorIndex := 49, attributes := #[] }] 49 2 #[] #[])
  fields := #[]
  methods := #[k1m0, k1m1, k1m2]
  instanceTypes := #[]
  staticTypes := #[]
  resolved := Array.replicate 52 none
  statics := none }

def pool2 : Array CpInfo := pool [(1, .class_ 2), (0, u "java/io/Serializable"), (0, .class_ 4), (0, u "java/lang/Object")] 2

/-- java/io/Serializable -/
def k2 : Class := { plain "java/io/Serializable" (some 0) with
  accessFlags := 1537
  interfaces := #[]
  cf := some (fileOf pool2 1 #[] #[] 1537 3 #[] #[])
  fields := #[]
  methods := #[]
  instanceTypes := #[]
  staticTypes := #[]
  resolved := Array.replicate 7 none
  statics := none }

def pool3 : Array CpInfo := pool [(1, .class_ 2), (0, u "java/lang/Comparable"), (0, .class_ 4), (0, u "java/lang/Object")] 7

/-- java/lang/Comparable -/
def k3 : Class := { plain "java/lang/Comparable" (some 0) with
  accessFlags := 1537
  interfaces := #[]
  cf := some (fileOf pool3 1 #[] #[] 1537 3 #[] #[])
  fields := #[]
  methods := #[]
  instanceTypes := #[]
  staticTypes := #[]
  resolved := Array.replicate 12 none
  statics := none }

def pool4 : Array CpInfo := pool [(2, .class_ 4), (1, u "java/lang/CharSequence"), (42, .class_ 48), (0, u "java/lang/CharSequence$1CodePointIterator"), (10, .class_ 60), (0, u "java/lang/CharSequence$1CharIterator"), (5, .class_ 67), (0, u "java/lang/Object")] 63

/-- java/lang/CharSequence -/
def k4 : Class := { plain "java/lang/CharSequence" (some 0) with
  accessFlags := 1537
  interfaces := #[]
  cf := some (fileOf pool4 2 #[.nestMembers #[47, 59]] #[] 1537 66 #[] #[])
  fields := #[]
  methods := #[]
  instanceTypes := #[]
  staticTypes := #[]
  resolved := Array.replicate 131 none
  statics := none }

def pool5 : Array CpInfo := pool [(1, .class_ 2), (0, u "java/lang/constant/Constable"), (0, .class_ 4), (0, u "java/lang/Object")] 6

/-- java/lang/constant/Constable -/
def k5 : Class := { plain "java/lang/constant/Constable" (some 0) with
  accessFlags := 1537
  interfaces := #[]
  cf := some (fileOf pool5 1 #[] #[] 1537 3 #[] #[])
  fields := #[]
  methods := #[]
  instanceTypes := #[]
  staticTypes := #[]
  resolved := Array.replicate 11 none
  statics := none }

def pool6 : Array CpInfo := pool [(1, .class_ 2), (0, u "java/lang/constant/ConstantDesc"), (0, .class_ 4), (0, u "java/lang/Object")] 32

/-- java/lang/constant/ConstantDesc -/
def k6 : Class := { plain "java/lang/constant/ConstantDesc" (some 0) with
  accessFlags := 1537
  interfaces := #[]
  cf := some (fileOf pool6 1 #[] #[] 1537 3 #[] #[])
  fields := #[]
  methods := #[]
  instanceTypes := #[]
  staticTypes := #[]
  resolved := Array.replicate 37 none
  statics := none }

def pool7 : Array CpInfo := pool [(1, .methodref 2 3), (0, .class_ 4), (0, .nameAndType 5 6), (0, u "java/lang/Object"), (0, u "<init>"), (0, u "()V"), (0, .string 8), (0, u ""), (0, .fieldref 10 11), (0, .class_ 12), (0, .nameAndType 13 14), (0, u "java/lang/String"), (0, u "value"), (0, u "[B"), (0, .fieldref 10 16), (0, .nameAndType 17 18), (0, u "coder"), (0, u "B"), (2, u "hash"), (0, u "I"), (2, u "hashIsZero"), (0, u "Z"), (0, .methodref 10 28), (0, .nameAndType 5 29), (0, u "([CIILjava/lang/Void;)V"), (8, .fieldref 10 39), (0, .nameAndType 40 26), (0, u "COMPACT_STRINGS"), (1, .class_ 44), (1, u "java/lang/StringUTF16"), (0, u "compress"), (1, .methodref 42 48), (0, .nameAndType 49 50), (0, u "coderFromArrayLen"), (0, u "([BI)B"), (56, .class_ 109), (1, u "java/lang/StringLatin1"), (67, .methodref 42 178), (0, .nameAndType 45 179), (0, u "([CII)[B"), (361, .methodref 107 542), (0, .nameAndType 543 544), (0, u "equals"), (0, u "([B[B)Z"), (28, u "(Ljava/lang/Object;)Z"), (1, .class_ 576), (0, u "java/lang/CharSequence"), (22, u "CASE_INSENSITIVE_ORDER"), (0, u "Ljava/util/Comparator;"), (409, u "([C)V"), (90, u "serialPersistentFields"), (0, u "[Ljava/io/ObjectStreamField;"), (0, .class_ 1104), (0, u "java/lang/String$CaseInsensitiveComparator"), (1, .class_ 1107), (0, u "java/io/Serializable"), (0, .class_ 1109), (0, u "java/lang/Comparable"), (0, .class_ 1111), (0, u "java/lang/constant/Constable"), (0, .class_ 1113), (0, u "java/lang/constant/ConstantDesc"), (2, u "serialVersionUID"), (0, u "J"), (3, u "REPL"), (0, u "C"), (2, u "LATIN1"), (1, u "UTF16")] 323

def k7m0 : Method := { name := "<init>", desc := "()V", sig := { parameters := [], returnType := none }, accessFlags := 1, code := none }
def k7c1 : Code := { maxStack := 5, maxLocals := 2, code := jdk_42_method_3_code, exceptionTable := #[], attributes := #[] }
def k7m1 : Method := { name := "<init>", desc := "([C)V", sig := { parameters := [(.array .char)], returnType := none }, accessFlags := 1, code := some k7c1 }
def k7c2 : Code := { maxStack := 2, maxLocals := 3, code := jdk_42_method_66_code, exceptionTable := #[], attributes := #[] }
def k7m2 : Method := { name := "equals", desc := "(Ljava/lang/Object;)Z", sig := { parameters := [(.object "java/lang/Object")], returnType := some .boolean }, accessFlags := 1, code := some k7c2 }
def k7c3 : Code := { maxStack := 4, maxLocals := 6, code := jdk_42_method_149_code, exceptionTable := #[], attributes := #[] }
def k7m3 : Method := { name := "<init>", desc := "([CIILjava/lang/Void;)V", sig := { parameters := [(.array .char), .int, .int, (.object "java/lang/Void")], returnType := none }, accessFlags := 2, code := some k7c3 }
/-- java/lang/String -/
def k7 : Class := { plain "java/lang/String" (some 0) with
  accessFlags := 49
  interfaces := #[2, 3, 4, 5, 6]
  cf := some (fileOf pool7 10 #[.nestMembers #[1103]] #[{ accessFlags := 1, nameIndex := 5, descriptorIndex := 6, attributes := #[] }, { accessFlags := 1, nameIndex := 5, descriptorIndex := 1010, attributes := #[] }, { accessFlags := 1, nameIndex := 543, descriptorIndex := 573, attributes := #[] }, { accessFlags := 2, nameIndex := 5, descriptorIndex := 29, attributes := #[] }] 49 2 #[1106, 1108, 575, 1110, 1112] #[{ accessFlags := 18, nameIndex := 13, descriptorIndex := 14, attributes := #[] }, { accessFlags := 18, nameIndex := 17, descriptorIndex := 18, attributes := #[] }, { accessFlags := 2, nameIndex := 21, descriptorIndex := 22, attributes := #[] }, { accessFlags := 2, nameIndex := 25, descriptorIndex := 26, attributes := #[] }, { accessFlags := 26, nameIndex := 1116, descriptorIndex := 1117, attributes := #[] }, { accessFlags := 24, nameIndex := 40, descriptorIndex := 26, attributes := #[] }, { accessFlags := 26, nameIndex := 1101, descriptorIndex := 1102, attributes := #[] }, { accessFlags := 26, nameIndex := 1121, descriptorIndex := 1122, attributes := #[] }, { accessFlags := 25, nameIndex := 599, descriptorIndex := 600, attributes := #[] }, { accessFlags := 24, nameIndex := 1125, descriptorIndex := 18, attributes := #[] }, { accessFlags := 24, nameIndex := 1127, descriptorIndex := 18, attributes := #[] }])
  fields := #[{ name := "value", type := (.array .byte), accessFlags := 18, slot := 0, constantValue := 0 }, { name := "coder", type := .byte, accessFlags := 18, slot := 1, constantValue := 0 }, { name := "hash", type := .int, accessFlags := 2, slot := 2, constantValue := 0 }, { name := "hashIsZero", type := .boolean, accessFlags := 2, slot := 3, constantValue := 0 }, { name := "serialVersionUID", type := .long, accessFlags := 26, slot := 0, constantValue := 0 }, { name := "COMPACT_STRINGS", type := .boolean, accessFlags := 24, slot := 1, constantValue := 0 }, { name := "serialPersistentFields", type := (.array (.object "java/io/ObjectStreamField")), accessFlags := 26, slot := 2, constantValue := 0 }, { name := "REPL", type := .char, accessFlags := 26, slot := 3, constantValue := 0 }, { name := "CASE_INSENSITIVE_ORDER", type := (.object "java/util/Comparator"), accessFlags := 25, slot := 4, constantValue := 0 }, { name := "LATIN1", type := .byte, accessFlags := 24, slot := 5, constantValue := 0 }, { name := "UTF16", type := .byte, accessFlags := 24, slot := 6, constantValue := 0 }]
  methods := #[k7m0, k7m1, k7m2, k7m3]
  instanceTypes := #[(.array .byte), .byte, .int, .boolean]
  staticTypes := #[.long, .boolean, (.array (.object "java/io/ObjectStreamField")), .char, (.object "java/util/Comparator"), .byte, .byte]
  resolved := Array.replicate 1451 none
  statics := some 0 }

def pool8 : Array CpInfo := pool [(1, .methodref 2 3), (0, .class_ 4), (0, .nameAndType 5 6), (0, u "java/lang/Object"), (0, u "<init>"), (0, u "()V"), (0, .fieldref 8 9), (0, .class_ 10), (0, .nameAndType 11 12), (0, u "com/example/entitlement/entitlement/Scope"), (0, u "bounds"), (0, u "Ljava/util/Set;"), (0, .interfaceMethodref 14 15), (0, .class_ 16), (0, .nameAndType 17 18), (0, u "java/util/Set"), (0, u "of"), (0, u "(Ljava/lang/Object;)Ljava/util/Set;"), (0, .methodref 8 20), (0, .nameAndType 5 21), (0, u "(Ljava/util/Set;)V"), (21, u "()Z"), (6, u "everySenior"), (2, u "EVERY_SENIOR"), (0, u "Lcom/example/entitlement/entitlement/Scope;"), (10, u "()Ljava/util/Set;"), (2, u "OWN_ROLE"), (5, u "upTo"), (0, u "(Ljava/lang/String;)Lcom/example/entitlement/entitlement/Scope;")] 8

def k8c0 : Code := { maxStack := 2, maxLocals := 2, code := prog_26_method_1_code, exceptionTable := #[], attributes := #[] }
def k8m0 : Method := { name := "<init>", desc := "(Ljava/util/Set;)V", sig := { parameters := [(.object "java/util/Set")], returnType := none }, accessFlags := 2, code := some k8c0 }
def k8c1 : Code := { maxStack := 3, maxLocals := 1, code := prog_26_method_2_code, exceptionTable := #[], attributes := #[] }
def k8m1 : Method := { name := "upTo", desc := "(Ljava/lang/String;)Lcom/example/entitlement/entitlement/Scope;", sig := { parameters := [(.object "java/lang/String")], returnType := some (.object "com/example/entitlement/entitlement/Scope") }, accessFlags := 8, code := some k8c1 }
def k8c2 : Code := { maxStack := 1, maxLocals := 1, code := prog_26_method_3_code, exceptionTable := #[], attributes := #[] }
def k8m2 : Method := { name := "everySenior", desc := "()Z", sig := { parameters := [], returnType := some .boolean }, accessFlags := 0, code := some k8c2 }
def k8c3 : Code := { maxStack := 3, maxLocals := 1, code := prog_26_method_4_code, exceptionTable := #[], attributes := #[] }
def k8m3 : Method := { name := "bounds", desc := "()Ljava/util/Set;", sig := { parameters := [], returnType := some (.object "java/util/Set") }, accessFlags := 0, code := some k8c3 }
/-- com/example/entitlement/entitlement/Scope -/
def k8 : Class := { plain "com/example/entitlement/entitlement/Scope" (some 0) with
  accessFlags := 48
  interfaces := #[]
  cf := some (fileOf pool8 8 #[] #[{ accessFlags := 2, nameIndex := 5, descriptorIndex := 21, attributes := #[] }, { accessFlags := 8, nameIndex := 74, descriptorIndex := 75, attributes := #[] }, { accessFlags := 0, nameIndex := 50, descriptorIndex := 43, attributes := #[] }, { accessFlags := 0, nameIndex := 11, descriptorIndex := 65, attributes := #[] }] 48 2 #[] #[{ accessFlags := 24, nameIndex := 53, descriptorIndex := 54, attributes := #[] }, { accessFlags := 24, nameIndex := 68, descriptorIndex := 54, attributes := #[] }, { accessFlags := 18, nameIndex := 11, descriptorIndex := 12, attributes := #[] }])
  fields := #[{ name := "EVERY_SENIOR", type := (.object "com/example/entitlement/entitlement/Scope"), accessFlags := 24, slot := 0, constantValue := 0 }, { name := "OWN_ROLE", type := (.object "com/example/entitlement/entitlement/Scope"), accessFlags := 24, slot := 1, constantValue := 0 }, { name := "bounds", type := (.object "java/util/Set"), accessFlags := 18, slot := 0, constantValue := 0 }]
  methods := #[k8m0, k8m1, k8m2, k8m3]
  instanceTypes := #[(.object "java/util/Set")]
  staticTypes := #[(.object "com/example/entitlement/entitlement/Scope"), (.object "com/example/entitlement/entitlement/Scope")]
  resolved := Array.replicate 84 none
  statics := none }

def pool9 : Array CpInfo := pool [(8, .class_ 10), (1, u "java/lang/Iterable"), (24, .class_ 36), (0, u "java/lang/Object")] 25

/-- java/lang/Iterable -/
def k9 : Class := { plain "java/lang/Iterable" (some 0) with
  accessFlags := 1537
  interfaces := #[]
  cf := some (fileOf pool9 8 #[] #[] 1537 35 #[] #[])
  fields := #[]
  methods := #[]
  instanceTypes := #[]
  staticTypes := #[]
  resolved := Array.replicate 62 none
  statics := none }

def pool10 : Array CpInfo := pool [(10, .class_ 12), (1, u "java/util/Collection"), (47, .class_ 61), (0, u "java/lang/Object"), (0, .class_ 63), (0, u "java/lang/Iterable")] 51

/-- java/util/Collection -/
def k10 : Class := { plain "java/util/Collection" (some 0) with
  accessFlags := 1537
  interfaces := #[9]
  cf := some (fileOf pool10 10 #[] #[] 1537 60 #[62] #[])
  fields := #[]
  methods := #[]
  instanceTypes := #[]
  staticTypes := #[]
  resolved := Array.replicate 115 none
  statics := none }

def pool11 : Array CpInfo := pool [(15, .class_ 16), (0, u "java/util/ImmutableCollections$Set12"), (0, .methodref 15 18), (0, .nameAndType 19 20), (0, u "<init>"), (0, u "(Ljava/lang/Object;)V"), (5, .class_ 27), (0, u "java/lang/Object"), (5, .class_ 34), (0, u "java/util/Set"), (1, .class_ 38), (1, u "java/util/Collection"), (4, u "of"), (13, u "size"), (0, u "()I"), (0, u "contains"), (0, u "(Ljava/lang/Object;)Z"), (30, u "(Ljava/lang/Object;)Ljava/util/Set;")] 52

def k11m0 : Method := { name := "size", desc := "()I", sig := { parameters := [], returnType := some .int }, accessFlags := 1025, code := none }
def k11m1 : Method := { name := "contains", desc := "(Ljava/lang/Object;)Z", sig := { parameters := [(.object "java/lang/Object")], returnType := some .boolean }, accessFlags := 1025, code := none }
def k11c2 : Code := { maxStack := 3, maxLocals := 1, code := jdk_96_method_18_code, exceptionTable := #[], attributes := #[] }
def k11m2 : Method := { name := "of", desc := "(Ljava/lang/Object;)Ljava/util/Set;", sig := { parameters := [(.object "java/lang/Object")], returnType := some (.object "java/util/Set") }, accessFlags := 9, code := some k11c2 }
/-- java/util/Set -/
def k11 : Class := { plain "java/util/Set" (some 0) with
  accessFlags := 1537
  interfaces := #[10]
  cf := some (fileOf pool11 33 #[] #[{ accessFlags := 1025, nameIndex := 57, descriptorIndex := 58, attributes := #[] }, { accessFlags := 1025, nameIndex := 59, descriptorIndex := 60, attributes := #[] }, { accessFlags := 9, nameIndex := 43, descriptorIndex := 91, attributes := #[] }] 1537 26 #[36] #[])
  fields := #[]
  methods := #[k11m0, k11m1, k11m2]
  instanceTypes := #[]
  staticTypes := #[]
  resolved := Array.replicate 144 none
  statics := none }

def pool12 : Array CpInfo := pool [(1, .methodref 2 3), (0, .class_ 4), (0, .nameAndType 5 6), (0, u "java/lang/Object"), (0, u "<init>"), (0, u "()V"), (1, .class_ 10), (1, u "java/util/AbstractCollection"), (66, .class_ 78), (0, u "java/util/Collection")] 81

def k12c0 : Code := { maxStack := 1, maxLocals := 1, code := jdk_22_method_1_code, exceptionTable := #[], attributes := #[] }
def k12m0 : Method := { name := "<init>", desc := "()V", sig := { parameters := [], returnType := none }, accessFlags := 4, code := some k12c0 }
/-- java/util/AbstractCollection -/
def k12 : Class := { plain "java/util/AbstractCollection" (some 0) with
  accessFlags := 1057
  interfaces := #[10]
  cf := some (fileOf pool12 8 #[] #[{ accessFlags := 4, nameIndex := 5, descriptorIndex := 6, attributes := #[] }] 1057 2 #[77] #[])
  fields := #[]
  methods := #[k12m0]
  instanceTypes := #[]
  staticTypes := #[]
  resolved := Array.replicate 160 none
  statics := none }

def pool13 : Array CpInfo := pool [(1, .methodref 2 3), (0, .class_ 4), (0, .nameAndType 5 6), (0, u "java/util/AbstractCollection"), (0, u "<init>"), (0, u "()V"), (1, .class_ 10), (1, u "java/util/ImmutableCollections"), (2, .class_ 14), (0, u "java/util/ImmutableCollections$AbstractImmutableCollection")] 41

def k13c0 : Code := { maxStack := 1, maxLocals := 1, code := jdk_47_method_1_code, exceptionTable := #[], attributes := #[] }
def k13m0 : Method := { name := "<init>", desc := "()V", sig := { parameters := [], returnType := none }, accessFlags := 0, code := some k13c0 }
/-- java/util/ImmutableCollections$AbstractImmutableCollection -/
def k13 : Class := { plain "java/util/ImmutableCollections$AbstractImmutableCollection" (some 12) with
  accessFlags := 1056
  interfaces := #[]
  cf := some (fileOf pool13 13 #[.nestHost 8] #[{ accessFlags := 0, nameIndex := 5, descriptorIndex := 6, attributes := #[] }] 1056 2 #[] #[])
  fields := #[]
  methods := #[k13m0]
  instanceTypes := #[]
  staticTypes := #[]
  resolved := Array.replicate 56 none
  statics := none }

def pool14 : Array CpInfo := pool [(1, .methodref 2 3), (0, .class_ 4), (0, .nameAndType 5 6), (0, u "java/util/ImmutableCollections$AbstractImmutableCollection"), (0, u "<init>"), (0, u "()V"), (0, .class_ 8), (0, u "java/util/Set"), (7, .class_ 17), (0, u "java/util/ImmutableCollections$AbstractImmutableSet"), (43, .class_ 62), (0, u "java/util/ImmutableCollections")] 3

def k14c0 : Code := { maxStack := 1, maxLocals := 1, code := jdk_100_method_1_code, exceptionTable := #[], attributes := #[] }
def k14m0 : Method := { name := "<init>", desc := "()V", sig := { parameters := [], returnType := none }, accessFlags := 0, code := some k14c0 }
/-- java/util/ImmutableCollections$AbstractImmutableSet -/
def k14 : Class := { plain "java/util/ImmutableCollections$AbstractImmutableSet" (some 13) with
  accessFlags := 1056
  interfaces := #[11]
  cf := some (fileOf pool14 16 #[.nestHost 61] #[{ accessFlags := 0, nameIndex := 5, descriptorIndex := 6, attributes := #[] }] 1056 2 #[7] #[])
  fields := #[]
  methods := #[k14m0]
  instanceTypes := #[]
  staticTypes := #[]
  resolved := Array.replicate 66 none
  statics := none }

def pool15 : Array CpInfo := pool [(1, .methodref 2 3), (0, .class_ 4), (0, .nameAndType 5 6), (0, u "java/util/ImmutableCollections$AbstractImmutableSet"), (0, u "<init>"), (0, u "()V"), (0, .methodref 8 9), (0, .class_ 10), (0, .nameAndType 11 12), (0, u "java/util/Objects"), (0, u "requireNonNull"), (0, u "(Ljava/lang/Object;)Ljava/lang/Object;"), (0, .fieldref 14 15), (0, .class_ 16), (0, .nameAndType 17 18), (0, u "java/util/ImmutableCollections$Set12"), (0, u "e0"), (0, u "Ljava/lang/Object;"), (0, .fieldref 20 21), (0, .class_ 22), (0, .nameAndType 23 18), (0, u "java/util/ImmutableCollections"), (0, u "EMPTY"), (0, .fieldref 14 25), (0, .nameAndType 26 18), (0, u "e1"), (0, .methodref 28 29), (0, .class_ 30), (0, .nameAndType 31 32), (0, u "java/lang/Object"), (0, u "equals"), (0, u "(Ljava/lang/Object;)Z"), (24, u "()I"), (21, u "size"), (17, .class_ 98), (0, u "java/io/Serializable"), (4, u "(Ljava/lang/Object;)V"), (13, u "contains")] 31

def k15c0 : Code := { maxStack := 2, maxLocals := 2, code := jdk_101_method_1_code, exceptionTable := #[], attributes := #[] }
def k15m0 : Method := { name := "<init>", desc := "(Ljava/lang/Object;)V", sig := { parameters := [(.object "java/lang/Object")], returnType := none }, accessFlags := 0, code := some k15c0 }
def k15c1 : Code := { maxStack := 2, maxLocals := 1, code := jdk_101_method_3_code, exceptionTable := #[], attributes := #[] }
def k15m1 : Method := { name := "size", desc := "()I", sig := { parameters := [], returnType := some .int }, accessFlags := 1, code := some k15c1 }
def k15c2 : Code := { maxStack := 2, maxLocals := 2, code := jdk_101_method_5_code, exceptionTable := #[], attributes := #[] }
def k15m2 : Method := { name := "contains", desc := "(Ljava/lang/Object;)Z", sig := { parameters := [(.object "java/lang/Object")], returnType := some .boolean }, accessFlags := 1, code := some k15c2 }
/-- java/util/ImmutableCollections$Set12 -/
def k15 : Class := { plain "java/util/ImmutableCollections$Set12" (some 14) with
  accessFlags := 48
  interfaces := #[2]
  cf := some (fileOf pool15 14 #[.nestHost 20] #[{ accessFlags := 0, nameIndex := 5, descriptorIndex := 103, attributes := #[] }, { accessFlags := 1, nameIndex := 79, descriptorIndex := 57, attributes := #[] }, { accessFlags := 1, nameIndex := 117, descriptorIndex := 32, attributes := #[] }] 48 2 #[97] #[{ accessFlags := 18, nameIndex := 17, descriptorIndex := 18, attributes := #[] }, { accessFlags := 18, nameIndex := 26, descriptorIndex := 18, attributes := #[] }])
  fields := #[{ name := "e0", type := (.object "java/lang/Object"), accessFlags := 18, slot := 0, constantValue := 0 }, { name := "e1", type := (.object "java/lang/Object"), accessFlags := 18, slot := 1, constantValue := 0 }]
  methods := #[k15m0, k15m1, k15m2]
  instanceTypes := #[(.object "java/lang/Object"), (.object "java/lang/Object")]
  staticTypes := #[]
  resolved := Array.replicate 149 none
  statics := none }

def pool16 : Array CpInfo := pool [(2, .class_ 4), (1, u "java/lang/Object"), (0, u "<init>"), (0, u "()V"), (35, .class_ 44), (1, u "java/util/Objects"), (0, u "requireNonNull"), (0, u "(Ljava/lang/Object;)Ljava/lang/Object;")] 137

def k16m0 : Method := { name := "<init>", desc := "()V", sig := { parameters := [], returnType := none }, accessFlags := 2, code := none }
def k16c1 : Code := { maxStack := 2, maxLocals := 1, code := jdk_31_method_10_code, exceptionTable := #[], attributes := #[] }
def k16m1 : Method := { name := "requireNonNull", desc := "(Ljava/lang/Object;)Ljava/lang/Object;", sig := { parameters := [(.object "java/lang/Object")], returnType := some (.object "java/lang/Object") }, accessFlags := 9, code := some k16c1 }
/-- java/util/Objects -/
def k16 : Class := { plain "java/util/Objects" (some 0) with
  accessFlags := 49
  interfaces := #[]
  cf := some (fileOf pool16 42 #[] #[{ accessFlags := 2, nameIndex := 5, descriptorIndex := 6, attributes := #[] }, { accessFlags := 9, nameIndex := 45, descriptorIndex := 46, attributes := #[] }] 49 2 #[] #[])
  fields := #[]
  methods := #[k16m0, k16m1]
  instanceTypes := #[]
  staticTypes := #[]
  resolved := Array.replicate 184 none
  statics := none }

def pool17 : Array CpInfo := pool [(2, .class_ 4), (1, u "java/lang/Object"), (0, u "<init>"), (0, u "()V"), (3, .class_ 11), (0, u "java/util/ImmutableCollections$List12"), (0, .class_ 13), (0, u "java/util/ImmutableCollections$ListN"), (3, u "Z"), (29, .class_ 49), (1, u "java/util/ImmutableCollections"), (0, u "$assertionsDisabled"), (5, u "[Ljava/lang/Object;"), (5, u "EMPTY_LIST"), (0, u "Ljava/util/ImmutableCollections$ListN;"), (8, u "EMPTY_LIST_NULLS"), (22, u "SALT32L"), (0, u "J"), (2, u "REVERSE"), (6, u "archivedObjects"), (2, u "EMPTY"), (0, u "Ljava/lang/Object;"), (0, .class_ 112), (0, u "java/util/ImmutableCollections$SetN"), (5, u "EMPTY_SET"), (0, u "Ljava/util/ImmutableCollections$SetN;"), (0, .class_ 121), (0, u "java/util/ImmutableCollections$MapN"), (3, u "EMPTY_MAP"), (0, u "Ljava/util/ImmutableCollections$MapN;"), (4, u "EXPAND_FACTOR"), (0, u "I"), (36, .class_ 170), (0, u "java/util/ImmutableCollections$MapN$MapNIterator"), (0, .class_ 172), (0, u "java/util/ImmutableCollections$MapN$1"), (0, .class_ 174), (0, u "java/util/ImmutableCollections$Map1"), (0, .class_ 176), (0, u "java/util/ImmutableCollections$AbstractImmutableMap"), (0, .class_ 178), (0, u "java/util/ImmutableCollections$SetN$SetNIterator"), (0, .class_ 180), (0, u "java/util/ImmutableCollections$Set12"), (0, .class_ 182), (0, u "java/util/ImmutableCollections$Set12$1"), (0, .class_ 184), (0, u "java/util/ImmutableCollections$AbstractImmutableSet"), (0, .class_ 186), (0, u "java/util/ImmutableCollections$SubList"), (0, .class_ 188), (0, u "java/util/ImmutableCollections$ListItr"), (0, .class_ 190), (0, u "java/util/ImmutableCollections$AbstractImmutableList"), (0, .class_ 192), (0, u "java/util/ImmutableCollections$AbstractImmutableCollection"), (0, .class_ 194), (0, u "java/util/ImmutableCollections$Access"), (0, .class_ 196), (0, u "java/util/ImmutableCollections$Access$1")] 16

def k17m0 : Method := { name := "<init>", desc := "()V", sig := { parameters := [], returnType := none }, accessFlags := 2, code := none }
/-- java/util/ImmutableCollections -/
def k17 : Class := { plain "java/util/ImmutableCollections" (some 0) with
  accessFlags := 32
  interfaces := #[]
  cf := some (fileOf pool17 47 #[.nestMembers #[120, 169, 171, 173, 175, 111, 177, 179, 181, 183, 12, 10, 185, 187, 189, 191, 193, 195]] #[{ accessFlags := 2, nameIndex := 5, descriptorIndex := 6, attributes := #[] }] 32 2 #[] #[{ accessFlags := 26, nameIndex := 95, descriptorIndex := 96, attributes := #[] }, { accessFlags := 26, nameIndex := 99, descriptorIndex := 17, attributes := #[] }, { accessFlags := 10, nameIndex := 106, descriptorIndex := 56, attributes := #[] }, { accessFlags := 26, nameIndex := 109, descriptorIndex := 110, attributes := #[] }, { accessFlags := 24, nameIndex := 62, descriptorIndex := 63, attributes := #[] }, { accessFlags := 24, nameIndex := 72, descriptorIndex := 63, attributes := #[] }, { accessFlags := 24, nameIndex := 118, descriptorIndex := 119, attributes := #[] }, { accessFlags := 24, nameIndex := 125, descriptorIndex := 126, attributes := #[] }, { accessFlags := 24, nameIndex := 131, descriptorIndex := 132, attributes := #[] }, { accessFlags := 4120, nameIndex := 50, descriptorIndex := 17, attributes := #[] }])
  fields := #[{ name := "SALT32L", type := .long, accessFlags := 26, slot := 0, constantValue := 0 }, { name := "REVERSE", type := .boolean, accessFlags := 26, slot := 1, constantValue := 0 }, { name := "archivedObjects", type := (.array (.object "java/lang/Object")), accessFlags := 10, slot := 2, constantValue := 0 }, { name := "EMPTY", type := (.object "java/lang/Object"), accessFlags := 26, slot := 3, constantValue := 0 }, { name := "EMPTY_LIST", type := (.object "java/util/ImmutableCollections$ListN"), accessFlags := 24, slot := 4, constantValue := 0 }, { name := "EMPTY_LIST_NULLS", type := (.object "java/util/ImmutableCollections$ListN"), accessFlags := 24, slot := 5, constantValue := 0 }, { name := "EMPTY_SET", type := (.object "java/util/ImmutableCollections$SetN"), accessFlags := 24, slot := 6, constantValue := 0 }, { name := "EMPTY_MAP", type := (.object "java/util/ImmutableCollections$MapN"), accessFlags := 24, slot := 7, constantValue := 0 }, { name := "EXPAND_FACTOR", type := .int, accessFlags := 24, slot := 8, constantValue := 0 }, { name := "$assertionsDisabled", type := .boolean, accessFlags := 4120, slot := 9, constantValue := 0 }]
  methods := #[k17m0]
  instanceTypes := #[]
  staticTypes := #[.long, .boolean, (.array (.object "java/lang/Object")), (.object "java/lang/Object"), (.object "java/util/ImmutableCollections$ListN"), (.object "java/util/ImmutableCollections$ListN"), (.object "java/util/ImmutableCollections$SetN"), (.object "java/util/ImmutableCollections$MapN"), .int, .boolean]
  resolved := Array.replicate 213 none
  statics := some 1 }

def pool18 : Array CpInfo := pool [(4, .class_ 6), (1, u "java/lang/Object"), (0, u "<init>"), (0, u "()V"), (5, .class_ 16), (1, u "java/lang/StringLatin1"), (104, u "$assertionsDisabled"), (0, u "Z"), (98, .class_ 223), (1, u "java/lang/StringLatin1$LinesSpliterator"), (57, u "equals"), (0, u "([B[B)Z"), (107, .class_ 391), (0, u "java/lang/StringLatin1$CharsSpliterator")] 3

def k18m0 : Method := { name := "<init>", desc := "()V", sig := { parameters := [], returnType := none }, accessFlags := 0, code := none }
def k18c1 : Code := { maxStack := 3, maxLocals := 3, code := jdk_43_method_13_code, exceptionTable := #[], attributes := #[] }
def k18m1 : Method := { name := "equals", desc := "([B[B)Z", sig := { parameters := [(.array .byte), (.array .byte)], returnType := some .boolean }, accessFlags := 9, code := some k18c1 }
/-- java/lang/StringLatin1 -/
def k18 : Class := { plain "java/lang/StringLatin1" (some 0) with
  accessFlags := 48
  interfaces := #[]
  cf := some (fileOf pool18 14 #[.nestMembers #[390, 221]] #[{ accessFlags := 0, nameIndex := 7, descriptorIndex := 8, attributes := #[] }, { accessFlags := 9, nameIndex := 281, descriptorIndex := 282, attributes := #[] }] 48 4 #[] #[{ accessFlags := 4120, nameIndex := 121, descriptorIndex := 122, attributes := #[] }])
  fields := #[{ name := "$assertionsDisabled", type := .boolean, accessFlags := 4120, slot := 0, constantValue := 0 }]
  methods := #[k18m0, k18m1]
  instanceTypes := #[]
  staticTypes := #[.boolean]
  resolved := Array.replicate 395 none
  statics := none }

def pool19 : Array CpInfo := pool [(6, .class_ 8), (1, u "java/lang/Object"), (0, u "<init>"), (0, u "()V"), (1, .class_ 14), (1, u "java/lang/StringUTF16"), (31, u "$assertionsDisabled"), (0, u "Z"), (13, u "HI_BYTE_SHIFT"), (0, u "I"), (2, u "LO_BYTE_SHIFT"), (49, .methodref 12 116), (0, .nameAndType 117 118), (0, u "compress"), (0, u "([CI[BII)I"), (3, u "([CII)[B"), (138, u "coderFromArrayLen"), (0, u "([BI)B"), (106, .class_ 371), (1, u "java/lang/StringUTF16$LinesSpliterator"), (58, u "MAX_LENGTH"), (196, .class_ 628), (0, u "java/lang/StringUTF16$CodePointsSpliterator"), (0, .class_ 630), (0, u "java/lang/StringUTF16$CharsSpliterator")] 4

def k19m0 : Method := { name := "<init>", desc := "()V", sig := { parameters := [], returnType := none }, accessFlags := 0, code := none }
def k19c1 : Code := { maxStack := 2, maxLocals := 2, code := jdk_52_method_15_code, exceptionTable := #[], attributes := #[] }
def k19m1 : Method := { name := "coderFromArrayLen", desc := "([BI)B", sig := { parameters := [(.array .byte), .int], returnType := some .byte }, accessFlags := 8, code := some k19c1 }
def k19c2 : Code := { maxStack := 5, maxLocals := 6, code := jdk_52_method_16_code, exceptionTable := #[], attributes := #[] }
def k19m2 : Method := { name := "compress", desc := "([CII)[B", sig := { parameters := [(.array .char), .int, .int], returnType := some (.array .byte) }, accessFlags := 9, code := some k19c2 }
def k19c3 : Code := { maxStack := 3, maxLocals := 7, code := jdk_52_method_21_code, exceptionTable := #[], attributes := #[] }
def k19m3 : Method := { name := "compress", desc := "([CI[BII)I", sig := { parameters := [(.array .char), .int, (.array .byte), .int, .int], returnType := some .int }, accessFlags := 9, code := some k19c3 }
/-- java/lang/StringUTF16 -/
def k19 : Class := { plain "java/lang/StringUTF16" (some 0) with
  accessFlags := 48
  interfaces := #[]
  cf := some (fileOf pool19 12 #[.nestMembers #[627, 629, 369]] #[{ accessFlags := 0, nameIndex := 9, descriptorIndex := 10, attributes := #[] }, { accessFlags := 8, nameIndex := 261, descriptorIndex := 262, attributes := #[] }, { accessFlags := 9, nameIndex := 117, descriptorIndex := 122, attributes := #[] }, { accessFlags := 9, nameIndex := 117, descriptorIndex := 118, attributes := #[] }] 48 6 #[] #[{ accessFlags := 26, nameIndex := 61, descriptorIndex := 62, attributes := #[] }, { accessFlags := 26, nameIndex := 65, descriptorIndex := 62, attributes := #[] }, { accessFlags := 24, nameIndex := 430, descriptorIndex := 62, attributes := #[] }, { accessFlags := 4120, nameIndex := 46, descriptorIndex := 47, attributes := #[] }])
  fields := #[{ name := "HI_BYTE_SHIFT", type := .int, accessFlags := 26, slot := 0, constantValue := 0 }, { name := "LO_BYTE_SHIFT", type := .int, accessFlags := 26, slot := 1, constantValue := 0 }, { name := "MAX_LENGTH", type := .int, accessFlags := 24, slot := 2, constantValue := 0 }, { name := "$assertionsDisabled", type := .boolean, accessFlags := 4120, slot := 3, constantValue := 0 }]
  methods := #[k19m0, k19m1, k19m2, k19m3]
  instanceTypes := #[]
  staticTypes := #[.int, .int, .int, .boolean]
  resolved := Array.replicate 635 none
  statics := none }

def pool20 : Array CpInfo := pool [(2, .class_ 4), (1, u "java/lang/Object"), (0, u "<init>"), (0, u "()V"), (17, .class_ 26), (1, u "jdk/internal/util/Preconditions"), (28, .class_ 56), (0, u "jdk/internal/util/Preconditions$4"), (57, .class_ 115), (0, u "jdk/internal/util/Preconditions$1"), (7, u "SIOOBE_FORMATTER"), (0, u "Ljava/util/function/BiFunction;"), (0, .class_ 126), (0, u "jdk/internal/util/Preconditions$2"), (3, u "AIOOBE_FORMATTER"), (0, .class_ 132), (0, u "jdk/internal/util/Preconditions$3"), (3, u "IOOBE_FORMATTER")] 57

def k20m0 : Method := { name := "<init>", desc := "()V", sig := { parameters := [], returnType := none }, accessFlags := 1, code := none }
/-- jdk/internal/util/Preconditions -/
def k20 : Class := { plain "jdk/internal/util/Preconditions" (some 0) with
  accessFlags := 33
  interfaces := #[]
  cf := some (fileOf pool20 24 #[.nestMembers #[55, 131, 125, 114]] #[{ accessFlags := 1, nameIndex := 5, descriptorIndex := 6, attributes := #[] }] 33 2 #[] #[{ accessFlags := 25, nameIndex := 123, descriptorIndex := 124, attributes := #[] }, { accessFlags := 25, nameIndex := 130, descriptorIndex := 124, attributes := #[] }, { accessFlags := 25, nameIndex := 136, descriptorIndex := 124, attributes := #[] }])
  fields := #[{ name := "SIOOBE_FORMATTER", type := (.object "java/util/function/BiFunction"), accessFlags := 25, slot := 0, constantValue := 0 }, { name := "AIOOBE_FORMATTER", type := (.object "java/util/function/BiFunction"), accessFlags := 25, slot := 1, constantValue := 0 }, { name := "IOOBE_FORMATTER", type := (.object "java/util/function/BiFunction"), accessFlags := 25, slot := 2, constantValue := 0 }]
  methods := #[k20m0]
  instanceTypes := #[]
  staticTypes := #[(.object "java/util/function/BiFunction"), (.object "java/util/function/BiFunction"), (.object "java/util/function/BiFunction")]
  resolved := Array.replicate 194 none
  statics := some 2 }

def pool21 : Array CpInfo := pool [(9, u "<init>"), (6, .class_ 18), (1, u "java/lang/Object"), (0, u "()V"), (1, .class_ 23), (1, u "jdk/internal/util/ArraysSupport"), (0, u "LOG2_ARRAY_LONG_INDEX_SCALE"), (0, u "I"), (2, u "U"), (0, u "Ljdk/internal/misc/Unsafe;"), (8, u "BIG_ENDIAN"), (0, u "Z"), (8, u "LOG2_BYTE_BIT_SIZE"), (4, u "LOG2_ARRAY_INT_INDEX_SCALE"), (54, u "JLA"), (0, u "Ljdk/internal/access/JavaLangAccess;"), (11, u "LOG2_ARRAY_BOOLEAN_INDEX_SCALE"), (9, u "LOG2_ARRAY_BYTE_INDEX_SCALE"), (5, u "LOG2_ARRAY_CHAR_INDEX_SCALE"), (5, u "LOG2_ARRAY_SHORT_INDEX_SCALE"), (18, u "LOG2_ARRAY_FLOAT_INDEX_SCALE"), (24, u "LOG2_ARRAY_DOUBLE_INDEX_SCALE"), (89, u "T_BOOLEAN"), (2, u "T_CHAR"), (1, u "T_FLOAT"), (1, u "T_DOUBLE"), (1, u "T_BYTE"), (1, u "T_SHORT"), (1, u "T_INT"), (1, u "T_LONG"), (1, u "SOFT_MAX_ARRAY_LENGTH")] 83

def k21m0 : Method := { name := "<init>", desc := "()V", sig := { parameters := [], returnType := none }, accessFlags := 2, code := none }
/-- jdk/internal/util/ArraysSupport -/
def k21 : Class := { plain "jdk/internal/util/ArraysSupport" (some 0) with
  accessFlags := 33
  interfaces := #[]
  cf := some (fileOf pool21 21 #[] #[{ accessFlags := 2, nameIndex := 9, descriptorIndex := 19, attributes := #[] }] 33 16 #[] #[{ accessFlags := 24, nameIndex := 28, descriptorIndex := 29, attributes := #[] }, { accessFlags := 26, nameIndex := 38, descriptorIndex := 39, attributes := #[] }, { accessFlags := 25, nameIndex := 121, descriptorIndex := 25, attributes := #[] }, { accessFlags := 25, nameIndex := 131, descriptorIndex := 25, attributes := #[] }, { accessFlags := 25, nameIndex := 137, descriptorIndex := 25, attributes := #[] }, { accessFlags := 25, nameIndex := 143, descriptorIndex := 25, attributes := #[] }, { accessFlags := 25, nameIndex := 53, descriptorIndex := 25, attributes := #[] }, { accessFlags := 25, nameIndex := 24, descriptorIndex := 25, attributes := #[] }, { accessFlags := 25, nameIndex := 162, descriptorIndex := 25, attributes := #[] }, { accessFlags := 25, nameIndex := 187, descriptorIndex := 25, attributes := #[] }, { accessFlags := 26, nameIndex := 48, descriptorIndex := 25, attributes := #[] }, { accessFlags := 25, nameIndex := 277, descriptorIndex := 25, attributes := #[] }, { accessFlags := 25, nameIndex := 280, descriptorIndex := 25, attributes := #[] }, { accessFlags := 25, nameIndex := 282, descriptorIndex := 25, attributes := #[] }, { accessFlags := 25, nameIndex := 284, descriptorIndex := 25, attributes := #[] }, { accessFlags := 25, nameIndex := 286, descriptorIndex := 25, attributes := #[] }, { accessFlags := 25, nameIndex := 288, descriptorIndex := 25, attributes := #[] }, { accessFlags := 25, nameIndex := 290, descriptorIndex := 25, attributes := #[] }, { accessFlags := 25, nameIndex := 292, descriptorIndex := 25, attributes := #[] }, { accessFlags := 26, nameIndex := 108, descriptorIndex := 109, attributes := #[] }, { accessFlags := 25, nameIndex := 294, descriptorIndex := 25, attributes := #[] }])
  fields := #[{ name := "U", type := (.object "jdk/internal/misc/Unsafe"), accessFlags := 24, slot := 0, constantValue := 0 }, { name := "BIG_ENDIAN", type := .boolean, accessFlags := 26, slot := 1, constantValue := 0 }, { name := "LOG2_ARRAY_BOOLEAN_INDEX_SCALE", type := .int, accessFlags := 25, slot := 2, constantValue := 0 }, { name := "LOG2_ARRAY_BYTE_INDEX_SCALE", type := .int, accessFlags := 25, slot := 3, constantValue := 0 }, { name := "LOG2_ARRAY_CHAR_INDEX_SCALE", type := .int, accessFlags := 25, slot := 4, constantValue := 0 }, { name := "LOG2_ARRAY_SHORT_INDEX_SCALE", type := .int, accessFlags := 25, slot := 5, constantValue := 0 }, { name := "LOG2_ARRAY_INT_INDEX_SCALE", type := .int, accessFlags := 25, slot := 6, constantValue := 0 }, { name := "LOG2_ARRAY_LONG_INDEX_SCALE", type := .int, accessFlags := 25, slot := 7, constantValue := 0 }, { name := "LOG2_ARRAY_FLOAT_INDEX_SCALE", type := .int, accessFlags := 25, slot := 8, constantValue := 0 }, { name := "LOG2_ARRAY_DOUBLE_INDEX_SCALE", type := .int, accessFlags := 25, slot := 9, constantValue := 0 }, { name := "LOG2_BYTE_BIT_SIZE", type := .int, accessFlags := 26, slot := 10, constantValue := 0 }, { name := "T_BOOLEAN", type := .int, accessFlags := 25, slot := 11, constantValue := 0 }, { name := "T_CHAR", type := .int, accessFlags := 25, slot := 12, constantValue := 0 }, { name := "T_FLOAT", type := .int, accessFlags := 25, slot := 13, constantValue := 0 }, { name := "T_DOUBLE", type := .int, accessFlags := 25, slot := 14, constantValue := 0 }, { name := "T_BYTE", type := .int, accessFlags := 25, slot := 15, constantValue := 0 }, { name := "T_SHORT", type := .int, accessFlags := 25, slot := 16, constantValue := 0 }, { name := "T_INT", type := .int, accessFlags := 25, slot := 17, constantValue := 0 }, { name := "T_LONG", type := .int, accessFlags := 25, slot := 18, constantValue := 0 }, { name := "JLA", type := (.object "jdk/internal/access/JavaLangAccess"), accessFlags := 26, slot := 19, constantValue := 0 }, { name := "SOFT_MAX_ARRAY_LENGTH", type := .int, accessFlags := 25, slot := 20, constantValue := 0 }]
  methods := #[k21m0]
  instanceTypes := #[]
  staticTypes := #[(.object "jdk/internal/misc/Unsafe"), .boolean, .int, .int, .int, .int, .int, .int, .int, .int, .int, .int, .int, .int, .int, .int, .int, .int, .int, (.object "jdk/internal/access/JavaLangAccess"), .int]
  resolved := Array.replicate 378 none
  statics := none }

def pool22 : Array CpInfo := pool [(8, .class_ 10), (1, u "java/util/SequencedCollection"), (15, .class_ 27), (0, u "java/lang/Object"), (0, .class_ 29), (0, u "java/util/Collection")] 27

/-- java/util/SequencedCollection -/
def k22 : Class := { plain "java/util/SequencedCollection" (some 0) with
  accessFlags := 1537
  interfaces := #[10]
  cf := some (fileOf pool22 8 #[] #[] 1537 26 #[28] #[])
  fields := #[]
  methods := #[]
  instanceTypes := #[]
  staticTypes := #[]
  resolved := Array.replicate 57 none
  statics := none }

def pool23 : Array CpInfo := pool [(8, .class_ 10), (1, u "java/util/List"), (92, .class_ 104), (0, u "java/lang/Object"), (15, .class_ 121), (0, u "java/util/SequencedCollection")] 129

/-- java/util/List -/
def k23 : Class := { plain "java/util/List" (some 0) with
  accessFlags := 1537
  interfaces := #[22]
  cf := some (fileOf pool23 8 #[] #[] 1537 103 #[120] #[])
  fields := #[]
  methods := #[]
  instanceTypes := #[]
  staticTypes := #[]
  resolved := Array.replicate 251 none
  statics := none }

def pool24 : Array CpInfo := pool [(1, .class_ 2), (0, u "java/util/RandomAccess"), (0, .class_ 4), (0, u "java/lang/Object")] 2

/-- java/util/RandomAccess -/
def k24 : Class := { plain "java/util/RandomAccess" (some 0) with
  accessFlags := 1537
  interfaces := #[]
  cf := some (fileOf pool24 1 #[] #[] 1537 3 #[] #[])
  fields := #[]
  methods := #[]
  instanceTypes := #[]
  staticTypes := #[]
  resolved := Array.replicate 7 none
  statics := none }

def pool25 : Array CpInfo := pool [(2, .class_ 4), (1, u "java/util/ImmutableCollections$AbstractImmutableCollection"), (0, u "<init>"), (0, u "()V"), (1, .class_ 10), (1, u "java/util/ImmutableCollections"), (3, .class_ 16), (1, u "java/util/ImmutableCollections$AbstractImmutableList"), (60, .class_ 78), (0, u "java/util/List"), (45, .class_ 125), (0, u "java/util/RandomAccess")] 70

def k25m0 : Method := { name := "<init>", desc := "()V", sig := { parameters := [], returnType := none }, accessFlags := 0, code := none }
/-- java/util/ImmutableCollections$AbstractImmutableList -/
def k25 : Class := { plain "java/util/ImmutableCollections$AbstractImmutableList" (some 13) with
  accessFlags := 1056
  interfaces := #[23, 24]
  cf := some (fileOf pool25 14 #[.nestHost 8] #[{ accessFlags := 0, nameIndex := 5, descriptorIndex := 6, attributes := #[] }] 1056 2 #[77, 124] #[])
  fields := #[]
  methods := #[k25m0]
  instanceTypes := #[]
  staticTypes := #[]
  resolved := Array.replicate 196 none
  statics := none }

def pool26 : Array CpInfo := pool [(2, .class_ 4), (1, u "java/util/ImmutableCollections$AbstractImmutableList"), (3, .class_ 10), (1, u "java/util/ImmutableCollections$ListN"), (0, u "elements"), (0, u "[Ljava/lang/Object;"), (2, u "allowNulls"), (0, u "Z"), (42, .class_ 60), (0, u "java/io/Serializable"), (53, .class_ 115), (0, u "java/util/ImmutableCollections")] 3

/-- java/util/ImmutableCollections$ListN -/
def k26 : Class := { plain "java/util/ImmutableCollections$ListN" (some 25) with
  accessFlags := 48
  interfaces := #[2]
  cf := some (fileOf pool26 8 #[.nestHost 114] #[] 48 2 #[59] #[{ accessFlags := 18, nameIndex := 11, descriptorIndex := 12, attributes := #[] }, { accessFlags := 18, nameIndex := 15, descriptorIndex := 16, attributes := #[] }])
  fields := #[{ name := "elements", type := (.array (.object "java/lang/Object")), accessFlags := 18, slot := 0, constantValue := 0 }, { name := "allowNulls", type := .boolean, accessFlags := 18, slot := 1, constantValue := 0 }]
  methods := #[]
  instanceTypes := #[(.array (.object "java/lang/Object")), .boolean]
  staticTypes := #[]
  resolved := Array.replicate 119 none
  statics := none }

def pool27 : Array CpInfo := pool [(1, u "java/lang/Cloneable"), (0, .class_ 1), (0, u "java/lang/Object"), (0, .class_ 3)] 3

/-- java/lang/Cloneable -/
def k27 : Class := { plain "java/lang/Cloneable" (some 0) with
  accessFlags := 1537
  interfaces := #[]
  cf := some (fileOf pool27 2 #[] #[] 1537 4 #[] #[])
  fields := #[]
  methods := #[]
  instanceTypes := #[]
  staticTypes := #[]
  resolved := Array.replicate 8 none
  statics := none }

/-- the primitive byte -/
def k28 : Class := { plain "byte" none with kind := .primitive 'B', accessFlags := 0x411 }
/-- [B -/
def k29 : Class := { plain "[B" (some 0) with kind := .array 28 .byte, interfaces := #[27, 2], accessFlags := 1041 }

/-- the primitive char -/
def k30 : Class := { plain "char" none with kind := .primitive 'C', accessFlags := 0x411 }
/-- [C -/
def k31 : Class := { plain "[C" (some 0) with kind := .array 30 .char, interfaces := #[27, 2], accessFlags := 1041 }

/-- the primitive int -/
def k32 : Class := { plain "int" none with kind := .primitive 'I', accessFlags := 0x411 }
/-- [I -/
def k33 : Class := { plain "[I" (some 0) with kind := .array 32 .int, interfaces := #[27, 2], accessFlags := 1041 }

def heap : Heap := #[{ cls := 7, slots := #[.long 0, .int 1, .null, .int 0, .null, .int 0, .int 0], vm := .statics 7 },
  { cls := 17, slots := #[.long 0, .int 0, .null, .ref 3, .ref 4, .null, .null, .null, .int 0, .int 1], vm := .statics 17 },
  { cls := 20, slots := #[.null, .null, .null], vm := .statics 20 },
  { cls := 0, slots := #[], vm := .none },
  { cls := 26, slots := #[.null, .int 0], vm := .none }]
def classes : Array Class := #[k0, k1, k2, k3, k4, k5, k6, k7, k8, k9, k10, k11, k12, k13, k14, k15, k16, k17, k18, k19, k20, k21, k22, k23, k24, k25, k26, k27, k28, k29, k30, k31, k32, k33]
def interned : List (Array UInt16 × Addr) := []
def slotsUsed : Nat := 22
def theMethod : MethodId := ⟨1, 2⟩
def args0 : Array Value := #[.int 5, .int 5, .int 5, .int 5, .int 5]
def aboutOver (below : List Frame) : State where
  vm := { classes := classes, interned := interned.toArray }
  heap := heap
  slotsUsed := slotsUsed
  threads := #[{ frames := .invoking theMethod args0 :: below }]
def below0 : List Frame := [.native { method := ⟨0, 0⟩, args := #[] }]
def about1 : State := aboutOver below0
def p0 : Program := .bare "" "" ""
def e0 : Env := launch0.env 0 0 0
theorem w_frames : about1.frames = Frame.invoking theMethod args0 :: below0 := rfl
set_option maxRecDepth 65536 in
theorem w_args : argsFit about1.vm theMethod args0 = true := by decide +kernel
set_option maxRecDepth 65536 in
theorem w_heap : heapFits about1 = true := by decide +kernel
set_option maxRecDepth 65536 in
theorem w_runnable : about1.curStatus? = some .runnable := by decide +kernel
set_option maxRecDepth 65536 in
theorem w_alone : about1.alone = true := by decide +kernel
set_option maxRecDepth 65536 in
theorem w_named : about1.methodNamed? x = some theMethod := by decide +kernel
set_option maxRecDepth 65536 in
theorem w_hears : about1.hears theMethod below0 = true := by decide +kernel
set_option maxRecDepth 65536 in
theorem w_ripe : about1.ripe theMethod args0 below0 = true := by decide +kernel
theorem w_running : about1.status = .running := rfl
set_option maxRecDepth 65536 in
theorem w_room : about1.hasRoom e0.platform room_1 = true :=
  launch0.hasRoom_least _ room_1 (by decide +kernel) (by decide +kernel) (by decide +kernel) (by decide +kernel) (by decide +kernel) (by decide +kernel)
theorem allAtoms_all (ts : List Jvm.Cond) (a : Array Jvm.Value) (st : Jvm.State) : (allAtoms ts).before a st = ts.all (fun c => c.before a st) := by
  induction ts with
  | nil => rfl
  | cons c t ih =>
    show (Jvm.Cond.and c (allAtoms t)).before a st = _
    rw [Jvm.Cond.before_and, ih, List.all_cons]
def words1 : List Jvm.Cond := Jvm.Cond.code x code maxLocals ret :: tables_1
/-- a 'code' word, met by the world's own term for the bytes: nothing is compared byte by byte -/
theorem code_word {y : MethodName} {bytes : ByteArray} {mx : Nat} {rt : Option FieldType} {a : Array Value} {s : State} {m : MethodId} {meth : Method} {c : Code} (h1 : s.methodNamed? y = some m) (h2 : s.vm.method? m = some meth) (h3 : meth.code = some c) (h4 : c.code = bytes)
    (h5 : (c.maxLocals == mx && c.exceptionTable.isEmpty && decide (c.maxStack ≤ mostOperands) && decide (meth.sig.returnType = rt) && !meth.locks && decide (parseMethodDescriptor y.desc = some meth.sig)) = true) : (Jvm.Cond.code y bytes mx rt).before a s = true := by
  simp only [Bool.and_eq_true, beq_iff_eq, Bool.not_eq_true', decide_eq_true_eq] at h5
  obtain ⟨⟨⟨⟨⟨g1, g2⟩, g3⟩, g4⟩, g5⟩, g6⟩ := h5
  simp [Cond.before, Cond.holds, Cond.value, h1, h2, h3, h4, g1, g2, g3, g4, g5, g6]
def isCode : Jvm.Cond → Bool
  | .code _ _ _ _ => true
  | _ => false
theorem all_split {L : List Jvm.Cond} {P : Jvm.Cond → Bool} (h1 : L.all (fun c => isCode c || P c) = true) (h2 : ∀ c ∈ L.filter isCode, P c = true) : L.all P = true := by
  refine List.all_eq_true.mpr fun c hc => ?_
  have h := List.all_eq_true.mp h1 c hc
  rcases Bool.eq_false_or_eq_true (isCode c) with hi | hi
  · exact h2 c (List.mem_filter.mpr ⟨hc, hi⟩)
  · simpa [hi] using h
set_option maxRecDepth 65536 in
theorem w_c0 : (Jvm.Cond.code x code maxLocals ret).before args0 about1 = true := code_word (m := ⟨1, 2⟩) (meth := k1m2) (c := k1c2) (by decide +kernel) rfl rfl rfl (by decide +kernel)
set_option maxRecDepth 65536 in
theorem w_c1 : (Jvm.Cond.code ({ cls := "com/example/entitlement/entitlement/ScopeUpToPinLaw", name := "mk", desc := "(III)Ljava/lang/String;" } : Jvm.MethodName) method_2_code (6 : Nat) (Option.some (Jvm.ClassFile.FieldType.object "java/lang/String"))).before args0 about1 = true := code_word (m := ⟨1, 1⟩) (meth := k1m1) (c := k1c1) (by decide +kernel) rfl rfl rfl (by decide +kernel)
set_option maxRecDepth 65536 in
theorem w_c2 : (Jvm.Cond.code ({ cls := "java/lang/String", name := "<init>", desc := "([C)V" } : Jvm.MethodName) jdk_42_method_3_code (2 : Nat) (Option.none : Option Jvm.ClassFile.FieldType)).before args0 about1 = true := code_word (m := ⟨7, 1⟩) (meth := k7m1) (c := k7c1) (by decide +kernel) rfl rfl rfl (by decide +kernel)
set_option maxRecDepth 65536 in
theorem w_c3 : (Jvm.Cond.code ({ cls := "java/lang/String", name := "<init>", desc := "([CIILjava/lang/Void;)V" } : Jvm.MethodName) jdk_42_method_149_code (6 : Nat) (Option.none : Option Jvm.ClassFile.FieldType)).before args0 about1 = true := code_word (m := ⟨7, 3⟩) (meth := k7m3) (c := k7c3) (by decide +kernel) rfl rfl rfl (by decide +kernel)
set_option maxRecDepth 65536 in
theorem w_c4 : (Jvm.Cond.code ({ cls := "java/lang/Object", name := "<init>", desc := "()V" } : Jvm.MethodName) object_method_1_code (1 : Nat) (Option.none : Option Jvm.ClassFile.FieldType)).before args0 about1 = true := code_word (m := ⟨0, 0⟩) (meth := k0m0) (c := k0c0) (by decide +kernel) rfl rfl rfl (by decide +kernel)
set_option maxRecDepth 65536 in
theorem w_c5 : (Jvm.Cond.code ({ cls := "com/example/entitlement/entitlement/Scope", name := "upTo", desc := "(Ljava/lang/String;)Lcom/example/entitlement/entitlement/Scope;" } : Jvm.MethodName) prog_26_method_2_code (1 : Nat) (Option.some (Jvm.ClassFile.FieldType.object "com/example/entitlement/entitlement/Scope"))).before args0 about1 = true := code_word (m := ⟨8, 1⟩) (meth := k8m1) (c := k8c1) (by decide +kernel) rfl rfl rfl (by decide +kernel)
set_option maxRecDepth 65536 in
theorem w_c6 : (Jvm.Cond.code ({ cls := "java/util/Set", name := "of", desc := "(Ljava/lang/Object;)Ljava/util/Set;" } : Jvm.MethodName) jdk_96_method_18_code (1 : Nat) (Option.some (Jvm.ClassFile.FieldType.object "java/util/Set"))).before args0 about1 = true := code_word (m := ⟨11, 2⟩) (meth := k11m2) (c := k11c2) (by decide +kernel) rfl rfl rfl (by decide +kernel)
set_option maxRecDepth 65536 in
theorem w_c7 : (Jvm.Cond.code ({ cls := "java/util/ImmutableCollections$Set12", name := "<init>", desc := "(Ljava/lang/Object;)V" } : Jvm.MethodName) jdk_101_method_1_code (2 : Nat) (Option.none : Option Jvm.ClassFile.FieldType)).before args0 about1 = true := code_word (m := ⟨15, 0⟩) (meth := k15m0) (c := k15c0) (by decide +kernel) rfl rfl rfl (by decide +kernel)
set_option maxRecDepth 65536 in
theorem w_c8 : (Jvm.Cond.code ({ cls := "java/util/ImmutableCollections$AbstractImmutableSet", name := "<init>", desc := "()V" } : Jvm.MethodName) jdk_100_method_1_code (1 : Nat) (Option.none : Option Jvm.ClassFile.FieldType)).before args0 about1 = true := code_word (m := ⟨14, 0⟩) (meth := k14m0) (c := k14c0) (by decide +kernel) rfl rfl rfl (by decide +kernel)
set_option maxRecDepth 65536 in
theorem w_c9 : (Jvm.Cond.code ({ cls := "java/util/ImmutableCollections$AbstractImmutableCollection", name := "<init>", desc := "()V" } : Jvm.MethodName) jdk_47_method_1_code (1 : Nat) (Option.none : Option Jvm.ClassFile.FieldType)).before args0 about1 = true := code_word (m := ⟨13, 0⟩) (meth := k13m0) (c := k13c0) (by decide +kernel) rfl rfl rfl (by decide +kernel)
set_option maxRecDepth 65536 in
theorem w_c10 : (Jvm.Cond.code ({ cls := "java/util/AbstractCollection", name := "<init>", desc := "()V" } : Jvm.MethodName) jdk_22_method_1_code (1 : Nat) (Option.none : Option Jvm.ClassFile.FieldType)).before args0 about1 = true := code_word (m := ⟨12, 0⟩) (meth := k12m0) (c := k12c0) (by decide +kernel) rfl rfl rfl (by decide +kernel)
set_option maxRecDepth 65536 in
theorem w_c11 : (Jvm.Cond.code ({ cls := "java/util/Objects", name := "requireNonNull", desc := "(Ljava/lang/Object;)Ljava/lang/Object;" } : Jvm.MethodName) jdk_31_method_10_code (1 : Nat) (Option.some (Jvm.ClassFile.FieldType.object "java/lang/Object"))).before args0 about1 = true := code_word (m := ⟨16, 1⟩) (meth := k16m1) (c := k16c1) (by decide +kernel) rfl rfl rfl (by decide +kernel)
set_option maxRecDepth 65536 in
theorem w_c12 : (Jvm.Cond.code ({ cls := "com/example/entitlement/entitlement/Scope", name := "<init>", desc := "(Ljava/util/Set;)V" } : Jvm.MethodName) prog_26_method_1_code (2 : Nat) (Option.none : Option Jvm.ClassFile.FieldType)).before args0 about1 = true := code_word (m := ⟨8, 0⟩) (meth := k8m0) (c := k8c0) (by decide +kernel) rfl rfl rfl (by decide +kernel)
set_option maxRecDepth 65536 in
theorem w_c13 : (Jvm.Cond.code ({ cls := "com/example/entitlement/entitlement/Scope", name := "everySenior", desc := "()Z" } : Jvm.MethodName) prog_26_method_3_code (1 : Nat) (Option.some Jvm.ClassFile.FieldType.boolean)).before args0 about1 = true := code_word (m := ⟨8, 2⟩) (meth := k8m2) (c := k8c2) (by decide +kernel) rfl rfl rfl (by decide +kernel)
set_option maxRecDepth 65536 in
theorem w_c14 : (Jvm.Cond.code ({ cls := "com/example/entitlement/entitlement/Scope", name := "bounds", desc := "()Ljava/util/Set;" } : Jvm.MethodName) prog_26_method_4_code (1 : Nat) (Option.some (Jvm.ClassFile.FieldType.object "java/util/Set"))).before args0 about1 = true := code_word (m := ⟨8, 3⟩) (meth := k8m3) (c := k8c3) (by decide +kernel) rfl rfl rfl (by decide +kernel)
set_option maxRecDepth 65536 in
theorem w_c15 : (Jvm.Cond.code ({ cls := "java/lang/String", name := "equals", desc := "(Ljava/lang/Object;)Z" } : Jvm.MethodName) jdk_42_method_66_code (3 : Nat) (Option.some Jvm.ClassFile.FieldType.boolean)).before args0 about1 = true := code_word (m := ⟨7, 2⟩) (meth := k7m2) (c := k7c2) (by decide +kernel) rfl rfl rfl (by decide +kernel)
set_option maxRecDepth 65536 in
theorem w_c16 : (Jvm.Cond.code ({ cls := "java/lang/StringLatin1", name := "equals", desc := "([B[B)Z" } : Jvm.MethodName) jdk_43_method_13_code (3 : Nat) (Option.some Jvm.ClassFile.FieldType.boolean)).before args0 about1 = true := code_word (m := ⟨18, 1⟩) (meth := k18m1) (c := k18c1) (by decide +kernel) rfl rfl rfl (by decide +kernel)
set_option maxRecDepth 65536 in
theorem w_c17 : (Jvm.Cond.code ({ cls := "java/util/ImmutableCollections$Set12", name := "size", desc := "()I" } : Jvm.MethodName) jdk_101_method_3_code (1 : Nat) (Option.some Jvm.ClassFile.FieldType.int)).before args0 about1 = true := code_word (m := ⟨15, 1⟩) (meth := k15m1) (c := k15c1) (by decide +kernel) rfl rfl rfl (by decide +kernel)
set_option maxRecDepth 65536 in
theorem w_c18 : (Jvm.Cond.code ({ cls := "java/util/ImmutableCollections$Set12", name := "contains", desc := "(Ljava/lang/Object;)Z" } : Jvm.MethodName) jdk_101_method_5_code (2 : Nat) (Option.some Jvm.ClassFile.FieldType.boolean)).before args0 about1 = true := code_word (m := ⟨15, 2⟩) (meth := k15m2) (c := k15c2) (by decide +kernel) rfl rfl rfl (by decide +kernel)
set_option maxRecDepth 65536 in
theorem w_c19 : (Jvm.Cond.code ({ cls := "java/lang/StringUTF16", name := "compress", desc := "([CII)[B" } : Jvm.MethodName) jdk_52_method_16_code (6 : Nat) (Option.some (Jvm.ClassFile.FieldType.array Jvm.ClassFile.FieldType.byte))).before args0 about1 = true := code_word (m := ⟨19, 2⟩) (meth := k19m2) (c := k19c2) (by decide +kernel) rfl rfl rfl (by decide +kernel)
set_option maxRecDepth 65536 in
theorem w_c20 : (Jvm.Cond.code ({ cls := "java/lang/StringUTF16", name := "compress", desc := "([CI[BII)I" } : Jvm.MethodName) jdk_52_method_21_code (7 : Nat) (Option.some Jvm.ClassFile.FieldType.int)).before args0 about1 = true := code_word (m := ⟨19, 3⟩) (meth := k19m3) (c := k19c3) (by decide +kernel) rfl rfl rfl (by decide +kernel)
set_option maxRecDepth 65536 in
theorem w_c21 : (Jvm.Cond.code ({ cls := "java/lang/StringUTF16", name := "coderFromArrayLen", desc := "([BI)B" } : Jvm.MethodName) jdk_52_method_15_code (2 : Nat) (Option.some Jvm.ClassFile.FieldType.byte)).before args0 about1 = true := code_word (m := ⟨19, 1⟩) (meth := k19m1) (c := k19c1) (by decide +kernel) rfl rfl rfl (by decide +kernel)
set_option maxRecDepth 65536 in
theorem w_c22 : (Jvm.Cond.code ({ cls := "java/lang/Object", name := "equals", desc := "(Ljava/lang/Object;)Z" } : Jvm.MethodName) object_method_4_code (2 : Nat) (Option.some Jvm.ClassFile.FieldType.boolean)).before args0 about1 = true := code_word (m := ⟨0, 1⟩) (meth := k0m1) (c := k0c1) (by decide +kernel) rfl rfl rfl (by decide +kernel)
def codes1 : List Jvm.Cond := [Jvm.Cond.code x code maxLocals ret, Jvm.Cond.code ({ cls := "com/example/entitlement/entitlement/ScopeUpToPinLaw", name := "mk", desc := "(III)Ljava/lang/String;" } : Jvm.MethodName) method_2_code (6 : Nat) (Option.some (Jvm.ClassFile.FieldType.object "java/lang/String")), Jvm.Cond.code ({ cls := "java/lang/String", name := "<init>", desc := "([C)V" } : Jvm.MethodName) jdk_42_method_3_code (2 : Nat) (Option.none : Option Jvm.ClassFile.FieldType), Jvm.Cond.code ({ cls := "java/lang/String", name := "<init>", desc := "([CIILjava/lang/Void;)V" } : Jvm.MethodName) jdk_42_method_149_code (6 : Nat) (Option.none : Option Jvm.ClassFile.FieldType), Jvm.Cond.code ({ cls := "java/lang/Object", name := "<init>", desc := "()V" } : Jvm.MethodName) object_method_1_code (1 : Nat) (Option.none : Option Jvm.ClassFile.FieldType), Jvm.Cond.code ({ cls := "com/example/entitlement/entitlement/Scope", name := "upTo", desc := "(Ljava/lang/String;)Lcom/example/entitlement/entitlement/Scope;" } : Jvm.MethodName) prog_26_method_2_code (1 : Nat) (Option.some (Jvm.ClassFile.FieldType.object "com/example/entitlement/entitlement/Scope")), Jvm.Cond.code ({ cls := "java/util/Set", name := "of", desc := "(Ljava/lang/Object;)Ljava/util/Set;" } : Jvm.MethodName) jdk_96_method_18_code (1 : Nat) (Option.some (Jvm.ClassFile.FieldType.object "java/util/Set")), Jvm.Cond.code ({ cls := "java/util/ImmutableCollections$Set12", name := "<init>", desc := "(Ljava/lang/Object;)V" } : Jvm.MethodName) jdk_101_method_1_code (2 : Nat) (Option.none : Option Jvm.ClassFile.FieldType), Jvm.Cond.code ({ cls := "java/util/ImmutableCollections$AbstractImmutableSet", name := "<init>", desc := "()V" } : Jvm.MethodName) jdk_100_method_1_code (1 : Nat) (Option.none : Option Jvm.ClassFile.FieldType), Jvm.Cond.code ({ cls := "java/util/ImmutableCollections$AbstractImmutableCollection", name := "<init>", desc := "()V" } : Jvm.MethodName) jdk_47_method_1_code (1 : Nat) (Option.none : Option Jvm.ClassFile.FieldType), Jvm.Cond.code ({ cls := "java/util/AbstractCollection", name := "<init>", desc := "()V" } : Jvm.MethodName) jdk_22_method_1_code (1 : Nat) (Option.none : Option Jvm.ClassFile.FieldType), Jvm.Cond.code ({ cls := "java/util/Objects", name := "requireNonNull", desc := "(Ljava/lang/Object;)Ljava/lang/Object;" } : Jvm.MethodName) jdk_31_method_10_code (1 : Nat) (Option.some (Jvm.ClassFile.FieldType.object "java/lang/Object")), Jvm.Cond.code ({ cls := "com/example/entitlement/entitlement/Scope", name := "<init>", desc := "(Ljava/util/Set;)V" } : Jvm.MethodName) prog_26_method_1_code (2 : Nat) (Option.none : Option Jvm.ClassFile.FieldType), Jvm.Cond.code ({ cls := "com/example/entitlement/entitlement/Scope", name := "everySenior", desc := "()Z" } : Jvm.MethodName) prog_26_method_3_code (1 : Nat) (Option.some Jvm.ClassFile.FieldType.boolean), Jvm.Cond.code ({ cls := "com/example/entitlement/entitlement/Scope", name := "bounds", desc := "()Ljava/util/Set;" } : Jvm.MethodName) prog_26_method_4_code (1 : Nat) (Option.some (Jvm.ClassFile.FieldType.object "java/util/Set")), Jvm.Cond.code ({ cls := "java/lang/String", name := "equals", desc := "(Ljava/lang/Object;)Z" } : Jvm.MethodName) jdk_42_method_66_code (3 : Nat) (Option.some Jvm.ClassFile.FieldType.boolean), Jvm.Cond.code ({ cls := "java/lang/StringLatin1", name := "equals", desc := "([B[B)Z" } : Jvm.MethodName) jdk_43_method_13_code (3 : Nat) (Option.some Jvm.ClassFile.FieldType.boolean), Jvm.Cond.code ({ cls := "java/util/ImmutableCollections$Set12", name := "size", desc := "()I" } : Jvm.MethodName) jdk_101_method_3_code (1 : Nat) (Option.some Jvm.ClassFile.FieldType.int), Jvm.Cond.code ({ cls := "java/util/ImmutableCollections$Set12", name := "contains", desc := "(Ljava/lang/Object;)Z" } : Jvm.MethodName) jdk_101_method_5_code (2 : Nat) (Option.some Jvm.ClassFile.FieldType.boolean), Jvm.Cond.code ({ cls := "java/lang/StringUTF16", name := "compress", desc := "([CII)[B" } : Jvm.MethodName) jdk_52_method_16_code (6 : Nat) (Option.some (Jvm.ClassFile.FieldType.array Jvm.ClassFile.FieldType.byte)), Jvm.Cond.code ({ cls := "java/lang/StringUTF16", name := "compress", desc := "([CI[BII)I" } : Jvm.MethodName) jdk_52_method_21_code (7 : Nat) (Option.some Jvm.ClassFile.FieldType.int), Jvm.Cond.code ({ cls := "java/lang/StringUTF16", name := "coderFromArrayLen", desc := "([BI)B" } : Jvm.MethodName) jdk_52_method_15_code (2 : Nat) (Option.some Jvm.ClassFile.FieldType.byte), Jvm.Cond.code ({ cls := "java/lang/Object", name := "equals", desc := "(Ljava/lang/Object;)Z" } : Jvm.MethodName) object_method_4_code (2 : Nat) (Option.some Jvm.ClassFile.FieldType.boolean)]
set_option maxRecDepth 65536 in
theorem codes_eq : words1.filter isCode = codes1 := rfl
theorem w_codes : ∀ c ∈ words1.filter isCode, c.before args0 about1 = true := by
  rw [codes_eq]
  intro c hc
  simp only [codes1, List.mem_cons, List.not_mem_nil, or_false] at hc
  rcases hc with rfl | rfl | rfl | rfl | rfl | rfl | rfl | rfl | rfl | rfl | rfl | rfl | rfl | rfl | rfl | rfl | rfl | rfl | rfl | rfl | rfl | rfl | rfl
  · exact w_c0
  · exact w_c1
  · exact w_c2
  · exact w_c3
  · exact w_c4
  · exact w_c5
  · exact w_c6
  · exact w_c7
  · exact w_c8
  · exact w_c9
  · exact w_c10
  · exact w_c11
  · exact w_c12
  · exact w_c13
  · exact w_c14
  · exact w_c15
  · exact w_c16
  · exact w_c17
  · exact w_c18
  · exact w_c19
  · exact w_c20
  · exact w_c21
  · exact w_c22
set_option maxRecDepth 65536 in
theorem w_t1 : (words1.take 24).all (fun c => isCode c || c.before args0 about1) = true := by decide +kernel
set_option maxRecDepth 65536 in
theorem w_t2 : ((words1.drop 24).take 24).all (fun c => isCode c || c.before args0 about1) = true := by decide +kernel
set_option maxRecDepth 65536 in
theorem w_t3 : (((words1.drop 24).drop 24).take 24).all (fun c => isCode c || c.before args0 about1) = true := by decide +kernel
set_option maxRecDepth 65536 in
theorem w_t4 : ((((words1.drop 24).drop 24).drop 24).take 24).all (fun c => isCode c || c.before args0 about1) = true := by decide +kernel
set_option maxRecDepth 65536 in
theorem w_t5 : (((((words1.drop 24).drop 24).drop 24).drop 24).take 24).all (fun c => isCode c || c.before args0 about1) = true := by decide +kernel
set_option maxRecDepth 65536 in
theorem w_t6 : (((((words1.drop 24).drop 24).drop 24).drop 24).drop 24).all (fun c => isCode c || c.before args0 about1) = true := by decide +kernel
theorem w_tables : (allAtoms (Jvm.Cond.code x code maxLocals ret :: tables_1)).before args0 about1 = true := by
  rw [allAtoms_all]
  show words1.all (fun c => c.before args0 about1) = true
  refine all_split ?_ w_codes
  rw [← List.take_append_drop 24 words1, List.all_append, w_t1, ← List.take_append_drop 24 (words1.drop 24), List.all_append, w_t2, ← List.take_append_drop 24 ((words1.drop 24).drop 24), List.all_append, w_t3, ← List.take_append_drop 24 (((words1.drop 24).drop 24).drop 24), List.all_append, w_t4, ← List.take_append_drop 24 ((((words1.drop 24).drop 24).drop 24).drop 24), List.all_append, w_t5, w_t6]
  rfl
set_option maxRecDepth 65536 in
theorem w_rest : rest_1_c.before args0 about1 = true := by decide +kernel
set_option maxRecDepth 65536 in
theorem w_case : (Jvm.Cond.and given_1 narrow_1).before args0 about1 = true := by decide +kernel
set_option maxRecDepth 65536 in
theorem w_consts : constsHeld consts_1 about1 := Jvm.Lit.constsHeldB_iff.mp (by decide +kernel)
theorem w_applies : (headSpec (Jvm.Cond.code x code maxLocals ret :: tables_1) room_1).applies x e0.platform about1 = true :=
  (Spec.applies_iff w_frames).mpr ⟨w_running, w_runnable, w_alone, w_named, w_hears, w_ripe, w_room, w_tables⟩
theorem atStart : AtStart classFile x code maxLocals ret World_1 tables_1 room_1 Calls_1 rest_1 Pre_1 launch0 p0 e0 about1 theMethod args0 below0 :=
  ⟨lists_1, trivial, launch0.admits_env _ _ _, launch0.least_env, fairChoices_fair.cas, fairChoices_fair.clock, w_frames, w_args, w_heap, w_applies, ⟨w_consts, trivial⟩, w_rest, w_case⟩
end start1
theorem witness_1 : WitnessClaimed_1 := ⟨start1.p0, start1.e0, start1.about1, start1.theMethod, start1.args0, start1.below0, start1.atStart⟩
end Jvm.Pilot.@@N@@
