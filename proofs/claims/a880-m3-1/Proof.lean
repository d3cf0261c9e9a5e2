import JvmDerived
import JvmDerived.Pilot.@@N@@Statement
import JvmDerived.Pilot.@@N@@Code
set_option linter.unusedVariables false
set_option linter.unusedSimpArgs false
namespace Jvm.Ow
open Sem ClassFile Op Lib Bundle Jvm.Stand Jvm.Free Jvm.LawKit Jvm.RoadKit
abbrev Po : Type := Option Value → Heap → List Addr → Prop
section Defs
variable (p : Program) (l : Launch) (e : Env) (R : Room) (s : State) (m : MethodId) (args : Array Value) (below : List Frame) (meth : Method) (c : Code) (Z : State) (EL : List (String × Nat)) (n0 : Nat) (own : String)
def SafeL (vm : Vm) (h : Heap) (S : List Addr) : Prop := ∀ x ∈ S, x < h.size ∧ Safe Z EL vm h x
def Don (Q : Po) (U : State) (o : Outcome) (U' : State) (rm : Room) : Prop :=
  ∃ v L S', o = .returned v ∧ (Q v U'.heap S' ∧ Fr n0 L ∧ Old Z n0 U'.heap ∧ SafeL Z EL U'.vm U'.heap S') ∧ CHr Z EL U.vm U.heap U'.vm U'.heap ∧ ReturnedEndW U o U' L rm.cells rm.slots
def Con (y : MethodName) (bytes : ByteArray) (maxL : Nat) (ret : Option FieldType) (ws : List Jvm.Cond) (rm : Room) (as' : Array Value) (S : List Addr) (h : Heap) (Q : Po) : Prop :=
  MetFree l y (head1 (Jvm.Cond.code y bytes maxL ret :: ws) rm) (fun a U => a = as' ∧ Z.Warmed39 U.vm ∧ U.heap = h ∧ CHv Z EL U.vm h ∧ SafeL Z EL U.vm h S) (fun _ _ _ _ _ => True) (fun _ U o U' => Don Z EL n0 Q U o U' rm)
def Sit (S : List Addr) (h : Heap) (k n : Nat) (T : State) : Prop :=
  ∃ locs vm0 k0 k' n', k' ≤ k ∧ n' ≤ n ∧ Stand p l e R (s.setVm vm0) m args below meth c T locs k' n' ∧ T.heap = h ∧ s.Since vm0 k0 ∧ k0 ≤ h.size ∧ Z.Warmed39 vm0 ∧ vm0.findClass own = some m.cls ∧ Fr n0 locs ∧ Old Z n0 h ∧ CHr Z EL s.vm s.heap vm0 h ∧ SafeL Z EL vm0 h S
def Fnl (Q : Po) (t : State) : Prop := ∃ s₂ o, Steps p.tables e below t s₂ ∧ s₂.status = .running ∧ Ended s₂ below o ∧ Don Z EL n0 Q s o s₂ R
def Go (Q : Po) (S : List Addr) (h : Heap) (k n : Nat) (pc : Nat) (Ls : Array Slot) (st : List Value) : Prop :=
  ∀ T, Sit p l e R s m args below meth c Z EL n0 own S h k n T → Fnl p e R s below Z EL n0 Q (T.setTop (mkF m pc Ls st))
def Bdy (a0 : Array Value) (bytes : ByteArray) (maxL : Nat) (ret : Option FieldType) (nm : String) : Prop :=
  p.tables.exec = Jvm.exec ∧ c.code = bytes ∧ c.maxLocals = maxL ∧ meth.sig.returnType = ret ∧ meth.name = nm ∧ meth.locks = false ∧ EW Z a0 EL ∧ (∀ w ∈ Bundle.stringAtoms, w.before a0 Z = true)
end Defs
section Rules
variable {p : Program} {l : Launch} {e : Env} {R : Room} {s : State} {m : MethodId} {args : Array Value} {below : List Frame} {meth : Method} {c : Code} {Z : State} {EL : List (String × Nat)} {n0 : Nat} {own : String} {a0 : Array Value} {bytes : ByteArray} {maxL : Nat} {ret : Option FieldType} {nm : String} {Q : Po} {S S' : List Addr} {h h' : Heap} {k n k' n' pc pc' : Nat} {Ls Ls' : Array Slot} {st st' rest : List Value}
theorem SafeL.nil {vm : Vm} : SafeL Z EL vm h [] := fun _ q => nomatch q
theorem SafeL.chr {vm vm1 : Vm} (A : CHr Z EL vm h vm1 h') (q : SafeL Z EL vm h S) : SafeL Z EL vm1 h' S := fun x hx => ⟨Nat.lt_of_lt_of_le (q x hx).1 A.2.1, A.safe (q x hx).1 (q x hx).2⟩
theorem SafeL.sub {vm : Vm} (q : SafeL Z EL vm h S) (hs : ∀ x ∈ S', x ∈ S) : SafeL Z EL vm h S' := fun x hx => q x (hs x hx)
theorem SafeL.app {vm : Vm} (q : SafeL Z EL vm h S) (q' : SafeL Z EL vm h S') : SafeL Z EL vm h (S ++ S') := fun x hx => (List.mem_append.mp hx).elim (q x) (q' x)
theorem SafeL.cons {vm : Vm} {a : Addr} (ha : a < h.size ∧ Safe Z EL vm h a) (q : SafeL Z EL vm h S) : SafeL Z EL vm h (a :: S) := fun x hx => (List.mem_cons.mp hx).elim (fun z => z ▸ ha) (q x)
theorem keepE (E : Ext h h') : Keep h h' [] := (Keep.refl h []).ext E
theorem nin0 {x : Nat} : x ∉ ([] : List Nat) := fun q => nomatch q
theorem ninS {x y : Nat} {L : List Nat} (q : x ≠ y) (r : x ∉ L) : x ∉ y :: L := by simp [q, r]
theorem allI0 {P : Int32 → Prop} : ∀ x ∈ ([] : List Int32), P x := fun _ q => nomatch q
theorem allI {P : Int32 → Prop} {y : Int32} {L : List Int32} (q : P y) (r : ∀ x ∈ L, P x) : ∀ x ∈ y :: L, P x := List.forall_mem_cons.mpr ⟨q, r⟩
theorem old_le (O : Old Z n0 h) : n0 ≤ h.size := O.1 ▸ O.2.1
theorem Con.weak {y : MethodName} {ws : List Jvm.Cond} {rm : Room} {as' : Array Value} {Q' : Po} (H : Con l Z EL n0 y bytes maxL ret ws rm as' S h Q) (hq : ∀ v h' S', Q v h' S' → Q' v h' S') : Con l Z EL n0 y bytes maxL ret ws rm as' S h Q' := by
  intro p e ha hc hk s m args below hf happ hP hK
  obtain ⟨n, o, h1, h2, h3, v, L, S', e1, ⟨q1, q2⟩, q3⟩ := H p e ha hc hk s m args below hf happ hP hK
  exact ⟨n, o, h1, h2, h3, v, L, S', e1, ⟨hq _ _ _ q1, q2⟩, q3⟩
theorem Go.mono (hk : k ≤ k') (hn : n ≤ n') (hs : ∀ x ∈ S', x ∈ S) (hr : Go p l e R s m args below meth c Z EL n0 own Q S' h k' n' pc Ls st) : Go p l e R s m args below meth c Z EL n0 own Q S h k n pc Ls st := by
  intro T ⟨locs, vm0, k0, k1, n1, q1, q2, X, eT, hS, hk0, hZ, hown, N, O, C, SL⟩
  exact hr T ⟨locs, vm0, k0, k1, n1, Nat.le_trans q1 hk, Nat.le_trans q2 hn, X, eT, hS, hk0, hZ, hown, N, O, C, SL.sub hs⟩
theorem Go.norm (hs : ∀ x ∈ S', x ∈ S) (hst : st = st') (hr : Go p l e R s m args below meth c Z EL n0 own Q S' h k n pc Ls st') : Go p l e R s m args below meth c Z EL n0 own Q S h k n pc Ls st := by
  subst hst
  exact Go.mono (Nat.le_refl _) (Nat.le_refl _) hs hr
/-- in a walk the old heap is there -/
theorem Go.old (hr : Old Z n0 h → Go p l e R s m args below meth c Z EL n0 own Q S h k n pc Ls st) : Go p l e R s m args below meth c Z EL n0 own Q S h k n pc Ls st := by
  intro T A
  have A' := A
  obtain ⟨locs, vm0, k0, k1, n1, q1, q2, X, eT, hS, hk0, hZ, hown, N, O, C, SL⟩ := A'
  exact hr O T A
/-- what is safe is there -/
theorem Go.lts (hr : (∀ x ∈ S, x < h.size) → Go p l e R s m args below meth c Z EL n0 own Q S h k n pc Ls st) : Go p l e R s m args below meth c Z EL n0 own Q S h k n pc Ls st := by
  intro T A
  have A' := A
  obtain ⟨locs, vm0, k0, k1, n1, q1, q2, X, eT, hS, hk0, hZ, hown, N, O, C, SL⟩ := A'
  exact hr (fun x hx => (SL x hx).1) T A
/-- a join: the rest from pc1 is walked once -/
theorem Go.join {α : Type} {pc1 : Nat} (F : α → Array Slot) (D : α → List Value) (hJ : ∀ b, Go p l e R s m args below meth c Z EL n0 own Q S h k n pc1 (F b) (D b)) (hr : (∀ b, Go p l e R s m args below meth c Z EL n0 own Q S h k n pc1 (F b) (D b)) → Go p l e R s m args below meth c Z EL n0 own Q S h k n pc Ls st) : Go p l e R s m args below meth c Z EL n0 own Q S h k n pc Ls st := hr hJ
theorem Con.enter {y : MethodName} {ws : List Jvm.Cond} {rm : Room} {as' : Array Value} (hpl : plainFor y = true) (hO : Old Z n0 h) (hEW : EW Z a0 EL) (hwS : ∀ w ∈ Bundle.stringAtoms, w.before a0 Z = true)
    (body : ∀ (p : Program) (e : Env) (s : State) (m : MethodId) (below : List Frame) (meth : Method) (c : Code), Bdy p meth c Z EL a0 bytes maxL ret y.name → Go p l e rm s m as' below meth c Z EL n0 y.cls Q S h 0 0 0 Ls [])
    (hef : ∀ m : MethodId, entryFrame m as' maxL = mkF m 0 Ls [] := by intro m; first | rfl | (simp [entryFrame, mkF, argsToLocals, Value.category]; done)) :
    Con l Z EL n0 y bytes maxL ret ws rm as' S h Q := by
  refine MetFree.of_bodySF hpl hisR ?_
  intro p e s m args below meth c s₁ Bd hml0 hP hK
  obtain ⟨rfl, hZ, rfl, hC, hS⟩ := hP
  have X0 : Stand p l e rm s m args below meth c s₁ [] 0 0 := Stand.of_body Bd
  have hown : s.vm.findClass y.cls = some m.cls := findClass_of_methodNamed Bd.named
  have hnm := (name_of_methodNamed Bd.named Bd.method).1
  have e0 : s₁.heap = s.heap := by rw [Bd.state]; rfl
  rw [hef m]
  exact body p e s m below meth c ⟨Bd.exec, Bd.bytes, hml0, Bd.returns, hnm, Bd.notSynchronized, hEW, hwS⟩ s₁ ⟨[], s.vm, s.heap.size, 0, 0, Nat.le_refl _, Nat.le_refl _, X0, e0, (State.WarmedH.refl s).since _, Nat.le_refl _, hZ, hown, Fr.nil _, hO, CHr.refl hC, hS⟩
theorem plain (hr : Go p l e R s m args below meth c Z EL n0 own Q S h k n pc' Ls' st')
    (stp : ∀ T, At T m c below → ∀ t, Steps p.tables e below (T.setTop (mkF m pc' Ls' st')) t → Steps p.tables e below (T.setTop (mkF m pc Ls st)) t) : Go p l e R s m args below meth c Z EL n0 own Q S h k n pc Ls st := by
  intro T A
  have A' := A
  obtain ⟨locs, vm0, k0, k1, n1, q1, q2, X, r⟩ := A'
  obtain ⟨s2, o, q, r2⟩ := hr T A
  exact ⟨s2, o, stp T X.here _ q, r2⟩
/-- a step that may warm the tables, the heap as it was -/
theorem warm (hr : Go p l e R s m args below meth c Z EL n0 own Q S h k n pc' Ls' st')
    (stp : ∀ T vm0 locs k1 n1, Stand p l e R (s.setVm vm0) m args below meth c T locs k1 n1 → T.heap = h → Z.Warmed39 (s.setVm vm0).vm → (s.setVm vm0).vm.findClass own = some m.cls → Old Z n0 h →
      ∃ T', Stand p l e R (s.setVm vm0) m args below meth c T' locs k1 n1 ∧ T'.heap = h ∧ ∀ t, Steps p.tables e below (T'.setTop (mkF m pc' Ls' st')) t → Steps p.tables e below (T.setTop (mkF m pc Ls st)) t) : Go p l e R s m args below meth c Z EL n0 own Q S h k n pc Ls st := by
  intro T ⟨locs, vm0, k0, k1, n1, q1, q2, X, eT, hS, hk0, hZ, hown, N, O, C, SL⟩
  obtain ⟨T', X', e', sp⟩ := stp T vm0 locs k1 n1 X eT hZ hown O
  obtain ⟨s2, o, q, r2⟩ := hr T' ⟨locs, vm0, k0, k1, n1, q1, q2, X', e', hS, hk0, hZ, hown, N, O, C, SL⟩
  exact ⟨s2, o, sp _ q, r2⟩
/-- a step that makes one cell -/
theorem made {dc dn : Nat} {nn : Nat} {P : Heap → Prop} (hk : k + 1 ≤ k') (hn : n + nn ≤ n')
    (stp : ∀ T vm0 locs k1 n1, k1 ≤ k → n1 ≤ n → Stand p l e R (s.setVm vm0) m args below meth c T locs k1 n1 → T.heap = h → Z.Warmed39 (s.setVm vm0).vm → (s.setVm vm0).vm.findClass own = some m.cls →
      ∃ T' h', Stand p l e R (s.setVm vm0) m args below meth c T' locs (k1 + 1) (n1 + nn) ∧ T'.heap = h' ∧ Ext h h' ∧ h.size < h'.size ∧ P h' ∧ ∀ t, Steps p.tables e below (T'.setTop (mkF m pc' Ls' st')) t → Steps p.tables e below (T.setTop (mkF m pc Ls st)) t)
    (hr : ∀ h', Ext h h' → P h' → n0 ≤ h.size → Go p l e R s m args below meth c Z EL n0 own Q (h.size :: S) h' k' n' pc' Ls' st') : Go p l e R s m args below meth c Z EL n0 own Q S h k n pc Ls st := by
  intro T ⟨locs, vm0, k0, k1, n1, q1, q2, X, eT, hS, hk0, hZ, hown, N, O, C, SL⟩
  obtain ⟨T', h', X', e', E, lt, hP, sp⟩ := stp T vm0 locs k1 n1 q1 q2 X eT hZ hown
  have A := CHr.ext (EL := EL) (vm := vm0) E C.1
  have sf : Safe Z EL vm0 h h.size := Safe.new (Nat.le_refl _)
  obtain ⟨s2, o, q, r2⟩ := hr h' E hP (old_le O) T' ⟨locs, vm0, k0, k1 + 1, n1 + nn, by omega, by omega, X', e', hS, Nat.le_trans hk0 E.1, hZ, hown, N, O.ext E, C.trans A, (SL.chr A).cons ⟨lt, sf.ext E C.1⟩⟩
  exact ⟨s2, o, sp _ q, r2⟩
/-- a step that writes one place of one cell -/
theorem wrote {a : Addr} {sl : Nat} {v : Value} (ha : n0 ≤ a) (hsafe : ∀ vm0, Z.Warmed39 vm0 → SafeL Z EL vm0 h S → Safe Z EL vm0 h a)
    (stp : ∀ T vm0 locs k1 n1, Stand p l e R (s.setVm vm0) m args below meth c T locs k1 n1 → T.heap = h → Z.Warmed39 (s.setVm vm0).vm → (s.setVm vm0).vm.findClass own = some m.cls →
      ∃ T' h', Stand p l e R (s.setVm vm0) m args below meth c T' (locs ++ [⟨a, sl⟩]) k1 n1 ∧ T'.heap = h' ∧ Wr h h' a sl v ∧ ∀ t, Steps p.tables e below (T'.setTop (mkF m pc' Ls' st')) t → Steps p.tables e below (T.setTop (mkF m pc Ls st)) t)
    (hr : ∀ h', Wr h h' a sl v → Go p l e R s m args below meth c Z EL n0 own Q S h' k n pc' Ls' st') : Go p l e R s m args below meth c Z EL n0 own Q S h k n pc Ls st := by
  intro T ⟨locs, vm0, k0, k1, n1, q1, q2, X, eT, hS, hk0, hZ, hown, N, O, C, SL⟩
  obtain ⟨T', h', X', e', W, sp⟩ := stp T vm0 locs k1 n1 X eT hZ hown
  have A := CHr.wr (EL := EL) (vm := vm0) W (hsafe vm0 hZ SL) C.1
  obtain ⟨s2, o, q, r2⟩ := hr h' W T' ⟨_, vm0, k0, k1, n1, q1, q2, X', e', hS, by rw [W.size]; exact hk0, hZ, hown, Fr.snoc X' N ha, O.wr W ha, C.trans A, SL.chr A⟩
  exact ⟨s2, o, sp _ q, r2⟩
/-- a callee by its contract -/
theorem Con.back {y : MethodName} {bytes' : ByteArray} {maxL' : Nat} {ret' : Option FieldType} {rm : Room} {as' : Array Value} {Q' : Po} {len W : Nat} {vm0 : Vm} (hM : Con l Z EL n0 y bytes' maxL' ret' [] rm as' S h Q')
    (hZ : Z.Warmed39 vm0) (wc : (Jvm.Cond.code y bytes' maxL' ret').before a0 Z = true) (wz : (Jvm.Cond.initialized y.cls).before a0 Z = true) (hf : rm.frames + 1 ≤ R.frames) (hl : W + (maxL' + 11) + rm.locals ≤ R.locals) (hEL : EW Z a0 EL) (H : CHv Z EL vm0 h) (hSL : SafeL Z EL vm0 h S) :
    BackS l R p e below (s.setVm vm0) args y len W (fun A a => a = as' ∧ A.U.heap = h ∧ A.cells + rm.cells ≤ R.cells ∧ A.slots + rm.slots ≤ R.slots)
      (fun A _ v B => ∃ L S', (Q' v B.U.heap S' ∧ Fr n0 L ∧ Old Z n0 B.U.heap ∧ SafeL Z EL B.U.vm B.U.heap S') ∧ B.locs = A.locs ++ L ∧ B.cells = A.cells + rm.cells ∧ B.slots = A.slots + rm.slots ∧ CHr Z EL vm0 h B.U.vm B.U.heap) := by
  have loc : ∀ {m : MethodId} {meth : Method} {c : Code} {A : Pt}, Stand p l e R (s.setVm vm0) m args below meth c A.U A.locs A.cells A.slots → Z.Warmed39 A.U.vm ∧ CHr Z EL vm0 h A.U.vm h := fun Y => ⟨wtrans (s := s.setVm vm0) hZ Y.warmed, CHv.at Y hZ hEL H⟩
  apply BackS.of_freeW (bytes := bytes') (maxL := maxL') (ret := ret') (E := fun _ U o U' L k n => ∃ v S', (o, k, n) = (.returned v, rm.cells, rm.slots) ∧ CHr Z EL U.vm U.heap U'.vm U'.heap ∧ Q' v U'.heap S' ∧ Fr n0 L ∧ Old Z n0 U'.heap ∧ SafeL Z EL U'.vm U'.heap S') hM hf hl
  · rintro m meth c A a Y ⟨-, -, g1, g2⟩
    have cd : (Jvm.Cond.code y bytes' maxL' ret').before a A.U = true := mv (loc Y).1 wc
    have ct : (Jvm.Cond.and (Jvm.Cond.code y bytes' maxL' ret') .tt).before a A.U = true := by rw [Cond.before_and, cd]; rfl
    exact ⟨ct, cd, mv (loc Y).1 wz, g1, g2⟩
  · rintro m meth c A a g mk Y ⟨g1, g2, -⟩
    exact ⟨g1, (loc Y).1, g2, (loc Y).2.1, hSL.chr (loc Y).2⟩
  · intros; trivial
  · rintro _ _ _ _ ⟨v, L, S', rfl, d, hC, hE⟩
    exact ⟨L, _, _, hE, v, S', rfl, hC, d⟩
  · rintro m meth c A a g mk v t L k n Y ⟨-, rfl, -⟩ - - ⟨v', S', o1, hC, d⟩
    cases o1
    exact ⟨L, S', d, rfl, rfl, rfl, (loc Y).2.trans hC⟩
theorem mvFace {Z s : State} {a0 args : Array Value} {a c d : String} (hZ : Z.Warmed39 s.vm) (hy : a ≠ "java/lang/invoke/MethodHandle" ∧ a ≠ "java/lang/invoke/VarHandle") (w : (Jvm.Cond.interfaceMethod a a c d).before a0 Z = true) : (Jvm.Cond.interfaceMethod a a c d).before args s = true := by
  have h1 : (Jvm.Cond.interfaceMethod a a c d).before a0 (Z.setVm s.vm) = true := Cond.faceAtom_setVm hZ.alike _ (by simp [Cond.faceAtom, hy.1, hy.2]) w
  exact h1
theorem mvPub {Z s : State} {a0 args : Array Value} {y : MethodName} (hZ : Z.Warmed39 s.vm) (w : (Jvm.Cond.publicMethod y).before a0 Z = true) : (Jvm.Cond.publicMethod y).before args s = true := by
  have h1 : (Jvm.Cond.publicMethod y).before a0 (Z.setVm s.vm) = true := Cond.rides hZ rfl w
  exact h1
theorem mvUnh {Z s : State} {a0 args : Array Value} {a b c : String} (hZ : Z.Warmed39 s.vm) (w : (Jvm.Cond.unhidden a b c).before a0 Z = true) : (Jvm.Cond.unhidden a b c).before args s = true := by
  have h1 : (Jvm.Cond.unhidden a b c).before a0 (Z.setVm s.vm) = true := Cond.rides hZ rfl w
  exact h1
abbrev NoH (y : MethodName) : Prop := y.cls ≠ "java/lang/invoke/MethodHandle" ∧ y.cls ≠ "java/lang/invoke/VarHandle"
/-- behind a call -/
theorem after {T : State} {vm0 : Vm} {k0 k1 n1 : Nat} {rm : Room} {Q' : Po} {v : Option Value} {P : Pt} {locs : List Loc} {t0 : State} (hS : s.Since vm0 k0) (hk0 : k0 ≤ h.size) (eT : T.heap = h) (q1 : k1 ≤ k) (q2 : n1 ≤ n) (hk : k + rm.cells ≤ k') (hn : n + rm.slots ≤ n')
    (hZ : Z.Warmed39 vm0) (hown : vm0.findClass own = some m.cls) (N : Fr n0 locs) (C : CHr Z EL s.vm s.heap vm0 h) (SL : SafeL Z EL vm0 h S)
    (X' : Stand p l e R ((s.setVm vm0).setVm P.U.vm) m args below meth c P.U P.locs P.cells P.slots) (h2 : (s.setVm vm0).Since P.U.vm P.U.heap.size) (hg : T.heap.size ≤ P.U.heap.size)
    (hpost : ∃ L S', (Q' v P.U.heap S' ∧ Fr n0 L ∧ Old Z n0 P.U.heap ∧ SafeL Z EL P.U.vm P.U.heap S') ∧ P.locs = locs ++ L ∧ P.cells = k1 + rm.cells ∧ P.slots = n1 + rm.slots ∧ CHr Z EL vm0 h P.U.vm P.U.heap)
    (hst : Steps p.tables e below t0 (P.U.setTop (mkF m pc' Ls (v.toList ++ rest))))
    (hr : ∀ v h' S', Q' v h' S' → h.size ≤ h'.size → Go p l e R s m args below meth c Z EL n0 own Q (S' ++ S) h' k' n' pc' Ls (v.toList ++ rest)) : Fnl p e R s below Z EL n0 Q t0 := by
  obtain ⟨L, S', ⟨hQ, N', O', SL'⟩, e1, e2, e3, C'⟩ := hpost
  obtain ⟨Y, hS2, hZ2, hown2⟩ := rebS hS (by rw [eT]; exact hk0) X' h2 hg hZ hown
  obtain ⟨s2, o, q, r2⟩ := hr v P.U.heap S' hQ C'.2.1 P.U ⟨P.locs, P.U.vm, P.U.heap.size, P.cells, P.slots, by omega, by omega, Y, rfl, hS2, Nat.le_refl _, hZ2, hown2, e1 ▸ N.app N', O', C.trans C', SL'.app (SL.chr C')⟩
  exact ⟨s2, o, hst.trans q, r2⟩
theorem iload (B : Bdy p meth c Z EL a0 bytes maxL ret nm) {j : Nat} {x : Int32} (hd : decode bytes pc = .ok (.iload j, 2)) (hr : Go p l e R s m args below meth c Z EL n0 own Q S h k n pc' Ls (.int x :: st)) (hp : pc' = pc + 2 := by rfl) (hl : Ls[j]? = some (.val (.int x)) := by rfl) : Go p l e R s m args below meth c Z EL n0 own Q S h k n pc Ls st := by
  subst hp
  exact plain hr fun T A t q => XS.iload A B.1 rfl (hb B.2.1 hd) hl q
theorem iloadN (B : Bdy p meth c Z EL a0 bytes maxL ret nm) {j : Fin 4} {x : Int32} (hd : decode bytes pc = .ok (.iload_n j, 1)) (hr : Go p l e R s m args below meth c Z EL n0 own Q S h k n pc' Ls (.int x :: st)) (hp : pc' = pc + 1 := by rfl) (hl : Ls[j.val]? = some (.val (.int x)) := by rfl) : Go p l e R s m args below meth c Z EL n0 own Q S h k n pc Ls st := by
  subst hp
  exact plain hr fun T A t q => XS.iloadN A B.1 rfl (hb B.2.1 hd) hl q
theorem lload (B : Bdy p meth c Z EL a0 bytes maxL ret nm) {j : Nat} {x : Int64} (hd : decode bytes pc = .ok (.lload j, 2)) (hr : Go p l e R s m args below meth c Z EL n0 own Q S h k n pc' Ls (.long x :: st)) (hp : pc' = pc + 2 := by rfl) (hl : Ls[j]? = some (.val (.long x)) := by rfl) : Go p l e R s m args below meth c Z EL n0 own Q S h k n pc Ls st := by
  subst hp
  exact plain hr fun T A t q => XT.lload A B.1 rfl (hb B.2.1 hd) hl q
theorem lloadN (B : Bdy p meth c Z EL a0 bytes maxL ret nm) {j : Fin 4} {x : Int64} (hd : decode bytes pc = .ok (.lload_n j, 1)) (hr : Go p l e R s m args below meth c Z EL n0 own Q S h k n pc' Ls (.long x :: st)) (hp : pc' = pc + 1 := by rfl) (hl : Ls[j.val]? = some (.val (.long x)) := by rfl) : Go p l e R s m args below meth c Z EL n0 own Q S h k n pc Ls st := by
  subst hp
  exact plain hr fun T A t q => XT.lloadN A B.1 rfl (hb B.2.1 hd) hl q
theorem aload (B : Bdy p meth c Z EL a0 bytes maxL ret nm) {j : Nat} {v : Value} (hd : decode bytes pc = .ok (.aload j, 2)) (hr : Go p l e R s m args below meth c Z EL n0 own Q S h k n pc' Ls (v :: st)) (hp : pc' = pc + 2 := by rfl) (hl : Ls[j]? = some (.val v) := by rfl) (hv : v.isRef = true := by rfl) : Go p l e R s m args below meth c Z EL n0 own Q S h k n pc Ls st := by
  subst hp
  exact plain hr fun T A t q => XS.aload A B.1 rfl (hb B.2.1 hd) hl hv q
theorem aloadN (B : Bdy p meth c Z EL a0 bytes maxL ret nm) {j : Fin 4} {v : Value} (hd : decode bytes pc = .ok (.aload_n j, 1)) (hr : Go p l e R s m args below meth c Z EL n0 own Q S h k n pc' Ls (v :: st)) (hp : pc' = pc + 1 := by rfl) (hl : Ls[j.val]? = some (.val v) := by rfl) (hv : v.isRef = true := by rfl) : Go p l e R s m args below meth c Z EL n0 own Q S h k n pc Ls st := by
  subst hp
  exact plain hr fun T A t q => XS.aloadN A B.1 rfl (hb B.2.1 hd) hl hv q
theorem istore (B : Bdy p meth c Z EL a0 bytes maxL ret nm) {j : Nat} {x : Int32} (hd : decode bytes pc = .ok (.istore j, 2)) (hr : Go p l e R s m args below meth c Z EL n0 own Q S h k n pc' Ls' st) (hp : pc' = pc + 2 := by rfl) (hl : storeLocals Ls j (.int x) = some Ls' := by rfl) : Go p l e R s m args below meth c Z EL n0 own Q S h k n pc Ls (.int x :: st) := by
  subst hp
  exact plain hr fun T A t q => XS.istore A B.1 rfl (hb B.2.1 hd) rfl hl q
theorem istoreN (B : Bdy p meth c Z EL a0 bytes maxL ret nm) {j : Fin 4} {x : Int32} (hd : decode bytes pc = .ok (.istore_n j, 1)) (hr : Go p l e R s m args below meth c Z EL n0 own Q S h k n pc' Ls' st) (hp : pc' = pc + 1 := by rfl) (hl : storeLocals Ls j.val (.int x) = some Ls' := by rfl) : Go p l e R s m args below meth c Z EL n0 own Q S h k n pc Ls (.int x :: st) := by
  subst hp
  exact plain hr fun T A t q => XS.istoreN A B.1 rfl (hb B.2.1 hd) rfl hl q
theorem lstore (B : Bdy p meth c Z EL a0 bytes maxL ret nm) {j : Nat} {x : Int64} (hd : decode bytes pc = .ok (.lstore j, 2)) (hr : Go p l e R s m args below meth c Z EL n0 own Q S h k n pc' Ls' st) (hp : pc' = pc + 2 := by rfl) (hl : storeLocals Ls j (.long x) = some Ls' := by rfl) : Go p l e R s m args below meth c Z EL n0 own Q S h k n pc Ls (.long x :: st) := by
  subst hp
  exact plain hr fun T A t q => XT.lstore A B.1 rfl (hb B.2.1 hd) rfl hl q
theorem lstoreN (B : Bdy p meth c Z EL a0 bytes maxL ret nm) {j : Fin 4} {x : Int64} (hd : decode bytes pc = .ok (.lstore_n j, 1)) (hr : Go p l e R s m args below meth c Z EL n0 own Q S h k n pc' Ls' st) (hp : pc' = pc + 1 := by rfl) (hl : storeLocals Ls j.val (.long x) = some Ls' := by rfl) : Go p l e R s m args below meth c Z EL n0 own Q S h k n pc Ls (.long x :: st) := by
  subst hp
  exact plain hr fun T A t q => XT.lstoreN A B.1 rfl (hb B.2.1 hd) rfl hl q
theorem astore (B : Bdy p meth c Z EL a0 bytes maxL ret nm) {j : Nat} {v : Value} (hd : decode bytes pc = .ok (.astore j, 2)) (hr : Go p l e R s m args below meth c Z EL n0 own Q S h k n pc' Ls' st) (hp : pc' = pc + 2 := by rfl) (hv : v.isRef = true := by rfl) (hl : storeLocals Ls j v = some Ls' := by rfl) : Go p l e R s m args below meth c Z EL n0 own Q S h k n pc Ls (v :: st) := by
  subst hp
  exact plain hr fun T A t q => XS.astore A B.1 rfl (hb B.2.1 hd) rfl hv hl q
theorem astoreN (B : Bdy p meth c Z EL a0 bytes maxL ret nm) {j : Fin 4} {v : Value} (hd : decode bytes pc = .ok (.astore_n j, 1)) (hr : Go p l e R s m args below meth c Z EL n0 own Q S h k n pc' Ls' st) (hp : pc' = pc + 1 := by rfl) (hv : v.isRef = true := by rfl) (hl : storeLocals Ls j.val v = some Ls' := by rfl) : Go p l e R s m args below meth c Z EL n0 own Q S h k n pc Ls (v :: st) := by
  subst hp
  exact plain hr fun T A t q => XS.astoreN A B.1 rfl (hb B.2.1 hd) rfl hv hl q
theorem iinc (B : Bdy p meth c Z EL a0 bytes maxL ret nm) {j : Nat} {cst : Int} {x y : Int32} (hd : decode bytes pc = .ok (.iinc j cst, 3)) (hr : Go p l e R s m args below meth c Z EL n0 own Q S h k n pc' Ls' st) (hp : pc' = pc + 3 := by rfl) (hl : Ls[j]? = some (.val (.int x)) := by rfl) (hy : y = x + Int32.ofInt cst := by first | rfl | decide) (hl' : storeLocals Ls j (.int y) = some Ls' := by rfl) : Go p l e R s m args below meth c Z EL n0 own Q S h k n pc Ls st := by
  subst hp
  exact plain hr fun T A t q => XS.iinc A B.1 rfl (hb B.2.1 hd) hl (hy ▸ hl') q
theorem iconst (B : Bdy p meth c Z EL a0 bytes maxL ret nm) {i : Int} {x : Int32} (hd : decode bytes pc = .ok (.iconst i, 1)) (hr : Go p l e R s m args below meth c Z EL n0 own Q S h k n pc' Ls (.int x :: st)) (hp : pc' = pc + 1 := by rfl) (hi : Int32.ofInt i = x := by first | rfl | decide) : Go p l e R s m args below meth c Z EL n0 own Q S h k n pc Ls st := by
  subst hp
  exact plain hr fun T A t q => XS.iconst A B.1 rfl (hb B.2.1 hd) (hi ▸ q)
theorem bipush (B : Bdy p meth c Z EL a0 bytes maxL ret nm) {i : Int} {x : Int32} (hd : decode bytes pc = .ok (.bipush i, 2)) (hr : Go p l e R s m args below meth c Z EL n0 own Q S h k n pc' Ls (.int x :: st)) (hp : pc' = pc + 2 := by rfl) (hi : (Int8.ofInt i).toInt32 = x := by first | rfl | decide) : Go p l e R s m args below meth c Z EL n0 own Q S h k n pc Ls st := by
  subst hp
  exact plain hr fun T A t q => XS.bipush A B.1 rfl (hb B.2.1 hd) (hi ▸ q)
theorem sipush (B : Bdy p meth c Z EL a0 bytes maxL ret nm) {i : Int} {x : Int32} (hd : decode bytes pc = .ok (.sipush i, 3)) (hr : Go p l e R s m args below meth c Z EL n0 own Q S h k n pc' Ls (.int x :: st)) (hp : pc' = pc + 3 := by rfl) (hi : (Int16.ofInt i).toInt32 = x := by first | rfl | decide) : Go p l e R s m args below meth c Z EL n0 own Q S h k n pc Ls st := by
  subst hp
  exact plain hr fun T A t q => XS.sipush A B.1 rfl (hb B.2.1 hd) (hi ▸ q)
theorem aconstNull (B : Bdy p meth c Z EL a0 bytes maxL ret nm)  (hd : decode bytes pc = .ok (.aconst_null, 1)) (hr : Go p l e R s m args below meth c Z EL n0 own Q S h k n pc' Ls (.null :: st)) (hp : pc' = pc + 1 := by rfl)  : Go p l e R s m args below meth c Z EL n0 own Q S h k n pc Ls st := by
  subst hp
  exact plain hr fun T A t q => XS.aconstNull A B.1 rfl (hb B.2.1 hd) q
theorem iadd (B : Bdy p meth c Z EL a0 bytes maxL ret nm) {x y z : Int32} (hd : decode bytes pc = .ok (.iadd, 1)) (hr : Go p l e R s m args below meth c Z EL n0 own Q S h k n pc' Ls (.int z :: st)) (hp : pc' = pc + 1 := by rfl) (hz : x + y = z := by first | rfl | decide) : Go p l e R s m args below meth c Z EL n0 own Q S h k n pc Ls (.int y :: .int x :: st) := by
  subst hp
  exact plain hr fun T A t q => XS.iadd A B.1 rfl (hb B.2.1 hd) rfl (hz ▸ q)
theorem isub (B : Bdy p meth c Z EL a0 bytes maxL ret nm) {x y z : Int32} (hd : decode bytes pc = .ok (.isub, 1)) (hr : Go p l e R s m args below meth c Z EL n0 own Q S h k n pc' Ls (.int z :: st)) (hp : pc' = pc + 1 := by rfl) (hz : x - y = z := by first | rfl | decide) : Go p l e R s m args below meth c Z EL n0 own Q S h k n pc Ls (.int y :: .int x :: st) := by
  subst hp
  exact plain hr fun T A t q => XS.isub A B.1 rfl (hb B.2.1 hd) rfl (hz ▸ q)
theorem imul (B : Bdy p meth c Z EL a0 bytes maxL ret nm) {x y z : Int32} (hd : decode bytes pc = .ok (.imul, 1)) (hr : Go p l e R s m args below meth c Z EL n0 own Q S h k n pc' Ls (.int z :: st)) (hp : pc' = pc + 1 := by rfl) (hz : x * y = z := by first | rfl | decide) : Go p l e R s m args below meth c Z EL n0 own Q S h k n pc Ls (.int y :: .int x :: st) := by
  subst hp
  exact plain hr fun T A t q => XS.imul A B.1 rfl (hb B.2.1 hd) rfl (hz ▸ q)
theorem iand (B : Bdy p meth c Z EL a0 bytes maxL ret nm) {x y z : Int32} (hd : decode bytes pc = .ok (.iand, 1)) (hr : Go p l e R s m args below meth c Z EL n0 own Q S h k n pc' Ls (.int z :: st)) (hp : pc' = pc + 1 := by rfl) (hz : x &&& y = z := by first | rfl | decide) : Go p l e R s m args below meth c Z EL n0 own Q S h k n pc Ls (.int y :: .int x :: st) := by
  subst hp
  exact plain hr fun T A t q => XS.iand A B.1 rfl (hb B.2.1 hd) rfl (hz ▸ q)
theorem ior (B : Bdy p meth c Z EL a0 bytes maxL ret nm) {x y z : Int32} (hd : decode bytes pc = .ok (.ior, 1)) (hr : Go p l e R s m args below meth c Z EL n0 own Q S h k n pc' Ls (.int z :: st)) (hp : pc' = pc + 1 := by rfl) (hz : x ||| y = z := by first | rfl | decide) : Go p l e R s m args below meth c Z EL n0 own Q S h k n pc Ls (.int y :: .int x :: st) := by
  subst hp
  exact plain hr fun T A t q => XT.ior A B.1 rfl (hb B.2.1 hd) rfl (hz ▸ q)
theorem ixor (B : Bdy p meth c Z EL a0 bytes maxL ret nm) {x y z : Int32} (hd : decode bytes pc = .ok (.ixor, 1)) (hr : Go p l e R s m args below meth c Z EL n0 own Q S h k n pc' Ls (.int z :: st)) (hp : pc' = pc + 1 := by rfl) (hz : x ^^^ y = z := by first | rfl | decide) : Go p l e R s m args below meth c Z EL n0 own Q S h k n pc Ls (.int y :: .int x :: st) := by
  subst hp
  exact plain hr fun T A t q => XT.ixor A B.1 rfl (hb B.2.1 hd) rfl (hz ▸ q)
theorem ishl (B : Bdy p meth c Z EL a0 bytes maxL ret nm) {x y z : Int32} (hd : decode bytes pc = .ok (.ishl, 1)) (hr : Go p l e R s m args below meth c Z EL n0 own Q S h k n pc' Ls (.int z :: st)) (hp : pc' = pc + 1 := by rfl) (hz : x <<< (y &&& 31) = z := by first | rfl | decide) : Go p l e R s m args below meth c Z EL n0 own Q S h k n pc Ls (.int y :: .int x :: st) := by
  subst hp
  exact plain hr fun T A t q => XT.ishl A B.1 rfl (hb B.2.1 hd) rfl (hz ▸ q)
theorem ishr (B : Bdy p meth c Z EL a0 bytes maxL ret nm) {x y z : Int32} (hd : decode bytes pc = .ok (.ishr, 1)) (hr : Go p l e R s m args below meth c Z EL n0 own Q S h k n pc' Ls (.int z :: st)) (hp : pc' = pc + 1 := by rfl) (hz : x >>> (y &&& 31) = z := by first | rfl | decide) : Go p l e R s m args below meth c Z EL n0 own Q S h k n pc Ls (.int y :: .int x :: st) := by
  subst hp
  exact plain hr fun T A t q => XT.ishr A B.1 rfl (hb B.2.1 hd) rfl (hz ▸ q)
theorem iushr (B : Bdy p meth c Z EL a0 bytes maxL ret nm) {x y z : Int32} (hd : decode bytes pc = .ok (.iushr, 1)) (hr : Go p l e R s m args below meth c Z EL n0 own Q S h k n pc' Ls (.int z :: st)) (hp : pc' = pc + 1 := by rfl) (hz : Jvm.Free.XT.ushr x y = z := by first | rfl | decide) : Go p l e R s m args below meth c Z EL n0 own Q S h k n pc Ls (.int y :: .int x :: st) := by
  subst hp
  exact plain hr fun T A t q => XT.iushr A B.1 rfl (hb B.2.1 hd) rfl (hz ▸ q)
theorem irem (B : Bdy p meth c Z EL a0 bytes maxL ret nm) {x y z : Int32} (hd : decode bytes pc = .ok (.irem, 1)) (hr : Go p l e R s m args below meth c Z EL n0 own Q S h k n pc' Ls (.int z :: st)) (hp : pc' = pc + 1 := by rfl) (hy : y ≠ 0 := by first | rfl | decide) (hz : x % y = z := by first | rfl | decide) : Go p l e R s m args below meth c Z EL n0 own Q S h k n pc Ls (.int y :: .int x :: st) := by
  subst hp
  exact plain hr fun T A t q => XS.irem A B.1 rfl (hb B.2.1 hd) rfl hy (by rw [irem_eq_mod x y, hz]; exact q)
theorem idiv (B : Bdy p meth c Z EL a0 bytes maxL ret nm) {x y z : Int32} (hd : decode bytes pc = .ok (.idiv, 1)) (hr : Go p l e R s m args below meth c Z EL n0 own Q S h k n pc' Ls (.int z :: st)) (hp : pc' = pc + 1 := by rfl) (hy : y ≠ 0 := by first | rfl | decide) (hz : x / y = z := by first | rfl | decide) : Go p l e R s m args below meth c Z EL n0 own Q S h k n pc Ls (.int y :: .int x :: st) := by
  subst hp
  exact plain hr fun T A t q => XS.idiv A B.1 rfl (hb B.2.1 hd) rfl hy (hz ▸ q)
theorem ineg (B : Bdy p meth c Z EL a0 bytes maxL ret nm) {x z : Int32} (hd : decode bytes pc = .ok (.ineg, 1)) (hr : Go p l e R s m args below meth c Z EL n0 own Q S h k n pc' Ls (.int z :: st)) (hp : pc' = pc + 1 := by rfl) (hz : -x = z := by first | rfl | decide) : Go p l e R s m args below meth c Z EL n0 own Q S h k n pc Ls (.int x :: st) := by
  subst hp
  exact plain hr fun T A t q => XS.ineg A B.1 rfl (hb B.2.1 hd) rfl (hz ▸ q)
theorem i2b (B : Bdy p meth c Z EL a0 bytes maxL ret nm) {x z : Int32} (hd : decode bytes pc = .ok (.i2b, 1)) (hr : Go p l e R s m args below meth c Z EL n0 own Q S h k n pc' Ls (.int z :: st)) (hp : pc' = pc + 1 := by rfl) (hz : x.toInt8.toInt32 = z := by first | rfl | decide) : Go p l e R s m args below meth c Z EL n0 own Q S h k n pc Ls (.int x :: st) := by
  subst hp
  exact plain hr fun T A t q => XT.i2b A B.1 rfl (hb B.2.1 hd) rfl (hz ▸ q)
theorem i2c (B : Bdy p meth c Z EL a0 bytes maxL ret nm) {x z : Int32} (hd : decode bytes pc = .ok (.i2c, 1)) (hr : Go p l e R s m args below meth c Z EL n0 own Q S h k n pc' Ls (.int z :: st)) (hp : pc' = pc + 1 := by rfl) (hz : x.toUInt32.toUInt16.toUInt32.toInt32 = z := by first | rfl | decide) : Go p l e R s m args below meth c Z EL n0 own Q S h k n pc Ls (.int x :: st) := by
  subst hp
  exact plain hr fun T A t q => XT.i2c A B.1 rfl (hb B.2.1 hd) rfl (hz ▸ q)
theorem l2i (B : Bdy p meth c Z EL a0 bytes maxL ret nm) {x : Int64} {z : Int32} (hd : decode bytes pc = .ok (.l2i, 1)) (hr : Go p l e R s m args below meth c Z EL n0 own Q S h k n pc' Ls (.int z :: st)) (hp : pc' = pc + 1 := by rfl) (hz : x.toInt32 = z := by first | rfl | decide) : Go p l e R s m args below meth c Z EL n0 own Q S h k n pc Ls (.long x :: st) := by
  subst hp
  exact plain hr fun T A t q => XT.l2i A B.1 rfl (hb B.2.1 hd) rfl (hz ▸ q)
theorem i2l (B : Bdy p meth c Z EL a0 bytes maxL ret nm) {x : Int32} {z : Int64} (hd : decode bytes pc = .ok (.i2l, 1)) (hr : Go p l e R s m args below meth c Z EL n0 own Q S h k n pc' Ls (.long z :: st)) (hp : pc' = pc + 1 := by rfl) (hz : x.toInt64 = z := by first | rfl | decide) : Go p l e R s m args below meth c Z EL n0 own Q S h k n pc Ls (.int x :: st) := by
  subst hp
  exact plain hr fun T A t q => XT.i2l A B.1 rfl (hb B.2.1 hd) rfl (hz ▸ q)
theorem lushr (B : Bdy p meth c Z EL a0 bytes maxL ret nm) {x z : Int64} {y : Int32} (hd : decode bytes pc = .ok (.lushr, 1)) (hr : Go p l e R s m args below meth c Z EL n0 own Q S h k n pc' Ls (.long z :: st)) (hp : pc' = pc + 1 := by rfl) (hz : Jvm.Free.XT.ushrL x y = z := by first | rfl | decide) : Go p l e R s m args below meth c Z EL n0 own Q S h k n pc Ls (.int y :: .long x :: st) := by
  subst hp
  exact plain hr fun T A t q => XT.lushr A B.1 rfl (hb B.2.1 hd) rfl (hz ▸ q)
theorem dup (B : Bdy p meth c Z EL a0 bytes maxL ret nm) {v : Value} (hd : decode bytes pc = .ok (.dup, 1)) (hr : Go p l e R s m args below meth c Z EL n0 own Q S h k n pc' Ls (v :: v :: st)) (hp : pc' = pc + 1 := by rfl) (hc : v.category = 1 := by rfl) : Go p l e R s m args below meth c Z EL n0 own Q S h k n pc Ls (v :: st) := by
  subst hp
  exact plain hr fun T A t q => XS.dup A B.1 rfl (hb B.2.1 hd) rfl hc q
theorem pop (B : Bdy p meth c Z EL a0 bytes maxL ret nm) {v : Value} (hd : decode bytes pc = .ok (.pop, 1)) (hr : Go p l e R s m args below meth c Z EL n0 own Q S h k n pc' Ls st) (hp : pc' = pc + 1 := by rfl) (hc : v.category = 1 := by rfl) : Go p l e R s m args below meth c Z EL n0 own Q S h k n pc Ls (v :: st) := by
  subst hp
  exact plain hr fun T A t q => XT.pop A B.1 rfl (hb B.2.1 hd) rfl hc q
theorem dupX1 (B : Bdy p meth c Z EL a0 bytes maxL ret nm) {v w : Value} (hd : decode bytes pc = .ok (.dup_x1, 1)) (hr : Go p l e R s m args below meth c Z EL n0 own Q S h k n pc' Ls (v :: w :: v :: st)) (hp : pc' = pc + 1 := by rfl) (hc : v.category = 1 := by rfl) (hc' : w.category = 1 := by rfl) : Go p l e R s m args below meth c Z EL n0 own Q S h k n pc Ls (v :: w :: st) := by
  subst hp
  exact plain hr fun T A t q => XT.dupX1 A B.1 rfl (hb B.2.1 hd) rfl hc hc' q
theorem goto (B : Bdy p meth c Z EL a0 bytes maxL ret nm) {o : Int} (hd : decode bytes pc = .ok (.goto o, 3)) (hr : Go p l e R s m args below meth c Z EL n0 own Q S h k n pc' Ls st) (ho : 0 ≤ (pc : Int) + o := by decide) (hp : ((pc : Int) + o).toNat = pc' := by decide) : Go p l e R s m args below meth c Z EL n0 own Q S h k n pc Ls st := plain hr fun T A t q => XS.goto A B.1 rfl (pc0 := pc) rfl (hb B.2.1 hd) ho hp q
theorem ifT (B : Bdy p meth c Z EL a0 bytes maxL ret nm) {cd : ClassFile.Cond} {x : Int32} {o : Int} (hd : decode bytes pc = .ok (.ifCond cd o, 3)) (hc : if_icmp.holds cd x 0 = true) (hr : Go p l e R s m args below meth c Z EL n0 own Q S h k n pc' Ls st) (ho : 0 ≤ (pc : Int) + o := by decide) (hp : ((pc : Int) + o).toNat = pc' := by decide) : Go p l e R s m args below meth c Z EL n0 own Q S h k n pc Ls (.int x :: st) := plain hr fun T A t q => XS.ifYes A B.1 rfl (pc0 := pc) rfl (hb B.2.1 hd) rfl ((if0 cd x).trans hc) ho hp q
theorem ifF (B : Bdy p meth c Z EL a0 bytes maxL ret nm) {cd : ClassFile.Cond} {x : Int32} {o : Int} (hd : decode bytes pc = .ok (.ifCond cd o, 3)) (hc : if_icmp.holds cd x 0 = false) (hr : Go p l e R s m args below meth c Z EL n0 own Q S h k n pc' Ls st) (hp : pc' = pc + 3 := by rfl) : Go p l e R s m args below meth c Z EL n0 own Q S h k n pc Ls (.int x :: st) := by
  subst hp
  exact plain hr fun T A t q => XS.ifNo A B.1 rfl (hb B.2.1 hd) rfl ((if0 cd x).trans hc) q
theorem icmpT (B : Bdy p meth c Z EL a0 bytes maxL ret nm) {cd : ClassFile.Cond} {x y : Int32} {o : Int} (hd : decode bytes pc = .ok (.if_icmp cd o, 3)) (hc : if_icmp.holds cd x y = true) (hr : Go p l e R s m args below meth c Z EL n0 own Q S h k n pc' Ls st) (ho : 0 ≤ (pc : Int) + o := by decide) (hp : ((pc : Int) + o).toNat = pc' := by decide) : Go p l e R s m args below meth c Z EL n0 own Q S h k n pc Ls (.int y :: .int x :: st) := plain hr fun T A t q => XS.icmpYes A B.1 rfl (pc0 := pc) rfl (hb B.2.1 hd) rfl hc ho hp q
theorem icmpF (B : Bdy p meth c Z EL a0 bytes maxL ret nm) {cd : ClassFile.Cond} {x y : Int32} {o : Int} (hd : decode bytes pc = .ok (.if_icmp cd o, 3)) (hc : if_icmp.holds cd x y = false) (hr : Go p l e R s m args below meth c Z EL n0 own Q S h k n pc' Ls st) (hp : pc' = pc + 3 := by rfl) : Go p l e R s m args below meth c Z EL n0 own Q S h k n pc Ls (.int y :: .int x :: st) := by
  subst hp
  exact plain hr fun T A t q => XS.icmpNo A B.1 rfl (hb B.2.1 hd) rfl hc q
theorem ifnullT (B : Bdy p meth c Z EL a0 bytes maxL ret nm) {o : Int} (hd : decode bytes pc = .ok (.ifnull o, 3)) (hr : Go p l e R s m args below meth c Z EL n0 own Q S h k n pc' Ls st) (ho : 0 ≤ (pc : Int) + o := by decide) (hp : ((pc : Int) + o).toNat = pc' := by decide) : Go p l e R s m args below meth c Z EL n0 own Q S h k n pc Ls (.null :: st) := plain hr fun T A t q => XS.ifnullYes A B.1 rfl (pc0 := pc) rfl (hb B.2.1 hd) rfl ho hp q
theorem ifnullF (B : Bdy p meth c Z EL a0 bytes maxL ret nm) {o : Int} {a : Addr} (hd : decode bytes pc = .ok (.ifnull o, 3)) (hr : Go p l e R s m args below meth c Z EL n0 own Q S h k n pc' Ls st) (hp : pc' = pc + 3 := by rfl) : Go p l e R s m args below meth c Z EL n0 own Q S h k n pc Ls (.ref a :: st) := by
  subst hp
  exact plain hr fun T A t q => XS.ifnullNo A B.1 rfl (hb B.2.1 hd) rfl q
theorem ifnonnullT (B : Bdy p meth c Z EL a0 bytes maxL ret nm) {o : Int} {a : Addr} (hd : decode bytes pc = .ok (.ifnonnull o, 3)) (hr : Go p l e R s m args below meth c Z EL n0 own Q S h k n pc' Ls st) (ho : 0 ≤ (pc : Int) + o := by decide) (hp : ((pc : Int) + o).toNat = pc' := by decide) : Go p l e R s m args below meth c Z EL n0 own Q S h k n pc Ls (.ref a :: st) := plain hr fun T A t q => XT.ifnonnullYes A B.1 rfl (pc0 := pc) rfl (hb B.2.1 hd) rfl ho hp q
theorem ifnonnullF (B : Bdy p meth c Z EL a0 bytes maxL ret nm) {o : Int} (hd : decode bytes pc = .ok (.ifnonnull o, 3)) (hr : Go p l e R s m args below meth c Z EL n0 own Q S h k n pc' Ls st) (hp : pc' = pc + 3 := by rfl) : Go p l e R s m args below meth c Z EL n0 own Q S h k n pc Ls (.null :: st) := by
  subst hp
  exact plain hr fun T A t q => XT.ifnonnullNo A B.1 rfl (hb B.2.1 hd) rfl q

theorem callStatic (B : Bdy p meth c Z EL a0 bytes maxL ret nm) {index : Nat} {y : MethodName} {bytes' : ByteArray} {maxL' : Nat} {ret' : Option FieldType} {rm : Room} {S1 : List Addr} {Q' : Po} {argsL : List Value} {ps : List FieldType} {rt : Option FieldType} {W : Nat} (hd : decode bytes pc = .ok (.invokestatic index, 3)) (w1 : (Jvm.Cond.methodLink own index y).before a0 Z = true) (w2 : (Jvm.Cond.static y).before a0 Z = true) (w3 : (Jvm.Cond.initialized y.cls).before a0 Z = true) (w4 : (Jvm.Cond.code y bytes' maxL' ret').before a0 Z = true) 
    (hM : Con l Z EL n0 y bytes' maxL' ret' [] rm argsL.toArray S1 h Q') (hpd : parseMethodDescriptor y.desc = some ⟨ps, rt⟩)
    (hr : ∀ v h' S', Q' v h' S' → h.size ≤ h'.size → Go p l e R s m args below meth c Z EL n0 own Q (S' ++ S) h' k' n' pc' Ls (v.toList ++ rest)) (hp : pc' = pc + 3 := by rfl) (hln : argsL.length = ps.length := by rfl) (hW : (rest.map fun v => v.category).sum ≤ W := by exact Nat.le_of_eq rfl) (hf : rm.frames + 1 ≤ R.frames := by decide) (hl : W + (maxL' + 11) + rm.locals ≤ R.locals := by decide) (hk : k + rm.cells ≤ k' := by decide) (hn : n + rm.slots ≤ n' := by decide) (hkR : k' ≤ R.cells := by decide) (hnR : n' ≤ R.slots := by decide) (hsub : ∀ x ∈ S1, x ∈ S := by simp) (hsz : Ls.size = maxL := by rfl) (hst : st = argsL.reverse ++ rest := by rfl) (hy : NoH y := by decide) : Go p l e R s m args below meth c Z EL n0 own Q S h k n pc Ls st := by
  subst hp hst
  intro T ⟨locs, vm0, k0, k1, n1, q1, q2, X, eT, hS, hk0, hZ, hown, N, O, C, SL⟩
  obtain ⟨v, vm1, P, hW1, X', h2, hg, hpost, hst⟩ := callSS X B.1 (y := y) hown (mvT (s := s.setVm vm0) hZ w1) (mvT (s := s.setVm vm0) hZ w2) (mvT (s := s.setVm vm0) hZ w3) (mvT (s := s.setVm vm0) hZ w4) hy (Con.back (W := W) hM hZ w4 w3 hf hl B.2.2.2.2.2.2.1 C.1 (SL.sub hsub)) (g := mkF m pc Ls (argsL.reverse ++ rest)) rfl (by rw [B.2.2.1]; exact hsz) (argsL := argsL) (rest := rest) (lenOf hpd hln) rfl (by show 2 * 0 + _ ≤ _; omega) (hb B.2.1 hd) (fun _ _ => ⟨rfl, eT, by show k1 + _ ≤ _; omega, by show n1 + _ ≤ _; omega⟩)
  exact after hS hk0 eT q1 q2 hk hn hZ hown N C SL X' h2 hg hpost hst hr
theorem callInit (B : Bdy p meth c Z EL a0 bytes maxL ret nm) {index : Nat} {y : MethodName} {bytes' : ByteArray} {maxL' : Nat} {rm : Room} {S1 : List Addr} {Q' : Po} {argsL : List Value} {ps : List FieldType} {rt : Option FieldType} {W : Nat} {a : Addr} (hd : decode bytes pc = .ok (.invokespecial index, 3)) (w1 : (Jvm.Cond.methodLink own index y).before a0 Z = true) (w2 : (Jvm.Cond.instanceMethod y).before a0 Z = true) (w3 : (Jvm.Cond.initialized y.cls).before a0 Z = true) (w4 : (Jvm.Cond.code y bytes' maxL' none).before a0 Z = true) 
    (hM : Con l Z EL n0 y bytes' maxL' none [] rm (.ref a :: argsL).toArray S1 h Q') (hpd : parseMethodDescriptor y.desc = some ⟨ps, rt⟩)
    (hr : ∀ v h' S', Q' v h' S' → h.size ≤ h'.size → Go p l e R s m args below meth c Z EL n0 own Q (S' ++ S) h' k' n' pc' Ls (v.toList ++ rest)) (hp : pc' = pc + 3 := by rfl) (hln : argsL.length = ps.length := by rfl) (hW : (rest.map fun v => v.category).sum ≤ W := by exact Nat.le_of_eq rfl) (hf : rm.frames + 1 ≤ R.frames := by decide) (hl : W + (maxL' + 11) + rm.locals ≤ R.locals := by decide) (hk : k + rm.cells ≤ k' := by decide) (hn : n + rm.slots ≤ n' := by decide) (hkR : k' ≤ R.cells := by decide) (hnR : n' ≤ R.slots := by decide) (hsub : ∀ x ∈ S1, x ∈ S := by simp) (hsz : Ls.size = maxL := by rfl) (hst : st = argsL.reverse ++ .ref a :: rest := by rfl) (hy : NoH y := by decide) (hy1 : y.name = "<init>" := by rfl) : Go p l e R s m args below meth c Z EL n0 own Q S h k n pc Ls st := by
  subst hp hst
  intro T ⟨locs, vm0, k0, k1, n1, q1, q2, X, eT, hS, hk0, hZ, hown, N, O, C, SL⟩
  obtain ⟨v, vm1, P, hW1, X', h2, hg, hpost, hst⟩ := X.specialBackS B.1 (y := y) hy1 hown (mvT (s := s.setVm vm0) hZ w1) (mvT (s := s.setVm vm0) hZ w2) (mvT (s := s.setVm vm0) hZ w4) hy (Con.back (W := W) hM hZ w4 w3 hf hl B.2.2.2.2.2.2.1 C.1 (SL.sub hsub)) (g := mkF m pc Ls (argsL.reverse ++ .ref a :: rest)) rfl (by rw [B.2.2.1]; exact hsz) (Steps.refl _) (a := a) (argsL := argsL) (rest := rest) (lenOf hpd hln) rfl (by show 2 * 0 + _ ≤ _; omega) (hb B.2.1 hd) (fun _ _ => ⟨rfl, eT, by show k1 + _ ≤ _; omega, by show n1 + _ ≤ _; omega⟩)
  exact after hS hk0 eT q1 q2 hk hn hZ hown N C SL X' h2 hg hpost hst hr
theorem callVirtual (B : Bdy p meth c Z EL a0 bytes maxL ret nm) {index : Nat} {y : MethodName} {bytes' : ByteArray} {maxL' : Nat} {ret' : Option FieldType} {rm : Room} {S1 : List Addr} {Q' : Po} {argsL : List Value} {ps : List FieldType} {rt : Option FieldType} {W : Nat} {a : Addr} {K K' : String} {z : MethodName} (hd : decode bytes pc = .ok (.invokevirtual index, 3)) (w1 : (Jvm.Cond.methodLink own index y).before a0 Z = true) (w2 : (Jvm.Cond.declares y).before a0 Z = true) (w0 : (Jvm.Cond.selects K' y y).before a0 Z = true) (w5 : (Jvm.Cond.selects K y z).before a0 Z = true) (w6 : (Jvm.Cond.instanceMethod z).before a0 Z = true) (w3 : (Jvm.Cond.initialized z.cls).before a0 Z = true) (w4 : (Jvm.Cond.code z bytes' maxL' ret').before a0 Z = true) (E : Exa Z h a K)
    (hM : Con l Z EL n0 z bytes' maxL' ret' [] rm (.ref a :: argsL).toArray S1 h Q') (hpd : parseMethodDescriptor y.desc = some ⟨ps, rt⟩)
    (hr : ∀ v h' S', Q' v h' S' → h.size ≤ h'.size → Go p l e R s m args below meth c Z EL n0 own Q (S' ++ S) h' k' n' pc' Ls (v.toList ++ rest)) (hp : pc' = pc + 3 := by rfl) (hln : argsL.length = ps.length := by rfl) (hW : (rest.map fun v => v.category).sum ≤ W := by exact Nat.le_of_eq rfl) (hf : rm.frames + 1 ≤ R.frames := by decide) (hl : W + (maxL' + 11) + rm.locals ≤ R.locals := by decide) (hk : k + rm.cells ≤ k' := by decide) (hn : n + rm.slots ≤ n' := by decide) (hkR : k' ≤ R.cells := by decide) (hnR : n' ≤ R.slots := by decide) (hsub : ∀ x ∈ S1, x ∈ S := by simp) (hsz : Ls.size = maxL := by rfl) (hst : st = argsL.reverse ++ .ref a :: rest := by rfl) (hy : NoH y := by decide) : Go p l e R s m args below meth c Z EL n0 own Q S h k n pc Ls st := by
  subst hp hst
  intro T ⟨locs, vm0, k0, k1, n1, q1, q2, X, eT, hS, hk0, hZ, hown, N, O, C, SL⟩
  obtain ⟨cq, kq, qa, qb, qc⟩ := isOf (s := s.setVm vm0) hZ eT E
  obtain ⟨v, vm1, P, hW1, X', h2, hg, hpost, hst⟩ := X.virtualBackS B.1 (y := y) (z := z) hown (mvT (s := s.setVm vm0) hZ w1) (mvT (s := s.setVm vm0) hZ w2) (notFace_of_selects (args := #[]) (mvT (s := s.setVm vm0) hZ w0)) (mvT (s := s.setVm vm0) hZ w5) (mvT (s := s.setVm vm0) hZ w6) hy (Con.back (W := W) hM hZ w4 w3 hf hl B.2.2.2.2.2.2.1 C.1 (SL.sub hsub)) qa qc (g := mkF m pc Ls (argsL.reverse ++ .ref a :: rest)) rfl (by rw [B.2.2.1]; exact hsz) (Steps.refl _) (argsL := argsL) (rest := rest) (lenOf hpd hln) rfl (by show 2 * 0 + _ ≤ _; omega) (hb B.2.1 hd) (fun _ _ => ⟨rfl, eT, by show k1 + _ ≤ _; omega, by show n1 + _ ≤ _; omega⟩)
  exact after hS hk0 eT q1 q2 hk hn hZ hown N C SL X' h2 hg hpost hst hr
theorem callFace (B : Bdy p meth c Z EL a0 bytes maxL ret nm) {index : Nat} {y : MethodName} {bytes' : ByteArray} {maxL' : Nat} {ret' : Option FieldType} {rm : Room} {S1 : List Addr} {Q' : Po} {argsL : List Value} {ps : List FieldType} {rt : Option FieldType} {W : Nat} {a : Addr} {K : String} {z : MethodName} {count : Nat} (hd : decode bytes pc = .ok (.invokeinterface index count, 5)) (w1 : (Jvm.Cond.methodLink own index y).before a0 Z = true) (w2 : (Jvm.Cond.declares y).before a0 Z = true) (w7 : (Jvm.Cond.interfaceMethod y.cls y.cls y.name y.desc).before a0 Z = true) (w5 : (Jvm.Cond.selects K y z).before a0 Z = true) (w6 : (Jvm.Cond.instanceMethod z).before a0 Z = true) (w8 : (Jvm.Cond.publicMethod z).before a0 Z = true) (w9 : (Jvm.Cond.unhidden K y.name y.desc).before a0 Z = true) (w10 : (Jvm.Cond.castable K y.cls).before a0 Z = true) (w3 : (Jvm.Cond.initialized z.cls).before a0 Z = true) (w4 : (Jvm.Cond.code z bytes' maxL' ret').before a0 Z = true) (E : Exa Z h a K)
    (hM : Con l Z EL n0 z bytes' maxL' ret' [] rm (.ref a :: argsL).toArray S1 h Q') (hpd : parseMethodDescriptor y.desc = some ⟨ps, rt⟩)
    (hr : ∀ v h' S', Q' v h' S' → h.size ≤ h'.size → Go p l e R s m args below meth c Z EL n0 own Q (S' ++ S) h' k' n' pc' Ls (v.toList ++ rest)) (hp : pc' = pc + 5 := by rfl) (hln : argsL.length = ps.length := by rfl) (hW : (rest.map fun v => v.category).sum ≤ W := by exact Nat.le_of_eq rfl) (hf : rm.frames + 1 ≤ R.frames := by decide) (hl : W + (maxL' + 11) + rm.locals ≤ R.locals := by decide) (hk : k + rm.cells ≤ k' := by decide) (hn : n + rm.slots ≤ n' := by decide) (hkR : k' ≤ R.cells := by decide) (hnR : n' ≤ R.slots := by decide) (hsub : ∀ x ∈ S1, x ∈ S := by simp) (hsz : Ls.size = maxL := by rfl) (hst : st = argsL.reverse ++ .ref a :: rest := by rfl) (hy : NoH y := by decide) : Go p l e R s m args below meth c Z EL n0 own Q S h k n pc Ls st := by
  subst hp hst
  intro T ⟨locs, vm0, k0, k1, n1, q1, q2, X, eT, hS, hk0, hZ, hown, N, O, C, SL⟩
  obtain ⟨cq, kq, qa, qb, qc⟩ := isOf (s := s.setVm vm0) hZ eT E
  obtain ⟨v, vm1, P, hW1, X', h2, hg, hpost, hst⟩ := X.interfaceBackS B.1 (xi := y) (y := z) hown (mvT (s := s.setVm vm0) hZ w1) (mvT (s := s.setVm vm0) hZ w2) (mvFace (s := s.setVm vm0) hZ hy w7) (mvT (s := s.setVm vm0) hZ w5) (mvT (s := s.setVm vm0) hZ w6) (mvPub (s := s.setVm vm0) hZ w8) (mvUnh (s := s.setVm vm0) hZ w9) (mvT (s := s.setVm vm0) hZ w10) hy (Con.back (W := W) hM hZ w4 w3 hf hl B.2.2.2.2.2.2.1 C.1 (SL.sub hsub)) qa qb qc (g := mkF m pc Ls (argsL.reverse ++ .ref a :: rest)) rfl (by rw [B.2.2.1]; exact hsz) (Steps.refl _) (argsL := argsL) (rest := rest) (lenOf hpd hln) rfl (by show 2 * 0 + _ ≤ _; omega) (hb B.2.1 hd) (fun _ _ => ⟨rfl, eT, by show k1 + _ ≤ _; omega, by show n1 + _ ≤ _; omega⟩)
  exact after hS hk0 eT q1 q2 hk hn hZ hown N C SL X' h2 hg hpost hst hr

theorem newObj (B : Bdy p meth c Z EL a0 bytes maxL ret nm) {index nn : Nat} {K : String} (hd : decode bytes pc = .ok (.new index, 3)) (w : (Jvm.Cond.classLink own index K).before a0 Z = true) (wi : (Jvm.Cond.instantiable K nn).before a0 Z = true) (wz : (Jvm.Cond.initialized K).before a0 Z = true) 
    (hr : ∀ (h' : Heap) (a : Nat), a = h.size → n0 ≤ a → Keep h h' [] → Exa Z h' a K → (∀ {O f d : String} {ty : FieldType}, Laid Z a0 K O f d → parseFieldDescriptor d = some ty → Fld Z h' a O f d (defaultValue ty)) → Go p l e R s m args below meth c Z EL n0 own Q (a :: S) h' k' n' pc' Ls (.ref a :: st)) (hp : pc' = pc + 3 := by rfl) (hk : k + 1 ≤ k' := by decide) (hn : n + nn ≤ n' := by decide) (hkR : k' ≤ R.cells := by decide) (hnR : n' ≤ R.slots := by decide) : Go p l e R s m args below meth c Z EL n0 own Q S h k n pc Ls st := by
  subst hp
  refine made (dc := 0) (dn := 0) (nn := nn) (P := fun h' => Exa Z h' h.size K ∧ ∀ (O f d : String) (ty : FieldType), Laid Z a0 K O f d → parseFieldDescriptor d = some ty → Fld Z h' h.size O f d (defaultValue ty)) hk hn ?_ (fun h' E P q => hr h' h.size rfl q (keepE E) P.1 (fun {O f d ty} a b => P.2 O f d ty a b))
  intro T vm0 locs k1 n1 q1 q2 X eT hZ hown
  obtain ⟨T', h', X', e', E, A, D, -, st⟩ := newO X B.1 hZ hown w wi wz eT (g := mkF m pc Ls st) rfl (hb B.2.1 hd) (by omega) (by omega)
  exact ⟨T', h', X', e', E, A.lt, ⟨A, fun O f d ty a b => D a b⟩, st⟩
theorem newArr (B : Bdy p meth c Z EL a0 bytes maxL ret nm) {aty : ArrayType} {z : Int32} {cap : Nat} (hd : decode bytes pc = .ok (.newarray aty, 2)) (w : (Jvm.Cond.arrayClass (newarray.typeOf aty)).before a0 Z = true) (hz : ¬ z < 0) (hcap : z.toNatClampNeg ≤ cap) 
    (hr : ∀ (h' : Heap) (a : Nat) (cA : ClassId), a = h.size → n0 ≤ a → Keep h h' [] → Arv Z h' a cA (newarray.typeOf aty) z [] (defaultValue (newarray.typeOf aty)) → Go p l e R s m args below meth c Z EL n0 own Q (a :: S) h' k' n' pc' Ls (.ref a :: rest)) (hp : pc' = pc + 2 := by rfl) (hk : k + 1 ≤ k' := by decide) (hn : n + cap ≤ n' := by decide) (hkR : k' ≤ R.cells := by decide) (hnR : n' ≤ R.slots := by decide) (hcb : cap * 8 ≤ 536870912 := by decide) : Go p l e R s m args below meth c Z EL n0 own Q S h k n pc Ls (.int z :: rest) := by
  subst hp
  refine made (dc := 0) (dn := 0) (nn := cap) (P := fun h' => ∃ cA, Arr Z h' h.size (newA cA (newarray.typeOf aty) z) (newarray.typeOf aty)) hk hn ?_ (fun h' E P q => P.elim fun cA A => hr h' h.size cA rfl q (keepE E) (Arv.new A hz))
  intro T vm0 locs k1 n1 q1 q2 X eT hZ hown
  obtain ⟨T', h', cA, X', e', E, A, st⟩ := newP X B.1 hZ w eT (g := mkF m pc Ls (.int z :: rest)) rfl (hb B.2.1 hd) (n := z) rfl hz hcap hcb (by omega) (by omega)
  exact ⟨T', h', X', e', E, A.lt, ⟨cA, A⟩, st⟩
theorem getfield (B : Bdy p meth c Z EL a0 bytes maxL ret nm) {index : Nat} {R0 O f d : String} {a : Addr} {v : Value} (hd : decode bytes pc = .ok (.getfield index, 3)) (w : (Jvm.Cond.fieldLink own index R0 f d).before a0 Z = true) (via : Via Z R0 O f d) (F : Fld Z h a O f d v) (hr : Go p l e R s m args below meth c Z EL n0 own Q S h k n pc' Ls (v :: rest)) (hp : pc' = pc + 3 := by rfl) : Go p l e R s m args below meth c Z EL n0 own Q S h k n pc Ls (.ref a :: rest) := by
  subst hp
  exact warm hr fun T vm0 locs k1 n1 X eT hZ hown _ => getF X B.1 hZ hown (host := "") (Or.inl w) via eT F (g := mkF m pc Ls (.ref a :: rest)) rfl rfl (hb B.2.1 hd)
theorem getfieldN (B : Bdy p meth c Z EL a0 bytes maxL ret nm) {index : Nat} {R0 O f d host : String} {a : Addr} {v : Value} (hd : decode bytes pc = .ok (.getfield index, 3)) (w : (Jvm.Cond.fieldLinkNest own index R0 f d host).before a0 Z = true) (via : Via Z R0 O f d) (F : Fld Z h a O f d v) (hr : Go p l e R s m args below meth c Z EL n0 own Q S h k n pc' Ls (v :: rest)) (hp : pc' = pc + 3 := by rfl) : Go p l e R s m args below meth c Z EL n0 own Q S h k n pc Ls (.ref a :: rest) := by
  subst hp
  exact warm hr fun T vm0 locs k1 n1 X eT hZ hown _ => getF X B.1 hZ hown (host := host) (Or.inr w) via eT F (g := mkF m pc Ls (.ref a :: rest)) rfl rfl (hb B.2.1 hd)
theorem getstatic (B : Bdy p meth c Z EL a0 bytes maxL ret nm) {index : Nat} {R0 O f d : String} {v : Value} (hd : decode bytes pc = .ok (.getstatic index, 3)) (w : (Jvm.Cond.fieldLink own index R0 f d).before a0 Z = true) (via : Via Z R0 O f d) (F : Sta Z Z.heap O f d v) (hr : Go p l e R s m args below meth c Z EL n0 own Q S h k n pc' Ls (v :: st)) (hp : pc' = pc + 3 := by rfl) : Go p l e R s m args below meth c Z EL n0 own Q S h k n pc Ls st := by
  subst hp
  exact warm hr fun T vm0 locs k1 n1 X eT hZ hown O => getS X B.1 hZ hown (host := "") w via eT (F.ext O.2) (g := mkF m pc Ls st) rfl (hb B.2.1 hd)
theorem getstaticN (B : Bdy p meth c Z EL a0 bytes maxL ret nm) {index : Nat} {R0 O f d host : String} {v : Value} (hd : decode bytes pc = .ok (.getstatic index, 3)) (w : (Jvm.Cond.fieldLinkNest own index R0 f d host).before a0 Z = true) (via : Via Z R0 O f d) (F : Sta Z Z.heap O f d v) (hr : Go p l e R s m args below meth c Z EL n0 own Q S h k n pc' Ls (v :: st)) (hp : pc' = pc + 3 := by rfl) : Go p l e R s m args below meth c Z EL n0 own Q S h k n pc Ls st := by
  subst hp
  exact warm hr fun T vm0 locs k1 n1 X eT hZ hown O => getS2 X B.1 hZ hown (host := host) (Or.inr w) via eT (F.ext O.2) (g := mkF m pc Ls st) rfl (hb B.2.1 hd)
theorem putfield (B : Bdy p meth c Z EL a0 bytes maxL ret nm) {index kk : Nat} {R0 O f d K : String} {ty : FieldType} {a : Addr} {v old : Value} (hd : decode bytes pc = .ok (.putfield index, 3)) (w : (Jvm.Cond.fieldLink own index R0 f d).before a0 Z = true) (via : Via Z R0 O f d) (F : Fld Z h a O f d old) (E : Exa Z h a K) (L : (Jvm.Cond.lays K O f d).before a0 Z = true ∨ ((Jvm.Cond.laysFinal K O f d).before a0 Z = true ∧ own = O ∧ nm = "<init>")) (wi : (Jvm.Cond.instantiable K kk).before a0 Z = true)
    (hsafe : a ∈ S ∨ (K ≠ "java/lang/String" ∧ K ≠ "[B")) (hr : ∀ h', Wr h h' a (RoadKit.slotOf Z O f d) v → Go p l e R s m args below meth c Z EL n0 own Q S h' k n pc' Ls rest) (hp : pc' = pc + 3 := by rfl) (hty : parseFieldDescriptor d = some ty := by decide) (hnn : narrow ty v = v := by rfl) (hfit : fits ty v = true := by first | rfl | decide) (ha : n0 ≤ a := by omega) : Go p l e R s m args below meth c Z EL n0 own Q S h k n pc Ls (v :: .ref a :: rest) := by
  subst hp
  exact wrote ha (fun vm0 hZ SL => hsafe.elim (fun q => (SL a q).2) (fun q => Safe.exa hZ.alike E q.1 q.2)) (fun T vm0 locs k1 n1 X eT hZ hown => putF X B.1 hZ hown (host := "") (Or.inl w) via eT F E (L.imp id fun ⟨u, v, w⟩ => ⟨u, v, B.2.2.2.2.1.trans w⟩) wi hty hnn hfit (g := mkF m pc Ls (v :: .ref a :: rest)) rfl rfl (hb B.2.1 hd)) hr
theorem castore (B : Bdy p meth c Z EL a0 bytes maxL ret nm) {a : Addr} {kc : ClassId} {z j x : Int32} {vs : List Value} {dv : Value} {i : Nat} (hd : decode bytes pc = .ok (.castore, 1)) (A : Arv Z h a kc .char z vs dv) (hj : ¬ j < 0 ∧ j < z) 
    (hr : ∀ h', Keep h h' [a] → Arv Z h' a kc .char z (vs.set i (.int (nar .char x))) dv → Go p l e R s m args below meth c Z EL n0 own Q S h' k n pc' Ls rest) (hp : pc' = pc + 1 := by rfl) (ha : n0 ≤ a := by omega) (hlt : i < vs.length := by simp) (hi : j.toNatClampNeg = i := by decide) : Go p l e R s m args below meth c Z EL n0 own Q S h k n pc Ls (.int x :: .int j :: .ref a :: rest) := by
  subst hp
  obtain ⟨cl, A1, A2, A3, A4, A5, A6⟩ := A
  exact wrote ha (fun vm0 hZ SL => Safe.arr hZ.alike A1 (by decide)) (fun T vm0 locs k1 n1 X eT hZ hown => stC X B.1 hZ eT A1 (inb_of A3 hj) (g := mkF m pc Ls (.int x :: .int j :: .ref a :: rest)) rfl rfl (hb B.2.1 hd)) (fun h' W => hr h' (Keep.of_wr W) (Arv.set A1 A2 A3 A4 A5 A6 (fits_nar_char x) W i hi hlt))
theorem bastore (B : Bdy p meth c Z EL a0 bytes maxL ret nm) {a : Addr} {kc : ClassId} {z j x : Int32} {vs : List Value} {dv : Value} {i : Nat} (hd : decode bytes pc = .ok (.bastore, 1)) (A : Arv Z h a kc .byte z vs dv) (hj : ¬ j < 0 ∧ j < z) (hsafe : a ∈ S)
    (hr : ∀ h', Keep h h' [a] → Arv Z h' a kc .byte z (vs.set i (.int (nar .byte x))) dv → Go p l e R s m args below meth c Z EL n0 own Q S h' k n pc' Ls rest) (hp : pc' = pc + 1 := by rfl) (ha : n0 ≤ a := by omega) (hlt : i < vs.length := by simp) (hi : j.toNatClampNeg = i := by decide) : Go p l e R s m args below meth c Z EL n0 own Q S h k n pc Ls (.int x :: .int j :: .ref a :: rest) := by
  subst hp
  obtain ⟨cl, A1, A2, A3, A4, A5, A6⟩ := A
  exact wrote ha (fun vm0 hZ SL => (SL a hsafe).2) (fun T vm0 locs k1 n1 X eT hZ hown => stB X B.1 hZ eT A1 (inb_of A3 hj) (g := mkF m pc Ls (.int x :: .int j :: .ref a :: rest)) rfl rfl (hb B.2.1 hd)) (fun h' W => hr h' (Keep.of_wr W) (Arv.set A1 A2 A3 A4 A5 A6 (fits_nar_byte x) W i hi hlt))
theorem arrlen (B : Bdy p meth c Z EL a0 bytes maxL ret nm) {a : Addr} {kc : ClassId} {ty : FieldType} {z : Int32} {vs : List Value} {dv : Value} (hd : decode bytes pc = .ok (.arraylength, 1)) (A : Arv Z h a kc ty z vs dv) (hr : Go p l e R s m args below meth c Z EL n0 own Q S h k n pc' Ls (.int z :: rest)) (hp : pc' = pc + 1 := by rfl) : Go p l e R s m args below meth c Z EL n0 own Q S h k n pc Ls (.ref a :: rest) := by
  subst hp
  obtain ⟨cl, A1, A2, A3, A4, A5, A6⟩ := A
  exact warm hr fun T vm0 locs k1 n1 X eT hZ hown _ => ⟨T, X, eT, fun t q => X.arraylength B.1 (by rw [eT]; exact A1.1) (State.isArrayOf_alike hZ.alike A1.2.1) (g := mkF m pc Ls (.ref a :: rest)) rfl rfl (hb B.2.1 hd) t (by rw [len_of A3 A4]; exact q)⟩
theorem caload (B : Bdy p meth c Z EL a0 bytes maxL ret nm) {a : Addr} {kc : ClassId} {z j : Int32} {vs : List Value} {dv v : Value} (hd : decode bytes pc = .ok (.caload, 1)) (A : Arv Z h a kc .char z vs dv) (hj : ¬ j < 0 ∧ j < z) (hv : vs.getD j.toNatClampNeg dv = v) (hr : Go p l e R s m args below meth c Z EL n0 own Q S h k n pc' Ls (v :: rest)) (hp : pc' = pc + 1 := by rfl) : Go p l e R s m args below meth c Z EL n0 own Q S h k n pc Ls (.int j :: .ref a :: rest) := by
  subst hp
  obtain ⟨cl, A1, A2, A3, A4, A5, A6⟩ := A
  exact warm hr fun T vm0 locs k1 n1 X eT hZ hown _ => ⟨T, X, eT, fun t q => X.caload B.1 (by rw [eT]; exact A1.1) (State.isArrayOf_alike hZ.alike A1.2.1) A1.2.2 (inb_of A3 hj) (Has.at A5 (inb_of A3 hj) hv) (g := mkF m pc Ls (.int j :: .ref a :: rest)) rfl rfl (hb B.2.1 hd) t q⟩
theorem baload (B : Bdy p meth c Z EL a0 bytes maxL ret nm) {a : Addr} {kc : ClassId} {z j : Int32} {vs : List Value} {dv v : Value} (hd : decode bytes pc = .ok (.baload, 1)) (A : Arv Z h a kc .byte z vs dv) (hj : ¬ j < 0 ∧ j < z) (hv : vs.getD j.toNatClampNeg dv = v) (hr : Go p l e R s m args below meth c Z EL n0 own Q S h k n pc' Ls (v :: rest)) (hp : pc' = pc + 1 := by rfl) : Go p l e R s m args below meth c Z EL n0 own Q S h k n pc Ls (.int j :: .ref a :: rest) := by
  subst hp
  obtain ⟨cl, A1, A2, A3, A4, A5, A6⟩ := A
  exact warm hr fun T vm0 locs k1 n1 X eT hZ hown _ => ⟨T, X, eT, fun t q => X.baloadBytes B.1 (by rw [eT]; exact A1.1) (State.isArrayOf_alike hZ.alike A1.2.1) A1.2.2 (inb_of A3 hj) (Has.at A5 (inb_of A3 hj) hv) (g := mkF m pc Ls (.int j :: .ref a :: rest)) rfl rfl (hb B.2.1 hd) t q⟩
theorem aaload (B : Bdy p meth c Z EL a0 bytes maxL ret nm) {a : Addr} {kc : ClassId} {ty : FieldType} {z j : Int32} {vs : List Value} {dv v : Value} (hd : decode bytes pc = .ok (.aaload, 1)) (hty : ty.isReference = true) (A : Arv Z h a kc ty z vs dv) (hj : ¬ j < 0 ∧ j < z) (hv : vs.getD j.toNatClampNeg dv = v) (hr : Go p l e R s m args below meth c Z EL n0 own Q S h k n pc' Ls (v :: rest)) (hp : pc' = pc + 1 := by rfl) : Go p l e R s m args below meth c Z EL n0 own Q S h k n pc Ls (.int j :: .ref a :: rest) := by
  subst hp
  obtain ⟨cl, A1, A2, A3, A4, A5, A6⟩ := A
  exact warm hr fun T vm0 locs k1 n1 X eT hZ hown _ => ⟨T, X, eT, fun t q => X.aaload B.1 (by rw [eT]; exact A1.1) (State.isArrayOf_alike hZ.alike A1.2.1) hty A1.2.2 (inb_of A3 hj) (Has.at A5 (inb_of A3 hj) hv) (g := mkF m pc Ls (.int j :: .ref a :: rest)) rfl rfl (hb B.2.1 hd) t q⟩
theorem checkcast (B : Bdy p meth c Z EL a0 bytes maxL ret nm) {index : Nat} {K : String} {a : Addr} (hd : decode bytes pc = .ok (.checkcast index, 3)) (w : (Jvm.Cond.classLink own index K).before a0 Z = true) (F : Ins Z h a K true) (hr : Go p l e R s m args below meth c Z EL n0 own Q S h k n pc' Ls (.ref a :: rest)) (hp : pc' = pc + 3 := by rfl) : Go p l e R s m args below meth c Z EL n0 own Q S h k n pc Ls (.ref a :: rest) := by
  subst hp
  exact warm hr fun T vm0 locs k1 n1 X eT hZ hown _ => castY X B.1 hZ hown w eT F (g := mkF m pc Ls (.ref a :: rest)) rfl rfl (hb B.2.1 hd)
theorem instYes (B : Bdy p meth c Z EL a0 bytes maxL ret nm) {index : Nat} {K : String} {a : Addr} (hd : decode bytes pc = .ok (.instanceof index, 3)) (w : (Jvm.Cond.classLink own index K).before a0 Z = true) (F : Ins Z h a K true) (hr : Go p l e R s m args below meth c Z EL n0 own Q S h k n pc' Ls (.int 1 :: rest)) (hp : pc' = pc + 3 := by rfl) : Go p l e R s m args below meth c Z EL n0 own Q S h k n pc Ls (.ref a :: rest) := by
  subst hp
  exact warm hr fun T vm0 locs k1 n1 X eT hZ hown _ => instY X B.1 hZ hown w eT F (g := mkF m pc Ls (.ref a :: rest)) rfl rfl (hb B.2.1 hd)
theorem objInit (B : Bdy p meth c Z EL a0 bytes maxL ret nm) {index W : Nat} {a : Addr} (hd : decode bytes pc = .ok (.invokespecial index, 3)) (w1 : (Jvm.Cond.methodLink own index Lib.objectInit).before a0 Z = true) (w2 : (Jvm.Cond.instanceMethod Lib.objectInit).before a0 Z = true) (w3 : (Jvm.Cond.code Lib.objectInit ⟨#[0xb1]⟩ 1 none).before a0 Z = true) (hr : Go p l e R s m args below meth c Z EL n0 own Q S h k n pc' Ls rest) (hp : pc' = pc + 3 := by rfl) (hsz : Ls.size = maxL := by rfl) (hW : (rest.map fun v => v.category).sum ≤ W := by exact Nat.le_of_eq rfl) (hf : 1 ≤ R.frames := by decide) (hl : W + 12 ≤ R.locals := by decide) : Go p l e R s m args below meth c Z EL n0 own Q S h k n pc Ls (.ref a :: rest) := by
  subst hp
  exact warm hr fun T vm0 locs k1 n1 X eT hZ hown _ => initO X B.1 hZ hown w1 w2 w3 eT (g := mkF m pc Ls (.ref a :: rest)) rfl (by rw [B.2.2.1]; exact hsz) rfl (hb B.2.1 hd) hf (W := W) (by show 2 * 0 + _ ≤ _; omega) hl
theorem ldcInt (B : Bdy p meth c Z EL a0 bytes maxL ret nm) {index : Nat} {x : Int32} (hd : decode bytes pc = .ok (.ldc index, 2)) (w : (Jvm.Cond.constant own index x).before a0 Z = true) (hr : Go p l e R s m args below meth c Z EL n0 own Q S h k n pc' Ls (.int x :: st)) (hp : pc' = pc + 2 := by rfl) : Go p l e R s m args below meth c Z EL n0 own Q S h k n pc Ls st := by
  subst hp
  exact warm hr fun T vm0 locs k1 n1 X eT hZ hown _ => ⟨T, X, eT, fun t q => X.ldcInt B.1 hown (mvT (s := s.setVm vm0) hZ w) (g := mkF m pc Ls st) rfl (hb B.2.1 hd) t q⟩
theorem ldcAny (B : Bdy p meth c Z EL a0 bytes maxL ret nm) {index nn : Nat} {text : String} (hd : decode bytes pc = .ok (.ldc index, 2)) (w : (Jvm.Cond.stringLink own index text).before a0 Z = true) 
    (hr : ∀ (h' : Heap) (a : Nat), Keep h h' [] → Go p l e R s m args below meth c Z EL n0 own Q S h' k' n' pc' Ls (.ref a :: st)) (hp : pc' = pc + 2 := by rfl) (hk : k + 2 ≤ k' := by decide) (hn : n + (nn + 4) ≤ n' := by decide) (hkR : k' ≤ R.cells := by decide) (hnR : n' ≤ R.slots := by decide) (hnn : 4 * text.toList.length ≤ nn := by decide) (hbig : nn ≤ 536870912 := by decide) : Go p l e R s m args below meth c Z EL n0 own Q S h k n pc Ls st := by
  subst hp
  intro T ⟨locs, vm0, k0, k1, n1, q1, q2, X, eT, hS, hk0, hZ, hown, N, O, C, SL⟩
  obtain ⟨a, T', h', k2, X', e', E, hS', hk', hZ', hown', C', -, sp⟩ := ldcOH (EL := EL) X B.1 hZ hown w B.2.2.2.2.2.2.2 eT hS hk0 B.2.2.2.2.2.2.1 C.1 (g := mkF m pc Ls st) rfl (hb B.2.1 hd) hnn hbig (by omega) (by omega)
  obtain ⟨s2, o, q, r2⟩ := hr h' a (keepE E) T' ⟨locs, T'.vm, k2, k1 + 2, n1 + (nn + 4), by omega, by omega, X', e', hS', hk', hZ', hown', N, O.ext E, C.trans C', SL.chr C'⟩
  exact ⟨s2, o, sp _ q, r2⟩
theorem ldcText (B : Bdy p meth c Z EL a0 bytes maxL ret nm) {index nn : Nat} {text : String} (hd : decode bytes pc = .ok (.ldc index, 2)) (w : (Jvm.Cond.stringLink own index text).before a0 Z = true) (hmem : (own, index) ∈ EL) {vs : List Value} {z : Int32} (ht : (∀ c ∈ text.toList, c.toNat < 256) ∧ text.toList.map (fun c => Value.int (Jvm.Lit.byteI c.toNat.toUInt16)) = vs) (hz : ¬ z < 0) (hlz : z.toNatClampNeg = vs.length) 
    (hr : ∀ (h' : Heap) (a b : Nat) (kb : ClassId), Keep h h' [] → Exa Z h' a "java/lang/String" → Fld Z h' a "java/lang/String" "coder" "B" (.int 0) → Fld Z h' a "java/lang/String" "value" "[B" (.ref b) → Arv Z h' b kb .byte z vs (.int 0) → (∀ x ∈ S, x ≠ a ∧ x ≠ b) → Go p l e R s m args below meth c Z EL n0 own Q S h' k' n' pc' Ls (.ref a :: st)) (hp : pc' = pc + 2 := by rfl) (hk : k + 2 ≤ k' := by decide) (hn : n + (nn + 4) ≤ n' := by decide) (hkR : k' ≤ R.cells := by decide) (hnR : n' ≤ R.slots := by decide) (hnn : 4 * text.toList.length ≤ nn := by decide) (hbig : nn ≤ 536870912 := by decide) : Go p l e R s m args below meth c Z EL n0 own Q S h k n pc Ls st := by
  subst hp
  intro T ⟨locs, vm0, k0, k1, n1, q1, q2, X, eT, hS, hk0, hZ, hown, N, O, C, SL⟩
  obtain ⟨a, T', h', k2, b, kb, X', e', E, hS', hk', hZ', hown', f1, f2, f3, f4, -, -, C', -, ne, sp⟩ := ldcCH (EL := EL) X B.1 hZ hown w B.2.2.2.2.2.2.2 eT hS hk0 B.2.2.2.2.2.2.1 hmem C.1 ht hz hlz (g := mkF m pc Ls st) rfl (hb B.2.1 hd) hnn hbig (by omega) (by omega)
  have SL' := SL.chr C'
  obtain ⟨s2, o, q, r2⟩ := hr h' a b kb (keepE E) f1 f2 f3 f4 (fun x hx => ne x (SL' x hx).2) T' ⟨locs, T'.vm, k2, k1 + 2, n1 + (nn + 4), by omega, by omega, X', e', hS', hk', hZ', hown', N, O.ext E, C.trans C', SL'⟩
  exact ⟨s2, o, sp _ q, r2⟩
theorem finish (B : Bdy p meth c Z EL a0 bytes maxL ret nm) {v : Option Value} (hv : ret = none → v = none) (hQ : Q v h S') 
    (sp : ∀ (s' T : State) (locs : List Loc) (k1 n1 : Nat) (fs : List Frame), Stand p l e R s' m args below meth c T locs k1 n1 → (∀ (f : JFrame) (acts : List Action), f.method = m → f.locked = none → f.entered = [] → (doReturn e (T.setTop f) acts v).1 = T.setFrames fs) → Steps p.tables e below (T.setTop (mkF m pc Ls st)) (T.setFrames fs)) (hkR : k ≤ R.cells := by decide) (hnR : n ≤ R.slots := by decide) (hsub : ∀ x ∈ S', x ∈ S := by simp) : Go p l e R s m args below meth c Z EL n0 own Q S h k n pc Ls st := by
  intro T ⟨locs, vm0, k0, k1, n1, q1, q2, X, eT, hS, hk0, hZ, hown, N, O, C, SL⟩
  obtain ⟨fs, hr, hrun, hended, hE⟩ := X.leaveW (v := v) hS (by rw [eT]; exact hk0) (fun z => hv (B.2.2.2.1.symm.trans z)) B.2.2.2.2.2.1
  have A := CHv.at X hZ B.2.2.2.2.2.2.1 C.1
  subst eT
  exact ⟨_, _, sp _ T locs k1 n1 fs X hr, hrun, hended, v, locs, S', rfl, ⟨hQ, N, O, (SL.chr A).sub hsub⟩, C.trans A, hE.1, hE.2.1, hE.2.2.1, hE.2.2.2.mono (by omega) (by omega)⟩
theorem retV (B : Bdy p meth c Z EL a0 bytes maxL ret nm) (hd : decode bytes pc = .ok (.return_, 1)) (hQ : Q none h S') (hkR : k ≤ R.cells := by decide) (hnR : n ≤ R.slots := by decide) (hret : ret = none := by rfl) (hsub : ∀ x ∈ S', x ∈ S := by simp) : Go p l e R s m args below meth c Z EL n0 own Q S h k n pc Ls [] :=
  finish B (fun _ => rfl) hQ (fun s' T locs k1 n1 fs X hr => X.returnOut B.1 (B.2.2.2.1.trans hret) (hb B.2.1 hd) hr) hkR hnR hsub
theorem retA (B : Bdy p meth c Z EL a0 bytes maxL ret nm) {t : FieldType} {w : Value} (hd : decode bytes pc = .ok (.areturn, 1)) (hQ : Q (some w) h S') (hkR : k ≤ R.cells := by decide) (hnR : n ≤ R.slots := by decide) (hret : ret = some t := by rfl) (hsub : ∀ x ∈ S', x ∈ S := by simp) (hw : w.isRef = true := by rfl) (hnn : narrow t w = w := by rfl) (ht : t.isReference = true := by rfl) : Go p l e R s m args below meth c Z EL n0 own Q S h k n pc Ls (w :: rest) :=
  finish B (fun z => by rw [hret] at z; cases z) hQ (fun s' T locs k1 n1 fs X hr => retOut X B.1 (B.2.2.2.1.trans hret) hnn (Or.inr (Or.inr (Or.inr (Or.inr ⟨rfl, ht, hw⟩)))) (hb B.2.1 hd) hr) hkR hnR hsub
theorem retI (B : Bdy p meth c Z EL a0 bytes maxL ret nm) {t : FieldType} {w : Int32} (hd : decode bytes pc = .ok (.ireturn, 1)) (hQ : Q (some (.int w)) h S') (hkR : k ≤ R.cells := by decide) (hnR : n ≤ R.slots := by decide) (hret : ret = some t := by rfl) (hsub : ∀ x ∈ S', x ∈ S := by simp) (hnn : narrow t (.int w) = .int w := by rfl) (ht : t = .int ∨ t = .boolean ∨ t = .byte ∨ t = .char ∨ t = .short := by simp) : Go p l e R s m args below meth c Z EL n0 own Q S h k n pc Ls (.int w :: rest) :=
  finish B (fun z => by rw [hret] at z; cases z) hQ (fun s' T locs k1 n1 fs X hr => retOut X B.1 (B.2.2.2.1.trans hret) hnn (Or.inl ⟨rfl, ht, _, rfl⟩) (hb B.2.1 hd) hr) hkR hnR hsub
theorem acmpR (B : Bdy p meth c Z EL a0 bytes maxL ret nm) {cd : ACond} {x y : Value} {o : Int} {same : Bool} (hd : decode bytes pc = .ok (.if_acmp cd o, 3)) (hq : decide (x = y) = same) (hr : Go p l e R s m args below meth c Z EL n0 own Q S h k n pc' Ls rest) (ho : 0 ≤ (pc : Int) + o := by decide) (hp : pc' = if acV cd same = true then ((pc : Int) + o).toNat else pc + 3 := by decide) (h1 : x.isRef = true := by rfl) (h2 : y.isRef = true := by rfl) : Go p l e R s m args below meth c Z EL n0 own Q S h k n pc Ls (y :: x :: rest) :=
  warm hr fun T vm0 locs k1 n1 X eT hZ hown _ => ⟨T, X, eT, fun t q => acmp X B.1 rfl h1 h2 (g := mkF m pc Ls (y :: x :: rest)) (pc0 := pc) rfl (hb B.2.1 hd) rfl hq ho hp q⟩
def Str (Z : State) (h : Heap) (a t : Addr) (kb : ClassId) (cod z : Int32) (vs : List Value) : Prop := Exa Z h a "java/lang/String" ∧ Fld Z h a "java/lang/String" "coder" "B" (.int cod) ∧ Fld Z h a "java/lang/String" "value" "[B" (.ref t) ∧ Arv Z h t kb .byte z vs (.int 0)
def Rng (cs : List Int32) : Prop := ∀ x ∈ cs, ¬ x < (0 : Int32) ∧ ¬ (65535 : Int32) < x
def Lat (cs : List Int32) : Prop := ∀ x ∈ cs, ¬ (255 : Int32) < x
def Chs (Z : State) (h : Heap) (a t : Addr) (kb : ClassId) (cs : List Int32) : Prop := Exa Z h a "java/lang/String" ∧ Fld Z h a "java/lang/String" "value" "[B" (.ref t) ∧ Rng cs ∧
  ((Fld Z h a "java/lang/String" "coder" "B" (.int 0) ∧ Arv Z h t kb .byte (Int32.ofNat cs.length) (cs.map fun x => .int x.toInt8.toInt32) (.int 0) ∧ Lat cs) ∨
   (Fld Z h a "java/lang/String" "coder" "B" (.int 1) ∧ Arv Z h t kb .byte (Int32.ofNat (2 * cs.length)) (cs.flatMap fun x => [.int x.toInt8.toInt32, .int (x >>> ((8 : Int32) &&& 31)).toInt8.toInt32]) (.int 0)))
theorem Chs.keep {a t : Addr} {kb : ClassId} {cs : List Int32} {ws : List Addr} (F : Chs Z h a t kb cs) (K : Keep h h' ws) (qa : a ∉ ws) (qt : t ∉ ws) : Chs Z h' a t kb cs := by
  obtain ⟨E, V, r, ⟨C, A, L⟩ | ⟨C, A⟩⟩ := F
  · exact ⟨E.keep K, V.keep K qa, r, Or.inl ⟨C.keep K qa, A.keep K qt, L⟩⟩
  · exact ⟨E.keep K, V.keep K qa, r, Or.inr ⟨C.keep K qa, A.keep K qt⟩⟩
theorem Chs.lt {a t : Addr} {kb : ClassId} {cs : List Int32} (F : Chs Z h a t kb cs) : a < h.size := F.1.lt
theorem Chs.ltt {a t : Addr} {kb : ClassId} {cs : List Int32} (F : Chs Z h a t kb cs) : t < h.size := by
  obtain ⟨E, V, r, ⟨C, A, L⟩ | ⟨C, A⟩⟩ := F
  · exact A.lt
  · exact A.lt
theorem eq_int_v {args : Array Value} {first s' : State} {o : Option Outcome} {idx : List Nat} {t : Term} {c : Int32} (hq : (Jvm.Cond.eq t (.int c)).value args first o s' idx = some true) : t.eval args first o idx s' = some (.int c) := by
  simp only [Cond.value, Term.int_eval] at hq
  cases ht : t.eval args first o idx s' with
  | none => rw [ht] at hq; simp at hq
  | some v => rw [ht] at hq; cases v <;> simp_all
def Glo (Z : State) (cz : Int32) (sf : Value) : Prop := Sta Z Z.heap "java/lang/String" "COMPACT_STRINGS" "Z" (.int cz) ∧ cz ≠ 0 ∧ Sta Z Z.heap "jdk/internal/util/Preconditions" "SIOOBE_FORMATTER" "Ljava/util/function/BiFunction;" sf ∧ sf.isRef = true
theorem nnAnd (x y : Int32) : (x &&& y).toBitVec.toNat ≤ y.toBitVec.toNat := by
  have : (x &&& y).toBitVec.toNat = x.toBitVec.toNat &&& y.toBitVec.toNat := by simp
  rw [this]; exact Nat.and_le_right
theorem toInt_small {x : Int32} {n : Nat} (h : x.toBitVec.toNat ≤ n) (hn : n < 2147483648) : x.toInt = x.toBitVec.toNat := by
  show x.toBitVec.toInt = _
  rw [BitVec.toInt_eq_toNat_of_lt (by omega)]
/-- x &&& y for y from 0: from 0 to y -/
theorem and_rng (x : Int32) {y : Int32} {n : Nat} (hy : y.toBitVec.toNat = n) (hn : n < 2147483648) : 0 ≤ (x &&& y).toInt ∧ (x &&& y).toInt ≤ n := by
  have h := nnAnd x y
  rw [hy] at h
  have := toInt_small h hn
  omega
theorem and255 (x : Int32) : 0 ≤ (x &&& 255).toInt ∧ (x &&& 255).toInt ≤ 255 := and_rng x (n := 255) (by decide) (by decide)
theorem and1 (x : Int32) : x &&& 1 = 0 ∨ x &&& 1 = 1 := by
  have k := and_rng x (y := 1) (n := 1) (by decide) (by decide)
  have k : (x &&& 1).toInt = 0 ∨ (x &&& 1).toInt = 1 := by omega
  exact k.imp Int32.toInt_inj.mp Int32.toInt_inj.mp
theorem and3 (x : Int32) : x &&& 3 = 0 ∨ x &&& 3 = 1 ∨ x &&& 3 = 2 ∨ x &&& 3 = 3 := by
  have k := and_rng x (y := 3) (n := 3) (by decide) (by decide)
  have k : (x &&& 3).toInt = 0 ∨ (x &&& 3).toInt = 1 ∨ (x &&& 3).toInt = 2 ∨ (x &&& 3).toInt = 3 := by omega
  exact k.imp Int32.toInt_inj.mp (Or.imp Int32.toInt_inj.mp (Or.imp Int32.toInt_inj.mp Int32.toInt_inj.mp))
theorem rem_rng {x y : Int32} {n : Nat} (hx : 0 ≤ x.toInt) (hy : y.toInt = n) (hn : 0 < n) : 0 ≤ (x % y).toInt ∧ (x % y).toInt < n := by
  rw [Int32.toInt_mod, hy]
  have h1 := Int.tmod_nonneg (n : Int) hx
  have h2 := Int.tmod_lt_of_pos x.toInt (show (0 : Int) < n by omega)
  omega
theorem maxrem3 (x : Int32) : (x &&& 2147483647) % 3 = 0 ∨ (x &&& 2147483647) % 3 = 1 ∨ (x &&& 2147483647) % 3 = 2 := by
  have k := rem_rng (and_rng x (y := 2147483647) (n := 2147483647) (by decide) (by decide)).1 (y := 3) (n := 3) (by decide) (by decide)
  generalize (x &&& 2147483647) % 3 = z at *
  have k : z.toInt = 0 ∨ z.toInt = 1 ∨ z.toInt = 2 := by omega
  exact k.imp Int32.toInt_inj.mp (Or.imp Int32.toInt_inj.mp Int32.toInt_inj.mp)
theorem maxrem5 (x : Int32) : (x &&& 2147483647) % 5 = 0 ∨ (x &&& 2147483647) % 5 = 1 ∨ (x &&& 2147483647) % 5 = 2 ∨ (x &&& 2147483647) % 5 = 3 ∨ (x &&& 2147483647) % 5 = 4 := by
  have k := rem_rng (and_rng x (y := 2147483647) (n := 2147483647) (by decide) (by decide)).1 (y := 5) (n := 5) (by decide) (by decide)
  generalize (x &&& 2147483647) % 5 = z at *
  have k : z.toInt = 0 ∨ z.toInt = 1 ∨ z.toInt = 2 ∨ z.toInt = 3 ∨ z.toInt = 4 := by omega
  exact k.imp Int32.toInt_inj.mp (Or.imp Int32.toInt_inj.mp (Or.imp Int32.toInt_inj.mp (Or.imp Int32.toInt_inj.mp Int32.toInt_inj.mp)))
theorem sevenrem5 (x : Int32) : (x &&& 7) % 5 = 0 ∨ (x &&& 7) % 5 = 1 ∨ (x &&& 7) % 5 = 2 ∨ (x &&& 7) % 5 = 3 ∨ (x &&& 7) % 5 = 4 := by
  have k := rem_rng (and_rng x (y := 7) (n := 7) (by decide) (by decide)).1 (y := 5) (n := 5) (by decide) (by decide)
  generalize (x &&& 7) % 5 = z at *
  have k : z.toInt = 0 ∨ z.toInt = 1 ∨ z.toInt = 2 ∨ z.toInt = 3 ∨ z.toInt = 4 := by omega
  exact k.imp Int32.toInt_inj.mp (Or.imp Int32.toInt_inj.mp (Or.imp Int32.toInt_inj.mp (Or.imp Int32.toInt_inj.mp Int32.toInt_inj.mp)))
theorem i2c_idem (x : Int32) : (x.toUInt32.toUInt16.toUInt32.toInt32).toUInt32.toUInt16.toUInt32.toInt32 = x.toUInt32.toUInt16.toUInt32.toInt32 := by
  have h : ∀ u : UInt16, u.toUInt32.toInt32.toUInt32.toUInt16 = u := fun u => by simp
  rw [h]
theorem i2c_rng {x c : Int32} (hc : x.toUInt32.toUInt16.toUInt32.toInt32 = c) : 0 ≤ c.toInt ∧ c.toInt ≤ 65535 := by
  subst hc
  have := x.toUInt32.toUInt16.toNat_lt
  have h : (x.toUInt32.toUInt16.toUInt32.toInt32).toBitVec.toNat ≤ 65535 := by
    show (x.toUInt32.toUInt16.toUInt32).toNat ≤ _
    simp only [UInt16.toNat_toUInt32]
    omega
  have := toInt_small h (by decide)
  omega
theorem c255 {x c : Int32} (hc : (x &&& 255).toUInt32.toUInt16.toUInt32.toInt32 = c) : ¬ (255 : Int32) < c := by
  rw [i2c_mask] at hc; subst hc
  have := and255 x
  rw [Int32.lt_iff_toInt_lt, show (255 : Int32).toInt = 255 from by decide]; omega
theorem cge0 {x c : Int32} (hc : x.toUInt32.toUInt16.toUInt32.toInt32 = c) : ¬ c < (0 : Int32) := by
  have := i2c_rng hc
  rw [Int32.lt_iff_toInt_lt, show (0 : Int32).toInt = 0 from by decide]; omega
theorem cnar {x c : Int32} (hc : x.toUInt32.toUInt16.toUInt32.toInt32 = c) : nar .char c = c := by subst hc; exact i2c_idem x
theorem cnarrow {c : Int32} (hc : nar .char c = c) : narrow .char (.int c) = .int c := congrArg Value.int hc
theorem rng255 {x : Int32} (h0 : ¬ x < (0 : Int32)) (h1 : ¬ (255 : Int32) < x) : 0 ≤ x.toInt ∧ x.toInt ≤ 255 := by
  rw [Int32.lt_iff_toInt_lt, show (0 : Int32).toInt = 0 from by decide] at h0
  rw [Int32.lt_iff_toInt_lt, show (255 : Int32).toInt = 255 from by decide] at h1
  omega
theorem ofRng {x : Int32} {n : Nat} (hn : n < 2147483648) (h : 0 ≤ x.toInt ∧ x.toInt ≤ n) : ∃ k : Nat, k ≤ n ∧ x = Int32.ofNat k := by
  refine ⟨x.toInt.toNat, by omega, Int32.toInt_inj.mp ?_⟩
  rw [Int32.toInt_ofNat_of_lt (by omega)]; omega
theorem all256 (P : Int32 → Bool) (h : (List.range 256).all (fun k => P (Int32.ofNat k)) = true) {x : Int32} (h0 : ¬ x < (0 : Int32)) (h1 : ¬ (255 : Int32) < x) : P x = true := by
  obtain ⟨k, hk, rfl⟩ := ofRng (n := 255) (by decide) (by have := rng255 h0 h1; omega)
  exact List.all_eq_true.mp h k (List.mem_range.mpr (by omega))
theorem b255 {x : Int32} (h0 : ¬ x < (0 : Int32)) (h1 : ¬ (255 : Int32) < x) : x.toInt8.toInt32 &&& 255 = x := by
  have := all256 (fun x => x.toInt8.toInt32 &&& 255 == x) (by decide +kernel) h0 h1
  exact eq_of_beq this
theorem c_id {x : Int32} (h0 : ¬ x < (0 : Int32)) (h1 : ¬ (255 : Int32) < x) : x.toUInt32.toUInt16.toUInt32.toInt32 = x := by
  have := all256 (fun x => x.toUInt32.toUInt16.toUInt32.toInt32 == x) (by decide +kernel) h0 h1
  exact eq_of_beq this
theorem nar_id {x : Int32} (h0 : ¬ x < (0 : Int32)) (h1 : ¬ (255 : Int32) < x) : nar .char x = x := c_id h0 h1
theorem low8 (b : BitVec 8) : (b.signExtend 32 &&& 255#32).toNat = b.toNat := by
  have : ∀ b : BitVec 8, (b.signExtend 32 &&& 255#32).toNat = b.toNat := by decide
  exact this b
theorem lo_nat (x : Int32) : (x.toInt8.toInt32 &&& 255).toBitVec.toNat = x.toBitVec.toNat % 256 := by
  have h := low8 x.toInt8.toBitVec
  have e : (x.toInt8.toInt32 &&& 255).toBitVec = (x.toInt8.toBitVec.signExtend 32 &&& 255#32) := by
    simp
  rw [e, h, Int32.toBitVec_toInt8]
  rw [BitVec.toNat_signExtend]
  simp [BitVec.toNat_setWidth]
theorem shr8 (x : Int32) (h : x.toBitVec.toNat < 65536) : (x >>> ((8 : Int32) &&& 31)).toBitVec.toNat = x.toBitVec.toNat / 256 := by
  have e : (x >>> ((8 : Int32) &&& 31)).toBitVec = x.toBitVec.sshiftRight 8 := by
    have : ((8 : Int32) &&& 31) = 8 := by decide
    rw [this, Int32.toBitVec_shiftRight]
    rfl
  rw [e, BitVec.sshiftRight_eq_of_msb_false (by rw [BitVec.msb_eq_false_iff_two_mul_lt]; omega)]
  rw [BitVec.toNat_ushiftRight]
  rw [Nat.shiftRight_eq_div_pow]
theorem shl8 (x : Int32) : (x <<< ((8 : Int32) &&& 31)).toBitVec.toNat = (x.toBitVec.toNat * 256) % 4294967296 := by
  have e : (x <<< ((8 : Int32) &&& 31)).toBitVec = x.toBitVec <<< 8 := by
    have : ((8 : Int32) &&& 31) = 8 := by decide
    rw [this, Int32.toBitVec_shiftLeft]
    rfl
  rw [e, BitVec.toNat_shiftLeft, Nat.shiftLeft_eq]
theorem shl0 (x : Int32) : x <<< ((0 : Int32) &&& 31) = x := by
  apply Int32.toBitVec_inj.mp
  simp
theorem toNat_rng {x : Int32} {n : Nat} (h0 : 0 ≤ x.toInt) (h1 : x.toInt ≤ n) (hn : n < 2147483648) : x.toBitVec.toNat ≤ n := by
  have e : x.toInt = x.toBitVec.toInt := rfl
  rw [e] at h0 h1
  have hlt := x.toBitVec.isLt
  rw [BitVec.toInt_eq_toNat_cond] at h0 h1
  split at h0 <;> omega
theorem rng65535 {x : Int32} (h0 : ¬ x < (0 : Int32)) (h1 : ¬ (65535 : Int32) < x) : x.toBitVec.toNat ≤ 65535 := by
  rw [Int32.lt_iff_toInt_lt, show (0 : Int32).toInt = 0 from by decide] at h0
  rw [Int32.lt_iff_toInt_lt, show (65535 : Int32).toInt = 65535 from by decide] at h1
  exact toNat_rng (by omega) (by omega) (by decide)
theorem c_id16 {x : Int32} (h0 : ¬ x < (0 : Int32)) (h1 : ¬ (65535 : Int32) < x) : x.toUInt32.toUInt16.toUInt32.toInt32 = x := by
  have h := rng65535 h0 h1
  apply Int32.toBitVec_inj.mp
  apply BitVec.eq_of_toNat_eq
  show (x.toUInt32.toUInt16.toUInt32).toNat = x.toUInt32.toNat
  rw [UInt16.toNat_toUInt32, UInt32.toNat_toUInt16]
  have : x.toUInt32.toNat = x.toBitVec.toNat := rfl
  omega
theorem u16 {x : Int32} (h0 : ¬ x < (0 : Int32)) (h1 : ¬ (65535 : Int32) < x) : ((x.toInt8.toInt32 &&& 255) <<< ((0 : Int32) &&& 31)) ||| (((x >>> ((8 : Int32) &&& 31)).toInt8.toInt32 &&& 255) <<< ((8 : Int32) &&& 31)) = x := by
  have h := rng65535 h0 h1
  rw [shl0]
  apply Int32.toBitVec_inj.mp
  apply BitVec.eq_of_toNat_eq
  rw [Int32.toBitVec_or, BitVec.toNat_or, lo_nat, shl8, lo_nat, shr8 x (by omega)]
  generalize x.toBitVec.toNat = n at *
  have e1 : n / 256 % 256 * 256 % 4294967296 = (n / 256) <<< 8 := by rw [Nat.shiftLeft_eq]; omega
  rw [e1, Nat.or_comm, ← Nat.shiftLeft_add_eq_or_of_lt (by omega : n % 256 < 2 ^ 8), Nat.shiftLeft_eq]
  omega
theorem shr0 (x : Int32) : x >>> ((0 : Int32) &&& 31) = x := by
  apply Int32.toBitVec_inj.mp
  simp
theorem nar_id16 {x : Int32} (h0 : ¬ x < (0 : Int32)) (h1 : ¬ (65535 : Int32) < x) : nar .char x = x := c_id16 h0 h1
theorem cle16 {x c : Int32} (hc : x.toUInt32.toUInt16.toUInt32.toInt32 = c) : ¬ (65535 : Int32) < c := by
  have := i2c_rng hc
  rw [Int32.lt_iff_toInt_lt, show (65535 : Int32).toInt = 65535 from by decide]; omega
theorem nar_b (x : Int32) : nar .byte x.toInt8.toInt32 = x.toInt8.toInt32 := by simp [nar]
theorem narrow_b (x : Int32) : narrow .byte (.int x.toInt8.toInt32) = .int x.toInt8.toInt32 := congrArg Value.int (nar_b x)
end Rules
end Jvm.Ow
namespace Jvm.Pilot.@@N@@
open Jvm Jvm.ClassFile Sem Op Lib Jvm.Free Jvm.Stand Jvm.LawKit Jvm.RoadKit Bundle Jvm.Pilot.@@N@@.Jvm.D
abbrev EL1 : List (String × Nat) := []
abbrev Hw (a0 : Array Value) (Z : State) : Prop := ∀ d ∈ tables_1, d.before a0 Z = true
abbrev my0 : MethodName := { cls := "java/lang/StringLatin1", name := "canEncode", desc := "(C)Z" }
abbrev my1 : MethodName := { cls := "java/lang/StringLatin1", name := "toBytes", desc := "(C)[B" }
abbrev my2 : MethodName := { cls := "java/lang/String", name := "<init>", desc := "([BB)V" }
abbrev my3 : MethodName := { cls := "java/lang/String", name := "valueOf", desc := "(C)Ljava/lang/String;" }
abbrev my4 : MethodName := { cls := "java/lang/Record", name := "<init>", desc := "()V" }
abbrev my5 : MethodName := { cls := "java/util/Objects", name := "requireNonNull", desc := "(Ljava/lang/Object;Ljava/lang/String;)Ljava/lang/Object;" }
abbrev my6 : MethodName := { cls := "com/example/object_grants/objectgrants/accesslist/Recipient", name := "<init>", desc := "(Lcom/example/object_grants/objectgrants/accesslist/Recipient$Kind;Ljava/lang/String;)V" }
abbrev my7 : MethodName := { cls := "com/example/object_grants/objectgrants/accesslist/Recipient", name := "authority", desc := "(Ljava/lang/String;)Lcom/example/object_grants/objectgrants/accesslist/Recipient;" }
abbrev my8 : MethodName := { cls := "java/util/Optional", name := "empty", desc := "()Ljava/util/Optional;" }
abbrev my9 : MethodName := { cls := "com/example/object_grants/objectgrants/field/GroupGrant", name := "<init>", desc := "(Lcom/example/object_grants/objectgrants/accesslist/Recipient;Lcom/example/object_grants/objectgrants/field/Access;Ljava/util/Optional;Z)V" }
abbrev my10 : MethodName := { cls := "com/example/object_grants/objectgrants/field/GroupGrant", name := "of", desc := "(Lcom/example/object_grants/objectgrants/accesslist/Recipient;Lcom/example/object_grants/objectgrants/field/Access;)Lcom/example/object_grants/objectgrants/field/GroupGrant;" }
abbrev my11 : MethodName := { cls := "com/example/object_grants/objectgrants/field/GroupGrant", name := "recipient", desc := "()Lcom/example/object_grants/objectgrants/accesslist/Recipient;" }
abbrev my12 : MethodName := { cls := "com/example/object_grants/objectgrants/field/GroupGrant", name := "access", desc := "()Lcom/example/object_grants/objectgrants/field/Access;" }
abbrev my13 : MethodName := { cls := "com/example/object_grants/objectgrants/field/GroupGrant", name := "items", desc := "()Ljava/util/Optional;" }
abbrev my14 : MethodName := { cls := "java/util/Optional", name := "isEmpty", desc := "()Z" }
abbrev my15 : MethodName := { cls := "com/example/object_grants/objectgrants/field/GroupGrant", name := "combinedByOr", desc := "()Z" }
abbrev my16 : MethodName := { cls := "com/example/object_grants/objectgrants/accesslist/Recipient", name := "principal", desc := "(Ljava/lang/String;)Lcom/example/object_grants/objectgrants/accesslist/Recipient;" }
abbrev my17 : MethodName := { cls := "java/lang/StringUTF16", name := "compress", desc := "([CI[BII)I" }
abbrev my18 : MethodName := { cls := "java/lang/StringUTF16", name := "compress", desc := "([CII)[B" }
abbrev my19 : MethodName := { cls := "java/lang/StringUTF16", name := "coderFromArrayLen", desc := "([BI)B" }
abbrev my20 : MethodName := { cls := "java/lang/String", name := "<init>", desc := "([CIILjava/lang/Void;)V" }
abbrev my21 : MethodName := { cls := "java/lang/String", name := "<init>", desc := "([C)V" }
theorem w0 {a0 : Array Value} {Z : State} (hw : Hw a0 Z) : (Jvm.Cond.methodLink "com/example/object_grants/objectgrants/field/GroupGrantOfPinLaw" (12 : Nat) ({ cls := "java/lang/String", name := "valueOf", desc := "(C)Ljava/lang/String;" } : Jvm.MethodName)).before a0 Z = true := hw _ (List.mem_of_getElem? (i := 0) rfl)
theorem w1 {a0 : Array Value} {Z : State} (hw : Hw a0 Z) : (Jvm.Cond.static ({ cls := "java/lang/String", name := "valueOf", desc := "(C)Ljava/lang/String;" } : Jvm.MethodName)).before a0 Z = true := hw _ (List.mem_of_getElem? (i := 1) rfl)
theorem w2 {a0 : Array Value} {Z : State} (hw : Hw a0 Z) : (Jvm.Cond.initialized "java/lang/String").before a0 Z = true := hw _ (List.mem_of_getElem? (i := 2) rfl)
theorem w3 {a0 : Array Value} {Z : State} (hw : Hw a0 Z) : (Jvm.Cond.code ({ cls := "java/lang/String", name := "valueOf", desc := "(C)Ljava/lang/String;" } : Jvm.MethodName) jdk_42_method_139_code (1 : Nat) (Option.some (Jvm.ClassFile.FieldType.object "java/lang/String"))).before a0 Z = true := hw _ (List.mem_of_getElem? (i := 3) rfl)
theorem w4 {a0 : Array Value} {Z : State} (hw : Hw a0 Z) : (Jvm.Cond.fieldLink "java/lang/String" (38 : Nat) "java/lang/String" "COMPACT_STRINGS" "Z").before a0 Z = true := hw _ (List.mem_of_getElem? (i := 4) rfl)
theorem w5 {a0 : Array Value} {Z : State} (hw : Hw a0 Z) : (Jvm.Cond.methodLink "java/lang/String" (1015 : Nat) ({ cls := "java/lang/StringLatin1", name := "canEncode", desc := "(C)Z" } : Jvm.MethodName)).before a0 Z = true := hw _ (List.mem_of_getElem? (i := 5) rfl)
theorem w6 {a0 : Array Value} {Z : State} (hw : Hw a0 Z) : (Jvm.Cond.static ({ cls := "java/lang/StringLatin1", name := "canEncode", desc := "(C)Z" } : Jvm.MethodName)).before a0 Z = true := hw _ (List.mem_of_getElem? (i := 6) rfl)
theorem w7 {a0 : Array Value} {Z : State} (hw : Hw a0 Z) : (Jvm.Cond.initialized "java/lang/StringLatin1").before a0 Z = true := hw _ (List.mem_of_getElem? (i := 7) rfl)
theorem w8 {a0 : Array Value} {Z : State} (hw : Hw a0 Z) : (Jvm.Cond.code ({ cls := "java/lang/StringLatin1", name := "canEncode", desc := "(C)Z" } : Jvm.MethodName) jdk_43_method_3_code (1 : Nat) (Option.some Jvm.ClassFile.FieldType.boolean)).before a0 Z = true := hw _ (List.mem_of_getElem? (i := 8) rfl)
theorem w9 {a0 : Array Value} {Z : State} (hw : Hw a0 Z) : (Jvm.Cond.classLink "java/lang/String" (10 : Nat) "java/lang/String").before a0 Z = true := hw _ (List.mem_of_getElem? (i := 9) rfl)
theorem w10 {a0 : Array Value} {Z : State} (hw : Hw a0 Z) : (Jvm.Cond.instantiable "java/lang/String" (4 : Nat)).before a0 Z = true := hw _ (List.mem_of_getElem? (i := 10) rfl)
theorem w11 {a0 : Array Value} {Z : State} (hw : Hw a0 Z) : (Jvm.Cond.methodLink "java/lang/String" (1018 : Nat) ({ cls := "java/lang/StringLatin1", name := "toBytes", desc := "(C)[B" } : Jvm.MethodName)).before a0 Z = true := hw _ (List.mem_of_getElem? (i := 11) rfl)
theorem w12 {a0 : Array Value} {Z : State} (hw : Hw a0 Z) : (Jvm.Cond.static ({ cls := "java/lang/StringLatin1", name := "toBytes", desc := "(C)[B" } : Jvm.MethodName)).before a0 Z = true := hw _ (List.mem_of_getElem? (i := 12) rfl)
theorem w13 {a0 : Array Value} {Z : State} (hw : Hw a0 Z) : (Jvm.Cond.code ({ cls := "java/lang/StringLatin1", name := "toBytes", desc := "(C)[B" } : Jvm.MethodName) jdk_43_method_46_code (1 : Nat) (Option.some (Jvm.ClassFile.FieldType.array Jvm.ClassFile.FieldType.byte))).before a0 Z = true := hw _ (List.mem_of_getElem? (i := 13) rfl)
theorem w14 {a0 : Array Value} {Z : State} (hw : Hw a0 Z) : (Jvm.Cond.arrayClass Jvm.ClassFile.FieldType.byte).before a0 Z = true := hw _ (List.mem_of_getElem? (i := 14) rfl)
theorem w15 {a0 : Array Value} {Z : State} (hw : Hw a0 Z) : (Jvm.Cond.methodLink "java/lang/String" (209 : Nat) ({ cls := "java/lang/String", name := "<init>", desc := "([BB)V" } : Jvm.MethodName)).before a0 Z = true := hw _ (List.mem_of_getElem? (i := 15) rfl)
theorem w16 {a0 : Array Value} {Z : State} (hw : Hw a0 Z) : (Jvm.Cond.instanceMethod ({ cls := "java/lang/String", name := "<init>", desc := "([BB)V" } : Jvm.MethodName)).before a0 Z = true := hw _ (List.mem_of_getElem? (i := 16) rfl)
theorem w18 {a0 : Array Value} {Z : State} (hw : Hw a0 Z) : (Jvm.Cond.code ({ cls := "java/lang/String", name := "<init>", desc := "([BB)V" } : Jvm.MethodName) jdk_42_method_151_code (3 : Nat) (Option.none : Option Jvm.ClassFile.FieldType)).before a0 Z = true := hw _ (List.mem_of_getElem? (i := 18) rfl)
theorem w19 {a0 : Array Value} {Z : State} (hw : Hw a0 Z) : (Jvm.Cond.methodLink "java/lang/String" (1 : Nat) ({ cls := "java/lang/Object", name := "<init>", desc := "()V" } : Jvm.MethodName)).before a0 Z = true := hw _ (List.mem_of_getElem? (i := 19) rfl)
theorem w20 {a0 : Array Value} {Z : State} (hw : Hw a0 Z) : (Jvm.Cond.instanceMethod ({ cls := "java/lang/Object", name := "<init>", desc := "()V" } : Jvm.MethodName)).before a0 Z = true := hw _ (List.mem_of_getElem? (i := 20) rfl)
theorem w21 {a0 : Array Value} {Z : State} (hw : Hw a0 Z) : (Jvm.Cond.code ({ cls := "java/lang/Object", name := "<init>", desc := "()V" } : Jvm.MethodName) object_method_1_code (1 : Nat) (Option.none : Option Jvm.ClassFile.FieldType)).before a0 Z = true := hw _ (List.mem_of_getElem? (i := 21) rfl)
theorem w22 {a0 : Array Value} {Z : State} (hw : Hw a0 Z) : (Jvm.Cond.fieldLink "java/lang/String" (9 : Nat) "java/lang/String" "value" "[B").before a0 Z = true := hw _ (List.mem_of_getElem? (i := 22) rfl)
theorem w23 {a0 : Array Value} {Z : State} (hw : Hw a0 Z) : (Jvm.Cond.laysFinal "java/lang/String" "java/lang/String" "value" "[B").before a0 Z = true := hw _ (List.mem_of_getElem? (i := 23) rfl)
theorem w24 {a0 : Array Value} {Z : State} (hw : Hw a0 Z) : (Jvm.Cond.fieldLink "java/lang/String" (15 : Nat) "java/lang/String" "coder" "B").before a0 Z = true := hw _ (List.mem_of_getElem? (i := 24) rfl)
theorem w25 {a0 : Array Value} {Z : State} (hw : Hw a0 Z) : (Jvm.Cond.laysFinal "java/lang/String" "java/lang/String" "coder" "B").before a0 Z = true := hw _ (List.mem_of_getElem? (i := 25) rfl)
theorem w26 {a0 : Array Value} {Z : State} (hw : Hw a0 Z) : (Jvm.Cond.methodLink "com/example/object_grants/objectgrants/field/GroupGrantOfPinLaw" (22 : Nat) ({ cls := "com/example/object_grants/objectgrants/accesslist/Recipient", name := "authority", desc := "(Ljava/lang/String;)Lcom/example/object_grants/objectgrants/accesslist/Recipient;" } : Jvm.MethodName)).before a0 Z = true := hw _ (List.mem_of_getElem? (i := 26) rfl)
theorem w27 {a0 : Array Value} {Z : State} (hw : Hw a0 Z) : (Jvm.Cond.static ({ cls := "com/example/object_grants/objectgrants/accesslist/Recipient", name := "authority", desc := "(Ljava/lang/String;)Lcom/example/object_grants/objectgrants/accesslist/Recipient;" } : Jvm.MethodName)).before a0 Z = true := hw _ (List.mem_of_getElem? (i := 27) rfl)
theorem w28 {a0 : Array Value} {Z : State} (hw : Hw a0 Z) : (Jvm.Cond.initialized "com/example/object_grants/objectgrants/accesslist/Recipient").before a0 Z = true := hw _ (List.mem_of_getElem? (i := 28) rfl)
theorem w29 {a0 : Array Value} {Z : State} (hw : Hw a0 Z) : (Jvm.Cond.code ({ cls := "com/example/object_grants/objectgrants/accesslist/Recipient", name := "authority", desc := "(Ljava/lang/String;)Lcom/example/object_grants/objectgrants/accesslist/Recipient;" } : Jvm.MethodName) prog_18_method_3_code (1 : Nat) (Option.some (Jvm.ClassFile.FieldType.object "com/example/object_grants/objectgrants/accesslist/Recipient"))).before a0 Z = true := hw _ (List.mem_of_getElem? (i := 29) rfl)
theorem w30 {a0 : Array Value} {Z : State} (hw : Hw a0 Z) : (Jvm.Cond.classLink "com/example/object_grants/objectgrants/accesslist/Recipient" (18 : Nat) "com/example/object_grants/objectgrants/accesslist/Recipient").before a0 Z = true := hw _ (List.mem_of_getElem? (i := 30) rfl)
theorem w31 {a0 : Array Value} {Z : State} (hw : Hw a0 Z) : (Jvm.Cond.instantiable "com/example/object_grants/objectgrants/accesslist/Recipient" (2 : Nat)).before a0 Z = true := hw _ (List.mem_of_getElem? (i := 31) rfl)
theorem w32 {a0 : Array Value} {Z : State} (hw : Hw a0 Z) : (Jvm.Cond.fieldLink "com/example/object_grants/objectgrants/accesslist/Recipient" (33 : Nat) "com/example/object_grants/objectgrants/accesslist/Recipient$Kind" "AUTHORITY" "Lcom/example/object_grants/objectgrants/accesslist/Recipient$Kind;").before a0 Z = true := hw _ (List.mem_of_getElem? (i := 32) rfl)
theorem w33 {a0 : Array Value} {Z : State} (hw : Hw a0 Z) : (Jvm.Cond.initialized "com/example/object_grants/objectgrants/accesslist/Recipient$Kind").before a0 Z = true := hw _ (List.mem_of_getElem? (i := 33) rfl)
theorem w34 {a0 : Array Value} {Z : State} (hw : Hw a0 Z) : (Jvm.Cond.laysStatic "com/example/object_grants/objectgrants/accesslist/Recipient$Kind" "AUTHORITY" "Lcom/example/object_grants/objectgrants/accesslist/Recipient$Kind;").before a0 Z = true := hw _ (List.mem_of_getElem? (i := 34) rfl)
theorem w35 {a0 : Array Value} {Z : State} (hw : Hw a0 Z) : (Jvm.Cond.methodLink "com/example/object_grants/objectgrants/accesslist/Recipient" (30 : Nat) ({ cls := "com/example/object_grants/objectgrants/accesslist/Recipient", name := "<init>", desc := "(Lcom/example/object_grants/objectgrants/accesslist/Recipient$Kind;Ljava/lang/String;)V" } : Jvm.MethodName)).before a0 Z = true := hw _ (List.mem_of_getElem? (i := 35) rfl)
theorem w36 {a0 : Array Value} {Z : State} (hw : Hw a0 Z) : (Jvm.Cond.instanceMethod ({ cls := "com/example/object_grants/objectgrants/accesslist/Recipient", name := "<init>", desc := "(Lcom/example/object_grants/objectgrants/accesslist/Recipient$Kind;Ljava/lang/String;)V" } : Jvm.MethodName)).before a0 Z = true := hw _ (List.mem_of_getElem? (i := 36) rfl)
theorem w37 {a0 : Array Value} {Z : State} (hw : Hw a0 Z) : (Jvm.Cond.code ({ cls := "com/example/object_grants/objectgrants/accesslist/Recipient", name := "<init>", desc := "(Lcom/example/object_grants/objectgrants/accesslist/Recipient$Kind;Ljava/lang/String;)V" } : Jvm.MethodName) prog_18_method_1_code (3 : Nat) (Option.none : Option Jvm.ClassFile.FieldType)).before a0 Z = true := hw _ (List.mem_of_getElem? (i := 37) rfl)
theorem w38 {a0 : Array Value} {Z : State} (hw : Hw a0 Z) : (Jvm.Cond.methodLink "com/example/object_grants/objectgrants/accesslist/Recipient" (1 : Nat) ({ cls := "java/lang/Record", name := "<init>", desc := "()V" } : Jvm.MethodName)).before a0 Z = true := hw _ (List.mem_of_getElem? (i := 38) rfl)
theorem w39 {a0 : Array Value} {Z : State} (hw : Hw a0 Z) : (Jvm.Cond.instanceMethod ({ cls := "java/lang/Record", name := "<init>", desc := "()V" } : Jvm.MethodName)).before a0 Z = true := hw _ (List.mem_of_getElem? (i := 39) rfl)
theorem w41 {a0 : Array Value} {Z : State} (hw : Hw a0 Z) : (Jvm.Cond.initialized "java/lang/Record").before a0 Z = true := hw _ (List.mem_of_getElem? (i := 41) rfl)
theorem w42 {a0 : Array Value} {Z : State} (hw : Hw a0 Z) : (Jvm.Cond.code ({ cls := "java/lang/Record", name := "<init>", desc := "()V" } : Jvm.MethodName) jdk_30_method_1_code (1 : Nat) (Option.none : Option Jvm.ClassFile.FieldType)).before a0 Z = true := hw _ (List.mem_of_getElem? (i := 42) rfl)
theorem w43 {a0 : Array Value} {Z : State} (hw : Hw a0 Z) : (Jvm.Cond.methodLink "java/lang/Record" (1 : Nat) ({ cls := "java/lang/Object", name := "<init>", desc := "()V" } : Jvm.MethodName)).before a0 Z = true := hw _ (List.mem_of_getElem? (i := 43) rfl)
theorem w44 {a0 : Array Value} {Z : State} (hw : Hw a0 Z) : (Jvm.Cond.stringLink "com/example/object_grants/objectgrants/accesslist/Recipient" (7 : Nat) "kind").before a0 Z = true := hw _ (List.mem_of_getElem? (i := 44) rfl)
theorem w45 {a0 : Array Value} {Z : State} (hw : Hw a0 Z) : (Jvm.Cond.soleField "java/lang/String" "value").before a0 Z = true := hw _ (List.mem_of_getElem? (i := 45) rfl)
theorem w46 {a0 : Array Value} {Z : State} (hw : Hw a0 Z) : (Jvm.Cond.soleField "java/lang/String" "coder").before a0 Z = true := hw _ (List.mem_of_getElem? (i := 46) rfl)
theorem w47 {a0 : Array Value} {Z : State} (hw : Hw a0 Z) : (Jvm.Cond.methodLink "com/example/object_grants/objectgrants/accesslist/Recipient" (9 : Nat) ({ cls := "java/util/Objects", name := "requireNonNull", desc := "(Ljava/lang/Object;Ljava/lang/String;)Ljava/lang/Object;" } : Jvm.MethodName)).before a0 Z = true := hw _ (List.mem_of_getElem? (i := 47) rfl)
theorem w48 {a0 : Array Value} {Z : State} (hw : Hw a0 Z) : (Jvm.Cond.static ({ cls := "java/util/Objects", name := "requireNonNull", desc := "(Ljava/lang/Object;Ljava/lang/String;)Ljava/lang/Object;" } : Jvm.MethodName)).before a0 Z = true := hw _ (List.mem_of_getElem? (i := 48) rfl)
theorem w49 {a0 : Array Value} {Z : State} (hw : Hw a0 Z) : (Jvm.Cond.initialized "java/util/Objects").before a0 Z = true := hw _ (List.mem_of_getElem? (i := 49) rfl)
theorem w50 {a0 : Array Value} {Z : State} (hw : Hw a0 Z) : (Jvm.Cond.code ({ cls := "java/util/Objects", name := "requireNonNull", desc := "(Ljava/lang/Object;Ljava/lang/String;)Ljava/lang/Object;" } : Jvm.MethodName) jdk_31_method_11_code (2 : Nat) (Option.some (Jvm.ClassFile.FieldType.object "java/lang/Object"))).before a0 Z = true := hw _ (List.mem_of_getElem? (i := 50) rfl)
theorem w51 {a0 : Array Value} {Z : State} (hw : Hw a0 Z) : (Jvm.Cond.stringLink "com/example/object_grants/objectgrants/accesslist/Recipient" (15 : Nat) "name").before a0 Z = true := hw _ (List.mem_of_getElem? (i := 51) rfl)
theorem w52 {a0 : Array Value} {Z : State} (hw : Hw a0 Z) : (Jvm.Cond.fieldLink "com/example/object_grants/objectgrants/accesslist/Recipient" (17 : Nat) "com/example/object_grants/objectgrants/accesslist/Recipient" "kind" "Lcom/example/object_grants/objectgrants/accesslist/Recipient$Kind;").before a0 Z = true := hw _ (List.mem_of_getElem? (i := 52) rfl)
theorem w53 {a0 : Array Value} {Z : State} (hw : Hw a0 Z) : (Jvm.Cond.laysFinal "com/example/object_grants/objectgrants/accesslist/Recipient" "com/example/object_grants/objectgrants/accesslist/Recipient" "kind" "Lcom/example/object_grants/objectgrants/accesslist/Recipient$Kind;").before a0 Z = true := hw _ (List.mem_of_getElem? (i := 53) rfl)
theorem w54 {a0 : Array Value} {Z : State} (hw : Hw a0 Z) : (Jvm.Cond.fieldLink "com/example/object_grants/objectgrants/accesslist/Recipient" (22 : Nat) "com/example/object_grants/objectgrants/accesslist/Recipient" "name" "Ljava/lang/String;").before a0 Z = true := hw _ (List.mem_of_getElem? (i := 54) rfl)
theorem w55 {a0 : Array Value} {Z : State} (hw : Hw a0 Z) : (Jvm.Cond.laysFinal "com/example/object_grants/objectgrants/accesslist/Recipient" "com/example/object_grants/objectgrants/accesslist/Recipient" "name" "Ljava/lang/String;").before a0 Z = true := hw _ (List.mem_of_getElem? (i := 55) rfl)
theorem w56 {a0 : Array Value} {Z : State} (hw : Hw a0 Z) : (Jvm.Cond.fieldLink "com/example/object_grants/objectgrants/field/GroupGrantOfPinLaw" (25 : Nat) "com/example/object_grants/objectgrants/field/Access" "GRANTED" "Lcom/example/object_grants/objectgrants/field/Access;").before a0 Z = true := hw _ (List.mem_of_getElem? (i := 56) rfl)
theorem w57 {a0 : Array Value} {Z : State} (hw : Hw a0 Z) : (Jvm.Cond.initialized "com/example/object_grants/objectgrants/field/Access").before a0 Z = true := hw _ (List.mem_of_getElem? (i := 57) rfl)
theorem w58 {a0 : Array Value} {Z : State} (hw : Hw a0 Z) : (Jvm.Cond.laysStatic "com/example/object_grants/objectgrants/field/Access" "GRANTED" "Lcom/example/object_grants/objectgrants/field/Access;").before a0 Z = true := hw _ (List.mem_of_getElem? (i := 58) rfl)
theorem w59 {a0 : Array Value} {Z : State} (hw : Hw a0 Z) : (Jvm.Cond.methodLink "com/example/object_grants/objectgrants/field/GroupGrantOfPinLaw" (34 : Nat) ({ cls := "com/example/object_grants/objectgrants/field/GroupGrant", name := "of", desc := "(Lcom/example/object_grants/objectgrants/accesslist/Recipient;Lcom/example/object_grants/objectgrants/field/Access;)Lcom/example/object_grants/objectgrants/field/GroupGrant;" } : Jvm.MethodName)).before a0 Z = true := hw _ (List.mem_of_getElem? (i := 59) rfl)
theorem w60 {a0 : Array Value} {Z : State} (hw : Hw a0 Z) : (Jvm.Cond.static ({ cls := "com/example/object_grants/objectgrants/field/GroupGrant", name := "of", desc := "(Lcom/example/object_grants/objectgrants/accesslist/Recipient;Lcom/example/object_grants/objectgrants/field/Access;)Lcom/example/object_grants/objectgrants/field/GroupGrant;" } : Jvm.MethodName)).before a0 Z = true := hw _ (List.mem_of_getElem? (i := 60) rfl)
theorem w61 {a0 : Array Value} {Z : State} (hw : Hw a0 Z) : (Jvm.Cond.initialized "com/example/object_grants/objectgrants/field/GroupGrant").before a0 Z = true := hw _ (List.mem_of_getElem? (i := 61) rfl)
theorem w62 {a0 : Array Value} {Z : State} (hw : Hw a0 Z) : (Jvm.Cond.code ({ cls := "com/example/object_grants/objectgrants/field/GroupGrant", name := "of", desc := "(Lcom/example/object_grants/objectgrants/accesslist/Recipient;Lcom/example/object_grants/objectgrants/field/Access;)Lcom/example/object_grants/objectgrants/field/GroupGrant;" } : Jvm.MethodName) prog_30_method_2_code (2 : Nat) (Option.some (Jvm.ClassFile.FieldType.object "com/example/object_grants/objectgrants/field/GroupGrant"))).before a0 Z = true := hw _ (List.mem_of_getElem? (i := 62) rfl)
theorem w63 {a0 : Array Value} {Z : State} (hw : Hw a0 Z) : (Jvm.Cond.classLink "com/example/object_grants/objectgrants/field/GroupGrant" (20 : Nat) "com/example/object_grants/objectgrants/field/GroupGrant").before a0 Z = true := hw _ (List.mem_of_getElem? (i := 63) rfl)
theorem w64 {a0 : Array Value} {Z : State} (hw : Hw a0 Z) : (Jvm.Cond.instantiable "com/example/object_grants/objectgrants/field/GroupGrant" (4 : Nat)).before a0 Z = true := hw _ (List.mem_of_getElem? (i := 64) rfl)
theorem w65 {a0 : Array Value} {Z : State} (hw : Hw a0 Z) : (Jvm.Cond.methodLink "com/example/object_grants/objectgrants/field/GroupGrant" (34 : Nat) ({ cls := "java/util/Optional", name := "empty", desc := "()Ljava/util/Optional;" } : Jvm.MethodName)).before a0 Z = true := hw _ (List.mem_of_getElem? (i := 65) rfl)
theorem w66 {a0 : Array Value} {Z : State} (hw : Hw a0 Z) : (Jvm.Cond.static ({ cls := "java/util/Optional", name := "empty", desc := "()Ljava/util/Optional;" } : Jvm.MethodName)).before a0 Z = true := hw _ (List.mem_of_getElem? (i := 66) rfl)
theorem w67 {a0 : Array Value} {Z : State} (hw : Hw a0 Z) : (Jvm.Cond.initialized "java/util/Optional").before a0 Z = true := hw _ (List.mem_of_getElem? (i := 67) rfl)
theorem w68 {a0 : Array Value} {Z : State} (hw : Hw a0 Z) : (Jvm.Cond.code ({ cls := "java/util/Optional", name := "empty", desc := "()Ljava/util/Optional;" } : Jvm.MethodName) jdk_32_method_1_code (1 : Nat) (Option.some (Jvm.ClassFile.FieldType.object "java/util/Optional"))).before a0 Z = true := hw _ (List.mem_of_getElem? (i := 68) rfl)
theorem w69 {a0 : Array Value} {Z : State} (hw : Hw a0 Z) : (Jvm.Cond.fieldLink "java/util/Optional" (1 : Nat) "java/util/Optional" "EMPTY" "Ljava/util/Optional;").before a0 Z = true := hw _ (List.mem_of_getElem? (i := 69) rfl)
theorem w70 {a0 : Array Value} {Z : State} (hw : Hw a0 Z) : (Jvm.Cond.methodLink "com/example/object_grants/objectgrants/field/GroupGrant" (40 : Nat) ({ cls := "com/example/object_grants/objectgrants/field/GroupGrant", name := "<init>", desc := "(Lcom/example/object_grants/objectgrants/accesslist/Recipient;Lcom/example/object_grants/objectgrants/field/Access;Ljava/util/Optional;Z)V" } : Jvm.MethodName)).before a0 Z = true := hw _ (List.mem_of_getElem? (i := 70) rfl)
theorem w71 {a0 : Array Value} {Z : State} (hw : Hw a0 Z) : (Jvm.Cond.instanceMethod ({ cls := "com/example/object_grants/objectgrants/field/GroupGrant", name := "<init>", desc := "(Lcom/example/object_grants/objectgrants/accesslist/Recipient;Lcom/example/object_grants/objectgrants/field/Access;Ljava/util/Optional;Z)V" } : Jvm.MethodName)).before a0 Z = true := hw _ (List.mem_of_getElem? (i := 71) rfl)
theorem w72 {a0 : Array Value} {Z : State} (hw : Hw a0 Z) : (Jvm.Cond.code ({ cls := "com/example/object_grants/objectgrants/field/GroupGrant", name := "<init>", desc := "(Lcom/example/object_grants/objectgrants/accesslist/Recipient;Lcom/example/object_grants/objectgrants/field/Access;Ljava/util/Optional;Z)V" } : Jvm.MethodName) prog_30_method_1_code (5 : Nat) (Option.none : Option Jvm.ClassFile.FieldType)).before a0 Z = true := hw _ (List.mem_of_getElem? (i := 72) rfl)
theorem w73 {a0 : Array Value} {Z : State} (hw : Hw a0 Z) : (Jvm.Cond.methodLink "com/example/object_grants/objectgrants/field/GroupGrant" (1 : Nat) ({ cls := "java/lang/Record", name := "<init>", desc := "()V" } : Jvm.MethodName)).before a0 Z = true := hw _ (List.mem_of_getElem? (i := 73) rfl)
theorem w74 {a0 : Array Value} {Z : State} (hw : Hw a0 Z) : (Jvm.Cond.stringLink "com/example/object_grants/objectgrants/field/GroupGrant" (7 : Nat) "recipient").before a0 Z = true := hw _ (List.mem_of_getElem? (i := 74) rfl)
theorem w75 {a0 : Array Value} {Z : State} (hw : Hw a0 Z) : (Jvm.Cond.methodLink "com/example/object_grants/objectgrants/field/GroupGrant" (9 : Nat) ({ cls := "java/util/Objects", name := "requireNonNull", desc := "(Ljava/lang/Object;Ljava/lang/String;)Ljava/lang/Object;" } : Jvm.MethodName)).before a0 Z = true := hw _ (List.mem_of_getElem? (i := 75) rfl)
theorem w76 {a0 : Array Value} {Z : State} (hw : Hw a0 Z) : (Jvm.Cond.stringLink "com/example/object_grants/objectgrants/field/GroupGrant" (15 : Nat) "access").before a0 Z = true := hw _ (List.mem_of_getElem? (i := 76) rfl)
theorem w77 {a0 : Array Value} {Z : State} (hw : Hw a0 Z) : (Jvm.Cond.stringLink "com/example/object_grants/objectgrants/field/GroupGrant" (17 : Nat) "items").before a0 Z = true := hw _ (List.mem_of_getElem? (i := 77) rfl)
theorem w78 {a0 : Array Value} {Z : State} (hw : Hw a0 Z) : (Jvm.Cond.fieldLink "com/example/object_grants/objectgrants/field/GroupGrant" (19 : Nat) "com/example/object_grants/objectgrants/field/GroupGrant" "recipient" "Lcom/example/object_grants/objectgrants/accesslist/Recipient;").before a0 Z = true := hw _ (List.mem_of_getElem? (i := 78) rfl)
theorem w79 {a0 : Array Value} {Z : State} (hw : Hw a0 Z) : (Jvm.Cond.laysFinal "com/example/object_grants/objectgrants/field/GroupGrant" "com/example/object_grants/objectgrants/field/GroupGrant" "recipient" "Lcom/example/object_grants/objectgrants/accesslist/Recipient;").before a0 Z = true := hw _ (List.mem_of_getElem? (i := 79) rfl)
theorem w80 {a0 : Array Value} {Z : State} (hw : Hw a0 Z) : (Jvm.Cond.fieldLink "com/example/object_grants/objectgrants/field/GroupGrant" (24 : Nat) "com/example/object_grants/objectgrants/field/GroupGrant" "access" "Lcom/example/object_grants/objectgrants/field/Access;").before a0 Z = true := hw _ (List.mem_of_getElem? (i := 80) rfl)
theorem w81 {a0 : Array Value} {Z : State} (hw : Hw a0 Z) : (Jvm.Cond.laysFinal "com/example/object_grants/objectgrants/field/GroupGrant" "com/example/object_grants/objectgrants/field/GroupGrant" "access" "Lcom/example/object_grants/objectgrants/field/Access;").before a0 Z = true := hw _ (List.mem_of_getElem? (i := 81) rfl)
theorem w82 {a0 : Array Value} {Z : State} (hw : Hw a0 Z) : (Jvm.Cond.fieldLink "com/example/object_grants/objectgrants/field/GroupGrant" (27 : Nat) "com/example/object_grants/objectgrants/field/GroupGrant" "items" "Ljava/util/Optional;").before a0 Z = true := hw _ (List.mem_of_getElem? (i := 82) rfl)
theorem w83 {a0 : Array Value} {Z : State} (hw : Hw a0 Z) : (Jvm.Cond.laysFinal "com/example/object_grants/objectgrants/field/GroupGrant" "com/example/object_grants/objectgrants/field/GroupGrant" "items" "Ljava/util/Optional;").before a0 Z = true := hw _ (List.mem_of_getElem? (i := 83) rfl)
theorem w84 {a0 : Array Value} {Z : State} (hw : Hw a0 Z) : (Jvm.Cond.fieldLink "com/example/object_grants/objectgrants/field/GroupGrant" (30 : Nat) "com/example/object_grants/objectgrants/field/GroupGrant" "combinedByOr" "Z").before a0 Z = true := hw _ (List.mem_of_getElem? (i := 84) rfl)
theorem w85 {a0 : Array Value} {Z : State} (hw : Hw a0 Z) : (Jvm.Cond.laysFinal "com/example/object_grants/objectgrants/field/GroupGrant" "com/example/object_grants/objectgrants/field/GroupGrant" "combinedByOr" "Z").before a0 Z = true := hw _ (List.mem_of_getElem? (i := 85) rfl)
theorem w86 {a0 : Array Value} {Z : State} (hw : Hw a0 Z) : (Jvm.Cond.methodLink "com/example/object_grants/objectgrants/field/GroupGrantOfPinLaw" (40 : Nat) ({ cls := "com/example/object_grants/objectgrants/field/GroupGrant", name := "recipient", desc := "()Lcom/example/object_grants/objectgrants/accesslist/Recipient;" } : Jvm.MethodName)).before a0 Z = true := hw _ (List.mem_of_getElem? (i := 86) rfl)
theorem w87 {a0 : Array Value} {Z : State} (hw : Hw a0 Z) : (Jvm.Cond.declares ({ cls := "com/example/object_grants/objectgrants/field/GroupGrant", name := "recipient", desc := "()Lcom/example/object_grants/objectgrants/accesslist/Recipient;" } : Jvm.MethodName)).before a0 Z = true := hw _ (List.mem_of_getElem? (i := 87) rfl)
theorem w88 {a0 : Array Value} {Z : State} (hw : Hw a0 Z) : (Jvm.Cond.instanceMethod ({ cls := "com/example/object_grants/objectgrants/field/GroupGrant", name := "recipient", desc := "()Lcom/example/object_grants/objectgrants/accesslist/Recipient;" } : Jvm.MethodName)).before a0 Z = true := hw _ (List.mem_of_getElem? (i := 88) rfl)
theorem w89 {a0 : Array Value} {Z : State} (hw : Hw a0 Z) : (Jvm.Cond.selects "com/example/object_grants/objectgrants/field/GroupGrant" ({ cls := "com/example/object_grants/objectgrants/field/GroupGrant", name := "recipient", desc := "()Lcom/example/object_grants/objectgrants/accesslist/Recipient;" } : Jvm.MethodName) ({ cls := "com/example/object_grants/objectgrants/field/GroupGrant", name := "recipient", desc := "()Lcom/example/object_grants/objectgrants/accesslist/Recipient;" } : Jvm.MethodName)).before a0 Z = true := hw _ (List.mem_of_getElem? (i := 89) rfl)
theorem w90 {a0 : Array Value} {Z : State} (hw : Hw a0 Z) : (Jvm.Cond.code ({ cls := "com/example/object_grants/objectgrants/field/GroupGrant", name := "recipient", desc := "()Lcom/example/object_grants/objectgrants/accesslist/Recipient;" } : Jvm.MethodName) prog_30_method_8_code (1 : Nat) (Option.some (Jvm.ClassFile.FieldType.object "com/example/object_grants/objectgrants/accesslist/Recipient"))).before a0 Z = true := hw _ (List.mem_of_getElem? (i := 90) rfl)
theorem w91 {a0 : Array Value} {Z : State} (hw : Hw a0 Z) : (Jvm.Cond.methodLink "com/example/object_grants/objectgrants/field/GroupGrantOfPinLaw" (44 : Nat) ({ cls := "com/example/object_grants/objectgrants/field/GroupGrant", name := "access", desc := "()Lcom/example/object_grants/objectgrants/field/Access;" } : Jvm.MethodName)).before a0 Z = true := hw _ (List.mem_of_getElem? (i := 91) rfl)
theorem w92 {a0 : Array Value} {Z : State} (hw : Hw a0 Z) : (Jvm.Cond.declares ({ cls := "com/example/object_grants/objectgrants/field/GroupGrant", name := "access", desc := "()Lcom/example/object_grants/objectgrants/field/Access;" } : Jvm.MethodName)).before a0 Z = true := hw _ (List.mem_of_getElem? (i := 92) rfl)
theorem w93 {a0 : Array Value} {Z : State} (hw : Hw a0 Z) : (Jvm.Cond.instanceMethod ({ cls := "com/example/object_grants/objectgrants/field/GroupGrant", name := "access", desc := "()Lcom/example/object_grants/objectgrants/field/Access;" } : Jvm.MethodName)).before a0 Z = true := hw _ (List.mem_of_getElem? (i := 93) rfl)
theorem w94 {a0 : Array Value} {Z : State} (hw : Hw a0 Z) : (Jvm.Cond.selects "com/example/object_grants/objectgrants/field/GroupGrant" ({ cls := "com/example/object_grants/objectgrants/field/GroupGrant", name := "access", desc := "()Lcom/example/object_grants/objectgrants/field/Access;" } : Jvm.MethodName) ({ cls := "com/example/object_grants/objectgrants/field/GroupGrant", name := "access", desc := "()Lcom/example/object_grants/objectgrants/field/Access;" } : Jvm.MethodName)).before a0 Z = true := hw _ (List.mem_of_getElem? (i := 94) rfl)
theorem w95 {a0 : Array Value} {Z : State} (hw : Hw a0 Z) : (Jvm.Cond.code ({ cls := "com/example/object_grants/objectgrants/field/GroupGrant", name := "access", desc := "()Lcom/example/object_grants/objectgrants/field/Access;" } : Jvm.MethodName) prog_30_method_9_code (1 : Nat) (Option.some (Jvm.ClassFile.FieldType.object "com/example/object_grants/objectgrants/field/Access"))).before a0 Z = true := hw _ (List.mem_of_getElem? (i := 95) rfl)
theorem w96 {a0 : Array Value} {Z : State} (hw : Hw a0 Z) : (Jvm.Cond.methodLink "com/example/object_grants/objectgrants/field/GroupGrantOfPinLaw" (48 : Nat) ({ cls := "com/example/object_grants/objectgrants/field/GroupGrant", name := "items", desc := "()Ljava/util/Optional;" } : Jvm.MethodName)).before a0 Z = true := hw _ (List.mem_of_getElem? (i := 96) rfl)
theorem w97 {a0 : Array Value} {Z : State} (hw : Hw a0 Z) : (Jvm.Cond.declares ({ cls := "com/example/object_grants/objectgrants/field/GroupGrant", name := "items", desc := "()Ljava/util/Optional;" } : Jvm.MethodName)).before a0 Z = true := hw _ (List.mem_of_getElem? (i := 97) rfl)
theorem w98 {a0 : Array Value} {Z : State} (hw : Hw a0 Z) : (Jvm.Cond.instanceMethod ({ cls := "com/example/object_grants/objectgrants/field/GroupGrant", name := "items", desc := "()Ljava/util/Optional;" } : Jvm.MethodName)).before a0 Z = true := hw _ (List.mem_of_getElem? (i := 98) rfl)
theorem w99 {a0 : Array Value} {Z : State} (hw : Hw a0 Z) : (Jvm.Cond.selects "com/example/object_grants/objectgrants/field/GroupGrant" ({ cls := "com/example/object_grants/objectgrants/field/GroupGrant", name := "items", desc := "()Ljava/util/Optional;" } : Jvm.MethodName) ({ cls := "com/example/object_grants/objectgrants/field/GroupGrant", name := "items", desc := "()Ljava/util/Optional;" } : Jvm.MethodName)).before a0 Z = true := hw _ (List.mem_of_getElem? (i := 99) rfl)
theorem w100 {a0 : Array Value} {Z : State} (hw : Hw a0 Z) : (Jvm.Cond.code ({ cls := "com/example/object_grants/objectgrants/field/GroupGrant", name := "items", desc := "()Ljava/util/Optional;" } : Jvm.MethodName) prog_30_method_10_code (1 : Nat) (Option.some (Jvm.ClassFile.FieldType.object "java/util/Optional"))).before a0 Z = true := hw _ (List.mem_of_getElem? (i := 100) rfl)
theorem w101 {a0 : Array Value} {Z : State} (hw : Hw a0 Z) : (Jvm.Cond.methodLink "com/example/object_grants/objectgrants/field/GroupGrantOfPinLaw" (52 : Nat) ({ cls := "java/util/Optional", name := "isEmpty", desc := "()Z" } : Jvm.MethodName)).before a0 Z = true := hw _ (List.mem_of_getElem? (i := 101) rfl)
theorem w102 {a0 : Array Value} {Z : State} (hw : Hw a0 Z) : (Jvm.Cond.declares ({ cls := "java/util/Optional", name := "isEmpty", desc := "()Z" } : Jvm.MethodName)).before a0 Z = true := hw _ (List.mem_of_getElem? (i := 102) rfl)
theorem w103 {a0 : Array Value} {Z : State} (hw : Hw a0 Z) : (Jvm.Cond.instanceMethod ({ cls := "java/util/Optional", name := "isEmpty", desc := "()Z" } : Jvm.MethodName)).before a0 Z = true := hw _ (List.mem_of_getElem? (i := 103) rfl)
theorem w104 {a0 : Array Value} {Z : State} (hw : Hw a0 Z) : (Jvm.Cond.selects "java/util/Optional" ({ cls := "java/util/Optional", name := "isEmpty", desc := "()Z" } : Jvm.MethodName) ({ cls := "java/util/Optional", name := "isEmpty", desc := "()Z" } : Jvm.MethodName)).before a0 Z = true := hw _ (List.mem_of_getElem? (i := 104) rfl)
theorem w105 {a0 : Array Value} {Z : State} (hw : Hw a0 Z) : (Jvm.Cond.code ({ cls := "java/util/Optional", name := "isEmpty", desc := "()Z" } : Jvm.MethodName) jdk_32_method_7_code (1 : Nat) (Option.some Jvm.ClassFile.FieldType.boolean)).before a0 Z = true := hw _ (List.mem_of_getElem? (i := 105) rfl)
theorem w106 {a0 : Array Value} {Z : State} (hw : Hw a0 Z) : (Jvm.Cond.fieldLink "java/util/Optional" (13 : Nat) "java/util/Optional" "value" "Ljava/lang/Object;").before a0 Z = true := hw _ (List.mem_of_getElem? (i := 106) rfl)
theorem w108 {a0 : Array Value} {Z : State} (hw : Hw a0 Z) : (Jvm.Cond.methodLink "com/example/object_grants/objectgrants/field/GroupGrantOfPinLaw" (58 : Nat) ({ cls := "com/example/object_grants/objectgrants/field/GroupGrant", name := "combinedByOr", desc := "()Z" } : Jvm.MethodName)).before a0 Z = true := hw _ (List.mem_of_getElem? (i := 108) rfl)
theorem w109 {a0 : Array Value} {Z : State} (hw : Hw a0 Z) : (Jvm.Cond.declares ({ cls := "com/example/object_grants/objectgrants/field/GroupGrant", name := "combinedByOr", desc := "()Z" } : Jvm.MethodName)).before a0 Z = true := hw _ (List.mem_of_getElem? (i := 109) rfl)
theorem w110 {a0 : Array Value} {Z : State} (hw : Hw a0 Z) : (Jvm.Cond.instanceMethod ({ cls := "com/example/object_grants/objectgrants/field/GroupGrant", name := "combinedByOr", desc := "()Z" } : Jvm.MethodName)).before a0 Z = true := hw _ (List.mem_of_getElem? (i := 110) rfl)
theorem w111 {a0 : Array Value} {Z : State} (hw : Hw a0 Z) : (Jvm.Cond.selects "com/example/object_grants/objectgrants/field/GroupGrant" ({ cls := "com/example/object_grants/objectgrants/field/GroupGrant", name := "combinedByOr", desc := "()Z" } : Jvm.MethodName) ({ cls := "com/example/object_grants/objectgrants/field/GroupGrant", name := "combinedByOr", desc := "()Z" } : Jvm.MethodName)).before a0 Z = true := hw _ (List.mem_of_getElem? (i := 111) rfl)
theorem w112 {a0 : Array Value} {Z : State} (hw : Hw a0 Z) : (Jvm.Cond.code ({ cls := "com/example/object_grants/objectgrants/field/GroupGrant", name := "combinedByOr", desc := "()Z" } : Jvm.MethodName) prog_30_method_11_code (1 : Nat) (Option.some Jvm.ClassFile.FieldType.boolean)).before a0 Z = true := hw _ (List.mem_of_getElem? (i := 112) rfl)
theorem w113 {a0 : Array Value} {Z : State} (hw : Hw a0 Z) : (Jvm.Cond.methodLink "com/example/object_grants/objectgrants/field/GroupGrantOfPinLaw" (16 : Nat) ({ cls := "com/example/object_grants/objectgrants/accesslist/Recipient", name := "principal", desc := "(Ljava/lang/String;)Lcom/example/object_grants/objectgrants/accesslist/Recipient;" } : Jvm.MethodName)).before a0 Z = true := hw _ (List.mem_of_getElem? (i := 113) rfl)
theorem w114 {a0 : Array Value} {Z : State} (hw : Hw a0 Z) : (Jvm.Cond.static ({ cls := "com/example/object_grants/objectgrants/accesslist/Recipient", name := "principal", desc := "(Ljava/lang/String;)Lcom/example/object_grants/objectgrants/accesslist/Recipient;" } : Jvm.MethodName)).before a0 Z = true := hw _ (List.mem_of_getElem? (i := 114) rfl)
theorem w115 {a0 : Array Value} {Z : State} (hw : Hw a0 Z) : (Jvm.Cond.code ({ cls := "com/example/object_grants/objectgrants/accesslist/Recipient", name := "principal", desc := "(Ljava/lang/String;)Lcom/example/object_grants/objectgrants/accesslist/Recipient;" } : Jvm.MethodName) prog_18_method_2_code (1 : Nat) (Option.some (Jvm.ClassFile.FieldType.object "com/example/object_grants/objectgrants/accesslist/Recipient"))).before a0 Z = true := hw _ (List.mem_of_getElem? (i := 115) rfl)
theorem w116 {a0 : Array Value} {Z : State} (hw : Hw a0 Z) : (Jvm.Cond.fieldLink "com/example/object_grants/objectgrants/accesslist/Recipient" (25 : Nat) "com/example/object_grants/objectgrants/accesslist/Recipient$Kind" "PRINCIPAL" "Lcom/example/object_grants/objectgrants/accesslist/Recipient$Kind;").before a0 Z = true := hw _ (List.mem_of_getElem? (i := 116) rfl)
theorem w117 {a0 : Array Value} {Z : State} (hw : Hw a0 Z) : (Jvm.Cond.laysStatic "com/example/object_grants/objectgrants/accesslist/Recipient$Kind" "PRINCIPAL" "Lcom/example/object_grants/objectgrants/accesslist/Recipient$Kind;").before a0 Z = true := hw _ (List.mem_of_getElem? (i := 117) rfl)
theorem w118 {a0 : Array Value} {Z : State} (hw : Hw a0 Z) : (Jvm.Cond.arrayClass Jvm.ClassFile.FieldType.char).before a0 Z = true := hw _ (List.mem_of_getElem? (i := 118) rfl)
theorem w119 {a0 : Array Value} {Z : State} (hw : Hw a0 Z) : (Jvm.Cond.classLink "com/example/object_grants/objectgrants/field/GroupGrantOfPinLaw" (7 : Nat) "java/lang/String").before a0 Z = true := hw _ (List.mem_of_getElem? (i := 119) rfl)
theorem w120 {a0 : Array Value} {Z : State} (hw : Hw a0 Z) : (Jvm.Cond.methodLink "com/example/object_grants/objectgrants/field/GroupGrantOfPinLaw" (9 : Nat) ({ cls := "java/lang/String", name := "<init>", desc := "([C)V" } : Jvm.MethodName)).before a0 Z = true := hw _ (List.mem_of_getElem? (i := 120) rfl)
theorem w121 {a0 : Array Value} {Z : State} (hw : Hw a0 Z) : (Jvm.Cond.instanceMethod ({ cls := "java/lang/String", name := "<init>", desc := "([C)V" } : Jvm.MethodName)).before a0 Z = true := hw _ (List.mem_of_getElem? (i := 121) rfl)
theorem w122 {a0 : Array Value} {Z : State} (hw : Hw a0 Z) : (Jvm.Cond.code ({ cls := "java/lang/String", name := "<init>", desc := "([C)V" } : Jvm.MethodName) jdk_42_method_3_code (2 : Nat) (Option.none : Option Jvm.ClassFile.FieldType)).before a0 Z = true := hw _ (List.mem_of_getElem? (i := 122) rfl)
theorem w123 {a0 : Array Value} {Z : State} (hw : Hw a0 Z) : (Jvm.Cond.methodLink "java/lang/String" (27 : Nat) ({ cls := "java/lang/String", name := "<init>", desc := "([CIILjava/lang/Void;)V" } : Jvm.MethodName)).before a0 Z = true := hw _ (List.mem_of_getElem? (i := 123) rfl)
theorem w124 {a0 : Array Value} {Z : State} (hw : Hw a0 Z) : (Jvm.Cond.instanceMethod ({ cls := "java/lang/String", name := "<init>", desc := "([CIILjava/lang/Void;)V" } : Jvm.MethodName)).before a0 Z = true := hw _ (List.mem_of_getElem? (i := 124) rfl)
theorem w125 {a0 : Array Value} {Z : State} (hw : Hw a0 Z) : (Jvm.Cond.code ({ cls := "java/lang/String", name := "<init>", desc := "([CIILjava/lang/Void;)V" } : Jvm.MethodName) jdk_42_method_149_code (6 : Nat) (Option.none : Option Jvm.ClassFile.FieldType)).before a0 Z = true := hw _ (List.mem_of_getElem? (i := 125) rfl)
theorem w126 {a0 : Array Value} {Z : State} (hw : Hw a0 Z) : (Jvm.Cond.methodLink "java/lang/String" (177 : Nat) ({ cls := "java/lang/StringUTF16", name := "compress", desc := "([CII)[B" } : Jvm.MethodName)).before a0 Z = true := hw _ (List.mem_of_getElem? (i := 126) rfl)
theorem w127 {a0 : Array Value} {Z : State} (hw : Hw a0 Z) : (Jvm.Cond.static ({ cls := "java/lang/StringUTF16", name := "compress", desc := "([CII)[B" } : Jvm.MethodName)).before a0 Z = true := hw _ (List.mem_of_getElem? (i := 127) rfl)
theorem w128 {a0 : Array Value} {Z : State} (hw : Hw a0 Z) : (Jvm.Cond.initialized "java/lang/StringUTF16").before a0 Z = true := hw _ (List.mem_of_getElem? (i := 128) rfl)
theorem w129 {a0 : Array Value} {Z : State} (hw : Hw a0 Z) : (Jvm.Cond.code ({ cls := "java/lang/StringUTF16", name := "compress", desc := "([CII)[B" } : Jvm.MethodName) jdk_52_method_16_code (6 : Nat) (Option.some (Jvm.ClassFile.FieldType.array Jvm.ClassFile.FieldType.byte))).before a0 Z = true := hw _ (List.mem_of_getElem? (i := 129) rfl)
theorem w130 {a0 : Array Value} {Z : State} (hw : Hw a0 Z) : (Jvm.Cond.methodLink "java/lang/StringUTF16" (115 : Nat) ({ cls := "java/lang/StringUTF16", name := "compress", desc := "([CI[BII)I" } : Jvm.MethodName)).before a0 Z = true := hw _ (List.mem_of_getElem? (i := 130) rfl)
theorem w131 {a0 : Array Value} {Z : State} (hw : Hw a0 Z) : (Jvm.Cond.static ({ cls := "java/lang/StringUTF16", name := "compress", desc := "([CI[BII)I" } : Jvm.MethodName)).before a0 Z = true := hw _ (List.mem_of_getElem? (i := 131) rfl)
theorem w132 {a0 : Array Value} {Z : State} (hw : Hw a0 Z) : (Jvm.Cond.code ({ cls := "java/lang/StringUTF16", name := "compress", desc := "([CI[BII)I" } : Jvm.MethodName) jdk_52_method_21_code (7 : Nat) (Option.some Jvm.ClassFile.FieldType.int)).before a0 Z = true := hw _ (List.mem_of_getElem? (i := 132) rfl)
theorem w133 {a0 : Array Value} {Z : State} (hw : Hw a0 Z) : (Jvm.Cond.methodLink "java/lang/String" (47 : Nat) ({ cls := "java/lang/StringUTF16", name := "coderFromArrayLen", desc := "([BI)B" } : Jvm.MethodName)).before a0 Z = true := hw _ (List.mem_of_getElem? (i := 133) rfl)
theorem w134 {a0 : Array Value} {Z : State} (hw : Hw a0 Z) : (Jvm.Cond.static ({ cls := "java/lang/StringUTF16", name := "coderFromArrayLen", desc := "([BI)B" } : Jvm.MethodName)).before a0 Z = true := hw _ (List.mem_of_getElem? (i := 134) rfl)
theorem w135 {a0 : Array Value} {Z : State} (hw : Hw a0 Z) : (Jvm.Cond.code ({ cls := "java/lang/StringUTF16", name := "coderFromArrayLen", desc := "([BI)B" } : Jvm.MethodName) jdk_52_method_15_code (2 : Nat) (Option.some Jvm.ClassFile.FieldType.byte)).before a0 Z = true := hw _ (List.mem_of_getElem? (i := 135) rfl)
theorem w136 {a0 : Array Value} {Z : State} (hw : Hw a0 Z) : (Jvm.Cond.fieldLink "com/example/object_grants/objectgrants/field/GroupGrantOfPinLaw" (31 : Nat) "com/example/object_grants/objectgrants/field/Access" "DENIED" "Lcom/example/object_grants/objectgrants/field/Access;").before a0 Z = true := hw _ (List.mem_of_getElem? (i := 136) rfl)
theorem w137 {a0 : Array Value} {Z : State} (hw : Hw a0 Z) : (Jvm.Cond.laysStatic "com/example/object_grants/objectgrants/field/Access" "DENIED" "Lcom/example/object_grants/objectgrants/field/Access;").before a0 Z = true := hw _ (List.mem_of_getElem? (i := 137) rfl)
theorem e0_0 : decode jdk_42_method_139_code 0 = .ok (.getstatic 38, 3) := by decide +kernel
theorem e0_3 : decode jdk_42_method_139_code 3 = .ok (.ifCond .eq 23, 3) := by decide +kernel
theorem e0_6 : decode jdk_42_method_139_code 6 = .ok (.iload_n 0, 1) := by decide +kernel
theorem e0_7 : decode jdk_42_method_139_code 7 = .ok (.invokestatic 1015, 3) := by decide +kernel
theorem e1_0 : decode jdk_43_method_3_code 0 = .ok (.iload_n 0, 1) := by decide +kernel
theorem e1_1 : decode jdk_43_method_3_code 1 = .ok (.sipush 255, 3) := by decide +kernel
theorem e1_4 : decode jdk_43_method_3_code 4 = .ok (.if_icmp .gt 7, 3) := by decide +kernel
theorem e1_7 : decode jdk_43_method_3_code 7 = .ok (.iconst 1, 1) := by decide +kernel
theorem e1_8 : decode jdk_43_method_3_code 8 = .ok (.goto 4, 3) := by decide +kernel
theorem e1_12 : decode jdk_43_method_3_code 12 = .ok (.ireturn, 1) := by decide +kernel
theorem e0_10 : decode jdk_42_method_139_code 10 = .ok (.ifCond .eq 16, 3) := by decide +kernel
theorem e0_13 : decode jdk_42_method_139_code 13 = .ok (.new 10, 3) := by decide +kernel
theorem e0_16 : decode jdk_42_method_139_code 16 = .ok (.dup, 1) := by decide +kernel
theorem e0_17 : decode jdk_42_method_139_code 17 = .ok (.iload_n 0, 1) := by decide +kernel
theorem e0_18 : decode jdk_42_method_139_code 18 = .ok (.invokestatic 1018, 3) := by decide +kernel
theorem e2_0 : decode jdk_43_method_46_code 0 = .ok (.iconst 1, 1) := by decide +kernel
theorem e2_1 : decode jdk_43_method_46_code 1 = .ok (.newarray .byte, 2) := by decide +kernel
theorem e2_3 : decode jdk_43_method_46_code 3 = .ok (.dup, 1) := by decide +kernel
theorem e2_4 : decode jdk_43_method_46_code 4 = .ok (.iconst 0, 1) := by decide +kernel
theorem e2_5 : decode jdk_43_method_46_code 5 = .ok (.iload_n 0, 1) := by decide +kernel
theorem e2_6 : decode jdk_43_method_46_code 6 = .ok (.i2b, 1) := by decide +kernel
theorem e2_7 : decode jdk_43_method_46_code 7 = .ok (.bastore, 1) := by decide +kernel
theorem e2_8 : decode jdk_43_method_46_code 8 = .ok (.areturn, 1) := by decide +kernel
theorem e0_21 : decode jdk_42_method_139_code 21 = .ok (.iconst 0, 1) := by decide +kernel
theorem e0_22 : decode jdk_42_method_139_code 22 = .ok (.invokespecial 209, 3) := by decide +kernel
theorem e3_0 : decode jdk_42_method_151_code 0 = .ok (.aload_n 0, 1) := by decide +kernel
theorem e3_1 : decode jdk_42_method_151_code 1 = .ok (.invokespecial 1, 3) := by decide +kernel
theorem e3_4 : decode jdk_42_method_151_code 4 = .ok (.aload_n 0, 1) := by decide +kernel
theorem e3_5 : decode jdk_42_method_151_code 5 = .ok (.aload_n 1, 1) := by decide +kernel
theorem e3_6 : decode jdk_42_method_151_code 6 = .ok (.putfield 9, 3) := by decide +kernel
theorem e3_9 : decode jdk_42_method_151_code 9 = .ok (.aload_n 0, 1) := by decide +kernel
theorem e3_10 : decode jdk_42_method_151_code 10 = .ok (.iload_n 2, 1) := by decide +kernel
theorem e3_11 : decode jdk_42_method_151_code 11 = .ok (.putfield 15, 3) := by decide +kernel
theorem e3_14 : decode jdk_42_method_151_code 14 = .ok (.return_, 1) := by decide +kernel
theorem e0_25 : decode jdk_42_method_139_code 25 = .ok (.areturn, 1) := by decide +kernel
theorem e4_0 : decode prog_18_method_3_code 0 = .ok (.new 18, 3) := by decide +kernel
theorem e4_3 : decode prog_18_method_3_code 3 = .ok (.dup, 1) := by decide +kernel
theorem e4_4 : decode prog_18_method_3_code 4 = .ok (.getstatic 33, 3) := by decide +kernel
theorem e4_7 : decode prog_18_method_3_code 7 = .ok (.aload_n 0, 1) := by decide +kernel
theorem e4_8 : decode prog_18_method_3_code 8 = .ok (.invokespecial 30, 3) := by decide +kernel
theorem e5_0 : decode prog_18_method_1_code 0 = .ok (.aload_n 0, 1) := by decide +kernel
theorem e5_1 : decode prog_18_method_1_code 1 = .ok (.invokespecial 1, 3) := by decide +kernel
theorem e6_0 : decode jdk_30_method_1_code 0 = .ok (.aload_n 0, 1) := by decide +kernel
theorem e6_1 : decode jdk_30_method_1_code 1 = .ok (.invokespecial 1, 3) := by decide +kernel
theorem e6_4 : decode jdk_30_method_1_code 4 = .ok (.return_, 1) := by decide +kernel
theorem e5_4 : decode prog_18_method_1_code 4 = .ok (.aload_n 1, 1) := by decide +kernel
theorem e5_5 : decode prog_18_method_1_code 5 = .ok (.ldc 7, 2) := by decide +kernel
theorem e5_7 : decode prog_18_method_1_code 7 = .ok (.invokestatic 9, 3) := by decide +kernel
theorem e7_0 : decode jdk_31_method_11_code 0 = .ok (.aload_n 0, 1) := by decide +kernel
theorem e7_1 : decode jdk_31_method_11_code 1 = .ok (.ifnonnull 12, 3) := by decide +kernel
theorem e7_13 : decode jdk_31_method_11_code 13 = .ok (.aload_n 0, 1) := by decide +kernel
theorem e7_14 : decode jdk_31_method_11_code 14 = .ok (.areturn, 1) := by decide +kernel
theorem e5_10 : decode prog_18_method_1_code 10 = .ok (.pop, 1) := by decide +kernel
theorem e5_11 : decode prog_18_method_1_code 11 = .ok (.aload_n 2, 1) := by decide +kernel
theorem e5_12 : decode prog_18_method_1_code 12 = .ok (.ldc 15, 2) := by decide +kernel
theorem e5_14 : decode prog_18_method_1_code 14 = .ok (.invokestatic 9, 3) := by decide +kernel
theorem e5_17 : decode prog_18_method_1_code 17 = .ok (.pop, 1) := by decide +kernel
theorem e5_18 : decode prog_18_method_1_code 18 = .ok (.aload_n 0, 1) := by decide +kernel
theorem e5_19 : decode prog_18_method_1_code 19 = .ok (.aload_n 1, 1) := by decide +kernel
theorem e5_20 : decode prog_18_method_1_code 20 = .ok (.putfield 17, 3) := by decide +kernel
theorem e5_23 : decode prog_18_method_1_code 23 = .ok (.aload_n 0, 1) := by decide +kernel
theorem e5_24 : decode prog_18_method_1_code 24 = .ok (.aload_n 2, 1) := by decide +kernel
theorem e5_25 : decode prog_18_method_1_code 25 = .ok (.putfield 22, 3) := by decide +kernel
theorem e5_28 : decode prog_18_method_1_code 28 = .ok (.return_, 1) := by decide +kernel
theorem e4_11 : decode prog_18_method_3_code 11 = .ok (.areturn, 1) := by decide +kernel
theorem e8_0 : decode prog_30_method_2_code 0 = .ok (.new 20, 3) := by decide +kernel
theorem e8_3 : decode prog_30_method_2_code 3 = .ok (.dup, 1) := by decide +kernel
theorem e8_4 : decode prog_30_method_2_code 4 = .ok (.aload_n 0, 1) := by decide +kernel
theorem e8_5 : decode prog_30_method_2_code 5 = .ok (.aload_n 1, 1) := by decide +kernel
theorem e8_6 : decode prog_30_method_2_code 6 = .ok (.invokestatic 34, 3) := by decide +kernel
theorem e9_0 : decode jdk_32_method_1_code 0 = .ok (.getstatic 1, 3) := by decide +kernel
theorem e9_3 : decode jdk_32_method_1_code 3 = .ok (.astore_n 0, 1) := by decide +kernel
theorem e9_4 : decode jdk_32_method_1_code 4 = .ok (.aload_n 0, 1) := by decide +kernel
theorem e9_5 : decode jdk_32_method_1_code 5 = .ok (.areturn, 1) := by decide +kernel
theorem e8_9 : decode prog_30_method_2_code 9 = .ok (.iconst 0, 1) := by decide +kernel
theorem e8_10 : decode prog_30_method_2_code 10 = .ok (.invokespecial 40, 3) := by decide +kernel
theorem e10_0 : decode prog_30_method_1_code 0 = .ok (.aload_n 0, 1) := by decide +kernel
theorem e10_1 : decode prog_30_method_1_code 1 = .ok (.invokespecial 1, 3) := by decide +kernel
theorem e10_4 : decode prog_30_method_1_code 4 = .ok (.aload_n 1, 1) := by decide +kernel
theorem e10_5 : decode prog_30_method_1_code 5 = .ok (.ldc 7, 2) := by decide +kernel
theorem e10_7 : decode prog_30_method_1_code 7 = .ok (.invokestatic 9, 3) := by decide +kernel
theorem e10_10 : decode prog_30_method_1_code 10 = .ok (.pop, 1) := by decide +kernel
theorem e10_11 : decode prog_30_method_1_code 11 = .ok (.aload_n 2, 1) := by decide +kernel
theorem e10_12 : decode prog_30_method_1_code 12 = .ok (.ldc 15, 2) := by decide +kernel
theorem e10_14 : decode prog_30_method_1_code 14 = .ok (.invokestatic 9, 3) := by decide +kernel
theorem e10_17 : decode prog_30_method_1_code 17 = .ok (.pop, 1) := by decide +kernel
theorem e10_18 : decode prog_30_method_1_code 18 = .ok (.aload_n 3, 1) := by decide +kernel
theorem e10_19 : decode prog_30_method_1_code 19 = .ok (.ldc 17, 2) := by decide +kernel
theorem e10_21 : decode prog_30_method_1_code 21 = .ok (.invokestatic 9, 3) := by decide +kernel
theorem e10_24 : decode prog_30_method_1_code 24 = .ok (.pop, 1) := by decide +kernel
theorem e10_25 : decode prog_30_method_1_code 25 = .ok (.aload_n 0, 1) := by decide +kernel
theorem e10_26 : decode prog_30_method_1_code 26 = .ok (.aload_n 1, 1) := by decide +kernel
theorem e10_27 : decode prog_30_method_1_code 27 = .ok (.putfield 19, 3) := by decide +kernel
theorem e10_30 : decode prog_30_method_1_code 30 = .ok (.aload_n 0, 1) := by decide +kernel
theorem e10_31 : decode prog_30_method_1_code 31 = .ok (.aload_n 2, 1) := by decide +kernel
theorem e10_32 : decode prog_30_method_1_code 32 = .ok (.putfield 24, 3) := by decide +kernel
theorem e10_35 : decode prog_30_method_1_code 35 = .ok (.aload_n 0, 1) := by decide +kernel
theorem e10_36 : decode prog_30_method_1_code 36 = .ok (.aload_n 3, 1) := by decide +kernel
theorem e10_37 : decode prog_30_method_1_code 37 = .ok (.putfield 27, 3) := by decide +kernel
theorem e10_40 : decode prog_30_method_1_code 40 = .ok (.aload_n 0, 1) := by decide +kernel
theorem e10_41 : decode prog_30_method_1_code 41 = .ok (.iload 4, 2) := by decide +kernel
theorem e10_43 : decode prog_30_method_1_code 43 = .ok (.putfield 30, 3) := by decide +kernel
theorem e10_46 : decode prog_30_method_1_code 46 = .ok (.return_, 1) := by decide +kernel
theorem e8_13 : decode prog_30_method_2_code 13 = .ok (.areturn, 1) := by decide +kernel
theorem e11_0 : decode prog_30_method_8_code 0 = .ok (.aload_n 0, 1) := by decide +kernel
theorem e11_1 : decode prog_30_method_8_code 1 = .ok (.getfield 19, 3) := by decide +kernel
theorem e11_4 : decode prog_30_method_8_code 4 = .ok (.areturn, 1) := by decide +kernel
theorem e12_0 : decode prog_30_method_9_code 0 = .ok (.aload_n 0, 1) := by decide +kernel
theorem e12_1 : decode prog_30_method_9_code 1 = .ok (.getfield 24, 3) := by decide +kernel
theorem e12_4 : decode prog_30_method_9_code 4 = .ok (.areturn, 1) := by decide +kernel
theorem e13_0 : decode prog_30_method_10_code 0 = .ok (.aload_n 0, 1) := by decide +kernel
theorem e13_1 : decode prog_30_method_10_code 1 = .ok (.getfield 27, 3) := by decide +kernel
theorem e13_4 : decode prog_30_method_10_code 4 = .ok (.areturn, 1) := by decide +kernel
theorem e14_0 : decode jdk_32_method_7_code 0 = .ok (.aload_n 0, 1) := by decide +kernel
theorem e14_1 : decode jdk_32_method_7_code 1 = .ok (.getfield 13, 3) := by decide +kernel
theorem e14_4 : decode jdk_32_method_7_code 4 = .ok (.ifnonnull 7, 3) := by decide +kernel
theorem e14_7 : decode jdk_32_method_7_code 7 = .ok (.iconst 1, 1) := by decide +kernel
theorem e14_8 : decode jdk_32_method_7_code 8 = .ok (.goto 4, 3) := by decide +kernel
theorem e14_12 : decode jdk_32_method_7_code 12 = .ok (.ireturn, 1) := by decide +kernel
theorem e15_0 : decode prog_30_method_11_code 0 = .ok (.aload_n 0, 1) := by decide +kernel
theorem e15_1 : decode prog_30_method_11_code 1 = .ok (.getfield 30, 3) := by decide +kernel
theorem e15_4 : decode prog_30_method_11_code 4 = .ok (.ireturn, 1) := by decide +kernel
theorem e16_0 : decode prog_18_method_2_code 0 = .ok (.new 18, 3) := by decide +kernel
theorem e16_3 : decode prog_18_method_2_code 3 = .ok (.dup, 1) := by decide +kernel
theorem e16_4 : decode prog_18_method_2_code 4 = .ok (.getstatic 25, 3) := by decide +kernel
theorem e16_7 : decode prog_18_method_2_code 7 = .ok (.aload_n 0, 1) := by decide +kernel
theorem e16_8 : decode prog_18_method_2_code 8 = .ok (.invokespecial 30, 3) := by decide +kernel
theorem e16_11 : decode prog_18_method_2_code 11 = .ok (.areturn, 1) := by decide +kernel
theorem e17_0 : decode jdk_42_method_3_code 0 = .ok (.aload_n 0, 1) := by decide +kernel
theorem e17_1 : decode jdk_42_method_3_code 1 = .ok (.aload_n 1, 1) := by decide +kernel
theorem e17_2 : decode jdk_42_method_3_code 2 = .ok (.iconst 0, 1) := by decide +kernel
theorem e17_3 : decode jdk_42_method_3_code 3 = .ok (.aload_n 1, 1) := by decide +kernel
theorem e17_4 : decode jdk_42_method_3_code 4 = .ok (.arraylength, 1) := by decide +kernel
theorem e17_5 : decode jdk_42_method_3_code 5 = .ok (.aconst_null, 1) := by decide +kernel
theorem e17_6 : decode jdk_42_method_3_code 6 = .ok (.invokespecial 27, 3) := by decide +kernel
theorem e18_0 : decode jdk_42_method_149_code 0 = .ok (.aload_n 0, 1) := by decide +kernel
theorem e18_1 : decode jdk_42_method_149_code 1 = .ok (.invokespecial 1, 3) := by decide +kernel
theorem e18_4 : decode jdk_42_method_149_code 4 = .ok (.iload_n 3, 1) := by decide +kernel
theorem e18_5 : decode jdk_42_method_149_code 5 = .ok (.ifCond .ne 22, 3) := by decide +kernel
theorem e18_27 : decode jdk_42_method_149_code 27 = .ok (.getstatic 38, 3) := by decide +kernel
theorem e18_30 : decode jdk_42_method_149_code 30 = .ok (.ifCond .eq 28, 3) := by decide +kernel
theorem e18_33 : decode jdk_42_method_149_code 33 = .ok (.aload_n 1, 1) := by decide +kernel
theorem e18_34 : decode jdk_42_method_149_code 34 = .ok (.iload_n 2, 1) := by decide +kernel
theorem e18_35 : decode jdk_42_method_149_code 35 = .ok (.iload_n 3, 1) := by decide +kernel
theorem e18_36 : decode jdk_42_method_149_code 36 = .ok (.invokestatic 177, 3) := by decide +kernel
theorem e19_0 : decode jdk_52_method_16_code 0 = .ok (.iload_n 2, 1) := by decide +kernel
theorem e19_1 : decode jdk_52_method_16_code 1 = .ok (.newarray .byte, 2) := by decide +kernel
theorem e19_3 : decode jdk_52_method_16_code 3 = .ok (.astore_n 3, 1) := by decide +kernel
theorem e19_4 : decode jdk_52_method_16_code 4 = .ok (.aload_n 0, 1) := by decide +kernel
theorem e19_5 : decode jdk_52_method_16_code 5 = .ok (.iload_n 1, 1) := by decide +kernel
theorem e19_6 : decode jdk_52_method_16_code 6 = .ok (.aload_n 3, 1) := by decide +kernel
theorem e19_7 : decode jdk_52_method_16_code 7 = .ok (.iconst 0, 1) := by decide +kernel
theorem e19_8 : decode jdk_52_method_16_code 8 = .ok (.iload_n 2, 1) := by decide +kernel
theorem e19_9 : decode jdk_52_method_16_code 9 = .ok (.invokestatic 115, 3) := by decide +kernel
theorem e20_0 : decode jdk_52_method_21_code 0 = .ok (.iconst 0, 1) := by decide +kernel
theorem e20_1 : decode jdk_52_method_21_code 1 = .ok (.istore 5, 2) := by decide +kernel
theorem e20_3 : decode jdk_52_method_21_code 3 = .ok (.iload 5, 2) := by decide +kernel
theorem e20_5 : decode jdk_52_method_21_code 5 = .ok (.iload 4, 2) := by decide +kernel
theorem e20_7 : decode jdk_52_method_21_code 7 = .ok (.if_icmp .ge 37, 3) := by decide +kernel
theorem e20_10 : decode jdk_52_method_21_code 10 = .ok (.aload_n 0, 1) := by decide +kernel
theorem e20_11 : decode jdk_52_method_21_code 11 = .ok (.iload_n 1, 1) := by decide +kernel
theorem e20_12 : decode jdk_52_method_21_code 12 = .ok (.caload, 1) := by decide +kernel
theorem e20_13 : decode jdk_52_method_21_code 13 = .ok (.istore 6, 2) := by decide +kernel
theorem e20_15 : decode jdk_52_method_21_code 15 = .ok (.iload 6, 2) := by decide +kernel
theorem e20_17 : decode jdk_52_method_21_code 17 = .ok (.sipush 255, 3) := by decide +kernel
theorem e20_20 : decode jdk_52_method_21_code 20 = .ok (.if_icmp .le 6, 3) := by decide +kernel
theorem e20_26 : decode jdk_52_method_21_code 26 = .ok (.aload_n 2, 1) := by decide +kernel
theorem e20_27 : decode jdk_52_method_21_code 27 = .ok (.iload_n 3, 1) := by decide +kernel
theorem e20_28 : decode jdk_52_method_21_code 28 = .ok (.iload 6, 2) := by decide +kernel
theorem e20_30 : decode jdk_52_method_21_code 30 = .ok (.i2b, 1) := by decide +kernel
theorem e20_31 : decode jdk_52_method_21_code 31 = .ok (.bastore, 1) := by decide +kernel
theorem e20_32 : decode jdk_52_method_21_code 32 = .ok (.iinc 1 1, 3) := by decide +kernel
theorem e20_35 : decode jdk_52_method_21_code 35 = .ok (.iinc 3 1, 3) := by decide +kernel
theorem e20_38 : decode jdk_52_method_21_code 38 = .ok (.iinc 5 1, 3) := by decide +kernel
theorem e20_41 : decode jdk_52_method_21_code 41 = .ok (.goto (-38), 3) := by decide +kernel
theorem e20_44 : decode jdk_52_method_21_code 44 = .ok (.iload 4, 2) := by decide +kernel
theorem e20_46 : decode jdk_52_method_21_code 46 = .ok (.ireturn, 1) := by decide +kernel
theorem e19_12 : decode jdk_52_method_16_code 12 = .ok (.istore 4, 2) := by decide +kernel
theorem e19_14 : decode jdk_52_method_16_code 14 = .ok (.iload 4, 2) := by decide +kernel
theorem e19_16 : decode jdk_52_method_16_code 16 = .ok (.iload_n 2, 1) := by decide +kernel
theorem e19_17 : decode jdk_52_method_16_code 17 = .ok (.if_icmp .eq 40, 3) := by decide +kernel
theorem e19_57 : decode jdk_52_method_16_code 57 = .ok (.aload_n 3, 1) := by decide +kernel
theorem e19_58 : decode jdk_52_method_16_code 58 = .ok (.areturn, 1) := by decide +kernel
theorem e18_39 : decode jdk_42_method_149_code 39 = .ok (.astore 5, 2) := by decide +kernel
theorem e18_41 : decode jdk_42_method_149_code 41 = .ok (.aload_n 0, 1) := by decide +kernel
theorem e18_42 : decode jdk_42_method_149_code 42 = .ok (.aload 5, 2) := by decide +kernel
theorem e18_44 : decode jdk_42_method_149_code 44 = .ok (.iload_n 3, 1) := by decide +kernel
theorem e18_45 : decode jdk_42_method_149_code 45 = .ok (.invokestatic 47, 3) := by decide +kernel
theorem e21_0 : decode jdk_52_method_15_code 0 = .ok (.iload_n 1, 1) := by decide +kernel
theorem e21_1 : decode jdk_52_method_15_code 1 = .ok (.aload_n 0, 1) := by decide +kernel
theorem e21_2 : decode jdk_52_method_15_code 2 = .ok (.arraylength, 1) := by decide +kernel
theorem e21_3 : decode jdk_52_method_15_code 3 = .ok (.isub, 1) := by decide +kernel
theorem e21_4 : decode jdk_52_method_15_code 4 = .ok (.bipush 31, 2) := by decide +kernel
theorem e21_6 : decode jdk_52_method_15_code 6 = .ok (.iushr, 1) := by decide +kernel
theorem e21_7 : decode jdk_52_method_15_code 7 = .ok (.i2b, 1) := by decide +kernel
theorem e21_8 : decode jdk_52_method_15_code 8 = .ok (.ireturn, 1) := by decide +kernel
theorem e18_48 : decode jdk_42_method_149_code 48 = .ok (.putfield 15, 3) := by decide +kernel
theorem e18_51 : decode jdk_42_method_149_code 51 = .ok (.aload_n 0, 1) := by decide +kernel
theorem e18_52 : decode jdk_42_method_149_code 52 = .ok (.aload 5, 2) := by decide +kernel
theorem e18_54 : decode jdk_42_method_149_code 54 = .ok (.putfield 9, 3) := by decide +kernel
theorem e18_57 : decode jdk_42_method_149_code 57 = .ok (.return_, 1) := by decide +kernel
theorem e17_9 : decode jdk_42_method_3_code 9 = .ok (.return_, 1) := by decide +kernel
theorem pd0 : parseMethodDescriptor "(C)Z" = some ⟨[.char], (some .boolean)⟩ := by decide +kernel
theorem pd1 : parseMethodDescriptor "(C)[B" = some ⟨[.char], (some (.array .byte))⟩ := by decide +kernel
theorem pd2 : parseMethodDescriptor "([BB)V" = some ⟨[(.array .byte), .byte], none⟩ := by decide +kernel
theorem pd3 : parseMethodDescriptor "(C)Ljava/lang/String;" = some ⟨[.char], (some (.object "java/lang/String"))⟩ := by decide +kernel
theorem pd4 : parseMethodDescriptor "()V" = some ⟨[], none⟩ := by decide +kernel
theorem pd5 : parseMethodDescriptor "(Ljava/lang/Object;Ljava/lang/String;)Ljava/lang/Object;" = some ⟨[(.object "java/lang/Object"), (.object "java/lang/String")], (some (.object "java/lang/Object"))⟩ := by decide +kernel
theorem pd6 : parseMethodDescriptor "(Lcom/example/object_grants/objectgrants/accesslist/Recipient$Kind;Ljava/lang/String;)V" = some ⟨[(.object "com/example/object_grants/objectgrants/accesslist/Recipient$Kind"), (.object "java/lang/String")], none⟩ := by decide +kernel
theorem pd7 : parseMethodDescriptor "(Ljava/lang/String;)Lcom/example/object_grants/objectgrants/accesslist/Recipient;" = some ⟨[(.object "java/lang/String")], (some (.object "com/example/object_grants/objectgrants/accesslist/Recipient"))⟩ := by decide +kernel
theorem pd8 : parseMethodDescriptor "()Ljava/util/Optional;" = some ⟨[], (some (.object "java/util/Optional"))⟩ := by decide +kernel
theorem pd9 : parseMethodDescriptor "(Lcom/example/object_grants/objectgrants/accesslist/Recipient;Lcom/example/object_grants/objectgrants/field/Access;Ljava/util/Optional;Z)V" = some ⟨[(.object "com/example/object_grants/objectgrants/accesslist/Recipient"), (.object "com/example/object_grants/objectgrants/field/Access"), (.object "java/util/Optional"), .boolean], none⟩ := by decide +kernel
theorem pd10 : parseMethodDescriptor "(Lcom/example/object_grants/objectgrants/accesslist/Recipient;Lcom/example/object_grants/objectgrants/field/Access;)Lcom/example/object_grants/objectgrants/field/GroupGrant;" = some ⟨[(.object "com/example/object_grants/objectgrants/accesslist/Recipient"), (.object "com/example/object_grants/objectgrants/field/Access")], (some (.object "com/example/object_grants/objectgrants/field/GroupGrant"))⟩ := by decide +kernel
theorem pd11 : parseMethodDescriptor "()Lcom/example/object_grants/objectgrants/accesslist/Recipient;" = some ⟨[], (some (.object "com/example/object_grants/objectgrants/accesslist/Recipient"))⟩ := by decide +kernel
theorem pd12 : parseMethodDescriptor "()Lcom/example/object_grants/objectgrants/field/Access;" = some ⟨[], (some (.object "com/example/object_grants/objectgrants/field/Access"))⟩ := by decide +kernel
theorem pd13 : parseMethodDescriptor "()Z" = some ⟨[], (some .boolean)⟩ := by decide +kernel
theorem pd14 : parseMethodDescriptor "([CI[BII)I" = some ⟨[(.array .char), .int, (.array .byte), .int, .int], (some .int)⟩ := by decide +kernel
theorem pd15 : parseMethodDescriptor "([CII)[B" = some ⟨[(.array .char), .int, .int], (some (.array .byte))⟩ := by decide +kernel
theorem pd16 : parseMethodDescriptor "([BI)B" = some ⟨[(.array .byte), .int], (some .byte)⟩ := by decide +kernel
theorem pd17 : parseMethodDescriptor "([CIILjava/lang/Void;)V" = some ⟨[(.array .char), .int, .int, (.object "java/lang/Void")], none⟩ := by decide +kernel
theorem pd18 : parseMethodDescriptor "([C)V" = some ⟨[(.array .char)], none⟩ := by decide +kernel
theorem pn0 : plainName "java/lang/String" = true := by first | (simp [plainName, overriddenIn]; done) | decide +kernel
theorem pn1 : plainName "java/lang/StringLatin1" = true := by first | (simp [plainName, overriddenIn]; done) | decide +kernel
theorem pn2 : plainName "com/example/object_grants/objectgrants/accesslist/Recipient" = true := by first | (simp [plainName, overriddenIn]; done) | decide +kernel
theorem pn3 : plainName "java/lang/Record" = true := by first | (simp [plainName, overriddenIn]; done) | decide +kernel
theorem pn4 : plainName "java/util/Objects" = true := by first | (simp [plainName, overriddenIn]; done) | decide +kernel
theorem pn5 : plainName "com/example/object_grants/objectgrants/field/GroupGrant" = true := by first | (simp [plainName, overriddenIn]; done) | decide +kernel
theorem pn6 : plainName "java/util/Optional" = true := by first | (simp [plainName, overriddenIn]; done) | decide +kernel
theorem pn7 : plainName "java/lang/StringUTF16" = true := by first | (simp [plainName, overriddenIn]; done) | decide +kernel
theorem pn8 : plainName "com/example/object_grants/objectgrants/field/GroupGrantOfPinLaw" = true := by first | (simp [plainName, overriddenIn]; done) | decide +kernel
def GlS (Z : State) (u0 u1 u2 u3 u4 : Nat) : Prop := Sta Z Z.heap "com/example/object_grants/objectgrants/accesslist/Recipient$Kind" "AUTHORITY" "Lcom/example/object_grants/objectgrants/accesslist/Recipient$Kind;" (.ref u0) ∧ Exa Z Z.heap u0 "com/example/object_grants/objectgrants/accesslist/Recipient$Kind" ∧ Sta Z Z.heap "com/example/object_grants/objectgrants/field/Access" "GRANTED" "Lcom/example/object_grants/objectgrants/field/Access;" (.ref u1) ∧ Exa Z Z.heap u1 "com/example/object_grants/objectgrants/field/Access" ∧ Sta Z Z.heap "com/example/object_grants/objectgrants/accesslist/Recipient$Kind" "PRINCIPAL" "Lcom/example/object_grants/objectgrants/accesslist/Recipient$Kind;" (.ref u2) ∧ Exa Z Z.heap u2 "com/example/object_grants/objectgrants/accesslist/Recipient$Kind" ∧ Sta Z Z.heap "com/example/object_grants/objectgrants/field/Access" "DENIED" "Lcom/example/object_grants/objectgrants/field/Access;" (.ref u3) ∧ Exa Z Z.heap u3 "com/example/object_grants/objectgrants/field/Access" ∧ Sta Z Z.heap "java/util/Optional" "EMPTY" "Ljava/util/Optional;" (.ref u4) ∧ Exa Z Z.heap u4 "java/util/Optional" ∧ Fld Z Z.heap u4 "java/util/Optional" "value" "Ljava/lang/Object;" .null
theorem hEW {a0 : Array Value} {Z : State} (hw : Hw a0 Z) : EW Z a0 EL1 := EW.nil
theorem hSA {a0 : Array Value} {Z : State} (hw : Hw a0 Z) : ∀ w ∈ Bundle.stringAtoms, w.before a0 Z = true := by
  intro w hq
  simp only [Bundle.stringAtoms, List.mem_cons, List.not_mem_nil, or_false] at hq
  rcases hq with rfl | rfl | rfl | rfl | rfl | rfl | rfl
  · exact (w2 hw)
  · exact (w10 hw)
  · exact (w14 hw)
  · exact (w23 hw)
  · exact (w25 hw)
  · exact (w45 hw)
  · exact (w46 hw)

set_option maxRecDepth 65536 in
set_option maxHeartbeats 40000000 in
theorem con_canEncode_1 {l : Launch} {Z : State} {n0 : Nat} {a0 : Array Value} {cz : Int32} {sf : Value} (hw : Hw a0 Z) (G : Ow.Glo Z cz sf) {u0 u1 u2 u3 u4 : Nat} (GS : GlS Z u0 u1 u2 u3 u4) {px0 : Int32} {h0 : Heap} (O0 : Old Z n0 h0) (hk0 : ¬ ((255 : Int32) < px0)) (hc_px0 : nar .char px0 = px0) :
    Ow.Con l Z EL1 n0 my0 jdk_43_method_3_code 1 (Option.some Jvm.ClassFile.FieldType.boolean) [] ({ frames := 0, cells := 0, slots := 0, locals := 0 } : Room) #[(.int px0)] [] h0 (fun v h S' => (v = some (.int (1 : Int32)) ∧ h = h0 ∧ S' = [])) := by
  refine Ow.Con.enter (Ls := #[.val (.int px0)]) (plainFor_of_name pn1) O0 (hEW hw) (hSA hw) ?_
  intro p e s m below meth c B
  have z0 := Ow.old_le O0
  have lu0 : (u0 : Nat) < n0 := O0.1 ▸ GS.2.1.lt
  have lu1 : (u1 : Nat) < n0 := O0.1 ▸ GS.2.2.2.1.lt
  have lu2 : (u2 : Nat) < n0 := O0.1 ▸ GS.2.2.2.2.2.1.lt
  have lu3 : (u3 : Nat) < n0 := O0.1 ▸ GS.2.2.2.2.2.2.2.1.lt
  have lu4 : (u4 : Nat) < n0 := O0.1 ▸ GS.2.2.2.2.2.2.2.2.2.1.lt
  refine Ow.iloadN (pc' := 1) B e1_0 ?_
  refine Ow.sipush (pc' := 4) (x := (255 : Int32)) B e1_1 ?_
  refine Ow.icmpF (pc' := 7) B e1_4 (flt (hk0)).2.2.1 ?_
  refine Ow.iconst (pc' := 8) (x := (1 : Int32)) B e1_7 ?_
  refine Ow.goto (pc' := 12) B e1_8 ?_
  exact Ow.retI (S' := []) (t := .boolean) B e1_12 (⟨rfl, rfl, rfl⟩)
set_option maxRecDepth 65536 in
set_option maxHeartbeats 40000000 in
theorem con_toBytes_2 {l : Launch} {Z : State} {n0 : Nat} {a0 : Array Value} {cz : Int32} {sf : Value} (hw : Hw a0 Z) (G : Ow.Glo Z cz sf) {u0 u1 u2 u3 u4 : Nat} (GS : GlS Z u0 u1 u2 u3 u4) {px0 : Int32} {h0 : Heap} (O0 : Old Z n0 h0) (hc_px0 : nar .char px0 = px0) :
    Ow.Con l Z EL1 n0 my1 jdk_43_method_46_code 1 (Option.some (Jvm.ClassFile.FieldType.array Jvm.ClassFile.FieldType.byte)) [] ({ frames := 0, cells := 1, slots := 1, locals := 0 } : Room) #[(.int px0)] [] h0 (fun v h S' => (∃ r0 : Nat, ∃ k0 : ClassId, v = some (.ref r0) ∧ Keep h0 h [] ∧ h0.size ≤ r0 ∧ Arv Z h r0 k0 .byte (1 : Int32) [(.int px0.toInt8.toInt32)] (.int 0) ∧ S' = [r0])) := by
  refine Ow.Con.enter (Ls := #[.val (.int px0)]) (plainFor_of_name pn1) O0 (hEW hw) (hSA hw) ?_
  intro p e s m below meth c B
  have z0 := Ow.old_le O0
  have lu0 : (u0 : Nat) < n0 := O0.1 ▸ GS.2.1.lt
  have lu1 : (u1 : Nat) < n0 := O0.1 ▸ GS.2.2.2.1.lt
  have lu2 : (u2 : Nat) < n0 := O0.1 ▸ GS.2.2.2.2.2.1.lt
  have lu3 : (u3 : Nat) < n0 := O0.1 ▸ GS.2.2.2.2.2.2.2.1.lt
  have lu4 : (u4 : Nat) < n0 := O0.1 ▸ GS.2.2.2.2.2.2.2.2.2.1.lt
  refine Ow.iconst (pc' := 1) (x := (1 : Int32)) B e2_0 ?_
  refine Ow.newArr (pc' := 3) (k' := 1) (n' := 1) (cap := 1) B e2_1 (w14 hw) (by decide) (by decide) ?_
  intro h2 a1 ka1 ga1 ba1 Kh2 V0a1
  have zh2 := Kh2.1
  have la1 : (a1 : Nat) < h2.size := V0a1.lt
  have Va1 : Arv Z h2 a1 ka1 .byte (1 : Int32) [(.int 0)] (.int 0) := V0a1.pad (pad_rep [] (.int 0) 1)
  refine Ow.dup (pc' := 4) B e2_3 ?_
  refine Ow.iconst (pc' := 5) (x := (0 : Int32)) B e2_4 ?_
  refine Ow.iloadN (pc' := 6) B e2_5 ?_
  refine Ow.i2b (pc' := 7) (z := px0.toInt8.toInt32) B e2_6 ?_
  refine Ow.bastore (pc' := 8) (i := 0) B e2_7 Va1 ⟨by decide, by decide⟩ (by simp) ?_
  intro h3 Kh3 V0h3
  have zh3 := Kh3.1
  have V4 : Arv Z h3 a1 ka1 .byte (1 : Int32) [(.int px0.toInt8.toInt32)] (.int 0) := (by have e0 := V0h3; rw [show nar .byte px0.toInt8.toInt32 = px0.toInt8.toInt32 from Ow.nar_b _] at e0; exact e0)
  exact Ow.retA (S' := [a1]) (t := (.array .byte)) B e2_8 (⟨a1, ka1, rfl, (((Keep.refl _ []).trans Kh2 (fun _ q => nomatch q)).trans Kh3 (allS (Or.inr (by omega)) all0)), (by omega), V4, rfl⟩)
set_option maxRecDepth 65536 in
set_option maxHeartbeats 40000000 in
theorem con_init_3 {l : Launch} {Z : State} {n0 : Nat} {a0 : Array Value} {cz : Int32} {sf : Value} (hw : Hw a0 Z) (G : Ow.Glo Z cz sf) {u0 u1 u2 u3 u4 : Nat} (GS : GlS Z u0 u1 u2 u3 u4) {pa0 : Nat} {pa1 : Nat} {h0 : Heap} (O0 : Old Z n0 h0) (hf0 : Exa Z h0 pa0 "java/lang/String") (hf1 : Fld Z h0 pa0 "java/lang/String" "coder" "B" (.int (0 : Int32))) (hf2 : Fld Z h0 pa0 "java/lang/String" "value" "[B" .null) (hn0 : n0 ≤ pa0) :
    Ow.Con l Z EL1 n0 my2 jdk_42_method_151_code 3 (Option.none : Option Jvm.ClassFile.FieldType) [] ({ frames := 1, cells := 0, slots := 0, locals := 12 } : Room) #[(.ref pa0), (.ref pa1), (.int (0 : Int32))] [pa0] h0 (fun v h S' => (v = none ∧ Keep h0 h [pa0] ∧ Exa Z h pa0 "java/lang/String" ∧ Fld Z h pa0 "java/lang/String" "coder" "B" (.int (0 : Int32)) ∧ Fld Z h pa0 "java/lang/String" "value" "[B" (.ref pa1) ∧ S' = [])) := by
  refine Ow.Con.enter (Ls := #[.val (.ref pa0), .val (.ref pa1), .val (.int (0 : Int32))]) (plainFor_of_name pn0) O0 (hEW hw) (hSA hw) ?_
  intro p e s m below meth c B
  have z0 := Ow.old_le O0
  have lu0 : (u0 : Nat) < n0 := O0.1 ▸ GS.2.1.lt
  have lu1 : (u1 : Nat) < n0 := O0.1 ▸ GS.2.2.2.1.lt
  have lu2 : (u2 : Nat) < n0 := O0.1 ▸ GS.2.2.2.2.2.1.lt
  have lu3 : (u3 : Nat) < n0 := O0.1 ▸ GS.2.2.2.2.2.2.2.1.lt
  have lu4 : (u4 : Nat) < n0 := O0.1 ▸ GS.2.2.2.2.2.2.2.2.2.1.lt
  have lpa0 : (pa0 : Nat) < h0.size := hf0.lt
  refine Ow.aloadN (pc' := 1) B e3_0 ?_
  refine Ow.objInit (pc' := 4) (W := 0) B e3_1 (w19 hw) (w20 hw) (w21 hw) ?_
  refine Ow.aloadN (pc' := 5) B e3_4 ?_
  refine Ow.aloadN (pc' := 6) B e3_5 ?_
  refine Ow.putfield (pc' := 9) (ty := (.array .byte)) B e3_6 (w22 hw) Via.refl hf2 hf0 (Or.inr ⟨(w23 hw), rfl, rfl⟩) (w10 hw) (Or.inl (by simp)) ?_
  intro h1 Wh1
  have Kh1 := Keep.of_wr Wh1
  have zh1 := Kh1.1
  have f2 : Fld Z h1 pa0 "java/lang/String" "value" "[B" (.ref pa1) := hf2.same Wh1
  have f3 : Fld Z h1 pa0 "java/lang/String" "coder" "B" (.int (0 : Int32)) := hf1.other Wh1 (Or.inr (slot_ne (a0 := a0) (C := "java/lang/String") (t := .byte) (t' := (.array .byte)) (Or.inr (w25 hw)) (Or.inr (w23 hw)) (by decide) (by decide) (by decide)))
  refine Ow.aloadN (pc' := 10) B e3_9 ?_
  refine Ow.iloadN (pc' := 11) B e3_10 ?_
  have f4 := hf0.keep Kh1
  refine Ow.putfield (pc' := 14) (ty := .byte) B e3_11 (w24 hw) Via.refl f3 f4 (Or.inr ⟨(w25 hw), rfl, rfl⟩) (w10 hw) (Or.inl (by simp)) ?_
  intro h5 Wh5
  have Kh5 := Keep.of_wr Wh5
  have zh5 := Kh5.1
  have f6 : Fld Z h5 pa0 "java/lang/String" "coder" "B" (.int (0 : Int32)) := f3.same Wh5
  have f7 : Fld Z h5 pa0 "java/lang/String" "value" "[B" (.ref pa1) := f2.other Wh5 (Or.inr (slot_ne (a0 := a0) (C := "java/lang/String") (t := (.array .byte)) (t' := .byte) (Or.inr (w23 hw)) (Or.inr (w25 hw)) (by decide) (by decide) (by decide)))
  have f8 := f4.keep Kh5
  exact Ow.retV (S' := []) B e3_14 (⟨rfl, (((Keep.refl _ [pa0]).trans Kh1 (allS (Or.inl (by simp)) all0)).trans Kh5 (allS (Or.inl (by simp)) all0)), f8, f6, f7, rfl⟩)
set_option maxRecDepth 65536 in
set_option maxHeartbeats 40000000 in
theorem con_valueOf_4 {l : Launch} {Z : State} {n0 : Nat} {a0 : Array Value} {cz : Int32} {sf : Value} (hw : Hw a0 Z) (G : Ow.Glo Z cz sf) {u0 u1 u2 u3 u4 : Nat} (GS : GlS Z u0 u1 u2 u3 u4) {px0 : Int32} {h0 : Heap} (O0 : Old Z n0 h0) (hk0 : ¬ ((255 : Int32) < px0)) (hc_px0 : nar .char px0 = px0) :
    Ow.Con l Z EL1 n0 my3 jdk_42_method_139_code 1 (Option.some (Jvm.ClassFile.FieldType.object "java/lang/String")) [] ({ frames := 2, cells := 2, slots := 5, locals := 27 } : Room) #[(.int px0)] [] h0 (fun v h S' => (∃ r0 : Nat, ∃ r1 : Nat, ∃ k0 : ClassId, v = some (.ref r0) ∧ Keep h0 h [] ∧ h0.size ≤ r0 ∧ h0.size ≤ r1 ∧ r1 ≠ r0 ∧ Exa Z h r0 "java/lang/String" ∧ Fld Z h r0 "java/lang/String" "coder" "B" (.int (0 : Int32)) ∧ Fld Z h r0 "java/lang/String" "value" "[B" (.ref r1) ∧ Arv Z h r1 k0 .byte (1 : Int32) [(.int px0.toInt8.toInt32)] (.int 0) ∧ S' = [r1, r0])) := by
  refine Ow.Con.enter (Ls := #[.val (.int px0)]) (plainFor_of_name pn0) O0 (hEW hw) (hSA hw) ?_
  intro p e s m below meth c B
  have z0 := Ow.old_le O0
  have lu0 : (u0 : Nat) < n0 := O0.1 ▸ GS.2.1.lt
  have lu1 : (u1 : Nat) < n0 := O0.1 ▸ GS.2.2.2.1.lt
  have lu2 : (u2 : Nat) < n0 := O0.1 ▸ GS.2.2.2.2.2.1.lt
  have lu3 : (u3 : Nat) < n0 := O0.1 ▸ GS.2.2.2.2.2.2.2.1.lt
  have lu4 : (u4 : Nat) < n0 := O0.1 ▸ GS.2.2.2.2.2.2.2.2.2.1.lt
  refine Ow.getstatic (pc' := 3) B e0_0 (w4 hw) Via.refl G.1 ?_
  refine Ow.ifF (pc' := 6) B e0_3 (feq (G.2.1)).1 ?_
  refine Ow.iloadN (pc' := 7) B e0_6 ?_
  refine Ow.Go.old (fun o1 => ?_)
  refine Ow.callStatic (pc' := 10) (W := 0) (k' := 0) (n' := 0) (argsL := [(.int px0)]) (rest := []) B e0_7 (w5 hw) (w6 hw) (w7 hw) (w8 hw) (con_canEncode_1 hw G GS (px0 := px0) o1 (hk0) hc_px0) pd0 ?_
  intro vq2 h3 S4 q2 zh3
  obtain ⟨rfl, rfl, rfl⟩ := q2
  refine Ow.Go.norm (S' := []) (st' := [(.int (1 : Int32))]) (fun _ q => List.mem_append_right _ q) rfl ?_
  refine Ow.ifF (pc' := 13) B e0_10 (by decide) ?_
  refine Ow.newObj (pc' := 16) (k' := 1) (n' := 4) B e0_13 (w9 hw) (w10 hw) (w2 hw) ?_
  intro h6 a5 ga5 ba5 Kh6 Aa5 Da5
  have zh6 := Kh6.1
  have la5 : (a5 : Nat) < h6.size := Aa5.lt
  have f7 : Fld Z h6 a5 "java/lang/String" "value" "[B" .null := Da5 (Or.inr (w23 hw)) (ty := (.array .byte)) (by decide)
  have f8 : Fld Z h6 a5 "java/lang/String" "coder" "B" (.int 0) := Da5 (Or.inr (w25 hw)) (ty := .byte) (by decide)
  refine Ow.dup (pc' := 17) B e0_16 ?_
  refine Ow.iloadN (pc' := 18) B e0_17 ?_
  refine Ow.Go.old (fun o9 => ?_)
  refine Ow.callStatic (pc' := 21) (W := 2) (k' := 2) (n' := 5) (argsL := [(.int px0)]) (rest := [(.ref a5), (.ref a5)]) B e0_18 (w11 hw) (w12 hw) (w7 hw) (w13 hw) (con_toBytes_2 hw G GS (px0 := px0) o9 hc_px0) pd1 ?_
  intro vq10 h11 S12 q10 zh11
  obtain ⟨r13, k14, rfl, Kh11, br13, f15, rfl⟩ := q10
  have lr13 : (r13 : Nat) < h11.size := f15.lt
  refine Ow.Go.norm (S' := [r13, a5]) (st' := [(.ref r13), (.ref a5), (.ref a5)]) (fun _ q => q) rfl ?_
  refine Ow.iconst (pc' := 22) (x := (0 : Int32)) B e0_21 ?_
  refine Ow.Go.old (fun o16 => ?_)
  have f17 := Aa5.keep Kh11
  have f18 := f8.keep Kh11 Ow.nin0
  have f19 := f7.keep Kh11 Ow.nin0
  refine Ow.callInit (pc' := 25) (W := 1) (k' := 2) (n' := 5) (argsL := [(.ref r13), (.int (0 : Int32))]) (rest := [(.ref a5)]) B e0_22 (w15 hw) (w16 hw) (w2 hw) (w18 hw) (con_init_3 hw G GS (pa0 := a5) (pa1 := r13) o16 f17 f18 f19 (by omega)) pd2 ?_
  intro vq20 h21 S22 q20 zh21
  obtain ⟨rfl, Kh21, f23, f24, f25, rfl⟩ := q20
  refine Ow.Go.norm (S' := [r13, a5]) (st' := [(.ref a5)]) (fun _ q => List.mem_append_right _ q) rfl ?_
  have f26 := f15.keep Kh21 (Ow.ninS (by omega) Ow.nin0)
  exact Ow.retA (S' := [r13, a5]) (t := (.object "java/lang/String")) B e0_25 (⟨a5, r13, k14, rfl, ((((Keep.refl _ []).trans Kh6 (fun _ q => nomatch q)).trans Kh11 (fun _ q => nomatch q)).trans Kh21 (allS (Or.inr (by omega)) all0)), (by omega), (by omega), (by omega), f23, f24, f25, f26, rfl⟩)
set_option maxRecDepth 65536 in
set_option maxHeartbeats 40000000 in
theorem con_init_5 {l : Launch} {Z : State} {n0 : Nat} {a0 : Array Value} {cz : Int32} {sf : Value} (hw : Hw a0 Z) (G : Ow.Glo Z cz sf) {u0 u1 u2 u3 u4 : Nat} (GS : GlS Z u0 u1 u2 u3 u4) {pa0 : Nat} {h0 : Heap} (O0 : Old Z n0 h0) :
    Ow.Con l Z EL1 n0 my4 jdk_30_method_1_code 1 (Option.none : Option Jvm.ClassFile.FieldType) [] ({ frames := 1, cells := 0, slots := 0, locals := 12 } : Room) #[(.ref pa0)] [] h0 (fun v h S' => (v = none ∧ h = h0 ∧ S' = [])) := by
  refine Ow.Con.enter (Ls := #[.val (.ref pa0)]) (plainFor_of_name pn3) O0 (hEW hw) (hSA hw) ?_
  intro p e s m below meth c B
  have z0 := Ow.old_le O0
  have lu0 : (u0 : Nat) < n0 := O0.1 ▸ GS.2.1.lt
  have lu1 : (u1 : Nat) < n0 := O0.1 ▸ GS.2.2.2.1.lt
  have lu2 : (u2 : Nat) < n0 := O0.1 ▸ GS.2.2.2.2.2.1.lt
  have lu3 : (u3 : Nat) < n0 := O0.1 ▸ GS.2.2.2.2.2.2.2.1.lt
  have lu4 : (u4 : Nat) < n0 := O0.1 ▸ GS.2.2.2.2.2.2.2.2.2.1.lt
  refine Ow.aloadN (pc' := 1) B e6_0 ?_
  refine Ow.objInit (pc' := 4) (W := 0) B e6_1 (w43 hw) (w20 hw) (w21 hw) ?_
  exact Ow.retV (S' := []) B e6_4 (⟨rfl, rfl, rfl⟩)
set_option maxRecDepth 65536 in
set_option maxHeartbeats 40000000 in
theorem con_requireNonNull_6 {l : Launch} {Z : State} {n0 : Nat} {a0 : Array Value} {cz : Int32} {sf : Value} (hw : Hw a0 Z) (G : Ow.Glo Z cz sf) {u0 u1 u2 u3 u4 : Nat} (GS : GlS Z u0 u1 u2 u3 u4) {pa0 : Nat} {pa1 : Nat} {h0 : Heap} (O0 : Old Z n0 h0) :
    Ow.Con l Z EL1 n0 my5 jdk_31_method_11_code 2 (Option.some (Jvm.ClassFile.FieldType.object "java/lang/Object")) [] ({ frames := 0, cells := 0, slots := 0, locals := 0 } : Room) #[(.ref pa0), (.ref pa1)] [] h0 (fun v h S' => (v = some (.ref pa0) ∧ h = h0 ∧ S' = [])) := by
  refine Ow.Con.enter (Ls := #[.val (.ref pa0), .val (.ref pa1)]) (plainFor_of_name pn4) O0 (hEW hw) (hSA hw) ?_
  intro p e s m below meth c B
  have z0 := Ow.old_le O0
  have lu0 : (u0 : Nat) < n0 := O0.1 ▸ GS.2.1.lt
  have lu1 : (u1 : Nat) < n0 := O0.1 ▸ GS.2.2.2.1.lt
  have lu2 : (u2 : Nat) < n0 := O0.1 ▸ GS.2.2.2.2.2.1.lt
  have lu3 : (u3 : Nat) < n0 := O0.1 ▸ GS.2.2.2.2.2.2.2.1.lt
  have lu4 : (u4 : Nat) < n0 := O0.1 ▸ GS.2.2.2.2.2.2.2.2.2.1.lt
  refine Ow.aloadN (pc' := 1) B e7_0 ?_
  refine Ow.ifnonnullT (pc' := 13) B e7_1 ?_
  refine Ow.aloadN (pc' := 14) B e7_13 ?_
  exact Ow.retA (S' := []) (t := (.object "java/lang/Object")) B e7_14 (⟨rfl, rfl, rfl⟩)
set_option maxRecDepth 65536 in
set_option maxHeartbeats 40000000 in
theorem con_init_7 {l : Launch} {Z : State} {n0 : Nat} {a0 : Array Value} {cz : Int32} {sf : Value} (hw : Hw a0 Z) (G : Ow.Glo Z cz sf) {u0 u1 u2 u3 u4 : Nat} (GS : GlS Z u0 u1 u2 u3 u4) {pa0 : Nat} {pa1 : Nat} {pa2 : Nat} {h0 : Heap} (O0 : Old Z n0 h0) (hf0 : Exa Z h0 pa0 "com/example/object_grants/objectgrants/accesslist/Recipient") (hf1 : Fld Z h0 pa0 "com/example/object_grants/objectgrants/accesslist/Recipient" "kind" "Lcom/example/object_grants/objectgrants/accesslist/Recipient$Kind;" .null) (hf2 : Fld Z h0 pa0 "com/example/object_grants/objectgrants/accesslist/Recipient" "name" "Ljava/lang/String;" .null) (hn0 : n0 ≤ pa0) :
    Ow.Con l Z EL1 n0 my6 prog_18_method_1_code 3 (Option.none : Option Jvm.ClassFile.FieldType) [] ({ frames := 2, cells := 4, slots := 40, locals := 24 } : Room) #[(.ref pa0), (.ref pa1), (.ref pa2)] [] h0 (fun v h S' => (v = none ∧ Keep h0 h [pa0] ∧ Exa Z h pa0 "com/example/object_grants/objectgrants/accesslist/Recipient" ∧ Fld Z h pa0 "com/example/object_grants/objectgrants/accesslist/Recipient" "kind" "Lcom/example/object_grants/objectgrants/accesslist/Recipient$Kind;" (.ref pa1) ∧ Fld Z h pa0 "com/example/object_grants/objectgrants/accesslist/Recipient" "name" "Ljava/lang/String;" (.ref pa2) ∧ S' = [])) := by
  refine Ow.Con.enter (Ls := #[.val (.ref pa0), .val (.ref pa1), .val (.ref pa2)]) (plainFor_of_name pn2) O0 (hEW hw) (hSA hw) ?_
  intro p e s m below meth c B
  have z0 := Ow.old_le O0
  have lu0 : (u0 : Nat) < n0 := O0.1 ▸ GS.2.1.lt
  have lu1 : (u1 : Nat) < n0 := O0.1 ▸ GS.2.2.2.1.lt
  have lu2 : (u2 : Nat) < n0 := O0.1 ▸ GS.2.2.2.2.2.1.lt
  have lu3 : (u3 : Nat) < n0 := O0.1 ▸ GS.2.2.2.2.2.2.2.1.lt
  have lu4 : (u4 : Nat) < n0 := O0.1 ▸ GS.2.2.2.2.2.2.2.2.2.1.lt
  have lpa0 : (pa0 : Nat) < h0.size := hf0.lt
  refine Ow.aloadN (pc' := 1) B e5_0 ?_
  refine Ow.Go.old (fun o1 => ?_)
  refine Ow.callInit (pc' := 4) (W := 0) (k' := 0) (n' := 0) (argsL := []) (rest := []) B e5_1 (w38 hw) (w39 hw) (w41 hw) (w42 hw) (con_init_5 hw G GS (pa0 := pa0) o1) pd4 ?_
  intro vq2 h3 S4 q2 zh3
  obtain ⟨rfl, rfl, rfl⟩ := q2
  refine Ow.Go.norm (S' := []) (st' := []) (fun _ q => List.mem_append_right _ q) rfl ?_
  refine Ow.aloadN (pc' := 5) B e5_4 ?_
  refine Ow.ldcAny (pc' := 7) (k' := 2) (n' := 20) (nn := 16) B e5_5 (w44 hw) ?_
  intro h6 a5 Kh6
  have zh6 := Kh6.1
  refine Ow.Go.old (fun o7 => ?_)
  refine Ow.callStatic (pc' := 10) (W := 0) (k' := 2) (n' := 20) (argsL := [(.ref pa1), (.ref a5)]) (rest := []) B e5_7 (w47 hw) (w48 hw) (w49 hw) (w50 hw) (con_requireNonNull_6 hw G GS (pa0 := pa1) (pa1 := a5) o7) pd5 ?_
  intro vq8 h9 S10 q8 zh9
  obtain ⟨rfl, rfl, rfl⟩ := q8
  refine Ow.Go.norm (S' := []) (st' := [(.ref pa1)]) (fun _ q => List.mem_append_right _ q) rfl ?_
  refine Ow.pop (pc' := 11) B e5_10 ?_
  refine Ow.aloadN (pc' := 12) B e5_11 ?_
  refine Ow.ldcAny (pc' := 14) (k' := 4) (n' := 40) (nn := 16) B e5_12 (w51 hw) ?_
  intro h12 a11 Kh12
  have zh12 := Kh12.1
  refine Ow.Go.old (fun o13 => ?_)
  refine Ow.callStatic (pc' := 17) (W := 0) (k' := 4) (n' := 40) (argsL := [(.ref pa2), (.ref a11)]) (rest := []) B e5_14 (w47 hw) (w48 hw) (w49 hw) (w50 hw) (con_requireNonNull_6 hw G GS (pa0 := pa2) (pa1 := a11) o13) pd5 ?_
  intro vq14 h15 S16 q14 zh15
  obtain ⟨rfl, rfl, rfl⟩ := q14
  refine Ow.Go.norm (S' := []) (st' := [(.ref pa2)]) (fun _ q => List.mem_append_right _ q) rfl ?_
  refine Ow.pop (pc' := 18) B e5_17 ?_
  refine Ow.aloadN (pc' := 19) B e5_18 ?_
  refine Ow.aloadN (pc' := 20) B e5_19 ?_
  have f17 := hf1.keep Kh6 Ow.nin0
  have f18 := f17.keep Kh12 Ow.nin0
  have f19 := hf0.keep Kh6
  have f20 := f19.keep Kh12
  refine Ow.putfield (pc' := 23) (ty := (.object "com/example/object_grants/objectgrants/accesslist/Recipient$Kind")) B e5_20 (w52 hw) Via.refl f18 f20 (Or.inr ⟨(w53 hw), rfl, rfl⟩) (w31 hw) (Or.inr ⟨by decide, by decide⟩) ?_
  intro h21 Wh21
  have f22 := hf2.keep Kh6 Ow.nin0
  have f23 := f22.keep Kh12 Ow.nin0
  have Kh21 := Keep.of_wr Wh21
  have zh21 := Kh21.1
  have f24 : Fld Z h21 pa0 "com/example/object_grants/objectgrants/accesslist/Recipient" "kind" "Lcom/example/object_grants/objectgrants/accesslist/Recipient$Kind;" (.ref pa1) := f18.same Wh21
  have f25 : Fld Z h21 pa0 "com/example/object_grants/objectgrants/accesslist/Recipient" "name" "Ljava/lang/String;" .null := f23.other Wh21 (Or.inr (slot_ne (a0 := a0) (C := "com/example/object_grants/objectgrants/accesslist/Recipient") (t := (.object "java/lang/String")) (t' := (.object "com/example/object_grants/objectgrants/accesslist/Recipient$Kind")) (Or.inr (w55 hw)) (Or.inr (w53 hw)) (by decide) (by decide) (by decide)))
  refine Ow.aloadN (pc' := 24) B e5_23 ?_
  refine Ow.aloadN (pc' := 25) B e5_24 ?_
  have f26 := f20.keep Kh21
  refine Ow.putfield (pc' := 28) (ty := (.object "java/lang/String")) B e5_25 (w54 hw) Via.refl f25 f26 (Or.inr ⟨(w55 hw), rfl, rfl⟩) (w31 hw) (Or.inr ⟨by decide, by decide⟩) ?_
  intro h27 Wh27
  have Kh27 := Keep.of_wr Wh27
  have zh27 := Kh27.1
  have f28 : Fld Z h27 pa0 "com/example/object_grants/objectgrants/accesslist/Recipient" "name" "Ljava/lang/String;" (.ref pa2) := f25.same Wh27
  have f29 : Fld Z h27 pa0 "com/example/object_grants/objectgrants/accesslist/Recipient" "kind" "Lcom/example/object_grants/objectgrants/accesslist/Recipient$Kind;" (.ref pa1) := f24.other Wh27 (Or.inr (slot_ne (a0 := a0) (C := "com/example/object_grants/objectgrants/accesslist/Recipient") (t := (.object "com/example/object_grants/objectgrants/accesslist/Recipient$Kind")) (t' := (.object "java/lang/String")) (Or.inr (w53 hw)) (Or.inr (w55 hw)) (by decide) (by decide) (by decide)))
  have f30 := f26.keep Kh27
  exact Ow.retV (S' := []) B e5_28 (⟨rfl, (((((Keep.refl _ [pa0]).trans Kh6 (fun _ q => nomatch q)).trans Kh12 (fun _ q => nomatch q)).trans Kh21 (allS (Or.inl (by simp)) all0)).trans Kh27 (allS (Or.inl (by simp)) all0)), f30, f29, f28, rfl⟩)
set_option maxRecDepth 65536 in
set_option maxHeartbeats 40000000 in
theorem con_authority_8 {l : Launch} {Z : State} {n0 : Nat} {a0 : Array Value} {cz : Int32} {sf : Value} (hw : Hw a0 Z) (G : Ow.Glo Z cz sf) {u0 u1 u2 u3 u4 : Nat} (GS : GlS Z u0 u1 u2 u3 u4) {pa0 : Nat} {h0 : Heap} (O0 : Old Z n0 h0) :
    Ow.Con l Z EL1 n0 my7 prog_18_method_3_code 1 (Option.some (Jvm.ClassFile.FieldType.object "com/example/object_grants/objectgrants/accesslist/Recipient")) [] ({ frames := 3, cells := 5, slots := 42, locals := 39 } : Room) #[(.ref pa0)] [] h0 (fun v h S' => (∃ r0 : Nat, v = some (.ref r0) ∧ Keep h0 h [] ∧ h0.size ≤ r0 ∧ Exa Z h r0 "com/example/object_grants/objectgrants/accesslist/Recipient" ∧ Fld Z h r0 "com/example/object_grants/objectgrants/accesslist/Recipient" "kind" "Lcom/example/object_grants/objectgrants/accesslist/Recipient$Kind;" (.ref u0) ∧ Fld Z h r0 "com/example/object_grants/objectgrants/accesslist/Recipient" "name" "Ljava/lang/String;" (.ref pa0) ∧ S' = [])) := by
  refine Ow.Con.enter (Ls := #[.val (.ref pa0)]) (plainFor_of_name pn2) O0 (hEW hw) (hSA hw) ?_
  intro p e s m below meth c B
  have z0 := Ow.old_le O0
  have lu0 : (u0 : Nat) < n0 := O0.1 ▸ GS.2.1.lt
  have lu1 : (u1 : Nat) < n0 := O0.1 ▸ GS.2.2.2.1.lt
  have lu2 : (u2 : Nat) < n0 := O0.1 ▸ GS.2.2.2.2.2.1.lt
  have lu3 : (u3 : Nat) < n0 := O0.1 ▸ GS.2.2.2.2.2.2.2.1.lt
  have lu4 : (u4 : Nat) < n0 := O0.1 ▸ GS.2.2.2.2.2.2.2.2.2.1.lt
  refine Ow.newObj (pc' := 3) (k' := 1) (n' := 2) B e4_0 (w30 hw) (w31 hw) (w28 hw) ?_
  intro h2 a1 ga1 ba1 Kh2 Aa1 Da1
  have zh2 := Kh2.1
  have la1 : (a1 : Nat) < h2.size := Aa1.lt
  have f3 : Fld Z h2 a1 "com/example/object_grants/objectgrants/accesslist/Recipient" "kind" "Lcom/example/object_grants/objectgrants/accesslist/Recipient$Kind;" .null := Da1 (Or.inr (w53 hw)) (ty := (.object "com/example/object_grants/objectgrants/accesslist/Recipient$Kind")) (by decide)
  have f4 : Fld Z h2 a1 "com/example/object_grants/objectgrants/accesslist/Recipient" "name" "Ljava/lang/String;" .null := Da1 (Or.inr (w55 hw)) (ty := (.object "java/lang/String")) (by decide)
  refine Ow.dup (pc' := 4) B e4_3 ?_
  refine Ow.getstatic (pc' := 7) B e4_4 (w32 hw) Via.refl GS.1 ?_
  refine Ow.aloadN (pc' := 8) B e4_7 ?_
  refine Ow.Go.old (fun o5 => ?_)
  refine Ow.callInit (pc' := 11) (W := 1) (k' := 5) (n' := 42) (argsL := [(.ref u0), (.ref pa0)]) (rest := [(.ref a1)]) B e4_8 (w35 hw) (w36 hw) (w28 hw) (w37 hw) (con_init_7 hw G GS (pa0 := a1) (pa1 := u0) (pa2 := pa0) o5 Aa1 f3 f4 (by omega)) pd6 ?_
  intro vq6 h7 S8 q6 zh7
  obtain ⟨rfl, Kh7, f9, f10, f11, rfl⟩ := q6
  refine Ow.Go.norm (S' := [a1]) (st' := [(.ref a1)]) (fun _ q => List.mem_append_right _ q) rfl ?_
  exact Ow.retA (S' := []) (t := (.object "com/example/object_grants/objectgrants/accesslist/Recipient")) B e4_11 (⟨a1, rfl, (((Keep.refl _ []).trans Kh2 (fun _ q => nomatch q)).trans Kh7 (allS (Or.inr (by omega)) all0)), (by omega), f9, f10, f11, rfl⟩)
set_option maxRecDepth 65536 in
set_option maxHeartbeats 40000000 in
theorem con_empty_9 {l : Launch} {Z : State} {n0 : Nat} {a0 : Array Value} {cz : Int32} {sf : Value} (hw : Hw a0 Z) (G : Ow.Glo Z cz sf) {u0 u1 u2 u3 u4 : Nat} (GS : GlS Z u0 u1 u2 u3 u4) {h0 : Heap} (O0 : Old Z n0 h0) :
    Ow.Con l Z EL1 n0 my8 jdk_32_method_1_code 1 (Option.some (Jvm.ClassFile.FieldType.object "java/util/Optional")) [] ({ frames := 0, cells := 0, slots := 0, locals := 0 } : Room) #[] [] h0 (fun v h S' => (v = some (.ref u4) ∧ h = h0 ∧ S' = [])) := by
  refine Ow.Con.enter (Ls := #[.unset]) (plainFor_of_name pn6) O0 (hEW hw) (hSA hw) ?_
  intro p e s m below meth c B
  have z0 := Ow.old_le O0
  have lu0 : (u0 : Nat) < n0 := O0.1 ▸ GS.2.1.lt
  have lu1 : (u1 : Nat) < n0 := O0.1 ▸ GS.2.2.2.1.lt
  have lu2 : (u2 : Nat) < n0 := O0.1 ▸ GS.2.2.2.2.2.1.lt
  have lu3 : (u3 : Nat) < n0 := O0.1 ▸ GS.2.2.2.2.2.2.2.1.lt
  have lu4 : (u4 : Nat) < n0 := O0.1 ▸ GS.2.2.2.2.2.2.2.2.2.1.lt
  refine Ow.getstatic (pc' := 3) B e9_0 (w69 hw) Via.refl GS.2.2.2.2.2.2.2.2.1 ?_
  refine Ow.astoreN (pc' := 4) (Ls' := #[.val (.ref u4)]) B e9_3 ?_
  refine Ow.aloadN (pc' := 5) B e9_4 ?_
  exact Ow.retA (S' := []) (t := (.object "java/util/Optional")) B e9_5 (⟨rfl, rfl, rfl⟩)
set_option maxRecDepth 65536 in
set_option maxHeartbeats 40000000 in
theorem con_init_10 {l : Launch} {Z : State} {n0 : Nat} {a0 : Array Value} {cz : Int32} {sf : Value} (hw : Hw a0 Z) (G : Ow.Glo Z cz sf) {u0 u1 u2 u3 u4 : Nat} (GS : GlS Z u0 u1 u2 u3 u4) {pa0 : Nat} {pa1 : Nat} {pa2 : Nat} {pa3 : Nat} {h0 : Heap} (O0 : Old Z n0 h0) (hf0 : Exa Z h0 pa0 "com/example/object_grants/objectgrants/field/GroupGrant") (hf1 : Fld Z h0 pa0 "com/example/object_grants/objectgrants/field/GroupGrant" "access" "Lcom/example/object_grants/objectgrants/field/Access;" .null) (hf2 : Fld Z h0 pa0 "com/example/object_grants/objectgrants/field/GroupGrant" "combinedByOr" "Z" (.int (0 : Int32))) (hf3 : Fld Z h0 pa0 "com/example/object_grants/objectgrants/field/GroupGrant" "items" "Ljava/util/Optional;" .null) (hf4 : Fld Z h0 pa0 "com/example/object_grants/objectgrants/field/GroupGrant" "recipient" "Lcom/example/object_grants/objectgrants/accesslist/Recipient;" .null) (hn0 : n0 ≤ pa0) :
    Ow.Con l Z EL1 n0 my9 prog_30_method_1_code 5 (Option.none : Option Jvm.ClassFile.FieldType) [] ({ frames := 2, cells := 6, slots := 92, locals := 24 } : Room) #[(.ref pa0), (.ref pa1), (.ref pa2), (.ref pa3), (.int (0 : Int32))] [] h0 (fun v h S' => (v = none ∧ Keep h0 h [pa0] ∧ Exa Z h pa0 "com/example/object_grants/objectgrants/field/GroupGrant" ∧ Fld Z h pa0 "com/example/object_grants/objectgrants/field/GroupGrant" "access" "Lcom/example/object_grants/objectgrants/field/Access;" (.ref pa2) ∧ Fld Z h pa0 "com/example/object_grants/objectgrants/field/GroupGrant" "combinedByOr" "Z" (.int (0 : Int32)) ∧ Fld Z h pa0 "com/example/object_grants/objectgrants/field/GroupGrant" "items" "Ljava/util/Optional;" (.ref pa3) ∧ Fld Z h pa0 "com/example/object_grants/objectgrants/field/GroupGrant" "recipient" "Lcom/example/object_grants/objectgrants/accesslist/Recipient;" (.ref pa1) ∧ S' = [])) := by
  refine Ow.Con.enter (Ls := #[.val (.ref pa0), .val (.ref pa1), .val (.ref pa2), .val (.ref pa3), .val (.int (0 : Int32))]) (plainFor_of_name pn5) O0 (hEW hw) (hSA hw) ?_
  intro p e s m below meth c B
  have z0 := Ow.old_le O0
  have lu0 : (u0 : Nat) < n0 := O0.1 ▸ GS.2.1.lt
  have lu1 : (u1 : Nat) < n0 := O0.1 ▸ GS.2.2.2.1.lt
  have lu2 : (u2 : Nat) < n0 := O0.1 ▸ GS.2.2.2.2.2.1.lt
  have lu3 : (u3 : Nat) < n0 := O0.1 ▸ GS.2.2.2.2.2.2.2.1.lt
  have lu4 : (u4 : Nat) < n0 := O0.1 ▸ GS.2.2.2.2.2.2.2.2.2.1.lt
  have lpa0 : (pa0 : Nat) < h0.size := hf0.lt
  refine Ow.aloadN (pc' := 1) B e10_0 ?_
  refine Ow.Go.old (fun o1 => ?_)
  refine Ow.callInit (pc' := 4) (W := 0) (k' := 0) (n' := 0) (argsL := []) (rest := []) B e10_1 (w73 hw) (w39 hw) (w41 hw) (w42 hw) (con_init_5 hw G GS (pa0 := pa0) o1) pd4 ?_
  intro vq2 h3 S4 q2 zh3
  obtain ⟨rfl, rfl, rfl⟩ := q2
  refine Ow.Go.norm (S' := []) (st' := []) (fun _ q => List.mem_append_right _ q) rfl ?_
  refine Ow.aloadN (pc' := 5) B e10_4 ?_
  refine Ow.ldcAny (pc' := 7) (k' := 2) (n' := 40) (nn := 36) B e10_5 (w74 hw) ?_
  intro h6 a5 Kh6
  have zh6 := Kh6.1
  refine Ow.Go.old (fun o7 => ?_)
  refine Ow.callStatic (pc' := 10) (W := 0) (k' := 2) (n' := 40) (argsL := [(.ref pa1), (.ref a5)]) (rest := []) B e10_7 (w75 hw) (w48 hw) (w49 hw) (w50 hw) (con_requireNonNull_6 hw G GS (pa0 := pa1) (pa1 := a5) o7) pd5 ?_
  intro vq8 h9 S10 q8 zh9
  obtain ⟨rfl, rfl, rfl⟩ := q8
  refine Ow.Go.norm (S' := []) (st' := [(.ref pa1)]) (fun _ q => List.mem_append_right _ q) rfl ?_
  refine Ow.pop (pc' := 11) B e10_10 ?_
  refine Ow.aloadN (pc' := 12) B e10_11 ?_
  refine Ow.ldcAny (pc' := 14) (k' := 4) (n' := 68) (nn := 24) B e10_12 (w76 hw) ?_
  intro h12 a11 Kh12
  have zh12 := Kh12.1
  refine Ow.Go.old (fun o13 => ?_)
  refine Ow.callStatic (pc' := 17) (W := 0) (k' := 4) (n' := 68) (argsL := [(.ref pa2), (.ref a11)]) (rest := []) B e10_14 (w75 hw) (w48 hw) (w49 hw) (w50 hw) (con_requireNonNull_6 hw G GS (pa0 := pa2) (pa1 := a11) o13) pd5 ?_
  intro vq14 h15 S16 q14 zh15
  obtain ⟨rfl, rfl, rfl⟩ := q14
  refine Ow.Go.norm (S' := []) (st' := [(.ref pa2)]) (fun _ q => List.mem_append_right _ q) rfl ?_
  refine Ow.pop (pc' := 18) B e10_17 ?_
  refine Ow.aloadN (pc' := 19) B e10_18 ?_
  refine Ow.ldcAny (pc' := 21) (k' := 6) (n' := 92) (nn := 20) B e10_19 (w77 hw) ?_
  intro h18 a17 Kh18
  have zh18 := Kh18.1
  refine Ow.Go.old (fun o19 => ?_)
  refine Ow.callStatic (pc' := 24) (W := 0) (k' := 6) (n' := 92) (argsL := [(.ref pa3), (.ref a17)]) (rest := []) B e10_21 (w75 hw) (w48 hw) (w49 hw) (w50 hw) (con_requireNonNull_6 hw G GS (pa0 := pa3) (pa1 := a17) o19) pd5 ?_
  intro vq20 h21 S22 q20 zh21
  obtain ⟨rfl, rfl, rfl⟩ := q20
  refine Ow.Go.norm (S' := []) (st' := [(.ref pa3)]) (fun _ q => List.mem_append_right _ q) rfl ?_
  refine Ow.pop (pc' := 25) B e10_24 ?_
  refine Ow.aloadN (pc' := 26) B e10_25 ?_
  refine Ow.aloadN (pc' := 27) B e10_26 ?_
  have f23 := hf4.keep Kh6 Ow.nin0
  have f24 := f23.keep Kh12 Ow.nin0
  have f25 := f24.keep Kh18 Ow.nin0
  have f26 := hf0.keep Kh6
  have f27 := f26.keep Kh12
  have f28 := f27.keep Kh18
  refine Ow.putfield (pc' := 30) (ty := (.object "com/example/object_grants/objectgrants/accesslist/Recipient")) B e10_27 (w78 hw) Via.refl f25 f28 (Or.inr ⟨(w79 hw), rfl, rfl⟩) (w64 hw) (Or.inr ⟨by decide, by decide⟩) ?_
  intro h29 Wh29
  have f30 := hf1.keep Kh6 Ow.nin0
  have f31 := f30.keep Kh12 Ow.nin0
  have f32 := f31.keep Kh18 Ow.nin0
  have f33 := hf2.keep Kh6 Ow.nin0
  have f34 := f33.keep Kh12 Ow.nin0
  have f35 := f34.keep Kh18 Ow.nin0
  have f36 := hf3.keep Kh6 Ow.nin0
  have f37 := f36.keep Kh12 Ow.nin0
  have f38 := f37.keep Kh18 Ow.nin0
  have Kh29 := Keep.of_wr Wh29
  have zh29 := Kh29.1
  have f39 : Fld Z h29 pa0 "com/example/object_grants/objectgrants/field/GroupGrant" "recipient" "Lcom/example/object_grants/objectgrants/accesslist/Recipient;" (.ref pa1) := f25.same Wh29
  have f40 : Fld Z h29 pa0 "com/example/object_grants/objectgrants/field/GroupGrant" "access" "Lcom/example/object_grants/objectgrants/field/Access;" .null := f32.other Wh29 (Or.inr (slot_ne (a0 := a0) (C := "com/example/object_grants/objectgrants/field/GroupGrant") (t := (.object "com/example/object_grants/objectgrants/field/Access")) (t' := (.object "com/example/object_grants/objectgrants/accesslist/Recipient")) (Or.inr (w81 hw)) (Or.inr (w79 hw)) (by decide) (by decide) (by decide)))
  have f41 : Fld Z h29 pa0 "com/example/object_grants/objectgrants/field/GroupGrant" "combinedByOr" "Z" (.int (0 : Int32)) := f35.other Wh29 (Or.inr (slot_ne (a0 := a0) (C := "com/example/object_grants/objectgrants/field/GroupGrant") (t := .boolean) (t' := (.object "com/example/object_grants/objectgrants/accesslist/Recipient")) (Or.inr (w85 hw)) (Or.inr (w79 hw)) (by decide) (by decide) (by decide)))
  have f42 : Fld Z h29 pa0 "com/example/object_grants/objectgrants/field/GroupGrant" "items" "Ljava/util/Optional;" .null := f38.other Wh29 (Or.inr (slot_ne (a0 := a0) (C := "com/example/object_grants/objectgrants/field/GroupGrant") (t := (.object "java/util/Optional")) (t' := (.object "com/example/object_grants/objectgrants/accesslist/Recipient")) (Or.inr (w83 hw)) (Or.inr (w79 hw)) (by decide) (by decide) (by decide)))
  refine Ow.aloadN (pc' := 31) B e10_30 ?_
  refine Ow.aloadN (pc' := 32) B e10_31 ?_
  have f43 := f28.keep Kh29
  refine Ow.putfield (pc' := 35) (ty := (.object "com/example/object_grants/objectgrants/field/Access")) B e10_32 (w80 hw) Via.refl f40 f43 (Or.inr ⟨(w81 hw), rfl, rfl⟩) (w64 hw) (Or.inr ⟨by decide, by decide⟩) ?_
  intro h44 Wh44
  have Kh44 := Keep.of_wr Wh44
  have zh44 := Kh44.1
  have f45 : Fld Z h44 pa0 "com/example/object_grants/objectgrants/field/GroupGrant" "access" "Lcom/example/object_grants/objectgrants/field/Access;" (.ref pa2) := f40.same Wh44
  have f46 : Fld Z h44 pa0 "com/example/object_grants/objectgrants/field/GroupGrant" "combinedByOr" "Z" (.int (0 : Int32)) := f41.other Wh44 (Or.inr (slot_ne (a0 := a0) (C := "com/example/object_grants/objectgrants/field/GroupGrant") (t := .boolean) (t' := (.object "com/example/object_grants/objectgrants/field/Access")) (Or.inr (w85 hw)) (Or.inr (w81 hw)) (by decide) (by decide) (by decide)))
  have f47 : Fld Z h44 pa0 "com/example/object_grants/objectgrants/field/GroupGrant" "items" "Ljava/util/Optional;" .null := f42.other Wh44 (Or.inr (slot_ne (a0 := a0) (C := "com/example/object_grants/objectgrants/field/GroupGrant") (t := (.object "java/util/Optional")) (t' := (.object "com/example/object_grants/objectgrants/field/Access")) (Or.inr (w83 hw)) (Or.inr (w81 hw)) (by decide) (by decide) (by decide)))
  have f48 : Fld Z h44 pa0 "com/example/object_grants/objectgrants/field/GroupGrant" "recipient" "Lcom/example/object_grants/objectgrants/accesslist/Recipient;" (.ref pa1) := f39.other Wh44 (Or.inr (slot_ne (a0 := a0) (C := "com/example/object_grants/objectgrants/field/GroupGrant") (t := (.object "com/example/object_grants/objectgrants/accesslist/Recipient")) (t' := (.object "com/example/object_grants/objectgrants/field/Access")) (Or.inr (w79 hw)) (Or.inr (w81 hw)) (by decide) (by decide) (by decide)))
  refine Ow.aloadN (pc' := 36) B e10_35 ?_
  refine Ow.aloadN (pc' := 37) B e10_36 ?_
  have f49 := f43.keep Kh44
  refine Ow.putfield (pc' := 40) (ty := (.object "java/util/Optional")) B e10_37 (w82 hw) Via.refl f47 f49 (Or.inr ⟨(w83 hw), rfl, rfl⟩) (w64 hw) (Or.inr ⟨by decide, by decide⟩) ?_
  intro h50 Wh50
  have Kh50 := Keep.of_wr Wh50
  have zh50 := Kh50.1
  have f51 : Fld Z h50 pa0 "com/example/object_grants/objectgrants/field/GroupGrant" "items" "Ljava/util/Optional;" (.ref pa3) := f47.same Wh50
  have f52 : Fld Z h50 pa0 "com/example/object_grants/objectgrants/field/GroupGrant" "access" "Lcom/example/object_grants/objectgrants/field/Access;" (.ref pa2) := f45.other Wh50 (Or.inr (slot_ne (a0 := a0) (C := "com/example/object_grants/objectgrants/field/GroupGrant") (t := (.object "com/example/object_grants/objectgrants/field/Access")) (t' := (.object "java/util/Optional")) (Or.inr (w81 hw)) (Or.inr (w83 hw)) (by decide) (by decide) (by decide)))
  have f53 : Fld Z h50 pa0 "com/example/object_grants/objectgrants/field/GroupGrant" "combinedByOr" "Z" (.int (0 : Int32)) := f46.other Wh50 (Or.inr (slot_ne (a0 := a0) (C := "com/example/object_grants/objectgrants/field/GroupGrant") (t := .boolean) (t' := (.object "java/util/Optional")) (Or.inr (w85 hw)) (Or.inr (w83 hw)) (by decide) (by decide) (by decide)))
  have f54 : Fld Z h50 pa0 "com/example/object_grants/objectgrants/field/GroupGrant" "recipient" "Lcom/example/object_grants/objectgrants/accesslist/Recipient;" (.ref pa1) := f48.other Wh50 (Or.inr (slot_ne (a0 := a0) (C := "com/example/object_grants/objectgrants/field/GroupGrant") (t := (.object "com/example/object_grants/objectgrants/accesslist/Recipient")) (t' := (.object "java/util/Optional")) (Or.inr (w79 hw)) (Or.inr (w83 hw)) (by decide) (by decide) (by decide)))
  refine Ow.aloadN (pc' := 41) B e10_40 ?_
  refine Ow.iload (pc' := 43) B e10_41 ?_
  have f55 := f49.keep Kh50
  refine Ow.putfield (pc' := 46) (ty := .boolean) B e10_43 (w84 hw) Via.refl f53 f55 (Or.inr ⟨(w85 hw), rfl, rfl⟩) (w64 hw) (Or.inr ⟨by decide, by decide⟩) ?_
  intro h56 Wh56
  have Kh56 := Keep.of_wr Wh56
  have zh56 := Kh56.1
  have f57 : Fld Z h56 pa0 "com/example/object_grants/objectgrants/field/GroupGrant" "combinedByOr" "Z" (.int (0 : Int32)) := f53.same Wh56
  have f58 : Fld Z h56 pa0 "com/example/object_grants/objectgrants/field/GroupGrant" "access" "Lcom/example/object_grants/objectgrants/field/Access;" (.ref pa2) := f52.other Wh56 (Or.inr (slot_ne (a0 := a0) (C := "com/example/object_grants/objectgrants/field/GroupGrant") (t := (.object "com/example/object_grants/objectgrants/field/Access")) (t' := .boolean) (Or.inr (w81 hw)) (Or.inr (w85 hw)) (by decide) (by decide) (by decide)))
  have f59 : Fld Z h56 pa0 "com/example/object_grants/objectgrants/field/GroupGrant" "items" "Ljava/util/Optional;" (.ref pa3) := f51.other Wh56 (Or.inr (slot_ne (a0 := a0) (C := "com/example/object_grants/objectgrants/field/GroupGrant") (t := (.object "java/util/Optional")) (t' := .boolean) (Or.inr (w83 hw)) (Or.inr (w85 hw)) (by decide) (by decide) (by decide)))
  have f60 : Fld Z h56 pa0 "com/example/object_grants/objectgrants/field/GroupGrant" "recipient" "Lcom/example/object_grants/objectgrants/accesslist/Recipient;" (.ref pa1) := f54.other Wh56 (Or.inr (slot_ne (a0 := a0) (C := "com/example/object_grants/objectgrants/field/GroupGrant") (t := (.object "com/example/object_grants/objectgrants/accesslist/Recipient")) (t' := .boolean) (Or.inr (w79 hw)) (Or.inr (w85 hw)) (by decide) (by decide) (by decide)))
  have f61 := f55.keep Kh56
  exact Ow.retV (S' := []) B e10_46 (⟨rfl, ((((((((Keep.refl _ [pa0]).trans Kh6 (fun _ q => nomatch q)).trans Kh12 (fun _ q => nomatch q)).trans Kh18 (fun _ q => nomatch q)).trans Kh29 (allS (Or.inl (by simp)) all0)).trans Kh44 (allS (Or.inl (by simp)) all0)).trans Kh50 (allS (Or.inl (by simp)) all0)).trans Kh56 (allS (Or.inl (by simp)) all0)), f61, f58, f57, f59, f60, rfl⟩)
set_option maxRecDepth 65536 in
set_option maxHeartbeats 40000000 in
theorem con_of_11 {l : Launch} {Z : State} {n0 : Nat} {a0 : Array Value} {cz : Int32} {sf : Value} (hw : Hw a0 Z) (G : Ow.Glo Z cz sf) {u0 u1 u2 u3 u4 : Nat} (GS : GlS Z u0 u1 u2 u3 u4) {pa0 : Nat} {pa1 : Nat} {h0 : Heap} (O0 : Old Z n0 h0) :
    Ow.Con l Z EL1 n0 my10 prog_30_method_2_code 2 (Option.some (Jvm.ClassFile.FieldType.object "com/example/object_grants/objectgrants/field/GroupGrant")) [] ({ frames := 3, cells := 7, slots := 96, locals := 41 } : Room) #[(.ref pa0), (.ref pa1)] [] h0 (fun v h S' => (∃ r0 : Nat, v = some (.ref r0) ∧ Keep h0 h [] ∧ h0.size ≤ r0 ∧ Exa Z h r0 "com/example/object_grants/objectgrants/field/GroupGrant" ∧ Fld Z h r0 "com/example/object_grants/objectgrants/field/GroupGrant" "access" "Lcom/example/object_grants/objectgrants/field/Access;" (.ref pa1) ∧ Fld Z h r0 "com/example/object_grants/objectgrants/field/GroupGrant" "combinedByOr" "Z" (.int (0 : Int32)) ∧ Fld Z h r0 "com/example/object_grants/objectgrants/field/GroupGrant" "items" "Ljava/util/Optional;" (.ref u4) ∧ Fld Z h r0 "com/example/object_grants/objectgrants/field/GroupGrant" "recipient" "Lcom/example/object_grants/objectgrants/accesslist/Recipient;" (.ref pa0) ∧ S' = [])) := by
  refine Ow.Con.enter (Ls := #[.val (.ref pa0), .val (.ref pa1)]) (plainFor_of_name pn5) O0 (hEW hw) (hSA hw) ?_
  intro p e s m below meth c B
  have z0 := Ow.old_le O0
  have lu0 : (u0 : Nat) < n0 := O0.1 ▸ GS.2.1.lt
  have lu1 : (u1 : Nat) < n0 := O0.1 ▸ GS.2.2.2.1.lt
  have lu2 : (u2 : Nat) < n0 := O0.1 ▸ GS.2.2.2.2.2.1.lt
  have lu3 : (u3 : Nat) < n0 := O0.1 ▸ GS.2.2.2.2.2.2.2.1.lt
  have lu4 : (u4 : Nat) < n0 := O0.1 ▸ GS.2.2.2.2.2.2.2.2.2.1.lt
  refine Ow.newObj (pc' := 3) (k' := 1) (n' := 4) B e8_0 (w63 hw) (w64 hw) (w61 hw) ?_
  intro h2 a1 ga1 ba1 Kh2 Aa1 Da1
  have zh2 := Kh2.1
  have la1 : (a1 : Nat) < h2.size := Aa1.lt
  have f3 : Fld Z h2 a1 "com/example/object_grants/objectgrants/field/GroupGrant" "recipient" "Lcom/example/object_grants/objectgrants/accesslist/Recipient;" .null := Da1 (Or.inr (w79 hw)) (ty := (.object "com/example/object_grants/objectgrants/accesslist/Recipient")) (by decide)
  have f4 : Fld Z h2 a1 "com/example/object_grants/objectgrants/field/GroupGrant" "access" "Lcom/example/object_grants/objectgrants/field/Access;" .null := Da1 (Or.inr (w81 hw)) (ty := (.object "com/example/object_grants/objectgrants/field/Access")) (by decide)
  have f5 : Fld Z h2 a1 "com/example/object_grants/objectgrants/field/GroupGrant" "items" "Ljava/util/Optional;" .null := Da1 (Or.inr (w83 hw)) (ty := (.object "java/util/Optional")) (by decide)
  have f6 : Fld Z h2 a1 "com/example/object_grants/objectgrants/field/GroupGrant" "combinedByOr" "Z" (.int 0) := Da1 (Or.inr (w85 hw)) (ty := .boolean) (by decide)
  refine Ow.dup (pc' := 4) B e8_3 ?_
  refine Ow.aloadN (pc' := 5) B e8_4 ?_
  refine Ow.aloadN (pc' := 6) B e8_5 ?_
  refine Ow.Go.old (fun o7 => ?_)
  refine Ow.callStatic (pc' := 9) (W := 4) (k' := 1) (n' := 4) (argsL := []) (rest := [(.ref pa1), (.ref pa0), (.ref a1), (.ref a1)]) B e8_6 (w65 hw) (w66 hw) (w67 hw) (w68 hw) (con_empty_9 hw G GS o7) pd8 ?_
  intro vq8 h9 S10 q8 zh9
  obtain ⟨rfl, rfl, rfl⟩ := q8
  refine Ow.Go.norm (S' := [a1]) (st' := [(.ref u4), (.ref pa1), (.ref pa0), (.ref a1), (.ref a1)]) (fun _ q => List.mem_append_right _ q) rfl ?_
  refine Ow.iconst (pc' := 10) (x := (0 : Int32)) B e8_9 ?_
  refine Ow.Go.old (fun o11 => ?_)
  refine Ow.callInit (pc' := 13) (W := 1) (k' := 7) (n' := 96) (argsL := [(.ref pa0), (.ref pa1), (.ref u4), (.int (0 : Int32))]) (rest := [(.ref a1)]) B e8_10 (w70 hw) (w71 hw) (w61 hw) (w72 hw) (con_init_10 hw G GS (pa0 := a1) (pa1 := pa0) (pa2 := pa1) (pa3 := u4) o11 Aa1 f4 f6 f5 f3 (by omega)) pd9 ?_
  intro vq12 h13 S14 q12 zh13
  obtain ⟨rfl, Kh13, f15, f16, f17, f18, f19, rfl⟩ := q12
  refine Ow.Go.norm (S' := [a1]) (st' := [(.ref a1)]) (fun _ q => List.mem_append_right _ q) rfl ?_
  exact Ow.retA (S' := []) (t := (.object "com/example/object_grants/objectgrants/field/GroupGrant")) B e8_13 (⟨a1, rfl, (((Keep.refl _ []).trans Kh2 (fun _ q => nomatch q)).trans Kh13 (allS (Or.inr (by omega)) all0)), (by omega), f15, f16, f17, f18, f19, rfl⟩)
set_option maxRecDepth 65536 in
set_option maxHeartbeats 40000000 in
theorem con_recipient_12 {l : Launch} {Z : State} {n0 : Nat} {a0 : Array Value} {cz : Int32} {sf : Value} (hw : Hw a0 Z) (G : Ow.Glo Z cz sf) {u0 u1 u2 u3 u4 : Nat} (GS : GlS Z u0 u1 u2 u3 u4) {pa0 : Nat} {pa1 : Nat} {h0 : Heap} (O0 : Old Z n0 h0) (hf0 : Fld Z h0 pa0 "com/example/object_grants/objectgrants/field/GroupGrant" "recipient" "Lcom/example/object_grants/objectgrants/accesslist/Recipient;" (.ref pa1)) (hn0 : n0 ≤ pa0) :
    Ow.Con l Z EL1 n0 my11 prog_30_method_8_code 1 (Option.some (Jvm.ClassFile.FieldType.object "com/example/object_grants/objectgrants/accesslist/Recipient")) [] ({ frames := 0, cells := 0, slots := 0, locals := 0 } : Room) #[(.ref pa0)] [] h0 (fun v h S' => (v = some (.ref pa1) ∧ h = h0 ∧ S' = [])) := by
  refine Ow.Con.enter (Ls := #[.val (.ref pa0)]) (plainFor_of_name pn5) O0 (hEW hw) (hSA hw) ?_
  intro p e s m below meth c B
  have z0 := Ow.old_le O0
  have lu0 : (u0 : Nat) < n0 := O0.1 ▸ GS.2.1.lt
  have lu1 : (u1 : Nat) < n0 := O0.1 ▸ GS.2.2.2.1.lt
  have lu2 : (u2 : Nat) < n0 := O0.1 ▸ GS.2.2.2.2.2.1.lt
  have lu3 : (u3 : Nat) < n0 := O0.1 ▸ GS.2.2.2.2.2.2.2.1.lt
  have lu4 : (u4 : Nat) < n0 := O0.1 ▸ GS.2.2.2.2.2.2.2.2.2.1.lt
  have lpa0 : (pa0 : Nat) < h0.size := hf0.lt
  refine Ow.aloadN (pc' := 1) B e11_0 ?_
  refine Ow.getfield (pc' := 4) B e11_1 (w78 hw) Via.refl hf0 ?_
  exact Ow.retA (S' := []) (t := (.object "com/example/object_grants/objectgrants/accesslist/Recipient")) B e11_4 (⟨rfl, rfl, rfl⟩)
set_option maxRecDepth 65536 in
set_option maxHeartbeats 40000000 in
theorem con_access_13 {l : Launch} {Z : State} {n0 : Nat} {a0 : Array Value} {cz : Int32} {sf : Value} (hw : Hw a0 Z) (G : Ow.Glo Z cz sf) {u0 u1 u2 u3 u4 : Nat} (GS : GlS Z u0 u1 u2 u3 u4) {pa0 : Nat} {pa1 : Nat} {h0 : Heap} (O0 : Old Z n0 h0) (hf0 : Fld Z h0 pa0 "com/example/object_grants/objectgrants/field/GroupGrant" "access" "Lcom/example/object_grants/objectgrants/field/Access;" (.ref pa1)) (hn0 : n0 ≤ pa0) :
    Ow.Con l Z EL1 n0 my12 prog_30_method_9_code 1 (Option.some (Jvm.ClassFile.FieldType.object "com/example/object_grants/objectgrants/field/Access")) [] ({ frames := 0, cells := 0, slots := 0, locals := 0 } : Room) #[(.ref pa0)] [] h0 (fun v h S' => (v = some (.ref pa1) ∧ h = h0 ∧ S' = [])) := by
  refine Ow.Con.enter (Ls := #[.val (.ref pa0)]) (plainFor_of_name pn5) O0 (hEW hw) (hSA hw) ?_
  intro p e s m below meth c B
  have z0 := Ow.old_le O0
  have lu0 : (u0 : Nat) < n0 := O0.1 ▸ GS.2.1.lt
  have lu1 : (u1 : Nat) < n0 := O0.1 ▸ GS.2.2.2.1.lt
  have lu2 : (u2 : Nat) < n0 := O0.1 ▸ GS.2.2.2.2.2.1.lt
  have lu3 : (u3 : Nat) < n0 := O0.1 ▸ GS.2.2.2.2.2.2.2.1.lt
  have lu4 : (u4 : Nat) < n0 := O0.1 ▸ GS.2.2.2.2.2.2.2.2.2.1.lt
  have lpa0 : (pa0 : Nat) < h0.size := hf0.lt
  refine Ow.aloadN (pc' := 1) B e12_0 ?_
  refine Ow.getfield (pc' := 4) B e12_1 (w80 hw) Via.refl hf0 ?_
  exact Ow.retA (S' := []) (t := (.object "com/example/object_grants/objectgrants/field/Access")) B e12_4 (⟨rfl, rfl, rfl⟩)
set_option maxRecDepth 65536 in
set_option maxHeartbeats 40000000 in
theorem con_items_14 {l : Launch} {Z : State} {n0 : Nat} {a0 : Array Value} {cz : Int32} {sf : Value} (hw : Hw a0 Z) (G : Ow.Glo Z cz sf) {u0 u1 u2 u3 u4 : Nat} (GS : GlS Z u0 u1 u2 u3 u4) {pa0 : Nat} {pa1 : Nat} {h0 : Heap} (O0 : Old Z n0 h0) (hf0 : Fld Z h0 pa0 "com/example/object_grants/objectgrants/field/GroupGrant" "items" "Ljava/util/Optional;" (.ref pa1)) (hn0 : n0 ≤ pa0) :
    Ow.Con l Z EL1 n0 my13 prog_30_method_10_code 1 (Option.some (Jvm.ClassFile.FieldType.object "java/util/Optional")) [] ({ frames := 0, cells := 0, slots := 0, locals := 0 } : Room) #[(.ref pa0)] [] h0 (fun v h S' => (v = some (.ref pa1) ∧ h = h0 ∧ S' = [])) := by
  refine Ow.Con.enter (Ls := #[.val (.ref pa0)]) (plainFor_of_name pn5) O0 (hEW hw) (hSA hw) ?_
  intro p e s m below meth c B
  have z0 := Ow.old_le O0
  have lu0 : (u0 : Nat) < n0 := O0.1 ▸ GS.2.1.lt
  have lu1 : (u1 : Nat) < n0 := O0.1 ▸ GS.2.2.2.1.lt
  have lu2 : (u2 : Nat) < n0 := O0.1 ▸ GS.2.2.2.2.2.1.lt
  have lu3 : (u3 : Nat) < n0 := O0.1 ▸ GS.2.2.2.2.2.2.2.1.lt
  have lu4 : (u4 : Nat) < n0 := O0.1 ▸ GS.2.2.2.2.2.2.2.2.2.1.lt
  have lpa0 : (pa0 : Nat) < h0.size := hf0.lt
  refine Ow.aloadN (pc' := 1) B e13_0 ?_
  refine Ow.getfield (pc' := 4) B e13_1 (w82 hw) Via.refl hf0 ?_
  exact Ow.retA (S' := []) (t := (.object "java/util/Optional")) B e13_4 (⟨rfl, rfl, rfl⟩)
set_option maxRecDepth 65536 in
set_option maxHeartbeats 40000000 in
theorem con_isEmpty_15 {l : Launch} {Z : State} {n0 : Nat} {a0 : Array Value} {cz : Int32} {sf : Value} (hw : Hw a0 Z) (G : Ow.Glo Z cz sf) {u0 u1 u2 u3 u4 : Nat} (GS : GlS Z u0 u1 u2 u3 u4) {pa0 : Nat} {h0 : Heap} (O0 : Old Z n0 h0) (hf0 : Fld Z h0 pa0 "java/util/Optional" "value" "Ljava/lang/Object;" .null) :
    Ow.Con l Z EL1 n0 my14 jdk_32_method_7_code 1 (Option.some Jvm.ClassFile.FieldType.boolean) [] ({ frames := 0, cells := 0, slots := 0, locals := 0 } : Room) #[(.ref pa0)] [] h0 (fun v h S' => (v = some (.int (1 : Int32)) ∧ h = h0 ∧ S' = [])) := by
  refine Ow.Con.enter (Ls := #[.val (.ref pa0)]) (plainFor_of_name pn6) O0 (hEW hw) (hSA hw) ?_
  intro p e s m below meth c B
  have z0 := Ow.old_le O0
  have lu0 : (u0 : Nat) < n0 := O0.1 ▸ GS.2.1.lt
  have lu1 : (u1 : Nat) < n0 := O0.1 ▸ GS.2.2.2.1.lt
  have lu2 : (u2 : Nat) < n0 := O0.1 ▸ GS.2.2.2.2.2.1.lt
  have lu3 : (u3 : Nat) < n0 := O0.1 ▸ GS.2.2.2.2.2.2.2.1.lt
  have lu4 : (u4 : Nat) < n0 := O0.1 ▸ GS.2.2.2.2.2.2.2.2.2.1.lt
  have lpa0 : (pa0 : Nat) < h0.size := hf0.lt
  refine Ow.aloadN (pc' := 1) B e14_0 ?_
  refine Ow.getfield (pc' := 4) B e14_1 (w106 hw) Via.refl hf0 ?_
  refine Ow.ifnonnullF (pc' := 7) B e14_4 ?_
  refine Ow.iconst (pc' := 8) (x := (1 : Int32)) B e14_7 ?_
  refine Ow.goto (pc' := 12) B e14_8 ?_
  exact Ow.retI (S' := []) (t := .boolean) B e14_12 (⟨rfl, rfl, rfl⟩)
set_option maxRecDepth 65536 in
set_option maxHeartbeats 40000000 in
theorem con_combinedByOr_16 {l : Launch} {Z : State} {n0 : Nat} {a0 : Array Value} {cz : Int32} {sf : Value} (hw : Hw a0 Z) (G : Ow.Glo Z cz sf) {u0 u1 u2 u3 u4 : Nat} (GS : GlS Z u0 u1 u2 u3 u4) {pa0 : Nat} {h0 : Heap} (O0 : Old Z n0 h0) (hf0 : Fld Z h0 pa0 "com/example/object_grants/objectgrants/field/GroupGrant" "combinedByOr" "Z" (.int (0 : Int32))) (hn0 : n0 ≤ pa0) :
    Ow.Con l Z EL1 n0 my15 prog_30_method_11_code 1 (Option.some Jvm.ClassFile.FieldType.boolean) [] ({ frames := 0, cells := 0, slots := 0, locals := 0 } : Room) #[(.ref pa0)] [] h0 (fun v h S' => (v = some (.int (0 : Int32)) ∧ h = h0 ∧ S' = [])) := by
  refine Ow.Con.enter (Ls := #[.val (.ref pa0)]) (plainFor_of_name pn5) O0 (hEW hw) (hSA hw) ?_
  intro p e s m below meth c B
  have z0 := Ow.old_le O0
  have lu0 : (u0 : Nat) < n0 := O0.1 ▸ GS.2.1.lt
  have lu1 : (u1 : Nat) < n0 := O0.1 ▸ GS.2.2.2.1.lt
  have lu2 : (u2 : Nat) < n0 := O0.1 ▸ GS.2.2.2.2.2.1.lt
  have lu3 : (u3 : Nat) < n0 := O0.1 ▸ GS.2.2.2.2.2.2.2.1.lt
  have lu4 : (u4 : Nat) < n0 := O0.1 ▸ GS.2.2.2.2.2.2.2.2.2.1.lt
  have lpa0 : (pa0 : Nat) < h0.size := hf0.lt
  refine Ow.aloadN (pc' := 1) B e15_0 ?_
  refine Ow.getfield (pc' := 4) B e15_1 (w84 hw) Via.refl hf0 ?_
  exact Ow.retI (S' := []) (t := .boolean) B e15_4 (⟨rfl, rfl, rfl⟩)
set_option maxRecDepth 65536 in
set_option maxHeartbeats 40000000 in
theorem seg88_1 {l : Launch} {Z : State} {n0 : Nat} {a0 : Array Value} {cz : Int32} {sf : Value} (hw : Hw a0 Z) (G : Ow.Glo Z cz sf) {u0 u1 u2 u3 u4 : Nat} (GS : GlS Z u0 u1 u2 u3 u4) {pa0 : Nat} {pa1 : Nat} {dl0 : Int32} {dl1 : Int32} {dl2 : Int32} {dl3 : Nat} {p : Program} {e : Env} {s : State} {m : MethodId} {args : Array Value} {below : List Frame} {meth : Method} {c : ClassFile.Code} (B : Ow.Bdy p meth c Z EL1 a0 code maxLocals ret x.name) {h0 : Heap} (O0 : Old Z n0 h0) :
    Ow.Go p l e room_1 s m args below meth c Z EL1 n0 x.cls (fun v _ _ => v = some (.int 1)) [] h0 25 5152 88 #[.val (.int dl0), .val (.int dl1), .val (.int dl2), .val (.ref dl3), .val (.ref pa0), .val (.ref pa1), .unset] [] := by
  have z0 := Ow.old_le O0
  have lu0 : (u0 : Nat) < n0 := O0.1 ▸ GS.2.1.lt
  have lu1 : (u1 : Nat) < n0 := O0.1 ▸ GS.2.2.2.1.lt
  have lu2 : (u2 : Nat) < n0 := O0.1 ▸ GS.2.2.2.2.2.1.lt
  have lu3 : (u3 : Nat) < n0 := O0.1 ▸ GS.2.2.2.2.2.2.2.1.lt
  have lu4 : (u4 : Nat) < n0 := O0.1 ▸ GS.2.2.2.2.2.2.2.2.2.1.lt
  refine Ow.aload (pc' := 90) B at_88 ?_
  refine Ow.aload (pc' := 92) B at_90 ?_
  refine Ow.Go.old (fun o1 => ?_)
  refine Ow.callStatic (pc' := 95) (W := 0) (k' := 32) (n' := 5248) (argsL := [(.ref pa0), (.ref pa1)]) (rest := []) B at_92 (w59 hw) (w60 hw) (w61 hw) (w62 hw) (con_of_11 hw G GS (pa0 := pa0) (pa1 := pa1) o1) pd10 ?_
  intro vq2 h3 S4 q2 zh3
  obtain ⟨r5, rfl, Kh3, br5, f6, f7, f8, f9, f10, rfl⟩ := q2
  have lr5 : (r5 : Nat) < h3.size := f6.lt
  refine Ow.Go.norm (S' := []) (st' := [(.ref r5)]) (fun _ q => List.mem_append_right _ q) rfl ?_
  refine Ow.astore (pc' := 97) (Ls' := #[.val (.int dl0), .val (.int dl1), .val (.int dl2), .val (.ref dl3), .val (.ref pa0), .val (.ref pa1), .val (.ref r5)]) B at_95 ?_
  refine Ow.aload (pc' := 99) B at_97 ?_
  refine Ow.Go.old (fun o11 => ?_)
  refine Ow.callVirtual (pc' := 102) (W := 0) (k' := 32) (n' := 5248) (argsL := []) (rest := []) (K := "com/example/object_grants/objectgrants/field/GroupGrant") B at_99 (w86 hw) (w87 hw) (w89 hw) (w89 hw) (w88 hw) (w61 hw) (w90 hw) f6 (con_recipient_12 hw G GS (pa0 := r5) (pa1 := pa0) o11 f10 (by omega)) pd11 ?_
  intro vq12 h13 S14 q12 zh13
  obtain ⟨rfl, rfl, rfl⟩ := q12
  refine Ow.Go.norm (S' := []) (st' := [(.ref pa0)]) (fun _ q => List.mem_append_right _ q) rfl ?_
  refine Ow.aload (pc' := 104) B at_102 ?_
  refine Ow.acmpR (pc' := 107) (same := true) B at_104 (decide_eq_true rfl) ?_
  refine Ow.aload (pc' := 109) B at_107 ?_
  refine Ow.Go.old (fun o15 => ?_)
  refine Ow.callVirtual (pc' := 112) (W := 0) (k' := 32) (n' := 5248) (argsL := []) (rest := []) (K := "com/example/object_grants/objectgrants/field/GroupGrant") B at_109 (w91 hw) (w92 hw) (w94 hw) (w94 hw) (w93 hw) (w61 hw) (w95 hw) f6 (con_access_13 hw G GS (pa0 := r5) (pa1 := pa1) o15 f7 (by omega)) pd12 ?_
  intro vq16 h17 S18 q16 zh17
  obtain ⟨rfl, rfl, rfl⟩ := q16
  refine Ow.Go.norm (S' := []) (st' := [(.ref pa1)]) (fun _ q => List.mem_append_right _ q) rfl ?_
  refine Ow.aload (pc' := 114) B at_112 ?_
  refine Ow.acmpR (pc' := 117) (same := true) B at_114 (decide_eq_true rfl) ?_
  refine Ow.aload (pc' := 119) B at_117 ?_
  refine Ow.Go.old (fun o19 => ?_)
  refine Ow.callVirtual (pc' := 122) (W := 0) (k' := 32) (n' := 5248) (argsL := []) (rest := []) (K := "com/example/object_grants/objectgrants/field/GroupGrant") B at_119 (w96 hw) (w97 hw) (w99 hw) (w99 hw) (w98 hw) (w61 hw) (w100 hw) f6 (con_items_14 hw G GS (pa0 := r5) (pa1 := u4) o19 f9 (by omega)) pd8 ?_
  intro vq20 h21 S22 q20 zh21
  obtain ⟨rfl, rfl, rfl⟩ := q20
  refine Ow.Go.norm (S' := []) (st' := [(.ref u4)]) (fun _ q => List.mem_append_right _ q) rfl ?_
  refine Ow.Go.old (fun o23 => ?_)
  refine Ow.Go.old (fun o24 => ?_)
  have f25 := Fld.ext o24.2 GS.2.2.2.2.2.2.2.2.2.2
  refine Ow.Go.old (fun o26 => ?_)
  have f27 := Exa.ext o26.2 GS.2.2.2.2.2.2.2.2.2.1
  refine Ow.callVirtual (pc' := 125) (W := 0) (k' := 32) (n' := 5248) (argsL := []) (rest := []) (K := "java/util/Optional") B at_122 (w101 hw) (w102 hw) (w104 hw) (w104 hw) (w103 hw) (w67 hw) (w105 hw) f27 (con_isEmpty_15 hw G GS (pa0 := u4) o23 f25) pd13 ?_
  intro vq28 h29 S30 q28 zh29
  obtain ⟨rfl, rfl, rfl⟩ := q28
  refine Ow.Go.norm (S' := []) (st' := [(.int (1 : Int32))]) (fun _ q => List.mem_append_right _ q) rfl ?_
  refine Ow.ifF (pc' := 128) B at_125 (by decide) ?_
  refine Ow.aload (pc' := 130) B at_128 ?_
  refine Ow.Go.old (fun o31 => ?_)
  refine Ow.callVirtual (pc' := 133) (W := 0) (k' := 32) (n' := 5248) (argsL := []) (rest := []) (K := "com/example/object_grants/objectgrants/field/GroupGrant") B at_130 (w108 hw) (w109 hw) (w111 hw) (w111 hw) (w110 hw) (w61 hw) (w112 hw) f6 (con_combinedByOr_16 hw G GS (pa0 := r5) o31 f8 (by omega)) pd13 ?_
  intro vq32 h33 S34 q32 zh33
  obtain ⟨rfl, rfl, rfl⟩ := q32
  refine Ow.Go.norm (S' := []) (st' := [(.int (0 : Int32))]) (fun _ q => List.mem_append_right _ q) rfl ?_
  refine Ow.ifF (pc' := 136) B at_133 (by decide) ?_
  refine Ow.iconst (pc' := 137) (x := (1 : Int32)) B at_136 ?_
  refine Ow.goto (pc' := 141) B at_137 ?_
  exact Ow.retI (S' := []) (t := .boolean) B at_141 (rfl)
set_option maxRecDepth 65536 in
set_option maxHeartbeats 40000000 in
theorem seg71_2 {l : Launch} {Z : State} {n0 : Nat} {a0 : Array Value} {cz : Int32} {sf : Value} (hw : Hw a0 Z) (G : Ow.Glo Z cz sf) {u0 u1 u2 u3 u4 : Nat} (GS : GlS Z u0 u1 u2 u3 u4) {pa0 : Nat} {px0 : Int32} {dl0 : Int32} {dl1 : Int32} {dl3 : Nat} {p : Program} {e : Env} {s : State} {m : MethodId} {args : Array Value} {below : List Frame} {meth : Method} {c : ClassFile.Code} (B : Ow.Bdy p meth c Z EL1 a0 code maxLocals ret x.name) {h0 : Heap} (O0 : Old Z n0 h0) :
    Ow.Go p l e room_1 s m args below meth c Z EL1 n0 x.cls (fun v _ _ => v = some (.int 1)) [] h0 25 5152 71 #[.val (.int dl0), .val (.int dl1), .val (.int px0), .val (.ref dl3), .val (.ref pa0), .unset, .unset] [] := by
  have z0 := Ow.old_le O0
  have lu0 : (u0 : Nat) < n0 := O0.1 ▸ GS.2.1.lt
  have lu1 : (u1 : Nat) < n0 := O0.1 ▸ GS.2.2.2.1.lt
  have lu2 : (u2 : Nat) < n0 := O0.1 ▸ GS.2.2.2.2.2.1.lt
  have lu3 : (u3 : Nat) < n0 := O0.1 ▸ GS.2.2.2.2.2.2.2.1.lt
  have lu4 : (u4 : Nat) < n0 := O0.1 ▸ GS.2.2.2.2.2.2.2.2.2.1.lt
  refine Ow.iloadN (pc' := 72) B at_71 ?_
  refine Ow.iconst (pc' := 73) (x := (2 : Int32)) B at_72 ?_
  refine Ow.iand (pc' := 74) (z := (px0 &&& (2 : Int32))) B at_73 ?_
  by_cases c1 : (px0 &&& (2 : Int32)) = (0 : Int32)
  · refine Ow.ifT (pc' := 83) B at_74 (teq c1).1 ?_
    refine Ow.getstatic (pc' := 86) B at_83 (w136 hw) Via.refl GS.2.2.2.2.2.2.1 ?_
    refine Ow.astore (pc' := 88) (Ls' := #[.val (.int dl0), .val (.int dl1), .val (.int px0), .val (.ref dl3), .val (.ref pa0), .val (.ref u3), .unset]) B at_86 ?_
    refine Ow.Go.old (fun o2 => ?_)
    exact Ow.Go.mono (k' := 25) (n' := 5152) (by decide) (by decide) (by simp) (seg88_1 hw G GS (dl0 := dl0) (dl1 := dl1) (dl2 := px0) (dl3 := dl3) (pa0 := pa0) (pa1 := u3) B  o2)
  · refine Ow.ifF (pc' := 77) B at_74 (feq c1).1 ?_
    refine Ow.getstatic (pc' := 80) B at_77 (w56 hw) Via.refl GS.2.2.1 ?_
    refine Ow.goto (pc' := 86) B at_80 ?_
    refine Ow.astore (pc' := 88) (Ls' := #[.val (.int dl0), .val (.int dl1), .val (.int px0), .val (.ref dl3), .val (.ref pa0), .val (.ref u1), .unset]) B at_86 ?_
    refine Ow.Go.old (fun o3 => ?_)
    exact Ow.Go.mono (k' := 25) (n' := 5152) (by decide) (by decide) (by simp) (seg88_1 hw G GS (dl0 := dl0) (dl1 := dl1) (dl2 := px0) (dl3 := dl3) (pa0 := pa0) (pa1 := u1) B  o3)
set_option maxRecDepth 65536 in
set_option maxHeartbeats 40000000 in
theorem con_principal_17 {l : Launch} {Z : State} {n0 : Nat} {a0 : Array Value} {cz : Int32} {sf : Value} (hw : Hw a0 Z) (G : Ow.Glo Z cz sf) {u0 u1 u2 u3 u4 : Nat} (GS : GlS Z u0 u1 u2 u3 u4) {pa0 : Nat} {h0 : Heap} (O0 : Old Z n0 h0) :
    Ow.Con l Z EL1 n0 my16 prog_18_method_2_code 1 (Option.some (Jvm.ClassFile.FieldType.object "com/example/object_grants/objectgrants/accesslist/Recipient")) [] ({ frames := 3, cells := 5, slots := 42, locals := 39 } : Room) #[(.ref pa0)] [] h0 (fun v h S' => (∃ r0 : Nat, v = some (.ref r0) ∧ Keep h0 h [] ∧ h0.size ≤ r0 ∧ Exa Z h r0 "com/example/object_grants/objectgrants/accesslist/Recipient" ∧ Fld Z h r0 "com/example/object_grants/objectgrants/accesslist/Recipient" "kind" "Lcom/example/object_grants/objectgrants/accesslist/Recipient$Kind;" (.ref u2) ∧ Fld Z h r0 "com/example/object_grants/objectgrants/accesslist/Recipient" "name" "Ljava/lang/String;" (.ref pa0) ∧ S' = [])) := by
  refine Ow.Con.enter (Ls := #[.val (.ref pa0)]) (plainFor_of_name pn2) O0 (hEW hw) (hSA hw) ?_
  intro p e s m below meth c B
  have z0 := Ow.old_le O0
  have lu0 : (u0 : Nat) < n0 := O0.1 ▸ GS.2.1.lt
  have lu1 : (u1 : Nat) < n0 := O0.1 ▸ GS.2.2.2.1.lt
  have lu2 : (u2 : Nat) < n0 := O0.1 ▸ GS.2.2.2.2.2.1.lt
  have lu3 : (u3 : Nat) < n0 := O0.1 ▸ GS.2.2.2.2.2.2.2.1.lt
  have lu4 : (u4 : Nat) < n0 := O0.1 ▸ GS.2.2.2.2.2.2.2.2.2.1.lt
  refine Ow.newObj (pc' := 3) (k' := 1) (n' := 2) B e16_0 (w30 hw) (w31 hw) (w28 hw) ?_
  intro h2 a1 ga1 ba1 Kh2 Aa1 Da1
  have zh2 := Kh2.1
  have la1 : (a1 : Nat) < h2.size := Aa1.lt
  have f3 : Fld Z h2 a1 "com/example/object_grants/objectgrants/accesslist/Recipient" "kind" "Lcom/example/object_grants/objectgrants/accesslist/Recipient$Kind;" .null := Da1 (Or.inr (w53 hw)) (ty := (.object "com/example/object_grants/objectgrants/accesslist/Recipient$Kind")) (by decide)
  have f4 : Fld Z h2 a1 "com/example/object_grants/objectgrants/accesslist/Recipient" "name" "Ljava/lang/String;" .null := Da1 (Or.inr (w55 hw)) (ty := (.object "java/lang/String")) (by decide)
  refine Ow.dup (pc' := 4) B e16_3 ?_
  refine Ow.getstatic (pc' := 7) B e16_4 (w116 hw) Via.refl GS.2.2.2.2.1 ?_
  refine Ow.aloadN (pc' := 8) B e16_7 ?_
  refine Ow.Go.old (fun o5 => ?_)
  refine Ow.callInit (pc' := 11) (W := 1) (k' := 5) (n' := 42) (argsL := [(.ref u2), (.ref pa0)]) (rest := [(.ref a1)]) B e16_8 (w35 hw) (w36 hw) (w28 hw) (w37 hw) (con_init_7 hw G GS (pa0 := a1) (pa1 := u2) (pa2 := pa0) o5 Aa1 f3 f4 (by omega)) pd6 ?_
  intro vq6 h7 S8 q6 zh7
  obtain ⟨rfl, Kh7, f9, f10, f11, rfl⟩ := q6
  refine Ow.Go.norm (S' := [a1]) (st' := [(.ref a1)]) (fun _ q => List.mem_append_right _ q) rfl ?_
  exact Ow.retA (S' := []) (t := (.object "com/example/object_grants/objectgrants/accesslist/Recipient")) B e16_11 (⟨a1, rfl, (((Keep.refl _ []).trans Kh2 (fun _ q => nomatch q)).trans Kh7 (allS (Or.inr (by omega)) all0)), (by omega), f9, f10, f11, rfl⟩)
set_option maxRecDepth 65536 in
set_option maxHeartbeats 40000000 in
theorem seg52_3 {l : Launch} {Z : State} {n0 : Nat} {a0 : Array Value} {cz : Int32} {sf : Value} (hw : Hw a0 Z) (G : Ow.Glo Z cz sf) {u0 u1 u2 u3 u4 : Nat} (GS : GlS Z u0 u1 u2 u3 u4) {pa0 : Nat} {px0 : Int32} {dl0 : Int32} {dl1 : Int32} {p : Program} {e : Env} {s : State} {m : MethodId} {args : Array Value} {below : List Frame} {meth : Method} {c : ClassFile.Code} (B : Ow.Bdy p meth c Z EL1 a0 code maxLocals ret x.name) {h0 : Heap} (O0 : Old Z n0 h0) :
    Ow.Go p l e room_1 s m args below meth c Z EL1 n0 x.cls (fun v _ _ => v = some (.int 1)) [] h0 20 5110 52 #[.val (.int dl0), .val (.int dl1), .val (.int px0), .val (.ref pa0), .unset, .unset, .unset] [] := by
  have z0 := Ow.old_le O0
  have lu0 : (u0 : Nat) < n0 := O0.1 ▸ GS.2.1.lt
  have lu1 : (u1 : Nat) < n0 := O0.1 ▸ GS.2.2.2.1.lt
  have lu2 : (u2 : Nat) < n0 := O0.1 ▸ GS.2.2.2.2.2.1.lt
  have lu3 : (u3 : Nat) < n0 := O0.1 ▸ GS.2.2.2.2.2.2.2.1.lt
  have lu4 : (u4 : Nat) < n0 := O0.1 ▸ GS.2.2.2.2.2.2.2.2.2.1.lt
  refine Ow.iloadN (pc' := 53) B at_52 ?_
  refine Ow.iconst (pc' := 54) (x := (1 : Int32)) B at_53 ?_
  refine Ow.iand (pc' := 55) (z := (px0 &&& (1 : Int32))) B at_54 ?_
  by_cases c1 : (px0 &&& (1 : Int32)) = (0 : Int32)
  · refine Ow.ifT (pc' := 65) B at_55 (teq c1).1 ?_
    refine Ow.aloadN (pc' := 66) B at_65 ?_
    refine Ow.Go.old (fun o2 => ?_)
    refine Ow.callStatic (pc' := 69) (W := 0) (k' := 25) (n' := 5152) (argsL := [(.ref pa0)]) (rest := []) B at_66 (w26 hw) (w27 hw) (w28 hw) (w29 hw) (con_authority_8 hw G GS (pa0 := pa0) o2) pd7 ?_
    intro vq3 h4 S5 q3 zh4
    obtain ⟨r6, rfl, Kh4, br6, f7, f8, f9, rfl⟩ := q3
    have lr6 : (r6 : Nat) < h4.size := f7.lt
    refine Ow.Go.norm (S' := []) (st' := [(.ref r6)]) (fun _ q => List.mem_append_right _ q) rfl ?_
    refine Ow.astore (pc' := 71) (Ls' := #[.val (.int dl0), .val (.int dl1), .val (.int px0), .val (.ref pa0), .val (.ref r6), .unset, .unset]) B at_69 ?_
    refine Ow.Go.old (fun o10 => ?_)
    exact Ow.Go.mono (k' := 25) (n' := 5152) (by decide) (by decide) (by simp) (seg71_2 hw G GS (dl0 := dl0) (dl1 := dl1) (dl3 := pa0) (pa0 := r6) (px0 := px0) B  o10)
  · refine Ow.ifF (pc' := 58) B at_55 (feq c1).1 ?_
    refine Ow.aloadN (pc' := 59) B at_58 ?_
    refine Ow.Go.old (fun o11 => ?_)
    refine Ow.callStatic (pc' := 62) (W := 0) (k' := 25) (n' := 5152) (argsL := [(.ref pa0)]) (rest := []) B at_59 (w113 hw) (w114 hw) (w28 hw) (w115 hw) (con_principal_17 hw G GS (pa0 := pa0) o11) pd7 ?_
    intro vq12 h13 S14 q12 zh13
    obtain ⟨r15, rfl, Kh13, br15, f16, f17, f18, rfl⟩ := q12
    have lr15 : (r15 : Nat) < h13.size := f16.lt
    refine Ow.Go.norm (S' := []) (st' := [(.ref r15)]) (fun _ q => List.mem_append_right _ q) rfl ?_
    refine Ow.goto (pc' := 69) B at_62 ?_
    refine Ow.astore (pc' := 71) (Ls' := #[.val (.int dl0), .val (.int dl1), .val (.int px0), .val (.ref pa0), .val (.ref r15), .unset, .unset]) B at_69 ?_
    refine Ow.Go.old (fun o19 => ?_)
    exact Ow.Go.mono (k' := 25) (n' := 5152) (by decide) (by decide) (by simp) (seg71_2 hw G GS (dl0 := dl0) (dl1 := dl1) (dl3 := pa0) (pa0 := r15) (px0 := px0) B  o19)
set_option maxRecDepth 65536 in
set_option maxHeartbeats 40000000 in
theorem con_compress_18 {l : Launch} {Z : State} {n0 : Nat} {a0 : Array Value} {cz : Int32} {sf : Value} (hw : Hw a0 Z) (G : Ow.Glo Z cz sf) {u0 u1 u2 u3 u4 : Nat} (GS : GlS Z u0 u1 u2 u3 u4) {pa0 : Nat} {pa1 : Nat} {px0 : Int32} {px1 : Int32} {pk0 : ClassId} {pk1 : ClassId} {h0 : Heap} (O0 : Old Z n0 h0) (hf0 : Arv Z h0 pa0 pk0 .char (2 : Int32) [(.int px0), (.int px1)] (.int 0)) (hf1 : Arv Z h0 pa1 pk1 .byte (2 : Int32) [(.int (0 : Int32)), (.int (0 : Int32))] (.int 0)) (hn0 : n0 ≤ pa0) (hn1 : n0 ≤ pa1) (hd0 : pa0 ≠ pa1) (hk0 : ¬ ((255 : Int32) < px0)) (hk1 : ¬ ((255 : Int32) < px1)) (hc_px0 : nar .char px0 = px0) (hc_px1 : nar .char px1 = px1) :
    Ow.Con l Z EL1 n0 my17 jdk_52_method_21_code 7 (Option.some Jvm.ClassFile.FieldType.int) [] ({ frames := 0, cells := 0, slots := 0, locals := 0 } : Room) #[(.ref pa0), (.int (0 : Int32)), (.ref pa1), (.int (0 : Int32)), (.int (2 : Int32))] [pa1] h0 (fun v h S' => (v = some (.int (2 : Int32)) ∧ Keep h0 h [pa1] ∧ Arv Z h pa1 pk1 .byte (2 : Int32) [(.int px0.toInt8.toInt32), (.int px1.toInt8.toInt32)] (.int 0) ∧ S' = [])) := by
  refine Ow.Con.enter (Ls := #[.val (.ref pa0), .val (.int (0 : Int32)), .val (.ref pa1), .val (.int (0 : Int32)), .val (.int (2 : Int32)), .unset, .unset]) (plainFor_of_name pn7) O0 (hEW hw) (hSA hw) ?_
  intro p e s m below meth c B
  have z0 := Ow.old_le O0
  have lu0 : (u0 : Nat) < n0 := O0.1 ▸ GS.2.1.lt
  have lu1 : (u1 : Nat) < n0 := O0.1 ▸ GS.2.2.2.1.lt
  have lu2 : (u2 : Nat) < n0 := O0.1 ▸ GS.2.2.2.2.2.1.lt
  have lu3 : (u3 : Nat) < n0 := O0.1 ▸ GS.2.2.2.2.2.2.2.1.lt
  have lu4 : (u4 : Nat) < n0 := O0.1 ▸ GS.2.2.2.2.2.2.2.2.2.1.lt
  have lpa0 : (pa0 : Nat) < h0.size := hf0.lt
  have lpa1 : (pa1 : Nat) < h0.size := hf1.lt
  refine Ow.iconst (pc' := 1) (x := (0 : Int32)) B e20_0 ?_
  refine Ow.istore (pc' := 3) (Ls' := #[.val (.ref pa0), .val (.int (0 : Int32)), .val (.ref pa1), .val (.int (0 : Int32)), .val (.int (2 : Int32)), .val (.int (0 : Int32)), .unset]) B e20_1 ?_
  refine Ow.iload (pc' := 5) B e20_3 ?_
  refine Ow.iload (pc' := 7) B e20_5 ?_
  refine Ow.icmpF (pc' := 10) B e20_7 (by decide) ?_
  refine Ow.aloadN (pc' := 11) B e20_10 ?_
  refine Ow.iloadN (pc' := 12) B e20_11 ?_
  refine Ow.caload (pc' := 13) B e20_12 hf0 ⟨by decide, by decide⟩ rfl ?_
  refine Ow.istore (pc' := 15) (Ls' := #[.val (.ref pa0), .val (.int (0 : Int32)), .val (.ref pa1), .val (.int (0 : Int32)), .val (.int (2 : Int32)), .val (.int (0 : Int32)), .val (.int px0)]) B e20_13 ?_
  refine Ow.iload (pc' := 17) B e20_15 ?_
  refine Ow.sipush (pc' := 20) (x := (255 : Int32)) B e20_17 ?_
  refine Ow.icmpT (pc' := 26) B e20_20 (flt (hk0)).2.2.2 ?_
  refine Ow.aloadN (pc' := 27) B e20_26 ?_
  refine Ow.iloadN (pc' := 28) B e20_27 ?_
  refine Ow.iload (pc' := 30) B e20_28 ?_
  refine Ow.i2b (pc' := 31) (z := px0.toInt8.toInt32) B e20_30 ?_
  refine Ow.bastore (pc' := 32) (i := 0) B e20_31 hf1 ⟨by decide, by decide⟩ (by simp) ?_
  intro h1 Kh1 V0h1
  have zh1 := Kh1.1
  have V2 : Arv Z h1 pa1 pk1 .byte (2 : Int32) [(.int px0.toInt8.toInt32), (.int (0 : Int32))] (.int 0) := (by have e0 := V0h1; rw [show nar .byte px0.toInt8.toInt32 = px0.toInt8.toInt32 from Ow.nar_b _] at e0; exact e0)
  refine Ow.iinc (pc' := 35) (y := (1 : Int32)) (Ls' := #[.val (.ref pa0), .val (.int (1 : Int32)), .val (.ref pa1), .val (.int (0 : Int32)), .val (.int (2 : Int32)), .val (.int (0 : Int32)), .val (.int px0)]) B e20_32 ?_
  refine Ow.iinc (pc' := 38) (y := (1 : Int32)) (Ls' := #[.val (.ref pa0), .val (.int (1 : Int32)), .val (.ref pa1), .val (.int (1 : Int32)), .val (.int (2 : Int32)), .val (.int (0 : Int32)), .val (.int px0)]) B e20_35 ?_
  refine Ow.iinc (pc' := 41) (y := (1 : Int32)) (Ls' := #[.val (.ref pa0), .val (.int (1 : Int32)), .val (.ref pa1), .val (.int (1 : Int32)), .val (.int (2 : Int32)), .val (.int (1 : Int32)), .val (.int px0)]) B e20_38 ?_
  refine Ow.goto (pc' := 3) B e20_41 ?_
  refine Ow.iload (pc' := 5) B e20_3 ?_
  refine Ow.iload (pc' := 7) B e20_5 ?_
  refine Ow.icmpF (pc' := 10) B e20_7 (by decide) ?_
  refine Ow.aloadN (pc' := 11) B e20_10 ?_
  refine Ow.iloadN (pc' := 12) B e20_11 ?_
  have f3 := hf0.keep Kh1 (Ow.ninS (by omega) Ow.nin0)
  refine Ow.caload (pc' := 13) B e20_12 f3 ⟨by decide, by decide⟩ rfl ?_
  refine Ow.istore (pc' := 15) (Ls' := #[.val (.ref pa0), .val (.int (1 : Int32)), .val (.ref pa1), .val (.int (1 : Int32)), .val (.int (2 : Int32)), .val (.int (1 : Int32)), .val (.int px1)]) B e20_13 ?_
  refine Ow.iload (pc' := 17) B e20_15 ?_
  refine Ow.sipush (pc' := 20) (x := (255 : Int32)) B e20_17 ?_
  refine Ow.icmpT (pc' := 26) B e20_20 (flt (hk1)).2.2.2 ?_
  refine Ow.aloadN (pc' := 27) B e20_26 ?_
  refine Ow.iloadN (pc' := 28) B e20_27 ?_
  refine Ow.iload (pc' := 30) B e20_28 ?_
  refine Ow.i2b (pc' := 31) (z := px1.toInt8.toInt32) B e20_30 ?_
  refine Ow.bastore (pc' := 32) (i := 1) B e20_31 V2 ⟨by decide, by decide⟩ (by simp) ?_
  intro h4 Kh4 V0h4
  have zh4 := Kh4.1
  have V5 : Arv Z h4 pa1 pk1 .byte (2 : Int32) [(.int px0.toInt8.toInt32), (.int px1.toInt8.toInt32)] (.int 0) := (by have e0 := V0h4; rw [show nar .byte px1.toInt8.toInt32 = px1.toInt8.toInt32 from Ow.nar_b _] at e0; exact e0)
  refine Ow.iinc (pc' := 35) (y := (2 : Int32)) (Ls' := #[.val (.ref pa0), .val (.int (2 : Int32)), .val (.ref pa1), .val (.int (1 : Int32)), .val (.int (2 : Int32)), .val (.int (1 : Int32)), .val (.int px1)]) B e20_32 ?_
  refine Ow.iinc (pc' := 38) (y := (2 : Int32)) (Ls' := #[.val (.ref pa0), .val (.int (2 : Int32)), .val (.ref pa1), .val (.int (2 : Int32)), .val (.int (2 : Int32)), .val (.int (1 : Int32)), .val (.int px1)]) B e20_35 ?_
  refine Ow.iinc (pc' := 41) (y := (2 : Int32)) (Ls' := #[.val (.ref pa0), .val (.int (2 : Int32)), .val (.ref pa1), .val (.int (2 : Int32)), .val (.int (2 : Int32)), .val (.int (2 : Int32)), .val (.int px1)]) B e20_38 ?_
  refine Ow.goto (pc' := 3) B e20_41 ?_
  refine Ow.iload (pc' := 5) B e20_3 ?_
  refine Ow.iload (pc' := 7) B e20_5 ?_
  refine Ow.icmpT (pc' := 44) B e20_7 (by decide) ?_
  refine Ow.iload (pc' := 46) B e20_44 ?_
  exact Ow.retI (S' := []) (t := .int) B e20_46 (⟨rfl, (((Keep.refl _ [pa1]).trans Kh1 (allS (Or.inl (by simp)) all0)).trans Kh4 (allS (Or.inl (by simp)) all0)), V5, rfl⟩)
set_option maxRecDepth 65536 in
set_option maxHeartbeats 40000000 in
theorem con_compress_19 {l : Launch} {Z : State} {n0 : Nat} {a0 : Array Value} {cz : Int32} {sf : Value} (hw : Hw a0 Z) (G : Ow.Glo Z cz sf) {u0 u1 u2 u3 u4 : Nat} (GS : GlS Z u0 u1 u2 u3 u4) {pa0 : Nat} {px0 : Int32} {px1 : Int32} {pk0 : ClassId} {h0 : Heap} (O0 : Old Z n0 h0) (hf0 : Arv Z h0 pa0 pk0 .char (2 : Int32) [(.int px0), (.int px1)] (.int 0)) (hn0 : n0 ≤ pa0) (hk0 : ¬ ((255 : Int32) < px0)) (hk1 : ¬ ((255 : Int32) < px1)) (hc_px0 : nar .char px0 = px0) (hc_px1 : nar .char px1 = px1) :
    Ow.Con l Z EL1 n0 my18 jdk_52_method_16_code 6 (Option.some (Jvm.ClassFile.FieldType.array Jvm.ClassFile.FieldType.byte)) [] ({ frames := 1, cells := 1, slots := 2, locals := 18 } : Room) #[(.ref pa0), (.int (0 : Int32)), (.int (2 : Int32))] [] h0 (fun v h S' => (∃ r0 : Nat, ∃ k0 : ClassId, v = some (.ref r0) ∧ Keep h0 h [] ∧ h0.size ≤ r0 ∧ Arv Z h r0 k0 .byte (2 : Int32) [(.int px0.toInt8.toInt32), (.int px1.toInt8.toInt32)] (.int 0) ∧ S' = [r0])) := by
  refine Ow.Con.enter (Ls := #[.val (.ref pa0), .val (.int (0 : Int32)), .val (.int (2 : Int32)), .unset, .unset, .unset]) (plainFor_of_name pn7) O0 (hEW hw) (hSA hw) ?_
  intro p e s m below meth c B
  have z0 := Ow.old_le O0
  have lu0 : (u0 : Nat) < n0 := O0.1 ▸ GS.2.1.lt
  have lu1 : (u1 : Nat) < n0 := O0.1 ▸ GS.2.2.2.1.lt
  have lu2 : (u2 : Nat) < n0 := O0.1 ▸ GS.2.2.2.2.2.1.lt
  have lu3 : (u3 : Nat) < n0 := O0.1 ▸ GS.2.2.2.2.2.2.2.1.lt
  have lu4 : (u4 : Nat) < n0 := O0.1 ▸ GS.2.2.2.2.2.2.2.2.2.1.lt
  have lpa0 : (pa0 : Nat) < h0.size := hf0.lt
  refine Ow.iloadN (pc' := 1) B e19_0 ?_
  refine Ow.newArr (pc' := 3) (k' := 1) (n' := 2) (cap := 2) B e19_1 (w14 hw) (by decide) (by decide) ?_
  intro h2 a1 ka1 ga1 ba1 Kh2 V0a1
  have zh2 := Kh2.1
  have la1 : (a1 : Nat) < h2.size := V0a1.lt
  have Va1 : Arv Z h2 a1 ka1 .byte (2 : Int32) [(.int 0), (.int 0)] (.int 0) := V0a1.pad (pad_rep [] (.int 0) 2)
  refine Ow.astoreN (pc' := 4) (Ls' := #[.val (.ref pa0), .val (.int (0 : Int32)), .val (.int (2 : Int32)), .val (.ref a1), .unset, .unset]) B e19_3 ?_
  refine Ow.aloadN (pc' := 5) B e19_4 ?_
  refine Ow.iloadN (pc' := 6) B e19_5 ?_
  refine Ow.aloadN (pc' := 7) B e19_6 ?_
  refine Ow.iconst (pc' := 8) (x := (0 : Int32)) B e19_7 ?_
  refine Ow.iloadN (pc' := 9) B e19_8 ?_
  refine Ow.Go.old (fun o3 => ?_)
  have f4 := hf0.keep Kh2 Ow.nin0
  refine Ow.callStatic (pc' := 12) (W := 0) (k' := 1) (n' := 2) (argsL := [(.ref pa0), (.int (0 : Int32)), (.ref a1), (.int (0 : Int32)), (.int (2 : Int32))]) (rest := []) B e19_9 (w130 hw) (w131 hw) (w128 hw) (w132 hw) (con_compress_18 hw G GS (pa0 := pa0) (pa1 := a1) (px0 := px0) (px1 := px1) (pk0 := pk0) (pk1 := ka1) o3 f4 Va1 (by omega) (by omega) (by omega) (hk0) (hk1) hc_px0 hc_px1) pd14 ?_
  intro vq5 h6 S7 q5 zh6
  obtain ⟨rfl, Kh6, f8, rfl⟩ := q5
  refine Ow.Go.norm (S' := [a1]) (st' := [(.int (2 : Int32))]) (fun _ q => List.mem_append_right _ q) rfl ?_
  refine Ow.istore (pc' := 14) (Ls' := #[.val (.ref pa0), .val (.int (0 : Int32)), .val (.int (2 : Int32)), .val (.ref a1), .val (.int (2 : Int32)), .unset]) B e19_12 ?_
  refine Ow.iload (pc' := 16) B e19_14 ?_
  refine Ow.iloadN (pc' := 17) B e19_16 ?_
  refine Ow.icmpT (pc' := 57) B e19_17 (by decide) ?_
  refine Ow.aloadN (pc' := 58) B e19_57 ?_
  exact Ow.retA (S' := [a1]) (t := (.array .byte)) B e19_58 (⟨a1, ka1, rfl, (((Keep.refl _ []).trans Kh2 (fun _ q => nomatch q)).trans Kh6 (allS (Or.inr (by omega)) all0)), (by omega), f8, rfl⟩)
set_option maxRecDepth 65536 in
set_option maxHeartbeats 40000000 in
theorem con_coderFromArrayLen_20 {l : Launch} {Z : State} {n0 : Nat} {a0 : Array Value} {cz : Int32} {sf : Value} (hw : Hw a0 Z) (G : Ow.Glo Z cz sf) {u0 u1 u2 u3 u4 : Nat} (GS : GlS Z u0 u1 u2 u3 u4) {pa0 : Nat} {px0 : Int32} {px1 : Int32} {pk0 : ClassId} {h0 : Heap} (O0 : Old Z n0 h0) (hf0 : Arv Z h0 pa0 pk0 .byte (2 : Int32) [(.int px0.toInt8.toInt32), (.int px1.toInt8.toInt32)] (.int 0)) (hn0 : n0 ≤ pa0) (hc_px0 : nar .char px0 = px0) (hc_px1 : nar .char px1 = px1) :
    Ow.Con l Z EL1 n0 my19 jdk_52_method_15_code 2 (Option.some Jvm.ClassFile.FieldType.byte) [] ({ frames := 0, cells := 0, slots := 0, locals := 0 } : Room) #[(.ref pa0), (.int (2 : Int32))] [pa0] h0 (fun v h S' => (v = some (.int (0 : Int32)) ∧ h = h0 ∧ S' = [])) := by
  refine Ow.Con.enter (Ls := #[.val (.ref pa0), .val (.int (2 : Int32))]) (plainFor_of_name pn7) O0 (hEW hw) (hSA hw) ?_
  intro p e s m below meth c B
  have z0 := Ow.old_le O0
  have lu0 : (u0 : Nat) < n0 := O0.1 ▸ GS.2.1.lt
  have lu1 : (u1 : Nat) < n0 := O0.1 ▸ GS.2.2.2.1.lt
  have lu2 : (u2 : Nat) < n0 := O0.1 ▸ GS.2.2.2.2.2.1.lt
  have lu3 : (u3 : Nat) < n0 := O0.1 ▸ GS.2.2.2.2.2.2.2.1.lt
  have lu4 : (u4 : Nat) < n0 := O0.1 ▸ GS.2.2.2.2.2.2.2.2.2.1.lt
  have lpa0 : (pa0 : Nat) < h0.size := hf0.lt
  refine Ow.iloadN (pc' := 1) B e21_0 ?_
  refine Ow.aloadN (pc' := 2) B e21_1 ?_
  refine Ow.arrlen (pc' := 3) B e21_2 hf0 ?_
  refine Ow.isub (pc' := 4) (z := (0 : Int32)) B e21_3 ?_
  refine Ow.bipush (pc' := 6) (x := (31 : Int32)) B e21_4 ?_
  refine Ow.iushr (pc' := 7) (z := (0 : Int32)) B e21_6 ?_
  refine Ow.i2b (pc' := 8) (z := (0 : Int32)) B e21_7 ?_
  exact Ow.retI (S' := []) (t := .byte) B e21_8 (⟨rfl, rfl, rfl⟩)
set_option maxRecDepth 65536 in
set_option maxHeartbeats 40000000 in
theorem con_init_21 {l : Launch} {Z : State} {n0 : Nat} {a0 : Array Value} {cz : Int32} {sf : Value} (hw : Hw a0 Z) (G : Ow.Glo Z cz sf) {u0 u1 u2 u3 u4 : Nat} (GS : GlS Z u0 u1 u2 u3 u4) {pa0 : Nat} {pa1 : Nat} {px0 : Int32} {px1 : Int32} {pk0 : ClassId} {h0 : Heap} (O0 : Old Z n0 h0) (hf0 : Exa Z h0 pa0 "java/lang/String") (hf1 : Fld Z h0 pa0 "java/lang/String" "coder" "B" (.int (0 : Int32))) (hf2 : Fld Z h0 pa0 "java/lang/String" "value" "[B" .null) (hf3 : Arv Z h0 pa1 pk0 .char (2 : Int32) [(.int px0), (.int px1)] (.int 0)) (hn0 : n0 ≤ pa0) (hn1 : n0 ≤ pa1) (hk0 : ¬ ((255 : Int32) < px0)) (hk1 : ¬ ((255 : Int32) < px1)) (hc_px0 : nar .char px0 = px0) (hc_px1 : nar .char px1 = px1) :
    Ow.Con l Z EL1 n0 my20 jdk_42_method_149_code 6 (Option.none : Option Jvm.ClassFile.FieldType) [] ({ frames := 2, cells := 1, slots := 2, locals := 35 } : Room) #[(.ref pa0), (.ref pa1), (.int (0 : Int32)), (.int (2 : Int32)), .null] [pa0] h0 (fun v h S' => (∃ r0 : Nat, ∃ k0 : ClassId, v = none ∧ Keep h0 h [pa0] ∧ h0.size ≤ r0 ∧ Exa Z h pa0 "java/lang/String" ∧ Fld Z h pa0 "java/lang/String" "coder" "B" (.int (0 : Int32)) ∧ Fld Z h pa0 "java/lang/String" "value" "[B" (.ref r0) ∧ Arv Z h r0 k0 .byte (2 : Int32) [(.int px0.toInt8.toInt32), (.int px1.toInt8.toInt32)] (.int 0) ∧ S' = [r0])) := by
  refine Ow.Con.enter (Ls := #[.val (.ref pa0), .val (.ref pa1), .val (.int (0 : Int32)), .val (.int (2 : Int32)), .val .null, .unset]) (plainFor_of_name pn0) O0 (hEW hw) (hSA hw) ?_
  intro p e s m below meth c B
  have z0 := Ow.old_le O0
  have lu0 : (u0 : Nat) < n0 := O0.1 ▸ GS.2.1.lt
  have lu1 : (u1 : Nat) < n0 := O0.1 ▸ GS.2.2.2.1.lt
  have lu2 : (u2 : Nat) < n0 := O0.1 ▸ GS.2.2.2.2.2.1.lt
  have lu3 : (u3 : Nat) < n0 := O0.1 ▸ GS.2.2.2.2.2.2.2.1.lt
  have lu4 : (u4 : Nat) < n0 := O0.1 ▸ GS.2.2.2.2.2.2.2.2.2.1.lt
  have lpa0 : (pa0 : Nat) < h0.size := hf0.lt
  have lpa1 : (pa1 : Nat) < h0.size := hf3.lt
  refine Ow.aloadN (pc' := 1) B e18_0 ?_
  refine Ow.objInit (pc' := 4) (W := 0) B e18_1 (w19 hw) (w20 hw) (w21 hw) ?_
  refine Ow.iloadN (pc' := 5) B e18_4 ?_
  refine Ow.ifT (pc' := 27) B e18_5 (by decide) ?_
  refine Ow.getstatic (pc' := 30) B e18_27 (w4 hw) Via.refl G.1 ?_
  refine Ow.ifF (pc' := 33) B e18_30 (feq (G.2.1)).1 ?_
  refine Ow.aloadN (pc' := 34) B e18_33 ?_
  refine Ow.iloadN (pc' := 35) B e18_34 ?_
  refine Ow.iloadN (pc' := 36) B e18_35 ?_
  refine Ow.Go.old (fun o1 => ?_)
  refine Ow.callStatic (pc' := 39) (W := 0) (k' := 1) (n' := 2) (argsL := [(.ref pa1), (.int (0 : Int32)), (.int (2 : Int32))]) (rest := []) B e18_36 (w126 hw) (w127 hw) (w128 hw) (w129 hw) (con_compress_19 hw G GS (pa0 := pa1) (px0 := px0) (px1 := px1) (pk0 := pk0) o1 hf3 (by omega) (hk0) (hk1) hc_px0 hc_px1) pd15 ?_
  intro vq2 h3 S4 q2 zh3
  obtain ⟨r5, k6, rfl, Kh3, br5, f7, rfl⟩ := q2
  have lr5 : (r5 : Nat) < h3.size := f7.lt
  refine Ow.Go.norm (S' := [r5, pa0]) (st' := [(.ref r5)]) (fun _ q => q) rfl ?_
  refine Ow.astore (pc' := 41) (Ls' := #[.val (.ref pa0), .val (.ref pa1), .val (.int (0 : Int32)), .val (.int (2 : Int32)), .val .null, .val (.ref r5)]) B e18_39 ?_
  refine Ow.aloadN (pc' := 42) B e18_41 ?_
  refine Ow.aload (pc' := 44) B e18_42 ?_
  refine Ow.iloadN (pc' := 45) B e18_44 ?_
  refine Ow.Go.old (fun o8 => ?_)
  refine Ow.callStatic (pc' := 48) (W := 1) (k' := 1) (n' := 2) (argsL := [(.ref r5), (.int (2 : Int32))]) (rest := [(.ref pa0)]) B e18_45 (w133 hw) (w134 hw) (w128 hw) (w135 hw) (con_coderFromArrayLen_20 hw G GS (pa0 := r5) (px0 := px0) (px1 := px1) (pk0 := k6) o8 f7 (by omega) hc_px0 hc_px1) pd16 ?_
  intro vq9 h10 S11 q9 zh10
  obtain ⟨rfl, rfl, rfl⟩ := q9
  refine Ow.Go.norm (S' := [r5, pa0]) (st' := [(.int (0 : Int32)), (.ref pa0)]) (fun _ q => List.mem_append_right _ q) rfl ?_
  have f12 := hf1.keep Kh3 Ow.nin0
  have f13 := hf0.keep Kh3
  refine Ow.putfield (pc' := 51) (ty := .byte) B e18_48 (w24 hw) Via.refl f12 f13 (Or.inr ⟨(w25 hw), rfl, rfl⟩) (w10 hw) (Or.inl (by simp)) ?_
  intro h14 Wh14
  have f15 := hf2.keep Kh3 Ow.nin0
  have Kh14 := Keep.of_wr Wh14
  have zh14 := Kh14.1
  have f16 : Fld Z h14 pa0 "java/lang/String" "coder" "B" (.int (0 : Int32)) := f12.same Wh14
  have f17 : Fld Z h14 pa0 "java/lang/String" "value" "[B" .null := f15.other Wh14 (Or.inr (slot_ne (a0 := a0) (C := "java/lang/String") (t := (.array .byte)) (t' := .byte) (Or.inr (w23 hw)) (Or.inr (w25 hw)) (by decide) (by decide) (by decide)))
  refine Ow.aloadN (pc' := 52) B e18_51 ?_
  refine Ow.aload (pc' := 54) B e18_52 ?_
  have f18 := f13.keep Kh14
  refine Ow.putfield (pc' := 57) (ty := (.array .byte)) B e18_54 (w22 hw) Via.refl f17 f18 (Or.inr ⟨(w23 hw), rfl, rfl⟩) (w10 hw) (Or.inl (by simp)) ?_
  intro h19 Wh19
  have Kh19 := Keep.of_wr Wh19
  have zh19 := Kh19.1
  have f20 : Fld Z h19 pa0 "java/lang/String" "value" "[B" (.ref r5) := f17.same Wh19
  have f21 : Fld Z h19 pa0 "java/lang/String" "coder" "B" (.int (0 : Int32)) := f16.other Wh19 (Or.inr (slot_ne (a0 := a0) (C := "java/lang/String") (t := .byte) (t' := (.array .byte)) (Or.inr (w25 hw)) (Or.inr (w23 hw)) (by decide) (by decide) (by decide)))
  have f22 := f18.keep Kh19
  have f23 := f7.keep Kh14 (Ow.ninS (by omega) Ow.nin0)
  have f24 := f23.keep Kh19 (Ow.ninS (by omega) Ow.nin0)
  exact Ow.retV (S' := [r5]) B e18_57 (⟨r5, k6, rfl, ((((Keep.refl _ [pa0]).trans Kh3 (fun _ q => nomatch q)).trans Kh14 (allS (Or.inl (by simp)) all0)).trans Kh19 (allS (Or.inl (by simp)) all0)), (by omega), f22, f21, f20, f24, rfl⟩)
set_option maxRecDepth 65536 in
set_option maxHeartbeats 40000000 in
theorem con_init_22 {l : Launch} {Z : State} {n0 : Nat} {a0 : Array Value} {cz : Int32} {sf : Value} (hw : Hw a0 Z) (G : Ow.Glo Z cz sf) {u0 u1 u2 u3 u4 : Nat} (GS : GlS Z u0 u1 u2 u3 u4) {pa0 : Nat} {pa1 : Nat} {px0 : Int32} {px1 : Int32} {pk0 : ClassId} {h0 : Heap} (O0 : Old Z n0 h0) (hf0 : Exa Z h0 pa0 "java/lang/String") (hf1 : Fld Z h0 pa0 "java/lang/String" "coder" "B" (.int (0 : Int32))) (hf2 : Fld Z h0 pa0 "java/lang/String" "value" "[B" .null) (hf3 : Arv Z h0 pa1 pk0 .char (2 : Int32) [(.int px0), (.int px1)] (.int 0)) (hn0 : n0 ≤ pa0) (hn1 : n0 ≤ pa1) (hk0 : ¬ ((255 : Int32) < px0)) (hk1 : ¬ ((255 : Int32) < px1)) (hc_px0 : nar .char px0 = px0) (hc_px1 : nar .char px1 = px1) :
    Ow.Con l Z EL1 n0 my21 jdk_42_method_3_code 2 (Option.none : Option Jvm.ClassFile.FieldType) [] ({ frames := 3, cells := 1, slots := 2, locals := 52 } : Room) #[(.ref pa0), (.ref pa1)] [pa0] h0 (fun v h S' => (∃ r0 : Nat, ∃ k0 : ClassId, v = none ∧ Keep h0 h [pa0] ∧ h0.size ≤ r0 ∧ Exa Z h pa0 "java/lang/String" ∧ Fld Z h pa0 "java/lang/String" "coder" "B" (.int (0 : Int32)) ∧ Fld Z h pa0 "java/lang/String" "value" "[B" (.ref r0) ∧ Arv Z h r0 k0 .byte (2 : Int32) [(.int px0.toInt8.toInt32), (.int px1.toInt8.toInt32)] (.int 0) ∧ S' = [r0])) := by
  refine Ow.Con.enter (Ls := #[.val (.ref pa0), .val (.ref pa1)]) (plainFor_of_name pn0) O0 (hEW hw) (hSA hw) ?_
  intro p e s m below meth c B
  have z0 := Ow.old_le O0
  have lu0 : (u0 : Nat) < n0 := O0.1 ▸ GS.2.1.lt
  have lu1 : (u1 : Nat) < n0 := O0.1 ▸ GS.2.2.2.1.lt
  have lu2 : (u2 : Nat) < n0 := O0.1 ▸ GS.2.2.2.2.2.1.lt
  have lu3 : (u3 : Nat) < n0 := O0.1 ▸ GS.2.2.2.2.2.2.2.1.lt
  have lu4 : (u4 : Nat) < n0 := O0.1 ▸ GS.2.2.2.2.2.2.2.2.2.1.lt
  have lpa0 : (pa0 : Nat) < h0.size := hf0.lt
  have lpa1 : (pa1 : Nat) < h0.size := hf3.lt
  refine Ow.aloadN (pc' := 1) B e17_0 ?_
  refine Ow.aloadN (pc' := 2) B e17_1 ?_
  refine Ow.iconst (pc' := 3) (x := (0 : Int32)) B e17_2 ?_
  refine Ow.aloadN (pc' := 4) B e17_3 ?_
  refine Ow.arrlen (pc' := 5) B e17_4 hf3 ?_
  refine Ow.aconstNull (pc' := 6) B e17_5 ?_
  refine Ow.Go.old (fun o1 => ?_)
  refine Ow.callInit (pc' := 9) (W := 0) (k' := 1) (n' := 2) (argsL := [(.ref pa1), (.int (0 : Int32)), (.int (2 : Int32)), .null]) (rest := []) B e17_6 (w123 hw) (w124 hw) (w2 hw) (w125 hw) (con_init_21 hw G GS (pa0 := pa0) (pa1 := pa1) (px0 := px0) (px1 := px1) (pk0 := pk0) o1 hf0 hf1 hf2 hf3 (by omega) (by omega) (hk0) (hk1) hc_px0 hc_px1) pd17 ?_
  intro vq2 h3 S4 q2 zh3
  obtain ⟨r5, k6, rfl, Kh3, br5, f7, f8, f9, f10, rfl⟩ := q2
  have lr5 : (r5 : Nat) < h3.size := f10.lt
  refine Ow.Go.norm (S' := [r5, pa0]) (st' := []) (fun _ q => q) rfl ?_
  exact Ow.retV (S' := [r5]) B e17_9 (⟨r5, k6, rfl, ((Keep.refl _ [pa0]).trans Kh3 (allS (Or.inl (by simp)) all0)), (by omega), f7, f8, f9, f10, rfl⟩)
set_option maxRecDepth 65536 in
set_option maxHeartbeats 40000000 in
theorem seg52_4 {l : Launch} {Z : State} {n0 : Nat} {a0 : Array Value} {cz : Int32} {sf : Value} (hw : Hw a0 Z) (G : Ow.Glo Z cz sf) {u0 u1 u2 u3 u4 : Nat} (GS : GlS Z u0 u1 u2 u3 u4) {pa0 : Nat} {px0 : Int32} {dl0 : Int32} {dl1 : Int32} {dl4 : Nat} {p : Program} {e : Env} {s : State} {m : MethodId} {args : Array Value} {below : List Frame} {meth : Method} {c : ClassFile.Code} (B : Ow.Bdy p meth c Z EL1 a0 code maxLocals ret x.name) {h0 : Heap} (O0 : Old Z n0 h0) :
    Ow.Go p l e room_1 s m args below meth c Z EL1 n0 x.cls (fun v _ _ => v = some (.int 1)) [] h0 20 5110 52 #[.val (.int dl0), .val (.int dl1), .val (.int px0), .val (.ref pa0), .val (.ref dl4), .unset, .unset] [] := by
  have z0 := Ow.old_le O0
  have lu0 : (u0 : Nat) < n0 := O0.1 ▸ GS.2.1.lt
  have lu1 : (u1 : Nat) < n0 := O0.1 ▸ GS.2.2.2.1.lt
  have lu2 : (u2 : Nat) < n0 := O0.1 ▸ GS.2.2.2.2.2.1.lt
  have lu3 : (u3 : Nat) < n0 := O0.1 ▸ GS.2.2.2.2.2.2.2.1.lt
  have lu4 : (u4 : Nat) < n0 := O0.1 ▸ GS.2.2.2.2.2.2.2.2.2.1.lt
  refine Ow.iloadN (pc' := 53) B at_52 ?_
  refine Ow.iconst (pc' := 54) (x := (1 : Int32)) B at_53 ?_
  refine Ow.iand (pc' := 55) (z := (px0 &&& (1 : Int32))) B at_54 ?_
  by_cases c1 : (px0 &&& (1 : Int32)) = (0 : Int32)
  · refine Ow.ifT (pc' := 65) B at_55 (teq c1).1 ?_
    refine Ow.aloadN (pc' := 66) B at_65 ?_
    refine Ow.Go.old (fun o2 => ?_)
    refine Ow.callStatic (pc' := 69) (W := 0) (k' := 25) (n' := 5152) (argsL := [(.ref pa0)]) (rest := []) B at_66 (w26 hw) (w27 hw) (w28 hw) (w29 hw) (con_authority_8 hw G GS (pa0 := pa0) o2) pd7 ?_
    intro vq3 h4 S5 q3 zh4
    obtain ⟨r6, rfl, Kh4, br6, f7, f8, f9, rfl⟩ := q3
    have lr6 : (r6 : Nat) < h4.size := f7.lt
    refine Ow.Go.norm (S' := []) (st' := [(.ref r6)]) (fun _ q => List.mem_append_right _ q) rfl ?_
    refine Ow.astore (pc' := 71) (Ls' := #[.val (.int dl0), .val (.int dl1), .val (.int px0), .val (.ref pa0), .val (.ref r6), .unset, .unset]) B at_69 ?_
    refine Ow.Go.old (fun o10 => ?_)
    exact Ow.Go.mono (k' := 25) (n' := 5152) (by decide) (by decide) (by simp) (seg71_2 hw G GS (dl0 := dl0) (dl1 := dl1) (dl3 := pa0) (pa0 := r6) (px0 := px0) B  o10)
  · refine Ow.ifF (pc' := 58) B at_55 (feq c1).1 ?_
    refine Ow.aloadN (pc' := 59) B at_58 ?_
    refine Ow.Go.old (fun o11 => ?_)
    refine Ow.callStatic (pc' := 62) (W := 0) (k' := 25) (n' := 5152) (argsL := [(.ref pa0)]) (rest := []) B at_59 (w113 hw) (w114 hw) (w28 hw) (w115 hw) (con_principal_17 hw G GS (pa0 := pa0) o11) pd7 ?_
    intro vq12 h13 S14 q12 zh13
    obtain ⟨r15, rfl, Kh13, br15, f16, f17, f18, rfl⟩ := q12
    have lr15 : (r15 : Nat) < h13.size := f16.lt
    refine Ow.Go.norm (S' := []) (st' := [(.ref r15)]) (fun _ q => List.mem_append_right _ q) rfl ?_
    refine Ow.goto (pc' := 69) B at_62 ?_
    refine Ow.astore (pc' := 71) (Ls' := #[.val (.int dl0), .val (.int dl1), .val (.int px0), .val (.ref pa0), .val (.ref r15), .unset, .unset]) B at_69 ?_
    refine Ow.Go.old (fun o19 => ?_)
    exact Ow.Go.mono (k' := 25) (n' := 5152) (by decide) (by decide) (by simp) (seg71_2 hw G GS (dl0 := dl0) (dl1 := dl1) (dl3 := pa0) (pa0 := r15) (px0 := px0) B  o19)
set_option maxRecDepth 65536 in
set_option maxHeartbeats 40000000 in
theorem lawCon {l : Launch} {Z : State} {n0 : Nat} {a0 : Array Value} {cz : Int32} {sf : Value} (hw : Hw a0 Z) (G : Ow.Glo Z cz sf) {u0 u1 u2 u3 u4 : Nat} (GS : GlS Z u0 u1 u2 u3 u4) (x0 x1 x2 : Int32) {h0 : Heap} (O0 : Old Z n0 h0)  :
    Ow.Con l Z EL1 n0 x code maxLocals ret tables_1 room_1 #[(.int x0), (.int x1), (.int x2)] [] h0 (fun v _ _ => v = some (.int 1)) := by
  refine Ow.Con.enter (Ls := #[.val (.int x0), .val (.int x1), .val (.int x2), .unset, .unset, .unset, .unset]) (plainFor_of_name pn8) O0 (hEW hw) (hSA hw) ?_
  intro p e s m below meth c B
  have z0 := Ow.old_le O0
  have lu0 : (u0 : Nat) < n0 := O0.1 ▸ GS.2.1.lt
  have lu1 : (u1 : Nat) < n0 := O0.1 ▸ GS.2.2.2.1.lt
  have lu2 : (u2 : Nat) < n0 := O0.1 ▸ GS.2.2.2.2.2.1.lt
  have lu3 : (u3 : Nat) < n0 := O0.1 ▸ GS.2.2.2.2.2.2.2.1.lt
  have lu4 : (u4 : Nat) < n0 := O0.1 ▸ GS.2.2.2.2.2.2.2.2.2.1.lt
  refine Ow.iloadN (pc' := 1) B at_0 ?_
  refine Ow.iconst (pc' := 2) (x := (4 : Int32)) B at_1 ?_
  refine Ow.iand (pc' := 3) (z := (x2 &&& (4 : Int32))) B at_2 ?_
  by_cases c1 : (x2 &&& (4 : Int32)) = (0 : Int32)
  · refine Ow.ifT (pc' := 42) B at_3 (teq c1).1 ?_
    refine Ow.iloadN (pc' := 43) B at_42 ?_
    refine Ow.sipush (pc' := 46) (x := (255 : Int32)) B at_43 ?_
    refine Ow.iand (pc' := 47) (z := (x0 &&& (255 : Int32))) B at_46 ?_
    obtain ⟨c2, hc2⟩ : ∃ z : Int32, (x0 &&& (255 : Int32)).toUInt32.toUInt16.toUInt32.toInt32 = z := ⟨_, rfl⟩
    refine Ow.i2c (pc' := 48) (z := c2) (hz := hc2) B at_47 ?_
    refine Ow.Go.old (fun o3 => ?_)
    refine Ow.callStatic (pc' := 51) (W := 0) (k' := 2) (n' := 5) (argsL := [(.int c2)]) (rest := []) B at_48 (w0 hw) (w1 hw) (w2 hw) (w3 hw) (con_valueOf_4 hw G GS (px0 := c2) o3 ((Ow.c255 hc2)) (Ow.cnar hc2)) pd3 ?_
    intro vq4 h5 S6 q4 zh5
    obtain ⟨r7, r8, k9, rfl, Kh5, br7, br8, n10, f11, f12, f13, f14, rfl⟩ := q4
    have lr7 : (r7 : Nat) < h5.size := f11.lt
    have lr8 : (r8 : Nat) < h5.size := f14.lt
    refine Ow.Go.norm (S' := [r8, r7]) (st' := [(.ref r7)]) (fun _ q => q) rfl ?_
    refine Ow.astoreN (pc' := 52) (Ls' := #[.val (.int x0), .val (.int x1), .val (.int x2), .val (.ref r7), .unset, .unset, .unset]) B at_51 ?_
    refine Ow.Go.old (fun o15 => ?_)
    exact Ow.Go.mono (k' := 20) (n' := 5110) (by decide) (by decide) (by simp) (seg52_3 hw G GS (dl0 := x0) (dl1 := x1) (pa0 := r7) (px0 := x2) B  o15)
  · refine Ow.ifF (pc' := 6) B at_3 (feq c1).1 ?_
    refine Ow.iconst (pc' := 7) (x := (2 : Int32)) B at_6 ?_
    refine Ow.newArr (pc' := 9) (k' := 1) (n' := 2) (cap := 2) B at_7 (w118 hw) (by decide) (by decide) ?_
    intro h17 a16 ka16 ga16 ba16 Kh17 V0a16
    have zh17 := Kh17.1
    have la16 : (a16 : Nat) < h17.size := V0a16.lt
    have Va16 : Arv Z h17 a16 ka16 .char (2 : Int32) [(.int 0), (.int 0)] (.int 0) := V0a16.pad (pad_rep [] (.int 0) 2)
    refine Ow.dup (pc' := 10) B at_9 ?_
    refine Ow.iconst (pc' := 11) (x := (0 : Int32)) B at_10 ?_
    refine Ow.iloadN (pc' := 12) B at_11 ?_
    refine Ow.sipush (pc' := 15) (x := (255 : Int32)) B at_12 ?_
    refine Ow.iand (pc' := 16) (z := (x0 &&& (255 : Int32))) B at_15 ?_
    obtain ⟨c18, hc18⟩ : ∃ z : Int32, (x0 &&& (255 : Int32)).toUInt32.toUInt16.toUInt32.toInt32 = z := ⟨_, rfl⟩
    refine Ow.i2c (pc' := 17) (z := c18) (hz := hc18) B at_16 ?_
    refine Ow.castore (pc' := 18) (i := 0) B at_17 Va16 ⟨by decide, by decide⟩ ?_
    intro h19 Kh19 V0h19
    have zh19 := Kh19.1
    have V20 : Arv Z h19 a16 ka16 .char (2 : Int32) [(.int c18), (.int (0 : Int32))] (.int 0) := (by have e0 := V0h19; rw [show nar .char c18 = c18 from (Ow.cnar hc18)] at e0; exact e0)
    refine Ow.dup (pc' := 19) B at_18 ?_
    refine Ow.iconst (pc' := 20) (x := (1 : Int32)) B at_19 ?_
    refine Ow.iloadN (pc' := 21) B at_20 ?_
    refine Ow.sipush (pc' := 24) (x := (255 : Int32)) B at_21 ?_
    refine Ow.iand (pc' := 25) (z := (x1 &&& (255 : Int32))) B at_24 ?_
    obtain ⟨c21, hc21⟩ : ∃ z : Int32, (x1 &&& (255 : Int32)).toUInt32.toUInt16.toUInt32.toInt32 = z := ⟨_, rfl⟩
    refine Ow.i2c (pc' := 26) (z := c21) (hz := hc21) B at_25 ?_
    refine Ow.castore (pc' := 27) (i := 1) B at_26 V20 ⟨by decide, by decide⟩ ?_
    intro h22 Kh22 V0h22
    have zh22 := Kh22.1
    have V23 : Arv Z h22 a16 ka16 .char (2 : Int32) [(.int c18), (.int c21)] (.int 0) := (by have e0 := V0h22; rw [show nar .char c21 = c21 from (Ow.cnar hc21)] at e0; exact e0)
    refine Ow.astore (pc' := 29) (Ls' := #[.val (.int x0), .val (.int x1), .val (.int x2), .unset, .val (.ref a16), .unset, .unset]) B at_27 ?_
    refine Ow.newObj (pc' := 32) (k' := 2) (n' := 6) B at_29 (w119 hw) (w10 hw) (w2 hw) ?_
    intro h25 a24 ga24 ba24 Kh25 Aa24 Da24
    have zh25 := Kh25.1
    have la24 : (a24 : Nat) < h25.size := Aa24.lt
    have f26 : Fld Z h25 a24 "java/lang/String" "value" "[B" .null := Da24 (Or.inr (w23 hw)) (ty := (.array .byte)) (by decide)
    have f27 : Fld Z h25 a24 "java/lang/String" "coder" "B" (.int 0) := Da24 (Or.inr (w25 hw)) (ty := .byte) (by decide)
    refine Ow.dup (pc' := 33) B at_32 ?_
    refine Ow.aload (pc' := 35) B at_33 ?_
    refine Ow.Go.old (fun o28 => ?_)
    have f29 := V23.keep Kh25 Ow.nin0
    refine Ow.callInit (pc' := 38) (W := 1) (k' := 3) (n' := 8) (argsL := [(.ref a16)]) (rest := [(.ref a24)]) B at_35 (w120 hw) (w121 hw) (w2 hw) (w122 hw) (con_init_22 hw G GS (pa0 := a24) (pa1 := a16) (px0 := c18) (px1 := c21) (pk0 := ka16) o28 Aa24 f27 f26 f29 (by omega) (by omega) ((Ow.c255 hc18)) ((Ow.c255 hc21)) (Ow.cnar hc18) (Ow.cnar hc21)) pd18 ?_
    intro vq30 h31 S32 q30 zh31
    obtain ⟨r33, k34, rfl, Kh31, br33, f35, f36, f37, f38, rfl⟩ := q30
    have lr33 : (r33 : Nat) < h31.size := f38.lt
    refine Ow.Go.norm (S' := [r33, a24, a16]) (st' := [(.ref a24)]) (fun _ q => q) rfl ?_
    refine Ow.astoreN (pc' := 39) (Ls' := #[.val (.int x0), .val (.int x1), .val (.int x2), .val (.ref a24), .val (.ref a16), .unset, .unset]) B at_38 ?_
    refine Ow.goto (pc' := 52) B at_39 ?_
    refine Ow.Go.old (fun o39 => ?_)
    exact Ow.Go.mono (k' := 20) (n' := 5110) (by decide) (by decide) (by simp) (seg52_4 hw G GS (dl0 := x0) (dl1 := x1) (dl4 := a16) (pa0 := a24) (px0 := x2) B  o39)
set_option maxRecDepth 65536 in
set_option maxHeartbeats 40000000 in
theorem comes_1 {Post : Tables → Env → Array Value → State → Outcome → State → Prop} (hpost : ∀ tb e args s v u, (limb_1_1.after args s (.returned v) u = true ∧ limb_1_2.after args s (.returned v) u = true ∧ True) → ReturnedEndW s (.returned v) u (Jvm.fieldLocs frame_1_writes args s ++ Jvm.arrayLocs frame_1_arrays args s ++ Jvm.staticLocs frame_1_statics s) 32 5248 → Post tb e args s (.returned v) u) :
    ArmFor flags0 classFile x code maxLocals ret World_1 tables_1 room_1 Calls_1 rest_1 Pre_1 Post := by
  intro l hfl _ _ p e ha hc hk s m args below hf hA hF happ hP
  obtain ⟨hcalls, hrest, hpre⟩ := hP
  obtain ⟨-, -, -, hnamed, -, -, -, hat⟩ := (Spec.applies_iff hf).mp happ
  obtain ⟨hg, hn⟩ := and_e (Cond.before_iff.mp (show (Jvm.Cond.and given_1 narrow_1).before args s = true from hpre))
  obtain ⟨g0, hg⟩ := and_e hg
  obtain ⟨w0, w1, w2, rfl⟩ : ∃ w0 w1 w2 : Value, args = #[w0, w1, w2] := by
    have hs : args.size = 3 := by simpa [Cond.value, given_1] using g0
    obtain ⟨L⟩ := args
    match L, hs with
    | [w0, w1, w2], _ => exact ⟨w0, w1, w2, rfl⟩
  have hw := fun d (hd : d ∈ tables_1) => atoms_spec (ws := Jvm.Cond.code x code maxLocals ret :: tables_1) hat d (List.mem_cons_of_mem _ hd)
  have hsets := (atoms_of jdkStatics_1 (by rw [← rest_1_c_eq]; exact hrest)).1
  obtain ⟨g1, hg⟩ := and_e hg
  obtain ⟨i0, e0⟩ := is_v g1
  obtain rfl : w0 = (.int i0) := Option.some.inj e0
  obtain ⟨g2, hg⟩ := and_e hg
  obtain ⟨i1, e1⟩ := is_v g2
  obtain rfl : w1 = (.int i1) := Option.some.inj e1
  have g3 := hg
  obtain ⟨i2, e2⟩ := is_v g3
  obtain rfl : w2 = (.int i2) := Option.some.inj e2
  obtain ⟨cz, ecz⟩ := is_v (Cond.before_iff.mp (hsets _ (List.mem_of_getElem? (i := 1) rfl)))
  have hcz : cz ≠ 0 := gotF (Cond.eq_ints ecz (Term.int_eval (0))) (not_v (Cond.before_iff.mp (hsets _ (List.mem_of_getElem? (i := 2) rfl))))
  obtain ⟨sf, esf, rsf⟩ := isR_v (Cond.before_iff.mp (hsets _ (List.mem_of_getElem? (i := 8) rfl)))
  have G : Ow.Glo s cz sf := ⟨Sta.start ecz (Or.inl (hsets _ (List.mem_of_getElem? (i := 0) rfl))), hcz, Sta.start esf (Or.inl (hsets _ (List.mem_of_getElem? (i := 7) rfl))), rsf⟩
  have hCH : CHv s EL1 s.vm s.heap := CHv.start (hEW hw) (fun q hq => nomatch hq) (hsets _ (List.mem_of_getElem? (i := 2) rfl)) (w14 hw) (w10 hw)
  obtain ⟨y0, hn⟩ := and_e hn
  obtain ⟨y1, hn⟩ := and_e hn
  obtain ⟨y2, hn⟩ := and_e hn
  have y3 := hn
  obtain ⟨u0, eu0⟩ := exa_v y0
  obtain ⟨u1, eu1⟩ := exa_v y1
  obtain ⟨u2, eu2⟩ := exa_v y2
  obtain ⟨u3, eu3⟩ := exa_v y3
  obtain ⟨u4, eu4⟩ := exa_v (Cond.before_iff.mp (hsets _ (List.mem_of_getElem? (i := 11) rfl)))
  have GS : GlS s u0 u1 u2 u3 u4 := ⟨Sta.start eu0 (Or.inr ⟨(w33 hw), (w34 hw)⟩), Exa.start eu0 y0, Sta.start eu1 (Or.inr ⟨(w57 hw), (w58 hw)⟩), Exa.start eu1 y1, Sta.start eu2 (Or.inr ⟨(w33 hw), (w117 hw)⟩), Exa.start eu2 y2, Sta.start eu3 (Or.inr ⟨(w57 hw), (w137 hw)⟩), Exa.start eu3 y3, Sta.start eu4 (Or.inl (hsets _ (List.mem_of_getElem? (i := 10) rfl))), Exa.start eu4 (Cond.before_iff.mp (hsets _ (List.mem_of_getElem? (i := 11) rfl))), Fld.start (by have q := null_v (Cond.before_iff.mp (hsets _ (List.mem_of_getElem? (i := 12) rfl))); rw [fld_at eu4] at q; exact q)⟩
  obtain ⟨n, o, h1, h2, h3, v, L, S', rfl, ⟨rfl, N, -, -⟩, -, hq⟩ := lawCon hw G GS i0 i1 i2 (Old.start s) p e ha hc hk s m _ below hf ((Spec.applies_iff_loose hf).mp happ).1 ⟨rfl, State.Warmed39.refl s, rfl, hCH, Ow.SafeL.nil⟩ trivial
  refine ⟨n, _, h1, h2, h3, hpost _ _ _ _ _ _ ⟨Cond.after_iff.mpr rfl, Cond.after_iff.mpr (eq_i res_at (Term.int_eval (1)) rfl), trivial⟩ ⟨hq.1, hq.2.1, hq.2.2.1, (hq.2.2.2.sift fun y hy => Or.inr (N y hy)).mono (by decide) (by decide)⟩⟩
theorem main_1_1 : Claimed_1_1 := comes_1 fun _ _ _ _ _ _ h hF => ⟨h.1, hF⟩
theorem main_1_2 : Claimed_1_2 := comes_1 fun _ _ _ _ _ _ h hF => ⟨h.2.1, hF⟩
end Jvm.Pilot.@@N@@
namespace Jvm.Pilot.@@N@@
open Jvm Jvm.ClassFile Sem Op Lib Jvm.Free Jvm.Stand Jvm.Pilot.@@N@@.Jvm.D
/-! MADE BY PROGRAM (witnessworld.py) out of the Statement's table words and the real class files: 27 classes; the members and pool entries that the words name. The judged class is class 1, her method 1. -/
namespace start1
open Jvm.ClassFile
def u (s : String) : CpInfo := .utf8 (stringToUtf16 s)
/-- a pool by its gaps: so many unusable entries, then the entry; so many at the end -/
def gap : Nat → List CpInfo → List CpInfo
  | 0, r => r
  | n + 1, r => .unusable :: gap n r
def poolList (es : List (Nat × CpInfo)) (last : Nat) : List CpInfo := es.foldr (fun e r => gap e.1 (e.2 :: r)) (gap last [])
def pool (es : List (Nat × CpInfo)) (last : Nat) : Array CpInfo := ⟨poolList es last⟩
def fileOf (pool : Array CpInfo) (this : Nat) (attrs : Array Attribute := #[]) (ms : Array MethodInfo := #[]) (fl : Nat := 33) (sup : Nat := 0) (ifs : Array Nat := #[]) (fds : Array FieldInfo := #[]) : ClassFile where
  minorVersion := 0
  majorVersion := 65
  constantPool := pool
  accessFlags := fl
  thisClass := this
  superClass := sup
  interfaces := ifs
  fields := fds
  methods := ms
  attributes := attrs
def plain (name : String) (sup : Option ClassId) : Class where
  name := name
  kind := .ordinary
  loader := none
  accessFlags := 33
  super := sup
  interfaces := #[]
  cf := none
  fields := #[]
  methods := #[]
  instanceTypes := #[]
  staticTypes := #[]
  resolved := #[]
  callSites := []
  init := .initialized
  statics := none
  mirror := none

def pool0 : Array CpInfo := pool [(5, u "<init>"), (0, u "()V"), (1, .class_ 10), (1, u "java/lang/Object")] 113

def k0c0 : Code := { maxStack := 0, maxLocals := 1, code := object_method_1_code, exceptionTable := #[], attributes := #[] }
def k0m0 : Method := { name := "<init>", desc := "()V", sig := { parameters := [], returnType := none }, accessFlags := 1, code := some k0c0 }
/-- java/lang/Object -/
def k0 : Class := { plain "java/lang/Object" none with
  accessFlags := 33
  interfaces := #[]
  cf := some (fileOf pool0 8 #[] #[{ accessFlags := 1, nameIndex := 5, descriptorIndex := 6, attributes := #[] }] 33 0 #[] #[])
  fields := #[]
  methods := #[k0m0]
  instanceTypes := #[]
  staticTypes := #[]
  resolved := Array.replicate 124 none
  statics := none }

def pool1 : Array CpInfo := pool [(2, .class_ 4), (1, u "java/lang/Object"), (0, u "<init>"), (0, u "()V"), (0, .class_ 8), (0, u "java/lang/String"), (0, .methodref 7 10), (0, .nameAndType 5 11), (0, u "([C)V"), (0, .methodref 7 13), (0, .nameAndType 14 15), (0, u "valueOf"), (0, u "(C)Ljava/lang/String;"), (0, .methodref 17 18), (0, .class_ 19), (0, .nameAndType 20 21), (0, u "com/example/object_grants/objectgrants/accesslist/Recipient"), (0, u "principal"), (0, u "(Ljava/lang/String;)Lcom/example/object_grants/objectgrants/accesslist/Recipient;"), (0, .methodref 17 23), (0, .nameAndType 24 21), (0, u "authority"), (0, .fieldref 26 27), (0, .class_ 28), (0, .nameAndType 29 30), (0, u "com/example/object_grants/objectgrants/field/Access"), (0, u "GRANTED"), (0, u "Lcom/example/object_grants/objectgrants/field/Access;"), (0, .fieldref 26 32), (0, .nameAndType 33 30), (0, u "DENIED"), (0, .methodref 35 36), (0, .class_ 37), (0, .nameAndType 38 39), (0, u "com/example/object_grants/objectgrants/field/GroupGrant"), (0, u "of"), (0, u "(Lcom/example/object_grants/objectgrants/accesslist/Recipient;Lcom/example/object_grants/objectgrants/field/Access;)Lcom/example/object_grants/objectgrants/field/GroupGrant;"), (0, .methodref 35 41), (0, .nameAndType 42 43), (0, u "recipient"), (0, u "()Lcom/example/object_grants/objectgrants/accesslist/Recipient;"), (0, .methodref 35 45), (0, .nameAndType 46 47), (0, u "access"), (0, u "()Lcom/example/object_grants/objectgrants/field/Access;"), (0, .methodref 35 49), (0, .nameAndType 50 51), (0, u "items"), (0, u "()Ljava/util/Optional;"), (0, .methodref 53 54), (0, .class_ 55), (0, .nameAndType 56 57), (0, u "java/util/Optional"), (0, u "isEmpty"), (0, u "()Z"), (0, .methodref 35 59), (0, .nameAndType 60 57), (0, u "combinedByOr"), (0, .class_ 62), (0, u "com/example/object_grants/objectgrants/field/GroupGrantOfPinLaw"), (2, u "law"), (0, u "(III)Z")] 3

def k1m0 : Method := { name := "<init>", desc := "()V", sig := { parameters := [], returnType := none }, accessFlags := 1, code := none }
def k1c1 : Code := { maxStack := 5, maxLocals := 7, code := code, exceptionTable := #[], attributes := #[] }
def k1m1 : Method := { name := "law", desc := "(III)Z", sig := { parameters := [.int, .int, .int], returnType := some .boolean }, accessFlags := 9, code := some k1c1 }
/-- com/example/object_grants/objectgrants/field/GroupGrantOfPinLaw -/
def k1 : Class := { plain "com/example/object_grants/objectgrants/field/GroupGrantOfPinLaw" (some 0) with
  accessFlags := 49
  interfaces := #[]
  cf := some (fileOf pool1 61 #[] #[{ accessFlags := 1, nameIndex := 5, descriptorIndex := 6, attributes := #[] }, { accessFlags := 9, nameIndex := 65, descriptorIndex := 66, attributes := #[] }] 49 2 #[] #[])
  fields := #[]
  methods := #[k1m0, k1m1]
  instanceTypes := #[]
  staticTypes := #[]
  resolved := Array.replicate 70 none
  statics := none }

def pool2 : Array CpInfo := pool [(1, .class_ 2), (0, u "java/io/Serializable"), (0, .class_ 4), (0, u "java/lang/Object")] 2

/-- java/io/Serializable -/
def k2 : Class := { plain "java/io/Serializable" (some 0) with
  accessFlags := 1537
  interfaces := #[]
  cf := some (fileOf pool2 1 #[] #[] 1537 3 #[] #[])
  fields := #[]
  methods := #[]
  instanceTypes := #[]
  staticTypes := #[]
  resolved := Array.replicate 7 none
  statics := none }

def pool3 : Array CpInfo := pool [(1, .class_ 2), (0, u "java/lang/Comparable"), (0, .class_ 4), (0, u "java/lang/Object")] 7

/-- java/lang/Comparable -/
def k3 : Class := { plain "java/lang/Comparable" (some 0) with
  accessFlags := 1537
  interfaces := #[]
  cf := some (fileOf pool3 1 #[] #[] 1537 3 #[] #[])
  fields := #[]
  methods := #[]
  instanceTypes := #[]
  staticTypes := #[]
  resolved := Array.replicate 12 none
  statics := none }

def pool4 : Array CpInfo := pool [(2, .class_ 4), (1, u "java/lang/CharSequence"), (42, .class_ 48), (0, u "java/lang/CharSequence$1CodePointIterator"), (10, .class_ 60), (0, u "java/lang/CharSequence$1CharIterator"), (5, .class_ 67), (0, u "java/lang/Object")] 63

/-- java/lang/CharSequence -/
def k4 : Class := { plain "java/lang/CharSequence" (some 0) with
  accessFlags := 1537
  interfaces := #[]
  cf := some (fileOf pool4 2 #[.nestMembers #[47, 59]] #[] 1537 66 #[] #[])
  fields := #[]
  methods := #[]
  instanceTypes := #[]
  staticTypes := #[]
  resolved := Array.replicate 131 none
  statics := none }

def pool5 : Array CpInfo := pool [(1, .class_ 2), (0, u "java/lang/constant/Constable"), (0, .class_ 4), (0, u "java/lang/Object")] 6

/-- java/lang/constant/Constable -/
def k5 : Class := { plain "java/lang/constant/Constable" (some 0) with
  accessFlags := 1537
  interfaces := #[]
  cf := some (fileOf pool5 1 #[] #[] 1537 3 #[] #[])
  fields := #[]
  methods := #[]
  instanceTypes := #[]
  staticTypes := #[]
  resolved := Array.replicate 11 none
  statics := none }

def pool6 : Array CpInfo := pool [(1, .class_ 2), (0, u "java/lang/constant/ConstantDesc"), (0, .class_ 4), (0, u "java/lang/Object")] 32

/-- java/lang/constant/ConstantDesc -/
def k6 : Class := { plain "java/lang/constant/ConstantDesc" (some 0) with
  accessFlags := 1537
  interfaces := #[]
  cf := some (fileOf pool6 1 #[] #[] 1537 3 #[] #[])
  fields := #[]
  methods := #[]
  instanceTypes := #[]
  staticTypes := #[]
  resolved := Array.replicate 37 none
  statics := none }

def pool7 : Array CpInfo := pool [(1, .methodref 2 3), (0, .class_ 4), (0, .nameAndType 5 6), (0, u "java/lang/Object"), (0, u "<init>"), (0, u "()V"), (2, .fieldref 10 11), (0, .class_ 12), (0, .nameAndType 13 14), (0, u "java/lang/String"), (0, u "value"), (0, u "[B"), (0, .fieldref 10 16), (0, .nameAndType 17 18), (0, u "coder"), (0, u "B"), (2, u "hash"), (0, u "I"), (2, u "hashIsZero"), (0, u "Z"), (0, .methodref 10 28), (0, .nameAndType 5 29), (0, u "([CIILjava/lang/Void;)V"), (8, .fieldref 10 39), (0, .nameAndType 40 26), (0, u "COMPACT_STRINGS"), (1, .class_ 44), (1, u "java/lang/StringUTF16"), (0, u "compress"), (1, .methodref 42 48), (0, .nameAndType 49 50), (0, u "coderFromArrayLen"), (0, u "([BI)B"), (2, u "toBytes"), (53, .class_ 109), (1, u "java/lang/StringLatin1"), (67, .methodref 42 178), (0, .nameAndType 45 179), (0, u "([CII)[B"), (29, .methodref 10 210), (0, .nameAndType 5 211), (0, u "([BB)V"), (157, u "(C)Z"), (205, .class_ 576), (0, u "java/lang/CharSequence"), (22, u "CASE_INSENSITIVE_ORDER"), (0, u "Ljava/util/Comparator;"), (181, u "valueOf"), (0, u "(C)Ljava/lang/String;"), (226, u "([C)V"), (4, .methodref 107 1016), (0, .nameAndType 1017 369), (0, u "canEncode"), (0, .methodref 107 1019), (0, .nameAndType 53 1020), (0, u "(C)[B"), (80, u "serialPersistentFields"), (0, u "[Ljava/io/ObjectStreamField;"), (0, .class_ 1104), (0, u "java/lang/String$CaseInsensitiveComparator"), (1, .class_ 1107), (0, u "java/io/Serializable"), (0, .class_ 1109), (0, u "java/lang/Comparable"), (0, .class_ 1111), (0, u "java/lang/constant/Constable"), (0, .class_ 1113), (0, u "java/lang/constant/ConstantDesc"), (2, u "serialVersionUID"), (0, u "J"), (3, u "REPL"), (0, u "C"), (2, u "LATIN1"), (1, u "UTF16")] 323

def k7m0 : Method := { name := "<init>", desc := "()V", sig := { parameters := [], returnType := none }, accessFlags := 1, code := none }
def k7c1 : Code := { maxStack := 5, maxLocals := 2, code := jdk_42_method_3_code, exceptionTable := #[], attributes := #[] }
def k7m1 : Method := { name := "<init>", desc := "([C)V", sig := { parameters := [(.array .char)], returnType := none }, accessFlags := 1, code := some k7c1 }
def k7c2 : Code := { maxStack := 4, maxLocals := 1, code := jdk_42_method_139_code, exceptionTable := #[], attributes := #[] }
def k7m2 : Method := { name := "valueOf", desc := "(C)Ljava/lang/String;", sig := { parameters := [.char], returnType := some (.object "java/lang/String") }, accessFlags := 9, code := some k7c2 }
def k7c3 : Code := { maxStack := 4, maxLocals := 6, code := jdk_42_method_149_code, exceptionTable := #[], attributes := #[] }
def k7m3 : Method := { name := "<init>", desc := "([CIILjava/lang/Void;)V", sig := { parameters := [(.array .char), .int, .int, (.object "java/lang/Void")], returnType := none }, accessFlags := 2, code := some k7c3 }
def k7c4 : Code := { maxStack := 2, maxLocals := 3, code := jdk_42_method_151_code, exceptionTable := #[], attributes := #[] }
def k7m4 : Method := { name := "<init>", desc := "([BB)V", sig := { parameters := [(.array .byte), .byte], returnType := none }, accessFlags := 0, code := some k7c4 }
/-- java/lang/String -/
def k7 : Class := { plain "java/lang/String" (some 0) with
  accessFlags := 49
  interfaces := #[2, 3, 4, 5, 6]
  cf := some (fileOf pool7 10 #[.nestMembers #[1103]] #[{ accessFlags := 1, nameIndex := 5, descriptorIndex := 6, attributes := #[] }, { accessFlags := 1, nameIndex := 5, descriptorIndex := 1010, attributes := #[] }, { accessFlags := 9, nameIndex := 782, descriptorIndex := 783, attributes := #[] }, { accessFlags := 2, nameIndex := 5, descriptorIndex := 29, attributes := #[] }, { accessFlags := 0, nameIndex := 5, descriptorIndex := 211, attributes := #[] }] 49 2 #[1106, 1108, 575, 1110, 1112] #[{ accessFlags := 18, nameIndex := 13, descriptorIndex := 14, attributes := #[] }, { accessFlags := 18, nameIndex := 17, descriptorIndex := 18, attributes := #[] }, { accessFlags := 2, nameIndex := 21, descriptorIndex := 22, attributes := #[] }, { accessFlags := 2, nameIndex := 25, descriptorIndex := 26, attributes := #[] }, { accessFlags := 26, nameIndex := 1116, descriptorIndex := 1117, attributes := #[] }, { accessFlags := 24, nameIndex := 40, descriptorIndex := 26, attributes := #[] }, { accessFlags := 26, nameIndex := 1101, descriptorIndex := 1102, attributes := #[] }, { accessFlags := 26, nameIndex := 1121, descriptorIndex := 1122, attributes := #[] }, { accessFlags := 25, nameIndex := 599, descriptorIndex := 600, attributes := #[] }, { accessFlags := 24, nameIndex := 1125, descriptorIndex := 18, attributes := #[] }, { accessFlags := 24, nameIndex := 1127, descriptorIndex := 18, attributes := #[] }])
  fields := #[{ name := "value", type := (.array .byte), accessFlags := 18, slot := 0, constantValue := 0 }, { name := "coder", type := .byte, accessFlags := 18, slot := 1, constantValue := 0 }, { name := "hash", type := .int, accessFlags := 2, slot := 2, constantValue := 0 }, { name := "hashIsZero", type := .boolean, accessFlags := 2, slot := 3, constantValue := 0 }, { name := "serialVersionUID", type := .long, accessFlags := 26, slot := 0, constantValue := 0 }, { name := "COMPACT_STRINGS", type := .boolean, accessFlags := 24, slot := 1, constantValue := 0 }, { name := "serialPersistentFields", type := (.array (.object "java/io/ObjectStreamField")), accessFlags := 26, slot := 2, constantValue := 0 }, { name := "REPL", type := .char, accessFlags := 26, slot := 3, constantValue := 0 }, { name := "CASE_INSENSITIVE_ORDER", type := (.object "java/util/Comparator"), accessFlags := 25, slot := 4, constantValue := 0 }, { name := "LATIN1", type := .byte, accessFlags := 24, slot := 5, constantValue := 0 }, { name := "UTF16", type := .byte, accessFlags := 24, slot := 6, constantValue := 0 }]
  methods := #[k7m0, k7m1, k7m2, k7m3, k7m4]
  instanceTypes := #[(.array .byte), .byte, .int, .boolean]
  staticTypes := #[.long, .boolean, (.array (.object "java/io/ObjectStreamField")), .char, (.object "java/util/Comparator"), .byte, .byte]
  resolved := Array.replicate 1451 none
  statics := some 0 }

def pool8 : Array CpInfo := pool [(4, .class_ 6), (1, u "java/lang/Object"), (0, u "<init>"), (0, u "()V"), (5, .class_ 16), (1, u "java/lang/StringLatin1"), (73, u "canEncode"), (14, u "(C)Z"), (15, u "$assertionsDisabled"), (0, u "Z"), (98, .class_ 223), (1, u "java/lang/StringLatin1$LinesSpliterator"), (156, u "toBytes"), (1, u "(C)[B"), (7, .class_ 391), (0, u "java/lang/StringLatin1$CharsSpliterator")] 3

def k8m0 : Method := { name := "<init>", desc := "()V", sig := { parameters := [], returnType := none }, accessFlags := 0, code := none }
def k8c1 : Code := { maxStack := 2, maxLocals := 1, code := jdk_43_method_3_code, exceptionTable := #[], attributes := #[] }
def k8m1 : Method := { name := "canEncode", desc := "(C)Z", sig := { parameters := [.char], returnType := some .boolean }, accessFlags := 9, code := some k8c1 }
def k8c2 : Code := { maxStack := 4, maxLocals := 1, code := jdk_43_method_46_code, exceptionTable := #[], attributes := #[] }
def k8m2 : Method := { name := "toBytes", desc := "(C)[B", sig := { parameters := [.char], returnType := some (.array .byte) }, accessFlags := 9, code := some k8c2 }
/-- java/lang/StringLatin1 -/
def k8 : Class := { plain "java/lang/StringLatin1" (some 0) with
  accessFlags := 48
  interfaces := #[]
  cf := some (fileOf pool8 14 #[.nestMembers #[390, 221]] #[{ accessFlags := 0, nameIndex := 7, descriptorIndex := 8, attributes := #[] }, { accessFlags := 9, nameIndex := 90, descriptorIndex := 105, attributes := #[] }, { accessFlags := 9, nameIndex := 380, descriptorIndex := 382, attributes := #[] }] 48 4 #[] #[{ accessFlags := 4120, nameIndex := 121, descriptorIndex := 122, attributes := #[] }])
  fields := #[{ name := "$assertionsDisabled", type := .boolean, accessFlags := 4120, slot := 0, constantValue := 0 }]
  methods := #[k8m0, k8m1, k8m2]
  instanceTypes := #[]
  staticTypes := #[.boolean]
  resolved := Array.replicate 395 none
  statics := none }

def pool9 : Array CpInfo := pool [(1, .methodref 2 3), (0, .class_ 4), (0, .nameAndType 5 6), (0, u "java/lang/Object"), (0, u "<init>"), (0, u "()V"), (0, .class_ 8), (0, u "java/lang/Record")] 13

def k9c0 : Code := { maxStack := 1, maxLocals := 1, code := jdk_30_method_1_code, exceptionTable := #[], attributes := #[] }
def k9m0 : Method := { name := "<init>", desc := "()V", sig := { parameters := [], returnType := none }, accessFlags := 4, code := some k9c0 }
/-- java/lang/Record -/
def k9 : Class := { plain "java/lang/Record" (some 0) with
  accessFlags := 1057
  interfaces := #[]
  cf := some (fileOf pool9 7 #[] #[{ accessFlags := 4, nameIndex := 5, descriptorIndex := 6, attributes := #[] }] 1057 2 #[] #[])
  fields := #[]
  methods := #[k9m0]
  instanceTypes := #[]
  staticTypes := #[]
  resolved := Array.replicate 22 none
  statics := none }

def pool10 : Array CpInfo := pool [(1, .methodref 2 3), (0, .class_ 4), (0, .nameAndType 5 6), (0, u "java/lang/Record"), (0, u "<init>"), (0, u "()V"), (0, .string 8), (0, u "kind"), (0, .methodref 10 11), (0, .class_ 12), (0, .nameAndType 13 14), (0, u "java/util/Objects"), (0, u "requireNonNull"), (0, u "(Ljava/lang/Object;Ljava/lang/String;)Ljava/lang/Object;"), (0, .string 16), (0, u "name"), (0, .fieldref 18 19), (0, .class_ 20), (0, .nameAndType 8 21), (0, u "com/example/object_grants/objectgrants/accesslist/Recipient"), (0, u "Lcom/example/object_grants/objectgrants/accesslist/Recipient$Kind;"), (0, .fieldref 18 23), (0, .nameAndType 16 24), (0, u "Ljava/lang/String;"), (0, .fieldref 26 27), (0, .class_ 28), (0, .nameAndType 29 21), (0, u "com/example/object_grants/objectgrants/accesslist/Recipient$Kind"), (0, u "PRINCIPAL"), (0, .methodref 18 31), (0, .nameAndType 5 32), (0, u "(Lcom/example/object_grants/objectgrants/accesslist/Recipient$Kind;Ljava/lang/String;)V"), (0, .fieldref 26 34), (0, .nameAndType 35 21), (0, u "AUTHORITY"), (15, u "principal"), (0, u "(Ljava/lang/String;)Lcom/example/object_grants/objectgrants/accesslist/Recipient;"), (0, u "authority")] 27

def k10c0 : Code := { maxStack := 2, maxLocals := 3, code := prog_18_method_1_code, exceptionTable := #[], attributes := #[] }
def k10m0 : Method := { name := "<init>", desc := "(Lcom/example/object_grants/objectgrants/accesslist/Recipient$Kind;Ljava/lang/String;)V", sig := { parameters := [(.object "com/example/object_grants/objectgrants/accesslist/Recipient$Kind"), (.object "java/lang/String")], returnType := none }, accessFlags := 1, code := some k10c0 }
def k10c1 : Code := { maxStack := 4, maxLocals := 1, code := prog_18_method_2_code, exceptionTable := #[], attributes := #[] }
def k10m1 : Method := { name := "principal", desc := "(Ljava/lang/String;)Lcom/example/object_grants/objectgrants/accesslist/Recipient;", sig := { parameters := [(.object "java/lang/String")], returnType := some (.object "com/example/object_grants/objectgrants/accesslist/Recipient") }, accessFlags := 9, code := some k10c1 }
def k10c2 : Code := { maxStack := 4, maxLocals := 1, code := prog_18_method_3_code, exceptionTable := #[], attributes := #[] }
def k10m2 : Method := { name := "authority", desc := "(Ljava/lang/String;)Lcom/example/object_grants/objectgrants/accesslist/Recipient;", sig := { parameters := [(.object "java/lang/String")], returnType := some (.object "com/example/object_grants/objectgrants/accesslist/Recipient") }, accessFlags := 9, code := some k10c2 }
/-- com/example/object_grants/objectgrants/accesslist/Recipient -/
def k10 : Class := { plain "com/example/object_grants/objectgrants/accesslist/Recipient" (some 9) with
  accessFlags := 49
  interfaces := #[]
  cf := some (fileOf pool10 18 #[.nestMembers #[26]] #[{ accessFlags := 1, nameIndex := 5, descriptorIndex := 32, attributes := #[] }, { accessFlags := 9, nameIndex := 51, descriptorIndex := 52, attributes := #[] }, { accessFlags := 9, nameIndex := 53, descriptorIndex := 52, attributes := #[] }] 49 2 #[] #[{ accessFlags := 18, nameIndex := 8, descriptorIndex := 21, attributes := #[] }, { accessFlags := 18, nameIndex := 16, descriptorIndex := 24, attributes := #[] }])
  fields := #[{ name := "kind", type := (.object "com/example/object_grants/objectgrants/accesslist/Recipient$Kind"), accessFlags := 18, slot := 0, constantValue := 0 }, { name := "name", type := (.object "java/lang/String"), accessFlags := 18, slot := 1, constantValue := 0 }]
  methods := #[k10m0, k10m1, k10m2]
  instanceTypes := #[(.object "com/example/object_grants/objectgrants/accesslist/Recipient$Kind"), (.object "java/lang/String")]
  staticTypes := #[]
  resolved := Array.replicate 81 none
  statics := none }

def pool11 : Array CpInfo := pool [(2, .class_ 4), (1, u "java/lang/Enum"), (0, u "name"), (0, u "Ljava/lang/String;"), (2, u "ordinal"), (0, u "I"), (1, .class_ 14), (1, u "java/lang/Object"), (4, u "hash"), (86, .class_ 108), (1, u "java/lang/Enum$EnumDesc"), (2, .class_ 112), (0, u "java/lang/constant/Constable"), (0, .class_ 114), (0, u "java/lang/Comparable"), (0, .class_ 116), (0, u "java/io/Serializable")] 87

/-- java/lang/Enum -/
def k11 : Class := { plain "java/lang/Enum" (some 0) with
  accessFlags := 1057
  interfaces := #[5, 3, 2]
  cf := some (fileOf pool11 2 #[.nestMembers #[106]] #[] 1057 12 #[111, 113, 115] #[{ accessFlags := 18, nameIndex := 5, descriptorIndex := 6, attributes := #[] }, { accessFlags := 18, nameIndex := 9, descriptorIndex := 10, attributes := #[] }, { accessFlags := 2, nameIndex := 19, descriptorIndex := 10, attributes := #[] }])
  fields := #[{ name := "name", type := (.object "java/lang/String"), accessFlags := 18, slot := 0, constantValue := 0 }, { name := "ordinal", type := .int, accessFlags := 18, slot := 1, constantValue := 0 }, { name := "hash", type := .int, accessFlags := 2, slot := 2, constantValue := 0 }]
  methods := #[]
  instanceTypes := #[(.object "java/lang/String"), .int, .int]
  staticTypes := #[]
  resolved := Array.replicate 204 none
  statics := none }

def pool12 : Array CpInfo := pool [(1, .class_ 2), (0, u "com/example/object_grants/objectgrants/accesslist/Recipient$Kind"), (2, u "PRINCIPAL"), (0, u "Lcom/example/object_grants/objectgrants/accesslist/Recipient$Kind;"), (2, u "AUTHORITY"), (2, u "$VALUES"), (0, u "[Lcom/example/object_grants/objectgrants/accesslist/Recipient$Kind;"), (6, .class_ 22), (1, u "java/lang/Enum"), (25, .class_ 49), (0, u "com/example/object_grants/objectgrants/accesslist/Recipient")] 2

/-- com/example/object_grants/objectgrants/accesslist/Recipient$Kind -/
def k12 : Class := { plain "com/example/object_grants/objectgrants/accesslist/Recipient$Kind" (some 11) with
  accessFlags := 16433
  interfaces := #[]
  cf := some (fileOf pool12 1 #[.nestHost 48] #[] 16433 20 #[] #[{ accessFlags := 16409, nameIndex := 5, descriptorIndex := 6, attributes := #[] }, { accessFlags := 16409, nameIndex := 9, descriptorIndex := 6, attributes := #[] }, { accessFlags := 4122, nameIndex := 12, descriptorIndex := 13, attributes := #[] }])
  fields := #[{ name := "PRINCIPAL", type := (.object "com/example/object_grants/objectgrants/accesslist/Recipient$Kind"), accessFlags := 16409, slot := 0, constantValue := 0 }, { name := "AUTHORITY", type := (.object "com/example/object_grants/objectgrants/accesslist/Recipient$Kind"), accessFlags := 16409, slot := 1, constantValue := 0 }, { name := "$VALUES", type := (.array (.object "com/example/object_grants/objectgrants/accesslist/Recipient$Kind")), accessFlags := 4122, slot := 2, constantValue := 0 }]
  methods := #[]
  instanceTypes := #[(.object "java/lang/String"), .int, .int]
  staticTypes := #[(.object "com/example/object_grants/objectgrants/accesslist/Recipient$Kind"), (.object "com/example/object_grants/objectgrants/accesslist/Recipient$Kind"), (.array (.object "com/example/object_grants/objectgrants/accesslist/Recipient$Kind"))]
  resolved := Array.replicate 52 none
  statics := some 1 }

def pool13 : Array CpInfo := pool [(2, .class_ 4), (1, u "java/lang/Object"), (0, u "<init>"), (0, u "()V"), (35, .class_ 44), (1, u "java/util/Objects"), (0, u "requireNonNull"), (48, u "(Ljava/lang/Object;Ljava/lang/String;)Ljava/lang/Object;")] 89

def k13m0 : Method := { name := "<init>", desc := "()V", sig := { parameters := [], returnType := none }, accessFlags := 2, code := none }
def k13c1 : Code := { maxStack := 3, maxLocals := 2, code := jdk_31_method_11_code, exceptionTable := #[], attributes := #[] }
def k13m1 : Method := { name := "requireNonNull", desc := "(Ljava/lang/Object;Ljava/lang/String;)Ljava/lang/Object;", sig := { parameters := [(.object "java/lang/Object"), (.object "java/lang/String")], returnType := some (.object "java/lang/Object") }, accessFlags := 9, code := some k13c1 }
/-- java/util/Objects -/
def k13 : Class := { plain "java/util/Objects" (some 0) with
  accessFlags := 49
  interfaces := #[]
  cf := some (fileOf pool13 42 #[] #[{ accessFlags := 2, nameIndex := 5, descriptorIndex := 6, attributes := #[] }, { accessFlags := 9, nameIndex := 45, descriptorIndex := 94, attributes := #[] }] 49 2 #[] #[])
  fields := #[]
  methods := #[k13m0, k13m1]
  instanceTypes := #[]
  staticTypes := #[]
  resolved := Array.replicate 184 none
  statics := none }

def pool14 : Array CpInfo := pool [(1, .class_ 2), (0, u "com/example/object_grants/objectgrants/field/Access"), (2, u "GRANTED"), (0, u "Lcom/example/object_grants/objectgrants/field/Access;"), (2, u "DENIED"), (2, u "$VALUES"), (0, u "[Lcom/example/object_grants/objectgrants/field/Access;"), (6, .class_ 22), (1, u "java/lang/Enum")] 24

/-- com/example/object_grants/objectgrants/field/Access -/
def k14 : Class := { plain "com/example/object_grants/objectgrants/field/Access" (some 11) with
  accessFlags := 16433
  interfaces := #[]
  cf := some (fileOf pool14 1 #[] #[] 16433 20 #[] #[{ accessFlags := 16409, nameIndex := 5, descriptorIndex := 6, attributes := #[] }, { accessFlags := 16409, nameIndex := 9, descriptorIndex := 6, attributes := #[] }, { accessFlags := 4122, nameIndex := 12, descriptorIndex := 13, attributes := #[] }])
  fields := #[{ name := "GRANTED", type := (.object "com/example/object_grants/objectgrants/field/Access"), accessFlags := 16409, slot := 0, constantValue := 0 }, { name := "DENIED", type := (.object "com/example/object_grants/objectgrants/field/Access"), accessFlags := 16409, slot := 1, constantValue := 0 }, { name := "$VALUES", type := (.array (.object "com/example/object_grants/objectgrants/field/Access")), accessFlags := 4122, slot := 2, constantValue := 0 }]
  methods := #[]
  instanceTypes := #[(.object "java/lang/String"), .int, .int]
  staticTypes := #[(.object "com/example/object_grants/objectgrants/field/Access"), (.object "com/example/object_grants/objectgrants/field/Access"), (.array (.object "com/example/object_grants/objectgrants/field/Access"))]
  resolved := Array.replicate 47 none
  statics := some 2 }

def pool15 : Array CpInfo := pool [(1, .methodref 2 3), (0, .class_ 4), (0, .nameAndType 5 6), (0, u "java/lang/Record"), (0, u "<init>"), (0, u "()V"), (0, .string 8), (0, u "recipient"), (0, .methodref 10 11), (0, .class_ 12), (0, .nameAndType 13 14), (0, u "java/util/Objects"), (0, u "requireNonNull"), (0, u "(Ljava/lang/Object;Ljava/lang/String;)Ljava/lang/Object;"), (0, .string 16), (0, u "access"), (0, .string 18), (0, u "items"), (0, .fieldref 20 21), (0, .class_ 22), (0, .nameAndType 8 23), (0, u "com/example/object_grants/objectgrants/field/GroupGrant"), (0, u "Lcom/example/object_grants/objectgrants/accesslist/Recipient;"), (0, .fieldref 20 25), (0, .nameAndType 16 26), (0, u "Lcom/example/object_grants/objectgrants/field/Access;"), (0, .fieldref 20 28), (0, .nameAndType 18 29), (0, u "Ljava/util/Optional;"), (0, .fieldref 20 31), (0, .nameAndType 32 33), (0, u "combinedByOr"), (0, u "Z"), (0, .methodref 35 36), (0, .class_ 37), (0, .nameAndType 38 39), (0, u "java/util/Optional"), (0, u "empty"), (0, u "()Ljava/util/Optional;"), (0, .methodref 20 41), (0, .nameAndType 5 42), (0, u "(Lcom/example/object_grants/objectgrants/accesslist/Recipient;Lcom/example/object_grants/objectgrants/field/Access;Ljava/util/Optional;Z)V"), (2, u "of"), (19, u "(Lcom/example/object_grants/objectgrants/accesslist/Recipient;Lcom/example/object_grants/objectgrants/field/Access;)Lcom/example/object_grants/objectgrants/field/GroupGrant;"), (7, u "()Lcom/example/object_grants/objectgrants/accesslist/Recipient;"), (0, u "()Lcom/example/object_grants/objectgrants/field/Access;"), (1, u "()Z")] 23

def k15c0 : Code := { maxStack := 2, maxLocals := 5, code := prog_30_method_1_code, exceptionTable := #[], attributes := #[] }
def k15m0 : Method := { name := "<init>", desc := "(Lcom/example/object_grants/objectgrants/accesslist/Recipient;Lcom/example/object_grants/objectgrants/field/Access;Ljava/util/Optional;Z)V", sig := { parameters := [(.object "com/example/object_grants/objectgrants/accesslist/Recipient"), (.object "com/example/object_grants/objectgrants/field/Access"), (.object "java/util/Optional"), .boolean], returnType := none }, accessFlags := 1, code := some k15c0 }
def k15c1 : Code := { maxStack := 6, maxLocals := 2, code := prog_30_method_2_code, exceptionTable := #[], attributes := #[] }
def k15m1 : Method := { name := "of", desc := "(Lcom/example/object_grants/objectgrants/accesslist/Recipient;Lcom/example/object_grants/objectgrants/field/Access;)Lcom/example/object_grants/objectgrants/field/GroupGrant;", sig := { parameters := [(.object "com/example/object_grants/objectgrants/accesslist/Recipient"), (.object "com/example/object_grants/objectgrants/field/Access")], returnType := some (.object "com/example/object_grants/objectgrants/field/GroupGrant") }, accessFlags := 9, code := some k15c1 }
def k15c2 : Code := { maxStack := 1, maxLocals := 1, code := prog_30_method_8_code, exceptionTable := #[], attributes := #[] }
def k15m2 : Method := { name := "recipient", desc := "()Lcom/example/object_grants/objectgrants/accesslist/Recipient;", sig := { parameters := [], returnType := some (.object "com/example/object_grants/objectgrants/accesslist/Recipient") }, accessFlags := 1, code := some k15c2 }
def k15c3 : Code := { maxStack := 1, maxLocals := 1, code := prog_30_method_9_code, exceptionTable := #[], attributes := #[] }
def k15m3 : Method := { name := "access", desc := "()Lcom/example/object_grants/objectgrants/field/Access;", sig := { parameters := [], returnType := some (.object "com/example/object_grants/objectgrants/field/Access") }, accessFlags := 1, code := some k15c3 }
def k15c4 : Code := { maxStack := 1, maxLocals := 1, code := prog_30_method_10_code, exceptionTable := #[], attributes := #[] }
def k15m4 : Method := { name := "items", desc := "()Ljava/util/Optional;", sig := { parameters := [], returnType := some (.object "java/util/Optional") }, accessFlags := 1, code := some k15c4 }
def k15c5 : Code := { maxStack := 1, maxLocals := 1, code := prog_30_method_11_code, exceptionTable := #[], attributes := #[] }
def k15m5 : Method := { name := "combinedByOr", desc := "()Z", sig := { parameters := [], returnType := some .boolean }, accessFlags := 1, code := some k15c5 }
/-- com/example/object_grants/objectgrants/field/GroupGrant -/
def k15 : Class := { plain "com/example/object_grants/objectgrants/field/GroupGrant" (some 9) with
  accessFlags := 49
  interfaces := #[]
  cf := some (fileOf pool15 20 #[] #[{ accessFlags := 1, nameIndex := 5, descriptorIndex := 42, attributes := #[] }, { accessFlags := 9, nameIndex := 45, descriptorIndex := 65, attributes := #[] }, { accessFlags := 1, nameIndex := 8, descriptorIndex := 73, attributes := #[] }, { accessFlags := 1, nameIndex := 16, descriptorIndex := 74, attributes := #[] }, { accessFlags := 1, nameIndex := 18, descriptorIndex := 39, attributes := #[] }, { accessFlags := 1, nameIndex := 32, descriptorIndex := 76, attributes := #[] }] 49 2 #[] #[{ accessFlags := 18, nameIndex := 8, descriptorIndex := 23, attributes := #[] }, { accessFlags := 18, nameIndex := 16, descriptorIndex := 26, attributes := #[] }, { accessFlags := 18, nameIndex := 18, descriptorIndex := 29, attributes := #[] }, { accessFlags := 18, nameIndex := 32, descriptorIndex := 33, attributes := #[] }])
  fields := #[{ name := "recipient", type := (.object "com/example/object_grants/objectgrants/accesslist/Recipient"), accessFlags := 18, slot := 0, constantValue := 0 }, { name := "access", type := (.object "com/example/object_grants/objectgrants/field/Access"), accessFlags := 18, slot := 1, constantValue := 0 }, { name := "items", type := (.object "java/util/Optional"), accessFlags := 18, slot := 2, constantValue := 0 }, { name := "combinedByOr", type := .boolean, accessFlags := 18, slot := 3, constantValue := 0 }]
  methods := #[k15m0, k15m1, k15m2, k15m3, k15m4, k15m5]
  instanceTypes := #[(.object "com/example/object_grants/objectgrants/accesslist/Recipient"), (.object "com/example/object_grants/objectgrants/field/Access"), (.object "java/util/Optional"), .boolean]
  staticTypes := #[]
  resolved := Array.replicate 100 none
  statics := none }

def pool16 : Array CpInfo := pool [(1, .fieldref 2 3), (0, .class_ 4), (0, .nameAndType 5 6), (0, u "java/util/Optional"), (0, u "EMPTY"), (0, u "Ljava/util/Optional;"), (1, .class_ 10), (1, u "java/lang/Object"), (2, .fieldref 2 14), (0, .nameAndType 15 16), (0, u "value"), (0, u "Ljava/lang/Object;"), (28, u "isEmpty"), (0, u "()Z"), (8, u "empty"), (0, u "()Ljava/util/Optional;")] 130

def k16c0 : Code := { maxStack := 1, maxLocals := 1, code := jdk_32_method_1_code, exceptionTable := #[], attributes := #[] }
def k16m0 : Method := { name := "empty", desc := "()Ljava/util/Optional;", sig := { parameters := [], returnType := some (.object "java/util/Optional") }, accessFlags := 9, code := some k16c0 }
def k16c1 : Code := { maxStack := 1, maxLocals := 1, code := jdk_32_method_7_code, exceptionTable := #[], attributes := #[] }
def k16m1 : Method := { name := "isEmpty", desc := "()Z", sig := { parameters := [], returnType := some .boolean }, accessFlags := 1, code := some k16c1 }
/-- java/util/Optional -/
def k16 : Class := { plain "java/util/Optional" (some 0) with
  accessFlags := 49
  interfaces := #[]
  cf := some (fileOf pool16 2 #[] #[{ accessFlags := 9, nameIndex := 55, descriptorIndex := 56, attributes := #[] }, { accessFlags := 1, nameIndex := 45, descriptorIndex := 46, attributes := #[] }] 49 8 #[] #[{ accessFlags := 26, nameIndex := 5, descriptorIndex := 6, attributes := #[] }, { accessFlags := 18, nameIndex := 15, descriptorIndex := 16, attributes := #[] }])
  fields := #[{ name := "EMPTY", type := (.object "java/util/Optional"), accessFlags := 26, slot := 0, constantValue := 0 }, { name := "value", type := (.object "java/lang/Object"), accessFlags := 18, slot := 0, constantValue := 0 }]
  methods := #[k16m0, k16m1]
  instanceTypes := #[(.object "java/lang/Object")]
  staticTypes := #[(.object "java/util/Optional")]
  resolved := Array.replicate 187 none
  statics := some 3 }

def pool17 : Array CpInfo := pool [(6, .class_ 8), (1, u "java/lang/Object"), (0, u "<init>"), (0, u "()V"), (1, .class_ 14), (1, u "java/lang/StringUTF16"), (31, u "$assertionsDisabled"), (0, u "Z"), (13, u "HI_BYTE_SHIFT"), (0, u "I"), (2, u "LO_BYTE_SHIFT"), (49, .methodref 12 116), (0, .nameAndType 117 118), (0, u "compress"), (0, u "([CI[BII)I"), (3, u "([CII)[B"), (138, u "coderFromArrayLen"), (0, u "([BI)B"), (106, .class_ 371), (1, u "java/lang/StringUTF16$LinesSpliterator"), (58, u "MAX_LENGTH"), (196, .class_ 628), (0, u "java/lang/StringUTF16$CodePointsSpliterator"), (0, .class_ 630), (0, u "java/lang/StringUTF16$CharsSpliterator")] 4

def k17m0 : Method := { name := "<init>", desc := "()V", sig := { parameters := [], returnType := none }, accessFlags := 0, code := none }
def k17c1 : Code := { maxStack := 2, maxLocals := 2, code := jdk_52_method_15_code, exceptionTable := #[], attributes := #[] }
def k17m1 : Method := { name := "coderFromArrayLen", desc := "([BI)B", sig := { parameters := [(.array .byte), .int], returnType := some .byte }, accessFlags := 8, code := some k17c1 }
def k17c2 : Code := { maxStack := 5, maxLocals := 6, code := jdk_52_method_16_code, exceptionTable := #[], attributes := #[] }
def k17m2 : Method := { name := "compress", desc := "([CII)[B", sig := { parameters := [(.array .char), .int, .int], returnType := some (.array .byte) }, accessFlags := 9, code := some k17c2 }
def k17c3 : Code := { maxStack := 3, maxLocals := 7, code := jdk_52_method_21_code, exceptionTable := #[], attributes := #[] }
def k17m3 : Method := { name := "compress", desc := "([CI[BII)I", sig := { parameters := [(.array .char), .int, (.array .byte), .int, .int], returnType := some .int }, accessFlags := 9, code := some k17c3 }
/-- java/lang/StringUTF16 -/
def k17 : Class := { plain "java/lang/StringUTF16" (some 0) with
  accessFlags := 48
  interfaces := #[]
  cf := some (fileOf pool17 12 #[.nestMembers #[627, 629, 369]] #[{ accessFlags := 0, nameIndex := 9, descriptorIndex := 10, attributes := #[] }, { accessFlags := 8, nameIndex := 261, descriptorIndex := 262, attributes := #[] }, { accessFlags := 9, nameIndex := 117, descriptorIndex := 122, attributes := #[] }, { accessFlags := 9, nameIndex := 117, descriptorIndex := 118, attributes := #[] }] 48 6 #[] #[{ accessFlags := 26, nameIndex := 61, descriptorIndex := 62, attributes := #[] }, { accessFlags := 26, nameIndex := 65, descriptorIndex := 62, attributes := #[] }, { accessFlags := 24, nameIndex := 430, descriptorIndex := 62, attributes := #[] }, { accessFlags := 4120, nameIndex := 46, descriptorIndex := 47, attributes := #[] }])
  fields := #[{ name := "HI_BYTE_SHIFT", type := .int, accessFlags := 26, slot := 0, constantValue := 0 }, { name := "LO_BYTE_SHIFT", type := .int, accessFlags := 26, slot := 1, constantValue := 0 }, { name := "MAX_LENGTH", type := .int, accessFlags := 24, slot := 2, constantValue := 0 }, { name := "$assertionsDisabled", type := .boolean, accessFlags := 4120, slot := 3, constantValue := 0 }]
  methods := #[k17m0, k17m1, k17m2, k17m3]
  instanceTypes := #[]
  staticTypes := #[.int, .int, .int, .boolean]
  resolved := Array.replicate 635 none
  statics := none }

def pool18 : Array CpInfo := pool [(2, .class_ 4), (1, u "java/lang/Object"), (0, u "<init>"), (0, u "()V"), (17, .class_ 26), (1, u "jdk/internal/util/Preconditions"), (28, .class_ 56), (0, u "jdk/internal/util/Preconditions$4"), (57, .class_ 115), (0, u "jdk/internal/util/Preconditions$1"), (7, u "SIOOBE_FORMATTER"), (0, u "Ljava/util/function/BiFunction;"), (0, .class_ 126), (0, u "jdk/internal/util/Preconditions$2"), (3, u "AIOOBE_FORMATTER"), (0, .class_ 132), (0, u "jdk/internal/util/Preconditions$3"), (3, u "IOOBE_FORMATTER")] 57

def k18m0 : Method := { name := "<init>", desc := "()V", sig := { parameters := [], returnType := none }, accessFlags := 1, code := none }
/-- jdk/internal/util/Preconditions -/
def k18 : Class := { plain "jdk/internal/util/Preconditions" (some 0) with
  accessFlags := 33
  interfaces := #[]
  cf := some (fileOf pool18 24 #[.nestMembers #[55, 131, 125, 114]] #[{ accessFlags := 1, nameIndex := 5, descriptorIndex := 6, attributes := #[] }] 33 2 #[] #[{ accessFlags := 25, nameIndex := 123, descriptorIndex := 124, attributes := #[] }, { accessFlags := 25, nameIndex := 130, descriptorIndex := 124, attributes := #[] }, { accessFlags := 25, nameIndex := 136, descriptorIndex := 124, attributes := #[] }])
  fields := #[{ name := "SIOOBE_FORMATTER", type := (.object "java/util/function/BiFunction"), accessFlags := 25, slot := 0, constantValue := 0 }, { name := "AIOOBE_FORMATTER", type := (.object "java/util/function/BiFunction"), accessFlags := 25, slot := 1, constantValue := 0 }, { name := "IOOBE_FORMATTER", type := (.object "java/util/function/BiFunction"), accessFlags := 25, slot := 2, constantValue := 0 }]
  methods := #[k18m0]
  instanceTypes := #[]
  staticTypes := #[(.object "java/util/function/BiFunction"), (.object "java/util/function/BiFunction"), (.object "java/util/function/BiFunction")]
  resolved := Array.replicate 194 none
  statics := some 4 }

def pool19 : Array CpInfo := pool [(9, u "<init>"), (6, .class_ 18), (1, u "java/lang/Object"), (0, u "()V"), (1, .class_ 23), (1, u "jdk/internal/util/ArraysSupport"), (0, u "LOG2_ARRAY_LONG_INDEX_SCALE"), (0, u "I"), (2, u "U"), (0, u "Ljdk/internal/misc/Unsafe;"), (8, u "BIG_ENDIAN"), (0, u "Z"), (8, u "LOG2_BYTE_BIT_SIZE"), (4, u "LOG2_ARRAY_INT_INDEX_SCALE"), (54, u "JLA"), (0, u "Ljdk/internal/access/JavaLangAccess;"), (11, u "LOG2_ARRAY_BOOLEAN_INDEX_SCALE"), (9, u "LOG2_ARRAY_BYTE_INDEX_SCALE"), (5, u "LOG2_ARRAY_CHAR_INDEX_SCALE"), (5, u "LOG2_ARRAY_SHORT_INDEX_SCALE"), (18, u "LOG2_ARRAY_FLOAT_INDEX_SCALE"), (24, u "LOG2_ARRAY_DOUBLE_INDEX_SCALE"), (89, u "T_BOOLEAN"), (2, u "T_CHAR"), (1, u "T_FLOAT"), (1, u "T_DOUBLE"), (1, u "T_BYTE"), (1, u "T_SHORT"), (1, u "T_INT"), (1, u "T_LONG"), (1, u "SOFT_MAX_ARRAY_LENGTH")] 83

def k19m0 : Method := { name := "<init>", desc := "()V", sig := { parameters := [], returnType := none }, accessFlags := 2, code := none }
/-- jdk/internal/util/ArraysSupport -/
def k19 : Class := { plain "jdk/internal/util/ArraysSupport" (some 0) with
  accessFlags := 33
  interfaces := #[]
  cf := some (fileOf pool19 21 #[] #[{ accessFlags := 2, nameIndex := 9, descriptorIndex := 19, attributes := #[] }] 33 16 #[] #[{ accessFlags := 24, nameIndex := 28, descriptorIndex := 29, attributes := #[] }, { accessFlags := 26, nameIndex := 38, descriptorIndex := 39, attributes := #[] }, { accessFlags := 25, nameIndex := 121, descriptorIndex := 25, attributes := #[] }, { accessFlags := 25, nameIndex := 131, descriptorIndex := 25, attributes := #[] }, { accessFlags := 25, nameIndex := 137, descriptorIndex := 25, attributes := #[] }, { accessFlags := 25, nameIndex := 143, descriptorIndex := 25, attributes := #[] }, { accessFlags := 25, nameIndex := 53, descriptorIndex := 25, attributes := #[] }, { accessFlags := 25, nameIndex := 24, descriptorIndex := 25, attributes := #[] }, { accessFlags := 25, nameIndex := 162, descriptorIndex := 25, attributes := #[] }, { accessFlags := 25, nameIndex := 187, descriptorIndex := 25, attributes := #[] }, { accessFlags := 26, nameIndex := 48, descriptorIndex := 25, attributes := #[] }, { accessFlags := 25, nameIndex := 277, descriptorIndex := 25, attributes := #[] }, { accessFlags := 25, nameIndex := 280, descriptorIndex := 25, attributes := #[] }, { accessFlags := 25, nameIndex := 282, descriptorIndex := 25, attributes := #[] }, { accessFlags := 25, nameIndex := 284, descriptorIndex := 25, attributes := #[] }, { accessFlags := 25, nameIndex := 286, descriptorIndex := 25, attributes := #[] }, { accessFlags := 25, nameIndex := 288, descriptorIndex := 25, attributes := #[] }, { accessFlags := 25, nameIndex := 290, descriptorIndex := 25, attributes := #[] }, { accessFlags := 25, nameIndex := 292, descriptorIndex := 25, attributes := #[] }, { accessFlags := 26, nameIndex := 108, descriptorIndex := 109, attributes := #[] }, { accessFlags := 25, nameIndex := 294, descriptorIndex := 25, attributes := #[] }])
  fields := #[{ name := "U", type := (.object "jdk/internal/misc/Unsafe"), accessFlags := 24, slot := 0, constantValue := 0 }, { name := "BIG_ENDIAN", type := .boolean, accessFlags := 26, slot := 1, constantValue := 0 }, { name := "LOG2_ARRAY_BOOLEAN_INDEX_SCALE", type := .int, accessFlags := 25, slot := 2, constantValue := 0 }, { name := "LOG2_ARRAY_BYTE_INDEX_SCALE", type := .int, accessFlags := 25, slot := 3, constantValue := 0 }, { name := "LOG2_ARRAY_CHAR_INDEX_SCALE", type := .int, accessFlags := 25, slot := 4, constantValue := 0 }, { name := "LOG2_ARRAY_SHORT_INDEX_SCALE", type := .int, accessFlags := 25, slot := 5, constantValue := 0 }, { name := "LOG2_ARRAY_INT_INDEX_SCALE", type := .int, accessFlags := 25, slot := 6, constantValue := 0 }, { name := "LOG2_ARRAY_LONG_INDEX_SCALE", type := .int, accessFlags := 25, slot := 7, constantValue := 0 }, { name := "LOG2_ARRAY_FLOAT_INDEX_SCALE", type := .int, accessFlags := 25, slot := 8, constantValue := 0 }, { name := "LOG2_ARRAY_DOUBLE_INDEX_SCALE", type := .int, accessFlags := 25, slot := 9, constantValue := 0 }, { name := "LOG2_BYTE_BIT_SIZE", type := .int, accessFlags := 26, slot := 10, constantValue := 0 }, { name := "T_BOOLEAN", type := .int, accessFlags := 25, slot := 11, constantValue := 0 }, { name := "T_CHAR", type := .int, accessFlags := 25, slot := 12, constantValue := 0 }, { name := "T_FLOAT", type := .int, accessFlags := 25, slot := 13, constantValue := 0 }, { name := "T_DOUBLE", type := .int, accessFlags := 25, slot := 14, constantValue := 0 }, { name := "T_BYTE", type := .int, accessFlags := 25, slot := 15, constantValue := 0 }, { name := "T_SHORT", type := .int, accessFlags := 25, slot := 16, constantValue := 0 }, { name := "T_INT", type := .int, accessFlags := 25, slot := 17, constantValue := 0 }, { name := "T_LONG", type := .int, accessFlags := 25, slot := 18, constantValue := 0 }, { name := "JLA", type := (.object "jdk/internal/access/JavaLangAccess"), accessFlags := 26, slot := 19, constantValue := 0 }, { name := "SOFT_MAX_ARRAY_LENGTH", type := .int, accessFlags := 25, slot := 20, constantValue := 0 }]
  methods := #[k19m0]
  instanceTypes := #[]
  staticTypes := #[(.object "jdk/internal/misc/Unsafe"), .boolean, .int, .int, .int, .int, .int, .int, .int, .int, .int, .int, .int, .int, .int, .int, .int, .int, .int, (.object "jdk/internal/access/JavaLangAccess"), .int]
  resolved := Array.replicate 378 none
  statics := none }

def pool20 : Array CpInfo := pool [(1, u "java/lang/Cloneable"), (0, .class_ 1), (0, u "java/lang/Object"), (0, .class_ 3)] 3

/-- java/lang/Cloneable -/
def k20 : Class := { plain "java/lang/Cloneable" (some 0) with
  accessFlags := 1537
  interfaces := #[]
  cf := some (fileOf pool20 2 #[] #[] 1537 4 #[] #[])
  fields := #[]
  methods := #[]
  instanceTypes := #[]
  staticTypes := #[]
  resolved := Array.replicate 8 none
  statics := none }

/-- the primitive byte -/
def k21 : Class := { plain "byte" none with kind := .primitive 'B', accessFlags := 0x411 }
/-- [B -/
def k22 : Class := { plain "[B" (some 0) with kind := .array 21 .byte, interfaces := #[20, 2], accessFlags := 1041 }

/-- the primitive char -/
def k23 : Class := { plain "char" none with kind := .primitive 'C', accessFlags := 0x411 }
/-- [C -/
def k24 : Class := { plain "[C" (some 0) with kind := .array 23 .char, interfaces := #[20, 2], accessFlags := 1041 }

/-- the primitive int -/
def k25 : Class := { plain "int" none with kind := .primitive 'I', accessFlags := 0x411 }
/-- [I -/
def k26 : Class := { plain "[I" (some 0) with kind := .array 25 .int, interfaces := #[20, 2], accessFlags := 1041 }

def heap : Heap := #[{ cls := 7, slots := #[.long 0, .int 1, .null, .int 0, .null, .int 0, .int 0], vm := .statics 7 },
  { cls := 12, slots := #[.ref 5, .ref 5, .null], vm := .statics 12 },
  { cls := 14, slots := #[.ref 6, .ref 6, .null], vm := .statics 14 },
  { cls := 16, slots := #[.ref 7], vm := .statics 16 },
  { cls := 18, slots := #[.null, .null, .null], vm := .statics 18 },
  { cls := 12, slots := #[.null, .int 0, .int 0], vm := .none },
  { cls := 14, slots := #[.null, .int 0, .int 0], vm := .none },
  { cls := 16, slots := #[.null], vm := .none }]
def classes : Array Class := #[k0, k1, k2, k3, k4, k5, k6, k7, k8, k9, k10, k11, k12, k13, k14, k15, k16, k17, k18, k19, k20, k21, k22, k23, k24, k25, k26]
def interned : List (Array UInt16 × Addr) := []
def slotsUsed : Nat := 24
def theMethod : MethodId := ⟨1, 1⟩
def args0 : Array Value := #[.int 5, .int 5, .int 5]
def aboutOver (below : List Frame) : State where
  vm := { classes := classes, interned := interned.toArray }
  heap := heap
  slotsUsed := slotsUsed
  threads := #[{ frames := .invoking theMethod args0 :: below }]
def below0 : List Frame := [.native { method := ⟨0, 0⟩, args := #[] }]
def about1 : State := aboutOver below0
def p0 : Program := .bare "" "" ""
def e0 : Env := launch0.env 0 0 0
theorem w_frames : about1.frames = Frame.invoking theMethod args0 :: below0 := rfl
set_option maxRecDepth 65536 in
theorem w_args : argsFit about1.vm theMethod args0 = true := by decide +kernel
set_option maxRecDepth 65536 in
theorem w_heap : heapFits about1 = true := by decide +kernel
set_option maxRecDepth 65536 in
theorem w_runnable : about1.curStatus? = some .runnable := by decide +kernel
set_option maxRecDepth 65536 in
theorem w_alone : about1.alone = true := by decide +kernel
set_option maxRecDepth 65536 in
theorem w_named : about1.methodNamed? x = some theMethod := by decide +kernel
set_option maxRecDepth 65536 in
theorem w_hears : about1.hears theMethod below0 = true := by decide +kernel
set_option maxRecDepth 65536 in
theorem w_ripe : about1.ripe theMethod args0 below0 = true := by decide +kernel
theorem w_running : about1.status = .running := rfl
set_option maxRecDepth 65536 in
theorem w_room : about1.hasRoom e0.platform room_1 = true :=
  launch0.hasRoom_least _ room_1 (by decide +kernel) (by decide +kernel) (by decide +kernel) (by decide +kernel) (by decide +kernel) (by decide +kernel)
theorem allAtoms_all (ts : List Jvm.Cond) (a : Array Jvm.Value) (st : Jvm.State) : (allAtoms ts).before a st = ts.all (fun c => c.before a st) := by
  induction ts with
  | nil => rfl
  | cons c t ih =>
    show (Jvm.Cond.and c (allAtoms t)).before a st = _
    rw [Jvm.Cond.before_and, ih, List.all_cons]
def words1 : List Jvm.Cond := Jvm.Cond.code x code maxLocals ret :: tables_1
/-- a 'code' word, met by the world's own term for the bytes: nothing is compared byte by byte -/
theorem code_word {y : MethodName} {bytes : ByteArray} {mx : Nat} {rt : Option FieldType} {a : Array Value} {s : State} {m : MethodId} {meth : Method} {c : Code} (h1 : s.methodNamed? y = some m) (h2 : s.vm.method? m = some meth) (h3 : meth.code = some c) (h4 : c.code = bytes)
    (h5 : (c.maxLocals == mx && c.exceptionTable.isEmpty && decide (c.maxStack ≤ mostOperands) && decide (meth.sig.returnType = rt) && !meth.locks && decide (parseMethodDescriptor y.desc = some meth.sig)) = true) : (Jvm.Cond.code y bytes mx rt).before a s = true := by
  simp only [Bool.and_eq_true, beq_iff_eq, Bool.not_eq_true', decide_eq_true_eq] at h5
  obtain ⟨⟨⟨⟨⟨g1, g2⟩, g3⟩, g4⟩, g5⟩, g6⟩ := h5
  simp [Cond.before, Cond.holds, Cond.value, h1, h2, h3, h4, g1, g2, g3, g4, g5, g6]
def isCode : Jvm.Cond → Bool
  | .code _ _ _ _ => true
  | _ => false
theorem all_split {L : List Jvm.Cond} {P : Jvm.Cond → Bool} (h1 : L.all (fun c => isCode c || P c) = true) (h2 : ∀ c ∈ L.filter isCode, P c = true) : L.all P = true := by
  refine List.all_eq_true.mpr fun c hc => ?_
  have h := List.all_eq_true.mp h1 c hc
  rcases Bool.eq_false_or_eq_true (isCode c) with hi | hi
  · exact h2 c (List.mem_filter.mpr ⟨hc, hi⟩)
  · simpa [hi] using h
set_option maxRecDepth 65536 in
theorem w_c0 : (Jvm.Cond.code x code maxLocals ret).before args0 about1 = true := code_word (m := ⟨1, 1⟩) (meth := k1m1) (c := k1c1) (by decide +kernel) rfl rfl rfl (by decide +kernel)
set_option maxRecDepth 65536 in
theorem w_c1 : (Jvm.Cond.code ({ cls := "java/lang/String", name := "valueOf", desc := "(C)Ljava/lang/String;" } : Jvm.MethodName) jdk_42_method_139_code (1 : Nat) (Option.some (Jvm.ClassFile.FieldType.object "java/lang/String"))).before args0 about1 = true := code_word (m := ⟨7, 2⟩) (meth := k7m2) (c := k7c2) (by decide +kernel) rfl rfl rfl (by decide +kernel)
set_option maxRecDepth 65536 in
theorem w_c2 : (Jvm.Cond.code ({ cls := "java/lang/StringLatin1", name := "canEncode", desc := "(C)Z" } : Jvm.MethodName) jdk_43_method_3_code (1 : Nat) (Option.some Jvm.ClassFile.FieldType.boolean)).before args0 about1 = true := code_word (m := ⟨8, 1⟩) (meth := k8m1) (c := k8c1) (by decide +kernel) rfl rfl rfl (by decide +kernel)
set_option maxRecDepth 65536 in
theorem w_c3 : (Jvm.Cond.code ({ cls := "java/lang/StringLatin1", name := "toBytes", desc := "(C)[B" } : Jvm.MethodName) jdk_43_method_46_code (1 : Nat) (Option.some (Jvm.ClassFile.FieldType.array Jvm.ClassFile.FieldType.byte))).before args0 about1 = true := code_word (m := ⟨8, 2⟩) (meth := k8m2) (c := k8c2) (by decide +kernel) rfl rfl rfl (by decide +kernel)
set_option maxRecDepth 65536 in
theorem w_c4 : (Jvm.Cond.code ({ cls := "java/lang/String", name := "<init>", desc := "([BB)V" } : Jvm.MethodName) jdk_42_method_151_code (3 : Nat) (Option.none : Option Jvm.ClassFile.FieldType)).before args0 about1 = true := code_word (m := ⟨7, 4⟩) (meth := k7m4) (c := k7c4) (by decide +kernel) rfl rfl rfl (by decide +kernel)
set_option maxRecDepth 65536 in
theorem w_c5 : (Jvm.Cond.code ({ cls := "java/lang/Object", name := "<init>", desc := "()V" } : Jvm.MethodName) object_method_1_code (1 : Nat) (Option.none : Option Jvm.ClassFile.FieldType)).before args0 about1 = true := code_word (m := ⟨0, 0⟩) (meth := k0m0) (c := k0c0) (by decide +kernel) rfl rfl rfl (by decide +kernel)
set_option maxRecDepth 65536 in
theorem w_c6 : (Jvm.Cond.code ({ cls := "com/example/object_grants/objectgrants/accesslist/Recipient", name := "authority", desc := "(Ljava/lang/String;)Lcom/example/object_grants/objectgrants/accesslist/Recipient;" } : Jvm.MethodName) prog_18_method_3_code (1 : Nat) (Option.some (Jvm.ClassFile.FieldType.object "com/example/object_grants/objectgrants/accesslist/Recipient"))).before args0 about1 = true := code_word (m := ⟨10, 2⟩) (meth := k10m2) (c := k10c2) (by decide +kernel) rfl rfl rfl (by decide +kernel)
set_option maxRecDepth 65536 in
theorem w_c7 : (Jvm.Cond.code ({ cls := "com/example/object_grants/objectgrants/accesslist/Recipient", name := "<init>", desc := "(Lcom/example/object_grants/objectgrants/accesslist/Recipient$Kind;Ljava/lang/String;)V" } : Jvm.MethodName) prog_18_method_1_code (3 : Nat) (Option.none : Option Jvm.ClassFile.FieldType)).before args0 about1 = true := code_word (m := ⟨10, 0⟩) (meth := k10m0) (c := k10c0) (by decide +kernel) rfl rfl rfl (by decide +kernel)
set_option maxRecDepth 65536 in
theorem w_c8 : (Jvm.Cond.code ({ cls := "java/lang/Record", name := "<init>", desc := "()V" } : Jvm.MethodName) jdk_30_method_1_code (1 : Nat) (Option.none : Option Jvm.ClassFile.FieldType)).before args0 about1 = true := code_word (m := ⟨9, 0⟩) (meth := k9m0) (c := k9c0) (by decide +kernel) rfl rfl rfl (by decide +kernel)
set_option maxRecDepth 65536 in
theorem w_c9 : (Jvm.Cond.code ({ cls := "java/util/Objects", name := "requireNonNull", desc := "(Ljava/lang/Object;Ljava/lang/String;)Ljava/lang/Object;" } : Jvm.MethodName) jdk_31_method_11_code (2 : Nat) (Option.some (Jvm.ClassFile.FieldType.object "java/lang/Object"))).before args0 about1 = true := code_word (m := ⟨13, 1⟩) (meth := k13m1) (c := k13c1) (by decide +kernel) rfl rfl rfl (by decide +kernel)
set_option maxRecDepth 65536 in
theorem w_c10 : (Jvm.Cond.code ({ cls := "com/example/object_grants/objectgrants/field/GroupGrant", name := "of", desc := "(Lcom/example/object_grants/objectgrants/accesslist/Recipient;Lcom/example/object_grants/objectgrants/field/Access;)Lcom/example/object_grants/objectgrants/field/GroupGrant;" } : Jvm.MethodName) prog_30_method_2_code (2 : Nat) (Option.some (Jvm.ClassFile.FieldType.object "com/example/object_grants/objectgrants/field/GroupGrant"))).before args0 about1 = true := code_word (m := ⟨15, 1⟩) (meth := k15m1) (c := k15c1) (by decide +kernel) rfl rfl rfl (by decide +kernel)
set_option maxRecDepth 65536 in
theorem w_c11 : (Jvm.Cond.code ({ cls := "java/util/Optional", name := "empty", desc := "()Ljava/util/Optional;" } : Jvm.MethodName) jdk_32_method_1_code (1 : Nat) (Option.some (Jvm.ClassFile.FieldType.object "java/util/Optional"))).before args0 about1 = true := code_word (m := ⟨16, 0⟩) (meth := k16m0) (c := k16c0) (by decide +kernel) rfl rfl rfl (by decide +kernel)
set_option maxRecDepth 65536 in
theorem w_c12 : (Jvm.Cond.code ({ cls := "com/example/object_grants/objectgrants/field/GroupGrant", name := "<init>", desc := "(Lcom/example/object_grants/objectgrants/accesslist/Recipient;Lcom/example/object_grants/objectgrants/field/Access;Ljava/util/Optional;Z)V" } : Jvm.MethodName) prog_30_method_1_code (5 : Nat) (Option.none : Option Jvm.ClassFile.FieldType)).before args0 about1 = true := code_word (m := ⟨15, 0⟩) (meth := k15m0) (c := k15c0) (by decide +kernel) rfl rfl rfl (by decide +kernel)
set_option maxRecDepth 65536 in
theorem w_c13 : (Jvm.Cond.code ({ cls := "com/example/object_grants/objectgrants/field/GroupGrant", name := "recipient", desc := "()Lcom/example/object_grants/objectgrants/accesslist/Recipient;" } : Jvm.MethodName) prog_30_method_8_code (1 : Nat) (Option.some (Jvm.ClassFile.FieldType.object "com/example/object_grants/objectgrants/accesslist/Recipient"))).before args0 about1 = true := code_word (m := ⟨15, 2⟩) (meth := k15m2) (c := k15c2) (by decide +kernel) rfl rfl rfl (by decide +kernel)
set_option maxRecDepth 65536 in
theorem w_c14 : (Jvm.Cond.code ({ cls := "com/example/object_grants/objectgrants/field/GroupGrant", name := "access", desc := "()Lcom/example/object_grants/objectgrants/field/Access;" } : Jvm.MethodName) prog_30_method_9_code (1 : Nat) (Option.some (Jvm.ClassFile.FieldType.object "com/example/object_grants/objectgrants/field/Access"))).before args0 about1 = true := code_word (m := ⟨15, 3⟩) (meth := k15m3) (c := k15c3) (by decide +kernel) rfl rfl rfl (by decide +kernel)
set_option maxRecDepth 65536 in
theorem w_c15 : (Jvm.Cond.code ({ cls := "com/example/object_grants/objectgrants/field/GroupGrant", name := "items", desc := "()Ljava/util/Optional;" } : Jvm.MethodName) prog_30_method_10_code (1 : Nat) (Option.some (Jvm.ClassFile.FieldType.object "java/util/Optional"))).before args0 about1 = true := code_word (m := ⟨15, 4⟩) (meth := k15m4) (c := k15c4) (by decide +kernel) rfl rfl rfl (by decide +kernel)
set_option maxRecDepth 65536 in
theorem w_c16 : (Jvm.Cond.code ({ cls := "java/util/Optional", name := "isEmpty", desc := "()Z" } : Jvm.MethodName) jdk_32_method_7_code (1 : Nat) (Option.some Jvm.ClassFile.FieldType.boolean)).before args0 about1 = true := code_word (m := ⟨16, 1⟩) (meth := k16m1) (c := k16c1) (by decide +kernel) rfl rfl rfl (by decide +kernel)
set_option maxRecDepth 65536 in
theorem w_c17 : (Jvm.Cond.code ({ cls := "com/example/object_grants/objectgrants/field/GroupGrant", name := "combinedByOr", desc := "()Z" } : Jvm.MethodName) prog_30_method_11_code (1 : Nat) (Option.some Jvm.ClassFile.FieldType.boolean)).before args0 about1 = true := code_word (m := ⟨15, 5⟩) (meth := k15m5) (c := k15c5) (by decide +kernel) rfl rfl rfl (by decide +kernel)
set_option maxRecDepth 65536 in
theorem w_c18 : (Jvm.Cond.code ({ cls := "com/example/object_grants/objectgrants/accesslist/Recipient", name := "principal", desc := "(Ljava/lang/String;)Lcom/example/object_grants/objectgrants/accesslist/Recipient;" } : Jvm.MethodName) prog_18_method_2_code (1 : Nat) (Option.some (Jvm.ClassFile.FieldType.object "com/example/object_grants/objectgrants/accesslist/Recipient"))).before args0 about1 = true := code_word (m := ⟨10, 1⟩) (meth := k10m1) (c := k10c1) (by decide +kernel) rfl rfl rfl (by decide +kernel)
set_option maxRecDepth 65536 in
theorem w_c19 : (Jvm.Cond.code ({ cls := "java/lang/String", name := "<init>", desc := "([C)V" } : Jvm.MethodName) jdk_42_method_3_code (2 : Nat) (Option.none : Option Jvm.ClassFile.FieldType)).before args0 about1 = true := code_word (m := ⟨7, 1⟩) (meth := k7m1) (c := k7c1) (by decide +kernel) rfl rfl rfl (by decide +kernel)
set_option maxRecDepth 65536 in
theorem w_c20 : (Jvm.Cond.code ({ cls := "java/lang/String", name := "<init>", desc := "([CIILjava/lang/Void;)V" } : Jvm.MethodName) jdk_42_method_149_code (6 : Nat) (Option.none : Option Jvm.ClassFile.FieldType)).before args0 about1 = true := code_word (m := ⟨7, 3⟩) (meth := k7m3) (c := k7c3) (by decide +kernel) rfl rfl rfl (by decide +kernel)
set_option maxRecDepth 65536 in
theorem w_c21 : (Jvm.Cond.code ({ cls := "java/lang/StringUTF16", name := "compress", desc := "([CII)[B" } : Jvm.MethodName) jdk_52_method_16_code (6 : Nat) (Option.some (Jvm.ClassFile.FieldType.array Jvm.ClassFile.FieldType.byte))).before args0 about1 = true := code_word (m := ⟨17, 2⟩) (meth := k17m2) (c := k17c2) (by decide +kernel) rfl rfl rfl (by decide +kernel)
set_option maxRecDepth 65536 in
theorem w_c22 : (Jvm.Cond.code ({ cls := "java/lang/StringUTF16", name := "compress", desc := "([CI[BII)I" } : Jvm.MethodName) jdk_52_method_21_code (7 : Nat) (Option.some Jvm.ClassFile.FieldType.int)).before args0 about1 = true := code_word (m := ⟨17, 3⟩) (meth := k17m3) (c := k17c3) (by decide +kernel) rfl rfl rfl (by decide +kernel)
set_option maxRecDepth 65536 in
theorem w_c23 : (Jvm.Cond.code ({ cls := "java/lang/StringUTF16", name := "coderFromArrayLen", desc := "([BI)B" } : Jvm.MethodName) jdk_52_method_15_code (2 : Nat) (Option.some Jvm.ClassFile.FieldType.byte)).before args0 about1 = true := code_word (m := ⟨17, 1⟩) (meth := k17m1) (c := k17c1) (by decide +kernel) rfl rfl rfl (by decide +kernel)
def codes1 : List Jvm.Cond := [Jvm.Cond.code x code maxLocals ret, Jvm.Cond.code ({ cls := "java/lang/String", name := "valueOf", desc := "(C)Ljava/lang/String;" } : Jvm.MethodName) jdk_42_method_139_code (1 : Nat) (Option.some (Jvm.ClassFile.FieldType.object "java/lang/String")), Jvm.Cond.code ({ cls := "java/lang/StringLatin1", name := "canEncode", desc := "(C)Z" } : Jvm.MethodName) jdk_43_method_3_code (1 : Nat) (Option.some Jvm.ClassFile.FieldType.boolean), Jvm.Cond.code ({ cls := "java/lang/StringLatin1", name := "toBytes", desc := "(C)[B" } : Jvm.MethodName) jdk_43_method_46_code (1 : Nat) (Option.some (Jvm.ClassFile.FieldType.array Jvm.ClassFile.FieldType.byte)), Jvm.Cond.code ({ cls := "java/lang/String", name := "<init>", desc := "([BB)V" } : Jvm.MethodName) jdk_42_method_151_code (3 : Nat) (Option.none : Option Jvm.ClassFile.FieldType), Jvm.Cond.code ({ cls := "java/lang/Object", name := "<init>", desc := "()V" } : Jvm.MethodName) object_method_1_code (1 : Nat) (Option.none : Option Jvm.ClassFile.FieldType), Jvm.Cond.code ({ cls := "com/example/object_grants/objectgrants/accesslist/Recipient", name := "authority", desc := "(Ljava/lang/String;)Lcom/example/object_grants/objectgrants/accesslist/Recipient;" } : Jvm.MethodName) prog_18_method_3_code (1 : Nat) (Option.some (Jvm.ClassFile.FieldType.object "com/example/object_grants/objectgrants/accesslist/Recipient")), Jvm.Cond.code ({ cls := "com/example/object_grants/objectgrants/accesslist/Recipient", name := "<init>", desc := "(Lcom/example/object_grants/objectgrants/accesslist/Recipient$Kind;Ljava/lang/String;)V" } : Jvm.MethodName) prog_18_method_1_code (3 : Nat) (Option.none : Option Jvm.ClassFile.FieldType), Jvm.Cond.code ({ cls := "java/lang/Record", name := "<init>", desc := "()V" } : Jvm.MethodName) jdk_30_method_1_code (1 : Nat) (Option.none : Option Jvm.ClassFile.FieldType), Jvm.Cond.code ({ cls := "java/util/Objects", name := "requireNonNull", desc := "(Ljava/lang/Object;Ljava/lang/String;)Ljava/lang/Object;" } : Jvm.MethodName) jdk_31_method_11_code (2 : Nat) (Option.some (Jvm.ClassFile.FieldType.object "java/lang/Object")), Jvm.Cond.code ({ cls := "com/example/object_grants/objectgrants/field/GroupGrant", name := "of", desc := "(Lcom/example/object_grants/objectgrants/accesslist/Recipient;Lcom/example/object_grants/objectgrants/field/Access;)Lcom/example/object_grants/objectgrants/field/GroupGrant;" } : Jvm.MethodName) prog_30_method_2_code (2 : Nat) (Option.some (Jvm.ClassFile.FieldType.object "com/example/object_grants/objectgrants/field/GroupGrant")), Jvm.Cond.code ({ cls := "java/util/Optional", name := "empty", desc := "()Ljava/util/Optional;" } : Jvm.MethodName) jdk_32_method_1_code (1 : Nat) (Option.some (Jvm.ClassFile.FieldType.object "java/util/Optional")), Jvm.Cond.code ({ cls := "com/example/object_grants/objectgrants/field/GroupGrant", name := "<init>", desc := "(Lcom/example/object_grants/objectgrants/accesslist/Recipient;Lcom/example/object_grants/objectgrants/field/Access;Ljava/util/Optional;Z)V" } : Jvm.MethodName) prog_30_method_1_code (5 : Nat) (Option.none : Option Jvm.ClassFile.FieldType), Jvm.Cond.code ({ cls := "com/example/object_grants/objectgrants/field/GroupGrant", name := "recipient", desc := "()Lcom/example/object_grants/objectgrants/accesslist/Recipient;" } : Jvm.MethodName) prog_30_method_8_code (1 : Nat) (Option.some (Jvm.ClassFile.FieldType.object "com/example/object_grants/objectgrants/accesslist/Recipient")), Jvm.Cond.code ({ cls := "com/example/object_grants/objectgrants/field/GroupGrant", name := "access", desc := "()Lcom/example/object_grants/objectgrants/field/Access;" } : Jvm.MethodName) prog_30_method_9_code (1 : Nat) (Option.some (Jvm.ClassFile.FieldType.object "com/example/object_grants/objectgrants/field/Access")), Jvm.Cond.code ({ cls := "com/example/object_grants/objectgrants/field/GroupGrant", name := "items", desc := "()Ljava/util/Optional;" } : Jvm.MethodName) prog_30_method_10_code (1 : Nat) (Option.some (Jvm.ClassFile.FieldType.object "java/util/Optional")), Jvm.Cond.code ({ cls := "java/util/Optional", name := "isEmpty", desc := "()Z" } : Jvm.MethodName) jdk_32_method_7_code (1 : Nat) (Option.some Jvm.ClassFile.FieldType.boolean), Jvm.Cond.code ({ cls := "com/example/object_grants/objectgrants/field/GroupGrant", name := "combinedByOr", desc := "()Z" } : Jvm.MethodName) prog_30_method_11_code (1 : Nat) (Option.some Jvm.ClassFile.FieldType.boolean), Jvm.Cond.code ({ cls := "com/example/object_grants/objectgrants/accesslist/Recipient", name := "principal", desc := "(Ljava/lang/String;)Lcom/example/object_grants/objectgrants/accesslist/Recipient;" } : Jvm.MethodName) prog_18_method_2_code (1 : Nat) (Option.some (Jvm.ClassFile.FieldType.object "com/example/object_grants/objectgrants/accesslist/Recipient")), Jvm.Cond.code ({ cls := "java/lang/String", name := "<init>", desc := "([C)V" } : Jvm.MethodName) jdk_42_method_3_code (2 : Nat) (Option.none : Option Jvm.ClassFile.FieldType), Jvm.Cond.code ({ cls := "java/lang/String", name := "<init>", desc := "([CIILjava/lang/Void;)V" } : Jvm.MethodName) jdk_42_method_149_code (6 : Nat) (Option.none : Option Jvm.ClassFile.FieldType), Jvm.Cond.code ({ cls := "java/lang/StringUTF16", name := "compress", desc := "([CII)[B" } : Jvm.MethodName) jdk_52_method_16_code (6 : Nat) (Option.some (Jvm.ClassFile.FieldType.array Jvm.ClassFile.FieldType.byte)), Jvm.Cond.code ({ cls := "java/lang/StringUTF16", name := "compress", desc := "([CI[BII)I" } : Jvm.MethodName) jdk_52_method_21_code (7 : Nat) (Option.some Jvm.ClassFile.FieldType.int), Jvm.Cond.code ({ cls := "java/lang/StringUTF16", name := "coderFromArrayLen", desc := "([BI)B" } : Jvm.MethodName) jdk_52_method_15_code (2 : Nat) (Option.some Jvm.ClassFile.FieldType.byte)]
set_option maxRecDepth 65536 in
theorem codes_eq : words1.filter isCode = codes1 := rfl
theorem w_codes : ∀ c ∈ words1.filter isCode, c.before args0 about1 = true := by
  rw [codes_eq]
  intro c hc
  simp only [codes1, List.mem_cons, List.not_mem_nil, or_false] at hc
  rcases hc with rfl | rfl | rfl | rfl | rfl | rfl | rfl | rfl | rfl | rfl | rfl | rfl | rfl | rfl | rfl | rfl | rfl | rfl | rfl | rfl | rfl | rfl | rfl | rfl
  · exact w_c0
  · exact w_c1
  · exact w_c2
  · exact w_c3
  · exact w_c4
  · exact w_c5
  · exact w_c6
  · exact w_c7
  · exact w_c8
  · exact w_c9
  · exact w_c10
  · exact w_c11
  · exact w_c12
  · exact w_c13
  · exact w_c14
  · exact w_c15
  · exact w_c16
  · exact w_c17
  · exact w_c18
  · exact w_c19
  · exact w_c20
  · exact w_c21
  · exact w_c22
  · exact w_c23
set_option maxRecDepth 65536 in
theorem w_t1 : (words1.take 24).all (fun c => isCode c || c.before args0 about1) = true := by decide +kernel
set_option maxRecDepth 65536 in
theorem w_t2 : ((words1.drop 24).take 24).all (fun c => isCode c || c.before args0 about1) = true := by decide +kernel
set_option maxRecDepth 65536 in
theorem w_t3 : (((words1.drop 24).drop 24).take 24).all (fun c => isCode c || c.before args0 about1) = true := by decide +kernel
set_option maxRecDepth 65536 in
theorem w_t4 : ((((words1.drop 24).drop 24).drop 24).take 24).all (fun c => isCode c || c.before args0 about1) = true := by decide +kernel
set_option maxRecDepth 65536 in
theorem w_t5 : (((((words1.drop 24).drop 24).drop 24).drop 24).take 24).all (fun c => isCode c || c.before args0 about1) = true := by decide +kernel
set_option maxRecDepth 65536 in
theorem w_t6 : (((((words1.drop 24).drop 24).drop 24).drop 24).drop 24).all (fun c => isCode c || c.before args0 about1) = true := by decide +kernel
theorem w_tables : (allAtoms (Jvm.Cond.code x code maxLocals ret :: tables_1)).before args0 about1 = true := by
  rw [allAtoms_all]
  show words1.all (fun c => c.before args0 about1) = true
  refine all_split ?_ w_codes
  rw [← List.take_append_drop 24 words1, List.all_append, w_t1, ← List.take_append_drop 24 (words1.drop 24), List.all_append, w_t2, ← List.take_append_drop 24 ((words1.drop 24).drop 24), List.all_append, w_t3, ← List.take_append_drop 24 (((words1.drop 24).drop 24).drop 24), List.all_append, w_t4, ← List.take_append_drop 24 ((((words1.drop 24).drop 24).drop 24).drop 24), List.all_append, w_t5, w_t6]
  rfl
set_option maxRecDepth 65536 in
theorem w_rest : rest_1_c.before args0 about1 = true := by decide +kernel
set_option maxRecDepth 65536 in
theorem w_case : (Jvm.Cond.and given_1 narrow_1).before args0 about1 = true := by decide +kernel
theorem w_applies : (headSpec (Jvm.Cond.code x code maxLocals ret :: tables_1) room_1).applies x e0.platform about1 = true :=
  (Spec.applies_iff w_frames).mpr ⟨w_running, w_runnable, w_alone, w_named, w_hears, w_ripe, w_room, w_tables⟩
theorem atStart : AtStart classFile x code maxLocals ret World_1 tables_1 room_1 Calls_1 rest_1 Pre_1 launch0 p0 e0 about1 theMethod args0 below0 :=
  ⟨lists_1, trivial, launch0.admits_env _ _ _, launch0.least_env, fairChoices_fair.cas, fairChoices_fair.clock, w_frames, w_args, w_heap, w_applies, trivial, w_rest, w_case⟩
end start1
theorem witness_1 : WitnessClaimed_1 := ⟨start1.p0, start1.e0, start1.about1, start1.theMethod, start1.args0, start1.below0, start1.atStart⟩
end Jvm.Pilot.@@N@@
